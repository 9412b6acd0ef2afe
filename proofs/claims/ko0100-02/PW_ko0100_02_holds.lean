import PyProof.Rows.All
import Wide.All
import OpenK.AllK
import Wide.FinOn
import Open.Tops
import PySem.Challenge.RW_ko0100_02
open PySem PySem.W PyProof.Rows
set_option Elab.async false
section
open PySem PySem.W PyProof.Rows
namespace Mine
open PySem PySem.W PyProof.Rows

section
variable {p : Program} {w : World} {n₀ : Nat} {ann : Option Value} {c : Code} {q : Pos}

theorem segGo_add {tb : String → Option Builtin} {b : Nat} : ∀ {n m : Nat} {s s' s'' : Shared} {t t' t'' : Thread}, segGo tb p w n₀ ann b n s t = some (s', t') → segGo tb p w n₀ ann b m s' t' = some (s'', t'') →
    segGo tb p w n₀ ann b (n + m) s t = some (s'', t'')
  | 0, m, s, s', s'', t, t', t'', h, k => by
    obtain ⟨rfl, rfl⟩ : s = s' ∧ t = t' := by simpa [segGo] using h
    rw [Nat.zero_add]; exact k
  | n + 1, m, s, s', s'', t, t', t'', h, k => by
    rw [show n + 1 + m = n + m + 1 by omega]
    unfold segGo at h ⊢
    cases he : endAt b t with
    | some f => rw [he] at h; cases h
    | none =>
      rw [he] at h
      cases hk : stepOk n₀ ann t with
      | false => rw [hk] at h; cases h
      | true =>
        rw [hk] at h
        cases hs : step (denote tb) p w s t with
        | halt o s₂ => rw [hs] at h; cases h
        | go s₂ t₂ => rw [hs] at h; exact segGo_add h k

theorem segGo_one {tb : String → Option Builtin} {b : Nat} {s s' : Shared} {t t' : Thread} (h1 : endAt b t = none) (h2 : stepOk n₀ ann t = true) (h3 : step (denote tb) p w s t = .go s' t') :
    segGo tb p w n₀ ann b 1 s t = some (s', t') := by
  unfold segGo
  rw [h1, h2, h3]
  rfl

/-- a tree that runs by itself, at the top's frame -/
def Ev (p : Program) (w : World) (n₀ : Nat) (ann : Option Value) (c : Code) (q : Pos) (b : Nat) {α : Type} (x : Sem α) (s : Shared) (pos : Pos) (a : α) (s' : Shared) (pos' : Pos) : Prop :=
  ∀ (K : α → Sem Fin) (H : Value → Sem Fin) (gd : Bool → Bool) (lv : List Value → List Value),
    ∃ n, n ≤ b ∧ segGo treeTable p w n₀ ann 1 n s ⟨x.wrap K H gd lv, c, pos, [topFrame q]⟩ = some (s', ⟨K a, c, pos', [topFrame q]⟩)

variable {α β : Type} {i j : Nat} {s s₁ s₂ : Shared} {pos p₁ p₂ : Pos}

theorem Ev.le {x : Sem α} {a : α} (h : Ev p w n₀ ann c q i x s pos a s₁ p₁) (hb : i ≤ j) : Ev p w n₀ ann c q j x s pos a s₁ p₁ := fun K H gd lv => by
  obtain ⟨n, hn, h'⟩ := h K H gd lv
  exact ⟨n, Nat.le_trans hn hb, h'⟩
theorem Ev.pure {a : α} : Ev p w n₀ ann c q 0 (Sem.pure a) s pos a s pos := fun _ _ _ _ => ⟨0, Nat.le_refl _, rfl⟩
theorem Ev.pure' {a : α} : Ev p w n₀ ann c q 0 (Pure.pure a : Sem α) s pos a s pos := fun _ _ _ _ => ⟨0, Nat.le_refl _, rfl⟩
theorem Ev.wrap {x : Sem α} {f : α → Sem β} {H : Value → Sem β} {gd : Bool → Bool} {lv : List Value → List Value} {a : α} {b : β} (h : Ev p w n₀ ann c q i x s pos a s₁ p₁) (k : Ev p w n₀ ann c q j (f a) s₁ p₁ b s₂ p₂) :
    Ev p w n₀ ann c q (i + j) (x.wrap f H gd lv) s pos b s₂ p₂ := fun K H' gd' lv' => by
  obtain ⟨m, lm, hm⟩ := k K H' gd' lv'
  obtain ⟨n, ln, hn⟩ := h (fun a => (f a).wrap K H' gd' lv') (fun e => (H e).wrap K H' gd' lv') (fun g => gd' (gd g)) (fun l => lv' (lv l))
  rw [Sem.wrap_wrap]
  exact ⟨n + m, Nat.add_le_add ln lm, segGo_add hn hm⟩
theorem Ev.bind {x : Sem α} {f : α → Sem β} {a : α} {b : β} (h : Ev p w n₀ ann c q i x s pos a s₁ p₁) (k : Ev p w n₀ ann c q j (f a) s₁ p₁ b s₂ p₂) :
    Ev p w n₀ ann c q (i + j) (x >>= f) s pos b s₂ p₂ := by
  rw [Sem.bind_eq_wrap']
  exact h.wrap k
theorem Ev.seq {b : Nat} {x : Sem α} {f : α → Sem β} {a : α} {v : β} (h : Ev p w n₀ ann c q i x s pos a s₁ p₁) (k : Ev p w n₀ ann c q (b - i) (f a) s₁ p₁ v s₂ p₂) (hb : i ≤ b := by omega) :
    Ev p w n₀ ann c q b (x >>= f) s pos v s₂ p₂ := (h.bind k).le (by omega)
theorem Ev.done {b : Nat} {a : α} : Ev p w n₀ ann c q b (Pure.pure a : Sem α) s pos a s pos := Ev.pure'.le (Nat.zero_le _)
theorem Ev.map {x : Sem α} {f : α → β} {a : α} (h : Ev p w n₀ ann c q i x s pos a s₁ p₁) : Ev p w n₀ ann c q i (f <$> x) s pos (f a) s₁ p₁ := h.bind (f := fun a => Sem.pure (f a)) .pure
theorem Ev.keep {x : Sem α} {vs : List Value} {a : α} (h : Ev p w n₀ ann c q i x s pos a s₁ p₁) : Ev p w n₀ ann c q i (x.keep vs) s pos a s₁ p₁ := by
  rw [Sem.keep_eq_wrap]
  exact h.wrap .pure
theorem Ev.holding {x : Sem α} {vs : List Value} {a : α} (h : Ev p w n₀ ann c q i x s pos a s₁ p₁) : Ev p w n₀ ann c q i (holding vs x) s pos a s₁ p₁ := by
  unfold PySem.holding
  split
  · exact h
  · exact h.keep
theorem Ev.tryCatch {x : Sem α} {h' : Value → Sem α} {a : α} (h : Ev p w n₀ ann c q i x s pos a s₁ p₁) : Ev p w n₀ ann c q i (x.tryCatch h') s pos a s₁ p₁ := by
  rw [Sem.tryCatch_eq_wrap]
  exact h.wrap .pure
theorem Ev.onRaise {x : Sem α} {h' : Value → Sem Unit} {a : α} (h : Ev p w n₀ ann c q i x s pos a s₁ p₁) : Ev p w n₀ ann c q i (x.onRaise h') s pos a s₁ p₁ := by
  rw [Sem.onRaise_eq_wrap]
  exact h.wrap .pure

theorem endAt_none {cur : Sem Fin} {b : Nat} {st : List Frame} (h : ∀ f, cur ≠ .pure f) : endAt b ⟨cur, c, pos, st⟩ = none := by
  unfold endAt
  cases st.length == b <;> cases cur <;> first | rfl | exact absurd rfl (h _)

theorem Ev.rule {tag : String} {k : Unit → Sem α} {a : α} (h : Ev p w n₀ ann c q i (k ()) s pos a s₁ p₁) : Ev p w n₀ ann c q (1 + i) (.rule tag k) s pos a s₁ p₁ := fun K H gd lv => by
  obtain ⟨n, ln, hn⟩ := h K H gd lv
  exact ⟨1 + n, Nat.add_le_add_left ln 1, segGo_add (segGo_one (endAt_none (fun f e => by cases e)) rfl rfl) hn⟩
theorem Ev.at {pp : Pos} {k : Unit → Sem α} {a : α} (h : Ev p w n₀ ann c q i (k ()) s pp a s₁ p₁) : Ev p w n₀ ann c q (1 + i) (.at pp k) s pos a s₁ p₁ := fun K H gd lv => by
  obtain ⟨n, ln, hn⟩ := h K H gd lv
  exact ⟨1 + n, Nat.add_le_add_left ln 1, segGo_add (segGo_one (endAt_none (fun f e => by cases e)) rfl rfl) hn⟩
theorem Ev.point {l : List Value} {k : Unit → Sem α} {a : α} (h : Ev p w n₀ ann c q i (k ()) s pos a s₁ p₁) : Ev p w n₀ ann c q (1 + i) (.point l k) s pos a s₁ p₁ := fun K H gd lv => by
  obtain ⟨n, ln, hn⟩ := h K H gd lv
  exact ⟨1 + n, Nat.add_le_add_left ln 1, segGo_add (segGo_one (endAt_none (fun f e => by cases e)) rfl rfl) hn⟩
theorem Ev.ask {k : Setting → Sem α} {a : α} (h : Ev p w n₀ ann c q i (k ⟨p, w.params⟩) s pos a s₁ p₁) : Ev p w n₀ ann c q (1 + i) (.ask k) s pos a s₁ p₁ := fun K H gd lv => by
  obtain ⟨n, ln, hn⟩ := h K H gd lv
  exact ⟨1 + n, Nat.add_le_add_left ln 1, segGo_add (segGo_one (endAt_none (fun f e => by cases e)) rfl rfl) hn⟩
theorem Ev.fresh {k : Tok → Sem α} {a : α} (h : Ev p w n₀ ann c q i (k s.toks) { s with toks := s.toks + 1 } pos a s₁ p₁) : Ev p w n₀ ann c q (1 + i) (.fresh k) s pos a s₁ p₁ := fun K H gd lv => by
  obtain ⟨n, ln, hn⟩ := h K H gd lv
  exact ⟨1 + n, Nat.add_le_add_left ln 1, segGo_add (segGo_one (endAt_none (fun f e => by cases e)) rfl rfl) hn⟩
theorem Ev.alloc {o : Obj} {k : Addr → Sem α} {a : α} (h : Ev p w n₀ ann c q i (k s.heap.objs.size) { s with heap := s.heap.push o } pos a s₁ p₁) : Ev p w n₀ ann c q (1 + i) (.alloc o k) s pos a s₁ p₁ := fun K H gd lv => by
  obtain ⟨n, ln, hn⟩ := h K H gd lv
  exact ⟨1 + n, Nat.add_le_add_left ln 1, segGo_add (segGo_one (endAt_none (fun f e => by cases e)) rfl rfl) hn⟩
theorem Ev.load {b : Addr} {part : Option Value} {o : Obj} {k : Obj → Sem α} {a : α} (ho : s.heap.get? b = some o) (h : Ev p w n₀ ann c q i (k o) s pos a s₁ p₁) : Ev p w n₀ ann c q (1 + i) (.load b part k) s pos a s₁ p₁ := fun K H gd lv => by
  obtain ⟨n, ln, hn⟩ := h K H gd lv
  refine ⟨1 + n, Nat.add_le_add_left ln 1, segGo_add (segGo_one (endAt_none (fun f e => by cases e)) rfl ?_) hn⟩
  obtain ⟨heap, gens, drawn, toks, os⟩ := s
  have ho' : heap.get? b = some o := ho
  simp only [Sem.wrap, step, ho']
theorem Ev.update {b : Addr} {part : Option Value} {o : Obj} {f : Obj → Obj} {k : Unit → Sem α} {a : α} (ho : s.heap.get? b = some o) (hb : Nat.ble n₀ b = true) (h : Ev p w n₀ ann c q i (k ()) { s with heap := s.heap.update b f } pos a s₁ p₁) :
    Ev p w n₀ ann c q (1 + i) (.update b part f k) s pos a s₁ p₁ := fun K H gd lv => by
  obtain ⟨n, ln, hn⟩ := h K H gd lv
  refine ⟨1 + n, Nat.add_le_add_left ln 1, segGo_add (segGo_one (endAt_none (fun f e => by cases e)) ?_ ?_) hn⟩
  · show (Thread.calm _ && (Nat.ble n₀ b || _ || _ || _)) = true
    rw [hb]; rfl
  · obtain ⟨heap, gens, drawn, toks, os⟩ := s
    have ho' : heap.get? b = some o := ho
    simp only [Sem.wrap, step, ho', Option.isSome_some, if_true]

/-- the hash of a text: a call of a builtin, by the kernel's own run -/
theorem Ev.hash_ {x : Str} {t : Tok} (n : Nat)
    (h : ∀ (w : World) (heap : Heap) (gens : Array GenState) (drawn : Drawn) (toks : Nat) (os : OsState) (K : Int → Sem Fin) (H : Value → Sem Fin) (gd : Bool → Bool) (lv : List Value → List Value),
      segGo treeTable p w n₀ ann 1 n ⟨heap, gens, drawn, toks, os⟩ ⟨(pyHash (.str x t)).wrap K H gd lv, c, pos, [topFrame q]⟩ = some (⟨heap, gens, drawn, toks + 1, os⟩, ⟨K (hashStr w x), c, pos, [topFrame q]⟩)) :
    Ev p w n₀ ann c q n (pyHash (.str x t)) s pos (hashStr w x) { s with toks := s.toks + 1 } pos := fun K H gd lv => ⟨n, Nat.le_refl _, h w s.heap s.gens s.drawn s.toks s.os K H gd lv⟩
end
end Mine

end
section
open PySem PySem.W PyProof.Rows
namespace Mine
open PySem PySem.W PyProof.Rows
set_option maxRecDepth 100000
set_option maxHeartbeats 0
theorem hash_step (p : Program) (n₀ : Nat) (ann : Option Value) (c : Code) (q pos : Pos) (x : Str) (t : Tok) (w : World) :
    ∀ (heap : Heap) (gens : Array GenState) (drawn : Drawn) (toks : Nat) (os : OsState) (K : Int → Sem Fin) (H : Value → Sem Fin) (gd : Bool → Bool) (lv : List Value → List Value),
      segGo treeTable p w n₀ ann 1 7 ⟨heap, gens, drawn, toks, os⟩ ⟨(pyHash (.str x t)).wrap K H gd lv, c, pos, [topFrame q]⟩ = some (⟨heap, gens, drawn, toks + 1, os⟩, ⟨K (hashStr w x), c, pos, [topFrame q]⟩) := by
  refine byRow2 "special-get-raises" (P := fun w => ∀ (heap : Heap) (gens : Array GenState) (drawn : Drawn) (toks : Nat) (os : OsState) (K : Int → Sem Fin) (H : Value → Sem Fin) (gd : Bool → Bool) (lv : List Value → List Value),
      segGo treeTable p w n₀ ann 1 7 ⟨heap, gens, drawn, toks, os⟩ ⟨(pyHash (.str x t)).wrap K H gd lv, c, pos, [topFrame q]⟩ = some (⟨heap, gens, drawn, toks + 1, os⟩, ⟨K (hashStr w x), c, pos, [topFrame q]⟩)) ?_ ?_ w
  · intros; kernel_rfl
  · intros; kernel_rfl
end Mine

end
section
open PySem PySem.W PyProof.Rows
namespace Mine
open PySem PySem.W PyProof.Rows

/-- a family of heaps that hold an object o at d -/
structure Slot (G : Obj → Heap) (d : Addr) : Prop where
  get : ∀ o, o.isFreed = false → (G o).get? d = some o
  upd : ∀ o f, (G o).update d f = G (f o)

def dobj (es : List DictEntry) (n : Nat) : Obj := { cls := .type "dict", data := .dict es.toArray n }
theorem dobj_free (es : List DictEntry) (n : Nat) : (dobj es n).isFreed = false := rfl

/-- every key is a text, none is k -/
def Fresh (k : Str) (es : List DictEntry) : Prop := ∀ e ∈ es, ∃ x t, e.key = .str x t ∧ x ≠ k

section
variable {p : Program} {w : World} {n₀ : Nat} {ann : Option Value} {c : Code} {q : Pos} {gens : Array GenState} {drawn : Drawn} {os : OsState}

theorem ev_hash {s : Shared} {pos : Pos} (x : Str) (t : Tok) : Ev p w n₀ ann c q 7 (pyHash (.str x t)) s pos (PyData.keyHash w.params x) { s with toks := s.toks + 1 } pos :=
  Ev.hash_ 7 fun w heap gens drawn toks os K H gd lv => hash_step p n₀ ann c q pos x t w heap gens drawn toks os K H gd lv

theorem fresh_exact {k : Str} {es : List DictEntry} (h : Fresh k es) : (es.toArray.all fun e => isExactStrKey e.key) = true := by
  rw [List.all_toArray, List.all_eq_true]
  intro e he
  obtain ⟨x, t, hk, _⟩ := h e he
  rw [hk]; rfl
theorem fresh_none {k : Str} {es : List DictEntry} (h : Fresh k es) : es.toArray.findIdx? (·.key.isStr k) = .none := by
  rw [Array.findIdx?_eq_none_iff]
  intro e he
  obtain ⟨x, t, hk, hx⟩ := h e (by simpa using he)
  rw [hk]
  show (x == k) = false
  simpa using hx

theorem ev_find {s : Shared} {pos : Pos} {d : Addr} {es : List DictEntry} {n : Nat} {k : Str} {t : Tok} {h : Int} (ho : s.heap.get? d = some (dobj es n)) (hf : Fresh k es) :
    Ev p w n₀ ann c q 5 (dictFind d (.str k t) h) s pos none s pos := by
  unfold dictFind
  refine Ev.holding ?_
  unfold dictEntries loadPart
  refine Ev.seq (Ev.bind (Ev.load ho .pure) .pure') ?_
  dsimp only
  rw [if_pos (fresh_exact hf)]
  unfold foundByValue
  rw [(fresh_none hf)]
  exact .done

theorem ev_addKey {G : Obj → Heap} {d : Addr} (S : Slot G d) (hd : Nat.ble n₀ d = true) {toks : Nat} {pos : Pos} {es : List DictEntry} {n : Nat} {e : DictEntry} {part : Option Value} (hsz : es.length < 1000000) :
    Ev p w n₀ ann c q 10 (updateDictKeys d (·.push e) part) ⟨G (dobj es n), gens, drawn, toks, os⟩ pos () ⟨G (dobj (es ++ [e]) (n + 1)), gens, drawn, toks, os⟩ pos := by
  unfold updateDictKeys loadPart updatePart lookBehind loadPart
  have h1 := S.get (dobj es n) rfl
  refine Ev.seq (Ev.load h1 .pure) ?_
  rw [show (dobj es n).data = .dict es.toArray n from rfl]
  dsimp only
  refine Ev.seq (i := 1) (p₁ := pos) (a := ()) (Ev.update (i := 0) (f := Obj.mapDictKeys (·.push e)) (k := Sem.pure) (s₁ := ⟨G (dobj (es ++ [e]) (n + 1)), gens, drawn, toks, os⟩) h1 hd ?_) ?_
  · show Ev p w n₀ ann c q 0 _ ⟨(G (dobj es n)).update d (Obj.mapDictKeys (·.push e)), gens, drawn, toks, os⟩ pos _ _ _
    rw [S.upd]
    have : Obj.mapDictKeys (·.push e) (dobj es n) = dobj (es ++ [e]) (n + 1) := by
      show ({ cls := _, dict := _, data := .dict (es.toArray.push e) (n + 1), slots := _ } : Obj) = _
      unfold dobj
      simp
    rw [this]
    exact .pure
  · refine Ev.seq (Ev.load (S.get (dobj (es ++ [e]) (n + 1)) rfl) .pure) ?_
    have : (dobj (es ++ [e]) (n + 1)).data.pastItsLine = none := by
      show (if (es ++ [e]).toArray.size > sizeLine + 1 then some "dict:memory" else none) = none
      rw [if_neg]
      simp only [List.size_toArray, List.length_append, List.length_cons, List.length_nil]
      have : sizeLine = 16777216 := by decide
      omega
    rw [this]
    exact .done

theorem ev_put {G : Obj → Heap} {d : Addr} (S : Slot G d) (hd : Nat.ble n₀ d = true) {toks : Nat} {pos : Pos} {es : List DictEntry} {n : Nat} {k : Str} {t : Tok} {v : Value} {h : Int} (hsz : es.length < 1000000) (hf : Fresh k es) :
    Ev p w n₀ ann c q 20 (dictPut d h (.str k t) v) ⟨G (dobj es n), gens, drawn, toks, os⟩ pos () ⟨G (dobj (es ++ [⟨h, .str k t, v⟩]) (n + 1)), gens, drawn, toks, os⟩ pos := by
  unfold dictPut
  refine Ev.seq (ev_find (S.get (dobj es n) rfl) hf) ?_
  exact (ev_addKey S hd hsz).le (by omega)

theorem ev_set {G : Obj → Heap} {d : Addr} (S : Slot G d) (hd : Nat.ble n₀ d = true) {toks : Nat} {pos : Pos} {es : List DictEntry} {n : Nat} {k : Str} {t : Tok} {v : Value} (hsz : es.length < 1000000) (hf : Fresh k es) :
    Ev p w n₀ ann c q 40 (dictSet d (.str k t) v) ⟨G (dobj es n), gens, drawn, toks, os⟩ pos () ⟨G (dobj (es ++ [⟨PyData.keyHash w.params k, .str k t, v⟩]) (n + 1)), gens, drawn, toks + 1, os⟩ pos := by
  unfold dictSet
  refine Ev.holding (Ev.seq (ev_hash k t) ?_)
  unfold dictSetHashed
  refine Ev.holding (Ev.seq (ev_find (S.get (dobj es n) rfl) hf) ?_)
  refine Ev.seq (Ev.rule .pure) ?_
  exact (ev_addKey S hd hsz).le (by omega)

/-- entries by steps of three numbers, and by steps of two -/
def ents (P : Params) (st : Nat) : Nat → List (Str × Str) → List DictEntry
  | _, [] => []
  | T, (k, v) :: r => ⟨PyData.keyHash P k, .str k T, .str v (T + 1)⟩ :: ents P st (T + st) r
theorem ents_len (P : Params) (st : Nat) : ∀ (L : List (Str × Str)) (T : Nat), (ents P st T L).length = L.length
  | [], _ => rfl
  | (_, _) :: r, T => by simp [ents, ents_len P st r (T + st)]
theorem ents_keys (P : Params) (st : Nat) : ∀ (L : List (Str × Str)) (T : Nat), ∀ e ∈ ents P st T L, ∃ k v t, (k, v) ∈ L ∧ e = ⟨PyData.keyHash P k, .str k t, .str v (t + 1)⟩
  | [], _, e, h => nomatch h
  | (k, v) :: r, T, e, h => by
    rcases List.mem_cons.mp h with h | h
    · exact ⟨k, v, T, List.mem_cons_self .., h⟩
    · obtain ⟨k', v', t, hm, he⟩ := ents_keys P st r (T + st) e h
      exact ⟨k', v', t, List.mem_cons_of_mem _ hm, he⟩

def kvS (dp : Pos) (x : Str × Str) : Sem Value × Sem Value := (mkText x.1, do let v ← mkText x.2; standAt dp; pure v)

theorem ev_text {s : Shared} {pos : Pos} {x : Str} : Ev p w n₀ ann c q 1 (mkText x) s pos (.str x s.toks) { s with toks := s.toks + 1 } pos := by
  unfold mkText
  exact Ev.seq (Ev.fresh .pure) .done
theorem ev_value {s : Shared} {pos dp : Pos} {x : Str × Str} : Ev p w n₀ ann c q 2 (kvS dp x).2 s pos (.str x.2 s.toks) { s with toks := s.toks + 1 } dp := by
  unfold kvS
  exact Ev.seq ev_text (Ev.seq (Ev.at .pure) .done)

def Keyed (es : List DictEntry) : Prop := ∀ e ∈ es, ∃ x t, e.key = .str x t
/-- the keys of es and of L together, each once -/
def Apart (es : List DictEntry) : List (Str × Str) → Prop
  | [] => True
  | (k, _) :: r => Fresh k es ∧ (∀ y ∈ r, y.1 ≠ k) ∧ Apart es r
theorem Apart.step {es : List DictEntry} {k : Str} {e : DictEntry} {t : Tok} (hk : e.key = .str k t) : ∀ {r : List (Str × Str)}, (∀ y ∈ r, y.1 ≠ k) → Apart es r → Apart (es ++ [e]) r
  | [], _, _ => trivial
  | (k', v') :: r, hn, h => by
    refine ⟨fun e' he => ?_, h.2.1, Apart.step hk (fun y hy => hn y (List.mem_cons_of_mem _ hy)) h.2.2⟩
    rcases List.mem_append.mp he with he | he
    · exact h.1 e' he
    · rw [List.mem_singleton.mp he]
      exact ⟨k, t, hk, fun q => hn (k', v') (List.mem_cons_self ..) q.symm⟩

/-- the long way of a run's own dict -/
theorem ev_long {G : Obj → Heap} {d : Addr} (S : Slot G d) (hd : Nat.ble n₀ d = true) (dp : Pos) : ∀ (L : List (Str × Str)) (es : List DictEntry) (n toks : Nat) (pos : Pos), es.length + L.length < 1000000 → Apart es L →
    ∃ pos', Ev p w n₀ ann c q (100 * L.length) (forIn (L.map (kvS dp)) PUnit.unit fun (x : Sem Value × Sem Value) (_ : PUnit) => do
        let kv ← x.1
        let vv ← holding [kv] x.2
        holding [kv, vv] (dictSet d kv vv)
        pure (ForInStep.yield PUnit.unit)) ⟨G (dobj es n), gens, drawn, toks, os⟩ pos PUnit.unit ⟨G (dobj (es ++ ents w.params 3 toks L) (n + L.length)), gens, drawn, toks + 3 * L.length, os⟩ pos' ∧ (L = [] → pos' = pos) ∧ (L ≠ [] → pos' = dp)
  | [], es, n, toks, pos, _, _ => ⟨pos, by simpa [ents] using (Ev.done : Ev p w n₀ ann c q 0 (Pure.pure PUnit.unit) ⟨G (dobj es n), gens, drawn, toks, os⟩ pos PUnit.unit _ pos), fun _ => rfl, fun h => absurd rfl h⟩
  | (k, v) :: r, es, n, toks, pos, hsz, hA => by
    have hsz' : (es ++ [(⟨PyData.keyHash w.params k, .str k toks, .str v (toks + 1)⟩ : DictEntry)]).length + r.length < 1000000 := by
      simp only [List.length_append, List.length_cons, List.length_nil] at hsz ⊢; omega
    obtain ⟨pos', h, h1, h2⟩ := ev_long S hd dp r (es ++ [⟨PyData.keyHash w.params k, .str k toks, .str v (toks + 1)⟩]) (n + 1) (toks + 3) dp hsz' (Apart.step (k := k) (t := toks) rfl hA.2.1 hA.2.2)
    have g2 : (k, v) :: r ≠ [] → pos' = dp := fun _ => by
      by_cases hr : r = []
      · exact h1 hr
      · exact h2 hr
    refine ⟨pos', ?_, (fun z => absurd z (List.cons_ne_nil _ _)), g2⟩
    · rw [List.map_cons, List.forIn_cons]
      rw [List.length_cons]
      refine Ev.seq (a := ForInStep.yield PUnit.unit) (Ev.bind (ev_text) (Ev.bind (Ev.holding ev_value) (Ev.bind (Ev.holding (ev_set S hd (by simp only [List.length_cons] at hsz; omega) hA.1)) .pure'))) ?_
      have e1 : n + ((k, v) :: r).length = n + 1 + r.length := by simp only [List.length_cons]; omega
      have e2 : toks + 3 * ((k, v) :: r).length = toks + 3 + 3 * r.length := by simp only [List.length_cons]; omega
      have e3 : es ++ ents w.params 3 toks ((k, v) :: r) = es ++ [⟨PyData.keyHash w.params k, .str k toks, .str v (toks + 1)⟩] ++ ents w.params 3 (toks + 3) r := by simp [ents]
      rw [← List.length_cons, e1, e2, e3]
      exact h.le (by omega)
end
end Mine

end
section
open PySem PySem.W PyProof.Rows
namespace Mine
open PySem PySem.W PyProof.Rows

theorem sub_dict : isSubtype (.type "dict") (.type "dict") = pure true := by rw [isSubtype_type]; kernel_rfl
theorem iter_dict : typeLookup (.type "dict") "__iter__" = pure (some (.builtin "dict.__iter__")) := by rw [typeLookup_type, builtinLookup_eq_fast]; kernel_rfl

theorem lastSlot (h : Heap) : Slot (fun o => h.push o) h.objs.size where
  get := fun o ho => Heap.get?_push_size _ ho
  upd := fun o f => by
    obtain ⟨objs, l⟩ := h
    show Heap.mk ((objs.push o).modify objs.size f) l = Heap.mk (objs.push (f o)) l
    congr 1
    apply Array.ext_getElem?
    intro i
    rw [Array.getElem?_modify, Array.getElem?_push, Array.getElem?_push]
    by_cases e : i = objs.size
    · subst e; simp
    · simp [e, Ne.symm e]

theorem pushSlot {G : Obj → Heap} {d : Addr} (S : Slot G d) (hs : ∀ o, d < (G o).objs.size) (x : Obj) : Slot (fun o => (G o).push x) d where
  get := fun o ho => Heap.get?_push_of_some _ (S.get o ho)
  upd := fun o f => by
    have h1 := S.upd o f
    have h2 := hs o
    show ((G o).push x).update d f = (G (f o)).push x
    rw [← h1]
    generalize G o = g at h2
    obtain ⟨objs, l⟩ := g
    show Heap.mk ((objs.push x).modify d f) l = Heap.mk ((objs.modify d f).push x) l
    congr 1
    apply Array.ext_getElem?
    intro i
    have h3 : d < objs.size := h2
    rw [Array.getElem?_modify, Array.getElem?_push, Array.getElem?_push, Array.getElem?_modify, Array.size_modify]
    by_cases e : d = i
    · subst e; simp [Nat.ne_of_lt h3]
    · by_cases e2 : i = objs.size
      · have e3 : d ≠ objs.size := Nat.ne_of_lt h3
        simp [e2, e3]
      · simp [e, e2]

section
variable {p : Program} {w : World} {n₀ : Nat} {ann : Option Value} {c : Code} {q : Pos} {gens : Array GenState} {drawn : Drawn} {os : OsState}

def vals : Nat → List (Str × Str) → List (Value × Value)
  | _, [] => []
  | T, (k, v) :: r => (.str k T, .str v (T + 1)) :: vals (T + 2) r

theorem ev_pairs (dp : Pos) (heap : Heap) : ∀ (L : List (Str × Str)) (toks : Nat) (pos : Pos), ∃ pos', Ev p w n₀ ann c q (20 * L.length) (evalPairs (L.map (kvS dp))) ⟨heap, gens, drawn, toks, os⟩ pos (vals toks L) ⟨heap, gens, drawn, toks + 2 * L.length, os⟩ pos' ∧ (L = [] → pos' = pos) ∧ (L ≠ [] → pos' = dp)
  | [], toks, pos => ⟨pos, .done, fun _ => rfl, fun h => absurd rfl h⟩
  | (k, v) :: r, toks, pos => by
    obtain ⟨pos', h, h1, h2⟩ := ev_pairs dp heap r (toks + 2) dp
    have g2 : (k, v) :: r ≠ [] → pos' = dp := fun _ => by
      by_cases hr : r = []
      · exact h1 hr
      · exact h2 hr
    refine ⟨pos', ?_, (fun z => absurd z (List.cons_ne_nil _ _)), g2⟩
    have e2 : toks + 2 * ((k, v) :: r).length = toks + 2 + 2 * r.length := by simp only [List.length_cons]; omega
    rw [e2, List.map_cons, List.length_cons]
    show Ev p w n₀ ann c q (20 * (r.length + 1)) (do
      let kv ← (kvS dp (k, v)).1
      let vv ← holding [kv] (kvS dp (k, v)).2
      return (kv, vv) :: (← holding [kv, vv] (evalPairs (r.map (kvS dp))))) _ _ _ _ _
    exact Ev.seq ev_text (Ev.seq (Ev.holding ev_value) (Ev.seq (Ev.holding h) .done))

theorem ev_sets {G : Obj → Heap} {d : Addr} (S : Slot G d) (hd : Nat.ble n₀ d = true) (pos : Pos) : ∀ (L : List (Str × Str)) (es : List DictEntry) (n T toks : Nat), es.length + L.length < 1000000 → Apart es L →
    Ev p w n₀ ann c q (50 * L.length) (forIn (vals T L) PUnit.unit fun (x : Value × Value) (_ : PUnit) => do
        dictSet d x.1 x.2
        pure (ForInStep.yield PUnit.unit)) ⟨G (dobj es n), gens, drawn, toks, os⟩ pos PUnit.unit ⟨G (dobj (es ++ ents w.params 2 T L) (n + L.length)), gens, drawn, toks + L.length, os⟩ pos
  | [], es, n, T, toks, _, _ => by simpa [ents, vals] using (Ev.done : Ev p w n₀ ann c q 0 (Pure.pure PUnit.unit) ⟨G (dobj es n), gens, drawn, toks, os⟩ pos PUnit.unit _ pos)
  | (k, v) :: r, es, n, T, toks, hsz, hA => by
    have hsz' : (es ++ [(⟨PyData.keyHash w.params k, .str k T, .str v (T + 1)⟩ : DictEntry)]).length + r.length < 1000000 := by
      simp only [List.length_append, List.length_cons, List.length_nil] at hsz ⊢; omega
    have h := ev_sets S hd pos r (es ++ [⟨PyData.keyHash w.params k, .str k T, .str v (T + 1)⟩]) (n + 1) (T + 2) (toks + 1) hsz' (Apart.step (k := k) (t := T) rfl hA.2.1 hA.2.2)
    show Ev p w n₀ ann c q (50 * (r.length + 1)) (forIn ((.str k T, .str v (T + 1)) :: vals (T + 2) r) PUnit.unit _) _ _ _ _ _
    rw [List.forIn_cons]
    refine Ev.seq (a := ForInStep.yield PUnit.unit) (Ev.bind (ev_set S hd (by simp only [List.length_cons] at hsz; omega) hA.1) .pure') ?_
    have e1 : n + ((k, v) :: r).length = n + 1 + r.length := by simp only [List.length_cons]; omega
    have e2 : toks + ((k, v) :: r).length = toks + 1 + r.length := by simp only [List.length_cons]; omega
    have e3 : es ++ ents w.params 2 T ((k, v) :: r) = es ++ [⟨PyData.keyHash w.params k, .str k T, .str v (T + 1)⟩] ++ ents w.params 2 (T + 2) r := by simp [ents]
    rw [e1, e2, e3]
    exact h.le (by omega)

/-- the entries of one run, and the numbers that it uses -/
def runEnts (P : Params) (T : Nat) (L : List (Str × Str)) : List DictEntry := if L.length ≤ 15 then ents P 2 T L else ents P 3 T L
theorem runEnts_len (P : Params) (T : Nat) (L : List (Str × Str)) : (runEnts P T L).length = L.length := by unfold runEnts; split <;> exact ents_len ..
theorem runEnts_keys (P : Params) (T : Nat) (L : List (Str × Str)) : ∀ e ∈ runEnts P T L, ∃ k v t, (k, v) ∈ L ∧ e = ⟨PyData.keyHash P k, .str k t, .str v (t + 1)⟩ := by
  unfold runEnts
  split
  · exact ents_keys P 2 L T
  · exact ents_keys P 3 L T


theorem ev_sub (hn : ∀ h : Heap, n₀ ≤ h.objs.size → Nat.ble n₀ h.objs.size = true) (dp : Pos) (h : Heap) (h0 : n₀ ≤ h.objs.size) (L : List (Str × Str)) (toks : Nat) (pos : Pos) (hL : L ≠ []) (hsz : L.length < 1000000) (hA : Apart [] L) :
    Ev p w n₀ ann c q (200 * L.length + 10) (subDict (L.map (kvS dp))) ⟨h, gens, drawn, toks, os⟩ pos h.objs.size ⟨h.push (dobj (runEnts w.params toks L) L.length), gens, drawn, toks + 3 * L.length, os⟩ dp := by
  unfold subDict
  refine Ev.seq (Ev.alloc .pure) ?_
  have S := lastSlot h
  have hd := hn h h0
  refine Ev.seq (i := 200 * L.length + 9) (a := PUnit.unit) (s₁ := ⟨h.push (dobj (runEnts w.params toks L) L.length), gens, drawn, toks + 3 * L.length, os⟩) (p₁ := dp) (Ev.holding ?_) .done
  rw [List.length_map]
  by_cases hl : L.length ≤ 15
  · rw [if_pos hl]
    obtain ⟨pos', h1, _, h2⟩ := ev_pairs (p := p) (w := w) (n₀ := n₀) (ann := ann) (c := c) (q := q) (gens := gens) (drawn := drawn) (os := os) dp (h.push (dobj [] 0)) L toks pos
    rw [h2 hL] at h1
    refine Ev.seq h1 ?_
    have h3 := ev_sets (p := p) (w := w) (n₀ := n₀) (ann := ann) (c := c) (q := q) (gens := gens) (drawn := drawn) (os := os) S hd dp L [] 0 toks (toks + 2 * L.length) (by simpa using hsz) hA
    have e : runEnts w.params toks L = [] ++ ents w.params 2 toks L := by unfold runEnts; rw [if_pos hl]; rfl
    have e2 : toks + 3 * L.length = toks + 2 * L.length + L.length := by omega
    have e3 : L.length = 0 + L.length := by omega
    rw [e, e2]
    rw [Nat.zero_add] at h3
    exact Ev.holding (Ev.seq (a := PUnit.unit) h3 .done)
  · rw [if_neg hl]
    refine Ev.seq (Ev.rule .pure) ?_
    obtain ⟨pos', h3, _, h2⟩ := ev_long (p := p) (w := w) (n₀ := n₀) (ann := ann) (c := c) (q := q) (gens := gens) (drawn := drawn) (os := os) S hd dp L [] 0 toks pos (by simpa using hsz) hA
    rw [h2 hL] at h3
    have e : runEnts w.params toks L = [] ++ ents w.params 3 toks L := by unfold runEnts; rw [if_neg hl]; rfl
    rw [e]
    rw [Nat.zero_add] at h3
    exact Ev.seq (a := PUnit.unit) h3 .done

/-- what a merge asks of the entries -/
def ApartE (es : List DictEntry) : List DictEntry → Prop
  | [] => True
  | e :: r => (∃ k t, e.key = .str k t ∧ Fresh k es ∧ ∀ y ∈ r, ∃ k' t', y.key = .str k' t' ∧ k' ≠ k) ∧ ApartE es r
theorem ApartE.step {es : List DictEntry} {e : DictEntry} {k : Str} {t : Tok} (hk : e.key = .str k t) : ∀ {r : List DictEntry}, (∀ y ∈ r, ∃ k' t', y.key = .str k' t' ∧ k' ≠ k) → ApartE es r → ApartE (es ++ [e]) r
  | [], _, _ => trivial
  | e' :: r, hn, ⟨⟨k', t', h1, h2, h3⟩, h4⟩ => by
    refine ⟨⟨k', t', h1, fun x hx => ?_, h3⟩, ApartE.step hk (fun y hy => hn y (List.mem_cons_of_mem _ hy)) h4⟩
    rcases List.mem_append.mp hx with hx | hx
    · exact h2 x hx
    · rw [List.mem_singleton.mp hx]
      obtain ⟨k2, t2, g1, g2⟩ := hn e' (List.mem_cons_self ..)
      rw [h1] at g1
      injection g1 with g1
      exact ⟨k, t, hk, fun z => g2 (g1 ▸ z.symm)⟩

theorem ev_mergeLoop {G : Obj → Heap} {d a : Addr} (S : Slot G d) (hd : Nat.ble n₀ d = true) {es2 : List DictEntry} {n2 : Nat} (ha : ∀ o, (G o).get? a = some (dobj es2 n2)) {toks : Nat} {pos : Pos} :
    ∀ (suf pre : List DictEntry), es2 = pre ++ suf → ∀ (es : List DictEntry) (n : Nat), es.length + suf.length < 1000000 → ApartE es suf →
    Ev p w n₀ ann c q (50 * suf.length) (forIn (List.range' pre.length suf.length) PUnit.unit fun (i : Nat) (_ : PUnit) => do
        match (← dictEntries a)[i]? with
        | some e => do
          holding [e.key, e.val] (dictPut d e.hash e.key e.val)
          if ((← dictEpoch a) != n2) = true then do
            unsupported "dict.changed-during-merge"
            pure (ForInStep.yield PUnit.unit)
          else pure (ForInStep.yield PUnit.unit)
        | _ => do
          unsupported "dict.changed-during-merge"
          pure (ForInStep.yield PUnit.unit)) ⟨G (dobj es n), gens, drawn, toks, os⟩ pos PUnit.unit ⟨G (dobj (es ++ suf) (n + suf.length)), gens, drawn, toks, os⟩ pos
  | [], pre, he, es, n, _, _ => by simpa using (Ev.done : Ev p w n₀ ann c q 0 (Pure.pure PUnit.unit) ⟨G (dobj es n), gens, drawn, toks, os⟩ pos PUnit.unit _ pos)
  | e :: r, pre, he, es, n, hsz, ⟨⟨k, t, hk, hf, hr⟩, hA⟩ => by
    rw [List.length_cons, List.range'_succ, List.forIn_cons]
    have hget : es2.toArray[pre.length]? = some e := by rw [he]; simp
    have ih := ev_mergeLoop S hd ha (toks := toks) (pos := pos) r (pre ++ [e]) (by rw [he]; simp) (es ++ [e]) (n + 1) (by simp only [List.length_append, List.length_cons, List.length_nil] at hsz ⊢; omega) (ApartE.step hk hr hA)
    refine Ev.seq (i := 40) (a := ForInStep.yield PUnit.unit) (s₁ := ⟨G (dobj (es ++ [e]) (n + 1)), gens, drawn, toks, os⟩) (p₁ := pos) ?_ ?_
    · refine Ev.seq (Ev.bind (Ev.load (ha _) .pure) .pure') ?_
      rw [hget]
      dsimp only
      have hput := ev_put (p := p) (w := w) (n₀ := n₀) (ann := ann) (c := c) (q := q) (gens := gens) (drawn := drawn) (os := os) S hd (toks := toks) (pos := pos) (es := es) (n := n) (k := k) (t := t) (v := e.val) (h := e.hash) (by simp only [List.length_cons] at hsz; omega) hf
      have he' : (⟨e.hash, .str k t, e.val⟩ : DictEntry) = e := by rw [← hk]
      rw [he', ← hk] at hput
      refine Ev.seq (Ev.holding hput) ?_
      refine Ev.seq (Ev.bind (Ev.load (ha _) .pure) .pure') ?_
      rw [if_neg (by simp)]
      exact .done
    · dsimp only
      have e1 : n + (r.length + 1) = n + 1 + r.length := by omega
      have e3 : es ++ e :: r = es ++ [e] ++ r := by simp
      rw [e1, e3]
      have e4 : (pre ++ [e]).length = pre.length + 1 := by simp
      rw [e4] at ih
      exact ih.le (by omega)

theorem ev_typeOf {s : Shared} {pos : Pos} {a : Addr} {es : List DictEntry} {n : Nat} (ha : s.heap.get? a = some (dobj es n)) : Ev p w n₀ ann c q 1 (typeOf (.ref a)) s pos (.type "dict") s pos := by
  show Ev p w n₀ ann c q 1 (Sem.load a (some headPart) Sem.pure >>= fun o => pure o.cls) _ _ _ _ _
  exact Ev.seq (Ev.load ha .pure) .done

theorem ev_isDict {s : Shared} {pos : Pos} {a : Addr} {es : List DictEntry} {n : Nat} (ha : s.heap.get? a = some (dobj es n)) : Ev p w n₀ ann c q 1 (isInstance (.ref a) (.type "dict")) s pos true s pos := by
  unfold isInstance
  refine Ev.seq (ev_typeOf ha) ?_
  rw [sub_dict]; exact .done
theorem ev_iterOf {s : Shared} {pos : Pos} {a : Addr} {es : List DictEntry} {n : Nat} (ha : s.heap.get? a = some (dobj es n)) : Ev p w n₀ ann c q 1 (specialOf (.ref a) "__iter__") s pos (some (.builtin "dict.__iter__")) s pos := by
  unfold specialOf
  refine Ev.seq (ev_typeOf ha) ?_
  rw [iter_dict]; exact .done

theorem ev_merge {G : Obj → Heap} {d a : Addr} (S : Slot G d) (hd : Nat.ble n₀ d = true) {es2 : List DictEntry} {n2 : Nat} (ha : ∀ o, (G o).get? a = some (dobj es2 n2)) (hs : (a == sysModules) = false) {toks : Nat} {pos : Pos} (es : List DictEntry) (n : Nat) (hne : es ≠ []) (hsz : es.length + es2.length < 1000000) (hA : ApartE es es2) :
    Ev p w n₀ ann c q (50 * es2.length + 20) (mergeMapping d (.ref a) false) ⟨G (dobj es n), gens, drawn, toks, os⟩ pos () ⟨G (dobj (es ++ es2) (n + es2.length)), gens, drawn, toks, os⟩ pos := by
  unfold mergeMapping
  refine Ev.seq (ev_isDict (ha _)) ?_
  dsimp only
  rw [if_pos rfl]
  refine Ev.seq (ev_iterOf (ha _)) ?_
  refine Ev.seq (a := true) .pure' ?_
  dsimp only
  rw [hs, if_neg (by simp)]
  refine Ev.seq (Ev.bind (Ev.load (S.get (dobj es n) rfl) .pure) .pure') ?_
  have hem : es.toArray.isEmpty = false := by cases es with | nil => exact absurd rfl hne | cons _ _ => rfl
  rw [hem, if_neg (by simp)]
  refine Ev.seq (Ev.bind (Ev.load (ha _) .pure) .pure') ?_
  refine Ev.seq (Ev.bind (Ev.load (ha _) .pure) .pure') ?_
  have hl := ev_mergeLoop (p := p) (w := w) (n₀ := n₀) (ann := ann) (c := c) (q := q) (gens := gens) (drawn := drawn) (os := os) S hd ha (toks := toks) (pos := pos) es2 [] rfl es n hsz hA
  rw [List.size_toArray, List.range_eq_range']
  exact Ev.seq (a := PUnit.unit) hl .done
end
end Mine

end
section
open PySem PySem.W PyProof.Rows
namespace Mine
open PySem PySem.W PyProof.Rows

/-- a heap with one object at its place and the later ones behind it, newest first -/
def GM (h : Heap) : List Obj → Obj → Heap
  | [], o => h.push o
  | x :: r, o => (GM h r o).push x
theorem push_size (h : Heap) (o : Obj) : (h.push o).objs.size = h.objs.size + 1 := by
  obtain ⟨objs, l⟩ := h
  show (objs.push o).size = _
  simp
theorem GM_size (h : Heap) : ∀ (rs : List Obj) (o : Obj), (GM h rs o).objs.size = h.objs.size + 1 + rs.length
  | [], o => by simpa [GM] using push_size h o
  | x :: r, o => by
    show ((GM h r o).push x).objs.size = _
    rw [push_size, GM_size h r o, List.length_cons]; omega
theorem GM_slot (h : Heap) : ∀ rs : List Obj, Slot (GM h rs) h.objs.size
  | [] => lastSlot h
  | x :: r => pushSlot (GM_slot h r) (fun o => by rw [GM_size]; exact Nat.lt_of_lt_of_le (Nat.lt_succ_self _) (Nat.le_add_right _ _)) x

def flushD (run : List (Sem Value × Sem Value)) (main : Option Addr) : Sem (Option Addr) :=
  if run.isEmpty = true then pure main
  else match main with
    | none => do
      let d ← subDict run
      pure (some d)
    | some d => do
      let sub ← holding [Value.ref d] (subDict run)
      (holding [Value.ref d, Value.ref sub] (mergeMapping d (Value.ref sub) false)).onRaise fun x => do
        let _ ← holding [Value.ref d, x] (runValue (Code.builtin "proto.let_go" {}))
        pure ()
      pure (some d)

def keysOf (L : List (Str × Str)) : List Str := L.map (·.1)
theorem noKeys : ∀ e ∈ ([] : List DictEntry), ∃ k t, e.key = .str k t ∧ k ∈ ([] : List Str) := fun _ he => (List.not_mem_nil he).elim
theorem apart_of {es : List DictEntry} {done : List Str} (hk : ∀ e ∈ es, ∃ k t, e.key = .str k t ∧ k ∈ done) : ∀ {C : List (Str × Str)}, (done ++ keysOf C).Nodup → Apart es C
  | [], _ => trivial
  | (k, v) :: r, h => by
    have h' : (done ++ k :: keysOf r).Nodup := h
    rw [List.nodup_append] at h'
    obtain ⟨h1, h2, h3⟩ := h'
    rw [List.nodup_cons] at h2
    refine ⟨fun e he => ?_, fun y hy z => ?_, apart_of hk ?_⟩
    · obtain ⟨k', t, e1, e2⟩ := hk e he
      exact ⟨k', t, e1, h3 k' e2 k (List.mem_cons_self ..)⟩
    · exact h2.1 (z ▸ List.mem_map_of_mem hy)
    · rw [List.nodup_append]
      exact ⟨h1, h2.2, fun a ha b hb => h3 a ha b (List.mem_cons_of_mem _ hb)⟩
theorem apartE_of {P : Params} {st : Nat} {es : List DictEntry} {done : List Str} (hk : ∀ e ∈ es, ∃ k t, e.key = .str k t ∧ k ∈ done) : ∀ {C : List (Str × Str)} {T : Nat}, (done ++ keysOf C).Nodup → ApartE es (ents P st T C)
  | [], _, _ => trivial
  | (k, v) :: r, T, h => by
    have hA := apart_of hk h
    have h' : (done ++ k :: keysOf r).Nodup := h
    rw [List.nodup_append] at h'
    obtain ⟨h1, h2, h3⟩ := h'
    rw [List.nodup_cons] at h2
    refine ⟨⟨k, T, rfl, hA.1, fun y hy => ?_⟩, apartE_of hk ?_⟩
    · obtain ⟨k', v', t', hm, he⟩ := ents_keys P st r _ y hy
      exact ⟨k', t', by rw [he], fun z => h2.1 (z ▸ List.mem_map_of_mem (f := (·.1)) hm)⟩
    · rw [List.nodup_append]
      exact ⟨h1, h2.2, fun a ha b hb => h3 a ha b (List.mem_cons_of_mem _ hb)⟩
theorem apartR_of {P : Params} {es : List DictEntry} {done : List Str} (hk : ∀ e ∈ es, ∃ k t, e.key = .str k t ∧ k ∈ done) {C : List (Str × Str)} {T : Nat} (h : (done ++ keysOf C).Nodup) : ApartE es (runEnts P T C) := by
  unfold runEnts
  split <;> exact apartE_of hk h
theorem runKeys {P : Params} {T : Nat} {C : List (Str × Str)} : ∀ e ∈ runEnts P T C, ∃ k t, e.key = .str k t ∧ k ∈ keysOf C := fun e he => by
  obtain ⟨k, v, t, hm, rfl⟩ := runEnts_keys P T C e he
  exact ⟨k, t, rfl, List.mem_map_of_mem (f := (·.1)) hm⟩

/-- the table so far: its entries, the later objects, the numbers used -/
structure St where
  es : List DictEntry
  rs : List Obj
  T : Nat
def St.add (P : Params) (s : St) (C : List (Str × Str)) : St := ⟨s.es ++ runEnts P s.T C, dobj (runEnts P s.T C) C.length :: s.rs, s.T + 3 * C.length⟩
def St.all (P : Params) : St → List (List (Str × Str)) → St
  | s, [] => s
  | s, C :: r => St.all P (s.add P C) r

section
variable {p : Program} {w : World} {n₀ : Nat} {ann : Option Value} {c : Code} {q : Pos} {gens : Array GenState} {drawn : Drawn} {os : OsState}

def St.sh (gens : Array GenState) (drawn : Drawn) (os : OsState) (h : Heap) (s : St) : Shared := ⟨GM h s.rs (dobj s.es s.es.length), gens, drawn, s.T, os⟩

theorem ev_flush (dp : Pos) (h : Heap) (h0 : n₀ ≤ h.objs.size) (hsys : sysModules < h.objs.size) (s : St) (pos : Pos) (hne : s.es ≠ []) (C : List (Str × Str)) (hC : C ≠ []) (hsz : s.es.length + C.length < 1000000)
    {done : List Str} (hk : ∀ e ∈ s.es, ∃ k t, e.key = .str k t ∧ k ∈ done) (hN : (done ++ keysOf C).Nodup) :
    Ev p w n₀ ann c q (300 * C.length + 50) (flushD (C.map (kvS dp)) (some h.objs.size)) (s.sh gens drawn os h) pos (some h.objs.size) ((s.add w.params C).sh gens drawn os h) dp := by
  unfold flushD
  rw [if_neg (by cases C with | nil => exact absurd rfl hC | cons _ _ => simp)]
  dsimp only
  have hd : Nat.ble n₀ h.objs.size = true := Nat.ble_eq.mpr h0
  have hN' : (([] : List Str) ++ keysOf C).Nodup := (List.nodup_append.mp hN).2.1
  have h1 := ev_sub (p := p) (w := w) (n₀ := n₀) (ann := ann) (c := c) (q := q) (gens := gens) (drawn := drawn) (os := os) (fun h x => Nat.ble_eq.mpr x) dp (GM h s.rs (dobj s.es s.es.length)) (by rw [GM_size]; omega) C s.T pos hC (by omega) (apart_of noKeys hN')
  refine Ev.seq (Ev.holding h1) ?_
  have ha : ∀ o, (GM h (dobj (runEnts w.params s.T C) C.length :: s.rs) o).get? (GM h s.rs (dobj s.es s.es.length)).objs.size = some (dobj (runEnts w.params s.T C) C.length) := fun o => by
    rw [show (GM h s.rs (dobj s.es s.es.length)).objs.size = (GM h s.rs o).objs.size by rw [GM_size, GM_size]]
    exact Heap.get?_push_size _ rfl
  have hs : ((GM h s.rs (dobj s.es s.es.length)).objs.size == sysModules) = false := by
    rw [GM_size]
    exact beq_eq_false_iff_ne.mpr (Nat.ne_of_gt (Nat.lt_of_lt_of_le hsys (Nat.le_trans (Nat.le_succ _) (Nat.le_add_right _ _))))
  have h2 := ev_merge (p := p) (w := w) (n₀ := n₀) (ann := ann) (c := c) (q := q) (gens := gens) (drawn := drawn) (os := os) (GM_slot h (dobj (runEnts w.params s.T C) C.length :: s.rs)) hd ha hs (toks := s.T + 3 * C.length) (pos := dp) s.es s.es.length hne (by rw [runEnts_len]; omega) (apartR_of hk hN)
  refine Ev.seq (i := 50 * C.length + 20) (s₁ := (s.add w.params C).sh gens drawn os h) (p₁ := dp) (a := ()) (Ev.onRaise (Ev.holding ?_)) .done
  have e : (s.add w.params C).sh gens drawn os h = ⟨GM h (dobj (runEnts w.params s.T C) C.length :: s.rs) (dobj (s.es ++ runEnts w.params s.T C) (s.es.length + (runEnts w.params s.T C).length)), gens, drawn, s.T + 3 * C.length, os⟩ := by
    unfold St.sh St.add
    rw [List.length_append]
  rw [e]
  rw [runEnts_len] at h2
  rw [runEnts_len]
  exact h2

theorem ev_first (dp : Pos) (h : Heap) (h0 : n₀ ≤ h.objs.size) (T : Nat) (pos : Pos) (C : List (Str × Str)) (hC : C ≠ []) (hsz : C.length < 1000000) (hN : (keysOf C).Nodup) :
    Ev p w n₀ ann c q (300 * C.length + 50) (flushD (C.map (kvS dp)) none) ⟨h, gens, drawn, T, os⟩ pos (some h.objs.size) (St.sh gens drawn os h ⟨runEnts w.params T C, [], T + 3 * C.length⟩) dp := by
  unfold flushD
  rw [if_neg (by cases C with | nil => exact absurd rfl hC | cons _ _ => simp)]
  dsimp only
  have h1 := ev_sub (p := p) (w := w) (n₀ := n₀) (ann := ann) (c := c) (q := q) (gens := gens) (drawn := drawn) (os := os) (fun h x => Nat.ble_eq.mpr x) dp h h0 C T pos hC hsz (apart_of noKeys (by simpa using hN))
  refine Ev.seq h1 ?_
  have e : St.sh gens drawn os h ⟨runEnts w.params T C, [], T + 3 * C.length⟩ = ⟨h.push (dobj (runEnts w.params T C) C.length), gens, drawn, T + 3 * C.length, os⟩ := by
    unfold St.sh GM
    rw [runEnts_len]
  rw [e]
  exact .done

abbrev Item := Option (Sem Value) × Sem Value
def itemOf (dp : Pos) (x : Str × Str) : Item := (some (kvS dp x).1, (kvS dp x).2)

variable {body : Item → Option Addr × List (Sem Value × Sem Value) → Sem (ForInStep (Option Addr × List (Sem Value × Sem Value)))}

abbrev BodyIs (body : Item → Option Addr × List (Sem Value × Sem Value) → Sem (ForInStep (Option Addr × List (Sem Value × Sem Value)))) : Prop :=
  ∀ (k v : Sem Value) main run, body (some k, v) (main, run) = if ((run ++ [(k, v)]).length == 17) = true then (do
      let main ← flushD (run ++ [(k, v)]) main
      pure (.yield (main, []))) else pure (.yield (main, run ++ [(k, v)]))

theorem loop_acc (hb : BodyIs body) (dp : Pos) (main : Option Addr) (rest : List Item) : ∀ (C R : List (Str × Str)), R.length + C.length < 17 →
    forIn (C.map (itemOf dp) ++ rest) (main, R.map (kvS dp)) body = forIn rest (main, (R ++ C).map (kvS dp)) body
  | [], R, _ => by simp
  | x :: C, R, h => by
    have h' : R.length + (C.length + 1) < 17 := h
    rw [List.map_cons, List.cons_append, List.forIn_cons]
    have e1 := hb (kvS dp x).1 (kvS dp x).2 main (R.map (kvS dp))
    rw [if_neg (by simp; omega)] at e1
    show (body (some (kvS dp x).1, (kvS dp x).2) (main, R.map (kvS dp)) >>= _) = _
    rw [e1]
    show forIn (C.map (itemOf dp) ++ rest) (main, R.map (kvS dp) ++ [kvS dp x]) body = _
    have e2 : R.map (kvS dp) ++ [kvS dp x] = (R ++ [x]).map (kvS dp) := by simp
    rw [e2, loop_acc hb dp main rest C (R ++ [x]) (by simp; omega)]
    simp

theorem loop_chunk {i j : Nat} (hb : BodyIs body) (dp : Pos) (main : Option Addr) (rest : List Item) {s s₁ s₂ : Shared} {pos p₁ p₂ : Pos} {m : Option Addr} {r : Option Addr × List (Sem Value × Sem Value)} (C : List (Str × Str)) (hC : C.length = 17)
    (h1 : Ev p w n₀ ann c q i (flushD (C.map (kvS dp)) main) s pos m s₁ p₁) (h2 : Ev p w n₀ ann c q j (forIn rest (m, ([] : List (Sem Value × Sem Value))) body) s₁ p₁ r s₂ p₂) :
    Ev p w n₀ ann c q (i + j) (forIn (C.map (itemOf dp) ++ rest) (main, ([] : List (Sem Value × Sem Value))) body) s pos r s₂ p₂ := by
  obtain ⟨A, x, rfl⟩ : ∃ A x, C = A ++ [x] := by
    rcases List.eq_nil_or_concat C with e | ⟨A, x, e⟩
    · rw [e] at hC; simp at hC
    · exact ⟨A, x, by rw [e]; simp⟩
  have hA : A.length = 16 := by simpa using hC
  have e := loop_acc hb dp main ((itemOf dp x) :: rest) A [] (by simp [hA])
  simp only [List.map_nil, List.nil_append] at e
  rw [List.map_append, List.append_assoc, List.map_cons, List.map_nil, List.cons_append, List.nil_append, e, List.forIn_cons]
  have e1 := hb (kvS dp x).1 (kvS dp x).2 main (A.map (kvS dp))
  rw [if_pos (by simp [hA])] at e1
  show Ev p w n₀ ann c q (i + j) (body (some (kvS dp x).1, (kvS dp x).2) (main, A.map (kvS dp)) >>= _) _ _ _ _ _
  rw [e1]
  have e2 : A.map (kvS dp) ++ [((kvS dp x).1, (kvS dp x).2)] = (A ++ [x]).map (kvS dp) := by simp
  rw [e2]
  exact Ev.bind (Ev.seq h1 .done) h2

theorem loop_all (hb : BodyIs body) (dp : Pos) (h : Heap) (h0 : n₀ ≤ h.objs.size) (hsys : sysModules < h.objs.size) (Z : List (Str × Str)) (hZ : Z.length < 17) : ∀ (Cs : List (List (Str × Str))) (s : St) (done : List Str),
    (∀ C ∈ Cs, C.length = 17) → s.es ≠ [] → s.es.length + 17 * Cs.length < 1000000 → (∀ e ∈ s.es, ∃ k t, e.key = .str k t ∧ k ∈ done) → (done ++ keysOf (Cs.flatten)).Nodup →
    Ev p w n₀ ann c q (5150 * Cs.length) (forIn (Cs.flatten.map (itemOf dp) ++ Z.map (itemOf dp)) (some h.objs.size, ([] : List (Sem Value × Sem Value))) body) (s.sh gens drawn os h) dp (some h.objs.size, Z.map (kvS dp)) ((s.all w.params Cs).sh gens drawn os h) dp
  | [], s, done, _, _, _, _, _ => by
    have e := loop_acc hb dp (some h.objs.size) [] Z [] (by simpa using hZ)
    simp only [List.map_nil, List.nil_append, List.append_nil] at e
    show Ev p w n₀ ann c q 0 (forIn (Z.map (itemOf dp)) (some h.objs.size, ([] : List (Sem Value × Sem Value))) body) _ _ _ _ _
    rw [e]
    exact .done
  | C :: Cs, s, done, hl, hne, hsz, hk, hN => by
    have hC : C.length = 17 := hl C (List.mem_cons_self ..)
    have hCn : C ≠ [] := fun e => by rw [e] at hC; simp at hC
    have e0 : keysOf ((C :: Cs).flatten) = keysOf C ++ keysOf Cs.flatten := by simp [keysOf]
    rw [e0, ← List.append_assoc] at hN
    have hk' : ∀ e ∈ (s.add w.params C).es, ∃ k t, e.key = .str k t ∧ k ∈ done ++ keysOf C := fun e he => by
      rcases List.mem_append.mp he with he | he
      · obtain ⟨k, t, g1, g2⟩ := hk e he
        exact ⟨k, t, g1, List.mem_append_left _ g2⟩
      · obtain ⟨k, t, g1, g2⟩ := runKeys e he
        exact ⟨k, t, g1, List.mem_append_right _ g2⟩
    have hlen : (s.add w.params C).es.length = s.es.length + 17 := by
      show (s.es ++ runEnts w.params s.T C).length = _
      rw [List.length_append, runEnts_len, hC]
    have hsz' : s.es.length + (17 * Cs.length + 17) < 1000000 := by
      rw [List.length_cons] at hsz; omega
    have h2 := loop_all hb dp h h0 hsys Z hZ Cs (s.add w.params C) (done ++ keysOf C) (fun x hx => hl x (List.mem_cons_of_mem _ hx)) (fun e => by
      have : (s.es ++ runEnts w.params s.T C) = [] := e
      exact hne (List.append_eq_nil_iff.mp this).1) (by rw [hlen]; omega) hk' hN
    have h1 := ev_flush (p := p) (w := w) (n₀ := n₀) (ann := ann) (c := c) (q := q) (gens := gens) (drawn := drawn) (os := os) dp h h0 hsys s dp hne C hCn (by omega) hk ((List.nodup_append.mp hN).1)
    have e3 : (C :: Cs).flatten.map (itemOf dp) ++ Z.map (itemOf dp) = C.map (itemOf dp) ++ (Cs.flatten.map (itemOf dp) ++ Z.map (itemOf dp)) := by simp
    rw [e3]
    exact (loop_chunk hb dp _ _ C hC h1 h2).le (by rw [hC, List.length_cons]; omega)

/-- the whole display -/
theorem ev_display (dp : Pos) (h : Heap) (h0 : n₀ ≤ h.objs.size) (hsys : sysModules < h.objs.size) (T : Nat) (pos : Pos) (C : List (Str × Str)) (Cs : List (List (Str × Str))) (Z : List (Str × Str)) (hC : C.length = 17) (hl : ∀ C ∈ Cs, C.length = 17) (hZ : Z.length < 17) (hZn : Z ≠ [])
    (hsz : 17 * Cs.length < 100000) (hN : (keysOf (C ++ (Cs.flatten ++ Z))).Nodup) :
    Ev p w n₀ ann c q (5150 * (Cs.length + 2)) (dictDisplay ((C ++ (Cs.flatten ++ Z)).map (itemOf dp))) ⟨h, gens, drawn, T, os⟩ pos (.ref h.objs.size) ((((St.mk (runEnts w.params T C) [] (T + 3 * C.length)).all w.params Cs).add w.params Z).sh gens drawn os h) dp := by
  have hCn : C ≠ [] := fun e => by rw [e] at hC; simp at hC
  have e0 : keysOf (C ++ (Cs.flatten ++ Z)) = keysOf C ++ (keysOf Cs.flatten ++ keysOf Z) := by simp [keysOf]
  rw [e0] at hN
  have hN1 : (keysOf C ++ keysOf Cs.flatten).Nodup := by
    rw [← List.append_assoc] at hN
    exact (List.nodup_append.mp hN).1
  have hne : runEnts w.params T C ≠ [] := fun e => by
    have := runEnts_len w.params T C
    rw [e] at this
    rw [hC] at this
    simp at this
  have h1 := ev_first (p := p) (w := w) (n₀ := n₀) (ann := ann) (c := c) (q := q) (gens := gens) (drawn := drawn) (os := os) dp h h0 T pos C hCn (by omega) ((List.nodup_append.mp hN).1)
  have allKeys : ∀ (Cs : List (List (Str × Str))) (s : St) (done : List Str), (∀ e ∈ s.es, ∃ k t, e.key = .str k t ∧ k ∈ done) → ∀ e ∈ (s.all w.params Cs).es, ∃ k t, e.key = .str k t ∧ k ∈ done ++ keysOf Cs.flatten := by
    intro Cs
    induction Cs with
    | nil => intro s done hk e he; obtain ⟨k, t, g1, g2⟩ := hk e he; exact ⟨k, t, g1, List.mem_append_left _ g2⟩
    | cons C Cs ih =>
      intro s done hk e he
      obtain ⟨k, t, g1, g2⟩ := ih (s.add w.params C) (done ++ keysOf C) (fun e he => by
        rcases List.mem_append.mp he with he | he
        · obtain ⟨k, t, g1, g2⟩ := hk e he
          exact ⟨k, t, g1, List.mem_append_left _ g2⟩
        · obtain ⟨k, t, g1, g2⟩ := runKeys e he
          exact ⟨k, t, g1, List.mem_append_right _ g2⟩) e he
      refine ⟨k, t, g1, ?_⟩
      simpa [keysOf, List.append_assoc] using g2
  have allLen : ∀ (Cs : List (List (Str × Str))) (s : St), (∀ C ∈ Cs, C.length = 17) → (s.all w.params Cs).es.length = s.es.length + 17 * Cs.length := by
    intro Cs
    induction Cs with
    | nil => intro s _; rfl
    | cons C Cs ih =>
      intro s hl
      have := ih (s.add w.params C) (fun x hx => hl x (List.mem_cons_of_mem _ hx))
      show ((s.add w.params C).all w.params Cs).es.length = _
      rw [this]
      show (s.es ++ runEnts w.params s.T C).length + _ = _
      rw [List.length_append, runEnts_len, hl C (List.mem_cons_self ..), List.length_cons]
      omega
  have hlen := allLen Cs ⟨runEnts w.params T C, [], T + 3 * C.length⟩ hl
  have hlen0 : (runEnts w.params T C).length = 17 := by rw [runEnts_len, hC]
  have hne2 : ((St.mk (runEnts w.params T C) [] (T + 3 * C.length)).all w.params Cs).es ≠ [] := fun e => by
    rw [e] at hlen
    simp only [List.length_nil, hlen0] at hlen
    omega
  unfold dictDisplay
  dsimp only
  refine Ev.seq (i := 5150 * (Cs.length + 1)) (a := (some h.objs.size, Z.map (kvS dp))) (s₁ := ((St.mk (runEnts w.params T C) [] (T + 3 * C.length)).all w.params Cs).sh gens drawn os h) (p₁ := dp) ?_ ?_
  · have e3 : (C ++ (Cs.flatten ++ Z)).map (itemOf dp) = C.map (itemOf dp) ++ (Cs.flatten.map (itemOf dp) ++ Z.map (itemOf dp)) := by simp
    rw [e3]
    refine Ev.le (loop_chunk ?_ dp none _ C hC h1 (loop_all ?_ dp h h0 hsys Z hZ Cs ⟨runEnts w.params T C, [], T + 3 * C.length⟩ (keysOf C) hl hne (by simp only [hlen0]; omega) runKeys hN1)) (by rw [hC]; omega)
    · intro k v main run; rfl
    · intro k v main run; rfl
  · dsimp only
    have hf := ev_flush (p := p) (w := w) (n₀ := n₀) (ann := ann) (c := c) (q := q) (gens := gens) (drawn := drawn) (os := os) dp h h0 hsys ((St.mk (runEnts w.params T C) [] (T + 3 * C.length)).all w.params Cs) dp
      hne2 Z hZn (by rw [hlen]; simp only [hlen0]; omega) (allKeys Cs _ (keysOf C) runKeys) (by rw [List.append_assoc]; exact hN)
    exact Ev.seq hf .done
end
end Mine

end
section
open PySem PySem.W PyProof.Rows
namespace Mine
open PySem PySem.W PyProof.Rows
section
variable {p : Program} {w : World} {n₀ : Nat} {ann : Option Value} {c : Code} {q : Pos}
def zipped (ks : List (Option PySem.Expr)) (vs : List PySem.Expr) (p2 : Pos) (env : Env) : List Item := (evalEachOpt ks env).zip ((evalEach vs env).map fun v => do let x ← v; standAt p2; pure x)
theorem exec_dict (n : Str) (p1 p2 p3 : Pos) (ks : List (Option PySem.Expr)) (vs : List PySem.Expr) (env : Env) :
    exec (.Assign [.Name n p1] (.Dict ks vs p2) p3) env = Sem.at p3 fun _ => Sem.at p2 fun _ => ((dictDisplay (zipped ks vs p2 env)) >>= fun v => do assignAll v [assign (.Name n p1) env]; pure Flow.next) := rfl
end
end Mine
namespace Mine
open PySem PySem.W PyProof.Rows
def keyStr : Option PySem.Expr → Str
  | some (.Constant (.str x) _ _) => x
  | _ => default
def valStr : PySem.Expr → Str
  | .Constant (.str x) _ _ => x
  | _ => default
def litKey : Option PySem.Expr → Bool
  | some (.Constant (.str _) _ _) => true
  | _ => false
def litVal : PySem.Expr → Bool
  | .Constant (.str _) _ _ => true
  | _ => false
def litPairs : List (Option PySem.Expr) → List PySem.Expr → Bool
  | [], [] => true
  | k :: ks, v :: vs => litKey k && litVal v && litPairs ks vs
  | _, _ => false
def pairsOf (ks : List (Option PySem.Expr)) (vs : List PySem.Expr) : List (Str × Str) := (ks.map keyStr).zip (vs.map valStr)
theorem zipped_eq (p2 : Pos) (env : Env) : ∀ (ks : List (Option PySem.Expr)) (vs : List PySem.Expr), litPairs ks vs = true → zipped ks vs p2 env = (pairsOf ks vs).map (itemOf p2)
  | [], [], _ => rfl
  | [], _ :: _, h => by simp [litPairs] at h
  | _ :: _, [], h => by simp [litPairs] at h
  | k :: ks, v :: vs, h => by
    simp only [litPairs, Bool.and_eq_true] at h
    obtain ⟨⟨h1, h2⟩, h3⟩ := h
    have ih := zipped_eq p2 env ks vs h3
    obtain ⟨x, a, b, rfl⟩ : ∃ x a b, k = some (.Constant (.str x) a b) := by
      unfold litKey at h1; split at h1
      · exact ⟨_, _, _, rfl⟩
      · cases h1
    obtain ⟨y, a', b', rfl⟩ : ∃ x a b, v = .Constant (.str x) a b := by
      unfold litVal at h2; split at h2
      · exact ⟨_, _, _, rfl⟩
      · cases h2
    show _ :: zipped ks vs p2 env = _ :: (pairsOf ks vs).map (itemOf p2)
    rw [ih]
    rfl

def ltL : List Nat → List Nat → Bool
  | _, [] => false
  | [], _ :: _ => true
  | a :: r, b :: s => Nat.blt a b || (Nat.beq a b && ltL r s)
theorem ltL_irrefl : ∀ l, ltL l l = false
  | [] => rfl
  | a :: r => by
    have h : Nat.blt a a = false := by
      cases hb : Nat.blt a a with
      | false => rfl
      | true => exact absurd (Nat.blt_eq.mp hb) (Nat.lt_irrefl _)
    simp [ltL, ltL_irrefl r, h]
theorem ltL_trans : ∀ {a b d : List Nat}, ltL a b = true → ltL b d = true → ltL a d = true
  | [], [], _, h, _ => by simp [ltL] at h
  | _ :: _, [], _, h, _ => by simp [ltL] at h
  | [], _ :: _, [], _, h => by simp [ltL] at h
  | _ :: _, _ :: _, [], _, h => by simp [ltL] at h
  | [], _ :: _, _ :: _, _, _ => rfl
  | a :: r, b :: s, d :: t, h1, h2 => by
    simp only [ltL, Bool.or_eq_true, Bool.and_eq_true, Nat.blt_eq, Nat.beq_eq] at h1 h2 ⊢
    rcases h1 with h1 | ⟨rfl, h1⟩
    · rcases h2 with h2 | ⟨rfl, h2⟩
      · exact .inl (Nat.lt_trans h1 h2)
      · exact .inl h1
    · rcases h2 with h2 | ⟨rfl, h2⟩
      · exact .inl h2
      · exact .inr ⟨rfl, ltL_trans h1 h2⟩
def rising : List Str → Bool
  | a :: b :: r => ltL a.cps.toList b.cps.toList && rising (b :: r)
  | _ => true
theorem rising_all : ∀ {a : Str} {l : List Str}, rising (a :: l) = true → ∀ b ∈ l, ltL a.cps.toList b.cps.toList = true
  | a, [], _, b, hb => nomatch hb
  | a, x :: r, h, b, hb => by
    simp only [rising, Bool.and_eq_true] at h
    rcases List.mem_cons.mp hb with rfl | hb
    · exact h.1
    · exact ltL_trans h.1 (rising_all h.2 b hb)
theorem rising_tail {a : Str} : ∀ {l : List Str}, rising (a :: l) = true → rising l = true
  | [], _ => rfl
  | x :: r, h => by simp only [rising, Bool.and_eq_true] at h; exact h.2
theorem nodup_rising : ∀ {l : List Str}, rising l = true → l.Nodup
  | [], _ => .nil
  | a :: l, h => by
    refine List.nodup_cons.mpr ⟨fun hm => ?_, nodup_rising (rising_tail h)⟩
    have := rising_all h a hm
    rw [ltL_irrefl] at this
    cases this

section
variable {p : Program} {w : World} {n₀ : Nat} {ann : Option Value} {c : Code} {q : Pos} {gens : Array GenState} {drawn : Drawn} {os : OsState}
/-- one assignment of a long dict of texts to a name, at the top -/
theorem ev_assignDict (n : Str) (p1 p2 p3 : Pos) (ks : List (Option PySem.Expr)) (vs : List PySem.Expr) (env : Env) (h : Heap) (h0 : n₀ ≤ h.objs.size) (hsys : sysModules < h.objs.size) (T : Nat) (pos : Pos)
    (C : List (Str × Str)) (Cs : List (List (Str × Str))) (Z : List (Str × Str)) (hlit : litPairs ks vs = true) (hL : pairsOf ks vs = C ++ (Cs.flatten ++ Z)) (hC : C.length = 17) (hl : ∀ C ∈ Cs, C.length = 17) (hZ : Z.length < 17) (hZn : Z ≠ [])
    (hsz : 17 * Cs.length < 100000) (hN : rising (keysOf (pairsOf ks vs)) = true) {s' : Shared} {pos' : Pos}
    {b : Nat} (hstore : Ev p w n₀ ann c q b (do assignAll (.ref h.objs.size) [assign (.Name n p1) env]; pure Flow.next) ((((St.mk (runEnts w.params T C) [] (T + 3 * C.length)).all w.params Cs).add w.params Z).sh gens drawn os h) p2 .next s' pos') :
    Ev p w n₀ ann c q (5150 * (Cs.length + 2) + b + 2) (execs [.Assign [.Name n p1] (.Dict ks vs p2) p3] env) ⟨h, gens, drawn, T, os⟩ pos .next s' pos' := by
  show Ev p w n₀ ann c q (5150 * (Cs.length + 2) + b + 2) (exec (.Assign [.Name n p1] (.Dict ks vs p2) p3) env >>= fun f => match f with | .next => pure Flow.next | f => pure f) _ _ _ _ _
  refine Ev.seq (i := 5150 * (Cs.length + 2) + b + 2) (a := Flow.next) (s₁ := s') (p₁ := pos') ?_ .done
  rw [exec_dict]
  refine Ev.le (Ev.at (Ev.at (i := 5150 * (Cs.length + 2) + b) ?_)) (by omega)
  rw [zipped_eq p2 env ks vs hlit, hL]
  rw [hL] at hN
  exact Ev.bind (ev_display (p := p) (w := w) (n₀ := n₀) (ann := ann) (c := c) (q := q) (gens := gens) (drawn := drawn) (os := os) p2 h h0 hsys T p2 C Cs Z hC hl hZ hZn hsz (nodup_rising hN)) hstore

theorem seg_of_ev {b : Nat} {l : List Stmt} {env : Env} {s s' : Shared} {pos pos' : Pos} (h : Ev p w n₀ ann c q b (execs l env) s pos .next s' pos') : ∃ n, n ≤ b + 1 ∧ segRun treeTable p w n₀ ann 1 n s (piecesOf l env c pos [topFrame q]) = some (.next, s', c, pos') := by
  obtain ⟨n, ln, hn⟩ := h doneF deadEnd id id
  exact ⟨n + 1, Nat.add_le_add_right ln 1, seg_go hn rfl⟩
end
end Mine
namespace Mine
open PySem PySem.W PyProof.Rows
def insAll : BT → Nat → List Obj → BT
  | t, _, [] => t
  | t, n, o :: r => insAll (t.ins n o) (n + 1) r
def okAll : BT → Nat → List Obj → Bool
  | _, _, [] => true
  | t, n, o :: r => ((t.ins n o).get n).isSome && okAll (t.ins n o) (n + 1) r
theorem foldl_push {life : Life} : ∀ {l : List Obj} {t : BT} {n : Nat}, okAll t n l = true → l.foldl (fun h o => h.push o) (absHeap t n life) = absHeap (insAll t n l) (n + l.length) life
  | [], _, _, _ => rfl
  | o :: r, t, n, h => by
    simp only [okAll, Bool.and_eq_true] at h
    have e : n + (o :: r).length = n + 1 + r.length := by simp only [List.length_cons]; omega
    rw [List.foldl_cons, ← absHeap_ins h.1, foldl_push h.2, e]
    rfl
theorem GM_foldl (h : Heap) : ∀ (rs : List Obj) (o : Obj), GM h rs o = (o :: rs.reverse).foldl (fun h o => h.push o) h
  | [], o => rfl
  | x :: r, o => by
    show (GM h r o).push x = _
    rw [GM_foldl h r o, List.reverse_cons, ← List.cons_append, List.foldl_append]
    rfl
theorem GM_abs {life : Life} {t : BT} {n : Nat} {rs : List Obj} {o : Obj} (h : okAll t n (o :: rs.reverse) = true) : GM (absHeap t n life) rs o = absHeap (insAll t n (o :: rs.reverse)) (n + (o :: rs.reverse).length) life := by
  rw [GM_foldl, foldl_push h]
end Mine

end
section
open PySem PySem.W PyProof.Rows
namespace Mine
open PySem PySem.W PyProof.Rows PySem.W.Fast
abbrev pw : Program := PySem.Challenge.pw_ko0100_02
/-! the program's trees, by their places -/
def noStm : Stmt := .Pass ⟨0, 0, 0, 0⟩
def stm (i : Nat) : Stmt := (behindTheImports pw).getD i noStm
def fdA (i : Nat) : Arguments := match stm i with | .FunctionDef _ a _ _ _ _ _ _ _ _ => a | _ => ⟨[], [], none, [], [], none, []⟩
def fdB (i : Nat) : List Stmt := match stm i with | .FunctionDef _ _ b _ _ _ _ _ _ _ => b | _ => []
def fdS (i : Nat) : Scope := match stm i with | .FunctionDef _ _ _ _ _ _ s _ _ _ => s | _ => pw.main.scope
def dkS (i : Nat) : List (Option PySem.Expr) := match stm i with | .Assign _ (.Dict ks _ _) _ => ks | _ => []
def dvS (i : Nat) : List PySem.Expr := match stm i with | .Assign _ (.Dict _ vs _) _ => vs | _ => []
def dpS (i : Nat) : Pos := match stm i with | .Assign _ (.Dict _ _ p) _ => p | _ => ⟨0, 0, 0, 0⟩
def spS (i : Nat) : Pos := match stm i with | .Assign _ _ p => p | _ => ⟨0, 0, 0, 0⟩
def tnS (i : Nat) : Str := match stm i with | .Assign [.Name n _] _ _ => n | _ => Str.empty
def tpS (i : Nat) : Pos := match stm i with | .Assign [.Name _ p] _ _ => p | _ => ⟨0, 0, 0, 0⟩
def ek (j : Nat) : Str := ((pairsOf (dkS 6) (dvS 6)).getD j (Str.empty, Str.empty)).1
def ev (j : Nat) : Str := ((pairsOf (dkS 6) (dvS 6)).getD j (Str.empty, Str.empty)).2
/-! the long table -/
def LL : List (Str × Str) := pairsOf (dkS 9) (dvS 9)
def LC : List (Str × Str) := LL.take 17
def LCs : List (List (Str × Str)) := (List.range 34).map fun i => (LL.drop (17 * (i + 1))).take 17
def LZ : List (Str × Str) := LL.drop 595
def tabSt (P : Params) : St := ((St.mk (runEnts P 661 LC) [] (661 + 3 * LC.length)).all P LCs).add P LZ
def tabObj (P : Params) : Obj := dobj (tabSt P).es (tabSt P).es.length
def objsL (P : Params) : List Obj := tabObj P :: (tabSt P).rs.reverse
def xo (P : Params) (j : Nat) : Obj := (objsL P).getD j (dobj [] 0)
def o0 (P : Params) : Obj := (Obj.mk (Value.type "dict") none (Data.dict (List.toArray [(DictEntry.mk (PyData.keyHash P (Str.ofString "__name__")) (Value.str (Str.ofString "__name__") 1) (Value.str (Str.ofString "builtins") 160)), (DictEntry.mk (PyData.keyHash P (Str.ofString "__doc__")) (Value.str (Str.ofString "__doc__") 2) (Value.builtin "builtins.__doc__:str#opaque")), (DictEntry.mk (PyData.keyHash P (Str.ofString "__package__")) (Value.str (Str.ofString "__package__") 3) (Value.builtin "builtins.__package__:str#opaque")), (DictEntry.mk (PyData.keyHash P (Str.ofString "__loader__")) (Value.str (Str.ofString "__loader__") 4) (Value.builtin "builtins.__loader__:shared#opaque")), (DictEntry.mk (PyData.keyHash P (Str.ofString "__spec__")) (Value.str (Str.ofString "__spec__") 5) (Value.builtin "builtins.__spec__#opaque")), (DictEntry.mk (PyData.keyHash P (Str.ofString "__build_class__")) (Value.str (Str.ofString "__build_class__") 6) (Value.builtin "__build_class__")), (DictEntry.mk (PyData.keyHash P (Str.ofString "__import__")) (Value.str (Str.ofString "__import__") 7) (Value.builtin "__import__")), (DictEntry.mk (PyData.keyHash P (Str.ofString "abs")) (Value.str (Str.ofString "abs") 8) (Value.builtin "abs")), (DictEntry.mk (PyData.keyHash P (Str.ofString "all")) (Value.str (Str.ofString "all") 9) (Value.builtin "all")), (DictEntry.mk (PyData.keyHash P (Str.ofString "any")) (Value.str (Str.ofString "any") 10) (Value.builtin "any")), (DictEntry.mk (PyData.keyHash P (ek 14)) (Value.str (ek 14) 11) (Value.builtin "ascii")), (DictEntry.mk (PyData.keyHash P (Str.ofString "bin")) (Value.str (Str.ofString "bin") 12) (Value.builtin "bin")), (DictEntry.mk (PyData.keyHash P (Str.ofString "breakpoint")) (Value.str (Str.ofString "breakpoint") 13) (Value.builtin "breakpoint")), (DictEntry.mk (PyData.keyHash P (Str.ofString "callable")) (Value.str (Str.ofString "callable") 14) (Value.builtin "callable")), (DictEntry.mk (PyData.keyHash P (Str.ofString "chr")) (Value.str (Str.ofString "chr") 15) (Value.builtin "chr")), (DictEntry.mk (PyData.keyHash P (Str.ofString "compile")) (Value.str (Str.ofString "compile") 16) (Value.builtin "compile")), (DictEntry.mk (PyData.keyHash P (Str.ofString "delattr")) (Value.str (Str.ofString "delattr") 17) (Value.builtin "delattr")), (DictEntry.mk (PyData.keyHash P (Str.ofString "dir")) (Value.str (Str.ofString "dir") 18) (Value.builtin "dir")), (DictEntry.mk (PyData.keyHash P (Str.ofString "divmod")) (Value.str (Str.ofString "divmod") 19) (Value.builtin "divmod")), (DictEntry.mk (PyData.keyHash P (Str.ofString "eval")) (Value.str (Str.ofString "eval") 20) (Value.builtin "eval")), (DictEntry.mk (PyData.keyHash P (Str.ofString "exec")) (Value.str (Str.ofString "exec") 21) (Value.builtin "exec")), (DictEntry.mk (PyData.keyHash P (Str.ofString "format")) (Value.str (Str.ofString "format") 22) (Value.builtin "format")), (DictEntry.mk (PyData.keyHash P (Str.ofString "getattr")) (Value.str (Str.ofString "getattr") 23) (Value.builtin "getattr")), (DictEntry.mk (PyData.keyHash P (Str.ofString "globals")) (Value.str (Str.ofString "globals") 24) (Value.builtin "globals")), (DictEntry.mk (PyData.keyHash P (Str.ofString "hasattr")) (Value.str (Str.ofString "hasattr") 25) (Value.builtin "hasattr")), (DictEntry.mk (PyData.keyHash P (Str.ofString "hash")) (Value.str (Str.ofString "hash") 26) (Value.builtin "hash")), (DictEntry.mk (PyData.keyHash P (Str.ofString "hex")) (Value.str (Str.ofString "hex") 27) (Value.builtin "hex")), (DictEntry.mk (PyData.keyHash P (Str.ofString "id")) (Value.str (Str.ofString "id") 28) (Value.builtin "id")), (DictEntry.mk (PyData.keyHash P (Str.ofString "input")) (Value.str (Str.ofString "input") 29) (Value.builtin "input")), (DictEntry.mk (PyData.keyHash P (Str.ofString "isinstance")) (Value.str (Str.ofString "isinstance") 30) (Value.builtin "isinstance")), (DictEntry.mk (PyData.keyHash P (Str.ofString "issubclass")) (Value.str (Str.ofString "issubclass") 31) (Value.builtin "issubclass")), (DictEntry.mk (PyData.keyHash P (Str.ofString "iter")) (Value.str (Str.ofString "iter") 32) (Value.builtin "iter")), (DictEntry.mk (PyData.keyHash P (Str.ofString "aiter")) (Value.str (Str.ofString "aiter") 33) (Value.builtin "aiter")), (DictEntry.mk (PyData.keyHash P (Str.ofString "len")) (Value.str (Str.ofString "len") 34) (Value.builtin "len")), (DictEntry.mk (PyData.keyHash P (Str.ofString "locals")) (Value.str (Str.ofString "locals") 35) (Value.builtin "locals")), (DictEntry.mk (PyData.keyHash P (Str.ofString "max")) (Value.str (Str.ofString "max") 36) (Value.builtin "max")), (DictEntry.mk (PyData.keyHash P (Str.ofString "min")) (Value.str (Str.ofString "min") 37) (Value.builtin "min")), (DictEntry.mk (PyData.keyHash P (Str.ofString "next")) (Value.str (Str.ofString "next") 38) (Value.builtin "next")), (DictEntry.mk (PyData.keyHash P (Str.ofString "anext")) (Value.str (Str.ofString "anext") 39) (Value.builtin "anext")), (DictEntry.mk (PyData.keyHash P (Str.ofString "oct")) (Value.str (Str.ofString "oct") 40) (Value.builtin "oct")), (DictEntry.mk (PyData.keyHash P (Str.ofString "ord")) (Value.str (Str.ofString "ord") 41) (Value.builtin "ord")), (DictEntry.mk (PyData.keyHash P (Str.ofString "pow")) (Value.str (Str.ofString "pow") 42) (Value.builtin "pow")), (DictEntry.mk (PyData.keyHash P (Str.ofString "print")) (Value.str (Str.ofString "print") 43) (Value.builtin "print")), (DictEntry.mk (PyData.keyHash P (Str.ofString "repr")) (Value.str (Str.ofString "repr") 44) (Value.builtin "repr")), (DictEntry.mk (PyData.keyHash P (Str.ofString "round")) (Value.str (Str.ofString "round") 45) (Value.builtin "round")), (DictEntry.mk (PyData.keyHash P (Str.ofString "setattr")) (Value.str (Str.ofString "setattr") 46) (Value.builtin "setattr")), (DictEntry.mk (PyData.keyHash P (Str.ofString "sorted")) (Value.str (Str.ofString "sorted") 47) (Value.builtin "sorted")), (DictEntry.mk (PyData.keyHash P (Str.ofString "sum")) (Value.str (Str.ofString "sum") 48) (Value.builtin "sum")), (DictEntry.mk (PyData.keyHash P (Str.ofString "vars")) (Value.str (Str.ofString "vars") 49) (Value.builtin "vars")), (DictEntry.mk (PyData.keyHash P (Str.ofString "None")) (Value.str (Str.ofString "None") 50) Value.none), (DictEntry.mk (PyData.keyHash P (Str.ofString "Ellipsis")) (Value.str (Str.ofString "Ellipsis") 51) Value.ellipsis), (DictEntry.mk (PyData.keyHash P (Str.ofString "NotImplemented")) (Value.str (Str.ofString "NotImplemented") 52) Value.notImplemented), (DictEntry.mk (PyData.keyHash P (Str.ofString "False")) (Value.str (Str.ofString "False") 53) (Value.bool Bool.false)), (DictEntry.mk (PyData.keyHash P (Str.ofString "True")) (Value.str (Str.ofString "True") 54) (Value.bool Bool.true)), (DictEntry.mk (PyData.keyHash P (Str.ofString "bool")) (Value.str (Str.ofString "bool") 55) (Value.type "bool")), (DictEntry.mk (PyData.keyHash P (Str.ofString "memoryview")) (Value.str (Str.ofString "memoryview") 56) (Value.type "memoryview")), (DictEntry.mk (PyData.keyHash P (Str.ofString "bytearray")) (Value.str (Str.ofString "bytearray") 57) (Value.type "bytearray")), (DictEntry.mk (PyData.keyHash P (Str.ofString "bytes")) (Value.str (Str.ofString "bytes") 58) (Value.type "bytes")), (DictEntry.mk (PyData.keyHash P (Str.ofString "classmethod")) (Value.str (Str.ofString "classmethod") 59) (Value.type "classmethod")), (DictEntry.mk (PyData.keyHash P (Str.ofString "complex")) (Value.str (Str.ofString "complex") 60) (Value.type "complex")), (DictEntry.mk (PyData.keyHash P (Str.ofString "dict")) (Value.str (Str.ofString "dict") 61) (Value.type "dict")), (DictEntry.mk (PyData.keyHash P (Str.ofString "enumerate")) (Value.str (Str.ofString "enumerate") 62) (Value.type "enumerate")), (DictEntry.mk (PyData.keyHash P (Str.ofString "filter")) (Value.str (Str.ofString "filter") 63) (Value.type "filter")), (DictEntry.mk (PyData.keyHash P (Str.ofString "float")) (Value.str (Str.ofString "float") 64) (Value.type "float")), (DictEntry.mk (PyData.keyHash P (Str.ofString "frozenset")) (Value.str (Str.ofString "frozenset") 65) (Value.type "frozenset")), (DictEntry.mk (PyData.keyHash P (Str.ofString "property")) (Value.str (Str.ofString "property") 66) (Value.type "property")), (DictEntry.mk (PyData.keyHash P (Str.ofString "int")) (Value.str (Str.ofString "int") 67) (Value.type "int")), (DictEntry.mk (PyData.keyHash P (Str.ofString "list")) (Value.str (Str.ofString "list") 68) (Value.type "list")), (DictEntry.mk (PyData.keyHash P (Str.ofString "map")) (Value.str (Str.ofString "map") 69) (Value.type "map")), (DictEntry.mk (PyData.keyHash P (Str.ofString "object")) (Value.str (Str.ofString "object") 70) (Value.type "object")), (DictEntry.mk (PyData.keyHash P (Str.ofString "range")) (Value.str (Str.ofString "range") 71) (Value.type "range")), (DictEntry.mk (PyData.keyHash P (Str.ofString "reversed")) (Value.str (Str.ofString "reversed") 72) (Value.type "reversed")), (DictEntry.mk (PyData.keyHash P (Str.ofString "set")) (Value.str (Str.ofString "set") 73) (Value.type "set")), (DictEntry.mk (PyData.keyHash P (Str.ofString "slice")) (Value.str (Str.ofString "slice") 74) (Value.type "slice")), (DictEntry.mk (PyData.keyHash P (Str.ofString "staticmethod")) (Value.str (Str.ofString "staticmethod") 75) (Value.type "staticmethod")), (DictEntry.mk (PyData.keyHash P (Str.ofString "str")) (Value.str (Str.ofString "str") 76) (Value.type "str")), (DictEntry.mk (PyData.keyHash P (Str.ofString "super")) (Value.str (Str.ofString "super") 77) (Value.type "super")), (DictEntry.mk (PyData.keyHash P (Str.ofString "tuple")) (Value.str (Str.ofString "tuple") 78) (Value.type "tuple")), (DictEntry.mk (PyData.keyHash P (Str.ofString "type")) (Value.str (Str.ofString "type") 79) (Value.type "type")), (DictEntry.mk (PyData.keyHash P (Str.ofString "zip")) (Value.str (Str.ofString "zip") 80) (Value.type "zip")), (DictEntry.mk (PyData.keyHash P (Str.ofString "__debug__")) (Value.str (Str.ofString "__debug__") 81) (Value.bool Bool.true)), (DictEntry.mk (PyData.keyHash P (Str.ofString "BaseException")) (Value.str (Str.ofString "BaseException") 82) (Value.type "BaseException")), (DictEntry.mk (PyData.keyHash P (Str.ofString "BaseExceptionGroup")) (Value.str (Str.ofString "BaseExceptionGroup") 83) (Value.type "BaseExceptionGroup")), (DictEntry.mk (PyData.keyHash P (Str.ofString "Exception")) (Value.str (Str.ofString "Exception") 84) (Value.type "Exception")), (DictEntry.mk (PyData.keyHash P (Str.ofString "GeneratorExit")) (Value.str (Str.ofString "GeneratorExit") 85) (Value.type "GeneratorExit")), (DictEntry.mk (PyData.keyHash P (Str.ofString "KeyboardInterrupt")) (Value.str (Str.ofString "KeyboardInterrupt") 86) (Value.type "KeyboardInterrupt")), (DictEntry.mk (PyData.keyHash P (Str.ofString "SystemExit")) (Value.str (Str.ofString "SystemExit") 87) (Value.type "SystemExit")), (DictEntry.mk (PyData.keyHash P (Str.ofString "ArithmeticError")) (Value.str (Str.ofString "ArithmeticError") 88) (Value.type "ArithmeticError")), (DictEntry.mk (PyData.keyHash P (Str.ofString "AssertionError")) (Value.str (Str.ofString "AssertionError") 89) (Value.type "AssertionError")), (DictEntry.mk (PyData.keyHash P (Str.ofString "AttributeError")) (Value.str (Str.ofString "AttributeError") 90) (Value.type "AttributeError")), (DictEntry.mk (PyData.keyHash P (Str.ofString "BufferError")) (Value.str (Str.ofString "BufferError") 91) (Value.type "BufferError")), (DictEntry.mk (PyData.keyHash P (Str.ofString "EOFError")) (Value.str (Str.ofString "EOFError") 92) (Value.type "EOFError")), (DictEntry.mk (PyData.keyHash P (Str.ofString "ImportError")) (Value.str (Str.ofString "ImportError") 93) (Value.type "ImportError")), (DictEntry.mk (PyData.keyHash P (Str.ofString "LookupError")) (Value.str (Str.ofString "LookupError") 94) (Value.type "LookupError")), (DictEntry.mk (PyData.keyHash P (Str.ofString "MemoryError")) (Value.str (Str.ofString "MemoryError") 95) (Value.type "MemoryError")), (DictEntry.mk (PyData.keyHash P (Str.ofString "NameError")) (Value.str (Str.ofString "NameError") 96) (Value.type "NameError")), (DictEntry.mk (PyData.keyHash P (Str.ofString "OSError")) (Value.str (Str.ofString "OSError") 97) (Value.type "OSError")), (DictEntry.mk (PyData.keyHash P (Str.ofString "ReferenceError")) (Value.str (Str.ofString "ReferenceError") 98) (Value.type "ReferenceError")), (DictEntry.mk (PyData.keyHash P (Str.ofString "RuntimeError")) (Value.str (Str.ofString "RuntimeError") 99) (Value.type "RuntimeError")), (DictEntry.mk (PyData.keyHash P (Str.ofString "StopAsyncIteration")) (Value.str (Str.ofString "StopAsyncIteration") 100) (Value.type "StopAsyncIteration")), (DictEntry.mk (PyData.keyHash P (Str.ofString "StopIteration")) (Value.str (Str.ofString "StopIteration") 101) (Value.type "StopIteration")), (DictEntry.mk (PyData.keyHash P (Str.ofString "SyntaxError")) (Value.str (Str.ofString "SyntaxError") 102) (Value.type "SyntaxError")), (DictEntry.mk (PyData.keyHash P (Str.ofString "SystemError")) (Value.str (Str.ofString "SystemError") 103) (Value.type "SystemError")), (DictEntry.mk (PyData.keyHash P (Str.ofString "TypeError")) (Value.str (Str.ofString "TypeError") 104) (Value.type "TypeError")), (DictEntry.mk (PyData.keyHash P (Str.ofString "ValueError")) (Value.str (Str.ofString "ValueError") 105) (Value.type "ValueError")), (DictEntry.mk (PyData.keyHash P (Str.ofString "Warning")) (Value.str (Str.ofString "Warning") 106) (Value.type "Warning")), (DictEntry.mk (PyData.keyHash P (Str.ofString "FloatingPointError")) (Value.str (Str.ofString "FloatingPointError") 107) (Value.type "FloatingPointError")), (DictEntry.mk (PyData.keyHash P (Str.ofString "OverflowError")) (Value.str (Str.ofString "OverflowError") 108) (Value.type "OverflowError")), (DictEntry.mk (PyData.keyHash P (Str.ofString "ZeroDivisionError")) (Value.str (Str.ofString "ZeroDivisionError") 109) (Value.type "ZeroDivisionError")), (DictEntry.mk (PyData.keyHash P (Str.ofString "BytesWarning")) (Value.str (Str.ofString "BytesWarning") 110) (Value.type "BytesWarning")), (DictEntry.mk (PyData.keyHash P (Str.ofString "DeprecationWarning")) (Value.str (Str.ofString "DeprecationWarning") 111) (Value.type "DeprecationWarning")), (DictEntry.mk (PyData.keyHash P (Str.ofString "EncodingWarning")) (Value.str (Str.ofString "EncodingWarning") 112) (Value.type "EncodingWarning")), (DictEntry.mk (PyData.keyHash P (Str.ofString "FutureWarning")) (Value.str (Str.ofString "FutureWarning") 113) (Value.type "FutureWarning")), (DictEntry.mk (PyData.keyHash P (Str.ofString "ImportWarning")) (Value.str (Str.ofString "ImportWarning") 114) (Value.type "ImportWarning")), (DictEntry.mk (PyData.keyHash P (Str.ofString "PendingDeprecationWarning")) (Value.str (Str.ofString "PendingDeprecationWarning") 115) (Value.type "PendingDeprecationWarning")), (DictEntry.mk (PyData.keyHash P (Str.ofString "ResourceWarning")) (Value.str (Str.ofString "ResourceWarning") 116) (Value.type "ResourceWarning")), (DictEntry.mk (PyData.keyHash P (Str.ofString "RuntimeWarning")) (Value.str (Str.ofString "RuntimeWarning") 117) (Value.type "RuntimeWarning")), (DictEntry.mk (PyData.keyHash P (Str.ofString "SyntaxWarning")) (Value.str (Str.ofString "SyntaxWarning") 118) (Value.type "SyntaxWarning")), (DictEntry.mk (PyData.keyHash P (Str.ofString "UnicodeWarning")) (Value.str (Str.ofString "UnicodeWarning") 119) (Value.type "UnicodeWarning")), (DictEntry.mk (PyData.keyHash P (Str.ofString "UserWarning")) (Value.str (Str.ofString "UserWarning") 120) (Value.type "UserWarning")), (DictEntry.mk (PyData.keyHash P (Str.ofString "BlockingIOError")) (Value.str (Str.ofString "BlockingIOError") 121) (Value.type "BlockingIOError")), (DictEntry.mk (PyData.keyHash P (Str.ofString "ChildProcessError")) (Value.str (Str.ofString "ChildProcessError") 122) (Value.type "ChildProcessError")), (DictEntry.mk (PyData.keyHash P (Str.ofString "ConnectionError")) (Value.str (Str.ofString "ConnectionError") 123) (Value.type "ConnectionError")), (DictEntry.mk (PyData.keyHash P (Str.ofString "FileExistsError")) (Value.str (Str.ofString "FileExistsError") 124) (Value.type "FileExistsError")), (DictEntry.mk (PyData.keyHash P (Str.ofString "FileNotFoundError")) (Value.str (Str.ofString "FileNotFoundError") 125) (Value.type "FileNotFoundError")), (DictEntry.mk (PyData.keyHash P (Str.ofString "InterruptedError")) (Value.str (Str.ofString "InterruptedError") 126) (Value.type "InterruptedError")), (DictEntry.mk (PyData.keyHash P (Str.ofString "IsADirectoryError")) (Value.str (Str.ofString "IsADirectoryError") 127) (Value.type "IsADirectoryError")), (DictEntry.mk (PyData.keyHash P (Str.ofString "NotADirectoryError")) (Value.str (Str.ofString "NotADirectoryError") 128) (Value.type "NotADirectoryError")), (DictEntry.mk (PyData.keyHash P (Str.ofString "PermissionError")) (Value.str (Str.ofString "PermissionError") 129) (Value.type "PermissionError")), (DictEntry.mk (PyData.keyHash P (Str.ofString "ProcessLookupError")) (Value.str (Str.ofString "ProcessLookupError") 130) (Value.type "ProcessLookupError")), (DictEntry.mk (PyData.keyHash P (Str.ofString "TimeoutError")) (Value.str (Str.ofString "TimeoutError") 131) (Value.type "TimeoutError")), (DictEntry.mk (PyData.keyHash P (Str.ofString "IndentationError")) (Value.str (Str.ofString "IndentationError") 132) (Value.type "IndentationError")), (DictEntry.mk (PyData.keyHash P (Str.ofString "_IncompleteInputError")) (Value.str (Str.ofString "_IncompleteInputError") 133) (Value.type "_IncompleteInputError")), (DictEntry.mk (PyData.keyHash P (Str.ofString "IndexError")) (Value.str (Str.ofString "IndexError") 134) (Value.type "IndexError")), (DictEntry.mk (PyData.keyHash P (Str.ofString "KeyError")) (Value.str (Str.ofString "KeyError") 135) (Value.type "KeyError")), (DictEntry.mk (PyData.keyHash P (Str.ofString "ModuleNotFoundError")) (Value.str (Str.ofString "ModuleNotFoundError") 136) (Value.type "ModuleNotFoundError")), (DictEntry.mk (PyData.keyHash P (Str.ofString "NotImplementedError")) (Value.str (Str.ofString "NotImplementedError") 137) (Value.type "NotImplementedError")), (DictEntry.mk (PyData.keyHash P (Str.ofString "PythonFinalizationError")) (Value.str (Str.ofString "PythonFinalizationError") 138) (Value.type "PythonFinalizationError")), (DictEntry.mk (PyData.keyHash P (Str.ofString "RecursionError")) (Value.str (Str.ofString "RecursionError") 139) (Value.type "RecursionError")), (DictEntry.mk (PyData.keyHash P (Str.ofString "UnboundLocalError")) (Value.str (Str.ofString "UnboundLocalError") 140) (Value.type "UnboundLocalError")), (DictEntry.mk (PyData.keyHash P (Str.ofString "UnicodeError")) (Value.str (Str.ofString "UnicodeError") 141) (Value.type "UnicodeError")), (DictEntry.mk (PyData.keyHash P (Str.ofString "BrokenPipeError")) (Value.str (Str.ofString "BrokenPipeError") 142) (Value.type "BrokenPipeError")), (DictEntry.mk (PyData.keyHash P (Str.ofString "ConnectionAbortedError")) (Value.str (Str.ofString "ConnectionAbortedError") 143) (Value.type "ConnectionAbortedError")), (DictEntry.mk (PyData.keyHash P (Str.ofString "ConnectionRefusedError")) (Value.str (Str.ofString "ConnectionRefusedError") 144) (Value.type "ConnectionRefusedError")), (DictEntry.mk (PyData.keyHash P (Str.ofString "ConnectionResetError")) (Value.str (Str.ofString "ConnectionResetError") 145) (Value.type "ConnectionResetError")), (DictEntry.mk (PyData.keyHash P (Str.ofString "TabError")) (Value.str (Str.ofString "TabError") 146) (Value.type "TabError")), (DictEntry.mk (PyData.keyHash P (Str.ofString "UnicodeDecodeError")) (Value.str (Str.ofString "UnicodeDecodeError") 147) (Value.type "UnicodeDecodeError")), (DictEntry.mk (PyData.keyHash P (Str.ofString "UnicodeEncodeError")) (Value.str (Str.ofString "UnicodeEncodeError") 148) (Value.type "UnicodeEncodeError")), (DictEntry.mk (PyData.keyHash P (Str.ofString "UnicodeTranslateError")) (Value.str (Str.ofString "UnicodeTranslateError") 149) (Value.type "UnicodeTranslateError")), (DictEntry.mk (PyData.keyHash P (Str.ofString "ExceptionGroup")) (Value.str (Str.ofString "ExceptionGroup") 150) (Value.type "ExceptionGroup")), (DictEntry.mk (PyData.keyHash P (Str.ofString "EnvironmentError")) (Value.str (Str.ofString "EnvironmentError") 151) (Value.type "OSError")), (DictEntry.mk (PyData.keyHash P (Str.ofString "IOError")) (Value.str (Str.ofString "IOError") 152) (Value.type "OSError")), (DictEntry.mk (PyData.keyHash P (Str.ofString "open")) (Value.str (Str.ofString "open") 153) (Value.builtin "open")), (DictEntry.mk (PyData.keyHash P (Str.ofString "quit")) (Value.str (Str.ofString "quit") 154) (Value.builtin "builtins.quit#opaque")), (DictEntry.mk (PyData.keyHash P (Str.ofString "exit")) (Value.str (Str.ofString "exit") 155) (Value.builtin "builtins.exit#opaque")), (DictEntry.mk (PyData.keyHash P (Str.ofString "copyright")) (Value.str (Str.ofString "copyright") 156) (Value.builtin "builtins.copyright#opaque")), (DictEntry.mk (PyData.keyHash P (Str.ofString "credits")) (Value.str (Str.ofString "credits") 157) (Value.builtin "builtins.credits#opaque")), (DictEntry.mk (PyData.keyHash P (Str.ofString "license")) (Value.str (Str.ofString "license") 158) (Value.builtin "builtins.license#opaque")), (DictEntry.mk (PyData.keyHash P (Str.ofString "help")) (Value.str (Str.ofString "help") 159) (Value.builtin "builtins.help#opaque"))]) 159) (List.toArray []))
def o1 (P : Params) : Obj := (Obj.mk (Value.type "dict") none (Data.dict (List.toArray [(DictEntry.mk (PyData.keyHash P (Str.ofString "builtins")) (Value.str (Str.ofString "builtins") 162) (Value.ref 4)), (DictEntry.mk (PyData.keyHash P (Str.ofString "__main__")) (Value.str (Str.ofString "__main__") 163) (Value.ref 5))]) 2) (List.toArray []))
def o2 (P : Params) : Obj := (Obj.mk Value.none none (Data.dict (List.toArray []) 0) (List.toArray []))
def o3 (P : Params) : Obj := (Obj.mk (Value.type "dict") none (Data.dict (List.toArray [(DictEntry.mk (PyData.keyHash P (Str.ofString "__name__")) (Value.str (Str.ofString "__name__") 165) (Value.str (Str.ofString "__main__") 164)), (DictEntry.mk (PyData.keyHash P (Str.ofString "__doc__")) (Value.str (Str.ofString "__doc__") 166) Value.none), (DictEntry.mk (PyData.keyHash P (Str.ofString "__package__")) (Value.str (Str.ofString "__package__") 167) Value.none), (DictEntry.mk (PyData.keyHash P (Str.ofString "__loader__")) (Value.str (Str.ofString "__loader__") 168) (Value.builtin "__main__.__loader__#opaque")), (DictEntry.mk (PyData.keyHash P (Str.ofString "__spec__")) (Value.str (Str.ofString "__spec__") 169) Value.none), (DictEntry.mk (PyData.keyHash P (Str.ofString "__annotations__")) (Value.str (Str.ofString "__annotations__") 170) (Value.ref 6)), (DictEntry.mk (PyData.keyHash P (Str.ofString "__builtins__")) (Value.str (Str.ofString "__builtins__") 171) (Value.ref 4)), (DictEntry.mk (PyData.keyHash P (Str.ofString "__file__")) (Value.str (Str.ofString "__file__") 173) (Value.str (Str.ofString "/claim/cut.py") 172)), (DictEntry.mk (PyData.keyHash P (Str.ofString "__cached__")) (Value.str (Str.ofString "__cached__") 174) Value.none)]) 9) (List.toArray []))
def o4 (P : Params) : Obj := (Obj.mk (Value.type "module") (some 0) Data.plain (List.toArray []))
def o5 (P : Params) : Obj := (Obj.mk (Value.type "module") (some 3) Data.plain (List.toArray []))
def o6 (P : Params) : Obj := (Obj.mk (Value.type "dict") none (Data.dict (List.toArray []) 0) (List.toArray []))
def o7 (P : Params) : Obj := (Obj.mk (Value.type "tuple") none (Data.seq (List.toArray []) 0) (List.toArray []))
def o8 (P : Params) : Obj := (Obj.mk Value.none none (Data.fields (List.toArray [])) (List.toArray []))
def o9 (P : Params) : Obj := (Obj.mk (Value.type "code") none (Data.fields (List.toArray [(Value.str (Str.ofString "<module>") 176), (Value.str (Str.ofString "<module>") 177), (Value.str (Str.ofString "/claim/cut.py") 178), (Value.int (1 : Int) 0), (Value.int (0 : Int) 0), (Value.int (0 : Int) 0), (Value.int (0 : Int) 0), (Value.int (0 : Int) 0), (Value.ref 7), (Value.bool Bool.false), (Value.int (175 : Int) 0), (Value.ref 8), Value.none, Value.none, Value.none, Value.none, (Value.int (179 : Int) 0), (Value.int (1 : Int) 0), (Value.str (Str.ofString "/claim/cut.py") 180)])) (List.toArray []))
def o10 (P : Params) : Obj := (Obj.mk (Value.type "frame") none Data.plain (List.toArray [(some (Value.ref 9)), (some (Value.ref 3)), (some (Value.ref 3)), none, (some (Value.str (Str.ofString "__main__") 164)), none, (some (Value.ref 0))]))
def o11 (P : Params) : Obj := (Obj.mk (Value.type "code") none (Data.fields (List.toArray [(Value.str (Str.ofString "<module>") 182), (Value.str (Str.ofString "<module>") 183), (Value.str (Str.ofString "/claim/cut.py") 184), (Value.int (1 : Int) 0), (Value.int (0 : Int) 0), (Value.int (0 : Int) 0), (Value.int (0 : Int) 0), (Value.int (0 : Int) 0), (Value.ref 11), (Value.bool Bool.false), (Value.int (181 : Int) 0), (Value.ref 12), Value.none, Value.none, Value.none, Value.none, (Value.int (185 : Int) 0), (Value.int (1 : Int) 0), (Value.str (Str.ofString "/claim/cut.py") 186)])) (List.toArray []))
def o12 (P : Params) : Obj := (Obj.mk (Value.type "frame") none Data.plain (List.toArray [(some (Value.ref 13)), (some (Value.ref 3)), (some (Value.ref 3)), none, (some (Value.str (Str.ofString "__main__") 164)), none, (some (Value.ref 0))]))
def T0 (P : Params) : BT := (.node (o0 P) (.node (o1 P) (.node (o3 P) (.node (o7 P) .nil .nil) (.node (o7 P) .nil .nil)) (.node (o5 P) (.node (o9 P) .nil .nil) (.node (o11 P) .nil .nil))) (.node (o2 P) (.node (o4 P) (.node (o8 P) .nil .nil) (.node (o8 P) .nil .nil)) (.node (o6 P) (.node (o10 P) .nil .nil) (.node (o12 P) .nil .nil))))
def o13 (P : Params) : Obj := (Obj.mk (Value.type "dict") none (Data.dict (List.toArray [(DictEntry.mk (PyData.keyHash P (Str.ofString "__name__")) (Value.str (Str.ofString "__name__") 165) (Value.str (Str.ofString "cpy313.locale") 194)), (DictEntry.mk (PyData.keyHash P (Str.ofString "__doc__")) (Value.str (Str.ofString "__doc__") 166) Value.none), (DictEntry.mk (PyData.keyHash P (Str.ofString "__package__")) (Value.str (Str.ofString "__package__") 167) Value.none), (DictEntry.mk (PyData.keyHash P (Str.ofString "__loader__")) (Value.str (Str.ofString "__loader__") 168) (Value.builtin "__main__.__loader__#opaque")), (DictEntry.mk (PyData.keyHash P (Str.ofString "__spec__")) (Value.str (Str.ofString "__spec__") 169) Value.none), (DictEntry.mk (PyData.keyHash P (Str.ofString "__annotations__")) (Value.str (Str.ofString "__annotations__") 170) (Value.ref 6)), (DictEntry.mk (PyData.keyHash P (Str.ofString "__builtins__")) (Value.str (Str.ofString "__builtins__") 171) (Value.ref 4)), (DictEntry.mk (PyData.keyHash P (Str.ofString "__file__")) (Value.str (Str.ofString "__file__") 173) (Value.str (Str.ofString "/claim/cut.py") 172)), (DictEntry.mk (PyData.keyHash P (Str.ofString "__cached__")) (Value.str (Str.ofString "__cached__") 174) Value.none), (DictEntry.mk (PyData.keyHash P (Str.ofString "_wall")) (Value.str (Str.ofString "_wall") 193) (Value.ref 21)), (DictEntry.mk (PyData.keyHash P (Str.ofString "_replace_encoding")) (Value.str (Str.ofString "_replace_encoding") 205) (Value.ref 28)), (DictEntry.mk (PyData.keyHash P (Str.ofString "_append_modifier")) (Value.str (Str.ofString "_append_modifier") 215) (Value.ref 35)), (DictEntry.mk (PyData.keyHash P (Str.ofString "normalize")) (Value.str (Str.ofString "normalize") 230) (Value.ref 42)), (DictEntry.mk (PyData.keyHash P (Str.ofString "_parse_localename")) (Value.str (Str.ofString "_parse_localename") 239) (Value.ref 49)), (DictEntry.mk (PyData.keyHash P (Str.ofString "locale_encoding_alias")) (Value.str (Str.ofString "locale_encoding_alias") 372) (Value.ref 50))]) 15) (List.toArray []))
def o14 (P : Params) : Obj := (Obj.mk Value.none none (Data.fields (List.toArray [(Value.int (1 : Int) 0), (Value.int (0 : Int) 0), (Value.ref 20), (Value.int (5 : Int) 0), (Value.int (0 : Int) 0), (Value.ref 27), (Value.int (22 : Int) 0), (Value.int (0 : Int) 0), (Value.ref 34), (Value.int (32 : Int) 0), (Value.int (0 : Int) 0), (Value.ref 41), (Value.int (83 : Int) 0), (Value.int (0 : Int) 0), (Value.ref 48)])) (List.toArray []))
def o15 (P : Params) : Obj := (Obj.mk (Value.type "tuple") none (Data.seq (List.toArray [(Value.str (Str.ofString "k") 190)]) 0) (List.toArray []))
def o16 (P : Params) : Obj := (Obj.mk Value.none none (Data.func (FuncData.mk (Str.ofString "_wall") (Str.ofString "_wall") (fdA 0) (FuncBody.stmts (fdB 0)) (fdS 0) 0 [] Value.none Value.none Value.none Value.none none Value.none Value.none 0)) (List.toArray []))
def o17 (P : Params) : Obj := (Obj.mk (Value.type "code") none (Data.fields (List.toArray [(Value.str (Str.ofString "_wall") 187), (Value.str (Str.ofString "_wall") 188), (Value.str (Str.ofString "/claim/cut.py") 189), (Value.int (1 : Int) 0), (Value.int (1 : Int) 0), (Value.int (0 : Int) 0), (Value.int (0 : Int) 0), (Value.int (3 : Int) 0), (Value.ref 15), (Value.bool Bool.true), (Value.int (181 : Int) 0), (Value.ref 16), Value.none, (Value.ref 17), (Value.ref 18), (Value.ref 19), (Value.int (191 : Int) 0), (Value.int (1 : Int) 0), (Value.str (Str.ofString "/claim/cut.py") 192)])) (List.toArray []))
def o18 (P : Params) : Obj := (Obj.mk (Value.type "function") none (Data.func (FuncData.mk (Str.ofString "_wall") (Str.ofString "_wall") (fdA 0) (FuncBody.stmts (fdB 0)) (fdS 0) 3 [] Value.none Value.none Value.none (Value.str (Str.ofString "__main__") 164) none (Value.ref 20) Value.none 0)) (List.toArray []))
def o19 (P : Params) : Obj := (Obj.mk (Value.type "tuple") none (Data.seq (List.toArray [(Value.str (Str.ofString "code") 199), (Value.str (Str.ofString "encoding") 200), (Value.str (Str.ofString "langname") 201), (Value.str (Str.ofString "norm_encoding") 202)]) 0) (List.toArray []))
def o20 (P : Params) : Obj := (Obj.mk Value.none none (Data.func (FuncData.mk (Str.ofString "_replace_encoding") (Str.ofString "_replace_encoding") (fdA 2) (FuncBody.stmts (fdB 2)) (fdS 2) 0 [] Value.none Value.none Value.none Value.none none Value.none Value.none 0)) (List.toArray []))
def o21 (P : Params) : Obj := (Obj.mk (Value.type "code") none (Data.fields (List.toArray [(Value.str (Str.ofString "_replace_encoding") 196), (Value.str (Str.ofString "_replace_encoding") 197), (Value.str (Str.ofString "/claim/cut.py") 198), (Value.int (5 : Int) 0), (Value.int (2 : Int) 0), (Value.int (0 : Int) 0), (Value.int (0 : Int) 0), (Value.int (3 : Int) 0), (Value.ref 22), (Value.bool Bool.true), (Value.int (181 : Int) 0), (Value.ref 23), Value.none, (Value.ref 24), (Value.ref 25), (Value.ref 26), (Value.int (203 : Int) 0), (Value.int (5 : Int) 0), (Value.str (Str.ofString "/claim/cut.py") 204)])) (List.toArray []))
def o22 (P : Params) : Obj := (Obj.mk (Value.type "function") none (Data.func (FuncData.mk (Str.ofString "_replace_encoding") (Str.ofString "_replace_encoding") (fdA 2) (FuncBody.stmts (fdB 2)) (fdS 2) 3 [] Value.none Value.none Value.none (Value.str (Str.ofString "cpy313.locale") 194) none (Value.ref 27) Value.none 0)) (List.toArray []))
def o23 (P : Params) : Obj := (Obj.mk (Value.type "tuple") none (Data.seq (List.toArray [(Value.str (Str.ofString "code") 209), (Value.str (Str.ofString "modifier") 210), (Value.str (Str.ofString "_") 211), (Value.str (Str.ofString "encoding") 212)]) 0) (List.toArray []))
def o24 (P : Params) : Obj := (Obj.mk Value.none none (Data.func (FuncData.mk (Str.ofString "_append_modifier") (Str.ofString "_append_modifier") (fdA 3) (FuncBody.stmts (fdB 3)) (fdS 3) 0 [] Value.none Value.none Value.none Value.none none Value.none Value.none 0)) (List.toArray []))
def o25 (P : Params) : Obj := (Obj.mk (Value.type "code") none (Data.fields (List.toArray [(Value.str (Str.ofString "_append_modifier") 206), (Value.str (Str.ofString "_append_modifier") 207), (Value.str (Str.ofString "/claim/cut.py") 208), (Value.int (22 : Int) 0), (Value.int (2 : Int) 0), (Value.int (0 : Int) 0), (Value.int (0 : Int) 0), (Value.int (3 : Int) 0), (Value.ref 29), (Value.bool Bool.true), (Value.int (181 : Int) 0), (Value.ref 30), Value.none, (Value.ref 31), (Value.ref 32), (Value.ref 33), (Value.int (213 : Int) 0), (Value.int (22 : Int) 0), (Value.str (Str.ofString "/claim/cut.py") 214)])) (List.toArray []))
def o26 (P : Params) : Obj := (Obj.mk (Value.type "function") none (Data.func (FuncData.mk (Str.ofString "_append_modifier") (Str.ofString "_append_modifier") (fdA 3) (FuncBody.stmts (fdB 3)) (fdS 3) 3 [] Value.none Value.none Value.none (Value.str (Str.ofString "cpy313.locale") 194) none (Value.ref 34) Value.none 0)) (List.toArray []))
def o27 (P : Params) : Obj := (Obj.mk (Value.type "tuple") none (Data.seq (List.toArray [(Value.str (Str.ofString "localename") 219), (Value.str (Str.ofString "code") 220), (Value.str (Str.ofString "modifier") 221), (Value.str (Str.ofString "langname") 222), (Value.str (Str.ofString "encoding") 223), (Value.str (Str.ofString "lang_enc") 224), (Value.str (Str.ofString "norm_encoding") 225), (Value.str (Str.ofString "lookup_name") 226), (Value.str (Str.ofString "defmod") 227)]) 0) (List.toArray []))
def o28 (P : Params) : Obj := (Obj.mk Value.none none (Data.func (FuncData.mk (Str.ofString "normalize") (Str.ofString "normalize") (fdA 4) (FuncBody.stmts (fdB 4)) (fdS 4) 0 [] Value.none Value.none Value.none Value.none none Value.none Value.none 0)) (List.toArray []))
def o29 (P : Params) : Obj := (Obj.mk (Value.type "code") none (Data.fields (List.toArray [(Value.str (Str.ofString "normalize") 216), (Value.str (Str.ofString "normalize") 217), (Value.str (Str.ofString "/claim/cut.py") 218), (Value.int (32 : Int) 0), (Value.int (1 : Int) 0), (Value.int (0 : Int) 0), (Value.int (0 : Int) 0), (Value.int (3 : Int) 0), (Value.ref 36), (Value.bool Bool.true), (Value.int (181 : Int) 0), (Value.ref 37), Value.none, (Value.ref 38), (Value.ref 39), (Value.ref 40), (Value.int (228 : Int) 0), (Value.int (32 : Int) 0), (Value.str (Str.ofString "/claim/cut.py") 229)])) (List.toArray []))
def o30 (P : Params) : Obj := (Obj.mk (Value.type "function") none (Data.func (FuncData.mk (Str.ofString "normalize") (Str.ofString "normalize") (fdA 4) (FuncBody.stmts (fdB 4)) (fdS 4) 3 [] Value.none Value.none Value.none (Value.str (Str.ofString "cpy313.locale") 194) none (Value.ref 41) Value.none 0)) (List.toArray []))
def o31 (P : Params) : Obj := (Obj.mk (Value.type "tuple") none (Data.seq (List.toArray [(Value.str (Str.ofString "localename") 234), (Value.str (Str.ofString "code") 235), (Value.str (Str.ofString "modifier") 236)]) 0) (List.toArray []))
def o32 (P : Params) : Obj := (Obj.mk Value.none none (Data.func (FuncData.mk (Str.ofString "_parse_localename") (Str.ofString "_parse_localename") (fdA 5) (FuncBody.stmts (fdB 5)) (fdS 5) 0 [] Value.none Value.none Value.none Value.none none Value.none Value.none 0)) (List.toArray []))
def o33 (P : Params) : Obj := (Obj.mk (Value.type "code") none (Data.fields (List.toArray [(Value.str (Str.ofString "_parse_localename") 231), (Value.str (Str.ofString "_parse_localename") 232), (Value.str (Str.ofString "/claim/cut.py") 233), (Value.int (83 : Int) 0), (Value.int (1 : Int) 0), (Value.int (0 : Int) 0), (Value.int (0 : Int) 0), (Value.int (3 : Int) 0), (Value.ref 43), (Value.bool Bool.true), (Value.int (181 : Int) 0), (Value.ref 44), Value.none, (Value.ref 45), (Value.ref 46), (Value.ref 47), (Value.int (237 : Int) 0), (Value.int (83 : Int) 0), (Value.str (Str.ofString "/claim/cut.py") 238)])) (List.toArray []))
def o34 (P : Params) : Obj := (Obj.mk (Value.type "function") none (Data.func (FuncData.mk (Str.ofString "_parse_localename") (Str.ofString "_parse_localename") (fdA 5) (FuncBody.stmts (fdB 5)) (fdS 5) 3 [] Value.none Value.none Value.none (Value.str (Str.ofString "cpy313.locale") 194) none (Value.ref 48) Value.none 0)) (List.toArray []))
def o35 (P : Params) : Obj := (Obj.mk (Value.type "dict") none (Data.dict (List.toArray [(DictEntry.mk (PyData.keyHash P (ek 0)) (Value.str (ek 0) 240) (Value.str (Str.ofString "C") 241)), (DictEntry.mk (PyData.keyHash P (Str.ofString "c")) (Value.str (Str.ofString "c") 243) (Value.str (Str.ofString "C") 244)), (DictEntry.mk (PyData.keyHash P (Str.ofString "en")) (Value.str (Str.ofString "en") 246) (Value.str (ev 2) 247)), (DictEntry.mk (PyData.keyHash P (ek 3)) (Value.str (ek 3) 249) (Value.str (ev 3) 250)), (DictEntry.mk (PyData.keyHash P (ek 4)) (Value.str (ek 4) 252) (Value.str (ev 3) 253)), (DictEntry.mk (PyData.keyHash P (ek 5)) (Value.str (ek 5) 255) (Value.str (ev 5) 256)), (DictEntry.mk (PyData.keyHash P (ek 6)) (Value.str (ek 6) 258) (Value.str (ev 6) 259)), (DictEntry.mk (PyData.keyHash P (ek 7)) (Value.str (ek 7) 261) (Value.str (ev 7) 262)), (DictEntry.mk (PyData.keyHash P (ek 8)) (Value.str (ek 8) 264) (Value.str (ev 8) 265)), (DictEntry.mk (PyData.keyHash P (ek 9)) (Value.str (ek 9) 267) (Value.str (ev 9) 268)), (DictEntry.mk (PyData.keyHash P (ek 10)) (Value.str (ek 10) 270) (Value.str (ev 2) 271)), (DictEntry.mk (PyData.keyHash P (ek 11)) (Value.str (ek 11) 273) (Value.str (ev 11) 274)), (DictEntry.mk (PyData.keyHash P (ek 12)) (Value.str (ek 12) 276) (Value.str (ev 12) 277)), (DictEntry.mk (PyData.keyHash P (ek 13)) (Value.str (ek 13) 279) (Value.str (ev 13) 280)), (DictEntry.mk (PyData.keyHash P (ek 14)) (Value.str (ek 14) 282) (Value.str (ev 2) 283)), (DictEntry.mk (PyData.keyHash P (ek 15)) (Value.str (ek 15) 285) (Value.str (ev 2) 286)), (DictEntry.mk (PyData.keyHash P (ek 16)) (Value.str (ek 16) 288) (Value.str (ev 2) 289)), (DictEntry.mk (PyData.keyHash P (ek 17)) (Value.str (ek 17) 291) (Value.str (ev 17) 292)), (DictEntry.mk (PyData.keyHash P (ek 18)) (Value.str (ek 18) 294) (Value.str (ev 18) 295)), (DictEntry.mk (PyData.keyHash P (ek 19)) (Value.str (ek 19) 297) (Value.str (ev 19) 298)), (DictEntry.mk (PyData.keyHash P (ek 20)) (Value.str (ek 20) 300) (Value.str (ev 20) 301)), (DictEntry.mk (PyData.keyHash P (ek 21)) (Value.str (ek 21) 303) (Value.str (ev 13) 304)), (DictEntry.mk (PyData.keyHash P (ek 22)) (Value.str (ek 22) 306) (Value.str (ev 22) 307)), (DictEntry.mk (PyData.keyHash P (ek 23)) (Value.str (ek 23) 309) (Value.str (ev 11) 310)), (DictEntry.mk (PyData.keyHash P (ek 24)) (Value.str (ek 24) 312) (Value.str (ev 24) 313)), (DictEntry.mk (PyData.keyHash P (ek 25)) (Value.str (ek 25) 315) (Value.str (ev 25) 316)), (DictEntry.mk (PyData.keyHash P (ek 26)) (Value.str (ek 26) 318) (Value.str (ev 12) 319)), (DictEntry.mk (PyData.keyHash P (ek 27)) (Value.str (ek 27) 321) (Value.str (ev 27) 322)), (DictEntry.mk (PyData.keyHash P (ek 28)) (Value.str (ek 28) 324) (Value.str (ev 28) 325)), (DictEntry.mk (PyData.keyHash P (ek 29)) (Value.str (ek 29) 327) (Value.str (ev 29) 328)), (DictEntry.mk (PyData.keyHash P (ek 30)) (Value.str (ek 30) 330) (Value.str (ev 30) 331)), (DictEntry.mk (PyData.keyHash P (ek 31)) (Value.str (ek 31) 333) (Value.str (ev 3) 334)), (DictEntry.mk (PyData.keyHash P (ek 32)) (Value.str (ek 32) 336) (Value.str (ev 32) 337)), (DictEntry.mk (PyData.keyHash P (ek 33)) (Value.str (ek 33) 339) (Value.str (ev 33) 340)), (DictEntry.mk (PyData.keyHash P (ek 34)) (Value.str (ek 34) 342) (Value.str (ev 5) 343)), (DictEntry.mk (PyData.keyHash P (ek 35)) (Value.str (ek 35) 344) (Value.str (ev 35) 345)), (DictEntry.mk (PyData.keyHash P (ek 36)) (Value.str (ek 36) 346) (Value.str (ev 36) 347)), (DictEntry.mk (PyData.keyHash P (ek 37)) (Value.str (ek 37) 348) (Value.str (ev 37) 349)), (DictEntry.mk (PyData.keyHash P (ek 38)) (Value.str (ek 38) 350) (Value.str (ev 38) 351)), (DictEntry.mk (PyData.keyHash P (ek 39)) (Value.str (ek 39) 352) (Value.str (ev 39) 353)), (DictEntry.mk (PyData.keyHash P (ek 40)) (Value.str (ek 40) 354) (Value.str (ev 40) 355)), (DictEntry.mk (PyData.keyHash P (ek 41)) (Value.str (ek 41) 356) (Value.str (ev 7) 357)), (DictEntry.mk (PyData.keyHash P (ek 42)) (Value.str (ek 42) 358) (Value.str (ev 8) 359)), (DictEntry.mk (PyData.keyHash P (ek 43)) (Value.str (ek 43) 360) (Value.str (ev 9) 361))]) 44) (List.toArray []))
def o36 (P : Params) : Obj := (Obj.mk (Value.type "dict") none (Data.dict (List.toArray [(DictEntry.mk (PyData.keyHash P (ek 17)) (Value.str (ek 17) 291) (Value.str (ev 17) 292)), (DictEntry.mk (PyData.keyHash P (ek 18)) (Value.str (ek 18) 294) (Value.str (ev 18) 295)), (DictEntry.mk (PyData.keyHash P (ek 19)) (Value.str (ek 19) 297) (Value.str (ev 19) 298)), (DictEntry.mk (PyData.keyHash P (ek 20)) (Value.str (ek 20) 300) (Value.str (ev 20) 301)), (DictEntry.mk (PyData.keyHash P (ek 21)) (Value.str (ek 21) 303) (Value.str (ev 13) 304)), (DictEntry.mk (PyData.keyHash P (ek 22)) (Value.str (ek 22) 306) (Value.str (ev 22) 307)), (DictEntry.mk (PyData.keyHash P (ek 23)) (Value.str (ek 23) 309) (Value.str (ev 11) 310)), (DictEntry.mk (PyData.keyHash P (ek 24)) (Value.str (ek 24) 312) (Value.str (ev 24) 313)), (DictEntry.mk (PyData.keyHash P (ek 25)) (Value.str (ek 25) 315) (Value.str (ev 25) 316)), (DictEntry.mk (PyData.keyHash P (ek 26)) (Value.str (ek 26) 318) (Value.str (ev 12) 319)), (DictEntry.mk (PyData.keyHash P (ek 27)) (Value.str (ek 27) 321) (Value.str (ev 27) 322)), (DictEntry.mk (PyData.keyHash P (ek 28)) (Value.str (ek 28) 324) (Value.str (ev 28) 325)), (DictEntry.mk (PyData.keyHash P (ek 29)) (Value.str (ek 29) 327) (Value.str (ev 29) 328)), (DictEntry.mk (PyData.keyHash P (ek 30)) (Value.str (ek 30) 330) (Value.str (ev 30) 331)), (DictEntry.mk (PyData.keyHash P (ek 31)) (Value.str (ek 31) 333) (Value.str (ev 3) 334)), (DictEntry.mk (PyData.keyHash P (ek 32)) (Value.str (ek 32) 336) (Value.str (ev 32) 337)), (DictEntry.mk (PyData.keyHash P (ek 33)) (Value.str (ek 33) 339) (Value.str (ev 33) 340))]) 17) (List.toArray []))
def o37 (P : Params) : Obj := (Obj.mk (Value.type "dict") none (Data.dict (List.toArray [(DictEntry.mk (PyData.keyHash P (ek 34)) (Value.str (ek 34) 342) (Value.str (ev 5) 343)), (DictEntry.mk (PyData.keyHash P (ek 35)) (Value.str (ek 35) 344) (Value.str (ev 35) 345)), (DictEntry.mk (PyData.keyHash P (ek 36)) (Value.str (ek 36) 346) (Value.str (ev 36) 347)), (DictEntry.mk (PyData.keyHash P (ek 37)) (Value.str (ek 37) 348) (Value.str (ev 37) 349)), (DictEntry.mk (PyData.keyHash P (ek 38)) (Value.str (ek 38) 350) (Value.str (ev 38) 351)), (DictEntry.mk (PyData.keyHash P (ek 39)) (Value.str (ek 39) 352) (Value.str (ev 39) 353)), (DictEntry.mk (PyData.keyHash P (ek 40)) (Value.str (ek 40) 354) (Value.str (ev 40) 355)), (DictEntry.mk (PyData.keyHash P (ek 41)) (Value.str (ek 41) 356) (Value.str (ev 7) 357)), (DictEntry.mk (PyData.keyHash P (ek 42)) (Value.str (ek 42) 358) (Value.str (ev 8) 359)), (DictEntry.mk (PyData.keyHash P (ek 43)) (Value.str (ek 43) 360) (Value.str (ev 9) 361))]) 10) (List.toArray []))
def TF (P : Params) : BT := (.node (o0 P) (.node (o1 P) (.node (o13 P) (.node (o7 P) (.node (o7 P) (.node (o23 P) .nil .nil) (.node (o32 P) .nil .nil)) (.node (o8 P) (.node (o7 P) .nil .nil) .nil)) (.node (o7 P) (.node (o16 P) (.node (o26 P) .nil .nil) (.node (o36 P) .nil .nil)) (.node (o21 P) (.node (o7 P) .nil .nil) .nil))) (.node (o5 P) (.node (o9 P) (.node (o15 P) (.node (o24 P) .nil .nil) (.node (o34 P) .nil .nil)) (.node (o7 P) (.node (o29 P) .nil .nil) .nil)) (.node (o11 P) (.node (o18 P) (.node (o8 P) .nil .nil) .nil) (.node (o7 P) (.node (o31 P) .nil .nil) .nil)))) (.node (o2 P) (.node (o4 P) (.node (o8 P) (.node (o8 P) (.node (o7 P) .nil .nil) (.node (o33 P) .nil .nil)) (.node (o19 P) (.node (o28 P) .nil .nil) .nil)) (.node (o14 P) (.node (o17 P) (.node (o7 P) .nil .nil) (.node (o37 P) .nil .nil)) (.node (o22 P) (.node (o8 P) .nil .nil) .nil))) (.node (o6 P) (.node (o10 P) (.node (o7 P) (.node (o25 P) .nil .nil) (.node (o35 P) .nil .nil)) (.node (o20 P) (.node (o30 P) .nil .nil) .nil)) (.node (o12 P) (.node (o7 P) (.node (o27 P) .nil .nil) .nil) (.node (o8 P) (.node (o7 P) .nil .nil) .nil)))))
def o38 (P : Params) : Obj := (Obj.mk (Value.type "dict") none (Data.dict (List.toArray [(DictEntry.mk (PyData.keyHash P (Str.ofString "__name__")) (Value.str (Str.ofString "__name__") 165) (Value.str (Str.ofString "cpy313.locale") 194)), (DictEntry.mk (PyData.keyHash P (Str.ofString "__doc__")) (Value.str (Str.ofString "__doc__") 166) Value.none), (DictEntry.mk (PyData.keyHash P (Str.ofString "__package__")) (Value.str (Str.ofString "__package__") 167) Value.none), (DictEntry.mk (PyData.keyHash P (Str.ofString "__loader__")) (Value.str (Str.ofString "__loader__") 168) (Value.builtin "__main__.__loader__#opaque")), (DictEntry.mk (PyData.keyHash P (Str.ofString "__spec__")) (Value.str (Str.ofString "__spec__") 169) Value.none), (DictEntry.mk (PyData.keyHash P (Str.ofString "__annotations__")) (Value.str (Str.ofString "__annotations__") 170) (Value.ref 6)), (DictEntry.mk (PyData.keyHash P (Str.ofString "__builtins__")) (Value.str (Str.ofString "__builtins__") 171) (Value.ref 4)), (DictEntry.mk (PyData.keyHash P (Str.ofString "__file__")) (Value.str (Str.ofString "__file__") 173) (Value.str (Str.ofString "/claim/cut.py") 172)), (DictEntry.mk (PyData.keyHash P (Str.ofString "__cached__")) (Value.str (Str.ofString "__cached__") 174) Value.none), (DictEntry.mk (PyData.keyHash P (Str.ofString "_wall")) (Value.str (Str.ofString "_wall") 193) (Value.ref 21)), (DictEntry.mk (PyData.keyHash P (Str.ofString "_replace_encoding")) (Value.str (Str.ofString "_replace_encoding") 205) (Value.ref 28)), (DictEntry.mk (PyData.keyHash P (Str.ofString "_append_modifier")) (Value.str (Str.ofString "_append_modifier") 215) (Value.ref 35)), (DictEntry.mk (PyData.keyHash P (Str.ofString "normalize")) (Value.str (Str.ofString "normalize") 230) (Value.ref 42)), (DictEntry.mk (PyData.keyHash P (Str.ofString "_parse_localename")) (Value.str (Str.ofString "_parse_localename") 239) (Value.ref 49)), (DictEntry.mk (PyData.keyHash P (Str.ofString "locale_encoding_alias")) (Value.str (Str.ofString "locale_encoding_alias") 372) (Value.ref 50)), (DictEntry.mk (PyData.keyHash P (Str.ofString "k")) (Value.str (Str.ofString "k") 373) (Value.str (ek 0) 240)), (DictEntry.mk (PyData.keyHash P (Str.ofString "v")) (Value.str (Str.ofString "v") 374) (Value.str (Str.ofString "C") 241))]) 17) (List.toArray []))
def o39 (P : Params) : Obj := (Obj.mk (Value.type "dict_items") none (Data.fields (List.toArray [(Value.ref 50)])) (List.toArray []))
def o40 (P : Params) : Obj := (Obj.mk (Value.type "list") none (Data.seq (List.toArray [(Value.ref 56), (Value.ref 57), (Value.ref 58), (Value.ref 59), (Value.ref 60), (Value.ref 61), (Value.ref 62), (Value.ref 63), (Value.ref 64), (Value.ref 65), (Value.ref 66), (Value.ref 67), (Value.ref 68), (Value.ref 69), (Value.ref 70), (Value.ref 71), (Value.ref 72), (Value.ref 73), (Value.ref 74), (Value.ref 75), (Value.ref 76), (Value.ref 77), (Value.ref 78), (Value.ref 79), (Value.ref 80), (Value.ref 81), (Value.ref 82), (Value.ref 83), (Value.ref 84), (Value.ref 85), (Value.ref 86), (Value.ref 87), (Value.ref 88), (Value.ref 89), (Value.ref 90), (Value.ref 91), (Value.ref 92), (Value.ref 93), (Value.ref 94), (Value.ref 95), (Value.ref 96), (Value.ref 97), (Value.ref 98), (Value.ref 99)]) 46) (List.toArray []))
def o41 (P : Params) : Obj := (Obj.mk (Value.type "dict_itemiterator") none (Data.fields (List.toArray [(Value.int (56 : Int) 0), (Value.bool Bool.true), Value.none, (Value.int (44 : Int) 0), (Value.int (44 : Int) 0), (Value.int (44 : Int) 0), (Value.str (ek 0) 240), (Value.str (Str.ofString "C") 241)])) (List.toArray []))
def o42 (P : Params) : Obj := (Obj.mk (Value.type "tuple") none (Data.seq (List.toArray [(Value.str (ek 0) 240), (Value.str (Str.ofString "C") 241)]) 0) (List.toArray []))
def o43 (P : Params) : Obj := (Obj.mk (Value.type "tuple") none (Data.seq (List.toArray [(Value.str (Str.ofString "c") 243), (Value.str (Str.ofString "C") 244)]) 0) (List.toArray []))
def o44 (P : Params) : Obj := (Obj.mk (Value.type "tuple") none (Data.seq (List.toArray [(Value.str (Str.ofString "en") 246), (Value.str (ev 2) 247)]) 0) (List.toArray []))
def o45 (P : Params) : Obj := (Obj.mk (Value.type "tuple") none (Data.seq (List.toArray [(Value.str (ek 3) 249), (Value.str (ev 3) 250)]) 0) (List.toArray []))
def o46 (P : Params) : Obj := (Obj.mk (Value.type "tuple") none (Data.seq (List.toArray [(Value.str (ek 4) 252), (Value.str (ev 3) 253)]) 0) (List.toArray []))
def o47 (P : Params) : Obj := (Obj.mk (Value.type "tuple") none (Data.seq (List.toArray [(Value.str (ek 5) 255), (Value.str (ev 5) 256)]) 0) (List.toArray []))
def o48 (P : Params) : Obj := (Obj.mk (Value.type "tuple") none (Data.seq (List.toArray [(Value.str (ek 6) 258), (Value.str (ev 6) 259)]) 0) (List.toArray []))
def o49 (P : Params) : Obj := (Obj.mk (Value.type "tuple") none (Data.seq (List.toArray [(Value.str (ek 7) 261), (Value.str (ev 7) 262)]) 0) (List.toArray []))
def o50 (P : Params) : Obj := (Obj.mk (Value.type "tuple") none (Data.seq (List.toArray [(Value.str (ek 8) 264), (Value.str (ev 8) 265)]) 0) (List.toArray []))
def o51 (P : Params) : Obj := (Obj.mk (Value.type "tuple") none (Data.seq (List.toArray [(Value.str (ek 9) 267), (Value.str (ev 9) 268)]) 0) (List.toArray []))
def o52 (P : Params) : Obj := (Obj.mk (Value.type "tuple") none (Data.seq (List.toArray [(Value.str (ek 10) 270), (Value.str (ev 2) 271)]) 0) (List.toArray []))
def o53 (P : Params) : Obj := (Obj.mk (Value.type "tuple") none (Data.seq (List.toArray [(Value.str (ek 11) 273), (Value.str (ev 11) 274)]) 0) (List.toArray []))
def o54 (P : Params) : Obj := (Obj.mk (Value.type "tuple") none (Data.seq (List.toArray [(Value.str (ek 12) 276), (Value.str (ev 12) 277)]) 0) (List.toArray []))
def o55 (P : Params) : Obj := (Obj.mk (Value.type "tuple") none (Data.seq (List.toArray [(Value.str (ek 13) 279), (Value.str (ev 13) 280)]) 0) (List.toArray []))
def o56 (P : Params) : Obj := (Obj.mk (Value.type "tuple") none (Data.seq (List.toArray [(Value.str (ek 14) 282), (Value.str (ev 2) 283)]) 0) (List.toArray []))
def o57 (P : Params) : Obj := (Obj.mk (Value.type "tuple") none (Data.seq (List.toArray [(Value.str (ek 15) 285), (Value.str (ev 2) 286)]) 0) (List.toArray []))
def o58 (P : Params) : Obj := (Obj.mk (Value.type "tuple") none (Data.seq (List.toArray [(Value.str (ek 16) 288), (Value.str (ev 2) 289)]) 0) (List.toArray []))
def o59 (P : Params) : Obj := (Obj.mk (Value.type "tuple") none (Data.seq (List.toArray [(Value.str (ek 17) 291), (Value.str (ev 17) 292)]) 0) (List.toArray []))
def o60 (P : Params) : Obj := (Obj.mk (Value.type "tuple") none (Data.seq (List.toArray [(Value.str (ek 18) 294), (Value.str (ev 18) 295)]) 0) (List.toArray []))
def o61 (P : Params) : Obj := (Obj.mk (Value.type "tuple") none (Data.seq (List.toArray [(Value.str (ek 19) 297), (Value.str (ev 19) 298)]) 0) (List.toArray []))
def o62 (P : Params) : Obj := (Obj.mk (Value.type "tuple") none (Data.seq (List.toArray [(Value.str (ek 20) 300), (Value.str (ev 20) 301)]) 0) (List.toArray []))
def o63 (P : Params) : Obj := (Obj.mk (Value.type "tuple") none (Data.seq (List.toArray [(Value.str (ek 21) 303), (Value.str (ev 13) 304)]) 0) (List.toArray []))
def o64 (P : Params) : Obj := (Obj.mk (Value.type "tuple") none (Data.seq (List.toArray [(Value.str (ek 22) 306), (Value.str (ev 22) 307)]) 0) (List.toArray []))
def o65 (P : Params) : Obj := (Obj.mk (Value.type "tuple") none (Data.seq (List.toArray [(Value.str (ek 23) 309), (Value.str (ev 11) 310)]) 0) (List.toArray []))
def o66 (P : Params) : Obj := (Obj.mk (Value.type "tuple") none (Data.seq (List.toArray [(Value.str (ek 24) 312), (Value.str (ev 24) 313)]) 0) (List.toArray []))
def o67 (P : Params) : Obj := (Obj.mk (Value.type "tuple") none (Data.seq (List.toArray [(Value.str (ek 25) 315), (Value.str (ev 25) 316)]) 0) (List.toArray []))
def o68 (P : Params) : Obj := (Obj.mk (Value.type "tuple") none (Data.seq (List.toArray [(Value.str (ek 26) 318), (Value.str (ev 12) 319)]) 0) (List.toArray []))
def o69 (P : Params) : Obj := (Obj.mk (Value.type "tuple") none (Data.seq (List.toArray [(Value.str (ek 27) 321), (Value.str (ev 27) 322)]) 0) (List.toArray []))
def o70 (P : Params) : Obj := (Obj.mk (Value.type "tuple") none (Data.seq (List.toArray [(Value.str (ek 28) 324), (Value.str (ev 28) 325)]) 0) (List.toArray []))
def o71 (P : Params) : Obj := (Obj.mk (Value.type "tuple") none (Data.seq (List.toArray [(Value.str (ek 29) 327), (Value.str (ev 29) 328)]) 0) (List.toArray []))
def o72 (P : Params) : Obj := (Obj.mk (Value.type "tuple") none (Data.seq (List.toArray [(Value.str (ek 30) 330), (Value.str (ev 30) 331)]) 0) (List.toArray []))
def o73 (P : Params) : Obj := (Obj.mk (Value.type "tuple") none (Data.seq (List.toArray [(Value.str (ek 31) 333), (Value.str (ev 3) 334)]) 0) (List.toArray []))
def o74 (P : Params) : Obj := (Obj.mk (Value.type "tuple") none (Data.seq (List.toArray [(Value.str (ek 32) 336), (Value.str (ev 32) 337)]) 0) (List.toArray []))
def o75 (P : Params) : Obj := (Obj.mk (Value.type "tuple") none (Data.seq (List.toArray [(Value.str (ek 33) 339), (Value.str (ev 33) 340)]) 0) (List.toArray []))
def o76 (P : Params) : Obj := (Obj.mk (Value.type "tuple") none (Data.seq (List.toArray [(Value.str (ek 34) 342), (Value.str (ev 5) 343)]) 0) (List.toArray []))
def o77 (P : Params) : Obj := (Obj.mk (Value.type "tuple") none (Data.seq (List.toArray [(Value.str (ek 35) 344), (Value.str (ev 35) 345)]) 0) (List.toArray []))
def o78 (P : Params) : Obj := (Obj.mk (Value.type "tuple") none (Data.seq (List.toArray [(Value.str (ek 36) 346), (Value.str (ev 36) 347)]) 0) (List.toArray []))
def o79 (P : Params) : Obj := (Obj.mk (Value.type "tuple") none (Data.seq (List.toArray [(Value.str (ek 37) 348), (Value.str (ev 37) 349)]) 0) (List.toArray []))
def o80 (P : Params) : Obj := (Obj.mk (Value.type "tuple") none (Data.seq (List.toArray [(Value.str (ek 38) 350), (Value.str (ev 38) 351)]) 0) (List.toArray []))
def o81 (P : Params) : Obj := (Obj.mk (Value.type "tuple") none (Data.seq (List.toArray [(Value.str (ek 39) 352), (Value.str (ev 39) 353)]) 0) (List.toArray []))
def o82 (P : Params) : Obj := (Obj.mk (Value.type "tuple") none (Data.seq (List.toArray [(Value.str (ek 40) 354), (Value.str (ev 40) 355)]) 0) (List.toArray []))
def o83 (P : Params) : Obj := (Obj.mk (Value.type "tuple") none (Data.seq (List.toArray [(Value.str (ek 41) 356), (Value.str (ev 7) 357)]) 0) (List.toArray []))
def o84 (P : Params) : Obj := (Obj.mk (Value.type "tuple") none (Data.seq (List.toArray [(Value.str (ek 42) 358), (Value.str (ev 8) 359)]) 0) (List.toArray []))
def o85 (P : Params) : Obj := (Obj.mk (Value.type "tuple") none (Data.seq (List.toArray [(Value.str (ek 43) 360), (Value.str (ev 9) 361)]) 0) (List.toArray []))
def o86 (P : Params) : Obj := (Obj.mk (Value.type "StopIteration") none (Data.fields (List.toArray [(Value.ref 100), Value.none, Value.none, Value.none, (Value.bool Bool.false), Value.none])) (List.toArray []))
def o87 (P : Params) : Obj := (Obj.mk (Value.type "list") none (Data.seq (List.toArray [(Value.ref 56), (Value.ref 66), (Value.ref 69), (Value.ref 67), (Value.ref 68), (Value.ref 61), (Value.ref 70), (Value.ref 57), (Value.ref 97), (Value.ref 98), (Value.ref 99), (Value.ref 58), (Value.ref 90), (Value.ref 91), (Value.ref 87), (Value.ref 72), (Value.ref 73), (Value.ref 74), (Value.ref 75), (Value.ref 76), (Value.ref 77), (Value.ref 78), (Value.ref 79), (Value.ref 80), (Value.ref 81), (Value.ref 82), (Value.ref 83), (Value.ref 84), (Value.ref 85), (Value.ref 86), (Value.ref 59), (Value.ref 60), (Value.ref 93), (Value.ref 94), (Value.ref 95), (Value.ref 62), (Value.ref 96), (Value.ref 71), (Value.ref 63), (Value.ref 64), (Value.ref 65), (Value.ref 88), (Value.ref 89), (Value.ref 92)]) 2) (List.toArray []))
def o88 (P : Params) : Obj := (Obj.mk (Value.type "tuple") none (Data.seq (List.toArray [(Value.ref 56), (Value.ref 57), (Value.ref 58), (Value.ref 59), (Value.ref 60), (Value.ref 61), (Value.ref 62), (Value.ref 63), (Value.ref 64), (Value.ref 65), (Value.ref 66), (Value.ref 67), (Value.ref 68), (Value.ref 69), (Value.ref 70), (Value.ref 71), (Value.ref 72), (Value.ref 73), (Value.ref 74), (Value.ref 75), (Value.ref 76), (Value.ref 77), (Value.ref 78), (Value.ref 79), (Value.ref 80), (Value.ref 81), (Value.ref 82), (Value.ref 83), (Value.ref 84), (Value.ref 85), (Value.ref 86), (Value.ref 87), (Value.ref 88), (Value.ref 89), (Value.ref 90), (Value.ref 91), (Value.ref 92), (Value.ref 93), (Value.ref 94), (Value.ref 95), (Value.ref 96), (Value.ref 97), (Value.ref 98), (Value.ref 99)]) 0) (List.toArray []))
def o89 (P : Params) : Obj := (Obj.mk (Value.type "list") none (Data.seq (List.toArray []) 0) (List.toArray []))
def o90 (P : Params) : Obj := (Obj.mk (Value.type "list_iterator") none (Data.fields (List.toArray [(Value.ref 102), (Value.int (1 : Int) 0)])) (List.toArray []))
def o91 (P : Params) : Obj := (Obj.mk (Value.type "tuple_iterator") none (Data.fields (List.toArray [Value.none, (Value.int (2 : Int) 0)])) (List.toArray []))
def o92 (P : Params) : Obj := (Obj.mk (Value.type "StopIteration") none (Data.fields (List.toArray [(Value.ref 107), Value.none, Value.none, Value.none, (Value.bool Bool.false), Value.none])) (List.toArray []))
def TB1 (P : Params) : BT := (.node (o0 P) (.node (o1 P) (.node (o38 P) (.node (o7 P) (.node (o7 P) (.node (o23 P) (.node (o49 P) .nil .nil) (.node (o81 P) .nil .nil)) (.node (o32 P) (.node (o65 P) .nil .nil) .nil)) (.node (o8 P) (.node (o7 P) (.node (o57 P) .nil .nil) (.node (o88 P) .nil .nil)) (.node (o41 P) (.node (o73 P) .nil .nil) .nil))) (.node (o7 P) (.node (o16 P) (.node (o26 P) (.node (o53 P) .nil .nil) (.node (o85 P) .nil .nil)) (.node (o36 P) (.node (o69 P) .nil .nil) .nil)) (.node (o21 P) (.node (o7 P) (.node (o61 P) .nil .nil) (.node (o7 P) .nil .nil)) (.node (o45 P) (.node (o77 P) .nil .nil) .nil)))) (.node (o5 P) (.node (o9 P) (.node (o15 P) (.node (o24 P) (.node (o51 P) .nil .nil) (.node (o83 P) .nil .nil)) (.node (o34 P) (.node (o67 P) .nil .nil) .nil)) (.node (o7 P) (.node (o29 P) (.node (o59 P) .nil .nil) (.node (o90 P) .nil .nil)) (.node (o43 P) (.node (o75 P) .nil .nil) .nil))) (.node (o11 P) (.node (o18 P) (.node (o8 P) (.node (o55 P) .nil .nil) (.node (o86 P) .nil .nil)) (.node (o39 P) (.node (o71 P) .nil .nil) .nil)) (.node (o7 P) (.node (o31 P) (.node (o63 P) .nil .nil) .nil) (.node (o47 P) (.node (o79 P) .nil .nil) .nil))))) (.node (o2 P) (.node (o4 P) (.node (o8 P) (.node (o8 P) (.node (o7 P) (.node (o50 P) .nil .nil) (.node (o82 P) .nil .nil)) (.node (o33 P) (.node (o66 P) .nil .nil) .nil)) (.node (o19 P) (.node (o28 P) (.node (o58 P) .nil .nil) (.node (o89 P) .nil .nil)) (.node (o42 P) (.node (o74 P) .nil .nil) .nil))) (.node (o14 P) (.node (o17 P) (.node (o7 P) (.node (o54 P) .nil .nil) (.node (o7 P) .nil .nil)) (.node (o37 P) (.node (o70 P) .nil .nil) .nil)) (.node (o22 P) (.node (o8 P) (.node (o62 P) .nil .nil) (.node (o92 P) .nil .nil)) (.node (o46 P) (.node (o78 P) .nil .nil) .nil)))) (.node (o6 P) (.node (o10 P) (.node (o7 P) (.node (o25 P) (.node (o52 P) .nil .nil) (.node (o84 P) .nil .nil)) (.node (o35 P) (.node (o68 P) .nil .nil) .nil)) (.node (o20 P) (.node (o30 P) (.node (o60 P) .nil .nil) (.node (o91 P) .nil .nil)) (.node (o44 P) (.node (o76 P) .nil .nil) .nil))) (.node (o12 P) (.node (o7 P) (.node (o27 P) (.node (o56 P) .nil .nil) (.node (o87 P) .nil .nil)) (.node (o40 P) (.node (o72 P) .nil .nil) .nil)) (.node (o8 P) (.node (o7 P) (.node (o64 P) .nil .nil) .nil) (.node (o48 P) (.node (o80 P) .nil .nil) .nil))))))
def o93 (P : Params) : Obj := (Obj.mk (Value.type "dict") none (Data.dict (List.toArray [(DictEntry.mk (PyData.keyHash P (Str.ofString "__name__")) (Value.str (Str.ofString "__name__") 165) (Value.str (Str.ofString "cpy313.locale") 194)), (DictEntry.mk (PyData.keyHash P (Str.ofString "__doc__")) (Value.str (Str.ofString "__doc__") 166) Value.none), (DictEntry.mk (PyData.keyHash P (Str.ofString "__package__")) (Value.str (Str.ofString "__package__") 167) Value.none), (DictEntry.mk (PyData.keyHash P (Str.ofString "__loader__")) (Value.str (Str.ofString "__loader__") 168) (Value.builtin "__main__.__loader__#opaque")), (DictEntry.mk (PyData.keyHash P (Str.ofString "__spec__")) (Value.str (Str.ofString "__spec__") 169) Value.none), (DictEntry.mk (PyData.keyHash P (Str.ofString "__annotations__")) (Value.str (Str.ofString "__annotations__") 170) (Value.ref 6)), (DictEntry.mk (PyData.keyHash P (Str.ofString "__builtins__")) (Value.str (Str.ofString "__builtins__") 171) (Value.ref 4)), (DictEntry.mk (PyData.keyHash P (Str.ofString "__file__")) (Value.str (Str.ofString "__file__") 173) (Value.str (Str.ofString "/claim/cut.py") 172)), (DictEntry.mk (PyData.keyHash P (Str.ofString "__cached__")) (Value.str (Str.ofString "__cached__") 174) Value.none), (DictEntry.mk (PyData.keyHash P (Str.ofString "_wall")) (Value.str (Str.ofString "_wall") 193) (Value.ref 21)), (DictEntry.mk (PyData.keyHash P (Str.ofString "_replace_encoding")) (Value.str (Str.ofString "_replace_encoding") 205) (Value.ref 28)), (DictEntry.mk (PyData.keyHash P (Str.ofString "_append_modifier")) (Value.str (Str.ofString "_append_modifier") 215) (Value.ref 35)), (DictEntry.mk (PyData.keyHash P (Str.ofString "normalize")) (Value.str (Str.ofString "normalize") 230) (Value.ref 42)), (DictEntry.mk (PyData.keyHash P (Str.ofString "_parse_localename")) (Value.str (Str.ofString "_parse_localename") 239) (Value.ref 49)), (DictEntry.mk (PyData.keyHash P (Str.ofString "locale_encoding_alias")) (Value.str (Str.ofString "locale_encoding_alias") 372) (Value.ref 50)), (DictEntry.mk (PyData.keyHash P (Str.ofString "k")) (Value.str (Str.ofString "k") 373) (Value.str (Str.ofString "eucjp") 449)), (DictEntry.mk (PyData.keyHash P (Str.ofString "v")) (Value.str (Str.ofString "v") 374) (Value.str (ev 5) 343))]) 17) (List.toArray []))
def o94 (P : Params) : Obj := (Obj.mk (Value.type "dict") none (Data.dict (List.toArray [(DictEntry.mk (PyData.keyHash P (ek 0)) (Value.str (ek 0) 240) (Value.str (Str.ofString "C") 241)), (DictEntry.mk (PyData.keyHash P (Str.ofString "c")) (Value.str (Str.ofString "c") 243) (Value.str (Str.ofString "C") 244)), (DictEntry.mk (PyData.keyHash P (Str.ofString "en")) (Value.str (Str.ofString "en") 246) (Value.str (ev 2) 247)), (DictEntry.mk (PyData.keyHash P (ek 3)) (Value.str (ek 3) 249) (Value.str (ev 3) 250)), (DictEntry.mk (PyData.keyHash P (ek 4)) (Value.str (ek 4) 252) (Value.str (ev 3) 253)), (DictEntry.mk (PyData.keyHash P (ek 5)) (Value.str (ek 5) 255) (Value.str (ev 5) 256)), (DictEntry.mk (PyData.keyHash P (ek 6)) (Value.str (ek 6) 258) (Value.str (ev 6) 259)), (DictEntry.mk (PyData.keyHash P (ek 7)) (Value.str (ek 7) 261) (Value.str (ev 7) 262)), (DictEntry.mk (PyData.keyHash P (ek 8)) (Value.str (ek 8) 264) (Value.str (ev 8) 265)), (DictEntry.mk (PyData.keyHash P (ek 9)) (Value.str (ek 9) 267) (Value.str (ev 9) 268)), (DictEntry.mk (PyData.keyHash P (ek 10)) (Value.str (ek 10) 270) (Value.str (ev 2) 271)), (DictEntry.mk (PyData.keyHash P (ek 11)) (Value.str (ek 11) 273) (Value.str (ev 11) 274)), (DictEntry.mk (PyData.keyHash P (ek 12)) (Value.str (ek 12) 276) (Value.str (ev 12) 277)), (DictEntry.mk (PyData.keyHash P (ek 13)) (Value.str (ek 13) 279) (Value.str (ev 13) 280)), (DictEntry.mk (PyData.keyHash P (ek 14)) (Value.str (ek 14) 282) (Value.str (ev 2) 283)), (DictEntry.mk (PyData.keyHash P (ek 15)) (Value.str (ek 15) 285) (Value.str (ev 2) 286)), (DictEntry.mk (PyData.keyHash P (ek 16)) (Value.str (ek 16) 288) (Value.str (ev 2) 289)), (DictEntry.mk (PyData.keyHash P (ek 17)) (Value.str (ek 17) 291) (Value.str (ev 17) 292)), (DictEntry.mk (PyData.keyHash P (ek 18)) (Value.str (ek 18) 294) (Value.str (ev 18) 295)), (DictEntry.mk (PyData.keyHash P (ek 19)) (Value.str (ek 19) 297) (Value.str (ev 19) 298)), (DictEntry.mk (PyData.keyHash P (ek 20)) (Value.str (ek 20) 300) (Value.str (ev 20) 301)), (DictEntry.mk (PyData.keyHash P (ek 21)) (Value.str (ek 21) 303) (Value.str (ev 13) 304)), (DictEntry.mk (PyData.keyHash P (ek 22)) (Value.str (ek 22) 306) (Value.str (ev 22) 307)), (DictEntry.mk (PyData.keyHash P (ek 23)) (Value.str (ek 23) 309) (Value.str (ev 11) 310)), (DictEntry.mk (PyData.keyHash P (ek 24)) (Value.str (ek 24) 312) (Value.str (ev 24) 313)), (DictEntry.mk (PyData.keyHash P (ek 25)) (Value.str (ek 25) 315) (Value.str (ev 25) 316)), (DictEntry.mk (PyData.keyHash P (ek 26)) (Value.str (ek 26) 318) (Value.str (ev 12) 319)), (DictEntry.mk (PyData.keyHash P (ek 27)) (Value.str (ek 27) 321) (Value.str (ev 27) 322)), (DictEntry.mk (PyData.keyHash P (ek 28)) (Value.str (ek 28) 324) (Value.str (ev 28) 325)), (DictEntry.mk (PyData.keyHash P (ek 29)) (Value.str (ek 29) 327) (Value.str (ev 29) 328)), (DictEntry.mk (PyData.keyHash P (ek 30)) (Value.str (ek 30) 330) (Value.str (ev 30) 331)), (DictEntry.mk (PyData.keyHash P (ek 31)) (Value.str (ek 31) 333) (Value.str (ev 3) 334)), (DictEntry.mk (PyData.keyHash P (ek 32)) (Value.str (ek 32) 336) (Value.str (ev 32) 337)), (DictEntry.mk (PyData.keyHash P (ek 33)) (Value.str (ek 33) 339) (Value.str (ev 33) 340)), (DictEntry.mk (PyData.keyHash P (ek 34)) (Value.str (ek 34) 342) (Value.str (ev 5) 343)), (DictEntry.mk (PyData.keyHash P (ek 35)) (Value.str (ek 35) 344) (Value.str (ev 35) 345)), (DictEntry.mk (PyData.keyHash P (ek 36)) (Value.str (ek 36) 346) (Value.str (ev 36) 347)), (DictEntry.mk (PyData.keyHash P (ek 37)) (Value.str (ek 37) 348) (Value.str (ev 37) 349)), (DictEntry.mk (PyData.keyHash P (ek 38)) (Value.str (ek 38) 350) (Value.str (ev 38) 351)), (DictEntry.mk (PyData.keyHash P (ek 39)) (Value.str (ek 39) 352) (Value.str (ev 39) 353)), (DictEntry.mk (PyData.keyHash P (ek 40)) (Value.str (ek 40) 354) (Value.str (ev 40) 355)), (DictEntry.mk (PyData.keyHash P (ek 41)) (Value.str (ek 41) 356) (Value.str (ev 7) 357)), (DictEntry.mk (PyData.keyHash P (ek 42)) (Value.str (ek 42) 358) (Value.str (ev 8) 359)), (DictEntry.mk (PyData.keyHash P (ek 43)) (Value.str (ek 43) 360) (Value.str (ev 9) 361)), (DictEntry.mk (PyData.keyHash P (Str.ofString "eucjp")) (Value.str (Str.ofString "eucjp") 449) (Value.str (ev 5) 343))]) 45) (List.toArray []))
def o95 (P : Params) : Obj := (Obj.mk (Value.type "list_iterator") none (Data.fields (List.toArray [(Value.ref 102), (Value.int (13 : Int) 0)])) (List.toArray []))
def o96 (P : Params) : Obj := (Obj.mk (Value.type "StopIteration") none (Data.fields (List.toArray [(Value.ref 110), Value.none, Value.none, Value.none, (Value.bool Bool.false), Value.none])) (List.toArray []))
def o97 (P : Params) : Obj := (Obj.mk (Value.type "StopIteration") none (Data.fields (List.toArray [(Value.ref 113), Value.none, Value.none, Value.none, (Value.bool Bool.false), Value.none])) (List.toArray []))
def o98 (P : Params) : Obj := (Obj.mk (Value.type "StopIteration") none (Data.fields (List.toArray [(Value.ref 116), Value.none, Value.none, Value.none, (Value.bool Bool.false), Value.none])) (List.toArray []))
def o99 (P : Params) : Obj := (Obj.mk (Value.type "StopIteration") none (Data.fields (List.toArray [(Value.ref 119), Value.none, Value.none, Value.none, (Value.bool Bool.false), Value.none])) (List.toArray []))
def o100 (P : Params) : Obj := (Obj.mk (Value.type "StopIteration") none (Data.fields (List.toArray [(Value.ref 122), Value.none, Value.none, Value.none, (Value.bool Bool.false), Value.none])) (List.toArray []))
def o101 (P : Params) : Obj := (Obj.mk (Value.type "StopIteration") none (Data.fields (List.toArray [(Value.ref 125), Value.none, Value.none, Value.none, (Value.bool Bool.false), Value.none])) (List.toArray []))
def o102 (P : Params) : Obj := (Obj.mk (Value.type "StopIteration") none (Data.fields (List.toArray [(Value.ref 128), Value.none, Value.none, Value.none, (Value.bool Bool.false), Value.none])) (List.toArray []))
def o103 (P : Params) : Obj := (Obj.mk (Value.type "StopIteration") none (Data.fields (List.toArray [(Value.ref 131), Value.none, Value.none, Value.none, (Value.bool Bool.false), Value.none])) (List.toArray []))
def o104 (P : Params) : Obj := (Obj.mk (Value.type "StopIteration") none (Data.fields (List.toArray [(Value.ref 134), Value.none, Value.none, Value.none, (Value.bool Bool.false), Value.none])) (List.toArray []))
def o105 (P : Params) : Obj := (Obj.mk (Value.type "StopIteration") none (Data.fields (List.toArray [(Value.ref 137), Value.none, Value.none, Value.none, (Value.bool Bool.false), Value.none])) (List.toArray []))
def o106 (P : Params) : Obj := (Obj.mk (Value.type "StopIteration") none (Data.fields (List.toArray [(Value.ref 140), Value.none, Value.none, Value.none, (Value.bool Bool.false), Value.none])) (List.toArray []))
def o107 (P : Params) : Obj := (Obj.mk (Value.type "StopIteration") none (Data.fields (List.toArray [(Value.ref 143), Value.none, Value.none, Value.none, (Value.bool Bool.false), Value.none])) (List.toArray []))
def TB2 (P : Params) : BT := (.node (o0 P) (.node (o1 P) (.node (o93 P) (.node (o7 P) (.node (o7 P) (.node (o23 P) (.node (o49 P) (.node (o91 P) .nil .nil) .nil) (.node (o81 P) .nil .nil)) (.node (o32 P) (.node (o65 P) (.node (o7 P) .nil .nil) .nil) (.node (o96 P) .nil .nil))) (.node (o8 P) (.node (o7 P) (.node (o57 P) (.node (o104 P) .nil .nil) .nil) (.node (o88 P) .nil .nil)) (.node (o41 P) (.node (o73 P) .nil .nil) (.node (o7 P) .nil .nil)))) (.node (o7 P) (.node (o16 P) (.node (o26 P) (.node (o53 P) (.node (o7 P) .nil .nil) .nil) (.node (o85 P) .nil .nil)) (.node (o36 P) (.node (o69 P) .nil .nil) (.node (o91 P) .nil .nil))) (.node (o21 P) (.node (o7 P) (.node (o61 P) (.node (o91 P) .nil .nil) .nil) (.node (o7 P) .nil .nil)) (.node (o45 P) (.node (o77 P) .nil .nil) (.node (o100 P) .nil .nil))))) (.node (o5 P) (.node (o9 P) (.node (o15 P) (.node (o24 P) (.node (o51 P) (.node (o102 P) .nil .nil) .nil) (.node (o83 P) .nil .nil)) (.node (o34 P) (.node (o67 P) .nil .nil) (.node (o7 P) .nil .nil))) (.node (o7 P) (.node (o29 P) (.node (o59 P) (.node (o7 P) .nil .nil) .nil) (.node (o95 P) .nil .nil)) (.node (o43 P) (.node (o75 P) .nil .nil) (.node (o91 P) .nil .nil)))) (.node (o11 P) (.node (o18 P) (.node (o8 P) (.node (o55 P) (.node (o91 P) .nil .nil) .nil) (.node (o86 P) .nil .nil)) (.node (o39 P) (.node (o71 P) .nil .nil) (.node (o98 P) .nil .nil))) (.node (o7 P) (.node (o31 P) (.node (o63 P) (.node (o106 P) .nil .nil) .nil) (.node (o91 P) .nil .nil)) (.node (o47 P) (.node (o79 P) .nil .nil) (.node (o7 P) .nil .nil)))))) (.node (o2 P) (.node (o4 P) (.node (o8 P) (.node (o8 P) (.node (o7 P) (.node (o50 P) (.node (o7 P) .nil .nil) .nil) (.node (o82 P) .nil .nil)) (.node (o33 P) (.node (o66 P) (.node (o107 P) .nil .nil) .nil) (.node (o91 P) .nil .nil))) (.node (o19 P) (.node (o28 P) (.node (o58 P) (.node (o91 P) .nil .nil) .nil) (.node (o89 P) .nil .nil)) (.node (o42 P) (.node (o74 P) .nil .nil) (.node (o99 P) .nil .nil)))) (.node (o14 P) (.node (o17 P) (.node (o7 P) (.node (o54 P) (.node (o103 P) .nil .nil) .nil) (.node (o7 P) .nil .nil)) (.node (o37 P) (.node (o70 P) .nil .nil) (.node (o7 P) .nil .nil))) (.node (o22 P) (.node (o8 P) (.node (o62 P) (.node (o7 P) .nil .nil) .nil) (.node (o92 P) .nil .nil)) (.node (o46 P) (.node (o78 P) .nil .nil) (.node (o91 P) .nil .nil))))) (.node (o6 P) (.node (o10 P) (.node (o7 P) (.node (o25 P) (.node (o52 P) (.node (o91 P) .nil .nil) .nil) (.node (o84 P) .nil .nil)) (.node (o94 P) (.node (o68 P) .nil .nil) (.node (o97 P) .nil .nil))) (.node (o20 P) (.node (o30 P) (.node (o60 P) (.node (o105 P) .nil .nil) .nil) (.node (o91 P) .nil .nil)) (.node (o44 P) (.node (o76 P) .nil .nil) (.node (o7 P) .nil .nil)))) (.node (o12 P) (.node (o7 P) (.node (o27 P) (.node (o56 P) (.node (o7 P) .nil .nil) .nil) (.node (o87 P) .nil .nil)) (.node (o40 P) (.node (o72 P) .nil .nil) (.node (o91 P) .nil .nil))) (.node (o8 P) (.node (o7 P) (.node (o64 P) (.node (o91 P) .nil .nil) .nil) (.node (o7 P) .nil .nil)) (.node (o48 P) (.node (o80 P) .nil .nil) (.node (o101 P) .nil .nil)))))))
def o108 (P : Params) : Obj := (Obj.mk (Value.type "dict") none (Data.dict (List.toArray [(DictEntry.mk (PyData.keyHash P (Str.ofString "__name__")) (Value.str (Str.ofString "__name__") 165) (Value.str (Str.ofString "cpy313.locale") 194)), (DictEntry.mk (PyData.keyHash P (Str.ofString "__doc__")) (Value.str (Str.ofString "__doc__") 166) Value.none), (DictEntry.mk (PyData.keyHash P (Str.ofString "__package__")) (Value.str (Str.ofString "__package__") 167) Value.none), (DictEntry.mk (PyData.keyHash P (Str.ofString "__loader__")) (Value.str (Str.ofString "__loader__") 168) (Value.builtin "__main__.__loader__#opaque")), (DictEntry.mk (PyData.keyHash P (Str.ofString "__spec__")) (Value.str (Str.ofString "__spec__") 169) Value.none), (DictEntry.mk (PyData.keyHash P (Str.ofString "__annotations__")) (Value.str (Str.ofString "__annotations__") 170) (Value.ref 6)), (DictEntry.mk (PyData.keyHash P (Str.ofString "__builtins__")) (Value.str (Str.ofString "__builtins__") 171) (Value.ref 4)), (DictEntry.mk (PyData.keyHash P (Str.ofString "__file__")) (Value.str (Str.ofString "__file__") 173) (Value.str (Str.ofString "/claim/cut.py") 172)), (DictEntry.mk (PyData.keyHash P (Str.ofString "__cached__")) (Value.str (Str.ofString "__cached__") 174) Value.none), (DictEntry.mk (PyData.keyHash P (Str.ofString "_wall")) (Value.str (Str.ofString "_wall") 193) (Value.ref 21)), (DictEntry.mk (PyData.keyHash P (Str.ofString "_replace_encoding")) (Value.str (Str.ofString "_replace_encoding") 205) (Value.ref 28)), (DictEntry.mk (PyData.keyHash P (Str.ofString "_append_modifier")) (Value.str (Str.ofString "_append_modifier") 215) (Value.ref 35)), (DictEntry.mk (PyData.keyHash P (Str.ofString "normalize")) (Value.str (Str.ofString "normalize") 230) (Value.ref 42)), (DictEntry.mk (PyData.keyHash P (Str.ofString "_parse_localename")) (Value.str (Str.ofString "_parse_localename") 239) (Value.ref 49)), (DictEntry.mk (PyData.keyHash P (Str.ofString "locale_encoding_alias")) (Value.str (Str.ofString "locale_encoding_alias") 372) (Value.ref 50)), (DictEntry.mk (PyData.keyHash P (Str.ofString "k")) (Value.str (Str.ofString "k") 373) (Value.str (Str.ofString "iso88594") 533)), (DictEntry.mk (PyData.keyHash P (Str.ofString "v")) (Value.str (Str.ofString "v") 374) (Value.str (ev 25) 316))]) 17) (List.toArray []))
def o109 (P : Params) : Obj := (Obj.mk (Value.type "dict") none (Data.dict (List.toArray [(DictEntry.mk (PyData.keyHash P (ek 0)) (Value.str (ek 0) 240) (Value.str (Str.ofString "C") 241)), (DictEntry.mk (PyData.keyHash P (Str.ofString "c")) (Value.str (Str.ofString "c") 243) (Value.str (Str.ofString "C") 244)), (DictEntry.mk (PyData.keyHash P (Str.ofString "en")) (Value.str (Str.ofString "en") 246) (Value.str (ev 2) 247)), (DictEntry.mk (PyData.keyHash P (ek 3)) (Value.str (ek 3) 249) (Value.str (ev 3) 250)), (DictEntry.mk (PyData.keyHash P (ek 4)) (Value.str (ek 4) 252) (Value.str (ev 3) 253)), (DictEntry.mk (PyData.keyHash P (ek 5)) (Value.str (ek 5) 255) (Value.str (ev 5) 256)), (DictEntry.mk (PyData.keyHash P (ek 6)) (Value.str (ek 6) 258) (Value.str (ev 6) 259)), (DictEntry.mk (PyData.keyHash P (ek 7)) (Value.str (ek 7) 261) (Value.str (ev 7) 262)), (DictEntry.mk (PyData.keyHash P (ek 8)) (Value.str (ek 8) 264) (Value.str (ev 8) 265)), (DictEntry.mk (PyData.keyHash P (ek 9)) (Value.str (ek 9) 267) (Value.str (ev 9) 268)), (DictEntry.mk (PyData.keyHash P (ek 10)) (Value.str (ek 10) 270) (Value.str (ev 2) 271)), (DictEntry.mk (PyData.keyHash P (ek 11)) (Value.str (ek 11) 273) (Value.str (ev 11) 274)), (DictEntry.mk (PyData.keyHash P (ek 12)) (Value.str (ek 12) 276) (Value.str (ev 12) 277)), (DictEntry.mk (PyData.keyHash P (ek 13)) (Value.str (ek 13) 279) (Value.str (ev 13) 280)), (DictEntry.mk (PyData.keyHash P (ek 14)) (Value.str (ek 14) 282) (Value.str (ev 2) 283)), (DictEntry.mk (PyData.keyHash P (ek 15)) (Value.str (ek 15) 285) (Value.str (ev 2) 286)), (DictEntry.mk (PyData.keyHash P (ek 16)) (Value.str (ek 16) 288) (Value.str (ev 2) 289)), (DictEntry.mk (PyData.keyHash P (ek 17)) (Value.str (ek 17) 291) (Value.str (ev 17) 292)), (DictEntry.mk (PyData.keyHash P (ek 18)) (Value.str (ek 18) 294) (Value.str (ev 18) 295)), (DictEntry.mk (PyData.keyHash P (ek 19)) (Value.str (ek 19) 297) (Value.str (ev 19) 298)), (DictEntry.mk (PyData.keyHash P (ek 20)) (Value.str (ek 20) 300) (Value.str (ev 20) 301)), (DictEntry.mk (PyData.keyHash P (ek 21)) (Value.str (ek 21) 303) (Value.str (ev 13) 304)), (DictEntry.mk (PyData.keyHash P (ek 22)) (Value.str (ek 22) 306) (Value.str (ev 22) 307)), (DictEntry.mk (PyData.keyHash P (ek 23)) (Value.str (ek 23) 309) (Value.str (ev 11) 310)), (DictEntry.mk (PyData.keyHash P (ek 24)) (Value.str (ek 24) 312) (Value.str (ev 24) 313)), (DictEntry.mk (PyData.keyHash P (ek 25)) (Value.str (ek 25) 315) (Value.str (ev 25) 316)), (DictEntry.mk (PyData.keyHash P (ek 26)) (Value.str (ek 26) 318) (Value.str (ev 12) 319)), (DictEntry.mk (PyData.keyHash P (ek 27)) (Value.str (ek 27) 321) (Value.str (ev 27) 322)), (DictEntry.mk (PyData.keyHash P (ek 28)) (Value.str (ek 28) 324) (Value.str (ev 28) 325)), (DictEntry.mk (PyData.keyHash P (ek 29)) (Value.str (ek 29) 327) (Value.str (ev 29) 328)), (DictEntry.mk (PyData.keyHash P (ek 30)) (Value.str (ek 30) 330) (Value.str (ev 30) 331)), (DictEntry.mk (PyData.keyHash P (ek 31)) (Value.str (ek 31) 333) (Value.str (ev 3) 334)), (DictEntry.mk (PyData.keyHash P (ek 32)) (Value.str (ek 32) 336) (Value.str (ev 32) 337)), (DictEntry.mk (PyData.keyHash P (ek 33)) (Value.str (ek 33) 339) (Value.str (ev 33) 340)), (DictEntry.mk (PyData.keyHash P (ek 34)) (Value.str (ek 34) 342) (Value.str (ev 5) 343)), (DictEntry.mk (PyData.keyHash P (ek 35)) (Value.str (ek 35) 344) (Value.str (ev 35) 345)), (DictEntry.mk (PyData.keyHash P (ek 36)) (Value.str (ek 36) 346) (Value.str (ev 36) 347)), (DictEntry.mk (PyData.keyHash P (ek 37)) (Value.str (ek 37) 348) (Value.str (ev 37) 349)), (DictEntry.mk (PyData.keyHash P (ek 38)) (Value.str (ek 38) 350) (Value.str (ev 38) 351)), (DictEntry.mk (PyData.keyHash P (ek 39)) (Value.str (ek 39) 352) (Value.str (ev 39) 353)), (DictEntry.mk (PyData.keyHash P (ek 40)) (Value.str (ek 40) 354) (Value.str (ev 40) 355)), (DictEntry.mk (PyData.keyHash P (ek 41)) (Value.str (ek 41) 356) (Value.str (ev 7) 357)), (DictEntry.mk (PyData.keyHash P (ek 42)) (Value.str (ek 42) 358) (Value.str (ev 8) 359)), (DictEntry.mk (PyData.keyHash P (ek 43)) (Value.str (ek 43) 360) (Value.str (ev 9) 361)), (DictEntry.mk (PyData.keyHash P (Str.ofString "eucjp")) (Value.str (Str.ofString "eucjp") 449) (Value.str (ev 5) 343)), (DictEntry.mk (PyData.keyHash P (Str.ofString "euckr")) (Value.str (Str.ofString "euckr") 456) (Value.str (ev 35) 345)), (DictEntry.mk (PyData.keyHash P (Str.ofString "iso2022jp")) (Value.str (Str.ofString "iso2022jp") 463) (Value.str (ev 3) 334)), (DictEntry.mk (PyData.keyHash P (Str.ofString "iso88591")) (Value.str (Str.ofString "iso88591") 470) (Value.str (ev 2) 289)), (DictEntry.mk (PyData.keyHash P (Str.ofString "iso885910")) (Value.str (Str.ofString "iso885910") 477) (Value.str (ev 17) 292)), (DictEntry.mk (PyData.keyHash P (Str.ofString "iso885911")) (Value.str (Str.ofString "iso885911") 484) (Value.str (ev 18) 295)), (DictEntry.mk (PyData.keyHash P (Str.ofString "iso885913")) (Value.str (Str.ofString "iso885913") 491) (Value.str (ev 19) 298)), (DictEntry.mk (PyData.keyHash P (Str.ofString "iso885914")) (Value.str (Str.ofString "iso885914") 498) (Value.str (ev 20) 301)), (DictEntry.mk (PyData.keyHash P (Str.ofString "iso885915")) (Value.str (Str.ofString "iso885915") 505) (Value.str (ev 13) 304)), (DictEntry.mk (PyData.keyHash P (Str.ofString "iso885916")) (Value.str (Str.ofString "iso885916") 512) (Value.str (ev 22) 307)), (DictEntry.mk (PyData.keyHash P (Str.ofString "iso88592")) (Value.str (Str.ofString "iso88592") 519) (Value.str (ev 11) 310)), (DictEntry.mk (PyData.keyHash P (Str.ofString "iso88593")) (Value.str (Str.ofString "iso88593") 526) (Value.str (ev 24) 313)), (DictEntry.mk (PyData.keyHash P (Str.ofString "iso88594")) (Value.str (Str.ofString "iso88594") 533) (Value.str (ev 25) 316))]) 57) (List.toArray []))
def o110 (P : Params) : Obj := (Obj.mk (Value.type "list_iterator") none (Data.fields (List.toArray [(Value.ref 102), (Value.int (25 : Int) 0)])) (List.toArray []))
def o111 (P : Params) : Obj := (Obj.mk (Value.type "StopIteration") none (Data.fields (List.toArray [(Value.ref 146), Value.none, Value.none, Value.none, (Value.bool Bool.false), Value.none])) (List.toArray []))
def o112 (P : Params) : Obj := (Obj.mk (Value.type "StopIteration") none (Data.fields (List.toArray [(Value.ref 149), Value.none, Value.none, Value.none, (Value.bool Bool.false), Value.none])) (List.toArray []))
def o113 (P : Params) : Obj := (Obj.mk (Value.type "StopIteration") none (Data.fields (List.toArray [(Value.ref 152), Value.none, Value.none, Value.none, (Value.bool Bool.false), Value.none])) (List.toArray []))
def o114 (P : Params) : Obj := (Obj.mk (Value.type "StopIteration") none (Data.fields (List.toArray [(Value.ref 155), Value.none, Value.none, Value.none, (Value.bool Bool.false), Value.none])) (List.toArray []))
def o115 (P : Params) : Obj := (Obj.mk (Value.type "StopIteration") none (Data.fields (List.toArray [(Value.ref 158), Value.none, Value.none, Value.none, (Value.bool Bool.false), Value.none])) (List.toArray []))
def o116 (P : Params) : Obj := (Obj.mk (Value.type "StopIteration") none (Data.fields (List.toArray [(Value.ref 161), Value.none, Value.none, Value.none, (Value.bool Bool.false), Value.none])) (List.toArray []))
def o117 (P : Params) : Obj := (Obj.mk (Value.type "StopIteration") none (Data.fields (List.toArray [(Value.ref 164), Value.none, Value.none, Value.none, (Value.bool Bool.false), Value.none])) (List.toArray []))
def o118 (P : Params) : Obj := (Obj.mk (Value.type "StopIteration") none (Data.fields (List.toArray [(Value.ref 167), Value.none, Value.none, Value.none, (Value.bool Bool.false), Value.none])) (List.toArray []))
def o119 (P : Params) : Obj := (Obj.mk (Value.type "StopIteration") none (Data.fields (List.toArray [(Value.ref 170), Value.none, Value.none, Value.none, (Value.bool Bool.false), Value.none])) (List.toArray []))
def o120 (P : Params) : Obj := (Obj.mk (Value.type "StopIteration") none (Data.fields (List.toArray [(Value.ref 173), Value.none, Value.none, Value.none, (Value.bool Bool.false), Value.none])) (List.toArray []))
def o121 (P : Params) : Obj := (Obj.mk (Value.type "StopIteration") none (Data.fields (List.toArray [(Value.ref 176), Value.none, Value.none, Value.none, (Value.bool Bool.false), Value.none])) (List.toArray []))
def o122 (P : Params) : Obj := (Obj.mk (Value.type "StopIteration") none (Data.fields (List.toArray [(Value.ref 179), Value.none, Value.none, Value.none, (Value.bool Bool.false), Value.none])) (List.toArray []))
def TB3 (P : Params) : BT := (.node (o0 P) (.node (o1 P) (.node (o108 P) (.node (o7 P) (.node (o7 P) (.node (o23 P) (.node (o49 P) (.node (o91 P) .nil .nil) .nil) (.node (o81 P) (.node (o115 P) .nil .nil) .nil)) (.node (o32 P) (.node (o65 P) (.node (o7 P) .nil .nil) .nil) (.node (o96 P) (.node (o91 P) .nil .nil) .nil))) (.node (o8 P) (.node (o7 P) (.node (o57 P) (.node (o104 P) .nil .nil) .nil) (.node (o88 P) (.node (o7 P) .nil .nil) .nil)) (.node (o41 P) (.node (o73 P) (.node (o91 P) .nil .nil) .nil) (.node (o7 P) .nil .nil)))) (.node (o7 P) (.node (o16 P) (.node (o26 P) (.node (o53 P) (.node (o7 P) .nil .nil) .nil) (.node (o85 P) (.node (o91 P) .nil .nil) .nil)) (.node (o36 P) (.node (o69 P) (.node (o111 P) .nil .nil) .nil) (.node (o91 P) (.node (o7 P) .nil .nil) .nil))) (.node (o21 P) (.node (o7 P) (.node (o61 P) (.node (o91 P) .nil .nil) .nil) (.node (o7 P) (.node (o119 P) .nil .nil) .nil)) (.node (o45 P) (.node (o77 P) (.node (o7 P) .nil .nil) .nil) (.node (o100 P) .nil .nil))))) (.node (o5 P) (.node (o9 P) (.node (o15 P) (.node (o24 P) (.node (o51 P) (.node (o102 P) .nil .nil) .nil) (.node (o83 P) (.node (o7 P) .nil .nil) .nil)) (.node (o34 P) (.node (o67 P) (.node (o91 P) .nil .nil) .nil) (.node (o7 P) (.node (o121 P) .nil .nil) .nil))) (.node (o7 P) (.node (o29 P) (.node (o59 P) (.node (o7 P) .nil .nil) .nil) (.node (o110 P) (.node (o91 P) .nil .nil) .nil)) (.node (o43 P) (.node (o75 P) (.node (o113 P) .nil .nil) .nil) (.node (o91 P) .nil .nil)))) (.node (o11 P) (.node (o18 P) (.node (o8 P) (.node (o55 P) (.node (o91 P) .nil .nil) .nil) (.node (o86 P) (.node (o117 P) .nil .nil) .nil)) (.node (o39 P) (.node (o71 P) (.node (o7 P) .nil .nil) .nil) (.node (o98 P) .nil .nil))) (.node (o7 P) (.node (o31 P) (.node (o63 P) (.node (o106 P) .nil .nil) .nil) (.node (o91 P) (.node (o7 P) .nil .nil) .nil)) (.node (o47 P) (.node (o79 P) (.node (o91 P) .nil .nil) .nil) (.node (o7 P) .nil .nil)))))) (.node (o2 P) (.node (o4 P) (.node (o8 P) (.node (o8 P) (.node (o7 P) (.node (o50 P) (.node (o7 P) .nil .nil) .nil) (.node (o82 P) (.node (o91 P) .nil .nil) .nil)) (.node (o33 P) (.node (o66 P) (.node (o107 P) .nil .nil) .nil) (.node (o91 P) (.node (o7 P) .nil .nil) .nil))) (.node (o19 P) (.node (o28 P) (.node (o58 P) (.node (o91 P) .nil .nil) .nil) (.node (o89 P) (.node (o118 P) .nil .nil) .nil)) (.node (o42 P) (.node (o74 P) (.node (o7 P) .nil .nil) .nil) (.node (o99 P) .nil .nil)))) (.node (o14 P) (.node (o17 P) (.node (o7 P) (.node (o54 P) (.node (o103 P) .nil .nil) .nil) (.node (o7 P) (.node (o7 P) .nil .nil) .nil)) (.node (o37 P) (.node (o70 P) (.node (o91 P) .nil .nil) .nil) (.node (o7 P) (.node (o122 P) .nil .nil) .nil))) (.node (o22 P) (.node (o8 P) (.node (o62 P) (.node (o7 P) .nil .nil) .nil) (.node (o92 P) (.node (o91 P) .nil .nil) .nil)) (.node (o46 P) (.node (o78 P) (.node (o114 P) .nil .nil) .nil) (.node (o91 P) .nil .nil))))) (.node (o6 P) (.node (o10 P) (.node (o7 P) (.node (o25 P) (.node (o52 P) (.node (o91 P) .nil .nil) .nil) (.node (o84 P) (.node (o116 P) .nil .nil) .nil)) (.node (o109 P) (.node (o68 P) (.node (o7 P) .nil .nil) .nil) (.node (o97 P) (.node (o91 P) .nil .nil) .nil))) (.node (o20 P) (.node (o30 P) (.node (o60 P) (.node (o105 P) .nil .nil) .nil) (.node (o91 P) (.node (o7 P) .nil .nil) .nil)) (.node (o44 P) (.node (o76 P) (.node (o91 P) .nil .nil) .nil) (.node (o7 P) .nil .nil)))) (.node (o12 P) (.node (o7 P) (.node (o27 P) (.node (o56 P) (.node (o7 P) .nil .nil) .nil) (.node (o87 P) (.node (o91 P) .nil .nil) .nil)) (.node (o40 P) (.node (o72 P) (.node (o112 P) .nil .nil) .nil) (.node (o91 P) .nil .nil))) (.node (o8 P) (.node (o7 P) (.node (o64 P) (.node (o91 P) .nil .nil) .nil) (.node (o7 P) (.node (o120 P) .nil .nil) .nil)) (.node (o48 P) (.node (o80 P) (.node (o7 P) .nil .nil) .nil) (.node (o101 P) .nil .nil)))))))
def o123 (P : Params) : Obj := (Obj.mk (Value.type "dict") none (Data.dict (List.toArray [(DictEntry.mk (PyData.keyHash P (Str.ofString "__name__")) (Value.str (Str.ofString "__name__") 165) (Value.str (Str.ofString "cpy313.locale") 194)), (DictEntry.mk (PyData.keyHash P (Str.ofString "__doc__")) (Value.str (Str.ofString "__doc__") 166) Value.none), (DictEntry.mk (PyData.keyHash P (Str.ofString "__package__")) (Value.str (Str.ofString "__package__") 167) Value.none), (DictEntry.mk (PyData.keyHash P (Str.ofString "__loader__")) (Value.str (Str.ofString "__loader__") 168) (Value.builtin "__main__.__loader__#opaque")), (DictEntry.mk (PyData.keyHash P (Str.ofString "__spec__")) (Value.str (Str.ofString "__spec__") 169) Value.none), (DictEntry.mk (PyData.keyHash P (Str.ofString "__annotations__")) (Value.str (Str.ofString "__annotations__") 170) (Value.ref 6)), (DictEntry.mk (PyData.keyHash P (Str.ofString "__builtins__")) (Value.str (Str.ofString "__builtins__") 171) (Value.ref 4)), (DictEntry.mk (PyData.keyHash P (Str.ofString "__file__")) (Value.str (Str.ofString "__file__") 173) (Value.str (Str.ofString "/claim/cut.py") 172)), (DictEntry.mk (PyData.keyHash P (Str.ofString "__cached__")) (Value.str (Str.ofString "__cached__") 174) Value.none), (DictEntry.mk (PyData.keyHash P (Str.ofString "_wall")) (Value.str (Str.ofString "_wall") 193) (Value.ref 21)), (DictEntry.mk (PyData.keyHash P (Str.ofString "_replace_encoding")) (Value.str (Str.ofString "_replace_encoding") 205) (Value.ref 28)), (DictEntry.mk (PyData.keyHash P (Str.ofString "_append_modifier")) (Value.str (Str.ofString "_append_modifier") 215) (Value.ref 35)), (DictEntry.mk (PyData.keyHash P (Str.ofString "normalize")) (Value.str (Str.ofString "normalize") 230) (Value.ref 42)), (DictEntry.mk (PyData.keyHash P (Str.ofString "_parse_localename")) (Value.str (Str.ofString "_parse_localename") 239) (Value.ref 49)), (DictEntry.mk (PyData.keyHash P (Str.ofString "locale_encoding_alias")) (Value.str (Str.ofString "locale_encoding_alias") 372) (Value.ref 50)), (DictEntry.mk (PyData.keyHash P (Str.ofString "k")) (Value.str (Str.ofString "k") 373) (Value.str (ek 40) 354)), (DictEntry.mk (PyData.keyHash P (Str.ofString "v")) (Value.str (Str.ofString "v") 374) (Value.str (ev 40) 355))]) 17) (List.toArray []))
def o124 (P : Params) : Obj := (Obj.mk (Value.type "dict") none (Data.dict (List.toArray [(DictEntry.mk (PyData.keyHash P (ek 0)) (Value.str (ek 0) 240) (Value.str (Str.ofString "C") 241)), (DictEntry.mk (PyData.keyHash P (Str.ofString "c")) (Value.str (Str.ofString "c") 243) (Value.str (Str.ofString "C") 244)), (DictEntry.mk (PyData.keyHash P (Str.ofString "en")) (Value.str (Str.ofString "en") 246) (Value.str (ev 2) 247)), (DictEntry.mk (PyData.keyHash P (ek 3)) (Value.str (ek 3) 249) (Value.str (ev 3) 250)), (DictEntry.mk (PyData.keyHash P (ek 4)) (Value.str (ek 4) 252) (Value.str (ev 3) 253)), (DictEntry.mk (PyData.keyHash P (ek 5)) (Value.str (ek 5) 255) (Value.str (ev 5) 256)), (DictEntry.mk (PyData.keyHash P (ek 6)) (Value.str (ek 6) 258) (Value.str (ev 6) 259)), (DictEntry.mk (PyData.keyHash P (ek 7)) (Value.str (ek 7) 261) (Value.str (ev 7) 262)), (DictEntry.mk (PyData.keyHash P (ek 8)) (Value.str (ek 8) 264) (Value.str (ev 8) 265)), (DictEntry.mk (PyData.keyHash P (ek 9)) (Value.str (ek 9) 267) (Value.str (ev 9) 268)), (DictEntry.mk (PyData.keyHash P (ek 10)) (Value.str (ek 10) 270) (Value.str (ev 2) 271)), (DictEntry.mk (PyData.keyHash P (ek 11)) (Value.str (ek 11) 273) (Value.str (ev 11) 274)), (DictEntry.mk (PyData.keyHash P (ek 12)) (Value.str (ek 12) 276) (Value.str (ev 12) 277)), (DictEntry.mk (PyData.keyHash P (ek 13)) (Value.str (ek 13) 279) (Value.str (ev 13) 280)), (DictEntry.mk (PyData.keyHash P (ek 14)) (Value.str (ek 14) 282) (Value.str (ev 2) 283)), (DictEntry.mk (PyData.keyHash P (ek 15)) (Value.str (ek 15) 285) (Value.str (ev 2) 286)), (DictEntry.mk (PyData.keyHash P (ek 16)) (Value.str (ek 16) 288) (Value.str (ev 2) 289)), (DictEntry.mk (PyData.keyHash P (ek 17)) (Value.str (ek 17) 291) (Value.str (ev 17) 292)), (DictEntry.mk (PyData.keyHash P (ek 18)) (Value.str (ek 18) 294) (Value.str (ev 18) 295)), (DictEntry.mk (PyData.keyHash P (ek 19)) (Value.str (ek 19) 297) (Value.str (ev 19) 298)), (DictEntry.mk (PyData.keyHash P (ek 20)) (Value.str (ek 20) 300) (Value.str (ev 20) 301)), (DictEntry.mk (PyData.keyHash P (ek 21)) (Value.str (ek 21) 303) (Value.str (ev 13) 304)), (DictEntry.mk (PyData.keyHash P (ek 22)) (Value.str (ek 22) 306) (Value.str (ev 22) 307)), (DictEntry.mk (PyData.keyHash P (ek 23)) (Value.str (ek 23) 309) (Value.str (ev 11) 310)), (DictEntry.mk (PyData.keyHash P (ek 24)) (Value.str (ek 24) 312) (Value.str (ev 24) 313)), (DictEntry.mk (PyData.keyHash P (ek 25)) (Value.str (ek 25) 315) (Value.str (ev 25) 316)), (DictEntry.mk (PyData.keyHash P (ek 26)) (Value.str (ek 26) 318) (Value.str (ev 12) 319)), (DictEntry.mk (PyData.keyHash P (ek 27)) (Value.str (ek 27) 321) (Value.str (ev 27) 322)), (DictEntry.mk (PyData.keyHash P (ek 28)) (Value.str (ek 28) 324) (Value.str (ev 28) 325)), (DictEntry.mk (PyData.keyHash P (ek 29)) (Value.str (ek 29) 327) (Value.str (ev 29) 328)), (DictEntry.mk (PyData.keyHash P (ek 30)) (Value.str (ek 30) 330) (Value.str (ev 30) 331)), (DictEntry.mk (PyData.keyHash P (ek 31)) (Value.str (ek 31) 333) (Value.str (ev 3) 334)), (DictEntry.mk (PyData.keyHash P (ek 32)) (Value.str (ek 32) 336) (Value.str (ev 32) 337)), (DictEntry.mk (PyData.keyHash P (ek 33)) (Value.str (ek 33) 339) (Value.str (ev 33) 340)), (DictEntry.mk (PyData.keyHash P (ek 34)) (Value.str (ek 34) 342) (Value.str (ev 5) 343)), (DictEntry.mk (PyData.keyHash P (ek 35)) (Value.str (ek 35) 344) (Value.str (ev 35) 345)), (DictEntry.mk (PyData.keyHash P (ek 36)) (Value.str (ek 36) 346) (Value.str (ev 36) 347)), (DictEntry.mk (PyData.keyHash P (ek 37)) (Value.str (ek 37) 348) (Value.str (ev 37) 349)), (DictEntry.mk (PyData.keyHash P (ek 38)) (Value.str (ek 38) 350) (Value.str (ev 38) 351)), (DictEntry.mk (PyData.keyHash P (ek 39)) (Value.str (ek 39) 352) (Value.str (ev 39) 353)), (DictEntry.mk (PyData.keyHash P (ek 40)) (Value.str (ek 40) 354) (Value.str (ev 40) 355)), (DictEntry.mk (PyData.keyHash P (ek 41)) (Value.str (ek 41) 356) (Value.str (ev 7) 357)), (DictEntry.mk (PyData.keyHash P (ek 42)) (Value.str (ek 42) 358) (Value.str (ev 8) 359)), (DictEntry.mk (PyData.keyHash P (ek 43)) (Value.str (ek 43) 360) (Value.str (ev 9) 361)), (DictEntry.mk (PyData.keyHash P (Str.ofString "eucjp")) (Value.str (Str.ofString "eucjp") 449) (Value.str (ev 5) 343)), (DictEntry.mk (PyData.keyHash P (Str.ofString "euckr")) (Value.str (Str.ofString "euckr") 456) (Value.str (ev 35) 345)), (DictEntry.mk (PyData.keyHash P (Str.ofString "iso2022jp")) (Value.str (Str.ofString "iso2022jp") 463) (Value.str (ev 3) 334)), (DictEntry.mk (PyData.keyHash P (Str.ofString "iso88591")) (Value.str (Str.ofString "iso88591") 470) (Value.str (ev 2) 289)), (DictEntry.mk (PyData.keyHash P (Str.ofString "iso885910")) (Value.str (Str.ofString "iso885910") 477) (Value.str (ev 17) 292)), (DictEntry.mk (PyData.keyHash P (Str.ofString "iso885911")) (Value.str (Str.ofString "iso885911") 484) (Value.str (ev 18) 295)), (DictEntry.mk (PyData.keyHash P (Str.ofString "iso885913")) (Value.str (Str.ofString "iso885913") 491) (Value.str (ev 19) 298)), (DictEntry.mk (PyData.keyHash P (Str.ofString "iso885914")) (Value.str (Str.ofString "iso885914") 498) (Value.str (ev 20) 301)), (DictEntry.mk (PyData.keyHash P (Str.ofString "iso885915")) (Value.str (Str.ofString "iso885915") 505) (Value.str (ev 13) 304)), (DictEntry.mk (PyData.keyHash P (Str.ofString "iso885916")) (Value.str (Str.ofString "iso885916") 512) (Value.str (ev 22) 307)), (DictEntry.mk (PyData.keyHash P (Str.ofString "iso88592")) (Value.str (Str.ofString "iso88592") 519) (Value.str (ev 11) 310)), (DictEntry.mk (PyData.keyHash P (Str.ofString "iso88593")) (Value.str (Str.ofString "iso88593") 526) (Value.str (ev 24) 313)), (DictEntry.mk (PyData.keyHash P (Str.ofString "iso88594")) (Value.str (Str.ofString "iso88594") 533) (Value.str (ev 25) 316)), (DictEntry.mk (PyData.keyHash P (Str.ofString "iso88595")) (Value.str (Str.ofString "iso88595") 540) (Value.str (ev 12) 319)), (DictEntry.mk (PyData.keyHash P (Str.ofString "iso88596")) (Value.str (Str.ofString "iso88596") 547) (Value.str (ev 27) 322)), (DictEntry.mk (PyData.keyHash P (Str.ofString "iso88597")) (Value.str (Str.ofString "iso88597") 554) (Value.str (ev 28) 325)), (DictEntry.mk (PyData.keyHash P (Str.ofString "iso88598")) (Value.str (Str.ofString "iso88598") 561) (Value.str (ev 29) 328)), (DictEntry.mk (PyData.keyHash P (Str.ofString "iso88599")) (Value.str (Str.ofString "iso88599") 568) (Value.str (ev 30) 331)), (DictEntry.mk (PyData.keyHash P (Str.ofString "koi8r")) (Value.str (Str.ofString "koi8r") 587) (Value.str (ev 37) 349)), (DictEntry.mk (PyData.keyHash P (Str.ofString "koi8t")) (Value.str (Str.ofString "koi8t") 594) (Value.str (ev 38) 351)), (DictEntry.mk (PyData.keyHash P (Str.ofString "koi8u")) (Value.str (Str.ofString "koi8u") 601) (Value.str (ev 39) 353))]) 65) (List.toArray []))
def o125 (P : Params) : Obj := (Obj.mk (Value.type "list_iterator") none (Data.fields (List.toArray [(Value.ref 102), (Value.int (37 : Int) 0)])) (List.toArray []))
def o126 (P : Params) : Obj := (Obj.mk (Value.type "StopIteration") none (Data.fields (List.toArray [(Value.ref 182), Value.none, Value.none, Value.none, (Value.bool Bool.false), Value.none])) (List.toArray []))
def o127 (P : Params) : Obj := (Obj.mk (Value.type "StopIteration") none (Data.fields (List.toArray [(Value.ref 185), Value.none, Value.none, Value.none, (Value.bool Bool.false), Value.none])) (List.toArray []))
def o128 (P : Params) : Obj := (Obj.mk (Value.type "StopIteration") none (Data.fields (List.toArray [(Value.ref 188), Value.none, Value.none, Value.none, (Value.bool Bool.false), Value.none])) (List.toArray []))
def o129 (P : Params) : Obj := (Obj.mk (Value.type "StopIteration") none (Data.fields (List.toArray [(Value.ref 191), Value.none, Value.none, Value.none, (Value.bool Bool.false), Value.none])) (List.toArray []))
def o130 (P : Params) : Obj := (Obj.mk (Value.type "StopIteration") none (Data.fields (List.toArray [(Value.ref 194), Value.none, Value.none, Value.none, (Value.bool Bool.false), Value.none])) (List.toArray []))
def o131 (P : Params) : Obj := (Obj.mk (Value.type "StopIteration") none (Data.fields (List.toArray [(Value.ref 197), Value.none, Value.none, Value.none, (Value.bool Bool.false), Value.none])) (List.toArray []))
def o132 (P : Params) : Obj := (Obj.mk (Value.type "StopIteration") none (Data.fields (List.toArray [(Value.ref 200), Value.none, Value.none, Value.none, (Value.bool Bool.false), Value.none])) (List.toArray []))
def o133 (P : Params) : Obj := (Obj.mk (Value.type "StopIteration") none (Data.fields (List.toArray [(Value.ref 203), Value.none, Value.none, Value.none, (Value.bool Bool.false), Value.none])) (List.toArray []))
def o134 (P : Params) : Obj := (Obj.mk (Value.type "StopIteration") none (Data.fields (List.toArray [(Value.ref 206), Value.none, Value.none, Value.none, (Value.bool Bool.false), Value.none])) (List.toArray []))
def o135 (P : Params) : Obj := (Obj.mk (Value.type "StopIteration") none (Data.fields (List.toArray [(Value.ref 209), Value.none, Value.none, Value.none, (Value.bool Bool.false), Value.none])) (List.toArray []))
def o136 (P : Params) : Obj := (Obj.mk (Value.type "StopIteration") none (Data.fields (List.toArray [(Value.ref 212), Value.none, Value.none, Value.none, (Value.bool Bool.false), Value.none])) (List.toArray []))
def o137 (P : Params) : Obj := (Obj.mk (Value.type "StopIteration") none (Data.fields (List.toArray [(Value.ref 215), Value.none, Value.none, Value.none, (Value.bool Bool.false), Value.none])) (List.toArray []))
def TB4 (P : Params) : BT := (.node (o0 P) (.node (o1 P) (.node (o123 P) (.node (o7 P) (.node (o7 P) (.node (o23 P) (.node (o49 P) (.node (o91 P) .nil .nil) (.node (o7 P) .nil .nil)) (.node (o81 P) (.node (o115 P) .nil .nil) .nil)) (.node (o32 P) (.node (o65 P) (.node (o7 P) .nil .nil) (.node (o134 P) .nil .nil)) (.node (o96 P) (.node (o91 P) .nil .nil) .nil))) (.node (o8 P) (.node (o7 P) (.node (o57 P) (.node (o104 P) .nil .nil) (.node (o91 P) .nil .nil)) (.node (o88 P) (.node (o7 P) .nil .nil) .nil)) (.node (o41 P) (.node (o73 P) (.node (o91 P) .nil .nil) (.node (o7 P) .nil .nil)) (.node (o7 P) (.node (o126 P) .nil .nil) .nil)))) (.node (o7 P) (.node (o16 P) (.node (o26 P) (.node (o53 P) (.node (o7 P) .nil .nil) (.node (o130 P) .nil .nil)) (.node (o85 P) (.node (o91 P) .nil .nil) .nil)) (.node (o36 P) (.node (o69 P) (.node (o111 P) .nil .nil) (.node (o91 P) .nil .nil)) (.node (o91 P) (.node (o7 P) .nil .nil) .nil))) (.node (o21 P) (.node (o7 P) (.node (o61 P) (.node (o91 P) .nil .nil) (.node (o7 P) .nil .nil)) (.node (o7 P) (.node (o119 P) .nil .nil) .nil)) (.node (o45 P) (.node (o77 P) (.node (o7 P) .nil .nil) .nil) (.node (o100 P) (.node (o91 P) .nil .nil) .nil))))) (.node (o5 P) (.node (o9 P) (.node (o15 P) (.node (o24 P) (.node (o51 P) (.node (o102 P) .nil .nil) (.node (o91 P) .nil .nil)) (.node (o83 P) (.node (o7 P) .nil .nil) .nil)) (.node (o34 P) (.node (o67 P) (.node (o91 P) .nil .nil) (.node (o7 P) .nil .nil)) (.node (o7 P) (.node (o121 P) .nil .nil) .nil))) (.node (o7 P) (.node (o29 P) (.node (o59 P) (.node (o7 P) .nil .nil) (.node (o132 P) .nil .nil)) (.node (o125 P) (.node (o91 P) .nil .nil) .nil)) (.node (o43 P) (.node (o75 P) (.node (o113 P) .nil .nil) .nil) (.node (o91 P) (.node (o7 P) .nil .nil) .nil)))) (.node (o11 P) (.node (o18 P) (.node (o8 P) (.node (o55 P) (.node (o91 P) .nil .nil) (.node (o7 P) .nil .nil)) (.node (o86 P) (.node (o117 P) .nil .nil) .nil)) (.node (o39 P) (.node (o71 P) (.node (o7 P) .nil .nil) (.node (o136 P) .nil .nil)) (.node (o98 P) (.node (o91 P) .nil .nil) .nil))) (.node (o7 P) (.node (o31 P) (.node (o63 P) (.node (o106 P) .nil .nil) (.node (o91 P) .nil .nil)) (.node (o91 P) (.node (o7 P) .nil .nil) .nil)) (.node (o47 P) (.node (o79 P) (.node (o91 P) .nil .nil) .nil) (.node (o7 P) (.node (o128 P) .nil .nil) .nil)))))) (.node (o2 P) (.node (o4 P) (.node (o8 P) (.node (o8 P) (.node (o7 P) (.node (o50 P) (.node (o7 P) .nil .nil) (.node (o129 P) .nil .nil)) (.node (o82 P) (.node (o91 P) .nil .nil) .nil)) (.node (o33 P) (.node (o66 P) (.node (o107 P) .nil .nil) (.node (o91 P) .nil .nil)) (.node (o91 P) (.node (o7 P) .nil .nil) .nil))) (.node (o19 P) (.node (o28 P) (.node (o58 P) (.node (o91 P) .nil .nil) (.node (o7 P) .nil .nil)) (.node (o89 P) (.node (o118 P) .nil .nil) .nil)) (.node (o42 P) (.node (o74 P) (.node (o7 P) .nil .nil) (.node (o137 P) .nil .nil)) (.node (o99 P) (.node (o91 P) .nil .nil) .nil)))) (.node (o14 P) (.node (o17 P) (.node (o7 P) (.node (o54 P) (.node (o103 P) .nil .nil) (.node (o91 P) .nil .nil)) (.node (o7 P) (.node (o7 P) .nil .nil) .nil)) (.node (o37 P) (.node (o70 P) (.node (o91 P) .nil .nil) (.node (o7 P) .nil .nil)) (.node (o7 P) (.node (o122 P) .nil .nil) .nil))) (.node (o22 P) (.node (o8 P) (.node (o62 P) (.node (o7 P) .nil .nil) (.node (o133 P) .nil .nil)) (.node (o92 P) (.node (o91 P) .nil .nil) .nil)) (.node (o46 P) (.node (o78 P) (.node (o114 P) .nil .nil) .nil) (.node (o91 P) (.node (o7 P) .nil .nil) .nil))))) (.node (o6 P) (.node (o10 P) (.node (o7 P) (.node (o25 P) (.node (o52 P) (.node (o91 P) .nil .nil) (.node (o7 P) .nil .nil)) (.node (o84 P) (.node (o116 P) .nil .nil) .nil)) (.node (o124 P) (.node (o68 P) (.node (o7 P) .nil .nil) (.node (o135 P) .nil .nil)) (.node (o97 P) (.node (o91 P) .nil .nil) .nil))) (.node (o20 P) (.node (o30 P) (.node (o60 P) (.node (o105 P) .nil .nil) (.node (o91 P) .nil .nil)) (.node (o91 P) (.node (o7 P) .nil .nil) .nil)) (.node (o44 P) (.node (o76 P) (.node (o91 P) .nil .nil) .nil) (.node (o7 P) (.node (o127 P) .nil .nil) .nil)))) (.node (o12 P) (.node (o7 P) (.node (o27 P) (.node (o56 P) (.node (o7 P) .nil .nil) (.node (o131 P) .nil .nil)) (.node (o87 P) (.node (o91 P) .nil .nil) .nil)) (.node (o40 P) (.node (o72 P) (.node (o112 P) .nil .nil) (.node (o91 P) .nil .nil)) (.node (o91 P) (.node (o7 P) .nil .nil) .nil))) (.node (o8 P) (.node (o7 P) (.node (o64 P) (.node (o91 P) .nil .nil) (.node (o7 P) .nil .nil)) (.node (o7 P) (.node (o120 P) .nil .nil) .nil)) (.node (o48 P) (.node (o80 P) (.node (o7 P) .nil .nil) .nil) (.node (o101 P) (.node (o91 P) .nil .nil) .nil)))))))
def o138 (P : Params) : Obj := (Obj.mk (Value.type "dict") none (Data.dict (List.toArray [(DictEntry.mk (PyData.keyHash P (Str.ofString "__name__")) (Value.str (Str.ofString "__name__") 165) (Value.str (Str.ofString "cpy313.locale") 194)), (DictEntry.mk (PyData.keyHash P (Str.ofString "__doc__")) (Value.str (Str.ofString "__doc__") 166) Value.none), (DictEntry.mk (PyData.keyHash P (Str.ofString "__package__")) (Value.str (Str.ofString "__package__") 167) Value.none), (DictEntry.mk (PyData.keyHash P (Str.ofString "__loader__")) (Value.str (Str.ofString "__loader__") 168) (Value.builtin "__main__.__loader__#opaque")), (DictEntry.mk (PyData.keyHash P (Str.ofString "__spec__")) (Value.str (Str.ofString "__spec__") 169) Value.none), (DictEntry.mk (PyData.keyHash P (Str.ofString "__annotations__")) (Value.str (Str.ofString "__annotations__") 170) (Value.ref 6)), (DictEntry.mk (PyData.keyHash P (Str.ofString "__builtins__")) (Value.str (Str.ofString "__builtins__") 171) (Value.ref 4)), (DictEntry.mk (PyData.keyHash P (Str.ofString "__file__")) (Value.str (Str.ofString "__file__") 173) (Value.str (Str.ofString "/claim/cut.py") 172)), (DictEntry.mk (PyData.keyHash P (Str.ofString "__cached__")) (Value.str (Str.ofString "__cached__") 174) Value.none), (DictEntry.mk (PyData.keyHash P (Str.ofString "_wall")) (Value.str (Str.ofString "_wall") 193) (Value.ref 21)), (DictEntry.mk (PyData.keyHash P (Str.ofString "_replace_encoding")) (Value.str (Str.ofString "_replace_encoding") 205) (Value.ref 28)), (DictEntry.mk (PyData.keyHash P (Str.ofString "_append_modifier")) (Value.str (Str.ofString "_append_modifier") 215) (Value.ref 35)), (DictEntry.mk (PyData.keyHash P (Str.ofString "normalize")) (Value.str (Str.ofString "normalize") 230) (Value.ref 42)), (DictEntry.mk (PyData.keyHash P (Str.ofString "_parse_localename")) (Value.str (Str.ofString "_parse_localename") 239) (Value.ref 49)), (DictEntry.mk (PyData.keyHash P (Str.ofString "locale_encoding_alias")) (Value.str (Str.ofString "locale_encoding_alias") 372) (Value.ref 50)), (DictEntry.mk (PyData.keyHash P (Str.ofString "k")) (Value.str (Str.ofString "k") 373) (Value.str (Str.ofString "utf8") 658)), (DictEntry.mk (PyData.keyHash P (Str.ofString "v")) (Value.str (Str.ofString "v") 374) (Value.str (ev 36) 347))]) 17) (List.toArray []))
def o139 (P : Params) : Obj := (Obj.mk (Value.type "dict") none (Data.dict (List.toArray [(DictEntry.mk (PyData.keyHash P (ek 0)) (Value.str (ek 0) 240) (Value.str (Str.ofString "C") 241)), (DictEntry.mk (PyData.keyHash P (Str.ofString "c")) (Value.str (Str.ofString "c") 243) (Value.str (Str.ofString "C") 244)), (DictEntry.mk (PyData.keyHash P (Str.ofString "en")) (Value.str (Str.ofString "en") 246) (Value.str (ev 2) 247)), (DictEntry.mk (PyData.keyHash P (ek 3)) (Value.str (ek 3) 249) (Value.str (ev 3) 250)), (DictEntry.mk (PyData.keyHash P (ek 4)) (Value.str (ek 4) 252) (Value.str (ev 3) 253)), (DictEntry.mk (PyData.keyHash P (ek 5)) (Value.str (ek 5) 255) (Value.str (ev 5) 256)), (DictEntry.mk (PyData.keyHash P (ek 6)) (Value.str (ek 6) 258) (Value.str (ev 6) 259)), (DictEntry.mk (PyData.keyHash P (ek 7)) (Value.str (ek 7) 261) (Value.str (ev 7) 262)), (DictEntry.mk (PyData.keyHash P (ek 8)) (Value.str (ek 8) 264) (Value.str (ev 8) 265)), (DictEntry.mk (PyData.keyHash P (ek 9)) (Value.str (ek 9) 267) (Value.str (ev 9) 268)), (DictEntry.mk (PyData.keyHash P (ek 10)) (Value.str (ek 10) 270) (Value.str (ev 2) 271)), (DictEntry.mk (PyData.keyHash P (ek 11)) (Value.str (ek 11) 273) (Value.str (ev 11) 274)), (DictEntry.mk (PyData.keyHash P (ek 12)) (Value.str (ek 12) 276) (Value.str (ev 12) 277)), (DictEntry.mk (PyData.keyHash P (ek 13)) (Value.str (ek 13) 279) (Value.str (ev 13) 280)), (DictEntry.mk (PyData.keyHash P (ek 14)) (Value.str (ek 14) 282) (Value.str (ev 2) 283)), (DictEntry.mk (PyData.keyHash P (ek 15)) (Value.str (ek 15) 285) (Value.str (ev 2) 286)), (DictEntry.mk (PyData.keyHash P (ek 16)) (Value.str (ek 16) 288) (Value.str (ev 2) 289)), (DictEntry.mk (PyData.keyHash P (ek 17)) (Value.str (ek 17) 291) (Value.str (ev 17) 292)), (DictEntry.mk (PyData.keyHash P (ek 18)) (Value.str (ek 18) 294) (Value.str (ev 18) 295)), (DictEntry.mk (PyData.keyHash P (ek 19)) (Value.str (ek 19) 297) (Value.str (ev 19) 298)), (DictEntry.mk (PyData.keyHash P (ek 20)) (Value.str (ek 20) 300) (Value.str (ev 20) 301)), (DictEntry.mk (PyData.keyHash P (ek 21)) (Value.str (ek 21) 303) (Value.str (ev 13) 304)), (DictEntry.mk (PyData.keyHash P (ek 22)) (Value.str (ek 22) 306) (Value.str (ev 22) 307)), (DictEntry.mk (PyData.keyHash P (ek 23)) (Value.str (ek 23) 309) (Value.str (ev 11) 310)), (DictEntry.mk (PyData.keyHash P (ek 24)) (Value.str (ek 24) 312) (Value.str (ev 24) 313)), (DictEntry.mk (PyData.keyHash P (ek 25)) (Value.str (ek 25) 315) (Value.str (ev 25) 316)), (DictEntry.mk (PyData.keyHash P (ek 26)) (Value.str (ek 26) 318) (Value.str (ev 12) 319)), (DictEntry.mk (PyData.keyHash P (ek 27)) (Value.str (ek 27) 321) (Value.str (ev 27) 322)), (DictEntry.mk (PyData.keyHash P (ek 28)) (Value.str (ek 28) 324) (Value.str (ev 28) 325)), (DictEntry.mk (PyData.keyHash P (ek 29)) (Value.str (ek 29) 327) (Value.str (ev 29) 328)), (DictEntry.mk (PyData.keyHash P (ek 30)) (Value.str (ek 30) 330) (Value.str (ev 30) 331)), (DictEntry.mk (PyData.keyHash P (ek 31)) (Value.str (ek 31) 333) (Value.str (ev 3) 334)), (DictEntry.mk (PyData.keyHash P (ek 32)) (Value.str (ek 32) 336) (Value.str (ev 32) 337)), (DictEntry.mk (PyData.keyHash P (ek 33)) (Value.str (ek 33) 339) (Value.str (ev 33) 340)), (DictEntry.mk (PyData.keyHash P (ek 34)) (Value.str (ek 34) 342) (Value.str (ev 5) 343)), (DictEntry.mk (PyData.keyHash P (ek 35)) (Value.str (ek 35) 344) (Value.str (ev 35) 345)), (DictEntry.mk (PyData.keyHash P (ek 36)) (Value.str (ek 36) 346) (Value.str (ev 36) 347)), (DictEntry.mk (PyData.keyHash P (ek 37)) (Value.str (ek 37) 348) (Value.str (ev 37) 349)), (DictEntry.mk (PyData.keyHash P (ek 38)) (Value.str (ek 38) 350) (Value.str (ev 38) 351)), (DictEntry.mk (PyData.keyHash P (ek 39)) (Value.str (ek 39) 352) (Value.str (ev 39) 353)), (DictEntry.mk (PyData.keyHash P (ek 40)) (Value.str (ek 40) 354) (Value.str (ev 40) 355)), (DictEntry.mk (PyData.keyHash P (ek 41)) (Value.str (ek 41) 356) (Value.str (ev 7) 357)), (DictEntry.mk (PyData.keyHash P (ek 42)) (Value.str (ek 42) 358) (Value.str (ev 8) 359)), (DictEntry.mk (PyData.keyHash P (ek 43)) (Value.str (ek 43) 360) (Value.str (ev 9) 361)), (DictEntry.mk (PyData.keyHash P (Str.ofString "eucjp")) (Value.str (Str.ofString "eucjp") 449) (Value.str (ev 5) 343)), (DictEntry.mk (PyData.keyHash P (Str.ofString "euckr")) (Value.str (Str.ofString "euckr") 456) (Value.str (ev 35) 345)), (DictEntry.mk (PyData.keyHash P (Str.ofString "iso2022jp")) (Value.str (Str.ofString "iso2022jp") 463) (Value.str (ev 3) 334)), (DictEntry.mk (PyData.keyHash P (Str.ofString "iso88591")) (Value.str (Str.ofString "iso88591") 470) (Value.str (ev 2) 289)), (DictEntry.mk (PyData.keyHash P (Str.ofString "iso885910")) (Value.str (Str.ofString "iso885910") 477) (Value.str (ev 17) 292)), (DictEntry.mk (PyData.keyHash P (Str.ofString "iso885911")) (Value.str (Str.ofString "iso885911") 484) (Value.str (ev 18) 295)), (DictEntry.mk (PyData.keyHash P (Str.ofString "iso885913")) (Value.str (Str.ofString "iso885913") 491) (Value.str (ev 19) 298)), (DictEntry.mk (PyData.keyHash P (Str.ofString "iso885914")) (Value.str (Str.ofString "iso885914") 498) (Value.str (ev 20) 301)), (DictEntry.mk (PyData.keyHash P (Str.ofString "iso885915")) (Value.str (Str.ofString "iso885915") 505) (Value.str (ev 13) 304)), (DictEntry.mk (PyData.keyHash P (Str.ofString "iso885916")) (Value.str (Str.ofString "iso885916") 512) (Value.str (ev 22) 307)), (DictEntry.mk (PyData.keyHash P (Str.ofString "iso88592")) (Value.str (Str.ofString "iso88592") 519) (Value.str (ev 11) 310)), (DictEntry.mk (PyData.keyHash P (Str.ofString "iso88593")) (Value.str (Str.ofString "iso88593") 526) (Value.str (ev 24) 313)), (DictEntry.mk (PyData.keyHash P (Str.ofString "iso88594")) (Value.str (Str.ofString "iso88594") 533) (Value.str (ev 25) 316)), (DictEntry.mk (PyData.keyHash P (Str.ofString "iso88595")) (Value.str (Str.ofString "iso88595") 540) (Value.str (ev 12) 319)), (DictEntry.mk (PyData.keyHash P (Str.ofString "iso88596")) (Value.str (Str.ofString "iso88596") 547) (Value.str (ev 27) 322)), (DictEntry.mk (PyData.keyHash P (Str.ofString "iso88597")) (Value.str (Str.ofString "iso88597") 554) (Value.str (ev 28) 325)), (DictEntry.mk (PyData.keyHash P (Str.ofString "iso88598")) (Value.str (Str.ofString "iso88598") 561) (Value.str (ev 29) 328)), (DictEntry.mk (PyData.keyHash P (Str.ofString "iso88599")) (Value.str (Str.ofString "iso88599") 568) (Value.str (ev 30) 331)), (DictEntry.mk (PyData.keyHash P (Str.ofString "koi8r")) (Value.str (Str.ofString "koi8r") 587) (Value.str (ev 37) 349)), (DictEntry.mk (PyData.keyHash P (Str.ofString "koi8t")) (Value.str (Str.ofString "koi8t") 594) (Value.str (ev 38) 351)), (DictEntry.mk (PyData.keyHash P (Str.ofString "koi8u")) (Value.str (Str.ofString "koi8u") 601) (Value.str (ev 39) 353)), (DictEntry.mk (PyData.keyHash P (Str.ofString "latin1")) (Value.str (Str.ofString "latin1") 620) (Value.str (ev 2) 286)), (DictEntry.mk (PyData.keyHash P (Str.ofString "shiftjis")) (Value.str (Str.ofString "shiftjis") 645) (Value.str (ev 32) 337)), (DictEntry.mk (PyData.keyHash P (Str.ofString "utf8")) (Value.str (Str.ofString "utf8") 658) (Value.str (ev 36) 347))]) 68) (List.toArray []))
def o140 (P : Params) : Obj := (Obj.mk (Value.type "list_iterator") none (Data.fields (List.toArray [Value.none, (Value.int (44 : Int) 0)])) (List.toArray []))
def o141 (P : Params) : Obj := (Obj.mk (Value.type "StopIteration") none (Data.fields (List.toArray [(Value.ref 218), Value.none, Value.none, Value.none, (Value.bool Bool.false), Value.none])) (List.toArray []))
def o142 (P : Params) : Obj := (Obj.mk (Value.type "StopIteration") none (Data.fields (List.toArray [(Value.ref 221), Value.none, Value.none, Value.none, (Value.bool Bool.false), Value.none])) (List.toArray []))
def o143 (P : Params) : Obj := (Obj.mk (Value.type "StopIteration") none (Data.fields (List.toArray [(Value.ref 224), Value.none, Value.none, Value.none, (Value.bool Bool.false), Value.none])) (List.toArray []))
def o144 (P : Params) : Obj := (Obj.mk (Value.type "StopIteration") none (Data.fields (List.toArray [(Value.ref 227), Value.none, Value.none, Value.none, (Value.bool Bool.false), Value.none])) (List.toArray []))
def o145 (P : Params) : Obj := (Obj.mk (Value.type "StopIteration") none (Data.fields (List.toArray [(Value.ref 230), Value.none, Value.none, Value.none, (Value.bool Bool.false), Value.none])) (List.toArray []))
def o146 (P : Params) : Obj := (Obj.mk (Value.type "StopIteration") none (Data.fields (List.toArray [(Value.ref 233), Value.none, Value.none, Value.none, (Value.bool Bool.false), Value.none])) (List.toArray []))
def o147 (P : Params) : Obj := (Obj.mk (Value.type "StopIteration") none (Data.fields (List.toArray [(Value.ref 236), Value.none, Value.none, Value.none, (Value.bool Bool.false), Value.none])) (List.toArray []))
def o148 (P : Params) : Obj := (Obj.mk (Value.type "StopIteration") none (Data.fields (List.toArray [(Value.ref 238), Value.none, Value.none, Value.none, (Value.bool Bool.false), Value.none])) (List.toArray []))
def TG (P : Params) : BT := (.node (o0 P) (.node (o1 P) (.node (o138 P) (.node (o7 P) (.node (o7 P) (.node (o23 P) (.node (o49 P) (.node (o91 P) .nil .nil) (.node (o7 P) .nil .nil)) (.node (o81 P) (.node (o115 P) .nil .nil) (.node (o91 P) .nil .nil))) (.node (o32 P) (.node (o65 P) (.node (o7 P) .nil .nil) (.node (o134 P) .nil .nil)) (.node (o96 P) (.node (o91 P) .nil .nil) (.node (o148 P) .nil .nil)))) (.node (o8 P) (.node (o7 P) (.node (o57 P) (.node (o104 P) .nil .nil) (.node (o91 P) .nil .nil)) (.node (o88 P) (.node (o7 P) .nil .nil) (.node (o145 P) .nil .nil))) (.node (o41 P) (.node (o73 P) (.node (o91 P) .nil .nil) (.node (o7 P) .nil .nil)) (.node (o7 P) (.node (o126 P) .nil .nil) .nil)))) (.node (o7 P) (.node (o16 P) (.node (o26 P) (.node (o53 P) (.node (o7 P) .nil .nil) (.node (o130 P) .nil .nil)) (.node (o85 P) (.node (o91 P) .nil .nil) (.node (o7 P) .nil .nil))) (.node (o36 P) (.node (o69 P) (.node (o111 P) .nil .nil) (.node (o91 P) .nil .nil)) (.node (o91 P) (.node (o7 P) .nil .nil) .nil))) (.node (o21 P) (.node (o7 P) (.node (o61 P) (.node (o91 P) .nil .nil) (.node (o7 P) .nil .nil)) (.node (o7 P) (.node (o119 P) .nil .nil) (.node (o91 P) .nil .nil))) (.node (o45 P) (.node (o77 P) (.node (o7 P) .nil .nil) (.node (o141 P) .nil .nil)) (.node (o100 P) (.node (o91 P) .nil .nil) .nil))))) (.node (o5 P) (.node (o9 P) (.node (o15 P) (.node (o24 P) (.node (o51 P) (.node (o102 P) .nil .nil) (.node (o91 P) .nil .nil)) (.node (o83 P) (.node (o7 P) .nil .nil) (.node (o143 P) .nil .nil))) (.node (o34 P) (.node (o67 P) (.node (o91 P) .nil .nil) (.node (o7 P) .nil .nil)) (.node (o7 P) (.node (o121 P) .nil .nil) .nil))) (.node (o7 P) (.node (o29 P) (.node (o59 P) (.node (o7 P) .nil .nil) (.node (o132 P) .nil .nil)) (.node (o140 P) (.node (o91 P) .nil .nil) (.node (o7 P) .nil .nil))) (.node (o43 P) (.node (o75 P) (.node (o113 P) .nil .nil) (.node (o91 P) .nil .nil)) (.node (o91 P) (.node (o7 P) .nil .nil) .nil)))) (.node (o11 P) (.node (o18 P) (.node (o8 P) (.node (o55 P) (.node (o91 P) .nil .nil) (.node (o7 P) .nil .nil)) (.node (o86 P) (.node (o117 P) .nil .nil) (.node (o91 P) .nil .nil))) (.node (o39 P) (.node (o71 P) (.node (o7 P) .nil .nil) (.node (o136 P) .nil .nil)) (.node (o98 P) (.node (o91 P) .nil .nil) .nil))) (.node (o7 P) (.node (o31 P) (.node (o63 P) (.node (o106 P) .nil .nil) (.node (o91 P) .nil .nil)) (.node (o91 P) (.node (o7 P) .nil .nil) (.node (o147 P) .nil .nil))) (.node (o47 P) (.node (o79 P) (.node (o91 P) .nil .nil) (.node (o7 P) .nil .nil)) (.node (o7 P) (.node (o128 P) .nil .nil) .nil)))))) (.node (o2 P) (.node (o4 P) (.node (o8 P) (.node (o8 P) (.node (o7 P) (.node (o50 P) (.node (o7 P) .nil .nil) (.node (o129 P) .nil .nil)) (.node (o82 P) (.node (o91 P) .nil .nil) (.node (o7 P) .nil .nil))) (.node (o33 P) (.node (o66 P) (.node (o107 P) .nil .nil) (.node (o91 P) .nil .nil)) (.node (o91 P) (.node (o7 P) .nil .nil) .nil))) (.node (o19 P) (.node (o28 P) (.node (o58 P) (.node (o91 P) .nil .nil) (.node (o7 P) .nil .nil)) (.node (o89 P) (.node (o118 P) .nil .nil) (.node (o91 P) .nil .nil))) (.node (o42 P) (.node (o74 P) (.node (o7 P) .nil .nil) (.node (o137 P) .nil .nil)) (.node (o99 P) (.node (o91 P) .nil .nil) .nil)))) (.node (o14 P) (.node (o17 P) (.node (o7 P) (.node (o54 P) (.node (o103 P) .nil .nil) (.node (o91 P) .nil .nil)) (.node (o7 P) (.node (o7 P) .nil .nil) (.node (o144 P) .nil .nil))) (.node (o37 P) (.node (o70 P) (.node (o91 P) .nil .nil) (.node (o7 P) .nil .nil)) (.node (o7 P) (.node (o122 P) .nil .nil) .nil))) (.node (o22 P) (.node (o8 P) (.node (o62 P) (.node (o7 P) .nil .nil) (.node (o133 P) .nil .nil)) (.node (o92 P) (.node (o91 P) .nil .nil) (.node (o7 P) .nil .nil))) (.node (o46 P) (.node (o78 P) (.node (o114 P) .nil .nil) (.node (o91 P) .nil .nil)) (.node (o91 P) (.node (o7 P) .nil .nil) .nil))))) (.node (o6 P) (.node (o10 P) (.node (o7 P) (.node (o25 P) (.node (o52 P) (.node (o91 P) .nil .nil) (.node (o7 P) .nil .nil)) (.node (o84 P) (.node (o116 P) .nil .nil) (.node (o91 P) .nil .nil))) (.node (o139 P) (.node (o68 P) (.node (o7 P) .nil .nil) (.node (o135 P) .nil .nil)) (.node (o97 P) (.node (o91 P) .nil .nil) .nil))) (.node (o20 P) (.node (o30 P) (.node (o60 P) (.node (o105 P) .nil .nil) (.node (o91 P) .nil .nil)) (.node (o91 P) (.node (o7 P) .nil .nil) (.node (o146 P) .nil .nil))) (.node (o44 P) (.node (o76 P) (.node (o91 P) .nil .nil) (.node (o7 P) .nil .nil)) (.node (o7 P) (.node (o127 P) .nil .nil) .nil)))) (.node (o12 P) (.node (o7 P) (.node (o27 P) (.node (o56 P) (.node (o7 P) .nil .nil) (.node (o131 P) .nil .nil)) (.node (o87 P) (.node (o91 P) .nil .nil) (.node (o7 P) .nil .nil))) (.node (o40 P) (.node (o72 P) (.node (o112 P) .nil .nil) (.node (o91 P) .nil .nil)) (.node (o91 P) (.node (o7 P) .nil .nil) .nil))) (.node (o8 P) (.node (o7 P) (.node (o64 P) (.node (o91 P) .nil .nil) (.node (o7 P) .nil .nil)) (.node (o7 P) (.node (o120 P) .nil .nil) (.node (o7 P) .nil .nil))) (.node (o48 P) (.node (o80 P) (.node (o7 P) .nil .nil) (.node (o142 P) .nil .nil)) (.node (o101 P) (.node (o91 P) .nil .nil) .nil)))))))
def o149 (P : Params) : Obj := (Obj.mk (Value.type "dict") none (Data.dict (List.toArray [(DictEntry.mk (PyData.keyHash P (Str.ofString "__name__")) (Value.str (Str.ofString "__name__") 165) (Value.str (Str.ofString "cpy313.locale") 194)), (DictEntry.mk (PyData.keyHash P (Str.ofString "__doc__")) (Value.str (Str.ofString "__doc__") 166) Value.none), (DictEntry.mk (PyData.keyHash P (Str.ofString "__package__")) (Value.str (Str.ofString "__package__") 167) Value.none), (DictEntry.mk (PyData.keyHash P (Str.ofString "__loader__")) (Value.str (Str.ofString "__loader__") 168) (Value.builtin "__main__.__loader__#opaque")), (DictEntry.mk (PyData.keyHash P (Str.ofString "__spec__")) (Value.str (Str.ofString "__spec__") 169) Value.none), (DictEntry.mk (PyData.keyHash P (Str.ofString "__annotations__")) (Value.str (Str.ofString "__annotations__") 170) (Value.ref 6)), (DictEntry.mk (PyData.keyHash P (Str.ofString "__builtins__")) (Value.str (Str.ofString "__builtins__") 171) (Value.ref 4)), (DictEntry.mk (PyData.keyHash P (Str.ofString "__file__")) (Value.str (Str.ofString "__file__") 173) (Value.str (Str.ofString "/claim/cut.py") 172)), (DictEntry.mk (PyData.keyHash P (Str.ofString "__cached__")) (Value.str (Str.ofString "__cached__") 174) Value.none), (DictEntry.mk (PyData.keyHash P (Str.ofString "_wall")) (Value.str (Str.ofString "_wall") 193) (Value.ref 21)), (DictEntry.mk (PyData.keyHash P (Str.ofString "_replace_encoding")) (Value.str (Str.ofString "_replace_encoding") 205) (Value.ref 28)), (DictEntry.mk (PyData.keyHash P (Str.ofString "_append_modifier")) (Value.str (Str.ofString "_append_modifier") 215) (Value.ref 35)), (DictEntry.mk (PyData.keyHash P (Str.ofString "normalize")) (Value.str (Str.ofString "normalize") 230) (Value.ref 42)), (DictEntry.mk (PyData.keyHash P (Str.ofString "_parse_localename")) (Value.str (Str.ofString "_parse_localename") 239) (Value.ref 49)), (DictEntry.mk (PyData.keyHash P (Str.ofString "locale_encoding_alias")) (Value.str (Str.ofString "locale_encoding_alias") 372) (Value.ref 50))]) 19) (List.toArray []))
def T1 (P : Params) : BT := (.node (o0 P) (.node (o1 P) (.node (o149 P) (.node (o7 P) (.node (o7 P) (.node (o23 P) (.node (o49 P) (.node (o91 P) .nil .nil) (.node (o7 P) .nil .nil)) (.node (o81 P) (.node (o115 P) .nil .nil) (.node (o91 P) .nil .nil))) (.node (o32 P) (.node (o65 P) (.node (o7 P) .nil .nil) (.node (o134 P) .nil .nil)) (.node (o96 P) (.node (o91 P) .nil .nil) (.node (o148 P) .nil .nil)))) (.node (o8 P) (.node (o7 P) (.node (o57 P) (.node (o104 P) .nil .nil) (.node (o91 P) .nil .nil)) (.node (o88 P) (.node (o7 P) .nil .nil) (.node (o145 P) .nil .nil))) (.node (o41 P) (.node (o73 P) (.node (o91 P) .nil .nil) (.node (o7 P) .nil .nil)) (.node (o7 P) (.node (o126 P) .nil .nil) .nil)))) (.node (o7 P) (.node (o16 P) (.node (o26 P) (.node (o53 P) (.node (o7 P) .nil .nil) (.node (o130 P) .nil .nil)) (.node (o85 P) (.node (o91 P) .nil .nil) (.node (o7 P) .nil .nil))) (.node (o36 P) (.node (o69 P) (.node (o111 P) .nil .nil) (.node (o91 P) .nil .nil)) (.node (o91 P) (.node (o7 P) .nil .nil) .nil))) (.node (o21 P) (.node (o7 P) (.node (o61 P) (.node (o91 P) .nil .nil) (.node (o7 P) .nil .nil)) (.node (o7 P) (.node (o119 P) .nil .nil) (.node (o91 P) .nil .nil))) (.node (o45 P) (.node (o77 P) (.node (o7 P) .nil .nil) (.node (o141 P) .nil .nil)) (.node (o100 P) (.node (o91 P) .nil .nil) .nil))))) (.node (o5 P) (.node (o9 P) (.node (o15 P) (.node (o24 P) (.node (o51 P) (.node (o102 P) .nil .nil) (.node (o91 P) .nil .nil)) (.node (o83 P) (.node (o7 P) .nil .nil) (.node (o143 P) .nil .nil))) (.node (o34 P) (.node (o67 P) (.node (o91 P) .nil .nil) (.node (o7 P) .nil .nil)) (.node (o7 P) (.node (o121 P) .nil .nil) .nil))) (.node (o7 P) (.node (o29 P) (.node (o59 P) (.node (o7 P) .nil .nil) (.node (o132 P) .nil .nil)) (.node (o140 P) (.node (o91 P) .nil .nil) (.node (o7 P) .nil .nil))) (.node (o43 P) (.node (o75 P) (.node (o113 P) .nil .nil) (.node (o91 P) .nil .nil)) (.node (o91 P) (.node (o7 P) .nil .nil) .nil)))) (.node (o11 P) (.node (o18 P) (.node (o8 P) (.node (o55 P) (.node (o91 P) .nil .nil) (.node (o7 P) .nil .nil)) (.node (o86 P) (.node (o117 P) .nil .nil) (.node (o91 P) .nil .nil))) (.node (o39 P) (.node (o71 P) (.node (o7 P) .nil .nil) (.node (o136 P) .nil .nil)) (.node (o98 P) (.node (o91 P) .nil .nil) .nil))) (.node (o7 P) (.node (o31 P) (.node (o63 P) (.node (o106 P) .nil .nil) (.node (o91 P) .nil .nil)) (.node (o91 P) (.node (o7 P) .nil .nil) (.node (o147 P) .nil .nil))) (.node (o47 P) (.node (o79 P) (.node (o91 P) .nil .nil) (.node (o7 P) .nil .nil)) (.node (o7 P) (.node (o128 P) .nil .nil) .nil)))))) (.node (o2 P) (.node (o4 P) (.node (o8 P) (.node (o8 P) (.node (o7 P) (.node (o50 P) (.node (o7 P) .nil .nil) (.node (o129 P) .nil .nil)) (.node (o82 P) (.node (o91 P) .nil .nil) (.node (o7 P) .nil .nil))) (.node (o33 P) (.node (o66 P) (.node (o107 P) .nil .nil) (.node (o91 P) .nil .nil)) (.node (o91 P) (.node (o7 P) .nil .nil) .nil))) (.node (o19 P) (.node (o28 P) (.node (o58 P) (.node (o91 P) .nil .nil) (.node (o7 P) .nil .nil)) (.node (o89 P) (.node (o118 P) .nil .nil) (.node (o91 P) .nil .nil))) (.node (o42 P) (.node (o74 P) (.node (o7 P) .nil .nil) (.node (o137 P) .nil .nil)) (.node (o99 P) (.node (o91 P) .nil .nil) .nil)))) (.node (o14 P) (.node (o17 P) (.node (o7 P) (.node (o54 P) (.node (o103 P) .nil .nil) (.node (o91 P) .nil .nil)) (.node (o7 P) (.node (o7 P) .nil .nil) (.node (o144 P) .nil .nil))) (.node (o37 P) (.node (o70 P) (.node (o91 P) .nil .nil) (.node (o7 P) .nil .nil)) (.node (o7 P) (.node (o122 P) .nil .nil) .nil))) (.node (o22 P) (.node (o8 P) (.node (o62 P) (.node (o7 P) .nil .nil) (.node (o133 P) .nil .nil)) (.node (o92 P) (.node (o91 P) .nil .nil) (.node (o7 P) .nil .nil))) (.node (o46 P) (.node (o78 P) (.node (o114 P) .nil .nil) (.node (o91 P) .nil .nil)) (.node (o91 P) (.node (o7 P) .nil .nil) .nil))))) (.node (o6 P) (.node (o10 P) (.node (o7 P) (.node (o25 P) (.node (o52 P) (.node (o91 P) .nil .nil) (.node (o7 P) .nil .nil)) (.node (o84 P) (.node (o116 P) .nil .nil) (.node (o91 P) .nil .nil))) (.node (o139 P) (.node (o68 P) (.node (o7 P) .nil .nil) (.node (o135 P) .nil .nil)) (.node (o97 P) (.node (o91 P) .nil .nil) .nil))) (.node (o20 P) (.node (o30 P) (.node (o60 P) (.node (o105 P) .nil .nil) (.node (o91 P) .nil .nil)) (.node (o91 P) (.node (o7 P) .nil .nil) (.node (o146 P) .nil .nil))) (.node (o44 P) (.node (o76 P) (.node (o91 P) .nil .nil) (.node (o7 P) .nil .nil)) (.node (o7 P) (.node (o127 P) .nil .nil) .nil)))) (.node (o12 P) (.node (o7 P) (.node (o27 P) (.node (o56 P) (.node (o7 P) .nil .nil) (.node (o131 P) .nil .nil)) (.node (o87 P) (.node (o91 P) .nil .nil) (.node (o7 P) .nil .nil))) (.node (o40 P) (.node (o72 P) (.node (o112 P) .nil .nil) (.node (o91 P) .nil .nil)) (.node (o91 P) (.node (o7 P) .nil .nil) .nil))) (.node (o8 P) (.node (o7 P) (.node (o64 P) (.node (o91 P) .nil .nil) (.node (o7 P) .nil .nil)) (.node (o7 P) (.node (o120 P) .nil .nil) (.node (o7 P) .nil .nil))) (.node (o48 P) (.node (o80 P) (.node (o7 P) .nil .nil) (.node (o142 P) .nil .nil)) (.node (o101 P) (.node (o91 P) .nil .nil) .nil)))))))
def T2a (P : Params) : BT := (.node (o0 P) (.node (o1 P) (.node (o149 P) (.node (o7 P) (.node (o7 P) (.node (o23 P) (.node (o49 P) (.node (o91 P) (.node (xo P 15) .nil .nil) .nil) (.node (o7 P) .nil .nil)) (.node (o81 P) (.node (o115 P) .nil .nil) (.node (o91 P) .nil .nil))) (.node (o32 P) (.node (o65 P) (.node (o7 P) (.node (xo P 31) .nil .nil) .nil) (.node (o134 P) .nil .nil)) (.node (o96 P) (.node (o91 P) .nil .nil) (.node (o148 P) .nil .nil)))) (.node (o8 P) (.node (o7 P) (.node (o57 P) (.node (o104 P) (.node (xo P 23) .nil .nil) .nil) (.node (o91 P) .nil .nil)) (.node (o88 P) (.node (o7 P) .nil .nil) (.node (o145 P) .nil .nil))) (.node (o41 P) (.node (o73 P) (.node (o91 P) .nil .nil) (.node (o7 P) .nil .nil)) (.node (o7 P) (.node (o126 P) .nil .nil) (.node (xo P 7) .nil .nil))))) (.node (o7 P) (.node (o16 P) (.node (o26 P) (.node (o53 P) (.node (o7 P) (.node (xo P 19) .nil .nil) .nil) (.node (o130 P) .nil .nil)) (.node (o85 P) (.node (o91 P) .nil .nil) (.node (o7 P) .nil .nil))) (.node (o36 P) (.node (o69 P) (.node (o111 P) (.node (xo P 35) .nil .nil) .nil) (.node (o91 P) .nil .nil)) (.node (o91 P) (.node (o7 P) .nil .nil) (.node (xo P 3) .nil .nil)))) (.node (o21 P) (.node (o7 P) (.node (o61 P) (.node (o91 P) (.node (xo P 27) .nil .nil) .nil) (.node (o7 P) .nil .nil)) (.node (o7 P) (.node (o119 P) .nil .nil) (.node (o91 P) .nil .nil))) (.node (o45 P) (.node (o77 P) (.node (o7 P) .nil .nil) (.node (o141 P) .nil .nil)) (.node (o100 P) (.node (o91 P) .nil .nil) (.node (xo P 11) .nil .nil)))))) (.node (o5 P) (.node (o9 P) (.node (o15 P) (.node (o24 P) (.node (o51 P) (.node (o102 P) (.node (xo P 17) .nil .nil) .nil) (.node (o91 P) .nil .nil)) (.node (o83 P) (.node (o7 P) .nil .nil) (.node (o143 P) .nil .nil))) (.node (o34 P) (.node (o67 P) (.node (o91 P) (.node (xo P 33) .nil .nil) .nil) (.node (o7 P) .nil .nil)) (.node (o7 P) (.node (o121 P) .nil .nil) (.node (xo P 1) .nil .nil)))) (.node (o7 P) (.node (o29 P) (.node (o59 P) (.node (o7 P) (.node (xo P 25) .nil .nil) .nil) (.node (o132 P) .nil .nil)) (.node (o140 P) (.node (o91 P) .nil .nil) (.node (o7 P) .nil .nil))) (.node (o43 P) (.node (o75 P) (.node (o113 P) .nil .nil) (.node (o91 P) .nil .nil)) (.node (o91 P) (.node (o7 P) .nil .nil) (.node (xo P 9) .nil .nil))))) (.node (o11 P) (.node (o18 P) (.node (o8 P) (.node (o55 P) (.node (o91 P) (.node (xo P 21) .nil .nil) .nil) (.node (o7 P) .nil .nil)) (.node (o86 P) (.node (o117 P) .nil .nil) (.node (o91 P) .nil .nil))) (.node (o39 P) (.node (o71 P) (.node (o7 P) .nil .nil) (.node (o136 P) .nil .nil)) (.node (o98 P) (.node (o91 P) .nil .nil) (.node (xo P 5) .nil .nil)))) (.node (o7 P) (.node (o31 P) (.node (o63 P) (.node (o106 P) (.node (xo P 29) .nil .nil) .nil) (.node (o91 P) .nil .nil)) (.node (o91 P) (.node (o7 P) .nil .nil) (.node (o147 P) .nil .nil))) (.node (o47 P) (.node (o79 P) (.node (o91 P) .nil .nil) (.node (o7 P) .nil .nil)) (.node (o7 P) (.node (o128 P) .nil .nil) (.node (xo P 13) .nil .nil))))))) (.node (o2 P) (.node (o4 P) (.node (o8 P) (.node (o8 P) (.node (o7 P) (.node (o50 P) (.node (o7 P) (.node (xo P 16) .nil .nil) .nil) (.node (o129 P) .nil .nil)) (.node (o82 P) (.node (o91 P) .nil .nil) (.node (o7 P) .nil .nil))) (.node (o33 P) (.node (o66 P) (.node (o107 P) (.node (xo P 32) .nil .nil) .nil) (.node (o91 P) .nil .nil)) (.node (o91 P) (.node (o7 P) .nil .nil) (.node (xo P 0) .nil .nil)))) (.node (o19 P) (.node (o28 P) (.node (o58 P) (.node (o91 P) (.node (xo P 24) .nil .nil) .nil) (.node (o7 P) .nil .nil)) (.node (o89 P) (.node (o118 P) .nil .nil) (.node (o91 P) .nil .nil))) (.node (o42 P) (.node (o74 P) (.node (o7 P) .nil .nil) (.node (o137 P) .nil .nil)) (.node (o99 P) (.node (o91 P) .nil .nil) (.node (xo P 8) .nil .nil))))) (.node (o14 P) (.node (o17 P) (.node (o7 P) (.node (o54 P) (.node (o103 P) (.node (xo P 20) .nil .nil) .nil) (.node (o91 P) .nil .nil)) (.node (o7 P) (.node (o7 P) .nil .nil) (.node (o144 P) .nil .nil))) (.node (o37 P) (.node (o70 P) (.node (o91 P) .nil .nil) (.node (o7 P) .nil .nil)) (.node (o7 P) (.node (o122 P) .nil .nil) (.node (xo P 4) .nil .nil)))) (.node (o22 P) (.node (o8 P) (.node (o62 P) (.node (o7 P) (.node (xo P 28) .nil .nil) .nil) (.node (o133 P) .nil .nil)) (.node (o92 P) (.node (o91 P) .nil .nil) (.node (o7 P) .nil .nil))) (.node (o46 P) (.node (o78 P) (.node (o114 P) .nil .nil) (.node (o91 P) .nil .nil)) (.node (o91 P) (.node (o7 P) .nil .nil) (.node (xo P 12) .nil .nil)))))) (.node (o6 P) (.node (o10 P) (.node (o7 P) (.node (o25 P) (.node (o52 P) (.node (o91 P) (.node (xo P 18) .nil .nil) .nil) (.node (o7 P) .nil .nil)) (.node (o84 P) (.node (o116 P) .nil .nil) (.node (o91 P) .nil .nil))) (.node (o139 P) (.node (o68 P) (.node (o7 P) (.node (xo P 34) .nil .nil) .nil) (.node (o135 P) .nil .nil)) (.node (o97 P) (.node (o91 P) .nil .nil) (.node (xo P 2) .nil .nil)))) (.node (o20 P) (.node (o30 P) (.node (o60 P) (.node (o105 P) (.node (xo P 26) .nil .nil) .nil) (.node (o91 P) .nil .nil)) (.node (o91 P) (.node (o7 P) .nil .nil) (.node (o146 P) .nil .nil))) (.node (o44 P) (.node (o76 P) (.node (o91 P) .nil .nil) (.node (o7 P) .nil .nil)) (.node (o7 P) (.node (o127 P) .nil .nil) (.node (xo P 10) .nil .nil))))) (.node (o12 P) (.node (o7 P) (.node (o27 P) (.node (o56 P) (.node (o7 P) (.node (xo P 22) .nil .nil) .nil) (.node (o131 P) .nil .nil)) (.node (o87 P) (.node (o91 P) .nil .nil) (.node (o7 P) .nil .nil))) (.node (o40 P) (.node (o72 P) (.node (o112 P) .nil .nil) (.node (o91 P) .nil .nil)) (.node (o91 P) (.node (o7 P) .nil .nil) (.node (xo P 6) .nil .nil)))) (.node (o8 P) (.node (o7 P) (.node (o64 P) (.node (o91 P) (.node (xo P 30) .nil .nil) .nil) (.node (o7 P) .nil .nil)) (.node (o7 P) (.node (o120 P) .nil .nil) (.node (o7 P) .nil .nil))) (.node (o48 P) (.node (o80 P) (.node (o7 P) .nil .nil) (.node (o142 P) .nil .nil)) (.node (o101 P) (.node (o91 P) .nil .nil) (.node (xo P 14) .nil .nil))))))))
def o150 (P : Params) : Obj := (Obj.mk (Value.type "dict") none (Data.dict (List.toArray [(DictEntry.mk (PyData.keyHash P (Str.ofString "__name__")) (Value.str (Str.ofString "__name__") 165) (Value.str (Str.ofString "cpy313.locale") 194)), (DictEntry.mk (PyData.keyHash P (Str.ofString "__doc__")) (Value.str (Str.ofString "__doc__") 166) Value.none), (DictEntry.mk (PyData.keyHash P (Str.ofString "__package__")) (Value.str (Str.ofString "__package__") 167) Value.none), (DictEntry.mk (PyData.keyHash P (Str.ofString "__loader__")) (Value.str (Str.ofString "__loader__") 168) (Value.builtin "__main__.__loader__#opaque")), (DictEntry.mk (PyData.keyHash P (Str.ofString "__spec__")) (Value.str (Str.ofString "__spec__") 169) Value.none), (DictEntry.mk (PyData.keyHash P (Str.ofString "__annotations__")) (Value.str (Str.ofString "__annotations__") 170) (Value.ref 6)), (DictEntry.mk (PyData.keyHash P (Str.ofString "__builtins__")) (Value.str (Str.ofString "__builtins__") 171) (Value.ref 4)), (DictEntry.mk (PyData.keyHash P (Str.ofString "__file__")) (Value.str (Str.ofString "__file__") 173) (Value.str (Str.ofString "/claim/cut.py") 172)), (DictEntry.mk (PyData.keyHash P (Str.ofString "__cached__")) (Value.str (Str.ofString "__cached__") 174) Value.none), (DictEntry.mk (PyData.keyHash P (Str.ofString "_wall")) (Value.str (Str.ofString "_wall") 193) (Value.ref 21)), (DictEntry.mk (PyData.keyHash P (Str.ofString "_replace_encoding")) (Value.str (Str.ofString "_replace_encoding") 205) (Value.ref 28)), (DictEntry.mk (PyData.keyHash P (Str.ofString "_append_modifier")) (Value.str (Str.ofString "_append_modifier") 215) (Value.ref 35)), (DictEntry.mk (PyData.keyHash P (Str.ofString "normalize")) (Value.str (Str.ofString "normalize") 230) (Value.ref 42)), (DictEntry.mk (PyData.keyHash P (Str.ofString "_parse_localename")) (Value.str (Str.ofString "_parse_localename") 239) (Value.ref 49)), (DictEntry.mk (PyData.keyHash P (Str.ofString "locale_encoding_alias")) (Value.str (Str.ofString "locale_encoding_alias") 372) (Value.ref 50)), (DictEntry.mk (PyData.keyHash P (Str.ofString "locale_alias")) (Value.str (Str.ofString "locale_alias") 2464) (Value.ref 240))]) 20) (List.toArray []))
def T2 (P : Params) : BT := (.node (o0 P) (.node (o1 P) (.node (o150 P) (.node (o7 P) (.node (o7 P) (.node (o23 P) (.node (o49 P) (.node (o91 P) (.node (xo P 15) .nil .nil) .nil) (.node (o7 P) .nil .nil)) (.node (o81 P) (.node (o115 P) .nil .nil) (.node (o91 P) .nil .nil))) (.node (o32 P) (.node (o65 P) (.node (o7 P) (.node (xo P 31) .nil .nil) .nil) (.node (o134 P) .nil .nil)) (.node (o96 P) (.node (o91 P) .nil .nil) (.node (o148 P) .nil .nil)))) (.node (o8 P) (.node (o7 P) (.node (o57 P) (.node (o104 P) (.node (xo P 23) .nil .nil) .nil) (.node (o91 P) .nil .nil)) (.node (o88 P) (.node (o7 P) .nil .nil) (.node (o145 P) .nil .nil))) (.node (o41 P) (.node (o73 P) (.node (o91 P) .nil .nil) (.node (o7 P) .nil .nil)) (.node (o7 P) (.node (o126 P) .nil .nil) (.node (xo P 7) .nil .nil))))) (.node (o7 P) (.node (o16 P) (.node (o26 P) (.node (o53 P) (.node (o7 P) (.node (xo P 19) .nil .nil) .nil) (.node (o130 P) .nil .nil)) (.node (o85 P) (.node (o91 P) .nil .nil) (.node (o7 P) .nil .nil))) (.node (o36 P) (.node (o69 P) (.node (o111 P) (.node (xo P 35) .nil .nil) .nil) (.node (o91 P) .nil .nil)) (.node (o91 P) (.node (o7 P) .nil .nil) (.node (xo P 3) .nil .nil)))) (.node (o21 P) (.node (o7 P) (.node (o61 P) (.node (o91 P) (.node (xo P 27) .nil .nil) .nil) (.node (o7 P) .nil .nil)) (.node (o7 P) (.node (o119 P) .nil .nil) (.node (o91 P) .nil .nil))) (.node (o45 P) (.node (o77 P) (.node (o7 P) .nil .nil) (.node (o141 P) .nil .nil)) (.node (o100 P) (.node (o91 P) .nil .nil) (.node (xo P 11) .nil .nil)))))) (.node (o5 P) (.node (o9 P) (.node (o15 P) (.node (o24 P) (.node (o51 P) (.node (o102 P) (.node (xo P 17) .nil .nil) .nil) (.node (o91 P) .nil .nil)) (.node (o83 P) (.node (o7 P) .nil .nil) (.node (o143 P) .nil .nil))) (.node (o34 P) (.node (o67 P) (.node (o91 P) (.node (xo P 33) .nil .nil) .nil) (.node (o7 P) .nil .nil)) (.node (o7 P) (.node (o121 P) .nil .nil) (.node (xo P 1) .nil .nil)))) (.node (o7 P) (.node (o29 P) (.node (o59 P) (.node (o7 P) (.node (xo P 25) .nil .nil) .nil) (.node (o132 P) .nil .nil)) (.node (o140 P) (.node (o91 P) .nil .nil) (.node (o7 P) .nil .nil))) (.node (o43 P) (.node (o75 P) (.node (o113 P) .nil .nil) (.node (o91 P) .nil .nil)) (.node (o91 P) (.node (o7 P) .nil .nil) (.node (xo P 9) .nil .nil))))) (.node (o11 P) (.node (o18 P) (.node (o8 P) (.node (o55 P) (.node (o91 P) (.node (xo P 21) .nil .nil) .nil) (.node (o7 P) .nil .nil)) (.node (o86 P) (.node (o117 P) .nil .nil) (.node (o91 P) .nil .nil))) (.node (o39 P) (.node (o71 P) (.node (o7 P) .nil .nil) (.node (o136 P) .nil .nil)) (.node (o98 P) (.node (o91 P) .nil .nil) (.node (xo P 5) .nil .nil)))) (.node (o7 P) (.node (o31 P) (.node (o63 P) (.node (o106 P) (.node (xo P 29) .nil .nil) .nil) (.node (o91 P) .nil .nil)) (.node (o91 P) (.node (o7 P) .nil .nil) (.node (o147 P) .nil .nil))) (.node (o47 P) (.node (o79 P) (.node (o91 P) .nil .nil) (.node (o7 P) .nil .nil)) (.node (o7 P) (.node (o128 P) .nil .nil) (.node (xo P 13) .nil .nil))))))) (.node (o2 P) (.node (o4 P) (.node (o8 P) (.node (o8 P) (.node (o7 P) (.node (o50 P) (.node (o7 P) (.node (xo P 16) .nil .nil) .nil) (.node (o129 P) .nil .nil)) (.node (o82 P) (.node (o91 P) .nil .nil) (.node (o7 P) .nil .nil))) (.node (o33 P) (.node (o66 P) (.node (o107 P) (.node (xo P 32) .nil .nil) .nil) (.node (o91 P) .nil .nil)) (.node (o91 P) (.node (o7 P) .nil .nil) (.node (xo P 0) .nil .nil)))) (.node (o19 P) (.node (o28 P) (.node (o58 P) (.node (o91 P) (.node (xo P 24) .nil .nil) .nil) (.node (o7 P) .nil .nil)) (.node (o89 P) (.node (o118 P) .nil .nil) (.node (o91 P) .nil .nil))) (.node (o42 P) (.node (o74 P) (.node (o7 P) .nil .nil) (.node (o137 P) .nil .nil)) (.node (o99 P) (.node (o91 P) .nil .nil) (.node (xo P 8) .nil .nil))))) (.node (o14 P) (.node (o17 P) (.node (o7 P) (.node (o54 P) (.node (o103 P) (.node (xo P 20) .nil .nil) .nil) (.node (o91 P) .nil .nil)) (.node (o7 P) (.node (o7 P) .nil .nil) (.node (o144 P) .nil .nil))) (.node (o37 P) (.node (o70 P) (.node (o91 P) .nil .nil) (.node (o7 P) .nil .nil)) (.node (o7 P) (.node (o122 P) .nil .nil) (.node (xo P 4) .nil .nil)))) (.node (o22 P) (.node (o8 P) (.node (o62 P) (.node (o7 P) (.node (xo P 28) .nil .nil) .nil) (.node (o133 P) .nil .nil)) (.node (o92 P) (.node (o91 P) .nil .nil) (.node (o7 P) .nil .nil))) (.node (o46 P) (.node (o78 P) (.node (o114 P) .nil .nil) (.node (o91 P) .nil .nil)) (.node (o91 P) (.node (o7 P) .nil .nil) (.node (xo P 12) .nil .nil)))))) (.node (o6 P) (.node (o10 P) (.node (o7 P) (.node (o25 P) (.node (o52 P) (.node (o91 P) (.node (xo P 18) .nil .nil) .nil) (.node (o7 P) .nil .nil)) (.node (o84 P) (.node (o116 P) .nil .nil) (.node (o91 P) .nil .nil))) (.node (o139 P) (.node (o68 P) (.node (o7 P) (.node (xo P 34) .nil .nil) .nil) (.node (o135 P) .nil .nil)) (.node (o97 P) (.node (o91 P) .nil .nil) (.node (xo P 2) .nil .nil)))) (.node (o20 P) (.node (o30 P) (.node (o60 P) (.node (o105 P) (.node (xo P 26) .nil .nil) .nil) (.node (o91 P) .nil .nil)) (.node (o91 P) (.node (o7 P) .nil .nil) (.node (o146 P) .nil .nil))) (.node (o44 P) (.node (o76 P) (.node (o91 P) .nil .nil) (.node (o7 P) .nil .nil)) (.node (o7 P) (.node (o127 P) .nil .nil) (.node (xo P 10) .nil .nil))))) (.node (o12 P) (.node (o7 P) (.node (o27 P) (.node (o56 P) (.node (o7 P) (.node (xo P 22) .nil .nil) .nil) (.node (o131 P) .nil .nil)) (.node (o87 P) (.node (o91 P) .nil .nil) (.node (o7 P) .nil .nil))) (.node (o40 P) (.node (o72 P) (.node (o112 P) .nil .nil) (.node (o91 P) .nil .nil)) (.node (o91 P) (.node (o7 P) .nil .nil) (.node (xo P 6) .nil .nil)))) (.node (o8 P) (.node (o7 P) (.node (o64 P) (.node (o91 P) (.node (xo P 30) .nil .nil) .nil) (.node (o7 P) .nil .nil)) (.node (o7 P) (.node (o120 P) .nil .nil) (.node (o7 P) .nil .nil))) (.node (o48 P) (.node (o80 P) (.node (o7 P) .nil .nil) (.node (o142 P) .nil .nil)) (.node (o101 P) (.node (o91 P) .nil .nil) (.node (xo P 14) .nil .nil))))))))
def o151 (P : Params) : Obj := (Obj.mk (Value.type "dict") none (Data.dict (List.toArray [(DictEntry.mk (PyData.keyHash P (Str.ofString "__name__")) (Value.str (Str.ofString "__name__") 165) (Value.str (Str.ofString "law_ko0100_02") 2465)), (DictEntry.mk (PyData.keyHash P (Str.ofString "__doc__")) (Value.str (Str.ofString "__doc__") 166) Value.none), (DictEntry.mk (PyData.keyHash P (Str.ofString "__package__")) (Value.str (Str.ofString "__package__") 167) Value.none), (DictEntry.mk (PyData.keyHash P (Str.ofString "__loader__")) (Value.str (Str.ofString "__loader__") 168) (Value.builtin "__main__.__loader__#opaque")), (DictEntry.mk (PyData.keyHash P (Str.ofString "__spec__")) (Value.str (Str.ofString "__spec__") 169) Value.none), (DictEntry.mk (PyData.keyHash P (Str.ofString "__annotations__")) (Value.str (Str.ofString "__annotations__") 170) (Value.ref 6)), (DictEntry.mk (PyData.keyHash P (Str.ofString "__builtins__")) (Value.str (Str.ofString "__builtins__") 171) (Value.ref 4)), (DictEntry.mk (PyData.keyHash P (Str.ofString "__file__")) (Value.str (Str.ofString "__file__") 173) (Value.str (Str.ofString "/claim/cut.py") 172)), (DictEntry.mk (PyData.keyHash P (Str.ofString "__cached__")) (Value.str (Str.ofString "__cached__") 174) Value.none), (DictEntry.mk (PyData.keyHash P (Str.ofString "_wall")) (Value.str (Str.ofString "_wall") 193) (Value.ref 21)), (DictEntry.mk (PyData.keyHash P (Str.ofString "_replace_encoding")) (Value.str (Str.ofString "_replace_encoding") 205) (Value.ref 28)), (DictEntry.mk (PyData.keyHash P (Str.ofString "_append_modifier")) (Value.str (Str.ofString "_append_modifier") 215) (Value.ref 35)), (DictEntry.mk (PyData.keyHash P (Str.ofString "normalize")) (Value.str (Str.ofString "normalize") 230) (Value.ref 42)), (DictEntry.mk (PyData.keyHash P (Str.ofString "_parse_localename")) (Value.str (Str.ofString "_parse_localename") 239) (Value.ref 49)), (DictEntry.mk (PyData.keyHash P (Str.ofString "locale_encoding_alias")) (Value.str (Str.ofString "locale_encoding_alias") 372) (Value.ref 50)), (DictEntry.mk (PyData.keyHash P (Str.ofString "locale_alias")) (Value.str (Str.ofString "locale_alias") 2464) (Value.ref 240)), (DictEntry.mk (PyData.keyHash P (Str.ofString "_law_name")) (Value.str (Str.ofString "_law_name") 2472) (Value.ref 280)), (DictEntry.mk (PyData.keyHash P (Str.ofString "_law_walk")) (Value.str (Str.ofString "_law_walk") 2482) (Value.ref 287)), (DictEntry.mk (PyData.keyHash P (Str.ofString "_law_due")) (Value.str (Str.ofString "_law_due") 2491) (Value.ref 294)), (DictEntry.mk (PyData.keyHash P (Str.ofString "_law_known")) (Value.str (Str.ofString "_law_known") 2500) (Value.ref 301)), (DictEntry.mk (PyData.keyHash P (Str.ofString "_law_told")) (Value.str (Str.ofString "_law_told") 2508) (Value.ref 308)), (DictEntry.mk (PyData.keyHash P (Str.ofString "law")) (Value.str (Str.ofString "law") 2520) (Value.ref 315))]) 26) (List.toArray []))
def o152 (P : Params) : Obj := (Obj.mk Value.none none (Data.fields (List.toArray [(Value.int (1 : Int) 0), (Value.int (0 : Int) 0), (Value.ref 20), (Value.int (5 : Int) 0), (Value.int (0 : Int) 0), (Value.ref 27), (Value.int (22 : Int) 0), (Value.int (0 : Int) 0), (Value.ref 34), (Value.int (32 : Int) 0), (Value.int (0 : Int) 0), (Value.ref 41), (Value.int (83 : Int) 0), (Value.int (0 : Int) 0), (Value.ref 48), (Value.int (103 : Int) 0), (Value.int (0 : Int) 0), (Value.ref 279), (Value.int (106 : Int) 0), (Value.int (0 : Int) 0), (Value.ref 286), (Value.int (119 : Int) 0), (Value.int (0 : Int) 0), (Value.ref 293), (Value.int (128 : Int) 0), (Value.int (0 : Int) 0), (Value.ref 300), (Value.int (131 : Int) 0), (Value.int (0 : Int) 0), (Value.ref 307), (Value.int (136 : Int) 0), (Value.int (0 : Int) 0), (Value.ref 314)])) (List.toArray []))
def o153 (P : Params) : Obj := (Obj.mk Value.none none (Data.func (FuncData.mk (Str.ofString "_law_name") (Str.ofString "_law_name") (fdA 11) (FuncBody.stmts (fdB 11)) (fdS 11) 0 [] Value.none Value.none Value.none Value.none none Value.none Value.none 0)) (List.toArray []))
def o154 (P : Params) : Obj := (Obj.mk (Value.type "code") none (Data.fields (List.toArray [(Value.str (Str.ofString "_law_name") 2467), (Value.str (Str.ofString "_law_name") 2468), (Value.str (Str.ofString "/claim/cut.py") 2469), (Value.int (103 : Int) 0), (Value.int (1 : Int) 0), (Value.int (0 : Int) 0), (Value.int (0 : Int) 0), (Value.int (3 : Int) 0), (Value.ref 276), (Value.bool Bool.true), (Value.int (181 : Int) 0), (Value.ref 277), Value.none, Value.none, Value.none, (Value.ref 278), (Value.int (2470 : Int) 0), (Value.int (103 : Int) 0), (Value.str (Str.ofString "/claim/cut.py") 2471)])) (List.toArray []))
def o155 (P : Params) : Obj := (Obj.mk (Value.type "function") none (Data.func (FuncData.mk (Str.ofString "_law_name") (Str.ofString "_law_name") (fdA 11) (FuncBody.stmts (fdB 11)) (fdS 11) 3 [] Value.none Value.none Value.none (Value.str (Str.ofString "law_ko0100_02") 2465) none (Value.ref 279) Value.none 0)) (List.toArray []))
def o156 (P : Params) : Obj := (Obj.mk (Value.type "tuple") none (Data.seq (List.toArray [(Value.str (Str.ofString "name") 2476), (Value.str (Str.ofString "fields") 2477), (Value.str (Str.ofString "modifier") 2478), (Value.str (Str.ofString "sign") 2479)]) 0) (List.toArray []))
def o157 (P : Params) : Obj := (Obj.mk Value.none none (Data.func (FuncData.mk (Str.ofString "_law_walk") (Str.ofString "_law_walk") (fdA 12) (FuncBody.stmts (fdB 12)) (fdS 12) 0 [] Value.none Value.none Value.none Value.none none Value.none Value.none 0)) (List.toArray []))
def o158 (P : Params) : Obj := (Obj.mk (Value.type "code") none (Data.fields (List.toArray [(Value.str (Str.ofString "_law_walk") 2473), (Value.str (Str.ofString "_law_walk") 2474), (Value.str (Str.ofString "/claim/cut.py") 2475), (Value.int (106 : Int) 0), (Value.int (1 : Int) 0), (Value.int (0 : Int) 0), (Value.int (0 : Int) 0), (Value.int (3 : Int) 0), (Value.ref 281), (Value.bool Bool.true), (Value.int (181 : Int) 0), (Value.ref 282), Value.none, (Value.ref 283), (Value.ref 284), (Value.ref 285), (Value.int (2480 : Int) 0), (Value.int (106 : Int) 0), (Value.str (Str.ofString "/claim/cut.py") 2481)])) (List.toArray []))
def o159 (P : Params) : Obj := (Obj.mk (Value.type "function") none (Data.func (FuncData.mk (Str.ofString "_law_walk") (Str.ofString "_law_walk") (fdA 12) (FuncBody.stmts (fdB 12)) (fdS 12) 3 [] Value.none Value.none Value.none (Value.str (Str.ofString "law_ko0100_02") 2465) none (Value.ref 286) Value.none 0)) (List.toArray []))
def o160 (P : Params) : Obj := (Obj.mk (Value.type "tuple") none (Data.seq (List.toArray [(Value.str (Str.ofString "name") 2486), (Value.str (Str.ofString "fields") 2487), (Value.str (Str.ofString "modifier") 2488)]) 0) (List.toArray []))
def o161 (P : Params) : Obj := (Obj.mk Value.none none (Data.func (FuncData.mk (Str.ofString "_law_due") (Str.ofString "_law_due") (fdA 13) (FuncBody.stmts (fdB 13)) (fdS 13) 0 [] Value.none Value.none Value.none Value.none none Value.none Value.none 0)) (List.toArray []))
def o162 (P : Params) : Obj := (Obj.mk (Value.type "code") none (Data.fields (List.toArray [(Value.str (Str.ofString "_law_due") 2483), (Value.str (Str.ofString "_law_due") 2484), (Value.str (Str.ofString "/claim/cut.py") 2485), (Value.int (119 : Int) 0), (Value.int (1 : Int) 0), (Value.int (0 : Int) 0), (Value.int (0 : Int) 0), (Value.int (3 : Int) 0), (Value.ref 288), (Value.bool Bool.true), (Value.int (181 : Int) 0), (Value.ref 289), Value.none, (Value.ref 290), (Value.ref 291), (Value.ref 292), (Value.int (2489 : Int) 0), (Value.int (119 : Int) 0), (Value.str (Str.ofString "/claim/cut.py") 2490)])) (List.toArray []))
def o163 (P : Params) : Obj := (Obj.mk (Value.type "function") none (Data.func (FuncData.mk (Str.ofString "_law_due") (Str.ofString "_law_due") (fdA 13) (FuncBody.stmts (fdB 13)) (fdS 13) 3 [] Value.none Value.none Value.none (Value.str (Str.ofString "law_ko0100_02") 2465) none (Value.ref 293) Value.none 0)) (List.toArray []))
def o164 (P : Params) : Obj := (Obj.mk (Value.type "tuple") none (Data.seq (List.toArray [(Value.str (Str.ofString "x") 2495), (Value.str (Str.ofString "name") 2496), (Value.str (Str.ofString "pair") 2497)]) 0) (List.toArray []))
def o165 (P : Params) : Obj := (Obj.mk Value.none none (Data.func (FuncData.mk (Str.ofString "_law_known") (Str.ofString "_law_known") (fdA 14) (FuncBody.stmts (fdB 14)) (fdS 14) 0 [] Value.none Value.none Value.none Value.none none Value.none Value.none 0)) (List.toArray []))
def o166 (P : Params) : Obj := (Obj.mk (Value.type "code") none (Data.fields (List.toArray [(Value.str (Str.ofString "_law_known") 2492), (Value.str (Str.ofString "_law_known") 2493), (Value.str (Str.ofString "/claim/cut.py") 2494), (Value.int (128 : Int) 0), (Value.int (1 : Int) 0), (Value.int (0 : Int) 0), (Value.int (0 : Int) 0), (Value.int (3 : Int) 0), (Value.ref 295), (Value.bool Bool.true), (Value.int (181 : Int) 0), (Value.ref 296), Value.none, (Value.ref 297), (Value.ref 298), (Value.ref 299), (Value.int (2498 : Int) 0), (Value.int (128 : Int) 0), (Value.str (Str.ofString "/claim/cut.py") 2499)])) (List.toArray []))
def o167 (P : Params) : Obj := (Obj.mk (Value.type "function") none (Data.func (FuncData.mk (Str.ofString "_law_known") (Str.ofString "_law_known") (fdA 14) (FuncBody.stmts (fdB 14)) (fdS 14) 3 [] Value.none Value.none Value.none (Value.str (Str.ofString "law_ko0100_02") 2465) none (Value.ref 300) Value.none 0)) (List.toArray []))
def o168 (P : Params) : Obj := (Obj.mk (Value.type "tuple") none (Data.seq (List.toArray [(Value.str (Str.ofString "name") 2504), (Value.str (Str.ofString "error") 2505)]) 0) (List.toArray []))
def o169 (P : Params) : Obj := (Obj.mk Value.none none (Data.func (FuncData.mk (Str.ofString "_law_told") (Str.ofString "_law_told") (fdA 15) (FuncBody.stmts (fdB 15)) (fdS 15) 0 [] Value.none Value.none Value.none Value.none none Value.none Value.none 0)) (List.toArray []))
def o170 (P : Params) : Obj := (Obj.mk (Value.type "code") none (Data.fields (List.toArray [(Value.str (Str.ofString "_law_told") 2501), (Value.str (Str.ofString "_law_told") 2502), (Value.str (Str.ofString "/claim/cut.py") 2503), (Value.int (131 : Int) 0), (Value.int (1 : Int) 0), (Value.int (0 : Int) 0), (Value.int (0 : Int) 0), (Value.int (3 : Int) 0), (Value.ref 302), (Value.bool Bool.true), (Value.int (181 : Int) 0), (Value.ref 303), Value.none, (Value.ref 304), (Value.ref 305), (Value.ref 306), (Value.int (2506 : Int) 0), (Value.int (131 : Int) 0), (Value.str (Str.ofString "/claim/cut.py") 2507)])) (List.toArray []))
def o171 (P : Params) : Obj := (Obj.mk (Value.type "function") none (Data.func (FuncData.mk (Str.ofString "_law_told") (Str.ofString "_law_told") (fdA 15) (FuncBody.stmts (fdB 15)) (fdS 15) 3 [] Value.none Value.none Value.none (Value.str (Str.ofString "law_ko0100_02") 2465) none (Value.ref 307) Value.none 0)) (List.toArray []))
def o172 (P : Params) : Obj := (Obj.mk (Value.type "tuple") none (Data.seq (List.toArray [(Value.str (Str.ofString "script") 2512), (Value.str (Str.ofString "k_v") 2513), (Value.str (Str.ofString "numbers") 2514), (Value.str (Str.ofString "name") 2515), (Value.str (Str.ofString "known") 2516), (Value.str (Str.ofString "due") 2517)]) 0) (List.toArray []))
def o173 (P : Params) : Obj := (Obj.mk Value.none none (Data.func (FuncData.mk (Str.ofString "law") (Str.ofString "law") (fdA 16) (FuncBody.stmts (fdB 16)) (fdS 16) 0 [] Value.none Value.none Value.none Value.none none Value.none Value.none 0)) (List.toArray []))
def o174 (P : Params) : Obj := (Obj.mk (Value.type "code") none (Data.fields (List.toArray [(Value.str (Str.ofString "law") 2509), (Value.str (Str.ofString "law") 2510), (Value.str (Str.ofString "/claim/cut.py") 2511), (Value.int (136 : Int) 0), (Value.int (1 : Int) 0), (Value.int (0 : Int) 0), (Value.int (0 : Int) 0), (Value.int (3 : Int) 0), (Value.ref 309), (Value.bool Bool.true), (Value.int (181 : Int) 0), (Value.ref 310), Value.none, (Value.ref 311), (Value.ref 312), (Value.ref 313), (Value.int (2518 : Int) 0), (Value.int (136 : Int) 0), (Value.str (Str.ofString "/claim/cut.py") 2519)])) (List.toArray []))
def o175 (P : Params) : Obj := (Obj.mk (Value.type "function") none (Data.func (FuncData.mk (Str.ofString "law") (Str.ofString "law") (fdA 16) (FuncBody.stmts (fdB 16)) (fdS 16) 3 [] Value.none Value.none Value.none (Value.str (Str.ofString "law_ko0100_02") 2465) none (Value.ref 314) Value.none 0)) (List.toArray []))
def T3 (P : Params) : BT := (.node (o0 P) (.node (o1 P) (.node (o151 P) (.node (o7 P) (.node (o7 P) (.node (o23 P) (.node (o49 P) (.node (o91 P) (.node (xo P 15) .nil .nil) .nil) (.node (o7 P) .nil .nil)) (.node (o81 P) (.node (o115 P) (.node (o159 P) .nil .nil) .nil) (.node (o91 P) .nil .nil))) (.node (o32 P) (.node (o65 P) (.node (o7 P) (.node (xo P 31) .nil .nil) .nil) (.node (o134 P) .nil .nil)) (.node (o96 P) (.node (o91 P) (.node (o8 P) .nil .nil) .nil) (.node (o148 P) .nil .nil)))) (.node (o8 P) (.node (o7 P) (.node (o57 P) (.node (o104 P) (.node (xo P 23) .nil .nil) .nil) (.node (o91 P) .nil .nil)) (.node (o88 P) (.node (o7 P) (.node (o7 P) .nil .nil) .nil) (.node (o145 P) .nil .nil))) (.node (o41 P) (.node (o73 P) (.node (o91 P) (.node (o154 P) .nil .nil) .nil) (.node (o7 P) .nil .nil)) (.node (o7 P) (.node (o126 P) (.node (o172 P) .nil .nil) .nil) (.node (xo P 7) .nil .nil))))) (.node (o7 P) (.node (o16 P) (.node (o26 P) (.node (o53 P) (.node (o7 P) (.node (xo P 19) .nil .nil) .nil) (.node (o130 P) .nil .nil)) (.node (o85 P) (.node (o91 P) (.node (o7 P) .nil .nil) .nil) (.node (o7 P) .nil .nil))) (.node (o36 P) (.node (o69 P) (.node (o111 P) (.node (xo P 35) .nil .nil) .nil) (.node (o91 P) .nil .nil)) (.node (o91 P) (.node (o7 P) (.node (o170 P) .nil .nil) .nil) (.node (xo P 3) .nil .nil)))) (.node (o21 P) (.node (o7 P) (.node (o61 P) (.node (o91 P) (.node (xo P 27) .nil .nil) .nil) (.node (o7 P) .nil .nil)) (.node (o7 P) (.node (o119 P) (.node (o165 P) .nil .nil) .nil) (.node (o91 P) .nil .nil))) (.node (o45 P) (.node (o77 P) (.node (o7 P) (.node (o156 P) .nil .nil) .nil) (.node (o141 P) .nil .nil)) (.node (o100 P) (.node (o91 P) (.node (o175 P) .nil .nil) .nil) (.node (xo P 11) .nil .nil)))))) (.node (o5 P) (.node (o9 P) (.node (o15 P) (.node (o24 P) (.node (o51 P) (.node (o102 P) (.node (xo P 17) .nil .nil) .nil) (.node (o91 P) .nil .nil)) (.node (o83 P) (.node (o7 P) (.node (o8 P) .nil .nil) .nil) (.node (o143 P) .nil .nil))) (.node (o34 P) (.node (o67 P) (.node (o91 P) (.node (xo P 33) .nil .nil) .nil) (.node (o7 P) .nil .nil)) (.node (o7 P) (.node (o121 P) (.node (o7 P) .nil .nil) .nil) (.node (xo P 1) .nil .nil)))) (.node (o7 P) (.node (o29 P) (.node (o59 P) (.node (o7 P) (.node (xo P 25) .nil .nil) .nil) (.node (o132 P) .nil .nil)) (.node (o140 P) (.node (o91 P) (.node (o164 P) .nil .nil) .nil) (.node (o7 P) .nil .nil))) (.node (o43 P) (.node (o75 P) (.node (o113 P) (.node (o7 P) .nil .nil) .nil) (.node (o91 P) .nil .nil)) (.node (o91 P) (.node (o7 P) (.node (o173 P) .nil .nil) .nil) (.node (xo P 9) .nil .nil))))) (.node (o11 P) (.node (o18 P) (.node (o8 P) (.node (o55 P) (.node (o91 P) (.node (xo P 21) .nil .nil) .nil) (.node (o7 P) .nil .nil)) (.node (o86 P) (.node (o117 P) (.node (o162 P) .nil .nil) .nil) (.node (o91 P) .nil .nil))) (.node (o39 P) (.node (o71 P) (.node (o7 P) (.node (o8 P) .nil .nil) .nil) (.node (o136 P) .nil .nil)) (.node (o98 P) (.node (o91 P) (.node (o7 P) .nil .nil) .nil) (.node (xo P 5) .nil .nil)))) (.node (o7 P) (.node (o31 P) (.node (o63 P) (.node (o106 P) (.node (xo P 29) .nil .nil) .nil) (.node (o91 P) .nil .nil)) (.node (o91 P) (.node (o7 P) (.node (o167 P) .nil .nil) .nil) (.node (o147 P) .nil .nil))) (.node (o47 P) (.node (o79 P) (.node (o91 P) (.node (o157 P) .nil .nil) .nil) (.node (o7 P) .nil .nil)) (.node (o7 P) (.node (o128 P) .nil .nil) (.node (xo P 13) .nil .nil))))))) (.node (o2 P) (.node (o4 P) (.node (o8 P) (.node (o8 P) (.node (o7 P) (.node (o50 P) (.node (o7 P) (.node (xo P 16) .nil .nil) .nil) (.node (o129 P) .nil .nil)) (.node (o82 P) (.node (o91 P) (.node (o7 P) .nil .nil) .nil) (.node (o7 P) .nil .nil))) (.node (o33 P) (.node (o66 P) (.node (o107 P) (.node (xo P 32) .nil .nil) .nil) (.node (o91 P) .nil .nil)) (.node (o91 P) (.node (o7 P) (.node (o168 P) .nil .nil) .nil) (.node (xo P 0) .nil .nil)))) (.node (o19 P) (.node (o28 P) (.node (o58 P) (.node (o91 P) (.node (xo P 24) .nil .nil) .nil) (.node (o7 P) .nil .nil)) (.node (o89 P) (.node (o118 P) (.node (o8 P) .nil .nil) .nil) (.node (o91 P) .nil .nil))) (.node (o42 P) (.node (o74 P) (.node (o7 P) (.node (o155 P) .nil .nil) .nil) (.node (o137 P) .nil .nil)) (.node (o99 P) (.node (o91 P) (.node (o7 P) .nil .nil) .nil) (.node (xo P 8) .nil .nil))))) (.node (o152 P) (.node (o17 P) (.node (o7 P) (.node (o54 P) (.node (o103 P) (.node (xo P 20) .nil .nil) .nil) (.node (o91 P) .nil .nil)) (.node (o7 P) (.node (o7 P) (.node (o161 P) .nil .nil) .nil) (.node (o144 P) .nil .nil))) (.node (o37 P) (.node (o70 P) (.node (o91 P) (.node (o7 P) .nil .nil) .nil) (.node (o7 P) .nil .nil)) (.node (o7 P) (.node (o122 P) (.node (o171 P) .nil .nil) .nil) (.node (xo P 4) .nil .nil)))) (.node (o22 P) (.node (o8 P) (.node (o62 P) (.node (o7 P) (.node (xo P 28) .nil .nil) .nil) (.node (o133 P) .nil .nil)) (.node (o92 P) (.node (o91 P) (.node (o166 P) .nil .nil) .nil) (.node (o7 P) .nil .nil))) (.node (o46 P) (.node (o78 P) (.node (o114 P) (.node (o7 P) .nil .nil) .nil) (.node (o91 P) .nil .nil)) (.node (o91 P) (.node (o7 P) .nil .nil) (.node (xo P 12) .nil .nil)))))) (.node (o6 P) (.node (o10 P) (.node (o7 P) (.node (o25 P) (.node (o52 P) (.node (o91 P) (.node (xo P 18) .nil .nil) .nil) (.node (o7 P) .nil .nil)) (.node (o84 P) (.node (o116 P) (.node (o160 P) .nil .nil) .nil) (.node (o91 P) .nil .nil))) (.node (o139 P) (.node (o68 P) (.node (o7 P) (.node (xo P 34) .nil .nil) .nil) (.node (o135 P) .nil .nil)) (.node (o97 P) (.node (o91 P) (.node (o169 P) .nil .nil) .nil) (.node (xo P 2) .nil .nil)))) (.node (o20 P) (.node (o30 P) (.node (o60 P) (.node (o105 P) (.node (xo P 26) .nil .nil) .nil) (.node (o91 P) .nil .nil)) (.node (o91 P) (.node (o7 P) (.node (o7 P) .nil .nil) .nil) (.node (o146 P) .nil .nil))) (.node (o44 P) (.node (o76 P) (.node (o91 P) (.node (o8 P) .nil .nil) .nil) (.node (o7 P) .nil .nil)) (.node (o7 P) (.node (o127 P) (.node (o174 P) .nil .nil) .nil) (.node (xo P 10) .nil .nil))))) (.node (o12 P) (.node (o7 P) (.node (o27 P) (.node (o56 P) (.node (o7 P) (.node (xo P 22) .nil .nil) .nil) (.node (o131 P) .nil .nil)) (.node (o87 P) (.node (o91 P) (.node (o163 P) .nil .nil) .nil) (.node (o7 P) .nil .nil))) (.node (o40 P) (.node (o72 P) (.node (o112 P) (.node (o153 P) .nil .nil) .nil) (.node (o91 P) .nil .nil)) (.node (o91 P) (.node (o7 P) (.node (o8 P) .nil .nil) .nil) (.node (xo P 6) .nil .nil)))) (.node (o8 P) (.node (o7 P) (.node (o64 P) (.node (o91 P) (.node (xo P 30) .nil .nil) .nil) (.node (o7 P) .nil .nil)) (.node (o7 P) (.node (o120 P) (.node (o7 P) .nil .nil) .nil) (.node (o7 P) .nil .nil))) (.node (o48 P) (.node (o80 P) (.node (o7 P) (.node (o158 P) .nil .nil) .nil) (.node (o142 P) .nil .nil)) (.node (o101 P) (.node (o91 P) .nil .nil) (.node (xo P 14) .nil .nil))))))))
def K (P : Params) : Frag := (nat_lit 2, (o2 P)) :: (nat_lit 3, (o151 P)) :: (nat_lit 6, (o6 P)) :: (nat_lit 15, (o7 P)) :: (nat_lit 17, (o15 P)) :: (nat_lit 18, (o7 P)) :: (nat_lit 20, (o17 P)) :: (nat_lit 21, (o18 P)) :: (nat_lit 22, (o7 P)) :: (nat_lit 24, (o19 P)) :: (nat_lit 25, (o7 P)) :: (nat_lit 27, (o21 P)) :: (nat_lit 28, (o22 P)) :: (nat_lit 29, (o7 P)) :: (nat_lit 31, (o23 P)) :: (nat_lit 32, (o7 P)) :: (nat_lit 34, (o25 P)) :: (nat_lit 35, (o26 P)) :: (nat_lit 36, (o7 P)) :: (nat_lit 38, (o27 P)) :: (nat_lit 39, (o7 P)) :: (nat_lit 41, (o29 P)) :: (nat_lit 42, (o30 P)) :: (nat_lit 43, (o7 P)) :: (nat_lit 45, (o31 P)) :: (nat_lit 46, (o7 P)) :: (nat_lit 48, (o33 P)) :: (nat_lit 49, (o34 P)) :: (nat_lit 50, (o139 P)) :: (nat_lit 240, (xo P 0)) :: (nat_lit 276, (o7 P)) :: (nat_lit 279, (o154 P)) :: (nat_lit 280, (o155 P)) :: (nat_lit 281, (o7 P)) :: (nat_lit 283, (o156 P)) :: (nat_lit 284, (o7 P)) :: (nat_lit 286, (o158 P)) :: (nat_lit 287, (o159 P)) :: (nat_lit 288, (o7 P)) :: (nat_lit 290, (o160 P)) :: (nat_lit 291, (o7 P)) :: (nat_lit 293, (o162 P)) :: (nat_lit 294, (o163 P)) :: (nat_lit 295, (o7 P)) :: (nat_lit 297, (o164 P)) :: (nat_lit 298, (o7 P)) :: (nat_lit 300, (o166 P)) :: (nat_lit 301, (o167 P)) :: (nat_lit 302, (o7 P)) :: (nat_lit 304, (o168 P)) :: (nat_lit 305, (o7 P)) :: (nat_lit 307, (o170 P)) :: (nat_lit 308, (o171 P)) :: (nat_lit 309, (o7 P)) :: (nat_lit 311, (o172 P)) :: (nat_lit 312, (o7 P)) :: (nat_lit 314, (o174 P)) :: (nat_lit 315, (o175 P)) :: []
def Kas : List Addr := [2, 3, 6, 15, 17, 18, 20, 21, 22, 24, 25, 27, 28, 29, 31, 32, 34, 35, 36, 38, 39, 41, 42, 43, 45, 46, 48, 49, 50, 240, 276, 279, 280, 281, 283, 284, 286, 287, 288, 290, 291, 293, 294, 295, 297, 298, 300, 301, 302, 304, 305, 307, 308, 309, 311, 312, 314, 315]

def envE : Env := { scope := pw.main.scope, locals := mainNs, globals := mainNs, cells := [], code := .ref 13, frame := some 14 }
def q0 : Pos := ⟨0, 0, 0, 0⟩
def bE : List Stmt := behindTheImports pw
def cE : Code := .body bE envE
def annE : Option Value := some (.ref 6)
abbrev BB : List Frame := [topFrame q0]
abbrev sh (t : BT) (n toks : Nat) (os : OsState) : SharedT := ⟨t, n, {}, Array.mk [], {}, toks, os⟩

set_option maxRecDepth 1000000
set_option maxHeartbeats 0
theorem pre_ (w : World) (os : OsState) : topGo treeTable pw w 11 annE 12 ⟨boot_heap w.params, Array.mk [], boot_drawn, boot_toks, os⟩ (topStub pw) = some ((sh (T0 w.params) 15 187 os).abs, ⟨denote treeTable cE, cE, q0, BB⟩) := by kernel_rfl
theorem block_ (w : World) (os : OsState) : segRun treeTable pw w 11 annE 1 1 (sh (T0 w.params) 15 187 os).abs (blockOf bE envE cE q0 BB) = some (.next, (sh (T0 w.params) 15 187 os).abs, cE, q0) := by kernel_rfl

noncomputable def thr (l : List Stmt) (pos : Pos) : Thread := ⟨Sem.wrap doneF deadEnd id id (tw12563942051412417395 l envE), cE, pos, BB⟩
theorem thr_eq (l : List Stmt) (pos : Pos) : piecesOf l envE cE pos BB = thr l pos := by
  unfold thr
  rw [← te12563942051412417395]
theorem run_eq : @segRunT = @tw10110043849684766642 := te10110043849684766642
theorem go_eq : @segGoT = @tw10295753902157049106 := te10295753902157049106
theorem tab_eq : treeTable = tw14364793385576792824 := te14364793385576792824

def forT : PySem.Expr := match stm 7 with | .For t _ _ _ _ => t | _ => .Name Str.empty q0
def forBd : List Stmt := match stm 7 with | .For _ _ b _ _ => b | _ => []
def cF : Code := .forLoop forT (.ref 105) forBd [] envE
noncomputable def frC : List Frame := match Sem.wrap doneF deadEnd id id (PySem.W.R.bindR (tw9046067596548197636 cF envE none) (fun f => match f with | .next => tw12563942051412417395 [] envE | f => .pure f)) with | .call _ h g l k => .ret k h g l cE ⟨97, 12, 97, 49⟩ [] :: BB | _ => BB
noncomputable def thrC : Thread := ⟨tw11892475500146522536 tw14364793385576792824 cF, cF, ⟨99, 4, 99, 42⟩, frC⟩
def QA (w : World) : Prop := (fun os : OsState => tw10110043849684766642 tw14364793385576792824 pw w 11 annE 1 1066 (sh (T0 w.params) 15 187 os) (thr (bE.take 7) q0)) = fun os => some (.next, (sh (TF w.params) 53 373 os), cE, ⟨96, 0, 96, 21⟩)
theorem qa_f (w : World) : QA (w.withFollow "special-get-raises" false) := by unfold QA; kernel_rfl
theorem qa_t (w : World) : QA (w.withFollow "special-get-raises" true) := by unfold QA; kernel_rfl
def QB (w : World) : Prop := (fun os : OsState => tw10295753902157049106 tw14364793385576792824 pw w 11 annE 1 3168 (sh (TF w.params) 53 373 os) (thr [stm 7] ⟨96, 0, 96, 21⟩)) = fun os => some ((sh (TB1 w.params) 109 379 os), thrC)
theorem qb_f (w : World) : QB (w.withFollow "special-get-raises" false) := by unfold QB; kernel_rfl
theorem qb_t (w : World) : QB (w.withFollow "special-get-raises" true) := by unfold QB; kernel_rfl
def QC (w : World) : Prop := (fun os : OsState => tw10295753902157049106 tw14364793385576792824 pw w 11 annE 1 1522 (sh (TB1 w.params) 109 379 os) thrC) = fun os => some ((sh (TB2 w.params) 145 452 os), thrC)
theorem qc_f (w : World) : QC (w.withFollow "special-get-raises" false) := by unfold QC; kernel_rfl
theorem qc_t (w : World) : QC (w.withFollow "special-get-raises" true) := by unfold QC; kernel_rfl
def QD (w : World) : Prop := (fun os : OsState => tw10295753902157049106 tw14364793385576792824 pw w 11 annE 1 1500 (sh (TB2 w.params) 145 452 os) thrC) = fun os => some ((sh (TB3 w.params) 181 536 os), thrC)
theorem qd_f (w : World) : QD (w.withFollow "special-get-raises" false) := by unfold QD; kernel_rfl
theorem qd_t (w : World) : QD (w.withFollow "special-get-raises" true) := by unfold QD; kernel_rfl
def QE (w : World) : Prop := (fun os : OsState => tw10295753902157049106 tw14364793385576792824 pw w 11 annE 1 1508 (sh (TB3 w.params) 181 536 os) thrC) = fun os => some ((sh (TB4 w.params) 217 616 os), thrC)
theorem qe_f (w : World) : QE (w.withFollow "special-get-raises" false) := by unfold QE; kernel_rfl
theorem qe_t (w : World) : QE (w.withFollow "special-get-raises" true) := by unfold QE; kernel_rfl
def QF (w : World) : Prop := (fun os : OsState => tw10110043849684766642 tw14364793385576792824 pw w 11 annE 1 921 (sh (TB4 w.params) 217 616 os) thrC) = fun os => some (.next, (sh (TG w.params) 240 661 os), cE, ⟨97, 12, 97, 49⟩)
theorem qf_f (w : World) : QF (w.withFollow "special-get-raises" false) := by unfold QF; kernel_rfl
theorem qf_t (w : World) : QF (w.withFollow "special-get-raises" true) := by unfold QF; kernel_rfl
def QG (w : World) : Prop := (fun os : OsState => tw10110043849684766642 tw14364793385576792824 pw w 11 annE 1 31 (sh (TG w.params) 240 661 os) (thr ((bE.drop 8).take 1) ⟨97, 12, 97, 49⟩)) = fun os => some (.next, (sh (T1 w.params) 240 661 os), cE, ⟨100, 7, 100, 8⟩)
theorem qg_f (w : World) : QG (w.withFollow "special-get-raises" false) := by unfold QG; kernel_rfl
theorem qg_t (w : World) : QG (w.withFollow "special-get-raises" true) := by unfold QG; kernel_rfl
theorem partA0 (w : World) (os : OsState) : segRun treeTable pw w 11 annE 1 1066 (sh (T0 w.params) 15 187 os).abs (piecesOf (bE.take 7) envE cE q0 BB) = some (.next, (sh (TF w.params) 53 373 os).abs, cE, ⟨96, 0, 96, 21⟩) := by
  refine segRun_of ?_
  rw [thr_eq, run_eq, tab_eq]
  exact congrFun (byRow2 "special-get-raises" (P := QA) qa_f qa_t w) os
theorem partA3 (w : World) (os : OsState) : segRun treeTable pw w 11 annE 1 31 (sh (TG w.params) 240 661 os).abs (piecesOf ((bE.drop 8).take 1) envE cE ⟨97, 12, 97, 49⟩ BB) = some (.next, (sh (T1 w.params) 240 661 os).abs, cE, ⟨100, 7, 100, 8⟩) := by
  refine segRun_of ?_
  rw [thr_eq, run_eq, tab_eq]
  exact congrFun (byRow2 "special-get-raises" (P := QG) qg_f qg_t w) os
theorem goB (w : World) (os : OsState) : segGo treeTable pw w 11 annE 1 3168 (sh (TF w.params) 53 373 os).abs (piecesOf [stm 7] envE cE ⟨96, 0, 96, 21⟩ BB) = some ((sh (TB1 w.params) 109 379 os).abs, thrC) := by
  refine segGo_of ?_
  rw [thr_eq, go_eq, tab_eq]
  exact congrFun (byRow2 "special-get-raises" (P := QB) qb_f qb_t w) os
theorem goC (w : World) (os : OsState) : segGo treeTable pw w 11 annE 1 1522 (sh (TB1 w.params) 109 379 os).abs thrC = some ((sh (TB2 w.params) 145 452 os).abs, thrC) := by
  refine segGo_of ?_
  rw [go_eq, tab_eq]
  exact congrFun (byRow2 "special-get-raises" (P := QC) qc_f qc_t w) os
theorem goD (w : World) (os : OsState) : segGo treeTable pw w 11 annE 1 1500 (sh (TB2 w.params) 145 452 os).abs thrC = some ((sh (TB3 w.params) 181 536 os).abs, thrC) := by
  refine segGo_of ?_
  rw [go_eq, tab_eq]
  exact congrFun (byRow2 "special-get-raises" (P := QD) qd_f qd_t w) os
theorem goE (w : World) (os : OsState) : segGo treeTable pw w 11 annE 1 1508 (sh (TB3 w.params) 181 536 os).abs thrC = some ((sh (TB4 w.params) 217 616 os).abs, thrC) := by
  refine segGo_of ?_
  rw [go_eq, tab_eq]
  exact congrFun (byRow2 "special-get-raises" (P := QE) qe_f qe_t w) os
theorem runF (w : World) (os : OsState) : segRun treeTable pw w 11 annE 1 921 (sh (TB4 w.params) 217 616 os).abs thrC = some (.next, (sh (TG w.params) 240 661 os).abs, cE, ⟨97, 12, 97, 49⟩) := by
  refine segRun_of ?_
  rw [run_eq, tab_eq]
  exact congrFun (byRow2 "special-get-raises" (P := QF) qf_f qf_t w) os
theorem partA1 (w : World) (os : OsState) : segRun treeTable pw w 11 annE 1 (3168 + (1522 + (1500 + (1508 + 921)))) (sh (TF w.params) 53 373 os).abs (piecesOf [stm 7] envE cE ⟨96, 0, 96, 21⟩ BB) = some (.next, (sh (TG w.params) 240 661 os).abs, cE, ⟨97, 12, 97, 49⟩) :=
  seg_go (goB w os) (seg_go (goC w os) (seg_go (goD w os) (seg_go (goE w os) (runF w os))))

/-! the long table's own statement -/
theorem lit_ : litPairs (dkS 9) (dvS 9) = true := by kernel_rfl
theorem LL_cut : LL = LC ++ (LCs.flatten ++ LZ) := by kernel_rfl
theorem LC_len : LC.length = 17 := by kernel_rfl
theorem LCs_len : (LCs.all fun C => Nat.beq C.length 17) = true := by kernel_rfl
theorem LZ_len : Nat.blt LZ.length 17 = true := by kernel_rfl
theorem LZ_ne : LZ.isEmpty = false := by kernel_rfl
theorem LL_up : rising (keysOf LL) = true := by kernel_rfl
theorem stm_is : stm 9 = .Assign [.Name (tnS 9) (tpS 9)] (.Dict (dkS 9) (dvS 9) (dpS 9)) (spS 9) := by kernel_rfl

theorem ok_ (P : Params) : okAll (T1 P) 240 (objsL P) = true := by kernel_rfl
theorem ins_ (P : Params) : insAll (T1 P) 240 (objsL P) = T2a P := by kernel_rfl
theorem len_ (P : Params) : 240 + (objsL P).length = 276 := by kernel_rfl
theorem toks_ (P : Params) : (tabSt P).T = 2464 := by kernel_rfl
theorem heap_ (P : Params) : GM (absHeap (T1 P) 240 {}) (tabSt P).rs (tabObj P) = absHeap (T2a P) 276 {} := by
  rw [GM_abs (ok_ P)]
  show absHeap (insAll (T1 P) 240 (objsL P)) (240 + (objsL P).length) {} = _
  rw [ins_, len_]
theorem tab_sh (w : World) (os : OsState) : (tabSt w.params).sh (Array.mk []) {} os (absHeap (T1 w.params) 240 {}) = (sh (T2a w.params) 276 2464 os).abs := by
  have e := heap_ w.params
  unfold tabObj at e
  unfold St.sh
  rw [e, toks_]
  rfl
theorem size_ (P : Params) : (absHeap (T1 P) 240 {}).objs.size = 240 := absHeap_size _ _ _

def storeS : Sem Flow := do assignAll (.ref 240) [assign (.Name (tnS 9) (tpS 9)) envE]; pure Flow.next
theorem store_ (w : World) (os : OsState) (K : Flow → Sem Fin) (H : Value → Sem Fin) (gd : Bool → Bool) (lv : List Value → List Value) :
    segGoT treeTable pw w 11 annE 1 7 (sh (T2a w.params) 276 2464 os) ⟨storeS.wrap K H gd lv, cE, dpS 9, BB⟩ = some (sh (T2 w.params) 276 2465 os, ⟨K .next, cE, ⟨101, 0, 101, 12⟩, BB⟩) := by kernel_rfl
theorem ev_store (w : World) (os : OsState) : Ev pw w 11 annE cE q0 7 storeS (sh (T2a w.params) 276 2464 os).abs (dpS 9) .next (sh (T2 w.params) 276 2465 os).abs ⟨101, 0, 101, 12⟩ :=
  fun K H gd lv => ⟨7, Nat.le_refl _, segGo_of (store_ w os K H gd lv)⟩
theorem LCs_n : LCs.length = 34 := by kernel_rfl
theorem partB (w : World) (os : OsState) : ∃ n, n ≤ 185410 ∧ segRun treeTable pw w 11 annE 1 n (sh (T1 w.params) 240 661 os).abs (piecesOf [stm 9] envE cE ⟨100, 7, 100, 8⟩ BB) = some (.next, (sh (T2 w.params) 276 2465 os).abs, cE, ⟨101, 0, 101, 12⟩) := by
  have hn : 5150 * (LCs.length + 2) + 7 + 2 + 1 = 185410 := by rw [LCs_n]
  rw [← hn]
  refine seg_of_ev ?_
  rw [stm_is]
  have hs := ev_store w os
  rw [← tab_sh] at hs
  refine ev_assignDict (tnS 9) (tpS 9) (dpS 9) (spS 9) (dkS 9) (dvS 9) envE (absHeap (T1 w.params) 240 {}) ?_ ?_ 661 ⟨100, 7, 100, 8⟩ LC LCs LZ lit_ LL_cut LC_len ?_ ?_ ?_ ?_ LL_up ?_
  · rw [size_]; exact (by decide : (11 : Nat) ≤ 240)
  · rw [size_]; exact (by decide : sysModules < 240)
  · intro C hC
    have := List.all_eq_true.mp LCs_len C hC
    exact Nat.eq_of_beq_eq_true this
  · exact Nat.blt_eq.mp LZ_len
  · intro e
    have := LZ_ne
    rw [e] at this
    cases this
  · exact (by kernel_rfl : Nat.blt (17 * LCs.length) 100000 = true) |> Nat.blt_eq.mp
  · rw [size_]
    exact hs

def QT (w : World) : Prop := (fun os : OsState => tw10110043849684766642 tw14364793385576792824 pw w 11 annE 1 243 (sh (T2 w.params) 276 2465 os) (thr (bE.drop 10) ⟨101, 0, 101, 12⟩)) = fun os => some (.next, sh (T3 w.params) 316 2521 os, cE, ⟨136, 0, 145, 15⟩)
theorem qt_ (w : World) : QT w := by unfold QT; kernel_rfl
theorem partC (w : World) (os : OsState) : segRun treeTable pw w 11 annE 1 243 (sh (T2 w.params) 276 2465 os).abs (piecesOf (bE.drop 10) envE cE ⟨101, 0, 101, 12⟩ BB) = some (.next, (sh (T3 w.params) 316 2521 os).abs, cE, ⟨136, 0, 145, 15⟩) := by
  refine segRun_of ?_
  rw [thr_eq, run_eq, tab_eq]
  exact congrFun (qt_ w) os
theorem bE_cut : bE = bE.take 7 ++ ([stm 7] ++ ((bE.drop 8).take 1 ++ ([stm 9] ++ (bE.drop 10 ++ [])))) := by kernel_rfl

def MM : Nat := 12 + (1 + (1066 + ((3168 + (1522 + (1500 + (1508 + 921)))) + (31 + (185410 + (243 + 2))))))
theorem run_ (w : World) (os : OsState) : topRun treeTable pw w 11 annE MM ⟨boot_heap w.params, Array.mk [], boot_drawn, boot_toks, os⟩ (topStub pw) = some (sh (T3 w.params) 316 2521 os).abs := by
  obtain ⟨n, ln, hB⟩ := partB w os
  have h0 : topRun treeTable pw w 11 annE 2 (sh (T3 w.params) 316 2521 os).abs (restOf [] envE cE ⟨136, 0, 145, 15⟩ BB) = some (sh (T3 w.params) 316 2521 os).abs := by kernel_rfl
  have h1 := piece_app (partC w os) h0
  have h2 := piece_app hB h1
  have h2a := piece_app (partA3 w os) h2
  have h2b := piece_app (partA1 w os) h2a
  have h3 := piece_app (partA0 w os) h2b
  rw [← bE_cut] at h3
  have h4 := go_top (pre_ w os) (piece_block (block_ w os) h3)
  have h5 := topRun_mono (MM - (12 + (1 + (1066 + ((3168 + (1522 + (1500 + (1508 + 921)))) + (31 + (n + (243 + 2)))))))) _ _ _ _ h4
  rw [show 12 + (1 + (1066 + ((3168 + (1522 + (1500 + (1508 + 921)))) + (31 + (n + (243 + 2)))))) + (MM - (12 + (1 + (1066 + ((3168 + (1522 + (1500 + (1508 + 921)))) + (31 + (n + (243 + 2)))))))) = MM by unfold MM; omega] at h5
  exact h5

/-! what the top leaves -/
abbrev rw' : OpenLaw := PySem.Challenge.rw_ko0100_02
def qv : Program := view pw [0, 2, 3, 4, 5, 6, 9, 11, 12, 13, 14, 15, 16]
def looseL : List Str := [Str.ofString "locale_encoding_alias", Str.ofString "locale_alias"]
theorem kas_ (P : Params) : Kas = (K P).map (·.1) := by kernel_rfl
abbrev hk : Hook := kHook K Kas kas_
abbrev Xt' : Shared → Bool := fun s => xlAt qv [] s && recOk (RowW.records rw'.row.toRowW) s
def H1 (P : Params) : Heap := absHeap (T3 P) 316 {}
abbrev sEnd (w : World) (os : OsState) : Shared := ⟨H1 w.params, Array.mk [], {}, 2521, os⟩
theorem open_ (w : World) : (fencedOpening treeTable pw w (MM + 600)).map (fun s => (s.heap, s.gens, s.drawn, s.toks)) = some (boot_heap w.params, Array.mk [], boot_drawn, boot_toks) :=
  boot_open (by kernel_rfl) (by kernel_rfl) (fun _ => by kernel_rfl) w
theorem size0_ (w : World) : ((boot_heap w.params).isNs mainGlobals && (Array.mk [] : Array GenState).size == 0, (boot_heap w.params).objs.size, (boot_heap w.params).nsMap mainGlobals "__annotations__") = (true, 11, annE) := by kernel_rfl
theorem lk1 (w : World) : staticsOk (importedModules pw.main.body) (boot_heap w.params) (H1 w.params) = true := by kernel_rfl
theorem lk2 (w : World) : namesBound pw (H1 w.params) = true := by kernel_rfl
theorem lk3 (w : World) (os : OsState) : gensDone (sEnd w os) = true := by kernel_rfl
theorem lk4 (w : World) : laidKept (boot_heap w.params) (H1 w.params) = true := by kernel_rfl
theorem lk5 (w : World) (os : OsState) : openSeen qv looseL (importedModules pw.main.body) Xt' true (sEnd w os) = openGood qv looseL := by
  rw [te4187177175401517315]
  kernel_rfl
theorem lk6 (w : World) (os : OsState) : hk.obs (sEnd w os) = hk.val w := by kernel_rfl
theorem left_ : LeftO pw qv looseL Xt' hk.obs hk.val (MM + 600) true := by
  refine LeftO.of_pieces (H₀ := boot_heap) (H₁ := H1) (gs₁ := Array.mk []) (d₁ := {}) (k₁ := 2521) (M := MM) open_ size0_ (fun w os => run_ w os) (by kernel_rfl) (fun w => ?_)
  funext os
  rw [lk1, lk2, lk3 w os, lk4, lk5 w os, lk6 w os]
  rfl
theorem said_ : rw'.wellSaid = true := by
  rw [te9446332074065402090]
  kernel_rfl
theorem wit_ : rw'.row.toRowW.promised := by w_witness2
theorem chains_ : (chainsOk qv && opensWell rw'.row.prog && (frees rw'.row.toRowW && rw'.row.within.isEmpty)) = true := by kernel_rfl
theorem head_ {d : DefRec} {kwd : List (Str × PySem.Expr)} (hdef : defOf qv rw'.row.name = some (d, kwd)) (hp : rw'.row.prog.theDef rw'.row.name = some (d.params, d.body, d.scope)) (hk' : kwWritten? d.params.kwonlyargs d.params.kw_defaults = some kwd)
    (walk : WalkO qv looseL (XL qv []) hk.says rw'.row.toRowW d kwd fun f vs => PySem.call f vs) : rw'.Holds :=
  holds_law said_ fun k1 => holds_open (r := rw'.row) (q := qv) (loose := looseL) (Xt := Xt') (XP := XL qv []) (Yf := hk.obs) (Ya := hk.val) (YP := hk.says) (N := MM + 600) left_ hk.of hk.keeps (fun s e => xl_of s (Bool.and_eq_true_iff.mp e).1) XL.keeps hdef hp hk'
    (fun s e => recFacts_of (Bool.and_eq_true_iff.mp e).2) rfl k1 chains_ ⟨rfl, rfl, rfl, rfl, rfl, by decide +kernel⟩ wit_ walk
end Mine

end
section
namespace Mine
open PySem PySem.Builtin PySem.Builtin.Str PyProof.Rows

/-- the fields of a list, cut at every c -/
def fld (c : Nat) : List Nat → List (List Nat)
  | [] => [[]]
  | a :: r => if a = c then [] :: fld c r else match fld c r with
    | p :: ps => (a :: p) :: ps
    | [] => [[a]]

theorem fld_ne (c : Nat) : ∀ l, fld c l ≠ []
  | [] => by simp [fld]
  | a :: r => by
    unfold fld
    split
    · simp
    · split <;> simp

theorem fld_free (c : Nat) : ∀ l : List Nat, c ∉ l → fld c l = [l]
  | [], _ => rfl
  | a :: r, h => by
    have h1 : a ≠ c := fun e => h (e ▸ List.mem_cons_self ..)
    have h2 : c ∉ r := fun e => h (List.mem_cons_of_mem _ e)
    unfold fld
    rw [if_neg h1, fld_free c r h2]

theorem fld_app (c : Nat) : ∀ l r : List Nat, c ∉ l → fld c (l ++ c :: r) = l :: fld c r
  | [], r, _ => by simp [fld]
  | a :: l, r, h => by
    have h1 : a ≠ c := fun e => h (e ▸ List.mem_cons_self ..)
    have h2 : c ∉ l := fun e => h (List.mem_cons_of_mem _ e)
    show (if a = c then [] :: fld c (l ++ c :: r) else match fld c (l ++ c :: r) with | p :: ps => (a :: p) :: ps | [] => [[a]]) = _
    rw [if_neg h1, fld_app c l r h2]

/-- the part ahead of the first c, the part behind it -/
def pre (c : Nat) (l : List Nat) : List Nat := l.takeWhile (· != c)
def post (c : Nat) (l : List Nat) : List Nat := (l.dropWhile (· != c)).tail

theorem pre_free (c : Nat) : ∀ l, c ∉ pre c l
  | [] => by simp [pre]
  | a :: r => by
    unfold pre
    by_cases h : a = c
    · subst h; simp
    · rw [List.takeWhile_cons, if_pos (by simpa using h)]
      intro hm
      rcases List.mem_cons.mp hm with e | e
      · exact h e.symm
      · exact pre_free c r e
theorem pre_post (c : Nat) : ∀ l, c ∈ l → pre c l ++ c :: post c l = l
  | [], h => nomatch h
  | a :: r, h => by
    unfold pre post
    by_cases e : a = c
    · subst e; simp
    · have hr : c ∈ r := (List.mem_cons.mp h).resolve_left (fun q => e q.symm)
      rw [List.takeWhile_cons, if_pos (by simpa using e), List.dropWhile_cons, if_pos (by simpa using e)]
      have := pre_post c r hr
      unfold pre post at this
      simp only [List.cons_append, this]
theorem pre_all (c : Nat) (l : List Nat) (h : c ∉ l) : pre c l = l := by
  induction l with
  | nil => rfl
  | cons a r ih =>
    have h1 : a ≠ c := fun e => h (e ▸ List.mem_cons_self ..)
    have h2 : c ∉ r := fun e => h (List.mem_cons_of_mem _ e)
    unfold pre
    rw [List.takeWhile_cons, if_pos (by simpa using h1)]
    have := ih h2
    unfold pre at this
    rw [this]
theorem pre_app (c : Nat) (l r : List Nat) (h : c ∉ l) : pre c (l ++ c :: r) = l := by
  induction l with
  | nil => simp [pre]
  | cons a l ih =>
    have h1 : a ≠ c := fun e => h (e ▸ List.mem_cons_self ..)
    have h2 : c ∉ l := fun e => h (List.mem_cons_of_mem _ e)
    unfold pre
    rw [List.cons_append, List.takeWhile_cons, if_pos (by simpa using h1)]
    have := ih h2
    unfold pre at this
    rw [this]
theorem post_app (c : Nat) (l r : List Nat) (h : c ∉ l) : post c (l ++ c :: r) = r := by
  induction l with
  | nil => simp [post]
  | cons a l ih =>
    have h1 : a ≠ c := fun e => h (e ▸ List.mem_cons_self ..)
    have h2 : c ∉ l := fun e => h (List.mem_cons_of_mem _ e)
    unfold post
    rw [List.cons_append, List.dropWhile_cons, if_pos (by simpa using h1)]
    have := ih h2
    unfold post at this
    rw [this]
theorem pre_length (c : Nat) (l : List Nat) : (pre c l).length ≤ l.length := (List.takeWhile_prefix _).length_le
theorem fld_head (c : Nat) (l : List Nat) : (fld c l).head? = some (pre c l) := by
  by_cases h : c ∈ l
  · conv => lhs; rw [← pre_post c l h]
    rw [fld_app c _ _ (pre_free c l)]; rfl
  · rw [fld_free c l h, pre_all c l h]; rfl
theorem fld_two (c : Nat) (l : List Nat) (h : c ∈ l) : (fld c l).take 2 = [pre c l, pre c (post c l)] := by
  have e := fld_app c (pre c l) (post c l) (pre_free c l)
  rw [pre_post c l h] at e
  have e2 := fld_head c (post c l)
  rw [e]
  cases hf : fld c (post c l) with
  | nil => exact absurd hf (fld_ne c _)
  | cons p ps => rw [hf] at e2; simp at e2; simp [e2]

/-- a Str of a list -/
def S (l : List Nat) : Str := ⟨l.toArray⟩
theorem S_cps (l : List Nat) : (S l).cps.toList = l := rfl
theorem S_of (x : Str) : S x.cps.toList = x := Str.ext' (by simp [S])
theorem S_app (a b : List Nat) : S a ++ S b = S (a ++ b) := Str.ext' (by simp [S, Str.cps_append])
theorem S_len (l : List Nat) : (S l).length = l.length := by simp [S, Str.length]
theorem S_inj {a b : List Nat} (h : S a = S b) : a = b := by
  have := congrArg (fun x : Str => x.cps.toList) h
  simpa [S] using this

theorem kind_one (x : Str) (c : Nat) (hc : c < 256) : decide (Str.strKind x < Str.strKind ⟨#[c]⟩) = false := by
  have h1 : Str.strKind ⟨#[c]⟩ = 1 := by unfold Str.strKind; simp [hc]
  have h2 : 1 ≤ Str.strKind x := by unfold Str.strKind; split <;> (try split) <;> omega
  rw [h1]; simp; omega

theorem contains_one (x : Str) (c : Nat) : Txt.contains x ⟨#[c]⟩ = decide (c ∈ x.cps.toList) := StrLaws.found_one x c

theorem join_fld (c : Nat) : ∀ ps : List Str, ps ≠ [] → (∀ p ∈ ps, c ∉ p.cps.toList) → fld c (Str.join ⟨#[c]⟩ ps).cps.toList = ps.map (·.cps.toList)
  | [], h, _ => absurd rfl h
  | [p], _, h => fld_free c _ (h p (List.mem_cons_self ..))
  | p :: q :: r, _, h => by
    have e : (Str.join ⟨#[c]⟩ (p :: q :: r)).cps.toList = p.cps.toList ++ c :: (Str.join ⟨#[c]⟩ (q :: r)).cps.toList := by
      show (p ++ ⟨#[c]⟩ ++ Str.join ⟨#[c]⟩ (q :: r)).cps.toList = _
      simp [Str.cps_append]
    rw [e, fld_app c _ _ (h p (List.mem_cons_self ..)), join_fld c (q :: r) (by simp) fun p' hp => h p' (List.mem_cons_of_mem _ hp)]
    rfl

theorem split_ne (x y : Str) : Txt.split x y ≠ [] := by
  unfold Txt.split
  split
  · simp
  · split
    · simp
    · rw [StrLaws.partsBetween_eq]
      obtain ⟨p, r, e⟩ := StrLaws.partsFrom_ne x y.length 0 (occurrences x y 0 x.length (x.length + 1))
      rw [e]; simp

theorem split_fld (x : Str) (c : Nat) : (Txt.split x ⟨#[c]⟩).map (·.cps.toList) = fld c x.cps.toList := by
  rw [← join_fld c _ (split_ne x _) (StrLaws.split_free x c), StrLaws.join_split]

theorem split_S (l : List Nat) (c : Nat) : Txt.split (S l) ⟨#[c]⟩ = (fld c l).map S := by
  have h := congrArg (List.map S) (split_fld (S l) c)
  rw [List.map_map] at h
  have e : (S ∘ fun x : Str => x.cps.toList) = _root_.id := funext fun x => S_of x
  rw [e, List.map_id] at h
  exact h

theorem at_one (x : Str) (c i : Nat) : StrLaws.At x ⟨#[c]⟩ x.length i ↔ x.cps.toList[i]? = some c := StrLaws.subAt_one x c i

theorem splitMax_one (l : List Nat) (c : Nat) (hc : c < 256) (h : c ∈ l) : Txt.splitMax (S l) ⟨#[c]⟩ 1 = [S (pre c l), S (post c l)] := by
  unfold Txt.splitMax
  have hlen : 1 ≤ l.length := by cases l with | nil => exact nomatch h | cons _ _ => simp
  have hl : limitOf (S l) 1 = 1 := rfl
  rw [kind_one _ _ hc, hl]
  have hle : decide ((S l).length < (⟨#[c]⟩ : Str).length) = false := by
    rw [S_len]; simp only [Str.length, decide_eq_false_iff_not, List.size_toArray, List.length_cons, List.length_nil]; omega
  rw [hle, Bool.or_false, if_neg (by simp)]
  rcases StrLaws.occ_head (S l) ⟨#[c]⟩ 1 (Nat.le_refl _) with ⟨_, hn⟩ | ⟨i, r, e, ha, hn⟩
  · exfalso
    obtain ⟨i, hi⟩ := List.getElem?_of_mem h
    exact hn i ((at_one _ _ _).mpr hi)
  · have h1 := StrLaws.occ_length_le (S l) ⟨#[c]⟩ 0 (S l).length 1
    rw [e] at h1
    have hr : r = [] := by cases r with | nil => rfl | cons _ _ => simp at h1
    subst hr
    rw [e]
    have hi : l[i]? = some c := (at_one _ _ _).mp ha
    have hlt : i < l.length := by
      rcases Nat.lt_or_ge i l.length with q | q
      · exact q
      · rw [List.getElem?_eq_none q] at hi; cases hi
    have hfree : c ∉ l.take i := by
      intro hm
      obtain ⟨k, hk⟩ := List.getElem?_of_mem hm
      have hki : k < i := by
        rcases Nat.lt_or_ge k i with q | q
        · exact q
        · rw [List.getElem?_eq_none (by simp; omega)] at hk; cases hk
      rw [List.getElem?_take_of_lt hki] at hk
      exact hn k hki ((at_one _ _ _).mpr hk)
    have hsplit : l = l.take i ++ c :: l.drop (i + 1) := by
      have hd : l.drop i = c :: l.drop (i + 1) := by
        rw [List.getElem?_eq_getElem hlt] at hi
        rw [List.drop_eq_getElem_cons hlt, Option.some.inj hi]
      rw [← hd, List.take_append_drop]
    have hp : pre c l = l.take i := by rw [hsplit, pre_app c _ _ hfree, ← hsplit]
    have hq : post c l = l.drop (i + 1) := by rw [hsplit, post_app c _ _ hfree, ← hsplit]
    rw [hp, hq]
    show [strSub (S l) 0 i, strSub (S l) (i + (⟨#[c]⟩ : Str).length) (S l).length] = _
    have a1 : strSub (S l) 0 i = S (l.take i) := by
      refine (S_of _).symm.trans (congrArg S ?_)
      rw [StrLaws.strSub_toList, S_cps]; simp
    have a2 : strSub (S l) (i + (⟨#[c]⟩ : Str).length) (S l).length = S (l.drop (i + 1)) := by
      refine (S_of _).symm.trans (congrArg S ?_)
      rw [StrLaws.strSub_toList, S_cps, S_len]
      simp only [Str.length]
      rw [List.take_of_length_le]
      · rfl
      · simp
    rw [a1, a2]

/-- one sign for another -/
def rep (c d : Nat) (l : List Nat) : List Nat := l.map fun a => if a = c then d else a
theorem join_S (d : Nat) : ∀ ps : List (List Nat), ps ≠ [] → ∀ (c : Nat) (l : List Nat), fld c l = ps → (Str.join ⟨#[d]⟩ (ps.map S)).cps.toList = rep c d l
  | [], h, _, _, _ => absurd rfl h
  | [p], _, c, l, e => by
    by_cases hm : c ∈ l
    · have := fld_app c (pre c l) (post c l) (pre_free c l)
      rw [pre_post c l hm, e] at this
      have h2 := fld_ne c (post c l)
      rw [List.cons.injEq] at this
      exact absurd this.2.symm h2
    · rw [fld_free c l hm] at e
      have : l = p := by simpa using e
      subst this
      show l = _
      unfold rep
      rw [List.map_congr_left (g := _root_.id)]
      · simp
      · intro a ha
        rw [if_neg]; rfl
        intro q; exact hm (q ▸ ha)
  | p :: q :: r, _, c, l, e => by
    by_cases hm : c ∈ l
    · have h1 := fld_app c (pre c l) (post c l) (pre_free c l)
      rw [pre_post c l hm, e, List.cons.injEq] at h1
      have ih := join_S d (q :: r) (by simp) c (post c l) h1.2.symm
      have e2 : (Str.join ⟨#[d]⟩ ((p :: q :: r).map S)).cps.toList = p ++ d :: (Str.join ⟨#[d]⟩ ((q :: r).map S)).cps.toList := by
        show (S p ++ ⟨#[d]⟩ ++ Str.join ⟨#[d]⟩ ((q :: r).map S)).cps.toList = _
        simp [Str.cps_append, S]
      rw [e2, ih]
      conv => rhs; rw [← pre_post c l hm]
      unfold rep
      rw [List.map_append, List.map_cons, if_pos rfl, h1.1]
      congr 1
      have hf : c ∉ pre c l := pre_free c l
      rw [List.map_congr_left (g := _root_.id)]
      · simp
      · intro a ha
        rw [if_neg]; rfl
        intro q; exact hf (q ▸ ha)
    · rw [fld_free c l hm] at e; simp at e

theorem replace_S (l : List Nat) (c d : Nat) : Txt.replace (S l) ⟨#[c]⟩ ⟨#[d]⟩ = S (rep c d l) := by
  rw [StrLaws.replace_one, split_S]
  refine (S_of _).symm.trans (congrArg S ?_)
  exact join_S d (fld c l) (fld_ne c l) c l rfl
end Mine

end
section
namespace Mine
open PySem PySem.W PySem.Builtin PySem.Builtin.Str PyProof.Rows

def del (c : Nat) (l : List Nat) : List Nat := l.filter (· != c)
theorem join_E : ∀ ps : List (List Nat), (Str.join ⟨#[]⟩ (ps.map S)).cps.toList = ps.flatten
  | [] => rfl
  | [p] => by show p = _; simp
  | p :: q :: r => by
    have e2 : (Str.join ⟨#[]⟩ ((p :: q :: r).map S)).cps.toList = p ++ (Str.join ⟨#[]⟩ ((q :: r).map S)).cps.toList := by
      show (S p ++ ⟨#[]⟩ ++ Str.join ⟨#[]⟩ ((q :: r).map S)).cps.toList = _
      simp [Str.cps_append, S]
    rw [e2, join_E (q :: r)]
    simp
theorem fld_flat (c : Nat) : ∀ l, (fld c l).flatten = del c l
  | [] => by simp [fld, del]
  | a :: r => by
    have ih := fld_flat c r
    unfold fld
    split
    · rename_i h; subst h
      simp only [List.flatten_cons, List.nil_append, ih]
      simp [del]
    · rename_i h
      have hd : del c (a :: r) = a :: del c r := by unfold del; rw [List.filter_cons, if_pos (by simpa using h)]
      rw [hd, ← ih]
      cases hf : fld c r with
      | nil => exact absurd hf (fld_ne c r)
      | cons p ps => simp
theorem delete_S (l : List Nat) (c : Nat) : Txt.replace (S l) ⟨#[c]⟩ ⟨#[]⟩ = S (del c l) := by
  rw [StrLaws.replace_one, split_S]
  refine (S_of _).symm.trans (congrArg S ?_)
  rw [join_E, fld_flat]
theorem del_len (c : Nat) (l : List Nat) : (del c l).length ≤ l.length := List.length_filter_le _ _
theorem rep_len (c d : Nat) (l : List Nat) : (rep c d l).length = l.length := by simp [rep]
theorem rep_free (c d : Nat) (l : List Nat) (h : c ∉ l) : rep c d l = l := by
  unfold rep
  rw [List.map_congr_left (g := _root_.id)]
  · simp
  · intro a ha
    rw [if_neg]; rfl
    intro q; exact h (q ▸ ha)
theorem post_len (c : Nat) (l : List Nat) : (post c l).length ≤ l.length := by
  unfold post
  rw [List.length_tail]
  have := (List.dropWhile_suffix (l := l) (· != c)).length_le
  omega
theorem fld_len (c : Nat) : ∀ l, (fld c l).length ≤ l.length + 1
  | [] => by simp [fld]
  | a :: r => by
    have ih := fld_len c r
    unfold fld
    split
    · simp; omega
    · split
      · rename_i e; rw [e] at ih; simp at ih ⊢; omega
      · simp
theorem fld_two' (c : Nat) (l : List Nat) (h : c ∈ l) : ∃ r, fld c l = pre c l :: pre c (post c l) :: r ∧ r.length ≤ l.length := by
  have e := fld_two c l h
  have hn := fld_len c l
  cases hf : fld c l with
  | nil => rw [hf] at e; cases e
  | cons p ps =>
    cases ps with
    | nil => rw [hf] at e; cases e
    | cons q r =>
      rw [hf] at e hn
      simp only [List.take_succ_cons, List.take_zero, List.cons.injEq, and_true] at e
      exact ⟨r, by rw [e.1, e.2], by simp at hn; omega⟩

/-! ### steps -/
section
variable {prog : Program} {w : World} {A : Around} {E : Value → Shared → Prop} {s : Shared} {h₀ : Heap} {L : Addr} {m : PySem.Str → Option Value} {news : List (Addr × Obj)} {x : PySem.Str} {l : List Nat} {t u v : Tok} {Q : Value → Shared → Prop}
theorem lower_S (hl : Txt.lower x = S l) (hx : x.length ≤ 5592405) (h : Q (.str (S l) s.toks) { s with toks := s.toks + 1 }) : wpAny (model prog w) A (call (.builtin "str.lower") [.str x t]) Q E s := by
  refine SCL.lower hx fun _ => ?_
  rw [hl]; exact h
theorem in_one {c : Nat} {y : PySem.Str} (hy : y = ⟨#[c]⟩) (h : Q (.bool (decide (c ∈ l))) s) : wpAny (model prog w) A (compareOp .In (.str y u) (.str (S l) t)) Q E s := by
  refine in_str ?_
  have e : (!(Builtin.Str.occurrences (S l) y 0 (S l).length 1).isEmpty) = decide (c ∈ l) := by rw [hy]; exact contains_one (S l) c
  rw [e]; exact h
theorem notin_one {c : Nat} {y : PySem.Str} (hy : y = ⟨#[c]⟩) (h : Q (.bool (!decide (c ∈ l))) s) : wpAny (model prog w) A (compareOp .NotIn (.str y u) (.str (S l) t)) Q E s := by
  refine notIn_str ?_
  have e : (!(Builtin.Str.occurrences (S l) y 0 (S l).length 1).isEmpty) = decide (c ∈ l) := by rw [hy]; exact contains_one (S l) c
  rw [e]; exact h
theorem rep_one {c d : Nat} {y z : PySem.Str} (hy : y = ⟨#[c]⟩) (hz : z = ⟨#[d]⟩) (hl : l.length ≤ 1000000) (hu : u ≠ 0) (hv : v ≠ 0) (huv : u ≠ v) (hnb : NoneBooked s.heap)
    (h : ∀ t' k, Q (.str (S (rep c d l)) t') { s with toks := k }) : wpAny (model prog w) A (call (.builtin "str.replace") [.str (S l) t, .str y u, .str z v]) Q E s := by
  subst hy hz
  refine SC.replaceA hu hv huv ?_ (fun t' k => ?_) hnb
  · rw [S_len]; show l.length + (l.length + 1) * 1 ≤ _; omega
  · rw [replace_S]; exact h t' k
theorem del_one {c : Nat} {y z : PySem.Str} (hy : y = ⟨#[c]⟩) (hz : z = ⟨#[]⟩) (hl : l.length ≤ 1000000) (hu : u ≠ 0) (hv : v ≠ 0) (huv : u ≠ v) (hnb : NoneBooked s.heap)
    (h : ∀ t' k, Q (.str (S (del c l)) t') { s with toks := k }) : wpAny (model prog w) A (call (.builtin "str.replace") [.str (S l) t, .str y u, .str z v]) Q E s := by
  subst hy hz
  refine SC.replaceA hu hv huv ?_ (fun t' k => ?_) hnb
  · rw [S_len]; show l.length + (l.length + 1) * 0 ≤ _; omega
  · rw [delete_S]; exact h t' k
theorem splitMax_two {c : Nat} {y : PySem.Str} (hc : c < 256) (hy : y = ⟨#[c]⟩) (hm : c ∈ l) (hl : l.length ≤ 1000000) (F : Fr h₀ L s.heap m) (N : News h₀ L s.heap news)
    (h : ∀ t1 t2 D h' tk, Fr h₀ L h' m → News h₀ L h' ((D, listOf [.str (S (pre c l)) t1, .str (S (post c l)) t2].toArray 0) :: news) → Q (.ref D) { s with heap := h', toks := tk }) :
    wpAny (model prog w) A (call (.builtin "str.split") [.str (S l) t, .str y u, .int 1 v]) Q E s := by
  subst hy
  refine splitN2A F N (by rfl) (by decide) (fun ll h' tk e _ _ _ F' N' => ?_) (by rw [S_len]; unfold sizeLine; omega)
  rw [splitMax_one l c hc hm] at e
  obtain ⟨t1, l1, rfl, e1⟩ := KSpl.cons_of e
  obtain ⟨t2, l2, rfl, e2⟩ := KSpl.cons_of e1
  have e3 := KSpl.nil_of e2
  subst e3
  exact h t1 t2 _ h' tk F' N'
theorem split_two {c : Nat} {y : PySem.Str} (hy : y = ⟨#[c]⟩) (hm : c ∈ l) (hl : l.length ≤ 1000000) (F : Fr h₀ L s.heap m) (N : News h₀ L s.heap news)
    (h : ∀ t1 t2 r D h' tk, r.length ≤ 1000000 → Fr h₀ L h' m → News h₀ L h' ((D, listOf (.str (S (pre c l)) t1 :: .str (S (pre c (post c l))) t2 :: r).toArray 0) :: news) → Q (.ref D) { s with heap := h', toks := tk }) :
    wpAny (model prog w) A (call (.builtin "str.split") [.str (S l) t, .str y u]) Q E s := by
  subst hy
  refine splitN1 F N (by rfl) (fun ll h' tk e F' N' => ?_) (by rw [S_len]; unfold sizeLine; omega)
  obtain ⟨r, hr, hrl⟩ := fld_two' c l hm
  rw [split_S, hr, List.map_cons, List.map_cons] at e
  obtain ⟨t1, l1, rfl, e1⟩ := KSpl.cons_of e
  obtain ⟨t2, l2, rfl, e2⟩ := KSpl.cons_of e1
  refine h t1 t2 (strValues l2) _ h' tk ?_ F' N'
  have : l2.length = r.length := by rw [← List.length_map (f := (·.1)) (as := l2), e2, List.length_map]
  unfold strValues; rw [List.length_map]; omega
theorem pick2 (a b : Value) (r : List Value) : (slicePick (a :: b :: r).toArray none (some 2) none).toList = [a, b] := by
  rw [kms_pick_eq]
  unfold kms_pick kms_lo kms_hi
  simp
end
theorem s46 : Str.ofString "." = ⟨#[46]⟩ := rfl
theorem s64 : Str.ofString "@" = ⟨#[64]⟩ := rfl
theorem s58 : Str.ofString ":" = ⟨#[58]⟩ := rfl
theorem s45 : Str.ofString "-" = ⟨#[45]⟩ := rfl
theorem s95 : Str.ofString "_" = ⟨#[95]⟩ := rfl
theorem s0 : Str.ofString "" = ⟨#[]⟩ := rfl
theorem slice2 {prog : Program} {w : World} {A : Around} {E : Value → Shared → Prop} {s : Shared} {h₀ : Heap} {L : Addr} {m : PySem.Str → Option Value} {news : List (Addr × Obj)} {value slice : PySem.Expr} {l : Addr} {a b : Value} {r : List Value} {k : Tok} {Q : Value → Shared → Prop}
    (F : Fr h₀ L s.heap m) (N : News h₀ L s.heap news) (hl : s.heap.IsList l (a :: b :: r).toArray) (hr : r.length ≤ 1000000)
    (h : ∀ D h', Fr h₀ L h' m → News h₀ L h' ((D, listOf [a, b].toArray 0) :: news) → Q (.ref D) { s with heap := h' })
    (hs : subscripted slice false (.ref l) (.ref s.heap.objs.size) = operate [.ref s.heap.objs.size, .ref l] (getItem (.ref l) (.ref s.heap.objs.size))) (ht : ∀ r, letTemporaryGo value (.ref l) r = pure ()) :
    wpAny (model prog w) A (subscriptTail value slice (.ref l) (.ref s.heap.objs.size)) Q E { s with heap := s.heap.push { cls := .type "slice", data := .fields #[.none, .int 2 k, .none] } } :=
  kmk_slice_lit F N hl .none (.int _ _) (pick2 a b r) (fun D h' F' N' _ => h D h' F' N') hs ht (by simp [sizeLine]; omega)
structure Hint (c : List Nat) : Prop where
  t : True
structure Cut (g : Heap) (L : Addr) (m : PySem.Str → Option Value) (news : List (Addr × Obj)) (l : List Nat) (s : Shared) (v : Flow) (s' : Shared) : Prop where
  out : v = .next ∧ ∃ u h' tk', s' = { s with heap := h', toks := tk' } ∧ Fr g L h' (fun y => if y = Str.ofString "code" then some (.str (S l) u) else m y) ∧ News g L h' news
theorem cut_if {M : Model} {A : Around} {E : Value → Shared → Prop} {s : Shared} {t : Sem Flow} {Q : Flow → Shared → Prop} {g : Heap} {L : Addr} {m : PySem.Str → Option Value} {news : List (Addr × Obj)} {l : List Nat} (_H : Hint l)
    (_F : Fr g L s.heap m) (_N : News g L s.heap news) (h1 : wpAny M A t (Cut g L m news l s) E s)
    (h2 : ∀ u h' tk', Fr g L h' (fun y => if y = Str.ofString "code" then some (.str (S l) u) else m y) → News g L h' news → Q .next { s with heap := h', toks := tk' }) : wpAny M A t Q E s :=
  wpAny_mono h1 (fun v s' ⟨⟨e, u, h', tk', e', F', N'⟩⟩ => by subst e e'; exact h2 u h' tk' F' N') (fun _ _ h => h)
theorem cut_same {g : Heap} {L : Addr} {m r : PySem.Str → Option Value} {news : List (Addr × Obj)} {l l' : List Nat} {s : Shared} {u : Tok} {h' : Heap} {tk' : Nat} (e : S l = S l') (hm : m = fun y => if y = Str.ofString "code" then some (.str (S l) u) else r y) (F : Fr g L h' m) (N : News g L h' news) :
    Cut g L m news l' s .next { s with heap := h', toks := tk' } := ⟨rfl, u, h', tk', rfl, by
      have e2 : (fun y => if y = Str.ofString "code" then some (Value.str (S l') u) else m y) = m := by
        funext y; rw [hm]; rw [e]; split <;> simp_all
      rw [e2]; exact F, N⟩
theorem cut_new {g : Heap} {L : Addr} {m m' : PySem.Str → Option Value} {news : List (Addr × Obj)} {l : List Nat} {s : Shared} {u : Tok} {h' : Heap} {tk' : Nat} (hm : m' = fun y => if y = Str.ofString "code" then some (.str (S l) u) else m y) (F : Fr g L h' m') (N : News g L h' news) :
    Cut g L m news l s .next { s with heap := h', toks := tk' } := ⟨rfl, u, h', tk', rfl, hm ▸ F, N⟩
theorem gen_toks {M : Model} {A : Around} {E : Value → Shared → Prop} {α : Type} {tr : Sem α} {Q : α → Shared → Prop} {h : Heap} {g : Array GenState} {d : Drawn} {t : Nat} {os : OsState} (H : ∀ tk, 1 ≤ tk → wpAny M A tr Q E ⟨h, g, d, tk, os⟩) : wpAny M A tr Q E ⟨h, g, d, t + 1, os⟩ := H _ (by omega)
theorem truthy_S {prog : Program} {w : World} {A : Around} {E : Value → Shared → Prop} {s : Shared} {l : List Nat} {t : Tok} {Q : Bool → Shared → Prop} (hl : l.length ≤ 1000000) (h : Q (!l.isEmpty) { s with toks := s.toks + 1 + 1 }) : wpAny (model prog w) A (truthy (.str (S l) t)) Q E s := by
  refine P.truthy_str (by rw [S_len]; omega) ?_
  have e : (S l).length = l.length := S_len l
  cases l with
  | nil => exact h
  | cons a r => exact h
theorem post_none (c : Nat) : ∀ (l : List Nat), c ∉ l → post c l = []
  | [], _ => rfl
  | a :: r, h => by
    have h1 : a ≠ c := fun e => h (e ▸ List.mem_cons_self ..)
    have ih := post_none c r fun e => h (List.mem_cons_of_mem _ e)
    unfold post at ih ⊢
    rw [List.dropWhile_cons, if_pos (by simpa using h1), ih]
structure CutAt (g : Heap) (L : Addr) (m : PySem.Str → Option Value) (news : List (Addr × Obj)) (c : List Nat) (s : Shared) (v : Flow) (s' : Shared) : Prop where
  out : v = .next ∧ ∃ u1 u2 h' tk', s' = { s with heap := h', toks := tk' } ∧ Fr g L h' (fun y => if y = Str.ofString "modifier" then some (.str (S (post 64 c)) u1) else if y = Str.ofString "code" then some (.str (S (pre 64 c)) u2) else m y) ∧ News g L h' news
theorem CutAt.cut {M : Model} {A : Around} {E : Value → Shared → Prop} {s : Shared} {t : Sem Flow} {Q : Flow → Shared → Prop} {g : Heap} {L : Addr} {m : PySem.Str → Option Value} {news : List (Addr × Obj)} {c : List Nat} (_H : Hint c)
    (_F : Fr g L s.heap m) (_N : News g L s.heap news) (h1 : wpAny M A t (CutAt g L m news c s) E s)
    (h2 : ∀ u1 u2 h' tk', Fr g L h' (fun y => if y = Str.ofString "modifier" then some (.str (S (post 64 c)) u1) else if y = Str.ofString "code" then some (.str (S (pre 64 c)) u2) else m y) → News g L h' news → Q .next { s with heap := h', toks := tk' }) : wpAny M A t Q E s :=
  wpAny_mono h1 (fun v s' ⟨⟨e, u1, u2, h', tk', e', F', N'⟩⟩ => by subst e e'; exact h2 u1 u2 h' tk' F' N') (fun _ _ h => h)
theorem CutAt.new {g : Heap} {L : Addr} {m m' : PySem.Str → Option Value} {news : List (Addr × Obj)} {c : List Nat} {s : Shared} {u1 u2 : Tok} {h' : Heap} {tk' : Nat} (hm : m' = (fun y => if y = Str.ofString "modifier" then some (.str (S (post 64 c)) u1) else if y = Str.ofString "code" then some (.str (S (pre 64 c)) u2) else m y)) (F : Fr g L h' m') (N : News g L h' news) :
    CutAt g L m news c s .next { s with heap := h', toks := tk' } := ⟨rfl, u1, u2, h', tk', rfl, hm ▸ F, N⟩
theorem CutAt.same {g : Heap} {L : Addr} {m m' r : PySem.Str → Option Value} {news : List (Addr × Obj)} {c : List Nat} {s : Shared} {u1 u2 : Tok} {h' : Heap} {tk' : Nat} (hc : 64 ∉ c)
    (hm : m = fun y => if y = Str.ofString "code" then some (.str (S c) u2) else r y) (hm' : m' = fun y => if y = Str.ofString "modifier" then some (.str (Str.ofString "") u1) else m y) (F : Fr g L h' m') (N : News g L h' news) :
    CutAt g L m news c s .next { s with heap := h', toks := tk' } := CutAt.new (u1 := u1) (u2 := u2) (by
      rw [pre_all 64 c hc, post_none 64 c hc, hm']
      funext y; rw [hm]; split
      · rfl
      · split <;> simp_all) F N
structure CutDot (g : Heap) (L : Addr) (m : PySem.Str → Option Value) (news : List (Addr × Obj)) (c : List Nat) (s : Shared) (v : Flow) (s' : Shared) : Prop where
  out : v = .next ∧ ∃ u1 u2 h' tk', s' = { s with heap := h', toks := tk' } ∧ Fr g L h' (fun y => if y = Str.ofString "encoding" then some (.str (S (pre 46 (post 46 c))) u1) else if y = Str.ofString "langname" then some (.str (S (pre 46 c)) u2) else m y) ∧ News g L h' news
theorem CutDot.cut {M : Model} {A : Around} {E : Value → Shared → Prop} {s : Shared} {t : Sem Flow} {Q : Flow → Shared → Prop} {g : Heap} {L : Addr} {m : PySem.Str → Option Value} {news : List (Addr × Obj)} {c : List Nat} (_H : Hint c)
    (_F : Fr g L s.heap m) (_N : News g L s.heap news) (h1 : wpAny M A t (CutDot g L m news (pre 64 c) s) E s)
    (h2 : ∀ u1 u2 h' tk', Fr g L h' (fun y => if y = Str.ofString "encoding" then some (.str (S (pre 46 (post 46 (pre 64 c)))) u1) else if y = Str.ofString "langname" then some (.str (S (pre 46 (pre 64 c))) u2) else m y) → News g L h' news → Q .next { s with heap := h', toks := tk' }) : wpAny M A t Q E s :=
  wpAny_mono h1 (fun v s' ⟨⟨e, u1, u2, h', tk', e', F', N'⟩⟩ => by subst e e'; exact h2 u1 u2 h' tk' F' N') (fun _ _ h => h)
theorem CutDot.new {g : Heap} {L : Addr} {m m' : PySem.Str → Option Value} {news : List (Addr × Obj)} {c : List Nat} {s : Shared} {u1 u2 : Tok} {h' : Heap} {tk' : Nat} (hm : m' = (fun y => if y = Str.ofString "encoding" then some (.str (S (pre 46 (post 46 c))) u1) else if y = Str.ofString "langname" then some (.str (S (pre 46 c)) u2) else m y)) (F : Fr g L h' m') (N : News g L h' news) :
    CutDot g L m news c s .next { s with heap := h', toks := tk' } := ⟨rfl, u1, u2, h', tk', rfl, hm ▸ F, N⟩
theorem CutDot.same {g : Heap} {L : Addr} {m m' : PySem.Str → Option Value} {news : List (Addr × Obj)} {c : List Nat} {s : Shared} {u1 u2 : Tok} {h' : Heap} {tk' : Nat} (hc : 46 ∉ c)
    (hm' : m' = fun y => if y = Str.ofString "encoding" then some (.str (Str.ofString "") u1) else if y = Str.ofString "langname" then some (.str (S c) u2) else m y) (F : Fr g L h' m') (N : News g L h' news) :
    CutDot g L m news c s .next { s with heap := h', toks := tk' } := CutDot.new (u1 := u1) (u2 := u2) (by rw [pre_all 46 c hc, post_none 46 c hc, hm']; rfl) F N
theorem add_S {prog : Program} {w : World} {A : Around} {E : Value → Shared → Prop} {s : Shared} {x y : PySem.Str} {t u : Tok} {Q : Value → Shared → Prop} (hx : x.length ≤ 4000000) (hy : y.length ≤ 4000000) (h : ∀ t' tk, Q (.str (x ++ y) t') { s with toks := tk }) : wpAny (model prog w) A (binaryOp .Add (.str x t) (.str y u)) Q E s :=
  add_str h (by unfold sizeLine; omega)
theorem iadd_S {prog : Program} {w : World} {A : Around} {E : Value → Shared → Prop} {s : Shared} {x y : PySem.Str} {t u : Tok} {Q : Value → Shared → Prop} (hx : x.length ≤ 4000000) (hy : y.length ≤ 4000000) (h : ∀ t' tk, Q (.str (x ++ y) t') { s with toks := tk }) : wpAny (model prog w) A (inplaceOp .Add (.str x t) (.str y u)) Q E s :=
  iadd_str h (by unfold sizeLine; omega)
theorem S_le {l : List Nat} {n : Nat} (h : l.length ≤ n) : (S l).length ≤ n := by rw [S_len]; exact h
theorem app_le {x y : PySem.Str} {a b n : Nat} (hx : x.length ≤ a) (hy : y.length ≤ b) (h : a + b ≤ n) : (x ++ y).length ≤ n := by
  have : (x ++ y).length = x.length + y.length := by simp [Str.length, Str.cps_append]
  omega
section
variable {prog : Program} {w : World} {A : Around} {E : Value → Shared → Prop} {s : Shared} {x y : PySem.Str} {l c : List Nat} {t u : Tok} {Q : Value → Shared → Prop}
theorem in_yes {c : Nat} (hy : y = ⟨#[c]⟩) (hm : c ∈ l) (h : Q (.bool true) s) : wpAny (model prog w) A (compareOp .In (.str y u) (.str (S l) t)) Q E s := by
  refine in_one hy ?_; rw [decide_eq_true hm]; exact h
theorem in_no {c : Nat} (hy : y = ⟨#[c]⟩) (hm : c ∉ l) (h : Q (.bool false) s) : wpAny (model prog w) A (compareOp .In (.str y u) (.str (S l) t)) Q E s := by
  refine in_one hy ?_; rw [decide_eq_false hm]; exact h
theorem notin_yes {c : Nat} (hy : y = ⟨#[c]⟩) (hm : c ∈ l) (h : Q (.bool false) s) : wpAny (model prog w) A (compareOp .NotIn (.str y u) (.str (S l) t)) Q E s := by
  refine notin_one hy ?_; rw [decide_eq_true hm]; exact h
theorem notin_no {c : Nat} (hy : y = ⟨#[c]⟩) (hm : c ∉ l) (h : Q (.bool true) s) : wpAny (model prog w) A (compareOp .NotIn (.str y u) (.str (S l) t)) Q E s := by
  refine notin_one hy ?_; rw [decide_eq_false hm]; exact h
theorem eq_known {b : Bool} (hm : (x == y) = b) (h : Q (.bool b) s) : wpAny (model prog w) A (compareOp .Eq (.str x t) (.str y u)) Q E s := by
  refine eq_str ?_; rw [hm]; exact h
theorem eq_pre {b : Bool} (h64 : 64 ∉ c) (h : (S (pre 64 c) == y) = b) : (S c == y) = b := by rwa [pre_all 64 c h64] at h
theorem mem_pre {a : Nat} (h64 : 64 ∉ c) (h : a ∈ pre 64 c) : a ∈ c := by rwa [pre_all 64 c h64] at h
theorem nomem_pre {a : Nat} (h64 : 64 ∉ c) (h : a ∉ pre 64 c) : a ∉ c := by rwa [pre_all 64 c h64] at h
structure NoEuro (c : List Nat) : Prop where
  h : 64 ∈ c → (S (post 64 c) == Str.ofString "euro") = false
structure YesEuro (c : List Nat) : Prop where
  m : 64 ∈ c
  h : (S (post 64 c) == Str.ofString "euro") = true
set_option maxRecDepth 100000 in
theorem mod_msg (hx : x.length ≤ 1000000) (h : ∀ t' k, Q (.str (Str.ofString "unknown locale: " ++ x) t') { s with toks := k }) : wpAny (model prog w) A (binaryOp .Mod (.str (Str.ofString "unknown locale: %s") t) (.str x u)) Q E s := by
  refine' KPc.mod_str (T := fun z => Str.ofString "unknown locale: " ++ z) ?kpcF hx ?kpcm h
  case kpcF => kpc_eq
  case kpcm => k_dflt kpc_run_s
end
theorem drop1 {h₀ h : Heap} {L : Addr} {p q : Addr × Obj} {news : List (Addr × Obj)} (N : News h₀ L h (p :: q :: news)) : News h₀ L h (p :: news) := fun r hr => by
  rcases List.mem_cons.mp hr with e | e
  · subst e; exact N _ (List.mem_cons_self ..)
  · exact N r (List.mem_cons_of_mem _ (List.mem_cons_of_mem _ e))
theorem split_two' {prog : Program} {w : World} {A : Around} {E : Value → Shared → Prop} {s : Shared} {h₀ : Heap} {L : Addr} {m : PySem.Str → Option Value} {news : List (Addr × Obj)} {l : List Nat} {t u : Tok} {Q : Value → Shared → Prop} {c : Nat} {y : PySem.Str} (hy : y = ⟨#[c]⟩) (h64 : 64 ∉ l) (hm : c ∈ pre 64 l) (hl : l.length ≤ 1000000) (F : Fr h₀ L s.heap m) (N : News h₀ L s.heap news)
    (h : ∀ t1 t2 r D h' tk, r.length ≤ 1000000 → Fr h₀ L h' m → News h₀ L h' ((D, listOf (.str (S (pre c (pre 64 l))) t1 :: .str (S (pre c (post c (pre 64 l)))) t2 :: r).toArray 0) :: news) → Q (.ref D) { s with heap := h', toks := tk }) :
    wpAny (model prog w) A (call (.builtin "str.split") [.str (S l) t, .str y u]) Q E s := by
  rw [pre_all 64 l h64] at hm h
  exact split_two hy hm hl F N h
theorem got_in {g h : Heap} {L : Addr} {n₂ news : List (Addr × Obj)} {e t : Addr} {cls : Value} {vs : List Value} (G : Got n₂ e t cls vs) (N₂ : News g L h n₂) (N : News g L h news) :
    ∃ oe d n sl, News g L h ((e, oe) :: (t, ⟨.type "tuple", d, .seq vs.toArray n, sl⟩) :: news) ∧ Got ((e, oe) :: (t, ⟨.type "tuple", d, .seq vs.toArray n, sl⟩) :: news) e t cls vs := by
  obtain ⟨oe, ot, ws, nt, h1, h2, c1, c2, c3, c4, c5⟩ := G
  obtain ⟨cl, d, da, sl⟩ := ot
  dsimp only at c4 c5
  subst c4 c5
  refine ⟨oe, d, nt, sl, fun p hp => ?_, oe, _, ws, nt, .head _, .tail _ (.head _), c1, c2, c3, rfl, rfl⟩
  rcases List.mem_cons.mp hp with q | hp
  · subst q; exact N₂ _ h1
  · rcases List.mem_cons.mp hp with q | hp
    · subst q; exact N₂ _ h2
    · exact N _ hp
theorem ok_app (a b : PySem.Str) : PyData.strOk (a ++ b) = (PyData.strOk a && PyData.strOk b) := by
  unfold PyData.strOk; rw [Str.cps_append]; simp [Array.all_append]
theorem ok_S (l : List Nat) : PyData.strOk (S l) = l.all (· < 0x110000) := by
  unfold PyData.strOk S; simp
theorem ok_lit (x : PySem.Str) (h : PyData.strOk x = true) : PyData.strOk x = true := h
theorem ok_unk : PyData.strOk (Str.ofString "unknown locale: ") = true := by decide +kernel
theorem shaped_of {d : PyData} (h : d.canLay0 = true) (hd : d.depth ≤ 64) : PySem.SeqAt.shaped d = true := by
  unfold PySem.SeqAt.shaped; rw [h, decide_eq_true hd]; rfl
end Mine

end
section
open PySem PySem.W PyProof.Rows
namespace Mine
open PySem PySem.W PyProof.Rows

/-! ### the alias table -/
def LLD : List (Str × KTD.Dat) := LL.map fun p => (p.1, KTD.Dat.flat (.str p.2))
theorem alias_look (P : Params) : KTD.tabLook (KTD.datLooks fun b => (K P).lookup b) (fun b => (K P).lookup b) 240 LLD = true := by kernel_rfl
theorem alias_tab {P : Params} {h : Heap} (X : (K P).In h) : KTD.TextTab h 240 LLD := kt_text_in X (alias_look P)
theorem booked_ (P : Params) : (K P).lookup cStatics = some (o2 P) := by kernel_rfl

def base (l : List Nat) : List Nat := l.takeWhile fun c => c != 46 && c != 64
def basesL : List (List Nat) := LL.map fun p => base p.1.cps.toList
def Free (l : List Nat) : Prop := l ∉ basesL

theorem datum_none {k : Str} : ∀ {D : List (Str × KTD.Dat)}, (∀ p ∈ D, k ≠ p.1) → KTD.datumAt k D = none
  | [], _ => rfl
  | (x, d) :: D, h => by
    show (if decide (k = x) = true then some d else KTD.datumAt k D) = none
    rw [if_neg (by simpa using h (x, d) (List.mem_cons_self ..))]
    exact datum_none fun p hp => h p (List.mem_cons_of_mem _ hp)
theorem base_app : ∀ (l z : List Nat), 46 ∉ l → 64 ∉ l → (z = [] ∨ z.head? = some 46 ∨ z.head? = some 64) → base (l ++ z) = l
  | [], z, _, _, h => by
    rcases h with h | h | h
    · subst h; rfl
    · cases z with
      | nil => cases h
      | cons a r => have : a = 46 := by simpa using h
                    subst this; simp [base]
    · cases z with
      | nil => cases h
      | cons a r => have : a = 64 := by simpa using h
                    subst this; simp [base]
  | a :: l, z, h1, h2, h => by
    have ih := base_app l z (fun q => h1 (List.mem_cons_of_mem _ q)) (fun q => h2 (List.mem_cons_of_mem _ q)) h
    have a1 : a ≠ 46 := fun e => h1 (e ▸ List.mem_cons_self ..)
    have a2 : a ≠ 64 := fun e => h2 (e ▸ List.mem_cons_self ..)
    unfold base at ih ⊢
    rw [List.cons_append, List.takeWhile_cons, if_pos (by simp [a1, a2]), ih]
structure Fre (l : List Nat) : Prop where
  free : Free l
  dot : 46 ∉ l
  att : 64 ∉ l
theorem fre_a {c : List Nat} (f : Fre (pre 46 (pre 64 c))) (h : 64 ∉ c) : Fre (pre 46 c) := by rwa [pre_all 64 c h] at f
theorem fre_b {c : List Nat} (f : Fre (pre 46 c)) (h : 46 ∉ c) : Fre c := by rwa [pre_all 46 c h] at f
theorem miss_z {l z : List Nat} (f : Fre l) (hz : z = [] ∨ z.head? = some 46 ∨ z.head? = some 64) : KTD.datumAt (S (l ++ z)) LLD = none := by
  refine datum_none fun p hp e => f.free ?_
  obtain ⟨q, hq, rfl⟩ := List.mem_map.mp hp
  refine List.mem_map.mpr ⟨q, hq, ?_⟩
  have e1 : q.1 = S (l ++ z) := e.symm
  rw [e1, S_cps]
  exact base_app l z f.dot f.att hz
theorem miss_z' {l : List Nat} {x z : Str} (f : Fre l) (hx : x.cps.toList = l ++ z.cps.toList) (hz : z.cps.toList = [] ∨ z.cps.toList.head? = some 46 ∨ z.cps.toList.head? = some 64) : KTD.datumAt x LLD = none := by
  have := miss_z f hz
  rw [← hx, S_of] at this
  exact this
theorem missA {l : List Nat} (f : Fre l) : KTD.datumAt (S l) LLD = none := by
  have := miss_z (z := []) f (.inl rfl)
  rwa [List.append_nil] at this
theorem missB {l : List Nat} {y : Str} (f : Fre l) : KTD.datumAt (S l ++ (Str.ofString "." ++ y)) LLD = none :=
  miss_z' (z := Str.ofString "." ++ y) f (by rw [Str.cps_append]; simp [S]) (.inr (.inl (by rw [Str.cps_append, Array.toList_append]; rfl)))
theorem missC {l : List Nat} {y : Str} (f : Fre l) : KTD.datumAt (S l ++ (Str.ofString "@" ++ y)) LLD = none :=
  miss_z' (z := Str.ofString "@" ++ y) f (by rw [Str.cps_append]; simp [S]) (.inr (.inr (by rw [Str.cps_append, Array.toList_append]; rfl)))
theorem missD {l : List Nat} {y y' : Str} (f : Fre l) : KTD.datumAt (S l ++ (Str.ofString "." ++ y) ++ (Str.ofString "@" ++ y')) LLD = none :=
  miss_z' (z := Str.ofString "." ++ y ++ (Str.ofString "@" ++ y')) f (by simp [Str.cps_append, S]) (.inr (.inl (by rw [Str.cps_append, Str.cps_append, Array.toList_append, Array.toList_append]; rfl)))

section
variable {prog : Program} {w : World} {P : Params} {A : Around} {E : Value → Shared → Prop} {s : Shared} {g : Heap} {L : Addr} {m : PySem.Str → Option Value} {news : List (Addr × Obj)} {Q : Value → Shared → Prop}
theorem here_ (X : (K P).In g) (F : Fr g L s.heap m) : KTD.Here g s.heap 240 LLD := ⟨alias_tab X, F.keep⟩
theorem get_meth {pl : Sem Bool} {Q : Value × List Value → Shared → Prop} (X : (K P).In g) (F : Fr g L s.heap m) (h : Q (.builtin "dict.get", [.ref 240]) s) : wpAny (model prog w) A (getMethod (.ref 240) (Str.ofString "get") pl) Q E s :=
  KTD.getMethod_text (here_ X F) h
theorem get_miss {k : Str} {tk : Tok} (X : (K P).In g) (F : Fr g L s.heap m) (hk : KTD.datumAt k LLD = none) (h : Q .none { s with toks := s.toks + 1 }) :
    wpAny (model prog w) A (call (.builtin "dict.get") [.ref 240, .str k tk, .none]) Q E s :=
  call_meetsIn PySem.F.slot_dict_get (here_ X F).typeIs PySem.F.entry_dict_get (PySem.F.args_dict_get_3 _ _ _) (KTD.meets_get2 (h₀ := g) (D := LLD)) ⟨here_ X F, fun d v ha _ => (by rw [hk] at ha; cases ha), fun _ => h⟩
theorem get_hit {k v : Str} {tk : Tok} (X : (K P).In g) (F : Fr g L s.heap m) (hk : KTD.datumAt k LLD = some (.flat (.str v))) (h : ∀ t, Q (.str v t) { s with toks := s.toks + 1 }) :
    wpAny (model prog w) A (call (.builtin "dict.get") [.ref 240, .str k tk, .none]) Q E s :=
  call_meetsIn PySem.F.slot_dict_get (here_ X F).typeIs PySem.F.entry_dict_get (PySem.F.args_dict_get_3 _ _ _) (KTD.meets_get2 (h₀ := g) (D := LLD)) ⟨here_ X F, fun d v' ha hv => (by
    rw [hk] at ha; cases ha
    obtain ⟨t, rfl⟩ : ∃ t, v' = .str v t := PyProof.V.Flat.str_inv hv
    exact h t), fun hn => (by rw [hk] at hn; cases hn)⟩
theorem booked {h : Heap} (X : (K P).In g) (F : Fr g L h m) : NoneBooked h :=
  ⟨fun _ => none, ⟨o2 P, #[], 0, F.keep _ _ (X _ _ (booked_ P)), rfl, by intro i hi; simp at hi, fun _ => rfl⟩, rfl⟩
end
def lkup (c : List Nat) : Str :=
  if (post 64 c).isEmpty = true then
    (if (pre 46 (post 46 (pre 64 c))).isEmpty = true then S (pre 46 (pre 64 c)) else S (pre 46 (pre 64 c)) ++ (Str.ofString "." ++ S (del 95 (del 45 (pre 46 (post 46 (pre 64 c)))))))
  else (if (pre 46 (post 46 (pre 64 c))).isEmpty = true then S (pre 46 (pre 64 c)) else S (pre 46 (pre 64 c)) ++ (Str.ofString "." ++ S (del 95 (del 45 (pre 46 (post 46 (pre 64 c))))))) ++ (Str.ofString "@" ++ S (post 64 c))
structure Hit (c : List Nat) (v : Str) : Prop where
  is : KTD.datumAt (lkup c) LLD = some (.flat (.str v))
theorem hitA {c : List Nat} {v : Str} (h : Hit c v) (h1 : (pre 46 (post 46 (pre 64 c))).isEmpty = true) (h2 : (post 64 c).isEmpty = true) : KTD.datumAt (S (pre 46 (pre 64 c))) LLD = some (.flat (.str v)) := by
  have := h.is; unfold lkup at this; rwa [if_pos h2, if_pos h1] at this
theorem hitB {c : List Nat} {v : Str} (h : Hit c v) (h1 : (pre 46 (post 46 (pre 64 c))).isEmpty = false) (h2 : (post 64 c).isEmpty = true) : KTD.datumAt (S (pre 46 (pre 64 c)) ++ (Str.ofString "." ++ S (del 95 (del 45 (pre 46 (post 46 (pre 64 c))))))) LLD = some (.flat (.str v)) := by
  have := h.is; unfold lkup at this; rwa [if_pos h2, if_neg (by rw [h1]; exact Bool.false_ne_true)] at this
theorem hitC {c : List Nat} {v : Str} (h : Hit c v) (h1 : (pre 46 (post 46 (pre 64 c))).isEmpty = true) (h2 : (post 64 c).isEmpty = false) : KTD.datumAt (S (pre 46 (pre 64 c)) ++ (Str.ofString "@" ++ S (post 64 c))) LLD = some (.flat (.str v)) := by
  have := h.is; unfold lkup at this; rwa [if_neg (by rw [h2]; exact Bool.false_ne_true), if_pos h1] at this
theorem hitD {c : List Nat} {v : Str} (h : Hit c v) (h1 : (pre 46 (post 46 (pre 64 c))).isEmpty = false) (h2 : (post 64 c).isEmpty = false) : KTD.datumAt (S (pre 46 (pre 64 c)) ++ (Str.ofString "." ++ S (del 95 (del 45 (pre 46 (post 46 (pre 64 c)))))) ++ (Str.ofString "@" ++ S (post 64 c))) LLD = some (.flat (.str v)) := by
  have := h.is; unfold lkup at this; rwa [if_neg (by rw [h2]; exact Bool.false_ne_true), if_neg (by rw [h1]; exact Bool.false_ne_true)] at this
/-- what normalize gives -/
structure Nrm (x y : Str) : Prop where
  out : ∃ l, Txt.lower x = S l ∧ l.length ≤ 1000000 ∧ x.length ≤ 100000 ∧ ((Fre (pre 46 (pre 64 (rep 58 46 l))) ∧ y = x) ∨ Hit (rep 58 46 l) y)
end Mine

end
section
open PySem PySem.W PyProof.Rows
namespace Mine
open PySem PySem.W PyProof.Rows
theorem sv_snoc (l : List (Str × Tok)) (y : Str) (t : Tok) : strValues (l ++ [(y, t)]) = strValues l ++ [.str y t] := by simp [strValues]
section
variable {prog : Program} {w : World} {A : Around} {h₀ : Heap} {L : Addr} {m : Str → Option Value} {env : Env} {elt : PySem.Expr} {x : Str} {scope : Scope} {cl : List (Str × Addr)} {s : Shared} {S' : List (Addr × Obj) → Prop} {P : Nat → Value → Prop} {Fin : List Value → List (Addr × Obj) → Prop} {news : List (Addr × Obj)}
structure TxEl (news : List (Addr × Obj)) (r : Str) (y : Value) (news' : List (Addr × Obj)) : Prop where
  out : news' = news ∧ ∃ t : Tok, y = .str r t
theorem cmp_rest {β : Type} {xs : List β} {n : Nat} (R : β → Value → Prop) (g : β → Str) (hlen : xs.length = n) (hP : ∀ i v, i < n → P i v → ∃ b, xs[i]? = some b ∧ R b v)
    (turn : ∀ b v I oI C oC D m₂ ys h tk (E' : Value → Shared → Prop), b ∈ xs → R b v → LCg.NsObj oC m₂ → m₂ x = some v → Fr h₀ L h m → News h₀ L h ((I, oI) :: (C, oC) :: (D, LCg.lst ys) :: news) → LCg.Off3 I C D news → ((@Ne Nat I C) ∧ (@Ne Nat I D) ∧ (@Ne Nat C D)) →
      wpAny (model prog w) A (eval elt (compEnvC scope cl C env)) (LCg.CompEnd h₀ L m { s with heap := h, toks := tk } I oI C oC D (LCg.lst ys) S' (fun y news' => TxEl news (g b) y news')) E' { s with heap := h, toks := tk })
    (fin : ∀ l : List (Str × Tok), l.map (·.1) = xs.map g → Fin (strValues l) news) : LCg.CompRest prog w A h₀ L m env elt x scope cl s S' P Fin n 0 [] news := by
  have key : ∀ (j i : Nat) (l : List (Str × Tok)), i + j = n → l.map (·.1) = (xs.take i).map g → LCg.CompRest prog w A h₀ L m env elt x scope cl s S' P Fin j i (strValues l) news := by
    intro j
    induction j with
    | zero =>
      intro i l hi hy
      have e : i = xs.length := by omega
      subst e
      rw [List.take_length] at hy
      exact LCg.CompRest.zero (fin l hy)
    | succ j ih =>
      intro i l hi hy
      refine LCg.CompRest.succ ?_
      intro v I oI C oC D m₂ h tk E' hv hC hx F N off ne
      obtain ⟨b, hb, hv'⟩ := hP i v (by omega) hv
      refine wpAny_mono (turn b v I oI C oC D m₂ _ h tk E' (List.mem_of_getElem? hb) hv' hC hx F N off ne) (fun y s₂ hq => ?_) fun _ _ e => e
      obtain ⟨h', tk', nw, e, F', N', off', hS, ⟨hn, t', hy'⟩⟩ := hq
      rw [hn] at N' off' hS
      refine ⟨h', tk', news, e, F', N', off', hS, ?_⟩
      show LCg.CompRest prog w A h₀ L m env elt x scope cl s S' P Fin j (i + 1) (strValues l ++ [y]) news
      rw [hy', ← sv_snoc]
      refine ih (i + 1) _ (by omega) ?_
      rw [List.take_add_one, hb]
      simp [hy]
  exact key n 0 [] (by omega) (by simp)
theorem src_ints {vs : List Value} {ns : List Int} (hi : IntsAre vs ns) : ∀ i v, i < vs.toArray.size → vs.toArray[i]? = some v → ∃ b, ns[i]? = some b ∧ ∃ t, v = .int b t := fun i v _ hv => by
  obtain ⟨k, t, e, hk⟩ := IntsAre.at hi i v (by simpa using hv)
  exact ⟨k, hk, t, e⟩
theorem src_strs {l : List (Str × Tok)} : ∀ i v, i < (strValues l).toArray.size → (strValues l).toArray[i]? = some v → ∃ b, (l.map (·.1))[i]? = some b ∧ ∃ t, v = .str b t := fun i v _ hv => by
  simp only [strValues, List.getElem?_toArray, List.getElem?_map, Option.map_eq_some_iff] at hv ⊢
  obtain ⟨p, hp, rfl⟩ := hv
  exact ⟨p.1, ⟨p, hp, rfl⟩, p.2, rfl⟩
theorem sv_len (l : List (Str × Tok)) : (strValues l).toArray.size = l.length := by simp [strValues]
end
/-- the sign of a number -/
def sg (k : Int) : Nat := k.natAbs % 1114112
def cln (a : Nat) : Nat := if a = 46 ∨ a = 64 then 44 else a
theorem flat_one : ∀ l : List Nat, (l.map fun a => [a]).flatten = l
  | [] => rfl
  | a :: r => by simp [flat_one r]
theorem join_sing (l : List Nat) : Txt.join (Str.ofString "") (l.map fun a => S [a]) = S l := by
  refine (S_of _).symm.trans (congrArg S ?_)
  have : (l.map fun a => S [a]) = (l.map fun a => [a]).map S := by rw [List.map_map]; rfl
  unfold Txt.join
  rw [StrLaws.glued_eq_join]
  show (Str.join ⟨#[]⟩ (l.map fun a => S [a])).cps.toList = l
  rw [this, join_E, flat_one]
theorem sum_sing : ∀ l : List Nat, ((l.map fun a => S [a]).map (·.length)).sum = l.length
  | [] => rfl
  | a :: r => by
    simp only [List.map_cons, List.sum_cons, sum_sing r, List.length_cons]
    show 1 + _ = _; omega
section
variable {prog : Program} {w : World} {A : Around} {E : Value → Shared → Prop} {s : Shared} {t : Tok} {Q : Value → Shared → Prop}
theorem join_S1 {D : Addr} {l : List (Str × Tok)} {c : List Nat} (hl : s.heap.IsList D (strValues l).toArray) (ht : l.map (·.1) = c.map fun a => S [a]) (hc : c.length ≤ 1000)
    (h : ∀ t' k, Q (.str (S c) t') { s with toks := k }) : wpAny (model prog w) A (call (.builtin "str.join") [.str (Str.ofString "") t, .ref D]) Q E s := by
  refine join_listW (ys := c.map fun a => S [a]) hl ?_ (by decide) ?_ fun t' k => ?_
  · have := strsAre_of_values l
    rw [ht] at this
    exact this
  · rw [sum_sing, List.length_map]; omega
  · rw [join_sing]; exact h t' k
theorem el_sg {news : List (Addr × Obj)} {k : Int} {t : Tok} {z : Str} (hz : z = ⟨#[((if k < 0 then -k else k).fmod 1114112).toNat]⟩) : TxEl news (S [sg k]) (.str z t) news := by
  refine ⟨rfl, t, ?_⟩
  rw [hz]
  have : ((if k < 0 then -k else k).fmod 1114112).toNat = sg k := by
    unfold sg
    rw [Int.fmod_eq_emod_of_nonneg _ (by decide)]
    split <;> omega
  rw [this]; rfl
theorem el_any {news : List (Addr × Obj)} {r z : Str} {t : Tok} (hz : z = r) : TxEl news r (.str z t) news := ⟨rfl, t, by rw [hz]⟩
theorem src_sing {l : List (Str × Tok)} {c : List Nat} (hT : l.map (·.1) = c.map fun a => S [a]) : ∀ i v, i < (strValues l).toArray.size → (strValues l).toArray[i]? = some v → ∃ b, c[i]? = some b ∧ ∃ t, v = .str (S [b]) t := fun i v h hv => by
  obtain ⟨b, hb, t, e⟩ := src_strs i v h hv
  rw [hT, List.getElem?_map, Option.map_eq_some_iff] at hb
  obtain ⟨a, ha, rfl⟩ := hb
  exact ⟨a, ha, t, e⟩
theorem len_sing {l : List (Str × Tok)} {c : List Nat} (hT : l.map (·.1) = c.map fun a => S [a]) : c.length = (strValues l).toArray.size := by
  have := congrArg List.length hT
  simp only [List.length_map] at this
  rw [sv_len]; omega
end
theorem sing_map {β : Type} (f : β → Nat) (xs : List β) : (xs.map fun k => S [f k]) = (xs.map f).map fun a => S [a] := by rw [List.map_map]; rfl
theorem cln_any (k : Nat) : ([Str.ofString ".", Str.ofString "@"].any fun x => x == S [k]) = decide (k = 46 ∨ k = 64) := by
  have e1 : (Str.ofString "." == S [k]) = decide (k = 46) := by
    by_cases h : k = 46
    · subst h; rfl
    · rw [decide_eq_false h]; apply beq_false_of_ne
      intro e; exact h (List.cons.inj (S_inj (a := [46]) (b := [k]) e)).1.symm
  have e2 : (Str.ofString "@" == S [k]) = decide (k = 64) := by
    by_cases h : k = 64
    · subst h; rfl
    · rw [decide_eq_false h]; apply beq_false_of_ne
      intro e; exact h (List.cons.inj (S_inj (a := [64]) (b := [k]) e)).1.symm
  simp only [List.any_cons, List.any_nil, Bool.or_false, e1, e2]
  by_cases h1 : k = 46 <;> by_cases h2 : k = 64 <;> simp [h1, h2]
theorem el_cln_t {k : Nat} (h : ([Str.ofString ".", Str.ofString "@"].any fun x => x == S [k]) = true) : Str.ofString "," = S [cln k] := by
  rw [cln_any] at h
  unfold cln; rw [if_pos (of_decide_eq_true h)]; rfl
theorem el_cln_f {k : Nat} (h : ([Str.ofString ".", Str.ofString "@"].any fun x => x == S [k]) = false) : S [k] = S [cln k] := by
  rw [cln_any] at h
  unfold cln; rw [if_neg (of_decide_eq_false h)]
theorem len_sv {prog : Program} {w : World} {A : Around} {E : Value → Shared → Prop} {s : Shared} {Q : Value → Shared → Prop} {D : Addr} {l : List (Str × Tok)} {c : List Nat} (hl : s.heap.IsList D (strValues l).toArray) (hT : l.map (·.1) = c.map fun a => S [a]) (hc : c.length ≤ 1000)
    (h : Q (.int c.length (s.toks + 1)) { s with toks := s.toks + 1 + 1 }) : wpAny (model prog w) A (call (.builtin "len") [.ref D]) Q E s := by
  have e := len_sing hT
  exact PySem.Calls.call_len_list hl (by rw [← e]; omega) (by rw [← e]; exact h)
theorem sv_take (l : List (Str × Tok)) (i : Nat) : strValues (l.take i) = (strValues l).take i := by simp [strValues, List.map_take]
theorem sv_drop (l : List (Str × Tok)) (i : Nat) : strValues (l.drop i) = (strValues l).drop i := by simp [strValues, List.map_drop]
theorem pick_to (l : List (Str × Tok)) (i : Nat) : (slicePick (strValues l).toArray none (some (i : Int)) none).toList = strValues (l.take i) := by
  rw [kms_pick_eq, sv_take]
  unfold kms_pick kms_lo kms_hi
  have h : ¬ ((i : Int) < 0) := by omega
  simp only [if_neg h, Int.toNat_natCast, List.drop_zero, Nat.sub_zero]
  exact kmk_take_min _ _
theorem pick_from (l : List (Str × Tok)) (i : Nat) : (slicePick (strValues l).toArray (some (i : Int)) none none).toList = strValues (l.drop i) := by
  rw [kms_pick_eq, sv_drop]
  unfold kms_pick kms_lo kms_hi
  have h : ¬ ((i : Int) < 0) := by omega
  simp only [if_neg h, Int.toNat_natCast]
  show ((strValues l).drop (min i (strValues l).length)).take ((strValues l).length - min i (strValues l).length) = _
  rw [kmk_drop_min, List.take_of_length_le]
  rw [List.length_drop]; omega
theorem take_sing {l : List (Str × Tok)} {c : List Nat} (hT : l.map (·.1) = c.map fun a => S [a]) (i : Nat) : (l.take i).map (·.1) = (c.take i).map fun a => S [a] := by rw [List.map_take, hT, List.map_take]
theorem drop_sing {l : List (Str × Tok)} {c : List Nat} (hT : l.map (·.1) = c.map fun a => S [a]) (i : Nat) : (l.drop i).map (·.1) = (c.drop i).map fun a => S [a] := by rw [List.map_drop, hT, List.map_drop]
section
variable {prog : Program} {w : World} {A : Around} {E : Value → Shared → Prop} {s : Shared} {h₀ : Heap} {L : Addr} {m : Str → Option Value} {news : List (Addr × Obj)} {value slice : PySem.Expr} {D : Addr} {l : List (Str × Tok)} {c : List Nat} {i : Nat} {k : Tok} {Q : Value → Shared → Prop}
theorem slice_to (hT : l.map (·.1) = c.map fun a => S [a]) (F : Fr h₀ L s.heap m) (N : News h₀ L s.heap news) (hl : s.heap.IsList D (strValues l).toArray) (hc : c.length ≤ 1000)
    (h : ∀ D' h' (l' : List (Str × Tok)), l'.map (·.1) = (c.take i).map (fun a => S [a]) → Fr h₀ L h' m → News h₀ L h' ((D', listOf (strValues l').toArray 0) :: news) → Q (.ref D') { s with heap := h' })
    (hs : subscripted slice false (.ref D) (.ref s.heap.objs.size) = operate [.ref s.heap.objs.size, .ref D] (getItem (.ref D) (.ref s.heap.objs.size))) (ht : ∀ r, letTemporaryGo value (.ref D) r = pure ()) :
    wpAny (model prog w) A (subscriptTail value slice (.ref D) (.ref s.heap.objs.size)) Q E { s with heap := s.heap.push { cls := .type "slice", data := .fields #[.none, .int (i : Int) k, .none] } } :=
  kmk_slice_lit F N hl .none (.int _ _) (pick_to l i) (fun D' h' F' N' _ => h D' h' _ (take_sing hT i) F' N') hs ht (by rw [← len_sing hT]; unfold sizeLine; omega)
theorem slice_from (hT : l.map (·.1) = c.map fun a => S [a]) (F : Fr h₀ L s.heap m) (N : News h₀ L s.heap news) (hl : s.heap.IsList D (strValues l).toArray) (hc : c.length ≤ 1000)
    (h : ∀ D' h' (l' : List (Str × Tok)), l'.map (·.1) = (c.drop i).map (fun a => S [a]) → Fr h₀ L h' m → News h₀ L h' ((D', listOf (strValues l').toArray 0) :: news) → Q (.ref D') { s with heap := h' })
    (hs : subscripted slice false (.ref D) (.ref s.heap.objs.size) = operate [.ref s.heap.objs.size, .ref D] (getItem (.ref D) (.ref s.heap.objs.size))) (ht : ∀ r, letTemporaryGo value (.ref D) r = pure ()) :
    wpAny (model prog w) A (subscriptTail value slice (.ref D) (.ref s.heap.objs.size)) Q E { s with heap := s.heap.push { cls := .type "slice", data := .fields #[.int (i : Int) k, .none, .none] } } :=
  kmk_slice_lit F N hl (.int _ _) .none (pick_from l i) (fun D' h' F' N' _ => h D' h' _ (drop_sing hT i) F' N') hs ht (by rw [← len_sing hT]; unfold sizeLine; omega)
end
end Mine

end
section
open PySem PySem.W PyProof.Rows
namespace Mine
open PySem PySem.W PyProof.Rows
section
variable {prog : Program} {w : World} {A : Around} {E : Value → Shared → Prop} {s : Shared} {env : Env} {h₀ : Heap} {x : Str} {body : List Stmt} {Q : Flow → Shared → Prop}
def Over (vars : List Str) (m₀ u : Str → Option Value) : Str → Option Value := fun y => if vars.contains y = true then u y else m₀ y
theorem over_self (vars : List Str) (m₀ : Str → Option Value) : m₀ = Over vars m₀ m₀ := by funext y; unfold Over; split <;> rfl
theorem loop_range {n : Nat} {r : Addr} {tt uu vv : Tok} {m₀ : Str → Option Value} {news : List (Addr × Obj)} (vars : List Str)
    (hh : A.handled = none) (hr : IsRange s.heap r 0 n 1 tt uu vv) (hsm : Builtin.Range.small 0 (n : Int) 1 = true) (hn : Builtin.Range.rangeSize 0 (n : Int) 1 = ((n : Nat) : Int))
    (F : Fr h₀ env.locals s.heap m₀) (N : News h₀ env.locals s.heap news)
    (turn : ∀ i t u h tk own, i < n → OwnOff own (news.map (·.1)) → Fr h₀ env.locals h (fun y => if y = x then some (.int (i : Int) t) else Over vars m₀ u y) → News h₀ env.locals h (news ++ own) →
      wpAny (model prog w) A (execs body env) (InvPostN h₀ env.locals (fun m' nx => nx = news ∧ ∃ u', m' = Over vars m₀ u') own (news.map (·.1)) { s with heap := h, toks := tk } Q) E { s with heap := h, toks := tk })
    (done : ∀ u h tk, Fr h₀ env.locals h (Over vars m₀ u) → News h₀ env.locals h news → Q .next { s with heap := h, toks := tk }) :
    wpAny (model prog w) A (pyIter (.ref r)) (fun it s₂ => LoopAtV prog w A h₀ env x body Q E it s₂) E s := by
  refine wpAny_pyIter_range hr hsm ?_
  have up : ∀ b o, s.heap.get? b = some o → (s.heap.push { cls := .type "range_iterator", data := .fields #[rawInt 0, rawInt (Builtin.Range.rangeSize 0 (n : Int) 1), rawInt 1] }).get? b = some o := fun b o e => Heap.get?_push_of_some _ e
  refine loop_invN (s := { s with heap := s.heap.push { cls := .type "range_iterator", data := .fields #[rawInt 0, rawInt (Builtin.Range.rangeSize 0 (n : Int) 1), rawInt 1] } }) (m₀ := m₀) (news := news)
    (fun _ m nx => nx = news ∧ ∃ u, m = Over vars m₀ u) (LCg.range_walks hh 0 n) ?_ ?_ ?_ ?_ ?_ (F.keeps up) (N.grown up) ⟨rfl, m₀, over_self _ _⟩ ?_ ?_
  · intro hm
    exact absurd F.ns.lt ((List.mem_singleton.mp hm) ▸ Nat.lt_irrefl _)
  · intro b hb
    rw [List.mem_singleton.mp hb]
    exact next_is_new F
  · intro p hp hI
    exact absurd (Heap.lt_size (N p hp).1) ((List.mem_singleton.mp hI) ▸ Nat.lt_irrefl _)
  · intro p hp hI
    exact absurd (Heap.lt_size (N p hp).1) ((List.mem_singleton.mp hI) ▸ Nat.lt_irrefl _)
  · show IsRangeIter _ _ _ _ _
    rw [hn]; simpa using Heap.get?_push_size _ rfl
  · rintro i v m₁ news₁ h tk own hin ⟨t, rfl⟩ _ hoff ⟨rfl, u, rfl⟩ F₁ N₁
    rw [Int.zero_add] at F₁
    exact turn i t u h tk own hin hoff F₁ N₁
  · rintro m₁ news₁ h tk ⟨rfl, u, rfl⟩ F₁ N₁
    exact done u h tk F₁ N₁
theorem loop_len {k : Nat} {r : Addr} {tt uu vv : Tok} {m₀ : Str → Option Value} {news : List (Addr × Obj)} (vars : List Str)
    (hh : A.handled = none) (hr : IsRange s.heap r 0 ((k : Int) + 1) 1 tt uu vv) (hk : k ≤ 1000)
    (F : Fr h₀ env.locals s.heap m₀) (N : News h₀ env.locals s.heap news)
    (turn : ∀ i t u h tk own, i ≤ k → OwnOff own (news.map (·.1)) → Fr h₀ env.locals h (fun y => if y = x then some (.int (i : Int) t) else Over vars m₀ u y) → News h₀ env.locals h (news ++ own) →
      wpAny (model prog w) A (execs body env) (InvPostN h₀ env.locals (fun m' nx => nx = news ∧ ∃ u', m' = Over vars m₀ u') own (news.map (·.1)) { s with heap := h, toks := tk } Q) E { s with heap := h, toks := tk })
    (done : ∀ u h tk, Fr h₀ env.locals h (Over vars m₀ u) → News h₀ env.locals h news → Q .next { s with heap := h, toks := tk }) :
    wpAny (model prog w) A (pyIter (.ref r)) (fun it s₂ => LoopAtV prog w A h₀ env x body Q E it s₂) E s :=
  loop_range (n := k + 1) vars hh hr (small_one (by decide) (by decide) (by omega) (by omega)) (by exact rangeSize_nat _ _) F N (fun i t u h tk own hi => turn i t u h tk own (by omega)) done
end
end Mine

end
section
open PySem PySem.W PyProof.Rows
namespace Mine
open PySem PySem.W PyProof.Rows
section
variable {prog : Program} {w : World} {A : Around} {E : Value → Shared → Prop} {s : Shared} {env : Env} {h₀ : Heap} {x : Str} {body : List Stmt} {Q : Flow → Shared → Prop}
theorem over_over (vars : List Str) (m₀ u u' : Str → Option Value) : Over vars (Over vars m₀ u) u' = Over vars m₀ u' := by funext y; unfold Over; split <;> rfl
theorem loop_strs {l : Addr} {ys : List (Str × Tok)} {nn : Nat} {m₀ : Str → Option Value} {news : List (Addr × Obj)} (vars : List Str)
    (hh : A.handled = none) (hl : (l, listOf (strValues ys).toArray nn) ∈ news) (F : Fr h₀ env.locals s.heap m₀) (N : News h₀ env.locals s.heap news)
    (turn : ∀ (y : Str) (t : Tok) u h tk own (Q' : Flow → Shared → Prop), (y, t) ∈ ys → Fr h₀ env.locals h (fun z => if z = x then some (.str y t) else Over vars m₀ u z) → News h₀ env.locals h (news ++ own) →
      (∀ u' h' tk', Fr h₀ env.locals h' (Over vars m₀ u') → News h₀ env.locals h' (news ++ own) → Q' .next { s with heap := h', toks := tk' }) →
      wpAny (model prog w) A (execs body env) Q' E { s with heap := h, toks := tk })
    (done : ∀ u h tk, Fr h₀ env.locals h (Over vars m₀ u) → News h₀ env.locals h news → Q .next { s with heap := h, toks := tk }) :
    wpAny (model prog w) A (pyIter (.ref l)) (fun it s₂ => LoopAtV prog w A h₀ env x body Q E it s₂) E s := by
  refine kdl_iter (m₀ := m₀) (news := news) (fun _ m nx => nx = news ∧ ∃ u, m = Over vars m₀ u) hh hl F N ⟨rfl, m₀, over_self _ _⟩ ?_ ?_
  · rintro i v m₁ news₁ h tk own hv hoff hl₁ ⟨rfl, u, rfl⟩ F₁ N₁
    have hv' : (ys.map fun p => Value.str p.1 p.2)[i]? = some v := hv
    rw [List.getElem?_map, Option.map_eq_some_iff] at hv'
    obtain ⟨p, hp, rfl⟩ := hv'
    refine turn p.1 p.2 u h tk own _ (List.mem_of_getElem? hp) F₁ N₁ ?_
    intro u' h' tk' F' N'
    show InvEndG _ _ _ _ _ _
    refine ⟨h', tk', _, _, news₁, rfl, F', N', fun q hq => List.mem_append.mpr (.inl hq), fun q hq => List.mem_append.mpr (.inr hq), hoff, hl₁, rfl, u', rfl⟩
  · rintro m₁ news₁ h tk ⟨rfl, u, rfl⟩ F₁ N₁
    exact done u h tk F₁ N₁
theorem loop_rng {n : Nat} {r : Addr} {tt uu vv : Tok} {m₀ : Str → Option Value} {news : List (Addr × Obj)} (vars : List Str)
    (hh : A.handled = none) (hr : IsRange s.heap r 0 (n : Int) 1 tt uu vv) (hk : n ≤ 1000)
    (F : Fr h₀ env.locals s.heap m₀) (N : News h₀ env.locals s.heap news)
    (turn : ∀ (i : Nat) (t : Tok) u h tk own (Q' : Flow → Shared → Prop), i < n → Fr h₀ env.locals h (fun z => if z = x then some (.int (i : Int) t) else Over vars m₀ u z) → News h₀ env.locals h (news ++ own) →
      (∀ u' h' tk', Fr h₀ env.locals h' (Over vars m₀ u') → News h₀ env.locals h' (news ++ own) → Q' .next { s with heap := h', toks := tk' }) →
      wpAny (model prog w) A (execs body env) Q' E { s with heap := h, toks := tk })
    (done : ∀ u h tk, Fr h₀ env.locals h (Over vars m₀ u) → News h₀ env.locals h news → Q .next { s with heap := h, toks := tk }) :
    wpAny (model prog w) A (pyIter (.ref r)) (fun it s₂ => LoopAtV prog w A h₀ env x body Q E it s₂) E s := by
  refine loop_range (n := n) vars hh hr (small_one (by decide) (by decide) (by omega) (by omega)) (by exact rangeSize_nat _ _) F N (fun i t u h tk own hi ho F₁ N₁ => ?_) done
  refine turn i t u h tk own _ hi F₁ N₁ fun u' h' tk' F' N' => ?_
  show InvEndN _ _ _ _ _ _ _
  refine ⟨h', tk', _, _, news, rfl, F', N', fun q hq => List.mem_append.mpr (.inl hq), fun q hq => List.mem_append.mpr (.inr hq), rfl, rfl, u', rfl⟩
theorem loop_cut {k : Nat} {r : Addr} {tt uu vv : Tok} {m₀ : Str → Option Value} {news : List (Addr × Obj)} (vars : List Str)
    (hh : A.handled = none) (hr : IsRange s.heap r 0 ((k : Int) + 1) 1 tt uu vv) (hk : k ≤ 900)
    (F : Fr h₀ env.locals s.heap m₀) (N : News h₀ env.locals s.heap news)
    (turn : ∀ (i : Nat) (t : Tok) u h tk own (Q' : Flow → Shared → Prop), i ≤ k → Fr h₀ env.locals h (fun z => if z = x then some (.int (i : Int) t) else Over vars m₀ u z) → News h₀ env.locals h (news ++ own) →
      (∀ u' h' tk', Fr h₀ env.locals h' (Over vars m₀ u') → News h₀ env.locals h' (news ++ own) → Q' .next { s with heap := h', toks := tk' }) →
      wpAny (model prog w) A (execs body env) Q' E { s with heap := h, toks := tk })
    (done : ∀ u h tk, Fr h₀ env.locals h (Over vars m₀ u) → News h₀ env.locals h news → Q .next { s with heap := h, toks := tk }) :
    wpAny (model prog w) A (pyIter (.ref r)) (fun it s₂ => LoopAtV prog w A h₀ env x body Q E it s₂) E s :=
  loop_rng (n := k + 1) vars hh hr (by omega) F N (fun i t u h tk own Q' hi => turn i t u h tk own Q' (by omega)) done
end
end Mine
namespace Mine
open PySem PySem.W PyProof.Rows
theorem news_more {g h : Heap} {L : Addr} {ns : List (Addr × Obj)} {p : Addr × Obj} (N : News g L h ns) (hp : p ∈ ns) : News g L h (p :: ns) := fun q hq => by
  rcases List.mem_cons.mp hq with e | e
  · subst e; exact N _ hp
  · exact N _ e
section
variable {prog : Program} {w : World} {A : Around} {E : Value → Shared → Prop} {s : Shared} {env : Env} {h₀ : Heap} {x : Str} {body : List Stmt} {Q : Flow → Shared → Prop}
theorem over_one (x : Str) (m₀ u : Str → Option Value) : Over [x] m₀ u = fun z => if z = x then u x else m₀ z := by
  funext z; unfold Over
  by_cases h : z = x
  · subst h; simp
  · simp [h]
theorem loop_one {l : Addr} {ys : List (Str × Tok)} {nn : Nat} {m₀ : Str → Option Value} {news : List (Addr × Obj)}
    (hh : A.handled = none) (hl : (l, listOf (strValues ys).toArray nn) ∈ news) (F : Fr h₀ env.locals s.heap m₀) (N : News h₀ env.locals s.heap news)
    (turn : ∀ (y : Str) (t : Tok) h tk own (Q' : Flow → Shared → Prop), (y, t) ∈ ys → Fr h₀ env.locals h (fun z => if z = x then some (.str y t) else m₀ z) → News h₀ env.locals h (news ++ own) →
      (∀ h' tk', Fr h₀ env.locals h' (fun z => if z = x then some (.str y t) else m₀ z) → News h₀ env.locals h' (news ++ own) → Q' .next { s with heap := h', toks := tk' }) →
      wpAny (model prog w) A (execs body env) Q' E { s with heap := h, toks := tk })
    (done : ∀ (u : Option Value) h tk, Fr h₀ env.locals h (fun z => if z = x then u else m₀ z) → News h₀ env.locals h news → Q .next { s with heap := h, toks := tk }) :
    wpAny (model prog w) A (pyIter (.ref l)) (fun it s₂ => LoopAtV prog w A h₀ env x body Q E it s₂) E s := by
  refine loop_strs [x] hh hl F N ?_ ?_
  · intro y t u h tk own Q' hm F₁ N₁ hq
    have e : (fun z => if z = x then some (Value.str y t) else Over [x] m₀ u z) = fun z => if z = x then some (Value.str y t) else m₀ z := by
      funext z; by_cases hz : z = x
      · rw [if_pos hz, if_pos hz]
      · rw [if_neg hz, if_neg hz, over_one]; exact if_neg hz
    rw [e] at F₁
    refine turn y t h tk own Q' hm F₁ N₁ fun h' tk' F' N' => hq (fun z => if z = x then some (Value.str y t) else m₀ z) h' tk' ?_ N'
    have e2 : Over [x] m₀ (fun z => if z = x then some (Value.str y t) else m₀ z) = fun z => if z = x then some (Value.str y t) else m₀ z := by
      rw [over_one]; funext z; simp
    rw [e2]; exact F'
  · intro u h tk F₁ N₁
    rw [over_one] at F₁
    exact done _ h tk F₁ N₁
theorem loop_four {D : Addr} {y1 y2 y3 y4 : Str} {t1 t2 t3 t4 : Tok} {nn : Nat} {m₀ : Str → Option Value} {news : List (Addr × Obj)} (P : List Nat → Prop)
    (hh : A.handled = none) (hl : (D, listOf [.str y1 t1, .str y2 t2, .str y3 t3, .str y4 t4].toArray nn) ∈ news) (F : Fr h₀ env.locals s.heap m₀) (N : News h₀ env.locals s.heap news)
    (b1 : ∃ b, y1 = S b ∧ P b) (b2 : ∃ b, y2 = S b ∧ P b) (b3 : ∃ b, y3 = S b ∧ P b) (b4 : ∃ b, y4 = S b ∧ P b)
    (turn : ∀ (b : List Nat) (t : Tok) h tk own (Q' : Flow → Shared → Prop), P b → Fr h₀ env.locals h (fun z => if z = x then some (.str (S b) t) else m₀ z) → News h₀ env.locals h (news ++ own) →
      (∀ h' tk', Fr h₀ env.locals h' (fun z => if z = x then some (.str (S b) t) else m₀ z) → News h₀ env.locals h' (news ++ own) → Q' .next { s with heap := h', toks := tk' }) →
      wpAny (model prog w) A (execs body env) Q' E { s with heap := h, toks := tk })
    (done : ∀ (u : Option Value) h tk, Fr h₀ env.locals h (fun z => if z = x then u else m₀ z) → News h₀ env.locals h news → Q .next { s with heap := h, toks := tk }) :
    wpAny (model prog w) A (pyIter (.ref D)) (fun it s₂ => LoopAtV prog w A h₀ env x body Q E it s₂) E s := by
  refine loop_one (ys := [(y1, t1), (y2, t2), (y3, t3), (y4, t4)]) hh hl F N ?_ done
  intro y t h tk own Q' hm F₁ N₁ hq
  have hy : ∃ b, y = S b ∧ P b := by
    simp only [List.mem_cons, Prod.mk.injEq, List.not_mem_nil, or_false] at hm
    rcases hm with ⟨rfl, _⟩ | ⟨rfl, _⟩ | ⟨rfl, _⟩ | ⟨rfl, _⟩ <;> assumption
  obtain ⟨b, rfl, hb⟩ := hy
  exact turn b t h tk own Q' hb F₁ N₁ hq
end
end Mine

end
section
open PySem PySem.W PyProof.Rows
namespace Mine
open PySem PySem.W PyProof.Rows
theorem L0 : Str.ofString "" = S [] := rfl
theorem L46 : Str.ofString "." = S [46] := rfl
theorem L64 : Str.ofString "@" = S [64] := rfl
theorem L35 : Str.ofString "#" = S [35] := rfl
theorem Leuro : Str.ofString "@euro" = S [64, 101, 117, 114, 111] := rfl
section
variable {prog : Program} {w : World} {A : Around} {E : Value → Shared → Prop} {s : Shared} {x y : Str} {a b : List Nat} {t u : Tok} {Q : Value → Shared → Prop}
theorem add_SS (hx : x = S a) (hy : y = S b) (la : a.length ≤ 1000000) (lb : b.length ≤ 1000000) (h : ∀ t' tk, Q (.str (S (a ++ b)) t') { s with toks := tk }) : wpAny (model prog w) A (binaryOp .Add (.str x t) (.str y u)) Q E s := by
  subst hx hy
  refine add_S (S_le (Nat.le_trans la (by decide))) (S_le (Nat.le_trans lb (by decide))) fun t' tk => ?_
  rw [S_app]; exact h t' tk
end
end Mine

end
section
open PySem PySem.W PyProof.Rows
namespace Mine
open PySem PySem.W PyProof.Rows
section
variable {prog : Program} {w : World} {A : Around} {E : Value → Shared → Prop} {s : Shared} {h₀ : Heap} {L D : Addr} {m : Str → Option Value} {news : List (Addr × Obj)} {fs : List (Str × Tok)} {n : Nat} {y z : Str} {t u tz : Tok}
theorem app_D {Q : Value → Shared → Prop} (F : Fr h₀ L s.heap m) (N : News h₀ L s.heap ((D, listOf (strValues fs).toArray n) :: news)) (hoff : ∀ p ∈ news, p.1 ≠ D) (hsz : fs.length ≤ 10000)
    (h : ∀ h' n', Fr h₀ L h' m → News h₀ L h' ((D, listOf (strValues (fs ++ [(y, t)])).toArray n') :: news) → Q .none { s with heap := h' }) : wpAny (model prog w) A (call (.builtin "list.append") [.ref D, .str y t]) Q E s := by
  refine append_K F N (.head hoff) (fun h' F' N' => ?_) (by rw [List.size_toArray]; unfold strValues sizeLine; rw [List.length_map]; omega)
  refine h h' (n + 1) F' ?_
  have e : (strValues (fs ++ [(y, t)])).toArray = (strValues fs).toArray.push (.str y t) := by rw [sv_snoc]; simp
  rw [e]; exact N'
theorem get_last {value slice : PySem.Expr} {Q : Value → Shared → Prop} (N : News h₀ L s.heap ((D, listOf (strValues (fs ++ [(y, t)])).toArray n) :: news)) (h : Q (.str y t) s)
    (hs : subscripted slice false (.ref D) (.int (-1) u) = operate [.ref D, .int (-1) u] (getItem (.ref D) (.int (-1) u)) := by with_unfolding_all rfl) (hg : ∀ r, letTemporaryGo value (.ref D) r = pure () := by intro _; with_unfolding_all rfl) (hsz : fs.length ≤ 10000) :
    wpAny (model prog w) A (subscriptTail value slice (.ref D) (.int (-1) u)) Q E s := by
  refine kim_back N (.head _) rfl rfl (by decide) ?_ (by decide) (x := .str y t) ?_ h hs hg
  · unfold strValues; simp; omega
  · rw [sv_snoc]
    have e : ((-1 : Int) + ((strValues fs ++ [Value.str y t]).length : Int)).toNat = (strValues fs).length := by
      rw [List.length_append]; simp; omega
    rw [e]; simp
theorem getI_last {Q : Value → Shared → Prop} (N : News h₀ L s.heap ((D, listOf (strValues (fs ++ [(y, t)])).toArray n) :: news)) (h : Q (.str y t) s) :
    wpAny (model prog w) A (getItem (.ref D) (.int (-1) u)) Q E s := by
  have hl : s.heap.IsList D (strValues (fs ++ [(y, t)])).toArray := ⟨_, (N _ (.head _)).1, rfl, n, rfl⟩
  have e : ((-1 : Int) + ((strValues (fs ++ [(y, t)])).toArray.size : Int)).toNat = (strValues fs).length := by
    rw [List.size_toArray, sv_snoc, List.length_append]; simp; omega
  refine wpAny_getItem_list_neg hl (by decide) ?_ (by decide) ?_ h
  · rw [List.size_toArray, sv_snoc, List.length_append]; simp; omega
  · rw [e]; rw [sv_snoc]; simp
theorem set_last {Q : Unit → Shared → Prop} (F : Fr h₀ L s.heap m) (N : News h₀ L s.heap ((D, listOf (strValues (fs ++ [(y, t)])).toArray n) :: news)) (hoff : ∀ p ∈ news, p.1 ≠ D)
    (h : ∀ h', Fr h₀ L h' m → News h₀ L h' ((D, listOf (strValues (fs ++ [(z, tz)])).toArray n) :: news) → Q () { s with heap := h' }) : wpAny (model prog w) A (setItem (.ref D) (.int (-1) u) (.str z tz)) Q E s := by
  have zz := N _ (.head _)
  have e0 : (strValues (fs ++ [(y, t)])).toArray.size = (strValues fs).length + 1 := by rw [List.size_toArray, sv_snoc, List.length_append]; rfl
  have e : ((-1 : Int) + ((strValues (fs ++ [(y, t)])).toArray.size : Int)).toNat = (strValues fs).length := by rw [e0]; omega
  refine ki_setBack zz.1 (by decide) (by rw [e0]; omega) (by decide) (h _ (F.change (Heap.SameBut.update ..) zz.2.1 zz.2.2) (ki_turn (pre := []) _ N (fun _ h => (nomatch h)) hoff ?_ ?_))
  · rw [e, sv_snoc, sv_snoc]
    apply Array.toList_inj.mp
    simp
  · simp [strValues]
end
end Mine
namespace Mine
open PySem PySem.W PyProof.Rows
theorem iadd_SS {prog : Program} {w : World} {A : Around} {E : Value → Shared → Prop} {s : Shared} {x y : Str} {a b : List Nat} {t u : Tok} {Q : Value → Shared → Prop} (hx : x = S a) (hy : y = S b) (la : a.length ≤ 1000000) (lb : b.length ≤ 1000000) (h : ∀ t' tk, Q (.str (S (a ++ b)) t') { s with toks := tk }) : wpAny (model prog w) A (inplaceOp .Add (.str x t) (.str y u)) Q E s := by
  subst hx hy
  refine iadd_S (S_le (Nat.le_trans la (by decide))) (S_le (Nat.le_trans lb (by decide))) fun t' tk => ?_
  rw [S_app]; exact h t' tk
end Mine

end
section
open PySem PySem.W PyProof.Rows
namespace Mine
open PySem PySem.W PyProof.Rows
section
variable {prog : Program} {w : World} {A : Around} {E : Value → Shared → Prop} {s : Shared} {env : Env} {h₀ : Heap} {x : Str} {body : List Stmt} {Q : Flow → Shared → Prop}
theorem loop_signs {xl : List Nat} {tx : Tok} {m₀ : Str → Option Value} {news : List (Addr × Obj)} (J : List Nat → (Str → Option Value) → List (Addr × Obj) → Prop)
    (hh : A.handled = none) (F : Fr h₀ env.locals s.heap m₀) (N : News h₀ env.locals s.heap news) (hj : J [] m₀ news)
    (turn : ∀ pre n t m₁ nx h tk own (Q' : Flow → Shared → Prop), (∃ post, xl = pre ++ n :: post) → nx.map (·.1) = news.map (·.1) → OwnOff own (news.map (·.1)) → J pre m₁ nx → Fr h₀ env.locals h (fun y => if y = x then some (.str (S [n]) t) else m₁ y) → News h₀ env.locals h (nx ++ own) →
      (∀ m' nx' h' tk', J (pre ++ [n]) m' nx' → nx'.map (·.1) = news.map (·.1) → Fr h₀ env.locals h' m' → News h₀ env.locals h' (nx' ++ own) → Q' .next { s with heap := h', toks := tk' }) →
      wpAny (model prog w) A (execs body env) Q' E { s with heap := h, toks := tk })
    (done : ∀ m' nx h tk, J xl m' nx → Fr h₀ env.locals h m' → News h₀ env.locals h nx → Q .next { s with heap := h, toks := tk }) :
    wpAny (model prog w) A (pyIter (.str (S xl) tx)) (fun it s₂ => LoopAtV prog w A h₀ env x body Q E it s₂) E s := by
  refine wpAny_pyIter_str fun o St hW hst => ?_
  have W := hW A hh
  refine loop_invN (fun i m nx => J (xl.take i) m nx) W ?_ ?_ ?_ ?_ hst (F.push _) (fun p hp => ⟨Heap.get?_push_of_some _ (N p hp).1, (N p hp).2⟩) (by simpa using hj) ?_ ?_
  · intro hm
    exact absurd F.ns.lt ((List.mem_singleton.mp hm) ▸ Nat.lt_irrefl _)
  · intro b' hb
    rw [List.mem_singleton.mp hb]
    exact next_is_new F
  · intro p hp hI
    exact absurd (Heap.lt_size (N p hp).1) ((List.mem_singleton.mp hI) ▸ Nat.lt_irrefl _)
  · intro p hp hI
    exact absurd (Heap.lt_size (N p hp).1) ((List.mem_singleton.mp hI) ▸ Nat.lt_irrefl _)
  · rintro i v m₁ nx h tk own hi ⟨n, u, hn, rfl⟩ ha hoff hJ F₁ N₁
    have hn' : xl[i]? = some n := by simpa [S] using hn
    have hs : xl.take (i + 1) = xl.take i ++ [n] := by simp [List.take_add_one, hn']
    have e : xl = xl.take i ++ n :: xl.drop (i + 1) := by
      have ht := List.take_append_drop (i + 1) xl
      rw [hs, List.append_assoc] at ht
      exact ht.symm
    refine turn (xl.take i) n u m₁ nx h tk own _ ⟨_, e⟩ ha hoff hJ F₁ N₁ fun m' nx' h' tk' hJ' ha' F' N' => ?_
    show InvEndN _ _ _ _ _ _ _
    refine ⟨h', tk', m', _, nx', rfl, F', N', fun q hq => List.mem_append.mpr (.inl hq), fun q hq => List.mem_append.mpr (.inr hq), ha', ?_⟩
    show J (xl.take (i + 1)) m' nx'
    rw [hs]; exact hJ'
  · rintro m₁ nx h tk hJ F₁ N₁
    have hl : (S xl).cps.size = xl.length := by simp [S]
    rw [hl, List.take_length] at hJ
    exact done m₁ nx h tk hJ F₁ N₁
end
theorem fld_snoc_c (c : Nat) : ∀ l : List Nat, fld c (l ++ [c]) = fld c l ++ [[]]
  | [] => by show (if c = c then [] :: [[]] else [[c]]) = _; rw [if_pos rfl]; rfl
  | a :: r => by
    have ih := fld_snoc_c c r
    show (if a = c then [] :: fld c (r ++ [c]) else match fld c (r ++ [c]) with | p :: ps => (a :: p) :: ps | [] => [[a]]) = (if a = c then [] :: fld c r else match fld c r with | p :: ps => (a :: p) :: ps | [] => [[a]]) ++ [[]]
    rw [ih]
    by_cases ha : a = c
    · rw [if_pos ha, if_pos ha]; rfl
    · rw [if_neg ha, if_neg ha]
      cases hf : fld c r with
      | nil => exact absurd hf (fld_ne c r)
      | cons p ps => rfl
theorem fld_snoc_n {c n : Nat} (hn : n ≠ c) : ∀ (l : List Nat) (gs : List (List Nat)) (y : List Nat), fld c l = gs ++ [y] → fld c (l ++ [n]) = gs ++ [y ++ [n]]
  | [], gs, y, h => by
    have h1 : gs = [] ∧ y = [] := by
      cases gs with
      | nil => exact ⟨rfl, by simpa [fld] using h.symm⟩
      | cons g r => simp [fld] at h
    obtain ⟨rfl, rfl⟩ := h1
    show (if n = c then [] :: [[]] else [[n]]) = _
    rw [if_neg hn]; rfl
  | a :: r, gs, y, h => by
    show (if a = c then [] :: fld c (r ++ [n]) else match fld c (r ++ [n]) with | p :: ps => (a :: p) :: ps | [] => [[a]]) = _
    have h' : (if a = c then [] :: fld c r else match fld c r with | p :: ps => (a :: p) :: ps | [] => [[a]]) = gs ++ [y] := h
    by_cases ha : a = c
    · rw [if_pos ha] at h' ⊢
      cases gs with
      | nil =>
        have : fld c r = [] := by simpa using (List.cons.inj h').2
        exact absurd this (fld_ne c r)
      | cons g gs =>
        have e := List.cons.inj h'
        rw [← e.1, fld_snoc_n hn r gs y e.2]; rfl
    · rw [if_neg ha] at h' ⊢
      cases hf : fld c r with
      | nil => exact absurd hf (fld_ne c r)
      | cons p ps =>
        rw [hf] at h'
        cases gs with
        | nil =>
          have e := List.cons.inj h'
          have e2 : ps = [] := e.2
          subst e2
          rw [fld_snoc_n hn r [] p hf, ← e.1]; rfl
        | cons g gs =>
          have e := List.cons.inj h'
          rw [fld_snoc_n hn r (p :: gs) y (by rw [hf, e.2]; rfl), ← e.1]; rfl
theorem mem_snoc {c n : Nat} {l : List Nat} : c ∈ l ++ [n] ↔ c ∈ l ∨ n = c := by simp [eq_comm]
theorem pre_snoc_in {c n : Nat} {l : List Nat} (h : c ∈ l) : pre c (l ++ [n]) = pre c l := by
  conv => lhs; rw [← pre_post c l h]
  rw [List.append_assoc, List.cons_append, pre_app c _ _ (pre_free c l)]
theorem post_snoc_in {c n : Nat} {l : List Nat} (h : c ∈ l) : post c (l ++ [n]) = post c l ++ [n] := by
  conv => lhs; rw [← pre_post c l h]
  rw [List.append_assoc, List.cons_append, post_app c _ _ (pre_free c l)]
theorem pre_snoc_at {c : Nat} {l : List Nat} (h : c ∉ l) : pre c (l ++ [c]) = l := pre_app c l [] h
theorem post_snoc_at {c : Nat} {l : List Nat} (h : c ∉ l) : post c (l ++ [c]) = [] := post_app c l [] h
end Mine

end
namespace Mine
open PySem PySem.W PyProof.Rows
section
local macro_rules | `(tactic| walk_at "compareOp Eq str str") => `(tactic| (refine' eq_known ?h1 ?_; (case h1 => with_reducible assumption)))
local macro_rules | `(tactic| walk_at "call builtin:list.append") => `(tactic| ((with_reducible rename Fr _ _ _ _ => F'); (with_reducible rename News _ _ _ _ => N'); (refine' app_D F' N' ?h1 ?h2 ?_; (case h1 => assumption); (case h2 => omega)); intro h' n' F' N'))
local macro_rules | `(tactic| walk_at "subscriptTail") => `(tactic| ((with_reducible show wpAny _ _ (subscriptTail _ _ (Value.ref _) (Value.int _ _)) _ _ _); (with_reducible rename News _ _ _ _ => N'); k_dflt (refine' get_last N' ?_ ?h1 ?h2 ?h3; (case h1 => with_unfolding_all rfl); (case h2 => (intro _; with_unfolding_all rfl)); (case h3 => omega))))
local macro_rules | `(tactic| walk_at "getItem ref int") => `(tactic| ((with_reducible show wpAny _ _ (getItem (Value.ref _) (Value.int _ _)) _ _ _); (with_reducible rename News _ _ _ _ => N'); k_dflt (refine' getI_last N' ?_)))
local macro_rules | `(tactic| walk_at "setItem ref int") => `(tactic| ((with_reducible show wpAny _ _ (setItem (Value.ref _) (Value.int _ _) (Value.str _ _)) _ _ _); (with_reducible rename Fr _ _ _ _ => F'); (with_reducible rename News _ _ _ _ => N'); k_dflt (refine' set_last F' N' ?h1 ?_; (case h1 => assumption)); intro h' F' N'))
local macro_rules | `(tactic| walk_at "inplaceOp Add str str") => `(tactic| (k_dflt (refine' iadd_SS ?h1 ?h2 ?h3 ?h4 ?_; (case h1 => with_reducible exact rfl); (case h2 => with_reducible exact rfl); (case h3 => omega); (case h4 => (simp only [List.length_cons, List.length_nil]; omega))); intro _ _))
abbrev wkE (L fa : Addr) (cd : Value) : Env := envOf (Str.ofString "_law_walk") (fdS 12) L fa cd
def signB : List Stmt := match (fdB 12).getD 2 noStm with | .For _ _ b _ _ => b | _ => []
set_option maxRecDepth 100000 in
set_option maxHeartbeats 8000000 in
theorem wk_mod (w : World) (A : Around) (hh : A.handled = none) (n : Nat) (ts : Tok) (D : Addr) (fs : List (Str × Tok)) (pm : List Nat) (tm : Tok) (lm : pm.length ≤ 100000)
    (g : Heap) (L fa : Addr) (cd : Value) (m : Str → Option Value) (nn : Nat) (news : List (Addr × Obj)) (s : Shared) (Q : Flow → Shared → Prop)
    (X : (K w.params).In g) (hoff : ∀ p ∈ news, p.1 ≠ D) (hfs : fs.length ≤ 10000)
    (F : Fr g L s.heap (fun y => if y = Str.ofString "sign" then some (.str (S [n]) ts) else if y = Str.ofString "modifier" then some (.str (S pm) tm) else if y = Str.ofString "fields" then some (.ref D) else m y)) (N : News g L s.heap ((D, listOf (strValues fs).toArray nn) :: news))
    (hret : ∀ h' tk' (tm' : Tok), Fr g L h' (fun y => if y = Str.ofString "modifier" then some (.str (S (pm ++ [n])) tm') else if y = Str.ofString "sign" then some (.str (S [n]) ts) else if y = Str.ofString "modifier" then some (.str (S pm) tm) else if y = Str.ofString "fields" then some (.ref D) else m y) → News g L h' ((D, listOf (strValues fs).toArray nn) :: news) → Q .next { s with heap := h', toks := tk' }) :
    wpAny (model rw'.row.prog w) A (execs signB (wkE L fa cd)) Q (fun _ _ => False) s := by
  revert X; k_fill; intro X
  k_steps
  all_goals (exact hret _ _ _ (by with_reducible assumption) (by with_reducible assumption))
set_option maxRecDepth 100000 in
set_option maxHeartbeats 8000000 in
theorem wk_at (w : World) (A : Around) (hh : A.handled = none) (n : Nat) (ts : Tok) (D : Addr) (fs : List (Str × Tok))  (h1 : (S [n] == Str.ofString "@") = true)
    (g : Heap) (L fa : Addr) (cd : Value) (m : Str → Option Value) (nn : Nat) (news : List (Addr × Obj)) (s : Shared) (Q : Flow → Shared → Prop)
    (X : (K w.params).In g) (hoff : ∀ p ∈ news, p.1 ≠ D) (hfs : fs.length ≤ 10000)
    (F : Fr g L s.heap (fun y => if y = Str.ofString "sign" then some (.str (S [n]) ts) else if y = Str.ofString "modifier" then some (.none) else if y = Str.ofString "fields" then some (.ref D) else m y)) (N : News g L s.heap ((D, listOf (strValues fs).toArray nn) :: news))
    (hret : ∀ h' tk' (tm' : Tok), Fr g L h' (fun y => if y = Str.ofString "modifier" then some (.str (Str.ofString "") tm') else if y = Str.ofString "sign" then some (.str (S [n]) ts) else if y = Str.ofString "modifier" then some (.none) else if y = Str.ofString "fields" then some (.ref D) else m y) → News g L h' ((D, listOf (strValues fs).toArray nn) :: news) → Q .next { s with heap := h', toks := tk' }) :
    wpAny (model rw'.row.prog w) A (execs signB (wkE L fa cd)) Q (fun _ _ => False) s := by
  revert X; k_fill; intro X
  k_steps
  all_goals (exact hret _ _ _ (by with_reducible assumption) (by with_reducible assumption))
set_option maxRecDepth 100000 in
set_option maxHeartbeats 8000000 in
theorem wk_dot (w : World) (A : Around) (hh : A.handled = none) (n : Nat) (ts : Tok) (D : Addr) (fs : List (Str × Tok))  (h1 : (S [n] == Str.ofString "@") = false) (h2 : (S [n] == Str.ofString ".") = true)
    (g : Heap) (L fa : Addr) (cd : Value) (m : Str → Option Value) (nn : Nat) (news : List (Addr × Obj)) (s : Shared) (Q : Flow → Shared → Prop)
    (X : (K w.params).In g) (hoff : ∀ p ∈ news, p.1 ≠ D) (hfs : fs.length ≤ 10000)
    (F : Fr g L s.heap (fun y => if y = Str.ofString "sign" then some (.str (S [n]) ts) else if y = Str.ofString "modifier" then some (.none) else if y = Str.ofString "fields" then some (.ref D) else m y)) (N : News g L s.heap ((D, listOf (strValues fs).toArray nn) :: news))
    (hret : ∀ h' tk' (nn' : Nat) (tf' : Tok), Fr g L h' (fun y => if y = Str.ofString "sign" then some (.str (S [n]) ts) else if y = Str.ofString "modifier" then some (.none) else if y = Str.ofString "fields" then some (.ref D) else m y) → News g L h' ((D, listOf (strValues (fs ++ [(Str.ofString "", tf')])).toArray nn') :: news) → Q .next { s with heap := h', toks := tk' }) :
    wpAny (model rw'.row.prog w) A (execs signB (wkE L fa cd)) Q (fun _ _ => False) s := by
  revert X; k_fill; intro X
  k_steps
  all_goals (exact hret _ _ _ _ (by with_reducible assumption) (by with_reducible assumption))
set_option maxRecDepth 100000 in
set_option maxHeartbeats 8000000 in
theorem wk_put (w : World) (A : Around) (hh : A.handled = none) (n : Nat) (ts : Tok) (D : Addr) (fs : List (Str × Tok)) (y : List Nat) (ty : Tok) (h1 : (S [n] == Str.ofString "@") = false) (h2 : (S [n] == Str.ofString ".") = false) (ly : y.length ≤ 100000)
    (g : Heap) (L fa : Addr) (cd : Value) (m : Str → Option Value) (nn : Nat) (news : List (Addr × Obj)) (s : Shared) (Q : Flow → Shared → Prop)
    (X : (K w.params).In g) (hoff : ∀ p ∈ news, p.1 ≠ D) (hfs : fs.length ≤ 10000)
    (F : Fr g L s.heap (fun y => if y = Str.ofString "sign" then some (.str (S [n]) ts) else if y = Str.ofString "modifier" then some (.none) else if y = Str.ofString "fields" then some (.ref D) else m y)) (N : News g L s.heap ((D, listOf (strValues (fs ++ [(S y, ty)])).toArray nn) :: news))
    (hret : ∀ h' tk' (nn' : Nat) (tf' : Tok), Fr g L h' (fun y => if y = Str.ofString "sign" then some (.str (S [n]) ts) else if y = Str.ofString "modifier" then some (.none) else if y = Str.ofString "fields" then some (.ref D) else m y) → News g L h' ((D, listOf (strValues (fs ++ [(S (y ++ [n]), tf')])).toArray nn') :: news) → Q .next { s with heap := h', toks := tk' }) :
    wpAny (model rw'.row.prog w) A (execs signB (wkE L fa cd)) Q (fun _ _ => False) s := by
  revert X; k_fill; intro X
  k_steps
  all_goals (exact hret _ _ _ _ (by with_reducible assumption) (by with_reducible assumption))

end
section
structure ModIs (l : List Nat) (mod : Value) : Prop where
  out : (64 ∉ l ∧ mod = .none) ∨ (64 ∈ l ∧ ∃ t, mod = .str (S (post 64 l)) t)
structure FldsAre (l : List Nat) (fs : List (Str × Tok)) : Prop where
  out : fs.map (·.1) = (fld 46 (pre 64 l)).map S
theorem FldsAre.len {l : List Nat} {fs : List (Str × Tok)} (h : FldsAre l fs) : fs.length ≤ l.length + 1 := by
  have e := congrArg List.length h.out
  simp only [List.length_map] at e
  have h1 := fld_len 46 (pre 64 l)
  have h2 := pre_length 64 l
  omega
theorem one_ne {a b : Nat} (h : a ≠ b) : (S [a] == S [b]) = false := by
  apply beq_false_of_ne
  intro e; exact h (List.cons.inj (S_inj e)).1
theorem one_eq (a : Nat) : (S [a] == S [a]) = true := beq_self_eq_true _
theorem snoc_of {α : Type} : ∀ (l : List α), l ≠ [] → ∃ r a, l = r ++ [a]
  | [], h => absurd rfl h
  | [a], _ => ⟨[], a, rfl⟩
  | a :: b :: r, _ => let ⟨q, c, e⟩ := snoc_of (b :: r) (by simp); ⟨a :: q, c, by rw [e]; rfl⟩
theorem FldsAre.last {l : List Nat} {fs : List (Str × Tok)} (h : FldsAre l fs) : ∃ gs y fs' ty, fld 46 (pre 64 l) = gs ++ [y] ∧ fs = fs' ++ [(S y, ty)] ∧ fs'.map (·.1) = gs.map S := by
  obtain ⟨gs, y, e⟩ := snoc_of _ (fld_ne 46 (pre 64 l))
  have hne : fs ≠ [] := by
    intro q
    have := congrArg List.length h.out
    rw [q, e] at this; simp at this
  obtain ⟨fs', p, rfl⟩ := snoc_of fs hne
  have h1 := h.out
  rw [e, List.map_append, List.map_append] at h1
  obtain ⟨h2, h3⟩ := List.append_inj' h1 rfl
  obtain ⟨z, ty⟩ := p
  have h4 : z = S y := (List.cons.inj h3).1
  subst h4
  exact ⟨gs, y, fs', ty, e, rfl, h2⟩
theorem sign_map {M m₀ : Str → Option Value} {D : Addr} {v mod : Value} {sv : Option Value} (hf : m₀ (Str.ofString "fields") = some (.ref D)) :
    (fun y => if y = Str.ofString "sign" then some v else (fun y => if y = Str.ofString "sign" then sv else if y = Str.ofString "modifier" then some mod else m₀ y) y) = fun y => if y = Str.ofString "sign" then some v else if y = Str.ofString "modifier" then some mod else if y = Str.ofString "fields" then some (.ref D) else m₀ y := by
  funext y
  by_cases a : y = Str.ofString "sign"
  · rw [if_pos a, if_pos a]
  · rw [if_neg a, if_neg a]
    dsimp only
    rw [if_neg a]
    by_cases b : y = Str.ofString "modifier"
    · rw [if_pos b, if_pos b]
    · rw [if_neg b, if_neg b]
      by_cases c : y = Str.ofString "fields"
      · rw [if_pos c, c, hf]
      · rw [if_neg c]
theorem sign_back {m₀ : Str → Option Value} {D : Addr} {v mod : Value} (hf : m₀ (Str.ofString "fields") = some (.ref D)) :
    (fun y => if y = Str.ofString "sign" then some v else if y = Str.ofString "modifier" then some mod else if y = Str.ofString "fields" then some (.ref D) else m₀ y) = fun y => if y = Str.ofString "sign" then some v else if y = Str.ofString "modifier" then some mod else m₀ y := by
  funext y
  by_cases a : y = Str.ofString "sign"
  · rw [if_pos a, if_pos a]
  · rw [if_neg a, if_neg a]
    by_cases b : y = Str.ofString "modifier"
    · rw [if_pos b, if_pos b]
    · rw [if_neg b, if_neg b]
      by_cases c : y = Str.ofString "fields"
      · rw [if_pos c, c, hf]
      · rw [if_neg c]
theorem sign_mod {m₀ : Str → Option Value} {D : Addr} {v mod mod' : Value} (hf : m₀ (Str.ofString "fields") = some (.ref D)) :
    (fun y => if y = Str.ofString "modifier" then some mod' else if y = Str.ofString "sign" then some v else if y = Str.ofString "modifier" then some mod else if y = Str.ofString "fields" then some (.ref D) else m₀ y) = fun y => if y = Str.ofString "sign" then some v else if y = Str.ofString "modifier" then some mod' else m₀ y := by
  funext y
  by_cases b : y = Str.ofString "modifier"
  · subst b
    rw [if_pos rfl, if_neg (by decide +kernel), if_pos rfl]
  · rw [if_neg b, if_neg b, if_neg b]
    by_cases a : y = Str.ofString "sign"
    · rw [if_pos a, if_pos a]
    · rw [if_neg a, if_neg a]
      by_cases c : y = Str.ofString "fields"
      · rw [if_pos c, c, hf]
      · rw [if_neg c]
theorem sign_start {m₀ : Str → Option Value} (hm : m₀ (Str.ofString "modifier") = some .none) :
    m₀ = fun y => if y = Str.ofString "sign" then m₀ (Str.ofString "sign") else if y = Str.ofString "modifier" then some .none else m₀ y := by
  funext y
  by_cases a : y = Str.ofString "sign"
  · rw [if_pos a, a]
  · rw [if_neg a]
    by_cases b : y = Str.ofString "modifier"
    · rw [if_pos b, b, hm]
    · rw [if_neg b]
set_option maxRecDepth 100000 in
theorem walk_loop (w : World) {A : Around} (hh : A.handled = none) {g : Heap} {L fa : Addr} {cd : Value} {l : List Nat} {D : Addr} {k : Nat} {t0 tx : Tok} {m₀ : Str → Option Value} {rest : List (Addr × Obj)} {s : Shared} {Q : Flow → Shared → Prop} {E : Value → Shared → Prop}
    (hl : l.length ≤ 5000) (X : (K w.params).In g) (hoff : ∀ p ∈ rest, p.1 ≠ D) (hf : m₀ (Str.ofString "fields") = some (.ref D)) (hm : m₀ (Str.ofString "modifier") = some .none)
    (F : Fr g L s.heap m₀) (N : News g L s.heap ((D, listOf (strValues [(Str.ofString "", t0)]).toArray k) :: rest))
    (done : ∀ fs k' sv mod h tk, FldsAre l fs → ModIs l mod → Fr g L h (fun y => if y = Str.ofString "sign" then sv else if y = Str.ofString "modifier" then some mod else m₀ y) → News g L h ((D, listOf (strValues fs).toArray k') :: rest) → Q .next { s with heap := h, toks := tk }) :
    wpAny (model rw'.row.prog w) A (pyIter (.str (S l) tx)) (fun it s₂ => LoopAtV rw'.row.prog w A g (wkE L fa cd) (Str.ofString "sign") signB Q E it s₂) E s := by
  refine loop_signs (env := wkE L fa cd) (fun p m nx => ∃ fs k' sv mod, nx = (D, listOf (strValues fs).toArray k') :: rest ∧ FldsAre p fs ∧ ModIs p mod ∧ m = fun y => if y = Str.ofString "sign" then sv else if y = Str.ofString "modifier" then some mod else m₀ y) hh F N
    ⟨[(Str.ofString "", t0)], k, m₀ (Str.ofString "sign"), .none, rfl, ⟨rfl⟩, ⟨.inl ⟨by simp, rfl⟩⟩, sign_start hm⟩ ?_ ?_
  · rintro p n t m₁ nx h tk own Q' ⟨post', hp⟩ ha ho ⟨fs, k', sv, mod, rfl, hfs, hmod, rfl⟩ F₁ N₁ hq
    have hpl : p.length ≤ 5000 := by
      have := congrArg List.length hp
      simp at this; omega
    have hfl := hfs.len
    have hoff' : ∀ q ∈ rest ++ own, q.1 ≠ D := fun q hq' => by
      rcases List.mem_append.mp hq' with h1 | h1
      · exact hoff q h1
      · exact ho q h1 D (by simp)
    rw [sign_map (M := m₀) hf] at F₁
    have fin : ∀ fs' kk mod' h' tk', FldsAre (p ++ [n]) fs' → ModIs (p ++ [n]) mod' → Fr g L h' (fun y => if y = Str.ofString "sign" then some (.str (S [n]) t) else if y = Str.ofString "modifier" then some mod' else m₀ y) → News g L h' (((D, listOf (strValues fs').toArray kk) :: rest) ++ own) → Q' .next { s with heap := h', toks := tk' } :=
      fun fs' kk mod' h' tk' h1 h2 F' N' => hq _ ((D, listOf (strValues fs').toArray kk) :: rest) h' tk' ⟨fs', kk, _, mod', rfl, h1, h2, rfl⟩ rfl F' N'
    refine wpAny_noRaise ?_
    rcases hmod.out with ⟨h64, rfl⟩ | ⟨h64, tm, rfl⟩
    · by_cases hn : n = 64
      · subst hn
        refine wk_at w A hh 64 t D fs rfl g L fa cd m₀ k' (rest ++ own) _ Q' X hoff' (by omega) F₁ N₁ fun h' tk' tm' F' N' => ?_
        rw [sign_mod hf] at F'
        refine fin fs k' _ h' tk' ⟨?_⟩ ⟨.inr ⟨by simp, tm', by rw [post_snoc_at h64]; rfl⟩⟩ F' N'
        rw [pre_snoc_at h64, ← pre_all 64 p h64]; exact hfs.out
      · have a1 : (S [n] == Str.ofString "@") = false := one_ne hn
        have h64' : 64 ∉ p ++ [n] := fun h => (mem_snoc.mp h).elim h64 hn
        by_cases hd : n = 46
        · subst hd
          refine wk_dot w A hh 46 t D fs a1 rfl g L fa cd m₀ k' (rest ++ own) _ Q' X hoff' (by omega) F₁ N₁ fun h' tk' nn' tf' F' N' => ?_
          rw [sign_back hf] at F'
          refine fin _ nn' _ h' tk' ⟨?_⟩ ⟨.inl ⟨h64', rfl⟩⟩ F' N'
          have e := hfs.out
          rw [pre_all 64 p h64] at e
          rw [pre_all 64 _ h64', fld_snoc_c, List.map_append, List.map_append, e]; rfl
        · have a2 : (S [n] == Str.ofString ".") = false := one_ne hd
          obtain ⟨gs, y, fs', ty, e1, rfl, e2⟩ := hfs.last
          have hy : y.length ≤ 100000 := by
            have h1 : (fld 46 (pre 64 p)).flatten.length ≤ p.length := by
              rw [fld_flat]; exact Nat.le_trans (del_len _ _) (pre_length _ _)
            rw [e1] at h1; simp at h1; omega
          simp only [List.length_append, List.length_cons, List.length_nil] at hfl
          refine wk_put w A hh n t D fs' y ty a1 a2 hy g L fa cd m₀ k' (rest ++ own) _ Q' X hoff' (by omega) F₁ N₁ fun h' tk' nn' tf' F' N' => ?_
          rw [sign_back hf] at F'
          refine fin _ nn' _ h' tk' ⟨?_⟩ ⟨.inl ⟨h64', rfl⟩⟩ F' N'
          rw [pre_all 64 p h64] at e1
          rw [pre_all 64 _ h64', fld_snoc_n hd p gs y e1, List.map_append, List.map_append, e2]; rfl
    · refine wk_mod w A hh n t D fs (post 64 p) tm (by have := post_len 64 p; omega) g L fa cd m₀ k' (rest ++ own) _ Q' X hoff' (by omega) F₁ N₁ fun h' tk' tm' F' N' => ?_
      rw [sign_mod hf] at F'
      refine fin fs k' _ h' tk' ⟨?_⟩ ⟨.inr ⟨List.mem_append.mpr (.inl h64), tm', by rw [post_snoc_in h64]⟩⟩ F' N'
      rw [pre_snoc_in h64]; exact hfs.out
  · rintro m' nx h tk ⟨fs, k', sv, mod, rfl, hfs, hmod, rfl⟩ F' N'
    exact done fs k' sv mod h tk hfs hmod F' N'
theorem off_of {D : Addr} : ∀ {l : List (Addr × Obj)}, AllLt D l → ∀ p ∈ l, p.1 ≠ D
  | [], _, _, hp => nomatch hp
  | q :: r, h, p, hp => by
    rcases List.mem_cons.mp hp with e | e
    · subst e; exact Nat.ne_of_lt h.1
    · exact off_of h.2 p e
theorem off_lt {D : Addr} {l : List (Addr × Obj)} (h : ∀ p ∈ l, p.1 < D) : ∀ p ∈ l, p.1 ≠ D := fun p hp => Nat.ne_of_lt (h p hp)

end
section
local macro_rules | `(tactic| walk_at "newTuple") => `(tactic| (k_here; k_dflt (refine' kup_newTuple ?F ?N ?_ ?z; (case F => k_asm); (case N => k_asm); (case z => kmk_size)); intro D' h' F' N' l1; clear l1; (try dsimp only)))
local macro_rules | `(tactic| walk_at "exec For Name Name cons nil") => `(tactic| ((with_reducible show wpAny _ _ (exec (Stmt.For (Expr.Name (Str.ofString "sign") _) _ _ _ _) _) _ _ _); (rename Fr _ _ _ _ => lF'); (with_unfolding_all refine' For_invVF lF' ?k1 ?k2 ?_; (case k1 => exact rfl); (case k2 => exact rfl); k_whole)))
local macro_rules | `(tactic| walk_at "pyIter str") => `(tactic| ((with_reducible show wpAny _ _ (pyIter (Value.str _ _)) (fun it s₂ => LoopAtV _ _ _ _ _ (Str.ofString "sign") _ _ _ it s₂) _ _); (with_reducible rename Fr _ _ _ _ => F'); (with_reducible rename News _ _ _ _ => N'); k_dflt (refine' walk_loop _ (by rfl) ?hl ?hX ?ho ?hf ?hm F' N' ?wd; (case hl => assumption); (case hX => assumption); (case ho => first | exact off_lt (by assumption) | exact off_of (by assumption)); (case hf => rfl); (case hm => rfl); (case' wd => (intro fs' k' sv' mod' h' tk' hfs' hmod' F'' N''; (try dsimp only)))); all_goals (try k_fold)))
set_option maxRecDepth 100000 in
set_option maxHeartbeats 8000000 in
theorem walk_con (w : World) {mean : ExcName → Option Value} {mg mb : Str → Option Value} (l : List Nat) (t : Tok) (hl : l.length ≤ 5000)
    (dp un : Nat) (gd : Option (List Code)) (cn : Str) (cs : Scope) (a : Addr) (ccd : Value) (cl : List (Str × Addr)) (outer : List Env) (A₀ : Around) (base h₀ : Heap) (L : Addr) (m : Str → Option Value) (news : List (Addr × Obj)) (s : Shared) (Q E : Value → Shared → Prop)
    (B : Below A₀ base outer h₀) (F : Fr h₀ L s.heap m) (X : (K w.params).In h₀) (N : News h₀ L s.heap news) (T : Top qv (looseW qv looseL) mean mg mb h₀) (hk : cs.kind = .function) (hd : dp + 6 < recursionLimit) (hu : un + 60 < cLine)
    (hret : ∀ fs k' mod D W h' tk', FldsAre l fs → ModIs l mod → Fr h₀ L h' m → News h₀ L h' ((W, { cls := .type "tuple", data := .seq #[.ref D, mod] }) :: (D, listOf (strValues fs).toArray k') :: news) → Q (.ref W) { s with heap := h', toks := tk' }) :
    wpAny (model rw'.row.prog w) (ktrTop dp un gd cn cs L a ccd cl outer) (call (.ref 287) [.str (S l) t]) Q E s := by
  revert X; k_fill; intro X
  refine wpAny_call ?_
  k_dflt cell_enter
  k_steps
  all_goals (exact hret _ _ _ _ _ _ _ (by assumption) (by assumption) (by with_reducible assumption) (by with_reducible assumption))

end
section
def cps (s : String) : List Nat := (Str.ofString s).cps.toList
def headL : List (List Nat) := [[35], [85, 84, 70, 45, 56], [117, 116, 102, 45, 56], [], [81]]
def pieceL : List (List Nat) := [[46], [64, 101, 117, 114, 111], [64], [58], [113], [81], [46, 73, 83, 79, 56, 56, 53, 57, 45, 49], [64, 69, 85, 82, 79], [45], [37, 115], [85, 84, 70, 45, 56], [32], [101, 117, 114, 111]]
def hd5 (k : Int) : List Nat := headL.getD (k % 5).toNat []
def pc13 (k : Int) : List Nat := pieceL.getD (k % 13).toNat []
def nameL (ks : List Int) : List Nat := hd5 (ks.getD 0 0) ++ ((ks.drop 1).map pc13).flatten
def txtOf : Value → Str
  | .str x _ => x
  | _ => Str.empty
section
variable {prog : Program} {w : World} {A : Around} {E : Value → Shared → Prop} {s : Shared} {h₀ : Heap} {L D : Addr} {m : Str → Option Value} {news : List (Addr × Obj)} {vs : List Value} {nn : Nat} {u : Tok} {j : Int}
theorem fmod_in (j : Int) {n : Int} (hn : 0 < n) : 0 ≤ j.fmod n ∧ j.fmod n < n ∧ j.fmod n = j % n := by
  rw [Int.fmod_eq_emod_of_nonneg _ (Int.le_of_lt hn)]
  exact ⟨Int.emod_nonneg _ (by omega), Int.emod_lt_of_pos _ hn, rfl⟩
theorem isStr_of {l : List Value} {x : Value} {i : Nat} (hs : l.all (fun v => match v with | .str _ _ => true | _ => false) = true) (h : l[i]? = some x) : ∃ t, x = .str (txtOf x) t := by
  have := List.all_eq_true.mp hs x (List.mem_of_getElem? h)
  cases x <;> first | exact ⟨_, rfl⟩ | cases this
theorem item_tab {value slice : PySem.Expr} {n : Int} {T : List (List Nat)} {Q : Value → Shared → Prop} (N : News h₀ L s.heap news) (hm : (D, listOf vs.toArray nn) ∈ news) (hn : 0 < n) (hb : n ≤ 1000) (hT : vs.map txtOf = T.map S) (hlen : (T.length : Int) = n)
    (hstr : vs.all (fun v => match v with | .str _ _ => true | _ => false) = true) (h : ∀ t, Q (.str (S (T.getD (j % n).toNat [])) t) s)
    (hs : subscripted slice false (.ref D) (.int (j.fmod n) u) = operate [.ref D, .int (j.fmod n) u] (getItem (.ref D) (.int (j.fmod n) u)) := by with_unfolding_all rfl) (hg : ∀ r, letTemporaryGo value (.ref D) r = pure () := by intro _; with_unfolding_all rfl) :
    wpAny (model prog w) A (subscriptTail value slice (.ref D) (.int (j.fmod n) u)) Q E s := by
  obtain ⟨a, b, c⟩ := fmod_in j hn
  have hl : vs.length = T.length := by simpa using congrArg List.length hT
  have hlt : (j.fmod n).toNat < vs.length := by omega
  have hx : vs[(j.fmod n).toNat]? = some vs[(j.fmod n).toNat] := List.getElem?_eq_getElem hlt
  obtain ⟨t, ht⟩ := isStr_of hstr hx
  refine kim_list N hm rfl rfl a (by omega) hx ?_ hs hg
  have e1 : (vs.map txtOf)[(j.fmod n).toNat]? = some (txtOf vs[(j.fmod n).toNat]) := by rw [List.getElem?_map, hx]; rfl
  rw [hT, List.getElem?_map, Option.map_eq_some_iff] at e1
  obtain ⟨q, hq, e2⟩ := e1
  rw [ht, ← e2]
  have e3 : T.getD (j % n).toNat [] = q := by rw [← c, List.getD_eq_getElem?_getD, hq]; rfl
  rw [← e3]; exact h t
end
theorem hd5_len (k : Int) : (hd5 k).length ≤ 5 := by
  have h : ∀ i, (headL.getD i []).length ≤ 5 := fun i => by
    rw [List.getD_eq_getElem?_getD]
    cases e : headL[i]? with
    | none => simp
    | some x =>
      have hm := List.mem_of_getElem? e
      have : (headL.all fun x => decide (x.length ≤ 5)) = true := by decide
      exact of_decide_eq_true (List.all_eq_true.mp this x hm)
  exact h _
theorem pc13_len (k : Int) : (pc13 k).length ≤ 10 := by
  have h : ∀ i, (pieceL.getD i []).length ≤ 10 := fun i => by
    rw [List.getD_eq_getElem?_getD]
    cases e : pieceL[i]? with
    | none => simp
    | some x =>
      have hm := List.mem_of_getElem? e
      have : (pieceL.all fun x => decide (x.length ≤ 10)) = true := by decide
      exact of_decide_eq_true (List.all_eq_true.mp this x hm)
  exact h _
theorem flat_len : ∀ ks : List Int, ((ks.map pc13).flatten).length ≤ 10 * ks.length
  | [] => by simp
  | k :: r => by
    have h1 := pc13_len k
    have h2 := flat_len r
    simp only [List.map_cons, List.flatten_cons, List.length_append, List.length_cons]
    omega
theorem nameL_len {ks : List Int} (h : ks.length ≤ 100) : (nameL ks).length ≤ 1005 := by
  have h1 := hd5_len (ks.getD 0 0)
  have h2 := flat_len (ks.drop 1)
  unfold nameL
  rw [List.length_append]
  simp only [List.length_drop] at h2
  omega
/-- a list of texts joined -/
theorem join_SL {prog : Program} {w : World} {A : Around} {E : Value → Shared → Prop} {s : Shared} {t : Tok} {Q : Value → Shared → Prop} {D : Addr} {l : List (Str × Tok)} {c : List (List Nat)} (hl : s.heap.IsList D (strValues l).toArray) (ht : l.map (·.1) = c.map S) (hc : c.flatten.length ≤ 10000) (hn : c.length ≤ 1000)
    (h : ∀ t' k, Q (.str (S c.flatten) t') { s with toks := k }) : wpAny (model prog w) A (call (.builtin "str.join") [.str (Str.ofString "") t, .ref D]) Q E s := by
  have hsum : ∀ c : List (List Nat), ((c.map S).map (·.length)).sum = c.flatten.length := by
    intro c
    induction c with
    | nil => rfl
    | cons a r ih => simp only [List.map_cons, List.sum_cons, ih, List.flatten_cons, List.length_append, S_len]
  refine join_listW (ys := c.map S) hl ?_ (by decide) ?_ fun t' k => ?_
  · have := strsAre_of_values l
    rw [ht] at this
    exact this
  · rw [hsum, List.length_map]; omega
  · have e : Txt.join (Str.ofString "") (c.map S) = S c.flatten := by
      refine (S_of _).symm.trans (congrArg S ?_)
      unfold Txt.join
      rw [StrLaws.glued_eq_join]
      exact join_E c
    rw [e]; exact h t' k
theorem off_cell {a : Addr} {l : List (Addr × Obj)} (h : AllLt a l) : ∀ p ∈ l, p.1 ≠ a + 1 := fun p hp => by
  have h2 : ∀ {l : List (Addr × Obj)}, AllLt a l → ∀ p ∈ l, p.1 < a := by
    intro l
    induction l with
    | nil => intro _ p hp; cases hp
    | cons q r ih =>
      intro h p hp
      rcases List.mem_cons.mp hp with e | e
      · subst e; exact h.1
      · exact ih h.2 p e
  have := h2 h p hp
  exact Nat.ne_of_lt (Nat.lt_succ_of_lt this)
theorem pc_map (xs : List Int) : (xs.map fun k => S (pc13 k)) = (xs.map pc13).map S := by rw [List.map_map]; rfl
theorem item_six {prog : Program} {w : World} {A : Around} {E : Value → Shared → Prop} {s : Shared} {h₀ : Heap} {L D : Addr} {news : List (Addr × Obj)} {nn : Nat} {u : Tok} {x : Int} {value slice : PySem.Expr} {v0 v1 v2 v3 v4 v5 : Value} {Q : Value → Shared → Prop} (N : News h₀ L s.heap news) (hm : (D, listOf [v0, v1, v2, v3, v4, v5].toArray nn) ∈ news)
    (q0 : Q v0 s) (q1 : Q v1 s) (q2 : Q v2 s) (q3 : Q v3 s) (q4 : Q v4 s) (q5 : Q v5 s)
    (hs : subscripted slice false (.ref D) (.int (x.fmod 6) u) = operate [.ref D, .int (x.fmod 6) u] (getItem (.ref D) (.int (x.fmod 6) u)) := by with_unfolding_all rfl) (hg : ∀ r, letTemporaryGo value (.ref D) r = pure () := by intro _; with_unfolding_all rfl) :
    wpAny (model prog w) A (subscriptTail value slice (.ref D) (.int (x.fmod 6) u)) Q E s := by
  obtain ⟨a, b, c⟩ := fmod_in x (n := 6) (by decide)
  have hx : ∃ v, [v0, v1, v2, v3, v4, v5][(x.fmod 6).toNat]? = some v ∧ Q v s := by
    have h6 : (x.fmod 6).toNat = 0 ∨ (x.fmod 6).toNat = 1 ∨ (x.fmod 6).toNat = 2 ∨ (x.fmod 6).toNat = 3 ∨ (x.fmod 6).toNat = 4 ∨ (x.fmod 6).toNat = 5 := by omega
    rcases h6 with e | e | e | e | e | e <;> rw [e]
    · exact ⟨_, rfl, q0⟩
    · exact ⟨_, rfl, q1⟩
    · exact ⟨_, rfl, q2⟩
    · exact ⟨_, rfl, q3⟩
    · exact ⟨_, rfl, q4⟩
    · exact ⟨_, rfl, q5⟩
  obtain ⟨v, hv, hq⟩ := hx
  exact kim_list N hm rfl rfl a (by omega) hv hq hs hg
theorem news_three {h₀ h : Heap} {L : Addr} {p q r : Addr × Obj} {ns rest : List (Addr × Obj)} (N : News h₀ L h ns) (h1 : p ∈ ns) (h2 : q ∈ ns) (h3 : r ∈ ns) (hs : ∀ x ∈ rest, x ∈ ns) : News h₀ L h (p :: q :: r :: rest) := fun x hx => by
  rcases List.mem_cons.mp hx with e | hx
  · subst e; exact N _ h1
  · rcases List.mem_cons.mp hx with e | hx
    · subst e; exact N _ h2
    · rcases List.mem_cons.mp hx with e | hx
      · subst e; exact N _ h3
      · exact N _ (hs _ hx)
theorem prune_ref {h₀ h : Heap} {L T P : Addr} {ns rest : List (Addr × Obj)} {x : Str} {t : Tok} {o : Obj} {G : Prop} (N : News h₀ L h ns) (h1 : (T, ({ cls := .type "tuple", data := .seq [.str x t, .ref P].toArray } : Obj)) ∈ ns) (h2 : (P, o) ∈ ns) (hs : ∀ x ∈ rest, x ∈ ns)
    (H : News h₀ L h ((T, { cls := .type "tuple", data := .seq [.str x t, .ref P].toArray }) :: (P, o) :: rest) → G) : G := H (fun y hy => by
  rcases List.mem_cons.mp hy with e | hy
  · subst e; exact N _ h1
  · rcases List.mem_cons.mp hy with e | hy
    · subst e; exact N _ h2
    · exact N _ (hs _ hy))
theorem item_six' {prog : Program} {w : World} {A : Around} {E : Value → Shared → Prop} {s : Shared} {h₀ : Heap} {L D : Addr} {news rest : List (Addr × Obj)} {nn : Nat} {u : Tok} {x : Int} {value slice : PySem.Expr} {a0 a1 a2 a3 a4 a5 b0 b1 b2 b3 b4 b5 : Addr} {x0 x1 x2 x3 x4 x5 : Str} {t0 t1 t2 t3 t4 t5 : Tok} {o0 o1 o2 o3 o4 o5 : Obj} {Q : Value → Shared → Prop} (N : News h₀ L s.heap news) (hm : (D, listOf [.ref a0, .ref a1, .ref a2, .ref a3, .ref a4, .ref a5].toArray nn) ∈ news)
    (m0 : (a0, ({ cls := .type "tuple", data := .seq [.str x0 t0, .ref b0].toArray } : Obj)) ∈ news) (n0 : (b0, o0) ∈ news) (m1 : (a1, ({ cls := .type "tuple", data := .seq [.str x1 t1, .ref b1].toArray } : Obj)) ∈ news) (n1 : (b1, o1) ∈ news) (m2 : (a2, ({ cls := .type "tuple", data := .seq [.str x2 t2, .ref b2].toArray } : Obj)) ∈ news) (n2 : (b2, o2) ∈ news)
    (m3 : (a3, ({ cls := .type "tuple", data := .seq [.str x3 t3, .ref b3].toArray } : Obj)) ∈ news) (n3 : (b3, o3) ∈ news) (m4 : (a4, ({ cls := .type "tuple", data := .seq [.str x4 t4, .ref b4].toArray } : Obj)) ∈ news) (n4 : (b4, o4) ∈ news) (m5 : (a5, ({ cls := .type "tuple", data := .seq [.str x5 t5, .ref b5].toArray } : Obj)) ∈ news) (n5 : (b5, o5) ∈ news)
    (hr : ∀ y ∈ rest, y ∈ news)
    (q0 : News h₀ L s.heap ((a0, { cls := .type "tuple", data := .seq [.str x0 t0, .ref b0].toArray }) :: (b0, o0) :: rest) → Q (.ref a0) s) (q1 : News h₀ L s.heap ((a1, { cls := .type "tuple", data := .seq [.str x1 t1, .ref b1].toArray }) :: (b1, o1) :: rest) → Q (.ref a1) s) (q2 : News h₀ L s.heap ((a2, { cls := .type "tuple", data := .seq [.str x2 t2, .ref b2].toArray }) :: (b2, o2) :: rest) → Q (.ref a2) s)
    (q3 : News h₀ L s.heap ((a3, { cls := .type "tuple", data := .seq [.str x3 t3, .ref b3].toArray }) :: (b3, o3) :: rest) → Q (.ref a3) s) (q4 : News h₀ L s.heap ((a4, { cls := .type "tuple", data := .seq [.str x4 t4, .ref b4].toArray }) :: (b4, o4) :: rest) → Q (.ref a4) s) (q5 : News h₀ L s.heap ((a5, { cls := .type "tuple", data := .seq [.str x5 t5, .ref b5].toArray }) :: (b5, o5) :: rest) → Q (.ref a5) s)
    (hs : subscripted slice false (.ref D) (.int (x.fmod 6) u) = operate [.ref D, .int (x.fmod 6) u] (getItem (.ref D) (.int (x.fmod 6) u)) := by with_unfolding_all rfl) (hg : ∀ r, letTemporaryGo value (.ref D) r = pure () := by intro _; with_unfolding_all rfl) :
    wpAny (model prog w) A (subscriptTail value slice (.ref D) (.int (x.fmod 6) u)) Q E s :=
  item_six N hm (prune_ref N m0 n0 hr q0) (prune_ref N m1 n1 hr q1) (prune_ref N m2 n2 hr q2) (prune_ref N m3 n3 hr q3) (prune_ref N m4 n4 hr q4) (prune_ref N m5 n5 hr q5) hs hg

end
section
local macro_rules | `(tactic| walk_at "newTuple") => `(tactic| (k_here; k_dflt (refine' kup_newTuple ?F ?N ?_ ?z; (case F => k_asm); (case N => k_asm); (case z => kmk_size)); intro D' h' F' N' l1; clear l1; (try dsimp only)))
local macro_rules | `(tactic| walk_at "storeName") => `(tactic| (k_here; k_dflt (refine' storeX_C ?F ?N ?c ?U ?d ?_ ?a ?b; (case a => rfl); (case b => rfl); (case F => k_asm); (case N => k_asm); (case c => rfl); (case U => exact UpdF.tail (by k_ne) (UpdF.head (off_cell (by assumption)))); (case d => k_asm)); intro h' o' F' N' d'; (try dsimp only at N')))
local macro_rules | `(tactic| walk_at "subscriptTail") => `(tactic| ((with_reducible show wpAny _ _ (subscriptTail _ _ (Value.ref _) (Value.int (Int.fmod _ _) _)) _ _ _); (with_reducible rename News _ _ _ _ => N'); k_dflt (refine' item_tab N' ?hm ?hn ?hb ?hT ?hlen ?hstr ?_ ?hs ?hg; (case hm => k_mem); (case hT => first | exact (rfl : _ = headL.map S) | exact (rfl : _ = pieceL.map S)); (case hn => decide); (case hb => decide); (case hlen => rfl); (case hstr => rfl); (case hs => with_unfolding_all rfl); (case hg => (intro _; with_unfolding_all rfl))); intro _))
local macro_rules | `(tactic| walk_at "CompEnd") => `(tactic| ((with_reducible show LCg.CompEnd _ _ _ _ _ _ _ _ _ _ _ (fun y n => TxEl _ (S (pc13 _)) y n) _ _); k_dflt (refine' LCg.CompEnd.intro ?ceF ?ceN _ ?ces ?ceo ?ceS ?cer; (case cer => (refine el_any ?hz; (case hz => exact rfl))); (case ceF => k_asm); (case ceN => k_asm); (case ces => kcj_in); (case ceo => assumption); (case ceS => exact .inr ⟨_, by k_mem, rfl, _, rfl⟩))))
local macro_rules | `(tactic| walk_at "CompSrc") => `(tactic| ((with_reducible rename IntsAre _ (List.drop 1 _) => hI9); (have hl9 := hI9.length); (rw [List.length_drop] at hl9); k_dflt (refine LCg.CompSrc.ledger (by rfl) (by k_asm) (by k_asm) (by k_mem) (by rw [List.size_toArray]; unfold sizeLine; omega) ?_); intro g'; k_dflt (refine' cmp_rest (R := fun b v => ∃ t, v = Value.int b t) (fun k => S (pc13 k)) ?cl1 (src_ints hI9) ?ct1 ?cf1; (case cl1 => (rw [List.size_toArray]; exact hI9.length.symm)); (case' ct1 => (intro k' v' I' oI' C' oC' D' m' ys' h' tk' E' hk' hv' hC' hx' F' N' off' ne'; obtain ⟨t', hv'⟩ := hv'; subst hv'; have off0 := off'; (try (simp only [LCg.Off3, and_true] at off')))); (case' cf1 => (intro l' hl'; replace hl' := hl'.trans (pc_map _)))); all_goals (try k_fold)))
local macro_rules | `(tactic| walk_at "TxEl") => `(tactic| ((with_reducible show TxEl _ (S (pc13 _)) _ _); refine el_any ?hz; (case hz => k_dflt (exact rfl))))
local macro_rules | `(tactic| walk_at "call builtin:str.join") => `(tactic| ((with_reducible show wpAny _ _ (call (Value.builtin "str.join") [Value.str _ _, Value.ref _]) _ _ _); k_dflt (refine' join_SL ?h1 ?h2 ?h3 ?h4 ?_; (case h1 => exact News.isList (by k_asm) (by k_mem)); (case h2 => assumption); (case h3 => exact Nat.le_trans (flat_len _) (by simp only [List.length_drop]; omega)); (case h4 => (simp only [List.length_map, List.length_drop]; omega))); intro _ _))
local macro_rules | `(tactic| walk_at "binaryOp Add str str") => `(tactic| (k_dflt (refine' add_SS ?h1 ?h2 ?h3 ?h4 ?_; (case h1 => with_reducible exact rfl); (case h2 => with_reducible exact rfl); (case h3 => exact Nat.le_trans (hd5_len _) (by decide)); (case h4 => exact Nat.le_trans (flat_len _) (by simp only [List.length_drop]; omega))); intro _ _))
set_option maxRecDepth 100000 in
set_option maxHeartbeats 8000000 in
theorem name_con (w : World) {mean : ExcName → Option Value} {mg mb : Str → Option Value} (ks : List Int) (vs : List Value) (D : Addr) (nn : Nat) (hI : IntsAre vs ks) (hne : 0 < ks.length) (hle : ks.length ≤ 100)
    (dp un : Nat) (gd : Option (List Code)) (cn : Str) (cs : Scope) (a : Addr) (ccd : Value) (cl : List (Str × Addr)) (outer : List Env) (A₀ : Around) (base h₀ : Heap) (L : Addr) (m : Str → Option Value) (news : List (Addr × Obj)) (s : Shared) (Q E : Value → Shared → Prop)
    (B : Below A₀ base outer h₀) (F : Fr h₀ L s.heap m) (X : (K w.params).In h₀) (N : News h₀ L s.heap ((D, listOf vs.toArray nn) :: news)) (T : Top qv (looseW qv looseL) mean mg mb h₀) (hk : cs.kind = .function) (hd : dp + 6 < recursionLimit) (hu : un + 60 < cLine)
    (hret : ∀ (t : Tok) (h' : Heap) (tk' : Nat), Fr h₀ L h' m → News h₀ L h' ((D, listOf vs.toArray nn) :: news) → Q (.str (S (nameL ks)) t) { s with heap := h', toks := tk' }) :
    wpAny (model rw'.row.prog w) (ktrTop dp un gd cn cs L a ccd cl outer) (call (.ref 280) [.ref D]) Q E s := by
  revert X; k_fill; intro X
  refine wpAny_call ?_
  k_dflt (refine' code_defC ?k1 ?k2 ?k3 ?k4 ?k5 ?kA ?kF ?kK ?k6 ?k7 ?k8 ?k9 ?kB ?kD ?_ ?c2 ?c3 ?c4; (case kA => exact rfl); (case kF => exact rfl); (case kK => assumption); (case k1 => k_asm); (case k2 => k_asm); (case k3 => k_asm); (case k4 => k_asm); (case k5 => k_asm); (case k6 => k_is); (case k7 => k_is); (case k8 => ktr_room); (case k9 => exact BindsTo.of_eq rfl); (case kB => exact rfl); (case kD => decide +kernel); (case c2 => exact rfl); (case c3 => exact rfl); (case c4 => exact rfl); k_whole; intro g' L' h' tk' cells' FG' F' N' Y' B' X' T' l1; (try k_lt l1); k_cells Y'; (try simp only [List.cons_append, List.nil_append] at N'); (try dsimp only); (try k_lift B'); (try k_fold))
  k_steps
  all_goals (exact hret _ _ _ (by with_reducible assumption) (by first | exact by with_reducible assumption | exact News.tail' (by with_reducible assumption) | exact News.tail' (News.tail' (by with_reducible assumption)) | exact News.tail' (News.tail' (News.tail' (by with_reducible assumption))) | exact News.tail' (News.tail' (News.tail' (News.tail' (by with_reducible assumption)))) | exact News.tail' (News.tail' (News.tail' (News.tail' (News.tail' (by with_reducible assumption)))))))

end
section
theorem flds_two {l : List Nat} {fs : List (Str × Tok)} (h : FldsAre l fs) (h46 : 46 ∈ pre 64 l) : ∃ ta tb r, fs = (S (pre 46 (pre 64 l)), ta) :: (S (pre 46 (post 46 (pre 64 l))), tb) :: r ∧ r.length ≤ l.length := by
  obtain ⟨r, e, hr⟩ := fld_two' 46 _ h46
  have h1 := h.out
  rw [e] at h1
  have hp := pre_length 64 l
  cases fs with
  | nil => cases h1
  | cons p q =>
    cases q with
    | nil => simp at h1
    | cons p2 q =>
      obtain ⟨a, ta⟩ := p
      obtain ⟨b, tb⟩ := p2
      simp only [List.map_cons, List.cons.injEq] at h1
      obtain ⟨rfl, rfl, h3⟩ := h1
      refine ⟨ta, tb, q, rfl, ?_⟩
      have := congrArg List.length h3
      simp only [List.length_map] at this
      omega
theorem flds_one {l : List Nat} {fs : List (Str × Tok)} (h : FldsAre l fs) (h46 : 46 ∉ pre 64 l) : ∃ ta, fs = [(S (pre 64 l), ta)] := by
  have h1 := h.out
  rw [fld_free 46 _ h46] at h1
  cases fs with
  | nil => cases h1
  | cons p q =>
    obtain ⟨a, ta⟩ := p
    simp only [List.map_cons, List.map_nil, List.cons.injEq, List.map_eq_nil_iff] at h1
    obtain ⟨rfl, rfl⟩ := h1
    exact ⟨ta, rfl⟩
theorem mod_str {l : List Nat} {mod : Value} (h : ModIs l mod) (h64 : 64 ∈ l) : ∃ t, mod = .str (S (post 64 l)) t := by
  rcases h.out with ⟨h1, _⟩ | ⟨_, h2⟩
  · exact absurd h64 h1
  · exact h2
theorem drop2 {h₀ h : Heap} {L : Addr} {p q r : Addr × Obj} {news : List (Addr × Obj)} (N : News h₀ L h (p :: q :: r :: news)) : News h₀ L h (p :: q :: news) := fun x hx => by
  rcases List.mem_cons.mp hx with e | e
  · exact N _ (e ▸ List.mem_cons_self ..)
  · rcases List.mem_cons.mp e with e | e
    · exact N _ (e ▸ List.mem_cons_of_mem _ (List.mem_cons_self ..))
    · exact N _ (List.mem_cons_of_mem _ (List.mem_cons_of_mem _ (List.mem_cons_of_mem _ e)))
section
variable {prog : Program} {w : World} {A : Around} {E : Value → Shared → Prop} {s : Shared} {h₀ : Heap} {L D : Addr} {news : List (Addr × Obj)} {k' : Nat} {p q : Str × Tok} {r : List (Str × Tok)} {Q : Value → Shared → Prop}
theorem len_two (N : News h₀ L s.heap news) (hm : (D, listOf (strValues (p :: q :: r)).toArray k') ∈ news) (hr : r.length ≤ 10000) (h : ∀ n t tk, (1 : Int) < n → Q (.int n t) { s with toks := tk }) : wpAny (model prog w) A (call (.builtin "len") [.ref D]) Q E s := by
  have hl : s.heap.IsList D (strValues (p :: q :: r)).toArray := ⟨_, (N _ hm).1, rfl, k', rfl⟩
  have e : (strValues (p :: q :: r)).toArray.size = r.length + 2 := by rw [sv_len]; rfl
  exact PySem.Calls.call_len_list hl (by rw [e]; omega) (h _ _ _ (by rw [e]; omega))
theorem len_one (N : News h₀ L s.heap news) (hm : (D, listOf (strValues [p]).toArray k') ∈ news) (h : ∀ t tk, Q (.int 1 t) { s with toks := tk }) : wpAny (model prog w) A (call (.builtin "len") [.ref D]) Q E s := by
  have hl : s.heap.IsList D (strValues [p]).toArray := ⟨_, (N _ hm).1, rfl, k', rfl⟩
  exact PySem.Calls.call_len_list hl (by rw [sv_len]; simp) (by rw [sv_len]; exact h _ _)
end
theorem rep_cons (c d a : Nat) (l : List Nat) (h : a ≠ c) : rep c d (a :: l) = a :: rep c d l := by
  unfold rep; rw [List.map_cons, if_neg h]
theorem pre_cons (c a : Nat) (l : List Nat) (h : a ≠ c) : pre c (a :: l) = a :: pre c l := by
  unfold pre; rw [List.takeWhile_cons, if_pos (by simpa using h)]
theorem ok_iso : PyData.strOk (Str.ofString "iso-8859-15") = true := by decide +kernel
theorem ok_utf : PyData.strOk (Str.ofString "UTF-8") = true := by decide +kernel

end
section
local macro_rules | `(tactic| walk_at "newTuple") => `(tactic| (k_here; k_dflt (refine' kup_newTuple ?F ?N ?_ ?z; (case F => k_asm); (case N => k_asm); (case z => kmk_size)); intro D' h' F' N' l1; clear l1; (try dsimp only)))
local macro_rules | `(tactic| walk_at "execs cons") => `(tactic| (with_reducible refine gen_toks ?_; intro _ _))
local macro_rules | `(tactic| walk_at "execs nil") => `(tactic| (with_reducible refine gen_toks ?_; intro _ _))
local macro_rules | `(tactic| walk_at "call ref") => `(tactic| ((with_reducible show wpAny _ _ (call (Value.ref 287) [Value.str _ _]) _ _ _); k_dflt (refine' walk_con _ _ _ ?hl _ _ _ _ _ _ _ _ _ _ _ _ _ _ _ _ _ _ ?kB ?kF ?kX ?kN ?kT ?kK ?kd ?ku ?_; (case hl => assumption);  (case kB => k_asm); (case kF => k_asm); (case kX => k_asm); (case kN => k_asm); (case kT => k_asm); (case kK => first | exact rfl | assumption); (case kd => ktr_room); (case ku => ktr_units)); intro fs k8 mod D W h8 t8 hfs hmod F9 N9; (obtain ⟨ta, tb, r8, e8, hr8⟩ := flds_two hfs (by with_reducible assumption)); subst e8; (try dsimp only); (try k_fold)))
local macro_rules | `(tactic| walk_at "call ref") => `(tactic| ((with_reducible show wpAny _ _ (call (Value.ref 287) [Value.str _ _]) _ _ _); k_dflt (refine' walk_con _ _ _ ?hl _ _ _ _ _ _ _ _ _ _ _ _ _ _ _ _ _ _ ?kB ?kF ?kX ?kN ?kT ?kK ?kd ?ku ?_; (case hl => assumption);  (case kB => k_asm); (case kF => k_asm); (case kX => k_asm); (case kN => k_asm); (case kT => k_asm); (case kK => first | exact rfl | assumption); (case kd => ktr_room); (case ku => ktr_units)); intro fs k8 mod D W h8 t8 hfs hmod F9 N9; (obtain ⟨ta, e8⟩ := flds_one hfs (by with_reducible assumption)); subst e8; (rcases hmod.out with ⟨h64, e9⟩ | ⟨h64, tm, e9⟩ <;> subst e9); (try contradiction); all_goals ((try dsimp only); (try k_fold))))
local macro_rules | `(tactic| walk_at "call builtin:len") => `(tactic| ((with_reducible show wpAny _ _ (call (Value.builtin "len") [Value.ref _]) _ _ _); (with_reducible rename News _ _ _ _ => N'); k_dflt (first | (refine' len_two N' ?hm ?hr ?_; (case hm => k_mem); (case hr => omega); intro n8 t8 k8 l8) | (refine' len_one N' ?hm ?_; (case hm => k_mem); intro t8 k8))))
local macro_rules | `(tactic| walk_at "subscriptTail") => `(tactic| ((with_reducible show wpAny _ _ (subscriptTail _ _ (Value.ref _) (Value.int _ _)) _ _ _); (with_reducible rename News _ _ _ _ => N'); k_dflt (refine' kim_list N' ?hm ?hc ?hd ?h0 ?h1 ?hx ?_ ?hs ?hg; (case hm => k_mem); (case hc => rfl); (case hd => rfl); (case h0 => decide); (case h1 => decide); (case hx => exact rfl); (case hs => with_unfolding_all rfl); (case hg => (intro _; with_unfolding_all rfl)))))
local macro_rules | `(tactic| walk_at "binaryOp Add str str") => `(tactic| (k_dflt (refine' add_S ?h1 ?h2 ?_; (case h1 => decide); (case h2 => exact S_le (by omega))); intro _ _))
local macro_rules | `(tactic| walk_at "compareOp Eq str str") => `(tactic| (refine' eq_known ?h1 ?_; (case h1 => first | with_reducible assumption | exact NoEuro.h (by with_reducible assumption) (by with_reducible assumption) | exact YesEuro.h (by with_reducible assumption))))
set_option maxRecDepth 100000 in
set_option maxHeartbeats 8000000 in
theorem due_two (w : World) {mean : ExcName → Option Value} {mg mb : Str → Option Value} (l : List Nat) (t : Tok) (hl : l.length ≤ 5000) (h46 : 46 ∈ pre 64 l)
    (dp un : Nat) (gd : Option (List Code)) (cn : Str) (cs : Scope) (a : Addr) (ccd : Value) (cl : List (Str × Addr)) (outer : List Env) (A₀ : Around) (base h₀ : Heap) (L : Addr) (m : Str → Option Value) (news : List (Addr × Obj)) (s : Shared) (Q E : Value → Shared → Prop)
    (B : Below A₀ base outer h₀) (F : Fr h₀ L s.heap m) (X : (K w.params).In h₀) (N : News h₀ L s.heap news) (T : Top qv (looseW qv looseL) mean mg mb h₀) (hk : cs.kind = .function) (hd : dp + 8 < recursionLimit) (hu : un + 120 < cLine)
    (hret : ∀ (t1 t2 : Tok) (R W : Addr) (h' : Heap) (tk' : Nat), Fr h₀ L h' m → News h₀ L h' ((R, (listOf ([.ref W] : List Value).toArray 0)) :: (W, { cls := .type "tuple", data := .seq #[.str (S (pre 46 (pre 64 l))) t1, .str (S (pre 46 (post 46 (pre 64 l)))) t2] }) :: news) → Q (.ref R) { s with heap := h', toks := tk' }) :
    wpAny (model rw'.row.prog w) (ktrTop dp un gd cn cs L a ccd cl outer) (call (.ref 294) [.str (S l) t]) Q E s := by
  revert X; k_fill; intro X
  refine wpAny_call ?_
  k_dflt cell_enter
  k_steps
  all_goals (exact hret _ _ _ _ _ _ (by with_reducible assumption) (by first | exact by with_reducible assumption | exact drop2 (by with_reducible assumption) | exact drop2 (drop2 (by with_reducible assumption)) | exact drop2 (drop2 (drop2 (by with_reducible assumption))) | exact drop2 (drop2 (drop2 (drop2 (by with_reducible assumption))))))
set_option maxRecDepth 100000 in
set_option maxHeartbeats 8000000 in
theorem due_euro (w : World) {mean : ExcName → Option Value} {mg mb : Str → Option Value} (l : List Nat) (t : Tok) (hl : l.length ≤ 5000) (h46 : 46 ∉ pre 64 l) (ye : YesEuro l) (h64 : 64 ∈ l)
    (dp un : Nat) (gd : Option (List Code)) (cn : Str) (cs : Scope) (a : Addr) (ccd : Value) (cl : List (Str × Addr)) (outer : List Env) (A₀ : Around) (base h₀ : Heap) (L : Addr) (m : Str → Option Value) (news : List (Addr × Obj)) (s : Shared) (Q E : Value → Shared → Prop)
    (B : Below A₀ base outer h₀) (F : Fr h₀ L s.heap m) (X : (K w.params).In h₀) (N : News h₀ L s.heap news) (T : Top qv (looseW qv looseL) mean mg mb h₀) (hk : cs.kind = .function) (hd : dp + 8 < recursionLimit) (hu : un + 120 < cLine)
    (hret : ∀ (t1 t2 : Tok) (R W : Addr) (h' : Heap) (tk' : Nat), Fr h₀ L h' m → News h₀ L h' ((R, (listOf ([.ref W] : List Value).toArray 0)) :: (W, { cls := .type "tuple", data := .seq #[.str (S (pre 64 l)) t1, .str (Str.ofString "iso-8859-15") t2] }) :: news) → Q (.ref R) { s with heap := h', toks := tk' }) :
    wpAny (model rw'.row.prog w) (ktrTop dp un gd cn cs L a ccd cl outer) (call (.ref 294) [.str (S l) t]) Q E s := by
  revert X; k_fill; intro X
  refine wpAny_call ?_
  k_dflt cell_enter
  k_steps
  all_goals (exact hret _ _ _ _ _ _ (by with_reducible assumption) (by first | exact by with_reducible assumption | exact drop2 (by with_reducible assumption) | exact drop2 (drop2 (by with_reducible assumption)) | exact drop2 (drop2 (drop2 (by with_reducible assumption))) | exact drop2 (drop2 (drop2 (drop2 (by with_reducible assumption))))))
set_option maxRecDepth 100000 in
set_option maxHeartbeats 8000000 in
theorem due_U (w : World) {mean : ExcName → Option Value} {mg mb : Str → Option Value} (l : List Nat) (t : Tok) (hl : l.length ≤ 5000) (h46 : 46 ∉ pre 64 l) (ne : NoEuro l) (hU : (S (pre 64 l) == Str.ofString "UTF-8") = true)
    (dp un : Nat) (gd : Option (List Code)) (cn : Str) (cs : Scope) (a : Addr) (ccd : Value) (cl : List (Str × Addr)) (outer : List Env) (A₀ : Around) (base h₀ : Heap) (L : Addr) (m : Str → Option Value) (news : List (Addr × Obj)) (s : Shared) (Q E : Value → Shared → Prop)
    (B : Below A₀ base outer h₀) (F : Fr h₀ L s.heap m) (X : (K w.params).In h₀) (N : News h₀ L s.heap news) (T : Top qv (looseW qv looseL) mean mg mb h₀) (hk : cs.kind = .function) (hd : dp + 8 < recursionLimit) (hu : un + 120 < cLine)
    (hret : ∀ (t1 : Tok) (R W : Addr) (h' : Heap) (tk' : Nat), Fr h₀ L h' m → News h₀ L h' ((R, (listOf ([.ref W] : List Value).toArray 0)) :: (W, { cls := .type "tuple", data := .seq #[.none, .str (Str.ofString "UTF-8") t1] }) :: news) → Q (.ref R) { s with heap := h', toks := tk' }) :
    wpAny (model rw'.row.prog w) (ktrTop dp un gd cn cs L a ccd cl outer) (call (.ref 294) [.str (S l) t]) Q E s := by
  revert X; k_fill; intro X
  refine wpAny_call ?_
  k_dflt cell_enter
  k_steps
  all_goals (exact hret _ _ _ _ _ (by with_reducible assumption) (by first | exact by with_reducible assumption | exact drop2 (by with_reducible assumption) | exact drop2 (drop2 (by with_reducible assumption)) | exact drop2 (drop2 (drop2 (by with_reducible assumption))) | exact drop2 (drop2 (drop2 (drop2 (by with_reducible assumption))))))
set_option maxRecDepth 100000 in
set_option maxHeartbeats 8000000 in
theorem due_no (w : World) {mean : ExcName → Option Value} {mg mb : Str → Option Value} (l : List Nat) (t : Tok) (hl : l.length ≤ 5000) (h46 : 46 ∉ pre 64 l) (ne : NoEuro l) (hU : (S (pre 64 l) == Str.ofString "UTF-8") = false)
    (dp un : Nat) (gd : Option (List Code)) (cn : Str) (cs : Scope) (a : Addr) (ccd : Value) (cl : List (Str × Addr)) (outer : List Env) (A₀ : Around) (base h₀ : Heap) (L : Addr) (m : Str → Option Value) (news : List (Addr × Obj)) (s : Shared) (Q E : Value → Shared → Prop)
    (B : Below A₀ base outer h₀) (F : Fr h₀ L s.heap m) (X : (K w.params).In h₀) (N : News h₀ L s.heap news) (T : Top qv (looseW qv looseL) mean mg mb h₀) (hk : cs.kind = .function) (hd : dp + 8 < recursionLimit) (hu : un + 120 < cLine)
    (hret : ∀ (t1 t2 : Tok) (R : Addr) (h' : Heap) (tk' : Nat), Fr h₀ L h' m → News h₀ L h' ((R, (listOf ([.str (Str.ofString "refused") t1, .str (Str.ofString "unknown locale: " ++ S l) t2] : List Value).toArray 0)) :: news) → Q (.ref R) { s with heap := h', toks := tk' }) :
    wpAny (model rw'.row.prog w) (ktrTop dp un gd cn cs L a ccd cl outer) (call (.ref 294) [.str (S l) t]) Q E s := by
  revert X; k_fill; intro X
  refine wpAny_call ?_
  k_dflt cell_enter
  k_steps
  all_goals (exact hret _ _ _ _ _ (by with_reducible assumption) (by first | exact by with_reducible assumption | exact drop1 (by with_reducible assumption) | exact drop1 (drop1 (by with_reducible assumption)) | exact drop1 (drop1 (drop1 (by with_reducible assumption))) | exact drop1 (drop1 (drop1 (drop1 (by with_reducible assumption))))))

end
section
local macro_rules | `(tactic| walk_at "newTuple") => `(tactic| (k_here; k_dflt (refine' kup_newTuple ?F ?N ?_ ?z; (case F => k_asm); (case N => k_asm); (case z => kmk_size)); intro D' h' F' N' l1; clear l1; (try dsimp only)))
local macro_rules | `(tactic| walk_at "execs cons") => `(tactic| (with_reducible refine gen_toks ?_; intro _ _))
local macro_rules | `(tactic| walk_at "execs nil") => `(tactic| (with_reducible refine gen_toks ?_; intro _ _))
local macro_rules | `(tactic| walk_at "subscriptTail") => `(tactic| ((with_reducible show wpAny _ _ (subscriptTail _ _ (Value.ref _) (Value.int (Int.fmod _ 6) _)) _ _ _); (with_reducible rename News _ _ _ _ => N'); k_dflt (refine' item_six' N' ?hm ?m0 ?n0 ?m1 ?n1 ?m2 ?n2 ?m3 ?n3 ?m4 ?n4 ?m5 ?n5 ?hr ?_ ?_ ?_ ?_ ?_ ?_ ?hs ?hg; (case hm => k_mem); (case m0 => k_mem); (case n0 => k_mem); (case m1 => k_mem); (case n1 => k_mem); (case m2 => k_mem); (case n2 => k_mem); (case m3 => k_mem); (case n3 => k_mem); (case m4 => k_mem); (case n4 => k_mem); (case m5 => k_mem); (case n5 => k_mem); (case hr => (intro x hx; repeat (first | exact hx | refine List.mem_cons_of_mem _ ?_))); (case hs => with_unfolding_all rfl); (case hg => (intro _; with_unfolding_all rfl))); all_goals (intro N9; clear N')))
set_option maxRecDepth 100000 in
set_option maxHeartbeats 8000000 in
theorem known_con (w : World) {mean : ExcName → Option Value} {mg mb : Str → Option Value} (x : Int) (t : Tok)
    (dp un : Nat) (gd : Option (List Code)) (cn : Str) (cs : Scope) (a : Addr) (ccd : Value) (cl : List (Str × Addr)) (outer : List Env) (A₀ : Around) (base h₀ : Heap) (L : Addr) (m : Str → Option Value) (news : List (Addr × Obj)) (s : Shared) (Q E : Value → Shared → Prop)
    (B : Below A₀ base outer h₀) (F : Fr h₀ L s.heap m) (X : (K w.params).In h₀) (N : News h₀ L s.heap news) (T : Top qv (looseW qv looseL) mean mg mb h₀) (hk : cs.kind = .function) (hd : dp + 6 < recursionLimit) (hu : un + 60 < cLine)
    (h0 : ∀ (nm : Str) (t0 : Tok) (W D2 P : Addr) (h' : Heap) (tk' : Nat), (nm = Str.ofString "c" ∨ nm = Str.ofString "C") → Fr h₀ L h' m → News h₀ L h' ((W, { cls := .type "tuple", data := .seq #[.str nm t0, .ref D2] }) :: (D2, (listOf ([.ref P] : List Value).toArray 0)) :: (P, { cls := .type "tuple", data := .seq #[.none, .none] }) :: news) → Q (.ref W) { s with heap := h', toks := tk' })
    (h1 : ∀ (nm : Str) (t0 : Tok) (W D2 P : Addr) (h' : Heap) (tk' : Nat), (nm = Str.ofString "posix" ∨ nm = Str.ofString "POSIX") → Fr h₀ L h' m → News h₀ L h' ((W, { cls := .type "tuple", data := .seq #[.str nm t0, .ref D2] }) :: (D2, (listOf ([.ref P] : List Value).toArray 0)) :: (P, { cls := .type "tuple", data := .seq #[.none, .none] }) :: news) → Q (.ref W) { s with heap := h', toks := tk' })
    (h2 : ∀ (nm : Str) (t0 : Tok) (t1 t2 : Tok) (W D2 P : Addr) (h' : Heap) (tk' : Nat), (nm = Str.ofString "de" ∨ nm = Str.ofString "DE") → Fr h₀ L h' m → News h₀ L h' ((W, { cls := .type "tuple", data := .seq #[.str nm t0, .ref D2] }) :: (D2, (listOf ([.ref P] : List Value).toArray 0)) :: (P, { cls := .type "tuple", data := .seq #[.str (Str.ofString "de_DE") t1, .str (Str.ofString "ISO8859-1") t2] }) :: news) → Q (.ref W) { s with heap := h', toks := tk' })
    (h3 : ∀ (nm : Str) (t0 : Tok) (t1 t2 : Tok) (W D2 P : Addr) (h' : Heap) (tk' : Nat), (nm = Str.ofString "be@latin" ∨ nm = Str.ofString "BE@LATIN") → Fr h₀ L h' m → News h₀ L h' ((W, { cls := .type "tuple", data := .seq #[.str nm t0, .ref D2] }) :: (D2, (listOf ([.ref P] : List Value).toArray 0)) :: (P, { cls := .type "tuple", data := .seq #[.str (Str.ofString "be_BY") t1, .str (Str.ofString "UTF-8") t2] }) :: news) → Q (.ref W) { s with heap := h', toks := tk' })
    (h4 : ∀ (nm : Str) (t0 : Tok) (t1 t2 : Tok) (W D2 P : Addr) (h' : Heap) (tk' : Nat), (nm = Str.ofString "c.iso-8859-1:x" ∨ nm = Str.ofString "C.ISO-8859-1:X") → Fr h₀ L h' m → News h₀ L h' ((W, { cls := .type "tuple", data := .seq #[.str nm t0, .ref D2] }) :: (D2, (listOf ([.ref P] : List Value).toArray 0)) :: (P, { cls := .type "tuple", data := .seq #[.str (Str.ofString "en_US") t1, .str (Str.ofString "ISO8859-1") t2] }) :: news) → Q (.ref W) { s with heap := h', toks := tk' })
    (h5 : ∀ (nm : Str) (t0 : Tok) (t1 t2 : Tok) (W D2 P : Addr) (h' : Heap) (tk' : Nat), (nm = Str.ofString "sh" ∨ nm = Str.ofString "SH") → Fr h₀ L h' m → News h₀ L h' ((W, { cls := .type "tuple", data := .seq #[.str nm t0, .ref D2] }) :: (D2, (listOf ([.ref P] : List Value).toArray 0)) :: (P, { cls := .type "tuple", data := .seq #[.str (Str.ofString "sr_RS") t1, .str (Str.ofString "UTF-8") t2] }) :: news) → Q (.ref W) { s with heap := h', toks := tk' }) :
    wpAny (model rw'.row.prog w) (ktrTop dp un gd cn cs L a ccd cl outer) (call (.ref 301) [.int x t]) Q E s := by
  revert X; k_fill; intro X
  refine wpAny_call ?_
  k_dflt cell_enter
  k_steps
  all_goals (first | (refine' h0 _ _ _ _ _ _ _ ?eO ?eF (news_three ?eN ?e1 ?e2 ?e3 ?eS); (case eN => with_reducible assumption); (case e1 => k_mem); (case e2 => k_mem); (case e3 => k_mem); (case eF => with_reducible assumption); (case eO => first | exact .inl rfl | exact .inr rfl); (case eS => (intro x hx; repeat (first | exact hx | refine List.mem_cons_of_mem _ ?_)))) | (refine' h1 _ _ _ _ _ _ _ ?eO ?eF (news_three ?eN ?e1 ?e2 ?e3 ?eS); (case eN => with_reducible assumption); (case e1 => k_mem); (case e2 => k_mem); (case e3 => k_mem); (case eF => with_reducible assumption); (case eO => first | exact .inl rfl | exact .inr rfl); (case eS => (intro x hx; repeat (first | exact hx | refine List.mem_cons_of_mem _ ?_)))) | (refine' h2 _ _ _ _ _ _ _ _ _ ?eO ?eF (news_three ?eN ?e1 ?e2 ?e3 ?eS); (case eN => with_reducible assumption); (case e1 => k_mem); (case e2 => k_mem); (case e3 => k_mem); (case eF => with_reducible assumption); (case eO => first | exact .inl rfl | exact .inr rfl); (case eS => (intro x hx; repeat (first | exact hx | refine List.mem_cons_of_mem _ ?_)))) | (refine' h3 _ _ _ _ _ _ _ _ _ ?eO ?eF (news_three ?eN ?e1 ?e2 ?e3 ?eS); (case eN => with_reducible assumption); (case e1 => k_mem); (case e2 => k_mem); (case e3 => k_mem); (case eF => with_reducible assumption); (case eO => first | exact .inl rfl | exact .inr rfl); (case eS => (intro x hx; repeat (first | exact hx | refine List.mem_cons_of_mem _ ?_)))) | (refine' h4 _ _ _ _ _ _ _ _ _ ?eO ?eF (news_three ?eN ?e1 ?e2 ?e3 ?eS); (case eN => with_reducible assumption); (case e1 => k_mem); (case e2 => k_mem); (case e3 => k_mem); (case eF => with_reducible assumption); (case eO => first | exact .inl rfl | exact .inr rfl); (case eS => (intro x hx; repeat (first | exact hx | refine List.mem_cons_of_mem _ ?_)))) | (refine' h5 _ _ _ _ _ _ _ _ _ ?eO ?eF (news_three ?eN ?e1 ?e2 ?e3 ?eS); (case eN => with_reducible assumption); (case e1 => k_mem); (case e2 => k_mem); (case e3 => k_mem); (case eF => with_reducible assumption); (case eO => first | exact .inl rfl | exact .inr rfl); (case eS => (intro x hx; repeat (first | exact hx | refine List.mem_cons_of_mem _ ?_)))))

end
section
/-- a sign that ends a language -/
def ends (c : Nat) : Bool := c == 46 || c == 64 || c == 58
def lang (l : List Nat) : List Nat := l.takeWhile fun c => !ends c
theorem pre_lang : ∀ l : List Nat, pre 46 (pre 64 (rep 58 46 l)) = lang l
  | [] => rfl
  | a :: r => by
    have ih := pre_lang r
    by_cases h58 : a = 58
    · subst h58
      have e : rep 58 46 (58 :: r) = 46 :: rep 58 46 r := by unfold rep; rw [List.map_cons, if_pos rfl]
      rw [e, pre_cons 64 46 _ (by decide)]
      simp [pre, lang, ends]
    · rw [rep_cons _ _ _ _ h58]
      by_cases h64 : a = 64
      · subst h64
        have e : pre 64 (64 :: rep 58 46 r) = [] := by simp [pre]
        rw [e]; simp [pre, lang, ends]
      · rw [pre_cons _ _ _ h64]
        by_cases h46 : a = 46
        · subst h46; simp [pre, lang, ends]
        · rw [pre_cons _ _ _ h46, ih]
          unfold lang
          rw [List.takeWhile_cons, if_pos (by unfold ends; simp [h46, h64, h58])]
theorem lang_no {c : Nat} (hc : ends c = true) : ∀ l : List Nat, c ∉ lang l
  | [] => by simp [lang]
  | a :: r => by
    unfold lang
    rw [List.takeWhile_cons]
    split
    · intro h
      rename_i ha
      rcases List.mem_cons.mp h with e | h
      · subst e; rw [hc] at ha; simp at ha
      · exact lang_no hc r h
    · simp
theorem lang_dot (l : List Nat) : 46 ∉ lang l := lang_no rfl l
theorem lang_att (l : List Nat) : 64 ∉ lang l := lang_no rfl l
theorem lang_glue {a b : List Nat} (h : a.all (fun c => !ends c) = true) : lang (a ++ b) = a ++ lang b := by
  unfold lang
  rw [List.takeWhile_append_of_pos]
  intro c hc
  exact List.all_eq_true.mp h c hc
theorem lang_stop {a : Nat} {b : List Nat} (h : ends a = true) : lang (a :: b) = [] := by
  unfold lang; rw [List.takeWhile_cons, if_neg (by simp [h])]
/-- what stands in a language -/
def bits : List (List Nat) := [[113], [45], [37, 115], [117, 116, 102, 45, 56], [32], [101, 117, 114, 111]]
def two (b : List Nat) : Bool := b.isEmpty || bits.any fun p => p.isPrefixOf b && ((b.drop p.length).isEmpty || bits.any fun q => q.isPrefixOf (b.drop p.length))
inductive Run : List Nat → Prop
  | nil : Run []
  | cons {p r : List Nat} : p ∈ bits → Run r → Run (p ++ r)
theorem run_first {r : List Nat} (h : Run r) : (r.isEmpty || bits.any fun q => q.isPrefixOf r) = true := by
  cases h with
  | nil => rfl
  | cons hp hr =>
    rw [Bool.or_eq_true]; right
    exact List.any_eq_true.mpr ⟨_, hp, by rw [List.isPrefixOf_iff_prefix]; exact List.prefix_append _ _⟩
theorem run_two {b : List Nat} (h : Run b) : two b = true := by
  cases h with
  | nil => rfl
  | @cons p r hp hr =>
    unfold two
    rw [Bool.or_eq_true]; right
    refine List.any_eq_true.mpr ⟨p, hp, ?_⟩
    rw [Bool.and_eq_true]
    refine ⟨by rw [List.isPrefixOf_iff_prefix]; exact List.prefix_append _ _, ?_⟩
    rw [List.drop_left]
    exact run_first hr
theorem keys_two : (basesL.all fun b => !two b && b.head? != some 35) = true := by decide +kernel
theorem free_run {b : List Nat} (h : Run b) : Free b := fun hm => by
  have := List.all_eq_true.mp keys_two b hm
  rw [run_two h] at this
  simp at this
theorem free_hash (r : List Nat) : Free (35 :: r) := fun hm => by
  have := List.all_eq_true.mp keys_two _ hm
  simp at this
def lowL : List (List Nat) := pieceL.map fun p => p.map lo1
theorem low_case : (lowL.all fun p => bits.contains p || (p.head?.map ends).getD false) = true := by decide +kernel
theorem low_cases (p : List Nat) (h : p ∈ lowL) : p ∈ bits ∨ ∃ a r, p = a :: r ∧ ends a = true := by
  have := List.all_eq_true.mp low_case p h
  rcases Bool.or_eq_true_iff.mp this with e | e
  · exact .inl (by simpa using e)
  · right
    cases p with
    | nil => cases e
    | cons a r => exact ⟨a, r, rfl, e⟩
theorem lang_pieces : ∀ ps : List (List Nat), (∀ p ∈ ps, p ∈ lowL) → Run (lang ps.flatten)
  | [], _ => .nil
  | p :: ps, h => by
    rw [List.flatten_cons]
    rcases low_cases p (h p (List.mem_cons_self ..)) with hb | ⟨a, r, rfl, he⟩
    · have ha : (bits.all fun p => p.all fun c => !ends c) = true := by decide
      rw [lang_glue (List.all_eq_true.mp ha p hb)]
      exact .cons hb (lang_pieces ps fun q hq => h q (List.mem_cons_of_mem _ hq))
    · rw [List.cons_append, lang_stop he]; exact .nil
theorem pc13_mem (k : Int) : pc13 k ∈ pieceL := by
  have h0 : 0 ≤ k % 13 := Int.emod_nonneg _ (by decide)
  have h1 : k % 13 < 13 := Int.emod_lt_of_pos _ (by decide)
  unfold pc13
  rw [List.getD_eq_getElem?_getD, List.getElem?_eq_getElem (by show _ < 13; omega)]
  exact List.getElem_mem _
theorem hd5_mem (k : Int) : hd5 k ∈ headL := by
  have h0 : 0 ≤ k % 5 := Int.emod_nonneg _ (by decide)
  have h1 : k % 5 < 5 := Int.emod_lt_of_pos _ (by decide)
  unfold hd5
  rw [List.getD_eq_getElem?_getD, List.getElem?_eq_getElem (by show _ < 5; omega)]
  exact List.getElem_mem _
theorem name_all {P : Nat → Prop} (hh : ∀ p ∈ headL, ∀ c ∈ p, P c) (hp : ∀ p ∈ pieceL, ∀ c ∈ p, P c) (ks : List Int) : ∀ c ∈ nameL ks, P c := by
  intro c hc
  unfold nameL at hc
  rcases List.mem_append.mp hc with h | h
  · exact hh _ (hd5_mem _) c h
  · obtain ⟨p, hp', hc'⟩ := List.mem_flatten.mp h
    obtain ⟨k, _, rfl⟩ := List.mem_map.mp hp'
    exact hp _ (pc13_mem k) c hc'
theorem name_ascii (ks : List Int) : ∀ c ∈ nameL ks, c < 128 := name_all (by decide) (by decide) ks
theorem name_noC (ks : List Int) : ∀ c ∈ nameL ks, c ≠ 67 := name_all (by decide) (by decide) ks
theorem lo_name (ks : List Int) : (nameL ks).map lo1 = (hd5 (ks.getD 0 0)).map lo1 ++ (((ks.drop 1).map pc13).map fun p => p.map lo1).flatten := by
  unfold nameL
  rw [List.map_append, List.map_flatten]
theorem head_cases : ∀ p ∈ headL, (p.map lo1 = [] ∨ p.map lo1 ∈ bits) ∨ p.map lo1 = [35] := by decide +kernel
theorem fre_name (ks : List Int) : Fre (pre 46 (pre 64 (rep 58 46 ((nameL ks).map lo1)))) := by
  rw [pre_lang]
  refine ⟨?_, lang_dot _, lang_att _⟩
  rw [lo_name]
  have hR : Run (lang (((ks.drop 1).map pc13).map fun p => p.map lo1).flatten) := by
    refine lang_pieces _ fun p hp => ?_
    obtain ⟨q, hq, rfl⟩ := List.mem_map.mp hp
    obtain ⟨k, _, rfl⟩ := List.mem_map.mp hq
    exact List.mem_map.mpr ⟨_, pc13_mem k, rfl⟩
  rcases head_cases _ (hd5_mem (ks.getD 0 0)) with (e | hb) | e
  · rw [e, List.nil_append]; exact free_run hR
  · have ha : (bits.all fun p => p.all fun c => !ends c) = true := by decide
    rw [lang_glue (List.all_eq_true.mp ha _ hb)]
    exact free_run (.cons hb hR)
  · rw [e, List.cons_append, List.nil_append]
    have e2 : ∀ z, lang (35 :: z) = 35 :: lang z := fun z => by unfold lang; rw [List.takeWhile_cons, if_pos (by decide)]
    rw [e2]; exact free_hash _
theorem lower_S' {l : List Nat} (h : ∀ c ∈ l, c < 128) : Txt.lower (S l) = S (l.map lo1) := by
  rw [lower_ascii (x := S l) h]
  simp [S]
theorem nrm_name (ks : List Int) (h : ks.length ≤ 100) : Nrm (S (nameL ks)) (S (nameL ks)) := by
  have hl := nameL_len h
  refine ⟨(nameL ks).map lo1, lower_S' (name_ascii ks), by rw [List.length_map]; omega, by rw [S_len]; omega, .inl ⟨fre_name ks, rfl⟩⟩
theorem name_C (ks : List Int) : (S (pre 64 (nameL ks)) == Str.ofString "C") = false := by
  apply beq_false_of_ne
  intro e
  have e2 : S (pre 64 (nameL ks)) = S [67] := e
  have h67 : 67 ∈ pre 64 (nameL ks) := by rw [S_inj e2]; simp
  exact name_noC ks 67 ((List.takeWhile_prefix _).subset h67) rfl
theorem ok_name (ks : List Int) : PyData.strOk (S (nameL ks)) = true := by
  rw [ok_S, List.all_eq_true]
  intro c hc
  have := name_ascii ks c hc
  exact decide_eq_true (by omega)
theorem ok_of {a b : List Nat} (h : PyData.strOk (S b) = true) (hs : ∀ c ∈ a, c ∈ b) : PyData.strOk (S a) = true := by
  rw [ok_S, List.all_eq_true] at *
  exact fun c hc => h c (hs c hc)
theorem sub_pre (c : Nat) (l : List Nat) : ∀ a ∈ pre c l, a ∈ l := fun _ h => (List.takeWhile_prefix _).subset h
theorem sub_post (c : Nat) (l : List Nat) : ∀ a ∈ post c l, a ∈ l := fun a h => (List.dropWhile_suffix _).subset (List.mem_of_mem_tail h)
theorem ok_pre {c : Nat} {b : List Nat} (h : PyData.strOk (S b) = true) : PyData.strOk (S (pre c b)) = true := ok_of h (sub_pre c b)
theorem ok_post {c : Nat} {b : List Nat} (h : PyData.strOk (S b) = true) : PyData.strOk (S (post c b)) = true := ok_of h (sub_post c b)
theorem ok_ref : PyData.strOk (Str.ofString "refused") = true := by decide +kernel
theorem ok_de : PyData.strOk (Str.ofString "de_DE") = true := by decide +kernel
theorem ok_be : PyData.strOk (Str.ofString "be_BY") = true := by decide +kernel
theorem ok_en : PyData.strOk (Str.ofString "en_US") = true := by decide +kernel
theorem ok_sr : PyData.strOk (Str.ofString "sr_RS") = true := by decide +kernel
theorem ok_i1 : PyData.strOk (Str.ofString "ISO8859-1") = true := by decide +kernel

end
local macro_rules | `(tactic| walk_at "call builtin:str.lower") => `(tactic| ((with_reducible show wpAny _ _ (call (Value.builtin "str.lower") [Value.str _ _]) _ _ _); (refine' lower_S ?h1 ?h2 ?_; (case h1 => with_reducible assumption); (case h2 => omega))))
local macro_rules | `(tactic| walk_at "compareOp In str str") => `(tactic| ((with_reducible show wpAny _ _ (compareOp _ (Value.str _ _) (Value.str (S _) _)) _ _ _); (refine' in_one ?h1 ?_; (case h1 => first | exact s46 | exact s64 | exact s58))))
local macro_rules | `(tactic| walk_at "compareOp NotIn str str") => `(tactic| ((with_reducible show wpAny _ _ (compareOp _ (Value.str _ _) (Value.str (S _) _)) _ _ _); (refine' notin_one ?h1 ?_; (case h1 => first | exact s46 | exact s64 | exact s58))))
local macro_rules | `(tactic| walk_at "call builtin:str.replace") => `(tactic| ((with_reducible show wpAny _ _ (call (Value.builtin "str.replace") [Value.str (S _) _, Value.str _ _, Value.str _ _]) _ _ _); (with_reducible rename Fr _ _ _ _ => F'); first
  | (refine' rep_one ?h1 ?h2 ?h3 ?h4 ?h5 ?h6 (booked (by with_reducible assumption) F') ?_; (case h1 => exact s58); (case h2 => exact s46); (case h3 => repeat (first | with_reducible assumption | refine Nat.le_trans (pre_length _ _) ?_ | refine Nat.le_trans (post_len _ _) ?_ | refine Nat.le_trans (del_len _ _) ?_ | refine Nat.le_trans (Nat.le_of_eq (rep_len _ _ _)) ?_)); (case h4 => (show @Ne Nat _ _; omega)); (case h5 => (show @Ne Nat _ _; omega)); (case h6 => (show @Ne Nat _ _; omega)); intro _ _)
  | (refine' del_one ?h1 ?h2 ?h3 ?h4 ?h5 ?h6 (booked (by with_reducible assumption) F') ?_; (case h1 => first | exact s45 | exact s95); (case h2 => exact s0); (case h3 => repeat (first | with_reducible assumption | refine Nat.le_trans (pre_length _ _) ?_ | refine Nat.le_trans (post_len _ _) ?_ | refine Nat.le_trans (del_len _ _) ?_ | refine Nat.le_trans (Nat.le_of_eq (rep_len _ _ _)) ?_)); (case h4 => (show @Ne Nat _ _; omega)); (case h5 => (show @Ne Nat _ _; omega)); (case h6 => (show @Ne Nat _ _; omega)); intro _ _)))
local macro_rules | `(tactic| walk_at "call builtin:str.split") => `(tactic| ((with_reducible show wpAny _ _ (call (Value.builtin "str.split") [Value.str (S _) _, Value.str _ _, Value.int 1 _]) _ _ _); (with_reducible rename Fr _ _ _ _ => F'); (with_reducible rename News _ _ _ _ => N'); (refine' splitMax_two (by decide) s64 ?h2 ?h3 F' N' ?_; (case h2 => with_reducible assumption); (case h3 => repeat (first | with_reducible assumption | refine Nat.le_trans (pre_length _ _) ?_ | refine Nat.le_trans (post_len _ _) ?_ | refine Nat.le_trans (Nat.le_of_eq (rep_len _ _ _)) ?_)); intro _ _ _ _ _ _ _)))
local macro_rules | `(tactic| walk_at "call builtin:str.split") => `(tactic| ((with_reducible show wpAny _ _ (call (Value.builtin "str.split") [Value.str (S _) _, Value.str _ _]) _ _ _); (with_reducible rename Fr _ _ _ _ => F'); (with_reducible rename News _ _ _ _ => N'); (refine' split_two s46 ?h2 ?h3 F' N' ?_; (case h2 => with_reducible assumption); (case h3 => repeat (first | with_reducible assumption | refine Nat.le_trans (pre_length _ _) ?_ | refine Nat.le_trans (post_len _ _) ?_ | refine Nat.le_trans (Nat.le_of_eq (rep_len _ _ _)) ?_)); intro _ _ _ _ _ _ _ _ _)))
local macro_rules | `(tactic| walk_at "subscriptTail") => `(tactic| ((with_reducible show wpAny _ _ (subscriptTail _ (PySem.Expr.Slice none (some _) none _) (Value.ref _) (Value.ref _)) _ _ _); (with_reducible rename Fr _ _ _ _ => F'); (with_reducible rename News _ _ _ _ => N'); k_dflt (refine' slice2 F' N' ?h1 ?h2 ?_ ?h3 ?h4; (case h1 => exact News.isList N' (by k_mem)); (case h2 => with_reducible assumption); (case h3 => with_unfolding_all rfl); (case h4 => (intro _; with_unfolding_all rfl))); intro _ _ _ _))
local macro_rules | `(tactic| walk_at "getMethod ref") => `(tactic| ((with_reducible show wpAny _ _ (getMethod (Value.ref 240) _ _) _ _ _); (with_reducible rename Fr _ _ _ _ => F'); (refine' get_meth ?h1 F' ?_; (case h1 => with_reducible assumption))))
local macro_rules | `(tactic| walk_at "call builtin:dict.get") => `(tactic| ((with_reducible show wpAny _ _ (call _ [Value.ref 240, _, _]) _ _ _); (with_reducible rename Fr _ _ _ _ => F'); (refine' get_miss ?h1 F' ?h2 ?_; (case h1 => with_reducible assumption); (case h2 => first | exact missA (by first | with_reducible assumption | exact fre_b (by with_reducible assumption) (by with_reducible assumption) | exact fre_a (by with_reducible assumption) (by with_reducible assumption) | exact fre_b (fre_a (by with_reducible assumption) (by with_reducible assumption)) (by with_reducible assumption)) | exact missB (by first | with_reducible assumption | exact fre_b (by with_reducible assumption) (by with_reducible assumption) | exact fre_a (by with_reducible assumption) (by with_reducible assumption) | exact fre_b (fre_a (by with_reducible assumption) (by with_reducible assumption)) (by with_reducible assumption)) | exact missC (by first | with_reducible assumption | exact fre_b (by with_reducible assumption) (by with_reducible assumption) | exact fre_a (by with_reducible assumption) (by with_reducible assumption) | exact fre_b (fre_a (by with_reducible assumption) (by with_reducible assumption)) (by with_reducible assumption)) | exact missD (by first | with_reducible assumption | exact fre_b (by with_reducible assumption) (by with_reducible assumption) | exact fre_a (by with_reducible assumption) (by with_reducible assumption) | exact fre_b (fre_a (by with_reducible assumption) (by with_reducible assumption)) (by with_reducible assumption))))))
local macro_rules | `(tactic| walk_at "execs cons") => `(tactic| (with_reducible refine gen_toks ?_; intro _ _))
local macro_rules | `(tactic| walk_at "execs nil") => `(tactic| (with_reducible refine gen_toks ?_; intro _ _))
local macro_rules | `(tactic| walk_at "exec If") => `(tactic| ((with_reducible show wpAny _ _ (exec (Stmt.If (Expr.Compare (Expr.Constant (Const.str (Str.ofString ":")) _ _) _ _ _) _ _ _) _) _ _ _); (with_reducible rename Fr _ _ _ _ => F'); (with_reducible rename News _ _ _ _ => N'); (refine' cut_if (by with_reducible assumption) F' N' ?cutA ?cutB; (case' cutB => (intro _ _ _ _ _)))))
local macro_rules | `(tactic| walk_at "truthy str") => `(tactic| ((with_reducible show wpAny _ _ (truthy (Value.str (S _) _)) _ _ _); (refine' truthy_S ?h1 ?_; (case h1 => repeat (first | with_reducible assumption | refine Nat.le_trans (pre_length _ _) ?_ | refine Nat.le_trans (post_len _ _) ?_ | refine Nat.le_trans (del_len _ _) ?_ | refine Nat.le_trans (Nat.le_of_eq (rep_len _ _ _)) ?_)))))
local macro_rules | `(tactic| walk_at "Cut") => `(tactic| first | exact cut_same (congrArg S (rep_free 58 46 _ (by with_reducible assumption)).symm) rfl (by with_reducible assumption) (by with_reducible assumption) | exact cut_new rfl (by with_reducible assumption) (by with_reducible assumption))
local macro_rules | `(tactic| walk_at "exec If") => `(tactic| ((with_reducible show wpAny _ _ (exec (Stmt.If (Expr.Compare (Expr.Constant (Const.str (Str.ofString "@")) _ _) _ _ _) _ _ _) _) _ _ _); (with_reducible rename Fr _ _ _ _ => F'); (with_reducible rename News _ _ _ _ => N'); (refine' CutAt.cut (by with_reducible assumption) F' N' ?atA ?atB; (case' atB => (intro _ _ _ _ _ _)))))
local macro_rules | `(tactic| walk_at "exec If") => `(tactic| ((with_reducible show wpAny _ _ (exec (Stmt.If (Expr.Compare (Expr.Constant (Const.str (Str.ofString ".")) _ _) _ _ _) _ _ _) _) _ _ _); (with_reducible rename Fr _ _ _ _ => F'); (with_reducible rename News _ _ _ _ => N'); (refine' CutDot.cut (by with_reducible assumption) F' N' ?dotA ?dotB; (case' dotB => (intro _ _ _ _ _ _)))))
local macro_rules | `(tactic| walk_at "CutAt") => `(tactic| first | exact CutAt.same (by with_reducible assumption) rfl rfl (by with_reducible assumption) (by with_reducible assumption) | exact CutAt.new rfl (by with_reducible assumption) (News.tail' (by with_reducible assumption)))
local macro_rules | `(tactic| walk_at "CutDot") => `(tactic| first | exact CutDot.same (by with_reducible assumption) rfl (by with_reducible assumption) (by with_reducible assumption) | exact CutDot.new rfl (by with_reducible assumption) (News.tail' (News.tail' (by with_reducible assumption))))
local macro_rules | `(tactic| walk_at "binaryOp Add str str") => `(tactic| ((refine' add_S ?h1 ?h2 ?_; (case h1 => first | decide | (refine S_le (Nat.le_trans (m := 1000000) ?_ (by decide)); repeat (first | with_reducible assumption | refine Nat.le_trans (pre_length _ _) ?_ | refine Nat.le_trans (post_len _ _) ?_ | refine Nat.le_trans (del_len _ _) ?_ | refine Nat.le_trans (Nat.le_of_eq (rep_len _ _ _)) ?_)) | (refine app_le (a := 1) (b := 1000000) (by decide) (S_le ?_) (by decide); repeat (first | with_reducible assumption | refine Nat.le_trans (pre_length _ _) ?_ | refine Nat.le_trans (post_len _ _) ?_ | refine Nat.le_trans (del_len _ _) ?_ | refine Nat.le_trans (Nat.le_of_eq (rep_len _ _ _)) ?_)) | (refine app_le (a := 1000000) (b := 1000001) (S_le ?_) (app_le (a := 1) (b := 1000000) (by decide) (S_le ?_) (by decide)) (by decide) <;> repeat (first | with_reducible assumption | refine Nat.le_trans (pre_length _ _) ?_ | refine Nat.le_trans (post_len _ _) ?_ | refine Nat.le_trans (del_len _ _) ?_ | refine Nat.le_trans (Nat.le_of_eq (rep_len _ _ _)) ?_))); (case h2 => first | decide | (refine S_le (Nat.le_trans (m := 1000000) ?_ (by decide)); repeat (first | with_reducible assumption | refine Nat.le_trans (pre_length _ _) ?_ | refine Nat.le_trans (post_len _ _) ?_ | refine Nat.le_trans (del_len _ _) ?_ | refine Nat.le_trans (Nat.le_of_eq (rep_len _ _ _)) ?_)) | (refine app_le (a := 1) (b := 1000000) (by decide) (S_le ?_) (by decide); repeat (first | with_reducible assumption | refine Nat.le_trans (pre_length _ _) ?_ | refine Nat.le_trans (post_len _ _) ?_ | refine Nat.le_trans (del_len _ _) ?_ | refine Nat.le_trans (Nat.le_of_eq (rep_len _ _ _)) ?_)) | (refine app_le (a := 1000000) (b := 1000001) (S_le ?_) (app_le (a := 1) (b := 1000000) (by decide) (S_le ?_) (by decide)) (by decide) <;> repeat (first | with_reducible assumption | refine Nat.le_trans (pre_length _ _) ?_ | refine Nat.le_trans (post_len _ _) ?_ | refine Nat.le_trans (del_len _ _) ?_ | refine Nat.le_trans (Nat.le_of_eq (rep_len _ _ _)) ?_))); intro _ _)))
local macro_rules | `(tactic| walk_at "inplaceOp Add str str") => `(tactic| ((refine' iadd_S ?h1 ?h2 ?_; (case h1 => first | decide | (refine S_le (Nat.le_trans (m := 1000000) ?_ (by decide)); repeat (first | with_reducible assumption | refine Nat.le_trans (pre_length _ _) ?_ | refine Nat.le_trans (post_len _ _) ?_ | refine Nat.le_trans (del_len _ _) ?_ | refine Nat.le_trans (Nat.le_of_eq (rep_len _ _ _)) ?_)) | (refine app_le (a := 1) (b := 1000000) (by decide) (S_le ?_) (by decide); repeat (first | with_reducible assumption | refine Nat.le_trans (pre_length _ _) ?_ | refine Nat.le_trans (post_len _ _) ?_ | refine Nat.le_trans (del_len _ _) ?_ | refine Nat.le_trans (Nat.le_of_eq (rep_len _ _ _)) ?_)) | (refine app_le (a := 1000000) (b := 1000001) (S_le ?_) (app_le (a := 1) (b := 1000000) (by decide) (S_le ?_) (by decide)) (by decide) <;> repeat (first | with_reducible assumption | refine Nat.le_trans (pre_length _ _) ?_ | refine Nat.le_trans (post_len _ _) ?_ | refine Nat.le_trans (del_len _ _) ?_ | refine Nat.le_trans (Nat.le_of_eq (rep_len _ _ _)) ?_))); (case h2 => first | decide | (refine S_le (Nat.le_trans (m := 1000000) ?_ (by decide)); repeat (first | with_reducible assumption | refine Nat.le_trans (pre_length _ _) ?_ | refine Nat.le_trans (post_len _ _) ?_ | refine Nat.le_trans (del_len _ _) ?_ | refine Nat.le_trans (Nat.le_of_eq (rep_len _ _ _)) ?_)) | (refine app_le (a := 1) (b := 1000000) (by decide) (S_le ?_) (by decide); repeat (first | with_reducible assumption | refine Nat.le_trans (pre_length _ _) ?_ | refine Nat.le_trans (post_len _ _) ?_ | refine Nat.le_trans (del_len _ _) ?_ | refine Nat.le_trans (Nat.le_of_eq (rep_len _ _ _)) ?_)) | (refine app_le (a := 1000000) (b := 1000001) (S_le ?_) (app_le (a := 1) (b := 1000000) (by decide) (S_le ?_) (by decide)) (by decide) <;> repeat (first | with_reducible assumption | refine Nat.le_trans (pre_length _ _) ?_ | refine Nat.le_trans (post_len _ _) ?_ | refine Nat.le_trans (del_len _ _) ?_ | refine Nat.le_trans (Nat.le_of_eq (rep_len _ _ _)) ?_))); intro _ _)))
local macro_rules | `(tactic| walk_at "call builtin:dict.get") => `(tactic| ((with_reducible show wpAny _ _ (call _ [Value.ref 240, _, _]) _ _ _); (with_reducible rename Hit _ _ => hit'); (with_reducible rename Fr _ _ _ _ => F'); (refine' get_hit ?h1 F' ?h2 ?_; (case h1 => with_reducible assumption); (case h2 => first | exact hitA hit' (by with_reducible assumption) (by with_reducible assumption) | exact hitB hit' (by with_reducible assumption) (by with_reducible assumption) | exact hitC hit' (by with_reducible assumption) (by with_reducible assumption) | exact hitD hit' (by with_reducible assumption) (by with_reducible assumption)); intro _)))
local macro_rules | `(tactic| walk_at "compareOp In str str") => `(tactic| ((with_reducible show wpAny _ _ (compareOp _ (Value.str _ _) (Value.str (S _) _)) _ _ _); first
  | (refine' in_yes ?h1 ?h2 ?_; (case h1 => first | exact s46 | exact s64 | exact s58); (case h2 => first | with_reducible assumption | exact mem_pre (by with_reducible assumption) (by with_reducible assumption)))
  | (refine' in_no ?h1 ?h2 ?_; (case h1 => first | exact s46 | exact s64 | exact s58); (case h2 => first | with_reducible assumption | exact nomem_pre (by with_reducible assumption) (by with_reducible assumption)))))
local macro_rules | `(tactic| walk_at "compareOp NotIn str str") => `(tactic| ((with_reducible show wpAny _ _ (compareOp _ (Value.str _ _) (Value.str (S _) _)) _ _ _); first
  | (refine' notin_yes ?h1 ?h2 ?_; (case h1 => first | exact s46 | exact s64 | exact s58); (case h2 => first | with_reducible assumption | exact mem_pre (by with_reducible assumption) (by with_reducible assumption)))
  | (refine' notin_no ?h1 ?h2 ?_; (case h1 => first | exact s46 | exact s64 | exact s58); (case h2 => first | with_reducible assumption | exact nomem_pre (by with_reducible assumption) (by with_reducible assumption)))))
local macro_rules | `(tactic| walk_at "compareOp Eq str str") => `(tactic| ((with_reducible show wpAny _ _ (compareOp _ (Value.str (S _) _) (Value.str _ _)) _ _ _); (refine' eq_known ?h1 ?_; (case h1 => first | with_reducible assumption | exact eq_pre (by with_reducible assumption) (by with_reducible assumption) | exact NoEuro.h (by with_reducible assumption) (by with_reducible assumption) | exact YesEuro.h (by with_reducible assumption)))))
local macro_rules | `(tactic| walk_at "binaryOp Mod str str") => `(tactic| (refine' mod_msg ?h1 ?_; (case h1 => assumption); intro _ _))
local macro_rules | `(tactic| walk_at "call builtin:str.split") => `(tactic| ((with_reducible show wpAny _ _ (call (Value.builtin "str.split") [Value.str (S _) _, Value.str _ _]) _ _ _); (with_reducible rename Fr _ _ _ _ => F'); (with_reducible rename News _ _ _ _ => N'); (refine' split_two' s46 ?h1 ?h2 ?h3 F' N' ?_; (case h1 => with_reducible assumption); (case h2 => with_reducible assumption); (case h3 => repeat (first | with_reducible assumption | refine Nat.le_trans (pre_length _ _) ?_ | refine Nat.le_trans (post_len _ _) ?_ | refine Nat.le_trans (Nat.le_of_eq (rep_len _ _ _)) ?_)); intro _ _ _ _ _ _ _ _ _)))
local macro_rules | `(tactic| walk_at "compareOp Eq ref ref") => `(tactic| (k_here; k_dflt (refine' eq_dataH ?r1 ?r2 ?s1 ?s2 ?hu ?_; (case r1 => ked_read); (case r2 => ked_read); (case s1 => (first | ked_shaped | (refine shaped_of ?_ (by simp only [PyData.depth, PyData.depthAll]; decide); simp only [PyData.canLay0, PyData.canLayAll0, ok_app, ok_unk, Bool.and_true, Bool.true_and]; first | done | assumption | (simp only [Bool.and_eq_true]; (repeat' constructor) <;> assumption)))); (case s2 => (first | ked_shaped | (refine shaped_of ?_ (by simp only [PyData.depth, PyData.depthAll]; decide); simp only [PyData.canLay0, PyData.canLayAll0, ok_app, ok_unk, Bool.and_true, Bool.true_and]; first | done | assumption | (simp only [Bool.and_eq_true]; (repeat' constructor) <;> assumption)))); (case hu => first | ktr_units | ke_room)); (try simp only [PyData.eqv, PyData.eqvAll, beq_self_eq_true, Bool.and_true, Bool.true_and, Bool.and_false, Bool.false_and, Bool.not_true, Bool.not_false])))
local macro_rules | `(tactic| walk_at "compareOp NotEq ref ref") => `(tactic| (k_here; k_dflt (refine' ne_dataH ?r1 ?r2 ?s1 ?s2 ?hu ?_; (case r1 => ked_read); (case r2 => ked_read); (case s1 => (first | ked_shaped | (refine shaped_of ?_ (by simp only [PyData.depth, PyData.depthAll]; decide); simp only [PyData.canLay0, PyData.canLayAll0, ok_app, ok_unk, Bool.and_true, Bool.true_and]; first | done | assumption | (simp only [Bool.and_eq_true]; (repeat' constructor) <;> assumption)))); (case s2 => (first | ked_shaped | (refine shaped_of ?_ (by simp only [PyData.depth, PyData.depthAll]; decide); simp only [PyData.canLay0, PyData.canLayAll0, ok_app, ok_unk, Bool.and_true, Bool.true_and]; first | done | assumption | (simp only [Bool.and_eq_true]; (repeat' constructor) <;> assumption)))); (case hu => first | ktr_units | ke_room)); (try simp only [PyData.eqv, PyData.eqvAll, beq_self_eq_true, Bool.and_true, Bool.true_and, Bool.and_false, Bool.false_and, Bool.not_true, Bool.not_false])))
section
set_option maxRecDepth 100000 in
set_option maxHeartbeats 8000000 in
theorem norm_miss (w : World) {mean : ExcName → Option Value} {mg mb : Str → Option Value} (x : Str) (l : List Nat) (t : Tok) (hx : x.length ≤ 100000) (hl : Txt.lower x = S l) (hll : l.length ≤ 1000000)
    (fr : Fre (pre 46 (pre 64 (rep 58 46 l)))) (hint : Hint (rep 58 46 l))
    (dp un : Nat) (gd : Option (List Code)) (cn : Str) (cs : Scope) (a : Addr) (ccd : Value) (cl : List (Str × Addr)) (outer : List Env) (A₀ : Around) (base h₀ : Heap) (L : Addr) (m : Str → Option Value) (news : List (Addr × Obj)) (s : Shared) (Q E : Value → Shared → Prop)
    (B : Below A₀ base outer h₀) (F : Fr h₀ L s.heap m) (X : (K w.params).In h₀) (N : News h₀ L s.heap news) (T : Top qv (looseW qv looseL) mean mg mb h₀) (hk : cs.kind = .function) (hd : dp + 1 < recursionLimit) (hu : un + 8 < cLine)
    (hret : ∀ (t : Tok) (h' : Heap) (tk' : Nat), Fr h₀ L h' m → News h₀ L h' news → Q (.str x t) { s with heap := h', toks := tk' }) :
    wpAny (model rw'.row.prog w) (ktrTop dp un gd cn cs L a ccd cl outer) (call (.ref 42) [.str x t]) Q E s := by
  revert X; k_fill; intro X
  refine wpAny_call ?_
  k_dflt cell_enter
  k_steps
  all_goals (first | exact hret _ _ _ (by with_reducible assumption) (by with_reducible assumption) | exact hret _ _ _ (by with_reducible assumption) (News.tail' (by with_reducible assumption)) | exact hret _ _ _ (by with_reducible assumption) (News.tail' (News.tail' (by with_reducible assumption))) | exact hret _ _ _ (by with_reducible assumption) (News.tail' (News.tail' (News.tail' (by with_reducible assumption)))))
set_option maxRecDepth 100000 in
set_option maxHeartbeats 8000000 in
theorem norm_hit (w : World) {mean : ExcName → Option Value} {mg mb : Str → Option Value} (x v : Str) (l : List Nat) (t : Tok) (hx : x.length ≤ 100000) (hl : Txt.lower x = S l) (hll : l.length ≤ 1000000)
    (hit : Hit (rep 58 46 l) v) (hint : Hint (rep 58 46 l))
    (dp un : Nat) (gd : Option (List Code)) (cn : Str) (cs : Scope) (a : Addr) (ccd : Value) (cl : List (Str × Addr)) (outer : List Env) (A₀ : Around) (base h₀ : Heap) (L : Addr) (m : Str → Option Value) (news : List (Addr × Obj)) (s : Shared) (Q E : Value → Shared → Prop)
    (B : Below A₀ base outer h₀) (F : Fr h₀ L s.heap m) (X : (K w.params).In h₀) (N : News h₀ L s.heap news) (T : Top qv (looseW qv looseL) mean mg mb h₀) (hk : cs.kind = .function) (hd : dp + 1 < recursionLimit) (hu : un + 8 < cLine)
    (hret : ∀ (t : Tok) (h' : Heap) (tk' : Nat), Fr h₀ L h' m → News h₀ L h' news → Q (.str v t) { s with heap := h', toks := tk' }) :
    wpAny (model rw'.row.prog w) (ktrTop dp un gd cn cs L a ccd cl outer) (call (.ref 42) [.str x t]) Q E s := by
  revert X; k_fill; intro X
  refine wpAny_call ?_
  k_dflt cell_enter
  k_steps
  all_goals (first | exact hret _ _ _ (by with_reducible assumption) (by with_reducible assumption) | exact hret _ _ _ (by with_reducible assumption) (News.tail' (by with_reducible assumption)) | exact hret _ _ _ (by with_reducible assumption) (News.tail' (News.tail' (by with_reducible assumption))) | exact hret _ _ _ (by with_reducible assumption) (News.tail' (News.tail' (News.tail' (by with_reducible assumption)))))
set_option maxRecDepth 100000 in
set_option maxHeartbeats 8000000 in
theorem norm_con (w : World) {mean : ExcName → Option Value} {mg mb : Str → Option Value} (x y : Str) (t : Tok) (nr : Nrm x y)
    (dp un : Nat) (gd : Option (List Code)) (cn : Str) (cs : Scope) (a : Addr) (ccd : Value) (cl : List (Str × Addr)) (outer : List Env) (A₀ : Around) (base h₀ : Heap) (L : Addr) (m : Str → Option Value) (news : List (Addr × Obj)) (s : Shared) (Q E : Value → Shared → Prop)
    (B : Below A₀ base outer h₀) (F : Fr h₀ L s.heap m) (X : (K w.params).In h₀) (N : News h₀ L s.heap news) (T : Top qv (looseW qv looseL) mean mg mb h₀) (hk : cs.kind = .function) (hd : dp + 1 < recursionLimit) (hu : un + 8 < cLine)
    (hret : ∀ (t : Tok) (h' : Heap) (tk' : Nat), Fr h₀ L h' m → News h₀ L h' news → Q (.str y t) { s with heap := h', toks := tk' }) :
    wpAny (model rw'.row.prog w) (ktrTop dp un gd cn cs L a ccd cl outer) (call (.ref 42) [.str x t]) Q E s := by
  obtain ⟨l, hl, hll, hx, h | h⟩ := nr.out
  · obtain ⟨fr, rfl⟩ := h
    exact norm_miss w _ l t hx hl hll fr ⟨trivial⟩ dp un gd cn cs a ccd cl outer A₀ base h₀ L m news s Q E B F X N T hk hd hu hret
  · exact norm_hit w x y l t hx hl hll h ⟨trivial⟩ dp un gd cn cs a ccd cl outer A₀ base h₀ L m news s Q E B F X N T hk hd hu hret

end
section
local macro_rules | `(tactic| walk_at "call ref") => `(tactic| ((with_reducible show wpAny _ _ (call (Value.ref 42) [Value.str _ _]) _ _ _); k_dflt (refine' norm_con _ _ _ _ ?n1 _ _ _ _ _ _ _ _ _ _ _ _ _ _ _ _ _ _ ?kB ?kF ?kX ?kN ?kT ?kK ?kd ?ku ?_; (case n1 => assumption); (case kB => k_asm); (case kF => k_asm); (case kX => k_asm); (case kN => k_asm); (case kT => k_asm); (case kK => first | exact rfl | assumption); (case kd => ktr_room); (case ku => ktr_units)); intro _ _ _ F9 N9; (try dsimp only); (try k_fold)))
set_option maxRecDepth 100000 in
set_option maxHeartbeats 8000000 in
theorem parse_two (w : World) {mean : ExcName → Option Value} {mg mb : Str → Option Value} (x : Str) (c : List Nat) (t : Tok) (nr : Nrm x (S c)) (hx : x.length ≤ 1000000) (hc : c.length ≤ 1000000) (h46 : 46 ∈ pre 64 c)
    (dp un : Nat) (gd : Option (List Code)) (cn : Str) (cs : Scope) (a : Addr) (ccd : Value) (cl : List (Str × Addr)) (outer : List Env) (A₀ : Around) (base h₀ : Heap) (L : Addr) (m : Str → Option Value) (news : List (Addr × Obj)) (s : Shared) (Q E : Value → Shared → Prop)
    (B : Below A₀ base outer h₀) (F : Fr h₀ L s.heap m) (X : (K w.params).In h₀) (N : News h₀ L s.heap news) (T : Top qv (looseW qv looseL) mean mg mb h₀) (hk : cs.kind = .function) (hd : dp + 6 < recursionLimit) (hu : un + 60 < cLine)
    (hret : ∀ (t1 t2 : Tok) (D : Addr) (h' : Heap) (tk' : Nat), Fr h₀ L h' m → News h₀ L h' ((D, { cls := .type "tuple", data := .seq #[.str (S (pre 46 (pre 64 c))) t1, .str (S (pre 46 (post 46 (pre 64 c)))) t2] }) :: news) → Q (.ref D) { s with heap := h', toks := tk' }) :
    wpAny (model rw'.row.prog w) (ktrTop dp un gd cn cs L a ccd cl outer) (call (.ref 49) [.str x t]) Q E s := by
  revert X; k_fill; intro X
  refine wpAny_call ?_
  k_dflt cell_enter
  k_steps
  all_goals (refine' hret _ _ _ _ _ ?eF ?eN; (case eN => first | exact (by with_reducible assumption) | exact drop1 (by with_reducible assumption) | exact drop1 (drop1 (by with_reducible assumption)) | exact drop1 (drop1 (drop1 (by with_reducible assumption)))); (case eF => with_reducible assumption))
set_option maxRecDepth 100000 in
set_option maxHeartbeats 8000000 in
theorem parse_euro (w : World) {mean : ExcName → Option Value} {mg mb : Str → Option Value} (x : Str) (c : List Nat) (t : Tok) (nr : Nrm x (S c)) (hx : x.length ≤ 1000000) (hc : c.length ≤ 1000000) (h46 : 46 ∉ pre 64 c) (ye : YesEuro c) (h64 : 64 ∈ c)
    (dp un : Nat) (gd : Option (List Code)) (cn : Str) (cs : Scope) (a : Addr) (ccd : Value) (cl : List (Str × Addr)) (outer : List Env) (A₀ : Around) (base h₀ : Heap) (L : Addr) (m : Str → Option Value) (news : List (Addr × Obj)) (s : Shared) (Q E : Value → Shared → Prop)
    (B : Below A₀ base outer h₀) (F : Fr h₀ L s.heap m) (X : (K w.params).In h₀) (N : News h₀ L s.heap news) (T : Top qv (looseW qv looseL) mean mg mb h₀) (hk : cs.kind = .function) (hd : dp + 6 < recursionLimit) (hu : un + 60 < cLine)
    (hret : ∀ (t1 t2 : Tok) (D : Addr) (h' : Heap) (tk' : Nat), Fr h₀ L h' m → News h₀ L h' ((D, { cls := .type "tuple", data := .seq #[.str (S (pre 64 c)) t1, .str (Str.ofString "iso-8859-15") t2] }) :: news) → Q (.ref D) { s with heap := h', toks := tk' }) :
    wpAny (model rw'.row.prog w) (ktrTop dp un gd cn cs L a ccd cl outer) (call (.ref 49) [.str x t]) Q E s := by
  revert X; k_fill; intro X
  refine wpAny_call ?_
  k_dflt cell_enter
  k_steps
  all_goals (refine' hret _ _ _ _ _ ?eF ?eN; (case eN => first | exact (by with_reducible assumption) | exact drop1 (by with_reducible assumption) | exact drop1 (drop1 (by with_reducible assumption)) | exact drop1 (drop1 (drop1 (by with_reducible assumption)))); (case eF => with_reducible assumption))
set_option maxRecDepth 100000 in
set_option maxHeartbeats 8000000 in
theorem parse_C (w : World) {mean : ExcName → Option Value} {mg mb : Str → Option Value} (x : Str) (c : List Nat) (t : Tok) (nr : Nrm x (S c)) (hx : x.length ≤ 1000000) (hc : c.length ≤ 1000000) (h46 : 46 ∉ pre 64 c) (ne : NoEuro c) (hC : (S (pre 64 c) == Str.ofString "C") = true)
    (dp un : Nat) (gd : Option (List Code)) (cn : Str) (cs : Scope) (a : Addr) (ccd : Value) (cl : List (Str × Addr)) (outer : List Env) (A₀ : Around) (base h₀ : Heap) (L : Addr) (m : Str → Option Value) (news : List (Addr × Obj)) (s : Shared) (Q E : Value → Shared → Prop)
    (B : Below A₀ base outer h₀) (F : Fr h₀ L s.heap m) (X : (K w.params).In h₀) (N : News h₀ L s.heap news) (T : Top qv (looseW qv looseL) mean mg mb h₀) (hk : cs.kind = .function) (hd : dp + 6 < recursionLimit) (hu : un + 60 < cLine)
    (hret : ∀ (D : Addr) (h' : Heap) (tk' : Nat), Fr h₀ L h' m → News h₀ L h' ((D, { cls := .type "tuple", data := .seq #[.none, .none] }) :: news) → Q (.ref D) { s with heap := h', toks := tk' }) :
    wpAny (model rw'.row.prog w) (ktrTop dp un gd cn cs L a ccd cl outer) (call (.ref 49) [.str x t]) Q E s := by
  revert X; k_fill; intro X
  refine wpAny_call ?_
  k_dflt cell_enter
  k_steps
  all_goals (refine' hret _ _ _ ?eF ?eN; (case eN => first | exact (by with_reducible assumption) | exact drop1 (by with_reducible assumption) | exact drop1 (drop1 (by with_reducible assumption)) | exact drop1 (drop1 (drop1 (by with_reducible assumption)))); (case eF => with_reducible assumption))
set_option maxRecDepth 100000 in
set_option maxHeartbeats 8000000 in
theorem parse_U (w : World) {mean : ExcName → Option Value} {mg mb : Str → Option Value} (x : Str) (c : List Nat) (t : Tok) (nr : Nrm x (S c)) (hx : x.length ≤ 1000000) (hc : c.length ≤ 1000000) (h46 : 46 ∉ pre 64 c) (ne : NoEuro c) (hC : (S (pre 64 c) == Str.ofString "C") = false) (hU : (S (pre 64 c) == Str.ofString "UTF-8") = true)
    (dp un : Nat) (gd : Option (List Code)) (cn : Str) (cs : Scope) (a : Addr) (ccd : Value) (cl : List (Str × Addr)) (outer : List Env) (A₀ : Around) (base h₀ : Heap) (L : Addr) (m : Str → Option Value) (news : List (Addr × Obj)) (s : Shared) (Q E : Value → Shared → Prop)
    (B : Below A₀ base outer h₀) (F : Fr h₀ L s.heap m) (X : (K w.params).In h₀) (N : News h₀ L s.heap news) (T : Top qv (looseW qv looseL) mean mg mb h₀) (hk : cs.kind = .function) (hd : dp + 6 < recursionLimit) (hu : un + 60 < cLine)
    (hret : ∀ (t1 : Tok) (D : Addr) (h' : Heap) (tk' : Nat), Fr h₀ L h' m → News h₀ L h' ((D, { cls := .type "tuple", data := .seq #[.none, .str (Str.ofString "UTF-8") t1] }) :: news) → Q (.ref D) { s with heap := h', toks := tk' }) :
    wpAny (model rw'.row.prog w) (ktrTop dp un gd cn cs L a ccd cl outer) (call (.ref 49) [.str x t]) Q E s := by
  revert X; k_fill; intro X
  refine wpAny_call ?_
  k_dflt cell_enter
  k_steps
  all_goals (refine' hret _ _ _ _ ?eF ?eN; (case eN => first | exact (by with_reducible assumption) | exact drop1 (by with_reducible assumption) | exact drop1 (drop1 (by with_reducible assumption)) | exact drop1 (drop1 (drop1 (by with_reducible assumption)))); (case eF => with_reducible assumption))

end
section
local macro_rules | `(tactic| walk_at "call ref") => `(tactic| ((with_reducible show wpAny _ _ (call (Value.ref 42) [Value.str _ _]) _ _ _); k_dflt (refine' norm_con _ _ _ _ ?n1 _ _ _ _ _ _ _ _ _ _ _ _ _ _ _ _ _ _ ?kB ?kF ?kX ?kN ?kT ?kK ?kd ?ku ?_; (case n1 => assumption); (case kB => k_asm); (case kF => k_asm); (case kX => k_asm); (case kN => k_asm); (case kT => k_asm); (case kK => first | exact rfl | assumption); (case kd => ktr_room); (case ku => ktr_units)); intro _ _ _ F9 N9; (try dsimp only); (try k_fold)))
local macro_rules | `(tactic| walk_at "newTuple") => `(tactic| (k_here; k_dflt (refine' kup_newTuple ?F ?N ?_ ?z; (case F => k_asm); (case N => k_asm); (case z => kmk_size)); intro D' h' F' N' l1; clear l1; (try dsimp only)))
local macro_rules | `(tactic| walk_at "call ref") => `(tactic| ((with_reducible show wpAny _ _ (call (Value.ref 49) [Value.str _ _]) _ _ _); k_dflt (refine' parse_U _ _ _ _ ?nr ?hx ?hc ?h46 ?ne ?hC ?hU _ _ _ _ _ _ _ _ _ _ _ _ _ _ _ _ _ _ ?kB ?kF ?kX ?kN ?kT ?kK ?kd ?ku ?_; (case nr => with_reducible assumption); (case hx => with_reducible assumption); (case hc => with_reducible assumption); (case h46 => with_reducible assumption); (case ne => with_reducible assumption); (case hC => with_reducible assumption); (case hU => with_reducible assumption);  (case kB => k_asm); (case kF => k_asm); (case kX => k_asm); (case kN => k_asm); (case kT => k_asm); (case kK => first | exact rfl | assumption); (case kd => ktr_room); (case ku => ktr_units)); intro _ _ _ _ F9 N9; (try dsimp only); (try k_fold)))
local macro_rules | `(tactic| walk_at "call ref") => `(tactic| ((with_reducible show wpAny _ _ (call (Value.ref 49) [Value.str _ _]) _ _ _); k_dflt (refine' parse_C _ _ _ _ ?nr ?hx ?hc ?h46 ?ne ?hC _ _ _ _ _ _ _ _ _ _ _ _ _ _ _ _ _ _ ?kB ?kF ?kX ?kN ?kT ?kK ?kd ?ku ?_; (case nr => with_reducible assumption); (case hx => with_reducible assumption); (case hc => with_reducible assumption); (case h46 => with_reducible assumption); (case ne => with_reducible assumption); (case hC => with_reducible assumption);  (case kB => k_asm); (case kF => k_asm); (case kX => k_asm); (case kN => k_asm); (case kT => k_asm); (case kK => first | exact rfl | assumption); (case kd => ktr_room); (case ku => ktr_units)); intro _ _ _ F9 N9; (try dsimp only); (try k_fold)))
local macro_rules | `(tactic| walk_at "call ref") => `(tactic| ((with_reducible show wpAny _ _ (call (Value.ref 49) [Value.str _ _]) _ _ _); k_dflt (refine' parse_euro _ _ _ _ ?nr ?hx ?hc ?h46 ?ye (YesEuro.m ?ye) _ _ _ _ _ _ _ _ _ _ _ _ _ _ _ _ _ _ ?kB ?kF ?kX ?kN ?kT ?kK ?kd ?ku ?_; (case nr => with_reducible assumption); (case hx => with_reducible assumption); (case hc => with_reducible assumption); (case h46 => with_reducible assumption); (case ye => with_reducible assumption);  (case kB => k_asm); (case kF => k_asm); (case kX => k_asm); (case kN => k_asm); (case kT => k_asm); (case kK => first | exact rfl | assumption); (case kd => ktr_room); (case ku => ktr_units)); intro _ _ _ _ _ F9 N9; (try dsimp only); (try k_fold)))
local macro_rules | `(tactic| walk_at "call ref") => `(tactic| ((with_reducible show wpAny _ _ (call (Value.ref 49) [Value.str _ _]) _ _ _); k_dflt (refine' parse_two _ _ _ _ ?nr ?hx ?hc ?h46 _ _ _ _ _ _ _ _ _ _ _ _ _ _ _ _ _ _ ?kB ?kF ?kX ?kN ?kT ?kK ?kd ?ku ?_; (case nr => with_reducible assumption); (case hx => with_reducible assumption); (case hc => with_reducible assumption); (case h46 => with_reducible assumption);  (case kB => k_asm); (case kF => k_asm); (case kX => k_asm); (case kN => k_asm); (case kT => k_asm); (case kK => first | exact rfl | assumption); (case kd => ktr_room); (case ku => ktr_units)); intro _ _ _ _ _ F9 N9; (try dsimp only); (try k_fold)))
set_option maxRecDepth 100000 in
set_option maxHeartbeats 8000000 in
theorem told_two (w : World) {mean : ExcName → Option Value} {mg mb : Str → Option Value} (x : Str) (c : List Nat) (t : Tok) (nr : Nrm x (S c)) (hx : x.length ≤ 1000000) (hc : c.length ≤ 1000000) (h46 : 46 ∈ pre 64 c)
    (dp un : Nat) (gd : Option (List Code)) (cn : Str) (cs : Scope) (a : Addr) (ccd : Value) (A₀ : Around) (base h₀ : Heap) (L : Addr) (m : Str → Option Value) (news : List (Addr × Obj)) (s : Shared) (Q E : Value → Shared → Prop)
    (B : Below A₀ base [] h₀) (F : Fr h₀ L s.heap m) (X : (K w.params).In h₀) (N : News h₀ L s.heap news) (T : Top qv (looseW qv looseL) mean mg mb h₀) (hk : cs.kind = .function) (hd : dp + 8 < recursionLimit) (hu : un + 300 < cLine) (XB : (K w.params).In base) (TB : Top qv (looseW qv looseL) mean mg mb base)
    (hret : ∀ (t1 t2 : Tok) (R W : Addr) (h' : Heap) (tk' : Nat), Fr h₀ L h' m → News h₀ L h' ((R, (listOf ([.ref W] : List Value).toArray 0)) :: (W, { cls := .type "tuple", data := .seq #[.str (S (pre 46 (pre 64 c))) t1, .str (S (pre 46 (post 46 (pre 64 c)))) t2] }) :: news) → Q (.ref R) { s with heap := h', toks := tk' }) :
    wpAny (model rw'.row.prog w) (ktrTop dp un gd cn cs L a ccd [] []) (call (.ref 308) [.str x t]) Q E s := by
  revert X; k_fill; intro X
  refine wpAny_call ?_
  k_dflt (refine' code_defS0 ?k1 ?k2 ?k3 ?k4 ?k5 ?kA ?k6 ?k7 ?k8 ?k9 ?kB ?_ ?cK ?c2 ?c3 ?c4 ?c5; (case kA => exact rfl); (case k2 => k_asm); (case k1 => k_asm); (case k3 => k_asm); (case k4 => k_asm); (case k5 => k_asm); (case k6 => k_is); (case k7 => k_is); (case k8 => ktr_room); (case k9 => exact BindsTo.of_eq rfl); (case kB => exact locs rfl); (case cK => assumption); (case c2 => exact rfl); (case c3 => exact rfl); (case c4 => exact rfl); (case c5 => decide); k_whole; intro g' L' h' FG' F' N' B' X' T' D'; (try dsimp only); (try k_lift B'); (try k_fold))
  k_steps
  all_goals (exact hret _ _ _ _ _ _ (by with_reducible assumption) (by with_reducible assumption))
set_option maxRecDepth 100000 in
set_option maxHeartbeats 8000000 in
theorem told_euro (w : World) {mean : ExcName → Option Value} {mg mb : Str → Option Value} (x : Str) (c : List Nat) (t : Tok) (nr : Nrm x (S c)) (hx : x.length ≤ 1000000) (hc : c.length ≤ 1000000) (h46 : 46 ∉ pre 64 c) (ye : YesEuro c)
    (dp un : Nat) (gd : Option (List Code)) (cn : Str) (cs : Scope) (a : Addr) (ccd : Value) (A₀ : Around) (base h₀ : Heap) (L : Addr) (m : Str → Option Value) (news : List (Addr × Obj)) (s : Shared) (Q E : Value → Shared → Prop)
    (B : Below A₀ base [] h₀) (F : Fr h₀ L s.heap m) (X : (K w.params).In h₀) (N : News h₀ L s.heap news) (T : Top qv (looseW qv looseL) mean mg mb h₀) (hk : cs.kind = .function) (hd : dp + 8 < recursionLimit) (hu : un + 300 < cLine) (XB : (K w.params).In base) (TB : Top qv (looseW qv looseL) mean mg mb base)
    (hret : ∀ (t1 t2 : Tok) (R W : Addr) (h' : Heap) (tk' : Nat), Fr h₀ L h' m → News h₀ L h' ((R, (listOf ([.ref W] : List Value).toArray 0)) :: (W, { cls := .type "tuple", data := .seq #[.str (S (pre 64 c)) t1, .str (Str.ofString "iso-8859-15") t2] }) :: news) → Q (.ref R) { s with heap := h', toks := tk' }) :
    wpAny (model rw'.row.prog w) (ktrTop dp un gd cn cs L a ccd [] []) (call (.ref 308) [.str x t]) Q E s := by
  revert X; k_fill; intro X
  refine wpAny_call ?_
  k_dflt (refine' code_defS0 ?k1 ?k2 ?k3 ?k4 ?k5 ?kA ?k6 ?k7 ?k8 ?k9 ?kB ?_ ?cK ?c2 ?c3 ?c4 ?c5; (case kA => exact rfl); (case k2 => k_asm); (case k1 => k_asm); (case k3 => k_asm); (case k4 => k_asm); (case k5 => k_asm); (case k6 => k_is); (case k7 => k_is); (case k8 => ktr_room); (case k9 => exact BindsTo.of_eq rfl); (case kB => exact locs rfl); (case cK => assumption); (case c2 => exact rfl); (case c3 => exact rfl); (case c4 => exact rfl); (case c5 => decide); k_whole; intro g' L' h' FG' F' N' B' X' T' D'; (try dsimp only); (try k_lift B'); (try k_fold))
  k_steps
  all_goals (exact hret _ _ _ _ _ _ (by with_reducible assumption) (by with_reducible assumption))
set_option maxRecDepth 100000 in
set_option maxHeartbeats 8000000 in
theorem told_C (w : World) {mean : ExcName → Option Value} {mg mb : Str → Option Value} (x : Str) (c : List Nat) (t : Tok) (nr : Nrm x (S c)) (hx : x.length ≤ 1000000) (hc : c.length ≤ 1000000) (h46 : 46 ∉ pre 64 c) (ne : NoEuro c) (hC : (S (pre 64 c) == Str.ofString "C") = true)
    (dp un : Nat) (gd : Option (List Code)) (cn : Str) (cs : Scope) (a : Addr) (ccd : Value) (A₀ : Around) (base h₀ : Heap) (L : Addr) (m : Str → Option Value) (news : List (Addr × Obj)) (s : Shared) (Q E : Value → Shared → Prop)
    (B : Below A₀ base [] h₀) (F : Fr h₀ L s.heap m) (X : (K w.params).In h₀) (N : News h₀ L s.heap news) (T : Top qv (looseW qv looseL) mean mg mb h₀) (hk : cs.kind = .function) (hd : dp + 8 < recursionLimit) (hu : un + 300 < cLine) (XB : (K w.params).In base) (TB : Top qv (looseW qv looseL) mean mg mb base)
    (hret : ∀ (R W : Addr) (h' : Heap) (tk' : Nat), Fr h₀ L h' m → News h₀ L h' ((R, (listOf ([.ref W] : List Value).toArray 0)) :: (W, { cls := .type "tuple", data := .seq #[.none, .none] }) :: news) → Q (.ref R) { s with heap := h', toks := tk' }) :
    wpAny (model rw'.row.prog w) (ktrTop dp un gd cn cs L a ccd [] []) (call (.ref 308) [.str x t]) Q E s := by
  revert X; k_fill; intro X
  refine wpAny_call ?_
  k_dflt (refine' code_defS0 ?k1 ?k2 ?k3 ?k4 ?k5 ?kA ?k6 ?k7 ?k8 ?k9 ?kB ?_ ?cK ?c2 ?c3 ?c4 ?c5; (case kA => exact rfl); (case k2 => k_asm); (case k1 => k_asm); (case k3 => k_asm); (case k4 => k_asm); (case k5 => k_asm); (case k6 => k_is); (case k7 => k_is); (case k8 => ktr_room); (case k9 => exact BindsTo.of_eq rfl); (case kB => exact locs rfl); (case cK => assumption); (case c2 => exact rfl); (case c3 => exact rfl); (case c4 => exact rfl); (case c5 => decide); k_whole; intro g' L' h' FG' F' N' B' X' T' D'; (try dsimp only); (try k_lift B'); (try k_fold))
  k_steps
  all_goals (exact hret _ _ _ _ (by with_reducible assumption) (by with_reducible assumption))
set_option maxRecDepth 100000 in
set_option maxHeartbeats 8000000 in
theorem told_U (w : World) {mean : ExcName → Option Value} {mg mb : Str → Option Value} (x : Str) (c : List Nat) (t : Tok) (nr : Nrm x (S c)) (hx : x.length ≤ 1000000) (hc : c.length ≤ 1000000) (h46 : 46 ∉ pre 64 c) (ne : NoEuro c) (hC : (S (pre 64 c) == Str.ofString "C") = false) (hU : (S (pre 64 c) == Str.ofString "UTF-8") = true)
    (dp un : Nat) (gd : Option (List Code)) (cn : Str) (cs : Scope) (a : Addr) (ccd : Value) (A₀ : Around) (base h₀ : Heap) (L : Addr) (m : Str → Option Value) (news : List (Addr × Obj)) (s : Shared) (Q E : Value → Shared → Prop)
    (B : Below A₀ base [] h₀) (F : Fr h₀ L s.heap m) (X : (K w.params).In h₀) (N : News h₀ L s.heap news) (T : Top qv (looseW qv looseL) mean mg mb h₀) (hk : cs.kind = .function) (hd : dp + 8 < recursionLimit) (hu : un + 300 < cLine) (XB : (K w.params).In base) (TB : Top qv (looseW qv looseL) mean mg mb base)
    (hret : ∀ (t1 : Tok) (R W : Addr) (h' : Heap) (tk' : Nat), Fr h₀ L h' m → News h₀ L h' ((R, (listOf ([.ref W] : List Value).toArray 0)) :: (W, { cls := .type "tuple", data := .seq #[.none, .str (Str.ofString "UTF-8") t1] }) :: news) → Q (.ref R) { s with heap := h', toks := tk' }) :
    wpAny (model rw'.row.prog w) (ktrTop dp un gd cn cs L a ccd [] []) (call (.ref 308) [.str x t]) Q E s := by
  revert X; k_fill; intro X
  refine wpAny_call ?_
  k_dflt (refine' code_defS0 ?k1 ?k2 ?k3 ?k4 ?k5 ?kA ?k6 ?k7 ?k8 ?k9 ?kB ?_ ?cK ?c2 ?c3 ?c4 ?c5; (case kA => exact rfl); (case k2 => k_asm); (case k1 => k_asm); (case k3 => k_asm); (case k4 => k_asm); (case k5 => k_asm); (case k6 => k_is); (case k7 => k_is); (case k8 => ktr_room); (case k9 => exact BindsTo.of_eq rfl); (case kB => exact locs rfl); (case cK => assumption); (case c2 => exact rfl); (case c3 => exact rfl); (case c4 => exact rfl); (case c5 => decide); k_whole; intro g' L' h' FG' F' N' B' X' T' D'; (try dsimp only); (try k_lift B'); (try k_fold))
  k_steps
  all_goals (exact hret _ _ _ _ _ (by with_reducible assumption) (by with_reducible assumption))

end
section
local macro_rules | `(tactic| walk_at "call ref") => `(tactic| ((with_reducible show wpAny _ _ (call (Value.ref 42) [Value.str _ _]) _ _ _); k_dflt (refine' norm_con _ _ _ _ ?n1 _ _ _ _ _ _ _ _ _ _ _ _ _ _ _ _ _ _ ?kB ?kF ?kX ?kN ?kT ?kK ?kd ?ku ?_; (case n1 => assumption); (case kB => k_asm); (case kF => k_asm); (case kX => k_asm); (case kN => k_asm); (case kT => k_asm); (case kK => first | exact rfl | assumption); (case kd => ktr_room); (case ku => ktr_units)); intro _ _ _ F9 N9; (try dsimp only); (try k_fold)))
local macro_rules | `(tactic| walk_at "call ref") => `(tactic| ((with_reducible show wpAny _ _ (call (Value.ref 49) [Value.str _ _]) _ _ _); (refine wpAny_call ?_); k_dflt (refine' code_defS ?k1 ?k2 ?k3 ?k4 ?k5 ?XB ?TB ?D ?T0 ?kA ?k6 ?k7 ?k8 ?k9 ?kB ?_ ?cK ?c2 ?c3 ?c4 ?c5; (case kA => exact rfl); (case k2 => k_asm); (case k1 => k_asm); (case XB => assumption); (case TB => assumption); (case D => assumption); (case T0 => first | assumption | exact KtsTurn.refl); (case k3 => k_asm); (case k4 => k_asm); (case k5 => k_asm); (case k6 => k_is); (case k7 => k_is); (case k8 => ktr_room); (case k9 => exact BindsTo.of_eq rfl); (case kB => exact locs rfl); (case cK => exact rfl); (case c2 => exact rfl); (case c3 => exact rfl); (case c4 => exact rfl); (case c5 => decide); k_whole; intro g' L' h' FG' F' N' B' X' T' D'; (try dsimp only); (try k_lift B'); (try k_fold))))
local macro_rules | `(tactic| walk_at "exec Return some") => `(tactic| ((with_reducible rename Got _ _ _ _ _ => gX); (obtain ⟨_, _, _, _, N9, G9⟩ := got_in gX (by with_reducible assumption) (by with_reducible assumption)); clear gX; refine wpAny_Return_some ?_))
local macro_rules | `(tactic| walk_at "getAttr ref") => `(tactic| (k_here; (with_reducible show wpAny _ _ (getAttr (Value.ref _) ("args" : Str) _) _ _ _); k_dflt (refine' args_got_builtin PySem.F.attr_ValueError ?N (Got.more ?G _) ?_; (case G => assumption); (case N => assumption); k_whole)))
set_option maxRecDepth 100000 in
set_option maxHeartbeats 8000000 in
theorem told_no (w : World) {mean : ExcName → Option Value} {mg mb : Str → Option Value} (x : Str) (c : List Nat) (t : Tok) (nr : Nrm x (S c)) (hx : x.length ≤ 1000000) (hc : c.length ≤ 1000000) (h46 : 46 ∉ pre 64 c) (ne : NoEuro c) (hC : (S (pre 64 c) == Str.ofString "C") = false) (hU : (S (pre 64 c) == Str.ofString "UTF-8") = false)
    (dp un : Nat) (gd : Option (List Code)) (cn : Str) (cs : Scope) (a : Addr) (ccd : Value) (A₀ : Around) (base h₀ : Heap) (L : Addr) (m : Str → Option Value) (news : List (Addr × Obj)) (s : Shared) (Q E : Value → Shared → Prop)
    (B : Below A₀ base [] h₀) (F : Fr h₀ L s.heap m) (X : (K w.params).In h₀) (N : News h₀ L s.heap news) (T : Top qv (looseW qv looseL) mean mg mb h₀) (hk : cs.kind = .function) (hd : dp + 8 < recursionLimit) (hu : un + 300 < cLine) (XB : (K w.params).In base) (TB : Top qv (looseW qv looseL) mean mg mb base)
    (hret : ∀ (t1 t2 : Tok) (R : Addr) (h' : Heap) (tk' : Nat), Fr h₀ L h' m → News h₀ L h' ((R, (listOf ([.str (Str.ofString "refused") t1, .str (Str.ofString "unknown locale: " ++ x) t2] : List Value).toArray 0)) :: news) → Q (.ref R) { s with heap := h', toks := tk' }) :
    wpAny (model rw'.row.prog w) (ktrTop dp un gd cn cs L a ccd [] []) (call (.ref 308) [.str x t]) Q E s := by
  revert X; k_fill; intro X
  refine wpAny_call ?_
  k_dflt (refine' code_defS0 ?k1 ?k2 ?k3 ?k4 ?k5 ?kA ?k6 ?k7 ?k8 ?k9 ?kB ?_ ?cK ?c2 ?c3 ?c4 ?c5; (case kA => exact rfl); (case k2 => k_asm); (case k1 => k_asm); (case k3 => k_asm); (case k4 => k_asm); (case k5 => k_asm); (case k6 => k_is); (case k7 => k_is); (case k8 => ktr_room); (case k9 => exact BindsTo.of_eq rfl); (case kB => exact locs rfl); (case cK => assumption); (case c2 => exact rfl); (case c3 => exact rfl); (case c4 => exact rfl); (case c5 => decide); k_whole; intro g' L' h' FG' F' N' B' X' T' D'; (try dsimp only); (try k_lift B'); (try k_fold))
  k_steps
  all_goals (exact hret _ _ _ _ _ (by with_reducible assumption) (by first | exact drop1 (by with_reducible assumption) | exact drop1 (drop1 (by with_reducible assumption)) | exact drop1 (drop1 (drop1 (by with_reducible assumption))) | exact drop1 (drop1 (drop1 (drop1 (by with_reducible assumption)))) | exact drop1 (drop1 (drop1 (drop1 (drop1 (by with_reducible assumption))))) | exact drop1 (drop1 (drop1 (drop1 (drop1 (drop1 (by with_reducible assumption)))))) | exact drop1 (drop1 (drop1 (drop1 (drop1 (drop1 (drop1 (by with_reducible assumption)))))))))

end
section
local macro_rules | `(tactic| walk_at "newTuple") => `(tactic| (k_here; k_dflt (refine' kup_newTuple ?F ?N ?_ ?z; (case F => k_asm); (case N => k_asm); (case z => kmk_size)); intro D' h' F' N' l1; clear l1; (try dsimp only)))
local macro_rules | `(tactic| walk_at "compareOp NotEq ref ref") => `(tactic| (k_here; k_dflt (refine' ne_dataH ?r1 ?r2 ?s1 ?s2 ?hu ?_; (case r1 => ked_read); (case r2 => ked_read); (case s1 => (first | ked_shaped | (refine shaped_of ?_ (by simp only [PyData.depth, PyData.depthAll]; decide); simp only [PyData.canLay0, PyData.canLayAll0, ok_app, ok_unk, ok_iso, ok_utf, ok_ref, ok_de, ok_be, ok_en, ok_sr, ok_i1, Bool.and_true, Bool.true_and]; first | done | assumption | (simp only [Bool.and_eq_true]; (repeat' constructor) <;> assumption)))); (case s2 => (first | ked_shaped | (refine shaped_of ?_ (by simp only [PyData.depth, PyData.depthAll]; decide); simp only [PyData.canLay0, PyData.canLayAll0, ok_app, ok_unk, ok_iso, ok_utf, ok_ref, ok_de, ok_be, ok_en, ok_sr, ok_i1, Bool.and_true, Bool.true_and]; first | done | assumption | (simp only [Bool.and_eq_true]; (repeat' constructor) <;> assumption)))); (case hu => first | ktr_units | ke_room)); (try simp only [PyData.eqv, PyData.eqvAll, beq_self_eq_true, Bool.and_true, Bool.true_and, Bool.and_false, Bool.false_and, Bool.not_true, Bool.not_false])))
local macro_rules | `(tactic| walk_at "call ref") => `(tactic| ((with_reducible show wpAny _ _ (call (Value.ref 308) [Value.str _ _]) _ _ _); k_dflt (refine' told_no _ _ _ _ ?nr ?hx ?hc ?h46 ?ne ?hC ?hU _ _ _ _ _ _ _ _ _ _ _ _ _ _ _ _ ?kB ?kF ?kX ?kN ?kT ?kK ?kd ?ku ?kXB ?kTB ?_; (case nr => with_reducible assumption); (case hx => with_reducible assumption); (case hc => with_reducible assumption); (case h46 => with_reducible assumption); (case ne => with_reducible assumption); (case hC => with_reducible assumption); (case hU => with_reducible assumption);  (case kB => k_asm); (case kF => k_asm); (case kX => k_asm); (case kN => k_asm); (case kT => k_asm); (case kK => first | exact rfl | assumption); (case kd => ktr_room); (case ku => ktr_units); (case kXB => assumption); (case kTB => assumption)); intro _ _ _ _ _ F9 N9; (try dsimp only); (try k_fold)))
local macro_rules | `(tactic| walk_at "call ref") => `(tactic| ((with_reducible show wpAny _ _ (call (Value.ref 308) [Value.str _ _]) _ _ _); k_dflt (refine' told_U _ _ _ _ ?nr ?hx ?hc ?h46 ?ne ?hC ?hU _ _ _ _ _ _ _ _ _ _ _ _ _ _ _ _ ?kB ?kF ?kX ?kN ?kT ?kK ?kd ?ku ?kXB ?kTB ?_; (case nr => with_reducible assumption); (case hx => with_reducible assumption); (case hc => with_reducible assumption); (case h46 => with_reducible assumption); (case ne => with_reducible assumption); (case hC => with_reducible assumption); (case hU => with_reducible assumption);  (case kB => k_asm); (case kF => k_asm); (case kX => k_asm); (case kN => k_asm); (case kT => k_asm); (case kK => first | exact rfl | assumption); (case kd => ktr_room); (case ku => ktr_units); (case kXB => assumption); (case kTB => assumption)); intro _ _ _ _ _ F9 N9; (try dsimp only); (try k_fold)))
local macro_rules | `(tactic| walk_at "call ref") => `(tactic| ((with_reducible show wpAny _ _ (call (Value.ref 308) [Value.str _ _]) _ _ _); k_dflt (refine' told_euro _ _ _ _ ?nr ?hx ?hc ?h46 ?ye _ _ _ _ _ _ _ _ _ _ _ _ _ _ _ _ ?kB ?kF ?kX ?kN ?kT ?kK ?kd ?ku ?kXB ?kTB ?_; (case nr => with_reducible assumption); (case hx => with_reducible assumption); (case hc => with_reducible assumption); (case h46 => with_reducible assumption); (case ye => with_reducible assumption);  (case kB => k_asm); (case kF => k_asm); (case kX => k_asm); (case kN => k_asm); (case kT => k_asm); (case kK => first | exact rfl | assumption); (case kd => ktr_room); (case ku => ktr_units); (case kXB => assumption); (case kTB => assumption)); intro _ _ _ _ _ _ F9 N9; (try dsimp only); (try k_fold)))
local macro_rules | `(tactic| walk_at "call ref") => `(tactic| ((with_reducible show wpAny _ _ (call (Value.ref 308) [Value.str _ _]) _ _ _); k_dflt (refine' told_two _ _ _ _ ?nr ?hx ?hc ?h46 _ _ _ _ _ _ _ _ _ _ _ _ _ _ _ _ ?kB ?kF ?kX ?kN ?kT ?kK ?kd ?ku ?kXB ?kTB ?_; (case nr => with_reducible assumption); (case hx => with_reducible assumption); (case hc => with_reducible assumption); (case h46 => with_reducible assumption);  (case kB => k_asm); (case kF => k_asm); (case kX => k_asm); (case kN => k_asm); (case kT => k_asm); (case kK => first | exact rfl | assumption); (case kd => ktr_room); (case ku => ktr_units); (case kXB => assumption); (case kTB => assumption)); intro _ _ _ _ _ _ F9 N9; (try dsimp only); (try k_fold)))
local macro_rules | `(tactic| walk_at "call ref") => `(tactic| ((with_reducible show wpAny _ _ (call (Value.ref 294) [Value.str _ _]) _ _ _); k_dflt (refine' due_no _ _ _ ?hl ?h46 ?ne ?hU _ _ _ _ _ _ _ _ _ _ _ _ _ _ _ _ _ _ ?kB ?kF ?kX ?kN ?kT ?kK ?kd ?ku ?_; (case hl => with_reducible assumption); (case h46 => with_reducible assumption); (case ne => with_reducible assumption); (case hU => with_reducible assumption);  (case kB => k_asm); (case kF => k_asm); (case kX => k_asm); (case kN => k_asm); (case kT => k_asm); (case kK => first | exact rfl | assumption); (case kd => ktr_room); (case ku => ktr_units)); intro _ _ _ _ _ F9 N9; (try dsimp only); (try k_fold)))
local macro_rules | `(tactic| walk_at "call ref") => `(tactic| ((with_reducible show wpAny _ _ (call (Value.ref 294) [Value.str _ _]) _ _ _); k_dflt (refine' due_U _ _ _ ?hl ?h46 ?ne ?hU _ _ _ _ _ _ _ _ _ _ _ _ _ _ _ _ _ _ ?kB ?kF ?kX ?kN ?kT ?kK ?kd ?ku ?_; (case hl => with_reducible assumption); (case h46 => with_reducible assumption); (case ne => with_reducible assumption); (case hU => with_reducible assumption);  (case kB => k_asm); (case kF => k_asm); (case kX => k_asm); (case kN => k_asm); (case kT => k_asm); (case kK => first | exact rfl | assumption); (case kd => ktr_room); (case ku => ktr_units)); intro _ _ _ _ _ F9 N9; (try dsimp only); (try k_fold)))
local macro_rules | `(tactic| walk_at "call ref") => `(tactic| ((with_reducible show wpAny _ _ (call (Value.ref 294) [Value.str _ _]) _ _ _); k_dflt (refine' due_euro _ _ _ ?hl ?h46 ?ye ?h64 _ _ _ _ _ _ _ _ _ _ _ _ _ _ _ _ _ _ ?kB ?kF ?kX ?kN ?kT ?kK ?kd ?ku ?_; (case hl => with_reducible assumption); (case h46 => with_reducible assumption); (case ye => with_reducible assumption); (case h64 => with_reducible assumption);  (case kB => k_asm); (case kF => k_asm); (case kX => k_asm); (case kN => k_asm); (case kT => k_asm); (case kK => first | exact rfl | assumption); (case kd => ktr_room); (case ku => ktr_units)); intro _ _ _ _ _ _ F9 N9; (try dsimp only); (try k_fold)))
local macro_rules | `(tactic| walk_at "call ref") => `(tactic| ((with_reducible show wpAny _ _ (call (Value.ref 294) [Value.str _ _]) _ _ _); k_dflt (refine' due_two _ _ _ ?hl ?h46 _ _ _ _ _ _ _ _ _ _ _ _ _ _ _ _ _ _ ?kB ?kF ?kX ?kN ?kT ?kK ?kd ?ku ?_; (case hl => with_reducible assumption); (case h46 => with_reducible assumption);  (case kB => k_asm); (case kF => k_asm); (case kX => k_asm); (case kN => k_asm); (case kT => k_asm); (case kK => first | exact rfl | assumption); (case kd => ktr_room); (case ku => ktr_units)); intro _ _ _ _ _ _ F9 N9; (try dsimp only); (try k_fold)))
abbrev lawE (L fa : Addr) (cd : Value) : Env := envOf (Str.ofString "law") (fdS 16) L fa cd
def forB : List Stmt := match (fdB 16).getD 0 noStm with | .For _ _ b _ _ => b | _ => []
def nmIf : Stmt := forB.getD 2 noStm
set_option maxRecDepth 100000 in
set_option maxHeartbeats 8000000 in
theorem if_two (w : World) {mean : ExcName → Option Value} {mg mb : Str → Option Value} (l : List Nat) (tn : Tok) (hl : l.length ≤ 5000) (nr : Nrm (S l) (S l)) (ok : PyData.strOk (S l) = true) (h46 : 46 ∈ pre 64 l)
    (g : Heap) (L fa : Addr) (cd : Value) (m : Str → Option Value) (news : List (Addr × Obj)) (s : Shared) (Q : Flow → Shared → Prop)
    (K0 : Below callerA g [] g) (X : (K w.params).In g) (T : Top qv (looseW qv looseL) mean mg mb g)
    (F : Fr g L s.heap (fun y => if y = Str.ofString "name" then some (.str (S l) tn) else m y)) (N : News g L s.heap news)
    (hret : ∀ h' tk', Fr g L h' (fun y => if y = Str.ofString "name" then some (.str (S l) tn) else m y) → News g L h' news → Q .next { s with heap := h', toks := tk' }) :
    wpAny (model rw'.row.prog w) (callerA.deeper (lawE L fa cd)) (exec nmIf (lawE L fa cd)) Q (fun _ _ => False) s := by
  have hx : (S l).length ≤ 1000000 := S_le (by omega)
  have hc : l.length ≤ 1000000 := by omega
  have k1 : PyData.strOk (S (pre 64 l)) = true := ok_pre ok
  have k2 : PyData.strOk (S (pre 46 (pre 64 l))) = true := ok_pre (ok_pre ok)
  have k3 : PyData.strOk (S (pre 46 (post 46 (pre 64 l)))) = true := ok_pre (ok_post (ok_pre ok))
  revert X; k_fill; intro X
  conv in nmIf => whnf
  k_steps
  all_goals (exact hret _ _ (by with_reducible assumption) (by first | exact by with_reducible assumption | exact News.tail' (by with_reducible assumption) | exact News.tail' (News.tail' (by with_reducible assumption)) | exact News.tail' (News.tail' (News.tail' (by with_reducible assumption))) | exact News.tail' (News.tail' (News.tail' (News.tail' (by with_reducible assumption)))) | exact News.tail' (News.tail' (News.tail' (News.tail' (News.tail' (by with_reducible assumption))))) | exact News.tail' (News.tail' (News.tail' (News.tail' (News.tail' (News.tail' (by with_reducible assumption)))))) | exact News.tail' (News.tail' (News.tail' (News.tail' (News.tail' (News.tail' (News.tail' (by with_reducible assumption)))))))))
set_option maxRecDepth 100000 in
set_option maxHeartbeats 8000000 in
theorem if_euro (w : World) {mean : ExcName → Option Value} {mg mb : Str → Option Value} (l : List Nat) (tn : Tok) (hl : l.length ≤ 5000) (nr : Nrm (S l) (S l)) (ok : PyData.strOk (S l) = true) (h46 : 46 ∉ pre 64 l) (ye : YesEuro l) (h64 : 64 ∈ l)
    (g : Heap) (L fa : Addr) (cd : Value) (m : Str → Option Value) (news : List (Addr × Obj)) (s : Shared) (Q : Flow → Shared → Prop)
    (K0 : Below callerA g [] g) (X : (K w.params).In g) (T : Top qv (looseW qv looseL) mean mg mb g)
    (F : Fr g L s.heap (fun y => if y = Str.ofString "name" then some (.str (S l) tn) else m y)) (N : News g L s.heap news)
    (hret : ∀ h' tk', Fr g L h' (fun y => if y = Str.ofString "name" then some (.str (S l) tn) else m y) → News g L h' news → Q .next { s with heap := h', toks := tk' }) :
    wpAny (model rw'.row.prog w) (callerA.deeper (lawE L fa cd)) (exec nmIf (lawE L fa cd)) Q (fun _ _ => False) s := by
  have hx : (S l).length ≤ 1000000 := S_le (by omega)
  have hc : l.length ≤ 1000000 := by omega
  have k1 : PyData.strOk (S (pre 64 l)) = true := ok_pre ok
  have k2 : PyData.strOk (S (pre 46 (pre 64 l))) = true := ok_pre (ok_pre ok)
  have k3 : PyData.strOk (S (pre 46 (post 46 (pre 64 l)))) = true := ok_pre (ok_post (ok_pre ok))
  revert X; k_fill; intro X
  conv in nmIf => whnf
  k_steps
  all_goals (exact hret _ _ (by with_reducible assumption) (by first | exact by with_reducible assumption | exact News.tail' (by with_reducible assumption) | exact News.tail' (News.tail' (by with_reducible assumption)) | exact News.tail' (News.tail' (News.tail' (by with_reducible assumption))) | exact News.tail' (News.tail' (News.tail' (News.tail' (by with_reducible assumption)))) | exact News.tail' (News.tail' (News.tail' (News.tail' (News.tail' (by with_reducible assumption))))) | exact News.tail' (News.tail' (News.tail' (News.tail' (News.tail' (News.tail' (by with_reducible assumption)))))) | exact News.tail' (News.tail' (News.tail' (News.tail' (News.tail' (News.tail' (News.tail' (by with_reducible assumption)))))))))
set_option maxRecDepth 100000 in
set_option maxHeartbeats 8000000 in
theorem if_U (w : World) {mean : ExcName → Option Value} {mg mb : Str → Option Value} (l : List Nat) (tn : Tok) (hl : l.length ≤ 5000) (nr : Nrm (S l) (S l)) (ok : PyData.strOk (S l) = true) (hC : (S (pre 64 l) == Str.ofString "C") = false) (h46 : 46 ∉ pre 64 l) (ne : NoEuro l) (hU : (S (pre 64 l) == Str.ofString "UTF-8") = true)
    (g : Heap) (L fa : Addr) (cd : Value) (m : Str → Option Value) (news : List (Addr × Obj)) (s : Shared) (Q : Flow → Shared → Prop)
    (K0 : Below callerA g [] g) (X : (K w.params).In g) (T : Top qv (looseW qv looseL) mean mg mb g)
    (F : Fr g L s.heap (fun y => if y = Str.ofString "name" then some (.str (S l) tn) else m y)) (N : News g L s.heap news)
    (hret : ∀ h' tk', Fr g L h' (fun y => if y = Str.ofString "name" then some (.str (S l) tn) else m y) → News g L h' news → Q .next { s with heap := h', toks := tk' }) :
    wpAny (model rw'.row.prog w) (callerA.deeper (lawE L fa cd)) (exec nmIf (lawE L fa cd)) Q (fun _ _ => False) s := by
  have hx : (S l).length ≤ 1000000 := S_le (by omega)
  have hc : l.length ≤ 1000000 := by omega
  have k1 : PyData.strOk (S (pre 64 l)) = true := ok_pre ok
  have k2 : PyData.strOk (S (pre 46 (pre 64 l))) = true := ok_pre (ok_pre ok)
  have k3 : PyData.strOk (S (pre 46 (post 46 (pre 64 l)))) = true := ok_pre (ok_post (ok_pre ok))
  revert X; k_fill; intro X
  conv in nmIf => whnf
  k_steps
  all_goals (exact hret _ _ (by with_reducible assumption) (by first | exact by with_reducible assumption | exact News.tail' (by with_reducible assumption) | exact News.tail' (News.tail' (by with_reducible assumption)) | exact News.tail' (News.tail' (News.tail' (by with_reducible assumption))) | exact News.tail' (News.tail' (News.tail' (News.tail' (by with_reducible assumption)))) | exact News.tail' (News.tail' (News.tail' (News.tail' (News.tail' (by with_reducible assumption))))) | exact News.tail' (News.tail' (News.tail' (News.tail' (News.tail' (News.tail' (by with_reducible assumption)))))) | exact News.tail' (News.tail' (News.tail' (News.tail' (News.tail' (News.tail' (News.tail' (by with_reducible assumption)))))))))
set_option maxRecDepth 100000 in
set_option maxHeartbeats 8000000 in
theorem if_no (w : World) {mean : ExcName → Option Value} {mg mb : Str → Option Value} (l : List Nat) (tn : Tok) (hl : l.length ≤ 5000) (nr : Nrm (S l) (S l)) (ok : PyData.strOk (S l) = true) (hC : (S (pre 64 l) == Str.ofString "C") = false) (h46 : 46 ∉ pre 64 l) (ne : NoEuro l) (hU : (S (pre 64 l) == Str.ofString "UTF-8") = false)
    (g : Heap) (L fa : Addr) (cd : Value) (m : Str → Option Value) (news : List (Addr × Obj)) (s : Shared) (Q : Flow → Shared → Prop)
    (K0 : Below callerA g [] g) (X : (K w.params).In g) (T : Top qv (looseW qv looseL) mean mg mb g)
    (F : Fr g L s.heap (fun y => if y = Str.ofString "name" then some (.str (S l) tn) else m y)) (N : News g L s.heap news)
    (hret : ∀ h' tk', Fr g L h' (fun y => if y = Str.ofString "name" then some (.str (S l) tn) else m y) → News g L h' news → Q .next { s with heap := h', toks := tk' }) :
    wpAny (model rw'.row.prog w) (callerA.deeper (lawE L fa cd)) (exec nmIf (lawE L fa cd)) Q (fun _ _ => False) s := by
  have hx : (S l).length ≤ 1000000 := S_le (by omega)
  have hc : l.length ≤ 1000000 := by omega
  have k1 : PyData.strOk (S (pre 64 l)) = true := ok_pre ok
  have k2 : PyData.strOk (S (pre 46 (pre 64 l))) = true := ok_pre (ok_pre ok)
  have k3 : PyData.strOk (S (pre 46 (post 46 (pre 64 l)))) = true := ok_pre (ok_post (ok_pre ok))
  revert X; k_fill; intro X
  conv in nmIf => whnf
  k_steps
  all_goals (exact hret _ _ (by with_reducible assumption) (by first | exact by with_reducible assumption | exact News.tail' (by with_reducible assumption) | exact News.tail' (News.tail' (by with_reducible assumption)) | exact News.tail' (News.tail' (News.tail' (by with_reducible assumption))) | exact News.tail' (News.tail' (News.tail' (News.tail' (by with_reducible assumption)))) | exact News.tail' (News.tail' (News.tail' (News.tail' (News.tail' (by with_reducible assumption))))) | exact News.tail' (News.tail' (News.tail' (News.tail' (News.tail' (News.tail' (by with_reducible assumption)))))) | exact News.tail' (News.tail' (News.tail' (News.tail' (News.tail' (News.tail' (News.tail' (by with_reducible assumption)))))))))

end
section
def knIf : Stmt := forB.getD 4 noStm
theorem told_pair (w : World) {mean : ExcName → Option Value} {mg mb : Str → Option Value} (x : Str) (c a8 b8 : List Nat) (t : Tok) (nr : Nrm x (S c)) (hx : x.length ≤ 1000000) (hc : c.length ≤ 1000000) (h46 : 46 ∈ pre 64 c) (e1 : pre 46 (pre 64 c) = a8) (e2 : pre 46 (post 46 (pre 64 c)) = b8)
    (dp un : Nat) (gd : Option (List Code)) (cn : Str) (cs : Scope) (a : Addr) (ccd : Value) (A₀ : Around) (base h₀ : Heap) (L : Addr) (m : Str → Option Value) (news : List (Addr × Obj)) (s : Shared) (Q E : Value → Shared → Prop)
    (B : Below A₀ base [] h₀) (F : Fr h₀ L s.heap m) (X : (K w.params).In h₀) (N : News h₀ L s.heap news) (T : Top qv (looseW qv looseL) mean mg mb h₀) (hk : cs.kind = .function) (hd : dp + 8 < recursionLimit) (hu : un + 300 < cLine) (XB : (K w.params).In base) (TB : Top qv (looseW qv looseL) mean mg mb base)
    (hret : ∀ (t1 t2 : Tok) (R W : Addr) (h' : Heap) (tk' : Nat), Fr h₀ L h' m → News h₀ L h' ((R, (listOf ([.ref W] : List Value).toArray 0)) :: (W, { cls := .type "tuple", data := .seq #[.str (S a8) t1, .str (S b8) t2] }) :: news) → Q (.ref R) { s with heap := h', toks := tk' }) :
    wpAny (model rw'.row.prog w) (ktrTop dp un gd cn cs L a ccd [] []) (call (.ref 308) [.str x t]) Q E s := by
  subst e1 e2
  exact told_two w x c t nr hx hc h46 dp un gd cn cs a ccd A₀ base h₀ L m news s Q E B F X N T hk hd hu XB TB hret

end
section
local macro_rules | `(tactic| walk_at "newTuple") => `(tactic| (k_here; k_dflt (refine' kup_newTuple ?F ?N ?_ ?z; (case F => k_asm); (case N => k_asm); (case z => kmk_size)); intro D' h' F' N' l1; clear l1; (try dsimp only)))
local macro_rules | `(tactic| walk_at "compareOp NotEq ref ref") => `(tactic| (k_here; k_dflt (refine' ne_dataH ?r1 ?r2 ?s1 ?s2 ?hu ?_; (case r1 => ked_read); (case r2 => ked_read); (case s1 => (first | ked_shaped | (refine shaped_of ?_ (by simp only [PyData.depth, PyData.depthAll]; decide); simp only [PyData.canLay0, PyData.canLayAll0, ok_app, ok_unk, ok_iso, ok_utf, ok_ref, ok_de, ok_be, ok_en, ok_sr, ok_i1, Bool.and_true, Bool.true_and]; first | done | assumption | (simp only [Bool.and_eq_true]; (repeat' constructor) <;> assumption)))); (case s2 => (first | ked_shaped | (refine shaped_of ?_ (by simp only [PyData.depth, PyData.depthAll]; decide); simp only [PyData.canLay0, PyData.canLayAll0, ok_app, ok_unk, ok_iso, ok_utf, ok_ref, ok_de, ok_be, ok_en, ok_sr, ok_i1, Bool.and_true, Bool.true_and]; first | done | assumption | (simp only [Bool.and_eq_true]; (repeat' constructor) <;> assumption)))); (case hu => first | ktr_units | ke_room)); (try simp only [PyData.eqv, PyData.eqvAll, beq_self_eq_true, Bool.and_true, Bool.true_and, Bool.and_false, Bool.false_and, Bool.not_true, Bool.not_false])))
local macro_rules | `(tactic| walk_at "call ref") => `(tactic| ((with_reducible show wpAny _ _ (call (Value.ref 308) [Value.str _ _]) _ _ _); k_dflt (refine' told_C _ _ _ _ ?nr ?hx ?hc ?h46 ?ne ?hC _ _ _ _ _ _ _ _ _ _ _ _ _ _ _ _ ?kB ?kF ?kX ?kN ?kT ?kK ?kd ?ku ?kXB ?kTB ?_; (case nr => with_reducible assumption); (case hx => with_reducible assumption); (case hc => with_reducible assumption); (case h46 => with_reducible assumption); (case ne => with_reducible assumption); (case hC => with_reducible assumption);  (case kB => k_asm); (case kF => k_asm); (case kX => k_asm); (case kN => k_asm); (case kT => k_asm); (case kK => first | exact rfl | assumption); (case kd => ktr_room); (case ku => ktr_units); (case kXB => assumption); (case kTB => assumption)); intro _ _ _ _ F9 N9; (try dsimp only); (try k_fold)))
local macro_rules | `(tactic| walk_at "call ref") => `(tactic| ((with_reducible show wpAny _ _ (call (Value.ref 308) [Value.str _ _]) _ _ _); k_dflt (refine' told_pair _ _ _ _ _ _ ?nr ?hx ?hc ?h46 ?e1 ?e2 _ _ _ _ _ _ _ _ _ _ _ _ _ _ _ _ ?kB ?kF ?kX ?kN ?kT ?kK ?kd ?ku ?kXB ?kTB ?_; (case nr => with_reducible assumption); (case hx => with_reducible assumption); (case hc => with_reducible assumption); (case h46 => with_reducible assumption); (case e1 => with_reducible assumption); (case e2 => with_reducible assumption);  (case kB => k_asm); (case kF => k_asm); (case kX => k_asm); (case kN => k_asm); (case kT => k_asm); (case kK => first | exact rfl | assumption); (case kd => ktr_room); (case ku => ktr_units); (case kXB => assumption); (case kTB => assumption)); intro _ _ _ _ _ _ F9 N9; (try dsimp only); (try k_fold)))
set_option maxRecDepth 100000 in
set_option maxHeartbeats 8000000 in
theorem kn_C (w : World) {mean : ExcName → Option Value} {mg mb : Str → Option Value} (nm : Str) (c : List Nat)  (tn : Tok) (D2 P : Addr) (nr : Nrm nm (S c)) (hx : nm.length ≤ 1000000) (hc : c.length ≤ 1000000) (h46 : 46 ∉ pre 64 c) (ne : NoEuro c) (hC : (S (pre 64 c) == Str.ofString "C") = true)
    (g : Heap) (L fa : Addr) (cd : Value) (m : Str → Option Value) (news : List (Addr × Obj)) (s : Shared) (Q : Flow → Shared → Prop)
    (K0 : Below callerA g [] g) (X : (K w.params).In g) (T : Top qv (looseW qv looseL) mean mg mb g)
    (F : Fr g L s.heap (fun y => if y = Str.ofString "due" then some (.ref D2) else if y = Str.ofString "known" then some (.str nm tn) else m y)) (N : News g L s.heap ((D2, (listOf ([.ref P] : List Value).toArray 0)) :: (P, { cls := .type "tuple", data := .seq #[.none, .none] }) :: news))
    (hret : ∀ h' tk', Fr g L h' (fun y => if y = Str.ofString "due" then some (.ref D2) else if y = Str.ofString "known" then some (.str nm tn) else m y) → News g L h' ((D2, (listOf ([.ref P] : List Value).toArray 0)) :: (P, { cls := .type "tuple", data := .seq #[.none, .none] }) :: news) → Q .next { s with heap := h', toks := tk' }) :
    wpAny (model rw'.row.prog w) (callerA.deeper (lawE L fa cd)) (exec knIf (lawE L fa cd)) Q (fun _ _ => False) s := by
  revert X; k_fill; intro X
  conv in knIf => whnf
  k_steps
  all_goals (exact hret _ _ (by with_reducible assumption) (by first | exact by with_reducible assumption | exact News.tail' (by with_reducible assumption) | exact News.tail' (News.tail' (by with_reducible assumption)) | exact News.tail' (News.tail' (News.tail' (by with_reducible assumption)))))
set_option maxRecDepth 100000 in
set_option maxHeartbeats 8000000 in
theorem kn_two (w : World) {mean : ExcName → Option Value} {mg mb : Str → Option Value} (nm : Str) (c : List Nat) (a b : List Nat) (t1 t2 : Tok) (tn : Tok) (D2 P : Addr) (nr : Nrm nm (S c)) (hx : nm.length ≤ 1000000) (hc : c.length ≤ 1000000) (h46 : 46 ∈ pre 64 c) (e1 : pre 46 (pre 64 c) = a) (e2 : pre 46 (post 46 (pre 64 c)) = b) (oa : PyData.strOk (S a) = true) (ob : PyData.strOk (S b) = true)
    (g : Heap) (L fa : Addr) (cd : Value) (m : Str → Option Value) (news : List (Addr × Obj)) (s : Shared) (Q : Flow → Shared → Prop)
    (K0 : Below callerA g [] g) (X : (K w.params).In g) (T : Top qv (looseW qv looseL) mean mg mb g)
    (F : Fr g L s.heap (fun y => if y = Str.ofString "due" then some (.ref D2) else if y = Str.ofString "known" then some (.str nm tn) else m y)) (N : News g L s.heap ((D2, (listOf ([.ref P] : List Value).toArray 0)) :: (P, { cls := .type "tuple", data := .seq #[.str (S a) t1, .str (S b) t2] }) :: news))
    (hret : ∀ h' tk', Fr g L h' (fun y => if y = Str.ofString "due" then some (.ref D2) else if y = Str.ofString "known" then some (.str nm tn) else m y) → News g L h' ((D2, (listOf ([.ref P] : List Value).toArray 0)) :: (P, { cls := .type "tuple", data := .seq #[.str (S a) t1, .str (S b) t2] }) :: news) → Q .next { s with heap := h', toks := tk' }) :
    wpAny (model rw'.row.prog w) (callerA.deeper (lawE L fa cd)) (exec knIf (lawE L fa cd)) Q (fun _ _ => False) s := by
  revert X; k_fill; intro X
  conv in knIf => whnf
  k_steps
  all_goals (exact hret _ _ (by with_reducible assumption) (by first | exact by with_reducible assumption | exact News.tail' (by with_reducible assumption) | exact News.tail' (News.tail' (by with_reducible assumption)) | exact News.tail' (News.tail' (News.tail' (by with_reducible assumption)))))

end
section
theorem nk0a : Nrm (Str.ofString "c") (S [67]) := ⟨[99], by kernel_rfl, by decide, by decide, .inr ⟨by kernel_rfl⟩⟩
theorem nk0b : Nrm (Str.ofString "C") (S [67]) := ⟨[99], by kernel_rfl, by decide, by decide, .inr ⟨by kernel_rfl⟩⟩
theorem nk0 {nm : Str} (h : nm = Str.ofString "c" ∨ nm = Str.ofString "C") : Nrm nm (S [67]) := by
  rcases h with rfl | rfl
  · exact nk0a
  · exact nk0b
theorem nl0 {nm : Str} (h : nm = Str.ofString "c" ∨ nm = Str.ofString "C") : nm.length ≤ 1000000 := by
  rcases h with rfl | rfl <;> decide +kernel
theorem nk1a : Nrm (Str.ofString "posix") (S [67]) := ⟨[112, 111, 115, 105, 120], by kernel_rfl, by decide, by decide, .inr ⟨by kernel_rfl⟩⟩
theorem nk1b : Nrm (Str.ofString "POSIX") (S [67]) := ⟨[112, 111, 115, 105, 120], by kernel_rfl, by decide, by decide, .inr ⟨by kernel_rfl⟩⟩
theorem nk1 {nm : Str} (h : nm = Str.ofString "posix" ∨ nm = Str.ofString "POSIX") : Nrm nm (S [67]) := by
  rcases h with rfl | rfl
  · exact nk1a
  · exact nk1b
theorem nl1 {nm : Str} (h : nm = Str.ofString "posix" ∨ nm = Str.ofString "POSIX") : nm.length ≤ 1000000 := by
  rcases h with rfl | rfl <;> decide +kernel
theorem nk2a : Nrm (Str.ofString "de") (S [100, 101, 95, 68, 69, 46, 73, 83, 79, 56, 56, 53, 57, 45, 49]) := ⟨[100, 101], by kernel_rfl, by decide, by decide, .inr ⟨by kernel_rfl⟩⟩
theorem nk2b : Nrm (Str.ofString "DE") (S [100, 101, 95, 68, 69, 46, 73, 83, 79, 56, 56, 53, 57, 45, 49]) := ⟨[100, 101], by kernel_rfl, by decide, by decide, .inr ⟨by kernel_rfl⟩⟩
theorem nk2 {nm : Str} (h : nm = Str.ofString "de" ∨ nm = Str.ofString "DE") : Nrm nm (S [100, 101, 95, 68, 69, 46, 73, 83, 79, 56, 56, 53, 57, 45, 49]) := by
  rcases h with rfl | rfl
  · exact nk2a
  · exact nk2b
theorem nl2 {nm : Str} (h : nm = Str.ofString "de" ∨ nm = Str.ofString "DE") : nm.length ≤ 1000000 := by
  rcases h with rfl | rfl <;> decide +kernel
theorem nk3a : Nrm (Str.ofString "be@latin") (S [98, 101, 95, 66, 89, 46, 85, 84, 70, 45, 56, 64, 108, 97, 116, 105, 110]) := ⟨[98, 101, 64, 108, 97, 116, 105, 110], by kernel_rfl, by decide, by decide, .inr ⟨by kernel_rfl⟩⟩
theorem nk3b : Nrm (Str.ofString "BE@LATIN") (S [98, 101, 95, 66, 89, 46, 85, 84, 70, 45, 56, 64, 108, 97, 116, 105, 110]) := ⟨[98, 101, 64, 108, 97, 116, 105, 110], by kernel_rfl, by decide, by decide, .inr ⟨by kernel_rfl⟩⟩
theorem nk3 {nm : Str} (h : nm = Str.ofString "be@latin" ∨ nm = Str.ofString "BE@LATIN") : Nrm nm (S [98, 101, 95, 66, 89, 46, 85, 84, 70, 45, 56, 64, 108, 97, 116, 105, 110]) := by
  rcases h with rfl | rfl
  · exact nk3a
  · exact nk3b
theorem nl3 {nm : Str} (h : nm = Str.ofString "be@latin" ∨ nm = Str.ofString "BE@LATIN") : nm.length ≤ 1000000 := by
  rcases h with rfl | rfl <;> decide +kernel
theorem nk4a : Nrm (Str.ofString "c.iso-8859-1:x") (S [101, 110, 95, 85, 83, 46, 73, 83, 79, 56, 56, 53, 57, 45, 49]) := ⟨[99, 46, 105, 115, 111, 45, 56, 56, 53, 57, 45, 49, 58, 120], by kernel_rfl, by decide, by decide, .inr ⟨by kernel_rfl⟩⟩
theorem nk4b : Nrm (Str.ofString "C.ISO-8859-1:X") (S [101, 110, 95, 85, 83, 46, 73, 83, 79, 56, 56, 53, 57, 45, 49]) := ⟨[99, 46, 105, 115, 111, 45, 56, 56, 53, 57, 45, 49, 58, 120], by kernel_rfl, by decide, by decide, .inr ⟨by kernel_rfl⟩⟩
theorem nk4 {nm : Str} (h : nm = Str.ofString "c.iso-8859-1:x" ∨ nm = Str.ofString "C.ISO-8859-1:X") : Nrm nm (S [101, 110, 95, 85, 83, 46, 73, 83, 79, 56, 56, 53, 57, 45, 49]) := by
  rcases h with rfl | rfl
  · exact nk4a
  · exact nk4b
theorem nl4 {nm : Str} (h : nm = Str.ofString "c.iso-8859-1:x" ∨ nm = Str.ofString "C.ISO-8859-1:X") : nm.length ≤ 1000000 := by
  rcases h with rfl | rfl <;> decide +kernel
theorem nk5a : Nrm (Str.ofString "sh") (S [115, 114, 95, 82, 83, 46, 85, 84, 70, 45, 56, 64, 108, 97, 116, 105, 110]) := ⟨[115, 104], by kernel_rfl, by decide, by decide, .inr ⟨by kernel_rfl⟩⟩
theorem nk5b : Nrm (Str.ofString "SH") (S [115, 114, 95, 82, 83, 46, 85, 84, 70, 45, 56, 64, 108, 97, 116, 105, 110]) := ⟨[115, 104], by kernel_rfl, by decide, by decide, .inr ⟨by kernel_rfl⟩⟩
theorem nk5 {nm : Str} (h : nm = Str.ofString "sh" ∨ nm = Str.ofString "SH") : Nrm nm (S [115, 114, 95, 82, 83, 46, 85, 84, 70, 45, 56, 64, 108, 97, 116, 105, 110]) := by
  rcases h with rfl | rfl
  · exact nk5a
  · exact nk5b
theorem nl5 {nm : Str} (h : nm = Str.ofString "sh" ∨ nm = Str.ofString "SH") : nm.length ≤ 1000000 := by
  rcases h with rfl | rfl <;> decide +kernel
set_option maxRecDepth 100000 in
theorem kn_use0 (w : World) {mean : ExcName → Option Value} {mg mb : Str → Option Value} {nm : Str} {tn : Tok} {D2 P : Addr} (hnm : nm = Str.ofString "c" ∨ nm = Str.ofString "C")
    {g : Heap} {L fa : Addr} {cd : Value} {m : Str → Option Value} {news : List (Addr × Obj)} {s : Shared} {Q : Flow → Shared → Prop}
    (K0 : Below callerA g [] g) (X : (K w.params).In g) (T : Top qv (looseW qv looseL) mean mg mb g)
    (F : Fr g L s.heap (fun y => if y = Str.ofString "due" then some (.ref D2) else if y = Str.ofString "known" then some (.str nm tn) else m y)) (N : News g L s.heap ((D2, (listOf ([.ref P] : List Value).toArray 0)) :: (P, { cls := .type "tuple", data := .seq #[.none, .none] }) :: news))
    (hret : ∀ h' tk', Fr g L h' (fun y => if y = Str.ofString "due" then some (.ref D2) else if y = Str.ofString "known" then some (.str nm tn) else m y) → News g L h' ((D2, (listOf ([.ref P] : List Value).toArray 0)) :: (P, { cls := .type "tuple", data := .seq #[.none, .none] }) :: news) → Q .next { s with heap := h', toks := tk' }) :
    wpAny (model rw'.row.prog w) (callerA.deeper (lawE L fa cd)) (exec knIf (lawE L fa cd)) Q (fun _ _ => False) s := by
  exact kn_C w nm [67] tn D2 P (nk0 hnm) (nl0 hnm) (by decide) (by decide) ⟨fun h => absurd h (by decide)⟩ (by decide +kernel) g L fa cd m news s Q K0 X T F N hret
set_option maxRecDepth 100000 in
theorem kn_use1 (w : World) {mean : ExcName → Option Value} {mg mb : Str → Option Value} {nm : Str} {tn : Tok} {D2 P : Addr} (hnm : nm = Str.ofString "posix" ∨ nm = Str.ofString "POSIX")
    {g : Heap} {L fa : Addr} {cd : Value} {m : Str → Option Value} {news : List (Addr × Obj)} {s : Shared} {Q : Flow → Shared → Prop}
    (K0 : Below callerA g [] g) (X : (K w.params).In g) (T : Top qv (looseW qv looseL) mean mg mb g)
    (F : Fr g L s.heap (fun y => if y = Str.ofString "due" then some (.ref D2) else if y = Str.ofString "known" then some (.str nm tn) else m y)) (N : News g L s.heap ((D2, (listOf ([.ref P] : List Value).toArray 0)) :: (P, { cls := .type "tuple", data := .seq #[.none, .none] }) :: news))
    (hret : ∀ h' tk', Fr g L h' (fun y => if y = Str.ofString "due" then some (.ref D2) else if y = Str.ofString "known" then some (.str nm tn) else m y) → News g L h' ((D2, (listOf ([.ref P] : List Value).toArray 0)) :: (P, { cls := .type "tuple", data := .seq #[.none, .none] }) :: news) → Q .next { s with heap := h', toks := tk' }) :
    wpAny (model rw'.row.prog w) (callerA.deeper (lawE L fa cd)) (exec knIf (lawE L fa cd)) Q (fun _ _ => False) s := by
  exact kn_C w nm [67] tn D2 P (nk1 hnm) (nl1 hnm) (by decide) (by decide) ⟨fun h => absurd h (by decide)⟩ (by decide +kernel) g L fa cd m news s Q K0 X T F N hret
set_option maxRecDepth 100000 in
theorem kn_use2 (w : World) {mean : ExcName → Option Value} {mg mb : Str → Option Value} {nm : Str} {tn t1 t2 : Tok} {D2 P : Addr} (hnm : nm = Str.ofString "de" ∨ nm = Str.ofString "DE")
    {g : Heap} {L fa : Addr} {cd : Value} {m : Str → Option Value} {news : List (Addr × Obj)} {s : Shared} {Q : Flow → Shared → Prop}
    (K0 : Below callerA g [] g) (X : (K w.params).In g) (T : Top qv (looseW qv looseL) mean mg mb g)
    (F : Fr g L s.heap (fun y => if y = Str.ofString "due" then some (.ref D2) else if y = Str.ofString "known" then some (.str nm tn) else m y)) (N : News g L s.heap ((D2, (listOf ([.ref P] : List Value).toArray 0)) :: (P, { cls := .type "tuple", data := .seq #[.str (Str.ofString "de_DE") t1, .str (Str.ofString "ISO8859-1") t2] }) :: news))
    (hret : ∀ h' tk', Fr g L h' (fun y => if y = Str.ofString "due" then some (.ref D2) else if y = Str.ofString "known" then some (.str nm tn) else m y) → News g L h' ((D2, (listOf ([.ref P] : List Value).toArray 0)) :: (P, { cls := .type "tuple", data := .seq #[.str (Str.ofString "de_DE") t1, .str (Str.ofString "ISO8859-1") t2] }) :: news) → Q .next { s with heap := h', toks := tk' }) :
    wpAny (model rw'.row.prog w) (callerA.deeper (lawE L fa cd)) (exec knIf (lawE L fa cd)) Q (fun _ _ => False) s := by
  have e1 : Str.ofString "de_DE" = S [100, 101, 95, 68, 69] := by kernel_rfl
  have e2 : Str.ofString "ISO8859-1" = S [73, 83, 79, 56, 56, 53, 57, 45, 49] := by kernel_rfl
  rw [e1, e2] at N
  exact kn_two w nm [100, 101, 95, 68, 69, 46, 73, 83, 79, 56, 56, 53, 57, 45, 49] [100, 101, 95, 68, 69] [73, 83, 79, 56, 56, 53, 57, 45, 49] t1 t2 tn D2 P (nk2 hnm) (nl2 hnm) (by decide) (by decide) (by decide) (by decide) (by decide +kernel) (by decide +kernel) g L fa cd m news s Q K0 X T F N fun h' tk' F' N' => hret h' tk' F' (by rw [e1, e2]; exact N')
set_option maxRecDepth 100000 in
theorem kn_use3 (w : World) {mean : ExcName → Option Value} {mg mb : Str → Option Value} {nm : Str} {tn t1 t2 : Tok} {D2 P : Addr} (hnm : nm = Str.ofString "be@latin" ∨ nm = Str.ofString "BE@LATIN")
    {g : Heap} {L fa : Addr} {cd : Value} {m : Str → Option Value} {news : List (Addr × Obj)} {s : Shared} {Q : Flow → Shared → Prop}
    (K0 : Below callerA g [] g) (X : (K w.params).In g) (T : Top qv (looseW qv looseL) mean mg mb g)
    (F : Fr g L s.heap (fun y => if y = Str.ofString "due" then some (.ref D2) else if y = Str.ofString "known" then some (.str nm tn) else m y)) (N : News g L s.heap ((D2, (listOf ([.ref P] : List Value).toArray 0)) :: (P, { cls := .type "tuple", data := .seq #[.str (Str.ofString "be_BY") t1, .str (Str.ofString "UTF-8") t2] }) :: news))
    (hret : ∀ h' tk', Fr g L h' (fun y => if y = Str.ofString "due" then some (.ref D2) else if y = Str.ofString "known" then some (.str nm tn) else m y) → News g L h' ((D2, (listOf ([.ref P] : List Value).toArray 0)) :: (P, { cls := .type "tuple", data := .seq #[.str (Str.ofString "be_BY") t1, .str (Str.ofString "UTF-8") t2] }) :: news) → Q .next { s with heap := h', toks := tk' }) :
    wpAny (model rw'.row.prog w) (callerA.deeper (lawE L fa cd)) (exec knIf (lawE L fa cd)) Q (fun _ _ => False) s := by
  have e1 : Str.ofString "be_BY" = S [98, 101, 95, 66, 89] := by kernel_rfl
  have e2 : Str.ofString "UTF-8" = S [85, 84, 70, 45, 56] := by kernel_rfl
  rw [e1, e2] at N
  exact kn_two w nm [98, 101, 95, 66, 89, 46, 85, 84, 70, 45, 56, 64, 108, 97, 116, 105, 110] [98, 101, 95, 66, 89] [85, 84, 70, 45, 56] t1 t2 tn D2 P (nk3 hnm) (nl3 hnm) (by decide) (by decide) (by decide) (by decide) (by decide +kernel) (by decide +kernel) g L fa cd m news s Q K0 X T F N fun h' tk' F' N' => hret h' tk' F' (by rw [e1, e2]; exact N')
set_option maxRecDepth 100000 in
theorem kn_use4 (w : World) {mean : ExcName → Option Value} {mg mb : Str → Option Value} {nm : Str} {tn t1 t2 : Tok} {D2 P : Addr} (hnm : nm = Str.ofString "c.iso-8859-1:x" ∨ nm = Str.ofString "C.ISO-8859-1:X")
    {g : Heap} {L fa : Addr} {cd : Value} {m : Str → Option Value} {news : List (Addr × Obj)} {s : Shared} {Q : Flow → Shared → Prop}
    (K0 : Below callerA g [] g) (X : (K w.params).In g) (T : Top qv (looseW qv looseL) mean mg mb g)
    (F : Fr g L s.heap (fun y => if y = Str.ofString "due" then some (.ref D2) else if y = Str.ofString "known" then some (.str nm tn) else m y)) (N : News g L s.heap ((D2, (listOf ([.ref P] : List Value).toArray 0)) :: (P, { cls := .type "tuple", data := .seq #[.str (Str.ofString "en_US") t1, .str (Str.ofString "ISO8859-1") t2] }) :: news))
    (hret : ∀ h' tk', Fr g L h' (fun y => if y = Str.ofString "due" then some (.ref D2) else if y = Str.ofString "known" then some (.str nm tn) else m y) → News g L h' ((D2, (listOf ([.ref P] : List Value).toArray 0)) :: (P, { cls := .type "tuple", data := .seq #[.str (Str.ofString "en_US") t1, .str (Str.ofString "ISO8859-1") t2] }) :: news) → Q .next { s with heap := h', toks := tk' }) :
    wpAny (model rw'.row.prog w) (callerA.deeper (lawE L fa cd)) (exec knIf (lawE L fa cd)) Q (fun _ _ => False) s := by
  have e1 : Str.ofString "en_US" = S [101, 110, 95, 85, 83] := by kernel_rfl
  have e2 : Str.ofString "ISO8859-1" = S [73, 83, 79, 56, 56, 53, 57, 45, 49] := by kernel_rfl
  rw [e1, e2] at N
  exact kn_two w nm [101, 110, 95, 85, 83, 46, 73, 83, 79, 56, 56, 53, 57, 45, 49] [101, 110, 95, 85, 83] [73, 83, 79, 56, 56, 53, 57, 45, 49] t1 t2 tn D2 P (nk4 hnm) (nl4 hnm) (by decide) (by decide) (by decide) (by decide) (by decide +kernel) (by decide +kernel) g L fa cd m news s Q K0 X T F N fun h' tk' F' N' => hret h' tk' F' (by rw [e1, e2]; exact N')
set_option maxRecDepth 100000 in
theorem kn_use5 (w : World) {mean : ExcName → Option Value} {mg mb : Str → Option Value} {nm : Str} {tn t1 t2 : Tok} {D2 P : Addr} (hnm : nm = Str.ofString "sh" ∨ nm = Str.ofString "SH")
    {g : Heap} {L fa : Addr} {cd : Value} {m : Str → Option Value} {news : List (Addr × Obj)} {s : Shared} {Q : Flow → Shared → Prop}
    (K0 : Below callerA g [] g) (X : (K w.params).In g) (T : Top qv (looseW qv looseL) mean mg mb g)
    (F : Fr g L s.heap (fun y => if y = Str.ofString "due" then some (.ref D2) else if y = Str.ofString "known" then some (.str nm tn) else m y)) (N : News g L s.heap ((D2, (listOf ([.ref P] : List Value).toArray 0)) :: (P, { cls := .type "tuple", data := .seq #[.str (Str.ofString "sr_RS") t1, .str (Str.ofString "UTF-8") t2] }) :: news))
    (hret : ∀ h' tk', Fr g L h' (fun y => if y = Str.ofString "due" then some (.ref D2) else if y = Str.ofString "known" then some (.str nm tn) else m y) → News g L h' ((D2, (listOf ([.ref P] : List Value).toArray 0)) :: (P, { cls := .type "tuple", data := .seq #[.str (Str.ofString "sr_RS") t1, .str (Str.ofString "UTF-8") t2] }) :: news) → Q .next { s with heap := h', toks := tk' }) :
    wpAny (model rw'.row.prog w) (callerA.deeper (lawE L fa cd)) (exec knIf (lawE L fa cd)) Q (fun _ _ => False) s := by
  have e1 : Str.ofString "sr_RS" = S [115, 114, 95, 82, 83] := by kernel_rfl
  have e2 : Str.ofString "UTF-8" = S [85, 84, 70, 45, 56] := by kernel_rfl
  rw [e1, e2] at N
  exact kn_two w nm [115, 114, 95, 82, 83, 46, 85, 84, 70, 45, 56, 64, 108, 97, 116, 105, 110] [115, 114, 95, 82, 83] [85, 84, 70, 45, 56] t1 t2 tn D2 P (nk5 hnm) (nl5 hnm) (by decide) (by decide) (by decide) (by decide) (by decide +kernel) (by decide +kernel) g L fa cd m news s Q K0 X T F N fun h' tk' F' N' => hret h' tk' F' (by rw [e1, e2]; exact N')
theorem yes_euro {l : List Nat} (h : 64 ∈ l ∧ (S (post 64 l) == Str.ofString "euro") = true) : YesEuro l := ⟨h.1, h.2⟩
theorem no_euro {l : List Nat} (h : ¬ (64 ∈ l ∧ (S (post 64 l) == Str.ofString "euro") = true)) : NoEuro l := ⟨fun h64 => by
  cases e : S (post 64 l) == Str.ofString "euro"
  · rfl
  · exact absurd ⟨h64, e⟩ h⟩
set_option maxRecDepth 100000 in
theorem if_all (w : World) {mean : ExcName → Option Value} {mg mb : Str → Option Value} {l : List Nat} {tn : Tok} (hl : l.length ≤ 5000) (nr : Nrm (S l) (S l)) (ok : PyData.strOk (S l) = true) (hC : (S (pre 64 l) == Str.ofString "C") = false)
    {g : Heap} {L fa : Addr} {cd : Value} {m : Str → Option Value} {news : List (Addr × Obj)} {s : Shared} {Q : Flow → Shared → Prop}
    (K0 : Below callerA g [] g) (X : (K w.params).In g) (T : Top qv (looseW qv looseL) mean mg mb g)
    (F : Fr g L s.heap (fun y => if y = Str.ofString "name" then some (.str (S l) tn) else m y)) (N : News g L s.heap news)
    (hret : ∀ h' tk', Fr g L h' (fun y => if y = Str.ofString "name" then some (.str (S l) tn) else m y) → News g L h' news → Q .next { s with heap := h', toks := tk' }) :
    wpAny (model rw'.row.prog w) (callerA.deeper (lawE L fa cd)) (exec nmIf (lawE L fa cd)) Q (fun _ _ => False) s := by
  by_cases h46 : 46 ∈ pre 64 l
  · exact if_two w l tn hl nr ok h46 g L fa cd m news s Q K0 X T F N hret
  · by_cases he : 64 ∈ l ∧ (S (post 64 l) == Str.ofString "euro") = true
    · exact if_euro w l tn hl nr ok h46 (yes_euro he) he.1 g L fa cd m news s Q K0 X T F N hret
    · cases hU : S (pre 64 l) == Str.ofString "UTF-8"
      · exact if_no w l tn hl nr ok hC h46 (no_euro he) hU g L fa cd m news s Q K0 X T F N hret
      · exact if_U w l tn hl nr ok hC h46 (no_euro he) hU g L fa cd m news s Q K0 X T F N hret
theorem ints_take9 : ∀ {vs : List Value} {ns : List Int}, IntsAre vs ns → ∀ i : Nat, IntsAre (vs.take i) (ns.take i)
  | _, _, .nil, i => by simp; exact .nil
  | _, _, .cons a t h, 0 => .nil
  | _, _, .cons a t h, i + 1 => .cons a t (ints_take9 h i)
theorem pick_ints (vs : List Value) (i : Nat) : (slicePick vs.toArray none (some (i : Int)) none).toList = vs.take i := by
  rw [kms_pick_eq]
  unfold kms_pick kms_lo kms_hi
  have h : ¬ ((i : Int) < 0) := by omega
  simp only [if_neg h, Int.toNat_natCast, List.drop_zero, Nat.sub_zero]
  exact kmk_take_min _ _
theorem slice_ints {prog : Program} {w : World} {A : Around} {E : Value → Shared → Prop} {s : Shared} {h₀ : Heap} {L : Addr} {m : Str → Option Value} {news : List (Addr × Obj)} {value slice : PySem.Expr} {D : Addr} {vs : List Value} {ns : List Int} {i : Nat} {k : Tok} {Q : Value → Shared → Prop}
    (hI : IntsAre vs ns) (hl : h₀.IsList D vs.toArray) (hc : ns.length ≤ 100000) (F : Fr h₀ L s.heap m) (N : News h₀ L s.heap news)
    (h : ∀ D' h', IntsAre (vs.take i) (ns.take i) → Fr h₀ L h' m → News h₀ L h' ((D', listOf (vs.take i).toArray 0) :: news) → Q (.ref D') { s with heap := h' })
    (hs : subscripted slice false (.ref D) (.ref s.heap.objs.size) = operate [.ref s.heap.objs.size, .ref D] (getItem (.ref D) (.ref s.heap.objs.size))) (ht : ∀ r, letTemporaryGo value (.ref D) r = pure ()) :
    wpAny (model prog w) A (subscriptTail value slice (.ref D) (.ref s.heap.objs.size)) Q E { s with heap := s.heap.push { cls := .type "slice", data := .fields #[.none, .int (i : Int) k, .none] } } :=
  kmk_slice_lit F N (hl.at fun o e => F.keep D o e) .none (.int _ _) (pick_ints vs i) (fun D' h' F' N' _ => h D' h' (ints_take9 hI i) F' N') hs ht (by have := hI.length; rw [List.size_toArray]; unfold sizeLine; omega)

end
section
local macro_rules | `(tactic| walk_at "newTuple") => `(tactic| (k_here; k_dflt (refine' kup_newTuple ?F ?N ?_ ?z; (case F => k_asm); (case N => k_asm); (case z => kmk_size)); intro D' h' F' N' l1; clear l1; (try dsimp only)))
local macro_rules | `(tactic| walk_at "call ref") => `(tactic| ((with_reducible show wpAny _ _ (call (Value.ref 280) [Value.ref _]) _ _ _); k_dflt (refine' name_con _ _ _ _ _ ?hI ?hne ?hle _ _ _ _ _ _ _ _ _ _ _ _ _ _ _ _ _ _ ?kB ?kF ?kX ?kN ?kT ?kK ?kd ?ku ?_;  (case kB => k_asm); (case kF => k_asm); (case kX => k_asm); (case kN => k_asm); (case kT => k_asm); (case kK => first | exact rfl | assumption); (case kd => ktr_room); (case ku => ktr_units); (case hI => first | exact IntsAre.cons _ _ IntsAre.nil | with_reducible assumption); (case hne => first | decide | (simp only [List.length_take]; omega)); (case hle => first | decide | (simp only [List.length_take]; omega))); intro _ _ _ F9 N9; (try dsimp only); (try k_fold)))
local macro_rules | `(tactic| walk_at "subscriptTail Name Slice ref ref") => `(tactic| ((with_reducible show wpAny _ _ (subscriptTail _ (PySem.Expr.Slice none (some (Expr.Name _ _)) none _) (Value.ref _) (Value.ref _)) _ _ _); (with_reducible rename Fr _ _ _ _ => F'); (with_reducible rename News _ _ _ _ => N'); (with_reducible rename Heap.IsList _ _ _ => hL9); (with_reducible rename IntsAre _ _ => hI9); k_dflt (refine' slice_ints hI9 hL9 ?hc F' N' ?_ ?hs ?ht; (case hc => omega); (case hs => with_unfolding_all rfl); (case ht => (intro _; with_unfolding_all rfl))); intro D9 h9 hI8 F9 N9))
local macro_rules | `(tactic| walk_at "exec If") => `(tactic| ((with_reducible show wpAny _ _ (exec (Stmt.If (Expr.Compare (Expr.Call (Expr.Name (Str.ofString "_law_told") _) [Expr.Name (Str.ofString "name") _] _ _) _ _ _) _ _ _) _) _ _ _); (with_reducible rename Fr _ _ _ _ => F'); (with_reducible rename News _ _ _ _ => N'); k_dflt (refine' if_all _ ?a1 ?a2 (ok_name _) (name_C _) ?a3 ?a4 ?a5 F' N' ?_; (case a1 => exact Nat.le_trans (nameL_len (by first | decide | (simp only [List.length_take]; omega))) (by decide)); (case a2 => exact nrm_name _ (by first | decide | (simp only [List.length_take]; omega))); (case a3 => assumption); (case a4 => assumption); (case a5 => assumption)); intro h9 t9 F9 N9; (try dsimp only)))
local macro_rules | `(tactic| walk_at "exec If") => `(tactic| ((with_reducible show wpAny _ _ (exec (Stmt.If (Expr.Compare (Expr.Call (Expr.Name (Str.ofString "_law_told") _) [Expr.Name (Str.ofString "known") _] _ _) _ _ _) _ _ _) _) _ _ _); (with_reducible rename Fr _ _ _ _ => F'); (with_reducible rename News _ _ _ _ => N'); (with_reducible rename _ ∨ _ => hnm9); k_dflt (first | (refine' kn_use0 _ hnm9 ?a3 ?a4 ?a5 F' (News.tail' N') ?_; (case a3 => assumption); (case a4 => assumption); (case a5 => assumption)) | (refine' kn_use1 _ hnm9 ?a3 ?a4 ?a5 F' (News.tail' N') ?_; (case a3 => assumption); (case a4 => assumption); (case a5 => assumption)) | (refine' kn_use2 _ hnm9 ?a3 ?a4 ?a5 F' (News.tail' N') ?_; (case a3 => assumption); (case a4 => assumption); (case a5 => assumption)) | (refine' kn_use3 _ hnm9 ?a3 ?a4 ?a5 F' (News.tail' N') ?_; (case a3 => assumption); (case a4 => assumption); (case a5 => assumption)) | (refine' kn_use4 _ hnm9 ?a3 ?a4 ?a5 F' (News.tail' N') ?_; (case a3 => assumption); (case a4 => assumption); (case a5 => assumption)) | (refine' kn_use5 _ hnm9 ?a3 ?a4 ?a5 F' (News.tail' N') ?_; (case a3 => assumption); (case a4 => assumption); (case a5 => assumption))); intro h9 t9 F9 N9; (try dsimp only)))
local macro_rules | `(tactic| walk_at "call ref") => `(tactic| ((with_reducible show wpAny _ _ (call (Value.ref 301) [Value.int _ _]) _ _ _); k_dflt (refine' known_con _ _ _ _ _ _ _ _ _ _ _ _ _ _ _ _ _ _ _ _ _ ?kB ?kF ?kX ?kN ?kT ?kK ?kd ?ku ?_ ?_ ?_ ?_ ?_ ?_;  (case kB => k_asm); (case kF => k_asm); (case kX => k_asm); (case kN => k_asm); (case kT => k_asm); (case kK => first | exact rfl | assumption); (case kd => ktr_room); (case ku => ktr_units)); all_goals (intros; (with_reducible rename _ ∨ _ => hnm9); (try dsimp only); (try k_fold))))
set_option maxRecDepth 100000 in
set_option maxHeartbeats 8000000 in
theorem turn02 (w : World) {mean : ExcName → Option Value} {mg mb : Str → Option Value} (i : Nat) (ti : Tok) (SL : Addr) (vs : List Value) (ns : List Int)
    (g : Heap) (L fa : Addr) (cd : Value) (m : Str → Option Value) (news : List (Addr × Obj)) (s : Shared) (Q : Flow → Shared → Prop)
    (K0 : Below callerA g [] g) (X : (K w.params).In g) (T : Top qv (looseW qv looseL) mean mg mb g)
    (hL : g.IsList SL vs.toArray) (hI : IntsAre vs ns) (hi : i ≤ 63) (hin : i ≤ ns.length) (hns : ns.length ≤ 63)
    (F : Fr g L s.heap (fun y => if y = Str.ofString "k_v" then some (.int (i : Int) ti) else if y = Str.ofString "script" then some (.ref SL) else m y)) (N : News g L s.heap news)
    (hret : ∀ h' tk' (v1 v2 v3 v4 : Option Value), Fr g L h' (fun y => if y = Str.ofString "due" then v1 else if y = Str.ofString "known" then v2 else if y = Str.ofString "name" then v3 else if y = Str.ofString "numbers" then v4 else if y = Str.ofString "k_v" then some (.int (i : Int) ti) else if y = Str.ofString "script" then some (.ref SL) else m y) → News g L h' news → Q .next { s with heap := h', toks := tk' }) :
    wpAny (model rw'.row.prog w) (callerA.deeper (lawE L fa cd)) (execs forB (lawE L fa cd)) Q (fun _ _ => False) s := by
  have hlen := hI.length
  revert X; k_fill; intro X
  k_steps
  all_goals (exact hret _ _ _ _ _ _ (by with_reducible assumption) (by first | exact by with_reducible assumption | exact News.tail' (by with_reducible assumption) | exact News.tail' (News.tail' (by with_reducible assumption)) | exact News.tail' (News.tail' (News.tail' (by with_reducible assumption))) | exact News.tail' (News.tail' (News.tail' (News.tail' (by with_reducible assumption)))) | exact News.tail' (News.tail' (News.tail' (News.tail' (News.tail' (by with_reducible assumption))))) | exact News.tail' (News.tail' (News.tail' (News.tail' (News.tail' (News.tail' (by with_reducible assumption)))))) | exact News.tail' (News.tail' (News.tail' (News.tail' (News.tail' (News.tail' (News.tail' (by with_reducible assumption))))))) | exact News.tail' (News.tail' (News.tail' (News.tail' (News.tail' (News.tail' (News.tail' (News.tail' (by with_reducible assumption)))))))) | exact News.tail' (News.tail' (News.tail' (News.tail' (News.tail' (News.tail' (News.tail' (News.tail' (News.tail' (by with_reducible assumption))))))))) | exact News.tail' (News.tail' (News.tail' (News.tail' (News.tail' (News.tail' (News.tail' (News.tail' (News.tail' (News.tail' (by with_reducible assumption)))))))))) | exact News.tail' (News.tail' (News.tail' (News.tail' (News.tail' (News.tail' (News.tail' (News.tail' (News.tail' (News.tail' (News.tail' (by with_reducible assumption)))))))))))))

end
section
def kvV : List Str := [Str.ofString "k_v", Str.ofString "numbers", Str.ofString "name", Str.ofString "known", Str.ofString "due"]
theorem over_of (vars : List Str) (m₀ B : Str → Option Value) (h : ∀ y, vars.contains y = false → B y = m₀ y) : B = Over vars m₀ B := by
  funext y; unfold Over
  cases e : vars.contains y
  · rw [if_neg (by simp)]; exact h y e
  · rw [if_pos rfl]
section
variable {M : Str → Option Value} {SL : Addr} {ti : Tok} {i : Int}
theorem kv_map (h1 : M (Str.ofString "script") = some (.ref SL)) :
    (fun z => if z = Str.ofString "k_v" then some (Value.int i ti) else M z) = fun y => if y = Str.ofString "k_v" then some (.int i ti) else if y = Str.ofString "script" then some (.ref SL) else M y := by
  funext y
  by_cases a : y = Str.ofString "k_v"
  · rw [if_pos a, if_pos a]
  · rw [if_neg a, if_neg a]
    by_cases b : y = Str.ofString "script"
    · rw [if_pos b, b, h1]
    · rw [if_neg b]
theorem kv_end {m₀ u : Str → Option Value} {v1 v2 v3 v4 : Option Value} (h1 : Over kvV m₀ u (Str.ofString "script") = some (.ref SL)) :
    ∃ u', (fun y => if y = Str.ofString "due" then v1 else if y = Str.ofString "known" then v2 else if y = Str.ofString "name" then v3 else if y = Str.ofString "numbers" then v4 else if y = Str.ofString "k_v" then some (.int i ti) else if y = Str.ofString "script" then some (.ref SL) else Over kvV m₀ u y) = Over kvV m₀ u' := by
  refine ⟨_, over_of kvV m₀ _ fun y a => ?_⟩
  have a' := a
  simp only [kvV, List.contains_cons, List.contains_nil, Bool.or_false, Bool.or_eq_false_iff, beq_eq_false_iff_ne] at a'
  obtain ⟨n1, n2, n3, n4, n5⟩ := a'
  have a2 : ¬ kvV.contains y = true := by rw [a]; exact Bool.false_ne_true
  have e : Over kvV m₀ u y = m₀ y := if_neg a2
  rw [if_neg n5, if_neg n4, if_neg n3, if_neg n2, if_neg n1, e]
  by_cases b : y = Str.ofString "script"
  · rw [if_pos b]; subst b; rw [e] at h1; exact h1.symm
  · rw [if_neg b]
end
set_option maxRecDepth 100000 in
theorem turn_use02 (w : World) {mean : ExcName → Option Value} {mg mb : Str → Option Value} {i : Nat} {ti : Tok} {SL : Addr} {vs : List Value} {ns : List Int}
    {g : Heap} {L fa : Addr} {cd : Value} {m₀ u : Str → Option Value} {news : List (Addr × Obj)} {s : Shared} {Q' : Flow → Shared → Prop} {E : Value → Shared → Prop}
    (K0 : Below callerA g [] g) (X : (K w.params).In g) (T : Top qv (looseW qv looseL) mean mg mb g)
    (hL : g.IsList SL vs.toArray) (hI : IntsAre vs ns) (hin : i ≤ ns.length) (hns : ns.length ≤ 63)
    (h1 : Over kvV m₀ u (Str.ofString "script") = some (.ref SL))
    (F : Fr g L s.heap (fun z => if z = Str.ofString "k_v" then some (.int (i : Int) ti) else Over kvV m₀ u z)) (N : News g L s.heap news)
    (hq : ∀ u' h' tk', Fr g L h' (Over kvV m₀ u') → News g L h' news → Q' .next { s with heap := h', toks := tk' }) :
    wpAny (model rw'.row.prog w) (callerA.deeper (lawE L fa cd)) (execs forB (lawE L fa cd)) Q' E s := by
  refine wpAny_noRaise ?_
  rw [kv_map h1] at F
  refine turn02 w i ti SL vs ns g L fa cd _ news s Q' K0 X T hL hI (by omega) hin hns F N fun h' tk' v1 v2 v3 v4 F' N' => ?_
  obtain ⟨u', e⟩ := kv_end (m₀ := m₀) (u := u) (v1 := v1) (v2 := v2) (v3 := v3) (v4 := v4) (i := (i : Int)) (ti := ti) h1
  rw [e] at F'
  exact hq u' h' tk' F' N'
theorem loop_min {prog : Program} {w : World} {A : Around} {E : Value → Shared → Prop} {s : Shared} {env : Env} {h₀ : Heap} {x : Str} {body : List Stmt} {Q : Flow → Shared → Prop} {k : Nat} {r : Addr} {tt uu vv : Tok} {m₀ : Str → Option Value} {news : List (Addr × Obj)} (vars : List Str)
    (hh : A.handled = none) (hr : IsRange s.heap r 0 ((if (63 : Int) < (k : Int) then (63 : Int) else (k : Int)) + 1) 1 tt uu vv) (hk : k ≤ 63)
    (F : Fr h₀ env.locals s.heap m₀) (N : News h₀ env.locals s.heap news)
    (turn : ∀ (i : Nat) (t : Tok) u h tk own (Q' : Flow → Shared → Prop), i ≤ k → Fr h₀ env.locals h (fun z => if z = x then some (.int (i : Int) t) else Over vars m₀ u z) → News h₀ env.locals h (news ++ own) →
      (∀ u' h' tk', Fr h₀ env.locals h' (Over vars m₀ u') → News h₀ env.locals h' (news ++ own) → Q' .next { s with heap := h', toks := tk' }) →
      wpAny (model prog w) A (execs body env) Q' E { s with heap := h, toks := tk })
    (done : ∀ u h tk, Fr h₀ env.locals h (Over vars m₀ u) → News h₀ env.locals h news → Q .next { s with heap := h, toks := tk }) :
    wpAny (model prog w) A (pyIter (.ref r)) (fun it s₂ => LoopAtV prog w A h₀ env x body Q E it s₂) E s := by
  rw [if_neg (by omega)] at hr
  exact loop_cut vars hh hr (by omega) F N turn done

end
section
local macro_rules | `(tactic| walk_at "call ref") => `(tactic| ((with_reducible show wpAny _ _ (call (Value.ref 42) [Value.str _ _]) _ _ _); k_dflt (refine' norm_con _ _ _ _ ?n1 _ _ _ _ _ _ _ _ _ _ _ _ _ _ _ _ _ _ ?kB ?kF ?kX ?kN ?kT ?kK ?kd ?ku ?_; (case n1 => assumption); (case kB => k_asm); (case kF => k_asm); (case kX => k_asm); (case kN => k_asm); (case kT => k_asm); (case kK => first | exact rfl | assumption); (case kd => ktr_room); (case ku => ktr_units)); intro _ _ _ F9 N9; (try dsimp only); (try k_fold)))
local macro_rules | `(tactic| k_qdec) => `(tactic| decide +kernel)
local macro_rules | `(tactic| walk_at "exec For Name Call cons nil") => `(tactic| ((with_reducible show wpAny _ _ (exec (Stmt.For (Expr.Name (Str.ofString "k_v") _) _ _ _ _) _) _ _ _); (rename Fr _ _ _ _ => lF'); (with_unfolding_all refine' For_invVF lF' ?k1 ?k2 ?_; (case k1 => exact rfl); (case k2 => exact rfl); k_whole)))
local macro_rules | `(tactic| walk_at "pyIter ref") => `(tactic| ((with_reducible show wpAny _ _ (pyIter (Value.ref _)) (fun it s₂ => LoopAtV _ _ _ _ _ (Str.ofString "k_v") _ _ _ it s₂) _ _); (rename IsRange _ _ _ _ _ _ _ _ => hr9); (with_reducible rename IntsAre _ _ => hI9); (with_reducible rename Heap.IsList _ _ _ => hL9); (with_reducible rename Fr _ _ _ _ => F'); (with_reducible rename News _ _ _ _ => N'); k_dflt (refine' loop_min kvV (by rfl) hr9 ?lk F' N' ?lt ?ld; (case lk => omega); (case lt => (intro i1 t1 u1 h1 tk1 own1 Q1 hi1 F1 N1 hQ1; (refine' turn_use02 _ ?uK ?uX ?uG hL9 hI9 ?ui ?un ?u1 F1 N1 hQ1; (case u1 => rfl); (case ui => omega); (case un => omega); (case uK => assumption); (case uX => assumption); (case uG => assumption)))); (case' ld => (intro u' h' tk' F'' N''; (try dsimp only)))); all_goals (try k_fold)))
set_option maxRecDepth 100000 in
set_option maxHeartbeats 8000000 in
theorem whole : PySem.Challenge.rw_ko0100_02.Holds := by
  refine head_ (by rfl) (by rfl) (by rfl) ?_
  w_strict (k_go0; (all_goals try k_fold); k_steps; all_goals (try k_data))

end
end Mine
set_option maxRecDepth 100000 in
theorem PySem.Challenge.cw_ko0100_02_holds : PySem.Challenge.rw_ko0100_02.Holds := by
  exact Mine.whole
