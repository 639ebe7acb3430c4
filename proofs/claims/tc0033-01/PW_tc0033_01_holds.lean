import PyProof.Rows.All
import Wide.All
import OpenK.AllK
import Wide.FinOn
import KE.KTurns
import Lean
import PySem.Challenge.RW_tc0033_01
set_option Elab.async false
section
open PySem PySem.W PyProof.Rows PySem.Calls
set_option maxRecDepth 100000
set_option maxHeartbeats 0
namespace Mine
noncomputable section
abbrev p : Program := PySem.Challenge.pw_tc0033_01
def ann : Option Value := some (.ref 6)
def q0 : Pos := ⟨0,0,0,0⟩
def env0 : Env := { scope := p.main.scope, locals := mainNs, globals := mainNs, cells := [], code := .ref 13, frame := some 14 }
def cE : Code := .body p.main.body env0
def B0 : List Frame := [topFrame q0]
def S0 (w : World) (os : OsState) : Shared := ⟨boot_heap w.params, #[], boot_drawn, boot_toks, os⟩
def o11 : Obj := { cls := .type "tuple", data := .seq #[] }
def o12 : Obj := { cls := .none, data := .fields #[] }
def o13 : Obj := { cls := .type "code", data := .fields #[.str (Str.ofString "<module>") 182, .str (Str.ofString "<module>") 183, .str (Str.ofString "/claim/cut.py") 184, .int 1 0, .int 0 0, .int 0 0, .int 0 0,
        .int 0 0, .ref 11, .bool false, .int 181 0, .ref 12, .none, .none, .none, .none, .int 185 0, .int 1 0, .str (Str.ofString "/claim/cut.py") 186] }
def o14 : Obj := { cls := .type "frame", slots := #[some (.ref 13), some (.ref 3), some (.ref 3), none, some (.str (Str.ofString "__main__") 164), none, some (.ref 0)] }

def Tb (P : Params) : BT := (.node (boot_o_0 P) (.node (boot_o_1 P) (.node (boot_o_3 P) (.node (boot_o_7 P) .nil .nil) (.node (o11) .nil .nil)) (.node (boot_o_5 P) (.node (boot_o_9 P) .nil .nil) (.node (o13) .nil .nil))) (.node (boot_o_2 P) (.node (boot_o_4 P) (.node (boot_o_8 P) .nil .nil) (.node (o12) .nil .nil)) (.node (boot_o_6 P) (.node (boot_o_10 P) .nil .nil) (.node (o14) .nil .nil))))

def Sb (w : World) (os : OsState) : SharedT := ⟨Tb w.params, 15, (boot_heap w.params).life, #[], boot_drawn, 187, os⟩
theorem pre_ok (w : World) (os : OsState) : topGo treeTable p w 11 ann 12 (S0 w os) (topStub p) = some ((Sb w os).abs, ⟨denote treeTable cE, cE, q0, B0⟩) := by kernel_rfl
theorem block_ok (w : World) (os : OsState) : segRun treeTable p w 11 ann 1 1 (Sb w os).abs (blockOf p.main.body env0 cE q0 B0) = some (.next, (Sb w os).abs, cE, q0) := by kernel_rfl


theorem topGo_add {tb : String → Option Builtin} {p : Program} {w : World} {n₀ : Nat} {ann : Option Value} : ∀ {a b : Nat} {s s₁ : Shared} {t t₁ : Thread} {r : Option (Shared × Thread)},
    topGo tb p w n₀ ann a s t = some (s₁, t₁) → topGo tb p w n₀ ann b s₁ t₁ = r → topGo tb p w n₀ ann (a + b) s t = r
  | 0, b, s, s₁, t, t₁, r, h, k => by
    obtain ⟨rfl, rfl⟩ : s = s₁ ∧ t = t₁ := by simpa [topGo] using h
    rw [Nat.zero_add]; exact k
  | n + 1, b, s, s₁, t, t₁, r, h, k => by
    rw [show n + 1 + b = n + b + 1 by omega]
    unfold topGo at h ⊢
    cases ht : through t with
    | true => rw [ht] at h; cases h
    | false =>
      rw [ht] at h
      cases hk : stepOk n₀ ann t with
      | false => rw [hk] at h; cases h
      | true =>
        rw [hk] at h
        cases hs : step (denote tb) p w s t with
        | halt o s₂ => rw [hs] at h; cases h
        | go s₂ t₂ => rw [hs] at h; exact topGo_add h k
theorem topGo_step {tb : String → Option Builtin} {p : Program} {w : World} {n₀ : Nat} {ann : Option Value} {c : Nat} {s s₁ : Shared} {t t₁ : Thread} {r : Option (Shared × Thread)}
    (h1 : through t = false) (h2 : stepOk n₀ ann t = true) (h3 : step (denote tb) p w s t = .go s₁ t₁) (h : topGo tb p w n₀ ann c s₁ t₁ = r) : topGo tb p w n₀ ann (c + 1) s t = r := by
  unfold topGo
  rw [h1]
  dsimp only
  rw [h2]
  dsimp only
  rw [h3]
  exact h

def G {α : Type} (w : World) (c : Nat) (t : Sem α) (s : Shared) (pos : Pos) (a : α) (s' : Shared) (pos' : Pos) : Prop :=
  ∀ (K : α → Sem Fin) (H : Value → Sem Fin) (gd : Bool → Bool) (lv : List Value → List Value), topGo treeTable p w 11 ann c s ⟨t.wrap K H gd lv, cE, pos, B0⟩ = some (s', ⟨K a, cE, pos', B0⟩)
section
variable {α β : Type} {w : World} {c c' : Nat} {s s' s'' : Shared} {pos pos' pos'' : Pos} {a : α} {b : β}
theorem G.pure : G w 0 (Sem.pure a) s pos a s pos := fun _ _ _ _ => rfl
theorem G.rule {tg : String} {k : Unit → Sem α} (h : G w c (k ()) s pos a s' pos') : G w (c + 1) (.rule tg k) s pos a s' pos' := fun K H gd lv => topGo_step rfl rfl (by obtain ⟨_, _, _, _, _⟩ := s; rfl) (h K H gd lv)
theorem G.at {q : Pos} {k : Unit → Sem α} (h : G w c (k ()) s q a s' pos') : G w (c + 1) (.at q k) s pos a s' pos' := fun K H gd lv => topGo_step rfl rfl (by obtain ⟨_, _, _, _, _⟩ := s; rfl) (h K H gd lv)
theorem G.point {l : List Value} {k : Unit → Sem α} (h : G w c (k ()) s pos a s' pos') : G w (c + 1) (.point l k) s pos a s' pos' := fun K H gd lv => topGo_step rfl rfl (by obtain ⟨_, _, _, _, _⟩ := s; rfl) (h K H gd lv)
theorem G.fresh {k : Tok → Sem α} (h : G w c (k s.toks) { s with toks := s.toks + 1 } pos a s' pos') : G w (c + 1) (.fresh k) s pos a s' pos' := fun K H gd lv => topGo_step rfl rfl (by obtain ⟨_, _, _, _, _⟩ := s; rfl) (h K H gd lv)
theorem G.ask {k : Setting → Sem α} (h : G w c (k ⟨p, w.params⟩) s pos a s' pos') : G w (c + 1) (.ask k) s pos a s' pos' := fun K H gd lv => topGo_step rfl rfl (by obtain ⟨_, _, _, _, _⟩ := s; rfl) (h K H gd lv)
theorem G.alloc {o : Obj} {k : Addr → Sem α} (h : G w c (k s.heap.objs.size) { s with heap := s.heap.push o } pos a s' pos') : G w (c + 1) (.alloc o k) s pos a s' pos' := fun K H gd lv => topGo_step rfl rfl (by obtain ⟨_, _, _, _, _⟩ := s; rfl) (h K H gd lv)
theorem G.load {x : Addr} {q : Option Value} {k : Obj → Sem α} {o : Obj} (ho : s.heap.get? x = some o) (h : G w c (k o) s pos a s' pos') : G w (c + 1) (.load x q k) s pos a s' pos' := fun K H gd lv =>
  topGo_step rfl rfl (by
    obtain ⟨hp, _, _, _, _⟩ := s
    show (match hp.get? x with | some o => _ | none => _) = _
    rw [show hp.get? x = some o from ho]) (h K H gd lv)
theorem G.update {x : Addr} {q : Option Value} {f : Obj → Obj} {k : Unit → Sem α} (ho : (s.heap.get? x).isSome = true) (hx : (Nat.ble 11 x || x == mainNs || x == cStatics || ann == some (.ref x)) = true)
    (h : G w c (k ()) { s with heap := s.heap.update x f } pos a s' pos') : G w (c + 1) (.update x q f k) s pos a s' pos' := fun K H gd lv =>
  topGo_step rfl hx (by
    obtain ⟨hp, _, _, _, _⟩ := s
    show (if (hp.get? x).isSome then _ else _) = _
    rw [if_pos (show (hp.get? x).isSome = true from ho)]) (h K H gd lv)
theorem G.bind {t : Sem α} {f : α → Sem β} (h : G w c t s pos a s' pos') (k : G w c' (f a) s' pos' b s'' pos'') : G w (c + c') (t.bind f) s pos b s'' pos'' := fun K H gd lv => by
  rw [Sem.bind_eq_wrap, Sem.wrap_wrap]
  exact topGo_add (h _ _ _ _) (k K H gd lv)
theorem G.bind' {t : Sem α} {f : α → Sem β} (h : G w c t s pos a s' pos') (k : G w c' (f a) s' pos' b s'' pos'') : G w (c + c') (t >>= f) s pos b s'' pos'' := G.bind h k
theorem G.pb {f : α → Sem β} (h : G w c (f a) s pos b s'' pos'') : G w c (Pure.pure a >>= f) s pos b s'' pos'' := h
theorem G.keep {t : Sem α} {vs : List Value} (h : G w c t s pos a s' pos') : G w c (t.keep vs) s pos a s' pos' := fun K H gd lv => by
  rw [Sem.keep_eq_wrap, Sem.wrap_wrap]
  exact h _ _ _ _
theorem G.holding {t : Sem α} {vs : List Value} (h : G w c t s pos a s' pos') : G w c (holding vs t) s pos a s' pos' := by
  unfold PySem.holding
  split
  · exact h
  · exact h.keep
theorem G.onRaise {t : Sem α} {k : Value → Sem Unit} (h : G w c t s pos a s' pos') : G w c (t.onRaise k) s pos a s' pos' := fun K H gd lv => by
  rw [Sem.onRaise_eq_wrap, Sem.wrap_wrap]
  exact h _ _ _ _
theorem G.tryCatch {t : Sem α} {k : Value → Sem α} (h : G w c t s pos a s' pos') : G w c (t.tryCatch k) s pos a s' pos' := fun K H gd lv => by
  rw [Sem.tryCatch_eq_wrap, Sem.wrap_wrap]
  exact h _ _ _ _
end
abbrev rowG := "special-get-raises"
theorem hash_pre (w : World) (k : Int) (t : Tok) (heap : Heap) (gens : Array GenState) (drawn : Drawn) (toks : Nat) (os : OsState) (pos : Pos) (K : Int → Sem Fin) (H : Value → Sem Fin) (gd : Bool → Bool) (lv : List Value → List Value) :
    topGo treeTable p w 11 ann 5 ⟨heap, gens, drawn, toks, os⟩ ⟨(pyHash (.int k t)).wrap K H gd lv, cE, pos, B0⟩ = some (⟨heap, gens, drawn, toks + 1, os⟩, ⟨(pyHashByItsType.reduced (rawHash k)).wrap K H gd lv, cE, pos, B0⟩) :=
  byRow2 rowG (P := fun w => topGo treeTable p w 11 ann 5 ⟨heap, gens, drawn, toks, os⟩ ⟨(pyHash (.int k t)).wrap K H gd lv, cE, pos, B0⟩ = some (⟨heap, gens, drawn, toks + 1, os⟩, ⟨(pyHashByItsType.reduced (rawHash k)).wrap K H gd lv, cE, pos, B0⟩))
    (fun w => by kernel_rfl) (fun w => by kernel_rfl) w
theorem G.hash {w : World} {s : Shared} {pos : Pos} {k : Int} {t : Tok} : G w 5 (pyHash (.int k t)) s pos (hashInt k) { s with toks := s.toks + 1 } pos := fun K H gd lv => by
  obtain ⟨heap, gens, drawn, toks, os⟩ := s
  have hr := rawHash_range k
  rw [hash_pre]
  have e : pyHashByItsType.reduced (rawHash k) = Sem.pure (hashInt k) := by
    show (if (decide (-(2 : Int) ^ 63 ≤ rawHash k) && decide (rawHash k < 2 ^ 63)) = true then _ else _) = _
    rw [if_pos (by rw [decide_eq_true hr.1, decide_eq_true hr.2]; rfl)]
    rfl
  rw [e]; rfl

/-- the heap that stood, and what was made behind it -/
def hp (h0 : Heap) (l : List Obj) : Heap := ⟨h0.objs ++ l.toArray, h0.life⟩
theorem hp_size (h0 : Heap) (l : List Obj) : (hp h0 l).objs.size = h0.objs.size + l.length := by simp [hp]
theorem hp_get {h0 : Heap} {l : List Obj} {i : Nat} {o : Obj} (e : l[i]? = some o) (hf : o.isFreed = false) : (hp h0 l).get? (h0.objs.size + i) = some o := by
  have e' : (hp h0 l).objs[h0.objs.size + i]? = some o := by
    unfold hp
    rw [Array.getElem?_append_right (by omega)]
    simpa using e
  unfold Heap.get?
  rw [e']
  obtain ⟨a, b, c, d⟩ := o
  cases c <;> first | rfl | cases hf
theorem hp_push (h0 : Heap) (l : List Obj) (o : Obj) : (hp h0 l).push o = hp h0 (l ++ [o]) := by
  unfold hp Heap.push
  simp
theorem hp_update (h0 : Heap) (l : List Obj) (i : Nat) (f : Obj → Obj) : (hp h0 l).update (h0.objs.size + i) f = hp h0 (l.modify i f) := by
  unfold hp Heap.update
  simp only [Heap.mk.injEq, and_true]
  apply Array.ext_getElem?
  intro j
  rw [Array.getElem?_modify]
  by_cases h : j < h0.objs.size
  · rw [Array.getElem?_append_left h, Array.getElem?_append_left h, if_neg (by omega)]
  · rw [Array.getElem?_append_right (by omega), Array.getElem?_append_right (by omega)]
    simp only [List.getElem?_toArray, List.getElem?_modify]
    by_cases e : h0.objs.size + i = j
    · subst e; simp
    · rw [if_neg e]
      have : ¬ i = j - h0.objs.size := by omega
      simp [this]
def dO (es : List DictEntry) : Obj := ⟨.type "dict", none, .dict es.toArray es.length, #[]⟩

section
variable {w : World} {s : Shared} {pos : Pos}
theorem G.findNone {d : Addr} {k : Int} {t : Tok} {es : List DictEntry} (ho : s.heap.get? d = some (dO es)) (hno : ∀ e ∈ es, e.hash ≠ hashInt k) :
    G w 1 (dictFind d (.int k t) (hashInt k)) s pos none s pos := by
  have hp : placesWithHash es.toArray.size (fun i => es.toArray[i]?.map (·.hash)) (hashInt k) = [] := by
    unfold placesWithHash
    rw [List.filter_eq_nil_iff]
    intro i _ hi
    simp only [List.getElem?_toArray, beq_iff_eq, Option.map_eq_some_iff] at hi
    obtain ⟨e, he, hh⟩ := hi
    exact hno e (List.mem_of_getElem? he) hh
  unfold dictFind
  refine G.holding ?_
  refine G.bind' (c := 1) (c' := 0) (a := es.toArray) (G.load ho G.pure) ?_
  dsimp only
  rw [hp]
  exact G.pure
theorem G.updKeys {d : Addr} {q : Option Value} {e : DictEntry} {es : List DictEntry} (h0 : Heap) (l : List Obj) (i : Nat) (hs : s.heap = hp h0 l) (hd : d = h0.objs.size + i) (ho : l[i]? = some (dO es)) (h33 : 11 ≤ h0.objs.size) (hz : es.length ≤ 1000) :
    G w 3 (updateDictKeys d (·.push e) q) s pos () { s with heap := hp h0 (l.set i (dO (es ++ [e]))) } pos := by
  have hil : i < l.length := by
    rw [List.getElem?_eq_some_iff] at ho; exact ho.1
  have hm : l.modify i (Obj.mapDictKeys (·.push e)) = l.set i (dO (es ++ [e])) := by
    apply List.ext_getElem?
    intro j
    rw [List.getElem?_modify, List.getElem?_set]
    by_cases hj : i = j
    · subst hj
      rw [ho]
      simp only [if_true, hil]
      simp [dO, Obj.mapDictKeys]
    · simp [hj]
  subst hd
  have e1 : s.heap.get? (h0.objs.size + i) = some (dO es) := by rw [hs]; exact hp_get ho rfl
  unfold updateDictKeys
  refine G.load e1 ?_
  refine G.update (by show (s.heap.get? (h0.objs.size + i)).isSome = true; rw [e1]; rfl) (by
    have : Nat.ble 11 (h0.objs.size + i) = true := Nat.ble_eq_true_of_le (by omega)
    rw [this]; rfl) ?_
  show G w 1 _ { s with heap := s.heap.update (h0.objs.size + i) (Obj.mapDictKeys (·.push e)) } pos () _ pos
  rw [hs, hp_update, hm]
  refine G.load (o := dO (es ++ [e])) (hp_get (by rw [List.getElem?_set]; simp [hil]) rfl) ?_
  have hpast : (dO (es ++ [e])).data.pastItsLine = none := pastItsLine_dict (by
    have := sizeLine_eq
    simp only [List.size_toArray, List.length_append, List.length_singleton]
    omega)
  refine G.bind (c := 0) (c' := 0) G.pure ?_
  rw [hpast]
  exact G.pure

/-- the dict's next pair, its key above all that stand -/
theorem G.setNew {d : Addr} {k : Int} {t : Tok} {v : Value} {es : List DictEntry} (h0 : Heap) (l : List Obj) (i : Nat) (hs : s.heap = hp h0 l) (hd : d = h0.objs.size + i) (ho : l[i]? = some (dO es)) (h33 : 11 ≤ h0.objs.size) (hz : es.length ≤ 1000)
    (hno : ∀ e ∈ es, e.hash ≠ hashInt k) :
    G w 10 (dictSet d (.int k t) v) s pos () { s with heap := hp h0 (l.set i (dO (es ++ [⟨hashInt k, .int k t, v⟩]))), toks := s.toks + 1 } pos := by
  have e1 : s.heap.get? d = some (dO es) := by rw [hs, hd]; exact hp_get ho rfl
  unfold dictSet
  refine G.holding (G.bind' (c := 5) (c' := 5) G.hash ?_)
  unfold dictSetHashed
  refine G.holding (G.bind' (c := 1) (c' := 4) (G.findNone (es := es) e1 hno) ?_)
  refine G.bind' (c := 1) (c' := 3) (G.rule G.pure) ?_
  exact G.updKeys (s := { s with toks := s.toks + 1 }) h0 l i hs hd ho h33 hz

/-- the two trees of a written pair -/
abbrev kT (k : Int) : Sem Value := mkInt k
abbrev vT (q : Pos) (v : Str) : Sem Value := do let x ← mkText v; standAt q; pure x
abbrev pT (q : Pos) (x : Int × Str) : Sem Value × Sem Value := (kT x.1, vT q x.2)
def hashes (es : List DictEntry) : List Int := es.map (·.hash)
def keyHs (ps : List (Int × Str)) : List Int := ps.map fun q => hashInt q.1
def entL : Nat → List (Int × Str) → List DictEntry
  | _, [] => []
  | t, (k, v) :: r => ⟨hashInt k, .int k t, .str v (t + 1)⟩ :: entL (t + 3) r
def entS : Nat → List (Int × Str) → List DictEntry
  | _, [] => []
  | t, (k, v) :: r => ⟨hashInt k, .int k t, .str v (t + 1)⟩ :: entS (t + 2) r
theorem entL_length : ∀ (ps : List (Int × Str)) (t : Nat), (entL t ps).length = ps.length
  | [], _ => rfl
  | (_, _) :: r, t => by simp [entL, entL_length r]
theorem entS_length : ∀ (ps : List (Int × Str)) (t : Nat), (entS t ps).length = ps.length
  | [], _ => rfl
  | (_, _) :: r, t => by simp [entS, entS_length r]
theorem hashes_entL : ∀ (ps : List (Int × Str)) (t : Nat), hashes (entL t ps) = keyHs ps
  | [], _ => rfl
  | (_, _) :: r, t => by have := hashes_entL r (t + 3); simp only [hashes, keyHs] at this; simp [entL, hashes, keyHs, this]
theorem hashes_entS : ∀ (ps : List (Int × Str)) (t : Nat), hashes (entS t ps) = keyHs ps
  | [], _ => rfl
  | (_, _) :: r, t => by have := hashes_entS r (t + 2); simp only [hashes, keyHs] at this; simp [entS, hashes, keyHs, this]
theorem not_mem_hashes {es : List DictEntry} {h : Int} {r : List Int} (n : (hashes es ++ h :: r).Nodup) : ∀ e ∈ es, e.hash ≠ h := by
  intro e he q
  rw [List.nodup_append] at n
  exact n.2.2 e.hash (List.mem_map_of_mem he) h (.head _) q

theorem gLongLoop {d : Addr} {q : Pos} {f : Sem Value × Sem Value → PUnit → Sem (ForInStep PUnit)} (h0 : Heap) (i : Nat) (hd : d = h0.objs.size + i) (h33 : 11 ≤ h0.objs.size)
    (hf : ∀ k v u, f (k, v) u = (do let kv ← k; let vv ← holding [kv] v; holding [kv, vv] (dictSet d kv vv); pure (ForInStep.yield PUnit.unit))) :
    ∀ (ps : List (Int × Str)) (es : List DictEntry) (l : List Obj) (s : Shared), s.heap = hp h0 l → l[i]? = some (dO es) → es.length + ps.length ≤ 1000 → (hashes es ++ keyHs ps).Nodup →
      G w (13 * ps.length) (forIn (ps.map (pT q)) PUnit.unit f) s q PUnit.unit { s with heap := hp h0 (l.set i (dO (es ++ entL s.toks ps))), toks := s.toks + 3 * ps.length } q
  | [], es, l, s, hs, ho, hz, hn => by
    have e1 : l.set i (dO (es ++ entL s.toks [])) = l := by
      rw [show es ++ entL s.toks [] = es by simp [entL]]
      apply List.ext_getElem?
      intro j
      rw [List.getElem?_set]
      by_cases hj : i = j
      · subst hj
        have hil : i < l.length := by rw [List.getElem?_eq_some_iff] at ho; exact ho.1
        rw [List.getElem?_eq_getElem hil] at ho
        simp [hil, Option.some.inj ho]
      · simp [hj]
    rw [e1, List.map_nil, List.forIn_nil]
    have : ({ s with heap := hp h0 l, toks := s.toks + 3 * ([] : List (Int × Str)).length } : Shared) = s := by
      obtain ⟨a, b, c, d, e⟩ := s; simp only [List.length_nil, Nat.mul_zero, Nat.add_zero]; rw [← hs]
    rw [this]
    exact G.pure
  | (k, v) :: r, es, l, s, hs, ho, hz, hn => by
    have hil : i < l.length := by rw [List.getElem?_eq_some_iff] at ho; exact ho.1
    rw [List.map_cons, List.forIn_cons, hf]
    have hlen : 13 * ((k, v) :: r).length = 13 + 13 * r.length := by simp only [List.length_cons]; omega
    rw [hlen]
    have hn' : ∀ e ∈ es, e.hash ≠ hashInt k := not_mem_hashes hn
    refine G.bind' (c := 13) (c' := 13 * r.length) (a := ForInStep.yield PUnit.unit) (s' := { s with heap := hp h0 (l.set i (dO (es ++ [⟨hashInt k, .int k s.toks, .str v (s.toks + 1)⟩]))), toks := s.toks + 3 }) (pos' := q) ?_ ?_
    · refine G.bind' (c := 1) (c' := 12) (G.fresh G.pure) ?_
      refine G.bind' (c := 2) (c' := 10) (a := .str v (s.toks + 1)) (s' := { s with toks := s.toks + 2 }) (pos' := q) (G.holding (G.fresh (G.at G.pure))) ?_
      refine G.bind' (c := 10) (c' := 0) (a := ()) ?_ G.pure
      exact G.holding (G.setNew (s := { s with toks := s.toks + 2 }) h0 l i hs hd ho h33 (by simp only [List.length_cons] at hz; omega) hn')
    · have := gLongLoop (q := q) h0 i hd h33 hf r (es ++ [⟨hashInt k, .int k s.toks, .str v (s.toks + 1)⟩]) (l.set i (dO (es ++ [⟨hashInt k, .int k s.toks, .str v (s.toks + 1)⟩])))
        { s with heap := hp h0 (l.set i (dO (es ++ [⟨hashInt k, .int k s.toks, .str v (s.toks + 1)⟩]))), toks := s.toks + 3 } rfl (by rw [List.getElem?_set]; simp [hil])
        (by simp only [List.length_append, List.length_cons, List.length_nil] at hz ⊢; omega) (by
          have : hashes (es ++ [⟨hashInt k, .int k s.toks, .str v (s.toks + 1)⟩]) ++ keyHs r = hashes es ++ keyHs ((k, v) :: r) := by simp [hashes, keyHs]
          rw [this]; exact hn)
      rw [List.set_set, List.append_assoc] at this
      have e2 : [(⟨hashInt k, .int k s.toks, .str v (s.toks + 1)⟩ : DictEntry)] ++ entL (s.toks + 3) r = entL s.toks ((k, v) :: r) := rfl
      dsimp only at this
      rw [e2] at this
      have e3 : s.toks + 3 + 3 * r.length = s.toks + 3 * ((k, v) :: r).length := by simp only [List.length_cons]; omega
      rw [e3] at this
      exact this

theorem gSubLong {q : Pos} {ps : List (Int × Str)} (h0 : Heap) (l : List Obj) (hs : s.heap = hp h0 l) (h33 : 11 ≤ h0.objs.size) (hlen : 15 < ps.length) (hz : ps.length ≤ 1000) (hn : (keyHs ps).Nodup) :
    G w (2 + 13 * ps.length) (subDict (ps.map (pT q))) s q (h0.objs.size + l.length) { s with heap := hp h0 (l ++ [dO (entL s.toks ps)]), toks := s.toks + 3 * ps.length } q := by
  have hd : s.heap.objs.size = h0.objs.size + l.length := by rw [hs]; exact hp_size ..
  unfold subDict
  rw [show 2 + 13 * ps.length = 1 + (1 + 13 * ps.length) by omega]
  refine G.bind' (c := 1) (c' := 1 + 13 * ps.length) (G.alloc G.pure) ?_
  rw [hd]
  refine G.bind' (c := 1 + 13 * ps.length) (c' := 0) (a := ()) ?_ G.pure
  refine G.holding ?_
  rw [if_neg (by rw [List.length_map]; omega)]
  refine G.bind' (c := 1) (c' := 13 * ps.length) (G.rule G.pure) ?_
  refine G.bind' (c := 13 * ps.length) (c' := 0) (a := PUnit.unit) ?_ G.pure
  have := gLongLoop (w := w) (d := h0.objs.size + l.length) (q := q) (f := fun x _ => match x with | (k, v) => do let kv ← k; let vv ← holding [kv] v; holding [kv, vv] (dictSet (h0.objs.size + l.length) kv vv); pure (ForInStep.yield PUnit.unit))
    h0 l.length rfl h33 (fun _ _ _ => rfl) ps [] (l ++ [dO []]) { s with heap := hp h0 (l ++ [dO []]) } rfl (by simp) (by simpa using hz) (by simpa [hashes] using hn)
  simp only [List.nil_append] at this
  rw [show (l ++ [dO []]).set l.length (dO (entL s.toks ps)) = l ++ [dO (entL s.toks ps)] by simp] at this
  have e4 : s.heap.push { cls := .type "dict", data := .dict #[] } = hp h0 (l ++ [dO []]) := by rw [hs, hp_push]; rfl
  rw [e4]
  exact this

def valsS : Nat → List (Int × Str) → List (Value × Value)
  | _, [] => []
  | t, (k, v) :: r => (.int k t, .str v (t + 1)) :: valsS (t + 2) r
theorem gEvalPairs {q : Pos} : ∀ (ps : List (Int × Str)) (s : Shared), G w (3 * ps.length) (evalPairs (ps.map (pT q))) s q (valsS s.toks ps) { s with toks := s.toks + 2 * ps.length } q
  | [], s => G.pure
  | (k, v) :: r, s => by
    rw [List.map_cons, evalPairs, show 3 * ((k, v) :: r).length = 1 + (2 + (3 * r.length + 0)) by simp only [List.length_cons]; omega]
    refine G.bind' (c := 1) (c' := 2 + (3 * r.length + 0)) (G.fresh G.pure) ?_
    refine G.bind' (c := 2) (c' := 3 * r.length + 0) (a := .str v (s.toks + 1)) (s' := { s with toks := s.toks + 2 }) (pos' := q) (G.holding (G.fresh (G.at G.pure))) ?_
    have := gEvalPairs (q := q) r { s with toks := s.toks + 2 }
    refine G.bind' (c := 3 * r.length) (c' := 0) (G.holding this) ?_
    rw [show ({ s with toks := s.toks + 2 } : Shared).toks + 2 * r.length = s.toks + 2 * ((k, v) :: r).length by simp only [List.length_cons]; omega]
    exact G.pure
theorem set_same {l : List Obj} {i : Nat} {o : Obj} (ho : l[i]? = some o) : l.set i o = l := by
  apply List.ext_getElem?
  intro j
  rw [List.getElem?_set]
  by_cases hj : i = j
  · subst hj
    have hil : i < l.length := by rw [List.getElem?_eq_some_iff] at ho; exact ho.1
    simp [hil, ← ho]
  · simp [hj]
theorem gStoreLoop {d : Addr} {q : Pos} {f : Value × Value → PUnit → Sem (ForInStep PUnit)} (h0 : Heap) (i : Nat) (hd : d = h0.objs.size + i) (h33 : 11 ≤ h0.objs.size)
    (hf : ∀ k v u, f (k, v) u = (do dictSet d k v; pure (ForInStep.yield PUnit.unit))) :
    ∀ (ps : List (Int × Str)) (t : Nat) (es : List DictEntry) (l : List Obj) (s : Shared), s.heap = hp h0 l → l[i]? = some (dO es) → es.length + ps.length ≤ 1000 → (hashes es ++ keyHs ps).Nodup →
      G w (10 * ps.length) (forIn (valsS t ps) PUnit.unit f) s q PUnit.unit { s with heap := hp h0 (l.set i (dO (es ++ entS t ps))), toks := s.toks + ps.length } q
  | [], t, es, l, s, hs, ho, hz, hn => by
    rw [show es ++ entS t [] = es by simp [entS], set_same ho, valsS, List.forIn_nil]
    have : ({ s with heap := hp h0 l, toks := s.toks + ([] : List (Int × Str)).length } : Shared) = s := by
      obtain ⟨a, b, c, d, e⟩ := s; simp only [List.length_nil, Nat.add_zero]; rw [← hs]
    rw [this]
    exact G.pure
  | (k, v) :: r, t, es, l, s, hs, ho, hz, hn => by
    have hil : i < l.length := by rw [List.getElem?_eq_some_iff] at ho; exact ho.1
    rw [valsS, List.forIn_cons, hf]
    have hlen : 10 * ((k, v) :: r).length = 10 + 10 * r.length := by simp only [List.length_cons]; omega
    rw [hlen]
    have hn' : ∀ e ∈ es, e.hash ≠ hashInt k := not_mem_hashes hn
    refine G.bind' (c := 10) (c' := 10 * r.length) (a := ForInStep.yield PUnit.unit) (s' := { s with heap := hp h0 (l.set i (dO (es ++ [⟨hashInt k, .int k t, .str v (t + 1)⟩]))), toks := s.toks + 1 }) (pos' := q) ?_ ?_
    · refine G.bind' (c := 10) (c' := 0) (a := ()) ?_ G.pure
      exact G.setNew h0 l i hs hd ho h33 (by simp only [List.length_cons] at hz; omega) hn'
    · have := gStoreLoop (q := q) h0 i hd h33 hf r (t + 2) (es ++ [⟨hashInt k, .int k t, .str v (t + 1)⟩]) (l.set i (dO (es ++ [⟨hashInt k, .int k t, .str v (t + 1)⟩])))
        { s with heap := hp h0 (l.set i (dO (es ++ [⟨hashInt k, .int k t, .str v (t + 1)⟩]))), toks := s.toks + 1 } rfl (by rw [List.getElem?_set]; simp [hil])
        (by simp only [List.length_append, List.length_cons, List.length_nil] at hz ⊢; omega) (by
          have : hashes (es ++ [⟨hashInt k, .int k t, .str v (t + 1)⟩]) ++ keyHs r = hashes es ++ keyHs ((k, v) :: r) := by simp [hashes, keyHs]
          rw [this]; exact hn)
      rw [List.set_set, List.append_assoc] at this
      have e2 : [(⟨hashInt k, .int k t, .str v (t + 1)⟩ : DictEntry)] ++ entS (t + 2) r = entS t ((k, v) :: r) := rfl
      dsimp only at this
      rw [e2] at this
      have e3 : s.toks + 1 + r.length = s.toks + ((k, v) :: r).length := by simp only [List.length_cons]; omega
      rw [e3] at this
      exact this
theorem gSubShort {q : Pos} {ps : List (Int × Str)} (h0 : Heap) (l : List Obj) (hs : s.heap = hp h0 l) (h33 : 11 ≤ h0.objs.size) (hlen : ps.length ≤ 15) (hn : (keyHs ps).Nodup) :
    G w (1 + 13 * ps.length) (subDict (ps.map (pT q))) s q (h0.objs.size + l.length) { s with heap := hp h0 (l ++ [dO (entS s.toks ps)]), toks := s.toks + 3 * ps.length } q := by
  have hd : s.heap.objs.size = h0.objs.size + l.length := by rw [hs]; exact hp_size ..
  unfold subDict
  refine G.bind' (c := 1) (c' := 13 * ps.length) (G.alloc G.pure) ?_
  rw [hd]
  refine G.bind' (c := 13 * ps.length) (c' := 0) (a := ()) ?_ G.pure
  refine G.holding ?_
  rw [if_pos (by rw [List.length_map]; omega)]
  rw [show 13 * ps.length = 3 * ps.length + 10 * ps.length by omega]
  have e4 : s.heap.push { cls := .type "dict", data := .dict #[] } = hp h0 (l ++ [dO []]) := by rw [hs, hp_push]; rfl
  rw [e4]
  refine G.bind' (c := 3 * ps.length) (c' := 10 * ps.length) (gEvalPairs ps { s with heap := hp h0 (l ++ [dO []]) }) ?_
  refine G.holding ?_
  refine G.bind' (c := 10 * ps.length) (c' := 0) (a := PUnit.unit) ?_ G.pure
  have := gStoreLoop (w := w) (d := h0.objs.size + l.length) (q := q) (f := fun x _ => match x with | (k, v) => do dictSet (h0.objs.size + l.length) k v; pure (ForInStep.yield PUnit.unit))
    h0 l.length rfl h33 (fun _ _ _ => rfl) ps s.toks [] (l ++ [dO []]) { s with heap := hp h0 (l ++ [dO []]), toks := s.toks + 2 * ps.length } rfl (by simp) (by simp only [List.length_nil]; omega) (by simpa [hashes] using hn)
  simp only [List.nil_append] at this
  rw [show (l ++ [dO []]).set l.length (dO (entS s.toks ps)) = l ++ [dO (entS s.toks ps)] by simp, show s.toks + 2 * ps.length + ps.length = s.toks + 3 * ps.length by omega] at this
  exact this

def IntEnts (S : List DictEntry) : Prop := ∀ e ∈ S, ∃ k t, e.key = Value.int k t ∧ e.hash = hashInt k
theorem intEnts_L : ∀ (ps : List (Int × Str)) (t : Nat), IntEnts (entL t ps)
  | [], _ => fun _ h => (nomatch h)
  | (k, v) :: r, t => fun e h => by
    rcases List.mem_cons.mp h with rfl | h
    · exact ⟨k, t, rfl, rfl⟩
    · exact intEnts_L r _ e h
theorem intEnts_S : ∀ (ps : List (Int × Str)) (t : Nat), IntEnts (entS t ps)
  | [], _ => fun _ h => (nomatch h)
  | (k, v) :: r, t => fun e h => by
    rcases List.mem_cons.mp h with rfl | h
    · exact ⟨k, t, rfl, rfl⟩
    · exact intEnts_S r _ e h
theorem not_mem_hashes' {es : List DictEntry} {x : DictEntry} {r : List DictEntry} (n : (hashes es ++ hashes (x :: r)).Nodup) : ∀ e ∈ es, e.hash ≠ x.hash :=
  not_mem_hashes (h := x.hash) (r := hashes r) n

theorem gMergeLoop {q : Pos} {f : Nat → PUnit → Sem (ForInStep PUnit)} (h0 : Heap) (subs : List Obj) (S : List DictEntry)
    (body : ∀ (i : Nat) (M : List DictEntry) (s : Shared) (hi : i < S.length), s.heap = hp h0 (dO M :: (subs ++ [dO S])) → M.length ≤ 1000 → (∀ e ∈ M, e.hash ≠ S[i].hash) →
      G w 6 (f i PUnit.unit) s q (ForInStep.yield PUnit.unit) { s with heap := hp h0 (dO (M ++ [S[i]]) :: (subs ++ [dO S])) } q) :
    ∀ (n i : Nat) (M : List DictEntry) (s : Shared), i + n = S.length → s.heap = hp h0 (dO M :: (subs ++ [dO S])) → M.length + n ≤ 1000 → (hashes M ++ hashes (S.drop i)).Nodup →
      G w (6 * n) (forIn (List.range' i n) PUnit.unit f) s q PUnit.unit { s with heap := hp h0 (dO (M ++ S.drop i) :: (subs ++ [dO S])) } q
  | 0, i, M, s, hi, hs, hz, hn => by
    rw [show S.drop i = [] from List.drop_eq_nil_of_le (by omega), List.append_nil, List.range'_zero, List.forIn_nil]
    have : ({ s with heap := hp h0 (dO M :: (subs ++ [dO S])) } : Shared) = s := by
      obtain ⟨a, b, c, d, e⟩ := s; rw [← hs]
    rw [this]
    exact G.pure
  | n + 1, i, M, s, hi, hs, hz, hn => by
    have hlt : i < S.length := by omega
    have hdrop : S.drop i = S[i] :: S.drop (i + 1) := List.drop_eq_getElem_cons hlt
    rw [hdrop] at hn
    rw [List.range'_succ, List.forIn_cons, show 6 * (n + 1) = 6 + 6 * n by omega]
    refine G.bind' (c := 6) (c' := 6 * n) (body i M s hlt hs (by omega) (not_mem_hashes' hn)) ?_
    have := gMergeLoop (q := q) h0 subs S body n (i + 1) (M ++ [S[i]]) { s with heap := hp h0 (dO (M ++ [S[i]]) :: (subs ++ [dO S])) } (by omega) rfl
      (by simp only [List.length_append, List.length_singleton]; omega) (by
        have : hashes (M ++ [S[i]]) ++ hashes (S.drop (i + 1)) = hashes M ++ hashes (S[i] :: S.drop (i + 1)) := by
          simp only [hashes, List.map_append, List.map_cons, List.map_nil, List.append_assoc, List.singleton_append]
        rw [this]; exact hn)
    rw [List.append_assoc, show [S[i]] ++ S.drop (i + 1) = S.drop i from hdrop.symm] at this
    exact this

theorem gMerge {d a : Addr} {q : Pos} (h0 : Heap) (subs : List Obj) (M S : List DictEntry) (hd : d = h0.objs.size + 0) (ha : a = h0.objs.size + (1 + subs.length)) (h33 : 11 ≤ h0.objs.size) (hI : IntEnts S)
    (hs : s.heap = hp h0 (dO M :: (subs ++ [dO S]))) (hz : M.length + S.length ≤ 1000) (hM : M ≠ []) (hn : (hashes M ++ hashes S).Nodup) :
    G w (5 + 6 * S.length) (mergeMapping d (.ref a) false) s q () { s with heap := hp h0 (dO (M ++ S) :: (subs ++ [dO S])) } q := by
  have hgaM : ∀ M' : List DictEntry, (hp h0 (dO M' :: (subs ++ [dO S]))).get? a = some (dO S) := fun M' => by
    rw [ha]; exact hp_get (by rw [show 1 + subs.length = subs.length + 1 by omega, List.getElem?_cons_succ]; simp) rfl
  have hgdM : ∀ M' : List DictEntry, (hp h0 (dO M' :: (subs ++ [dO S]))).get? d = some (dO M') := fun M' => by rw [hd]; exact hp_get rfl rfl
  have hga : s.heap.get? a = some (dO S) := hs ▸ hgaM M
  have hgd : s.heap.get? d = some (dO M) := hs ▸ hgdM M
  unfold mergeMapping
  rw [show 5 + 6 * S.length = 1 + (1 + (1 + (1 + (1 + 6 * S.length)))) by omega]
  refine G.bind' (c := 1) (c' := 1 + (1 + (1 + (1 + 6 * S.length)))) (a := true) (s' := s) (pos' := q) ?_ ?_
  · unfold isInstance
    refine G.bind' (c := 1) (c' := 0) (a := .type "dict") (s' := s) (pos' := q) (G.load hga G.pure) ?_
    rw [isSubtype_dict_dict]
    exact G.pure
  dsimp only
  rw [if_pos rfl]
  refine G.bind' (c := 1) (c' := 1 + (1 + (1 + 6 * S.length))) (a := some (.builtin "dict.__iter__")) (s' := s) (pos' := q) ?_ ?_
  · unfold specialOf
    refine G.bind' (c := 1) (c' := 0) (a := .type "dict") (s' := s) (pos' := q) (G.load hga G.pure) ?_
    rw [F.slot_dict_iter.lookup]
    exact G.pure
  rw [show (some (Value.builtin "dict.__iter__") == some (Value.builtin "dict.__iter__")) = true by simp]
  have hsys : (a == sysModules) = false := by
    rw [beq_eq_false_iff_ne]
    intro e
    have e' : h0.objs.size + (1 + subs.length) = 1 := ha.symm.trans e
    omega
  refine G.pb ?_
  dsimp only
  rw [hsys]
  refine G.bind' (c := 1) (c' := 1 + (1 + 6 * S.length)) (a := M.toArray) (s' := s) (pos' := q) (G.load hgd G.pure) ?_
  rw [show M.toArray.isEmpty = false by cases M with | nil => exact absurd rfl hM | cons => rfl]
  refine G.bind' (c := 1) (c' := 1 + 6 * S.length) (a := S.toArray) (s' := s) (pos' := q) (G.load hga G.pure) ?_
  refine G.bind' (c := 1) (c' := 6 * S.length) (a := S.length) (s' := s) (pos' := q) (G.load hga G.pure) ?_
  refine G.bind' (c := 6 * S.length) (c' := 0) (a := PUnit.unit) ?_ G.pure
  rw [show List.range S.toArray.size = List.range' 0 S.length by rw [List.range_eq_range']; simp]
  refine gMergeLoop h0 subs S ?_ S.length 0 M s (by omega) hs (by omega) (by simpa using hn)
  intro i M s hlt hs hz hno
  obtain ⟨k, t, hk, hh⟩ := hI S[i] (List.getElem_mem hlt)
  refine G.bind' (c := 1) (c' := 5) (a := S.toArray) (s' := s) (pos' := q) (G.load (by rw [hs]; exact hgaM M) G.pure) ?_
  rw [show S.toArray[i]? = some S[i] by simp [hlt]]
  dsimp only
  refine G.bind' (c := 4) (c' := 1) (a := ()) (s' := { s with heap := hp h0 (dO (M ++ [S[i]]) :: (subs ++ [dO S])) }) (pos' := q) ?_ ?_
  · refine G.holding ?_
    show G w 4 (dictPut d S[i].hash S[i].key S[i].val) s q () _ q
    unfold dictPut
    refine G.bind' (c := 1) (c' := 3) (a := none) (s' := s) (pos' := q) ?_ ?_
    · rw [hk, hh]
      rw [hh] at hno
      exact G.findNone (es := M) (by rw [hs]; exact hgdM M) hno
    · exact G.updKeys h0 (dO M :: (subs ++ [dO S])) 0 hs hd rfl h33 hz
  · refine G.bind' (c := 1) (c' := 0) (a := S.length) (s' := { s with heap := hp h0 (dO (M ++ [S[i]]) :: (subs ++ [dO S])) }) (pos' := q) (G.load (hgaM _) G.pure) ?_
    rw [if_neg (by simp)]
    exact G.pure

def flushT (run : List (Sem Value × Sem Value)) (main : Option Addr) : Sem (Option Addr) :=
  if run.isEmpty = true then pure main
  else match main with
    | none => do return some (← subDict run)
    | some d => do
      let sub ← holding [.ref d] (subDict run)
      (holding [.ref d, .ref sub] (mergeMapping d (.ref sub) false)).onRaise fun x => do let _ ← holding [.ref d, x] (runValue (.builtin "proto.let_go" {}))
      return some d
theorem gFlush1 {q : Pos} {ps : List (Int × Str)} (h0 : Heap) (hs : s.heap = hp h0 []) (h33 : 11 ≤ h0.objs.size) (hlen : 15 < ps.length) (hz : ps.length ≤ 1000) (hn : (keyHs ps).Nodup) :
    G w (2 + 13 * ps.length) (flushT (ps.map (pT q)) none) s q (some h0.objs.size) { s with heap := hp h0 [dO (entL s.toks ps)], toks := s.toks + 3 * ps.length } q := by
  unfold flushT
  rw [if_neg (by cases ps with | nil => simp at hlen | cons => simp)]
  exact G.bind' (c := 2 + 13 * ps.length) (c' := 0) (gSubLong h0 [] hs h33 hlen hz hn) G.pure
theorem gFlushM {q : Pos} {run : List (Sem Value × Sem Value)} {c : Nat} {k : Nat} (h0 : Heap) (subs : List Obj) (M S : List DictEntry) (hrun : run ≠ []) (h33 : 11 ≤ h0.objs.size)
    (hsub : G w c (subDict run) s q (h0.objs.size + (1 + subs.length)) { s with heap := hp h0 (dO M :: (subs ++ [dO S])), toks := k } q)
    (hI : IntEnts S) (hz : M.length + S.length ≤ 1000) (hM : M ≠ []) (hn : (hashes M ++ hashes S).Nodup) :
    G w (c + (5 + 6 * S.length)) (flushT run (some h0.objs.size)) s q (some h0.objs.size) { s with heap := hp h0 (dO (M ++ S) :: (subs ++ [dO S])), toks := k } q := by
  unfold flushT
  rw [if_neg (by cases run with | nil => exact absurd rfl hrun | cons => simp)]
  refine G.bind' (c := c) (c' := 5 + 6 * S.length) (G.holding hsub) ?_
  refine G.bind' (c := 5 + 6 * S.length) (c' := 0) (a := ()) (s' := { s with heap := hp h0 (dO (M ++ S) :: (subs ++ [dO S])), toks := k }) (pos' := q) ?_ G.pure
  exact G.onRaise (G.holding (gMerge (s := { s with heap := hp h0 (dO M :: (subs ++ [dO S])), toks := k }) h0 subs M S rfl rfl h33 hI rfl hz hM hn))

abbrev itT (x : Sem Value × Sem Value) : Option (Sem Value) × Sem Value := (some x.1, x.2)
abbrev Acc := Option Addr × List (Sem Value × Sem Value)
def BodyIs (f : Option (Sem Value) × Sem Value → Acc → Sem (ForInStep Acc)) : Prop :=
  ∀ k v main run, f (some k, v) (main, run) = if ((run ++ [(k, v)]).length == 17) = true then (do let m ← flushT (run ++ [(k, v)]) main; pure (ForInStep.yield (m, []))) else pure (ForInStep.yield (main, run ++ [(k, v)]))
theorem gather {f : Option (Sem Value) × Sem Value → Acc → Sem (ForInStep Acc)} (hf : BodyIs f) (rest : List (Option (Sem Value) × Sem Value)) (main : Option Addr) : ∀ (c run : List (Sem Value × Sem Value)), run.length + c.length < 17 →
    forIn (c.map itT ++ rest) ((main, run) : Acc) f = forIn rest ((main, run ++ c) : Acc) f
  | [], run, _ => by simp
  | (k, v) :: c, run, h => by
    rw [List.map_cons, List.cons_append, List.forIn_cons, hf, if_neg (by simp only [List.length_append, List.length_cons, List.length_nil] at h ⊢; simp; omega)]
    have := gather hf rest main c (run ++ [(k, v)]) (by simp only [List.length_append, List.length_cons, List.length_nil] at h ⊢; omega)
    rw [List.append_assoc] at this
    exact this
theorem gChunk {q : Pos} {f : Option (Sem Value) × Sem Value → Acc → Sem (ForInStep Acc)} (hf : BodyIs f) {rest : List (Option (Sem Value) × Sem Value)} {main m : Option Addr} {c : List (Sem Value × Sem Value)} (hc : c.length = 17)
    {c1 c2 : Nat} {s1 s2 : Shared} {r : Acc} (h1 : G w c1 (flushT c main) s q m s1 q) (h2 : G w c2 (forIn rest ((m, []) : Acc) f) s1 q r s2 q) : G w (c1 + c2) (forIn (c.map itT ++ rest) ((main, []) : Acc) f) s q r s2 q := by
  have hne : c ≠ [] := by intro e; rw [e] at hc; simp at hc
  obtain ⟨a, x, rfl⟩ : ∃ a x, c = a ++ [x] := ⟨c.dropLast, c.getLast hne, (List.dropLast_concat_getLast hne).symm⟩
  have ha : a.length = 16 := by simpa using hc
  rw [List.map_append, List.append_assoc, gather hf _ main a [] (by simp; omega), List.nil_append]
  obtain ⟨k, v⟩ := x
  rw [List.map_cons, List.map_nil, List.singleton_append, List.forIn_cons, hf, if_pos (by simp [ha])]
  exact G.bind' (c := c1) (c' := c2) (G.bind' (c := c1) (c' := 0) h1 G.pure) h2

def subsL : Nat → List (List (Int × Str)) → List Obj
  | _, [] => []
  | t, c :: r => dO (entL t c) :: subsL (t + 51) r
theorem entL_append : ∀ (a b : List (Int × Str)) (t : Nat), entL t (a ++ b) = entL t a ++ entL (t + 3 * a.length) b
  | [], b, t => by simp [entL]
  | (k, v) :: a, b, t => by
    simp only [List.cons_append, entL, List.length_cons]
    rw [entL_append a b (t + 3), show t + 3 + 3 * a.length = t + 3 * (a.length + 1) by omega]
theorem keyHs_append (a b : List (Int × Str)) : keyHs (a ++ b) = keyHs a ++ keyHs b := List.map_append
theorem hashes_append (a b : List DictEntry) : hashes (a ++ b) = hashes a ++ hashes b := List.map_append

theorem gChunks {q : Pos} {f : Option (Sem Value) × Sem Value → Acc → Sem (ForInStep Acc)} (hf : BodyIs f) (h0 : Heap) (h33 : 11 ≤ h0.objs.size) (r : List (Int × Str)) (hr : r.length < 17) :
    ∀ (cs : List (List (Int × Str))) (M : List DictEntry) (subs : List Obj) (s : Shared), (∀ c ∈ cs, c.length = 17) → s.heap = hp h0 (dO M :: subs) → M ≠ [] → M.length + 17 * cs.length ≤ 1000 → (hashes M ++ keyHs cs.flatten).Nodup →
      G w (330 * cs.length) (forIn (((cs.flatten ++ r).map (pT q)).map itT) ((some h0.objs.size, []) : Acc) f) s q (some h0.objs.size, r.map (pT q))
        { s with heap := hp h0 (dO (M ++ entL s.toks cs.flatten) :: (subs ++ subsL s.toks cs)), toks := s.toks + 51 * cs.length } q
  | [], M, subs, s, _, hs, _, _, _ => by
    have := gather hf [] (some h0.objs.size) (r.map (pT q)) [] (by simpa using hr)
    simp only [List.append_nil, List.nil_append] at this
    rw [List.flatten_nil, List.nil_append, this, List.forIn_nil]
    have : ({ s with heap := hp h0 (dO (M ++ entL s.toks []) :: (subs ++ subsL s.toks [])), toks := s.toks + 51 * ([] : List (List (Int × Str))).length } : Shared) = s := by
      obtain ⟨a, b, c, d, e⟩ := s
      simp only [entL, subsL, List.append_nil, List.length_nil, Nat.mul_zero, Nat.add_zero]
      rw [← hs]
    rw [this]
    exact G.pure
  | c :: cs, M, subs, s, hc, hs, hM, hz, hn => by
    have hcl : c.length = 17 := hc c (.head _)
    simp only [List.length_cons] at hz
    have hn1 : (hashes M ++ keyHs c ++ keyHs cs.flatten).Nodup := by
      rw [List.flatten_cons, keyHs_append, ← List.append_assoc] at hn; exact hn
    have hn2 : (hashes M ++ hashes (entL s.toks c)).Nodup := by rw [hashes_entL]; exact (List.nodup_append.mp hn1).1
    have hkc : (keyHs c).Nodup := (List.nodup_append.mp (List.nodup_append.mp hn1).1).2.1
    rw [List.flatten_cons, List.append_assoc, List.map_append, List.map_append, show 330 * (c :: cs).length = (2 + 13 * c.length + (5 + 6 * (entL s.toks c).length)) + 330 * cs.length by rw [entL_length, hcl, List.length_cons]; omega]
    have hlen : h0.objs.size + (dO M :: subs).length = h0.objs.size + (1 + subs.length) := by simp only [List.length_cons]; omega
    have hsub := gSubLong (w := w) (q := q) (ps := c) h0 (dO M :: subs) hs h33 (by omega) (by omega) hkc
    rw [hlen, List.cons_append] at hsub
    refine gChunk hf (by rw [List.length_map]; exact hcl) (gFlushM h0 subs M (entL s.toks c) (by cases c with | nil => simp at hcl | cons => simp) h33 hsub (intEnts_L c _) (by rw [entL_length]; omega) hM hn2) ?_
    have := gChunks (q := q) hf h0 h33 r hr cs (M ++ entL s.toks c) (subs ++ [dO (entL s.toks c)]) { s with heap := hp h0 (dO (M ++ entL s.toks c) :: (subs ++ [dO (entL s.toks c)])), toks := s.toks + 3 * c.length }
      (fun c' h' => hc c' (.tail _ h')) rfl (by simp [hM]) (by rw [List.length_append, entL_length]; omega) (by rw [hashes_append, hashes_entL]; exact hn1)
    dsimp only at this
    rw [List.append_assoc, List.append_assoc] at this
    have e1 : entL s.toks c ++ entL (s.toks + 3 * c.length) cs.flatten = entL s.toks (c ++ cs.flatten) := (entL_append c cs.flatten s.toks).symm
    have e2 : [dO (entL s.toks c)] ++ subsL (s.toks + 3 * c.length) cs = subsL s.toks (c :: cs) := by rw [hcl]; rfl
    have e3 : s.toks + 3 * c.length + 51 * cs.length = s.toks + 51 * (c :: cs).length := by rw [hcl, List.length_cons]; omega
    rw [e1, e2, e3] at this
    exact this

theorem gDisplay {q : Pos} (h0 : Heap) (h33 : 11 ≤ h0.objs.size) (c0 : List (Int × Str)) (cs : List (List (Int × Str))) (r : List (Int × Str)) (h17 : c0.length = 17) (hc : ∀ c ∈ cs, c.length = 17) (hr : r.length = 4)
    (hs : s.heap = h0) (hz : 17 + 17 * cs.length + 4 ≤ 1000) (hn : (keyHs (c0 ++ cs.flatten ++ r)).Nodup) :
    G w (223 + 330 * cs.length + 82) (dictDisplay (((c0 ++ (cs.flatten ++ r)).map (pT q)).map itT)) s q (.ref h0.objs.size)
      { s with heap := hp h0 (dO (entL s.toks (c0 ++ cs.flatten) ++ entS (s.toks + 51 + 51 * cs.length) r) :: (subsL (s.toks + 51) cs ++ [dO (entS (s.toks + 51 + 51 * cs.length) r)])), toks := s.toks + 51 + 51 * cs.length + 12 } q := by
  have hs' : s.heap = hp h0 [] := by rw [hs]; simp [hp]
  have hn1 : (keyHs c0 ++ keyHs cs.flatten ++ keyHs r).Nodup := by rw [← keyHs_append, ← keyHs_append]; exact hn
  have hn0 : (keyHs c0).Nodup := (List.nodup_append.mp (List.nodup_append.mp hn1).1).1
  unfold dictDisplay
  dsimp only
  rw [List.map_append, List.map_append, show 223 + 330 * cs.length + 82 = (223 + 330 * cs.length) + 82 by rfl]
  refine G.bind' (c := 223 + 330 * cs.length) (c' := 82) (a := (some h0.objs.size, r.map (pT q)))
    (s' := { s with heap := hp h0 (dO (entL s.toks c0 ++ entL (s.toks + 51) cs.flatten) :: ([] ++ subsL (s.toks + 51) cs)), toks := s.toks + 51 + 51 * cs.length }) (pos' := q) ?_ ?_
  · refine gChunk (main := none) (m := some h0.objs.size) (c1 := 223) (s1 := { s with heap := hp h0 [dO (entL s.toks c0)], toks := s.toks + 51 }) (fun _ _ _ _ => rfl) (by rw [List.length_map]; exact h17) ?_ ?_
    · have := gFlush1 (w := w) (q := q) (ps := c0) h0 hs' h33 (by omega) (by omega) hn0
      rw [h17] at this
      exact this
    · exact gChunks (fun _ _ _ _ => rfl) h0 h33 r (by omega) cs (entL s.toks c0) [] { s with heap := hp h0 [dO (entL s.toks c0)], toks := s.toks + 51 } hc rfl
        (by cases c0 with | nil => simp at h17 | cons a b => obtain ⟨k, v⟩ := a; simp [entL]) (by rw [entL_length]; omega) (by rw [hashes_entL]; exact (List.nodup_append.mp hn1).1)
  · dsimp only
    have hM : entL s.toks c0 ++ entL (s.toks + 51) cs.flatten = entL s.toks (c0 ++ cs.flatten) := by rw [entL_append, h17]
    rw [hM, List.nil_append]
    have hrn : (keyHs r).Nodup := (List.nodup_append.mp hn1).2.1
    have hsub := gSubShort (w := w) (q := q) (ps := r) (s := { s with heap := hp h0 (dO (entL s.toks (c0 ++ cs.flatten)) :: subsL (s.toks + 51) cs), toks := s.toks + 51 + 51 * cs.length })
      h0 (dO (entL s.toks (c0 ++ cs.flatten)) :: subsL (s.toks + 51) cs) rfl h33 (by omega) hrn
    rw [List.length_cons, show (subsL (s.toks + 51) cs).length + 1 = 1 + (subsL (s.toks + 51) cs).length by omega, List.cons_append, hr] at hsub
    have hfl := gFlushM (w := w) (q := q) (run := r.map (pT q)) h0 (subsL (s.toks + 51) cs) (entL s.toks (c0 ++ cs.flatten)) (entS (s.toks + 51 + 51 * cs.length) r)
      (by cases r with | nil => simp at hr | cons => simp) h33 hsub (intEnts_S r _) (by
        rw [entL_length, entS_length, List.length_append, h17, hr]
        have : ∀ l : List (List (Int × Str)), (∀ c ∈ l, c.length = 17) → l.flatten.length = 17 * l.length := by
          intro l
          induction l with
          | nil => intro _; rfl
          | cons a b ih => intro h; rw [List.flatten_cons, List.length_append, h a (.head _), ih fun c hc => h c (.tail _ hc), List.length_cons]; omega
        rw [this cs hc]; omega) (by cases c0 with | nil => simp at h17 | cons a b => obtain ⟨k, v⟩ := a; simp [entL])
      (by rw [hashes_entL, hashes_entS, keyHs_append]; exact hn1)
    rw [entS_length, hr] at hfl
    exact G.bind' (c := 82) (c' := 0) hfl G.pure
end
end
end Mine
end

section
open PySem PySem.W PyProof.Rows PySem.Calls
set_option maxRecDepth 100000
set_option maxHeartbeats 0
namespace Mine
noncomputable section
def parOf (i : Nat) : Arguments := match p.main.body[i]? with | some (.FunctionDef _ a _ _ _ _ _ _ _ _) => a | _ => default
def bodyOf (i : Nat) : List Stmt := match p.main.body[i]? with | some (.FunctionDef _ _ b _ _ _ _ _ _ _) => b | _ => []
def scopeOf (i : Nat) : Scope := match p.main.body[i]? with | some (.FunctionDef _ _ _ _ _ _ s _ _ _) => s | _ => default
def a3 (P : Params) : Obj := ⟨.type "dict", none, .dict #[⟨PyData.keyHash P (Str.ofString "__name__"), .str (Str.ofString "__name__") 165, .str (Str.ofString "cpy313.stringprep") 187⟩, ⟨PyData.keyHash P (Str.ofString "__doc__"), .str (Str.ofString "__doc__") 166, .none⟩, ⟨PyData.keyHash P (Str.ofString "__package__"), .str (Str.ofString "__package__") 167, .none⟩, ⟨PyData.keyHash P (Str.ofString "__loader__"), .str (Str.ofString "__loader__") 168, .builtin "__main__.__loader__#opaque"⟩, ⟨PyData.keyHash P (Str.ofString "__spec__"), .str (Str.ofString "__spec__") 169, .none⟩, ⟨PyData.keyHash P (Str.ofString "__annotations__"), .str (Str.ofString "__annotations__") 170, .ref 6⟩, ⟨PyData.keyHash P (Str.ofString "__builtins__"), .str (Str.ofString "__builtins__") 171, .ref 4⟩, ⟨PyData.keyHash P (Str.ofString "__file__"), .str (Str.ofString "__file__") 173, .str (Str.ofString "/claim/cut.py") 172⟩, ⟨PyData.keyHash P (Str.ofString "__cached__"), .str (Str.ofString "__cached__") 174, .none⟩, ⟨PyData.keyHash P (Str.ofString "b1_set"), .str (Str.ofString "b1_set") 248, .ref 22⟩, ⟨PyData.keyHash P (Str.ofString "in_table_b1"), .str (Str.ofString "in_table_b1") 255, .ref 32⟩] 11, #[]⟩
def a12 (P : Params) : Obj := ⟨.none, none, .fields #[.int (3) 0, .int (0) 0, .ref 31], #[]⟩
def a15 (P : Params) : Obj := ⟨.type "list", none, .seq #[.int (173) 189, .int (847) 190, .int (6150) 191, .int (6155) 192, .int (6156) 193, .int (6157) 194, .int (8203) 195, .int (8204) 196, .int (8205) 197, .int (8288) 198, .int (65279) 199] 0, #[]⟩
def a16 (P : Params) : Obj := ⟨.type "range", none, .fields #[.int (65024) 200, .int (65040) 201, .int (1) 202], #[]⟩
def a17 (P : Params) : Obj := ⟨.type "list", none, .seq #[.int (65024) 205, .int (65025) 206, .int (65026) 207, .int (65027) 208, .int (65028) 209, .int (65029) 210, .int (65030) 211, .int (65031) 212, .int (65032) 213, .int (65033) 214, .int (65034) 215, .int (65035) 216, .int (65036) 217, .int (65037) 218, .int (65038) 219, .int (65039) 220] 18, #[]⟩
def a18 (P : Params) : Obj := ⟨.type "range_iterator", none, .fields #[.int (65040) 0, .int (0) 0, .int (1) 0], #[]⟩
def a19 (P : Params) : Obj := ⟨.type "tuple", none, .seq #[] 0, #[]⟩
def a20 (P : Params) : Obj := ⟨.type "StopIteration", none, .fields #[.ref 19, .none, .none, .none, .bool false, .none], #[]⟩
def a21 (P : Params) : Obj := ⟨.type "list", none, .seq #[.int (173) 189, .int (847) 190, .int (6150) 191, .int (6155) 192, .int (6156) 193, .int (6157) 194, .int (8203) 195, .int (8204) 196, .int (8205) 197, .int (8288) 198, .int (65279) 199, .int (65024) 205, .int (65025) 206, .int (65026) 207, .int (65027) 208, .int (65028) 209, .int (65029) 210, .int (65030) 211, .int (65031) 212, .int (65032) 213, .int (65033) 214, .int (65034) 215, .int (65035) 216, .int (65036) 217, .int (65037) 218, .int (65038) 219, .int (65039) 220] 0, #[]⟩
def a22 (P : Params) : Obj := ⟨.type "set", none, .set #[(65024, .int (65024) 205), (65025, .int (65025) 206), (65026, .int (65026) 207), (65027, .int (65027) 208), (65028, .int (65028) 209), (65029, .int (65029) 210), (6150, .int (6150) 191), (65030, .int (65030) 211), (65031, .int (65031) 212), (65032, .int (65032) 213), (65033, .int (65033) 214), (6155, .int (6155) 192), (6156, .int (6156) 193), (6157, .int (6157) 194), (8203, .int (8203) 195), (8204, .int (8204) 196), (8205, .int (8205) 197), (65034, .int (65034) 215), (65035, .int (65035) 216), (65036, .int (65036) 217), (65037, .int (65037) 218), (65038, .int (65038) 219), (65039, .int (65039) 220), (173, .int (173) 189), (847, .int (847) 190), (8288, .int (8288) 198), (65279, .int (65279) 199)] 29 ⟨127, #[0, 1, 2, 3, 4, 5, 6, 7, 8, 9, 10, 11, 12, 13, 14, 15, 16, 17, 18, 19, 20, 21, 22, 45, 79, 96, 127], #[], 0, !P.followText "set-order", 2, true⟩, #[]⟩
def a23 (P : Params) : Obj := ⟨.type "list_iterator", none, .fields #[.none, .int (27) 0], #[]⟩
def a24 (P : Params) : Obj := ⟨.type "tuple", none, .seq #[] 0, #[]⟩
def a25 (P : Params) : Obj := ⟨.type "StopIteration", none, .fields #[.ref 24, .none, .none, .none, .bool false, .none], #[]⟩
def a26 (P : Params) : Obj := ⟨.type "tuple", none, .seq #[] 0, #[]⟩
def a27 (P : Params) : Obj := ⟨.none, none, .fields #[], #[]⟩
def a28 (P : Params) : Obj := ⟨.type "tuple", none, .seq #[.str (Str.ofString "code") 252] 0, #[]⟩
def a29 (P : Params) : Obj := ⟨.type "tuple", none, .seq #[] 0, #[]⟩
def a30 (P : Params) : Obj := ⟨.none, none, .func ⟨(Str.ofString "in_table_b1"), (Str.ofString "in_table_b1"), parOf 2, .stmts (bodyOf 2), scopeOf 2, 0, [], .none, .none, .none, .none, none, .none, .none, 0⟩, #[]⟩
def a31 (P : Params) : Obj := ⟨.type "code", none, .fields #[.str (Str.ofString "in_table_b1") 249, .str (Str.ofString "in_table_b1") 250, .str (Str.ofString "/claim/cut.py") 251, .int (3) 0, .int (1) 0, .int (0) 0, .int (0) 0, .int (3) 0, .ref 26, .bool true, .int (181) 0, .ref 27, .none, .ref 28, .ref 29, .ref 30, .int (253) 0, .int (3) 0, .str (Str.ofString "/claim/cut.py") 254], #[]⟩
def a32 (P : Params) : Obj := ⟨.type "function", none, .func ⟨(Str.ofString "in_table_b1"), (Str.ofString "in_table_b1"), parOf 2, .stmts (bodyOf 2), scopeOf 2, 3, [], .none, .none, .none, .str (Str.ofString "cpy313.stringprep") 187, none, .ref 31, .none, 0⟩, #[]⟩
def c3 (P : Params) : Obj := ⟨.type "dict", none, .dict #[⟨PyData.keyHash P (Str.ofString "__name__"), .str (Str.ofString "__name__") 165, .str (Str.ofString "law_tc0033_01") 2268⟩, ⟨PyData.keyHash P (Str.ofString "__doc__"), .str (Str.ofString "__doc__") 166, .none⟩, ⟨PyData.keyHash P (Str.ofString "__package__"), .str (Str.ofString "__package__") 167, .none⟩, ⟨PyData.keyHash P (Str.ofString "__loader__"), .str (Str.ofString "__loader__") 168, .builtin "__main__.__loader__#opaque"⟩, ⟨PyData.keyHash P (Str.ofString "__spec__"), .str (Str.ofString "__spec__") 169, .none⟩, ⟨PyData.keyHash P (Str.ofString "__annotations__"), .str (Str.ofString "__annotations__") 170, .ref 6⟩, ⟨PyData.keyHash P (Str.ofString "__builtins__"), .str (Str.ofString "__builtins__") 171, .ref 4⟩, ⟨PyData.keyHash P (Str.ofString "__file__"), .str (Str.ofString "__file__") 173, .str (Str.ofString "/claim/cut.py") 172⟩, ⟨PyData.keyHash P (Str.ofString "__cached__"), .str (Str.ofString "__cached__") 174, .none⟩, ⟨PyData.keyHash P (Str.ofString "b1_set"), .str (Str.ofString "b1_set") 248, .ref 22⟩, ⟨PyData.keyHash P (Str.ofString "in_table_b1"), .str (Str.ofString "in_table_b1") 255, .ref 32⟩, ⟨PyData.keyHash P (Str.ofString "b3_exceptions"), .str (Str.ofString "b3_exceptions") 2206, .ref 33⟩, ⟨PyData.keyHash P (Str.ofString "map_table_b3"), .str (Str.ofString "map_table_b3") 2214, .ref 78⟩, ⟨PyData.keyHash P (Str.ofString "ELLIPSIS_MARKER"), .str (Str.ofString "ELLIPSIS_MARKER") 2218, .str (Str.ofString "...") 2217⟩, ⟨PyData.keyHash P (Str.ofString "_ellipsis_match"), .str (Str.ofString "_ellipsis_match") 2230, .ref 85⟩, ⟨PyData.keyHash P (Str.ofString "add"), .str (Str.ofString "add") 2240, .ref 92⟩, ⟨PyData.keyHash P (Str.ofString "lshift"), .str (Str.ofString "lshift") 2248, .ref 99⟩, ⟨PyData.keyHash P (Str.ofString "concat"), .str (Str.ofString "concat") 2257, .ref 106⟩, ⟨PyData.keyHash P (Str.ofString "indexOf"), .str (Str.ofString "indexOf") 2267, .ref 113⟩, ⟨PyData.keyHash P (Str.ofString "_law_gone"), .str (Str.ofString "_law_gone") 2277, .ref 120⟩, ⟨PyData.keyHash P (Str.ofString "_law_spelled"), .str (Str.ofString "_law_spelled") 2285, .ref 127⟩, ⟨PyData.keyHash P (Str.ofString "_law_choices"), .str (Str.ofString "_law_choices") 2291, .ref 132⟩, ⟨PyData.keyHash P (Str.ofString "_law_left"), .str (Str.ofString "_law_left") 2297, .ref 137⟩, ⟨PyData.keyHash P (Str.ofString "_law_place"), .str (Str.ofString "_law_place") 2305, .ref 144⟩, ⟨PyData.keyHash P (Str.ofString "_law_found"), .str (Str.ofString "_law_found") 2311, .ref 149⟩, ⟨PyData.keyHash P (Str.ofString "law"), .str (Str.ofString "law") 2317, .ref 154⟩] 26, #[]⟩
def c12 (P : Params) : Obj := ⟨.none, none, .fields #[.int (3) 0, .int (0) 0, .ref 31, .int (6) 0, .int (0) 0, .ref 77, .int (13) 0, .int (0) 0, .ref 84, .int (42) 0, .int (0) 0, .ref 91, .int (44) 0, .int (0) 0, .ref 98, .int (46) 0, .int (0) 0, .ref 105, .int (51) 0, .int (0) 0, .ref 112, .int (58) 0, .int (0) 0, .ref 119, .int (61) 0, .int (0) 0, .ref 126, .int (63) 0, .int (0) 0, .ref 131, .int (70) 0, .int (0) 0, .ref 136, .int (72) 0, .int (0) 0, .ref 143, .int (77) 0, .int (0) 0, .ref 148, .int (87) 0, .int (0) 0, .ref 153], #[]⟩
def c72 (P : Params) : Obj := ⟨.type "tuple", none, .seq #[] 0, #[]⟩
def c73 (P : Params) : Obj := ⟨.none, none, .fields #[], #[]⟩
def c74 (P : Params) : Obj := ⟨.type "tuple", none, .seq #[.str (Str.ofString "code") 2210, .str (Str.ofString "r") 2211] 0, #[]⟩
def c75 (P : Params) : Obj := ⟨.type "tuple", none, .seq #[] 0, #[]⟩
def c76 (P : Params) : Obj := ⟨.none, none, .func ⟨(Str.ofString "map_table_b3"), (Str.ofString "map_table_b3"), parOf 4, .stmts (bodyOf 4), scopeOf 4, 0, [], .none, .none, .none, .none, none, .none, .none, 0⟩, #[]⟩
def c77 (P : Params) : Obj := ⟨.type "code", none, .fields #[.str (Str.ofString "map_table_b3") 2207, .str (Str.ofString "map_table_b3") 2208, .str (Str.ofString "/claim/cut.py") 2209, .int (6) 0, .int (1) 0, .int (0) 0, .int (0) 0, .int (3) 0, .ref 72, .bool true, .int (181) 0, .ref 73, .none, .ref 74, .ref 75, .ref 76, .int (2212) 0, .int (6) 0, .str (Str.ofString "/claim/cut.py") 2213], #[]⟩
def c78 (P : Params) : Obj := ⟨.type "function", none, .func ⟨(Str.ofString "map_table_b3"), (Str.ofString "map_table_b3"), parOf 4, .stmts (bodyOf 4), scopeOf 4, 3, [], .none, .none, .none, .str (Str.ofString "cpy313.stringprep") 187, none, .ref 77, .none, 0⟩, #[]⟩
def c79 (P : Params) : Obj := ⟨.type "tuple", none, .seq #[] 0, #[]⟩
def c80 (P : Params) : Obj := ⟨.none, none, .fields #[], #[]⟩
def c81 (P : Params) : Obj := ⟨.type "tuple", none, .seq #[.str (Str.ofString "want") 2222, .str (Str.ofString "got") 2223, .str (Str.ofString "ws") 2224, .str (Str.ofString "startpos") 2225, .str (Str.ofString "endpos") 2226, .str (Str.ofString "w") 2227] 0, #[]⟩
def c82 (P : Params) : Obj := ⟨.type "tuple", none, .seq #[] 0, #[]⟩
def c83 (P : Params) : Obj := ⟨.none, none, .func ⟨(Str.ofString "_ellipsis_match"), (Str.ofString "_ellipsis_match"), parOf 7, .stmts (bodyOf 7), scopeOf 7, 0, [], .none, .none, .none, .none, none, .none, .none, 0⟩, #[]⟩
def c84 (P : Params) : Obj := ⟨.type "code", none, .fields #[.str (Str.ofString "_ellipsis_match") 2219, .str (Str.ofString "_ellipsis_match") 2220, .str (Str.ofString "/claim/cut.py") 2221, .int (13) 0, .int (2) 0, .int (0) 0, .int (0) 0, .int (3) 0, .ref 79, .bool true, .int (181) 0, .ref 80, .none, .ref 81, .ref 82, .ref 83, .int (2228) 0, .int (13) 0, .str (Str.ofString "/claim/cut.py") 2229], #[]⟩
def c85 (P : Params) : Obj := ⟨.type "function", none, .func ⟨(Str.ofString "_ellipsis_match"), (Str.ofString "_ellipsis_match"), parOf 7, .stmts (bodyOf 7), scopeOf 7, 3, [], .none, .none, .none, .str (Str.ofString "cpy313.doctest") 2215, none, .ref 84, .none, 0⟩, #[]⟩
def c86 (P : Params) : Obj := ⟨.type "tuple", none, .seq #[] 0, #[]⟩
def c87 (P : Params) : Obj := ⟨.none, none, .fields #[], #[]⟩
def c88 (P : Params) : Obj := ⟨.type "tuple", none, .seq #[.str (Str.ofString "a") 2236, .str (Str.ofString "b") 2237] 0, #[]⟩
def c89 (P : Params) : Obj := ⟨.type "tuple", none, .seq #[] 0, #[]⟩
def c90 (P : Params) : Obj := ⟨.none, none, .func ⟨(Str.ofString "add"), (Str.ofString "add"), parOf 9, .stmts (bodyOf 9), scopeOf 9, 0, [], .none, .none, .none, .none, none, .none, .none, 0⟩, #[]⟩
def c91 (P : Params) : Obj := ⟨.type "code", none, .fields #[.str (Str.ofString "add") 2233, .str (Str.ofString "add") 2234, .str (Str.ofString "/claim/cut.py") 2235, .int (42) 0, .int (2) 0, .int (0) 0, .int (0) 0, .int (3) 0, .ref 86, .bool true, .int (181) 0, .ref 87, .none, .ref 88, .ref 89, .ref 90, .int (2238) 0, .int (42) 0, .str (Str.ofString "/claim/cut.py") 2239], #[]⟩
def c92 (P : Params) : Obj := ⟨.type "function", none, .func ⟨(Str.ofString "add"), (Str.ofString "add"), parOf 9, .stmts (bodyOf 9), scopeOf 9, 3, [], .none, .none, .none, .str (Str.ofString "cpy313.operator") 2231, none, .ref 91, .none, 0⟩, #[]⟩
def c93 (P : Params) : Obj := ⟨.type "tuple", none, .seq #[] 0, #[]⟩
def c94 (P : Params) : Obj := ⟨.none, none, .fields #[], #[]⟩
def c95 (P : Params) : Obj := ⟨.type "tuple", none, .seq #[.str (Str.ofString "a") 2244, .str (Str.ofString "b") 2245] 0, #[]⟩
def c96 (P : Params) : Obj := ⟨.type "tuple", none, .seq #[] 0, #[]⟩
def c97 (P : Params) : Obj := ⟨.none, none, .func ⟨(Str.ofString "lshift"), (Str.ofString "lshift"), parOf 10, .stmts (bodyOf 10), scopeOf 10, 0, [], .none, .none, .none, .none, none, .none, .none, 0⟩, #[]⟩
def c98 (P : Params) : Obj := ⟨.type "code", none, .fields #[.str (Str.ofString "lshift") 2241, .str (Str.ofString "lshift") 2242, .str (Str.ofString "/claim/cut.py") 2243, .int (44) 0, .int (2) 0, .int (0) 0, .int (0) 0, .int (3) 0, .ref 93, .bool true, .int (181) 0, .ref 94, .none, .ref 95, .ref 96, .ref 97, .int (2246) 0, .int (44) 0, .str (Str.ofString "/claim/cut.py") 2247], #[]⟩
def c99 (P : Params) : Obj := ⟨.type "function", none, .func ⟨(Str.ofString "lshift"), (Str.ofString "lshift"), parOf 10, .stmts (bodyOf 10), scopeOf 10, 3, [], .none, .none, .none, .str (Str.ofString "cpy313.operator") 2231, none, .ref 98, .none, 0⟩, #[]⟩
def c100 (P : Params) : Obj := ⟨.type "tuple", none, .seq #[] 0, #[]⟩
def c101 (P : Params) : Obj := ⟨.none, none, .fields #[], #[]⟩
def c102 (P : Params) : Obj := ⟨.type "tuple", none, .seq #[.str (Str.ofString "a") 2252, .str (Str.ofString "b") 2253, .str (Str.ofString "msg") 2254] 0, #[]⟩
def c103 (P : Params) : Obj := ⟨.type "tuple", none, .seq #[] 0, #[]⟩
def c104 (P : Params) : Obj := ⟨.none, none, .func ⟨(Str.ofString "concat"), (Str.ofString "concat"), parOf 11, .stmts (bodyOf 11), scopeOf 11, 0, [], .none, .none, .none, .none, none, .none, .none, 0⟩, #[]⟩
def c105 (P : Params) : Obj := ⟨.type "code", none, .fields #[.str (Str.ofString "concat") 2249, .str (Str.ofString "concat") 2250, .str (Str.ofString "/claim/cut.py") 2251, .int (46) 0, .int (2) 0, .int (0) 0, .int (0) 0, .int (3) 0, .ref 100, .bool true, .int (181) 0, .ref 101, .none, .ref 102, .ref 103, .ref 104, .int (2255) 0, .int (46) 0, .str (Str.ofString "/claim/cut.py") 2256], #[]⟩
def c106 (P : Params) : Obj := ⟨.type "function", none, .func ⟨(Str.ofString "concat"), (Str.ofString "concat"), parOf 11, .stmts (bodyOf 11), scopeOf 11, 3, [], .none, .none, .none, .str (Str.ofString "cpy313.operator") 2231, none, .ref 105, .none, 0⟩, #[]⟩
def c107 (P : Params) : Obj := ⟨.type "tuple", none, .seq #[] 0, #[]⟩
def c108 (P : Params) : Obj := ⟨.none, none, .fields #[], #[]⟩
def c109 (P : Params) : Obj := ⟨.type "tuple", none, .seq #[.str (Str.ofString "a") 2261, .str (Str.ofString "b") 2262, .str (Str.ofString "i") 2263, .str (Str.ofString "j") 2264] 0, #[]⟩
def c110 (P : Params) : Obj := ⟨.type "tuple", none, .seq #[] 0, #[]⟩
def c111 (P : Params) : Obj := ⟨.none, none, .func ⟨(Str.ofString "indexOf"), (Str.ofString "indexOf"), parOf 12, .stmts (bodyOf 12), scopeOf 12, 0, [], .none, .none, .none, .none, none, .none, .none, 0⟩, #[]⟩
def c112 (P : Params) : Obj := ⟨.type "code", none, .fields #[.str (Str.ofString "indexOf") 2258, .str (Str.ofString "indexOf") 2259, .str (Str.ofString "/claim/cut.py") 2260, .int (51) 0, .int (2) 0, .int (0) 0, .int (0) 0, .int (3) 0, .ref 107, .bool true, .int (181) 0, .ref 108, .none, .ref 109, .ref 110, .ref 111, .int (2265) 0, .int (51) 0, .str (Str.ofString "/claim/cut.py") 2266], #[]⟩
def c113 (P : Params) : Obj := ⟨.type "function", none, .func ⟨(Str.ofString "indexOf"), (Str.ofString "indexOf"), parOf 12, .stmts (bodyOf 12), scopeOf 12, 3, [], .none, .none, .none, .str (Str.ofString "cpy313.operator") 2231, none, .ref 112, .none, 0⟩, #[]⟩
def c114 (P : Params) : Obj := ⟨.type "tuple", none, .seq #[] 0, #[]⟩
def c115 (P : Params) : Obj := ⟨.none, none, .fields #[], #[]⟩
def c116 (P : Params) : Obj := ⟨.type "tuple", none, .seq #[.str (Str.ofString "turn") 2273, .str (Str.ofString "place") 2274] 0, #[]⟩
def c117 (P : Params) : Obj := ⟨.type "tuple", none, .seq #[] 0, #[]⟩
def c118 (P : Params) : Obj := ⟨.none, none, .func ⟨(Str.ofString "_law_gone"), (Str.ofString "_law_gone"), parOf 14, .stmts (bodyOf 14), scopeOf 14, 0, [], .none, .none, .none, .none, none, .none, .none, 0⟩, #[]⟩
def c119 (P : Params) : Obj := ⟨.type "code", none, .fields #[.str (Str.ofString "_law_gone") 2270, .str (Str.ofString "_law_gone") 2271, .str (Str.ofString "/claim/cut.py") 2272, .int (58) 0, .int (1) 0, .int (0) 0, .int (0) 0, .int (3) 0, .ref 114, .bool true, .int (181) 0, .ref 115, .none, .ref 116, .ref 117, .ref 118, .int (2275) 0, .int (58) 0, .str (Str.ofString "/claim/cut.py") 2276], #[]⟩
def c120 (P : Params) : Obj := ⟨.type "function", none, .func ⟨(Str.ofString "_law_gone"), (Str.ofString "_law_gone"), parOf 14, .stmts (bodyOf 14), scopeOf 14, 3, [], .none, .none, .none, .str (Str.ofString "law_tc0033_01") 2268, none, .ref 119, .none, 0⟩, #[]⟩
def c121 (P : Params) : Obj := ⟨.type "tuple", none, .seq #[] 0, #[]⟩
def c122 (P : Params) : Obj := ⟨.none, none, .fields #[], #[]⟩
def c123 (P : Params) : Obj := ⟨.type "tuple", none, .seq #[.str (Str.ofString "place") 2281, .str (Str.ofString "turn") 2282] 0, #[]⟩
def c124 (P : Params) : Obj := ⟨.type "tuple", none, .seq #[] 0, #[]⟩
def c125 (P : Params) : Obj := ⟨.none, none, .func ⟨(Str.ofString "_law_spelled"), (Str.ofString "_law_spelled"), parOf 15, .stmts (bodyOf 15), scopeOf 15, 0, [], .none, .none, .none, .none, none, .none, .none, 0⟩, #[]⟩
def c126 (P : Params) : Obj := ⟨.type "code", none, .fields #[.str (Str.ofString "_law_spelled") 2278, .str (Str.ofString "_law_spelled") 2279, .str (Str.ofString "/claim/cut.py") 2280, .int (61) 0, .int (2) 0, .int (0) 0, .int (0) 0, .int (3) 0, .ref 121, .bool true, .int (181) 0, .ref 122, .none, .ref 123, .ref 124, .ref 125, .int (2283) 0, .int (61) 0, .str (Str.ofString "/claim/cut.py") 2284], #[]⟩
def c127 (P : Params) : Obj := ⟨.type "function", none, .func ⟨(Str.ofString "_law_spelled"), (Str.ofString "_law_spelled"), parOf 15, .stmts (bodyOf 15), scopeOf 15, 3, [], .none, .none, .none, .str (Str.ofString "law_tc0033_01") 2268, none, .ref 126, .none, 0⟩, #[]⟩
def c128 (P : Params) : Obj := ⟨.type "tuple", none, .seq #[] 0, #[]⟩
def c129 (P : Params) : Obj := ⟨.none, none, .fields #[], #[]⟩
def c130 (P : Params) : Obj := ⟨.none, none, .func ⟨(Str.ofString "_law_choices"), (Str.ofString "_law_choices"), parOf 16, .stmts (bodyOf 16), scopeOf 16, 0, [], .none, .none, .none, .none, none, .none, .none, 0⟩, #[]⟩
def c131 (P : Params) : Obj := ⟨.type "code", none, .fields #[.str (Str.ofString "_law_choices") 2286, .str (Str.ofString "_law_choices") 2287, .str (Str.ofString "/claim/cut.py") 2288, .int (63) 0, .int (2) 0, .int (0) 0, .int (0) 0, .int (3) 0, .ref 128, .bool true, .int (181) 0, .ref 129, .none, .none, .none, .ref 130, .int (2289) 0, .int (63) 0, .str (Str.ofString "/claim/cut.py") 2290], #[]⟩
def c132 (P : Params) : Obj := ⟨.type "function", none, .func ⟨(Str.ofString "_law_choices"), (Str.ofString "_law_choices"), parOf 16, .stmts (bodyOf 16), scopeOf 16, 3, [], .none, .none, .none, .str (Str.ofString "law_tc0033_01") 2268, none, .ref 131, .none, 0⟩, #[]⟩
def c133 (P : Params) : Obj := ⟨.type "tuple", none, .seq #[] 0, #[]⟩
def c134 (P : Params) : Obj := ⟨.none, none, .fields #[], #[]⟩
def c135 (P : Params) : Obj := ⟨.none, none, .func ⟨(Str.ofString "_law_left"), (Str.ofString "_law_left"), parOf 17, .stmts (bodyOf 17), scopeOf 17, 0, [], .none, .none, .none, .none, none, .none, .none, 0⟩, #[]⟩
def c136 (P : Params) : Obj := ⟨.type "code", none, .fields #[.str (Str.ofString "_law_left") 2292, .str (Str.ofString "_law_left") 2293, .str (Str.ofString "/claim/cut.py") 2294, .int (70) 0, .int (1) 0, .int (0) 0, .int (0) 0, .int (3) 0, .ref 133, .bool true, .int (181) 0, .ref 134, .none, .none, .none, .ref 135, .int (2295) 0, .int (70) 0, .str (Str.ofString "/claim/cut.py") 2296], #[]⟩
def c137 (P : Params) : Obj := ⟨.type "function", none, .func ⟨(Str.ofString "_law_left"), (Str.ofString "_law_left"), parOf 17, .stmts (bodyOf 17), scopeOf 17, 3, [], .none, .none, .none, .str (Str.ofString "law_tc0033_01") 2268, none, .ref 136, .none, 0⟩, #[]⟩
def c138 (P : Params) : Obj := ⟨.type "tuple", none, .seq #[] 0, #[]⟩
def c139 (P : Params) : Obj := ⟨.none, none, .fields #[], #[]⟩
def c140 (P : Params) : Obj := ⟨.type "tuple", none, .seq #[.str (Str.ofString "items") 2301, .str (Str.ofString "sought") 2302] 0, #[]⟩
def c141 (P : Params) : Obj := ⟨.type "tuple", none, .seq #[] 0, #[]⟩
def c142 (P : Params) : Obj := ⟨.none, none, .func ⟨(Str.ofString "_law_place"), (Str.ofString "_law_place"), parOf 18, .stmts (bodyOf 18), scopeOf 18, 0, [], .none, .none, .none, .none, none, .none, .none, 0⟩, #[]⟩
def c143 (P : Params) : Obj := ⟨.type "code", none, .fields #[.str (Str.ofString "_law_place") 2298, .str (Str.ofString "_law_place") 2299, .str (Str.ofString "/claim/cut.py") 2300, .int (72) 0, .int (2) 0, .int (0) 0, .int (0) 0, .int (3) 0, .ref 138, .bool true, .int (181) 0, .ref 139, .none, .ref 140, .ref 141, .ref 142, .int (2303) 0, .int (72) 0, .str (Str.ofString "/claim/cut.py") 2304], #[]⟩
def c144 (P : Params) : Obj := ⟨.type "function", none, .func ⟨(Str.ofString "_law_place"), (Str.ofString "_law_place"), parOf 18, .stmts (bodyOf 18), scopeOf 18, 3, [], .none, .none, .none, .str (Str.ofString "law_tc0033_01") 2268, none, .ref 143, .none, 0⟩, #[]⟩
def c145 (P : Params) : Obj := ⟨.type "tuple", none, .seq #[] 0, #[]⟩
def c146 (P : Params) : Obj := ⟨.none, none, .fields #[], #[]⟩
def c147 (P : Params) : Obj := ⟨.none, none, .func ⟨(Str.ofString "_law_found"), (Str.ofString "_law_found"), parOf 19, .stmts (bodyOf 19), scopeOf 19, 0, [], .none, .none, .none, .none, none, .none, .none, 0⟩, #[]⟩
def c148 (P : Params) : Obj := ⟨.type "code", none, .fields #[.str (Str.ofString "_law_found") 2306, .str (Str.ofString "_law_found") 2307, .str (Str.ofString "/claim/cut.py") 2308, .int (77) 0, .int (2) 0, .int (0) 0, .int (0) 0, .int (3) 0, .ref 145, .bool true, .int (181) 0, .ref 146, .none, .none, .none, .ref 147, .int (2309) 0, .int (77) 0, .str (Str.ofString "/claim/cut.py") 2310], #[]⟩
def c149 (P : Params) : Obj := ⟨.type "function", none, .func ⟨(Str.ofString "_law_found"), (Str.ofString "_law_found"), parOf 19, .stmts (bodyOf 19), scopeOf 19, 3, [], .none, .none, .none, .str (Str.ofString "law_tc0033_01") 2268, none, .ref 148, .none, 0⟩, #[]⟩
def c150 (P : Params) : Obj := ⟨.type "tuple", none, .seq #[] 0, #[]⟩
def c151 (P : Params) : Obj := ⟨.none, none, .fields #[], #[]⟩
def c152 (P : Params) : Obj := ⟨.none, none, .func ⟨(Str.ofString "law"), (Str.ofString "law"), parOf 20, .stmts (bodyOf 20), scopeOf 20, 0, [], .none, .none, .none, .none, none, .none, .none, 0⟩, #[]⟩
def c153 (P : Params) : Obj := ⟨.type "code", none, .fields #[.str (Str.ofString "law") 2312, .str (Str.ofString "law") 2313, .str (Str.ofString "/claim/cut.py") 2314, .int (87) 0, .int (1) 0, .int (0) 0, .int (0) 0, .int (3) 0, .ref 150, .bool true, .int (181) 0, .ref 151, .none, .none, .none, .ref 152, .int (2315) 0, .int (87) 0, .str (Str.ofString "/claim/cut.py") 2316], #[]⟩
def c154 (P : Params) : Obj := ⟨.type "function", none, .func ⟨(Str.ofString "law"), (Str.ofString "law"), parOf 20, .stmts (bodyOf 20), scopeOf 20, 3, [], .none, .none, .none, .str (Str.ofString "law_tc0033_01") 2268, none, .ref 153, .none, 0⟩, #[]⟩
def T1 (P : Params) : BT := (.node (boot_o_0 P) (.node (boot_o_1 P) (.node (a3 P) (.node (boot_o_7 P) (.node (a15 P) (.node (a31 P) .nil .nil) .nil) (.node (a23 P) .nil .nil)) (.node (o11) (.node (a19 P) .nil .nil) (.node (a27 P) .nil .nil))) (.node (boot_o_5 P) (.node (boot_o_9 P) (.node (a17 P) .nil .nil) (.node (a25 P) .nil .nil)) (.node (o13) (.node (a21 P) .nil .nil) (.node (a29 P) .nil .nil)))) (.node (boot_o_2 P) (.node (boot_o_4 P) (.node (boot_o_8 P) (.node (a16 P) (.node (a32 P) .nil .nil) .nil) (.node (a24 P) .nil .nil)) (.node (a12 P) (.node (a20 P) .nil .nil) (.node (a28 P) .nil .nil))) (.node (boot_o_6 P) (.node (boot_o_10 P) (.node (a18 P) .nil .nil) (.node (a26 P) .nil .nil)) (.node (o14) (.node (a22 P) .nil .nil) (.node (a30 P) .nil .nil)))))
def Tc (P : Params) : BT := (.node (boot_o_0 P) (.node (boot_o_1 P) (.node (c3 P) (.node (boot_o_7 P) (.node (a15 P) (.node (a31 P) .nil .nil) .nil) (.node (a23 P) .nil .nil)) (.node (o11) (.node (a19 P) .nil .nil) (.node (a27 P) .nil .nil))) (.node (boot_o_5 P) (.node (boot_o_9 P) (.node (a17 P) .nil .nil) (.node (a25 P) .nil .nil)) (.node (o13) (.node (a21 P) .nil .nil) (.node (a29 P) .nil .nil)))) (.node (boot_o_2 P) (.node (boot_o_4 P) (.node (boot_o_8 P) (.node (a16 P) (.node (a32 P) .nil .nil) .nil) (.node (a24 P) .nil .nil)) (.node (c12 P) (.node (a20 P) .nil .nil) (.node (a28 P) .nil .nil))) (.node (boot_o_6 P) (.node (boot_o_10 P) (.node (a18 P) .nil .nil) (.node (a26 P) .nil .nil)) (.node (o14) (.node (a22 P) .nil .nil) (.node (a30 P) .nil .nil)))))
def l3 (P : Params) : List Obj := [c72 P, c73 P, c74 P, c75 P, c76 P, c77 P, c78 P, c79 P, c80 P, c81 P, c82 P, c83 P, c84 P, c85 P, c86 P, c87 P, c88 P, c89 P, c90 P, c91 P, c92 P, c93 P, c94 P, c95 P, c96 P, c97 P, c98 P, c99 P, c100 P, c101 P, c102 P, c103 P, c104 P, c105 P, c106 P, c107 P, c108 P, c109 P, c110 P, c111 P, c112 P, c113 P, c114 P, c115 P, c116 P, c117 P, c118 P, c119 P, c120 P, c121 P, c122 P, c123 P, c124 P, c125 P, c126 P, c127 P, c128 P, c129 P, c130 P, c131 P, c132 P, c133 P, c134 P, c135 P, c136 P, c137 P, c138 P, c139 P, c140 P, c141 P, c142 P, c143 P, c144 P, c145 P, c146 P, c147 P, c148 P, c149 P, c150 P, c151 P, c152 P, c153 P, c154 P]

def S1 (w : World) (os : OsState) : SharedT := ⟨T1 w.params, 33, (boot_heap w.params).life, #[], boot_drawn, 256, os⟩
def pos3 : Pos := ⟨3, 0, 4, 30⟩
def sts1 : List Stmt := p.main.body.take 3
abbrev tT := PySem.W.Fast.tw14364793385576792824
abbrev sR := @PySem.W.Fast.tw10110043849684766642
abbrev eX := @PySem.W.Fast.tw12563942051412417395
theorem g1_fast_false (w : World) : (fun os => sR tT p (w.withFollow rowG false) 11 ann 1 1100 (Sb (w.withFollow rowG false) os) ⟨(eX sts1 env0).wrap doneF deadEnd id id, cE, q0, B0⟩) = fun os => some (.next, S1 (w.withFollow rowG false) os, cE, pos3) := by kernel_rfl
theorem g1_fast_true (w : World) : (fun os => sR tT p (w.withFollow rowG true) 11 ann 1 1100 (Sb (w.withFollow rowG true) os) ⟨(eX sts1 env0).wrap doneF deadEnd id id, cE, q0, B0⟩) = fun os => some (.next, S1 (w.withFollow rowG true) os, cE, pos3) := by kernel_rfl
theorem g1_fast (b : Bool) (w : World) : (fun os => sR tT p (w.withFollow rowG b) 11 ann 1 1100 (Sb (w.withFollow rowG b) os) ⟨(eX sts1 env0).wrap doneF deadEnd id id, cE, q0, B0⟩) = fun os => some (.next, S1 (w.withFollow rowG b) os, cE, pos3) := by
  cases b
  · exact g1_fast_false w
  · exact g1_fast_true w
theorem g1_ok (w : World) (os : OsState) : segRun treeTable p w 11 ann 1 1100 (Sb w os).abs (piecesOf sts1 env0 cE q0 B0) = some (.next, (S1 w os).abs, cE, pos3) := by
  refine segRun_of ?_
  unfold piecesOf
  rw [PySem.W.Fast.te14364793385576792824, PySem.W.Fast.te10110043849684766642, PySem.W.Fast.te12563942051412417395]
  exact congrFun (byRow2 rowG (P := fun w => (fun os => sR tT p w 11 ann 1 1100 (Sb w os) ⟨(eX sts1 env0).wrap doneF deadEnd id id, cE, q0, B0⟩) = fun os => some (.next, S1 w os, cE, pos3)) (g1_fast false) (g1_fast true) w) os
end
end Mine
end

section
open PySem PySem.W PyProof.Rows PySem.Calls
set_option maxRecDepth 100000
set_option maxHeartbeats 0
namespace Mine
noncomputable section
def at3 : Option Stmt := p.main.body[3]?
def b3e : Expr := match at3 with | some (.Assign _ e _) => e | _ => .Constant .none 0 q0
def b3ks : List (Option Expr) := match b3e with | .Dict ks _ _ => ks | _ => []
def b3vs : List Expr := match b3e with | .Dict _ vs _ => vs | _ => []
def pN : Pos := ⟨5, 0, 5, 13⟩
def pD : Pos := ⟨5, 16, 5, 8704⟩
def pS : Pos := ⟨5, 0, 5, 8704⟩
def b3stmt : Stmt := .Assign [.Name "b3_exceptions" pN] (.Dict b3ks b3vs pD) pS
theorem b3_is : at3 = some b3stmt := by kernel_rfl
def b3of : List (Option Expr) → List Expr → List (Int × Str)
  | some (.Constant (.int i) _ _) :: ks, .Constant (.str s) _ _ :: vs => (i, s) :: b3of ks vs
  | _, _ => []
def b3ps : List (Int × Str) := b3of b3ks b3vs
theorem b3_len : b3ps.length = 650 := by kernel_rfl
def rising : List Int → Bool
  | a :: b :: r => decide (a < b) && rising (b :: r)
  | _ => true
theorem b3_rising : rising (keyHs b3ps) = true := by kernel_rfl
theorem rising_lt : ∀ {l : List Int} {a : Int}, rising (a :: l) = true → ∀ b ∈ l, a < b
  | [], _, _, b, hb => (nomatch hb)
  | c :: r, a, h, b, hb => by
    simp only [rising, Bool.and_eq_true, decide_eq_true_eq] at h
    rcases List.mem_cons.mp hb with rfl | hb
    · exact h.1
    · exact Int.lt_trans h.1 (rising_lt h.2 b hb)
theorem rising_nodup : ∀ {l : List Int}, rising l = true → l.Nodup
  | [], _ => List.nodup_nil
  | [a], _ => by simp
  | a :: b :: r, h => by
    have h' := h
    simp only [rising, Bool.and_eq_true, decide_eq_true_eq] at h
    rw [List.nodup_cons]
    exact ⟨fun hm => Int.lt_irrefl a (rising_lt h' a hm), rising_nodup h.2⟩
theorem b3_items : (evalEachOpt b3ks env0).zip ((evalEach b3vs env0).map fun v => do let x ← v; standAt pD; pure x) = (b3ps.map (pT pD)).map itT := by kernel_rfl
def cut17 : Nat → List (Int × Str) → List (List (Int × Str))
  | 0, _ => []
  | n + 1, l => l.take 17 :: cut17 n (l.drop 17)
theorem cut17_all : ∀ (n : Nat) (l : List (Int × Str)), 17 * n ≤ l.length → ∀ c ∈ cut17 n l, c.length = 17
  | 0, _, _, _, h => (nomatch h)
  | n + 1, l, hl, c, h => by
    rcases List.mem_cons.mp h with rfl | h
    · rw [List.length_take]; omega
    · exact cut17_all n (l.drop 17) (by rw [List.length_drop]; omega) c h
theorem cut17_flat : ∀ (n : Nat) (l : List (Int × Str)), (cut17 n l).flatten ++ l.drop (17 * n) = l
  | 0, l => by simp [cut17]
  | n + 1, l => by
    rw [cut17, List.flatten_cons, List.append_assoc]
    have := cut17_flat n (l.drop 17)
    rw [List.drop_drop] at this
    rw [show 17 * (n + 1) = 17 + 17 * n by omega, this, List.take_append_drop]
theorem cut17_length : ∀ (n : Nat) (l : List (Int × Str)), (cut17 n l).length = n
  | 0, _ => rfl
  | n + 1, l => by rw [cut17, List.length_cons, cut17_length]
def b3c0 : List (Int × Str) := b3ps.take 17
def b3cs : List (List (Int × Str)) := cut17 37 (b3ps.drop 17)
def b3r : List (Int × Str) := (b3ps.drop 17).drop (17 * 37)
theorem b3_split : b3c0 ++ (b3cs.flatten ++ b3r) = b3ps := by
  unfold b3cs b3r b3c0
  rw [cut17_flat, List.take_append_drop]
/-- the entries of b3_exceptions, as the top leaves them -/
def b3M : List DictEntry := entL 256 (b3c0 ++ b3cs.flatten) ++ entS (256 + 51 + 51 * b3cs.length) b3r
def b3objs : List Obj := dO b3M :: (subsL (256 + 51) b3cs ++ [dO (entS (256 + 51 + 51 * b3cs.length) b3r)])
theorem b3cs_len : b3cs.length = 37 := cut17_length 37 _
theorem b3_display (w : World) (s : Shared) (h0 : Heap) (hs : s.heap = h0) (h33 : 11 ≤ h0.objs.size) (ht : s.toks = 256) :
    G w 12515 (dictDisplay ((b3ps.map (pT pD)).map itT)) s pD (.ref h0.objs.size) { s with heap := hp h0 b3objs, toks := 2206 } pD := by
  have hl := b3_len
  have := gDisplay (w := w) (s := s) (q := pD) h0 h33 b3c0 b3cs b3r (by unfold b3c0; rw [List.length_take, hl]; rfl) (cut17_all 37 _ (by rw [List.length_drop, hl]; omega)) (by unfold b3r; rw [List.length_drop, List.length_drop, hl])
    hs (by rw [b3cs_len]; omega) (by rw [List.append_assoc, b3_split]; exact rising_nodup b3_rising)
  rw [b3_split, b3cs_len, ht] at this
  unfold b3objs b3M
  rw [b3cs_len]
  exact this
end
end Mine
end

section
open PySem PySem.W PyProof.Rows PySem.Calls
set_option maxRecDepth 100000
set_option maxHeartbeats 0
namespace Mine
noncomputable section
def e3 (P : Params) : Obj := ⟨.type "dict", none, .dict #[⟨PyData.keyHash P (Str.ofString "__name__"), .str (Str.ofString "__name__") 165, .str (Str.ofString "cpy313.stringprep") 187⟩, ⟨PyData.keyHash P (Str.ofString "__doc__"), .str (Str.ofString "__doc__") 166, .none⟩, ⟨PyData.keyHash P (Str.ofString "__package__"), .str (Str.ofString "__package__") 167, .none⟩, ⟨PyData.keyHash P (Str.ofString "__loader__"), .str (Str.ofString "__loader__") 168, .builtin "__main__.__loader__#opaque"⟩, ⟨PyData.keyHash P (Str.ofString "__spec__"), .str (Str.ofString "__spec__") 169, .none⟩, ⟨PyData.keyHash P (Str.ofString "__annotations__"), .str (Str.ofString "__annotations__") 170, .ref 6⟩, ⟨PyData.keyHash P (Str.ofString "__builtins__"), .str (Str.ofString "__builtins__") 171, .ref 4⟩, ⟨PyData.keyHash P (Str.ofString "__file__"), .str (Str.ofString "__file__") 173, .str (Str.ofString "/claim/cut.py") 172⟩, ⟨PyData.keyHash P (Str.ofString "__cached__"), .str (Str.ofString "__cached__") 174, .none⟩, ⟨PyData.keyHash P (Str.ofString "b1_set"), .str (Str.ofString "b1_set") 248, .ref 22⟩, ⟨PyData.keyHash P (Str.ofString "in_table_b1"), .str (Str.ofString "in_table_b1") 255, .ref 32⟩, ⟨PyData.keyHash P (Str.ofString "b3_exceptions"), .str (Str.ofString "b3_exceptions") 2206, .ref 33⟩] 12, #[]⟩
def Te (P : Params) : BT := (.node (boot_o_0 P) (.node (boot_o_1 P) (.node (e3 P) (.node (boot_o_7 P) (.node (a15 P) (.node (a31 P) .nil .nil) .nil) (.node (a23 P) .nil .nil)) (.node (o11) (.node (a19 P) .nil .nil) (.node (a27 P) .nil .nil))) (.node (boot_o_5 P) (.node (boot_o_9 P) (.node (a17 P) .nil .nil) (.node (a25 P) .nil .nil)) (.node (o13) (.node (a21 P) .nil .nil) (.node (a29 P) .nil .nil)))) (.node (boot_o_2 P) (.node (boot_o_4 P) (.node (boot_o_8 P) (.node (a16 P) (.node (a32 P) .nil .nil) .nil) (.node (a24 P) .nil .nil)) (.node (a12 P) (.node (a20 P) .nil .nil) (.node (a28 P) .nil .nil))) (.node (boot_o_6 P) (.node (boot_o_10 P) (.node (a18 P) .nil .nil) (.node (a26 P) .nil .nil)) (.node (o14) (.node (a22 P) .nil .nil) (.node (a30 P) .nil .nil)))))
def lf (P : Params) : Life := (boot_heap P).life
theorem hp_update_old {h0 : Heap} {l : List Obj} {i : Nat} {f : Obj → Obj} (hi : i < h0.objs.size) : (hp h0 l).update i f = hp (h0.update i f) l := by
  unfold hp Heap.update
  simp only [Heap.mk.injEq, and_true]
  apply Array.ext_getElem?
  intro j
  rw [Array.getElem?_modify]
  by_cases h : j < h0.objs.size
  · rw [Array.getElem?_append_left h, Array.getElem?_append_left (by simpa using h), Array.getElem?_modify]
  · rw [Array.getElem?_append_right (by omega), Array.getElem?_append_right (by simp; omega), if_neg (by omega)]
    simp
theorem hp_get_old {h0 : Heap} {l : List Obj} {i : Nat} {o : Obj} (e : h0.get? i = some o) : (hp h0 l).get? i = some o := by
  have hi : i < h0.objs.size := Heap.lt_size e
  unfold Heap.get? at e ⊢
  unfold hp
  rw [Array.getElem?_append_left hi]
  exact e
def h0T (P : Params) : Heap := absHeap (T1 P) 33 (lf P)
theorem h0T_size (P : Params) : (h0T P).objs.size = 33 := absHeap_size ..
theorem h0T_main (P : Params) : (h0T P).get? 3 = some (a3 P) := by
  unfold h0T
  rw [abs_get (t := T1 P) (o := a3 P) (by decide) rfl]
  rfl
abbrev b3name : Str := "b3_exceptions"
theorem put_e3 (P : Params) : Obj.putName b3name (PyData.keyHash P b3name) (.str b3name 2206) (.ref 33) (a3 P) = e3 P := by kernel_rfl
theorem h0T_put (P : Params) : (h0T P).update 3 (Obj.putName b3name (PyData.keyHash P b3name) (.str b3name 2206) (.ref 33)) = absHeap (Te P) 33 (lf P) := by
  unfold h0T
  rw [← absHeap_set (o := a3 P) rfl]
  rw [show (T1 P).set 3 (Obj.putName b3name (PyData.keyHash P b3name) (.str b3name 2206) (.ref 33)) = Te P by kernel_rfl]
def H2 (P : Params) : Heap := hp (absHeap (Te P) 33 (lf P)) b3objs
def S2s (w : World) (os : OsState) : Shared := ⟨H2 w.params, #[], boot_drawn, 2207, os⟩

theorem b3_eval (w : World) (s : Shared) (hs : s.heap = h0T w.params) (ht : s.toks = 256) : G w 12516 (eval (.Dict b3ks b3vs pD) env0) s pS (.ref 33) { s with heap := hp (h0T w.params) b3objs, toks := 2206 } pD := by
  rw [arm_eval_Dict, b3_items]
  refine G.bind' (c := 1) (c' := 12515) (s' := s) (pos' := pD) (G.at G.pure) ?_
  have := b3_display w s (h0T w.params) hs (by rw [h0T_size]; decide) ht
  rw [h0T_size] at this
  exact this
theorem b3_noref (P : Params) : (match (a3 P).data with | .dict es _ => aRefKeyMayBeTheName b3name es | _ => true) = false := by kernel_rfl
theorem b3_store (w : World) (s : Shared) (hs : s.heap = hp (h0T w.params) b3objs) (ht : s.toks = 2206) : G w 4 (nsSet mainNs b3name (.ref 33)) s pN () { s with heap := H2 w.params, toks := 2207 } pN := by
  have hg : s.heap.get? mainNs = some (a3 w.params) := by rw [hs]; exact hp_get_old (h0T_main _)
  have e2 : s.heap.update mainNs (Obj.putName b3name (PyData.keyHash w.params b3name) (.str b3name 2206) (.ref 33)) = H2 w.params := by
    unfold H2
    rw [hs, hp_update_old (by rw [h0T_size]; decide)]
    exact congrArg (fun h => hp h b3objs) (h0T_put w.params)
  unfold nsSet strHash
  refine G.bind' (c := 1) (c' := 3) (a := PyData.keyHash w.params b3name) (s' := s) (pos' := pN) (G.ask G.pure) ?_
  refine G.bind' (c := 1) (c' := 2) (a := .str b3name 2206) (s' := { s with toks := 2207 }) (pos' := pN) (by
    refine G.fresh ?_
    rw [ht]
    exact G.pure) ?_
  refine G.bind' (c := 1) (c' := 1) (a := a3 w.params) (s' := { s with toks := 2207 }) (pos' := pN) (G.load hg G.pure) ?_
  have hno := b3_noref w.params
  generalize PyData.keyHash w.params b3name = kh at e2 ⊢
  cases hd : (a3 w.params).data with
  | dict es n =>
    rw [hd] at hno
    dsimp only at hno ⊢
    rw [hno]
    refine G.update (by show (s.heap.get? mainNs).isSome = true; rw [hg]; rfl) rfl ?_
    show G w 0 _ { s with heap := s.heap.update mainNs (Obj.putName b3name kh (.str b3name 2206) (.ref 33)), toks := 2207 } pN () _ pN
    rw [e2]
    exact G.pure
  | _ => rw [hd] at hno; cases hno

theorem b3_assign (w : World) (s : Shared) (hs : s.heap = hp (h0T w.params) b3objs) (ht : s.toks = 2206) : G w 7 (assign (.Name b3name pN) env0 (.ref 33)) s pD () { s with heap := H2 w.params, toks := 2207 } pN := by
  show G w 7 (do standAt pN; bindName env0 b3name (.ref 33)) _ pD () _ pN
  refine G.bind' (c := 1) (c' := 6) (a := ()) (s' := s) (pos' := pN) (G.at G.pure) ?_
  unfold bindName
  refine G.bind' (c := 1) (c' := 5) (a := ()) (s' := s) (pos' := pN) (G.holding (G.point G.pure)) ?_
  refine G.bind' (c := 4) (c' := 1) (a := ()) (s' := { s with heap := H2 w.params, toks := 2207 }) (pos' := pN) ?_ (G.point G.pure)
  rw [show storeName env0 b3name (.ref 33) = nsSet mainNs b3name (.ref 33) by kernel_rfl]
  exact b3_store w s hs ht
theorem b3_exec (w : World) (s : Shared) (hs : s.heap = h0T w.params) (ht : s.toks = 256) : G w 12524 (exec b3stmt env0) s pos3 .next { s with heap := H2 w.params, toks := 2207 } pN := by
  unfold b3stmt
  rw [arm_exec_Assign]
  refine G.bind' (c := 1) (c' := 12523) (s' := s) (pos' := pS) (G.at G.pure) ?_
  rw [show swapsWithSole [.Name "b3_exceptions" pN] (.Dict b3ks b3vs pD) pS.line env0 = pure false from rfl]
  refine G.pb (a := false) ?_
  rw [if_neg Bool.false_ne_true]
  refine G.bind' (c := 12516) (c' := 7) (b3_eval w s hs ht) ?_
  rw [show swappedStores [.Name "b3_exceptions" pN] (.Dict b3ks b3vs pD) env0 = pure none from rfl]
  refine G.pb (a := none) ?_
  exact G.bind' (c := 7) (c' := 0) (b3_assign w { s with heap := hp (h0T w.params) b3objs, toks := 2206 } rfl rfl) G.pure
end
end Mine
end

section
open PySem PySem.W PyProof.Rows PySem.Calls
set_option maxRecDepth 100000
set_option maxHeartbeats 0
namespace Mine
noncomputable section
def insAll : BT → Nat → List Obj → BT
  | t, _, [] => t
  | t, n, o :: r => insAll (t.ins n o) (n + 1) r
def insOk : BT → Nat → List Obj → Bool
  | _, _, [] => true
  | t, n, o :: r => ((t.ins n o).get n).isSome && insOk (t.ins n o) (n + 1) r
theorem absHeap_all {life : Life} : ∀ (l : List Obj) (t : BT) (n : Nat), insOk t n l = true → absHeap (insAll t n l) (n + l.length) life = hp (absHeap t n life) l
  | [], t, n, _ => by simp [insAll, hp]
  | o :: r, t, n, h => by
    obtain ⟨h1, h2⟩ := Bool.and_eq_true_iff.mp h
    have := absHeap_all (life := life) r (t.ins n o) (n + 1) h2
    rw [insAll, List.length_cons, show n + (r.length + 1) = n + 1 + r.length by omega, this, absHeap_ins h1]
    unfold hp Heap.push
    simp
theorem b3objs_len : b3objs.length = 39 := by kernel_rfl
theorem b3objs_ok (P : Params) : insOk (Te P) 33 b3objs = true := by kernel_rfl
def S2 (w : World) (os : OsState) : SharedT := ⟨insAll (Te w.params) 33 b3objs, 72, lf w.params, #[], boot_drawn, 2207, os⟩
theorem H2_abs (P : Params) : absHeap (insAll (Te P) 33 b3objs) 72 (lf P) = H2 P := by
  have := absHeap_all (life := lf P) b3objs (Te P) 33 (b3objs_ok P)
  rw [b3objs_len] at this
  exact this
def T3 (P : Params) : BT := insAll (insAll (Tc P) 33 b3objs) 72 (l3 P)
def S3 (w : World) (os : OsState) : SharedT := ⟨T3 w.params, 155, lf w.params, #[], boot_drawn, 2318, os⟩
def sts3 : List Stmt := p.main.body.drop 4
def pos4 : Pos := ⟨87, 0, 107, 103⟩
theorem g3_fast_false (w : World) : (fun os => sR tT p (w.withFollow rowG false) 11 ann 1 600 (S2 (w.withFollow rowG false) os) ⟨(eX sts3 env0).wrap doneF deadEnd id id, cE, pN, B0⟩) = fun os => some (.next, S3 (w.withFollow rowG false) os, cE, pos4) := by kernel_rfl
theorem g3_fast_true (w : World) : (fun os => sR tT p (w.withFollow rowG true) 11 ann 1 600 (S2 (w.withFollow rowG true) os) ⟨(eX sts3 env0).wrap doneF deadEnd id id, cE, pN, B0⟩) = fun os => some (.next, S3 (w.withFollow rowG true) os, cE, pos4) := by kernel_rfl
theorem g3_fast (b : Bool) (w : World) : (fun os => sR tT p (w.withFollow rowG b) 11 ann 1 600 (S2 (w.withFollow rowG b) os) ⟨(eX sts3 env0).wrap doneF deadEnd id id, cE, pN, B0⟩) = fun os => some (.next, S3 (w.withFollow rowG b) os, cE, pos4) := by
  cases b
  · exact g3_fast_false w
  · exact g3_fast_true w
theorem g3_ok (w : World) (os : OsState) : segRun treeTable p w 11 ann 1 600 (S2 w os).abs (piecesOf sts3 env0 cE pN B0) = some (.next, (S3 w os).abs, cE, pos4) := by
  refine segRun_of ?_
  unfold piecesOf
  rw [PySem.W.Fast.te14364793385576792824, PySem.W.Fast.te10110043849684766642, PySem.W.Fast.te12563942051412417395]
  exact congrFun (byRow2 rowG (P := fun w => (fun os => sR tT p w 11 ann 1 600 (S2 w os) ⟨(eX sts3 env0).wrap doneF deadEnd id id, cE, pN, B0⟩) = fun os => some (.next, S3 w os, cE, pos4)) (g3_fast false) (g3_fast true) w) os
end
end Mine
end

section
open PySem PySem.W PyProof.Rows PySem.Calls
set_option maxRecDepth 100000
set_option maxHeartbeats 400000
namespace Mine
noncomputable section
def H3 (P : Params) : Heap := absHeap (T3 P) 155 (lf P)
theorem body_split : p.main.body = sts1 ++ (b3stmt :: sts3) := by kernel_rfl
theorem fin_gen (w : World) (s : Shared) : topRun treeTable p w 11 ann 3 s (restOf [] env0 cE pos4 B0) = some s := by
  obtain ⟨a, b, c, d, e⟩ := s
  rfl
theorem run_b3 {w : World} {s r : Shared} {n N : Nat} {hp' : Heap} {tk : Nat} (h : G w n (exec b3stmt env0) s pos3 .next { s with heap := hp', toks := tk } pN)
    (k : topRun treeTable p w 11 ann N { s with heap := hp', toks := tk } (restOf sts3 env0 cE pN B0) = some r) : topRun treeTable p w 11 ann (n + N) s (restOf (b3stmt :: sts3) env0 cE pos3 B0) = some r := by
  unfold restOf
  rw [execs_cons_wrap]
  exact go_top (h _ _ _ _) k
theorem S2_abs (w : World) (os : OsState) : (⟨H2 w.params, #[], boot_drawn, 2207, os⟩ : Shared) = (S2 w os).abs := by
  rw [← H2_abs]; unfold S2 SharedT.abs; with_reducible rfl
theorem S3_abs (w : World) (os : OsState) : (S3 w os).abs = ⟨H3 w.params, #[], boot_drawn, 2318, os⟩ := by unfold S3 SharedT.abs H3; with_reducible rfl
theorem S1_abs (w : World) (os : OsState) : (S1 w os).abs = ⟨h0T w.params, #[], boot_drawn, 256, os⟩ := by unfold S1 SharedT.abs h0T lf; with_reducible rfl
theorem b3_exec' (w : World) (os : OsState) : G w 12524 (exec b3stmt env0) (S1 w os).abs pos3 .next { (S1 w os).abs with heap := H2 w.params, toks := 2207 } pN := by
  refine b3_exec w (S1 w os).abs ?_ ?_
  · rw [S1_abs]
  · rw [S1_abs]
theorem run_3 (w : World) (os : OsState) : topRun treeTable p w 11 ann (600 + 3) (S2 w os).abs (restOf sts3 env0 cE pN B0) = some ⟨H3 w.params, #[], boot_drawn, 2318, os⟩ := by
  have h := g3_ok w os
  rw [S3_abs] at h
  have := piece_app (q := q0) (rest := []) h (fin_gen w _)
  rw [List.append_nil] at this
  exact this
theorem run_2 (w : World) (os : OsState) : topRun treeTable p w 11 ann (12524 + (600 + 3)) (S1 w os).abs (restOf (b3stmt :: sts3) env0 cE pos3 B0) = some ⟨H3 w.params, #[], boot_drawn, 2318, os⟩ := by
  refine run_b3 (b3_exec' w os) ?_
  have h := run_3 w os
  rw [← S2_abs] at h
  rw [S1_abs]
  exact h
theorem run_1 (w : World) (os : OsState) : topRun treeTable p w 11 ann (1100 + (12524 + (600 + 3))) (Sb w os).abs (restOf p.main.body env0 cE q0 B0) = some ⟨H3 w.params, #[], boot_drawn, 2318, os⟩ := by
  have h := piece_app (q := q0) (g1_ok w os) (run_2 w os)
  rw [← body_split] at h
  exact h
theorem run_0 (w : World) (os : OsState) : topRun treeTable p w 11 ann (1 + (1100 + (12524 + (600 + 3)))) (Sb w os).abs ⟨denote treeTable cE, cE, q0, B0⟩ = some ⟨H3 w.params, #[], boot_drawn, 2318, os⟩ :=
  piece_block (q := q0) (block_ok w os) (run_1 w os)
theorem run_all (w : World) (os : OsState) : topRun treeTable p w 11 ann (12 + (1 + (1100 + (12524 + (600 + 3))))) (S0 w os) (topStub p) = some ⟨H3 w.params, #[], boot_drawn, 2318, os⟩ :=
  go_top (pre_ok w os) (run_0 w os)
end
end Mine
end

section
open PySem PySem.W PyProof.Rows PySem.Calls
set_option maxRecDepth 100000
set_option maxHeartbeats 400000
namespace Mine
noncomputable section
def qv : Program := view p [1, 2, 4, 6, 7, 9, 10, 11, 12, 14, 15, 16, 17, 18, 19, 20]
def lo : List Str := ["b1_set", "b3_exceptions"]
def c2 (P : Params) : Obj := ((H3 P).get? 2).getD ⟨.none, none, .freed, #[]⟩
def KF (P : Params) : Frag := [(2, c2 P), (3, c3 P), (22, a22 P), (33, dO b3M)]
theorem KF_keys (P : Params) : [2, 3, 22, 33] = (KF P).map (·.1) := rfl
def HK : Hook := kHook KF [2, 3, 22, 33] KF_keys
def keyOf (o : Obj) (k : Str) : Bool := match o.data with | .dict es _ => (nsFind es k).isNone | _ => false
theorem c2_none (P : Params) : keyOf (c2 P) sharingNotToldKey = true := by kernel_rfl
def Xt0 (s : Shared) : Bool := xlAt qv [] s && recOk [] s
theorem look_a (w : World) (os : OsState) : (staticsOk (importedModules p.main.body) (boot_heap w.params) (H3 w.params) && namesBound p (H3 w.params) && gensDone ⟨H3 w.params, #[], boot_drawn, 2318, os⟩ && laidKept (boot_heap w.params) (H3 w.params)) = true := by kernel_rfl
theorem look_c (w : World) (os : OsState) : HK.obs ⟨H3 w.params, #[], boot_drawn, 2318, os⟩ = HK.val w := by kernel_rfl
theorem look_b (w : World) (os : OsState) : openSeen qv lo (importedModules p.main.body) Xt0 true ⟨H3 w.params, #[], boot_drawn, 2318, os⟩ = openGood qv lo := by
  rw [PySem.W.Fast.te4187177175401517315]
  kernel_rfl
theorem open_ok (w : World) : (fencedOpening treeTable p w 40000).map (fun s => (s.heap, s.gens, s.drawn, s.toks)) = some (boot_heap w.params, Array.mk [], boot_drawn, boot_toks) :=
  boot_open (by kernel_rfl) (by decide) (fun s => by kernel_rfl) w
theorem size_ok (w : World) : ((boot_heap w.params).isNs mainGlobals && (#[] : Array GenState).size == 0, (boot_heap w.params).objs.size, (boot_heap w.params).nsMap mainGlobals "__annotations__") = (true, 11, ann) := by kernel_rfl
end
end Mine
end

section
open PySem PySem.W PyProof.Rows PySem.Calls
set_option maxRecDepth 100000
set_option maxHeartbeats 400000
namespace Mine
noncomputable section

/-- a namespace's object -/
def NsO (o : Obj) : Prop := ∃ es ep, o.data = .dict es ep

/-- an object stays; of a frame the slots may change -/
def Stay (_h h' : Heap) (b : Addr) (o : Obj) : Prop := ∃ sl, h'.get? b = some { o with slots := sl } ∧ (¬ NsO o → sl = o.slots)
theorem Stay.of {h h' : Heap} {b : Addr} {o : Obj} (e : h'.get? b = some o) : Stay h h' b o := ⟨o.slots, e, fun _ => Eq.refl _⟩
theorem Stay.get {h h' : Heap} {b : Addr} {o : Obj} (e : Stay h h' b o) (n : ¬ NsO o) : h'.get? b = some o := by
  obtain ⟨sl, e, k⟩ := e
  rw [k n] at e; exact e

structure ExtB (bad : Addr → Prop) (hb h h' : Heap) : Prop where
  stay : ∀ b o, ¬ bad b → h.get? b = some o → Stay h h' b o
  base : hb.StaysIn h → hb.StaysIn h'
  nf : ∀ b o, h.get? b = some o → NsO o → ∃ o', h'.get? b = some o' ∧ NsO o'
abbrev Ext (hb h h' : Heap) : Prop := ExtB (fun _ => False) hb h h'

theorem ExtB.rfl {bad : Addr → Prop} {hb h : Heap} : ExtB bad hb h h := ⟨fun _ _ _ e => .of e, id, fun _ o e n => ⟨o, e, n⟩⟩
theorem ExtB.of {bad : Addr → Prop} {hb h h' : Heap} (k : ∀ b o, h.get? b = some o → h'.get? b = some o) : ExtB bad hb h h' := ⟨fun b o _ e => .of (k b o e), fun x b o e => k b o (x b o e), fun b o e n => ⟨o, k b o e, n⟩⟩
theorem ExtB.trans {bad : Addr → Prop} {hb h h' h'' : Heap} (a : ExtB bad hb h h') (b : ExtB bad hb h' h'') : ExtB bad hb h h'' := by
  refine ⟨fun x o n e => ?_, fun x => b.base (a.base x), fun x o e n => let ⟨o', e', n'⟩ := a.nf x o e n; b.nf x o' e' n'⟩
  obtain ⟨sl, e1, k1⟩ := a.stay x o n e
  obtain ⟨sl', e2, k2⟩ := b.stay x _ n e1
  exact ⟨sl', e2, fun q => (k2 q).trans (k1 q)⟩
theorem ExtB.mono {bad bad' : Addr → Prop} {hb h h' : Heap} (a : ExtB bad hb h h') (k : ∀ x, bad x → bad' x) : ExtB bad' hb h h' := ⟨fun b o n e => a.stay b o (fun q => n (k _ q)) e, a.base, a.nf⟩
theorem ExtB.ns {bad : Addr → Prop} {hb h h' : Heap} {a m} (k : ExtB bad hb h h') (x : h.Ns a m) (n : ¬ bad a) : h'.Ns a m := by
  obtain ⟨o, es, ep, e, d, r⟩ := x
  obtain ⟨sl, e', _⟩ := k.stay a o n e
  exact ⟨_, es, ep, e', d, r⟩
theorem ExtB.cell {bad : Addr → Prop} {hb h h' : Heap} {a m} (k : ExtB bad hb h h') (x : h.IsCell a m) (n : ¬ bad a) : h'.IsCell a m := by
  obtain ⟨o, e, d⟩ := x
  obtain ⟨sl, e', _⟩ := k.stay a o n e
  exact ⟨_, e', d⟩

/-- a type of values: what a value means at a heap, by the addresses in `ok` alone -/
structure Ty (α : Type) where
  R : (Addr → Prop) → Heap → Value → α → Prop
  stab : ∀ {ok h h' v x}, R ok h v x → (∀ a o, ok a → h.get? a = some o → h'.get? a = some o) → R ok h' v x
  seq : ∀ {ok h v x}, R ok h v x → R (fun a => ok a ∧ ∃ o xs n, h.get? a = some o ∧ o.data = .seq xs n ∧ ¬ NsO o) h v x
  mono : ∀ {ok ok' h v x}, R ok h v x → (∀ a, ok a → ok' a) → R ok' h v x

def Ty.at {α : Type} (T : Ty α) (h : Heap) (v : Value) (x : α) : Prop := T.R (fun _ => True) h v x
theorem Ty.move {α : Type} {T : Ty α} {ok bad : Addr → Prop} {hb h h' : Heap} {v : Value} {x : α} (r : T.R ok h v x) (e : ExtB bad hb h h') (k : ∀ a, ok a → ¬ bad a) : T.R ok h' v x := by
  refine T.mono (T.stab (T.seq r) ?_) fun a q => q.1
  rintro a o ⟨q, o', xs, n, e1, e2, e3⟩ e4
  rw [e4] at e1; cases e1
  exact (e.stay a o (k a q) e4).get e3
theorem Ty.at_ext {α : Type} {T : Ty α} {hb h h' : Heap} {v : Value} {x : α} (r : T.at h v x) (e : Ext hb h h') : T.at h' v x := T.move r e fun _ _ => id
theorem Ty.to_at {α : Type} {T : Ty α} {ok : Addr → Prop} {h : Heap} {v : Value} {x : α} (r : T.R ok h v x) : T.at h v x := T.mono r fun _ _ => trivial

def tInt : Ty Int := ⟨fun _ _ v i => ∃ t, v = .int i t, fun r _ => r, fun r => r, fun r _ => r⟩
def tStr : Ty Str := ⟨fun _ _ v i => ∃ t, v = .str i t, fun r _ => r, fun r => r, fun r _ => r⟩
def tBool : Ty Bool := ⟨fun _ _ v i => v = .bool i, fun r _ => r, fun r => r, fun r _ => r⟩

theorem paired_imp {α β : Type} {F G : α → β → Prop} (h : ∀ a b, F a b → G a b) : ∀ {l l'}, Paired F l l' → Paired G l l'
  | _, _, .nil => .nil
  | _, _, .cons a b => .cons (h _ _ a) (paired_imp h b)

def tList {α : Type} (T : Ty α) : Ty (List α) where
  R ok h v l := ∃ a xs, v = .ref a ∧ ok a ∧ h.PlainList a (List.toArray xs) ∧ Paired (T.R ok h) xs l
  stab := by
    rintro ok h h' v x ⟨a, xs, e, o, l, f⟩ k
    exact ⟨a, xs, e, o, l.at fun o' e => k _ _ o e, paired_imp (fun _ _ r => T.stab r k) f⟩
  seq := by
    rintro ok h v x ⟨a, xs, e, o, l, f⟩
    refine ⟨a, xs, e, ⟨o, ?_⟩, l, paired_imp (fun _ _ r => T.seq r) f⟩
    obtain ⟨n, e1⟩ := l
    exact ⟨_, _, n, e1, rfl, fun ⟨_, _, q⟩ => by cases q⟩
  mono := by
    rintro ok ok' h v x ⟨a, xs, e, o, l, f⟩ k
    exact ⟨a, xs, e, k _ o, l, paired_imp (fun _ _ r => T.mono r k) f⟩

theorem tup_at {h h' : Heap} {a items} (x : h.IsTuple a items) (e : ∀ o, h.get? a = some o → h'.get? a = some o) : h'.IsTuple a items := let ⟨o, ho, r⟩ := x; ⟨o, e _ ho, r⟩

def tPair {α β : Type} (T : Ty α) (S : Ty β) : Ty (α × β) where
  R ok h v l := ∃ a u u', v = .ref a ∧ ok a ∧ h.IsTuple a #[u, u'] ∧ T.R ok h u l.1 ∧ S.R ok h u' l.2
  stab := by
    rintro ok h h' v x ⟨a, u, u', e, o, l, f, g⟩ k
    exact ⟨a, u, u', e, o, tup_at l fun o' e => k _ _ o e, T.stab f k, S.stab g k⟩
  seq := by
    rintro ok h v x ⟨a, u, u', e, o, l, f, g⟩
    refine ⟨a, u, u', e, ⟨o, ?_⟩, l, T.seq f, S.seq g⟩
    obtain ⟨ob, e1, ec, n, e2⟩ := l
    exact ⟨ob, _, n, e1, e2, fun ⟨_, _, q⟩ => by rw [e2] at q; cases q⟩
  mono := by
    rintro ok ok' h v x ⟨a, u, u', e, o, l, f, g⟩ k
    exact ⟨a, u, u', e, k _ o, l, T.mono f k, S.mono g k⟩

/-- values that hold no reference -/
def Ty.Flat {α : Type} (T : Ty α) : Prop := ∀ ok ok' h h' v x, T.R ok h v x → T.R ok' h' v x
theorem tInt_flat : tInt.Flat := fun _ _ _ _ _ _ r => r
theorem tStr_flat : tStr.Flat := fun _ _ _ _ _ _ r => r
theorem tBool_flat : tBool.Flat := fun _ _ _ _ _ _ r => r

theorem ns_nf {h : Heap} {a m} (x : h.Ns a m) : ∃ o, h.get? a = some o ∧ NsO o := let ⟨o, _, _, e, d, _⟩ := x; ⟨o, e, _, _, d⟩
theorem cell_nf {h : Heap} {a m} (x : h.IsCell a m) {o : Obj} (e : h.get? a = some o) (n : NsO o) : False := by
  obtain ⟨o', e', d'⟩ := x
  obtain ⟨es, ep, d⟩ := n
  rw [e] at e'; cases e'
  rw [d] at d'; cases d'
def FunFr (h base : Heap) : List Env → Prop
  | [] => True
  | env :: rest => env.scope.kind ≠ .module ∧ (∃ L o, env.frame = some L ∧ base.get? L = none ∧ h.get? L = some o ∧ NsO o) ∧ FunFr h base rest
theorem FunFr.fn {h base : Heap} : ∀ {l : List Env}, FunFr h base l → h.FunFrames base l
  | [], _ => trivial
  | _ :: _, ⟨a, ⟨L, o, b, c, d, es, ep, e⟩, f⟩ => ⟨a, ⟨L, o, b, c, d, fun vs q => by rw [e] at q; cases q⟩, f.fn⟩
theorem funFrames_ext {bad : Addr → Prop} {hb h h' : Heap} (k : ExtB bad hb h h') : ∀ {l : List Env}, FunFr h hb l → FunFr h' hb l
  | [], _ => trivial
  | _ :: _, ⟨a, ⟨L, o, b, c, d, e⟩, f⟩ => let ⟨o', d', e'⟩ := k.nf L o d e; ⟨a, ⟨L, o', b, c, d', e'⟩, funFrames_ext k f⟩

/-! frames -/
def fBad (env : Env) (b : Addr) : Prop := b = env.locals ∨ ∃ n, (n, b) ∈ env.cells
def okF (env : Env) (b : Addr) : Prop := ¬ fBad env b

structure Stp (hb : Heap) (env : Env) (s s' : Shared) : Prop where
  same : ∃ h' tk, s' = { s with heap := h', toks := tk }
  tok : s.toks ≤ s'.toks
  ext : ExtB (fBad env) hb s.heap s'.heap

structure Kp (hb : Heap) (s s' : Shared) : Prop where
  same : ∃ h' tk, s' = { s with heap := h', toks := tk }
  tok : s.toks ≤ s'.toks
  ext : Ext hb s.heap s'.heap

section
variable {hb : Heap}
theorem Kp.rfl {s : Shared} : Kp hb s s := ⟨⟨s.heap, s.toks, by cases s; exact Eq.refl _⟩, Nat.le_refl _, ExtB.rfl⟩
theorem same_trans {s s' s'' : Shared} (a : ∃ h' tk, s' = { s with heap := h', toks := tk }) (b : ∃ h' tk, s'' = { s' with heap := h', toks := tk }) : ∃ h' tk, s'' = { s with heap := h', toks := tk } := by
  obtain ⟨h, t, rfl⟩ := a
  obtain ⟨h', t', rfl⟩ := b
  exact ⟨h', t', Eq.refl _⟩
theorem Kp.trans {s s' s'' : Shared} (a : Kp hb s s') (b : Kp hb s' s'') : Kp hb s s'' := ⟨same_trans a.same b.same, Nat.le_trans a.tok b.tok, a.ext.trans b.ext⟩
theorem Kp.stp {env : Env} {s s' : Shared} (a : Kp hb s s') : Stp hb env s s' := ⟨a.same, a.tok, a.ext.mono fun _ f => f.elim⟩
theorem Stp.rfl {env : Env} {s : Shared} : Stp hb env s s := Kp.rfl.stp
theorem Stp.trans {env : Env} {s s' s'' : Shared} (a : Stp hb env s s') (b : Stp hb env s' s'') : Stp hb env s s'' := ⟨same_trans a.same b.same, Nat.le_trans a.tok b.tok, a.ext.trans b.ext⟩
theorem Kp.tk {s : Shared} {t : Nat} (ht : s.toks ≤ t := by first | exact Nat.le_succ _ | exact Nat.le_succ_of_le (Nat.le_succ _) | omega) : Kp hb s { s with toks := t } := ⟨⟨s.heap, t, Eq.refl _⟩, ht, ExtB.rfl⟩
theorem Kp.mk' {s : Shared} {h : Heap} {t : Nat} (ht : s.toks ≤ t) (e : ∀ b o, s.heap.get? b = some o → h.get? b = some o) : Kp hb s { s with heap := h, toks := t } := ⟨⟨h, t, Eq.refl _⟩, ht, .of e⟩
theorem Kp.mkH {s : Shared} {h : Heap} (e : ∀ b o, s.heap.get? b = some o → h.get? b = some o) : Kp hb s { s with heap := h } := ⟨⟨h, s.toks, Eq.refl _⟩, Nat.le_refl _, .of e⟩
theorem Kp.of {s s' : Shared} (k : Keeps s s') (ht : s.toks ≤ s'.toks) : Kp hb s s' := by obtain ⟨h, t, rfl, e⟩ := k; exact ⟨⟨h, t, Eq.refl _⟩, ht, .of e⟩

structure Frm (hb : Heap) (env : Env) (m cm : Str → Option Value) (s : Shared) : Prop where
  kind : env.scope.kind = .function
  ns : s.heap.Ns env.locals m
  cell : ∀ n c, env.cells.lookup n = some c → s.heap.IsCell c (cm n)
  all : ∀ n c, (n, c) ∈ env.cells → ∃ v, s.heap.IsCell c v
  apart : env.cells.Pairwise fun x y => x.2 ≠ y.2
  new : ∀ b, fBad env b → hb.get? b = none

theorem Frm.ne {env : Env} {m cm : Str → Option Value} {s : Shared} (F : Frm hb env m cm s) {n : Str} {c : Addr} (h : (n, c) ∈ env.cells) : env.locals ≠ c := by
  rintro e
  obtain ⟨o, es, ep, ho, hd, _⟩ := F.ns
  obtain ⟨v, o', ho', hd'⟩ := F.all n c h
  rw [e, ho'] at ho
  cases ho
  rw [hd] at hd'
  cases hd'

theorem Frm.kp {env : Env} {m cm : Str → Option Value} {s s' : Shared} (F : Frm hb env m cm s) (k : Kp hb s s') : Frm hb env m cm s' :=
  ⟨F.kind, k.ext.ns F.ns id, fun n c h => k.ext.cell (F.cell n c h) id, fun n c h => let ⟨v, x⟩ := F.all n c h; ⟨v, k.ext.cell x id⟩, F.apart, F.new⟩

/-- what is a sequence is no frame and no cell -/
theorem Frm.okF {α : Type} {T : Ty α} {env : Env} {m cm : Str → Option Value} {s : Shared} {v : Value} {x : α} {ok : Addr → Prop} (F : Frm hb env m cm s) (r : T.R ok s.heap v x) : T.R (okF env) s.heap v x := by
  refine T.mono (T.seq r) ?_
  rintro a ⟨_, o, xs, n, ho, hd, _⟩ (e | ⟨nm, hc⟩)
  · subst e
    obtain ⟨o', es, ep, ho', hd', _⟩ := F.ns
    rw [ho'] at ho; cases ho; rw [hd] at hd'; cases hd'
  · obtain ⟨v, o', ho', hd'⟩ := F.all nm a hc
    rw [ho'] at ho; cases ho; rw [hd] at hd'; cases hd'

theorem Ty.stp {α : Type} {T : Ty α} {env : Env} {s s' : Shared} {v : Value} {x : α} (r : T.R (okF env) s.heap v x) (k : Stp hb env s s') : T.R (okF env) s'.heap v x := T.move r k.ext fun _ h => h

def upd (m : Str → Option Value) (n : Str) (v : Value) : Str → Option Value := fun y => if y = n then some v else m y
theorem upd_self {m : Str → Option Value} {n : Str} {v : Value} : upd m n v n = some v := if_pos (Eq.refl _)
theorem upd_ne {m : Str → Option Value} {n n' : Str} {v : Value} (h : ¬ n' = n) : upd m n v n' = m n' := if_neg h

section
variable {M : Model} {A : Around} {E : Value → Shared → Prop} {s : Shared} {env : Env} {m cm : Str → Option Value}

theorem stp_of {s : Shared} {h' : Heap} {t : Nat} {a : Addr} (ht : s.toks ≤ t) (hs : Heap.SameBut a s.heap h') (hbad : fBad env a) (hn : ∀ b, fBad env b → hb.get? b = none) (hf : ∀ o, s.heap.get? a = some o → NsO o → ∃ o', h'.get? a = some o' ∧ NsO o') : Stp hb env s { s with heap := h', toks := t } :=
  ⟨⟨h', t, Eq.refl _⟩, ht, ⟨fun b o n e => .of (hs.extBut b o (fun q => n (q ▸ hbad)) e), fun x b o e => hs.extBut b o (fun q => by rw [q, hn a hbad] at e; cases e) (x b o e), fun b o e n => by
    by_cases q : b = a
    · subst q; exact hf o e n
    · exact ⟨o, hs.extBut b o q e, n⟩⟩⟩

theorem store_local {n : Str} {v : Value} {Q : Unit → Shared → Prop} (F : Frm hb env m cm s) (hl : env.kindOf n = some .local)
    (h : ∀ s', Frm hb env (upd m n v) cm s' → Stp hb env s s' → Q () s') : wpAny M A (storeName env n v) Q E s := by
  refine wpAny_storeName_local hl F.ns (fun h' hn' hs' => h _ ⟨F.kind, hn', fun k c hc => ?_, fun k c hc => ?_, F.apart, F.new⟩ (stp_of (Nat.le_succ _) hs' (Or.inl (Eq.refl _)) F.new fun _ _ _ => ns_nf hn')) (by rw [F.kind]; rfl)
  · exact (F.cell k c hc).sameBut hs' (Ne.symm (F.ne (mem_of_lookup hc)))
  · obtain ⟨v, x⟩ := F.all k c hc
    exact ⟨v, x.sameBut hs' (Ne.symm (F.ne hc))⟩

theorem store_cell {n : Str} {v : Value} {c : Addr} {Q : Unit → Shared → Prop} (F : Frm hb env m cm s) (hl : env.kindOf n = some .cell) (hc : env.cells.lookup n = some c)
    (h : ∀ s', Frm hb env m (upd cm n v) s' → Stp hb env s s' → Q () s') : wpAny M A (storeName env n v) Q E s := by
  refine wpAny_storeName_cell F.kind hl hc (F.cell n c hc) fun h' hc' hs' => h _ ⟨F.kind, F.ns.sameBut hs' (F.ne (mem_of_lookup hc)), fun k c' hk' => ?_, fun k c' hk' => ?_, F.apart, F.new⟩ (stp_of (Nat.le_refl _) hs' (Or.inr ⟨n, mem_of_lookup hc⟩) F.new fun _ e q => (cell_nf (F.cell n c hc) e q).elim)
  · unfold upd
    by_cases e : k = n
    · subst e
      rw [hc] at hk'; cases hk'
      rw [if_pos (Eq.refl _)]; exact hc'
    · rw [if_neg e]
      exact (F.cell k c' hk').sameBut hs' fun q => e (name_of_addr F.apart (mem_of_lookup hk') (q ▸ mem_of_lookup hc))
  · by_cases e : c' = c
    · subst e; exact ⟨_, hc'⟩
    · obtain ⟨v, x⟩ := F.all k c' hk'
      exact ⟨v, x.sameBut hs' e⟩

/-- an expression's value -/
def Ev {α : Type} (hb : Heap) (M : Model) (A : Around) (env : Env) (s : Shared) (e : PySem.Expr) (T : Ty α) (x : α) : Prop :=
  ∀ (Q : Value → Shared → Prop) (E : Value → Shared → Prop), (∀ v s', Kp hb s s' → T.at s'.heap v x → Q v s') → wpAny M A (eval e env) Q E s

theorem ld_local {α : Type} {T : Ty α} {n : Str} {pos : Pos} {v : Value} {x : α} (F : Frm hb env m cm s) (hl : env.kindOf n = some .local) (hv : m n = some v) (r : T.R (okF env) s.heap v x)
    (hd : (n == ("__debug__" : Str)) = false) : Ev hb M A env s (.Name n pos) T x :=
  fun _ _ h => wpAny_Name (wpAny_loadName_local F.kind hl F.ns hv (h _ _ Kp.rfl (T.to_at r))) hd

theorem ld_cell {α : Type} {T : Ty α} {n : Str} {pos : Pos} {v : Value} {x : α} {c : Addr} (F : Frm hb env m cm s) (hl : env.kindOf n = some .cell) (hc : env.cells.lookup n = some c) (hv : cm n = some v) (r : T.R (okF env) s.heap v x)
    (hd : (n == ("__debug__" : Str)) = false) : Ev hb M A env s (.Name n pos) T x :=
  fun _ _ h => wpAny_Name (wpAny_loadName_cell F.kind hl hc (hv ▸ F.cell n c hc) (h _ _ Kp.rfl (T.to_at r))) hd
end
end
end
end Mine
end

section
open PySem PySem.W PyProof.Rows PySem.Calls
set_option maxRecDepth 100000
set_option maxHeartbeats 400000
namespace Mine
noncomputable section

/-- the ground: the heap at the law's own start -/
structure Gnd (w : World) (hb : Heap) (mg mb : Str → Option Value) : Prop where
  T : ∃ mean, Top qv (looseW qv lo) mean mg mb hb
  K : (KF w.params).In hb

/-- around a step: the room, the frames, the ground -/
structure Cx (hb : Heap) (k : Nat) (A : Around) (h : Heap) : Prop where
  hand : A.handled = none
  dep : A.depth + k < recursionLimit
  un : A.units + 10 * k < cLine
  fr : ∃ l, A.frames = some l ∧ FunFr h hb l
  st : hb.StaysIn h

def recS : Option Stmt → DefRec
  | some (.FunctionDef name params body _ _ _ scope _ _ pos) => ⟨name, params, body, scope, pos⟩
  | _ => ⟨"", ⟨[], [], none, [], [], none, []⟩, [], default, ⟨0, 0, 0, 0⟩⟩
def D (i : Nat) : DefRec := recS (p.main.body[i]?)

def envD (d : DefRec) (L a : Addr) (cd : Value) : Env := newEnv d.scope L mainGlobals (cellsFrom (L + 1) d.scope.names []) (d.name ++ ".<locals>.") (some a) cd none builtinsNs

section
variable {w : World} {hb : Heap} {mg mb : Str → Option Value} {A : Around} {s : Shared} {k : Nat}

theorem Cx.ext {bad : Addr → Prop} {h h' : Heap} (c : Cx hb k A h) (e : ExtB bad hb h h') : Cx hb k A h' :=
  ⟨c.hand, c.dep, c.un, let ⟨l, a, b⟩ := c.fr; ⟨l, a, funFrames_ext e b⟩, e.base c.st⟩
theorem Cx.kp {s s' : Shared} (c : Cx hb k A s.heap) (e : Kp hb s s') : Cx hb k A s'.heap := c.ext e.ext
theorem Cx.stp {env : Env} {s s' : Shared} (c : Cx hb k A s.heap) (e : Stp hb env s s') : Cx hb k A s'.heap := c.ext e.ext

theorem Gnd.fn (G : Gnd w hb mg mb) {d : DefRec} (hd : d ∈ recsOf qv) : ∃ a o pm code doc, mg d.name = some (.ref a) ∧ hb.get? a = some o ∧ o.data = .func (docDef d.name d.params d.body d.scope pm code doc) ∧ hb.CodeRec code d.name :=
  let ⟨_, T⟩ := G.T; T.fn d hd

/-- a call of a def of the text's -/
theorem enter (G : Gnd w hb mg mb) {d : DefRec} (hd : d ∈ recsOf qv) {a : Addr} (ha : mg d.name = some (.ref a)) {vals : List Value} {binds : List (Str × Value)}
    {Q : Value → Shared → Prop} {E : Value → Shared → Prop} (C : Cx hb (k + 1) A s.heap)
    (hbind : ∀ pm code doc, bindArgs (docDef d.name d.params d.body d.scope pm code doc) ⟨vals, []⟩ = pure binds)
    (hkind : ∀ L, ∀ x ∈ binds, d.scope.names.lookup x.1 = some .local ∨ (d.scope.names.lookup x.1 = some .cell ∧ ((cellsFrom L d.scope.names []).lookup x.1).isSome = true))
    (hcells : ∀ L n c, (n, c) ∈ cellsFrom L d.scope.names [] → (cellsFrom L d.scope.names []).lookup n = some c)
    (hco : d.scope.isCoroutine = false) (hgen : d.scope.isGenerator = false) (hk : d.scope.kind = .function)
    (h : ∀ L a cd s₁, Frm hb (envD d L a cd) (bindL (envD d L a cd).kindOf binds fun _ => none) (bindC (envD d L a cd).kindOf binds fun _ => none) s₁ → Kp hb s s₁ →
      (∀ b, fBad (envD d L a cd) b → s.heap.get? b = none) → Cx hb k (A.deeper (envD d L a cd)) s₁.heap →
      wpAny (model p w) (A.deeper (envD d L a cd)) (execs d.body (envD d L a cd)) (fun f s' => Stp hb (envD d L a cd) s₁ s' ∧ (Kp hb s s' → Q (match f with | .ret v => v | _ => .none) s'))
        (fun e s' => wpAny (model p w) (A.deeper (envD d L a cd)) (leaving (envD d L a cd) e) (fun _ s'' => E e s'') (fun e' s'' => E e' s'') s') s₁) :
    wpAny (model p w) A (call (.ref a) vals) Q E s := by
  obtain ⟨a', o, pm, code, doc, h1, h2, h3, h4⟩ := G.fn hd
  rw [ha] at h1
  cases h1
  obtain ⟨mean, T⟩ := G.T
  refine wpAny_call (codeAny_call_function (by have := C.dep; omega) (C.st a o h2) h3 hco hgen (show (docDef d.name d.params d.body d.scope pm code doc).body = .stmts d.body from rfl) (h4.keeps C.st) ?_)
  rw [hbind, show (docDef d.name d.params d.body d.scope pm code doc).closure = [] from rfl]
  refine wpAny_pure (wpAny_with_toks (Nat.le_refl _) (wpAny_newFunctionEnv_cells hk (fun x hx => hkind _ x hx) fun env he s₁ X htk => ?_))
  subst he
  refine ⟨(T.nolimit.keeps C.st).keeps X.toInCall.keep, codeAny_func ?_⟩
  change InCallC s (envD d s.heap.objs.size a code).locals (bindL (envD d s.heap.objs.size a code).kindOf binds fun _ => none) (envD d s.heap.objs.size a code).cells (bindC (envD d s.heap.objs.size a code).kindOf binds fun _ => none) s₁ at X
  have new : ∀ b, fBad (envD d s.heap.objs.size a code) b → s.heap.get? b = none := by
    intro b hbb
    have : s.heap.objs.size ≤ b := by
      rcases hbb with rfl | ⟨n, hc⟩
      · exact Nat.le_refl _
      · exact Nat.le_of_lt (X.above n b hc)
    cases e : s.heap.get? b with
    | none => rfl
    | some o' => exact absurd (Heap.lt_size e) (Nat.not_lt.mpr this)
  have kp : Kp hb s s₁ := ⟨X.toInCall.same, htk, .of X.toInCall.keep⟩
  have F : Frm hb (envD d s.heap.objs.size a code) (bindL (envD d s.heap.objs.size a code).kindOf binds fun _ => none) (bindC (envD d s.heap.objs.size a code).kindOf binds fun _ => none) s₁ :=
    ⟨hk, X.toInCall.ns, X.cell, fun n c hc => ⟨_, X.cell n c (hcells _ n c hc)⟩, X.apart, fun b hbb => by
      cases e : hb.get? b with
      | none => rfl
      | some o' => have := C.st b o' e; rw [new b hbb] at this; cases this⟩
  obtain ⟨l, hl, hfl⟩ := C.fr
  have C' : Cx hb k (A.deeper (envD d s.heap.objs.size a code)) s₁.heap := by
    refine ⟨C.hand, ?_, ?_, ⟨envD d s.heap.objs.size a code :: l, by show A.frames.map _ = _; rw [hl]; rfl, ?_⟩, kp.ext.base C.st⟩
    · have := C.dep; show A.depth + 1 + k < _; omega
    · have := C.un; show A.units + 3 + 10 * k < _; omega
    · obtain ⟨o', _, _, e1, e2, _⟩ := F.ns
      refine ⟨by rw [F.kind]; decide, ⟨s.heap.objs.size, o', rfl, F.new _ (Or.inl rfl), e1, _, _, e2⟩, funFrames_ext kp.ext hfl⟩
  refine wpAny_mono (h _ a code s₁ F kp new C') (fun f s' hq => ?_) fun _ _ x => x
  refine hq.2 ⟨same_trans kp.same hq.1.same, Nat.le_trans htk hq.1.tok, ⟨fun b o' _ e => ?_, fun x => hq.1.ext.base (kp.ext.base x), fun b o' e n => ?_⟩⟩
  · refine hq.1.ext.stay b o' (fun q => ?_) (X.toInCall.keep b o' e)
    rw [new b q] at e; cases e
  · exact hq.1.ext.nf b o' (X.toInCall.keep b o' e) n

theorem Gnd.mgo (G : Gnd w hb mg mb) {x : Str} {v : Value} (e : nsIn (KF w.params) mainGlobals x = some (some v)) : mg x = some v := let ⟨_, T⟩ := G.T; mg_of G.K T.g e
end

section
variable {w : World} {hb : Heap} {mg mb : Str → Option Value} {A : Around} {s : Shared} {k : Nat} {env : Env}
/-- a global name -/
theorem ld_global (G : Gnd w hb mg mb) (st : hb.StaysIn s.heap) (hk : env.scope.kind = .function) (hg : env.globals = mainGlobals) {x : Str} {pos : Pos} {v : Value} (hx : env.kindOf x = some .globalImplicit) (hv : mg x = some v)
    (hd : (x == ("__debug__" : Str)) = false) {Q : Value → Shared → Prop} {E : Value → Shared → Prop} (h : Q v s) : wpAny (model p w) A (eval (.Name x pos) env) Q E s := by
  obtain ⟨_, T⟩ := G.T
  exact Name_function_global hk hx (loadGlobal_global (hg ▸ T.g.keeps st) hv h) hd
theorem ld_builtin (G : Gnd w hb mg mb) (st : hb.StaysIn s.heap) (hk : env.scope.kind = .function) (hg : env.globals = mainGlobals) (hbu : env.builtins = builtinsNs) {x : Str} {pos : Pos} {v : Value} (hx : env.kindOf x = some .globalImplicit) (hm : mg x = none) (hv : mb x = some v)
    (hd : (x == ("__debug__" : Str)) = false) {Q : Value → Shared → Prop} {E : Value → Shared → Prop} (h : Q v s) : wpAny (model p w) A (eval (.Name x pos) env) Q E s := by
  obtain ⟨_, T⟩ := G.T
  exact Name_function_global hk hx (loadGlobal_builtin (hg ▸ T.g.keeps st) hm (hbu ▸ T.b.keeps st) hv h) hd
end

theorem d9 : D 9 ∈ recsOf qv := List.mem_of_getElem? (i := 3) (by kernel_rfl)
theorem d9n : (D 9).name = "add" := by kernel_rfl
end
end Mine
end

section
open PySem PySem.W PyProof.Rows PySem.Calls
set_option maxRecDepth 100000
set_option maxHeartbeats 400000
namespace Mine
noncomputable section

theorem ns_unique {h : Heap} {a m m'} (x : h.Ns a m) (y : h.Ns a m') : m = m' := by
  obtain ⟨o, es, ep, e, d, _, f⟩ := x
  obtain ⟨o', es', ep', e', d', _, f'⟩ := y
  rw [e] at e'; cases e'
  rw [d] at d'; cases d'
  funext n
  rw [← f n, f' n]
theorem cell_unique {h : Heap} {a m m'} (x : h.IsCell a m) (y : h.IsCell a m') : m = m' := by
  obtain ⟨o, e, d⟩ := x
  obtain ⟨o', e', d'⟩ := y
  rw [e] at e'; cases e'
  rw [d] at d'; cases d'
  rfl

/-- the name n holds x -/
def Var {α : Type} (hb : Heap) (env : Env) (n : Str) (T : Ty α) (x : α) (s : Shared) : Prop :=
  ∃ m cm, Frm hb env m cm s ∧ ∃ v, T.R (okF env) s.heap v x ∧ ((env.kindOf n = some .local ∧ m n = some v) ∨ (env.kindOf n = some .cell ∧ ∃ c, env.cells.lookup n = some c ∧ cm n = some v))

def FrmOk (hb : Heap) (env : Env) (s : Shared) : Prop := ∃ m cm, Frm hb env m cm s

/-- after a store into n -/
structure Upd (hb : Heap) (env : Env) (n : Str) (s s' : Shared) : Prop where
  stp : Stp hb env s s'
  frm : FrmOk hb env s'
  var : ∀ {α : Type} {S : Ty α} {n' : Str} {y : α}, ¬ n' = n → Var hb env n' S y s → Var hb env n' S y s'

section
variable {hb : Heap} {env : Env} {s s' : Shared} {n : Str} {M : Model} {A : Around} {E : Value → Shared → Prop}

theorem Var.frm {α : Type} {T : Ty α} {x : α} (h : Var hb env n T x s) : FrmOk hb env s := let ⟨m, cm, F, _⟩ := h; ⟨m, cm, F⟩
theorem Var.kp {α : Type} {T : Ty α} {x : α} (h : Var hb env n T x s) (k : Kp hb s s') : Var hb env n T x s' :=
  let ⟨m, cm, F, v, r, o⟩ := h; ⟨m, cm, F.kp k, v, T.move r k.ext fun _ _ => id, o⟩
theorem FrmOk.kp (h : FrmOk hb env s) (k : Kp hb s s') : FrmOk hb env s' := let ⟨m, cm, F⟩ := h; ⟨m, cm, F.kp k⟩

theorem store_var {α : Type} {T : Ty α} {x : α} {v : Value} {Q : Unit → Shared → Prop} (F : FrmOk hb env s) (hl : env.kindOf n = some .local ∨ (env.kindOf n = some .cell ∧ ∃ c, env.cells.lookup n = some c)) (r : T.at s.heap v x)
    (h : ∀ s', Upd hb env n s s' → Var hb env n T x s' → Q () s') : wpAny M A (storeName env n v) Q E s := by
  obtain ⟨m, cm, F⟩ := F
  have r' := F.okF r
  rcases hl with hl | ⟨hl, c, hc⟩
  · refine store_local F hl fun s' F' k => h s' ⟨k, ⟨_, _, F'⟩, ?_⟩ ⟨_, _, F', v, T.stp r' k, .inl ⟨hl, upd_self⟩⟩
    rintro β S n' y hne ⟨m₁, cm₁, F₁, u, ru, o⟩
    have em : m₁ = m := ns_unique F₁.ns F.ns
    subst em
    refine ⟨_, _, F', u, S.stp ru k, o.imp (fun q => ⟨q.1, (upd_ne hne).trans q.2⟩) fun ⟨q, c, hc, hv⟩ => ⟨q, c, hc, ?_⟩⟩
    rw [← hv]; exact cell_unique (F.cell _ _ hc) (F₁.cell _ _ hc)
  · refine store_cell F hl hc fun s' F' k => h s' ⟨k, ⟨_, _, F'⟩, ?_⟩ ⟨_, _, F', v, T.stp r' k, .inr ⟨hl, c, hc, upd_self⟩⟩
    rintro β S n' y hne ⟨m₁, cm₁, F₁, u, ru, o⟩
    have em : m₁ = m := ns_unique F₁.ns F.ns
    subst em
    refine ⟨_, _, F', u, S.stp ru k, o.imp id fun ⟨q, c, hc, hv⟩ => ⟨q, c, hc, ?_⟩⟩
    rw [upd_ne hne, ← hv]; exact cell_unique (F.cell _ _ hc) (F₁.cell _ _ hc)

theorem Upd.kp {n : Str} {s s' s'' : Shared} (k : Kp hb s s') (u : Upd hb env n s' s'') : Upd hb env n s s'' := ⟨k.stp.trans u.stp, u.frm, fun hn v => u.var hn (v.kp k)⟩
theorem Upd.kpr {n : Str} {s s' s'' : Shared} (u : Upd hb env n s s') (k : Kp hb s' s'') : Upd hb env n s s'' := ⟨u.stp.trans k.stp, u.frm.kp k, fun hn v => (u.var hn v).kp k⟩

/-- from s on the expression gives x -/
structure Pv {α : Type} (hb : Heap) (M : Model) (A : Around) (env : Env) (s : Shared) (e : PySem.Expr) (T : Ty α) (x : α) : Prop where
  run : ∀ s', Kp hb s s' → ∀ (Q : Value → Shared → Prop) (E : Value → Shared → Prop), (∀ v s'', Kp hb s' s'' → T.at s''.heap v x → Q v s'') → wpAny M A (eval e env) Q E s'
/-- from s on the test gives b -/
structure Pt (hb : Heap) (M : Model) (A : Around) (env : Env) (s : Shared) (e : PySem.Expr) (b : Bool) : Prop where
  run : ∀ s', Kp hb s s' → ∀ (Q : Bool → Shared → Prop) (E : Value → Shared → Prop), (∀ s'', Kp hb s' s'' → Q b s'') → wpAny M A (isTrue e env (eval e env)) Q E s'

theorem Pv.kp {α : Type} {T : Ty α} {x : α} {e : PySem.Expr} (h : Pv hb M A env s e T x) (k : Kp hb s s') : Pv hb M A env s' e T x := ⟨fun s₁ k₁ => h.run s₁ (k.trans k₁)⟩
theorem Pt.kp {b : Bool} {e : PySem.Expr} (h : Pt hb M A env s e b) (k : Kp hb s s') : Pt hb M A env s' e b := ⟨fun s₁ k₁ => h.run s₁ (k.trans k₁)⟩
theorem Pv.go {α : Type} {T : Ty α} {x : α} {e : PySem.Expr} (h : Pv hb M A env s e T x) {Q : Value → Shared → Prop} (q : ∀ v s'', Kp hb s s'' → T.at s''.heap v x → Q v s'') : wpAny M A (eval e env) Q E s := h.run s Kp.rfl Q E q
theorem Pt.go {b : Bool} {e : PySem.Expr} (h : Pt hb M A env s e b) {Q : Bool → Shared → Prop} (q : ∀ s'', Kp hb s s'' → Q b s'') : wpAny M A (isTrue e env (eval e env)) Q E s := h.run s Kp.rfl Q E q

theorem Var.pv {α : Type} {T : Ty α} {x : α} {pos : Pos} (h : Var hb env n T x s) (hd : (n == ("__debug__" : Str)) = false := by decide) : Pv hb M A env s (.Name n pos) T x := by
  refine ⟨fun s' k Q E q => ?_⟩
  obtain ⟨m, cm, F, v, r, o⟩ := h.kp k
  rcases o with ⟨hl, hv⟩ | ⟨hl, c, hc, hv⟩
  · exact ld_local F hl hv r hd Q E q
  · exact ld_cell F hl hc hv r hd Q E q

theorem pInt {i : Int} {k : Nat} {pos : Pos} : Pv hb M A env s (.Constant (.int i) k pos) tInt i := ⟨fun _ _ _ _ q => wpAny_Constant_int (q _ _ Kp.tk ⟨_, rfl⟩)⟩
theorem pStr {i : Str} {k : Nat} {pos : Pos} : Pv hb M A env s (.Constant (.str i) k pos) tStr i := ⟨fun _ _ _ _ q => Constant_str (q _ _ Kp.tk ⟨_, rfl⟩)⟩
theorem pBool {i : Bool} {k : Nat} {pos : Pos} : Pv hb M A env s (.Constant (.bool i) k pos) tBool i := ⟨fun _ _ _ _ q => fun _ _ _ => q (.bool i) _ Kp.rfl rfl⟩

theorem pBin {α β γ : Type} {T : Ty α} {S : Ty β} {U : Ty γ} {x : α} {y : β} {z : γ} {l r : PySem.Expr} {op : Operator} {pos : Pos} (hl : Pv hb M A env s l T x) (hr : Pv hb M A env s r S y)
    (ho : ∀ (s' : Shared) v u (Q : Value → Shared → Prop) (E : Value → Shared → Prop), Kp hb s s' → T.at s'.heap v x → S.at s'.heap u y → (∀ v' s'', Kp hb s' s'' → U.at s''.heap v' z → Q v' s'') → wpAny M A (binaryOp op v u) Q E s') :
    Pv hb M A env s (.BinOp l op r pos) U z := ⟨fun s' k Q E q =>
  wpAny_BinOp (hl.run s' k _ _ fun v s₁ k₁ a => hr.run s₁ (k.trans k₁) _ _ fun u s₂ k₂ b => ho s₂ v u Q E ((k.trans k₁).trans k₂) (Ty.at_ext a k₂.ext) b fun v' s₃ k₃ c => q v' s₃ ((k₁.trans k₂).trans k₃) c)⟩

theorem pCmp {α β γ : Type} {T : Ty α} {S : Ty β} {U : Ty γ} {x : α} {y : β} {z : γ} {l r : PySem.Expr} {op : CmpOp} {pos : Pos} (hl : Pv hb M A env s l T x) (hr : Pv hb M A env s r S y)
    (ho : ∀ (s' : Shared) v u (Q : Value → Shared → Prop) (E : Value → Shared → Prop), Kp hb s s' → T.at s'.heap v x → S.at s'.heap u y → (∀ v' s'', Kp hb s' s'' → U.at s''.heap v' z → Q v' s'') → wpAny M A (compareOp op v u) Q E s')
    (hm : behindInMarks op r = false := by with_unfolding_all rfl) :
    Pv hb M A env s (.Compare l [op] [r] pos) U z := ⟨fun s' k Q E q =>
  wpAny_Compare1 (hl.run s' k _ _ fun v s₁ k₁ a => hr.run s₁ (k.trans k₁) _ _ fun u s₂ k₂ b => ho s₂ v u Q E ((k.trans k₁).trans k₂) (Ty.at_ext a k₂.ext) b fun v' s₃ k₃ c => q v' s₃ ((k₁.trans k₂).trans k₃) c) hm⟩

theorem ptCmp {α β : Type} {T : Ty α} {S : Ty β} {x : α} {y : β} {z : Bool} {l r : PySem.Expr} {op : CmpOp} {pos : Pos} (hl : Pv hb M A env s l T x) (hr : Pv hb M A env s r S y)
    (ho : ∀ (s' : Shared) v u (Q : Value → Shared → Prop) (E : Value → Shared → Prop), Kp hb s s' → T.at s'.heap v x → S.at s'.heap u y → (∀ s'', Kp hb s' s'' → Q (.bool z) s'') → wpAny M A (compareOp op v u) Q E s')
    (hm : behindInMarks op r = false := by with_unfolding_all rfl) :
    Pt hb M A env s (.Compare l [op] [r] pos) z := ⟨fun s' k Q E q =>
  wpAny_isTrue_Compare1 (hl.run s' k _ _ fun v s₁ k₁ a => hr.run s₁ (k.trans k₁) _ _ fun u s₂ k₂ b => ho s₂ v u _ E ((k.trans k₁).trans k₂) (Ty.at_ext a k₂.ext) b fun s₃ k₃ => wpAny_truthy_bool (q s₃ ((k₁.trans k₂).trans k₃))) hm⟩

/-! statements -/
theorem sAssign {α : Type} {T : Ty α} {x : α} {e : PySem.Expr} {pos' pos : Pos} {Q : Flow → Shared → Prop} (F : FrmOk hb env s) (h : Pv hb M A env s e T x)
    (hl : env.kindOf n = some .local ∨ (env.kindOf n = some .cell ∧ ∃ c, env.cells.lookup n = some c))
    (q : ∀ s', Upd hb env n s s' → Var hb env n T x s' → Q .next s')
    (hs : swapsWith e (some (.Name n pos')) pos.line env = pure false := by rfl) : wpAny M A (exec (.Assign [.Name n pos'] e pos) env) Q E s :=
  wpAny_Assign_Name (h.go fun _ _ k r => store_var (F.kp k) hl r fun s' u v => q s' (u.kp k) v) hs

theorem sReturn {α : Type} {T : Ty α} {x : α} {e : PySem.Expr} {pos : Pos} {Q : Flow → Shared → Prop} (h : Pv hb M A env s e T x) (q : ∀ v s', Kp hb s s' → T.at s'.heap v x → Q (.ret v) s') : wpAny M A (exec (.Return (some e) pos) env) Q E s :=
  wpAny_Return_some (h.go q)

theorem sIf {b : Bool} {t : PySem.Expr} {body orelse : List Stmt} {pos : Pos} {Q : Flow → Shared → Prop} (h : Pt hb M A env s t b)
    (q : ∀ s', Kp hb s s' → (b = true → wpAny M A (execs body env) Q E s') ∧ (b = false → wpAny M A (execs orelse env) Q E s')) : wpAny M A (exec (.If t body orelse pos) env) Q E s := by
  refine wpAny_If (h.go fun s' k => ?_)
  cases b with
  | true => rw [if_pos rfl]; exact (q s' k).1 rfl
  | false => rw [if_neg (by decide)]; exact (q s' k).2 rfl
end
/-! calls -/
def A1 {α : Type} (T : Ty α) (x : α) : Heap → List Value → Prop := fun h vs => ∃ v, vs = [v] ∧ T.at h v x
def A2 {α β : Type} (T : Ty α) (x : α) (S : Ty β) (y : β) : Heap → List Value → Prop := fun h vs => ∃ v u, vs = [v, u] ∧ T.at h v x ∧ S.at h u y
/-- what a def of the text's does -/
def Fn {α : Type} (hb : Heap) (w : World) (mg : Str → Option Value) (k : Nat) (name : Str) (args : Heap → List Value → Prop) (T : Ty α) (y : α) : Prop :=
  ∀ (A : Around) (s : Shared) (vs : List Value) (a : Addr), mg name = some (.ref a) → Cx hb k A s.heap → args s.heap vs → ∀ (Q : Value → Shared → Prop) (E : Value → Shared → Prop), (∀ v s', Kp hb s s' → T.at s'.heap v y → Q v s') →
    wpAny (model p w) A (call (.ref a) vs) Q E s

structure EnvG (env : Env) : Prop where
  kind : env.scope.kind = .function
  glob : env.globals = mainGlobals
  built : env.builtins = builtinsNs

section
variable {w : World} {hb : Heap} {mg mb : Str → Option Value} {A : Around} {s : Shared} {k : Nat} {env : Env}
theorem Cx.less {j : Nat} {h : Heap} (c : Cx hb k A h) (hj : j ≤ k) : Cx hb j A h := ⟨c.hand, by have := c.dep; omega, by have := c.un; omega, c.fr, c.st⟩

theorem pCall1 {α β : Type} {T : Ty α} {x : α} {S : Ty β} {y : β} {d : DefRec} {f : Str} {e : PySem.Expr} {fp pos : Pos} (G : Gnd w hb mg mb) (V : EnvG env) (hd : d ∈ recsOf qv) (hn : d.name = f) (C : Cx hb k A s.heap)
    (hx : env.kindOf f = some .globalImplicit) (h : Pv hb (model p w) A env s e T x) (F : Fn hb w mg k f (A1 T x) S y) (hdb : (f == ("__debug__" : Str)) = false := by decide)
    (he : ∀ e' : PySem.Expr, eval (.Call (.Name f fp) [e] [] pos) env = (do callWith pos (← eval (.Name f fp) env) [] (backTo pos (starEach [e] env)) (backToKw pos (keywordEach [] env))) := by intro _; rfl)
    (hs : starEach [e] env = (false, eval e env) :: starEach [] env := by rfl) :
    Pv hb (model p w) A env s (.Call (.Name f fp) [e] [] pos) S y := by
  subst hn
  refine ⟨fun s' kp Q E q => ?_⟩
  obtain ⟨a, o, pm, code, doc, h1, h2, h3, h4⟩ := G.fn hd
  have C' := C.kp kp
  refine Call_ (ld_global G C'.st V.kind V.glob hx h1 hdb ?_) (he e)
  refine callWith_def h3 (args_cons (h.run s' kp _ _ fun v s₁ k₁ r => args_nil ⟨(C'.kp k₁).st a o h2, ?_⟩) hs) hs
  exact F A s₁ [v] a h1 (C'.kp k₁) ⟨v, rfl, r⟩ Q E fun v' s₂ k₂ r₂ => q v' s₂ (k₁.trans k₂) r₂

theorem pCall2 {α β γ : Type} {T : Ty α} {x : α} {S : Ty β} {y : β} {U : Ty γ} {z : γ} {d : DefRec} {f : Str} {e e' : PySem.Expr} {fp pos : Pos} (G : Gnd w hb mg mb) (V : EnvG env) (hd : d ∈ recsOf qv) (hn : d.name = f) (C : Cx hb k A s.heap)
    (hx : env.kindOf f = some .globalImplicit) (h : Pv hb (model p w) A env s e T x) (h' : Pv hb (model p w) A env s e' U z) (F : Fn hb w mg k f (A2 T x U z) S y) (hdb : (f == ("__debug__" : Str)) = false := by decide)
    (he : ∀ _ : PySem.Expr, eval (.Call (.Name f fp) [e, e'] [] pos) env = (do callWith pos (← eval (.Name f fp) env) [] (backTo pos (starEach [e, e'] env)) (backToKw pos (keywordEach [] env))) := by intro _; rfl)
    (hs : starEach [e, e'] env = (false, eval e env) :: starEach [e'] env := by rfl) (hs' : starEach [e'] env = (false, eval e' env) :: starEach [] env := by rfl) :
    Pv hb (model p w) A env s (.Call (.Name f fp) [e, e'] [] pos) S y := by
  subst hn
  refine ⟨fun s' kp Q E q => ?_⟩
  obtain ⟨a, o, pm, code, doc, h1, h2, h3, h4⟩ := G.fn hd
  have C' := C.kp kp
  refine Call_ (ld_global G C'.st V.kind V.glob hx h1 hdb ?_) (he e)
  refine callWith_def h3 (args_cons (h.run s' kp _ _ fun v s₁ k₁ r => args_cons (h'.run s₁ (kp.trans k₁) _ _ fun v' s₂ k₂ r' => args_nil ⟨(C'.kp (k₁.trans k₂)).st a o h2, ?_⟩) hs') hs) hs
  exact F A s₂ [v, v'] a h1 (C'.kp (k₁.trans k₂)) ⟨v, v', rfl, Ty.at_ext r k₂.ext, r'⟩ Q E fun v' s₃ k₃ r₃ => q v' s₃ ((k₁.trans k₂).trans k₃) r₃
end
end
end Mine
end

section
open PySem PySem.W PyProof.Rows PySem.Calls
set_option maxRecDepth 100000
set_option maxHeartbeats 400000
namespace Mine
noncomputable section
theorem m_add : D 9 ∈ recsOf qv := List.mem_of_getElem? (i := 3) (by kernel_rfl)
theorem n_add : (D 9).name = "add" := by kernel_rfl
theorem m_lshift : D 10 ∈ recsOf qv := List.mem_of_getElem? (i := 4) (by kernel_rfl)
theorem n_lshift : (D 10).name = "lshift" := by kernel_rfl
section
variable {w : World} {hb : Heap} {mg mb : Str → Option Value}
theorem envG {d : DefRec} {L a : Addr} {cd : Value} (h : d.scope.kind = .function) : EnvG (envD d L a cd) := ⟨h, rfl, rfl⟩

theorem f_add (G : Gnd w hb mg mb) (x y : Int) : Fn hb w mg 1 "add" (A2 tInt x tInt y) tInt (x + y) := by
  rintro A s vs a ha C ⟨v, u, rfl, rv, ru⟩ Q E q
  refine enter (k := 0) G m_add (n_add ▸ ha) (binds := [("a", v), ("b", u)]) C (fun _ _ _ => by rfl) (fun L z hz => ?_) (fun L n c h => by cases h) rfl rfl rfl fun L a cd s₁ F k new C' => ?_
  · simp only [List.mem_cons, List.not_mem_nil, or_false] at hz
    rcases hz with rfl | rfl <;> exact .inl rfl
  have va : Var hb (envD (D 9) L a cd) "a" tInt x s₁ := ⟨_, _, F, v, F.okF (Ty.at_ext rv k.ext), .inl ⟨by rfl, by rfl⟩⟩
  have vb : Var hb (envD (D 9) L a cd) "b" tInt y s₁ := ⟨_, _, F, u, F.okF (Ty.at_ext ru k.ext), .inl ⟨by rfl, by rfl⟩⟩
  refine wpAny_execs_cons (sReturn (pBin va.pv vb.pv (U := tInt) (z := x + y) ?_) fun v' s' k' r => ⟨k'.stp, fun kk => q v' s' kk r⟩)
  rintro s' v u Q E _ ⟨t, rfl⟩ ⟨t', rfl⟩ q
  exact add_int (q _ _ Kp.tk ⟨_, rfl⟩)
end
end
end Mine
end

section
open PySem PySem.W PyProof.Rows PySem.Calls
set_option maxRecDepth 100000
set_option maxHeartbeats 400000
namespace Mine
noncomputable section
theorem m_b1 : D 2 ∈ recsOf qv := List.mem_of_getElem? (i := 0) (by kernel_rfl)
theorem n_b1 : (D 2).name = "in_table_b1" := by kernel_rfl
theorem m_b3 : D 4 ∈ recsOf qv := List.mem_of_getElem? (i := 1) (by kernel_rfl)
theorem n_b3 : (D 4).name = "map_table_b3" := by kernel_rfl
section
variable {w : World} {hb : Heap} {mg mb : Str → Option Value} {A : Around} {s : Shared} {k : Nat} {env : Env}

theorem Gnd.none (G : Gnd w hb mg mb) {x : Str} (e : nsIn (KF w.params) mainGlobals x = some none) : mg x = none := let ⟨_, T⟩ := G.T; mg_none_of G.K T.g e
theorem Gnd.bu (G : Gnd w hb mg mb) {x : Str} {v : Value} (hn : x ≠ "__name__") (e : bootBuiltins x = some v) : mb x = some v := let ⟨_, T⟩ := G.T; (T.builtins x hn).trans e

/-- a call of a function that is built in, one argument -/
theorem pB1 {α β : Type} {T : Ty α} {x : α} {S : Ty β} {y : β} {f : Str} {id : String} {e : PySem.Expr} {fp pos : Pos} (G : Gnd w hb mg mb) (V : EnvG env) (st : hb.StaysIn s.heap)
    (hm : mg f = .none) (hbu : mb f = some (.builtin id))
    (hx : env.kindOf f = some .globalImplicit) (h : Pv hb (model p w) A env s e T x)
    (F : ∀ s' v (Q : Value → Shared → Prop) (E : Value → Shared → Prop), Kp hb s s' → T.at s'.heap v x → (∀ v' s'', Kp hb s' s'' → S.at s''.heap v' y → Q v' s'') → wpAny (model p w) A (call (.builtin id) [v]) Q E s')
    (hdb : (f == ("__debug__" : Str)) = false := by decide)
    (he : ∀ _ : PySem.Expr, eval (.Call (.Name f fp) [e] [] pos) env = (do callWith pos (← eval (.Name f fp) env) [] (backTo pos (starEach [e] env)) (backToKw pos (keywordEach [] env))) := by intro _; rfl)
    (hs : starEach [e] env = (false, eval e env) :: starEach [] env := by rfl) :
    Pv hb (model p w) A env s (.Call (.Name f fp) [e] [] pos) S y := by
  refine ⟨fun s' kp Q E q => ?_⟩
  refine Call_ (ld_builtin G (kp.ext.base st) V.kind V.glob V.built hx hm hbu hdb ?_) (he e)
  exact callWith_builtin1 (args_cons (h.run s' kp _ _ fun v s₁ k₁ r => args_nil (F s₁ v Q E (kp.trans k₁) r fun v' s₂ k₂ r' => q v' s₂ (k₁.trans k₂) r')) hs) hs

theorem f_lshift (G : Gnd w hb mg mb) (x y : Int) (hx : x.natAbs < 2 ^ 64) (h0 : 0 ≤ y) (h1 : y ≤ 1000000) : Fn hb w mg 1 "lshift" (A2 tInt x tInt y) tInt (x * 2 ^ y.toNat) := by
  rintro A s vs a ha C ⟨v, u, rfl, rv, ru⟩ Q E q
  refine enter (k := 0) G m_lshift (n_lshift ▸ ha) (binds := [("a", v), ("b", u)]) C (fun _ _ _ => by rfl) (fun L z hz => ?_) (fun L n c h => by cases h) rfl rfl rfl fun L a cd s₁ F k new C' => ?_
  · simp only [List.mem_cons, List.not_mem_nil, or_false] at hz
    rcases hz with rfl | rfl <;> exact .inl rfl
  have va : Var hb (envD (D 10) L a cd) "a" tInt x s₁ := ⟨_, _, F, v, F.okF (Ty.at_ext rv k.ext), .inl ⟨by rfl, by rfl⟩⟩
  have vb : Var hb (envD (D 10) L a cd) "b" tInt y s₁ := ⟨_, _, F, u, F.okF (Ty.at_ext ru k.ext), .inl ⟨by rfl, by rfl⟩⟩
  refine wpAny_execs_cons (sReturn (pBin va.pv vb.pv (U := tInt) (z := x * 2 ^ y.toNat) ?_) fun v' s' k' r => ⟨k'.stp, fun kk => q v' s' kk r⟩)
  rintro s' v u Q E _ ⟨t, rfl⟩ ⟨t', rfl⟩ q
  exact lshift_int_small h0 h1 hx (q _ _ Kp.tk ⟨_, rfl⟩)

def b1es (P : Params) : List (Int × Value) := match (a22 P).data with | .set es _ _ => es.toList | _ => []
def b1Is (P : Params) (c : Int) : Bool := (b1es P).any fun e => Value.isInt c e.2
theorem b1_set_ok (prog : Program) (w : World) (P : Params) : (a22 P).SetObjOf (intKind prog w) (b1Is P) 27 := by
  refine ⟨⟨rfl, rfl, rfl⟩, _, _, _, rfl, ?_, fun k => ?_, rfl, rfl⟩
  · have e : (b1es P).all (fun e => match e.2 with | .int k _ => e.1 == hashInt k | _ => false) = true := by kernel_rfl
    intro x hx
    have := List.all_eq_true.mp e x hx
    obtain ⟨i, v⟩ := x
    cases v <;> try (cases this; done)
    rename_i k t
    exact ⟨⟨k, by simp [intKind, Value.isInt], beq_iff_eq.mp this⟩, rfl⟩
  · exact List.any_eq_true

theorem f_b1 (G : Gnd w hb mg mb) (c : Nat) : Fn hb w mg 1 "in_table_b1" (A1 tStr ⟨#[c]⟩) tBool (b1Is w.params c) := by
  rintro A s vs a ha C ⟨v, rfl, rv⟩ Q E q
  refine enter (k := 0) G m_b1 (n_b1 ▸ ha) (binds := [("code", v)]) C (fun _ _ _ => by rfl) (fun L z hz => ?_) (fun L n c h => by cases h) rfl rfl rfl fun L a cd s₁ F k new C' => ?_
  · simp only [List.mem_cons, List.not_mem_nil, or_false] at hz
    rcases hz with rfl <;> exact .inl rfl
  have va : Var hb (envD (D 2) L a cd) "code" tStr ⟨#[c]⟩ s₁ := ⟨_, _, F, v, F.okF (Ty.at_ext rv k.ext), .inl ⟨by rfl, by rfl⟩⟩
  have hord : Pv hb (model p w) (A.deeper (envD (D 2) L a cd)) (envD (D 2) L a cd) s₁ (.Call (.Name "ord" ⟨4, 11, 4, 14⟩) [.Name "code" ⟨4, 15, 4, 19⟩] [] ⟨4, 11, 4, 20⟩) tInt (c : Int) := by
    refine pB1 G (envG rfl) C'.st (G.none (by kernel_rfl)) (G.bu (by decide) boot_ord) rfl va.pv ?_
    rintro s' v Q E _ ⟨t, rfl⟩ q
    exact P.ord_of_char (q _ _ Kp.tk ⟨_, rfl⟩)
  refine wpAny_execs_cons (sReturn (T := tBool) (x := b1Is w.params c) ?_ fun v' s' k' r => ⟨k'.stp, fun kk => q v' s' kk r⟩)
  refine ⟨fun s' kp Q E q => ?_⟩
  refine wpAny_Compare1 (hord.run s' kp _ _ fun v s₂ k₂ r => ?_)
  obtain ⟨t, rfl⟩ := r
  have st := k₂.ext.base (kp.ext.base C'.st)
  refine ld_global G st (envG (d := D 2) (a := a) (cd := cd) (L := L) rfl).kind rfl (v := .ref 22) rfl (G.mgo (by kernel_rfl)) (by decide) ?_
  refine wpAny_inSet_of (knd := intKind p w) (k := (c : Int)) (by simp [intKind, Value.isInt]) rfl ((b1_set_ok p w w.params).setOf (st 22 _ (G.K 22 _ (by rfl))) (by decide)) ?_
  exact q _ _ (k₂.trans Kp.tk) rfl
end
end
end Mine
end

section
open PySem PySem.W PyProof.Rows PySem.Calls
set_option maxRecDepth 100000
set_option maxHeartbeats 400000
namespace Mine
noncomputable section
/-- what the dict of table B.3 says -/
def b3At (c : Int) : Option Value := findBy Value.isInt b3M.toArray c
theorem b3_map (prog : Program) (w : World) {h : Heap} (e : h.get? 33 = some (dO b3M)) : h.MapOf (intKind prog w) 33 b3At := by
  refine ⟨_, _, _, e, ⟨rfl, rfl, rfl⟩, rfl, ?_, fun k => rfl⟩
  have e : b3M.all (fun e => match e.key with | .int k _ => e.hash == hashInt k | _ => false) = true := by kernel_rfl
  intro x hx
  have := List.all_eq_true.mp e x (by simpa using hx)
  obtain ⟨i, v, u⟩ := x
  cases v <;> try (cases this; done)
  rename_i k t
  exact ⟨k, by simp [intKind, Value.isInt], beq_iff_eq.mp this⟩

def ofPair (e : DictEntry) (q : Int × Str) : Prop := ∃ t t', e.key = .int q.1 t ∧ e.val = .str q.2 t'
theorem entL_of : ∀ (ps : List (Int × Str)) (t : Nat), (∀ e ∈ entL t ps, ∃ q ∈ ps, ofPair e q) ∧ (∀ q ∈ ps, ∃ e ∈ entL t ps, ofPair e q)
  | [], _ => ⟨fun _ h => (nomatch h), fun _ h => (nomatch h)⟩
  | (k, v) :: r, t => by
    have ih := entL_of r (t + 3)
    refine ⟨fun e h => ?_, fun q h => ?_⟩
    · rcases List.mem_cons.mp h with rfl | h
      · exact ⟨(k, v), List.mem_cons_self, _, _, rfl, rfl⟩
      · obtain ⟨q, hq, o⟩ := ih.1 e h
        exact ⟨q, List.mem_cons_of_mem _ hq, o⟩
    · rcases List.mem_cons.mp h with rfl | h
      · exact ⟨_, List.mem_cons_self, _, _, rfl, rfl⟩
      · obtain ⟨e, he, o⟩ := ih.2 q h
        exact ⟨e, List.mem_cons_of_mem _ he, o⟩
theorem entS_of : ∀ (ps : List (Int × Str)) (t : Nat), (∀ e ∈ entS t ps, ∃ q ∈ ps, ofPair e q) ∧ (∀ q ∈ ps, ∃ e ∈ entS t ps, ofPair e q)
  | [], _ => ⟨fun _ h => (nomatch h), fun _ h => (nomatch h)⟩
  | (k, v) :: r, t => by
    have ih := entS_of r (t + 2)
    refine ⟨fun e h => ?_, fun q h => ?_⟩
    · rcases List.mem_cons.mp h with rfl | h
      · exact ⟨(k, v), List.mem_cons_self, _, _, rfl, rfl⟩
      · obtain ⟨q, hq, o⟩ := ih.1 e h
        exact ⟨q, List.mem_cons_of_mem _ hq, o⟩
    · rcases List.mem_cons.mp h with rfl | h
      · exact ⟨_, List.mem_cons_self, _, _, rfl, rfl⟩
      · obtain ⟨e, he, o⟩ := ih.2 q h
        exact ⟨e, List.mem_cons_of_mem _ he, o⟩
theorem b3M_of : (∀ e ∈ b3M, ∃ q ∈ b3ps, ofPair e q) ∧ (∀ q ∈ b3ps, ∃ e ∈ b3M, ofPair e q) := by
  have hs := b3_split
  have a := entL_of (b3c0 ++ b3cs.flatten) 256
  have b := entS_of b3r (256 + 51 + 51 * b3cs.length)
  refine ⟨fun e h => ?_, fun q h => ?_⟩
  · rw [← hs, ← List.append_assoc]
    unfold b3M at h
    rcases List.mem_append.mp h with h | h
    · obtain ⟨q, hq, o⟩ := a.1 e h
      exact ⟨q, List.mem_append_left _ hq, o⟩
    · obtain ⟨q, hq, o⟩ := b.1 e h
      exact ⟨q, List.mem_append_right _ hq, o⟩
  · rw [← hs, ← List.append_assoc] at h
    unfold b3M
    rcases List.mem_append.mp h with h | h
    · obtain ⟨e, he, o⟩ := a.2 q h
      exact ⟨e, List.mem_append_left _ he, o⟩
    · obtain ⟨e, he, o⟩ := b.2 q h
      exact ⟨e, List.mem_append_right _ he, o⟩
theorem one_value : ∀ {ps : List (Int × Str)}, (keyHs ps).Nodup → ∀ {k : Int} {v v' : Str}, (k, v) ∈ ps → (k, v') ∈ ps → v = v'
  | q :: r, hn, k, v, v', h, h' => by
    have hn' : hashInt q.1 ∉ keyHs r ∧ (keyHs r).Nodup := List.nodup_cons.mp hn
    have no : ∀ {u : Str}, (q.1, u) ∉ r := fun {u} hu => hn'.1 (List.mem_map.mpr ⟨_, hu, rfl⟩)
    rcases List.mem_cons.mp h with e | hm <;> rcases List.mem_cons.mp h' with e' | hm'
    · rw [← e'] at e; exact (Prod.mk.inj e).2
    · subst e; exact absurd hm' no
    · subst e'; exact absurd hm no
    · exact one_value hn'.2 hm hm'
theorem b3_nodup : (keyHs b3ps).Nodup := rising_nodup b3_rising
theorem b3_some {c : Int} {v : Str} (h : (c, v) ∈ b3ps) : ∃ t, b3At c = some (.str v t) := by
  obtain ⟨e, he, t, t', hk, hv⟩ := b3M_of.2 _ h
  unfold b3At findBy
  rw [List.find?_toArray]
  cases hf : b3M.find? (fun e => Value.isInt c e.key) with
  | none =>
    have := List.find?_eq_none.mp hf e he
    rw [hk] at this
    exact absurd (by simp [Value.isInt]) this
  | some e' =>
    obtain ⟨⟨k, u⟩, hq, t1, t2, hk', hv'⟩ := b3M_of.1 e' (List.mem_of_find?_eq_some hf)
    have := List.find?_some hf
    simp only [hk', Value.isInt] at this
    have hkc : k = c := by simpa using this
    subst hkc
    have := one_value b3_nodup h hq
    subst this
    exact ⟨t2, by rw [Option.map_some, hv']⟩
theorem b3_none {c : Int} (h : ∀ q ∈ b3ps, q.1 ≠ c) : b3At c = none := by
  unfold b3At findBy
  rw [List.find?_toArray]
  cases hf : b3M.find? (fun e => Value.isInt c e.key) with
  | none => rfl
  | some e' =>
    obtain ⟨⟨k, u⟩, hq, t1, t2, hk', hv'⟩ := b3M_of.1 e' (List.mem_of_find?_eq_some hf)
    have := List.find?_some hf
    simp only [hk', Value.isInt] at this
    exact absurd (by simpa using this) (h _ hq)
theorem b3_low {c : Int} (h : c ≤ 180) : b3At c = none := by
  have e : b3ps.all (fun q => decide (180 < q.1)) = true := by kernel_rfl
  refine b3_none fun q hq => ?_
  have := List.all_eq_true.mp e q hq
  have := of_decide_eq_true this
  omega
def alph : List Nat := [97, 65, 119808, 119860, 119912, 120016, 120172, 120224, 120276, 120328, 120380, 120432]
def alphAt : List Nat := [202, 228, 254, 298, 364, 390, 416, 442, 468, 494]
theorem b3_math (j : Nat) (hj : j < 10) (i : Nat) (hi : i < 26) : ∃ t, b3At (((alph.getD (j + 2) 0) + i : Nat) : Int) = some (.str ⟨#[97 + i]⟩ t) := by
  have e : ((List.range 10).all fun j => ((b3ps.drop (alphAt.getD j 0)).take 26) == (List.range 26).map fun i => ((((alph.getD (j + 2) 0) + i : Nat) : Int), (⟨#[97 + i]⟩ : Str))) = true := by kernel_rfl
  have := beq_iff_eq.mp (List.all_eq_true.mp e j (List.mem_range.mpr hj))
  have m : ((((alph.getD (j + 2) 0) + i : Nat) : Int), (⟨#[97 + i]⟩ : Str)) ∈ (b3ps.drop (alphAt.getD j 0)).take 26 := by
    rw [this]; exact List.mem_map.mpr ⟨i, List.mem_range.mpr hi, rfl⟩
  exact b3_some (List.mem_of_mem_drop (List.mem_of_mem_take m))
end
end Mine
end

section
open PySem PySem.W PyProof.Rows PySem.Calls
set_option maxRecDepth 100000
set_option maxHeartbeats 400000
namespace Mine
noncomputable section
section
variable {w : World} {hb : Heap} {mg mb : Str → Option Value} {A : Around} {s : Shared} {k : Nat} {env : Env}

def Done {α : Type} (hb : Heap) (env : Env) (s₁ : Shared) (S : Ty α) (y : α) : Flow → Shared → Prop := fun f s' => Stp hb env s₁ s' ∧ ∃ v, f = .ret v ∧ S.at s'.heap v y

theorem fn1 {α β : Type} {T : Ty α} {x : α} {S : Ty β} {y : β} (G : Gnd w hb mg mb) {d : DefRec} {f px : Str} (hd : d ∈ recsOf qv) (hn : d.name = f)
    (hbind : ∀ v pm code doc, bindArgs (docDef d.name d.params d.body d.scope pm code doc) ⟨[v], []⟩ = pure [(px, v)]) (hx : d.scope.names.lookup px = some .local)
    (hcells : ∀ L n c, (n, c) ∈ cellsFrom L d.scope.names [] → (cellsFrom L d.scope.names []).lookup n = some c)
    (hco : d.scope.isCoroutine = false) (hgen : d.scope.isGenerator = false) (hk : d.scope.kind = .function)
    (body : ∀ A' L a cd s₁, Cx hb k A' s₁.heap → FrmOk hb (envD d L a cd) s₁ → Var hb (envD d L a cd) px T x s₁ → ∀ E, wpAny (model p w) A' (execs d.body (envD d L a cd)) (Done hb (envD d L a cd) s₁ S y) E s₁) :
    Fn hb w mg (k + 1) f (A1 T x) S y := by
  rintro A s vs a ha C ⟨v, rfl, rv⟩ Q E q
  subst hn
  refine enter (k := k) G hd ha (binds := [(px, v)]) C (hbind v) (fun L z hz => ?_) hcells hco hgen hk fun L a cd s₁ F kp new C' => ?_
  · simp only [List.mem_cons, List.not_mem_nil, or_false] at hz
    subst hz
    exact .inl hx
  have hx' : (envD d L a cd).kindOf px = some .local := hx
  have va : Var hb (envD d L a cd) px T x s₁ := ⟨_, _, F, v, F.okF (Ty.at_ext rv kp.ext), .inl ⟨hx', by simp [bindL, hx']⟩⟩
  refine wpAny_mono (body _ L a cd s₁ C' ⟨_, _, F⟩ va _) (fun f s' hq => ⟨hq.1, fun kk => ?_⟩) fun _ _ e => e
  obtain ⟨_, v', rfl, r⟩ := hq
  exact q v' s' kk r

theorem fn2 {α β γ : Type} {T : Ty α} {x : α} {S : Ty β} {y : β} {U : Ty γ} {z : γ} (G : Gnd w hb mg mb) {d : DefRec} {f px pz : Str} (hd : d ∈ recsOf qv) (hn : d.name = f)
    (hbind : ∀ v u pm code doc, bindArgs (docDef d.name d.params d.body d.scope pm code doc) ⟨[v, u], []⟩ = pure [(px, v), (pz, u)]) (hx : d.scope.names.lookup px = some .local) (hz : d.scope.names.lookup pz = some .local) (hxz : ¬ px = pz)
    (hcells : ∀ L n c, (n, c) ∈ cellsFrom L d.scope.names [] → (cellsFrom L d.scope.names []).lookup n = some c)
    (hco : d.scope.isCoroutine = false) (hgen : d.scope.isGenerator = false) (hk : d.scope.kind = .function)
    (body : ∀ A' L a cd s₁, Cx hb k A' s₁.heap → FrmOk hb (envD d L a cd) s₁ → Var hb (envD d L a cd) px T x s₁ → Var hb (envD d L a cd) pz U z s₁ → ∀ E, wpAny (model p w) A' (execs d.body (envD d L a cd)) (Done hb (envD d L a cd) s₁ S y) E s₁) :
    Fn hb w mg (k + 1) f (A2 T x U z) S y := by
  rintro A s vs a ha C ⟨v, u, rfl, rv, ru⟩ Q E q
  subst hn
  refine enter (k := k) G hd ha (binds := [(px, v), (pz, u)]) C (hbind v u) (fun L z hz' => ?_) hcells hco hgen hk fun L a cd s₁ F kp new C' => ?_
  · simp only [List.mem_cons, List.not_mem_nil, or_false] at hz'
    rcases hz' with rfl | rfl
    · exact .inl hx
    · exact .inl hz
  have hx' : (envD d L a cd).kindOf px = some .local := hx
  have hz' : (envD d L a cd).kindOf pz = some .local := hz
  have va : Var hb (envD d L a cd) px T x s₁ := ⟨_, _, F, v, F.okF (Ty.at_ext rv kp.ext), .inl ⟨hx', by simp [bindL, hx', hz', hxz]⟩⟩
  have vb : Var hb (envD d L a cd) pz U z s₁ := ⟨_, _, F, u, F.okF (Ty.at_ext ru kp.ext), .inl ⟨hz', by simp [bindL, hx', hz']⟩⟩
  refine wpAny_mono (body _ L a cd s₁ C' ⟨_, _, F⟩ va vb _) (fun f s' hq => ⟨hq.1, fun kk => ?_⟩) fun _ _ e => e
  obtain ⟨_, v', rfl, r⟩ := hq
  exact q v' s' kk r

/-- the body's end -/
theorem sRet {α : Type} {S : Ty α} {y : α} {e : PySem.Expr} {pos : Pos} {rest : List Stmt} {s₁ : Shared} {E : Value → Shared → Prop} (hs : Stp hb env s₁ s) (h : Pv hb (model p w) A env s e S y) :
    wpAny (model p w) A (execs (.Return (some e) pos :: rest) env) (Done hb env s₁ S y) E s :=
  wpAny_execs_cons (sReturn h fun v' _ k' r => ⟨hs.trans k'.stp, v', rfl, r⟩)

theorem pIfExp {α : Type} {S : Ty α} {y : α} {t e e' : PySem.Expr} {pos : Pos} {b : Bool} {M : Model} (h : Pt hb M A env s t b) (h1 : b = true → Pv hb M A env s e S y) (h2 : b = false → Pv hb M A env s e' S y) :
    Pv hb M A env s (.IfExp t e e' pos) S y := by
  refine ⟨fun s' k Q E q => ?_⟩
  refine wpAny_IfExp (h.run s' k _ _ fun s'' k' => ?_)
  cases b with
  | true => rw [if_pos rfl]; exact (h1 rfl).run s'' (k.trans k') Q E fun v s₃ k₃ r => q v s₃ (k'.trans k₃) r
  | false => rw [if_neg (by decide)]; exact (h2 rfl).run s'' (k.trans k') Q E fun v s₃ k₃ r => q v s₃ (k'.trans k₃) r

theorem pAdd {x y : Int} {l r : PySem.Expr} {pos : Pos} (hl : Pv hb (model p w) A env s l tInt x) (hr : Pv hb (model p w) A env s r tInt y) : Pv hb (model p w) A env s (.BinOp l .Add r pos) tInt (x + y) :=
  pBin hl hr fun s' _ _ Q E _ ⟨_, h1⟩ ⟨_, h2⟩ q => by subst h1; subst h2; exact add_int (q _ _ Kp.tk ⟨_, rfl⟩)
theorem pMod {x y : Int} {l r : PySem.Expr} {pos : Pos} (hy : y ≠ 0) (hl : Pv hb (model p w) A env s l tInt x) (hr : Pv hb (model p w) A env s r tInt y) : Pv hb (model p w) A env s (.BinOp l .Mod r pos) tInt (x.fmod y) :=
  pBin hl hr fun s' _ _ Q E _ ⟨_, h1⟩ ⟨_, h2⟩ q => by subst h1; subst h2; exact mod_int' hy (q _ _ Kp.tk ⟨_, rfl⟩)
theorem ptLt {x y : Int} {l r : PySem.Expr} {pos : Pos} (hl : Pv hb (model p w) A env s l tInt x) (hr : Pv hb (model p w) A env s r tInt y) (hm : behindInMarks .Lt r = false := by with_unfolding_all rfl) : Pt hb (model p w) A env s (.Compare l [.Lt] [r] pos) (decide (x < y)) :=
  ptCmp hl hr (fun s' _ _ Q E _ ⟨_, h1⟩ ⟨_, h2⟩ q => by subst h1; subst h2; exact lt_int (q _ Kp.rfl)) hm

theorem call_chr {i : Int} {t : Tok} {Q : Value → Shared → Prop} {E : Value → Shared → Prop} (h0 : 0 ≤ i) (h1 : i ≤ 1114111) (q : ∀ v' s'', Kp hb s s'' → tStr.at s''.heap v' ⟨#[i.toNat]⟩ → Q v' s'') : wpAny (model p w) A (call (.builtin "chr") [.int i t]) Q E s :=
  chr_of_range h0 h1 (q _ _ Kp.tk ⟨_, rfl⟩)
end

theorem m_gone : D 14 ∈ recsOf qv := List.mem_of_getElem? (i := 7) (by kernel_rfl)
theorem n_gone : (D 14).name = "_law_gone" := by kernel_rfl
theorem m_spelled : D 15 ∈ recsOf qv := List.mem_of_getElem? (i := 8) (by kernel_rfl)
theorem n_spelled : (D 15).name = "_law_spelled" := by kernel_rfl

def goneSigns : List Nat := [173, 847, 6150, 6155, 6156, 6157, 8203, 8204, 8205, 8288, 65279]
def goneAt (turn : Int) : Nat := if turn.fmod 27 < 11 then goneSigns.getD (turn.fmod 27).toNat 0 else (65013 + turn.fmod 27).toNat
section
variable {w : World} {hb : Heap} {mg mb : Str → Option Value} {A : Around} {s : Shared} {k : Nat} {env : Env}
theorem f_gone (G : Gnd w hb mg mb) (turn : Int) : Fn hb w mg 2 "_law_gone" (A1 tInt turn) tStr ⟨#[goneAt turn]⟩ := by
  have h0 : 0 ≤ turn.fmod 27 := Int.fmod_nonneg_of_pos _ (by decide)
  have h27 : turn.fmod 27 < 27 := Int.fmod_lt_of_pos _ (by decide)
  refine fn1 (px := "turn") G m_gone n_gone (fun _ _ _ _ => by rfl) rfl (fun L n c h => by cases h) rfl rfl rfl fun A' L a cd s₁ C F va E => ?_
  refine wpAny_execs_cons (sAssign (n := "place") F (pMod (by decide) va.pv pInt) (.inl rfl) fun s₂ u₂ vp => ?_)
  refine sRet u₂.stp (pIfExp (b := decide (turn.fmod 27 < 11)) (ptLt vp.pv pInt) (fun hb' => ?_) fun hb' => ?_)
  · have hb' := of_decide_eq_true hb'
    refine ⟨fun s' k Q E q => ?_⟩
    refine Subscript_ (pStr.run s' k _ _ fun v s₃ k₃ r => ?_)
    obtain ⟨t, rfl⟩ := r
    refine (vp.pv : Pv _ _ _ _ _ _ _ _).run s₃ (k.trans k₃) _ _ fun v s₄ k₄ r => ?_
    obtain ⟨u, rfl⟩ := r
    refine tail_any (typeIs_str _ _ _) slot_str_getitem.lookup (getItem_str (c := goneSigns.getD (turn.fmod 27).toNat 0) ?_ ?_ ?_) (by with_unfolding_all rfl)
    · simp only [Bool.or_eq_false_iff, decide_eq_false_iff_not]; omega
    · generalize turn.fmod 27 = i at *
      have : i = 0 ∨ i = 1 ∨ i = 2 ∨ i = 3 ∨ i = 4 ∨ i = 5 ∨ i = 6 ∨ i = 7 ∨ i = 8 ∨ i = 9 ∨ i = 10 := by omega
      rcases this with rfl | rfl | rfl | rfl | rfl | rfl | rfl | rfl | rfl | rfl | rfl <;> rfl
    · have e : goneAt turn = goneSigns.getD (turn.fmod 27).toNat 0 := if_pos hb'
      rw [e] at q
      exact q _ _ ((k₃.trans k₄).trans Kp.tk) ⟨_, rfl⟩
  · have hb' := of_decide_eq_false hb'
    have e : goneAt turn = (65013 + turn.fmod 27).toNat := if_neg hb'
    rw [e]
    refine pB1 G (envG rfl) (u₂.stp.ext.base C.st) (G.none (by kernel_rfl)) (G.bu (by decide) boot_chr) rfl (pAdd pInt vp.pv) ?_
    rintro s' v Q E _ ⟨t, rfl⟩ q
    exact call_chr (by omega) (by omega) q
end
end
end Mine
end

section
open PySem PySem.W PyProof.Rows PySem.Calls
set_option maxRecDepth 100000
set_option maxHeartbeats 200000
namespace Mine
noncomputable section
def tTup {α : Type} (T : Ty α) : Ty (List α) where
  R ok h v l := ∃ a xs, v = .ref a ∧ ok a ∧ h.IsTuple a (List.toArray xs) ∧ Paired (T.R ok h) xs l
  stab := by
    rintro ok h h' v x ⟨a, xs, e, o, l, f⟩ k
    exact ⟨a, xs, e, o, tup_at l fun o' e => k _ _ o e, paired_imp (fun _ _ r => T.stab r k) f⟩
  seq := by
    rintro ok h v x ⟨a, xs, e, o, l, f⟩
    refine ⟨a, xs, e, ⟨o, ?_⟩, l, paired_imp (fun _ _ r => T.seq r) f⟩
    obtain ⟨ob, e1, ec, n, e2⟩ := l
    exact ⟨ob, _, n, e1, e2, fun ⟨_, _, q⟩ => by rw [e2] at q; cases q⟩
  mono := by
    rintro ok ok' h v x ⟨a, xs, e, o, l, f⟩ k
    exact ⟨a, xs, e, k _ o, l, paired_imp (fun _ _ r => T.mono r k) f⟩

theorem paired_get {α β : Type} {F : α → β → Prop} : ∀ {xs : List α} {l : List β}, Paired F xs l → ∀ {i : Nat} {x : β}, l[i]? = some x → ∃ v, xs[i]? = some v ∧ F v x
  | _, _, .nil, i, x, h => by simp at h
  | _, _, .cons a b, 0, x, h => by simp at h; subst h; exact ⟨_, rfl, a⟩
  | _, _, .cons a b, i + 1, x, h => by simpa using paired_get b (i := i) (by simpa using h)
theorem paired_take {α β : Type} {F : α → β → Prop} : ∀ {xs : List α} {l : List β}, Paired F xs l → ∀ n, Paired F (xs.take n) (l.take n)
  | _, _, .nil, n => by simpa using Paired.nil
  | _, _, .cons a b, 0 => .nil
  | _, _, .cons a b, n + 1 => .cons a (paired_take b n)
theorem paired_drop {α β : Type} {F : α → β → Prop} : ∀ {xs : List α} {l : List β}, Paired F xs l → ∀ n, Paired F (xs.drop n) (l.drop n)
  | _, _, .nil, n => by simpa using Paired.nil
  | _, _, .cons a b, 0 => .cons a b
  | _, _, .cons a b, n + 1 => paired_drop b n
theorem paired_append {α β : Type} {F : α → β → Prop} : ∀ {xs : List α} {l : List β}, Paired F xs l → ∀ {ys l'}, Paired F ys l' → Paired F (xs ++ ys) (l ++ l')
  | _, _, .nil, _, _, h => h
  | _, _, .cons a b, _, _, h => .cons a (paired_append b h)

section
variable {w : World} {hb : Heap} {mg mb : Str → Option Value} {A : Around} {s : Shared} {k : Nat} {env : Env} {p' : Program}

theorem paired_ext {α : Type} {T : Ty α} {h h' : Heap} {xs : List Value} {l : List α} (p : Paired (T.R (fun _ => True) h) xs l) (e : Ext hb h h') : Paired (T.R (fun _ => True) h') xs l :=
  paired_imp (fun _ _ r => Ty.at_ext r e) p

/-- the elements of a display, one by one -/
inductive Els {α : Type} (hb : Heap) (w : World) (A : Around) (env : Env) (s : Shared) (T : Ty α) : List PySem.Expr → List α → Prop
  | nil : Els hb w A env s T [] []
  | cons {e es x xs} : Pv hb (model p w) A env s e T x → (∀ rest, starEach (e :: rest) env = (false, eval e env) :: starEach rest env) → Els hb w A env s T es xs → Els hb w A env s T (e :: es) (x :: xs)

theorem spl {α : Type} {T : Ty α} {pos : Pos} {es : List PySem.Expr} {xs : List α} (H : Els hb w A env s T es xs) : ∀ s', Kp hb s s' → ∀ (Q : List Value → Shared → Prop) (E : Value → Shared → Prop),
    (∀ vs s'', Kp hb s' s'' → Paired (T.R (fun _ => True) s''.heap) vs xs → Q vs s'') → wpAny (model p w) A (spliced (backTo pos (starEach es env))) Q E s' := by
  induction H with
  | nil => exact fun s' _ Q E q => args_nil (q [] s' Kp.rfl .nil)
  | cons h hs _ ih =>
    intro s' kp Q E q
    refine args_cons (h.run s' kp _ _ fun v s₁ k₁ r => ?_) (hs _)
    refine ih s₁ (kp.trans k₁) _ _ fun vs s₂ k₂ rs => ?_
    exact q (v :: vs) s₂ (k₁.trans k₂) (.cons (Ty.at_ext r k₂.ext) rs)

theorem paired_len {α β : Type} {F : α → β → Prop} {xs : List α} {l : List β} (h : Paired F xs l) : xs.length = l.length := Paired.length h

theorem pList {α : Type} {T : Ty α} {pos : Pos} {es : List PySem.Expr} {xs : List α} (H : Els hb w A env s T es xs) (hsz : xs.length ≤ sizeLine) : Pv hb (model p w) A env s (.List es pos) (tList T) xs := by
  refine ⟨fun s' kp Q E q => ?_⟩
  refine wpAny_List_spliced (spl H s' kp _ _ fun vs s₁ k₁ r => ⟨by rw [paired_len r]; exact hsz, ?_⟩)
  have up : ∀ b o, s₁.heap.get? b = some o → (s₁.heap.push { cls := .type "list", data := .seq vs.toArray }).get? b = some o := fun b o e => Heap.get?_push_of_some _ e
  exact q _ _ (k₁.trans (Kp.mkH up)) ⟨_, vs, rfl, trivial, ⟨_, Heap.get?_push_size _ rfl⟩, paired_ext (hb := hb) r (.of up)⟩
theorem pTup {α : Type} {T : Ty α} {pos : Pos} {x1 : Nat} {es : List PySem.Expr} {xs : List α} (H : Els hb w A env s T es xs) (hsz : xs.length ≤ sizeLine) : Pv hb (model p w) A env s (.Tuple es x1 pos) (tTup T) xs := by
  refine ⟨fun s' kp Q E q => ?_⟩
  refine wpAny_Tuple_spliced (spl H s' kp _ _ fun vs s₁ k₁ r => ⟨by rw [paired_len r]; exact hsz, ?_⟩)
  have up : ∀ b o, s₁.heap.get? b = some o → (s₁.heap.push { cls := .type "tuple", data := .seq vs.toArray }).get? b = some o := fun b o e => Heap.get?_push_of_some _ e
  exact q _ _ (k₁.trans (Kp.mkH up)) ⟨_, vs, rfl, trivial, ⟨_, Heap.get?_push_size _ rfl, rfl, _, rfl⟩, paired_ext (hb := hb) r (.of up)⟩

theorem pItemTup {α : Type} {T : Ty α} {pos : Pos} {e i : PySem.Expr} {xs : List α} {x : α} {n : Int} (h : Pv hb (model p w) A env s e (tTup T) xs) (hi : Pv hb (model p w) A env s i tInt n) (h0 : 0 ≤ n) (hx : xs[n.toNat]? = some x) (hfit : n < 2 ^ 63)
    (hs : ∀ a u, subscripted i false (.ref a) (.int n u) = operate [.ref a, .int n u] (getItem (.ref a) (.int n u)) := by intro _ _; with_unfolding_all rfl) :
    Pv hb (model p w) A env s (.Subscript e i pos) T x := by
  refine ⟨fun s' kp Q E q => ?_⟩
  refine Subscript_ (h.run s' kp _ _ fun v s₁ k₁ r => ?_)
  refine hi.run s₁ (kp.trans k₁) _ _ fun u s₂ k₂ r' => ?_
  obtain ⟨t, rfl⟩ := r'
  obtain ⟨a, ys, rfl, _, l, f⟩ := Ty.at_ext r k₂.ext
  obtain ⟨y, hy, ry⟩ := paired_get f hx
  have hl : n.toNat < ys.length := by
    rw [paired_len f]
    exact (List.getElem?_eq_some_iff.mp hx).1
  have tT : s₂.TypeIs (.ref a) "tuple" := let ⟨o, e1, e2, _⟩ := l; ⟨o, e1, e2⟩
  refine tail_any tT slot_tuple_getitem.lookup (getItem_tuple (j := n.toNat) (x := y) l (by omega) hfit ?_ (by simpa using hy) (q y s₂ (k₁.trans k₂) ry)) (hs a t)
  obtain ⟨m, rfl⟩ := Int.eq_ofNat_of_zero_le h0
  simp only [seqIndex?, List.size_toArray, Int.toNat_natCast] at hl ⊢
  have hm : ¬ ((m : Int) < 0) := by omega
  simp only [if_neg hm]
  rw [if_pos (by simp; omega)]
  simp

theorem pItemList {α : Type} {T : Ty α} {pos : Pos} {e i : PySem.Expr} {xs : List α} {x : α} {n : Int} (h : Pv hb (model p w) A env s e (tList T) xs) (hi : Pv hb (model p w) A env s i tInt n) (h0 : 0 ≤ n) (hx : xs[n.toNat]? = some x) (hfit : n < 2 ^ 63)
    (hs : ∀ a u, subscripted i false (.ref a) (.int n u) = operate [.ref a, .int n u] (getItem (.ref a) (.int n u)) := by intro _ _; with_unfolding_all rfl) :
    Pv hb (model p w) A env s (.Subscript e i pos) T x := by
  refine ⟨fun s' kp Q E q => ?_⟩
  refine Subscript_ (h.run s' kp _ _ fun v s₁ k₁ r => ?_)
  refine hi.run s₁ (kp.trans k₁) _ _ fun u s₂ k₂ r' => ?_
  obtain ⟨t, rfl⟩ := r'
  obtain ⟨a, ys, rfl, _, l, f⟩ := Ty.at_ext r k₂.ext
  obtain ⟨y, hy, ry⟩ := paired_get f hx
  exact tail_any l.isList.typeIs slot_list_getitem.lookup (wpAny_getItem_list (x := y) l.isList h0 hfit (by simpa using hy) (q y s₂ (k₁.trans k₂) ry)) (hs a t)

theorem pItemListNeg {α : Type} {T : Ty α} {pos : Pos} {e i : PySem.Expr} {xs : List α} {x : α} {n : Int} (h : Pv hb (model p w) A env s e (tList T) xs) (hi : Pv hb (model p w) A env s i tInt n) (h0 : n < 0) (h1 : -(xs.length : Int) ≤ n) (hx : xs[(n + xs.length).toNat]? = some x) (hfit : -(2 ^ 63) ≤ n)
    (hs : ∀ a u, subscripted i false (.ref a) (.int n u) = operate [.ref a, .int n u] (getItem (.ref a) (.int n u)) := by intro _ _; with_unfolding_all rfl) :
    Pv hb (model p w) A env s (.Subscript e i pos) T x := by
  refine ⟨fun s' kp Q E q => ?_⟩
  refine Subscript_ (h.run s' kp _ _ fun v s₁ k₁ r => ?_)
  refine hi.run s₁ (kp.trans k₁) _ _ fun u s₂ k₂ r' => ?_
  obtain ⟨t, rfl⟩ := r'
  obtain ⟨a, ys, rfl, _, l, f⟩ := Ty.at_ext r k₂.ext
  obtain ⟨y, hy, ry⟩ := paired_get f hx
  have hl := paired_len f
  exact tail_any l.isList.typeIs slot_list_getitem.lookup (wpAny_getItem_list_neg (x := y) l.isList h0 (by simpa [hl] using h1) hfit (by simpa [hl] using hy) (q y s₂ (k₁.trans k₂) ry)) (hs a t)

theorem pSliceList {α : Type} {T : Ty α} {p pos : Pos} {e : PySem.Expr} {lo hi : Option PySem.Expr} {a b : Option Int} {xs ys : List α} (h : Pv hb (model p' w) A env s e (tList T) xs)
    (hlo : match lo, a with | .none, .none => True | some l, some a => Pv hb (model p' w) A env s l tInt a | _, _ => False) (hhi : match hi, b with | .none, .none => True | some l, some a => Pv hb (model p' w) A env s l tInt a | _, _ => False)
    (hsz : xs.length ≤ sizeLine) (hp : ∀ (vs : List Value) (F : Value → α → Prop), Paired F vs xs → Paired F (slicePick vs.toArray a b .none).toList ys)
    (ht : ∀ o r, letTemporaryGo e o r = pure () := by intro _ _; rfl) :
    Pv hb (model p' w) A env s (.Subscript e (.Slice lo hi .none p) pos) (tList T) ys := by
  refine ⟨fun s' kp Q E q => ?_⟩
  refine wpAny_Subscript_list_slice (h.run s' kp _ _ fun v s₁ k₁ r => ?_) ht
  have part : ∀ (o : Option PySem.Expr) (c : Option Int) (s₁ : Shared), Kp hb s s₁ → (match o, c with | .none, .none => True | some l, some a => Pv hb (model p' w) A env s l tInt a | _, _ => False) →
      ∀ (Q : Value → Shared → Prop), (∀ v s'', Kp hb s₁ s'' → IsPart v c → Q v s'') → wpAny (model p' w) A (evalPart o env) Q E s₁ := by
    intro o c s₁ k₁ hh Q q
    cases o with
    | none =>
      cases c with
      | none => exact wpAny_pure (q _ _ Kp.rfl .none)
      | some c => exact hh.elim
    | some o =>
      cases c with
      | none => exact hh.elim
      | some c =>
        rw [evalPart_some]
        refine hh.run s₁ k₁ _ _ fun v s₂ k₂ r => q v s₂ k₂ ?_
        obtain ⟨t, rfl⟩ := r
        exact .int _ _
  refine part lo a s₁ (kp.trans k₁) hlo _ fun vl s₂ k₂ pl => ?_
  refine part hi b s₂ ((kp.trans k₁).trans k₂) hhi _ fun vu s₃ k₃ pu => ?_
  obtain ⟨l, vs, rfl, _, il, f⟩ := Ty.at_ext (Ty.at_ext r k₂.ext) k₃.ext
  refine ⟨l, vs.toArray, a, b, rfl, il.isList, by rw [List.size_toArray, paired_len f]; exact hsz, pl, pu, ?_⟩
  have up : ∀ b' o, s₃.heap.get? b' = some o → ((s₃.heap.push { cls := .type "slice", data := .fields #[vl, vu, .none] }).push { cls := .type "list", data := .seq (slicePick vs.toArray a b .none) }).get? b' = some o := fun b o e => Heap.get?_push_of_some _ (Heap.get?_push_of_some _ e)
  refine q _ _ (((k₁.trans k₂).trans k₃).trans (Kp.mkH up)) ⟨_, (slicePick vs.toArray a b .none).toList, rfl, trivial, ?_, hp _ _ (paired_ext (hb := hb) f (.of up))⟩
  rw [Array.toArray_toList]
  rw [← Heap.size_push s₃.heap { cls := .type "slice", data := .fields #[vl, vu, .none] }]
  exact ⟨_, Heap.get?_push_size _ rfl⟩
end

section
variable {w : World} {hb : Heap} {mg mb : Str → Option Value} {A : Around} {s : Shared} {k : Nat} {env : Env}
def alphI : List Int := [97, 65, 119808, 119860, 119912, 120016, 120172, 120224, 120276, 120328, 120380, 120432]
theorem alphI_eq : alphI = alph.map Int.ofNat := by decide
def spelledAt (place turn : Int) : Nat := alph.getD (turn.fmod 12).toNat 0 + place.toNat
theorem sub_bin (l : PySem.Expr) (op : Operator) (r : PySem.Expr) (p : Pos) (o i : Value) : subscripted (.BinOp l op r p) false o i = operate [o, i] (getItem o i) := by rfl
theorem sub_name (n : Str) (p : Pos) (o i : Value) : subscripted (.Name n p) false o i = operate [o, i] (getItem o i) := by rfl
theorem sub_const (n : Int) (k : Nat) (p : Pos) (o i : Value) : subscripted (.Constant (.int n) k p) false o i = operate [o, i] (getItem o i) := by rfl
theorem els12 {k0 k1 k2 k3 k4 k5 k6 k7 k8 k9 k10 k11 : Nat} {p0 p1 p2 p3 p4 p5 p6 p7 p8 p9 p10 p11 : Pos} : Els hb w A env s tInt [.Constant (.int 97) k0 p0, .Constant (.int 65) k1 p1, .Constant (.int 119808) k2 p2, .Constant (.int 119860) k3 p3, .Constant (.int 119912) k4 p4, .Constant (.int 120016) k5 p5, .Constant (.int 120172) k6 p6, .Constant (.int 120224) k7 p7, .Constant (.int 120276) k8 p8, .Constant (.int 120328) k9 p9, .Constant (.int 120380) k10 p10, .Constant (.int 120432) k11 p11] alphI :=
  .cons pInt (fun _ => rfl) (.cons pInt (fun _ => rfl) (.cons pInt (fun _ => rfl) (.cons pInt (fun _ => rfl) (.cons pInt (fun _ => rfl) (.cons pInt (fun _ => rfl) (.cons pInt (fun _ => rfl) (.cons pInt (fun _ => rfl) (.cons pInt (fun _ => rfl) (.cons pInt (fun _ => rfl) (.cons pInt (fun _ => rfl) (.cons pInt (fun _ => rfl) .nil)))))))))))
theorem pMenu {k0 k1 k2 k3 k4 k5 k6 k7 k8 k9 k10 k11 x1 : Nat} {p0 p1 p2 p3 p4 p5 p6 p7 p8 p9 p10 p11 pt pm ps : Pos} {l r : PySem.Expr} {op : Operator} {n x : Int} (hi : Pv hb (model p w) A env s (.BinOp l op r pm) tInt n) (h0 : 0 ≤ n) (hx : alphI[n.toNat]? = some x) (hfit : n < 2 ^ 63) :
    Pv hb (model p w) A env s (.Subscript (.Tuple [.Constant (.int 97) k0 p0, .Constant (.int 65) k1 p1, .Constant (.int 119808) k2 p2, .Constant (.int 119860) k3 p3, .Constant (.int 119912) k4 p4, .Constant (.int 120016) k5 p5, .Constant (.int 120172) k6 p6, .Constant (.int 120224) k7 p7, .Constant (.int 120276) k8 p8, .Constant (.int 120328) k9 p9, .Constant (.int 120380) k10 p10, .Constant (.int 120432) k11 p11] x1 pt) (.BinOp l op r pm) ps) tInt x :=
  pItemTup (pTup els12 (show 12 ≤ sizeLine by decide)) hi h0 hx hfit (fun _ _ => sub_bin _ _ _ _ _ _)
theorem f_spelled (G : Gnd w hb mg mb) (place turn : Int) (h0 : 0 ≤ place) (h1 : place ≤ 25) : Fn hb w mg 2 "_law_spelled" (A2 tInt place tInt turn) tStr ⟨#[spelledAt place turn]⟩ := by
  have h00 : 0 ≤ turn.fmod 12 := Int.fmod_nonneg_of_pos _ (by decide)
  have h12 : turn.fmod 12 < 12 := Int.fmod_lt_of_pos _ (by decide)
  refine fn2 (px := "place") (pz := "turn") G m_spelled n_spelled (fun _ _ _ _ _ => by rfl) rfl rfl (by decide) (fun L n c h => by cases h) rfl rfl rfl fun A' L a cd s₁ C F va vt E => ?_
  obtain ⟨x, hx⟩ : ∃ x : Int, (alph.map Int.ofNat)[(turn.fmod 12).toNat]? = some x := by
    have : (turn.fmod 12).toNat < (alph.map Int.ofNat).length := by show _ < 12; omega
    exact ⟨_, List.getElem?_eq_getElem this⟩
  have hx2 : x = ((alph.getD (turn.fmod 12).toNat 0 : Nat) : Int) ∧ x ≤ 120432 := by
    rw [List.getElem?_map] at hx
    cases hy : alph[(turn.fmod 12).toNat]? with
    | none => rw [hy] at hx; cases hx
    | some y =>
      rw [hy] at hx
      have hx : (y : Int) = x := Option.some.inj hx
      have le : ∀ z ∈ alph, z ≤ 120432 := by decide
      have := le y (List.mem_of_getElem? hy)
      rw [List.getD_eq_getElem?_getD, hy]
      refine ⟨hx.symm, by omega⟩
  have hx' : alphI[(turn.fmod 12).toNat]? = some x := by rw [alphI_eq]; exact hx
  refine sRet Stp.rfl ?_
  refine pB1 (x := x + place) (T := tInt) G (envG rfl) C.st (G.none (by kernel_rfl)) (G.bu (by decide) boot_chr) rfl ?_ ?_
  · refine pAdd ?_ ?_
    · refine pMenu ?_ h00 hx' (by omega)
      refine pMod ?_ ?_ ?_
      · decide
      · exact vt.pv
      · exact pInt
    · exact va.pv
  · rintro s' v Q E _ ⟨t, rfl⟩ q
    have e : (x + place).toNat = spelledAt place turn := by unfold spelledAt; rw [hx2.1]; omega
    rw [← e] at q
    have : 0 ≤ x := by rw [hx2.1]; exact Int.natCast_nonneg _
    exact call_chr (by omega) (by omega) q
end
end
end Mine
end

section
open PySem PySem.W PyProof.Rows PySem.Calls
set_option maxRecDepth 100000
set_option maxHeartbeats 400000
namespace Mine
noncomputable section

section
variable {prog : Program} {w : World} {A : Around} {R : Result → Shared → Prop} {s : Shared}
theorem gCompLoop {elt target iter : PySem.Expr} {ifs : List PySem.Expr} {scope : Scope} {pos : Pos} {it acc : Value} {env : Env} (I : Nat → Shared → Prop)
    (turn : ∀ n s, I n s → wpAny (model prog w) A (pyNext it) (fun r s₁ => match r with
      | none => R (.ok .next) s₁
      | some v => wpAny (model prog w) A (letOwnedTupleGo target it v) (fun _ s₁' => wpAny (model prog w) A (assign target env v) (fun _ s₂ =>
          wpAny (model prog w) A (forIn ifs true fun c r => if r = true then do let ok ← isTrue c env (eval c env); pure (ForInStep.yield ok) else pure (ForInStep.yield r)) (fun ok s₃ =>
            if ok = true then wpAny (model prog w) A (eval elt env) (fun x s₄ =>
              wpAny (model prog w) A (call (.builtin "list.append") [acc, x]) (fun _ s₅ => ∃ m, m < n ∧ I m s₅) (notedBy (model prog w) A env fun e s' => R (.error e) s') s₄) (notedBy (model prog w) A env fun e s' => R (.error e) s') s₃
            else ∃ m, m < n ∧ I m s₃) (notedBy (model prog w) A env fun e s' => R (.error e) s') s₂) (notedBy (model prog w) A env fun e s' => R (.error e) s') s₁') (notedBy (model prog w) A env fun e s' => R (.error e) s') s₁) (notedBy (model prog w) A env fun e s' => R (.error e) s') s)
    (n : Nat) (h : I n s) :
    codeAny (model prog w) A (.compLoop (.ListComp elt [⟨target, iter, ifs, 0⟩] scope pos) 0 it acc env) R s := by
  refine codeAny_loop rfl I (fun n s hI => ?_) n h
  show wpAny _ A ((compTurn (.ListComp elt [⟨target, iter, ifs, 0⟩] scope pos) 0 it acc env).onRaise (fun x => do noteFrame x env; theTreesLotGoes x)) _ _ s
  refine wpAny_noted ?_
  rw [compTurn_list]
  refine wpAny_bind (wpAny_standAt (wpAny_bind (wpAny_mono (turn n s hI) (fun r s₁ h₁ => ?_) fun _ _ x => x)))
  cases r with
  | none => exact wpAny_pure h₁
  | some v =>
    refine wpAny_bind (wpAny_mono h₁ (fun _ s₁' h₁' => ?_) fun _ _ x => x)
    refine wpAny_bind (wpAny_mono h₁' (fun _ s₂ h₂ => wpAny_bind (wpAny_mono h₂ (fun ok s₃ h₃ => ?_) fun _ _ x => x)) fun _ _ x => x)
    cases ok with
    | false => exact wpAny_pure ⟨rfl, h₃⟩
    | true => exact wpAny_bind (wpAny_bind (wpAny_mono h₃ (fun x s₄ h₄ => wpAny_bind (wpAny_mono h₄ (fun _ s₅ h₅ => wpAny_pure (wpAny_pure ⟨rfl, h₅⟩)) fun _ _ x => x)) fun _ _ x => x))
end

/-- what stood in h₀, or is new after h -/
def okN (h₀ h : Heap) (a : Addr) : Prop := (∃ o, h₀.get? a = some o) ∨ h.get? a = none
def cBad (C D : Addr) (wr : List Addr) (b : Addr) : Prop := b = C ∨ b = D ∨ b ∈ wr
/-- the iterator's own objects -/
def ItCls (fp wr : List Addr) (St : Nat → Heap → Prop) : Prop := ∀ i h, St i h → ∀ b ∈ fp, ∃ o, h.get? b = some o ∧ ¬ NsO o ∧ (b ∈ wr → ¬ NsO o)
/-- from s on, what stood in h₀ stays -/
structure Lp (hb h₀ : Heap) (s s' : Shared) : Prop where
  same : ∃ h' tk, s' = { s with heap := h', toks := tk }
  tok : s.toks ≤ s'.toks
  ext : ExtB (fun b => h₀.get? b = none) hb s.heap s'.heap

theorem ext_wr {hb h₀ h h' : Heap} {wr : List Addr} {bad : Addr → Prop} (hk : ∀ b o, b ∉ wr → h.get? b = some o → h'.get? b = some o) (hbad : ∀ b ∈ wr, bad b) (hw : ∀ b ∈ wr, h₀.get? b = none) (hb0 : hb.StaysIn h₀)
    (hf : ∀ b ∈ wr, ∃ o, h.get? b = some o ∧ ¬ NsO o) : ExtB bad hb h h' :=
  ⟨fun b o n e => .of (hk b o (fun q => n (hbad b q)) e), fun x b o e => hk b o (fun q => by have := hb0 b o e; rw [hw b q] at this; cases this) (x b o e), fun b o e n => by
    by_cases q : b ∈ wr
    · obtain ⟨o', e', d⟩ := hf b q
      rw [e] at e'; cases e'
      exact absurd n d
    · exact ⟨o, hk b o q e, n⟩⟩
theorem ext_but {hb h₀ h h' : Heap} {C : Addr} {bad : Addr → Prop} (hs : Heap.ExtBut C h h') (hbad : bad C) (hc : h₀.get? C = none) (hb0 : hb.StaysIn h₀) (hn : ∀ o, h.get? C = some o → NsO o → ∃ o', h'.get? C = some o' ∧ NsO o') : ExtB bad hb h h' :=
  ⟨fun b o n e => .of (hs b o (fun q => n (q ▸ hbad)) e), fun x b o e => hs b o (fun q => by have := hb0 b o e; rw [q, hc] at this; cases this) (x b o e), fun b o e n => by
    by_cases q : b = C
    · subst q; exact hn o e n
    · exact ⟨o, hs b o q e, n⟩⟩
theorem plain_nf {h : Heap} {D : Addr} {ys} (x : h.PlainList D ys) {o : Obj} (e : h.get? D = some o) (n : NsO o) : False := by
  obtain ⟨j, e'⟩ := x
  obtain ⟨es, ep, d⟩ := n
  rw [e] at e'; cases e'; cases d
theorem plain_ext {bad : Addr → Prop} {hb h h' : Heap} {D : Addr} {ys} (x : h.PlainList D ys) (k : ExtB bad hb h h') (n : ¬ bad D) : h'.PlainList D ys := by
  obtain ⟨j, e⟩ := x
  exact ⟨j, (k.stay D _ n e).get (fun ⟨_, _, q⟩ => by cases q)⟩

section
variable {w : World} {hb : Heap} {A : Around} {R : Result → Shared → Prop} {s : Shared}
theorem gLoop {α β : Type} {T' : Ty β} {elt target iter : PySem.Expr} {ifs : List PySem.Expr} {scope : Scope} {pos : Pos} {I D : Addr} {fp wr : List Addr} {P Md : Nat → Value → Heap → Prop} {St : Nat → Heap → Prop} {cenv : Env} {m : Str → Option Value}
    (xs : List α) (pp : α → Bool) (f : α → β) (h₀ : Heap)
    (W : KTurns p w A target I fp wr xs.length P Md St) (hcls : ItCls fp wr St) (hb0 : hb.StaysIn h₀)
    (hw0 : ∀ b ∈ wr, h₀.get? b = none) (hC0 : h₀.get? cenv.locals = none) (hD0 : h₀.get? D = none) (hDC : D ≠ cenv.locals) (hDf : D ∉ fp) (hCf : cenv.locals ∉ fp) (hsz : xs.length ≤ sizeLine)
    (hst : St 0 s.heap) (hacc : s.heap.PlainList D #[]) (hn : s.heap.Ns cenv.locals m)
    (turn : ∀ i x v s₃ m₃ (E' : Value → Shared → Prop), xs[i]? = some x → P i v s₃.heap → s₃.heap.Ns cenv.locals m₃ → Lp hb h₀ s s₃ →
      wpAny (model p w) A (assign target cenv v) (fun _ s₄ => (∃ h' t, s₄ = { s₃ with heap := h', toks := t } ∧ s₃.toks ≤ t ∧ Heap.ExtBut cenv.locals s₃.heap h' ∧ ∃ m', h'.Ns cenv.locals m') ∧
        wpAny (model p w) A (forIn ifs true fun c r => if r = true then do let ok ← isTrue c cenv (eval c cenv); pure (ForInStep.yield ok) else pure (ForInStep.yield r))
          (fun ok s₅ => Kp hb s₄ s₅ ∧ ok = pp x ∧ (pp x = true → wpAny (model p w) A (eval elt cenv) (fun y s₆ => Kp hb s₅ s₆ ∧ T'.R (okN h₀ s₅.heap) s₆.heap y (f x)) E' s₅)) E' s₄) E' s₃)
    (hR : ∀ h' tk m' ys, h'.Ns cenv.locals m' → h'.PlainList D ys → Paired (T'.R (fun a => ¬ cBad cenv.locals D wr a) h') ys.toList ((xs.filter pp).map f) → Lp hb h₀ s { s with heap := h', toks := tk } → R (.ok .next) { s with heap := h', toks := tk }) :
    codeAny (model p w) A (.compLoop (.ListComp elt [⟨target, iter, ifs, 0⟩] scope pos) 0 (.ref I) (.ref D) cenv) R s := by
  have hCw : cenv.locals ∉ wr := fun h => hCf (W.sub _ h)
  have hDw : D ∉ wr := fun h => hDf (W.sub _ h)
  have b0 : ∀ b, cBad cenv.locals D wr b → h₀.get? b = none := by
    rintro b (rfl | rfl | h)
    · exact hC0
    · exact hD0
    · exact hw0 b h
  refine gCompLoop
    (fun k s' => ∃ h' tk m' ys i, s' = { s with heap := h', toks := tk } ∧ s.toks ≤ tk ∧ St i h' ∧ h'.PlainList D ys ∧ h'.Ns cenv.locals m' ∧ i ≤ xs.length ∧ k = xs.length + 1 - i ∧
      Paired (T'.R (fun a => ¬ cBad cenv.locals D wr a) h') ys.toList (((xs.take i).filter pp).map f) ∧ ExtB (cBad cenv.locals D wr) hb s.heap h') ?_ (xs.length + 1)
    ⟨s.heap, s.toks, m, #[], 0, rfl, Nat.le_refl _, hst, hacc, hn, Nat.zero_le _, rfl, by simpa using Paired.nil, ExtB.rfl⟩
  rintro k s' ⟨H, tk, m', ys, i, rfl, htk, hst', hacc', hn', hi, rfl, hF, hX⟩
  have wf : ∀ j h, St j h → ∀ b ∈ wr, ∃ o, h.get? b = some o ∧ ¬ NsO o := fun j h st b hbw => by
    obtain ⟨o, e, _, q⟩ := hcls j h st b (W.sub b hbw)
    exact ⟨o, e, q hbw⟩
  have wbad : ∀ b ∈ wr, cBad cenv.locals D wr b := fun b h => Or.inr (Or.inr h)
  by_cases hlt : i < xs.length
  · obtain ⟨x, hx⟩ : ∃ x, xs[i]? = some x := ⟨_, List.getElem?_eq_getElem hlt⟩
    refine wpAny_with_toks (n := s.toks) htk (W.item i _ _ _ hlt hst' fun v h₁ tk₁ hMd hk₁ htk₁ => ?_)
    refine W.go i v _ _ _ hMd fun h₂ hP hst₂ hk₂ => ?_
    have hk2 : ∀ b o, b ∉ wr → H.get? b = some o → h₂.get? b = some o := fun b o nb e => hk₂ b o nb (hk₁ b o nb e)
    have X2 : ExtB (cBad cenv.locals D wr) hb H h₂ := ext_wr hk2 wbad hw0 hb0 (wf i H hst')
    have hn₂ : h₂.Ns cenv.locals m' := hn'.at' fun o e => hk2 _ o hCw e
    have lp : Lp hb h₀ s { s with heap := h₂, toks := tk₁ } := ⟨⟨h₂, tk₁, rfl⟩, htk₁, (hX.trans X2).mono b0⟩
    refine wpAny_mono (turn i x v _ m' _ hx hP hn₂ lp) (fun _ s₄ h₄ => ?_) fun _ _ e => e
    obtain ⟨⟨h₃, t₃, rfl, ht₃, hs₃, m₃, hn₃⟩, htests⟩ := h₄
    refine wpAny_mono htests (fun ok s₅ h₅ => ?_) fun _ _ e => e
    obtain ⟨k₅, rfl, helt⟩ := h₅
    obtain ⟨⟨h5, t5, rfl⟩, tok5, ext5⟩ := k₅
    have X3 : ExtB (cBad cenv.locals D wr) hb h₂ h₃ := ext_but hs₃ (Or.inl rfl) hC0 hb0 fun _ _ _ => ns_nf hn₃
    have X5 : ExtB (cBad cenv.locals D wr) hb h₃ h5 := ext5.mono fun _ q => q.elim
    have X25 := (X2.trans X3).trans X5
    have hst₃ : St (i + 1) h₃ := W.frame _ _ _ hst₂ fun b hbf o e => hs₃ b o (fun q => hCf (q ▸ hbf)) e
    have hst₅ : St (i + 1) h5 := W.frame _ _ _ hst₃ fun b hbf o e => by
      obtain ⟨o', e', nf, _⟩ := hcls _ _ hst₃ b hbf
      rw [e] at e'; cases e'
      exact (ext5.stay b o id e).get nf
    have acc₅ : h5.PlainList D ys := plain_ext ((hacc'.at fun o e => hk2 _ o hDw e).at fun o e => hs₃ _ o hDC e) ext5 id
    have hn₅ : h5.Ns cenv.locals m₃ := ext5.ns hn₃ id
    have tk5 : s.toks ≤ t5 := Nat.le_trans htk₁ (Nat.le_trans ht₃ tok5)
    have hF₅ := paired_imp (fun _ _ r => Ty.move (T := T') r X25 fun _ h => h) hF
    have htake : (xs.take (i + 1)).filter pp = (xs.take i).filter pp ++ (if pp x then [x] else []) := take_succ_filter pp xs i x hx
    cases hp : pp x with
    | false =>
      rw [if_neg (by decide)]
      refine ⟨xs.length + 1 - (i + 1), by omega, h5, t5, m₃, ys, i + 1, rfl, tk5, hst₅, acc₅, hn₅, hlt, rfl, ?_, hX.trans X25⟩
      rw [htake, hp]
      simpa using hF₅
    | true =>
      rw [if_pos rfl]
      refine wpAny_mono (helt hp) (fun y s₆ h₆ => ?_) fun _ _ e => e
      obtain ⟨⟨⟨h6, t6, rfl⟩, tok6, ext6⟩, ry⟩ := h₆
      have hys : ys.size ≤ sizeLine := by
        have e1 := paired_len hF
        have e2 : ((xs.take i).filter pp).length ≤ (xs.take i).length := List.length_filter_le _ _
        have e3 : (xs.take i).length ≤ xs.length := by rw [List.length_take]; omega
        rw [List.length_map] at e1
        have e4 : ys.toList.length = ys.size := by simp
        omega
      have X6 : ExtB (cBad cenv.locals D wr) hb h5 h6 := ext6.mono fun _ q => q.elim
      refine wpAny_list_append_plain (hsz := hys) (plain_ext acc₅ ext6 id) fun h₇ hl₇ hs₇ => ?_
      have X7 : ExtB (cBad cenv.locals D wr) hb h6 h₇ := ext_but hs₇.extBut (Or.inr (Or.inl rfl)) hD0 hb0 fun _ e q => (plain_nf (plain_ext acc₅ ext6 id) e q).elim
      have hst₆ : St (i + 1) h6 := W.frame _ _ _ hst₅ fun b hbf o e => by
        obtain ⟨o', e', nf, _⟩ := hcls _ _ hst₅ b hbf
        rw [e] at e'; cases e'
        exact (ext6.stay b o id e).get nf
      have hst₇ : St (i + 1) h₇ := W.frame _ _ _ hst₆ fun b hbf o e => hs₇.extBut b o (fun q => hDf (q ▸ hbf)) e
      refine ⟨xs.length + 1 - (i + 1), by omega, h₇, t6, m₃, ys.push y, i + 1, rfl, Nat.le_trans tk5 tok6, hst₇, hl₇, (ext6.ns hn₅ id).sameBut hs₇ (Ne.symm hDC), hlt, rfl, ?_, hX.trans (X25.trans (X6.trans X7))⟩
      have ry' : T'.R (fun a => ¬ cBad cenv.locals D wr a) h₇ y (f x) := by
        refine Ty.move (T := T') (T'.mono ry ?_) X7 fun _ h => h
        rintro a (⟨o, e⟩ | e) hba
        · rw [b0 a hba] at e; cases e
        · rcases hba with rfl | rfl | hw
          · obtain ⟨o, _, _, e', _⟩ := hn₅
            rw [e] at e'; cases e'
          · obtain ⟨j, e'⟩ := acc₅
            rw [e] at e'; cases e'
          · obtain ⟨o, e', _⟩ := wf _ _ hst₅ a hw
            rw [e] at e'; cases e'
      rw [htake, hp]
      have hF₇ := paired_imp (fun _ _ r => Ty.move (T := T') r (X6.trans X7) fun _ h => h) hF₅
      simpa using Paired.snoc hF₇ ry'
  · obtain rfl : i = xs.length := by omega
    refine wpAny_with_toks (n := s.toks) htk (W.done _ _ _ hst' fun h₁ tk₁ hk₁ htk₁ => ?_)
    have X1 : ExtB (cBad cenv.locals D wr) hb H h₁ := ext_wr hk₁ wbad hw0 hb0 (wf _ H hst')
    rw [List.take_length] at hF
    exact hR h₁ tk₁ m' ys (hn'.at' fun o e => hk₁ _ o hCw e) (hacc'.at fun o e => hk₁ _ o hDw e) (paired_imp (fun _ _ r => Ty.move (T := T') r X1 fun _ h => h) hF) ⟨⟨h₁, tk₁, rfl⟩, htk₁, (hX.trans X1).mono b0⟩
end
end
end Mine
end

section
open PySem PySem.W PyProof.Rows PySem.Calls
set_option maxRecDepth 100000
set_option maxHeartbeats 400000
namespace Mine
noncomputable section
/-- a source: what pyIter makes of a value -/
structure Src {α : Type} (hb : Heap) (w : World) (A : Around) (target : PySem.Expr) (s : Shared) (xs : List α) (PP : α → Value → Heap → Prop) (it : Value) (s₂ : Shared) : Prop where
  kp : Kp hb s s₂
  ex : ∃ (I : Addr) (fp wr : List Addr) (P Md : Nat → Value → Heap → Prop) (St : Nat → Heap → Prop), it = .ref I ∧ KTurns p w A target I fp wr xs.length P Md St ∧ ItCls fp wr St ∧ (∀ b ∈ wr, s.heap.get? b = none) ∧ (∀ b ∈ fp, b < s₂.heap.objs.size) ∧ St 0 s₂.heap ∧
    (∀ i x v h, xs[i]? = some x → P i v h → PP x v h) ∧
    (∀ i (s' : Shared) (Q : Value → Shared → Prop) (E : Value → Shared → Prop), St i s'.heap → Q (.ref I) s' → wpAny (model p w) A (pyIter (.ref I)) Q E s')

section
variable {w : World} {hb : Heap} {A : Around} {s : Shared} {env : Env}
theorem compEnvC_locals {scope : Scope} {cl : List (Str × Addr)} {C : Addr} : (compEnvC scope cl C env).locals = C := rfl

theorem gComp {α β : Type} {T' : Ty β} {elt target iter : PySem.Expr} {ifs : List PySem.Expr} {scope : Scope} {cl : List (Str × Addr)} {pos cpos : Pos} {use : Option (Value → Sem Unit)} {Q : Value → Shared → Prop} {E : Value → Shared → Prop}
    (xs : List α) (pp : α → Bool) (f : α → β) (PP : α → Value → Heap → Prop) (hst0 : hb.StaysIn s.heap) (hsz : xs.length ≤ sizeLine)
    (hclos : closureFor scope env = pure cl) (hcell : ∀ y ∈ scope.names, y.2 ≠ .cell) (hkind : scope.kind = .function)
    (hnames : ∀ y ∈ scope.names, y.2 = .local → scope.names.lookup y.1 = some .local)
    (hsrc : ∀ (Q : Value → Shared → Prop) (E : Value → Shared → Prop), (∀ it s₂, Src hb w A target s xs PP it s₂ → Q it s₂) → wpAny (model p w) A (eval iter env) (fun xv s₁ => wpAny (model p w) A (pyIter xv) Q E s₁) E s)
    (turn : ∀ (i : Nat) x v C s₃ m₃ (E' : Value → Shared → Prop), xs[i]? = some x → PP x v s₃.heap → s.heap.get? C = none → s₃.heap.Ns C m₃ → Lp hb s.heap s s₃ →
      wpAny (model p w) A (assign target (compEnvC scope cl C env) v) (fun _ s₄ => (∃ h' t, s₄ = { s₃ with heap := h', toks := t } ∧ s₃.toks ≤ t ∧ Heap.ExtBut C s₃.heap h' ∧ ∃ m', h'.Ns C m') ∧
        wpAny (model p w) A (forIn ifs true fun c r => if r = true then do let ok ← isTrue c (compEnvC scope cl C env) (eval c (compEnvC scope cl C env)); pure (ForInStep.yield ok) else pure (ForInStep.yield r))
          (fun ok s₅ => Kp hb s₄ s₅ ∧ ok = pp x ∧ (pp x = true → wpAny (model p w) A (eval elt (compEnvC scope cl C env)) (fun y s₆ => Kp hb s₅ s₆ ∧ T'.R (okN s.heap s₅.heap) s₆.heap y (f x)) E' s₅)) E' s₄) E' s₃)
    (hQ : ∀ D C h' tk m', s.heap.get? D = none → s.heap.get? C = none → D ≠ C → h'.Ns C m' → (tList T').R (fun a => a ≠ C) h' (.ref D) ((xs.filter pp).map f) → Lp hb s.heap s { s with heap := h', toks := tk } →
      compPost (model p w) A E use Q (.ref D) C (.ok .next) { s with heap := h', toks := tk })
    (hs : ∀ x, foldedSetIterable iter env x = pure x := by intro _; rfl) :
    wpAny (model p w) A (comprehension (.ListComp elt [⟨target, iter, ifs, 0⟩] scope pos) scope env cpos (newList []) false (eval iter env) use) Q E s := by
  refine wpAny_comprehension_free (use := use) rfl hs hclos hkind hnames (hsrc _ E fun it s₂ X => ?_)
  obtain ⟨I, fp, wr, P, Md, St, rfl, W, hcls, hw0, hfp, hst, hPP, hself⟩ := X.ex
  obtain ⟨⟨h2, t2, rfl⟩, tk2, ext2⟩ := X.kp
  refine wpAny_newObj_type (wpAny_newFunctionEnv hcell (by intro y hy; simp at hy) (fun h₁ hns₁ hsb₁ => ?_) hkind)
  dsimp only at hns₁ hsb₁ hst hfp ⊢
  generalize hH2 : h2.push { cls := .type "list", dict := none, data := .seq ([] : List Value).toArray } = H2 at hns₁ hsb₁ ⊢
  have hC : H2.objs.size = h2.objs.size + 1 := by rw [← hH2, Heap.size_push]
  have hDC : h2.objs.size ≠ H2.objs.size := by rw [hC]; exact Nat.ne_of_lt (Nat.lt_succ_self _)
  have old : ∀ b o, h2.get? b = some o → h₁.get? b = some o := fun b o e => hsb₁.extBut b o (by rw [hC]; exact Nat.ne_of_lt (Nat.lt_succ_of_lt (Heap.lt_size e))) (Heap.get?_push_of_some _ (hH2 ▸ Heap.get?_push_of_some _ e))
  have hacc : h₁.PlainList h2.objs.size #[] := ⟨_, hsb₁.extBut _ _ hDC (Heap.get?_push_of_some _ (hH2 ▸ Heap.get?_push_size _ rfl))⟩
  have hst₁ : St 0 h₁ := W.frame _ _ _ hst fun b _ o e => old b o e
  have fresh : ∀ a, h2.objs.size ≤ a → s.heap.get? a = none := fun a ha => by
    cases e : s.heap.get? a with
    | none => rfl
    | some o' =>
      obtain ⟨sl, e', _⟩ := ext2.stay a o' id e
      exact absurd (Heap.lt_size e') (Nat.not_lt.mpr ha)
  have xb : ExtB (fun b => s.heap.get? b = none) hb s.heap h₁ := (ext2.mono fun _ q => q.elim).trans (.of old)
  have lpb : ∀ s₃, Lp hb s.heap { s with heap := h₁, toks := t2 + ([] : List (Str × Value)).length } s₃ → Lp hb s.heap s s₃ := fun s₃ lp =>
    ⟨same_trans ⟨h₁, t2 + ([] : List (Str × Value)).length, rfl⟩ lp.same, Nat.le_trans (Nat.le_trans tk2 (Nat.le_add_right _ _)) lp.tok, xb.trans lp.ext⟩
  have loop : codeAny (model p w) A (.compLoop (.ListComp elt [⟨target, iter, ifs, 0⟩] scope pos) 0 (.ref I) (.ref h2.objs.size) (compEnvC scope cl H2.objs.size env))
        (compPost (model p w) A E use Q (.ref h2.objs.size) H2.objs.size) { s with heap := h₁, toks := t2 + ([] : List (Str × Value)).length } := by
    refine gLoop (T' := T') (cenv := compEnvC scope cl H2.objs.size env) xs pp f s.heap W hcls hst0 hw0 (fresh _ (by show h2.objs.size ≤ H2.objs.size; rw [hC]; exact Nat.le_succ _)) (fresh _ (Nat.le_refl _)) hDC
      (fun h => Nat.lt_irrefl _ (hfp _ h)) (fun h => by have := hfp _ h; rw [compEnvC_locals, hC] at this; exact Nat.lt_irrefl _ (Nat.lt_of_succ_lt this)) hsz hst₁ hacc hns₁ (fun i x v s₃ m₃ E' hx hP hn lp => ?_) fun h' tk m' ys hn hl hp lp => ?_
    · refine turn i x v _ s₃ m₃ E' hx (hPP _ _ _ _ hx hP) (fresh _ (by rw [hC]; exact Nat.le_succ _)) hn (lpb _ lp)
    · refine hQ _ _ h' tk m' (fresh _ (Nat.le_refl _)) (fresh _ (by rw [hC]; exact Nat.le_succ _)) hDC hn ?_ ?_
      · refine ⟨_, ys.toList, rfl, hDC, ?_, paired_imp (fun _ _ r => T'.mono r fun a h q => h (Or.inl q)) hp⟩
        rw [Array.toArray_toList]; exact hl
      · exact lpb _ lp
  exact codeAny_compStart_list loop (hself 0 _ _ _ hst₁ loop)
end
end
end Mine
end

section
open PySem PySem.W PyProof.Rows PySem.Calls
set_option maxRecDepth 100000
set_option maxHeartbeats 100000
namespace Mine
noncomputable section
section
variable {w : World} {hb : Heap} {A : Around} {s : Shared} {env : Env}
theorem lp_kp {h₀ : Heap} {C : Addr} {s s' : Shared} {h'' : Heap} (lp : Lp hb s.heap s s') (hb0 : hb.StaysIn s.heap) (hC : s.heap.get? C = none) (hs : Heap.SameBut C s'.heap h'') (_ : h₀ = h₀) : Kp hb s { s' with heap := h'' } := by
  obtain ⟨⟨h', t, rfl⟩, tk, ext⟩ := lp
  refine ⟨⟨h'', t, rfl⟩, tk, fun b o _ e => ?_, fun x b o e => ?_, fun b o e n => ?_⟩
  · obtain ⟨sl, e', k⟩ := ext.stay b o (fun q => by rw [q] at e; cases e) e
    exact ⟨sl, hs.extBut b _ (fun q => by rw [q, hC] at e; cases e) e', k⟩
  · exact hs.extBut b o (fun q => by have := hb0 b o e; rw [q, hC] at this; cases this) (ext.base x b o e)
  · obtain ⟨o', e', n'⟩ := ext.nf b o e n
    exact ⟨o', hs.extBut b o' (fun q => by rw [q, hC] at e; cases e) e', n'⟩

/-- what a comprehension wants at a state -/
structure CompAt {α β : Type} (hb : Heap) (w : World) (A : Around) (env : Env) (elt target iter : PySem.Expr) (ifs : List PySem.Expr) (scope : Scope) (cl : List (Str × Addr)) (T' : Ty β) (xs : List α) (pp : α → Bool) (f : α → β) (PP : α → Value → Heap → Prop) (s : Shared) : Prop where
  src : ∀ (Q : Value → Shared → Prop) (E : Value → Shared → Prop), (∀ it s₂, Src hb w A target s xs PP it s₂ → Q it s₂) → wpAny (model p w) A (eval iter env) (fun xv s₁ => wpAny (model p w) A (pyIter xv) Q E s₁) E s
  turn : ∀ (i : Nat) x v C s₃ m₃ (E' : Value → Shared → Prop), xs[i]? = some x → PP x v s₃.heap → s.heap.get? C = none → s₃.heap.Ns C m₃ → Lp hb s.heap s s₃ →
      wpAny (model p w) A (assign target (compEnvC scope cl C env) v) (fun _ s₄ => (∃ h' t, s₄ = { s₃ with heap := h', toks := t } ∧ s₃.toks ≤ t ∧ Heap.ExtBut C s₃.heap h' ∧ ∃ m', h'.Ns C m') ∧
        wpAny (model p w) A (forIn ifs true fun c r => if r = true then do let ok ← isTrue c (compEnvC scope cl C env) (eval c (compEnvC scope cl C env)); pure (ForInStep.yield ok) else pure (ForInStep.yield r))
          (fun ok s₅ => Kp hb s₄ s₅ ∧ ok = pp x ∧ (pp x = true → wpAny (model p w) A (eval elt (compEnvC scope cl C env)) (fun y s₆ => Kp hb s₅ s₆ ∧ T'.R (okN s.heap s₅.heap) s₆.heap y (f x)) E' s₅)) E' s₄) E' s₃

theorem pComp {α β : Type} {T' : Ty β} {elt target iter : PySem.Expr} {ifs : List PySem.Expr} {scope : Scope} {cl : List (Str × Addr)} {pos : Pos}
    {xs : List α} {pp : α → Bool} {f : α → β} {PP : Shared → α → Value → Heap → Prop} (hst0 : hb.StaysIn s.heap) (hsz : xs.length ≤ sizeLine)
    (hclos : closureFor scope env = pure cl) (hcell : ∀ y ∈ scope.names, y.2 ≠ .cell) (hkind : scope.kind = .function)
    (hnames : ∀ y ∈ scope.names, y.2 = .local → scope.names.lookup y.1 = some .local)
    (H : ∀ s', Kp hb s s' → CompAt hb w A env elt target iter ifs scope cl T' xs pp f (PP s') s') (hs : ∀ x, foldedSetIterable iter env x = pure x := by intro _; rfl) :
    Pv hb (model p w) A env s (.ListComp elt [⟨target, iter, ifs, 0⟩] scope pos) (tList T') ((xs.filter pp).map f) := by
  refine ⟨fun s' kp Q E q => ?_⟩
  have st' := kp.ext.base hst0
  rw [eval_ListComp]
  show wpAny _ _ (comprehension (.ListComp elt [⟨target, iter, ifs, 0⟩] scope pos) scope env iter.pos (newList []) false (eval iter env) none) Q E s'
  refine gComp (T' := T') (use := none) xs pp f (PP s') st' hsz hclos hcell hkind hnames (H s' kp).src (H s' kp).turn (fun D C h' tk m' hD hC hDC hn hl lp => ?_) hs
  unfold compPost
  dsimp only
  refine ⟨m', hn, fun h'' hs'' => ?_⟩
  refine q _ _ (lp_kp (h₀ := hb) lp st' hC hs'' rfl) ?_
  exact Ty.to_at ((tList T').stab hl fun a o hne e => hs''.extBut a o hne e)

theorem frm_but {C : Addr} {m cm : Str → Option Value} {s s' : Shared} (F : Frm hb env m cm s) (hC : ¬ fBad env C) (k : Heap.SameBut C s.heap s'.heap) : Frm hb env m cm s' :=
  ⟨F.kind, F.ns.sameBut k (fun q => hC (Or.inl q.symm)), fun n c h => (F.cell n c h).sameBut k (fun q => hC (q ▸ Or.inr ⟨n, mem_of_lookup h⟩)), fun n c h => let ⟨v, x⟩ := F.all n c h; ⟨v, x.sameBut k (fun q => hC (q ▸ Or.inr ⟨n, h⟩))⟩, F.apart, F.new⟩
theorem ty_but {γ : Type} {T : Ty γ} {ok : Addr → Prop} {C : Addr} {m : Str → Option Value} {s s' : Shared} {v : Value} {x : γ} (r : T.R ok s.heap v x) (hn : s.heap.Ns C m) (k : Heap.SameBut C s.heap s'.heap) : T.R ok s'.heap v x := by
  refine T.mono (T.stab (T.seq r) ?_) fun a q => q.1
  rintro a ob ⟨_, o, xs, n, e, d, _⟩ e2
  refine k.extBut a ob ?_ e2
  rintro rfl
  obtain ⟨o', _, _, e', d', _⟩ := hn
  rw [e] at e'; cases e'
  rw [d] at d'; cases d'
theorem var_but {γ : Type} {T : Ty γ} {C : Addr} {mC : Str → Option Value} {n : Str} {x : γ} {s s' : Shared} (h : Var hb env n T x s) (hn : s.heap.Ns C mC) (hC : ¬ fBad env C) (k : Heap.SameBut C s.heap s'.heap) : Var hb env n T x s' :=
  let ⟨m, cm, F, v, r, o⟩ := h; ⟨m, cm, frm_but F hC k, v, ty_but r hn k, o⟩
theorem lp_kp0 {s s' : Shared} (lp : Lp hb s.heap s s') : Kp hb s s' :=
  ⟨lp.same, lp.tok, ⟨fun b o _ e => lp.ext.stay b o (fun q => by rw [q] at e; cases e) e, lp.ext.base, lp.ext.nf⟩⟩

theorem sAssignComp {α β : Type} {T' : Ty β} {elt target iter : PySem.Expr} {ifs : List PySem.Expr} {scope : Scope} {cl : List (Str × Addr)} {pos py spos : Pos} {n : Str} {Q : Flow → Shared → Prop} {E : Value → Shared → Prop}
    {xs : List α} {pp : α → Bool} {f : α → β} {PP : α → Value → Heap → Prop} (F : FrmOk hb env s) (hst0 : hb.StaysIn s.heap) (hsz : xs.length ≤ sizeLine)
    (hl : env.kindOf n = some .local ∨ (env.kindOf n = some .cell ∧ ∃ c, env.cells.lookup n = some c))
    (hsw : swapsWith (.ListComp elt [⟨target, iter, ifs, 0⟩] scope pos) (some (.Name n py)) spos.line env = pure true)
    (hclos : closureFor scope env = pure cl) (hcell : ∀ y ∈ scope.names, y.2 ≠ .cell) (hkind : scope.kind = .function)
    (hnames : ∀ y ∈ scope.names, y.2 = .local → scope.names.lookup y.1 = some .local)
    (H : CompAt hb w A env elt target iter ifs scope cl T' xs pp f PP s)
    (q : ∀ s', Upd hb env n s s' → Var hb env n (tList T') ((xs.filter pp).map f) s' → Q .next s')
    (hs : ∀ x, foldedSetIterable iter env x = pure x := by intro _; rfl) :
    wpAny (model p w) A (exec (.Assign [.Name n py] (.ListComp elt [⟨target, iter, ifs, 0⟩] scope pos) spos) env) Q E s := by
  rw [exec_Assign_Name_used _ _ _ _ hsw]
  refine wpAny_bind (wpAny_standAt (wpAny_bind ?_))
  show wpAny _ A (do let _ ← comprehension (.ListComp elt [⟨target, iter, ifs, 0⟩] scope pos) scope env iter.pos (newList []) false (eval iter env) (some (assign (.Name n py) env))) _ _ s
  refine wpAny_bind (wpAny_mono (gComp (T' := T') (use := some (assign (.Name n py) env)) (Q := fun _ s' => Q .next s') xs pp f PP hst0 hsz hclos hcell hkind hnames H.src H.turn (fun D C h' tk m' hD hC hDC hn hl' lp => ?_) hs) (fun _ s' hq => wpAny_pure (wpAny_pure hq)) fun _ _ e => e)
  unfold compPost
  dsimp only
  have k1 := lp_kp0 lp
  have hCb : ¬ fBad env C := by
    obtain ⟨m, cm, F⟩ := F
    rintro (e | ⟨x, hx⟩)
    · obtain ⟨o, _, _, e', _⟩ := F.ns
      rw [← e, hC] at e'; cases e'
    · obtain ⟨v, o, e', _⟩ := F.all x C hx
      rw [hC] at e'; cases e'
  refine wpAny_assign_Name (store_var (T := tList T') (x := (xs.filter pp).map f) (F.kp k1) hl (Ty.to_at hl') fun s'' u v => ?_)
  have hn'' : ∃ m, s''.heap.Ns C m := ⟨m', u.stp.ext.ns hn hCb⟩
  obtain ⟨mC, hnC⟩ := hn''
  refine ⟨mC, hnC, fun h'' hs'' => ?_⟩
  have U := Upd.kp k1 u
  refine q _ ⟨⟨same_trans U.stp.same ⟨h'', s''.toks, rfl⟩, U.stp.tok, ⟨fun b o nb e => ?_, fun x b o e => hs''.extBut b o (fun q => by have := hst0 b o e; rw [q, hC] at this; cases this) (U.stp.ext.base x b o e), fun b o e nf => ?_⟩⟩, ?_, fun hne hv => ?_⟩ ?_
  · obtain ⟨sl, e', k⟩ := U.stp.ext.stay b o nb e
    exact ⟨sl, hs''.extBut b _ (fun q => by rw [q, hC] at e; cases e) e', k⟩
  · obtain ⟨o', e', nf'⟩ := U.stp.ext.nf b o e nf
    exact ⟨o', hs''.extBut b o' (fun q => by rw [q, hC] at e; cases e) e', nf'⟩
  · obtain ⟨m, cm, F'⟩ := u.frm
    exact ⟨m, cm, frm_but (s' := { s'' with heap := h'' }) F' hCb hs''⟩
  · exact var_but (s' := { s'' with heap := h'' }) (U.var hne hv) hnC hCb hs''
  · exact var_but (s' := { s'' with heap := h'' }) v hnC hCb hs''
end
end
end Mine
end

section
open PySem PySem.W PyProof.Rows PySem.Calls
set_option maxRecDepth 100000
set_option maxHeartbeats 200000
namespace Mine
noncomputable section
section
variable {w : World} {hb : Heap} {A : Around} {s : Shared} {env : Env}
/-- a list's items, as they stand at s -/
def ListAt {α : Type} (hb : Heap) (w : World) (A : Around) (env : Env) (s : Shared) (e : PySem.Expr) (T : Ty α) (xs : List α) : Prop :=
  ∀ (Q : Value → Shared → Prop) (E : Value → Shared → Prop), (∀ a vs s', Kp hb s s' → s'.heap.IsList a (List.toArray vs) → Paired (fun v x => T.at s.heap v x) vs xs → Q (.ref a) s') → wpAny (model p w) A (eval e env) Q E s

theorem listAt_flat {α : Type} {T : Ty α} {e : PySem.Expr} {xs : List α} (hT : T.Flat) (h : Pv hb (model p w) A env s e (tList T) xs) : ListAt hb w A env s e T xs := fun Q E q =>
  h.go fun v s' k r => by
    obtain ⟨a, vs, rfl, _, l, f⟩ := r
    exact q a vs s' k l.isList (paired_imp (fun _ _ r => hT _ _ _ _ _ _ r) f)
theorem listAt_var {α : Type} {T : Ty α} {n : Str} {pos : Pos} {xs : List α} (h : Var hb env n (tList T) xs s) (hd : (n == ("__debug__" : Str)) = false := by decide) : ListAt hb w A env s (.Name n pos) T xs := fun Q E q => by
  obtain ⟨m, cm, F, v, r, o⟩ := h
  obtain ⟨a, vs, rfl, ha, l, f⟩ := r
  have f' : Paired (fun v x => T.at s.heap v x) vs xs := paired_imp (fun _ _ r => Ty.to_at r) f
  rcases o with ⟨hl, hv⟩ | ⟨hl, c, hc, hv⟩
  · exact wpAny_Name (wpAny_loadName_local F.kind hl F.ns hv (q a vs s Kp.rfl l.isList f')) hd
  · exact wpAny_Name (wpAny_loadName_cell F.kind hl hc (hv ▸ F.cell n c hc) (q a vs s Kp.rfl l.isList f')) hd

theorem srcList {α : Type} {T : Ty α} {target iter : PySem.Expr} {xs : List α} (hh : A.handled = none) (h : ListAt hb w A env s iter T xs)
    (hgo : ∀ it v, letOwnedTupleGo target it v = pure ()) :
    ∀ (Q : Value → Shared → Prop) (E : Value → Shared → Prop), (∀ it s₂, Src hb w A target s xs (fun x v _ => T.at s.heap v x) it s₂ → Q it s₂) → wpAny (model p w) A (eval iter env) (fun xv s₁ => wpAny (model p w) A (pyIter xv) Q E s₁) E s := by
  intro Q E q
  refine h _ _ fun a vs s₁ k₁ l f => ?_
  refine wpAny_pyIter_list l (q _ _ ⟨k₁.trans (Kp.mkH fun b o e => Heap.get?_push_of_some _ e), ?_⟩)
  have hlt : a < s₁.heap.objs.size := let ⟨_, e, _⟩ := l; Heap.lt_size e
  have hlen := paired_len f
  refine ⟨s₁.heap.objs.size, [s₁.heap.objs.size, a], [s₁.heap.objs.size], fun i v _ => vs.toArray[i]? = some v, fun i v h => vs.toArray[i]? = some v ∧ (h.IsListIter s₁.heap.objs.size a (i + 1) ∧ h.IsList a vs.toArray), fun i h => h.IsListIter s₁.heap.objs.size a i ∧ h.IsList a vs.toArray, rfl, ?_, ?_, ?_, ?_, ?_, ?_, ?_⟩
  · have W := KTurns.ofWalks (target := target) (Walks.list (prog := p) (w := w) (A := A) hh s₁.heap.objs.size a (Nat.ne_of_lt hlt) vs.toArray) (fun i v s Q E _ hq => by rw [hgo]; exact wpAny_pure hq)
    rw [show vs.toArray.size = xs.length from (List.size_toArray ..).trans hlen] at W
    exact W
  · intro i h st b hbf
    obtain ⟨⟨o, e1, c1, d1⟩, ⟨o2, e2, c2, n2, d2⟩⟩ := st
    simp only [List.mem_cons, List.not_mem_nil, or_false] at hbf
    rcases hbf with rfl | rfl
    · exact ⟨o, e1, fun ⟨_, _, q⟩ => (by rw [d1] at q; cases q), fun _ ⟨_, _, q⟩ => by rw [d1] at q; cases q⟩
    · exact ⟨o2, e2, fun ⟨_, _, q⟩ => (by rw [d2] at q; cases q), fun q => absurd (List.mem_singleton.mp q) (Nat.ne_of_lt hlt)⟩
  · intro b hbw
    rw [List.mem_singleton.mp hbw]
    cases e : s.heap.get? s₁.heap.objs.size with
    | none => rfl
    | some o =>
      obtain ⟨sl, e', _⟩ := k₁.ext.stay _ o id e
      exact absurd (Heap.lt_size e') (Nat.lt_irrefl _)
  · intro b hbf
    show b < (s₁.heap.push _).objs.size
    rw [Heap.size_push]
    simp only [List.mem_cons, List.not_mem_nil, or_false] at hbf
    rcases hbf with rfl | rfl
    · exact Nat.lt_succ_self _
    · exact Nat.lt_succ_of_lt hlt
  · exact ⟨⟨_, Heap.get?_push_size _ rfl, rfl, rfl⟩, l.push _⟩
  · intro i x v h hx hv
    obtain ⟨v', hv', r⟩ := paired_get f hx
    have : some v = some v' := by rw [← hv', ← hv]; simp
    cases this
    exact r
  · exact fun i s' Q E st hq => wpAny_pyIter_listiter st.1 hq
end
end
end Mine
end

section
open PySem PySem.W PyProof.Rows PySem.Calls
set_option maxRecDepth 100000
set_option maxHeartbeats 200000
namespace Mine
noncomputable section
def tNone : Ty Unit := ⟨fun _ _ v _ => v = .none, fun r _ => r, fun r => r, fun r _ => r⟩
section
variable {w : World} {hb : Heap} {mg mb : Str → Option Value} {A : Around} {s : Shared} {k : Nat} {env : Env}
theorem pNone {k : Nat} {pos : Pos} {M : Model} : Pv hb M A env s (.Constant .none k pos) tNone () := ⟨fun _ _ _ _ q => fun _ _ _ => q .none _ Kp.rfl rfl⟩

/-- b3_exceptions.get(ord(code)) -/
theorem pB3get {c : Nat} {γ : Type} {T : Ty γ} {y : γ} {e : PySem.Expr} {np ap pos fp cp : Pos} (G : Gnd w hb mg mb) (V : EnvG env) (st : hb.StaysIn s.heap)
    (hx : env.kindOf "b3_exceptions" = some .globalImplicit) (hx2 : env.kindOf "ord" = some .globalImplicit)
    (h : Pv hb (model p w) A env s e tStr ⟨#[c]⟩) (hr : ∀ h, T.at h ((b3At c).getD .none) y)
    (he : ∃ pl : Sem Bool, eval (.Call (.Attribute (.Name "b3_exceptions" np) "get" ap) [.Call (.Name "ord" fp) [e] [] cp] [] pos) env = (do
      let ov ← eval (.Name "b3_exceptions" np) env
      standAt ap.atName
      let (f, first) ← holding [ov] (getMethod ov "get" pl)
      callWith pos f first (backTo pos (starEach [.Call (.Name "ord" fp) [e] [] cp] env)) []))
    (hs : starEach [e] env = (false, eval e env) :: starEach [] env := by rfl) :
    Pv hb (model p w) A env s (.Call (.Attribute (.Name "b3_exceptions" np) "get" ap) [.Call (.Name "ord" fp) [e] [] cp] [] pos) T y := by
  have hord : Pv hb (model p w) A env s (.Call (.Name "ord" fp) [e] [] cp) tInt (c : Int) := by
    refine pB1 (T := tStr) (x := ⟨#[c]⟩) G V st (G.none (by kernel_rfl)) (G.bu (by decide) boot_ord) hx2 h ?_ (hs := hs)
    rintro s' v Q E _ ⟨t, rfl⟩ q
    exact P.ord_of_char (q _ _ Kp.tk ⟨_, rfl⟩)
  refine ⟨fun s' kp Q E q => ?_⟩
  have st' := kp.ext.base st
  obtain ⟨pl, he⟩ := he
  refine MethodCall_ (pl := pl) ?_ he
  refine ld_global G st' V.kind V.glob hx (v := .ref 33) (G.mgo (by kernel_rfl)) (by decide) ?_
  have e33 : s'.heap.get? 33 = some (dO b3M) := st' 33 _ (G.K 33 _ (by rfl))
  have tT : s'.TypeIs (.ref 33) "dict" := ⟨_, e33, rfl⟩
  refine getMethod_builtin tT PySem.F.plainAttrs_dict PySem.F.slot_dict_get PySem.F.type_dict_get (fun a ha => by cases ha; exact ⟨_, e33, rfl⟩) ?_
  have hs2 : starEach [.Call (.Name "ord" fp) [e] [] cp] env = (false, eval (.Call (.Name "ord" fp) [e] [] cp) env) :: starEach [] env := by rfl
  refine callWith_method1 (args_cons (hord.run s' kp _ _ fun v s₁ k₁ r => args_nil ?_) hs2) hs2
  obtain ⟨t, rfl⟩ := r
  have e1 : s₁.heap.get? 33 = some (dO b3M) := k₁.ext.base st' 33 _ (G.K 33 _ (by rfl))
  show wpAny _ _ (call (.builtin "dict.get") [.ref 33, .int (c : Int) t]) Q E s₁
  exact call_meetsIn PySem.F.slot_dict_get (T := "dict") ⟨_, e1, rfl⟩ PySem.F.entry_dict_get (PySem.F.args_dict_get_2 _ _) (meets_dict_get (intKind p w) 33 (k := (c : Int)) (by simp [intKind, Value.isInt]) (by decide)) ⟨b3At, b3_map p w e1, q _ _ (k₁.trans Kp.tk) (hr _)⟩

theorem pLower {c d : Nat} {n : Str} {np ap pos : Pos} (h : Var hb env n tStr ⟨#[c]⟩ s) (hlow : placed ⟨#[c]⟩ (fun i _ => Unicode.lowerAt #[c] i) = #[d])
    (he : ∃ pl : Sem Bool, eval (.Call (.Attribute (.Name n np) "lower" ap) [] [] pos) env = (do
      let ov ← eval (.Name n np) env
      standAt ap.atName
      let (f, first) ← holding [ov] (getMethod ov "lower" pl)
      callWith pos f first (backTo pos (starEach [] env)) []))
    (hd : (n == ("__debug__" : Str)) = false := by decide) :
    Pv hb (model p w) A env s (.Call (.Attribute (.Name n np) "lower" ap) [] [] pos) tStr ⟨#[d]⟩ := by
  refine ⟨fun s' kp Q E q => ?_⟩
  obtain ⟨pl, he⟩ := he
  refine MethodCall_ (pl := pl) ?_ he
  refine (h.pv hd : Pv _ _ _ _ _ _ _ _).run s' kp _ _ fun v s₁ k₁ r => ?_
  obtain ⟨t, rfl⟩ := r
  refine getMethod_builtin (typeIs_str _ _ _) PySem.F.plainAttrs_str PySem.F.slot_str_lower PySem.F.type_str_lower (fun a ha => by cases ha) ?_
  refine callWith_method0 (call_gives PySem.F.slot_str_lower (typeIs_str _ _ _) PySem.F.entry_str_lower (PySem.F.args_str_lower_1 _) (gives_str_lower ⟨#[c]⟩ t (by rw [hlow]; rfl)) ?_)
  rw [hlow]
  exact ⟨by show 1 ≤ sizeLine; decide, q _ _ (k₁.trans Kp.tk) ⟨_, rfl⟩⟩
end
end
end Mine
end

section
open PySem PySem.W PyProof.Rows PySem.Calls
set_option maxRecDepth 100000
set_option maxHeartbeats 200000
namespace Mine
noncomputable section
section
variable {w : World} {hb : Heap} {mg mb : Str → Option Value} {A : Around} {s : Shared} {k : Nat} {env : Env}
theorem f_b3_some (G : Gnd w hb mg mb) {c : Nat} {y : Str} (hy : ∃ t, b3At c = some (.str y t)) : Fn hb w mg 2 "map_table_b3" (A1 tStr ⟨#[c]⟩) tStr y := by
  refine fn1 (px := "code") G m_b3 n_b3 (fun _ _ _ _ => by rfl) rfl (fun L n c h => by cases h) rfl rfl rfl fun A' L a cd s₁ C F va E => ?_
  refine wpAny_execs_cons (sAssign (n := "r") (T := tStr) (x := y) F (pB3get G (envG rfl) C.st rfl rfl va.pv (fun h => ?_) ⟨_, by rfl⟩) (.inl rfl) fun s₂ u₂ vr => ?_)
  · obtain ⟨t, e⟩ := hy
    exact ⟨t, by rw [e]; rfl⟩
  refine wpAny_execs_cons (sIf (b := true) (ptCmp (T := tStr) (x := y) (S := tNone) (y := ()) vr.pv pNone ?_) fun s₃ k₃ => ⟨fun _ => ?_, fun h => by cases h⟩)
  · rintro s' _ _ Q E _ ⟨t, rfl⟩ h2 q
    have h2 : _ = Value.none := h2
    subst h2
    exact wpAny_isNot_other rfl (fun h => by cases h) (q _ Kp.rfl)
  · exact wpAny_execs_cons (sReturn (vr.kp k₃).pv fun v s₄ k₄ r => ⟨(u₂.stp.trans k₃.stp).trans k₄.stp, v, rfl, r⟩)

theorem f_b3_low (G : Gnd w hb mg mb) {c d : Nat} (hc : c ≤ 180) (hlow : placed ⟨#[c]⟩ (fun i _ => Unicode.lowerAt #[c] i) = #[d]) : Fn hb w mg 2 "map_table_b3" (A1 tStr ⟨#[c]⟩) tStr ⟨#[d]⟩ := by
  refine fn1 (px := "code") G m_b3 n_b3 (fun _ _ _ _ => by rfl) rfl (fun L n c h => by cases h) rfl rfl rfl fun A' L a cd s₁ C F va E => ?_
  refine wpAny_execs_cons (sAssign (n := "r") (T := tNone) (x := ()) F (pB3get G (envG rfl) C.st rfl rfl va.pv (fun h => ?_) ⟨_, by rfl⟩) (.inl rfl) fun s₂ u₂ vr => ?_)
  · show (b3At c).getD .none = .none
    rw [b3_low (by omega)]; rfl
  refine wpAny_execs_cons (sIf (b := false) (ptCmp (T := tNone) (x := ()) (S := tNone) (y := ()) vr.pv pNone ?_) fun s₃ k₃ => ⟨(fun h => by cases h), fun _ => ?_⟩)
  · rintro s' v u Q E _ h1 h2 q
    have h1 : v = Value.none := h1
    have h2 : u = Value.none := h2
    subst h1; subst h2
    exact wpAny_isNot_self rfl (q _ Kp.rfl)
  · refine wpAny_execs_nil ?_
    exact wpAny_execs_cons (sReturn (pLower ((u₂.var (by decide) va).kp k₃) hlow ⟨_, by rfl⟩) fun v s₄ k₄ r => ⟨(u₂.stp.trans k₃.stp).trans k₄.stp, v, rfl, r⟩)
end
end
end Mine
end

section
open PySem PySem.W PyProof.Rows PySem.Calls
set_option maxRecDepth 100000
set_option maxHeartbeats 400000
namespace Mine
theorem slot_wd_get : Slot "wrapper_descriptor" "__get__" "wrapper_descriptor.__get__" :=
  .of (owner := "wrapper_descriptor") (n := "__get__") (by rw [typeLookup_type, builtinLookup_eq_fast]; kernel_rfl) (by decide +kernel) (by decide +kernel) (by decide +kernel)
    (by first | exact .inl (by decide +kernel) | exact .inr (by decide +kernel)) (by rw [isSubtype_type]; kernel_rfl)
theorem no_wd_set : typeLookup (.type "wrapper_descriptor") "__set__" = pure none := by rw [typeLookup_type, builtinLookup_eq_fast]; kernel_rfl
theorem no_wd_del : typeLookup (.type "wrapper_descriptor") "__delete__" = pure none := by rw [typeLookup_type, builtinLookup_eq_fast]; kernel_rfl
theorem entry_wd_get : entryFor table "wrapper_descriptor.__get__" = some Builtin.«wrapper_descriptor.__get__» := entryFor_of_tree (by kernel_rfl)
theorem args_wd_get (a b c : Value) : argsOk "wrapper_descriptor.__get__" ⟨[a, b, c], []⟩ := by unfold argsOk; kernel_rfl
theorem entry_hasattr : entryFor table "hasattr" = some Builtin.«hasattr» := entryFor_of_tree (by kernel_rfl)

theorem lk_str_gi : typeLookup (.type "str") "__getitem__" = pure (some (.builtin "str.__getitem__")) := by rw [typeLookup_type, builtinLookup_eq_fast]; kernel_rfl
theorem ty_str_gi : typeOf (.builtin "str.__getitem__") = pure (.type "wrapper_descriptor") := by kernel_rfl
theorem owner_str_gi : (".".intercalate ("str.__getitem__".cutAt '.').dropLast) = "str" := by
  have e0 : "str.__getitem__".cutAt '.' = ["str", "__getitem__"] := by first | rfl | decide +kernel
  rw [e0]; decide +kernel
theorem sub_str_gi_owner : isSubtype (.type "str") (.type (".".intercalate ("str.__getitem__".cutAt '.').dropLast)) = pure true := by
  rw [owner_str_gi, isSubtype_type]; kernel_rfl
section
variable {prog : Program} {w : World} {A : Around} {E : Value → Shared → Prop} {h : Heap} {g : Array GenState} {d : Drawn} {t : Nat} {os : OsState} {x : Str} {u : Tok}
theorem gi_get_str {R : Result → Shared → Prop}  (hq : ∀ ob, R (.ok (.ret (.ref h.objs.size))) ⟨h.push ob, g, d, t, os⟩) :
    codeAny (model prog w) A (.call (.builtin "wrapper_descriptor.__get__") ⟨[.builtin "str.__getitem__", Value.str x u, .type "str"], []⟩) R ⟨h, g, d, t, os⟩ := by
  have hT : (⟨h, g, d, t, os⟩ : Shared).TypeIs (Value.str x u) "str" := rfl
  have hT5 : (⟨h, g, d, t, os⟩ : Shared).TypeIs (.builtin "str.__getitem__") "wrapper_descriptor" := ty_str_gi
  have f8 := sub_str_gi_owner
  refine codeAny_call_builtin slot_wd_get.plain entry_wd_get (slot_wd_get.check _ _ _ _ _ _ _ _ hT5 (args_wd_get _ _ _) ?_)
  iterate 16 (any_goals (first | assumption | wp_step))
  refine wpAny_isInstance hT f8 ?_
  rw [if_neg (by decide)]
  refine wpAny_pure ?_
  unfold newFields
  refine wpAny_bind (wpAny_newObj_type ?_)
  exact wpAny_pure (hq _)
theorem gi_entry_str {tk : Tok} {Q : Fin → Shared → Prop}  (hq : ∀ ob, Q (.done (.ret (.ref h.objs.size))) ⟨h.push ob, g, d, t, os⟩) :
    wpAny (model prog w) A (Builtin.«object.__getattribute__» ⟨[Value.str x u, .str "__getitem__" tk], []⟩) Q E ⟨h, g, d, t, os⟩ := by
  have hT : (⟨h, g, d, t, os⟩ : Shared).TypeIs (Value.str x u) "str" := rfl
  have f4 := lk_str_gi
  have f5 := ty_str_gi
  have f6 := slot_wd_get.lookup
  have f7 := no_wd_set
  have f8 := no_wd_del
  repeat (any_goals (first | assumption | wp_step))
  refine gi_get_str  fun ob => ?_
  exact wpAny_pure (hq ob)
theorem gi_call_str {tk : Tok} {R : Result → Shared → Prop}  (hq : ∀ ob, R (.ok (.ret (.ref h.objs.size))) ⟨h.push ob, g, d, t, os⟩) :
    codeAny (model prog w) A (.call (.builtin "object.__getattribute__") ⟨[Value.str x u, .str "__getitem__" tk], []⟩) R ⟨h, g, d, t, os⟩ :=
  codeAny_call_builtin F.slot_str_getattribute.plain F.entry_object_getattribute (F.slot_str_getattribute.check _ _ _ _ _ _ _ _ (show (⟨h, g, d, t, os⟩ : Shared).TypeIs (Value.str x u) "str" from rfl) (F.args_object_getattribute_2 _ _) (gi_entry_str  hq))
theorem gi_by_str {tk : Tok} {Q : Value → Shared → Prop}  (hq : ∀ ob, Q (.ref h.objs.size) ⟨h.push ob, g, d, t, os⟩) : wpAny (model prog w) A (getAttrBy (Value.str x u) (.str "__getitem__" tk) false) Q E ⟨h, g, d, t, os⟩ := by
  have hT : (⟨h, g, d, t, os⟩ : Shared).TypeIs (Value.str x u) "str" := rfl
  have f2 := F.slot_str_getattribute.lookup
  have f3 := F.slot_str_getattribute.bind (Value.str x u)
  iterate 20 (any_goals (first | assumption | wp_step))
  refine wpAny_call (gi_call_str  fun ob => ?_)
  show wpAny _ A (handedOut (.ref h.objs.size)) Q E _
  exact wpAny_pure (hq ob)
theorem has_str {tk : Tok} {Q : Fin → Shared → Prop}  (hq : ∀ ob, Q (.done (.ret (.bool true))) ⟨h.push ob, g, d, t, os⟩) : wpAny (model prog w) A (Builtin.«hasattr» ⟨[Value.str x u, .str "__getitem__" tk], []⟩) Q E ⟨h, g, d, t, os⟩ := by
  have hT : (⟨h, g, d, t, os⟩ : Shared).TypeIs (Value.str x u) "str" := rfl
  unfold Builtin.«hasattr»
  refine wpAny_bind (m := someArgs "hasattr" 2 2 _) (wpAny_pure ?_)
  dsimp only
  refine wpAny_bind (wpAny_bind (wpAny_pure ?_))
  refine wpAny_pure ?_
  rw [if_neg (show ¬ ((Value.str x u == Value.builtin "__main__.__loader__#opaque") = true) from by simp)]
  refine wpAny_bind (wpAny_typeOf hT ?_)
  dsimp only
  refine wpAny_bind (wpAny_pure ?_)
  dsimp only
  refine wpAny_bind (wpAny_of_eq lk_str_gi ?_)
  dsimp only
  refine wpAny_bind (wpAny_of_eq F.slot_str_getattribute.lookup ?_)
  rw [if_neg (by decide +kernel)]
  refine wpAny_bind (wpAny_pure ?_)
  rw [if_neg (by decide)]
  unfold getAttrBy?
  refine wpAny_bind (wpAny_bind (wpAny_attempt (gi_by_str  fun ob => ?_)))
  refine wpAny_pure ?_
  rw [if_neg (by simp)]
  exact wpAny_pure (hq ob)
end
end Mine
end

section
open PySem PySem.W PyProof.Rows PySem.Calls
set_option maxRecDepth 100000
set_option maxHeartbeats 400000
namespace Mine
theorem slot_md_get : Slot "method_descriptor" "__get__" "method_descriptor.__get__" :=
  .of (owner := "method_descriptor") (n := "__get__") (by rw [typeLookup_type, builtinLookup_eq_fast]; kernel_rfl) (by decide +kernel) (by decide +kernel) (by decide +kernel)
    (by first | exact .inl (by decide +kernel) | exact .inr (by decide +kernel)) (by rw [isSubtype_type]; kernel_rfl)
theorem no_md_set : typeLookup (.type "method_descriptor") "__set__" = pure none := by rw [typeLookup_type, builtinLookup_eq_fast]; kernel_rfl
theorem no_md_del : typeLookup (.type "method_descriptor") "__delete__" = pure none := by rw [typeLookup_type, builtinLookup_eq_fast]; kernel_rfl
theorem entry_md_get : entryFor table "method_descriptor.__get__" = some Builtin.«method_descriptor.__get__» := entryFor_of_tree (by kernel_rfl)
theorem args_md_get (a b c : Value) : argsOk "method_descriptor.__get__" ⟨[a, b, c], []⟩ := by unfold argsOk; kernel_rfl
theorem told_list_gi : Manifest.toldItsClass.contains "list.__getitem__" = false := by decide +kernel
theorem sub_list_module : isSubtype (.type "list") (.type "module") = pure false := by rw [isSubtype_type]; kernel_rfl

theorem lk_list_gi : typeLookup (.type "list") "__getitem__" = pure (some (.builtin "list.__getitem__")) := by rw [typeLookup_type, builtinLookup_eq_fast]; kernel_rfl
theorem ty_list_gi : typeOf (.builtin "list.__getitem__") = pure (.type "method_descriptor") := by kernel_rfl
theorem owner_list_gi : (".".intercalate ("list.__getitem__".cutAt '.').dropLast) = "list" := by
  have e0 : "list.__getitem__".cutAt '.' = ["list", "__getitem__"] := by first | rfl | decide +kernel
  rw [e0]; decide +kernel
theorem sub_list_gi_owner : isSubtype (.type "list") (.type (".".intercalate ("list.__getitem__".cutAt '.').dropLast)) = pure true := by
  rw [owner_list_gi, isSubtype_type]; kernel_rfl
section
variable {prog : Program} {w : World} {A : Around} {E : Value → Shared → Prop} {h : Heap} {g : Array GenState} {d : Drawn} {t : Nat} {os : OsState} {a : Addr} {items : Array Value} {n : Nat}
theorem gi_get_list {R : Result → Shared → Prop} (hx : h.get? a = some { cls := .type "list", data := .seq items n }) (hq : ∀ ob, R (.ok (.ret (.ref h.objs.size))) ⟨h.push ob, g, d, t, os⟩) :
    codeAny (model prog w) A (.call (.builtin "method_descriptor.__get__") ⟨[.builtin "list.__getitem__", Value.ref a, .type "list"], []⟩) R ⟨h, g, d, t, os⟩ := by
  have hT : (⟨h, g, d, t, os⟩ : Shared).TypeIs (Value.ref a) "list" := ⟨_, hx, rfl⟩
  have hT5 : (⟨h, g, d, t, os⟩ : Shared).TypeIs (.builtin "list.__getitem__") "method_descriptor" := ty_list_gi
  have f8 := sub_list_gi_owner
  refine codeAny_call_builtin slot_md_get.plain entry_md_get (slot_md_get.check _ _ _ _ _ _ _ _ hT5 (args_md_get _ _ _) ?_)
  iterate 7 (any_goals (first | assumption | wp_step))
  refine wpAny_pure ?_
  simp only [show (Value.ref a == Value.none) = false from rfl, show (Value.type "list" == Value.none) = false from rfl, Bool.false_eq_true, if_false, told_list_gi]
  iterate 9 (first | refine wpAny_isInstance hT f8 ?_ | wp_step)
  refine wpAny_pure ?_
  unfold newFields
  refine wpAny_bind (wpAny_newObj_type ?_)
  exact wpAny_pure (hq _)
theorem gi_entry_list {tk : Tok} {Q : Fin → Shared → Prop} (hx : h.get? a = some { cls := .type "list", data := .seq items n }) (hq : ∀ ob, Q (.done (.ret (.ref h.objs.size))) ⟨h.push ob, g, d, t, os⟩) :
    wpAny (model prog w) A (Builtin.«object.__getattribute__» ⟨[Value.ref a, .str "__getitem__" tk], []⟩) Q E ⟨h, g, d, t, os⟩ := by
  have hT : (⟨h, g, d, t, os⟩ : Shared).TypeIs (Value.ref a) "list" := ⟨_, hx, rfl⟩
  have f4 := lk_list_gi
  have f5 := ty_list_gi
  have f6 := slot_md_get.lookup
  have f7 := no_md_set
  have f8 := no_md_del
  iterate 40 (any_goals (first | assumption | wp_step))
  unfold instanceDict
  refine wpAny_bind (wpAny_loadPart hx ?_)
  refine wpAny_pure ?_
  refine wpAny_pure ?_
  refine wpAny_bind ?_
  unfold Builtin.ObjectAttr.copiedAttributeGuard
  rw [if_neg (by decide +kernel)]
  refine wpAny_pure ?_
  iterate 3 (any_goals (first | assumption | wp_step))
  refine wpAny_pure ?_
  unfold Builtin.ObjectAttr.bindTo
  refine wpAny_bind (wpAny_holding (wpAny_call (gi_get_list hx fun ob => ?_)))
  exact wpAny_pure (hq ob)
theorem gi_call_list {tk : Tok} {R : Result → Shared → Prop} (hx : h.get? a = some { cls := .type "list", data := .seq items n }) (hq : ∀ ob, R (.ok (.ret (.ref h.objs.size))) ⟨h.push ob, g, d, t, os⟩) :
    codeAny (model prog w) A (.call (.builtin "list.__getattribute__") ⟨[Value.ref a, .str "__getitem__" tk], []⟩) R ⟨h, g, d, t, os⟩ :=
  codeAny_call_builtin F.slot_list_getattribute.plain F.entry_list_ga (F.slot_list_getattribute.check _ _ _ _ _ _ _ _ (show (⟨h, g, d, t, os⟩ : Shared).TypeIs (Value.ref a) "list" from ⟨_, hx, rfl⟩) (F.args_list_getattribute_2 _ _) (gi_entry_list hx hq))
theorem gi_by_list {tk : Tok} {Q : Value → Shared → Prop} (hx : h.get? a = some { cls := .type "list", data := .seq items n }) (hq : ∀ ob, Q (.ref h.objs.size) ⟨h.push ob, g, d, t, os⟩) : wpAny (model prog w) A (getAttrBy (Value.ref a) (.str "__getitem__" tk) false) Q E ⟨h, g, d, t, os⟩ := by
  have hT : (⟨h, g, d, t, os⟩ : Shared).TypeIs (Value.ref a) "list" := ⟨_, hx, rfl⟩
  have f2 := F.slot_list_getattribute.lookup
  have f3 := F.slot_list_getattribute.bind (Value.ref a)
  iterate 20 (any_goals (first | assumption | wp_step))
  refine wpAny_call (gi_call_list hx fun ob => ?_)
  show wpAny _ A (handedOut (.ref h.objs.size)) Q E _
  exact wpAny_pure (hq ob)
theorem has_list {tk : Tok} {Q : Fin → Shared → Prop} (hx : h.get? a = some { cls := .type "list", data := .seq items n }) (hq : ∀ ob, Q (.done (.ret (.bool true))) ⟨h.push ob, g, d, t, os⟩) : wpAny (model prog w) A (Builtin.«hasattr» ⟨[Value.ref a, .str "__getitem__" tk], []⟩) Q E ⟨h, g, d, t, os⟩ := by
  have hT : (⟨h, g, d, t, os⟩ : Shared).TypeIs (Value.ref a) "list" := ⟨_, hx, rfl⟩
  unfold Builtin.«hasattr»
  refine wpAny_bind (m := someArgs "hasattr" 2 2 _) (wpAny_pure ?_)
  dsimp only
  refine wpAny_bind (wpAny_bind (wpAny_pure ?_))
  refine wpAny_pure ?_
  rw [if_neg (show ¬ ((Value.ref a == Value.builtin "__main__.__loader__#opaque") = true) from by simp)]
  refine wpAny_bind (wpAny_typeOf hT ?_)
  dsimp only
  refine wpAny_bind (wpAny_pure ?_)
  dsimp only
  refine wpAny_bind (wpAny_of_eq lk_list_gi ?_)
  dsimp only
  refine wpAny_bind (wpAny_of_eq F.slot_list_getattribute.lookup ?_)
  rw [if_neg (by decide +kernel)]
  refine wpAny_bind (wpAny_bind (wpAny_pure ?_))
  dsimp only
  refine wpAny_bind (wpAny_isInstance hT sub_list_module ?_)
  rw [if_pos (by decide)]
  refine wpAny_pure ?_
  rw [if_neg (by decide)]
  unfold getAttrBy?
  refine wpAny_bind (wpAny_bind (wpAny_attempt (gi_by_list hx fun ob => ?_)))
  refine wpAny_pure ?_
  rw [if_neg (by simp)]
  exact wpAny_pure (hq ob)
end
end Mine
end

section
open PySem PySem.W PyProof.Rows PySem.Calls
set_option maxRecDepth 100000
set_option maxHeartbeats 200000
namespace Mine
noncomputable section
theorem m_concat : D 11 ∈ recsOf qv := List.mem_of_getElem? (i := 5) (by kernel_rfl)
theorem n_concat : (D 11).name = "concat" := by kernel_rfl
section
variable {w : World} {hb : Heap} {mg mb : Str → Option Value} {A : Around} {s : Shared} {k : Nat} {env : Env}
/-- a call of a function that is built in, two arguments -/
theorem pB2 {α β γ : Type} {T : Ty α} {x : α} {U : Ty γ} {z : γ} {S : Ty β} {y : β} {f : Str} {id : String} {e e' : PySem.Expr} {fp pos : Pos} (G : Gnd w hb mg mb) (V : EnvG env) (st : hb.StaysIn s.heap)
    (hm : mg f = .none) (hbu : mb f = some (.builtin id))
    (hx : env.kindOf f = some .globalImplicit) (h : Pv hb (model p w) A env s e T x) (h' : Pv hb (model p w) A env s e' U z)
    (F : ∀ s' v u (Q : Value → Shared → Prop) (E : Value → Shared → Prop), Kp hb s s' → T.at s'.heap v x → U.at s'.heap u z → (∀ v' s'', Kp hb s' s'' → S.at s''.heap v' y → Q v' s'') → wpAny (model p w) A (call (.builtin id) [v, u]) Q E s')
    (hdb : (f == ("__debug__" : Str)) = false := by decide)
    (he : ∀ _ : PySem.Expr, eval (.Call (.Name f fp) [e, e'] [] pos) env = (do callWith pos (← eval (.Name f fp) env) [] (backTo pos (starEach [e, e'] env)) (backToKw pos (keywordEach [] env))) := by intro _; rfl)
    (hs : starEach [e, e'] env = (false, eval e env) :: starEach [e'] env := by rfl) (hs' : starEach [e'] env = (false, eval e' env) :: starEach [] env := by rfl) :
    Pv hb (model p w) A env s (.Call (.Name f fp) [e, e'] [] pos) S y := by
  refine ⟨fun s' kp Q E q => ?_⟩
  refine Call_ (ld_builtin G (kp.ext.base st) V.kind V.glob V.built hx hm hbu hdb ?_) (he e)
  exact callWith_builtin1 (args_cons (h.run s' kp _ _ fun v s₁ k₁ r => args_cons (h'.run s₁ (kp.trans k₁) _ _ fun v' s₂ k₂ r' => args_nil (F s₂ v v' Q E ((kp.trans k₁).trans k₂) (Ty.at_ext r k₂.ext) r' fun v'' s₃ k₃ r'' => q v'' s₃ ((k₁.trans k₂).trans k₃) r'')) hs') hs) hs (by rw [hs']; rfl)

theorem ptOf {b : Bool} {e : PySem.Expr} {M : Model} (h : Pv hb M A env s e tBool b) (he : ∀ whole, isTrue e env whole = (do let v ← whole; standAt e.pos; holding [v] (truthy v)) := by intro _; rfl) : Pt hb M A env s e b :=
  ⟨fun s' k Q E q => isTrue_plain (h.run s' k _ _ fun v s₁ k₁ r => by
    have r : v = .bool b := r
    subst r
    exact wpAny_truthy_bool (q s₁ k₁)) (he _)⟩
theorem ptNot {b : Bool} {e : PySem.Expr} {pos : Pos} {M : Model} (h : Pt hb M A env s e b) : Pt hb M A env s (.UnaryOp .Not e pos) (!b) :=
  ⟨fun s' k Q E q => wpAny_isTrue_Not (h.run s' k _ _ fun s₁ k₁ => q s₁ k₁)⟩

theorem call_has_str {x : Str} {u tk : Tok} {Q : Value → Shared → Prop} {E : Value → Shared → Prop} (q : ∀ s'', Kp hb s s'' → Q (.bool true) s'') : wpAny (model p w) A (call (.builtin "hasattr") [.str x u, .str "__getitem__" tk]) Q E s := by
  obtain ⟨h, g, d, t, os⟩ := s
  exact call_function_entry (by kernel_rfl) (by decide +kernel) entry_hasattr (by unfold argsOk; kernel_rfl) (has_str fun ob => ⟨_, rfl, q _ (Kp.mkH fun b o e => Heap.get?_push_of_some _ e)⟩)
theorem call_has_list {a : Addr} {items : Array Value} {tk : Tok} {Q : Value → Shared → Prop} {E : Value → Shared → Prop} (hl : s.heap.PlainList a items) (q : ∀ s'', Kp hb s s'' → Q (.bool true) s'') : wpAny (model p w) A (call (.builtin "hasattr") [.ref a, .str "__getitem__" tk]) Q E s := by
  obtain ⟨h, g, d, t, os⟩ := s
  obtain ⟨n, hl⟩ := hl
  exact call_function_entry (by kernel_rfl) (by decide +kernel) entry_hasattr (by unfold argsOk; kernel_rfl) (has_list hl fun ob => ⟨_, rfl, q _ (Kp.mkH fun b o e => Heap.get?_push_of_some _ e)⟩)

theorem pStrAdd {x y : Str} {l r : PySem.Expr} {pos : Pos} (hsz : x.length + y.length ≤ sizeLine) (hl : Pv hb (model p w) A env s l tStr x) (hr : Pv hb (model p w) A env s r tStr y) : Pv hb (model p w) A env s (.BinOp l .Add r pos) tStr (x ++ y) :=
  pBin hl hr fun s' _ _ Q E _ ⟨_, h1⟩ ⟨_, h2⟩ q => by
    subst h1; subst h2
    refine P.add_str ?_
    split
    · rename_i e
      have : x ++ y = y := by
        have e : x.cps.size = 0 := eq_of_beq e
        obtain ⟨x⟩ := x; obtain ⟨y⟩ := y
        have e : x = #[] := Array.eq_empty_of_size_eq_zero e
        subst e
        show Str.mk (#[] ++ y) = _
        simp
      rw [this] at q
      exact q _ _ Kp.rfl ⟨_, rfl⟩
    · split
      · rename_i e
        have : x ++ y = x := by
          have e : y.cps.size = 0 := eq_of_beq e
          obtain ⟨x⟩ := x; obtain ⟨y⟩ := y
          have e : y = #[] := Array.eq_empty_of_size_eq_zero e
          subst e
          show Str.mk (x ++ #[]) = _
          simp
        rw [this] at q
        exact q _ _ Kp.rfl ⟨_, rfl⟩
      · have e : (x ++ y).length = x.length + y.length := by
          show (x.cps ++ y.cps).size = _
          simp [Str.length]
        exact ⟨by rw [e]; exact hsz, q _ _ Kp.tk ⟨_, rfl⟩⟩
theorem pListAdd {α : Type} {T : Ty α} {x y : List α} {l r : PySem.Expr} {pos : Pos} (hsz : x.length + y.length ≤ sizeLine) (hl : Pv hb (model p w) A env s l (tList T) x) (hr : Pv hb (model p w) A env s r (tList T) y) : Pv hb (model p w) A env s (.BinOp l .Add r pos) (tList T) (x ++ y) :=
  pBin hl hr fun s' v u Q E _ h1 h2 q => by
    obtain ⟨a, xs, rfl, _, ⟨n, l1⟩, f1⟩ := h1
    obtain ⟨b, ys, rfl, _, ⟨n2, l2⟩, f2⟩ := h2
    have up : ∀ b o, s'.heap.get? b = some o → (s'.heap.push { cls := .type "list", data := .seq (xs.toArray ++ ys.toArray) }).get? b = some o := fun b o e => Heap.get?_push_of_some _ e
    refine P.add_list l1 l2 (q _ _ (Kp.mkH up) ⟨_, xs ++ ys, rfl, trivial, ⟨0, ?_⟩, paired_append (paired_ext (hb := hb) f1 (.of up)) (paired_ext (hb := hb) f2 (.of up))⟩) ?_
    · rw [← List.append_toArray]; exact Heap.get?_push_size _ rfl
    · have e1 := paired_len f1
      have e2 := paired_len f2
      simp only [List.size_toArray]; omega
end
end
end Mine
end

section
open PySem PySem.W PyProof.Rows PySem.Calls
set_option maxRecDepth 100000
set_option maxHeartbeats 200000
namespace Mine
noncomputable section
section
variable {w : World} {hb : Heap} {mg mb : Str → Option Value} {A : Around} {s : Shared} {k : Nat} {env : Env}
theorem f_concat_str (G : Gnd w hb mg mb) (x y : Str) (hsz : x.length + y.length ≤ sizeLine) : Fn hb w mg 1 "concat" (A2 tStr x tStr y) tStr (x ++ y) := by
  refine fn2 (px := "a") (pz := "b") G m_concat n_concat (fun _ _ _ _ _ => by rfl) rfl rfl (by decide) (fun L n c h => by cases h) rfl rfl rfl fun A' L a cd s₁ C F va vb E => ?_
  refine wpAny_execs_cons (sIf (hb := hb) (b := false) (ptNot (b := true) (ptOf ?_)) fun s₃ k₃ => ⟨(fun h => by cases h), fun _ => ?_⟩)
  · refine pB2 G (envG rfl) C.st (G.none (by kernel_rfl)) (G.bu (v := .builtin "hasattr") (by decide) (by kernel_rfl)) rfl va.pv (pStr (i := "__getitem__")) ?_
    rintro s' v u Q E _ ⟨t, rfl⟩ ⟨t', rfl⟩ q
    exact call_has_str fun s'' k => q _ _ k rfl
  · refine wpAny_execs_nil ?_
    exact sRet k₃.stp (pStrAdd hsz (va.kp k₃).pv (vb.kp k₃).pv)
theorem f_concat_list {α : Type} {T : Ty α} (G : Gnd w hb mg mb) (x y : List α) (hsz : x.length + y.length ≤ sizeLine) : Fn hb w mg 1 "concat" (A2 (tList T) x (tList T) y) (tList T) (x ++ y) := by
  refine fn2 (px := "a") (pz := "b") G m_concat n_concat (fun _ _ _ _ _ => by rfl) rfl rfl (by decide) (fun L n c h => by cases h) rfl rfl rfl fun A' L a cd s₁ C F va vb E => ?_
  refine wpAny_execs_cons (sIf (hb := hb) (b := false) (ptNot (b := true) (ptOf ?_)) fun s₃ k₃ => ⟨(fun h => by cases h), fun _ => ?_⟩)
  · refine pB2 G (envG rfl) C.st (G.none (by kernel_rfl)) (G.bu (v := .builtin "hasattr") (by decide) (by kernel_rfl)) rfl va.pv (pStr (i := "__getitem__")) ?_
    rintro s' v u Q E _ ⟨a, xs, rfl, _, l, f⟩ ⟨t', rfl⟩ q
    exact call_has_list l fun s'' k => q _ _ k rfl
  · refine wpAny_execs_nil ?_
    exact sRet k₃.stp (pListAdd hsz (va.kp k₃).pv (vb.kp k₃).pv)
end
end
end Mine
end

section
open PySem PySem.W PyProof.Rows PySem.Calls
set_option maxRecDepth 100000
set_option maxHeartbeats 200000
namespace Mine
noncomputable section
section
variable {w : World} {hb : Heap} {mg mb : Str → Option Value} {A : Around} {s : Shared} {k : Nat} {env : Env}
/-- what a comprehension's (or a loop's) iterable yields -/
def SrcOf {α : Type} (hb : Heap) (w : World) (A : Around) (env : Env) (target iter : PySem.Expr) (s : Shared) (xs : List α) (PP : α → Value → Heap → Prop) : Prop :=
  ∀ (Q : Value → Shared → Prop) (E : Value → Shared → Prop), (∀ it s₂, Src hb w A target s xs PP it s₂ → Q it s₂) → wpAny (model p w) A (eval iter env) (fun xv s₁ => wpAny (model p w) A (pyIter xv) Q E s₁) E s

theorem none_of_kp {s₁ : Shared} (k₁ : Kp hb s s₁) {b : Addr} (h : s₁.heap.objs.size ≤ b) : s.heap.get? b = none := by
  cases e : s.heap.get? b with
  | none => rfl
  | some o =>
    obtain ⟨sl, e', _⟩ := k₁.ext.stay _ o id e
    exact absurd (Heap.lt_size e') (Nat.not_lt.mpr h)

theorem walks_str (hh : A.handled = none) (I : Addr) (x : Str) (t : Tok) : Walks p w A I [I] [I] x.cps.size (SignAt x) (fun i h => h.IsStrIter I (strIterType x) x t i) := by
  unfold strIterType
  split
  · exact Walks.strAscii hh I x t
  · exact Walks.strWide hh I x t
theorem strIterType_nf (x : Str) : Value.type (strIterType x) ≠ .type "frame" := by
  unfold strIterType
  split <;> decide

theorem srcStr {x : Str} {n : Str} {tp : Pos} {iter : PySem.Expr} (hh : A.handled = none) (h : Pv hb (model p w) A env s iter tStr x) :
    SrcOf hb w A env (.Name n tp) iter s x.cps.toList (fun c v h => tStr.at h v ⟨#[c]⟩) := by
  intro Q E q
  refine h.go fun v s₁ k₁ r => ?_
  obtain ⟨t, rfl⟩ := r
  refine wpAny_pyIter_strU (q _ _ ⟨k₁.trans (Kp.mkH fun b o e => Heap.get?_push_of_some _ e), ?_⟩)
  refine ⟨s₁.heap.objs.size, [s₁.heap.objs.size], [s₁.heap.objs.size], fun i v _ => SignAt x i v, fun i v h => SignAt x i v ∧ h.IsStrIter s₁.heap.objs.size (strIterType x) x t (i + 1), fun i h => h.IsStrIter s₁.heap.objs.size (strIterType x) x t i, rfl, ?_, ?_, ?_, ?_, ?_, ?_, ?_⟩
  · have W := KTurns.ofWalks (target := .Name n tp) (walks_str (w := w) (A := A) hh s₁.heap.objs.size x t) (fun i v s Q E _ hq => wpAny_pure hq)
    rw [show x.cps.size = x.cps.toList.length from (Array.length_toList ..).symm] at W
    exact W
  · intro i h ⟨o, e1, c1, d1⟩ b hbf
    rw [List.mem_singleton.mp hbf]
    exact ⟨o, e1, fun ⟨_, _, q⟩ => (by rw [d1] at q; cases q), fun _ ⟨_, _, q⟩ => by rw [d1] at q; cases q⟩
  · intro b hbw
    rw [List.mem_singleton.mp hbw]
    exact none_of_kp k₁ (Nat.le_refl _)
  · intro b hbf
    rw [List.mem_singleton.mp hbf]
    show _ < (s₁.heap.push _).objs.size
    rw [Heap.size_push]
    exact Nat.lt_succ_self _
  · exact ⟨_, Heap.get?_push_size _ rfl, rfl, rfl⟩
  · rintro i c v h hx ⟨c', u, hc', rfl⟩
    have : c = c' := by simpa [hc'] using hx.symm
    subst this
    exact ⟨u, rfl⟩
  · intro i s' Q E st hq
    exact (walks_str (A := A) hh _ x t).self i s' Q E st hq


theorem callType1 {pos : Pos} {id : String} {e : PySem.Expr} {rest : List PySem.Expr} {M : Model} {E : Value → Shared → Prop} {Q : Value → Shared → Prop}
    (h : wpAny M A (spliced (backTo pos (starEach (e :: rest) env))) (fun vs s₁ => wpAny M A (call (.type id) vs) Q E s₁) E s)
    (he : starEach (e :: rest) env = (false, eval e env) :: starEach rest env) (hplain : (backTo pos (starEach rest env)).any (·.1) = false) :
    wpAny M A (callWith pos (.type id) [] (backTo pos (starEach (e :: rest) env)) []) Q E s := by
  rw [he] at h ⊢
  exact PyProof.Rows.callWith_type (by show (false || (backTo pos (starEach rest env)).any (·.1)) = false; rw [hplain]; rfl) (evalArgs_plain h)

theorem srcRange {n : Nat} {m : Str} {tp fp cp : Pos} {e : PySem.Expr} (hh : A.handled = none) (G : Gnd w hb mg mb) (V : EnvG env) (st : hb.StaysIn s.heap) (hx : env.kindOf "range" = some .globalImplicit)
    (h : Pv hb (model p w) A env s e tInt (n : Int)) (hn : n < 2 ^ 32)
    (he : ∀ _ : PySem.Expr, eval (.Call (.Name "range" fp) [e] [] cp) env = (do callWith cp (← eval (.Name "range" fp) env) [] (backTo cp (starEach [e] env)) (backToKw cp (keywordEach [] env))) := by intro _; rfl)
    (hs : starEach [e] env = (false, eval e env) :: starEach [] env := by rfl) :
    SrcOf hb w A env (.Name m tp) (.Call (.Name "range" fp) [e] [] cp) s (List.range n) (fun i v h => tInt.at h v (i : Int)) := by
  intro Q E q
  refine Call_ (ld_builtin (v := .type "range") G st V.kind V.glob V.built hx (G.none (by kernel_rfl)) (G.bu (by decide) boot_range) (by decide) ?_) (he e)
  refine callType1 (args_cons (h.go fun v s₁ k₁ r => args_nil ?_) hs) hs rfl
  obtain ⟨t, rfl⟩ := r
  refine call_range_1 ?_
  have sz : Builtin.Range.rangeSize 0 (n : Int) 1 = n := by
    rw [rangeSize_one]; split <;> omega
  refine wpAny_pyIter_range (IsRange.new _ _ _ _ _ _ _) (small_one (by omega) (by omega) (by omega) (by omega)) ?_
  rw [sz]
  simp only [Heap.size_push]
  have up : ∀ b o, s₁.heap.get? b = some o → ((s₁.heap.push { cls := .type "range", data := .fields #[.int 0 s₁.toks, .int n t, .int 1 (s₁.toks + 1)] }).push { cls := .type "range_iterator", data := .fields #[rawInt 0, rawInt n, rawInt 1] }).get? b = some o :=
    fun b o e => Heap.get?_push_of_some _ (Heap.get?_push_of_some _ e)
  refine q _ _ ⟨k₁.trans (Kp.mk' (by show _ ≤ s₁.toks + 1 + 1; omega) up), ?_⟩
  refine ⟨s₁.heap.objs.size + 1, [s₁.heap.objs.size + 1], [s₁.heap.objs.size + 1], fun i v _ => ∃ t, v = .int (0 + (i : Int) * 1) t, fun i v h => (∃ t, v = .int (0 + (i : Int) * 1) t) ∧ IsRangeIter h (s₁.heap.objs.size + 1) (0 + ((i + 1 : Nat) : Int) * 1) ((n : Int) - ((i + 1 : Nat) : Int)) 1,
    fun i h => IsRangeIter h (s₁.heap.objs.size + 1) (0 + ((i : Nat) : Int) * 1) ((n : Int) - ((i : Nat) : Int)) 1, rfl, ?_, ?_, ?_, ?_, ?_, ?_, ?_⟩
  · have W := KTurns.ofWalks (target := .Name m tp) (Walks.range (prog := p) (w := w) (A := A) hh (s₁.heap.objs.size + 1) 0 1 n) (fun i v s Q E _ hq => wpAny_pure hq)
    rw [List.length_range]
    exact W
  · intro i h st b hbf
    rw [List.mem_singleton.mp hbf]
    exact ⟨_, st, fun ⟨_, _, q⟩ => (by cases q), fun _ ⟨_, _, q⟩ => by cases q⟩
  · intro b hbw
    rw [List.mem_singleton.mp hbw]
    exact none_of_kp k₁ (Nat.le_succ _)
  · intro b hbf
    rw [List.mem_singleton.mp hbf]
    show _ < ((s₁.heap.push _).push _).objs.size
    rw [Heap.size_push, Heap.size_push]
    omega
  · have := Heap.get?_push_size (s₁.heap.push { cls := .type "range", data := .fields #[.int 0 s₁.toks, .int n t, .int 1 (s₁.toks + 1)] }) (o := { cls := .type "range_iterator", data := .fields #[rawInt 0, rawInt n, rawInt 1] }) rfl
    rw [Heap.size_push] at this
    simpa [IsRangeIter] using this
  · rintro i j v h hx ⟨t, rfl⟩
    obtain ⟨h1, h2⟩ := List.getElem?_eq_some_iff.mp hx
    have : i = j := by simpa using h2
    subst this
    exact ⟨t, by simp⟩
  · intro i s' Q E st hq
    exact wpAny_pyIter_rangeiter st hq

/-- a list of pairs, unpacked -/
theorem srcListT {α : Type} {T : Ty α} {elts : List PySem.Expr} {x1 : Nat} {tp : Pos} {iter : PySem.Expr} {xs : List α} (hh : A.handled = none) (h : ListAt hb w A env s iter T xs) :
    SrcOf hb w A env (.Tuple elts x1 tp) iter s xs (fun x v _ => T.at s.heap v x) := by
  intro Q E q
  refine h _ _ fun a vs s₁ k₁ l f => ?_
  refine wpAny_pyIter_list l (q _ _ ⟨k₁.trans (Kp.mkH fun b o e => Heap.get?_push_of_some _ e), ?_⟩)
  have hlt : a < s₁.heap.objs.size := let ⟨_, e, _⟩ := l; Heap.lt_size e
  have hlen := paired_len f
  refine ⟨s₁.heap.objs.size, [s₁.heap.objs.size, a], [s₁.heap.objs.size], fun i v _ => vs.toArray[i]? = some v, fun i v h => vs.toArray[i]? = some v ∧ (h.IsListIter s₁.heap.objs.size a (i + 1) ∧ h.IsList a vs.toArray), fun i h => h.IsListIter s₁.heap.objs.size a i ∧ h.IsList a vs.toArray, rfl, ?_, ?_, ?_, ?_, ?_, ?_, ?_⟩
  · have W := KTurns.ofWalks (target := .Tuple elts x1 tp) (Walks.list (prog := p) (w := w) (A := A) hh s₁.heap.objs.size a (Nat.ne_of_lt hlt) vs.toArray) (fun i v s Q E st hq => by
      cases v
      case ref T => exact wpAny_letOwnedTupleGo_listiter st.1 hq
      all_goals exact wpAny_pure hq)
    rw [show vs.toArray.size = xs.length from (List.size_toArray ..).trans hlen] at W
    exact W
  · intro i h st b hbf
    obtain ⟨⟨o, e1, c1, d1⟩, ⟨o2, e2, c2, n2, d2⟩⟩ := st
    simp only [List.mem_cons, List.not_mem_nil, or_false] at hbf
    rcases hbf with rfl | rfl
    · exact ⟨o, e1, fun ⟨_, _, q⟩ => (by rw [d1] at q; cases q), fun _ ⟨_, _, q⟩ => by rw [d1] at q; cases q⟩
    · exact ⟨o2, e2, fun ⟨_, _, q⟩ => (by rw [d2] at q; cases q), fun q => absurd (List.mem_singleton.mp q) (Nat.ne_of_lt hlt)⟩
  · intro b hbw
    rw [List.mem_singleton.mp hbw]
    exact none_of_kp k₁ (Nat.le_refl _)
  · intro b hbf
    show b < (s₁.heap.push _).objs.size
    rw [Heap.size_push]
    simp only [List.mem_cons, List.not_mem_nil, or_false] at hbf
    rcases hbf with rfl | rfl
    · exact Nat.lt_succ_self _
    · exact Nat.lt_succ_of_lt hlt
  · exact ⟨⟨_, Heap.get?_push_size _ rfl, rfl, rfl⟩, l.push _⟩
  · intro i x v h hx hv
    obtain ⟨v', hv', r⟩ := paired_get f hx
    have : some v = some v' := by rw [← hv', ← hv]; simp
    cases this
    exact r
  · exact fun i s' Q E st hq => wpAny_pyIter_listiter st.1 hq
end
end
end Mine
end

section
open PySem PySem.W PyProof.Rows PySem.Calls
set_option maxRecDepth 100000
set_option maxHeartbeats 200000
namespace Mine
noncomputable section
section
variable {w : World} {hb : Heap} {mg mb : Str → Option Value} {A : Around} {s : Shared} {k : Nat} {env : Env}

theorem store_localS {α : Type} {T : Ty α} {x : α} {n : Str} {v : Value} {Q : Unit → Shared → Prop} {E : Value → Shared → Prop} {M : Model} (F : FrmOk hb env s) (hl : env.kindOf n = some .local) (r : T.at s.heap v x)
    (h : ∀ h', Heap.SameBut env.locals s.heap h' → (∃ m', h'.Ns env.locals m') → Upd hb env n s { s with heap := h', toks := s.toks + 1 } → Var hb env n T x { s with heap := h', toks := s.toks + 1 } → Q () { s with heap := h', toks := s.toks + 1 }) :
    wpAny M A (storeName env n v) Q E s := by
  obtain ⟨m, cm, F⟩ := F
  have r' := F.okF r
  refine wpAny_storeName_local hl F.ns (fun h' hn' hs' => ?_) (by rw [F.kind]; rfl)
  have F' : Frm hb env (upd m n v) cm { s with heap := h', toks := s.toks + 1 } := ⟨F.kind, hn', fun k c hc => (F.cell k c hc).sameBut hs' (Ne.symm (F.ne (mem_of_lookup hc))), fun k c hc => by
    obtain ⟨v, x⟩ := F.all k c hc
    exact ⟨v, x.sameBut hs' (Ne.symm (F.ne hc))⟩, F.apart, F.new⟩
  have K : Stp hb env s { s with heap := h', toks := s.toks + 1 } := stp_of (Nat.le_succ _) hs' (Or.inl rfl) F.new fun _ _ _ => ns_nf hn'
  refine h h' hs' ⟨_, hn'⟩ ⟨K, ⟨_, _, F'⟩, ?_⟩ ⟨_, _, F', v, T.stp r' K, .inl ⟨hl, upd_self⟩⟩
  rintro β S n' y hne ⟨m₁, cm₁, F₁, u, ru, o⟩
  have em : m₁ = m := ns_unique F₁.ns F.ns
  subst em
  refine ⟨_, _, F', u, S.stp ru K, o.imp (fun q => ⟨q.1, (upd_ne hne).trans q.2⟩) fun ⟨q, c, hc, hv⟩ => ⟨q, c, hc, ?_⟩⟩
  rw [← hv]; exact cell_unique (F.cell _ _ hc) (F₁.cell _ _ hc)

/-- what a comprehension's frame sees of the frame around it -/
structure Sees (hb : Heap) (env cenv : Env) (s s₃ : Shared) : Prop where
  var : ∀ {α : Type} {S : Ty α} {n : Str} {y : α}, Var hb env n S y s → env.kindOf n = some .cell → cenv.kindOf n = some .cell → cenv.cells.lookup n = env.cells.lookup n → Var hb cenv n S y s₃
theorem Sees.kp {cenv : Env} {s₃ s₄ : Shared} (h : Sees hb env cenv s s₃) (k : Kp hb s₃ s₄) : Sees hb env cenv s s₄ := ⟨fun a b c d => (h.var a b c d).kp k⟩
theorem Sees.upd {cenv : Env} {n : Str} {s₃ s₄ : Shared} (h : Sees hb env cenv s s₃) (hn : cenv.kindOf n = some .local) (u : Upd hb cenv n s₃ s₄) : Sees hb env cenv s s₄ :=
  ⟨fun a b c d => u.var (fun q => by subst q; rw [hn] at c; cases c) (h.var a b c d)⟩

theorem frm_comp {scope : Scope} {cl : List (Str × Addr)} {C : Addr} {s₃ : Shared} {m₃ : Str → Option Value} (F : FrmOk hb env s) (st : hb.StaysIn s.heap) (hkind : scope.kind = .function)
    (hcl : ∀ n c, (n, c) ∈ cl → (n, c) ∈ env.cells) (hap : cl.Pairwise fun x y => x.2 ≠ y.2) (hlk : ∀ n c, cl.lookup n = some c → env.cells.lookup n = some c)
    (hC : s.heap.get? C = none) (hn : s₃.heap.Ns C m₃) (lp : Lp hb s.heap s s₃) :
    FrmOk hb (compEnvC scope cl C env) s₃ ∧ Sees hb env (compEnvC scope cl C env) s s₃ := by
  obtain ⟨m, cm, F⟩ := F
  have old : ∀ {a : Addr} {o : Obj}, s.heap.get? a = some o → ¬ s.heap.get? a = none := fun e q => by rw [q] at e; cases e
  have cells : ∀ n c, (n, c) ∈ cl → ∀ v, s.heap.IsCell c v → s₃.heap.IsCell c v := fun n c _ v x => lp.ext.cell x (by obtain ⟨o, e, _⟩ := x; exact old e)
  have F' : Frm hb (compEnvC scope cl C env) m₃ cm s₃ := ⟨hkind, hn, fun n c h => cells n c (mem_of_lookup h) _ (F.cell n c (hlk n c h)), fun n c h => let ⟨v, x⟩ := F.all n c (hcl n c h); ⟨v, cells n c h v x⟩, hap, fun b hbd => by
    rcases hbd with e | ⟨n, hc⟩
    · rw [show b = C from e]
      cases e : hb.get? C with
      | none => rfl
      | some o => have := st C o e; rw [hC] at this; cases this
    · exact F.new b (Or.inr ⟨n, hcl n b hc⟩)⟩
  refine ⟨⟨_, _, F'⟩, ⟨?_⟩⟩
  rintro α S n y ⟨m₁, cm₁, F₁, u, ru, o⟩ hk hk' hl
  refine ⟨_, _, F', u, F'.okF (ok := fun _ => True) ?_, .inr ⟨hk', ?_⟩⟩
  · refine S.mono (Ty.move (S.seq ru) lp.ext ?_) fun _ _ => trivial
    rintro a ⟨_, o, xs, n, e, _⟩
    exact old e
  · rcases o with ⟨q, _⟩ | ⟨_, c, hc, hv⟩
    · rw [hk] at q; cases q
    · refine ⟨c, hl.trans hc, ?_⟩
      rw [← hv]; exact cell_unique (F.cell _ _ hc) (F₁.cell _ _ hc)

/-- what the element of a comprehension gives -/
def EltAt {β : Type} (hb : Heap) (w : World) (A : Around) (env : Env) (h₀ : Heap) (s : Shared) (e : PySem.Expr) (T : Ty β) (y : β) : Prop :=
  ∀ s₅, Kp hb s s₅ → ∀ E' : Value → Shared → Prop, wpAny (model p w) A (eval e env) (fun v s₆ => Kp hb s₅ s₆ ∧ T.R (okN h₀ s₅.heap) s₆.heap v y) E' s₅
theorem EltAt.flat {β : Type} {T : Ty β} {y : β} {e : PySem.Expr} {h₀ : Heap} (hT : T.Flat) (h : Pv hb (model p w) A env s e T y) : EltAt hb w A env h₀ s e T y :=
  fun s₅ k E' => h.run s₅ k _ _ fun v s₆ k₆ r => ⟨k₆, hT _ _ _ _ _ _ r⟩

theorem forIn_nil {M : Model} {Q : Bool → Shared → Prop} {E : Value → Shared → Prop} (h : Q true s) : wpAny M A (forIn ([] : List PySem.Expr) true fun c r => if r = true then do let ok ← isTrue c env (eval c env); pure (ForInStep.yield ok) else pure (ForInStep.yield r)) Q E s := wpAny_pure h
theorem forIn_one {M : Model} {c : PySem.Expr} {b : Bool} {Q : Bool → Shared → Prop} {E : Value → Shared → Prop} (hc : Pt hb M A env s c b) (h : ∀ s', Kp hb s s' → Q b s') : wpAny M A (forIn [c] true fun c r => if r = true then do let ok ← isTrue c env (eval c env); pure (ForInStep.yield ok) else pure (ForInStep.yield r)) Q E s := by
  rw [List.forIn_cons]
  refine wpAny_bind ?_
  show wpAny M A (do let ok ← isTrue c env (eval c env); pure (ForInStep.yield ok)) _ _ _
  refine wpAny_bind (hc.go fun s' k => wpAny_pure ?_)
  exact wpAny_pure (h s' k)

/-- the tests of a comprehension -/
inductive Tests (hb : Heap) (M : Model) (A : Around) (env : Env) (s : Shared) : List PySem.Expr → Bool → Prop
  | nil : Tests hb M A env s [] true
  | one {c b} : Pt hb M A env s c b → Tests hb M A env s [c] b
theorem Tests.go {M : Model} {ifs : List PySem.Expr} {b : Bool} {Q : Bool → Shared → Prop} {E : Value → Shared → Prop} (T : Tests hb M A env s ifs b) (h : ∀ s', Kp hb s s' → Q b s') :
    wpAny M A (forIn ifs true fun c r => if r = true then do let ok ← isTrue c env (eval c env); pure (ForInStep.yield ok) else pure (ForInStep.yield r)) Q E s := by
  cases T with
  | nil => exact forIn_nil (h s Kp.rfl)
  | one hc => exact forIn_one hc h

/-- a comprehension with one name -/
theorem compName {α β γ : Type} {T : Ty γ} {T' : Ty β} {elt iter : PySem.Expr} {ifs : List PySem.Expr} {scope : Scope} {cl : List (Str × Addr)} {n : Str} {tp : Pos} {xs : List α} {pp : α → Bool} {f : α → β} {g : α → γ} {PP : α → Value → Heap → Prop}
    (F : FrmOk hb env s) (st : hb.StaysIn s.heap) (hkind : scope.kind = .function)
    (hcl : ∀ n c, (n, c) ∈ cl → (n, c) ∈ env.cells) (hap : cl.Pairwise fun x y => x.2 ≠ y.2) (hlk : ∀ n c, cl.lookup n = some c → env.cells.lookup n = some c)
    (hl : ∀ C, (compEnvC scope cl C env).kindOf n = some .local)
    (src : SrcOf hb w A env (.Name n tp) iter s xs PP)
    (hPP : ∀ x v s₃, PP x v s₃.heap → Lp hb s.heap s s₃ → T.at s₃.heap v (g x))
    (H : ∀ (i : Nat) x C s₄, xs[i]? = some x → Kp hb s s₄ → FrmOk hb (compEnvC scope cl C env) s₄ → Sees hb env (compEnvC scope cl C env) s s₄ → Var hb (compEnvC scope cl C env) n T (g x) s₄ →
      (∀ v, T.at s₄.heap v (g x) → True) → Tests hb (model p w) A (compEnvC scope cl C env) s₄ ifs (pp x) ∧ (pp x = true → EltAt hb w A (compEnvC scope cl C env) s.heap s₄ elt T' (f x))) :
    CompAt hb w A env elt (.Name n tp) iter ifs scope cl T' xs pp f PP s := by
  refine ⟨src, fun i x v C s₃ m₃ E' hx hP hC hn lp => ?_⟩
  obtain ⟨F₃, S₃⟩ := frm_comp F st hkind hcl hap hlk hC hn lp
  refine wpAny_assign_Name (store_localS (T := T) (x := g x) F₃ (hl C) (hPP x v s₃ hP lp) fun h' hs' hn' u vx => ?_)
  refine ⟨⟨h', s₃.toks + 1, rfl, Nat.le_succ _, hs'.extBut, hn'⟩, ?_⟩
  have k₄ : Kp hb s { s₃ with heap := h', toks := s₃.toks + 1 } := by
    exact (lp_kp (h₀ := hb) lp st hC hs' rfl).trans Kp.tk
  obtain ⟨ht, he⟩ := H i x C _ hx k₄ u.frm (S₃.upd (hl C) u) vx fun _ _ => trivial
  refine ht.go fun s₅ k₅ => ⟨k₅, rfl, fun hp => he hp s₅ k₅ E'⟩
end
end
end Mine
end

section
open PySem PySem.W PyProof.Rows PySem.Calls
set_option maxRecDepth 100000
set_option maxHeartbeats 200000
namespace Mine
noncomputable section
section
variable {w : World} {hb : Heap} {mg mb : Str → Option Value} {A : Around} {s : Shared} {k : Nat} {env : Env}
/-- the names were bound, in this frame -/
structure AStep (hb : Heap) (env : Env) (ns : List Str) (s s' : Shared) : Prop where
  same : ∃ h' t, s' = { s with heap := h', toks := t }
  tok : s.toks ≤ s'.toks
  ext : Heap.ExtBut env.locals s.heap s'.heap
  stp : Stp hb env s s'
  frm : FrmOk hb env s'
  var : ∀ {α : Type} {S : Ty α} {n' : Str} {y : α}, n' ∉ ns → Var hb env n' S y s → Var hb env n' S y s'
theorem AStep.ty {ns : List Str} {s' : Shared} {α : Type} {T : Ty α} {v : Value} {x : α} (k : AStep hb env ns s s') (F : FrmOk hb env s) (r : T.at s.heap v x) : T.at s'.heap v x := by
  obtain ⟨m, cm, F⟩ := F
  exact Ty.to_at (T.stp (F.okF r) k.stp)
theorem AStep.trans {ns ns' : List Str} {s' s'' : Shared} (a : AStep hb env ns s s') (b : AStep hb env ns' s' s'') : AStep hb env (ns ++ ns') s s'' :=
  ⟨same_trans a.same b.same, Nat.le_trans a.tok b.tok, fun x o n e => b.ext x o n (a.ext x o n e), a.stp.trans b.stp, b.frm, fun hn v => b.var (fun q => hn (List.mem_append_right _ q)) (a.var (fun q => hn (List.mem_append_left _ q)) v)⟩
theorem AStep.kpl {ns : List Str} {s' s'' : Shared} (k : Kp hb s s') (ke : ∀ b o, s.heap.get? b = some o → s'.heap.get? b = some o) (a : AStep hb env ns s' s'') : AStep hb env ns s s'' :=
  ⟨same_trans k.same a.same, Nat.le_trans k.tok a.tok, fun x o n e => a.ext x o n (ke x o e), k.stp.trans a.stp, a.frm, fun hn v => a.var hn (v.kp k)⟩
def Asg (hb : Heap) (w : World) (A : Around) (env : Env) (target : PySem.Expr) (v : Value) (s : Shared) (ns : List Str) (R : Shared → Prop) : Prop :=
  ∀ (Q : Unit → Shared → Prop) (E : Value → Shared → Prop), (∀ s', AStep hb env ns s s' → R s' → Q () s') → wpAny (model p w) A (assign target env v) Q E s

theorem asgName {α : Type} {T : Ty α} {x : α} {n : Str} {tp : Pos} {v : Value} (F : FrmOk hb env s) (hl : env.kindOf n = some .local) (r : T.at s.heap v x) : Asg hb w A env (.Name n tp) v s [n] (fun s' => Var hb env n T x s') := by
  intro Q E q
  refine wpAny_assign_Name (store_localS F hl r fun h' hs' hn' u vx => q _ ⟨⟨h', s.toks + 1, rfl⟩, Nat.le_succ _, hs'.extBut, u.stp, u.frm, fun hn v => u.var (fun e => hn (List.mem_singleton.mpr e)) v⟩ vx)

theorem asgPair {t1 t2 : PySem.Expr} {x1 : Nat} {tp : Pos} {a : Addr} {u u' : Value} {n1 n2 : List Str} {R1 R2 : Shared → Prop} (hh : A.handled = none) (F : FrmOk hb env s) (ht : s.heap.IsTuple a #[u, u'])
    (h1 : ∀ s', Kp hb s s' → Asg hb w A env t1 u s' n1 R1) (h2 : ∀ s' s'', Kp hb s s' → AStep hb env n1 s' s'' → Asg hb w A env t2 u' s'' n2 R2) (st : ∀ s' s'', AStep hb env n2 s' s'' → R1 s' → R1 s'')
    (he : assignEach [t1, t2] env = [(false, assign t1 env), (false, assign t2 env)] := by rfl) :
    Asg hb w A env (.Tuple [t1, t2] x1 tp) (.ref a) s (n1 ++ n2) (fun s' => R1 s' ∧ R2 s') := by
  intro Q E q
  refine wpAny_assign_Tuple hh ht (by rw [he]; rfl) (by rw [he]; rfl) fun h' hx => ?_
  rw [he]
  have up : ∀ b o, s.heap.get? b = some o → h'.get? b = some o := fun b o e => hx b o (Nat.ne_of_lt (Heap.lt_size e)) e
  have k : Kp hb s { s with heap := h' } := Kp.mkH up
  show wpAny _ A (assignInOrder [assign t1 env, assign t2 env] [u, u']) Q E _
  refine PyProof.Rows.assignInOrder_cons (h1 _ k _ _ fun s1 a1 r1 => ?_)
  refine PyProof.Rows.assignInOrder_cons (h2 _ _ k a1 _ _ fun s2 a2 r2 => ?_)
  exact PyProof.Rows.assignInOrder_nil (q s2 ((a1.trans a2).kpl k up) ⟨st _ _ a2 r1, r2⟩)

theorem Sees.astep {cenv : Env} {ns : List Str} {s₃ s₄ : Shared} (h : Sees hb env cenv s s₃) (hn : ∀ n ∈ ns, cenv.kindOf n = some .local) (u : AStep hb cenv ns s₃ s₄) : Sees hb env cenv s s₄ :=
  ⟨fun a b c d => u.var (fun q => by have := hn _ q; rw [this] at c; cases c) (h.var a b c d)⟩

/-- a comprehension over any target -/
theorem compTgt {α β : Type} {T' : Ty β} {elt iter target : PySem.Expr} {ifs : List PySem.Expr} {scope : Scope} {cl : List (Str × Addr)} {ns : List Str} {xs : List α} {pp : α → Bool} {f : α → β} {PP : α → Value → Heap → Prop} {R : α → Env → Shared → Prop}
    (F : FrmOk hb env s) (st : hb.StaysIn s.heap) (hkind : scope.kind = .function)
    (hcl : ∀ n c, (n, c) ∈ cl → (n, c) ∈ env.cells) (hap : cl.Pairwise fun x y => x.2 ≠ y.2) (hlk : ∀ n c, cl.lookup n = some c → env.cells.lookup n = some c)
    (hl : ∀ C, ∀ n ∈ ns, (compEnvC scope cl C env).kindOf n = some .local)
    (src : SrcOf hb w A env target iter s xs PP)
    (asg : ∀ x v s₃ C, PP x v s₃.heap → Lp hb s.heap s s₃ → FrmOk hb (compEnvC scope cl C env) s₃ → Asg hb w A (compEnvC scope cl C env) target v s₃ ns (R x (compEnvC scope cl C env)))
    (H : ∀ (i : Nat) x C s₄, xs[i]? = some x → Kp hb s s₄ → FrmOk hb (compEnvC scope cl C env) s₄ → Sees hb env (compEnvC scope cl C env) s s₄ → R x (compEnvC scope cl C env) s₄ →
      Tests hb (model p w) A (compEnvC scope cl C env) s₄ ifs (pp x) ∧ (pp x = true → EltAt hb w A (compEnvC scope cl C env) s.heap s₄ elt T' (f x))) :
    CompAt hb w A env elt target iter ifs scope cl T' xs pp f PP s := by
  refine ⟨src, fun i x v C s₃ m₃ E' hx hP hC hn lp => ?_⟩
  obtain ⟨F₃, S₃⟩ := frm_comp F st hkind hcl hap hlk hC hn lp
  refine asg x v s₃ C hP lp F₃ _ _ fun s₄ a₄ r₄ => ?_
  have hn' : ∃ m', s₄.heap.Ns C m' := by
    obtain ⟨m, cm, F'⟩ := a₄.frm
    exact ⟨m, F'.ns⟩
  refine ⟨?_, ?_⟩
  · obtain ⟨h', t, e⟩ := a₄.same
    exact ⟨h', t, e, (by have := a₄.tok; exact (by rw [e] at this; exact this : s₃.toks ≤ t)), (by have := a₄.ext; rw [e] at this; exact this), (by rw [e] at hn'; exact hn')⟩
  have k₄ : Kp hb s s₄ := by
    refine ⟨same_trans lp.same a₄.same, Nat.le_trans lp.tok a₄.tok, fun b o _ e => ?_, fun x => a₄.stp.ext.base (lp.ext.base x), fun b o e n => ?_⟩
    · obtain ⟨sl, e', kk⟩ := lp.ext.stay b o (fun q => by rw [q] at e; cases e) e
      exact ⟨sl, a₄.ext b _ (fun q => by rw [show b = C from q, hC] at e; cases e) e', kk⟩
    · obtain ⟨o', e', n'⟩ := lp.ext.nf b o e n
      exact a₄.stp.ext.nf b o' e' n'
  obtain ⟨ht, he⟩ := H i x C s₄ hx k₄ a₄.frm (S₃.astep (hl C) a₄) r₄
  refine ht.go fun s₅ k₅ => ⟨k₅, rfl, fun hp => he hp s₅ k₅ E'⟩

/-- a new pair of flat things -/
theorem eltPair {α β : Type} {T : Ty α} {S : Ty β} {x : α} {y : β} {e e' : PySem.Expr} {x1 : Nat} {pos : Pos} {h₀ : Heap} (hT : T.Flat) (hS : S.Flat) (h : Pv hb (model p w) A env s e T x) (h' : Pv hb (model p w) A env s e' S y)
    (hs : starEach [e, e'] env = (false, eval e env) :: starEach [e'] env := by rfl) (hs' : starEach [e'] env = (false, eval e' env) :: starEach [] env := by rfl) :
    EltAt hb w A env h₀ s (.Tuple [e, e'] x1 pos) (tPair T S) (x, y) := by
  intro s₅ k E'
  refine wpAny_Tuple_spliced ?_
  refine args_cons (h.run s₅ k _ _ fun v s₁ k₁ r => args_cons (h'.run s₁ (k.trans k₁) _ _ fun v' s₂ k₂ r' => args_nil ?_) hs') hs
  refine ⟨show 2 ≤ sizeLine by decide, ?_⟩
  have up : ∀ b o, s₂.heap.get? b = some o → (s₂.heap.push { cls := .type "tuple", data := .seq ([v, v'] : List Value).toArray }).get? b = some o := fun b o e => Heap.get?_push_of_some _ e
  have k5 : Kp hb s₅ s₂ := k₁.trans k₂
  refine ⟨k5.trans (Kp.mkH up), _, v, v', rfl, Or.inr (none_of_kp k5 (Nat.le_refl _)), ⟨_, Heap.get?_push_size _ rfl, rfl, _, rfl⟩, hT _ _ _ _ _ _ r, hS _ _ _ _ _ _ r'⟩
/-- a name that holds what is old -/
theorem eltVar {β : Type} {T : Ty β} {y : β} {n : Str} {pos : Pos} {h₀ : Heap} {v : Value} {m cm : Str → Option Value} (F : Frm hb env m cm s) (hl : env.kindOf n = some .local) (hv : m n = some v) (r : T.at h₀ v y) (hk : ∀ b o, h₀.get? b = some o → Stay h₀ s.heap b o)
    (hd : (n == ("__debug__" : Str)) = false := by decide) : EltAt hb w A env h₀ s (.Name n pos) T y := by
  intro s₅ k E'
  refine wpAny_Name (wpAny_loadName_local F.kind hl (F.kp k).ns hv ⟨Kp.rfl, ?_⟩) hd
  refine T.mono (T.stab (T.seq r) ?_) fun a q => Or.inl (let ⟨_, o, _, _, e, _⟩ := q; ⟨o, e⟩)
  rintro a o ⟨_, o', xs, nn, e1, e2, e3⟩ e4
  rw [e4] at e1; cases e1
  exact (k.ext.stay a o id ((hk a o e4).get e3)).get e3
end
end
end Mine
end

section
open PySem PySem.W PyProof.Rows PySem.Calls
set_option maxRecDepth 100000
set_option maxHeartbeats 200000
namespace Mine
noncomputable section
section
variable {w : World} {hb : Heap} {mg mb : Str → Option Value} {A : Around} {s : Shared} {k : Nat} {env : Env}
/-- what an iterator's step may do -/
structure Wk (s s' : Shared) : Prop where
  same : ∃ h' tk, s' = { s with heap := h', toks := tk }
  tok : s.toks ≤ s'.toks
  keep : ∀ b o, s.heap.get? b = some o → (∀ vs, o.data ≠ .fields vs) → s'.heap.get? b = some o
theorem Frm.wk {m cm : Str → Option Value} {s' : Shared} (F : Frm hb env m cm s) (k : Wk s s') : Frm hb env m cm s' := by
  have cell : ∀ c v, s.heap.IsCell c v → s'.heap.IsCell c v := fun c v ⟨o, e, d⟩ => ⟨o, k.keep c o e (fun vs q => by rw [d] at q; cases q), d⟩
  refine ⟨F.kind, ?_, fun n c h => cell _ _ (F.cell n c h), fun n c h => let ⟨v, x⟩ := F.all n c h; ⟨v, cell _ _ x⟩, F.apart, F.new⟩
  obtain ⟨o, es, ep, e, d, r⟩ := F.ns
  exact ⟨o, es, ep, k.keep _ o e (fun vs q => by rw [d] at q; cases q), d, r⟩
theorem Ty.wk {α : Type} {T : Ty α} {ok : Addr → Prop} {s' : Shared} {v : Value} {x : α} (r : T.R ok s.heap v x) (k : Wk s s') : T.R ok s'.heap v x := by
  refine T.mono (T.stab (T.seq r) ?_) fun a q => q.1
  rintro a o ⟨_, o', xs, n, e1, d, _⟩ e2
  rw [e2] at e1; cases e1
  exact k.keep a o e2 (fun vs q => by rw [d] at q; cases q)
theorem Var.wk {α : Type} {T : Ty α} {n : Str} {x : α} {s' : Shared} (h : Var hb env n T x s) (k : Wk s s') : Var hb env n T x s' :=
  let ⟨m, cm, F, v, r, o⟩ := h; ⟨m, cm, F.wk k, v, Ty.wk r k, o⟩
theorem FrmOk.wk {s' : Shared} (h : FrmOk hb env s) (k : Wk s s') : FrmOk hb env s' := let ⟨m, cm, F⟩ := h; ⟨m, cm, F.wk k⟩

/-- an iterator's turns, with the tokens told -/
structure KT (w : World) (A : Around) (target : PySem.Expr) (I : Addr) (fp wr : List Addr) (n lo : Nat) (P Md : Nat → Value → Shared → Prop) (St : Nat → Heap → Prop) : Prop where
  sub : ∀ b ∈ wr, b ∈ fp
  frame : ∀ i h h', St i h → (∀ b ∈ fp, ∀ o, h.get? b = some o → h'.get? b = some o) → St i h'
  item : ∀ i (s : Shared) (Q : Option Value → Shared → Prop) (E : Value → Shared → Prop), i < n → lo ≤ s.toks → St i s.heap →
    (∀ v h' tk, s.toks ≤ tk → Md i v { s with heap := h', toks := tk } → (∀ b o, b ∉ wr → s.heap.get? b = some o → h'.get? b = some o) → Q (some v) { s with heap := h', toks := tk }) → wpAny (model p w) A (pyNext (.ref I)) Q E s
  go : ∀ i v (s : Shared) (Q : Unit → Shared → Prop) (E : Value → Shared → Prop), Md i v s →
    (∀ h', P i v { s with heap := h' } → St (i + 1) h' → (∀ b o, b ∉ wr → s.heap.get? b = some o → h'.get? b = some o) → Q () { s with heap := h' }) → wpAny (model p w) A (letOwnedTupleGo target (.ref I) v) Q E s
  done : ∀ (s : Shared) (Q : Option Value → Shared → Prop) (E : Value → Shared → Prop), St n s.heap →
    (∀ h' tk, (∀ b o, b ∉ wr → s.heap.get? b = some o → h'.get? b = some o) → Q none { s with heap := h', toks := tk }) → wpAny (model p w) A (pyNext (.ref I)) Q E s
theorem KT.ofK {target : PySem.Expr} {I : Addr} {fp wr : List Addr} {n lo : Nat} {P Md : Nat → Value → Heap → Prop} {St : Nat → Heap → Prop} (W : KTurns p w A target I fp wr n P Md St) :
    KT w A target I fp wr n lo (fun i v s => P i v s.heap) (fun i v s => Md i v s.heap) St :=
  ⟨W.sub, W.frame, fun i s Q E hi _ hst hQ => wpAny_with_toks (n := s.toks) (Nat.le_refl _) (W.item i s _ _ hi hst fun v h' tk m k ht => hQ v h' tk ht m k), fun i v s Q E m hQ => W.go i v s Q E m hQ, W.done⟩

/-- a source for a loop -/
structure SrcL {α : Type} (hb : Heap) (w : World) (A : Around) (target : PySem.Expr) (s : Shared) (xs : List α) (PP : α → Value → Shared → Prop) (it : Value) (s₂ : Shared) : Prop where
  kp : Kp hb s s₂
  ex : ∃ (I : Addr) (fp wr : List Addr) (P Md : Nat → Value → Shared → Prop) (St : Nat → Heap → Prop), it = .ref I ∧ KT w A target I fp wr xs.length s.toks P Md St ∧
    (∀ i h, St i h → ∀ b ∈ fp, ∃ o, h.get? b = some o ∧ ¬ NsO o ∧ ((∃ vs, o.data = .fields vs) ∨ (b ∉ wr ∧ ∃ xs n, o.data = .seq xs n))) ∧ (∀ b ∈ wr, s.heap.get? b = none) ∧ St 0 s₂.heap ∧
    (∀ i x v h, xs[i]? = some x → P i v h → PP x v h)
def SrcLOf {α : Type} (hb : Heap) (w : World) (A : Around) (env : Env) (target iter : PySem.Expr) (s : Shared) (xs : List α) (PP : α → Value → Shared → Prop) : Prop :=
  ∀ (Q : Value → Shared → Prop) (E : Value → Shared → Prop), (∀ it s₂, SrcL hb w A target s xs PP it s₂ → Q it s₂) → wpAny (model p w) A (eval iter env) (fun xv s₁ => wpAny (model p w) A (pyIter xv) Q E s₁) E s

theorem sFor {α : Type} {xs : List α} {PP : α → Value → Shared → Prop} {target iter : PySem.Expr} {body orelse : List Stmt} {pos : Pos} {Q : Flow → Shared → Prop} {E : Value → Shared → Prop}
    (F : FrmOk hb env s) (st0 : hb.StaysIn s.heap) (src : SrcLOf hb w A env target iter s xs PP)
    (I : Nat → Shared → Prop) (hI : ∀ i s s', I i s → Wk s s' → I i s') (hF : ∀ i s, I i s → FrmOk hb env s)
    (h0 : ∀ s₂, Kp hb s s₂ → I 0 s₂)
    (turn : ∀ i x v s₃ (E' : Value → Shared → Prop), xs[i]? = some x → PP x v s₃ → I i s₃ → Stp hb env s s₃ →
      wpAny (model p w) A (assign target env v) (fun _ s₄ => wpAny (model p w) A (execs body env) (fun f s₅ => Stp hb env s₃ s₅ ∧ (match f with | .next => I (i + 1) s₅ | .ret v => Stp hb env s s₅ → Q (.ret v) s₅ | _ => False)) E' s₄) E' s₃)
    (done : ∀ s', I xs.length s' → Stp hb env s s' → wpAny (model p w) A (execs orelse env) Q (notedBy (model p w) A env (cameBackBy (model p w) A env E)) s')
    (hs : ∀ x, foldedSetIterable iter env x = pure x := by intro _; rfl) :
    wpAny (model p w) A (exec (.For target iter body orelse pos) env) Q E s := by
  refine wpAny_For (src _ _ fun it s₂ S => ?_) hs
  obtain ⟨I', fp, wr, P, Md, St, rfl, W, hcls, hw0, hst, hPP⟩ := S.ex
  have bad0 : ∀ b ∈ wr, ¬ ∃ o, s.heap.get? b = some o := fun b h ⟨o, e⟩ => by rw [hw0 b h] at e; cases e
  have wf : ∀ j h, St j h → ∀ b ∈ wr, ∃ o vs, h.get? b = some o ∧ o.data = .fields vs := fun j h stj b hbw => by
    obtain ⟨o, e, _, q⟩ := hcls j h stj b (W.sub b hbw)
    rcases q with ⟨vs, d⟩ | ⟨q, _⟩
    · exact ⟨o, vs, e, d⟩
    · exact absurd hbw q
  have toStp : ∀ s', (∃ h' tk, s' = { s with heap := h', toks := tk }) → s.toks ≤ s'.toks → ExtB (fun b => fBad env b ∨ s.heap.get? b = none) hb s.heap s'.heap → Stp hb env s s' := fun s' a b c =>
    ⟨a, b, ⟨fun b o n e => c.stay b o (fun q => q.elim n fun q => by rw [q] at e; cases e) e, c.base, c.nf⟩⟩
  refine codeAny_forLoop_any (fun k s' => ∃ i, (∃ h' tk, s' = { s with heap := h', toks := tk }) ∧ s.toks ≤ s'.toks ∧ St i s'.heap ∧ I i s' ∧ i ≤ xs.length ∧ k = xs.length + 1 - i ∧ ExtB (fun b => fBad env b ∨ s.heap.get? b = none) hb s.heap s'.heap) ?_ (xs.length + 1)
    ⟨0, S.kp.same, S.kp.tok, hst, h0 s₂ S.kp, Nat.zero_le _, rfl, S.kp.ext.mono fun _ q => q.elim⟩
  rintro k s' ⟨i, ⟨H, tk, rfl⟩, htk, hst', hi', hi, rfl, hX⟩
  by_cases hlt : i < xs.length
  · obtain ⟨x, hx⟩ : ∃ x, xs[i]? = some x := ⟨_, List.getElem?_eq_getElem hlt⟩
    refine wpAny_with_toks (n := tk) (Nat.le_refl _) (W.item i _ _ _ hlt htk hst' fun v h₁ tk₁ htk₁ hMd hk₁ _ => ?_)
    refine W.go i v _ _ _ hMd fun h₂ hP hst₂ hk₂ => ?_
    have hk2 : ∀ b o, b ∉ wr → H.get? b = some o → h₂.get? b = some o := fun b o nb e => hk₂ b o nb (hk₁ b o nb e)
    have wk : Wk { s with heap := H, toks := tk } { s with heap := h₂, toks := tk₁ } := ⟨⟨h₂, tk₁, rfl⟩, htk₁, fun b o e n => hk2 b o (fun q => by
      obtain ⟨o', vs, e', d⟩ := wf i H hst' b q
      have e : H.get? b = some o := e
      rw [e] at e'; cases e'
      exact n vs d) e⟩
    have X2 : ExtB (fun b => fBad env b ∨ s.heap.get? b = none) hb H h₂ := ext_wr hk2 (fun b h => Or.inr (hw0 b h)) hw0 st0 (fun b h => by
      obtain ⟨o, vs, e, d⟩ := wf i H hst' b h
      exact ⟨o, e, fun ⟨_, _, q⟩ => by rw [d] at q; cases q⟩)
    have I2 := hI i _ _ hi' wk
    have S2 : Stp hb env s { s with heap := h₂, toks := tk₁ } := toStp _ ⟨h₂, tk₁, rfl⟩ (Nat.le_trans htk htk₁) (hX.trans X2)
    refine wpAny_mono (turn i x v { s with heap := h₂, toks := tk₁ } _ hx (hPP i x v _ hx hP) I2 S2) (fun _ s₄ h₄ => wpAny_mono h₄ (fun f s₅ h₅ => ?_) fun _ _ e => e) fun _ _ e => e
    obtain ⟨stp5, h₅⟩ := h₅
    have X5 : ExtB (fun b => fBad env b ∨ s.heap.get? b = none) hb h₂ s₅.heap := stp5.ext.mono fun _ q => Or.inl q
    have X05 := (hX.trans X2).trans X5
    have same5 := same_trans (s := s) ⟨h₂, tk₁, rfl⟩ stp5.same
    have tok5 := Nat.le_trans (Nat.le_trans htk htk₁) stp5.tok
    cases f with
    | next =>
      have hst₅ : St (i + 1) s₅.heap := W.frame _ _ _ hst₂ fun b hbf o e => by
        obtain ⟨o', e', nf, q⟩ := hcls _ _ hst₂ b hbf
        rw [e] at e'; cases e'
        refine (stp5.ext.stay b o (fun hbad => ?_) e).get nf
        obtain ⟨m, cm, FF⟩ := hF _ _ I2
        rcases hbad with rfl | ⟨n, hc⟩
        · obtain ⟨o', es, ep, e', d', _⟩ := FF.ns
          have e' : h₂.get? env.locals = some o' := e'
          rw [e] at e'; cases e'
          rcases q with ⟨vs, d⟩ | ⟨_, ys, n, d⟩ <;> rw [d] at d' <;> cases d'
        · obtain ⟨v', o', e', d'⟩ := FF.all n b hc
          have e' : h₂.get? b = some o' := e'
          rw [e] at e'; cases e'
          rcases q with ⟨vs, d⟩ | ⟨_, ys, n, d⟩ <;> rw [d] at d' <;> cases d'
      exact ⟨xs.length + 1 - (i + 1), by omega, i + 1, same5, tok5, hst₅, h₅, hlt, rfl, X05⟩
    | ret v => exact h₅ (toStp _ same5 tok5 X05)
    | brk => exact h₅.elim
    | cont => exact h₅.elim
  · obtain rfl : i = xs.length := by omega
    refine wpAny_with_toks (n := tk) (Nat.le_refl _) (W.done _ _ _ hst' fun h₁ tk₁ hk₁ htk₁ => ?_)
    have wk : Wk { s with heap := H, toks := tk } { s with heap := h₁, toks := tk₁ } := ⟨⟨h₁, tk₁, rfl⟩, htk₁, fun b o e n => hk₁ b o (fun q => by
      obtain ⟨o', vs, e', d⟩ := wf _ H hst' b q
      have e : H.get? b = some o := e
      rw [e] at e'; cases e'
      exact n vs d) e⟩
    have X2 : ExtB (fun b => fBad env b ∨ s.heap.get? b = none) hb H h₁ := ext_wr hk₁ (fun b h => Or.inr (hw0 b h)) hw0 st0 (fun b h => by
      obtain ⟨o, vs, e, d⟩ := wf _ H hst' b h
      exact ⟨o, e, fun ⟨_, _, q⟩ => by rw [d] at q; cases q⟩)
    exact done { s with heap := h₁, toks := tk₁ } (hI _ _ _ hi' wk) (toStp _ ⟨h₁, tk₁, rfl⟩ (Nat.le_trans htk htk₁) (hX.trans X2))
end
end
end Mine
end

section
open PySem PySem.W PyProof.Rows PySem.Calls
open Builtin.SmallTypes (nextOf ownedTupleIsFree ownedTupleHandOut)
set_option maxRecDepth 100000
set_option maxHeartbeats 400000
namespace Mine
noncomputable section
section
variable {prog : Program} {w : World} {A : Around} {E : Value → Shared → Prop} {s : Shared}
/-- one step of an enumeration; what the iterator below does is handed over -/
theorem enum_step {e it : Addr} {i : Nat} {x old : Value} {tk : Nat} {R : Heap → Prop} {Q : Option Value → Shared → Prop}
    (he : IsEnum s.heap e it i old) (hne : e ≠ it)
    (hnext : ∀ (Q : Value → Shared → Prop) (E : Value → Shared → Prop), (∀ h₁, R h₁ → Heap.SameBut it s.heap h₁ → Q x { s with heap := h₁, toks := tk }) → wpAny (model prog w) A.in1 (nextOf (.ref it)) Q E s)
    (hQ : ∀ h₁ h', R h₁ → IsEnumOut h' e it ((i : Int) + 1) x s.heap.objs.size → h'.get? s.heap.objs.size = some { cls := .type "tuple", data := .seq #[.int i tk, x] } →
      (∀ b o, b ≠ e → h₁.get? b = some o → h'.get? b = some o) → (∀ b o, b ≠ e → b ≠ it → s.heap.get? b = some o → h'.get? b = some o) → Q (some (.ref s.heap.objs.size)) { s with heap := h', toks := tk + 1 }) :
    wpAny (model prog w) A (pyNext (.ref e)) Q E s := by
  have hT : s.TypeIs (.ref e) "enumerate" := ⟨_, he, rfl⟩
  unfold pyNext
  refine wpAny_bind (wpAny_attempt (wpAny_callSpecial?_slot (name := Str.ofString "__next__") hT F.slot_enumerate_next
    (wpAny_call_entry F.slot_enumerate_next hT F.entry_enumerate_next ?_ (F.args_enumerate_next_1 _))))
  show wpAny _ _ (field (.ref e) 2 >>= _) _ _ _
  refine wpAny_bind (wpAny_field he rfl (x := .ref it) rfl ?_)
  refine wpAny_bind (hnext _ _ fun h₁ r₁ b₁ => ?_)
  have e₁ : IsEnum h₁ e it i old := (b₁.2 e hne).trans he
  have z₁ : h₁.objs.size = s.heap.objs.size := b₁.1
  generalize hz : s.heap.objs.size = z at z₁ hQ
  have ez : e < z := hz ▸ Heap.lt_size he
  -- the count, the tuple
  show wpAny _ _ (field (.ref e) 3 >>= _) _ _ _
  refine wpAny_bind (wpAny_field e₁ rfl (x := rawInt i) rfl ?_)
  show wpAny _ _ (field (.ref e) 4 >>= _) _ _ _
  refine wpAny_bind (wpAny_field e₁ rfl (x := .none) rfl ?_)
  show wpAny _ _ (mkInt i >>= _) _ _ _
  refine wpAny_bind (wpAny_mkInt ?_)
  show wpAny _ _ (setField (.ref e) 3 (rawInt ((i : Int) + 1)) >>= _) _ _ _
  refine wpAny_bind (wpAny_setField_rec e₁ (by simp) fun h₂ e₂ b₂ => ?_)
  have e₂ : IsEnum h₂ e it ((i : Int) + 1) old := e₂
  have b₂ : Heap.SameBut e h₁ h₂ := b₂
  show wpAny _ _ (setField (.ref e) 4 .none >>= _) _ _ _
  refine wpAny_bind (wpAny_setField_rec e₂ (by simp) fun h₃ e₃ b₃ => ?_)
  have e₃ : IsEnum h₃ e it ((i : Int) + 1) old := e₃
  have b₃ : Heap.SameBut e h₁ h₃ := b₂.trans b₃
  show wpAny _ _ (newTuple [.int i tk, x] >>= _) _ _ _
  refine wpAny_bind (wpAny_newTuple ?_)
  show wpAny _ _ (ownedTupleIsFree (.ref e) >>= _) _ _ _
  have z₃ : h₃.objs.size = z := by rw [b₃.1, z₁]
  have e₄ : IsEnum (h₃.push { cls := .type "tuple", data := .seq #[.int i tk, x] }) e it ((i : Int) + 1) old := Heap.get?_push_of_some _ e₃
  have t₄ : (h₃.push { cls := .type "tuple", data := .seq #[.int i tk, x] }).get? z = some { cls := .type "tuple", data := .seq #[.int i tk, x] } := by rw [← z₃]; exact Heap.get?_push_size _ rfl
  have k₄ : ∀ b o, b ≠ e → h₁.get? b = some o → (h₃.push { cls := .type "tuple", data := .seq #[.int i tk, x] }).get? b = some o := fun b o n q => Heap.get?_push_of_some _ (b₃.extBut b o n q)
  show wpAny _ _ _ _ _ { s with heap := h₃.push { cls := .type "tuple", data := .seq #[.int i tk, x] }, toks := tk + 1 }
  rw [show (Value.ref h₃.objs.size) = .ref z by rw [z₃]]
  generalize h₃.push { cls := .type "tuple", data := .seq #[.int i tk, x] } = h₄ at e₄ t₄ k₄
  clear e₃ b₃ e₂ b₂ z₃ e₁
  refine wpAny_bind ?_
  unfold ownedTupleIsFree
  refine wpAny_bind (wpAny_field e₄ rfl (x := .none) rfl (wpAny_pure ?_))
  simp only [if_true]
  refine wpAny_bind (wpAny_rule ?_)
  refine wpAny_bind (wpAny_field e₄ rfl (x := old) rfl ?_)
  refine wpAny_bind (wpAny_setField_rec e₄ (by simp) fun h₅ e₅ b₅ => ?_)
  have e₅ : IsEnum h₅ e it ((i : Int) + 1) x := e₅
  have b₅ : Heap.SameBut e h₄ h₅ := b₅
  show wpAny _ _ (ownedTupleHandOut (.ref e) (.ref z) >>= _) _ _ _
  refine wpAny_bind ?_
  unfold ownedTupleHandOut
  refine wpAny_bind (wpAny_setField_rec e₅ (by simp) fun h₆ e₆ b₆ => ?_)
  have e₆ : IsEnumOut h₆ e it ((i : Int) + 1) x z := e₆
  have b₆ : Heap.SameBut e h₄ h₆ := b₅.trans b₆
  refine wpAny_setField_rec e₆ (by simp) fun h₇ e₇ b₇ => ?_
  have e₇ : IsEnumOut h₇ e it ((i : Int) + 1) x z := e₇
  have b₇ : Heap.SameBut e h₄ h₇ := b₆.trans b₇
  refine wpAny_bind (wpAny_letGo (wpAny_pure ⟨_, rfl, wpAny_pure (hQ h₁ h₇ r₁ e₇ (b₇.extBut _ _ (Nat.ne_of_gt ez) t₄) (fun b o n q => b₇.extBut b o n (k₄ b o n q)) fun b o n n' q => b₇.extBut b o n (k₄ b o n ((b₁.2 b n').trans q)))⟩))
end
end
end Mine
end

section
open PySem PySem.W PyProof.Rows PySem.Calls
set_option maxRecDepth 100000
set_option maxHeartbeats 200000
namespace Mine
noncomputable section
section
variable {w : World} {hb : Heap} {mg mb : Str → Option Value} {A : Around} {s : Shared} {k : Nat} {env : Env}
theorem forList {α : Type} {T : Ty α} {m : Str} {tp : Pos} {iter : PySem.Expr} {xs : List α} (hh : A.handled = none) (h : ListAt hb w A env s iter T xs) :
    SrcLOf hb w A env (.Name m tp) iter s xs (fun x v _ => T.at s.heap v x) := by
  intro Q E q
  refine h _ _ fun a vs s₁ k₁ l f => ?_
  refine wpAny_pyIter_list l (q _ _ ⟨k₁.trans (Kp.mkH fun b o e => Heap.get?_push_of_some _ e), ?_⟩)
  have hlt : a < s₁.heap.objs.size := let ⟨_, e, _⟩ := l; Heap.lt_size e
  have hlen := paired_len f
  refine ⟨s₁.heap.objs.size, [s₁.heap.objs.size, a], [s₁.heap.objs.size], fun i v _ => vs.toArray[i]? = some v, fun i v s => vs.toArray[i]? = some v ∧ (s.heap.IsListIter s₁.heap.objs.size a (i + 1) ∧ s.heap.IsList a vs.toArray), fun i h => h.IsListIter s₁.heap.objs.size a i ∧ h.IsList a vs.toArray, rfl, ?_, ?_, ?_, ?_, ?_⟩
  · have W := KTurns.ofWalks (target := .Name m tp) (Walks.list (prog := p) (w := w) (A := A) hh s₁.heap.objs.size a (Nat.ne_of_lt hlt) vs.toArray) (fun i v s Q E st hq => wpAny_pure hq)
    rw [show vs.toArray.size = xs.length from (List.size_toArray ..).trans hlen] at W
    exact KT.ofK W
  · intro i h st b hbf
    obtain ⟨⟨o, e1, c1, d1⟩, ⟨o2, e2, c2, n2, d2⟩⟩ := st
    simp only [List.mem_cons, List.not_mem_nil, or_false] at hbf
    rcases hbf with rfl | rfl
    · exact ⟨o, e1, fun ⟨_, _, q⟩ => (by rw [d1] at q; cases q), Or.inl ⟨_, d1⟩⟩
    · exact ⟨o2, e2, fun ⟨_, _, q⟩ => (by rw [d2] at q; cases q), Or.inr ⟨fun q => absurd (List.mem_singleton.mp q) (Nat.ne_of_lt hlt), _, _, d2⟩⟩
  · intro b hbw
    rw [List.mem_singleton.mp hbw]
    exact none_of_kp k₁ (Nat.le_refl _)
  · exact ⟨⟨_, Heap.get?_push_size _ rfl, rfl, rfl⟩, l.push _⟩
  · intro i x v h hx hv
    obtain ⟨v', hv', r⟩ := paired_get f hx
    have : some v = some v' := by rw [← hv', ← hv]; simp
    cases this
    exact r

theorem forRange {n : Nat} {m : Str} {tp fp cp : Pos} {e : PySem.Expr} (hh : A.handled = none) (G : Gnd w hb mg mb) (V : EnvG env) (st : hb.StaysIn s.heap) (hx : env.kindOf "range" = some .globalImplicit)
    (h : Pv hb (model p w) A env s e tInt (n : Int)) (hn : n < 2 ^ 32)
    (he : ∀ _ : PySem.Expr, eval (.Call (.Name "range" fp) [e] [] cp) env = (do callWith cp (← eval (.Name "range" fp) env) [] (backTo cp (starEach [e] env)) (backToKw cp (keywordEach [] env))) := by intro _; rfl)
    (hs : starEach [e] env = (false, eval e env) :: starEach [] env := by rfl) :
    SrcLOf hb w A env (.Name m tp) (.Call (.Name "range" fp) [e] [] cp) s (List.range n) (fun i v s => tInt.at s.heap v (i : Int)) := by
  intro Q E q
  refine Call_ (ld_builtin (v := .type "range") G st V.kind V.glob V.built hx (G.none (by kernel_rfl)) (G.bu (by decide) boot_range) (by decide) ?_) (he e)
  refine callType1 (args_cons (h.go fun v s₁ k₁ r => args_nil ?_) hs) hs rfl
  obtain ⟨t, rfl⟩ := r
  refine call_range_1 ?_
  have sz : Builtin.Range.rangeSize 0 (n : Int) 1 = n := by
    rw [rangeSize_one]; split <;> omega
  refine wpAny_pyIter_range (IsRange.new _ _ _ _ _ _ _) (small_one (by omega) (by omega) (by omega) (by omega)) ?_
  rw [sz]
  simp only [Heap.size_push]
  have up : ∀ b o, s₁.heap.get? b = some o → ((s₁.heap.push { cls := .type "range", data := .fields #[.int 0 s₁.toks, .int n t, .int 1 (s₁.toks + 1)] }).push { cls := .type "range_iterator", data := .fields #[rawInt 0, rawInt n, rawInt 1] }).get? b = some o :=
    fun b o e => Heap.get?_push_of_some _ (Heap.get?_push_of_some _ e)
  refine q _ _ ⟨k₁.trans (Kp.mk' (by show _ ≤ s₁.toks + 1 + 1; omega) up), ?_⟩
  refine ⟨s₁.heap.objs.size + 1, [s₁.heap.objs.size + 1], [s₁.heap.objs.size + 1], fun i v _ => ∃ t, v = .int (0 + (i : Int) * 1) t, fun i v s => (∃ t, v = .int (0 + (i : Int) * 1) t) ∧ IsRangeIter s.heap (s₁.heap.objs.size + 1) (0 + ((i + 1 : Nat) : Int) * 1) ((n : Int) - ((i + 1 : Nat) : Int)) 1,
    fun i h => IsRangeIter h (s₁.heap.objs.size + 1) (0 + ((i : Nat) : Int) * 1) ((n : Int) - ((i : Nat) : Int)) 1, rfl, ?_, ?_, ?_, ?_, ?_⟩
  · have W := KTurns.ofWalks (target := .Name m tp) (Walks.range (prog := p) (w := w) (A := A) hh (s₁.heap.objs.size + 1) 0 1 n) (fun i v s Q E _ hq => wpAny_pure hq)
    rw [List.length_range]
    exact KT.ofK W
  · intro i h st b hbf
    rw [List.mem_singleton.mp hbf]
    exact ⟨_, st, fun ⟨_, _, q⟩ => (by cases q), Or.inl ⟨_, rfl⟩⟩
  · intro b hbw
    rw [List.mem_singleton.mp hbw]
    exact none_of_kp k₁ (Nat.le_succ _)
  · have := Heap.get?_push_size (s₁.heap.push { cls := .type "range", data := .fields #[.int 0 s₁.toks, .int n t, .int 1 (s₁.toks + 1)] }) (o := { cls := .type "range_iterator", data := .fields #[rawInt 0, rawInt n, rawInt 1] }) rfl
    rw [Heap.size_push] at this
    simpa [IsRangeIter] using this
  · rintro i j v h hx ⟨t, rfl⟩
    obtain ⟨h1, h2⟩ := List.getElem?_eq_some_iff.mp hx
    have : i = j := by simpa using h2
    subst this
    exact ⟨t, by simp⟩
end
end
end Mine
end

section
open PySem PySem.W PyProof.Rows PySem.Calls
open Builtin.Str (glued)
set_option maxRecDepth 100000
set_option maxHeartbeats 200000
namespace Mine
noncomputable section
theorem m_left : D 17 ∈ recsOf qv := List.mem_of_getElem? (i := 10) (by kernel_rfl)
theorem n_left : (D 17).name = "_law_left" := by kernel_rfl
def chr1 (c : Nat) : Str := ⟨#[c]⟩
theorem glued_chars (l : List Nat) : glued ⟨#[]⟩ (l.map chr1) = ⟨l.toArray⟩ := by
  have aux : ∀ (l : List Nat) (a : Array Nat), (l.map chr1).foldl (fun acc p => acc ++ (#[] : Array Nat) ++ p.cps) a = a ++ l.toArray := by
    intro l
    induction l with
    | nil => intro a; simp
    | cons c l ih =>
      intro a
      rw [List.map_cons, List.foldl_cons, ih]
      simp [chr1]
  cases l with
  | nil => rfl
  | cons c l =>
    unfold glued
    rw [List.map_cons, List.drop_one, List.tail_cons, List.headD_cons]
    rw [show (chr1 c).cps = #[c] from rfl, aux]
    simp
theorem fold_chars (l : List Nat) : (l.map chr1).toArray.foldl (fun (n : Nat) (s : Str) => n + s.length + Str.length ⟨#[]⟩) 0 = l.length := by
  have aux : ∀ (l : List Nat) (a : Nat), (l.map chr1).foldl (fun (n : Nat) (s : Str) => n + s.length + Str.length ⟨#[]⟩) a = a + l.length := by
    intro l
    induction l with
    | nil => intro a; rfl
    | cons c l ih =>
      intro a
      rw [List.map_cons, List.foldl_cons, ih]
      show a + 1 + 0 + l.length = a + (l.length + 1)
      omega
  have := aux l 0
  simpa using this
theorem nil_str : Str.ofString "" = ⟨#[]⟩ := by rfl
theorem glued_chars' (l : List Nat) : glued (Str.ofString "") (l.map chr1) = ⟨l.toArray⟩ := by rw [nil_str]; exact glued_chars l
theorem fold_chars' (l : List Nat) : (l.map chr1).toArray.foldl (fun (n : Nat) (s : Str) => n + s.length + Str.length (Str.ofString "")) 0 = l.length := by rw [nil_str]; exact fold_chars l
section
variable {w : World} {hb : Heap} {mg mb : Str → Option Value} {A : Around} {s : Shared} {k : Nat} {env : Env}
theorem strs_of {h : Heap} {ok : Addr → Prop} {vs : List Value} {xs : List Str} (H : Paired (tStr.R ok h) vs xs) : ∃ l : List (Str × Tok), vs = strValues l ∧ l.map (·.1) = xs := by
  induction H with
  | nil => exact ⟨[], rfl, rfl⟩
  | cons e r ih =>
    obtain ⟨t, rfl⟩ := e
    obtain ⟨l, rfl, rfl⟩ := ih
    exact ⟨(_, t) :: l, rfl, rfl⟩

theorem pJoin {sep : Str} {xs : List Str} {e : PySem.Expr} {kk : Nat} {np ap pos : Pos} (h : Pv hb (model p w) A env s e (tList tStr) xs) (hsz : xs.toArray.foldl (fun (n : Nat) (s : Str) => n + s.length + sep.length) 0 ≤ sizeLine) (big : (glued sep xs).length ≤ sizeLine)
    (he : ∃ pl : Sem Bool, eval (.Call (.Attribute (.Constant (.str sep) kk np) "join" ap) [e] [] pos) env = (do
      let ov ← eval (.Constant (.str sep) kk np) env
      standAt ap.atName
      let (f, first) ← holding [ov] (getMethod ov "join" pl)
      callWith pos f first (backTo pos (starEach [e] env)) []))
    (hs : starEach [e] env = (false, eval e env) :: starEach [] env := by rfl) :
    Pv hb (model p w) A env s (.Call (.Attribute (.Constant (.str sep) kk np) "join" ap) [e] [] pos) tStr (glued sep xs) := by
  refine ⟨fun s' kp Q E q => ?_⟩
  obtain ⟨pl, he⟩ := he
  refine MethodCall_ (pl := pl) ?_ he
  refine (pStr (i := sep) (k := kk) : Pv hb (model p w) A env s _ _ _).run s' kp _ _ fun v s₁ k₁ r => ?_
  obtain ⟨t, rfl⟩ := r
  refine getMethod_builtin (typeIs_str _ _ _) PySem.F.plainAttrs_str PySem.F.slot_str_join PySem.F.type_str_join (fun a ha => by cases ha) ?_
  refine callWith_method1 (args_cons (h.run s₁ (kp.trans k₁) _ _ fun v s₂ k₂ r => args_nil ?_) hs) hs
  obtain ⟨a, vs, rfl, _, l, f⟩ := r
  obtain ⟨ps, rfl, hps⟩ := strs_of f
  show wpAny _ _ (call (.builtin "str.join") [.str sep t, .ref a]) Q E s₂
  have hl : Builtin.Str.tooLong ((ps.map (·.1)).toArray.foldl (· + ·.length + sep.length) 0) = false := by
    rw [hps]
    exact decide_eq_false (Nat.not_lt.mpr hsz)
  refine call_meets PySem.F.slot_str_join (typeIs_str _ _ _) PySem.F.entry_str_join (PySem.F.args_str_join_2 _ _) (meets_str_join_list sep t a ps hl) ⟨l.isList, ?_⟩
  subst hps
  rcases ps with _ | ⟨x, _ | ⟨y, r⟩⟩
  · exact ⟨by exact big, q _ _ ((k₁.trans k₂).trans Kp.tk) ⟨_, rfl⟩⟩
  · exact q _ _ (k₁.trans k₂) ⟨x.2, rfl⟩
  · exact ⟨by exact big, q _ _ ((k₁.trans k₂).trans Kp.tk) ⟨_, rfl⟩⟩

def leftOf (P : Params) (x : Str) : Str := ⟨(x.cps.toList.filter (fun (c : Nat) => !b1Is P (c : Int))).toArray⟩
theorem f_left (G : Gnd w hb mg mb) (x : Str) (hx : x.length ≤ 1000) : Fn hb w mg 2 "_law_left" (A1 tStr x) tStr (leftOf w.params x) := by
  refine fn1 (px := "text") G m_left n_left (fun _ _ _ _ => by rfl) rfl (fun L n c h => by cases h) rfl rfl rfl fun A' L a cd s₁ C F va E => ?_
  have hlen : x.cps.toList.length ≤ 1000 := by rw [Array.length_toList]; exact hx
  have hfl : (x.cps.toList.filter (fun (c : Nat) => !b1Is w.params (c : Int))).length ≤ 1000 := Nat.le_trans (List.length_filter_le _ _) hlen
  have big : (1000 : Nat) ≤ sizeLine := by decide
  refine sRet Stp.rfl ?_
  have e : leftOf w.params x = glued (Str.ofString "") ((x.cps.toList.filter (fun (c : Nat) => !b1Is w.params (c : Int))).map chr1) := (glued_chars' _).symm
  rw [e]
  refine pJoin ?_ (by rw [fold_chars']; exact Nat.le_trans hfl big) (by rw [glued_chars']; exact Nat.le_trans hfl big) ⟨_, by rfl⟩
  refine pComp (T' := tStr) (xs := x.cps.toList) (cl := []) (PP := fun _ c v h => tStr.at h v ⟨#[c]⟩) C.st (Nat.le_trans hlen big) (by rfl) (by decide) rfl (by decide) fun s' kp => ?_
  refine compName (T := tStr) (g := chr1) (F.kp kp) (kp.ext.base C.st) rfl (fun _ _ h => by cases h) List.Pairwise.nil (fun _ _ h => by cases h) (fun C => by rfl) (srcStr C.hand (va.kp kp).pv) (fun x v s₃ h _ => h) fun i c C' s₄ hx k₄ F₄ S₄ vs _ => ?_
  refine ⟨.one (ptNot (ptOf ?_)), fun _ => EltAt.flat tStr_flat vs.pv⟩
  exact pCall1 G ⟨rfl, rfl, rfl⟩ m_b1 n_b1 (C.kp (kp.trans k₄)) (by rfl) vs.pv (f_b1 G c)
end
end
end Mine
end

section
open PySem PySem.W PyProof.Rows PySem.Calls
open Builtin.Str (glued)
set_option maxRecDepth 100000
set_option maxHeartbeats 200000
namespace Mine
noncomputable section
section
variable {w : World} {hb : Heap} {mg mb : Str → Option Value} {A : Around} {s : Shared} {k : Nat} {env : Env}
theorem pFloor {x y : Int} {l r : PySem.Expr} {pos : Pos} (hy : y ≠ 0) (hy2 : y.natAbs < 1073741824) (hl : Pv hb (model p w) A env s l tInt x) (hr : Pv hb (model p w) A env s r tInt y) : Pv hb (model p w) A env s (.BinOp l .FloorDiv r pos) tInt (x.fdiv y) :=
  pBin hl hr fun s' _ _ Q E _ ⟨_, h1⟩ ⟨_, h2⟩ q => by subst h1; subst h2; exact floordiv_int hy (q _ _ Kp.tk ⟨_, rfl⟩) (Or.inl (PyProof.noPylong_small hy2))

theorem pPair {α β : Type} {T : Ty α} {S : Ty β} {x : α} {y : β} {e e' : PySem.Expr} {x1 : Nat} {pos : Pos} (h : Pv hb (model p w) A env s e T x) (h' : Pv hb (model p w) A env s e' S y)
    (hs : starEach [e, e'] env = (false, eval e env) :: starEach [e'] env := by rfl) (hs' : starEach [e'] env = (false, eval e' env) :: starEach [] env := by rfl) :
    Pv hb (model p w) A env s (.Tuple [e, e'] x1 pos) (tPair T S) (x, y) := by
  refine ⟨fun s₅ k Q E q => ?_⟩
  refine wpAny_Tuple_spliced ?_
  refine args_cons (h.run s₅ k _ _ fun v s₁ k₁ r => args_cons (h'.run s₁ (k.trans k₁) _ _ fun v' s₂ k₂ r' => args_nil ?_) hs') hs
  refine ⟨show 2 ≤ sizeLine by decide, ?_⟩
  have up : ∀ b o, s₂.heap.get? b = some o → (s₂.heap.push { cls := .type "tuple", data := .seq ([v, v'] : List Value).toArray }).get? b = some o := fun b o e => Heap.get?_push_of_some _ e
  have ex : Ext hb s₂.heap (s₂.heap.push { cls := .type "tuple", data := .seq ([v, v'] : List Value).toArray }) := .of up
  exact q _ _ ((k₁.trans k₂).trans (Kp.mkH up)) ⟨_, v, v', rfl, trivial, ⟨_, Heap.get?_push_size _ rfl, rfl, _, rfl⟩, Ty.at_ext (Ty.at_ext r k₂.ext) ex, Ty.at_ext r' ex⟩

theorem lp_at {α : Type} {T : Ty α} {s₃ : Shared} {v : Value} {x : α} (r : T.at s.heap v x) (lp : Lp hb s.heap s s₃) : T.at s₃.heap v x := by
  refine T.mono (Ty.move (T.seq r) lp.ext ?_) fun _ _ => trivial
  rintro a ⟨_, o, xs, n, e, _⟩ q
  rw [q] at e; cases e

structure Upd2 (hb : Heap) (env : Env) (n1 n2 : Str) (s s' : Shared) : Prop where
  stp : Stp hb env s s'
  frm : FrmOk hb env s'
  var : ∀ {α : Type} {S : Ty α} {n' : Str} {y : α}, ¬ n' = n1 → ¬ n' = n2 → Var hb env n' S y s → Var hb env n' S y s'

abbrev Bindable (env : Env) (n : Str) : Prop := env.kindOf n = some .local ∨ (env.kindOf n = some .cell ∧ ∃ c, env.cells.lookup n = some c)

theorem sAssign2 {α β : Type} {T : Ty α} {S : Ty β} {x : α} {y : β} {n1 n2 : Str} {e e' : PySem.Expr} {x1 x2 : Nat} {p1 p2 tp vp pos : Pos} {Q : Flow → Shared → Prop} {E : Value → Shared → Prop} (hh : A.handled = none) (F : FrmOk hb env s)
    (h : Pv hb (model p w) A env s e T x) (h' : Pv hb (model p w) A env s e' S y) (hne : ¬ n1 = n2) (hl1 : Bindable env n1) (hl2 : Bindable env n2)
    (q : ∀ s', Upd2 hb env n1 n2 s s' → Var hb env n1 T x s' → Var hb env n2 S y s' → Q .next s')
    (hs : swapsWithSole [.Tuple [.Name n1 p1, .Name n2 p2] x1 tp] (.Tuple [e, e'] x2 vp) pos.line env = pure false := by rfl)
    (hw : swappedStores [.Tuple [.Name n1 p1, .Name n2 p2] x1 tp] (.Tuple [e, e'] x2 vp) env = pure none := by rfl)
    (hs1 : starEach [e, e'] env = (false, eval e env) :: starEach [e'] env := by rfl) (hs2 : starEach [e'] env = (false, eval e' env) :: starEach [] env := by rfl) :
    wpAny (model p w) A (exec (.Assign [.Tuple [.Name n1 p1, .Name n2 p2] x1 tp] (.Tuple [e, e'] x2 vp) pos) env) Q E s := by
  refine PyProof.Rows.Assign_Tuple ((pPair h h' hs1 hs2).go fun v s₁ k₁ r => ?_) hs hw
  obtain ⟨a, u, u', rfl, _, ht, r1, r2⟩ := r
  refine wpAny_assign_Tuple hh ht (by rfl) (by rfl) fun h1 hx => ?_
  have up : ∀ b o, s₁.heap.get? b = some o → h1.get? b = some o := fun b o e => hx b o (Nat.ne_of_lt (Heap.lt_size e)) e
  have k2 : Kp hb s { s₁ with heap := h1 } := k₁.trans (Kp.mkH up)
  have ex : Ext hb s₁.heap h1 := .of up
  show wpAny _ A (assignInOrder [assign (.Name n1 p1) env, assign (.Name n2 p2) env] [u, u']) _ E _
  refine PyProof.Rows.assignInOrder_cons (wpAny_assign_Name (store_var (T := T) (x := x) (F.kp k2) hl1 (Ty.at_ext r1 ex) fun s3 u3 v3 => ?_))
  have r2' : S.at s3.heap u' y := by
    obtain ⟨m, cm, FF⟩ := F.kp k2
    exact Ty.to_at (S.stp (FF.okF (Ty.at_ext r2 ex)) u3.stp)
  refine PyProof.Rows.assignInOrder_cons (wpAny_assign_Name (store_var (T := S) (x := y) u3.frm hl2 r2' fun s4 u4 v4 => ?_))
  exact PyProof.Rows.assignInOrder_nil (q s4 ⟨(k2.stp.trans u3.stp).trans u4.stp, u4.frm, fun a b v => u4.var b (u3.var a (v.kp k2))⟩ (u4.var hne v3) v4)

theorem sAssign2s {α β : Type} {T : Ty α} {S : Ty β} {x : α} {y : β} {n1 n2 : Str} {e e' : PySem.Expr} {x1 x2 : Nat} {p1 p2 tp vp pos : Pos} {Q : Flow → Shared → Prop} {E : Value → Shared → Prop} (hh : A.handled = none) (F : FrmOk hb env s)
    (h : Pv hb (model p w) A env s e T x) (h' : Pv hb (model p w) A env s e' S y) (hne : ¬ n1 = n2) (hl1 : Bindable env n1) (hl2 : Bindable env n2)
    (q : ∀ s', Upd2 hb env n1 n2 s s' → Var hb env n1 T x s' → Var hb env n2 S y s' → Q .next s')
    (hs : swapsWithSole [.Tuple [.Name n1 p1, .Name n2 p2] x1 tp] (.Tuple [e, e'] x2 vp) pos.line env = pure false := by rfl)
    (hw : swappedStores [.Tuple [.Name n1 p1, .Name n2 p2] x1 tp] (.Tuple [e, e'] x2 vp) env = pure (some [n1, n2]) := by rfl)
    (hs1 : starEach [e, e'] env = (false, eval e env) :: starEach [e'] env := by rfl) (hs2 : starEach [e'] env = (false, eval e' env) :: starEach [] env := by rfl) :
    wpAny (model p w) A (exec (.Assign [.Tuple [.Name n1 p1, .Name n2 p2] x1 tp] (.Tuple [e, e'] x2 vp) pos) env) Q E s := by
  refine PyProof.Rows.Assign_Tuple_swapped ((pPair h h' hs1 hs2).go fun v s₁ k₁ r => ?_) hs hw
  obtain ⟨a, u, u', rfl, _, ht, r1, r2⟩ := r
  have e2 : [n1, n2].length = (#[u, u'] : Array Value).size := rfl
  rw [e2]
  refine wpAny_unpackItems_tuple hh ht fun h1 hx => ?_
  have up : ∀ b o, s₁.heap.get? b = some o → h1.get? b = some o := fun b o e => hx b o (Nat.ne_of_lt (Heap.lt_size e)) e
  have k2 : Kp hb s { s₁ with heap := h1 } := k₁.trans (Kp.mkH up)
  have ex : Ext hb s₁.heap h1 := .of up
  show wpAny _ A (assignInOrder [bindName env n2, bindName env n1] [u', u]) _ E _
  refine PyProof.Rows.assignInOrder_cons (wpAny_bindName (store_var (T := S) (x := y) (F.kp k2) hl2 (Ty.at_ext r2 ex) fun s3 u3 v3 => ?_))
  have r1' : T.at s3.heap u x := by
    obtain ⟨m, cm, FF⟩ := F.kp k2
    exact Ty.to_at (T.stp (FF.okF (Ty.at_ext r1 ex)) u3.stp)
  refine PyProof.Rows.assignInOrder_cons (wpAny_bindName (store_var (T := T) (x := x) u3.frm hl1 r1' fun s4 u4 v4 => ?_))
  exact PyProof.Rows.assignInOrder_nil (q s4 ⟨(k2.stp.trans u3.stp).trans u4.stp, u4.frm, fun a b v => u4.var a (u3.var b (v.kp k2))⟩ v4 (u4.var (fun e => hne e.symm) v3))

theorem f_b3_spelled (G : Gnd w hb mg mb) (place turn : Int) (h0 : 0 ≤ place) (h1 : place ≤ 25) : Fn hb w mg 2 "map_table_b3" (A1 tStr ⟨#[spelledAt place turn]⟩) tStr (chr1 (97 + place.toNat)) := by
  have h00 : 0 ≤ turn.fmod 12 := Int.fmod_nonneg_of_pos _ (by decide)
  have h12 : turn.fmod 12 < 12 := Int.fmod_lt_of_pos _ (by decide)
  have hi : place.toNat < 26 := by omega
  have low97 : ∀ i < 26, placed ⟨#[97 + i]⟩ (fun j _ => Unicode.lowerAt #[97 + i] j) = #[97 + i] := by decide +kernel
  have low65 : ∀ i < 26, placed ⟨#[65 + i]⟩ (fun j _ => Unicode.lowerAt #[65 + i] j) = #[97 + i] := by decide +kernel
  unfold spelledAt
  generalize (turn.fmod 12) = t at h00 h12
  obtain ⟨t, rfl⟩ := Int.eq_ofNat_of_zero_le h00
  have h12 : t < 12 := by omega
  simp only [Int.toNat_natCast]
  by_cases h2 : t < 2
  · have : t = 0 ∨ t = 1 := by omega
    rcases this with rfl | rfl
    · exact f_b3_low G (c := 97 + place.toNat) (by omega) (low97 _ hi)
    · exact f_b3_low G (c := 65 + place.toNat) (by omega) (low65 _ hi)
  · have := b3_math (t - 2) (by omega) place.toNat hi
    rw [show t - 2 + 2 = t by omega] at this
    exact f_b3_some G this
end
end
end Mine
end

section
open PySem PySem.W PyProof.Rows PySem.Calls
open Builtin.Str (glued)
set_option maxRecDepth 100000
set_option maxHeartbeats 400000
namespace Mine
noncomputable section
theorem m_choices : D 16 ∈ recsOf qv := List.mem_of_getElem? (i := 9) (by kernel_rfl)
theorem n_choices : (D 16).name = "_law_choices" := by kernel_rfl
def choiceStep (low c : Int) (ps : List (Str × Int)) : List (Str × Int) :=
  ps.map (fun p => (p.1 ++ chr1 (goneAt (c.fdiv 36)), p.2 + 1)) ++ ps.map (fun p => (p.1 ++ chr1 (97 + (low + c.fmod 3).toNat), p.2))
def choicesL (low : Int) (cs : List Int) : List (Str × Int) := cs.foldl (fun ps c => choiceStep low c ps) [(Str.ofString "", 0)]
theorem str_len_app (x y : Str) : (x ++ y).length = x.length + y.length := by
  show (x.cps ++ y.cps).size = _
  simp [Str.length]
theorem choices_bound (low : Int) (cs : List Int) : (choicesL low cs).length = 2 ^ cs.length ∧ ∀ p ∈ choicesL low cs, p.1.length = cs.length := by
  have aux : ∀ (cs : List Int) (ps : List (Str × Int)) (n : Nat), (∀ p ∈ ps, p.1.length = n) → (cs.foldl (fun ps c => choiceStep low c ps) ps).length = ps.length * 2 ^ cs.length ∧ ∀ p ∈ cs.foldl (fun ps c => choiceStep low c ps) ps, p.1.length = n + cs.length := by
    intro cs
    induction cs with
    | nil => intro ps n h; exact ⟨by simp, by simpa using h⟩
    | cons c cs ih =>
      intro ps n h
      have h' : ∀ p ∈ choiceStep low c ps, p.1.length = n + 1 := by
        intro p hp
        unfold choiceStep at hp
        rcases List.mem_append.mp hp with hp | hp <;> obtain ⟨q, hq, rfl⟩ := List.mem_map.mp hp <;> rw [str_len_app, h q hq] <;> rfl
      obtain ⟨h1, h2⟩ := ih _ _ h'
      refine ⟨?_, fun p hp => ?_⟩
      · rw [List.foldl_cons, h1]
        simp only [choiceStep, List.length_append, List.length_map, List.length_cons, Nat.pow_succ]
        rw [← Nat.two_mul, Nat.mul_comm 2, Nat.mul_assoc, Nat.mul_comm 2]
      · rw [h2 p hp, List.length_cons]; omega
  have := aux cs [(Str.ofString "", 0)] 0 (fun p hp => by rw [List.mem_singleton.mp hp]; rfl)
  simpa [choicesL] using this
section
variable {w : World} {hb : Heap} {mg mb : Str → Option Value} {A : Around} {s : Shared} {k : Nat} {env : Env}
theorem Var.up2 {α : Type} {S : Ty α} {n1 n2 n' : Str} {y : α} {s' : Shared} (v : Var hb env n' S y s) (u : Upd2 hb env n1 n2 s s') (h1 : ¬ n' = n1 := by decide) (h2 : ¬ n' = n2 := by decide) : Var hb env n' S y s' := u.var h1 h2 v
theorem Var.up {α : Type} {S : Ty α} {n1 n' : Str} {y : α} {s' : Shared} (v : Var hb env n' S y s) (u : Upd hb env n1 s s') (h1 : ¬ n' = n1 := by decide) : Var hb env n' S y s' := u.var h1 v
abbrev tPs : Ty (Str × Int) := tPair tStr tInt
/-- unpack a pair into text and strikes -/
theorem asgPs {cenv : Env} {s₀ s₃ : Shared} {v : Value} {x : Str × Int} {x1 : Nat} {tp p1 p2 : Pos} {n1 n2 : Str} (hh : A.handled = none) (r : tPs.at s₀.heap v x) (lp : Lp hb s₀.heap s₀ s₃) (F₃ : FrmOk hb cenv s₃) (hl1 : cenv.kindOf n1 = some .local) (hl2 : cenv.kindOf n2 = some .local) (hne : ¬ n1 = n2) :
    Asg hb w A cenv (.Tuple [.Name n1 p1, .Name n2 p2] x1 tp) v s₃ ([n1] ++ [n2]) (fun s' => Var hb cenv n1 tStr x.1 s' ∧ Var hb cenv n2 tInt x.2 s') := by
  obtain ⟨a, u, u', rfl, _, ht, r1, r2⟩ := lp_at r lp
  refine asgPair hh F₃ ht (fun s' k => asgName (F₃.kp k) hl1 r1) (fun s' s'' _ a1 => asgName a1.frm hl2 r2) fun s' s'' a2 v1 => ?_
  exact a2.var (fun q => hne (List.mem_singleton.mp q)) v1

theorem lk1 {a n : Str} {v c : Addr} (h : [(a, v)].lookup n = some c) : n = a ∧ c = v := by
  rw [List.lookup_cons] at h
  by_cases e : n = a
  · subst e
    rw [beq_self_eq_true] at h
    exact ⟨rfl, (Option.some.inj h).symm⟩
  · rw [show (n == a) = false from beq_eq_false_iff_ne.mpr e] at h
    cases h
theorem cl1a {a : Str} {v : Addr} (h : env.cells.lookup a = some v) : ∀ n c, (n, c) ∈ [(a, v)] → (n, c) ∈ env.cells := fun n c e => by
  rw [List.mem_singleton.mp e]; exact mem_of_lookup h
theorem cl1b {a : Str} {v : Addr} (h : env.cells.lookup a = some v) : ∀ n c, [(a, v)].lookup n = some c → env.cells.lookup n = some c := fun n c e => by
  obtain ⟨rfl, rfl⟩ := lk1 e
  exact h

theorem f_choices (G : Gnd w hb mg mb) (cells : List Int) (low : Int) (hc : cells.length ≤ 6) (h0 : 0 ≤ low) (h1 : low ≤ 23) : Fn hb w mg 4 "_law_choices" (A2 (tList tInt) cells tInt low) (tList tPs) (choicesL low cells) := by
  refine fn2 (px := "cells") (pz := "low") G m_choices n_choices (fun _ _ _ _ _ => by rfl) rfl rfl (by decide) (fun L n c h => ?_) rfl rfl rfl fun A' L a cd s₁ C F vc vl E => ?_
  · have e : cellsFrom L (D 16).scope.names [] = [(Str.ofString "kept", L + 1), (Str.ofString "gone", L)] := by rfl
    rw [e] at h ⊢
    simp only [List.mem_cons, List.not_mem_nil, or_false, Prod.mk.injEq] at h
    rcases h with ⟨rfl, rfl⟩ | ⟨rfl, rfl⟩ <;> rfl
  have hcells : (envD (D 16) L a cd).cells = [(Str.ofString "kept", L + 1 + 1), (Str.ofString "gone", L + 1)] := by rfl
  refine wpAny_execs_cons (sAssign (n := "pairs") (T := tList tPs) (x := [(Str.ofString "", 0)]) F (pList (T := tPs) (.cons (pPair pStr pInt) (fun _ => by rfl) .nil) (by show 1 ≤ _; decide)) (.inl rfl) fun s₂ u₂ vp => ?_)
  have C2 := C.stp u₂.stp
  refine wpAny_execs_cons ?_
  refine sFor (xs := cells) (PP := fun x v _ => tInt.at s₂.heap v x) u₂.frm C2.st (forList C2.hand (listAt_var (vc.up u₂)))
    (fun i s => FrmOk hb (envD (D 16) L a cd) s ∧ Var hb (envD (D 16) L a cd) "pairs" (tList tPs) (choicesL low (cells.take i)) s ∧ Var hb (envD (D 16) L a cd) "low" tInt low s)
    (fun i s s' h k => ⟨h.1.wk k, h.2.1.wk k, h.2.2.wk k⟩) (fun i s h => h.1) (fun s₃ k₃ => ⟨u₂.frm.kp k₃, vp.kp k₃, (vl.up u₂).kp k₃⟩) (fun i x v s₃ E' hx hP hI stp3 => ?_) fun s' hI stp => ?_
  · obtain ⟨F3, vp3, vl3⟩ := hI
    have C3 := C2.stp stp3
    have hx3 : 0 ≤ x.fmod 3 := Int.fmod_nonneg_of_pos _ (by decide)
    have hx4 : x.fmod 3 < 3 := Int.fmod_lt_of_pos _ (by decide)
    obtain ⟨hlen, hall⟩ := choices_bound low (cells.take i)
    have hi : i < cells.length := (List.getElem?_eq_some_iff.mp hx).1
    have htk : (cells.take i).length = i := by rw [List.length_take]; omega
    rw [htk] at hlen hall
    have hlen : (choicesL low (cells.take i)).length ≤ 32 := by
      rw [hlen]
      have : 2 ^ i ≤ 2 ^ 5 := Nat.pow_le_pow_right (by decide) (by omega)
      omega
    have szl : (1000 : Nat) ≤ sizeLine := by decide
    refine wpAny_assign_Name (store_var (n := "cell") (T := tInt) (x := x) F3 (.inl rfl) hP fun s₄ u₄ vx => ?_)
    have C4 := C3.stp u₄.stp
    refine wpAny_execs_cons (sAssign2 (n1 := "gone") (n2 := "kept") (T := tStr) (S := tStr) (x := chr1 (goneAt (x.fdiv 36))) (y := chr1 (97 + (low + x.fmod 3).toNat)) C4.hand u₄.frm ?_ ?_ (by decide) (.inr ⟨rfl, _, rfl⟩) (.inr ⟨rfl, _, rfl⟩) fun s₅ u₅ vg vk => ?_)
    · exact pCall1 G ⟨rfl, rfl, rfl⟩ m_gone n_gone (C4.less (by decide)) (by rfl) (pFloor (by decide) (by decide) vx.pv pInt) (f_gone G _)
    · refine pCall1 G ⟨rfl, rfl, rfl⟩ m_b3 n_b3 (C4.less (by decide)) (by rfl) (pCall2 G ⟨rfl, rfl, rfl⟩ m_spelled n_spelled (C4.less (by decide)) (by rfl) (pAdd (vl3.up u₄).pv (pMod (by decide) vx.pv pInt)) (pFloor (by decide) (by decide) vx.pv pInt) (f_spelled G _ _ (by omega) (by omega))) (f_b3_spelled G _ _ (by omega) (by omega))
    have C5 := C4.stp u₅.stp
    have vp5 := (vp3.up u₄).up2 u₅
    refine wpAny_execs_cons ?_
    refine sAssignComp (n := "struck") (T' := tPs) (xs := choicesL low (cells.take i)) (pp := fun _ => true) (f := fun p => (p.1 ++ chr1 (goneAt (x.fdiv 36)), p.2 + 1)) (PP := fun x v _ => tPs.at s₅.heap v x) (cl := [(Str.ofString "gone", L + 1)]) u₅.frm C5.st (Nat.le_trans hlen (by decide)) (.inl rfl) (by rfl) (by rfl) (by decide) rfl (by decide) ?_ fun s₆ u₆ vs => ?_
    · refine compTgt (R := fun x cenv s => Var hb cenv "text" tStr x.1 s ∧ Var hb cenv "strikes" tInt x.2 s) (ns := [Str.ofString "text"] ++ [Str.ofString "strikes"]) u₅.frm C5.st rfl ?_ ?_ ?_ ?_ (srcListT C5.hand (listAt_var vp5)) (fun y v s₃ Cc h lp F₃ => asgPs C5.hand h lp F₃ rfl rfl (by decide)) fun j y Cc s₇ hy k₇ F₇ S₇ r₇ => ⟨.nil, fun _ => ?_⟩
      · exact cl1a (by rfl)
      · exact List.pairwise_singleton _ _
      · exact cl1b (by rfl)
      · intro Cc n hn
        simp only [List.cons_append, List.nil_append, List.mem_cons, List.not_mem_nil, or_false] at hn
        rcases hn with rfl | rfl <;> rfl
      · have hy' := hall y (List.mem_of_getElem? hy)
        refine eltPair tStr_flat tInt_flat ?_ ?_
        · refine pCall2 G ⟨rfl, rfl, rfl⟩ m_concat n_concat ((C5.kp k₇).less (by decide)) (by rfl) r₇.1.pv (S₇.var vg rfl rfl (by rfl)).pv (f_concat_str G _ _ ?_)
          rw [hy']; show i + 1 ≤ _; omega
        · exact pCall2 G ⟨rfl, rfl, rfl⟩ m_add n_add ((C5.kp k₇).less (by decide)) (by rfl) r₇.2.pv pInt (f_add G _ _)
    have C6 := C5.stp u₆.stp
    have vp6 := vp5.up u₆
    have e1 : ((choicesL low (cells.take i)).filter (fun _ => true)) = choicesL low (cells.take i) := List.filter_eq_self.mpr fun _ _ => rfl
    rw [e1] at vs
    refine wpAny_execs_cons (sAssign (n := "pairs") (T := tList tPs) (x := choicesL low (cells.take (i + 1))) u₆.frm ?_ (.inl rfl) fun s₇ u₇ vp7 => ?_)
    · have e2 : choicesL low (cells.take (i + 1)) = (choicesL low (cells.take i)).map (fun p => (p.1 ++ chr1 (goneAt (x.fdiv 36)), p.2 + 1)) ++ ((choicesL low (cells.take i)).filter (fun _ => true)).map (fun p => (p.1 ++ chr1 (97 + (low + x.fmod 3).toNat), p.2)) := by
        rw [e1, List.take_add_one, hx]
        simp only [choicesL, List.foldl_append, Option.toList_some, List.foldl_cons, List.foldl_nil]
        rfl
      rw [e2]
      refine pListAdd ?_ vs.pv ?_
      · rw [e1, List.length_map, List.length_map]; omega
      refine pComp (T' := tPs) (xs := choicesL low (cells.take i)) (pp := fun _ => true) (f := fun p => (p.1 ++ chr1 (97 + (low + x.fmod 3).toNat), p.2)) (cl := [(Str.ofString "kept", L + 2)]) (PP := fun s x v _ => tPs.at s.heap v x) C6.st (Nat.le_trans hlen (by decide)) (by rfl) (by decide) rfl (by decide) fun s₈ k₈ => ?_
      have C8 := C6.kp k₈
      refine compTgt (R := fun x cenv s => Var hb cenv "text" tStr x.1 s ∧ Var hb cenv "strikes" tInt x.2 s) (ns := [Str.ofString "text"] ++ [Str.ofString "strikes"]) (u₆.frm.kp k₈) C8.st rfl (cl1a (by rfl)) (List.pairwise_singleton _ _) (cl1b (by rfl)) ?_ (srcListT C8.hand (listAt_var (vp6.kp k₈))) (fun y v s₃ Cc h lp F₃ => asgPs C8.hand h lp F₃ rfl rfl (by decide)) fun j y Cc s₇ hy k₇ F₇ S₇ r₇ => ⟨.nil, fun _ => ?_⟩
      · intro Cc n hn
        simp only [List.cons_append, List.nil_append, List.mem_cons, List.not_mem_nil, or_false] at hn
        rcases hn with rfl | rfl <;> rfl
      · have hy' := hall y (List.mem_of_getElem? hy)
        refine eltPair tStr_flat tInt_flat ?_ r₇.2.pv
        refine pCall2 G ⟨rfl, rfl, rfl⟩ m_concat n_concat ((C8.kp k₇).less (by decide)) (by rfl) r₇.1.pv (S₇.var ((vk.up u₆).kp k₈) rfl rfl (by rfl)).pv (f_concat_str G _ _ ?_)
        rw [hy']; show i + 1 ≤ _; omega
    · have k57 : Stp hb (envD (D 16) L a cd) s₃ s₇ := ((u₄.stp.trans u₅.stp).trans u₆.stp).trans u₇.stp
      exact wpAny_execs_nil ⟨k57, u₇.frm, vp7, (((vl3.up u₄).up2 u₅).up u₆).up u₇⟩
  · refine wpAny_execs_nil ?_
    obtain ⟨F3, vp3, vl3⟩ := hI
    rw [List.take_length] at vp3
    exact sRet (u₂.stp.trans stp) vp3.pv
end
end
end Mine
end

section
open PySem PySem.W PyProof.Rows PySem.Calls
open Builtin.Str (glued occurrences partsBetween strKind)
set_option maxRecDepth 100000
set_option maxHeartbeats 200000
namespace Mine
noncomputable section
def ellTok (P : Params) : Tok := match nsIn (KF P) mainGlobals "ELLIPSIS_MARKER" with | some (some (.str _ t)) => t | _ => 0
section
variable {w : World} {hb : Heap} {mg mb : Str → Option Value} {A : Around} {s : Shared} {k : Nat} {env : Env}
theorem pLenStr {x : Str} {e : PySem.Expr} {fp pos : Pos} (G : Gnd w hb mg mb) (V : EnvG env) (st : hb.StaysIn s.heap) (hx : env.kindOf "len" = some .globalImplicit) (h : Pv hb (model p w) A env s e tStr x) (hfit : x.length ≤ 1000000)
    (he : ∀ _ : PySem.Expr, eval (.Call (.Name "len" fp) [e] [] pos) env = (do callWith pos (← eval (.Name "len" fp) env) [] (backTo pos (starEach [e] env)) (backToKw pos (keywordEach [] env))) := by intro _; rfl)
    (hs : starEach [e] env = (false, eval e env) :: starEach [] env := by rfl) : Pv hb (model p w) A env s (.Call (.Name "len" fp) [e] [] pos) tInt x.length := by
  refine pB1 G V st (G.none (by kernel_rfl)) (G.bu (by decide) boot_len) hx h ?_ (by decide) he hs
  rintro s' v Q E _ ⟨t, rfl⟩ q
  exact P.len_str (by omega) (q _ _ Kp.tk ⟨_, rfl⟩)
theorem pLenList {α : Type} {T : Ty α} {x : List α} {e : PySem.Expr} {fp pos : Pos} (G : Gnd w hb mg mb) (V : EnvG env) (st : hb.StaysIn s.heap) (hx : env.kindOf "len" = some .globalImplicit) (h : Pv hb (model p w) A env s e (tList T) x) (hfit : x.length ≤ 1000000)
    (he : ∀ _ : PySem.Expr, eval (.Call (.Name "len" fp) [e] [] pos) env = (do callWith pos (← eval (.Name "len" fp) env) [] (backTo pos (starEach [e] env)) (backToKw pos (keywordEach [] env))) := by intro _; rfl)
    (hs : starEach [e] env = (false, eval e env) :: starEach [] env := by rfl) : Pv hb (model p w) A env s (.Call (.Name "len" fp) [e] [] pos) tInt x.length := by
  refine pB1 G V st (G.none (by kernel_rfl)) (G.bu (by decide) boot_len) hx h ?_ (by decide) he hs
  rintro s' v Q E _ ⟨a, xs, rfl, _, l, f⟩ q
  have e1 := paired_len f
  refine call_len_list l.isList (by rw [List.size_toArray]; omega) ?_
  rw [List.size_toArray, e1]
  exact q _ _ Kp.tk ⟨_, rfl⟩
theorem ptGe {x y : Int} {l r : PySem.Expr} {pos : Pos} (hl : Pv hb (model p w) A env s l tInt x) (hr : Pv hb (model p w) A env s r tInt y) (hm : behindInMarks .GtE r = false := by with_unfolding_all rfl) : Pt hb (model p w) A env s (.Compare l [.GtE] [r] pos) (decide (x ≥ y)) :=
  ptCmp hl hr (fun s' _ _ Q E _ ⟨_, h1⟩ ⟨_, h2⟩ q => by subst h1; subst h2; exact P.ge_int (q _ Kp.rfl)) hm
theorem ptGt {x y : Int} {l r : PySem.Expr} {pos : Pos} (hl : Pv hb (model p w) A env s l tInt x) (hr : Pv hb (model p w) A env s r tInt y) (hm : behindInMarks .Gt r = false := by with_unfolding_all rfl) : Pt hb (model p w) A env s (.Compare l [.Gt] [r] pos) (decide (x > y)) :=
  ptCmp hl hr (fun s' _ _ Q E _ ⟨_, h1⟩ ⟨_, h2⟩ q => by subst h1; subst h2; exact P.gt_int (q _ Kp.rfl)) hm
theorem ptEq {x y : Int} {l r : PySem.Expr} {pos : Pos} (hl : Pv hb (model p w) A env s l tInt x) (hr : Pv hb (model p w) A env s r tInt y) (hm : behindInMarks .Eq r = false := by with_unfolding_all rfl) : Pt hb (model p w) A env s (.Compare l [.Eq] [r] pos) (x == y) :=
  ptCmp hl hr (fun s' _ _ Q E _ ⟨_, h1⟩ ⟨_, h2⟩ q => by subst h1; subst h2; exact P.eq_int (q _ Kp.rfl)) hm
theorem pNeg {x : Int} {e : PySem.Expr} {pos : Pos} (h : Pv hb (model p w) A env s e tInt x) : Pv hb (model p w) A env s (.UnaryOp .USub e pos) tInt (-x) :=
  ⟨fun s' kk Q E q => wpAny_UnaryOp (h.run s' kk _ _ fun v s₁ k₁ r => by
    obtain ⟨t, rfl⟩ := r
    exact P.neg_int (q _ _ (k₁.trans Kp.tk) ⟨_, rfl⟩))⟩
theorem ptStr {x : Str} {e : PySem.Expr} (h : Pv hb (model p w) A env s e tStr x) (hfit : x.length ≤ 1000000) (he : ∀ whole, isTrue e env whole = (do let v ← whole; standAt e.pos; holding [v] (truthy v)) := by intro _; rfl) : Pt hb (model p w) A env s e ((x.length : Int) != 0) :=
  ⟨fun s' kk Q E q => isTrue_plain (h.run s' kk _ _ fun v s₁ k₁ r => by
    obtain ⟨t, rfl⟩ := r
    exact P.truthy_str (by omega) (q _ (k₁.trans Kp.tk))) (he _)⟩
theorem sAssert {b : Bool} {t : PySem.Expr} {msg : Option PySem.Expr} {pos : Pos} {Q : Flow → Shared → Prop} {E : Value → Shared → Prop} {M : Model} (h : Pt hb M A env s t b) (hb' : b = true) (q : ∀ s', Kp hb s s' → Q .next s') : wpAny M A (exec (.Assert t msg pos) env) Q E s :=
  wpAny_Assert_holds (h.go fun s' k => ⟨hb', q s' k⟩)
theorem sAugAdd {x y : Int} {n : Str} {e : PySem.Expr} {np pos : Pos} {Q : Flow → Shared → Prop} {E : Value → Shared → Prop} (v : Var hb env n tInt x s) (hl : env.kindOf n = some .local) (h : Pv hb (model p w) A env s e tInt y)
    (q : ∀ s', Upd hb env n s s' → Var hb env n tInt (x + y) s' → Q .next s') : wpAny (model p w) A (exec (.AugAssign (.Name n np) .Add e pos) env) Q E s := by
  refine wpAny_AugAssign_Name ?_
  have F := v.frm
  obtain ⟨m, cm, FF, u, ⟨t, hu⟩, o⟩ := v
  rcases o with ⟨_, hv⟩ | ⟨q', _⟩
  · refine wpAny_loadName_local FF.kind hl FF.ns hv ?_
    refine h.go fun u' s₁ k₁ r => ?_
    obtain ⟨t', rfl⟩ := r
    subst hu
    refine P.iadd_int (store_var (T := tInt) (x := x + y) (F.kp (k₁.trans Kp.tk)) (.inl hl) ⟨_, rfl⟩ fun s' u' v' => q s' (u'.kp (k₁.trans Kp.tk)) v')
  · rw [hl] at q'; cases q'

theorem pEll {pos : Pos} (G : Gnd w hb mg mb) (V : EnvG env) (st : hb.StaysIn s.heap) (hx : env.kindOf "ELLIPSIS_MARKER" = some .globalImplicit) : Pv hb (model p w) A env s (.Name "ELLIPSIS_MARKER" pos) tStr (Str.ofString "...") :=
  ⟨fun s' kp Q E q => ld_global G (kp.ext.base st) V.kind V.glob hx (v := .str (Str.ofString "...") (ellTok w.params)) (G.mgo (by kernel_rfl)) (by decide) (q _ _ Kp.rfl ⟨_, rfl⟩)⟩

theorem ptNotIn {x y : Str} {l r : PySem.Expr} {pos : Pos} (hl : Pv hb (model p w) A env s l tStr y) (hr : Pv hb (model p w) A env s r tStr x) (hm : behindInMarks .NotIn r = false := by with_unfolding_all rfl) : Pt hb (model p w) A env s (.Compare l [.NotIn] [r] pos) (!(!(occurrences x y 0 x.length 1).isEmpty)) :=
  ptCmp hl hr (fun s' _ _ Q E _ ⟨_, h1⟩ ⟨_, h2⟩ q => by subst h1; subst h2; exact P.notIn_str (q _ Kp.rfl)) hm

theorem strs_paired : ∀ (l : List Str) (t : Nat) (ok : Addr → Prop) (h : Heap), Paired (tStr.R ok h) (strsFrom t l) l
  | [], _, _, _ => .nil
  | x :: r, t, ok, h => .cons ⟨t, rfl⟩ (strs_paired r (t + 1) ok h)

theorem pSplit {x y : Str} {n : Str} {e : PySem.Expr} {np ap pos : Pos} (h : Pv hb (model p w) A env s (.Name n np) tStr x) (h' : Pv hb (model p w) A env s e tStr y)
    (h1 : (decide (x.length < y.length) || decide (strKind x < strKind y)) = false) (hy : (y.length == 0) = false)
    (hf : (occurrences x y 0 x.length (x.length + 1)).isEmpty = false) (hx : x.length ≤ sizeLine)
    (hn : (partsBetween x (occurrences x y 0 x.length (x.length + 1)) y.length).length ≤ sizeLine)
    (he : ∃ pl : Sem Bool, eval (.Call (.Attribute (.Name n np) "split" ap) [e] [] pos) env = (do
      let ov ← eval (.Name n np) env
      standAt ap.atName
      let (f, first) ← holding [ov] (getMethod ov "split" pl)
      callWith pos f first (backTo pos (starEach [e] env)) []))
    (hs : starEach [e] env = (false, eval e env) :: starEach [] env := by rfl) :
    Pv hb (model p w) A env s (.Call (.Attribute (.Name n np) "split" ap) [e] [] pos) (tList tStr) (partsBetween x (occurrences x y 0 x.length (x.length + 1)) y.length) := by
  refine ⟨fun s' kp Q E q => ?_⟩
  obtain ⟨pl, he⟩ := he
  refine MethodCall_ (pl := pl) ?_ he
  refine h.run s' kp _ _ fun v s₁ k₁ r => ?_
  obtain ⟨t, rfl⟩ := r
  refine getMethod_builtin (typeIs_str _ _ _) PySem.F.plainAttrs_str PySem.F.slot_str_split PySem.F.type_str_split (fun a ha => by cases ha) ?_
  refine callWith_method1 (args_cons (h'.run s₁ (kp.trans k₁) _ _ fun v s₂ k₂ r => args_nil ?_) hs) hs
  obtain ⟨u, rfl⟩ := r
  show wpAny _ _ (call (.builtin "str.split") [.str x t, .str y u]) Q E s₂
  refine call_meets PySem.F.slot_str_split (typeIs_str _ _ _) PySem.F.entry_str_split (PySem.F.args_str_split_2 _ _) (meets_str_split_sep x y t u h1 hy hf hx hn) ?_
  have up : ∀ b o, s₂.heap.get? b = some o → (s₂.heap.push { cls := .type "list", data := .seq (strsFrom s₂.toks (partsBetween x (occurrences x y 0 x.length (x.length + 1)) y.length)).toArray }).get? b = some o := fun b o e => Heap.get?_push_of_some _ e
  exact q _ _ ((k₁.trans k₂).trans (Kp.mk' (Nat.le_add_right _ _) up)) ⟨_, _, rfl, trivial, ⟨0, Heap.get?_push_size _ rfl⟩, strs_paired _ _ _ _⟩

theorem gives_find4 (x y : Str) (i j : Int) (t u v v' : Tok) : Gives (Builtin.«str.find» ⟨[.str x t, .str y u, .int i v, .int j v'], []⟩) (.int (match occurrences x y (fromIndex x.length i) (min (fromIndex x.length j) x.length) 1 with | k :: _ => (k : Int) | [] => -1)) := by
  show Gives (match occurrences x y (fromIndex x.length i) (min (fromIndex x.length j) x.length) 1 with | k :: _ => retInt k | [] => (do rule "str.find.not-found"; retInt (-1))) _
  cases occurrences x y (fromIndex x.length i) (min (fromIndex x.length j) x.length) 1 with
  | nil => exact .rule (.of_eq rfl)
  | cons k _ => exact .of_eq rfl
theorem args_find4 (a b c d : Value) : argsOk "str.find" ⟨[a, b, c, d], []⟩ := by
  unfold argsOk; kernel_rfl
end
end
end Mine
end

section
open PySem PySem.W PyProof.Rows PySem.Calls
open Builtin.Str (glued occurrences partsBetween strKind)
set_option maxRecDepth 100000
set_option maxHeartbeats 400000
namespace Mine
noncomputable section
theorem m_ell : D 7 ∈ recsOf qv := List.mem_of_getElem? (i := 2) (by kernel_rfl)
theorem n_ell : (D 7).name = "_ellipsis_match" := by kernel_rfl
def find1 (x y : Str) (p : Nat) : Option Nat := (occurrences x y p x.length 1).head?
def ellGo (got : Str) : List Str → Nat → Bool
  | [], _ => true
  | w :: ws, p => match find1 got w p with | some k => ellGo got ws (k + w.length) | none => false
section
variable {w : World} {hb : Heap} {mg mb : Str → Option Value} {A : Around} {s : Shared} {k : Nat} {env : Env}
theorem pFind4 {x y : Str} {i j : Int} {n : Str} {e1 e2 e3 : PySem.Expr} {np ap pos : Pos} (h : Pv hb (model p w) A env s (.Name n np) tStr x) (h1 : Pv hb (model p w) A env s e1 tStr y) (h2 : Pv hb (model p w) A env s e2 tInt i) (h3 : Pv hb (model p w) A env s e3 tInt j)
    (he : ∃ pl : Sem Bool, eval (.Call (.Attribute (.Name n np) "find" ap) [e1, e2, e3] [] pos) env = (do
      let ov ← eval (.Name n np) env
      standAt ap.atName
      let (f, first) ← holding [ov] (getMethod ov "find" pl)
      callWith pos f first (backTo pos (starEach [e1, e2, e3] env)) []))
    (hs1 : starEach [e1, e2, e3] env = (false, eval e1 env) :: starEach [e2, e3] env := by rfl) (hs2 : starEach [e2, e3] env = (false, eval e2 env) :: starEach [e3] env := by rfl) (hs3 : starEach [e3] env = (false, eval e3 env) :: starEach [] env := by rfl) :
    Pv hb (model p w) A env s (.Call (.Attribute (.Name n np) "find" ap) [e1, e2, e3] [] pos) tInt (match occurrences x y (fromIndex x.length i) (min (fromIndex x.length j) x.length) 1 with | k :: _ => (k : Int) | [] => -1) := by
  refine ⟨fun s' kp Q E q => ?_⟩
  obtain ⟨pl, he⟩ := he
  refine MethodCall_ (pl := pl) ?_ he
  refine h.run s' kp _ _ fun v s₁ k₁ r => ?_
  obtain ⟨t, rfl⟩ := r
  refine getMethod_builtin (typeIs_str _ _ _) PySem.F.plainAttrs_str PySem.F.slot_str_find PySem.F.type_str_find (fun a ha => by cases ha) ?_
  have k01 := kp.trans k₁
  refine callWith_method1 (args_cons (h1.run s₁ k01 _ _ fun v s₂ k₂ r1 => args_cons (h2.run s₂ (k01.trans k₂) _ _ fun v2 s₃ k₃ r2 => args_cons (h3.run s₃ ((k01.trans k₂).trans k₃) _ _ fun v3 s₄ k₄ r3 => args_nil ?_) hs3) hs2) hs1) hs1 (by rw [hs2, hs3]; rfl)
  obtain ⟨u, rfl⟩ := r1
  obtain ⟨u2, rfl⟩ := r2
  obtain ⟨u3, rfl⟩ := r3
  show wpAny _ _ (call (.builtin "str.find") [.str x t, .str y u, .int i u2, .int j u3]) Q E s₄
  exact call_gives PySem.F.slot_str_find (typeIs_str _ _ _) PySem.F.entry_str_find (args_find4 _ _ _ _) (gives_find4 x y i j t u u2 u3) (q _ _ ((((k₁.trans k₂).trans k₃).trans k₄).trans Kp.tk) ⟨_, rfl⟩)

theorem f_ell (G : Gnd w hb mg mb) (want got : Str) (mid : List Str) (hg : got.length ≤ 1000) (hw : want.length ≤ 1000) (hm : mid.length ≤ 1000)
    (o1 : (occurrences want (Str.ofString "...") 0 want.length 1).isEmpty = false)
    (h1 : (decide (want.length < (Str.ofString "...").length) || decide (strKind want < strKind (Str.ofString "..."))) = false)
    (hf : (occurrences want (Str.ofString "...") 0 want.length (want.length + 1)).isEmpty = false)
    (hp : partsBetween want (occurrences want (Str.ofString "...") 0 want.length (want.length + 1)) (Str.ofString "...").length = Str.ofString "" :: (mid ++ [Str.ofString ""])) (hall : ∀ x ∈ mid, x.length ≤ 1000) :
    Fn hb w mg 1 "_ellipsis_match" (A2 tStr want tStr got) tBool (ellGo got (Str.ofString "" :: (mid ++ [Str.ofString ""])) 0) := by
  have big : (100000 : Nat) ≤ sizeLine := by decide
  refine fn2 (px := "want") (pz := "got") G m_ell n_ell (fun _ _ _ _ _ => by rfl) rfl rfl (by decide) (fun L n c h => by cases h) rfl rfl rfl fun A' L a cd s₁ C F vw vg E => ?_
  have V : EnvG (envD (D 7) L a cd) := ⟨rfl, rfl, rfl⟩
  generalize hws : Str.ofString "" :: (mid ++ [Str.ofString ""]) = ws at hp ⊢
  have wsl : ws.length ≤ 1002 := by rw [← hws, List.length_cons, List.length_append]; show mid.length + 1 + 1 ≤ _; omega
  have wsl2 : 2 ≤ ws.length := by rw [← hws, List.length_cons, List.length_append]; show 2 ≤ mid.length + 1 + 1; omega
  have wsa : ∀ x ∈ ws, x.length ≤ 1000 := by
    intro x hx
    rw [← hws] at hx
    rcases List.mem_cons.mp hx with rfl | hx
    · decide
    · rcases List.mem_append.mp hx with hx | hx
      · exact hall x hx
      · rw [List.mem_singleton.mp hx]; decide
  have pE : ∀ s', Kp hb s₁ s' ∨ hb.StaysIn s'.heap → True := fun _ _ => trivial
  refine wpAny_execs_cons (sIf (hb := hb) (b := (!(!(occurrences want (Str.ofString "...") 0 want.length 1).isEmpty))) (ptNotIn (pEll G V C.st rfl) vw.pv) fun s₂ k₂ => ⟨fun h => ?_, fun _ => ?_⟩)
  · rw [o1] at h; cases h
  refine wpAny_execs_nil ?_
  have C2 := C.kp k₂
  refine wpAny_execs_cons (sAssign (n := "ws") (T := tList tStr) (x := ws) (F.kp k₂) ?_ (.inl rfl) fun s₃ u₃ vws => ?_)
  · rw [← hp]
    refine pSplit (vw.kp k₂).pv (pEll G V C2.st rfl) h1 (by decide) hf (by omega) (by rw [hp]; omega) ⟨_, by rfl⟩
  have C3 := C2.stp u₃.stp
  have vg3 := (vg.kp k₂).up u₃
  refine wpAny_execs_cons (sAssert (ptGe (pLenList G V C3.st rfl vws.pv (by omega)) pInt) (decide_eq_true (by omega)) fun s₄ k₄ => ?_)
  have C4 := C3.kp k₄
  refine wpAny_execs_cons (sAssign2s (n1 := "startpos") (n2 := "endpos") (T := tInt) (S := tInt) (x := 0) (y := got.length) C4.hand (u₃.frm.kp k₄) pInt (pLenStr G V C4.st rfl (vg3.kp k₄).pv (by omega)) (by decide) (.inl rfl) (.inl rfl) fun s₅ u₅ vs5 ve5 => ?_)
  have C5 := C4.stp u₅.stp
  have vw5 := (vws.kp k₄).up2 u₅
  have vg5 := (vg3.kp k₄).up2 u₅
  have w0 : ws[0]? = some (Str.ofString "") := by rw [← hws]; rfl
  have wl : ws[((-1 : Int) + ws.length).toNat]? = some (Str.ofString "") := by
    have e : ((-1 : Int) + ws.length).toNat = ws.length - 1 := by omega
    rw [e, ← hws]
    simp
  refine wpAny_execs_cons (sAssign (n := "w") (T := tStr) (x := Str.ofString "") u₅.frm (pItemList (n := 0) vw5.pv pInt (by decide) w0 (by decide) (fun _ _ => sub_const _ _ _ _ _)) (.inl rfl) fun s₆ u₆ vw6 => ?_)
  have C6 := C5.stp u₆.stp
  refine wpAny_execs_cons (sIf (hb := hb) (b := ((Str.ofString "").length : Int) != 0) (ptStr vw6.pv (by decide)) fun s₇ k₇ => ⟨(fun h => by cases h), fun _ => ?_⟩)
  refine wpAny_execs_nil ?_
  have C7 := C6.kp k₇
  have vw7 := (vw5.up u₆).kp k₇
  refine wpAny_execs_cons (sAssign (n := "w") (T := tStr) (x := Str.ofString "") (u₆.frm.kp k₇) (pItemListNeg (n := -1) vw7.pv (pNeg pInt) (by decide) (by omega) wl (by decide) (by intro _ _; rfl)) (.inl rfl) fun s₈ u₈ vw8 => ?_)
  have C8 := C7.stp u₈.stp
  refine wpAny_execs_cons (sIf (hb := hb) (b := ((Str.ofString "").length : Int) != 0) (ptStr vw8.pv (by decide)) fun s₉ k₉ => ⟨(fun h => by cases h), fun _ => ?_⟩)
  refine wpAny_execs_nil ?_
  have C9 := C8.kp k₉
  have vs9 : Var hb (envD (D 7) L a cd) "startpos" tInt ((0 : Nat) : Int) s₉ := (((vs5.up u₆).kp k₇).up u₈).kp k₉
  have ve9 := (((ve5.up u₆).kp k₇).up u₈).kp k₉
  have vg9 := (((vg5.up u₆).kp k₇).up u₈).kp k₉
  have vws9 := (vw7.up u₈).kp k₉
  refine wpAny_execs_cons (sIf (hb := hb) (b := decide (((0 : Nat) : Int) > (got.length : Int))) (ptGt vs9.pv ve9.pv) fun s₁₀ k₁₀ => ⟨(fun h => by have := of_decide_eq_true h; omega), fun _ => ?_⟩)
  refine wpAny_execs_nil ?_
  have C10 := C9.kp k₁₀
  have K : Stp hb (envD (D 7) L a cd) s₁ s₁₀ := (((((k₂.stp.trans u₃.stp).trans k₄.stp).trans u₅.stp).trans (u₆.stp.trans k₇.stp)).trans (u₈.stp.trans k₉.stp)).trans k₁₀.stp
  refine wpAny_execs_cons ?_
  refine sFor (xs := ws) (PP := fun x v _ => tStr.at s₁₀.heap v x) (vws9.kp k₁₀).frm C10.st (forList C10.hand (listAt_var (vws9.kp k₁₀)))
    (fun i s => ∃ q : Nat, Var hb (envD (D 7) L a cd) "startpos" tInt (q : Int) s ∧ ellGo got ws 0 = ellGo got (ws.drop i) q ∧ Var hb (envD (D 7) L a cd) "got" tStr got s ∧ Var hb (envD (D 7) L a cd) "endpos" tInt (got.length : Int) s)
    (fun i s s' ⟨q, a, b, c, d⟩ k => ⟨q, a.wk k, b, c.wk k, d.wk k⟩) (fun i s ⟨q, a, _⟩ => a.frm) (fun s₁₁ k₁₁ => ⟨0, (vs9.kp k₁₀).kp k₁₁, rfl, (vg9.kp k₁₀).kp k₁₁, (ve9.kp k₁₀).kp k₁₁⟩) (fun i x v s₁₁ E' hx hP hI stp => ?_) fun s' hI stp => ?_
  · obtain ⟨q, v1, e1, v2, v3⟩ := hI
    have C11 := C10.stp stp
    refine wpAny_assign_Name (store_var (n := "w") (T := tStr) (x := x) v1.frm (.inl rfl) hP fun s₁₂ u₁₂ vx => ?_)
    have C12 := C11.stp u₁₂.stp
    have hxl := wsa x (List.mem_of_getElem? hx)
    have ed : ws.drop i = x :: ws.drop (i + 1) := by
      obtain ⟨hlt, hget⟩ := List.getElem?_eq_some_iff.mp hx
      rw [List.drop_eq_getElem_cons hlt, hget]
    have fi : ∀ n : Nat, fromIndex got.length (n : Int) = n := fun n => by
      unfold fromIndex
      rw [if_neg (by omega)]
      omega
    have ef : (match occurrences got x (fromIndex got.length (q : Int)) (min (fromIndex got.length (got.length : Int)) got.length) 1 with | k :: _ => (k : Int) | [] => -1) = (match find1 got x q with | some k => (k : Int) | none => -1) := by
      rw [fi, fi, Nat.min_self]
      unfold find1
      cases occurrences got x q got.length 1 <;> rfl
    refine wpAny_execs_cons (sAssign (n := "startpos") (T := tInt) (x := (match find1 got x q with | some k => (k : Int) | none => -1)) u₁₂.frm ?_ (.inl rfl) fun s₁₃ u₁₃ v13 => ?_)
    · rw [← ef]
      exact pFind4 (v2.up u₁₂).pv vx.pv (v1.up u₁₂).pv (v3.up u₁₂).pv ⟨_, by rfl⟩
    have C13 := C12.stp u₁₃.stp
    cases hfd : find1 got x q with
    | none =>
      rw [hfd] at v13
      refine wpAny_execs_cons (sIf (hb := hb) (b := decide ((-1 : Int) < 0)) (ptLt v13.pv pInt) fun s₁₄ k₁₄ => ⟨fun _ => ?_, (fun h => by cases h)⟩)
      have e2 : ellGo got ws 0 = false := by
        rw [e1, ed]
        show (match find1 got x q with | some k => _ | none => false) = false
        rw [hfd]
      refine wpAny_execs_cons (sReturn (pBool (i := false)) fun v s₁₅ k₁₅ r => ⟨((u₁₂.stp.trans u₁₃.stp).trans k₁₄.stp).trans k₁₅.stp, fun st => ⟨K.trans st, v, rfl, ?_⟩⟩)
      rw [e2]; exact r
    | some kk =>
      rw [hfd] at v13
      refine wpAny_execs_cons (sIf (hb := hb) (b := decide ((kk : Int) < 0)) (ptLt v13.pv pInt) fun s₁₄ k₁₄ => ⟨(fun h => by have := of_decide_eq_true h; omega), fun _ => ?_⟩)
      refine wpAny_execs_nil ?_
      have C14 := C13.kp k₁₄
      refine wpAny_execs_cons (sAugAdd (y := (x.length : Int)) (v13.kp k₁₄) rfl (pLenStr G V C14.st rfl ((vx.up u₁₃).kp k₁₄).pv (by omega)) fun s₁₅ u₁₅ v15 => ?_)
      refine wpAny_execs_nil ⟨((u₁₂.stp.trans u₁₃.stp).trans k₁₄.stp).trans u₁₅.stp, kk + x.length, ?_, ?_, (((v2.up u₁₂).up u₁₃).kp k₁₄).up u₁₅, (((v3.up u₁₂).up u₁₃).kp k₁₄).up u₁₅⟩
      · have e3 : ((kk + x.length : Nat) : Int) = (kk : Int) + (x.length : Int) := by omega
        rw [e3]; exact v15
      · rw [e1, ed]
        show (match find1 got x q with | some k => ellGo got (ws.drop (i + 1)) (k + x.length) | none => false) = _
        rw [hfd]
  · obtain ⟨q, v1, e1, v2, v3⟩ := hI
    refine wpAny_execs_nil ?_
    have e2 : ellGo got ws 0 = true := by rw [e1, List.drop_length]; rfl
    rw [e2]
    exact sRet (K.trans stp) pBool
end
end
end Mine
end

section
open PySem PySem.W PyProof.Rows PySem.Calls
set_option maxRecDepth 100000
set_option maxHeartbeats 400000
namespace Mine
noncomputable section
/-- the heap without the frames of these -/
def cutA (h : Heap) (S : List Addr) : Heap := S.foldl (fun h a => h.update a fun o => { o with data := .freed }) h
theorem get_upd_freed {h : Heap} {a b : Addr} : (h.update a fun o => { o with data := .freed }).get? b = if b = a then none else h.get? b := by
  by_cases e : b = a
  · subst e
    rw [if_pos rfl]
    cases q : (h.update b fun o => { o with data := .freed }).get? b with
    | none => rfl
    | some o =>
      obtain ⟨e1, e2⟩ := Heap.get?_some_iff.mp q
      have : ∃ o' : Obj, o = { o' with data := .freed } := by
        have e1 : (h.objs.modify b fun o => { o with data := .freed })[b]? = some o := by
          cases h
          exact e1
        rw [Array.getElem?_modify, if_pos rfl] at e1
        cases hx : h.objs[b]? with
        | none => rw [hx] at e1; cases e1
        | some o' => rw [hx] at e1; exact ⟨o', (Option.some.inj e1).symm⟩
      obtain ⟨o', rfl⟩ := this
      cases e2
  · rw [if_neg e, Heap.get?_update_other _ _ (Ne.symm e)]
theorem get_cutA : ∀ {S : List Addr} {h : Heap} {b : Addr}, (cutA h S).get? b = if b ∈ S then none else h.get? b
  | [], h, b => by simp [cutA]
  | a :: S, h, b => by
    show (cutA (h.update a _) S).get? b = _
    rw [get_cutA, get_upd_freed]
    by_cases e : b = a
    · subst e; simp
    · by_cases e' : b ∈ S
      · simp [e']
      · simp [e, e']
open Classical in
/-- the heap without the namespaces that are no part of the ground -/
def cutS (hb h : Heap) : List Addr := (List.range h.objs.size).filter fun b => decide (∃ o, h.get? b = some o ∧ NsO o ∧ hb.get? b = none)
def cutN (hb h : Heap) : Heap := cutA h (cutS hb h)
open Classical in
theorem mem_cutS {hb h : Heap} {b : Addr} : b ∈ cutS hb h ↔ ∃ o, h.get? b = some o ∧ NsO o ∧ hb.get? b = none := by
  unfold cutS
  rw [List.mem_filter, List.mem_range]
  simp only [decide_eq_true_eq]
  exact ⟨fun q => q.2, fun q => ⟨let ⟨o, e, _⟩ := q; Heap.lt_size e, q⟩⟩
theorem cutN_none {hb h : Heap} {b : Addr} (q : h.get? b = none) : (cutN hb h).get? b = none := by
  unfold cutN
  rw [get_cutA]
  split
  · rfl
  · exact q
theorem cutN_some {hb h : Heap} {b : Addr} {o : Obj} (e : (cutN hb h).get? b = some o) : h.get? b = some o ∧ (NsO o → ∃ o', hb.get? b = some o') := by
  unfold cutN at e
  rw [get_cutA] at e
  split at e
  · cases e
  · rename_i q
    refine ⟨e, fun n => ?_⟩
    cases x : hb.get? b with
    | none => exact absurd (mem_cutS.mpr ⟨o, e, n, x⟩) q
    | some o' => exact ⟨o', rfl⟩
theorem cutN_of {hb h : Heap} {b : Addr} {o : Obj} (e : h.get? b = some o) (n : NsO o → hb.get? b ≠ none) : (cutN hb h).get? b = some o := by
  unfold cutN
  rw [get_cutA, if_neg]
  · exact e
  · intro q
    obtain ⟨o', e', n', x⟩ := mem_cutS.mp q
    rw [e] at e'; cases e'
    exact n n' x
theorem FunFr.cut {h base h' : Heap} : ∀ {l : List Env}, FunFr h base l → (∀ b o, h.get? b = some o → NsO o → ∃ o', h'.get? b = some o' ∧ NsO o') → FunFr h' (cutN base h) l
  | [], _, _ => trivial
  | _ :: _, ⟨a, ⟨L, o, hf, hn, ho, hd⟩, hr⟩, k => by
    obtain ⟨o', e', n'⟩ := k L o ho hd
    refine ⟨a, ⟨L, o', hf, ?_, e', n'⟩, hr.cut k⟩
    cases x : (cutN base h).get? L with
    | none => rfl
    | some o2 =>
      obtain ⟨e2, n2⟩ := cutN_some x
      rw [ho] at e2; cases e2
      obtain ⟨o3, e3⟩ := n2 hd
      rw [hn] at e3; cases e3

section
variable {M : Model} {A : Around} {E : Value → Shared → Prop} {s : Shared} {hb : Heap}
theorem cut_stays {s' : Shared} (st : hb.StaysIn s.heap) (k : Kp hb s s') : (cutN hb s.heap).StaysIn s'.heap := by
  intro b o e
  obtain ⟨e, n⟩ := cutN_some e
  by_cases q : NsO o
  · obtain ⟨o', e'⟩ := n q
    have := st b o' e'
    rw [e] at this; cases this
    exact k.ext.base st b o e'
  · exact (k.ext.stay b o id e).get q
/-- what stood stays, slots of frames apart -/
theorem kp_cut {s' : Shared} (st0 : hb.StaysIn s.heap) (same : ∃ h' tk, s' = { s with heap := h', toks := tk }) (tok : s.toks ≤ s'.toks) (st : (cutN hb s.heap).StaysIn s'.heap)
    (up : ∀ b o, s.heap.get? b = some o → NsO o → ∃ sl, s'.heap.get? b = some { o with slots := sl }) : Kp hb s s' := by
  refine ⟨same, tok, fun b o _ e => ?_, fun x b o e => ?_, fun b o e n => ?_⟩
  · by_cases q : NsO o
    · obtain ⟨sl, e2⟩ := up b o e q
      exact ⟨sl, e2, fun k => absurd q k⟩
    · exact .of (st b o (cutN_of e fun n => absurd n q))
  · exact st b o (cutN_of (x b o e) fun _ q => by rw [e] at q; cases q)
  · obtain ⟨sl, e2⟩ := up b o e n
    exact ⟨_, e2, n⟩

theorem noteFrame_first {base : Heap} {env : Env} {outer : List Env} {L e : Addr} {oe : Obj} {vs : Array Value} {a0 : Value} {Q : Unit → Shared → Prop}
    (hfr : A.frames = some (env :: outer)) (hl : s.heap.FunFrames base (env :: outer)) (hf : env.frame = some L)
    (he : s.heap.get? e = some oe) (hkb : base.StaysIn s.heap) (hen : base.get? e = none) (hd : oe.data = .fields vs) (h1 : vs[1]? = some .none) (h0 : vs[0]? = some a0)
    (h : ∀ h', Heap.HeldW base (env :: outer) e oe.cls a0 L h' → s.heap.UpToSlots h' → Q () { s with heap := h' }) : wpAny M A (noteFrame (.ref e) env) Q E s := by
  unfold noteFrame
  simp only [hf]
  refine wpAny_bind (wpAny_field he hd h1 ?_)
  rw [if_neg (by decide)]
  exact wpAny_entryW hfr hl hf he hkb hen hd (Array.getElem?_eq_some_iff.mp h1).1 h0 fun h' ⟨x1, x2, x3, x4⟩ => h h' ⟨x1, hen, x2, x3⟩ x4

theorem cameBack_held {base : Heap} {env : Env} {l : List Env} {L e : Addr} {cls a0 : Value} (hf : env.frame = some L) (H : Heap.HeldW base l e cls a0 L s.heap)
    (h : ∀ h', Heap.HeldW base l e cls a0 L h' → s.heap.UpToSlots h' → E (.ref e) { s with heap := h' }) : cameBackBy M A env E (.ref e) s := by
  obtain ⟨k1, k2, k3, oe, vs, T, oT, ts, he, hcls, hd, h1, hnT, hTe, hT, hdT, h3⟩ := H
  have hsz3 : 3 < ts.size := (Array.getElem?_eq_some_iff.mp h3).1
  unfold cameBackBy
  refine wpAny_bind (wpAny_field he hd h1 ?_)
  rw [if_neg (by simp)]
  unfold setFlight
  refine wpAny_bind (wpAny_field he hd h1 ?_)
  rw [if_pos (show (Value.ref T != Value.none) = true from by simp)]
  have other : ∀ (f : Obj → Obj) b, b ≠ T → (s.heap.update T f).get? b = s.heap.get? b := fun f b hb => Heap.get?_update_other _ _ (Ne.symm hb)
  have noRecord : ∀ b o, s.heap.get? b = some o → (∀ vs, o.data ≠ .fields vs) → b ≠ T := fun b o hb hnf q => by
    rw [q, hT] at hb; injection hb with hb; subst hb; exact hnf ts hdT
  refine wpAny_setField hT hdT hsz3 (h _ ⟨fun b o hbo => (other _ b fun q => by rw [q, hnT] at hbo; cases hbo).trans (k1 b o hbo), k2, k3.of_keeps fun b o hb hnf => ⟨o, (other _ b (noRecord b o hb hnf)).trans hb, rfl⟩, ?_⟩ fun b o hb hnf => ⟨o.slots, (other _ b (noRecord b o hb hnf)).trans hb⟩)
  exact ⟨oe, vs, T, _, _, (other _ e (Ne.symm hTe)).trans he, hcls, hd, h1, hnT, hTe, Heap.get?_update_self _ hT (Obj.isFreed_of_fields (Obj.data_mapFields hdT _)), Obj.data_mapFields hdT _, by rw [hf]; simp [hsz3]⟩

theorem leaving_held {base : Heap} {env : Env} {l : List Env} {L e : Addr} {cls a0 : Value} {Q : Unit → Shared → Prop} (hf : env.frame = some L) (H : Heap.HeldW base l e cls a0 L s.heap)
    (h : ∀ h', Heap.FlyingW base l e cls a0 h' → s.heap.UpToSlots h' → Q () { s with heap := h' }) : wpAny M A (leaving env (.ref e)) Q E s := by
  unfold leaving
  refine wpAny_bind (wpAny_noteFrame_againW hf H.2.2.2 ?_)
  exact wpAny_landsW H h
end
end
end Mine
end

section
open PySem PySem.W PyProof.Rows PySem.Calls
open Builtin.SmallTypes (nextOf)
set_option maxRecDepth 100000
set_option maxHeartbeats 400000
namespace Mine
noncomputable section
def tIntK (P : Nat → Prop) : Ty Int := ⟨fun _ _ v i => ∃ t, v = .int i t ∧ P t, fun r _ => r, fun r => r, fun r _ => r⟩
def tStrK (P : Nat → Prop) : Ty Str := ⟨fun _ _ v i => ∃ t, v = .str i t ∧ P t, fun r _ => r, fun r => r, fun r _ => r⟩
theorem tIntK_int {P : Nat → Prop} {h : Heap} {v : Value} {x : Int} {ok : Addr → Prop} (r : (tIntK P).R ok h v x) : tInt.R ok h v x := let ⟨t, e, _⟩ := r; ⟨t, e⟩
theorem tIntK_flat {P : Nat → Prop} : (tIntK P).Flat := fun _ _ _ _ _ _ r => r
theorem booked (hb : Heap) {w : World} {mg mb : Str → Option Value} (G : Gnd w hb mg mb) : NoneBooked hb := by
  obtain ⟨mean, T⟩ := G.T
  obtain ⟨mc, N, _⟩ := T.nolimit
  refine ⟨mc, N, ?_⟩
  obtain ⟨o, es, ep, ho, hd, _, hf⟩ := N
  have h2 := G.K 2 (c2 w.params) rfl
  have ho : hb.get? 2 = some o := ho
  have e := Option.some.inj (h2.symm.trans ho)
  subst e
  have := c2_none w.params
  unfold keyOf at this
  rw [hd] at this
  rw [← hf]
  exact Option.isNone_iff_eq_none.mp this
theorem booked_at {hb h : Heap} (N : NoneBooked hb) (st : hb.StaysIn h) : NoneBooked h := let ⟨mc, n, e⟩ := N; ⟨mc, n.keeps st, e⟩
theorem toks_ne {n t t' : Nat} (h : n ≤ t) (h' : 0 < t' ∧ t' < n) : ((t : Tok) == 0 || (t' : Tok) == 0) = false ∧ ((t : Tok) == (t' : Tok)) = false := by
  have h1 : t ≠ 0 := by omega
  have h2 : t' ≠ 0 := by omega
  have h3 : t ≠ t' := by omega
  refine ⟨?_, beq_eq_false_iff_ne.mpr h3⟩
  rw [Bool.or_eq_false_iff]
  exact ⟨beq_eq_false_iff_ne.mpr h1, beq_eq_false_iff_ne.mpr h2⟩
/-- a kind of things that an index is sought for -/
structure Kind (hb : Heap) (w : World) {α : Type} [DecidableEq α] (J B : Ty α) (y : α) : Prop where
  test : ∀ (A : Around) (env : Env) (s : Shared) (x : α) (nj nb : Str) (p1 p2 p3 p4 p5 p6 pos : Pos), hb.StaysIn s.heap → Var hb env nj J x s → Var hb env nb B y s → (nj == ("__debug__" : Str)) = false → (nb == ("__debug__" : Str)) = false →
    Pt hb (model p w) A env s (.BoolOp .Or [.Compare (.Name nj p1) [.Is] [.Name nb p2] p3, .Compare (.Name nj p4) [.Eq] [.Name nb p5] p6] pos) (decide (x = y))
section
variable {w : World} {hb : Heap} {mg mb : Str → Option Value} {A : Around} {s : Shared} {k : Nat} {env : Env}
theorem ptOr {c1 c2 : PySem.Expr} {b1 b2 : Bool} {pos : Pos} {M : Model} (h1 : Pt hb M A env s c1 b1) (h2 : b1 = false → Pt hb M A env s c2 b2) (hb2 : b1 = true → b2 = true) : Pt hb M A env s (.BoolOp .Or [c1, c2] pos) b2 :=
  ⟨fun s' k Q E q => isTrue_or (h1.run s' k _ _ fun s₁ k₁ => by
    cases b1 with
    | true => rw [hb2 rfl] at q; exact q s₁ k₁
    | false =>
      show wpAny M A (isTrue (.BoolOp .Or [c2] pos) env _) Q E s₁
      exact isTrue_or ((h2 rfl).run s₁ (k.trans k₁) _ _ fun s₂ k₂ => by
        cases b2 with
        | true => exact q s₂ (k₁.trans k₂)
        | false => exact isTrue_or_nil (q s₂ (k₁.trans k₂))))⟩

theorem kind_int {n : Nat} {y : Int} (hy : smallInt y = true) : Kind hb w (tIntK fun t => n ≤ t) (tIntK fun t => 0 < t ∧ t < n) y := by
  refine ⟨fun A env s x nj nb p1 p2 p3 p4 p5 p6 pos st vj vb hd1 hd2 => ?_⟩
  have pj : Pv hb (model p w) A env s (.Name nj p4) tInt x := ⟨fun s' k Q E q => (vj.pv hd1).run s' k Q E fun v s'' k r => q v s'' k (tIntK_int r)⟩
  have pb : Pv hb (model p w) A env s (.Name nb p5) tInt y := ⟨fun s' k Q E q => (vb.pv hd2).run s' k Q E fun v s'' k r => q v s'' k (tIntK_int r)⟩
  refine ptOr (b1 := decide (x = y)) (ptCmp (vj.pv hd1) (vb.pv hd2) ?_ (by with_unfolding_all rfl)) (fun h => ?_) id
  · rintro s' v u Q E _ ⟨t, rfl, ht⟩ ⟨t', rfl, ht'⟩ q
    show wpAny _ _ (do return .bool (← isSame (.int x t) (.int y t'))) Q E s'
    refine wpAny_bind ?_
    show wpAny _ _ (if (x == y && smallInt x) = true then isSame.cachedInt t t' else isSame.created (x == y) t t') _ E s'
    obtain ⟨n0, nt⟩ := toks_ne ht ht'
    by_cases e : x = y
    · subst e
      rw [if_pos (by simp [hy])]
      unfold isSame.cachedInt
      rw [n0]
      refine wpAny_bind (wpAny_rule (wpAny_pure ?_))
      rw [decide_eq_true rfl] at q
      exact wpAny_pure (q _ Kp.rfl)
    · rw [if_neg (by simp [e])]
      unfold isSame.created
      rw [n0, nt, show (x == y) = false from beq_eq_false_iff_ne.mpr e]
      rw [decide_eq_false e] at q
      exact wpAny_pure (wpAny_pure (q _ Kp.rfl))
  · have := ptEq (pos := p6) pj pb (by with_unfolding_all rfl)
    exact this

theorem kind_str {n : Nat} {y : Str} (N : NoneBooked hb) : Kind hb w (tStrK fun t => n ≤ t) (tStrK fun t => 0 < t ∧ t < n) y := by
  refine ⟨fun A env s x nj nb p1 p2 p3 p4 p5 p6 pos st vj vb hd1 hd2 => ?_⟩
  refine ⟨fun s' k Q E q => ?_⟩
  have eqp : Pt hb (model p w) A env s (.Compare (.Name nj p4) [.Eq] [.Name nb p5] p6) (decide (x = y)) := by
    refine ptCmp (vj.pv hd1) (vb.pv hd2) ?_ (by with_unfolding_all rfl)
    rintro s' v u Q E _ ⟨t, rfl, ht⟩ ⟨t', rfl, ht'⟩ q
    refine P.eq_str ?_
    have e : (x.cps.toList == y.cps.toList) = decide (x = y) := by
      obtain ⟨x⟩ := x
      obtain ⟨y⟩ := y
      by_cases e : x = y
      · subst e; simp
      · have : ¬ (Str.mk x) = ⟨y⟩ := fun q => e (congrArg Str.cps q)
        rw [decide_eq_false this]
        exact beq_eq_false_iff_ne.mpr fun q => e (by rw [← Array.toArray_toList (xs := x), ← Array.toArray_toList (xs := y)]; exact congrArg List.toArray q)
    rw [e]
    exact q _ Kp.rfl
  refine isTrue_or (wpAny_isTrue_Compare1 ((vj.pv hd1).run s' k _ _ fun v s₁ k₁ r => (vb.pv hd2).run s₁ (k.trans k₁) _ _ fun u s₂ k₂ r' => ?_) (by with_unfolding_all rfl))
  obtain ⟨t, rfl, ht⟩ := r
  obtain ⟨t', rfl, ht'⟩ := r'
  have k2 : Kp hb s' s₂ := k₁.trans k₂
  obtain ⟨n0, nt⟩ := toks_ne ht ht'
  have st2 := (k.trans k2).ext.base st
  show wpAny (model p w) A (do return Value.bool (← isSame (.str x t) (.str y t'))) _ E s₂
  have rest : wpAny (model p w) A (isTrue (.BoolOp .Or [.Compare (.Name nj p4) [.Eq] [.Name nb p5] p6] pos) env (eval (.BoolOp .Or [.Compare (.Name nj p1) [.Is] [.Name nb p2] p3, .Compare (.Name nj p4) [.Eq] [.Name nb p5] p6] pos) env)) Q E s₂ :=
    isTrue_or (eqp.run s₂ (k.trans k2) _ _ fun s₃ k₃ => by
      cases hd : decide (x = y) with
      | true => rw [hd] at q; exact q s₃ (k2.trans k₃)
      | false => rw [hd] at q; exact isTrue_or_nil (q s₃ (k2.trans k₃)))
  by_cases e : x = y
  · subst e
    refine wpAny_bind (wpAny_isSame_str n0 (booked_at N st2) fun b => wpAny_pure (wpAny_truthy_bool ?_))
    cases b with
    | true => rw [decide_eq_true rfl] at q; exact q s₂ k2
    | false => exact rest
  · rw [isSame_str_other x y t t' n0 nt (beq_eq_false_iff_ne.mpr e)]
    exact wpAny_bind (wpAny_pure (wpAny_pure (wpAny_truthy_bool rest)))
end
end
end Mine
end

section
open PySem PySem.W PyProof.Rows PySem.Calls
open Builtin.SmallTypes (nextOf)
set_option maxRecDepth 100000
set_option maxHeartbeats 400000
namespace Mine
noncomputable section
section
variable {w : World} {hb : Heap} {mg mb : Str → Option Value} {A : Around} {s : Shared} {k : Nat} {env : Env} {E : Value → Shared → Prop}
/-- a pair of an enumeration -/
def PPe {α : Type} (J : Ty α) (lo : Nat) (p : α × Nat) (v : Value) (s : Shared) : Prop := ∃ T t u, v = .ref T ∧ s.heap.IsTuple T #[.int p.2 t, u] ∧ lo ≤ t ∧ t < s.toks ∧ J.at s.heap u p.1

theorem ktEnumList {elts : List PySem.Expr} {x1 : Nat} {tp : Pos} {e it l : Addr} {items : Array Value} {lo : Nat} (hh : A.handled = none) (hei : e ≠ it) (hle : l ≠ e) (hli : l ≠ it) :
    KT w A (.Tuple elts x1 tp) e [e, it, l] [e, it] items.size lo
      (fun i v s => ∃ T t x, v = .ref T ∧ s.heap.IsTuple T #[.int i t, x] ∧ items[i]? = some x ∧ lo ≤ t ∧ t < s.toks)
      (fun i v s => ∃ T t x, v = .ref T ∧ s.heap.IsTuple T #[.int i t, x] ∧ items[i]? = some x ∧ lo ≤ t ∧ t < s.toks ∧ IsEnumOut s.heap e it ((i : Int) + 1) x T ∧ s.heap.IsListIter it l (i + 1) ∧ s.heap.IsList l items ∧ T ≠ e)
      (fun i h => (∃ old, IsEnum h e it i old) ∧ h.IsListIter it l i ∧ h.IsList l items) where
  sub := fun b hb => by
    simp only [List.mem_cons, List.not_mem_nil, or_false] at hb ⊢
    rcases hb with rfl | rfl <;> simp
  frame := fun i h h' hst hk => by
    obtain ⟨⟨old, he⟩, hit, hl⟩ := hst
    exact ⟨⟨old, hk e (by simp) _ he⟩, hit.at fun o x => hk it (by simp) o x, hl.at fun o x => hk l (by simp) o x⟩
  item := fun i s Q E hi hlo hst hQ => by
    obtain ⟨⟨old, he⟩, hit, hl⟩ := hst
    have hx : items[i]? = some items[i] := Array.getElem?_eq_getElem hi
    refine wpAny_pyNext_enum_item he hit hl hx hei fun h' ho hit' hT hsz hk => ?_
    have helt : e < s.heap.objs.size := Heap.lt_size he
    exact hQ _ h' (s.toks + 1) (Nat.le_succ _) ⟨s.heap.objs.size, s.toks, items[i], rfl, ⟨_, hT, rfl, _, rfl⟩, hx, hlo, Nat.lt_succ_self _, ho, hit', hl.at fun o x => hk l o hle hli x, Nat.ne_of_gt helt⟩
      fun b o hb x => hk b o (fun q => hb (by simp [q])) (fun q => hb (by simp [q])) x
  go := fun i v s Q E hm hQ => by
    obtain ⟨T, t, x, rfl, hT, hx, h1, h2, ho, hit, hl, hTe⟩ := hm
    refine wpAny_letOwnedTupleGo_enum ho fun h' he' hs' => hQ h' ⟨T, t, x, rfl, hT.at fun o y => hs'.extBut T o hTe y, hx, h1, h2⟩ ⟨⟨x, by simpa using he'⟩, hit.at fun o y => (hs'.2 it hei.symm).trans y, hl.at fun o y => (hs'.2 l hle).trans y⟩ fun b o hb y => ?_
    exact (hs'.2 b fun q => hb (by simp [q])).trans y
  done := fun s Q E hst hQ => by
    obtain ⟨⟨old, he⟩, hit, hl⟩ := hst
    exact wpAny_pyNext_enum_end hh he hit hl (Array.getElem?_eq_none (Nat.le_refl _)) fun h' hx => hQ h' s.toks fun b o hb y => hx b o (fun q => hb (by simp [q])) y

theorem nextOf_str {it : Addr} {x : Str} {t : Tok} {i c : Nat} {Q : Value → Shared → Prop} (hit : s.heap.IsStrIter it (strIterType x) x t i) (hx : x.cps[i]? = some c)
    (hQ : ∀ h', h'.IsStrIter it (strIterType x) x t (i + 1) → Heap.SameBut it s.heap h' → Q (.str ⟨#[c]⟩ s.toks) { s with heap := h', toks := s.toks + 1 }) : wpAny (model p w) A (nextOf (.ref it)) Q E s := by
  unfold strIterType at hit hQ
  split at hit <;> rename_i hc
  · simp only [hc, if_true] at hQ
    exact wpAny_nextOf_ascii_item hit hx hQ
  · simp only [hc] at hQ
    exact wpAny_nextOf_wide_item hit hx hQ
theorem enumEnd_str {e it : Addr} {x : Str} {t : Tok} {old : Value} {Q : Option Value → Shared → Prop} (hh : A.handled = none) (he : IsEnum s.heap e it (x.cps.size : Nat) old) (hit : s.heap.IsStrIter it (strIterType x) x t x.cps.size)
    (hQ : ∀ h', Heap.ExtBut it s.heap h' → Q none { s with heap := h' }) : wpAny (model p w) A (pyNext (.ref e)) Q E s := by
  unfold strIterType at hit
  split at hit
  · have D := Draws.strAscii (prog := p) (w := w) (A := A.in1) hh it x t
    exact wpAny_pyNext_enum_endD D he hit hQ
  · have D := Draws.strWide (prog := p) (w := w) (A := A.in1) hh it x t
    exact wpAny_pyNext_enum_endD D he hit hQ

theorem ktEnumStr {elts : List PySem.Expr} {x1 : Nat} {tp : Pos} {e it : Addr} {x : Str} {tk : Tok} {lo : Nat} (hh : A.handled = none) (hei : e ≠ it) :
    KT w A (.Tuple elts x1 tp) e [e, it] [e, it] x.cps.size lo
      (fun i v s => ∃ T t c u, v = .ref T ∧ s.heap.IsTuple T #[.int i t, .str ⟨#[c]⟩ u] ∧ x.cps[i]? = some c ∧ lo ≤ t ∧ t < s.toks ∧ lo ≤ u)
      (fun i v s => ∃ T t c u, v = .ref T ∧ s.heap.IsTuple T #[.int i t, .str ⟨#[c]⟩ u] ∧ x.cps[i]? = some c ∧ (lo ≤ t ∧ t < s.toks ∧ lo ≤ u) ∧ IsEnumOut s.heap e it ((i : Int) + 1) (.str ⟨#[c]⟩ u) T ∧ s.heap.IsStrIter it (strIterType x) x tk (i + 1) ∧ T ≠ e)
      (fun i h => (∃ old, IsEnum h e it i old) ∧ h.IsStrIter it (strIterType x) x tk i) where
  sub := fun b hb => hb
  frame := fun i h h' hst hk => by
    obtain ⟨⟨old, he⟩, o, ho, r⟩ := hst
    exact ⟨⟨old, hk e (by simp) _ he⟩, o, hk it (by simp) o ho, r⟩
  item := fun i s Q E hi hlo hst hQ => by
    obtain ⟨⟨old, he⟩, hit⟩ := hst
    have hx : x.cps[i]? = some x.cps[i] := Array.getElem?_eq_getElem hi
    refine enum_step (R := fun h => h.IsStrIter it (strIterType x) x tk (i + 1)) (tk := s.toks + 1) (x := .str ⟨#[x.cps[i]]⟩ s.toks) he hei (fun Q E h => nextOf_str hit hx h) fun h₁ h' r ho hT k1 k2 => ?_
    have helt : e < s.heap.objs.size := Heap.lt_size he
    exact hQ _ h' (s.toks + 1 + 1) (by omega) ⟨s.heap.objs.size, s.toks + 1, x.cps[i], s.toks, rfl, ⟨_, hT, rfl, _, rfl⟩, hx, ⟨by omega, Nat.lt_succ_self _, hlo⟩, ho, (let ⟨o, e1, e2⟩ := r; ⟨o, k1 it o hei.symm e1, e2⟩), Nat.ne_of_gt helt⟩
      fun b o hb y => k2 b o (fun q => hb (by simp [q])) (fun q => hb (by simp [q])) y
  go := fun i v s Q E hm hQ => by
    obtain ⟨T, t, c, u, rfl, hT, hx, ⟨h1, h2, h3⟩, ho, hit, hTe⟩ := hm
    refine wpAny_letOwnedTupleGo_enum ho fun h' he' hs' => hQ h' ⟨T, t, c, u, rfl, hT.at fun o y => hs'.extBut T o hTe y, hx, h1, h2, h3⟩ ⟨⟨_, by simpa using he'⟩, (let ⟨o, e1, e2⟩ := hit; ⟨o, (hs'.2 it hei.symm).trans e1, e2⟩)⟩ fun b o hb y => ?_
    exact (hs'.2 b fun q => hb (by simp [q])).trans y
  done := fun s Q E hst hQ => by
    obtain ⟨⟨old, he⟩, hit⟩ := hst
    exact enumEnd_str hh he hit fun h' hx => hQ h' s.toks fun b o hb y => hx b o (fun q => hb (by simp [q])) y

theorem forEnumList {α : Type} {J : Ty α} (hJ : J.Flat) {xs : List α} {elts : List PySem.Expr} {x1 : Nat} {tp fp cp : Pos} {e : PySem.Expr} (hh : A.handled = none) (G : Gnd w hb mg mb) (V : EnvG env) (st : hb.StaysIn s.heap) (hx : env.kindOf "enumerate" = some .globalImplicit)
    (h : Pv hb (model p w) A env s e (tList J) xs)
    (he : ∀ _ : PySem.Expr, eval (.Call (.Name "enumerate" fp) [e] [] cp) env = (do callWith cp (← eval (.Name "enumerate" fp) env) [] (backTo cp (starEach [e] env)) (backToKw cp (keywordEach [] env))) := by intro _; rfl)
    (hs : starEach [e] env = (false, eval e env) :: starEach [] env := by rfl) :
    SrcLOf hb w A env (.Tuple elts x1 tp) (.Call (.Name "enumerate" fp) [e] [] cp) s xs.zipIdx (PPe J s.toks) := by
  intro Q E q
  refine Call_ (ld_builtin (v := .type "enumerate") G st V.kind V.glob V.built hx (G.none (by kernel_rfl)) (G.bu (by decide) boot_enumerate) (by decide) ?_) (he e)
  refine callType1 (args_cons (h.go fun v s₁ k₁ r => args_nil ?_) hs) hs rfl
  obtain ⟨a, vs, rfl, _, pl, f⟩ := r
  have l := pl.isList
  refine call_enumerate_list l fun h' hen hit hsz up => ?_
  refine wpAny_pyIter_enum hen (q _ _ ⟨k₁.trans (Kp.mkH up), ?_⟩)
  have hlt : a < s₁.heap.objs.size := let ⟨_, e, _⟩ := l; Heap.lt_size e
  have hlen := paired_len f
  have W := ktEnumList (w := w) (A := A) (elts := elts) (x1 := x1) (tp := tp) (e := s₁.heap.objs.size + 1) (it := s₁.heap.objs.size) (l := a) (items := vs.toArray) (lo := s.toks) hh (Nat.succ_ne_self _) (Nat.ne_of_lt (Nat.lt_succ_of_lt hlt)) (Nat.ne_of_lt hlt)
  rw [show vs.toArray.size = xs.zipIdx.length by rw [List.length_zipIdx]; exact (List.size_toArray ..).trans hlen] at W
  refine ⟨_, _, _, _, _, _, rfl, W, ?_, ?_, ?_, ?_⟩
  · rintro i h ⟨⟨old, he⟩, ⟨o, e1, c1, d1⟩, ⟨o2, e2, c2, n2, d2⟩⟩ b hbf
    simp only [List.mem_cons, List.not_mem_nil, or_false] at hbf
    rcases hbf with rfl | rfl | rfl
    · exact ⟨_, he, fun ⟨_, _, q⟩ => (by cases q), Or.inl ⟨_, rfl⟩⟩
    · exact ⟨o, e1, fun ⟨_, _, q⟩ => (by rw [d1] at q; cases q), Or.inl ⟨_, d1⟩⟩
    · exact ⟨o2, e2, fun ⟨_, _, q⟩ => (by rw [d2] at q; cases q), Or.inr ⟨(fun q => by
        simp only [List.mem_cons, List.not_mem_nil, or_false] at q
        rcases q with q | q
        · exact Nat.ne_of_lt (Nat.lt_succ_of_lt hlt) q
        · exact Nat.ne_of_lt hlt q), _, _, d2⟩⟩
  · intro b hbw
    simp only [List.mem_cons, List.not_mem_nil, or_false] at hbw
    rcases hbw with rfl | rfl
    · exact none_of_kp k₁ (Nat.le_succ _)
    · exact none_of_kp k₁ (Nat.le_refl _)
  · exact ⟨⟨_, hen⟩, hit, l.at fun o e => up _ o e⟩
  · rintro i ⟨x, j⟩ v s' hx ⟨T, t, u, rfl, hT, hu, h1, h2⟩
    rw [List.getElem?_zipIdx] at hx
    cases hxi : xs[i]? with
    | none => rw [hxi] at hx; cases hx
    | some x' =>
      rw [hxi] at hx
      have hx : (x', 0 + i) = (x, j) := Option.some.inj hx
      rw [Nat.zero_add] at hx
      cases hx
      obtain ⟨v', hv', r⟩ := paired_get f hxi
      have : some u = some v' := by rw [← hv', ← hu]; simp
      cases this
      exact ⟨T, t, u, rfl, hT, h1, h2, hJ _ _ _ _ _ _ r⟩

theorem forEnumStr {x : Str} {elts : List PySem.Expr} {x1 : Nat} {tp fp cp : Pos} {e : PySem.Expr} (hh : A.handled = none) (G : Gnd w hb mg mb) (V : EnvG env) (st : hb.StaysIn s.heap) (hx : env.kindOf "enumerate" = some .globalImplicit)
    (h : Pv hb (model p w) A env s e tStr x)
    (he : ∀ _ : PySem.Expr, eval (.Call (.Name "enumerate" fp) [e] [] cp) env = (do callWith cp (← eval (.Name "enumerate" fp) env) [] (backTo cp (starEach [e] env)) (backToKw cp (keywordEach [] env))) := by intro _; rfl)
    (hs : starEach [e] env = (false, eval e env) :: starEach [] env := by rfl) :
    SrcLOf hb w A env (.Tuple elts x1 tp) (.Call (.Name "enumerate" fp) [e] [] cp) s ((x.cps.toList.map chr1).zipIdx) (PPe (tStrK fun t => s.toks ≤ t) s.toks) := by
  intro Q E q
  refine Call_ (ld_builtin (v := .type "enumerate") G st V.kind V.glob V.built hx (G.none (by kernel_rfl)) (G.bu (by decide) boot_enumerate) (by decide) ?_) (he e)
  refine callType1 (args_cons (h.go fun v s₁ k₁ r => args_nil ?_) hs) hs rfl
  obtain ⟨tk, rfl⟩ := r
  refine call_enumerate_str fun h' hen hit hsz up => ?_
  refine wpAny_pyIter_enum hen (q _ _ ⟨k₁.trans (Kp.mkH up), ?_⟩)
  have W := ktEnumStr (w := w) (A := A) (elts := elts) (x1 := x1) (tp := tp) (e := s₁.heap.objs.size + 1) (it := s₁.heap.objs.size) (x := x) (tk := tk) (lo := s.toks) hh (Nat.succ_ne_self _)
  rw [show x.cps.size = ((x.cps.toList.map chr1).zipIdx).length by rw [List.length_zipIdx, List.length_map, Array.length_toList]] at W
  refine ⟨_, _, _, _, _, _, rfl, W, ?_, ?_, ?_, ?_⟩
  · rintro i h ⟨⟨old, he⟩, ⟨o, e1, c1, d1⟩⟩ b hbf
    simp only [List.mem_cons, List.not_mem_nil, or_false] at hbf
    rcases hbf with rfl | rfl
    · exact ⟨_, he, fun ⟨_, _, q⟩ => (by cases q), Or.inl ⟨_, rfl⟩⟩
    · exact ⟨o, e1, fun ⟨_, _, q⟩ => (by rw [d1] at q; cases q), Or.inl ⟨_, d1⟩⟩
  · intro b hbw
    simp only [List.mem_cons, List.not_mem_nil, or_false] at hbw
    rcases hbw with rfl | rfl
    · exact none_of_kp k₁ (Nat.le_succ _)
    · exact none_of_kp k₁ (Nat.le_refl _)
  · exact ⟨⟨_, hen⟩, hit⟩
  · rintro i ⟨y, j⟩ v s' hx ⟨T, t, c, u, rfl, hT, hc, h1, h2, h3⟩
    rw [List.getElem?_zipIdx] at hx
    have e : (x.cps.toList.map chr1)[i]? = some (chr1 c) := by simp [hc]
    rw [e] at hx
    have hx : (chr1 c, 0 + i) = (y, j) := Option.some.inj hx
    rw [Nat.zero_add] at hx
    cases hx
    exact ⟨T, t, _, rfl, hT, h1, h2, u, rfl, h3⟩
end
end
end Mine
end

section
open PySem PySem.W PyProof.Rows PySem.Calls
set_option maxRecDepth 100000
set_option maxHeartbeats 400000
namespace Mine
noncomputable section
theorem m_idx : D 12 ∈ recsOf qv := List.mem_of_getElem? (i := 6) (by kernel_rfl)
theorem n_idx : (D 12).name = "indexOf" := by kernel_rfl
def firstAt {α : Type} [DecidableEq α] (y : α) : List α → Option Nat
  | [] => none
  | x :: xs => if x = y then some 0 else (firstAt y xs).map (· + 1)
section
variable {w : World} {hb : Heap} {mg mb : Str → Option Value} {A : Around} {s : Shared} {k : Nat} {env : Env}
def Raised (hb : Heap) (l : List Env) (s : Shared) (e : Addr) (s' : Shared) : Prop :=
  (∃ h' tk, s' = { s with heap := h', toks := tk }) ∧ s.toks ≤ s'.toks ∧ (∃ a0, Heap.FlyingW (cutN hb s.heap) l e (.type "ValueError") a0 s'.heap) ∧ ∀ b o, s.heap.get? b = some o → NsO o → ∃ sl, s'.heap.get? b = some { o with slots := sl }

/-- what indexOf does -/
def FnIdx {α β γ : Type} [DecidableEq α] (hb : Heap) (w : World) (mg : Str → Option Value) (k n : Nat) (TA : Ty γ) (c : γ) (xs : List α) (B : Ty β) (y : β) (ya : α) : Prop :=
  ∀ (A : Around) (s : Shared) (vs : List Value) (a : Addr) (l : List Env), mg "indexOf" = some (.ref a) → Cx hb k A s.heap → n ≤ s.toks → A.frames = some l → A2 TA c B y s.heap vs → ∀ (Q : Value → Shared → Prop) (E : Value → Shared → Prop),
    (∀ (i : Nat) t s', firstAt ya xs = some i → Kp hb s s' → 0 < t → t < s'.toks → Q (.int i t) s') →
    (∀ e s', firstAt ya xs = none → Raised hb l s e s' → E (.ref e) s') →
    wpAny (model p w) A (call (.ref a) vs) Q E s

theorem firstAt_drop {α : Type} [DecidableEq α] {y : α} {xs : List α} : ∀ {i : Nat}, (∀ j x, j < i → xs[j]? = some x → x ≠ y) → i ≤ xs.length → firstAt y xs = (firstAt y (xs.drop i)).map (· + i)
  | 0, _, _ => by simp
  | i + 1, h, hi => by
    rw [firstAt_drop (i := i) (fun j x hj => h j x (Nat.lt_succ_of_lt hj)) (Nat.le_of_succ_le hi)]
    have hlt : i < xs.length := hi
    rw [List.drop_eq_getElem_cons hlt]
    have := h i xs[i] (Nat.lt_succ_self _) (List.getElem?_eq_getElem hlt)
    rw [firstAt, if_neg this]
    cases firstAt y (xs.drop (i + 1)) with
    | none => rfl
    | some j => simp [Nat.add_comm, Nat.add_left_comm, Nat.add_assoc]

theorem kp_enter {s₁ s' : Shared} (kp : Kp hb s s₁) (new : ∀ b, fBad env b → s.heap.get? b = none) (stp : Stp hb env s₁ s') : Kp hb s s' := by
  refine ⟨same_trans kp.same stp.same, Nat.le_trans kp.tok stp.tok, fun b o _ e => ?_, fun x => stp.ext.base (kp.ext.base x), fun b o e n => ?_⟩
  · obtain ⟨sl, e1, k1⟩ := kp.ext.stay b o id e
    obtain ⟨sl', e2, k2⟩ := stp.ext.stay b _ (fun q => by rw [new b q] at e; cases e) e1
    exact ⟨sl', e2, fun q => (k2 q).trans (k1 q)⟩
  · obtain ⟨o', e', n'⟩ := kp.ext.nf b o e n
    exact stp.ext.nf b o' e' n'
theorem up_ns {h h' : Heap} (u : h.UpToSlots h') {b : Addr} {o : Obj} (e : ∃ sl, h.get? b = some { o with slots := sl }) (n : NsO o) : ∃ sl, h'.get? b = some { o with slots := sl } := by
  obtain ⟨sl, e⟩ := e
  obtain ⟨es, ep, d⟩ := n
  obtain ⟨sl', e'⟩ := u b _ e (fun vs q => by rw [show ({ o with slots := sl } : Obj).data = o.data from rfl, d] at q; cases q)
  exact ⟨sl', e'⟩

theorem f_idx {α γ : Type} [DecidableEq α] {TA : Ty γ} {c : γ} {xs : List α} {J B : Ty α} {y : α} {n : Nat} (G : Gnd w hb mg mb) (hn0 : 0 < n) (hsz : xs.length ≤ 1000) (K : Kind hb w J B y)
    (src : ∀ (A : Around) (env : Env) (s : Shared) (e : PySem.Expr) (fp cp tp : Pos) (x1 : Nat) (elts : List PySem.Expr), A.handled = none → EnvG env → hb.StaysIn s.heap → env.kindOf "enumerate" = some .globalImplicit → n ≤ s.toks → Pv hb (model p w) A env s e TA c →
      (∀ _ : PySem.Expr, eval (.Call (.Name "enumerate" fp) [e] [] cp) env = (do callWith cp (← eval (.Name "enumerate" fp) env) [] (backTo cp (starEach [e] env)) (backToKw cp (keywordEach [] env)))) →
      (starEach [e] env = (false, eval e env) :: starEach [] env) →
      SrcLOf hb w A env (.Tuple elts x1 tp) (.Call (.Name "enumerate" fp) [e] [] cp) s xs.zipIdx (PPe J n)) :
    FnIdx hb w mg 1 n TA c xs B y y := by
  rintro A s vs a l ha C hn hl ⟨v, u, rfl, rv, ru⟩ Q E q qe
  refine enter (k := 0) G m_idx (n_idx ▸ ha) (binds := [("a", v), ("b", u)]) C (fun _ _ _ => by rfl) (fun L z hz => ?_) (fun L n c h => by cases h) rfl rfl rfl fun L a cd s₁ F kp new C' => ?_
  · simp only [List.mem_cons, List.not_mem_nil, or_false] at hz
    rcases hz with rfl | rfl <;> exact .inl rfl
  have va : Var hb (envD (D 12) L a cd) "a" TA c s₁ := ⟨_, _, F, v, F.okF (Ty.at_ext rv kp.ext), .inl ⟨by rfl, by rfl⟩⟩
  have vb : Var hb (envD (D 12) L a cd) "b" B y s₁ := ⟨_, _, F, u, F.okF (Ty.at_ext ru kp.ext), .inl ⟨by rfl, by rfl⟩⟩
  have hh := C'.hand
  have V : EnvG (envD (D 12) L a cd) := ⟨rfl, rfl, rfl⟩
  refine wpAny_execs_cons ?_
  refine sFor (xs := xs.zipIdx) (PP := PPe J n) va.frm C'.st (src _ _ s₁ _ _ _ _ _ _ hh V C'.st rfl (Nat.le_trans hn kp.tok) va.pv (by intro _; rfl) (by rfl))
    (fun i s => Var hb (envD (D 12) L a cd) "b" B y s ∧ ∀ j x, j < i → xs[j]? = some x → x ≠ y) (fun i s s' h k => ⟨h.1.wk k, h.2⟩) (fun i s h => h.1.frm) (fun s₂ k₂ => ⟨vb.kp k₂, fun j x hj => by omega⟩) (fun i x v s₃ E' hx hP hI stp => ?_) fun s' hI stp => ?_
  · obtain ⟨x, j⟩ := x
    obtain ⟨T, t, u', rfl, hT, ht1, ht2, ru'⟩ := hP
    obtain ⟨vb3, hne⟩ := hI
    rw [List.getElem?_zipIdx] at hx
    have hxi : xs[i]? = some x ∧ j = i := by
      cases hq : xs[i]? with
      | none => rw [hq] at hx; cases hx
      | some x' =>
        rw [hq] at hx
        have hx : (x', 0 + i) = (x, j) := Option.some.inj hx
        rw [Nat.zero_add] at hx
        cases hx
        exact ⟨rfl, rfl⟩
    obtain ⟨hxi, rfl⟩ := hxi
    have hilt : j < xs.length := (List.getElem?_eq_some_iff.mp hxi).1
    refine asgPair (n1 := [Str.ofString "i"]) (n2 := [Str.ofString "j"]) (R1 := fun s' => Var hb (envD (D 12) L a cd) "i" (tIntK fun t' => 0 < t' ∧ t' < s₃.toks) (j : Int) s') (R2 := fun s' => Var hb (envD (D 12) L a cd) "j" J x s') hh vb3.frm hT
      (fun s' k => asgName (vb3.frm.kp k) rfl ⟨t, rfl, by omega, ht2⟩) (fun s' s'' k a1 => asgName a1.frm rfl (a1.ty (vb3.frm.kp k) (Ty.at_ext ru' k.ext))) (fun s' s'' a2 v1 => a2.var (by decide) v1) (by rfl) _ _ fun s₄ a₄ ⟨vi, vj⟩ => ?_
    have C4 := (C'.stp stp).stp a₄.stp
    have vb4 := a₄.var (by decide) vb3
    refine wpAny_execs_cons (sIf (hb := hb) (b := decide (x = y)) (K.test _ _ _ _ _ _ _ _ _ _ _ _ _ C4.st vj vb4 (by decide) (by decide)) fun s₅ k₅ => ⟨fun hd => ?_, fun hd => ?_⟩)
    · have e : x = y := of_decide_eq_true hd
      refine wpAny_execs_cons (sReturn ((vi.kp k₅).pv) fun v' s₆ k₆ r => ?_)
      obtain ⟨t', rfl, h0, h1⟩ := r
      have stp' : Stp hb (envD (D 12) L a cd) s₃ s₆ := (a₄.stp.trans k₅.stp).trans k₆.stp
      refine ⟨stp', fun st => ⟨st, fun kk => q j t' s₆ ?_ kk h0 (Nat.lt_of_lt_of_le h1 stp'.tok)⟩⟩
      rw [firstAt_drop hne (Nat.le_of_lt hilt), List.drop_eq_getElem_cons hilt]
      have : xs[j] = x := by
        have := List.getElem?_eq_getElem hilt
        rw [hxi] at this
        exact (Option.some.inj this).symm
      rw [firstAt, if_pos (this.trans e)]
      simp
    · have e : x ≠ y := of_decide_eq_false hd
      refine wpAny_execs_nil (wpAny_execs_nil ⟨a₄.stp.trans k₅.stp, vb4.kp k₅, fun j' x' hj' hx' => ?_⟩)
      by_cases e' : j' = j
      · subst e'
        rw [hxi] at hx'
        cases hx'
        exact e
      · exact hne j' x' (by omega) hx'
  · rw [List.length_zipIdx] at hI
    obtain ⟨vb3, hne⟩ := hI
    have hnone : firstAt y xs = none := by
      rw [firstAt_drop hne (Nat.le_refl _), List.drop_length]; rfl
    have C3 := C'.stp stp
    refine wpAny_execs_cons (Raise_madeB PySem.F.excCall_ValueError PySem.F.excRaise_ValueError hh (ld_builtin (v := .type "ValueError") G C3.st V.kind V.glob V.built rfl (G.none (by kernel_rfl)) (G.bu (by decide) (by kernel_rfl)) (by decide) ⟨rfl, args_cons ((pStr : Pv hb (model p w) _ _ s' _ _ _).go fun vm s₄ k₄ _ => args_nil ⟨show 1 ≤ sizeLine by decide, fun h' e M => ?_⟩) (by rfl)⟩) (by rfl) (by rfl))
    have K4 : Kp hb s s₄ := (kp_enter kp new stp).trans k₄
    have K5 : Kp hb s { s₄ with heap := h' } := K4.trans (Kp.mkH M.keeps)
    obtain ⟨l', hl', fr⟩ := C.fr
    rw [hl] at hl'
    cases hl'
    have hfr : (A.deeper (envD (D 12) L a cd)).frames = some (envD (D 12) L a cd :: l) := by show A.frames.map _ = _; rw [hl]; rfl
    have fr5 : FunFr h' (cutN hb s.heap) l := fr.cut fun b o e n => K5.ext.nf b o e n
    have frE : FunFr h' (cutN hb s.heap) (envD (D 12) L a cd :: l) := by
      obtain ⟨m, cm, F4⟩ := vb3.frm.kp k₄
      obtain ⟨o, es, ep, e1, d1, _⟩ := F4.ns
      exact ⟨by rw [F4.kind]; decide, ⟨_, o, rfl, cutN_none (new _ (Or.inl rfl)), M.keeps _ o e1, es, ep, d1⟩, fr5⟩
    obtain ⟨t, he, _, _⟩ := M.there
    have hen : (cutN hb s.heap).get? e = none := cutN_none (by
      cases q : s.heap.get? e with
      | none => rfl
      | some o =>
        obtain ⟨sl, e', _⟩ := K4.ext.stay e o id q
        rw [M.new] at e'; cases e')
    refine noteFrame_first (base := cutN hb s.heap) hfr frE.fn rfl he (cut_stays C.st K5) hen rfl rfl rfl fun h₂ H2 up2 => ?_
    refine cameBack_held rfl H2 fun h₃ H3 up3 => ?_
    refine leaving_held rfl H3 fun h₄ ⟨k1, k2, ⟨_, _, k3⟩, k4⟩ up4 => ?_
    refine qe e _ hnone ⟨same_trans K4.same ⟨h₄, s₄.toks, rfl⟩, K4.tok, ⟨_, k1, k2, k3, k4⟩, fun b o e n => ?_⟩
    obtain ⟨sl, e5, _⟩ := K5.ext.stay b o id e
    exact up_ns up4 (up_ns up3 (up_ns up2 ⟨sl, e5⟩ n) n) n
end
end
end Mine
end

section
open PySem PySem.W PyProof.Rows PySem.Calls
set_option maxRecDepth 100000
set_option maxHeartbeats 400000
namespace Mine
noncomputable section
theorem m_place : D 18 ∈ recsOf qv := List.mem_of_getElem? (i := 11) (by kernel_rfl)
theorem n_place : (D 18).name = "_law_place" := by kernel_rfl
theorem sub_ve_be : isSubtype (.type "ValueError") (.type "BaseException") = pure true := by rw [isSubtype_type]; kernel_rfl
theorem sub_ve_ve : isSubtype (.type "ValueError") (.type "ValueError") = pure true := by rw [isSubtype_type]; kernel_rfl
theorem sub_ve_tup : isSubtype (.type ((Manifest.find? "ValueError").elim "type" fun x => x.metatype)) (.type "tuple") = pure false := by rw [isSubtype_type]; kernel_rfl
def placeAt {α : Type} [DecidableEq α] (y : α) (xs : List α) : Int := match firstAt y xs with | some i => (i : Int) | none => -1
section
variable {w : World} {hb : Heap} {mg mb : Str → Option Value} {A : Around} {s : Shared} {k : Nat} {env : Env}
def FnPlace {α β γ : Type} [DecidableEq α] (hb : Heap) (w : World) (mg : Str → Option Value) (k n : Nat) (TA : Ty γ) (c : γ) (xs : List α) (B : Ty β) (y : β) (ya : α) : Prop :=
  ∀ (A : Around) (s : Shared) (vs : List Value) (a : Addr), mg "_law_place" = some (.ref a) → Cx hb k A s.heap → n ≤ s.toks → A2 TA c B y s.heap vs → ∀ (Q : Value → Shared → Prop) (E : Value → Shared → Prop),
    (∀ t s', Kp hb s s' → 0 < t → t < s'.toks → Q (.int (placeAt ya xs) t) s') → wpAny (model p w) A (call (.ref a) vs) Q E s

theorem hb_cut {h h' : Heap} (st : hb.StaysIn h) (k : (cutN hb h).StaysIn h') : hb.StaysIn h' := fun b o e => k b o (cutN_of (st b o e) fun _ q => by rw [e] at q; cases q)

theorem f_place {α γ : Type} [DecidableEq α] {TA : Ty γ} {c : γ} {xs : List α} {B : Ty α} {y : α} {n : Nat} (G : Gnd w hb mg mb) (F : FnIdx hb w mg 1 n TA c xs B y y) : FnPlace hb w mg 2 n TA c xs B y y := by
  rintro A s vs a ha C hn ⟨v, u, rfl, rv, ru⟩ Q E q
  refine enter (k := 1) G m_place (n_place ▸ ha) (binds := [("items", v), ("sought", u)]) C (fun _ _ _ => by rfl) (fun L z hz => ?_) (fun L n c h => by cases h) rfl rfl rfl fun L a cd s₁ FF kp new C' => ?_
  · simp only [List.mem_cons, List.not_mem_nil, or_false] at hz
    rcases hz with rfl | rfl <;> exact .inl rfl
  have va : Var hb (envD (D 18) L a cd) "items" TA c s₁ := ⟨_, _, FF, v, FF.okF (Ty.at_ext rv kp.ext), .inl ⟨by rfl, by rfl⟩⟩
  have vb : Var hb (envD (D 18) L a cd) "sought" B y s₁ := ⟨_, _, FF, u, FF.okF (Ty.at_ext ru kp.ext), .inl ⟨by rfl, by rfl⟩⟩
  have V : EnvG (envD (D 18) L a cd) := ⟨rfl, rfl, rfl⟩
  obtain ⟨l, hl, fr⟩ := C'.fr
  obtain ⟨l0, hl0, _⟩ := C.fr
  have hl1 : (A.deeper (envD (D 18) L a cd)).frames = some (envD (D 18) L a cd :: l0) := by show A.frames.map _ = _; rw [hl0]; rfl
  rw [hl1] at hl
  cases hl
  obtain ⟨af, of, pm, code, doc, h1, h2, h3, h4⟩ := G.fn m_idx
  refine wpAny_execs_cons (wpAny_Try_except ?_)
  refine wpAny_execs_cons (wpAny_Return_some ?_)
  refine Call_ (ld_global G C'.st V.kind V.glob (by rfl) h1 (by decide) ?_) (by rfl)
  refine callWith_def h3 (args_cons ((va.pv : Pv hb (model p w) (A.deeper (envD (D 18) L a cd)) _ _ _ _ _).go fun v' s₂ k₂ r => args_cons ((vb.kp k₂).pv.go fun u' s₃ k₃ r' => args_nil ⟨(C'.kp (k₂.trans k₃)).st af of h2, ?_⟩) (by rfl)) (by rfl)) (by rfl)
  have k13 : Kp hb s₁ s₃ := k₂.trans k₃
  have C3 := C'.kp k13
  refine F _ s₃ [v', u'] af _ h1 C3 (Nat.le_trans hn (Nat.le_trans kp.tok k13.tok)) hl1 ⟨v', u', rfl, Ty.at_ext r k₃.ext, r'⟩ _ _ (fun i t s' hi k h0 ht => ?_) fun e s' hi R => ?_
  · refine ⟨(k13.trans k).stp, fun kk => ?_⟩
    have : placeAt y xs = (i : Int) := by unfold placeAt; rw [hi]
    rw [← this]
    exact q t s' kk h0 ht
  · obtain ⟨same, tok, ⟨a0, fl⟩, up⟩ := R
    have nat : ∀ {h2 : Heap}, s'.heap.UpToSlots h2 → ∀ b o, s₃.heap.get? b = some o → NsO o → ∃ sl, h2.get? b = some { o with slots := sl } := fun u b o e n => up_ns u (up b o e n) n
    refine wpAny_looks_onW hl1 rfl fl fun h2 H2 u2 => ?_
    refine wpAny_landsW H2 fun h3 fl3 u3 => ?_
    obtain ⟨k1, k2, k3, k4⟩ := fl3
    have hT : ∃ ob, h3.get? e = some ob ∧ ob.cls = .type "ValueError" := by
      obtain ⟨oe, _, _, _, _, he, hc, _⟩ := k4
      exact ⟨oe, he, hc.1⟩
    refine wpAny_handleBy_builtin (X := "ValueError") (T := "ValueError") (b := true) sub_ve_be sub_ve_tup sub_ve_ve ?_
    refine ld_builtin (v := .type "ValueError") G (hb_cut C3.st k1) V.kind V.glob V.built (by rfl) (G.none (by kernel_rfl)) (G.bu (by decide) (by kernel_rfl)) (by decide) ⟨rfl, hT, ?_⟩
    rw [if_pos rfl]
    refine wpAny_setFlight_noneW k1 k3 (k4.at) fun h4 j1 j2 j3 j4 => ?_
    refine wpAny_execs_cons (wpAny_Return_some (wpAny_UnaryOp (wpAny_Constant_int (P.neg_int ?_))))
    have u4 : s'.heap.UpToSlots h4 := (u2.trans u3).trans fun b o e n => ⟨o.slots, j4 b o e n⟩
    have K : Kp hb s₃ { s' with heap := h4, toks := s'.toks + 1 + 1 } := kp_cut C3.st (same_trans same ⟨h4, s'.toks + 1 + 1, rfl⟩) (Nat.le_trans tok (by show s'.toks ≤ s'.toks + 1 + 1; omega)) j1 (nat u4)
    refine ⟨(k13.trans K).stp, fun kk => ?_⟩
    have : placeAt y xs = -1 := by unfold placeAt; rw [hi]
    rw [this] at q
    exact q _ _ kk (Nat.succ_pos _) (Nat.lt_succ_self _)
end
end
end Mine
end

section
open PySem PySem.W PyProof.Rows PySem.Calls
set_option maxRecDepth 100000
set_option maxHeartbeats 400000
namespace Mine
noncomputable section
theorem m_found : D 19 ∈ recsOf qv := List.mem_of_getElem? (i := 12) (by kernel_rfl)
theorem n_found : (D 19).name = "_law_found" := by kernel_rfl
def foundStep (row : List Str) (parts : List (List Int)) (spot : Nat) (c : Str) : List (List Int) :=
  let place := placeAt (placeAt c row) (parts.map (fun p => (p.length : Int)) ++ [0])
  if place = parts.length then parts ++ [[(spot : Int)]] else if place ≥ 0 then (parts.take place.toNat ++ [parts.getD place.toNat [] ++ [(spot : Int)]]) ++ parts.drop (place + 1).toNat else parts
def foundParts (word : Str) (row : List Str) : Nat → List (List Int)
  | 0 => []
  | i + 1 => foundStep row (foundParts word row i) i (chr1 (word.cps.getD i 0))
def foundL (word row : Str) : List (List Int) := (foundParts word (row.cps.toList.map chr1) word.length).filter fun p => (p.length : Int) == (row.length : Int)
theorem firstAt_lt {α : Type} [DecidableEq α] {y : α} : ∀ {xs : List α} {i : Nat}, firstAt y xs = some i → i < xs.length
  | x :: xs, i, h => by
    rw [firstAt] at h
    by_cases e : x = y
    · rw [if_pos e] at h; cases h; exact Nat.succ_pos _
    · rw [if_neg e] at h
      cases hq : firstAt y xs with
      | none => rw [hq] at h; cases h
      | some j =>
        rw [hq] at h
        cases h
        exact Nat.succ_lt_succ (firstAt_lt hq)
theorem placeAt_bound {α : Type} [DecidableEq α] (y : α) (xs : List α) : -1 ≤ placeAt y xs ∧ placeAt y xs < xs.length := by
  unfold placeAt
  cases h : firstAt y xs with
  | none => exact ⟨Int.le_refl _, by show (-1 : Int) < _; omega⟩
  | some i => exact ⟨by show (-1 : Int) ≤ (i : Int); omega, by have := firstAt_lt h; show (i : Int) < _; omega⟩
theorem found_bound (word : Str) (row : List Str) : ∀ i, (foundParts word row i).length ≤ i ∧ ∀ p ∈ foundParts word row i, p.length ≤ i
  | 0 => ⟨Nat.le_refl _, fun p h => by cases h⟩
  | i + 1 => by
    obtain ⟨h1, h2⟩ := found_bound word row i
    rw [foundParts]
    generalize foundParts word row i = parts at h1 h2 ⊢
    unfold foundStep
    dsimp only
    have hb := placeAt_bound (placeAt (chr1 (word.cps.getD i 0)) row) (parts.map (fun p => (p.length : Int)) ++ [0])
    generalize placeAt (placeAt (chr1 (word.cps.getD i 0)) row) (parts.map (fun p => (p.length : Int)) ++ [0]) = place at hb ⊢
    rw [List.length_append, List.length_map] at hb
    split
    · refine ⟨by rw [List.length_append]; exact Nat.succ_le_succ h1, fun p hp => ?_⟩
      rcases List.mem_append.mp hp with hp | hp
      · exact Nat.le_succ_of_le (h2 p hp)
      · rw [List.mem_singleton.mp hp]; exact Nat.succ_le_succ (Nat.zero_le _)
    · split
      · rename_i hne hge
        have hlt : place.toNat < parts.length := by
          have : place < parts.length + 1 := hb.2
          omega
        have e1 : (place + 1).toNat = place.toNat + 1 := by omega
        refine ⟨?_, fun p hp => ?_⟩
        · rw [List.length_append, List.length_append, List.length_take, List.length_drop, e1]
          show min place.toNat parts.length + 1 + _ ≤ i + 1
          omega
        · rcases List.mem_append.mp hp with hp | hp
          · rcases List.mem_append.mp hp with hp | hp
            · exact Nat.le_succ_of_le (h2 p (List.mem_of_mem_take hp))
            · rw [List.mem_singleton.mp hp, List.length_append, List.getD_eq_getElem?_getD, List.getElem?_eq_getElem hlt]
              exact Nat.succ_le_succ (h2 _ (List.getElem_mem hlt))
          · exact Nat.le_succ_of_le (h2 p (List.mem_of_mem_drop hp))
      · exact ⟨Nat.le_succ_of_le h1, fun p hp => Nat.le_succ_of_le (h2 p hp)⟩
section
variable {w : World} {hb : Heap} {mg mb : Str → Option Value} {A : Around} {s : Shared} {k : Nat} {env : Env}
theorem asgNameV {α : Type} {T : Ty α} {x : α} {n : Str} {tp : Pos} {v : Value} (F : FrmOk hb env s) (hl : env.kindOf n = some .local) (r : T.at s.heap v x) :
    Asg hb w A env (.Name n tp) v s [n] (fun s' => Var hb env n T x s' ∧ ∃ m cm, Frm hb env m cm s' ∧ m n = some v) := by
  intro Q E q
  obtain ⟨m, cm, F⟩ := F
  have r' := F.okF r
  refine wpAny_assign_Name (wpAny_storeName_local hl F.ns (fun h' hn' hs' => ?_) (by rw [F.kind]; rfl))
  have F' : Frm hb env (upd m n v) cm { s with heap := h', toks := s.toks + 1 } := ⟨F.kind, hn', fun k c hc => (F.cell k c hc).sameBut hs' (Ne.symm (F.ne (mem_of_lookup hc))), fun k c hc => by
    obtain ⟨v, x⟩ := F.all k c hc
    exact ⟨v, x.sameBut hs' (Ne.symm (F.ne hc))⟩, F.apart, F.new⟩
  have K : Stp hb env s { s with heap := h', toks := s.toks + 1 } := stp_of (Nat.le_succ _) hs' (Or.inl rfl) F.new fun _ _ _ => ns_nf hn'
  refine q _ ⟨⟨h', s.toks + 1, rfl⟩, Nat.le_succ _, hs'.extBut, K, ⟨_, _, F'⟩, ?_⟩ ⟨⟨_, _, F', v, T.stp r' K, .inl ⟨hl, upd_self⟩⟩, _, _, F', upd_self⟩
  rintro β S n' y hne ⟨m₁, cm₁, F₁, u, ru, o⟩
  have hne : ¬ n' = n := fun e => hne (List.mem_singleton.mpr e)
  have em : m₁ = m := ns_unique F₁.ns F.ns
  subst em
  refine ⟨_, _, F', u, S.stp ru K, o.imp (fun q => ⟨q.1, (upd_ne hne).trans q.2⟩) fun ⟨q, c, hc, hv⟩ => ⟨q, c, hc, ?_⟩⟩
  rw [← hv]; exact cell_unique (F.cell _ _ hc) (F₁.cell _ _ hc)

theorem pLenListK {α : Type} {T : Ty α} {x : List α} {e : PySem.Expr} {fp pos : Pos} {N : Nat} (G : Gnd w hb mg mb) (V : EnvG env) (st : hb.StaysIn s.heap) (hN : N ≤ s.toks) (hx : env.kindOf "len" = some .globalImplicit) (h : Pv hb (model p w) A env s e (tList T) x) (hfit : x.length ≤ 1000000)
    (he : ∀ _ : PySem.Expr, eval (.Call (.Name "len" fp) [e] [] pos) env = (do callWith pos (← eval (.Name "len" fp) env) [] (backTo pos (starEach [e] env)) (backToKw pos (keywordEach [] env))) := by intro _; rfl)
    (hs : starEach [e] env = (false, eval e env) :: starEach [] env := by rfl) : Pv hb (model p w) A env s (.Call (.Name "len" fp) [e] [] pos) (tIntK fun t => N ≤ t) x.length := by
  refine pB1 G V st (G.none (by kernel_rfl)) (G.bu (by decide) boot_len) hx h ?_ (by decide) he hs
  rintro s' v Q E k ⟨a, xs, rfl, _, l, f⟩ q
  have e1 := paired_len f
  refine call_len_list l.isList (by rw [List.size_toArray]; omega) ?_
  rw [List.size_toArray, e1]
  exact q _ _ Kp.tk ⟨_, rfl, Nat.le_succ_of_le (Nat.le_trans hN k.tok)⟩
theorem pIntK {i : Int} {k : Nat} {pos : Pos} {N : Nat} {M : Model} (hN : N ≤ s.toks) : Pv hb M A env s (.Constant (.int i) k pos) (tIntK fun t => N ≤ t) i := ⟨fun _ k _ _ q => wpAny_Constant_int (q _ _ Kp.tk ⟨_, rfl, Nat.le_trans hN k.tok⟩)⟩
theorem pInt_of {P : Nat → Prop} {e : PySem.Expr} {x : Int} {M : Model} (h : Pv hb M A env s e (tIntK P) x) : Pv hb M A env s e tInt x := ⟨fun s' k Q E q => h.run s' k Q E fun v s'' k r => q v s'' k (tIntK_int r)⟩
theorem placeRow {c x : Str} {n : Nat} (G : Gnd w hb mg mb) (hn : 0 < n) (hx : x.length ≤ 1000) : FnPlace hb w mg 2 n tStr x (x.cps.toList.map chr1) (tStrK fun t => 0 < t ∧ t < n) c c := by
  refine f_place G (f_idx (J := tStrK fun t => n ≤ t) G hn (by rw [List.length_map, Array.length_toList]; exact hx) (kind_str (booked hb G)) fun A env s e fp cp tp x1 elts hh V st hk hns h he hs => ?_)
  have := forEnumStr (elts := elts) (x1 := x1) (tp := tp) hh G V st hk h he hs
  intro Q E q
  refine this Q E fun it s₂ S => q it s₂ ⟨S.kp, ?_⟩
  obtain ⟨I, fp', wr, P, Md, St, h1, h2, h3, h4, h5, h6⟩ := S.ex
  refine ⟨I, fp', wr, P, Md, St, h1, h2, h3, h4, h5, fun i y v s' hy hP => ?_⟩
  obtain ⟨T, t, u, e1, e2, e3, e4, t', e5, e6⟩ := h6 i y v s' hy hP
  exact ⟨T, t, u, e1, e2, Nat.le_trans hns e3, e4, t', e5, Nat.le_trans hns e6⟩
theorem placeInts {c : Int} {xs : List Int} {n : Nat} (G : Gnd w hb mg mb) (hn : 0 < n) (hx : xs.length ≤ 1000) (hc : smallInt c = true) : FnPlace hb w mg 2 n (tList (tIntK fun t => n ≤ t)) xs xs (tIntK fun t => 0 < t ∧ t < n) c c := by
  refine f_place G (f_idx (J := tIntK fun t => n ≤ t) G hn hx (kind_int hc) fun A env s e fp cp tp x1 elts hh V st hk hns h he hs => ?_)
  have := forEnumList (elts := elts) (x1 := x1) (tp := tp) tIntK_flat hh G V st hk h he hs
  intro Q E q
  refine this Q E fun it s₂ S => q it s₂ ⟨S.kp, ?_⟩
  obtain ⟨I, fp', wr, P, Md, St, h1, h2, h3, h4, h5, h6⟩ := S.ex
  refine ⟨I, fp', wr, P, Md, St, h1, h2, h3, h4, h5, fun i y v s' hy hP => ?_⟩
  obtain ⟨T, t, u, e1, e2, e3, e4, e5⟩ := h6 i y v s' hy hP
  exact ⟨T, t, u, e1, e2, Nat.le_trans hns e3, e4, e5⟩

/-- need = _law_place(items, sought): the token is told -/
theorem sPlace {α β γ : Type} [DecidableEq α] {TA : Ty γ} {c : γ} {xs : List α} {y : β} {ya : α} {n : Str} {e1 e2 : PySem.Expr} {fp cp np pos : Pos} {Q : Flow → Shared → Prop} {E : Value → Shared → Prop} (G : Gnd w hb mg mb) (V : EnvG env) (C : Cx hb 2 A s.heap) (F : FrmOk hb env s)
    (hx : env.kindOf "_law_place" = some .globalImplicit) (hl : env.kindOf n = some .local)
    (h1 : ∀ (Q : Value → Shared → Prop) (E : Value → Shared → Prop), (∀ v s', Kp hb s s' → TA.at s'.heap v c → wpAny (model p w) A (eval e2 env) (fun u s'' => Kp hb s' s'' ∧ ∃ (N : Nat) (B : Ty β), FnPlace hb w mg 2 N TA c xs B y ya ∧ B.at s''.heap u y ∧ N ≤ s''.toks) E s' → Q v s') → wpAny (model p w) A (eval e1 env) Q E s)
    (q : ∀ s' M, M ≤ s'.toks → 0 < M → Upd hb env n s s' → Var hb env n (tIntK fun t => 0 < t ∧ t < M) (placeAt ya xs) s' → Q .next s')
    (he : ∀ _ : PySem.Expr, eval (.Call (.Name "_law_place" fp) [e1, e2] [] cp) env = (do callWith cp (← eval (.Name "_law_place" fp) env) [] (backTo cp (starEach [e1, e2] env)) (backToKw cp (keywordEach [] env))) := by intro _; rfl)
    (hs : starEach [e1, e2] env = (false, eval e1 env) :: starEach [e2] env := by rfl) (hs' : starEach [e2] env = (false, eval e2 env) :: starEach [] env := by rfl)
    (hsw : swapsWith (.Call (.Name "_law_place" fp) [e1, e2] [] cp) (some (.Name n np)) pos.line env = pure false := by rfl) :
    wpAny (model p w) A (exec (.Assign [.Name n np] (.Call (.Name "_law_place" fp) [e1, e2] [] cp) pos) env) Q E s := by
  obtain ⟨af, of, pm, code, doc, g1, g2, g3, g4⟩ := G.fn m_place
  refine wpAny_Assign_Name ?_ hsw
  refine Call_ (ld_global G C.st V.kind V.glob hx g1 (by decide) ?_) (he e1)
  refine callWith_def g3 (args_cons (h1 _ _ fun v s₁ k₁ r h2 => args_cons (wpAny_mono h2 (fun u s₂ ⟨k₂, N, B, P, r', hN⟩ => args_nil ⟨(C.kp (k₁.trans k₂)).st af of g2, ?_⟩) fun _ _ e => e) hs') hs) hs
  refine P A s₂ [v, u] af g1 (C.kp (k₁.trans k₂)) hN ⟨v, u, rfl, Ty.at_ext r k₂.ext, r'⟩ _ _ fun t s₃ k₃ h0 h1 => ?_
  have K : Kp hb s s₃ := (k₁.trans k₂).trans k₃
  refine store_var (T := tIntK fun t => 0 < t ∧ t < s₃.toks) (x := placeAt ya xs) (F.kp K) (.inl hl) ⟨t, rfl, h0, h1⟩ fun s' u' v' => ?_
  exact q s' s₃.toks u'.stp.tok (Nat.lt_of_le_of_lt (Nat.zero_le _) h1) (u'.kp K) v'

def tokStrOk (c : Str) (s : Shared) (v : Value) : Prop := ∃ t, v = .str c t ∧ 0 < t ∧ t < s.toks
theorem f_found (G : Gnd w hb mg mb) (word row : Str) (hw : word.length ≤ 100) (hr : row.length ≤ 100) :
    ∀ (A : Around) (s : Shared) (vs : List Value) (a : Addr), mg "_law_found" = some (.ref a) → Cx hb 4 A s.heap → 1 ≤ s.toks → A2 tStr word tStr row s.heap vs → ∀ (Q : Value → Shared → Prop) (E : Value → Shared → Prop),
      (∀ v s', Kp hb s s' → (tList (tList tInt)).at s'.heap v (foundL word row) → Q v s') → wpAny (model p w) A (call (.ref a) vs) Q E s := by
  rintro A s vs a ha C htok ⟨v, u, rfl, rv, ru⟩ Q E q
  have big : (100000 : Nat) ≤ sizeLine := by decide
  refine enter (k := 3) G m_found (n_found ▸ ha) (binds := [("word", v), ("row", u)]) C (fun _ _ _ => by rfl) (fun L z hz => ?_) (fun L n c h => ?_) rfl rfl rfl fun L a cd s₁ FF kp new C1 => ?_
  · simp only [List.mem_cons, List.not_mem_nil, or_false] at hz
    rcases hz with rfl | rfl
    · exact .inl rfl
    · exact .inr ⟨rfl, by rfl⟩
  · have e : cellsFrom L (D 19).scope.names [] = [(Str.ofString "row", L)] := by rfl
    rw [e] at h ⊢
    rw [List.mem_singleton] at h
    cases h
    rfl
  have V : EnvG (envD (D 19) L a cd) := ⟨rfl, rfl, rfl⟩
  have vw : Var hb (envD (D 19) L a cd) "word" tStr word s₁ := ⟨_, _, FF, v, FF.okF (Ty.at_ext rv kp.ext), .inl ⟨by rfl, by rfl⟩⟩
  have vr : Var hb (envD (D 19) L a cd) "row" tStr row s₁ := ⟨_, _, FF, u, FF.okF (Ty.at_ext ru kp.ext), .inr ⟨by rfl, _, by rfl, by rfl⟩⟩
  have tok1 : 1 ≤ s₁.toks := Nat.le_trans htok kp.tok
  suffices H : wpAny (model p w) (A.deeper (envD (D 19) L a cd)) (execs (D 19).body (envD (D 19) L a cd)) (Done hb (envD (D 19) L a cd) s₁ (tList (tList tInt)) (foundL word row)) (fun e s' => wpAny (model p w) (A.deeper (envD (D 19) L a cd)) (leaving (envD (D 19) L a cd) e) (fun _ s'' => E e s'') (fun e' s'' => E e' s'') s') s₁ by
    refine wpAny_mono H (fun f s' hq => ⟨hq.1, fun kk => ?_⟩) fun _ _ e => e
    obtain ⟨_, v', rfl, r⟩ := hq
    exact q v' s' kk r
  generalize (fun e s' => wpAny (model p w) (A.deeper (envD (D 19) L a cd)) (leaving (envD (D 19) L a cd) e) (fun _ s'' => E e s'') (fun e' s'' => E e' s'') s') = E1
  generalize A.deeper (envD (D 19) L a cd) = A1 at C1
  refine wpAny_execs_cons (sAssign (n := "parts") (T := tList (tList tInt)) (x := []) vw.frm (pList .nil (Nat.zero_le _)) (.inl rfl) fun s₂ u₂ vp => ?_)
  have C2 := C1.stp u₂.stp
  refine wpAny_execs_cons ?_
  refine sFor (xs := List.range word.length) (PP := fun i v s => tInt.at s.heap v (i : Int)) u₂.frm C2.st (forRange C2.hand G V C2.st rfl (pLenStr G V C2.st rfl (vw.up u₂).pv (by omega)) (by omega))
    (fun i s => Var hb (envD (D 19) L a cd) "parts" (tList (tList tInt)) (foundParts word (row.cps.toList.map chr1) i) s ∧ Var hb (envD (D 19) L a cd) "word" tStr word s ∧ Var hb (envD (D 19) L a cd) "row" tStr row s ∧ 1 ≤ s.toks)
    (fun i s s' h k => ⟨h.1.wk k, h.2.1.wk k, h.2.2.1.wk k, Nat.le_trans h.2.2.2 k.tok⟩) (fun i s h => h.1.frm) (fun s₃ k₃ => ⟨vp.kp k₃, (vw.up u₂).kp k₃, (vr.up u₂).kp k₃, Nat.le_trans tok1 (Nat.le_trans u₂.stp.tok k₃.tok)⟩) (fun i x v s₃ E' hx hP hI stp3 => ?_) fun s' hI stp => ?_
  · obtain ⟨vp3, vw3, vr3, tok3⟩ := hI
    obtain ⟨hlt, hxi⟩ : i < word.length ∧ x = i := by
      obtain ⟨h1, h2⟩ := List.getElem?_eq_some_iff.mp hx
      rw [List.length_range] at h1
      exact ⟨h1, by simpa using h2.symm⟩
    subst hxi
    have C3 := C2.stp stp3
    obtain ⟨pb1, pb2⟩ := found_bound word (row.cps.toList.map chr1) x
    generalize hparts : foundParts word (row.cps.toList.map chr1) x = parts at vp3 pb1 pb2
    have hnext : foundParts word (row.cps.toList.map chr1) (x + 1) = foundStep (row.cps.toList.map chr1) parts x (chr1 (word.cps.getD x 0)) := by rw [foundParts, hparts]
    refine wpAny_assign_Name (store_var (n := "spot") (T := tInt) (x := (x : Int)) vp3.frm (.inl rfl) hP fun s₄ u₄ vs4 => ?_)
    have C4 := C3.stp u₄.stp
    have tok4 : 1 ≤ s₄.toks := Nat.le_trans tok3 u₄.stp.tok
    have hc : word.cps[x]? = some (word.cps.getD x 0) := by
      have : x < word.cps.size := hlt
      simp [this]
    refine wpAny_execs_cons (sPlace (n := "need") (c := row) (TA := tStr) (xs := row.cps.toList.map chr1) (y := chr1 (word.cps.getD x 0)) (ya := chr1 (word.cps.getD x 0)) G V (C4.less (by decide)) u₄.frm rfl rfl (fun Q E q => (vr3.up u₄).pv.go fun v1 s₅ k₅ r5 => q v1 s₅ k₅ r5 ?_) fun s₅ N hN hN0 u₅ vn => ?_)
    · refine Subscript_ ((((vw3.up u₄).kp k₅).pv : Pv hb (model p w) _ _ _ _ _ _).go fun v2 s₆ k₆ r6 => ?_)
      obtain ⟨t6, rfl⟩ := r6
      refine ((((vs4.kp k₅).kp k₆).pv : Pv hb (model p w) _ _ _ _ _ _).go fun v3 s₇ k₇ r7 => ?_)
      obtain ⟨t7, rfl⟩ := r7
      refine tail_any (typeIs_str _ _ _) slot_str_getitem.lookup (getItem_str (c := word.cps.getD x 0) ?_ ?_ ?_) (by with_unfolding_all rfl)
      · simp only [Bool.or_eq_false_iff, decide_eq_false_iff_not]; omega
      · unfold seqIndex?
        have h1 : ¬ ((x : Int) < 0) := by omega
        simp only [if_neg h1]
        rw [if_pos (by simp; exact hlt)]
        simpa using hc
      · have tk7 : 1 ≤ s₇.toks := Nat.le_trans tok4 (Nat.le_trans k₅.tok (Nat.le_trans k₆.tok k₇.tok))
        exact ⟨(k₆.trans k₇).trans Kp.tk, s₇.toks + 1, _, placeRow G (Nat.succ_pos _) (by omega), ⟨s₇.toks, rfl, tk7, Nat.lt_succ_self _⟩, Nat.le_refl _⟩
    have C5 := C4.stp u₅.stp
    have vp5 := (vp3.up u₄).up u₅
    have vs5 := vs4.up u₅
    have hsm : smallInt (placeAt (chr1 (word.cps.getD x 0)) (row.cps.toList.map chr1)) = true := by
      have h := placeAt_bound (chr1 (word.cps.getD x 0)) (row.cps.toList.map chr1)
      have hl : (row.cps.toList.map chr1).length ≤ 100 := by rw [List.length_map, Array.length_toList]; exact hr
      unfold smallInt
      simp only [Bool.and_eq_true, decide_eq_true_eq]
      omega
    have lenf : ((parts.filter (fun _ => true)).map (fun p => (p.length : Int))) = parts.map (fun p => (p.length : Int)) := by
      rw [List.filter_eq_self.mpr fun _ _ => rfl]
    refine wpAny_execs_cons (sPlace (n := "place") (c := parts.map (fun p => (p.length : Int)) ++ [0]) (TA := tList (tIntK fun t => N ≤ t)) (xs := parts.map (fun p => (p.length : Int)) ++ [0]) (y := placeAt (chr1 (word.cps.getD x 0)) (row.cps.toList.map chr1)) (ya := placeAt (chr1 (word.cps.getD x 0)) (row.cps.toList.map chr1)) G V (C5.less (by decide)) u₅.frm rfl rfl (fun Q E q => ?_) fun s₆ N' hN' hN0' u₆ vpl => ?_)
    · refine (pListAdd (T := tIntK fun t => N ≤ t) (x := (parts.filter (fun _ => true)).map (fun p => (p.length : Int))) (y := [0]) ?_ ?_ ?_ : Pv hb (model p w) A1 (envD (D 19) L a cd) s₅ _ _ _).go fun v7 s₇ k₇ r7 => q v7 s₇ k₇ (by rw [lenf] at r7; exact r7) ?_
      · rw [lenf, List.length_map]; show _ + 1 ≤ _; omega
      · refine pComp (T' := tIntK fun t => N ≤ t) (xs := parts) (pp := fun _ => true) (f := fun p => (p.length : Int)) (cl := []) (PP := fun s x v _ => (tList tInt).at s.heap v x) C5.st (by omega) (by rfl) (by decide) rfl (by decide) fun s₈ k₈ => ?_
        have C8 := C5.kp k₈
        refine compName (T := tList tInt) (g := id) (u₅.frm.kp k₈) C8.st rfl (fun _ _ h => by cases h) List.Pairwise.nil (fun _ _ h => by cases h) (fun C => by rfl) (srcList C8.hand (listAt_var (vp5.kp k₈)) (fun _ _ => rfl)) (fun y v s₃ h lp => lp_at h lp) fun j y C' s₉ hy k₉ F₉ S₉ v9 _ => ⟨.nil, fun _ => ?_⟩
        have hyl := pb2 y (List.mem_of_getElem? hy)
        exact EltAt.flat tIntK_flat (pLenListK G ⟨rfl, rfl, rfl⟩ (C8.kp k₉).st (Nat.le_trans hN (Nat.le_trans k₈.tok k₉.tok)) (by rfl) v9.pv (by show y.length ≤ _; omega))
      · exact pList (.cons (pIntK hN) (fun _ => by rfl) .nil) (by show 1 ≤ _; omega)
      · exact (vn.kp k₇).pv.go fun v8 s₈ k₈ r8 => ⟨k₈, N, _, placeInts G hN0 (by rw [List.length_append, List.length_map]; show _ + 1 ≤ _; omega) hsm, r8, Nat.le_trans hN (Nat.le_trans k₇.tok k₈.tok)⟩
    have C6 := C5.stp u₆.stp
    have vp6 := vp5.up u₆
    have vs6 := vs5.up u₆
    have hpb := placeAt_bound (placeAt (chr1 (word.cps.getD x 0)) (row.cps.toList.map chr1)) (parts.map (fun p => (p.length : Int)) ++ [0])
    rw [List.length_append, List.length_map, show ([0] : List Int).length = 1 from rfl] at hpb
    have hnx : ∀ r, foundStep (row.cps.toList.map chr1) parts x (chr1 (word.cps.getD x 0)) = r → foundParts word (row.cps.toList.map chr1) (x + 1) = r := fun r h => hnext.trans h
    unfold foundStep at hnx
    dsimp only at hnx
    generalize hpl : placeAt (placeAt (chr1 (word.cps.getD x 0)) (row.cps.toList.map chr1)) (parts.map (fun p => (p.length : Int)) ++ [0]) = pl at vpl hpb hnx
    have vplt : Var hb (envD (D 19) L a cd) "place" tInt pl s₆ := by
      obtain ⟨m, cm, F, v, r, o⟩ := vpl
      exact ⟨m, cm, F, v, tIntK_int r, o⟩
    have tok6 : 1 ≤ s₆.toks := Nat.le_trans hN0' hN'
    have S6 : Stp hb (envD (D 19) L a cd) s₃ s₆ := (u₄.stp.trans u₅.stp).trans u₆.stp
    have vw6 := ((vw3.up u₄).up u₅).up u₆
    have vr6 := ((vr3.up u₄).up u₅).up u₆
    have one : ∀ {s : Shared}, Var hb (envD (D 19) L a cd) "spot" tInt (x : Int) s → ∀ pos p1 : Pos, Pv hb (model p w) A1 (envD (D 19) L a cd) s (.List [.Name "spot" p1] pos) (tList tInt) [(x : Int)] := fun vs pos p1 => pList (.cons vs.pv (fun _ => by rfl) .nil) (by show 1 ≤ _; omega)
    refine wpAny_execs_cons (sIf (hb := hb) (b := (pl == (parts.length : Int))) (ptEq vplt.pv (pLenList G V C6.st rfl vp6.pv (by omega))) fun s₇ k₇ => ⟨fun hd => ?_, fun hd => ?_⟩)
    · have hd : pl = parts.length := eq_of_beq hd
      refine wpAny_execs_cons (sAssign (n := "parts") (T := tList (tList tInt)) (x := parts ++ [[(x : Int)]]) (vp6.frm.kp k₇) (pListAdd (by show _ + 1 ≤ _; omega) (vp6.kp k₇).pv (pList (.cons (one (vs6.kp k₇) _ _) (fun _ => by rfl) .nil) (by show 1 ≤ _; omega))) (.inl rfl) fun s₈ u₈ vp8 => ?_)
      refine wpAny_execs_nil (wpAny_execs_nil ⟨(S6.trans k₇.stp).trans u₈.stp, ?_, (vw6.kp k₇).up u₈, (vr6.kp k₇).up u₈, Nat.le_trans tok6 (Nat.le_trans k₇.tok u₈.stp.tok)⟩)
      rw [hnx _ (if_pos hd)]
      exact vp8
    · have hd : ¬ pl = parts.length := fun e => by rw [e] at hd; simp at hd
      refine wpAny_execs_cons (sIf (hb := hb) (b := decide (pl ≥ 0)) (ptGe (vplt.kp k₇).pv pInt) fun s₈ k₈ => ⟨fun hg => ?_, fun hg => ?_⟩)
      · have hg := of_decide_eq_true hg
        have k6 := k₇.trans k₈
        obtain ⟨pn, rfl⟩ := Int.eq_ofNat_of_zero_le hg
        have hpn : pn < parts.length := by omega
        have vp8 := vp6.kp k6
        have vpl8 := vplt.kp k6
        have e1 : ((pn : Int) + 1).toNat = pn + 1 := by omega
        have C8 := C6.kp k6
        have hget : parts[((pn : Int)).toNat]? = some (parts.getD pn []) := by
          rw [Int.toNat_natCast, List.getElem?_eq_getElem hpn, List.getD_eq_getElem?_getD, List.getElem?_eq_getElem hpn]; rfl
        have hpl := pb2 (parts.getD pn []) (by rw [List.getD_eq_getElem?_getD, List.getElem?_eq_getElem hpn]; exact List.getElem_mem hpn)
        refine wpAny_execs_cons (sAssign (n := "parts") (T := tList (tList tInt)) (x := (parts.take pn ++ [parts.getD pn [] ++ [(x : Int)]]) ++ parts.drop (pn + 1)) vp8.frm ?_ (.inl rfl) fun s₉ u₉ vp9 => ?_)
        · refine pListAdd ?_ (pListAdd ?_ ?_ (pList (.cons (pCall2 G V m_concat n_concat (C8.less (by decide)) (by rfl) (pItemList (n := (pn : Int)) vp8.pv vpl8.pv (by omega) hget (by omega) (fun _ _ => sub_name _ _ _ _)) (one (vs6.kp k6) _ _) (f_concat_list G _ _ (by show _ + 1 ≤ _; omega))) (fun _ => by rfl) .nil) (by show 1 ≤ _; omega))) ?_
          · rw [List.length_append, List.length_take, List.length_drop]; show min pn parts.length + 1 + _ ≤ _; omega
          · rw [List.length_take]; show min pn parts.length + 1 ≤ _; omega
          · refine pSliceList (a := none) (b := some (pn : Int)) (xs := parts) vp8.pv trivial vpl8.pv (by omega) fun vs F f => ?_
            rw [slicePick_upto']
            exact paired_take f pn
          · refine pSliceList (a := some ((pn : Int) + 1)) (b := none) (xs := parts) vp8.pv (pAdd vpl8.pv pInt) trivial (by omega) fun vs F f => ?_
            rw [show ((pn : Int) + 1) = ((pn + 1 : Nat) : Int) by omega, slicePick_from']
            exact paired_drop f (pn + 1)
        · refine wpAny_execs_nil (wpAny_execs_nil (wpAny_execs_nil ⟨(S6.trans k6.stp).trans u₉.stp, ?_, (vw6.kp k6).up u₉, (vr6.kp k6).up u₉, Nat.le_trans tok6 (Nat.le_trans k6.tok u₉.stp.tok)⟩))
          rw [hnx _ ((if_neg hd).trans (if_pos hg)), Int.toNat_natCast, e1]
          exact vp9
      · have hg := of_decide_eq_false hg
        have k6 := k₇.trans k₈
        refine wpAny_execs_nil (wpAny_execs_nil (wpAny_execs_nil ⟨S6.trans k6.stp, ?_, vw6.kp k6, vr6.kp k6, Nat.le_trans tok6 k6.tok⟩))
        rw [hnx _ ((if_neg hd).trans (if_neg hg))]
        exact vp6.kp k6
  · obtain ⟨vp3, vw3, vr3, tok3⟩ := hI
    rw [List.length_range] at vp3
    have C3 := C2.stp stp
    obtain ⟨pb1, pb2⟩ := found_bound word (row.cps.toList.map chr1) word.length
    refine wpAny_execs_nil (sRet (u₂.stp.trans stp) ?_)
    have e : foundL word row = ((foundParts word (row.cps.toList.map chr1) word.length).filter fun p => (p.length : Int) == (row.length : Int)).map id := (List.map_id _).symm
    rw [e]
    generalize foundParts word (row.cps.toList.map chr1) word.length = parts at vp3 pb1 pb2
    refine pComp (T' := tList tInt) (xs := parts) (f := id) (cl := [(Str.ofString "row", L + 1)]) (PP := fun s x v _ => (tList tInt).at s.heap v x) C3.st (by omega) (by rfl) (by decide) rfl (by decide) fun s₈ k₈ => ?_
    have C8 := C3.kp k₈
    refine compTgt (ns := [Str.ofString "part"]) (R := fun x cenv s => Var hb cenv "part" (tList tInt) x s ∧ ∃ v m cm, (tList tInt).at s₈.heap v x ∧ Frm hb cenv m cm s ∧ m "part" = some v) (vp3.frm.kp k₈) C8.st rfl (cl1a (by rfl)) (List.pairwise_singleton _ _) (cl1b (by rfl)) ?_ (srcList C8.hand (listAt_var (vp3.kp k₈)) (fun _ _ => rfl)) (fun y v s₃ Cc h lp F₃ => ?_) fun j y Cc s₇ hy k₇ F₇ S₇ r₇ => ⟨.one ?_, fun _ => ?_⟩
    · intro Cc n hn
      rw [List.mem_singleton.mp hn]; rfl
    · intro Q E q
      refine asgNameV F₃ (by rfl) (lp_at h lp) Q E fun s' a ⟨r1, m, cm, r2, r3⟩ => q s' a ⟨r1, v, m, cm, h, r2, r3⟩
    · have hyl := pb2 y (List.mem_of_getElem? hy)
      exact ptEq (pLenList G ⟨rfl, rfl, rfl⟩ (C8.kp k₇).st (by rfl) r₇.1.pv (by omega)) (pLenStr G ⟨rfl, rfl, rfl⟩ (C8.kp k₇).st (by rfl) (S₇.var (vr3.kp k₈) rfl rfl (by rfl)).pv (by omega))
    · obtain ⟨_, v, m, cm, r1, r2, r3⟩ := r₇
      exact eltVar r2 (by rfl) r3 r1 fun b o e => k₇.ext.stay b o id e
end
end
end Mine
end

section
open PySem PySem.W PyProof.Rows PySem.Calls
open Builtin.Str (glued)
set_option maxRecDepth 100000
set_option maxHeartbeats 400000
namespace Mine
noncomputable section
/-- a list, be it written or handed over -/
def tListW {α : Type} (T : Ty α) : Ty (List α) where
  R ok h v l := ∃ a xs, v = .ref a ∧ ok a ∧ h.IsList a (List.toArray xs) ∧ Paired (T.R ok h) xs l
  stab := by
    rintro ok h h' v x ⟨a, xs, e, o, l, f⟩ k
    exact ⟨a, xs, e, o, l.at fun o' e => k _ _ o e, paired_imp (fun _ _ r => T.stab r k) f⟩
  seq := by
    rintro ok h v x ⟨a, xs, e, o, l, f⟩
    refine ⟨a, xs, e, ⟨o, ?_⟩, l, paired_imp (fun _ _ r => T.seq r) f⟩
    obtain ⟨ob, e1, ec, n, e2⟩ := l
    exact ⟨ob, _, n, e1, e2, fun ⟨_, _, q⟩ => by rw [e2] at q; cases q⟩
  mono := by
    rintro ok ok' h v x ⟨a, xs, e, o, l, f⟩ k
    exact ⟨a, xs, e, k _ o, l, paired_imp (fun _ _ r => T.mono r k) f⟩
def pickL {α : Type} (xs : List α) (lo hi st : Option Int) : List α := (sliceRange (sliceBounds lo hi st xs.length).1 (sliceBounds lo hi st xs.length).2.1 (sliceBounds lo hi st xs.length).2.2).filterMap (xs[·]?)
theorem paired_pick {α : Type} {F : Value → α → Prop} {vs : List Value} {xs : List α} (f : Paired F vs xs) (lo hi st : Option Int) : Paired F (slicePick vs.toArray lo hi st).toList (pickL xs lo hi st) := by
  have hl := paired_len f
  unfold slicePick pickL
  rw [List.size_toArray, hl, List.toList_toArray]
  generalize sliceRange _ _ _ = is
  induction is with
  | nil => exact .nil
  | cons i is ih =>
    rw [List.filterMap_cons, List.filterMap_cons]
    cases hx : xs[i]? with
    | none =>
      have : vs.toArray[i]? = none := by
        rw [List.getElem?_eq_none_iff] at hx
        simp only [List.getElem?_toArray]
        exact List.getElem?_eq_none_iff.mpr (by omega)
      rw [this]; exact ih
    | some x =>
      obtain ⟨v, hv, r⟩ := paired_get f hx
      have : vs.toArray[i]? = some v := by simpa using hv
      rw [this]; exact .cons r ih
section
variable {w : World} {hb : Heap} {mg mb : Str → Option Value} {A : Around} {s : Shared} {k : Nat} {env : Env}
theorem pListW {α : Type} {T : Ty α} {e : PySem.Expr} {xs : List α} {M : Model} (h : Pv hb M A env s e (tList T) xs) : Pv hb M A env s e (tListW T) xs :=
  ⟨fun s' k Q E q => h.run s' k Q E fun v s'' k r => q v s'' k (let ⟨a, vs, e, o, l, f⟩ := r; ⟨a, vs, e, o, l.isList, f⟩)⟩
def PartOk (hb : Heap) (w : World) (A : Around) (env : Env) (s : Shared) : Option PySem.Expr → Option Int → Prop
  | .none, .none => True
  | some l, some a => Pv hb (model p w) A env s l tInt a
  | _, _ => False
theorem PartOk.go {o : Option PySem.Expr} {c : Option Int} {s₁ : Shared} {Q : Value → Shared → Prop} {E : Value → Shared → Prop} (hh : PartOk hb w A env s o c) (k₁ : Kp hb s s₁) (q : ∀ v s'', Kp hb s₁ s'' → IsPart v c → Q v s'') : wpAny (model p w) A (evalPart o env) Q E s₁ := by
  cases o with
  | none =>
    cases c with
    | none => exact wpAny_pure (q _ _ Kp.rfl .none)
    | some c => exact hh.elim
  | some o =>
    cases c with
    | none => exact hh.elim
    | some c =>
      rw [evalPart_some]
      refine Pv.run (hb := hb) hh s₁ k₁ _ _ fun v s₂ k₂ r => q v s₂ k₂ ?_
      obtain ⟨t, rfl⟩ := r
      exact .int _ _
theorem slice_end {α : Type} {T : Ty α} {s₃ : Shared} {vl vu vt : Value} {ys : List α} {items : Array Value} {Q : Value → Shared → Prop} {s' : Shared} (k : Kp hb s' s₃) (f : Paired (T.R (fun _ => True) s₃.heap) items.toList ys) (q : ∀ v s'', Kp hb s' s'' → (tList T).at s''.heap v ys → Q v s'') :
    Q (.ref (s₃.heap.objs.size + 1)) { s₃ with heap := (s₃.heap.push { cls := .type "slice", data := .fields #[vl, vu, vt] }).push { cls := .type "list", data := .seq items } } := by
  have up : ∀ b' o, s₃.heap.get? b' = some o → ((s₃.heap.push { cls := .type "slice", data := .fields #[vl, vu, vt] }).push { cls := .type "list", data := .seq items }).get? b' = some o := fun b o e => Heap.get?_push_of_some _ (Heap.get?_push_of_some _ e)
  refine q _ _ (k.trans (Kp.mkH up)) ⟨_, items.toList, rfl, trivial, ⟨0, ?_⟩, paired_ext (hb := hb) f (.of up)⟩
  rw [Array.toArray_toList]
  rw [← Heap.size_push s₃.heap { cls := .type "slice", data := .fields #[vl, vu, vt] }]
  exact Heap.get?_push_size _ rfl
theorem pSliceW {α : Type} {T : Ty α} {pp pos : Pos} {e : PySem.Expr} {lo hi : Option PySem.Expr} {a b : Option Int} {xs : List α} (h : Pv hb (model p w) A env s e (tListW T) xs)
    (hlo : PartOk hb w A env s lo a) (hhi : PartOk hb w A env s hi b) (hsz : xs.length ≤ sizeLine) (ht : ∀ o r, letTemporaryGo e o r = pure () := by intro _ _; rfl) :
    Pv hb (model p w) A env s (.Subscript e (.Slice lo hi .none pp) pos) (tList T) (pickL xs a b none) := by
  refine ⟨fun s' kp Q E q => ?_⟩
  refine wpAny_Subscript_list_slice (h.run s' kp _ _ fun v s₁ k₁ r => ?_) ht
  refine hlo.go (kp.trans k₁) fun vl s₂ k₂ pl => ?_
  refine hhi.go ((kp.trans k₁).trans k₂) fun vu s₃ k₃ pu => ?_
  obtain ⟨l, vs, rfl, _, il, f⟩ := Ty.at_ext (Ty.at_ext r k₂.ext) k₃.ext
  refine ⟨l, vs.toArray, a, b, rfl, il, by rw [List.size_toArray, paired_len f]; exact hsz, pl, pu, ?_⟩
  exact slice_end ((k₁.trans k₂).trans k₃) (paired_pick f a b none) q
theorem pSliceStep {α : Type} {T : Ty α} {pp pos : Pos} {e st : PySem.Expr} {lo hi : Option PySem.Expr} {a b : Option Int} {c : Int} {xs : List α} (h : Pv hb (model p w) A env s e (tListW T) xs)
    (hlo : PartOk hb w A env s lo a) (hhi : PartOk hb w A env s hi b) (hst : Pv hb (model p w) A env s st tInt c) (hc : c ≠ 0) (hsz : xs.length ≤ sizeLine) (ht : ∀ o r, letTemporaryGo e o r = pure () := by intro _ _; rfl) :
    Pv hb (model p w) A env s (.Subscript e (.Slice lo hi (some st) pp) pos) (tList T) (pickL xs a b (some c)) := by
  refine ⟨fun s' kp Q E q => ?_⟩
  refine wpAny_Subscript_Slice_step (T := "list") list_getitem_lookup (h.run s' kp _ _ fun v s₁ k₁ r => wpAny_Slice (hlo.go (kp.trans k₁) fun vl s₂ k₂ pl => hhi.go ((kp.trans k₁).trans k₂) fun vu s₃ k₃ pu => PartOk.go (c := some c) (s := s) hst (((kp.trans k₁).trans k₂).trans k₃) fun vt s₄ k₄ pt => ?_)) ht
  obtain ⟨l, vs, rfl, _, il, f⟩ := Ty.at_ext (Ty.at_ext (Ty.at_ext r k₂.ext) k₃.ext) k₄.ext
  refine ⟨(il.push _).typeIs, wpAny_getItem_list_slice (il.push _) (Heap.IsSliceOf.new ..) pl pu pt (fun q => hc (Option.some.inj q)) ?_ (by rw [List.size_toArray, paired_len f]; exact hsz)⟩
  rw [Heap.size_push]
  exact slice_end (((k₁.trans k₂).trans k₃).trans k₄) (paired_pick f a b (some c)) q
theorem pSum {e : PySem.Expr} {xs : List Int} {fp pos : Pos} (hh : A.handled = none) (G : Gnd w hb mg mb) (V : EnvG env) (st : hb.StaysIn s.heap) (hx : env.kindOf "sum" = some .globalImplicit) (h : Pv hb (model p w) A env s e (tList tInt) xs)
    (he : ∀ _ : PySem.Expr, eval (.Call (.Name "sum" fp) [e] [] pos) env = (do callWith pos (← eval (.Name "sum" fp) env) [] (backTo pos (starEach [e] env)) (backToKw pos (keywordEach [] env))) := by intro _; rfl)
    (hs : starEach [e] env = (false, eval e env) :: starEach [] env := by rfl) : Pv hb (model p w) A env s (.Call (.Name "sum" fp) [e] [] pos) tInt xs.sum := by
  refine pB1 G V st (G.none (by kernel_rfl)) (G.bu (by decide) boot_sum) hx h ?_ (by decide) he hs
  rintro s' v Q E k ⟨a, vs, rfl, _, pl, f⟩ q
  have l := pl.isList
  have hlt : a < s'.heap.objs.size := let ⟨_, e, _⟩ := l; Heap.lt_size e
  refine wpAny_with_toks (n := s'.toks) (Nat.le_refl _) (call_sum_walkG (wpAny_pyIter_list l ⟨s'.heap.objs.size, [s'.heap.objs.size, a], [s'.heap.objs.size], _, _, _, fun i => xs.getD i 0, rfl, Walks.list (A := A.in1) hh s'.heap.objs.size a (Nat.ne_of_lt hlt) vs.toArray, ⟨⟨_, Heap.get?_push_size _ rfl, rfl, rfl⟩, l.push _⟩, ?_, ?_, fun h' tk t' hk htk => ?_⟩))
  · intro b hb
    simp only [List.mem_cons, List.not_mem_nil, or_false] at hb
    show b < (s'.heap.push _).objs.size
    rw [Heap.size_push]
    rcases hb with rfl | rfl
    · exact Nat.lt_succ_self _
    · exact Nat.lt_succ_of_lt hlt
  · intro i v hv
    have hv : vs[i]? = some v := by simpa using hv
    have hi : i < xs.length := by rw [← paired_len f]; exact (List.getElem?_eq_some_iff.mp hv).1
    obtain ⟨v', hv', t, e⟩ := paired_get f (List.getElem?_eq_getElem hi)
    rw [hv] at hv'; cases hv'
    refine ⟨t, e.trans ?_⟩
    show Value.int xs[i] t = Value.int (xs.getD i 0) t
    rw [List.getD_eq_getElem?_getD, List.getElem?_eq_getElem hi]; rfl
  · rw [preSum_getD, List.size_toArray, paired_len f, List.take_length]
    exact q _ _ (Kp.mk' (s := s') htk fun b o e => hk b o (fun m => Nat.ne_of_lt (Heap.lt_size e) (List.mem_singleton.mp m)) (Heap.get?_push_of_some _ e)) ⟨t', rfl⟩
end
end
end Mine
end

section
open PySem PySem.W PyProof.Rows PySem.Calls
open Builtin.Str (glued strSliceIndices)
set_option maxRecDepth 100000
set_option maxHeartbeats 400000
namespace Mine
noncomputable section
section
variable {w : World} {hb : Heap} {mg mb : Str → Option Value} {A : Around} {s : Shared} {k : Nat} {env : Env}
theorem pIntCall {x : Int} {e : PySem.Expr} {fp pos : Pos} (G : Gnd w hb mg mb) (V : EnvG env) (st : hb.StaysIn s.heap) (hx : env.kindOf "int" = some .globalImplicit) (h : Pv hb (model p w) A env s e tInt x)
    (he : ∀ _ : PySem.Expr, eval (.Call (.Name "int" fp) [e] [] pos) env = (do callWith pos (← eval (.Name "int" fp) env) [] (backTo pos (starEach [e] env)) (backToKw pos (keywordEach [] env))) := by intro _; rfl)
    (hs : starEach [e] env = (false, eval e env) :: starEach [] env := by rfl) : Pv hb (model p w) A env s (.Call (.Name "int" fp) [e] [] pos) tInt x := by
  refine ⟨fun s' kp Q E q => ?_⟩
  refine Call_ (ld_builtin (v := .type "int") G (kp.ext.base st) V.kind V.glob V.built hx (G.none (by kernel_rfl)) (G.bu (by decide) boot_int) (by decide) ?_) (he e)
  refine callType1 (args_cons (h.run s' kp _ _ fun v s₁ k₁ r => args_nil ?_) hs) hs rfl
  obtain ⟨t, rfl⟩ := r
  exact call_int_int (q _ _ k₁ ⟨_, rfl⟩)
theorem pPow {x y : Int} {l r : PySem.Expr} {pos : Pos} (h0 : 0 ≤ y) (h1 : y ≤ 1000000) (h2 : x.natAbs < 2 ^ 64) (hl : Pv hb (model p w) A env s l tInt x) (hr : Pv hb (model p w) A env s r tInt y) : Pv hb (model p w) A env s (.BinOp l .Pow r pos) tInt (x ^ y.toNat) :=
  pBin hl hr fun s' _ _ Q E _ ⟨_, h1'⟩ ⟨_, h2'⟩ q => by subst h1'; subst h2'; exact pow_int_small h0 h1 h2 (q _ _ Kp.tk ⟨_, rfl⟩)
theorem part_str {v : Value} {c : Option Int} (h : IsPart v c) : ∃ l, v = partValue l ∧ l.map (·.1) = c := by
  cases h with
  | none => exact ⟨none, rfl, rfl⟩
  | int i t => exact ⟨some (i, t), rfl, rfl⟩
theorem pSliceStr {pp pos : Pos} {e : PySem.Expr} {lo hi : Option PySem.Expr} {a b : Option Int} {x : Str} (h : Pv hb (model p w) A env s e tStr x)
    (hlo : PartOk hb w A env s lo a) (hhi : PartOk hb w A env s hi b) (hsz : x.length ≤ sizeLine) :
    Pv hb (model p w) A env s (.Subscript e (.Slice lo hi .none pp) pos) tStr (Txt.slice x a b) := by
  refine ⟨fun s' kp Q E q => ?_⟩
  refine Subscript_ (h.run s' kp _ _ fun v s₁ k₁ r => wpAny_Slice ?_)
  refine hlo.go (kp.trans k₁) fun vl s₂ k₂ pl => ?_
  refine hhi.go ((kp.trans k₁).trans k₂) fun vu s₃ k₃ pu => ?_
  rw [evalPart_none]
  refine wpAny_pure ?_
  obtain ⟨t, rfl⟩ := r
  obtain ⟨l, rfl, el⟩ := part_str pl
  obtain ⟨u, rfl, eu⟩ := part_str pu
  refine tail_any (ops := [.ref s₃.heap.objs.size, .str x t]) (typeIs_str _ _ _) slot_str_getitem.lookup (wpAny_getItem_str_slice (l := l) (u := u) (st := none) ⟨_, Heap.get?_push_size _ rfl, rfl, rfl⟩ rfl ?_) (by rfl)
  have K : Kp hb s' { s₃ with heap := s₃.heap.push { cls := .type "slice", data := .fields #[partValue l, partValue u, .none] } } := ((k₁.trans k₂).trans k₃).trans (Kp.mkH fun b o e => Heap.get?_push_of_some _ e)
  unfold sliceMade slicePicked
  rw [el, eu]
  have hle := Txt.slice_le x a b
  have q' : ∀ v' s'', Kp hb s' s'' → tStr.at s''.heap v' (Txt.slice x a b) → Q v' s'' := q
  unfold Txt.slice at hle q'
  by_cases hc : (((1 : Int) == 1 && (strSliceIndices a b 1 x.length).length == x.length) = true)
  · rw [if_pos hc] at q'
    rw [if_pos (by exact hc)]
    exact q' _ _ K ⟨t, rfl⟩
  · rw [if_neg hc] at q' hle
    rw [if_neg (by exact hc)]
    exact ⟨Nat.le_trans hle hsz, q' _ _ (K.trans Kp.tk) ⟨_, rfl⟩⟩
theorem pStrItem {pos : Pos} {e i : PySem.Expr} {x : Str} {n : Int} {c : Nat} (h : Pv hb (model p w) A env s e tStr x) (hi : Pv hb (model p w) A env s i tInt n) (h0 : 0 ≤ n) (hx : x.cps[n.toNat]? = some c) (hfit : n < 2 ^ 63)
    (hs : ∀ y t u, subscripted i false (.str y t) (.int n u) = operate [.str y t, .int n u] (getItem (.str y t) (.int n u)) := by intro _ _ _; rfl) :
    Pv hb (model p w) A env s (.Subscript e i pos) tStr (chr1 c) := by
  refine ⟨fun s' kp Q E q => ?_⟩
  refine Subscript_ (h.run s' kp _ _ fun v s₁ k₁ r => ?_)
  refine hi.run s₁ (kp.trans k₁) _ _ fun u s₂ k₂ r' => ?_
  obtain ⟨t, rfl⟩ := r
  obtain ⟨t', rfl⟩ := r'
  refine tail_any (typeIs_str _ _ _) slot_str_getitem.lookup (getItem_str (c := c) ?_ ?_ (q _ _ ((k₁.trans k₂).trans Kp.tk) ⟨_, rfl⟩)) (hs _ _ _)
  · simp only [Bool.or_eq_false_iff, decide_eq_false_iff_not]; omega
  · obtain ⟨m, rfl⟩ := Int.eq_ofNat_of_zero_le h0
    have hl : m < x.cps.size := by simpa using (Array.getElem?_eq_some_iff.mp hx).1
    unfold seqIndex?
    have hm : ¬ ((m : Int) < 0) := by omega
    simp only [if_neg hm]
    rw [if_pos (by simp [Str.length]; exact hl)]
    simpa using hx
theorem pJoinStr {sep x : Str} {e : PySem.Expr} {kk : Nat} {np ap pos : Pos} (hh : A.handled = none) (h : Pv hb (model p w) A env s e tStr x) (hok : JoinOk sep (PyProof.Rows.signs x) = true)
    (he : ∃ pl : Sem Bool, eval (.Call (.Attribute (.Constant (.str sep) kk np) "join" ap) [e] [] pos) env = (do
      let ov ← eval (.Constant (.str sep) kk np) env
      standAt ap.atName
      let (f, first) ← holding [ov] (getMethod ov "join" pl)
      callWith pos f first (backTo pos (starEach [e] env)) []))
    (hs : starEach [e] env = (false, eval e env) :: starEach [] env := by rfl) :
    Pv hb (model p w) A env s (.Call (.Attribute (.Constant (.str sep) kk np) "join" ap) [e] [] pos) tStr (glued sep (x.cps.toList.map chr1)) := by
  refine ⟨fun s' kp Q E q => ?_⟩
  obtain ⟨pl, he⟩ := he
  refine MethodCall_ (pl := pl) ?_ he
  refine (pStr (i := sep) (k := kk) : Pv hb (model p w) A env s _ _ _).run s' kp _ _ fun v s₁ k₁ r => ?_
  obtain ⟨t, rfl⟩ := r
  refine getMethod_builtin (typeIs_str _ _ _) PySem.F.plainAttrs_str PySem.F.slot_str_join PySem.F.type_str_join (fun a ha => by cases ha) ?_
  refine callWith_method1 (args_cons (h.run s₁ (kp.trans k₁) _ _ fun v s₂ k₂ r => args_nil ?_) hs) hs
  obtain ⟨u, rfl⟩ := r
  show wpAny _ _ (call (.builtin "str.join") [.str sep t, .str x u]) Q E s₂
  refine wpAny_with_toks (n := s₂.toks) (Nat.le_refl _) (SC.joinStr hh hok fun h' tk t' up htk => ?_)
  exact q _ _ ((k₁.trans k₂).trans (Kp.mk' (s := s₂) htk up)) ⟨t', rfl⟩
theorem ptNeStr {x y : Str} {l r : PySem.Expr} {pos : Pos} (hl : Pv hb (model p w) A env s l tStr x) (hr : Pv hb (model p w) A env s r tStr y) (hm : behindInMarks .NotEq r = false := by with_unfolding_all rfl) : Pt hb (model p w) A env s (.Compare l [.NotEq] [r] pos) (x.cps.toList != y.cps.toList) :=
  ptCmp hl hr (fun s' _ _ Q E _ ⟨_, h1⟩ ⟨_, h2⟩ q => by subst h1; subst h2; exact P.ne_str (q _ Kp.rfl)) hm
theorem pEqInt {x y : Int} {l r : PySem.Expr} {pos : Pos} (hl : Pv hb (model p w) A env s l tInt x) (hr : Pv hb (model p w) A env s r tInt y) (hm : behindInMarks .Eq r = false := by with_unfolding_all rfl) : Pv hb (model p w) A env s (.Compare l [.Eq] [r] pos) tBool (x == y) :=
  pCmp hl hr (fun s' _ _ Q E _ ⟨_, h1⟩ ⟨_, h2⟩ q => by subst h1; subst h2; exact P.eq_int (q _ _ Kp.rfl rfl)) hm
/-- a name that is built in, as a value -/
def tVal (v : Value) : Ty Unit := ⟨fun _ _ u _ => u = v, fun r _ => r, fun r => r, fun r _ => r⟩
theorem pBName {f : Str} {v : Value} {fp : Pos} (G : Gnd w hb mg mb) (V : EnvG env) (st : hb.StaysIn s.heap) (hm : mg f = .none) (hbu : mb f = some v) (hx : env.kindOf f = some .globalImplicit) (hdb : (f == ("__debug__" : Str)) = false := by decide) : Pv hb (model p w) A env s (.Name f fp) (tVal v) () :=
  ⟨fun s' kp Q E q => ld_builtin G (kp.ext.base st) V.kind V.glob V.built hx hm hbu hdb (q _ _ Kp.rfl rfl)⟩
theorem pIsi {b : Bool} {e : PySem.Expr} {fp bp pos : Pos} (G : Gnd w hb mg mb) (V : EnvG env) (st : hb.StaysIn s.heap) (hx : env.kindOf "isinstance" = some .globalImplicit) (hx2 : env.kindOf "bool" = some .globalImplicit) (h : Pv hb (model p w) A env s e tBool b)
    (he : ∀ _ : PySem.Expr, eval (.Call (.Name "isinstance" fp) [e, .Name "bool" bp] [] pos) env = (do callWith pos (← eval (.Name "isinstance" fp) env) [] (backTo pos (starEach [e, .Name "bool" bp] env)) (backToKw pos (keywordEach [] env))) := by intro _; rfl)
    (hs : starEach [e, .Name "bool" bp] env = (false, eval e env) :: starEach [.Name "bool" bp] env := by rfl) : Pv hb (model p w) A env s (.Call (.Name "isinstance" fp) [e, .Name "bool" bp] [] pos) tBool true := by
  refine pB2 G V st (G.none (by kernel_rfl)) (G.bu (v := .builtin "isinstance") (by decide) boot_isinstance) hx h (pBName G V st (G.none (by kernel_rfl)) (G.bu (by decide) boot_bool) hx2) ?_ (by decide) he hs (by rfl)
  intro s' v u Q E k r r' q
  have r : v = .bool b := r
  have r' : u = .type "bool" := r'
  subst r; subst r'
  exact IsiPair.bool_bool (q _ _ Kp.rfl rfl)
def minL : List Int → Int
  | [] => 0
  | [x] => x
  | x :: y :: r => min x (minL (y :: r))
theorem minL_spec : ∀ {xs : List Int} {m : Int}, m ∈ xs → (∀ a ∈ xs, m ≤ a) → m = minL xs
  | [x], m, h, _ => List.mem_singleton.mp h
  | x :: y :: r, m, h, hle => by
    rw [minL]
    rcases List.mem_cons.mp h with e | hm
    · subst e
      have h1 : minL (y :: r) ∈ (y :: r) := by
        have : ∀ l : List Int, l ≠ [] → minL l ∈ l := by
          intro l
          induction l with
          | nil => intro h; exact absurd rfl h
          | cons a l ih =>
            intro _
            cases l with
            | nil => exact List.mem_singleton.mpr rfl
            | cons b l =>
              rw [minL]
              have := ih (by simp)
              rcases Int.le_total a (minL (b :: l)) with q | q
              · rw [Int.min_eq_left q]; exact List.mem_cons_self
              · rw [Int.min_eq_right q]; exact List.mem_cons_of_mem _ this
        exact this _ (by simp)
      rw [Int.min_eq_left (hle _ (List.mem_cons_of_mem _ h1))]
    · have e := minL_spec hm fun a ha => hle a (List.mem_cons_of_mem _ ha)
      rw [← e, Int.min_eq_right (hle x List.mem_cons_self)]
theorem ints_of {h : Heap} {ok : Addr → Prop} {vs : List Value} {xs : List Int} (H : Paired (tInt.R ok h) vs xs) : ∃ l : List (Int × Tok), vs = l.map (fun q => .int q.1 q.2) ∧ l.map (·.1) = xs := by
  induction H with
  | nil => exact ⟨[], rfl, rfl⟩
  | cons e r ih =>
    obtain ⟨t, rfl⟩ := e
    obtain ⟨l, rfl, rfl⟩ := ih
    exact ⟨(_, t) :: l, rfl, rfl⟩
theorem pMin {e : PySem.Expr} {xs : List Int} {fp pos : Pos} (hh : A.handled = none) (G : Gnd w hb mg mb) (V : EnvG env) (st : hb.StaysIn s.heap) (hne : 0 < xs.length) (hx : env.kindOf "min" = some .globalImplicit) (h : Pv hb (model p w) A env s e (tList tInt) xs)
    (he : ∀ _ : PySem.Expr, eval (.Call (.Name "min" fp) [e] [] pos) env = (do callWith pos (← eval (.Name "min" fp) env) [] (backTo pos (starEach [e] env)) (backToKw pos (keywordEach [] env))) := by intro _; rfl)
    (hs : starEach [e] env = (false, eval e env) :: starEach [] env := by rfl) : Pv hb (model p w) A env s (.Call (.Name "min" fp) [e] [] pos) tInt (minL xs) := by
  refine pB1 G V st (G.none (by kernel_rfl)) (G.bu (by decide) boot_min) hx h ?_ (by decide) he hs
  rintro s' v Q E k ⟨a, vs, rfl, _, pl, f⟩ q
  obtain ⟨ps, rfl, rfl⟩ := ints_of f
  have l := pl.isList
  have e1 : (ps.map (fun q => Value.int q.1 q.2)).toArray = intItems ps.toArray := by unfold intItems; simp
  rw [e1] at l
  refine wpAny_with_toks (n := s'.toks) (Nat.le_refl _) (min_intList hh l (by simpa using hne) fun v h' tk hv hk htk => ?_)
  obtain ⟨t, rfl⟩ := intItems_at hv
  obtain ⟨h1, h2⟩ := argBest_lt (numAt ps.toArray) (ps.toArray.size - 1)
  have na : ∀ i, i < ps.length → (ps.map (·.1))[i]? = some (numAt ps.toArray i) := fun i hi => by
    unfold numAt
    simp [hi]
  have hl : 0 < ps.length := by simpa using hne
  have hsz : ps.toArray.size = ps.length := List.size_toArray ..
  rw [hsz] at h1 h2 hv ⊢
  refine q _ _ (Kp.mk' (s := s') htk hk) ⟨t, ?_⟩
  congr 1
  refine minL_spec (List.mem_of_getElem? (na _ (by omega))) fun a ha => ?_
  obtain ⟨j, hj⟩ := List.mem_iff_getElem?.mp ha
  have hj' : j < ps.length := by
    have := (List.getElem?_eq_some_iff.mp hj).1
    simpa using this
  rw [na j hj'] at hj
  cases hj
  exact h2 j (by omega)
theorem ptList {α : Type} {T : Ty α} {x : List α} {e : PySem.Expr} (h : Pv hb (model p w) A env s e (tList T) x) (hfit : x.length ≤ 1000000) (he : ∀ whole, isTrue e env whole = (do let v ← whole; standAt e.pos; holding [v] (truthy v)) := by intro _; rfl) : Pt hb (model p w) A env s e (!x.isEmpty) :=
  ⟨fun s' kk Q E q => isTrue_plain (h.run s' kk _ _ fun v s₁ k₁ r => by
    obtain ⟨a, vs, rfl, _, pl, f⟩ := r
    have e1 := paired_len f
    refine wpAny_truthy_list pl.isList (by rw [List.size_toArray]; omega) ?_
    have e2 : vs.toArray.isEmpty = x.isEmpty := by
      cases f <;> rfl
    rw [e2]
    exact q _ (k₁.trans Kp.tk)) (he _)⟩
end
end
end Mine
end

section
open PySem PySem.W PyProof.Rows PySem.Calls
open Builtin.SmallTypes (nextOf)
set_option maxRecDepth 100000
set_option maxHeartbeats 1000000
namespace Mine
noncomputable section
section
variable {prog : Program} {w : World} {A : Around} {E : Value → Shared → Prop} {s : Shared}
theorem nextOf_tup {it t : Addr} {i : Nat} {items : Array Value} {x : Value} {Q : Value → Shared → Prop} (hit : s.heap.IsTupleIter it t i) (ht : s.heap.IsTuple t items) (hx : items[i]? = some x)
    (hQ : ∀ h', h'.IsTupleIter it t (i + 1) → Heap.SameBut it s.heap h' → Q x { s with heap := h' }) : wpAny (model prog w) A (nextOf (.ref it)) Q E s := by
  obtain ⟨o, e1, c1, d1⟩ := id hit
  obtain ⟨o2, e2, _, n2, d2⟩ := ht
  unfold nextOf
  refine wpAny_bind (wpAny_callSpecial?_slot (name := Str.ofString "__next__") hit.typeIs F.slot_tuple_iterator_next (wpAny_call_entry F.slot_tuple_iterator_next hit.typeIs F.entry_tuple_iterator_next ?_ (F.args_tuple_iterator_next_1 _)))
  show wpAny _ _ (field (.ref it) 0 >>= _) _ _ s
  refine wpAny_bind (wpAny_field e1 d1 (x := .ref t) rfl ?_)
  show wpAny _ _ (if (Value.ref t == Value.none) = true then _ else _) _ _ s
  rw [if_neg (show ¬ ((Value.ref t == Value.none) = true) from Bool.false_ne_true)]
  show wpAny _ _ (field (.ref it) 1 >>= _) _ _ s
  refine wpAny_bind (wpAny_field e1 d1 (x := .int i 0) rfl ?_)
  show wpAny _ _ (seqItems? (.ref t) >>= _) _ _ s
  refine wpAny_bind (wpAny_seqItems e2 d2 ?_)
  simp only [Int.toNat_natCast, hx]
  refine wpAny_bind (wpAny_setField e1 d1 (by simp) (wpAny_pure ⟨x, rfl, wpAny_pure (hQ _ ⟨_, Heap.get?_update_self _ e1 (Obj.isFreed_of_fields (Obj.data_mapFields d1 _)), (Obj.cls_mapFields ..).trans c1, ?_⟩ (Heap.SameBut.update ..))⟩))
  rw [Obj.data_mapFields d1]; simp [rawInt]
theorem nextOf_tupEnd {it t : Addr} {i : Nat} {items : Array Value} {Q : Value → Shared → Prop} (hh : A.handled = none) (hit : s.heap.IsTupleIter it t i) (ht : s.heap.IsTuple t items) (hx : items[i]? = none)
    (hE : ∀ h' e, Heap.ExtBut it s.heap h' → (∃ o, h'.get? e = some o ∧ o.cls = .type "StopIteration") → E (.ref e) { s with heap := h' }) : wpAny (model prog w) A (nextOf (.ref it)) Q E s := by
  obtain ⟨o, e1, c1, d1⟩ := id hit
  obtain ⟨o2, e2, _, n2, d2⟩ := ht
  unfold nextOf
  refine wpAny_bind (wpAny_callSpecial?_slot (name := Str.ofString "__next__") hit.typeIs F.slot_tuple_iterator_next (wpAny_call_entry F.slot_tuple_iterator_next hit.typeIs F.entry_tuple_iterator_next ?_ (F.args_tuple_iterator_next_1 _)))
  show wpAny _ _ (field (.ref it) 0 >>= _) _ _ s
  refine wpAny_bind (wpAny_field e1 d1 (x := .ref t) rfl ?_)
  show wpAny _ _ (if (Value.ref t == Value.none) = true then _ else _) _ _ s
  rw [if_neg (show ¬ ((Value.ref t == Value.none) = true) from Bool.false_ne_true)]
  show wpAny _ _ (field (.ref it) 1 >>= _) _ _ s
  refine wpAny_bind (wpAny_field e1 d1 (x := .int i 0) rfl ?_)
  show wpAny _ _ (seqItems? (.ref t) >>= _) _ _ s
  refine wpAny_bind (wpAny_seqItems e2 d2 ?_)
  simp only [Int.toNat_natCast, hx]
  refine wpAny_bind (wpAny_rule (wpAny_bind (wpAny_setField e1 d1 (by simp) ?_)))
  show wpAny _ _ (newExc (.type "StopIteration") [] >>= _) _ _ _
  refine wpAny_bind ?_
  simp only [newExc, newTuple]
  refine wpAny_bind (wpAny_newObj_type ?_ (by size_fits))
  refine wpAny_bind (m := firstArgMember _ _) (wpAny_of_eq (a := Value.none) (by first | rfl | (simp only [firstArgMember]; rfl)) ?_)
  refine wpAny_newObj_type ?_ (by size_fits)
  simp only [raiseNew]
  refine wpAny_bind (wpAny_handled ?_)
  first | rw [show A.in1.handled = none from hh] | rw [hh]
  refine wpAny_bind (wpAny_pure (wpAny_throw ?_))
  exact hE _ _ (((Heap.SameBut.update ..).extBut.push _).push _) ⟨_, Heap.get?_push_size _ rfl, rfl⟩
theorem drawsTup (hh : A.handled = none) (it t : Addr) (hne : t ≠ it) (items : Array Value) : Draws prog w A it [it, t] items.size (fun i v => items[i]? = some v) (fun i h => h.IsTupleIter it t i ∧ h.IsTuple t items) where
  live := fun _ _ st => let ⟨o, ho, _⟩ := st.1; ⟨o, ho⟩
  frame := fun _ _ _ st hk => ⟨st.1.at fun o e => hk it (by simp) o e, st.2.at fun o e => hk t (by simp) o e⟩
  item := fun i s Q E hi st hQ => nextOf_tup st.1 st.2 (x := items[i]) (by simp [hi]) fun h' hit' hs' => hQ _ h' s.toks (by simp [hi]) ⟨hit', st.2.extBut hs'.extBut hne⟩ hs'
  done := fun s Q E st hE => nextOf_tupEnd hh st.1 st.2 (by simp) hE
theorem meets_enumerate_tup (l : Addr) (items : Array Value) :
    Meets (Builtin.«enumerate.__new__» ⟨[.type "enumerate", .ref l], []⟩) (fun _ R s => s.heap.IsTuple l items ∧
      R (.ok (.ret (.ref (s.heap.push { cls := .type "tuple_iterator", data := .fields #[.ref l, .int 0 0] }).objs.size)))
        { s with heap := (s.heap.push { cls := .type "tuple_iterator", data := .fields #[.ref l, .int 0 0] }).push { cls := .type "enumerate", data := .fields #[.none, .bool false, .ref s.heap.objs.size, rawInt 0, .none, .none] } }) :=
  .of_wp fun prog w A R s h => by
    obtain ⟨hp, g, d, tk, os⟩ := s; obtain ⟨hL, h⟩ := h
    have hsub := sub_enumerate
    have hL : Heap.IsTuple (Shared.heap ⟨hp, g, d, tk, os⟩) l items := hL
    obtain ⟨ob, hob, hcl, nn, hdd⟩ := id hL
    have hob : hp.get? l = some ob := hob
    wp_walk using wpAny_load' hob
    refine wpAny_stack_any fun st => wpAny_pure ?_
    split
    · rename_i c _ _ _ _ _
      cases (c == Value.type "enumerate")
      · wp_walk using wpAny_load' hob, wpAny_pyIter_tuple hL
        exact ⟨_, rfl, h⟩
      · wp_walk using wpAny_load' hob, wpAny_pyIter_tuple hL
        exact ⟨_, rfl, h⟩
    · wp_walk using wpAny_load' hob, wpAny_pyIter_tuple hL
      exact ⟨_, rfl, h⟩
end
end
end Mine
end

section
open PySem PySem.W PyProof.Rows PySem.Calls
set_option maxRecDepth 100000
set_option maxHeartbeats 400000
namespace Mine
noncomputable section
section
variable {w : World} {hb : Heap} {mg mb : Str → Option Value} {A : Around} {s : Shared} {k : Nat} {env : Env} {E : Value → Shared → Prop}
theorem call_enum_tup {l : Addr} {items : Array Value} {Q : Value → Shared → Prop} (hL : s.heap.IsTuple l items)
    (h : ∀ h', IsEnum h' (s.heap.objs.size + 1) s.heap.objs.size 0 .none → h'.IsTupleIter s.heap.objs.size l 0 → h'.objs.size = s.heap.objs.size + 2 →
      (∀ b o, s.heap.get? b = some o → h'.get? b = some o) → Q (.ref (s.heap.objs.size + 1)) { s with heap := h' }) :
    wpAny (model p w) A (call (.type "enumerate") [.ref l]) Q E s := by
  refine callType_new F.called_enumerate (by decide) (F.typeCall_enumerate_1 _) (F.newCall_enumerate_1 _) (fun obj => F.args_object_init_2 obj _) F.entry_enumerate_new
    (meets_enumerate_tup l items) ⟨hL, ?_⟩
  have hz : (s.heap.push { cls := .type "tuple_iterator", data := .fields #[.ref l, .int 0 0] }).objs.size = s.heap.objs.size + 1 := Heap.size_push ..
  show _ ∧ _
  rw [hz]
  have he : IsEnum ((s.heap.push { cls := .type "tuple_iterator", data := .fields #[.ref l, .int 0 0] }).push
      { cls := .type "enumerate", data := .fields #[.none, .bool false, .ref s.heap.objs.size, rawInt 0, .none, .none] }) (s.heap.objs.size + 1) s.heap.objs.size 0 .none := by
    have := Heap.get?_push_size (s.heap.push { cls := .type "tuple_iterator", data := .fields #[.ref l, .int 0 0] })
      (o := { cls := .type "enumerate", data := .fields #[.none, .bool false, .ref s.heap.objs.size, rawInt 0, .none, .none] }) rfl
    rw [hz] at this; exact this
  exact ⟨⟨_, he, rfl⟩, h _ he ⟨_, Heap.get?_push_of_some _ (Heap.get?_push_size _ rfl), rfl, rfl⟩ (by rw [Heap.size_push, hz]) fun b o x => Heap.get?_push_of_some _ (Heap.get?_push_of_some _ x)⟩

def PPt (p : Int × Nat) (v : Value) (h : Heap) : Prop := ∃ T t u, v = .ref T ∧ h.IsTuple T #[.int p.2 t, .int p.1 u]
theorem srcEnumTup {xs : List Int} {elts : List PySem.Expr} {x1 : Nat} {tp fp cp : Pos} {e : PySem.Expr} (hh : A.handled = none) (G : Gnd w hb mg mb) (V : EnvG env) (st : hb.StaysIn s.heap) (hx : env.kindOf "enumerate" = some .globalImplicit)
    (h : Pv hb (model p w) A env s e (tTup tInt) xs)
    (he : ∀ _ : PySem.Expr, eval (.Call (.Name "enumerate" fp) [e] [] cp) env = (do callWith cp (← eval (.Name "enumerate" fp) env) [] (backTo cp (starEach [e] env)) (backToKw cp (keywordEach [] env))) := by intro _; rfl)
    (hs : starEach [e] env = (false, eval e env) :: starEach [] env := by rfl) :
    SrcOf hb w A env (.Tuple elts x1 tp) (.Call (.Name "enumerate" fp) [e] [] cp) s xs.zipIdx PPt := by
  intro Q E q
  refine Call_ (ld_builtin (v := .type "enumerate") G st V.kind V.glob V.built hx (G.none (by kernel_rfl)) (G.bu (by decide) boot_enumerate) (by decide) ?_) (he e)
  refine callType1 (args_cons (h.go fun v s₁ k₁ r => args_nil ?_) hs) hs rfl
  obtain ⟨a, vs, rfl, _, l, f⟩ := r
  refine call_enum_tup l fun h' hen hit hsz up => ?_
  refine wpAny_pyIter_enum hen (q _ _ ⟨k₁.trans (Kp.mkH up), ?_⟩)
  have hlt : a < s₁.heap.objs.size := let ⟨_, e, _⟩ := l; Heap.lt_size e
  have hlen := paired_len f
  have D := drawsTup (prog := p) (w := w) (A := A.in1) hh s₁.heap.objs.size a (Nat.ne_of_lt hlt) vs.toArray
  have W := KTurns.ofWalksU (elts := elts) (k := x1) (pos := tp) (WalksT.toU (WalksT.enumerateD D (s₁.heap.objs.size + 1) (Nat.succ_ne_self _) (by
    intro m
    simp only [List.mem_cons, List.not_mem_nil, or_false] at m
    rcases m with m | m
    · exact Nat.succ_ne_self _ m
    · exact Nat.ne_of_lt (Nat.lt_succ_of_lt hlt) m.symm) (by simp)))
  rw [show vs.toArray.size = xs.zipIdx.length by rw [List.length_zipIdx]; exact (List.size_toArray ..).trans hlen] at W
  refine ⟨_, _, _, _, _, _, rfl, W, ?_, ?_, ?_, ?_, ?_, ?_⟩
  · rintro i h ⟨⟨old, he⟩, ⟨o, e1, c1, d1⟩, ⟨o2, e2, c2, n2, d2⟩⟩ b hbf
    simp only [List.mem_cons, List.not_mem_nil, or_false] at hbf
    rcases hbf with rfl | rfl | rfl
    · exact ⟨_, he, fun ⟨_, _, q⟩ => (by cases q), fun _ ⟨_, _, q⟩ => (by cases q)⟩
    · exact ⟨o, e1, fun ⟨_, _, q⟩ => (by rw [d1] at q; cases q), fun _ ⟨_, _, q⟩ => (by rw [d1] at q; cases q)⟩
    · exact ⟨o2, e2, fun ⟨_, _, q⟩ => (by rw [d2] at q; cases q), fun _ ⟨_, _, q⟩ => (by rw [d2] at q; cases q)⟩
  · intro b hbw
    simp only [List.mem_cons, List.not_mem_nil, or_false] at hbw
    rcases hbw with rfl | rfl
    · exact none_of_kp k₁ (Nat.le_succ _)
    · exact none_of_kp k₁ (Nat.le_refl _)
  · intro b hbf
    simp only [List.mem_cons, List.not_mem_nil, or_false] at hbf
    show b < h'.objs.size
    rw [hsz]
    rcases hbf with rfl | rfl | rfl
    · exact Nat.lt_succ_self _
    · exact Nat.lt_succ_of_lt (Nat.lt_succ_self _)
    · exact Nat.lt_succ_of_lt (Nat.lt_succ_of_lt hlt)
  · exact ⟨⟨_, hen⟩, hit, l.at fun o e => up _ o e⟩
  · rintro i ⟨x, j⟩ v h hx ⟨T, vals, rfl, ⟨t, u, hu, rfl⟩, hT⟩
    rw [List.getElem?_zipIdx] at hx
    cases hxi : xs[i]? with
    | none => rw [hxi] at hx; cases hx
    | some x' =>
      rw [hxi] at hx
      have hx : (x', 0 + i) = (x, j) := Option.some.inj hx
      rw [Nat.zero_add] at hx
      cases hx
      obtain ⟨v', hv', t', r⟩ := paired_get f hxi
      have : some u = some v' := by rw [← hv', ← hu]; simp
      cases this
      subst r
      exact ⟨T, t, t', rfl, hT⟩
  · exact fun i s' Q E st hq => (WalksT.enumerateD D (s₁.heap.objs.size + 1) (Nat.succ_ne_self _) (by
      intro m
      simp only [List.mem_cons, List.not_mem_nil, or_false] at m
      rcases m with m | m
      · exact Nat.succ_ne_self _ m
      · exact Nat.ne_of_lt (Nat.lt_succ_of_lt hlt) m.symm) (by simp)).self i s' Q E st hq

theorem zipAp (N a a' : Nat) (h : a < N) (h' : a' < N) : ZipApart (N + 4) (N + 2) (N + 3) N (N + 1) a a' := by
  have ne : ∀ x y : Nat, x ≠ y → (x : Addr) ≠ (y : Addr) := fun _ _ h => h
  constructor <;> apply ne <;> omega
theorem zipLt (N a a' b : Nat) (h : a < N) (h' : a' < N) (hb : b = N + 4 ∨ b = N + 2 ∨ b = N + 3 ∨ b = N ∨ b = N + 1 ∨ b = a ∨ b = a') : b < N + 5 := by omega
theorem zipGe (N b : Nat) (hb : b = N + 4 ∨ b = N + 3 ∨ b = N ∨ b = N + 1) : N ≤ b := by omega
def PPz {α β : Type} (T : Ty α) (S : Ty β) (h₀ : Heap) (p : α × β) (v : Value) (h : Heap) : Prop := ∃ a u u', v = .ref a ∧ h.IsTuple a #[u, u'] ∧ T.at h₀ u p.1 ∧ S.at h₀ u' p.2
theorem srcZip {α β : Type} {T : Ty α} {S : Ty β} {xs : List α} {ys : List β} {elts : List PySem.Expr} {x1 : Nat} {tp fp cp : Pos} {e e' : PySem.Expr} (hh : A.handled = none) (G : Gnd w hb mg mb) (V : EnvG env) (st : hb.StaysIn s.heap) (hx : env.kindOf "zip" = some .globalImplicit)
    (hlen : xs.length = ys.length) (h : ListAt hb w A env s e T xs) (h' : ∀ s', Kp hb s s' → ListAt hb w A env s' e' S ys)
    (hS : S.Flat)
    (he : ∀ _ : PySem.Expr, eval (.Call (.Name "zip" fp) [e, e'] [] cp) env = (do callWith cp (← eval (.Name "zip" fp) env) [] (backTo cp (starEach [e, e'] env)) (backToKw cp (keywordEach [] env))) := by intro _; rfl)
    (hs : starEach [e, e'] env = (false, eval e env) :: starEach [e'] env := by rfl) (hs' : starEach [e'] env = (false, eval e' env) :: starEach [] env := by rfl) :
    SrcOf hb w A env (.Tuple elts x1 tp) (.Call (.Name "zip" fp) [e, e'] [] cp) s (xs.zip ys) (PPz T S s.heap) := by
  intro Q E q
  refine Call_ (ld_builtin (v := .type "zip") G st V.kind V.glob V.built hx (G.none (by kernel_rfl)) (G.bu (by decide) boot_zip) (by decide) ?_) (he e)
  refine callType1 (args_cons (h _ _ fun a vs s₁ k₁ l f => args_cons (h' s₁ k₁ _ _ fun a' vs' s₂ k₂ l' f' => args_nil ?_) hs') hs) hs (by rw [hs']; rfl)
  have l2 : s₂.heap.IsList a vs.toArray := by
    obtain ⟨o, e1, c1, n1, d1⟩ := l
    exact ⟨o, (k₂.ext.stay a o id e1).get fun ⟨_, _, q⟩ => (by rw [d1] at q; cases q), c1, n1, d1⟩
  have k := k₁.trans k₂
  refine call_zip_2 l2 l' fun h3 hz hTI hTO h1 h2 hsz up => ?_
  refine wpAny_pyIter_zip hz (q _ _ ⟨k.trans (Kp.mkH up), ?_⟩)
  have n1 : a < s₂.heap.objs.size := let ⟨_, e, _⟩ := l2; Heap.lt_size e
  have n2 : a' < s₂.heap.objs.size := let ⟨_, e, _⟩ := l'; Heap.lt_size e
  generalize hN : s₂.heap.objs.size = N at hz hTI hTO h1 h2 hsz n1 n2 ⊢
  have D : ZipApart (N + 4) (N + 2) (N + 3) N (N + 1) a a' := zipAp N a a' n1 n2
  have W0 := WalksT.zip2 (prog := p) (w := w) (A := A) hh (N + 4) (N + 2) (N + 3) N (N + 1) a a' D vs.toArray vs'.toArray
  have W := KTurns.ofWalksU (elts := elts) (k := x1) (pos := tp) (WalksT.toU W0)
  have e1 := paired_len f
  have e2 := paired_len f'
  rw [show min vs.toArray.size vs'.toArray.size = (xs.zip ys).length by rw [List.length_zip, List.size_toArray, List.size_toArray, e1, e2]] at W
  refine ⟨_, _, _, _, _, _, rfl, W, ?_, ?_, ?_, ?_, ?_, ?_⟩
  · rintro i h ⟨gz, gTI, ⟨x, y, gTO⟩, ⟨o1, g1, _, d1⟩, ⟨o2, g2, _, d2⟩, ⟨o3, g3, _, _, d3⟩, ⟨o4, g4, _, _, d4⟩⟩ b hbf
    simp only [List.mem_cons, List.not_mem_nil, or_false] at hbf
    rcases hbf with rfl | rfl | rfl | rfl | rfl | rfl | rfl
    · exact ⟨_, gz, fun ⟨_, _, q⟩ => (by cases q), fun _ ⟨_, _, q⟩ => (by cases q)⟩
    · exact ⟨_, gTI, fun ⟨_, _, q⟩ => (by cases q), fun _ ⟨_, _, q⟩ => (by cases q)⟩
    · exact ⟨_, gTO, fun ⟨_, _, q⟩ => (by cases q), fun _ ⟨_, _, q⟩ => (by cases q)⟩
    · exact ⟨_, g1, fun ⟨_, _, q⟩ => (by rw [d1] at q; cases q), fun _ ⟨_, _, q⟩ => (by rw [d1] at q; cases q)⟩
    · exact ⟨_, g2, fun ⟨_, _, q⟩ => (by rw [d2] at q; cases q), fun _ ⟨_, _, q⟩ => (by rw [d2] at q; cases q)⟩
    · exact ⟨_, g3, fun ⟨_, _, q⟩ => (by rw [d3] at q; cases q), fun _ ⟨_, _, q⟩ => (by rw [d3] at q; cases q)⟩
    · exact ⟨_, g4, fun ⟨_, _, q⟩ => (by rw [d4] at q; cases q), fun _ ⟨_, _, q⟩ => (by rw [d4] at q; cases q)⟩
  · intro b hbw
    simp only [List.mem_cons, List.not_mem_nil, or_false] at hbw
    exact none_of_kp k (by rw [hN]; exact zipGe N b hbw)
  · intro b hbf
    simp only [List.mem_cons, List.not_mem_nil, or_false] at hbf
    show b < h3.objs.size
    rw [hsz]
    exact zipLt N a a' b n1 n2 hbf
  · exact ⟨hz, hTI, ⟨_, _, hTO⟩, h1, h2, l2.at fun o e => up _ o e, l'.at fun o e => up _ o e⟩
  · rintro i ⟨x, y⟩ v h hx ⟨T', vals, rfl, ⟨u, u', hu, hu', rfl⟩, hT⟩
    rw [List.getElem?_zip_eq_some] at hx
    obtain ⟨v1, hv1, r1⟩ := paired_get f hx.1
    obtain ⟨v2, hv2, r2⟩ := paired_get f' hx.2
    have q1 : some u = some v1 := by rw [← hv1, ← hu]; simp
    have q2 : some u' = some v2 := by rw [← hv2, ← hu']; simp
    cases q1; cases q2
    exact ⟨T', u, u', rfl, hT, r1, hS _ _ _ _ _ _ r2⟩
  · exact fun i s' Q E st hq => (WalksT.toU W0).self i s' Q E st hq
end
end
end Mine
end

section
open PySem PySem.W PyProof.Rows PySem.Calls
open Builtin.Str (glued)
set_option maxRecDepth 100000
set_option maxHeartbeats 400000
namespace Mine
noncomputable section
theorem m_law : D 20 ∈ recsOf qv := List.mem_of_getElem? (i := 13) (by kernel_rfl)
theorem n_law : (D 20).name = "law" := by kernel_rfl
/-! what the law computes from the seven cells -/
def lowOf (cs : List Int) : Int := cs.sum.fmod 24
def lettersOf (cs : List Int) : Str := ⟨((List.range 3).map fun (i : Nat) => (97 + lowOf cs + (i : Int)).toNat).toArray⟩
def wordOf (cs : List Int) : Str := ⟨((cs.take 6).map fun c => (97 + lowOf cs + c.fmod 3).toNat).toArray⟩
def typedOf (cs : List Int) : Str := ⟨((cs.take 6).map fun c => spelledAt (lowOf cs + c.fmod 3) (c.fdiv 3)).toArray⟩
def seventh (cs : List Int) : Int := cs.getD 6 0
def rowOf (cs : List Int) : Str := Txt.slice (lettersOf cs ++ lettersOf cs) (some ((seventh cs).fmod 3)) (some ((seventh cs).fmod 3 + 2 + ((seventh cs).fdiv 3).fmod 2))
def wantOf (cs : List Int) : Str := (Str.ofString "..." ++ glued (Str.ofString "...") ((rowOf cs).cps.toList.map chr1)) ++ Str.ofString "..."
def pairsOf (cs : List Int) : List (Str × Int) := choicesL (lowOf cs) (cs.take 6)
def leftsOf (P : Params) (cs : List Int) : List Str := (pairsOf cs).map fun q => leftOf P q.1
def toldOf (P : Params) (cs : List Int) : List Bool := (leftsOf P cs).map fun l => ellGo l (Str.ofString "" :: ((rowOf cs).cps.toList.map chr1 ++ [Str.ofString ""])) 0
def foundOf (cs : List Int) : List (List Int) := foundL (wordOf cs) (rowOf cs)
def maskOf (part : List Int) : Int := (part.map fun s => 1 * 2 ^ s.toNat).sum
open Builtin.Str (occurrences partsBetween strKind) in
structure LawOk (P : Params) (cs : List Int) : Prop where
  want1 : (occurrences (wantOf cs) (Str.ofString "...") 0 (wantOf cs).length 1).isEmpty = false
  want2 : (decide ((wantOf cs).length < (Str.ofString "...").length) || decide (strKind (wantOf cs) < strKind (Str.ofString "..."))) = false
  want3 : (occurrences (wantOf cs) (Str.ofString "...") 0 (wantOf cs).length ((wantOf cs).length + 1)).isEmpty = false
  want4 : partsBetween (wantOf cs) (occurrences (wantOf cs) (Str.ofString "...") 0 (wantOf cs).length ((wantOf cs).length + 1)) (Str.ofString "...").length = Str.ofString "" :: ((rowOf cs).cps.toList.map chr1 ++ [Str.ofString ""])
  want5 : JoinOk (Str.ofString "...") (PyProof.Rows.signs (rowOf cs)) = true
  want6 : (glued (Str.ofString "...") ((rowOf cs).cps.toList.map chr1)).length ≤ 100
  row : (rowOf cs).length ≤ 3
  typed : leftOf P (typedOf cs) = typedOf cs
  last : (leftsOf P cs)[((-1 : Int) + (leftsOf P cs).length).toNat]? = some (wordOf cs)
  parts : ∀ part ∈ foundOf cs, (∀ s ∈ part, 0 ≤ s ∧ s ≤ 100) ∧ 0 ≤ maskOf part ∧ maskOf part < 2 ^ 63 ∧ (leftsOf P cs)[(maskOf part).toNat]? = some (rowOf cs) ∧ (toldOf P cs)[(maskOf part).toNat]? = some true
  fin : minL (7 :: ((((pairsOf cs).zip (toldOf P cs)).filter fun q => !q.2).map fun q => q.1.2)) = ((foundOf cs).length : Int)
section
variable {w : World} {hb : Heap} {mg mb : Str → Option Value} {A : Around} {s : Shared} {k : Nat} {env : Env}
theorem sAssignT {α : Type} {T : Ty α} {x : α} {n : Str} {e : PySem.Expr} {pos' pos : Pos} {Q : Flow → Shared → Prop} {E : Value → Shared → Prop} {M : Model} (F : FrmOk hb env s) (h : Pv hb M A env s e T x) (hl : env.kindOf n = some .local)
    (q : ∀ s', 1 ≤ s'.toks → Upd hb env n s s' → Var hb env n T x s' → Q .next s')
    (hs : swapsWith e (some (.Name n pos')) pos.line env = pure false := by rfl) : wpAny M A (exec (.Assign [.Name n pos'] e pos) env) Q E s :=
  wpAny_Assign_Name (h.go fun _ _ k r => store_localS (F.kp k) hl r fun h' _ _ u v => q _ (Nat.succ_le_succ (Nat.zero_le _)) (u.kp k) v) hs
theorem sliceTake {α : Type} {T : Ty α} {pp pos : Pos} {e hi : PySem.Expr} {xs : List α} {n : Nat} (h : Pv hb (model p w) A env s e (tList T) xs) (hhi : Pv hb (model p w) A env s hi tInt (n : Int)) (hsz : xs.length ≤ sizeLine) (ht : ∀ o r, letTemporaryGo e o r = pure () := by intro _ _; rfl) :
    Pv hb (model p w) A env s (.Subscript e (.Slice .none (some hi) .none pp) pos) (tList T) (xs.take n) := by
  refine pSliceList (a := none) (b := some (n : Int)) h trivial hhi hsz (fun vs F f => ?_) ht
  rw [slicePick_upto']
  exact paired_take f n
theorem low_bound (cs : List Int) : 0 ≤ lowOf cs ∧ lowOf cs ≤ 23 := by
  have h1 : 0 ≤ lowOf cs := Int.fmod_nonneg_of_pos _ (by decide)
  have h2 : lowOf cs < 24 := Int.fmod_lt_of_pos _ (by decide)
  omega
theorem fmod3 (c : Int) : 0 ≤ c.fmod 3 ∧ c.fmod 3 ≤ 2 := by
  have h1 : 0 ≤ c.fmod 3 := Int.fmod_nonneg_of_pos _ (by decide)
  have h2 : c.fmod 3 < 3 := Int.fmod_lt_of_pos _ (by decide)
  omega
theorem filter_all {α : Type} (xs : List α) : xs.filter (fun _ => true) = xs := List.filter_eq_self.mpr fun _ _ => rfl

theorem pJoinC {ys : List Str} {l : List Nat} {e : PySem.Expr} {kk : Nat} {np ap pos : Pos} (h : Pv hb (model p w) A env s e (tList tStr) ys) (hy : ys = l.map chr1) (hl : l.length ≤ 1000)
    (he : ∃ pl : Sem Bool, eval (.Call (.Attribute (.Constant (.str (Str.ofString "")) kk np) "join" ap) [e] [] pos) env = (do
      let ov ← eval (.Constant (.str (Str.ofString "")) kk np) env
      standAt ap.atName
      let (f, first) ← holding [ov] (getMethod ov "join" pl)
      callWith pos f first (backTo pos (starEach [e] env)) []))
    (hs : starEach [e] env = (false, eval e env) :: starEach [] env := by rfl) :
    Pv hb (model p w) A env s (.Call (.Attribute (.Constant (.str (Str.ofString "")) kk np) "join" ap) [e] [] pos) tStr ⟨l.toArray⟩ := by
  have big : (100000 : Nat) ≤ sizeLine := by decide
  subst hy
  rw [← glued_chars']
  exact pJoin h (by rw [fold_chars']; omega) (by rw [glued_chars']; show l.toArray.size ≤ _; rw [List.size_toArray]; omega) he hs

theorem ptNeEq {x y : Str} {l r : PySem.Expr} {pos : Pos} (hl : Pv hb (model p w) A env s l tStr x) (hr : Pv hb (model p w) A env s r tStr y) (he : x = y) (hm : behindInMarks .NotEq r = false := by with_unfolding_all rfl) : Pt hb (model p w) A env s (.Compare l [.NotEq] [r] pos) false := by
  have := ptNeStr (pos := pos) hl hr hm
  subst he
  rw [show (x.cps.toList != x.cps.toList) = false by simp] at this
  exact this
theorem lp_more {h₀ : Heap} {s₃ s' : Shared} (lp : Lp hb h₀ s s₃) (k : Kp hb s₃ s') : Lp hb h₀ s s' := ⟨same_trans lp.same k.same, Nat.le_trans lp.tok k.tok, lp.ext.trans (k.ext.mono fun _ q => q.elim)⟩
theorem law_tail (G : Gnd w hb mg mb) {A' : Around} {L a : Addr} {cd : Value} {s₁ s : Shared} {E : Value → Shared → Prop} {cs : List Int} (C : Cx hb 5 A' s.heap) (ok : LawOk w.params cs) (tok : 1 ≤ s.toks)
    (plen : (pairsOf cs).length = 64) (llen : (leftsOf w.params cs).length = 64) (tlen : (toldOf w.params cs).length = 64) (hw : (wordOf cs).length = 6) (S : Stp hb (envD (D 20) L a cd) s₁ s)
    (vp : Var hb (envD (D 20) L a cd) "pairs" (tList tPs) (pairsOf cs) s) (vlf : Var hb (envD (D 20) L a cd) "lefts" (tList tStr) (leftsOf w.params cs) s) (vto : Var hb (envD (D 20) L a cd) "told" (tList tBool) (toldOf w.params cs) s)
    (vw : Var hb (envD (D 20) L a cd) "word" tStr (wordOf cs) s) (vr : Var hb (envD (D 20) L a cd) "row" tStr (rowOf cs) s) :
    wpAny (model p w) A' (execs ((D 20).body.drop 13) (envD (D 20) L a cd)) (Done hb (envD (D 20) L a cd) s₁ tBool true) E s := by
  have big : (100000 : Nat) ≤ sizeLine := by decide
  have V : EnvG (envD (D 20) L a cd) := ⟨rfl, rfl, rfl⟩
  have rowl := ok.row
  have flen : (foundOf cs).length ≤ 6 ∧ ∀ q ∈ foundOf cs, q.length ≤ 6 := by
    have := found_bound (wordOf cs) ((rowOf cs).cps.toList.map chr1) (wordOf cs).length
    rw [hw] at this
    refine ⟨Nat.le_trans (List.length_filter_le _ _) (by rw [hw]; exact this.1), fun q hq => this.2 q ?_⟩
    have := (List.mem_filter.mp hq).1
    rw [hw] at this
    exact this
  -- found
  obtain ⟨af, of, pm, code, doc, g1, g2, g3, g4⟩ := G.fn m_found
  refine wpAny_execs_cons (wpAny_Assign_Name ?_ (by rfl))
  refine Call_ (ld_global G C.st V.kind V.glob (by rfl) g1 (by decide) ?_) (by rfl)
  refine callWith_def g3 (args_cons ((vw.pv : Pv hb (model p w) A' _ _ _ _ _).go fun v s₂ k₂ r => args_cons ((vr.kp k₂).pv.go fun u s₃ k₃ r' => args_nil ⟨(C.kp (k₂.trans k₃)).st af of g2, ?_⟩) (by rfl)) (by rfl)) (by rfl)
  have k23 : Kp hb s s₃ := k₂.trans k₃
  refine f_found G _ _ (by omega) (by omega) A' s₃ [v, u] af g1 ((C.kp k23).less (by decide)) (Nat.le_trans tok k23.tok) ⟨v, u, rfl, Ty.at_ext r k₃.ext, r'⟩ _ _ fun v' s₄ k₄ r4 => ?_
  have k24 : Kp hb s s₄ := k23.trans k₄
  refine store_var (n := "found") (T := tList (tList tInt)) (x := foundOf cs) (vw.frm.kp k24) (.inl (by rfl)) r4 fun s₅ u₅ vf => ?_
  have C5 := (C.kp k24).stp u₅.stp
  have S5 : Stp hb (envD (D 20) L a cd) s₁ s₅ := (S.trans k24.stp).trans u₅.stp
  have vlf5 := (vlf.kp k24).up u₅
  have vto5 := (vto.kp k24).up u₅
  have vr5 := (vr.kp k24).up u₅
  have vp5 := (vp.kp k24).up u₅
  refine wpAny_execs_cons ?_
  refine sFor (xs := foundOf cs) (PP := fun x v _ => (tList tInt).at s₅.heap v x) vf.frm C5.st (forList C5.hand (listAt_var vf))
    (fun i s => Var hb (envD (D 20) L a cd) "found" (tList (tList tInt)) (foundOf cs) s ∧ Var hb (envD (D 20) L a cd) "lefts" (tList tStr) (leftsOf w.params cs) s ∧ Var hb (envD (D 20) L a cd) "told" (tList tBool) (toldOf w.params cs) s ∧ Var hb (envD (D 20) L a cd) "row" tStr (rowOf cs) s ∧ Var hb (envD (D 20) L a cd) "pairs" (tList tPs) (pairsOf cs) s)
    (fun i s s' h k => ⟨h.1.wk k, h.2.1.wk k, h.2.2.1.wk k, h.2.2.2.1.wk k, h.2.2.2.2.wk k⟩) (fun i s h => h.1.frm) (fun s₆ k₆ => ⟨vf.kp k₆, vlf5.kp k₆, vto5.kp k₆, vr5.kp k₆, vp5.kp k₆⟩) (fun i x v s₆ E' hx hP hI stp6 => ?_) fun s' hI stp => ?_
  · obtain ⟨vf6, vlf6, vto6, vr6, vp6⟩ := hI
    have C6 := C5.stp stp6
    have hmem : x ∈ foundOf cs := List.mem_of_getElem? hx
    obtain ⟨hs, m0, m1, ml, mt⟩ := ok.parts x hmem
    have hxl := flen.2 x hmem
    have r6 : (tList tInt).at s₆.heap v x := by
      obtain ⟨m, cm, FF⟩ := vf.frm
      exact Ty.to_at ((tList tInt).stp (FF.okF hP) stp6)
    refine wpAny_assign_Name (store_var (n := "part") (T := tList tInt) (x := x) vf6.frm (.inl (by rfl)) r6 fun s₇ u₇ vpt => ?_)
    have C7 := C6.stp u₇.stp
    refine wpAny_execs_cons (sAssign (n := "mask") (T := tInt) (x := maskOf x) vpt.frm ?_ (.inl (by rfl)) fun s₈ u₈ vm => ?_)
    · have e : maskOf x = ((x.filter (fun _ => true)).map fun s => 1 * 2 ^ s.toNat).sum := by rw [filter_all]; rfl
      rw [e]
      refine pSum C7.hand G V C7.st (by rfl) ?_
      refine pComp (T' := tInt) (xs := x) (pp := fun _ => true) (f := fun (s : Int) => 1 * 2 ^ s.toNat) (cl := []) (PP := fun s x v _ => tInt.at s.heap v x) C7.st (by omega) (by rfl) (by decide) rfl (by decide) fun s₈ k₈ => ?_
      have C8 := C7.kp k₈
      refine compName (T := tInt) (g := id) (vpt.frm.kp k₈) C8.st rfl (fun _ _ h => by cases h) List.Pairwise.nil (fun _ _ h => by cases h) (fun C => by rfl) (srcList C8.hand (listAt_var (vpt.kp k₈)) (fun _ _ => rfl)) (fun y v s₃ h lp => lp_at h lp) fun j y C' s₉ hy k₉ F₉ S₉ v9 _ => ⟨.nil, fun _ => ?_⟩
      obtain ⟨b1, b2⟩ := hs y (List.mem_of_getElem? hy)
      exact EltAt.flat tInt_flat (pCall2 G ⟨rfl, rfl, rfl⟩ m_lshift n_lshift ((C8.kp k₉).less (by decide)) (by rfl) pInt v9.pv (f_lshift G 1 y (by decide) b1 (by omega)))
    have C8 := C7.stp u₈.stp
    have vlf8 := (vlf6.up u₇).up u₈
    have vto8 := (vto6.up u₇).up u₈
    have vr8 := (vr6.up u₇).up u₈
    refine wpAny_execs_cons (sIf (hb := hb) (b := false) ?_ fun s₁₄ k₁₄ => ⟨(fun h => by cases h), fun _ => ?_⟩)
    · refine ⟨fun s' kk Q E q => ?_⟩
      refine isTrue_or (Pt.go (hb := hb) (b := false) (ptNeEq (pItemList (vlf8.kp kk).pv (vm.kp kk).pv m0 ml m1 (fun _ _ => sub_name _ _ _ _)) (vr8.kp kk).pv rfl) fun s'' k2 => ?_)
      have k02 := kk.trans k2
      exact isTrue_or (Pt.go (hb := hb) (b := false) (ptNot (b := true) (ptOf (pItemList (vto8.kp k02).pv (vm.kp k02).pv m0 mt m1 (fun _ _ => sub_name _ _ _ _)))) fun s4 k4 => isTrue_or_nil (q s4 (k2.trans k4)))
    · exact wpAny_execs_nil (wpAny_execs_nil ⟨(u₇.stp.trans u₈.stp).trans k₁₄.stp, ((vf6.up u₇).up u₈).kp k₁₄, vlf8.kp k₁₄, vto8.kp k₁₄, vr8.kp k₁₄, ((vp6.up u₇).up u₈).kp k₁₄⟩)
  · obtain ⟨vf6, vlf6, vto6, vr6, vp6⟩ := hI
    have C6 := C5.stp stp
    refine wpAny_execs_nil (sRet (S5.trans stp) ?_)
    have e : true = (minL ([7] ++ (((pairsOf cs).zip (toldOf w.params cs)).filter fun q => !q.2).map fun q => q.1.2) == ((foundOf cs).length : Int)) := by
      have h := ok.fin
      rw [List.singleton_append, h]; simp
    rw [e]
    refine pEqInt (pMin C6.hand G V C6.st (by show 0 < (7 :: _ : List Int).length; exact Nat.succ_pos _) (by rfl) (pListAdd ?_ (pList (.cons pInt (fun _ => by rfl) .nil) (by show 1 ≤ _; omega)) ?_)) (pLenList G V C6.st (by rfl) vf6.pv (by omega))
    · have h1 := List.length_filter_le (fun q : (Str × Int) × Bool => !q.2) ((pairsOf cs).zip (toldOf w.params cs))
      rw [List.length_zip] at h1
      rw [List.length_map]
      show 1 + _ ≤ _
      omega
    refine pComp (T' := tInt) (xs := (pairsOf cs).zip (toldOf w.params cs)) (pp := fun q => !q.2) (f := fun q => q.1.2) (cl := []) (PP := fun s x v h => PPz tPs tBool s.heap x v h) C6.st (by rw [List.length_zip]; omega) (by rfl) (by decide) rfl (by decide) fun s₈ k₈ => ?_
    have C8 := C6.kp k₈
    refine compTgt (R := fun x cenv s => (Var hb cenv "text" tStr x.1.1 s ∧ Var hb cenv "strikes" tInt x.1.2 s) ∧ Var hb cenv "flag" tBool x.2 s) (ns := ([Str.ofString "text"] ++ [Str.ofString "strikes"]) ++ [Str.ofString "flag"]) (vf6.frm.kp k₈) C8.st rfl (fun _ _ h => by cases h) List.Pairwise.nil (fun _ _ h => by cases h) ?_
      (srcZip (T := tPs) (S := tBool) C8.hand G V C8.st (by rfl) (by omega) (listAt_var (vp6.kp k₈)) (fun s' k => listAt_var ((vto6.kp k₈).kp k)) tBool_flat) (fun y v s₃ Cc h lp F₃ => ?_) fun j y Cc s₇ hy k₇ F₇ S₇ r₇ => ⟨.one (ptNot (ptOf r₇.2.pv)), fun _ => EltAt.flat tInt_flat r₇.1.2.pv⟩
    · intro Cc n hn
      simp only [List.cons_append, List.nil_append, List.mem_cons, List.not_mem_nil, or_false] at hn
      rcases hn with rfl | rfl | rfl <;> rfl
    · obtain ⟨at', u, u', rfl, hT, r1, r2⟩ := h
      exact asgPair C8.hand F₃ hT (fun s' k => asgPs C8.hand r1 (lp_more lp k) (F₃.kp k) (by rfl) (by rfl) (by decide)) (fun s' s'' _ a1 => asgName a1.frm (by rfl) r2) (fun s' s'' a2 v1 => ⟨a2.var (by decide) v1.1, a2.var (by decide) v1.2⟩) (by rfl)
end
end
end Mine
end

section
open PySem PySem.W PyProof.Rows PySem.Calls
open Builtin.Str (glued)
set_option maxRecDepth 100000
set_option maxHeartbeats 400000
namespace Mine
noncomputable section
section
variable {w : World} {hb : Heap} {mg mb : Str → Option Value} {A : Around} {s : Shared} {k : Nat} {env : Env}
theorem ptListNil {α : Type} {T : Ty α} {x : List α} {e : PySem.Expr} (h : Pv hb (model p w) A env s e (tList T) x) (hx : x = []) (he : ∀ whole, isTrue e env whole = (do let v ← whole; standAt e.pos; holding [v] (truthy v)) := by intro _; rfl) : Pt hb (model p w) A env s e false := by
  subst hx
  exact ptList h (Nat.zero_le _) he
theorem f_law (G : Gnd w hb mg mb) (script : List Int) (hsc : script.length ≤ 1000) (OK : ∀ cs : List Int, cs.length = 7 → LawOk w.params cs) : Fn hb w mg 6 "law" (A1 (tListW tInt) script) tBool true := by
  have big : (100000 : Nat) ≤ sizeLine := by decide
  refine fn1 (px := "script") G m_law n_law (fun _ _ _ _ => by rfl) rfl (fun L n c h => ?_) rfl rfl rfl fun A' L a cd s₁ C1 F1 vsc E => ?_
  · have e : cellsFrom L (D 20).scope.names [] = [(Str.ofString "want", L+1+1+1), (Str.ofString "letters", L+1+1), (Str.ofString "low", L+1), (Str.ofString "drawn", L)] := by rfl
    rw [e] at h ⊢
    simp only [List.mem_cons, List.not_mem_nil, or_false, Prod.mk.injEq] at h
    rcases h with ⟨rfl, rfl⟩ | ⟨rfl, rfl⟩ | ⟨rfl, rfl⟩ | ⟨rfl, rfl⟩ <;> rfl
  have V : EnvG (envD (D 20) L a cd) := ⟨rfl, rfl, rfl⟩
  have pickLen : (pickL script none (some 63) none).length ≤ 1000 := by
    refine Nat.le_trans ?_ hsc
    have f : ∀ l : List Int, Paired (fun (_ : Value) (_ : Int) => True) (l.map fun _ => Value.none) l := by
      intro l
      induction l with
      | nil => exact .nil
      | cons x l ih => exact .cons trivial ih
    have h1 := paired_len (paired_pick (f script) none (some 63) none)
    rw [← h1, Array.length_toList]
    have := slicePick_size_le (script.map fun _ => Value.none).toArray none (some 63) none
    simpa using this
  -- drawn
  refine wpAny_execs_cons (sAssign (n := "drawn") (T := tList tInt) (x := (((pickL script none (some 63) none).filter (fun _ => true)).map (fun c => c.fmod (10 ^ (6 : Int).toNat)))) F1 ?_ (.inr ⟨rfl, _, rfl⟩) fun s₂ u₂ vd => ?_)
  · refine pComp (T' := tInt) (xs := pickL script none (some 63) none) (pp := fun _ => true) (f := fun c => c.fmod (10 ^ (6 : Int).toNat)) (cl := []) (PP := fun s x v _ => tInt.at s.heap v x) C1.st (by omega) (by rfl) (by decide) rfl (by decide) fun s₈ k₈ => ?_
    have C8 := C1.kp k₈
    refine compName (T := tInt) (g := id) (F1.kp k₈) C8.st rfl (fun _ _ h => by cases h) List.Pairwise.nil (fun _ _ h => by cases h) (fun C => by rfl) (srcList C8.hand (listAt_flat tInt_flat (pSliceW (a := none) (b := some 63) (vsc.kp k₈).pv trivial pInt (by omega))) (fun _ _ => rfl)) (fun y v s₃ h lp => lp_at h lp) fun j y C' s₉ hy k₉ F₉ S₉ v9 _ => ⟨.nil, fun _ => ?_⟩
    refine EltAt.flat tInt_flat (pMod (by decide) (pIntCall G ⟨rfl, rfl, rfl⟩ (C8.kp k₉).st (by rfl) v9.pv) (pPow (by decide) (by decide) (by decide) pInt pInt))
  rw [filter_all] at vd
  generalize hdr : (pickL script none (some 63) none).map (fun c => c.fmod (10 ^ (6 : Int).toNat)) = drawn at vd
  have hdl : drawn.length ≤ 1000 := by rw [← hdr, List.length_map]; exact pickLen
  have C2 := C1.stp u₂.stp
  -- cells
  refine wpAny_execs_cons ?_
  refine sAssignComp (n := "cells") (T' := tInt) (xs := ([6, 124, 399, 959, 286, 326, 3] : List Int).zipIdx) (pp := fun _ => true) (f := fun q => (pickL drawn (some (q.2 : Int)) none (some 7)).sum + q.1) (PP := PPt) (cl := [(Str.ofString "drawn", L + 1)]) u₂.frm C2.st (by decide) (.inl rfl) (by rfl) (by rfl) (by decide) rfl (by decide) ?_ fun s₃ u₃ vc => ?_
  · refine compTgt (R := fun q cenv s => Var hb cenv "place" tInt (q.2 : Int) s ∧ Var hb cenv "first" tInt q.1 s) (ns := [Str.ofString "place"] ++ [Str.ofString "first"]) u₂.frm C2.st rfl (cl1a (by rfl)) (List.pairwise_singleton _ _) (cl1b (by rfl)) ?_
      (srcEnumTup C2.hand G V C2.st rfl (pTup (.cons pInt (fun _ => by rfl) (.cons pInt (fun _ => by rfl) (.cons pInt (fun _ => by rfl) (.cons pInt (fun _ => by rfl) (.cons pInt (fun _ => by rfl) (.cons pInt (fun _ => by rfl) (.cons pInt (fun _ => by rfl) .nil))))))) (by decide))) (fun y v s₃ Cc h lp F₃ => ?_) fun j y Cc s₇ hy k₇ F₇ S₇ r₇ => ⟨.nil, fun _ => ?_⟩
    · intro Cc n hn
      simp only [List.cons_append, List.nil_append, List.mem_cons, List.not_mem_nil, or_false] at hn
      rcases hn with rfl | rfl <;> rfl
    · obtain ⟨T, t, u, rfl, hT⟩ := h
      exact asgPair C2.hand F₃ hT (fun s' k => asgName (F₃.kp k) (by rfl) ⟨t, rfl⟩) (fun s' s'' _ a1 => asgName a1.frm (by rfl) ⟨u, rfl⟩) (fun s' s'' a2 v1 => a2.var (by decide) v1) (by rfl)
    · have C7 := C2.kp k₇
      refine EltAt.flat tInt_flat (pAdd (pSum C7.hand G ⟨rfl, rfl, rfl⟩ C7.st (by rfl) (pSliceStep (a := some (y.2 : Int)) (b := none) (pListW (S₇.var vd rfl rfl (by rfl)).pv) r₇.1.pv trivial pInt (by decide) (by omega))) r₇.2.pv)
  rw [filter_all] at vc
  generalize hcs : (([6, 124, 399, 959, 286, 326, 3] : List Int).zipIdx).map (fun q => (pickL drawn (some (q.2 : Int)) none (some 7)).sum + q.1) = cs at vc
  have hcl : cs.length = 7 := by rw [← hcs]; rfl
  have ok := OK cs hcl
  have C3 := C2.stp u₃.stp
  obtain ⟨hlo1, hlo2⟩ := low_bound cs
  -- low
  refine wpAny_execs_cons (sAssign (n := "low") (T := tInt) (x := lowOf cs) u₃.frm (pMod (by decide) (pSum C3.hand G V C3.st rfl vc.pv) pInt) (.inr ⟨rfl, _, rfl⟩) fun s₄ u₄ vl => ?_)
  have C4 := C3.stp u₄.stp
  have vc4 := vc.up u₄
  -- letters
  refine wpAny_execs_cons (sAssign (n := "letters") (T := tStr) (x := lettersOf cs) u₄.frm ?_ (.inr ⟨rfl, _, rfl⟩) fun s₅ u₅ vle => ?_)
  · refine pJoinC (ys := ((List.range 3).filter (fun _ => true)).map (fun (i : Nat) => chr1 (97 + lowOf cs + (i : Int)).toNat)) ?_ (by rw [filter_all, List.map_map]; rfl) (by rw [List.length_map, List.length_range]; decide) ⟨_, by rfl⟩
    refine pComp (T' := tStr) (xs := List.range 3) (pp := fun _ => true) (f := fun (i : Nat) => chr1 (97 + lowOf cs + (i : Int)).toNat) (cl := [(Str.ofString "low", L + 1 + 1)]) (PP := fun _ i v h => tInt.at h v (i : Int)) C4.st (by decide) (by rfl) (by decide) rfl (by decide) fun s₈ k₈ => ?_
    have C8 := C4.kp k₈
    refine compName (T := tInt) (g := fun (i : Nat) => (i : Int)) (u₄.frm.kp k₈) C8.st rfl (cl1a (by rfl)) (List.pairwise_singleton _ _) (cl1b (by rfl)) (fun C => by rfl) (srcRange (n := 3) C8.hand G V C8.st rfl pInt (by decide)) (fun y v s₃ h lp => h) fun j y C' s₉ hy k₉ F₉ S₉ v9 _ => ⟨.nil, fun _ => ?_⟩
    have hy3 : y < 3 := by
      obtain ⟨h1, h2⟩ := List.getElem?_eq_some_iff.mp hy
      rw [List.length_range] at h1
      simp at h2
      omega
    refine EltAt.flat tStr_flat (pB1 G ⟨rfl, rfl, rfl⟩ (C8.kp k₉).st (G.none (by kernel_rfl)) (G.bu (by decide) boot_chr) (by rfl) (pAdd (pAdd pInt (S₉.var (vl.kp k₈) rfl rfl (by rfl)).pv) v9.pv) ?_)
    rintro s' v Q E _ ⟨t, rfl⟩ q
    exact call_chr (by omega) (by omega) q
  have C5 := C4.stp u₅.stp
  have vc5 := vc4.up u₅
  have vl5 := vl.up u₅
  have six : ∀ {s : Shared} {e : PySem.Expr}, Pv hb (model p w) A' (envD (D 20) L a cd) s e (tList tInt) cs → ∀ (pp pos cp : Pos) (kk : Nat), (∀ o r, letTemporaryGo e o r = pure ()) → Pv hb (model p w) A' (envD (D 20) L a cd) s (.Subscript e (.Slice .none (some (.Constant (.int 6) kk cp)) .none pp) pos) (tList tInt) (cs.take 6) := fun h _ _ _ _ ht => sliceTake (n := 6) h pInt (by omega) ht
  have t6 : (cs.take 6).length = 6 := by rw [List.length_take, hcl]; rfl
  -- word
  refine wpAny_execs_cons (sAssignT (n := "word") (T := tStr) (x := wordOf cs) u₅.frm ?_ rfl fun s₆ tok6 u₆ vw => ?_)
  · refine pJoinC (ys := ((cs.take 6).filter (fun _ => true)).map (fun c => chr1 (97 + lowOf cs + c.fmod 3).toNat)) ?_ (by rw [filter_all, List.map_map]; rfl) (by rw [List.length_map, t6]; decide) ⟨_, by rfl⟩
    refine pComp (T' := tStr) (xs := cs.take 6) (pp := fun _ => true) (f := fun c => chr1 (97 + lowOf cs + c.fmod 3).toNat) (cl := [(Str.ofString "letters", L + 1 + 1 + 1)]) (PP := fun s x v _ => tInt.at s.heap v x) C5.st (by omega) (by rfl) (by decide) rfl (by decide) fun s₈ k₈ => ?_
    have C8 := C5.kp k₈
    refine compName (T := tInt) (g := id) (u₅.frm.kp k₈) C8.st rfl (cl1a (by rfl)) (List.pairwise_singleton _ _) (cl1b (by rfl)) (fun C => by rfl) (srcList C8.hand (listAt_flat tInt_flat (six (vc5.kp k₈).pv _ _ _ _ (by intro _ _; rfl))) (fun _ _ => rfl)) (fun y v s₃ h lp => lp_at h lp) fun j y C' s₉ hy k₉ F₉ S₉ v9 _ => ⟨.nil, fun _ => ?_⟩
    obtain ⟨b1, b2⟩ := fmod3 y
    have v9 : Var hb (compEnvC _ _ C' (envD (D 20) L a cd)) "cell" tInt y s₉ := v9
    refine EltAt.flat tStr_flat (pStrItem (S₉.var (vle.kp k₈) rfl rfl (by rfl)).pv (pMod (by decide) v9.pv pInt) b1 ?_ (by omega) (fun _ _ _ => rfl))
    have e3 : y.fmod 3 = 0 ∨ y.fmod 3 = 1 ∨ y.fmod 3 = 2 := by omega
    unfold lettersOf
    rcases e3 with e | e | e <;> simp only [e] <;> rfl
  have C6 := C5.stp u₆.stp
  have vc6 := vc5.up u₆
  have vl6 := vl5.up u₆
  have vle6 := vle.up u₆
  -- typed
  refine wpAny_execs_cons (sAssign (n := "typed") (T := tStr) (x := typedOf cs) u₆.frm ?_ (.inl rfl) fun s₇ u₇ vt => ?_)
  · refine pJoinC (ys := ((cs.take 6).filter (fun _ => true)).map (fun c => chr1 (spelledAt (lowOf cs + c.fmod 3) (c.fdiv 3)))) ?_ (by rw [filter_all, List.map_map]; rfl) (by rw [List.length_map, t6]; decide) ⟨_, by rfl⟩
    refine pComp (T' := tStr) (xs := cs.take 6) (pp := fun _ => true) (f := fun c => chr1 (spelledAt (lowOf cs + c.fmod 3) (c.fdiv 3))) (cl := [(Str.ofString "low", L + 1 + 1)]) (PP := fun s x v _ => tInt.at s.heap v x) C6.st (by omega) (by rfl) (by decide) rfl (by decide) fun s₈ k₈ => ?_
    have C8 := C6.kp k₈
    refine compName (T := tInt) (g := id) (u₆.frm.kp k₈) C8.st rfl (cl1a (by rfl)) (List.pairwise_singleton _ _) (cl1b (by rfl)) (fun C => by rfl) (srcList C8.hand (listAt_flat tInt_flat (six (vc6.kp k₈).pv _ _ _ _ (by intro _ _; rfl))) (fun _ _ => rfl)) (fun y v s₃ h lp => lp_at h lp) fun j y C' s₉ hy k₉ F₉ S₉ v9 _ => ⟨.nil, fun _ => ?_⟩
    obtain ⟨b1, b2⟩ := fmod3 y
    have v9 : Var hb (compEnvC _ _ C' (envD (D 20) L a cd)) "cell" tInt y s₉ := v9
    have vl9 := S₉.var (vl6.kp k₈) rfl rfl (by rfl)
    exact EltAt.flat tStr_flat (pCall2 G ⟨rfl, rfl, rfl⟩ m_spelled n_spelled ((C8.kp k₉).less (by decide)) (by rfl) (pAdd vl9.pv (pMod (by decide) v9.pv pInt)) (pFloor (by decide) (by decide) v9.pv pInt) (f_spelled G _ _ (by omega) (by omega)))
  have C7 := C6.stp u₇.stp
  have vc7 := vc6.up u₇
  -- start
  have h6 : cs[(6 : Int).toNat]? = some (seventh cs) := by
    have : 6 < cs.length := by omega
    show cs[6]? = some (cs.getD 6 0)
    rw [List.getD_eq_getElem?_getD, List.getElem?_eq_getElem this]; rfl
  have p6 : ∀ {s : Shared}, Var hb (envD (D 20) L a cd) "cells" (tList tInt) cs s → ∀ (np cp pos : Pos) (kk : Nat), Pv hb (model p w) A' (envD (D 20) L a cd) s (.Subscript (.Name "cells" np) (.Constant (.int 6) kk cp) pos) tInt (seventh cs) := fun v _ _ _ _ => pItemList (n := 6) v.pv pInt (by decide) h6 (by decide) (fun _ _ => sub_const _ _ _ _ _)
  refine wpAny_execs_cons (sAssign (n := "start") (T := tInt) (x := (seventh cs).fmod 3) u₇.frm (pMod (by decide) (p6 vc7 _ _ _ _) pInt) (.inl rfl) fun s₈ u₈ vst => ?_)
  have C8 := C7.stp u₈.stp
  have vc8 := vc7.up u₈
  have vle8 := (vle6.up u₇).up u₈
  have lel : (lettersOf cs).length = 3 := by unfold lettersOf; rfl
  -- row
  refine wpAny_execs_cons (sAssign (n := "row") (T := tStr) (x := rowOf cs) u₈.frm (pSliceStr (a := some ((seventh cs).fmod 3)) (b := some ((seventh cs).fmod 3 + 2 + ((seventh cs).fdiv 3).fmod 2)) (pCall2 G V m_concat n_concat (C8.less (by decide)) (by rfl) vle8.pv vle8.pv (f_concat_str G _ _ (by omega))) vst.pv (pAdd (pAdd vst.pv pInt) (pMod (by decide) (pFloor (by decide) (by decide) (p6 vc8 _ _ _ _) pInt) pInt)) (by rw [str_len_app]; omega)) (.inl rfl) fun s₉ u₉ vr => ?_)
  have C9 := C8.stp u₉.stp
  have rowl := ok.row
  -- want
  refine wpAny_execs_cons (sAssign (n := "want") (T := tStr) (x := wantOf cs) u₉.frm (pStrAdd ?_ (pStrAdd ?_ pStr (pJoinStr C9.hand vr.pv ok.want5 ⟨_, by rfl⟩)) pStr) (.inr ⟨rfl, _, rfl⟩) fun s₁₀ u₁₀ vwa => ?_)
  · have := ok.want6
    rw [str_len_app]; show 3 + _ + 3 ≤ _; omega
  · have := ok.want6
    show 3 + _ ≤ _; omega
  have C10 := C9.stp u₁₀.stp
  have vc10 := (vc8.up u₉).up u₁₀
  have vl10 := (((vl6.up u₇).up u₈).up u₉).up u₁₀
  -- pairs
  refine wpAny_execs_cons (sAssign (n := "pairs") (T := tList tPs) (x := pairsOf cs) u₁₀.frm (pCall2 G V m_choices n_choices (C10.less (by decide)) (by rfl) (six vc10.pv _ _ _ _ (by intro _ _; rfl)) vl10.pv (f_choices G _ _ (by omega) hlo1 hlo2)) (.inl rfl) fun s₁₁ u₁₁ vp => ?_)
  have C11 := C10.stp u₁₁.stp
  obtain ⟨plen, pall⟩ := choices_bound (lowOf cs) (cs.take 6)
  rw [t6] at plen pall
  have plen : (pairsOf cs).length = 64 := plen
  -- lefts
  refine wpAny_execs_cons ?_
  refine sAssignComp (n := "lefts") (T' := tStr) (xs := pairsOf cs) (pp := fun _ => true) (f := fun q => leftOf w.params q.1) (PP := fun x v _ => tPs.at s₁₁.heap v x) (cl := []) u₁₁.frm C11.st (by omega) (.inl rfl) (by rfl) (by rfl) (by decide) rfl (by decide) ?_ fun s₁₂ u₁₂ vlf => ?_
  · refine compTgt (R := fun x cenv s => Var hb cenv "text" tStr x.1 s ∧ Var hb cenv "strikes" tInt x.2 s) (ns := [Str.ofString "text"] ++ [Str.ofString "strikes"]) u₁₁.frm C11.st rfl (fun _ _ h => by cases h) List.Pairwise.nil (fun _ _ h => by cases h) ?_ (srcListT C11.hand (listAt_var vp)) (fun y v s₃ Cc h lp F₃ => asgPs C11.hand h lp F₃ rfl rfl (by decide)) fun j y Cc s₇ hy k₇ F₇ S₇ r₇ => ⟨.nil, fun _ => ?_⟩
    · intro Cc n hn
      simp only [List.cons_append, List.nil_append, List.mem_cons, List.not_mem_nil, or_false] at hn
      rcases hn with rfl | rfl <;> rfl
    · have hy' := pall y (List.mem_of_getElem? hy)
      exact EltAt.flat tStr_flat (pCall1 G ⟨rfl, rfl, rfl⟩ m_left n_left ((C11.kp k₇).less (by decide)) (by rfl) r₇.1.pv (f_left G _ (by omega)))
  rw [filter_all] at vlf
  have vlf : Var hb (envD (D 20) L a cd) "lefts" (tList tStr) (leftsOf w.params cs) s₁₂ := vlf
  have C12 := C11.stp u₁₂.stp
  have llen : (leftsOf w.params cs).length = 64 := by unfold leftsOf; rw [List.length_map]; exact plen
  have lall : ∀ x ∈ leftsOf w.params cs, x.length ≤ 6 := by
    intro x hx
    obtain ⟨q, hq, rfl⟩ := List.mem_map.mp hx
    have := pall q hq
    refine Nat.le_trans ?_ (Nat.le_of_eq this)
    show ((q.1.cps.toList.filter _).toArray).size ≤ q.1.cps.size
    rw [List.size_toArray]
    exact Nat.le_trans (List.length_filter_le _ _) (by rw [Array.length_toList]; exact Nat.le_refl _)
  have vwa12 := (vwa.up u₁₁).up u₁₂
  -- told
  have wl : (wantOf cs).length ≤ 1000 := by
    have := ok.want6
    unfold wantOf
    rw [str_len_app, str_len_app]; show 3 + _ + 3 ≤ _; omega
  refine wpAny_execs_cons ?_
  refine sAssignComp (n := "told") (T' := tBool) (xs := leftsOf w.params cs) (pp := fun _ => true) (f := fun l => ellGo l (Str.ofString "" :: ((rowOf cs).cps.toList.map chr1 ++ [Str.ofString ""])) 0) (PP := fun x v _ => tStr.at s₁₂.heap v x) (cl := [(Str.ofString "want", L + 1 + 1 + 1 + 1)]) u₁₂.frm C12.st (by omega) (.inl rfl) (by rfl) (by rfl) (by decide) rfl (by decide) ?_ fun s₁₃ u₁₃ vto => ?_
  · refine compName (T := tStr) (g := id) u₁₂.frm C12.st rfl (cl1a (by rfl)) (List.pairwise_singleton _ _) (cl1b (by rfl)) (fun C => by rfl) (srcList C12.hand (listAt_var vlf) (fun _ _ => rfl)) (fun y v s₃ h lp => lp_at h lp) fun j y C' s₉ hy k₉ F₉ S₉ v9 _ => ⟨.nil, fun _ => ?_⟩
    have v9 : Var hb (compEnvC _ _ C' (envD (D 20) L a cd)) "left" tStr y s₉ := v9
    have hyl := lall y (List.mem_of_getElem? hy)
    refine EltAt.flat tBool_flat (pCall2 G ⟨rfl, rfl, rfl⟩ m_ell n_ell ((C12.kp k₉).less (by decide)) (by rfl) (S₉.var vwa12 rfl rfl (by rfl)).pv v9.pv (f_ell G _ _ _ (by omega) wl (by rw [List.length_map, Array.length_toList]; show (rowOf cs).length ≤ _; omega) ok.want1 ok.want2 ok.want3 ok.want4 ?_))
    intro x hx
    obtain ⟨c, _, rfl⟩ := List.mem_map.mp hx
    show 1 ≤ 1000
    decide
  rw [filter_all] at vto
  have vto : Var hb (envD (D 20) L a cd) "told" (tList tBool) (toldOf w.params cs) s₁₃ := vto
  have C13 := C12.stp u₁₃.stp
  have tlen : (toldOf w.params cs).length = 64 := by unfold toldOf; rw [List.length_map]; exact llen
  have vlf13 := vlf.up u₁₃
  have vt13 := (((((vt.up u₈).up u₉).up u₁₀).up u₁₁).up u₁₂).up u₁₃
  have vw13 := ((((((vw.up u₇).up u₈).up u₉).up u₁₀).up u₁₁).up u₁₂).up u₁₃
  have vr13 := (((vr.up u₁₀).up u₁₁).up u₁₂).up u₁₃
  have vp13 := (vp.up u₁₂).up u₁₃
  have tyl : (typedOf cs).length ≤ 1000 := by
    unfold typedOf
    show (((cs.take 6).map _).toArray).size ≤ _
    rw [List.size_toArray, List.length_map, t6]; decide
  -- the three tests
  refine wpAny_execs_cons (sIf (hb := hb) (b := false) ?_ fun s₁₄ k₁₄ => ⟨(fun h => by cases h), fun _ => ?_⟩)
  · refine ⟨fun s' kk Q E q => ?_⟩
    have C' := C13.kp kk
    refine isTrue_or (Pt.go (hb := hb) (b := false) (ptNeEq (pCall1 G V m_left n_left (C'.less (by decide)) (by rfl) (vt13.kp kk).pv (f_left G _ tyl)) (vt13.kp kk).pv ok.typed) fun s'' k2 => ?_)
    have C'' := C'.kp k2
    have k02 := kk.trans k2
    refine isTrue_or (Pt.go (hb := hb) (b := false) (ptNeEq (pItemListNeg (n := -1) (vlf13.kp k02).pv (pNeg pInt) (by decide) (by omega) ok.last (by decide) (by intro _ _; rfl)) (vw13.kp k02).pv rfl) fun s3 k3 => ?_)
    have C3' := C''.kp k3
    have k03 := k02.trans k3
    have hnil : ((toldOf w.params cs).filter (fun _ => false)) = [] := List.filter_eq_nil_iff.mpr fun _ _ h => by cases h
    refine isTrue_or (Pt.go (hb := hb) (b := false) ?_ fun s4 k4 => isTrue_or_nil (q s4 ((k2.trans k3).trans k4)))
    refine ptListNil (T := tBool) (x := ((toldOf w.params cs).filter (fun _ => false)).map id) ?_ (by rw [hnil]; rfl)
    refine pComp (T' := tBool) (xs := toldOf w.params cs) (pp := fun _ => false) (f := id) (cl := []) (PP := fun s x v _ => tBool.at s.heap v x) C3'.st (by omega) (by rfl) (by decide) rfl (by decide) fun s₈ k₈ => ?_
    have C8 := C3'.kp k₈
    exact compName (T := tBool) (g := id) (vto.frm.kp (k03.trans k₈)) C8.st rfl (fun _ _ h => by cases h) List.Pairwise.nil (fun _ _ h => by cases h) (fun C => by rfl) (srcList C8.hand (listAt_var (vto.kp (k03.trans k₈))) (fun _ _ => rfl)) (fun y v s₃ h lp => lp_at h lp) fun j y C' s₉ hy k₉ F₉ S₉ v9 _ => ⟨.one (ptNot (b := true) (ptOf (pIsi G ⟨rfl, rfl, rfl⟩ (C8.kp k₉).st (by rfl) (by rfl) v9.pv))), fun h => by cases h⟩
  refine wpAny_execs_nil ?_
  have C14 := C13.kp k₁₄
  have S13 : Stp hb (envD (D 20) L a cd) s₁ s₁₄ := ((((((((((((u₂.stp.trans u₃.stp).trans u₄.stp).trans u₅.stp).trans u₆.stp).trans u₇.stp).trans u₈.stp).trans u₉.stp).trans u₁₀.stp).trans u₁₁.stp).trans u₁₂.stp).trans u₁₃.stp).trans k₁₄.stp)
  have tok14 : 1 ≤ s₁₄.toks := Nat.le_trans tok6 ((((((((u₇.stp.trans u₈.stp).trans u₉.stp).trans u₁₀.stp).trans u₁₁.stp).trans u₁₂.stp).trans u₁₃.stp).trans k₁₄.stp).tok)
  have wl6 : (wordOf cs).length = 6 := by
    unfold wordOf
    show (((cs.take 6).map _).toArray).size = 6
    rw [List.size_toArray, List.length_map, t6]
  exact law_tail G C14 ok tok14 plen llen tlen wl6 S13 (vp13.kp k₁₄) (vlf13.kp k₁₄) (vto.kp k₁₄) (vw13.kp k₁₄) (vr13.kp k₁₄)
end
end
end Mine
end

section
open PySem PySem.W PyProof.Rows PySem.Calls
open Builtin.Str (glued occurrences partsBetween strKind subAt)
open PySem.StrLaws (occBody occ_eq subAt_one)
set_option maxRecDepth 100000
set_option maxHeartbeats 400000
namespace Mine
/-! ## the plain law: what is left, and the dots -/
def subl : List Nat → List Nat → Bool
  | [], _ => true
  | _ :: _, [] => false
  | r :: rs, x :: xs => if x = r then subl rs xs else subl (r :: rs) xs
theorem occ_stop (s sub : Str) (hi : Nat) : ∀ (l : List Nat) (st : Array Nat × Nat), ¬ st.fst.size < 1 → (forIn l st (occBody s sub hi 1)).run.fst = st.fst
  | [], st, h => rfl
  | a :: l, st, h => by
    rw [List.forIn_cons]
    unfold occBody
    rw [if_neg fun q => h q.1.1.1]
    exact occ_stop s sub hi l _ h
theorem occ_first (s sub : Str) (hi : Nat) : ∀ (l : List Nat) (free : Nat), (∀ i ∈ l, free ≤ i) →
    (forIn l ((#[] : Array Nat), free) (occBody s sub hi 1)).run.fst.toList.head? = l.find? fun i => decide (i + sub.length ≤ hi) && subAt s sub i
  | [], free, _ => rfl
  | a :: l, free, hf => by
    rw [List.forIn_cons, List.find?_cons]
    unfold occBody
    have ha : free ≤ a := hf a (List.mem_cons_self ..)
    by_cases hc : a + sub.length ≤ hi ∧ subAt s sub a = true
    · have e : (decide (a + sub.length ≤ hi) && subAt s sub a) = true := by rw [hc.2, Bool.and_true]; exact decide_eq_true hc.1
      rw [e]
      rw [if_pos ⟨⟨⟨by simp, ha⟩, hc.1⟩, hc.2⟩]
      show (forIn l ((#[] : Array Nat).push a, a + sub.length) (occBody s sub hi 1)).run.fst.toList.head? = some a
      rw [occ_stop _ _ _ _ _ (by simp)]
      simp
    · have e : (decide (a + sub.length ≤ hi) && subAt s sub a) = false := by
        rw [Bool.and_eq_false_iff]
        by_cases h1 : a + sub.length ≤ hi
        · exact .inr (by cases q : subAt s sub a with | false => rfl | true => exact absurd ⟨h1, q⟩ hc)
        · exact .inl (decide_eq_false h1)
      rw [e]
      rw [if_neg fun q => hc ⟨q.1.2, q.2⟩]
      exact occ_first s sub hi l free fun i hi' => hf i (List.mem_cons_of_mem _ hi')
theorem find1_eq (x y : Str) (p : Nat) : find1 x y p = (List.range' p (x.length + 1 - p)).find? fun i => decide (i + y.length ≤ x.length) && subAt x y i := by
  unfold find1
  rw [occ_eq]
  exact occ_first x y x.length _ p fun i hi => by
    have := (List.mem_range'.mp hi)
    obtain ⟨j, _, rfl⟩ := this
    omega
theorem find1_chr (x : Str) (c p : Nat) : find1 x (chr1 c) p = (List.range' p (x.length + 1 - p)).find? fun i => decide (x.cps.toList[i]? = some c) := by
  rw [find1_eq]
  congr 1
  funext i
  rw [Bool.eq_iff_iff, Bool.and_eq_true, decide_eq_true_eq, decide_eq_true_eq]
  exact subAt_one x c i
theorem find1_nil (x : Str) (p : Nat) (hp : p ≤ x.length) : find1 x (Str.ofString "") p = some p := by
  rw [find1_eq, show x.length + 1 - p = (x.length - p) + 1 by omega, List.range'_succ, List.find?_cons]
  have : (decide (p + (Str.ofString "").length ≤ x.length) && subAt x (Str.ofString "") p) = true := by
    rw [PySem.StrLaws.subAt_eq]
    have e : (Str.ofString "").length = 0 := by rfl
    have e2 : (Str.ofString "").cps.toList = [] := by rfl
    rw [e, e2, List.take_zero]
    simp [hp]
  rw [this]
theorem find_drop (l : List Nat) (c : Nat) : ∀ m p, p + m = l.length + 1 →
    match (List.range' p m).find? (fun i => decide (l[i]? = some c)) with
    | some k => k < l.length ∧ ∀ rs, subl (c :: rs) (l.drop p) = subl rs (l.drop (k + 1))
    | none => ∀ rs, subl (c :: rs) (l.drop p) = false
  | 0, p, h => by
    rw [List.range'_zero, List.find?_nil]
    intro rs
    rw [List.drop_eq_nil_of_le (by omega)]; rfl
  | m + 1, p, h => by
    rw [List.range'_succ, List.find?_cons]
    by_cases hc : l[p]? = some c
    · rw [decide_eq_true hc]
      obtain ⟨hlt, hg⟩ := List.getElem?_eq_some_iff.mp hc
      refine ⟨hlt, fun rs => ?_⟩
      rw [List.drop_eq_getElem_cons hlt, hg, subl, if_pos rfl]
    · rw [decide_eq_false hc]
      have ih := find_drop l c m (p + 1) (by omega)
      have step : ∀ rs, subl (c :: rs) (l.drop p) = subl (c :: rs) (l.drop (p + 1)) := by
        intro rs
        by_cases hlt : p < l.length
        · rw [List.drop_eq_getElem_cons hlt, subl, if_neg]
          intro e
          exact hc (by rw [List.getElem?_eq_getElem hlt, e])
        · rw [List.drop_eq_nil_of_le (by omega), List.drop_eq_nil_of_le (by omega)]
      revert ih
      cases (List.range' (p + 1) m).find? (fun i => decide (l[i]? = some c)) with
      | none => exact fun ih rs => (step rs).trans (ih rs)
      | some k => exact fun ih => ⟨ih.1, fun rs => (step rs).trans (ih.2 rs)⟩
theorem ell_row (x : Str) : ∀ (row : List Nat) (p : Nat), p ≤ x.length → ellGo x (row.map chr1 ++ [Str.ofString ""]) p = subl row (x.cps.toList.drop p)
  | [], p, hp => by
    rw [List.map_nil, List.nil_append, ellGo, find1_nil x p hp]
    show ellGo x [] _ = subl [] _
    rw [ellGo]
    cases x.cps.toList.drop p <;> rfl
  | r :: row, p, hp => by
    rw [List.map_cons, List.cons_append, ellGo, find1_chr]
    have hl : x.cps.toList.length = x.length := by rw [Array.length_toList]; rfl
    have h := find_drop x.cps.toList r (x.length + 1 - p) p (by omega)
    revert h
    cases (List.range' p (x.length + 1 - p)).find? (fun i => decide (x.cps.toList[i]? = some r)) with
    | none => exact fun h => (h row).symm
    | some k =>
      intro h
      show ellGo x (row.map chr1 ++ [Str.ofString ""]) (k + 1) = _
      rw [ell_row x row (k + 1) (by omega), h.2 row]
theorem ell_subl (x : Str) (row : List Nat) : ellGo x (Str.ofString "" :: (row.map chr1 ++ [Str.ofString ""])) 0 = subl row x.cps.toList := by
  rw [ellGo, find1_nil x 0 (Nat.zero_le _)]
  show ellGo x (row.map chr1 ++ [Str.ofString ""]) 0 = _
  rw [ell_row x row 0 (Nat.zero_le _), List.drop_zero]
/-! the signs of table B.1 -/
def goneN (n : Nat) : Nat := if n < 11 then goneSigns.getD n 0 else 65013 + n
theorem gone_in (P : Params) (turn : Int) : b1Is P ((goneAt turn : Nat) : Int) = true := by
  have h0 : 0 ≤ turn.fmod 27 := Int.fmod_nonneg_of_pos _ (by decide)
  have h27 : turn.fmod 27 < 27 := Int.fmod_lt_of_pos _ (by decide)
  obtain ⟨n, hn⟩ := Int.eq_ofNat_of_zero_le h0
  have e : goneAt turn = goneN n := by
    unfold goneAt goneN
    rw [hn]
    by_cases h : n < 11
    · rw [if_pos (by omega), if_pos h]; rfl
    · rw [if_neg (by omega), if_neg h]; omega
  have all : ((List.range 27).all fun n => b1Is P ((goneN n : Nat) : Int)) = true := by kernel_rfl
  rw [e]
  exact List.all_eq_true.mp all n (List.mem_range.mpr (by omega))
theorem alph_out (P : Params) (j i : Nat) (hj : j < 12) (hi : i < 26) : b1Is P (((alph.getD j 0 + i : Nat)) : Int) = false := by
  have all : ((List.range 12).all fun j => (List.range 26).all fun i => !b1Is P (((alph.getD j 0 + i : Nat)) : Int)) = true := by kernel_rfl
  have := List.all_eq_true.mp (List.all_eq_true.mp all j (List.mem_range.mpr hj)) i (List.mem_range.mpr hi)
  simpa using this
theorem left_app_gone (P : Params) (x : Str) (g : Nat) (h : b1Is P (g : Int) = true) : leftOf P (x ++ chr1 g) = leftOf P x := by
  unfold leftOf
  have e : (x ++ chr1 g).cps.toList = x.cps.toList ++ [g] := by
    show (x.cps ++ #[g]).toList = _
    simp
  rw [e, List.filter_append]
  simp [h]
theorem left_app_kept (P : Params) (x : Str) (k : Nat) (h : b1Is P (k : Int) = false) : leftOf P (x ++ chr1 k) = leftOf P x ++ chr1 k := by
  unfold leftOf
  have e : (x ++ chr1 k).cps.toList = x.cps.toList ++ [k] := by
    show (x.cps ++ #[k]).toList = _
    simp
  rw [e, List.filter_append]
  show (Str.mk _) = Str.mk (_ ++ #[k])
  simp [h]
end Mine
end

section
open PySem PySem.W PyProof.Rows PySem.Calls
set_option maxRecDepth 100000
set_option maxHeartbeats 400000
namespace Mine
def absC {α : Type} (ks : List α) : List (List α × Int) := ks.foldl (fun ps k => ps.map (fun q => (q.1, q.2 + 1)) ++ ps.map (fun q => (q.1 ++ [k], q.2))) [([], 0)]
def fs (need : Int) (parts : List (List Int)) (spot : Nat) : List (List Int) :=
  let place := placeAt need (parts.map (fun p => (p.length : Int)) ++ [0])
  if place = parts.length then parts ++ [[(spot : Int)]] else if place ≥ 0 then (parts.take place.toNat ++ [parts.getD place.toNat [] ++ [(spot : Int)]]) ++ parts.drop (place + 1).toNat else parts
def foundN (es rs : List Nat) : Nat → List (List Int)
  | 0 => []
  | i + 1 => fs (placeAt (es.getD i 0) rs) (foundN es rs i) i
def foundF (es rs : List Nat) : List (List Int) := (foundN es rs 6).filter fun p => (p.length : Int) == (rs.length : Int)
def chk (es rs : List Nat) : Bool :=
  let ac := absC es
  let fd := foundF es rs
  (match ac[63]? with | some q => q.1 == es | none => false) &&
  fd.all (fun part => part.all (fun s => decide (0 ≤ s) && decide (s ≤ 100)) && decide (0 ≤ maskOf part) && decide (maskOf part < 100) && (match ac[(maskOf part).toNat]? with | some q => q.1 == rs && subl rs q.1 | none => false)) &&
  (minL (7 :: (ac.filter fun q => !subl rs q.1).map (·.2)) == (fd.length : Int))
theorem chk_00 : ((List.range 3).all fun c => (List.range 3).all fun d => (List.range 3).all fun e => (List.range 3).all fun f => chk [0, 0, c, d, e, f] [0, 1] && chk [0, 0, c, d, e, f] [0, 1, 2]) = true := by decide +kernel
theorem chk_01 : ((List.range 3).all fun c => (List.range 3).all fun d => (List.range 3).all fun e => (List.range 3).all fun f => chk [0, 1, c, d, e, f] [0, 1] && chk [0, 1, c, d, e, f] [0, 1, 2]) = true := by decide +kernel
theorem chk_02 : ((List.range 3).all fun c => (List.range 3).all fun d => (List.range 3).all fun e => (List.range 3).all fun f => chk [0, 2, c, d, e, f] [0, 1] && chk [0, 2, c, d, e, f] [0, 1, 2]) = true := by decide +kernel
theorem chk_10 : ((List.range 3).all fun c => (List.range 3).all fun d => (List.range 3).all fun e => (List.range 3).all fun f => chk [1, 0, c, d, e, f] [0, 1] && chk [1, 0, c, d, e, f] [0, 1, 2]) = true := by decide +kernel
theorem chk_11 : ((List.range 3).all fun c => (List.range 3).all fun d => (List.range 3).all fun e => (List.range 3).all fun f => chk [1, 1, c, d, e, f] [0, 1] && chk [1, 1, c, d, e, f] [0, 1, 2]) = true := by decide +kernel
theorem chk_12 : ((List.range 3).all fun c => (List.range 3).all fun d => (List.range 3).all fun e => (List.range 3).all fun f => chk [1, 2, c, d, e, f] [0, 1] && chk [1, 2, c, d, e, f] [0, 1, 2]) = true := by decide +kernel
theorem chk_20 : ((List.range 3).all fun c => (List.range 3).all fun d => (List.range 3).all fun e => (List.range 3).all fun f => chk [2, 0, c, d, e, f] [0, 1] && chk [2, 0, c, d, e, f] [0, 1, 2]) = true := by decide +kernel
theorem chk_21 : ((List.range 3).all fun c => (List.range 3).all fun d => (List.range 3).all fun e => (List.range 3).all fun f => chk [2, 1, c, d, e, f] [0, 1] && chk [2, 1, c, d, e, f] [0, 1, 2]) = true := by decide +kernel
theorem chk_22 : ((List.range 3).all fun c => (List.range 3).all fun d => (List.range 3).all fun e => (List.range 3).all fun f => chk [2, 2, c, d, e, f] [0, 1] && chk [2, 2, c, d, e, f] [0, 1, 2]) = true := by decide +kernel
end Mine
end

section
open PySem PySem.W PyProof.Rows PySem.Calls
open Builtin.Str (glued occurrences partsBetween strKind subAt)
set_option maxRecDepth 100000
set_option maxHeartbeats 400000
namespace Mine
theorem chk_all {es : List Nat} (hl : es.length = 6) (h3 : ∀ e ∈ es, e < 3) : chk es [0, 1] = true ∧ chk es [0, 1, 2] = true := by
  match es, hl with
  | [a, b, c, d, e, f], _ =>
    have ha : a < 3 := h3 a (by simp)
    have hb : b < 3 := h3 b (by simp)
    have hc : c < 3 := h3 c (by simp)
    have hd : d < 3 := h3 d (by simp)
    have he : e < 3 := h3 e (by simp)
    have hf : f < 3 := h3 f (by simp)
    have go : ∀ {a b : Nat}, ((List.range 3).all fun c => (List.range 3).all fun d => (List.range 3).all fun e => (List.range 3).all fun f => chk [a, b, c, d, e, f] [0, 1] && chk [a, b, c, d, e, f] [0, 1, 2]) = true → chk [a, b, c, d, e, f] [0, 1] = true ∧ chk [a, b, c, d, e, f] [0, 1, 2] = true := fun {a b} h =>
      Bool.and_eq_true_iff.mp (List.all_eq_true.mp (List.all_eq_true.mp (List.all_eq_true.mp (List.all_eq_true.mp h c (List.mem_range.mpr hc)) d (List.mem_range.mpr hd)) e (List.mem_range.mpr he)) f (List.mem_range.mpr hf))
    have ha' : a = 0 ∨ a = 1 ∨ a = 2 := by omega
    have hb' : b = 0 ∨ b = 1 ∨ b = 2 := by omega
    rcases ha' with rfl | rfl | rfl <;> rcases hb' with rfl | rfl | rfl
    · exact go chk_00
    · exact go chk_01
    · exact go chk_02
    · exact go chk_10
    · exact go chk_11
    · exact go chk_12
    · exact go chk_20
    · exact go chk_21
    · exact go chk_22
/-! transport along the letters -/
theorem absC_map {α β : Type} (f : α → β) (ks : List α) : absC (ks.map f) = (absC ks).map fun q => (q.1.map f, q.2) := by
  have aux : ∀ (ks : List α) (ps : List (List α × Int)), (ks.map f).foldl (fun ps k => ps.map (fun q => (q.1, q.2 + 1)) ++ ps.map (fun q => (q.1 ++ [k], q.2))) (ps.map fun q => (q.1.map f, q.2)) =
      (ks.foldl (fun ps k => ps.map (fun q => (q.1, q.2 + 1)) ++ ps.map (fun q => (q.1 ++ [k], q.2))) ps).map fun q => (q.1.map f, q.2) := by
    intro ks
    induction ks with
    | nil => intro ps; rfl
    | cons k ks ih =>
      intro ps
      rw [List.map_cons, List.foldl_cons, List.foldl_cons, ← ih]
      congr 1
      simp only [List.map_append, List.map_map]
      congr 1
      apply List.map_congr_left
      intro q _
      simp
  exact aux ks [([], 0)]
theorem subl_map (f : Nat → Nat) : ∀ (rs xs : List Nat), (∀ r ∈ rs, ∀ x ∈ xs, f x = f r → x = r) → subl (rs.map f) (xs.map f) = subl rs xs
  | [], xs, _ => by cases xs <;> rfl
  | r :: rs, [], _ => rfl
  | r :: rs, x :: xs, h => by
    have h1 := h r (List.mem_cons_self) x (List.mem_cons_self)
    rw [List.map_cons, List.map_cons, subl, subl]
    by_cases e : x = r
    · subst e
      rw [if_pos rfl, if_pos rfl]
      exact subl_map f rs xs fun r' hr x' hx => h r' (List.mem_cons_of_mem _ hr) x' (List.mem_cons_of_mem _ hx)
    · rw [if_neg fun q => e (h1 q), if_neg e]
      have := subl_map f (r :: rs) xs fun r' hr x' hx => h r' hr x' (List.mem_cons_of_mem _ hx)
      rw [List.map_cons] at this
      exact this
theorem firstAt_map {α β : Type} [DecidableEq α] [DecidableEq β] (g : α → β) (y : α) : ∀ xs : List α, (∀ x ∈ xs, g x = g y → x = y) → firstAt (g y) (xs.map g) = firstAt y xs
  | [], _ => rfl
  | x :: xs, h => by
    rw [List.map_cons, firstAt, firstAt]
    by_cases e : x = y
    · subst e; rw [if_pos rfl, if_pos rfl]
    · rw [if_neg fun q => e (h x List.mem_cons_self q), if_neg e, firstAt_map g y xs fun x' hx => h x' (List.mem_cons_of_mem _ hx)]
theorem placeAt_map {α β : Type} [DecidableEq α] [DecidableEq β] (g : α → β) (y : α) (xs : List α) (h : ∀ x ∈ xs, g x = g y → x = y) : placeAt (g y) (xs.map g) = placeAt y xs := by
  unfold placeAt
  rw [firstAt_map g y xs h]
theorem chr1_inj {a b : Nat} (h : chr1 a = chr1 b) : a = b := by
  have : (#[a] : Array Nat) = #[b] := congrArg Str.cps h
  simpa using this
theorem found_tr (f : Nat → Nat) (es rs : List Nat) (hinj : ∀ x ∈ rs, ∀ y ∈ es, f x = f y → x = y) : ∀ i, i ≤ es.length → foundParts ⟨(es.map f).toArray⟩ ((rs.map f).map chr1) i = foundN es rs i
  | 0, _ => rfl
  | i + 1, hi => by
    rw [foundParts, foundN, found_tr f es rs hinj i (Nat.le_of_succ_le hi)]
    have hlt : i < es.length := hi
    have e : (Str.mk (es.map f).toArray).cps.getD i 0 = f (es.getD i 0) := by
      simp [Array.getD, List.getD_eq_getElem?_getD, hlt]
    have hm : es.getD i 0 ∈ es := by
      rw [List.getD_eq_getElem?_getD, List.getElem?_eq_getElem hlt]; exact List.getElem_mem hlt
    have e2 : placeAt (chr1 (f (es.getD i 0))) ((rs.map f).map chr1) = placeAt (es.getD i 0) rs := by
      rw [List.map_map]
      exact placeAt_map (chr1 ∘ f) (es.getD i 0) rs fun x hx h => hinj x hx _ hm (chr1_inj h)
    rw [e]
    show fs (placeAt (chr1 (f (es.getD i 0))) ((rs.map f).map chr1)) (foundN es rs i) i = _
    rw [e2]
/-! the choices -/
def keptOf (low c : Int) : Nat := 97 + (low + c.fmod 3).toNat
theorem choices_abs (P : Params) (low : Int) (h0 : 0 ≤ low) (h1 : low ≤ 23) (cs : List Int) : (choicesL low cs).map (fun q => (leftOf P q.1, q.2)) = (absC (cs.map (keptOf low))).map fun q => (Str.mk q.1.toArray, q.2) := by
  have aux : ∀ (cs : List Int) (ps : List (Str × Int)) (aps : List (List Nat × Int)), ps.map (fun q => (leftOf P q.1, q.2)) = aps.map (fun q => (Str.mk q.1.toArray, q.2)) →
      (cs.foldl (fun ps c => choiceStep low c ps) ps).map (fun q => (leftOf P q.1, q.2)) = ((cs.map (keptOf low)).foldl (fun ps k => ps.map (fun q => (q.1, q.2 + 1)) ++ ps.map (fun q => (q.1 ++ [k], q.2))) aps).map fun q => (Str.mk q.1.toArray, q.2) := by
    intro cs
    induction cs with
    | nil => intro ps aps h; exact h
    | cons c cs ih =>
      intro ps aps h
      rw [List.map_cons, List.foldl_cons, List.foldl_cons]
      refine ih _ _ ?_
      have hf := fmod3 c
      have hk : b1Is P ((keptOf low c : Nat) : Int) = false := alph_out P 0 (low + c.fmod 3).toNat (by decide) (by omega)
      have l1 : (choiceStep low c ps).map (fun q => (leftOf P q.1, q.2)) = (ps.map (fun q => (leftOf P q.1, q.2))).map (fun q => (q.1, q.2 + 1)) ++ (ps.map (fun q => (leftOf P q.1, q.2))).map (fun q => (q.1 ++ chr1 (keptOf low c), q.2)) := by
        unfold choiceStep
        rw [List.map_append, List.map_map, List.map_map, List.map_map, List.map_map]
        congr 1
        · apply List.map_congr_left
          intro q _
          show (leftOf P (q.1 ++ chr1 _), q.2 + 1) = (leftOf P q.1, q.2 + 1)
          rw [left_app_gone P _ _ (gone_in P _)]
        · apply List.map_congr_left
          intro q _
          show (leftOf P (q.1 ++ chr1 (keptOf low c)), q.2) = (leftOf P q.1 ++ chr1 (keptOf low c), q.2)
          rw [left_app_kept P _ _ hk]
      rw [l1, h, List.map_append, List.map_map, List.map_map, List.map_map, List.map_map]
      congr 1
      apply List.map_congr_left
      intro q _
      show (Str.mk q.1.toArray ++ chr1 (keptOf low c), q.2) = (Str.mk (q.1 ++ [keptOf low c]).toArray, q.2)
      congr 1
      show Str.mk (q.1.toArray ++ #[keptOf low c]) = _
      simp
  refine aux cs [(Str.ofString "", 0)] [([], 0)] ?_
  rfl
theorem typed_out (P : Params) (low : Int) (h0 : 0 ≤ low) (h1 : low ≤ 23) (cs : List Int) : leftOf P ⟨(cs.map fun c => spelledAt (low + c.fmod 3) (c.fdiv 3)).toArray⟩ = ⟨(cs.map fun c => spelledAt (low + c.fmod 3) (c.fdiv 3)).toArray⟩ := by
  unfold leftOf
  congr 1
  rw [List.toList_toArray, List.filter_eq_self.mpr]
  intro k hk
  obtain ⟨c, _, rfl⟩ := List.mem_map.mp hk
  have hf := fmod3 c
  have h12 : (c.fdiv 3).fmod 12 < 12 := Int.fmod_lt_of_pos _ (by decide)
  have h00 : 0 ≤ (c.fdiv 3).fmod 12 := Int.fmod_nonneg_of_pos _ (by decide)
  unfold spelledAt
  rw [alph_out P _ (low + c.fmod 3).toNat (by omega) (by omega)]
  rfl
end Mine
end

section
open PySem PySem.W PyProof.Rows PySem.Calls
open Builtin.Str (glued occurrences partsBetween strKind subAt)
set_option maxRecDepth 100000
set_option maxHeartbeats 400000
namespace Mine
def lettersN (n : Nat) : Str := ⟨((List.range 3).map fun (i : Nat) => (97 + (n : Int) + (i : Int)).toNat).toArray⟩
def rowN (n s e : Nat) : Str := Txt.slice (lettersN n ++ lettersN n) (some (s : Int)) (some ((s : Int) + 2 + (e : Int)))
def wantN (n s e : Nat) : Str := (Str.ofString "..." ++ glued (Str.ofString "...") ((rowN n s e).cps.toList.map chr1)) ++ Str.ofString "..."
def rowChk (n s e : Nat) : Bool :=
  decide ((rowN n s e).cps.toList = (List.range (2 + e)).map fun i => 97 + n + (i + s) % 3) &&
  !(occurrences (wantN n s e) (Str.ofString "...") 0 (wantN n s e).length 1).isEmpty &&
  !(decide ((wantN n s e).length < (Str.ofString "...").length) || decide (strKind (wantN n s e) < strKind (Str.ofString "..."))) &&
  !(occurrences (wantN n s e) (Str.ofString "...") 0 (wantN n s e).length ((wantN n s e).length + 1)).isEmpty &&
  decide (partsBetween (wantN n s e) (occurrences (wantN n s e) (Str.ofString "...") 0 (wantN n s e).length ((wantN n s e).length + 1)) (Str.ofString "...").length = Str.ofString "" :: ((rowN n s e).cps.toList.map chr1 ++ [Str.ofString ""])) &&
  JoinOk (Str.ofString "...") (PyProof.Rows.signs (rowN n s e)) &&
  decide ((glued (Str.ofString "...") ((rowN n s e).cps.toList.map chr1)).length ≤ 100)
theorem row_00 : ((List.range 24).all fun n => rowChk n 0 0) = true := by decide +kernel
theorem row_01 : ((List.range 24).all fun n => rowChk n 0 1) = true := by decide +kernel
theorem row_10 : ((List.range 24).all fun n => rowChk n 1 0) = true := by decide +kernel
theorem row_11 : ((List.range 24).all fun n => rowChk n 1 1) = true := by decide +kernel
theorem row_20 : ((List.range 24).all fun n => rowChk n 2 0) = true := by decide +kernel
theorem row_21 : ((List.range 24).all fun n => rowChk n 2 1) = true := by decide +kernel
theorem row_chk {n s e : Nat} (hn : n < 24) (hs : s < 3) (he : e < 2) : rowChk n s e = true := by
  have h00 := List.all_eq_true.mp row_00 n (List.mem_range.mpr hn)
  have h01 := List.all_eq_true.mp row_01 n (List.mem_range.mpr hn)
  have h10 := List.all_eq_true.mp row_10 n (List.mem_range.mpr hn)
  have h11 := List.all_eq_true.mp row_11 n (List.mem_range.mpr hn)
  have h20 := List.all_eq_true.mp row_20 n (List.mem_range.mpr hn)
  have h21 := List.all_eq_true.mp row_21 n (List.mem_range.mpr hn)
  match s, e, hs, he with
  | 0, 0, _, _ => exact h00
  | 0, 1, _, _ => exact h01
  | 1, 0, _, _ => exact h10
  | 1, 1, _, _ => exact h11
  | 2, 0, _, _ => exact h20
  | 2, 1, _, _ => exact h21
  | s + 3, _, h, _ => exact absurd h (by omega)
  | _, e + 2, _, h => exact absurd h (by omega)
theorem absC_mem {ks : List Nat} : ∀ q ∈ absC ks, ∀ x ∈ q.1, x ∈ ks := by
  have aux : ∀ (ks K : List Nat) (ps : List (List Nat × Int)), (∀ k ∈ ks, k ∈ K) → (∀ q ∈ ps, ∀ x ∈ q.1, x ∈ K) → ∀ q ∈ ks.foldl (fun ps k => ps.map (fun q => (q.1, q.2 + 1)) ++ ps.map (fun q => (q.1 ++ [k], q.2))) ps, ∀ x ∈ q.1, x ∈ K := by
    intro ks
    induction ks with
    | nil => intro K ps _ h; exact h
    | cons k ks ih =>
      intro K ps hk h
      rw [List.foldl_cons]
      refine ih K _ (fun k' h' => hk k' (List.mem_cons_of_mem _ h')) fun q hq x hx => ?_
      rcases List.mem_append.mp hq with hq | hq <;> obtain ⟨q', hq', rfl⟩ := List.mem_map.mp hq
      · exact h q' hq' x hx
      · rcases List.mem_append.mp hx with hx | hx
        · exact h q' hq' x hx
        · rw [List.mem_singleton.mp hx]; exact hk k List.mem_cons_self
  exact aux ks ks [([], 0)] (fun _ h => h) (fun q hq x hx => by rw [List.mem_singleton.mp hq] at hx; cases hx)
theorem zip_map_self {α β : Type} (g : α → β) : ∀ l : List α, l.zip (l.map g) = l.map fun x => (x, g x)
  | [] => rfl
  | x :: l => by rw [List.map_cons, List.zip_cons_cons, zip_map_self g l]; rfl

theorem rot_eq {n d s : Nat} (hd : d < 3) (hs : s < 3) : 97 + ((n : Int) + (d : Int)).toNat = 97 + n + ((((d : Nat) : Int).toNat + 3 - s) % 3 + s) % 3 := by
  have e1 : ((n : Int) + (d : Int)).toNat = n + d := by omega
  rw [e1, Int.toNat_natCast]
  have h1 : d = 0 ∨ d = 1 ∨ d = 2 := by omega
  have h2 : s = 0 ∨ s = 1 ∨ s = 2 := by omega
  rcases h1 with rfl | rfl | rfl <;> rcases h2 with rfl | rfl | rfl <;> rfl
theorem kept_eq {n : Nat} {x : Int} (hx : 0 ≤ x) : (97 + (n : Int) + x).toNat = 97 + ((n : Int) + x).toNat := by omega
theorem law_ok (P : Params) (cs : List Int) (hcl : cs.length = 7) : LawOk P cs := by
  obtain ⟨hlo1, hlo2⟩ := low_bound cs
  obtain ⟨hs1, hs2⟩ := fmod3 (seventh cs)
  have he1 : 0 ≤ ((seventh cs).fdiv 3).fmod 2 := Int.fmod_nonneg_of_pos _ (by decide)
  have he2 : ((seventh cs).fdiv 3).fmod 2 < 2 := Int.fmod_lt_of_pos _ (by decide)
  obtain ⟨n, hn⟩ := Int.eq_ofNat_of_zero_le hlo1
  obtain ⟨s, hs⟩ := Int.eq_ofNat_of_zero_le hs1
  obtain ⟨e, he⟩ := Int.eq_ofNat_of_zero_le he1
  have hn24 : n < 24 := by omega
  have hs3 : s < 3 := by omega
  have he3 : e < 2 := by omega
  have hrow : rowOf cs = rowN n s e := by
    unfold rowOf rowN lettersOf lettersN
    rw [hn, hs, he]
  have hwant : wantOf cs = wantN n s e := by
    unfold wantOf wantN
    rw [hrow]
  have hchk := row_chk hn24 hs3 he3
  unfold rowChk at hchk
  simp only [Bool.and_eq_true, decide_eq_true_eq, Bool.not_eq_true'] at hchk
  obtain ⟨⟨⟨⟨⟨⟨c1, c2⟩, c3⟩, c4⟩, c5⟩, c6⟩, c7⟩ := hchk
  -- the letters
  obtain ⟨f, hf⟩ : ∃ f : Nat → Nat, ∀ i, f i = 97 + n + (i + s) % 3 := ⟨fun i => 97 + n + (i + s) % 3, fun _ => rfl⟩
  have finj : ∀ x y, x < 3 → y < 3 → f x = f y → x = y := by
    intro x y hx hy h
    rw [hf, hf] at h
    omega
  obtain ⟨es, hes⟩ : ∃ es : List Nat, es = (cs.take 6).map fun c => ((c.fmod 3).toNat + 3 - s) % 3 := ⟨_, rfl⟩
  obtain ⟨rs, hrs⟩ : ∃ rs : List Nat, rs = List.range (2 + e) := ⟨_, rfl⟩
  have t6 : (cs.take 6).length = 6 := by rw [List.length_take, hcl]; rfl
  have esl : es.length = 6 := by rw [hes, List.length_map, t6]
  have es3 : ∀ x ∈ es, x < 3 := by
    intro x hx
    rw [hes] at hx
    obtain ⟨c, _, rfl⟩ := List.mem_map.mp hx
    exact Nat.mod_lt _ (by decide)
  have rs3 : ∀ x ∈ rs, x < 3 := by
    intro x hx
    rw [hrs] at hx
    have := List.mem_range.mp hx
    omega
  have hks : (cs.take 6).map (keptOf (lowOf cs)) = es.map f := by
    rw [hes, List.map_map]
    apply List.map_congr_left
    intro c _
    obtain ⟨b1, b2⟩ := fmod3 c
    obtain ⟨d, hd⟩ := Int.eq_ofNat_of_zero_le b1
    have h3 : d < 3 := by omega
    show keptOf (lowOf cs) c = f (((c.fmod 3).toNat + 3 - s) % 3)
    rw [hf]
    unfold keptOf
    rw [hn, hd]
    exact rot_eq h3 hs3
  have hw : (cs.take 6).map (fun c => (97 + lowOf cs + c.fmod 3).toNat) = es.map f := by
    rw [← hks]
    refine List.map_congr_left fun c _ => ?_
    obtain ⟨b1, b2⟩ := fmod3 c
    unfold keptOf
    rw [hn]
    exact kept_eq (by omega)
  have hword : wordOf cs = ⟨(es.map f).toArray⟩ := by
    unfold wordOf
    rw [hw]
  have hrl : (rowOf cs).cps.toList = rs.map f := by
    rw [hrow, c1, hrs]
    exact List.map_congr_left fun i _ => (hf i).symm
  have hrlen : (rowOf cs).length = rs.length := by
    show (rowOf cs).cps.size = _
    rw [← Array.length_toList, hrl, List.length_map]
  have rsl : rs.length = 2 + e := by rw [hrs]; exact List.length_range
  have hch : chk es rs = true := by
    have h := chk_all esl es3
    have : e = 0 ∨ e = 1 := by omega
    rcases this with h0 | h0
    · have : rs = [0, 1] := by rw [hrs, h0]; rfl
      rw [this]; exact h.1
    · have : rs = [0, 1, 2] := by rw [hrs, h0]; rfl
      rw [this]; exact h.2
  unfold chk at hch
  simp only [Bool.and_eq_true] at hch
  obtain ⟨⟨k1, k2⟩, k3⟩ := hch
  -- pairs
  have hpairs : (pairsOf cs).map (fun q => (leftOf P q.1, q.2)) = (absC es).map fun q => (Str.mk (q.1.map f).toArray, q.2) := by
    unfold pairsOf
    rw [choices_abs P _ hlo1 hlo2, hks, absC_map, List.map_map]
    rfl
  have hlefts : leftsOf P cs = (absC es).map fun q => Str.mk (q.1.map f).toArray := by
    have := congrArg (List.map Prod.fst) hpairs
    rw [List.map_map, List.map_map] at this
    exact this
  have hsub : ∀ q ∈ absC es, subl (rs.map f) (q.1.map f) = subl rs q.1 := fun q hq => subl_map f rs q.1 fun r hr x hx h => finj x r (es3 x (absC_mem q hq x hx)) (rs3 r hr) h
  have hell : ∀ l : Str, ellGo l (Str.ofString "" :: ((rowOf cs).cps.toList.map chr1 ++ [Str.ofString ""])) 0 = subl (rs.map f) l.cps.toList := fun l => by rw [ell_subl, hrl]
  have htold : toldOf P cs = (absC es).map fun q => subl rs q.1 := by
    unfold toldOf
    rw [hlefts, List.map_map]
    apply List.map_congr_left
    intro q hq
    show ellGo _ _ 0 = _
    rw [hell, ← hsub q hq]
  have hfound : foundOf cs = foundF es rs := by
    unfold foundOf foundL foundF
    have wl : (wordOf cs).length = 6 := by rw [hword]; show ((es.map f).toArray).size = 6; rw [List.size_toArray, List.length_map, esl]
    rw [wl, hrl, hword, found_tr f es rs (fun x hx y hy h => finj x y (rs3 x hx) (es3 y hy) h) 6 (by omega), hrlen]
  have llen : (leftsOf P cs).length = 64 := by
    unfold leftsOf pairsOf
    rw [List.length_map, (choices_bound _ _).1, t6]
  refine ⟨by rw [hwant]; exact c2, by rw [hwant]; exact c3, by rw [hwant]; exact c4, by rw [hwant, hrow]; exact c5, by rw [hrow]; exact c6, by rw [hrow]; exact c7, by rw [hrlen, rsl]; omega, typed_out P _ hlo1 hlo2 _, ?_, fun part hp => ?_, ?_⟩
  · have e1 : ((-1 : Int) + (leftsOf P cs).length).toNat = 63 := by rw [llen]; rfl
    rw [e1, hlefts, List.getElem?_map]
    cases hq : (absC es)[63]? with
    | none => rw [hq] at k1; cases k1
    | some q =>
      rw [hq] at k1
      have k1 : q.1 = es := eq_of_beq k1
      show some (Str.mk (q.1.map f).toArray) = some (wordOf cs)
      rw [k1, hword]
  · rw [hfound] at hp
    have h := List.all_eq_true.mp k2 part hp
    simp only [Bool.and_eq_true, decide_eq_true_eq, List.all_eq_true] at h
    obtain ⟨⟨⟨g1, g2⟩, g3⟩, g4⟩ := h
    refine ⟨fun x hx => g1 x hx, g2, by omega, ?_, ?_⟩
    · rw [hlefts, List.getElem?_map]
      cases hq : (absC es)[(maskOf part).toNat]? with
      | none => rw [hq] at g4; cases g4
      | some q =>
        rw [hq] at g4
        simp only [Bool.and_eq_true] at g4
        have g4 : q.1 = rs := eq_of_beq g4.1
        show some (Str.mk (q.1.map f).toArray) = some (rowOf cs)
        rw [g4, ← hrl]
    · rw [htold, List.getElem?_map]
      cases hq : (absC es)[(maskOf part).toNat]? with
      | none => rw [hq] at g4; cases g4
      | some q =>
        rw [hq] at g4
        simp only [Bool.and_eq_true] at g4
        show some (subl rs q.1) = some true
        rw [g4.2]
  · rw [hfound]
    have h1 : toldOf P cs = (pairsOf cs).map fun q => subl (rs.map f) (leftOf P q.1).cps.toList := by
      unfold toldOf leftsOf
      rw [List.map_map]
      apply List.map_congr_left
      intro q _
      exact hell _
    have h2 : (pairsOf cs).map (fun q => (subl (rs.map f) (leftOf P q.1).cps.toList, q.2)) = (absC es).map fun q => (subl rs q.1, q.2) := by
      have := congrArg (List.map fun q : Str × Int => (subl (rs.map f) q.1.cps.toList, q.2)) hpairs
      rw [List.map_map, List.map_map] at this
      refine this.trans ?_
      apply List.map_congr_left
      intro q hq
      show (subl (rs.map f) (q.1.map f).toArray.toList, q.2) = _
      rw [List.toList_toArray, hsub q hq]
    have h3 : ((((pairsOf cs).zip (toldOf P cs)).filter fun q => !q.2).map fun q => q.1.2) = ((absC es).filter fun q => !subl rs q.1).map (·.2) := by
      rw [h1, zip_map_self]
      have a1 : (((pairsOf cs).map fun q => (q, subl (rs.map f) (leftOf P q.1).cps.toList)).filter fun q => !q.2).map (fun q => q.1.2) = (((pairsOf cs).map fun q => (subl (rs.map f) (leftOf P q.1).cps.toList, q.2)).filter fun q => !q.1).map (·.2) := by
        rw [List.filter_map, List.filter_map, List.map_map, List.map_map]
        rfl
      rw [a1, h2, List.filter_map, List.map_map]
      rfl
    rw [h3]
    exact eq_of_beq k3
end Mine
end

section
open PySem PySem.W PyProof.Rows PySem.Calls
set_option maxRecDepth 100000
set_option maxHeartbeats 4000000
namespace Mine
theorem left_ok : LeftO p qv lo Xt0 HK.obs HK.val 40000 :=
  LeftO.of_pieces (H₀ := boot_heap) (H₁ := H3) (gs₀ := #[]) (gs₁ := #[]) (d₀ := boot_drawn) (d₁ := boot_drawn) (k₀ := boot_toks) (k₁ := 2318) (m₀ := 11) (ann := ann)
    open_ok size_ok run_all (by decide) (fun w => funext fun os => looks_pair (look_a w os) (looks_pair (look_b w os) (look_c w os)))
theorem paired_ints {ok : Addr → Prop} {h : Heap} {vs : List Value} {ns : List Int} (H : IntsAre vs ns) : Paired (tInt.R ok h) vs ns := by
  induction H with
  | nil => exact .nil
  | cons n t r ih => exact .cons ⟨t, rfl⟩ ih
/-- the law's call, from the ground -/
theorem law_call {w : World} {s₁ : Shared} {mg mb : Str → Option Value} (G : Gnd w s₁.heap mg mb) (OK : ∀ cs : List Int, cs.length = 7 → LawOk w.params cs) {fa la : Addr} {vs : List Value} {ns : List Int} (hmg : mg "law" = some (.ref fa)) (hl : s₁.heap.IsList la vs.toArray) (hI : IntsAre vs ns) (hn : ns.length ≤ 63)
    {Q : Value → Shared → Prop} {E : Value → Shared → Prop} (q : ∀ s', (∃ h' tk, s' = { s₁ with heap := h', toks := tk }) → s₁.heap.StaysIn s'.heap → Q (.bool true) s') : wpAny (model p w) callerA (call (.ref fa) [.ref la]) Q E s₁ := by
  have C : Cx s₁.heap 6 callerA s₁.heap := ⟨rfl, by decide, by decide, ⟨[], rfl, trivial⟩, fun _ _ e => e⟩
  refine f_law G ns (by omega) OK callerA s₁ [.ref la] fa hmg C ⟨_, rfl, la, vs, rfl, trivial, hl, paired_ints hI⟩ _ _ fun v s' k r => ?_
  have r : v = .bool true := r
  subst r
  exact q s' k.same (k.ext.base fun _ _ e => e)
end Mine
end

open PySem PySem.W PyProof.Rows PySem.Calls
set_option maxRecDepth 100000 in
set_option maxHeartbeats 8000000 in
theorem PySem.Challenge.cw_tc0033_01_holds : PySem.Challenge.rw_tc0033_01.Holds := by
  w_on
  o_law
  refine holds_open (q := Mine.qv) (loose := Mine.lo) (Xt := fun s => xlAt Mine.qv [] s && recOk [] s) (XP := XL Mine.qv []) (Yf := Hook.obs Mine.HK) (Ya := Hook.val Mine.HK) (YP := Hook.says Mine.HK) (N := 40000) Mine.left_ok (Hook.of Mine.HK) (Hook.keeps Mine.HK) (fun s e => xl_of s (Bool.and_eq_true_iff.mp e).1) XL.keeps (by rfl) (by rfl) (by rfl) (fun s e => recFacts_of (Bool.and_eq_true_iff.mp e).2) (by rfl) (by assumption) (by decide +kernel) ⟨rfl, rfl, rfl, rfl, rfl, by decide +kernel⟩ ?hw ?hc
  case hw => w_witness2
  intro w s₀ s₁ mg mb G Y fa o pm cd doc dV kV ho hd hcd hD hmg hg args vals as hpre hlay hrd hwl hlo
  wrow_args hpre hlay hrd hwl hlo
  clear hd hcd hD
  rename_i ns _ _ _ _ _ _ _ la vs _ hL _ _ _ hI _ h63 _
  refine Mine.law_call ⟨⟨_, G.T⟩, kIn_of Y⟩ (Mine.law_ok w.params) hmg hL hI (by omega) fun s' same st => ?_
  obtain ⟨h', tk, rfl⟩ := same
  refine ⟨.inl ⟨.bool true, .bool true, [], rfl, (by intro cls; rfl), .bool true, (by first | rfl | wrow_post), ?_⟩, .of_keep st, rfl, .of_eq hg⟩
  exact fun _ => ⟨.nil, fun _ ha => nomatch ha⟩
