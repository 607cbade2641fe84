import PyProof.Rows.All
import Wide.All
import OpenK.AllK
import Wide.FinOn
import Lean
import PySem.Challenge.RW_ul0020_02
set_option Elab.async false
set_option linter.unusedVariables false
open PySem PySem.W PyProof.Rows PySem.Challenge
namespace Mine
section
variable {tb : String → Option Builtin} {p : Program} {w : World} {n₀ : Nat} {ann : Option Value}

theorem topGo_add : ∀ {m n : Nat} {s s' s'' : Shared} {t t' t'' : Thread}, topGo tb p w n₀ ann m s t = some (s', t') → topGo tb p w n₀ ann n s' t' = some (s'', t'') → topGo tb p w n₀ ann (m + n) s t = some (s'', t'')
  | 0, n, s, s', s'', t, t', t'', h, k => by
    obtain ⟨rfl, rfl⟩ : s = s' ∧ t = t' := by simpa [topGo] using h
    rw [Nat.zero_add]; exact k
  | m + 1, n, s, s', s'', t, t', t'', h, k => by
    rw [show m + 1 + n = m + n + 1 by omega]
    unfold topGo at h ⊢
    cases ht : through t with
    | true => rw [ht] at h; cases h
    | false =>
      rw [ht] at h
      cases hk : stepOk n₀ ann t with
      | false => rw [hk] at h; cases h
      | true =>
        rw [hk] at h
        cases hs : step (denote tb) p w s t with
        | halt o s₂ => rw [hs] at h; cases h
        | go s₂ t₂ => rw [hs] at h; exact topGo_add h k

theorem topGo_one {s s' : Shared} {cur : Sem Fin} {code : Code} {pos : Pos} {f : Frame} {B : List Frame} {t' : Thread} (hk : stepOk n₀ ann ⟨cur, code, pos, f :: B⟩ = true)
    (hs : step (denote tb) p w s ⟨cur, code, pos, f :: B⟩ = .go s' t') : topGo tb p w n₀ ann 1 s ⟨cur, code, pos, f :: B⟩ = some (s', t') := by
  unfold topGo
  rw [show through ⟨cur, code, pos, f :: B⟩ = false from rfl, hk, hs]
  rfl

/-- a call that runs to its end: any frame, any continuation -/
noncomputable def CallRuns (tb : String → Option Builtin) (p : Program) (w : World) (n₀ : Nat) (ann : Option Value) (c : Code) (m : Nat) (s : Shared) (v : Value) (s' : Shared) : Prop :=
  ∀ (h : Option Value) (g : Bool) (l : List Value) (k : Result → Sem Fin) (b : List Stmt) (env : Env) (pos : Pos) (f : Frame) (B : List Frame),
    ∃ pos', topGo tb p w n₀ ann m s ⟨.call c h g l k, .body b env, pos, f :: B⟩ = some (s', ⟨k (.ok (.ret v)), .body b env, pos', f :: B⟩)

inductive Ev (tb : String → Option Builtin) (p : Program) (w : World) (n₀ : Nat) (ann : Option Value) {α : Type} : Sem α → Shared → Nat → α → Shared → Prop
  | pure {a s} : Ev tb p w n₀ ann (.pure a) s 0 a s
  | rule {t k s n a s'} (h : Ev tb p w n₀ ann (k ()) s n a s') : Ev tb p w n₀ ann (.rule t k) s (1 + n) a s'
  | «at» {q k s n a s'} (h : Ev tb p w n₀ ann (k ()) s n a s') : Ev tb p w n₀ ann (.at q k) s (1 + n) a s'
  | load {b part k s o n a s'} (ho : s.heap.get? b = some o) (h : Ev tb p w n₀ ann (k o) s n a s') : Ev tb p w n₀ ann (.load b part k) s (1 + n) a s'
  | update {b part f k s n a s'} (hb : n₀ ≤ b) (ho : (s.heap.get? b).isSome = true) (h : Ev tb p w n₀ ann (k ()) { s with heap := s.heap.update b f } n a s') : Ev tb p w n₀ ann (.update b part f k) s (1 + n) a s'
  | alloc {o k s n a s'} (h : Ev tb p w n₀ ann (k s.heap.objs.size) { s with heap := s.heap.push o } n a s') : Ev tb p w n₀ ann (.alloc o k) s (1 + n) a s'
  | point {l k s n a s'} (h : Ev tb p w n₀ ann (k ()) s n a s') : Ev tb p w n₀ ann (.point l k) s (1 + n) a s'
  | fresh {k s n a s'} (h : Ev tb p w n₀ ann (k s.toks) { s with toks := s.toks + 1 } n a s') : Ev tb p w n₀ ann (.fresh k) s (1 + n) a s'
  | ask {k s n a s'} (h : Ev tb p w n₀ ann (k ⟨p, w.params⟩) s n a s') : Ev tb p w n₀ ann (.ask k) s (1 + n) a s'
  | call {c hd g l k s m v s₁ n a s'} (hc : CallRuns tb p w n₀ ann c m s v s₁) (h : Ev tb p w n₀ ann (k (.ok (.ret v))) s₁ n a s') : Ev tb p w n₀ ann (.call c hd g l k) s (m + n) a s'

theorem Ev.cast {α : Type} {x y : Sem α} {s s' t' : Shared} {n m : Nat} {a : α} (h : Ev tb p w n₀ ann x s n a s') (e : y = x) (hn : n = m) (hs : s' = t') : Ev tb p w n₀ ann y s m a t' := by
  subst e; subst hn; subst hs; exact h

theorem Ev.bind {α β : Type} {x : Sem α} {f : α → Sem β} {s s' s'' : Shared} {n m : Nat} {a : α} {b : β} (h : Ev tb p w n₀ ann x s n a s') (k : Ev tb p w n₀ ann (f a) s' m b s'') : Ev tb p w n₀ ann (x.bind f) s (n + m) b s'' := by
  induction h with
  | pure => rw [Nat.zero_add]; exact k
  | rule _ ih => rw [Nat.add_assoc]; exact .rule (ih k)
  | «at» _ ih => rw [Nat.add_assoc]; exact .at (ih k)
  | load ho _ ih => rw [Nat.add_assoc]; exact .load ho (ih k)
  | update hb ho _ ih => rw [Nat.add_assoc]; exact .update hb ho (ih k)
  | alloc _ ih => rw [Nat.add_assoc]; exact .alloc (ih k)
  | point _ ih => rw [Nat.add_assoc]; exact .point (ih k)
  | fresh _ ih => rw [Nat.add_assoc]; exact .fresh (ih k)
  | ask _ ih => rw [Nat.add_assoc]; exact .ask (ih k)
  | call hc _ ih => rw [Nat.add_assoc]; exact .call hc (ih k)

theorem Ev.keep {α : Type} {x : Sem α} {s s' : Shared} {n : Nat} {a : α} (vs : List Value) (h : Ev tb p w n₀ ann x s n a s') : Ev tb p w n₀ ann (x.keep vs) s n a s' := by
  induction h with
  | pure => exact .pure
  | rule _ ih => exact .rule ih
  | «at» _ ih => exact .at ih
  | load ho _ ih => exact .load ho ih
  | update hb ho _ ih => exact .update hb ho ih
  | alloc _ ih => exact .alloc ih
  | point _ ih => exact .point ih
  | fresh _ ih => exact .fresh ih
  | ask _ ih => exact .ask ih
  | call hc _ ih => exact .call hc ih
theorem Ev.holding {α : Type} {x : Sem α} {s s' : Shared} {n : Nat} {a : α} (vs : List Value) (h : Ev tb p w n₀ ann x s n a s') : Ev tb p w n₀ ann (PySem.holding vs x) s n a s' := by
  unfold PySem.holding
  split
  · exact h
  · exact h.keep _
theorem Ev.tryCatch {α : Type} {x : Sem α} {f : Value → Sem α} {s s' : Shared} {n : Nat} {a : α} (h : Ev tb p w n₀ ann x s n a s') : Ev tb p w n₀ ann (x.tryCatch f) s n a s' := by
  induction h with
  | pure => exact .pure
  | rule _ ih => exact .rule ih
  | «at» _ ih => exact .at ih
  | load ho _ ih => exact .load ho ih
  | update hb ho _ ih => exact .update hb ho ih
  | alloc _ ih => exact .alloc ih
  | point _ ih => exact .point ih
  | fresh _ ih => exact .fresh ih
  | ask _ ih => exact .ask ih
  | call hc _ ih => exact .call hc ih
theorem Ev.onRaise {α : Type} {x : Sem α} {f : Value → Sem Unit} {s s' : Shared} {n : Nat} {a : α} (h : Ev tb p w n₀ ann x s n a s') : Ev tb p w n₀ ann (x.onRaise f) s n a s' := by
  induction h with
  | pure => exact .pure
  | rule _ ih => exact .rule ih
  | «at» _ ih => exact .at ih
  | load ho _ ih => exact .load ho ih
  | update hb ho _ ih => exact .update hb ho ih
  | alloc _ ih => exact .alloc ih
  | point _ ih => exact .point ih
  | fresh _ ih => exact .fresh ih
  | ask _ ih => exact .ask ih
  | call hc _ ih => exact .call hc ih

theorem Ev.go {α : Type} {x : Sem α} {s s' : Shared} {n : Nat} {a : α} (h : Ev tb p w n₀ ann x s n a s') : ∀ (K : α → Sem Fin) (b : List Stmt) (env : Env) (pos : Pos) (f : Frame) (B : List Frame),
    ∃ pos', topGo tb p w n₀ ann n s ⟨x.bind K, .body b env, pos, f :: B⟩ = some (s', ⟨K a, .body b env, pos', f :: B⟩) := by
  intro K b env pos f B
  induction h generalizing pos with
  | pure => exact ⟨pos, rfl⟩
  | rule _ ih => obtain ⟨q, hq⟩ := ih pos; exact ⟨q, topGo_add (topGo_one rfl rfl) hq⟩
  | «at» _ ih => obtain ⟨q, hq⟩ := ih _; exact ⟨q, topGo_add (topGo_one rfl rfl) hq⟩
  | @load b' part k s o n a s' ho _ ih =>
    obtain ⟨q, hq⟩ := ih pos
    refine ⟨q, topGo_add (topGo_one rfl ?_) hq⟩
    obtain ⟨heap, gens, drawn, toks, os⟩ := s
    simp only [Sem.bind, step]
    rw [show heap.get? b' = some o from ho]
  | @update b' part g k s n a s' hb ho _ ih =>
    obtain ⟨q, hq⟩ := ih pos
    refine ⟨q, topGo_add (topGo_one ?_ ?_) hq⟩
    · simp only [stepOk, Sem.bind]
      rw [show Nat.ble n₀ b' = true from Nat.ble_eq.mpr hb]; rfl
    · obtain ⟨heap, gens, drawn, toks, os⟩ := s
      simp only [Sem.bind, step]
      rw [if_pos (show (heap.get? b').isSome = true from ho)]
  | alloc _ ih =>
    obtain ⟨q, hq⟩ := ih pos
    refine ⟨q, topGo_add (topGo_one rfl ?_) hq⟩
    rename_i s _ _ _ _
    obtain ⟨heap, gens, drawn, toks, os⟩ := s
    rfl
  | point _ ih => obtain ⟨q, hq⟩ := ih pos; exact ⟨q, topGo_add (topGo_one rfl rfl) hq⟩
  | fresh _ ih => obtain ⟨q, hq⟩ := ih pos; exact ⟨q, topGo_add (topGo_one rfl rfl) hq⟩
  | ask _ ih => obtain ⟨q, hq⟩ := ih pos; exact ⟨q, topGo_add (topGo_one rfl rfl) hq⟩
  | call hc _ ih =>
    obtain ⟨q1, h1⟩ := hc _ _ _ _ b env pos f B
    obtain ⟨q, hq⟩ := ih q1
    exact ⟨q, topGo_add h1 hq⟩
end
noncomputable def askOf {α : Type} : Sem α → Setting → Option (Sem α)
  | .ask k, S => some (k S)
  | _, _ => none
noncomputable def callOf {α : Type} : Sem α → Option (Code × (Option Value × Bool × List Value) × (Result → Sem α))
  | .call c h g l k => some (c, (h, g, l), k)
  | _ => none
theorem askOf_some {α : Type} {x y : Sem α} {S : Setting} (h : askOf x S = some y) : ∃ k, x = .ask k ∧ k S = y := by
  cases x <;> simp only [askOf] at h <;> first | exact ⟨_, rfl, Option.some.inj h⟩ | cases h
theorem callOf_some {α : Type} {x : Sem α} {c m k} (h : callOf x = some (c, m, k)) : x = .call c m.1 m.2.1 m.2.2 k := by
  cases x <;> simp only [callOf] at h <;> first | (cases h; rfl) | cases h

section
variable {p : Program} {w : World} {n₀ : Nat} {ann : Option Value}
noncomputable def hM : Nat := 2 ^ 61 - 1
noncomputable def hashI (k : Nat) : Int := if ((if Int.ofNat k < 0 then -(((Int.ofNat k).natAbs % hM : Nat) : Int) else (((Int.ofNat k).natAbs % hM : Nat) : Int)) == -1) = true then -2 else if Int.ofNat k < 0 then -(((Int.ofNat k).natAbs % hM : Nat) : Int) else (((Int.ofNat k).natAbs % hM : Nat) : Int)
theorem hashI_eq {k : Nat} (h : k < 2 ^ 60) : hashI k = Int.ofNat k := by
  unfold hashI hM
  have h1 : ¬ (Int.ofNat k < 0) := by simp only [Int.ofNat_eq_natCast]; omega
  rw [if_neg h1]
  have h2 : (Int.ofNat k).natAbs % (2 ^ 61 - 1) = k := by
    simp only [Int.ofNat_eq_natCast, Int.natAbs_natCast]; omega
  rw [h2]
  rw [if_neg]; rfl
  simp only [beq_iff_eq]; omega
theorem hash_go (k t : Nat) (s : Shared) (h : Option Value) (g : Bool) (l : List Value) (K : Result → Sem Fin) (b : List Stmt) (env : Env) (pos : Pos) (f : Frame) (B : List Frame) :
  topGo treeTable p w n₀ ann 4 s ⟨.call (.call (.builtin "int.__hash__") ⟨[.int (Int.ofNat k) t], []⟩) h g l K, .body b env, pos, f :: B⟩ = some ({ s with toks := s.toks + 1 }, ⟨K (.ok (.ret (.int (hashI k) s.toks))), .body b env, pos, f :: B⟩) := by kernel_rfl
theorem hash_runs {k : Nat} (hk : k < 2 ^ 60) (t : Nat) (s : Shared) : CallRuns treeTable p w n₀ ann (.call (.builtin "int.__hash__") ⟨[.int (Int.ofNat k) t], []⟩) 4 s (.int (Int.ofNat k) s.toks) { s with toks := s.toks + 1 } := by
  intro h g l K b env pos f B
  refine ⟨pos, ?_⟩
  rw [hash_go, hashI_eq hk]
theorem pyHash_shape (k t u : Nat) (j : Int) (S : Params) (b : Bool) : ((askOf (pyHash (.int (Int.ofNat k) t)) ⟨p, { S with followText := fun r => if r = "special-get-raises" then b else S.followText r }⟩).bind callOf).map (fun r => (r.1, r.2.2 (.ok (.ret (.int j u))))) =
    some (.call (.builtin "int.__hash__") ⟨[.int (Int.ofNat k) t], []⟩, pyHashByItsType.reduced j) := by
  cases b <;> kernel_rfl
theorem reduced_eq {k : Nat} (hk : k < 2 ^ 60) : pyHashByItsType.reduced (Int.ofNat k) = Sem.pure (Int.ofNat k) := by
  unfold pyHashByItsType.reduced
  have h1 : (decide (-(2 ^ 63 : Int) ≤ Int.ofNat k) && decide (Int.ofNat k < 2 ^ 63)) = true := by
    simp only [Bool.and_eq_true, decide_eq_true_eq, Int.ofNat_eq_natCast]; omega
  rw [if_pos h1]
  rw [if_neg (by simp only [beq_iff_eq, Int.ofNat_eq_natCast]; omega)]
  rfl
theorem ev_pyHash {k : Nat} (hk : k < 2 ^ 60) (t : Nat) (s : Shared) : Ev treeTable p w n₀ ann (pyHash (.int (Int.ofNat k) t)) s 5 (Int.ofNat k) { s with toks := s.toks + 1 } := by
  have e := pyHash_shape (p := p) k t s.toks (Int.ofNat k) w.params (w.params.followText "special-get-raises")
  have e2 : ({ w.params with followText := fun r => if r = "special-get-raises" then w.params.followText "special-get-raises" else w.params.followText r } : Params) = w.params := congrArg World.params (World.withFollow_self w "special-get-raises")
  rw [e2] at e
  obtain ⟨r, h1, h2⟩ := Option.map_eq_some_iff.mp e
  obtain ⟨y, h3, h4⟩ := Option.bind_eq_some_iff.mp h1
  obtain ⟨kk, h5, h6⟩ := askOf_some h3
  obtain ⟨c, m, kc⟩ := r
  have h7 := callOf_some h4
  obtain ⟨h8, h9⟩ := Prod.mk.inj h2
  dsimp only at h8 h9
  subst h8
  rw [h5]
  refine (Ev.ask (n := 4) ?_)
  rw [h6, h7]
  refine (Ev.call (n := 0) (hash_runs hk t s) ?_)
  rw [h9, reduced_eq hk]
  exact .pure

theorem Ev.bind' {tb : String → Option Builtin} {α β : Type} {x : Sem α} {f : α → Sem β} {s s' s'' : Shared} {n m : Nat} {a : α} {b : β} (h : Ev tb p w n₀ ann x s n a s') (k : Ev tb p w n₀ ann (f a) s' m b s'') : Ev tb p w n₀ ann (x >>= f) s (n + m) b s'' := h.bind k

theorem places_none {es : Array DictEntry} {h : Int} (hn : ∀ e ∈ es, e.hash ≠ h) : placesWithHash es.size (fun i => es[i]?.map (·.hash)) h = [] := by
  unfold placesWithHash
  rw [List.filter_eq_nil_iff]
  intro i hi
  simp only [beq_iff_eq]
  intro e
  obtain ⟨x, hx, hh⟩ := Option.map_eq_some_iff.mp e
  exact hn x (Array.mem_of_getElem? hx) hh

theorem ev_dictFind {d : Addr} {key : Value} {h : Int} {s : Shared} {o : Obj} {es : Array DictEntry} {ep : Nat} (hd : s.heap.get? d = some o) (ho : o.data = .dict es ep) (hn : ∀ e ∈ es, e.hash ≠ h) (hk : carriedByValue key = true) (hks : ∀ x t, key ≠ .str x t) :
    Ev treeTable p w n₀ ann (dictFind d key h) s 1 none s := by
  unfold dictFind
  refine Ev.holding _ ?_
  refine Ev.bind' (n := 1) (m := 0) (a := es) (s' := s) ?_ ?_
  · unfold dictEntries loadPart
    refine Ev.load (n := 0) hd ?_
    show Ev treeTable p w n₀ ann (match o.data with | .dict es _ => pure es | _ => unsupported "internal:not-a-dict") s 0 es s
    rw [ho]; exact .pure
  · rw [places_none hn]
    cases key <;> first | exact absurd rfl (hks _ _) | (simp only [carriedByValue] at hk; done) | (simp only [List.filterMap_nil, List.all_cons, List.all_nil, carriedByValue, Bool.and_true, if_true]; unfold dictWalkPlain; exact .pure) | (cases hk)
end
section
variable {p : Program} {w : World} {n₀ : Nat} {ann : Option Value}

noncomputable abbrev Item := Nat × Str
noncomputable def dictO (es : List DictEntry) : Obj := ⟨.type "dict", none, .dict es.toArray es.length, #[]⟩
/-- a heap with the dict es behind the objects A, and B behind it -/
noncomputable def hp (A : Array Obj) (es : List DictEntry) (B : Array Obj) (l : Life) : Heap := ⟨A.push (dictO es) ++ B, l⟩
theorem hp_get (A : Array Obj) (es : List DictEntry) (B : Array Obj) (l : Life) : (hp A es B l).get? A.size = some (dictO es) := by
  have h : (A.push (dictO es) ++ B)[A.size]? = some (dictO es) := by
    rw [Array.getElem?_append_left (by simp)]; simp
  unfold Heap.get? hp
  dsimp only
  rw [h]; rfl
theorem hp_upd (A : Array Obj) (es : List DictEntry) (B : Array Obj) (l : Life) (e : DictEntry) : (hp A es B l).update A.size (Obj.mapDictKeys (·.push e)) = hp A (es ++ [e]) B l := by
  unfold Heap.update hp
  dsimp only
  congr 1
  apply Array.ext
  · simp
  · intro i h1 h2
    rw [Array.getElem_modify]
    simp only [Array.size_modify] at h1
    by_cases hi : A.size = i
    · subst hi
      rw [if_pos rfl]
      rw [Array.getElem_append_left (by simp), Array.getElem_append_left (by simp)]
      simp only [Array.getElem_push_eq]
      unfold dictO Obj.mapDictKeys
      simp
    · rw [if_neg hi]
      by_cases h3 : i < (A.push (dictO es)).size
      · rw [Array.getElem_append_left h3, Array.getElem_append_left (by simpa using h3)]
        have h4 : i < A.size := by simp only [Array.size_push] at h3; omega
        rw [Array.getElem_push_lt h4, Array.getElem_push_lt h4]
      · rw [Array.getElem_append_right (by omega), Array.getElem_append_right (by simp only [Array.size_push] at h3 ⊢; omega)]
        simp
theorem hp_push (A : Array Obj) (es : List DictEntry) (B : Array Obj) (l : Life) (o : Obj) : (hp A es B l).push o = hp A es (B.push o) l := by
  unfold Heap.push hp
  simp

theorem ev_updateKeys {d : Addr} {f : Array DictEntry → Array DictEntry} {part : Option Value} {s : Shared} {es : List DictEntry} {e : DictEntry} {A B : Array Obj} {l : Life} (hs : s.heap = hp A es B l) (hd : d = A.size) (hf : f = (·.push e)) (hn : n₀ ≤ A.size) (hz : es.length + 1 ≤ sizeLine) :
    Ev treeTable p w n₀ ann (updateDictKeys d f part) s 3 () { s with heap := hp A (es ++ [e]) B l } := by
  subst hd; subst hf
  unfold updateDictKeys loadPart
  refine Ev.load (n := 2) (o := dictO es) (by rw [hs]; exact hp_get ..) ?_
  refine Ev.update (n := 1) hn (by rw [hs, hp_get]; rfl) ?_
  rw [hs, hp_upd]
  refine Ev.load (n := 0) (o := dictO (es ++ [e])) (hp_get ..) ?_
  refine Ev.bind (n := 0) (m := 0) .pure ?_
  have : (dictO (es ++ [e])).data.pastItsLine = none := by
    unfold dictO Data.pastItsLine
    dsimp only
    rw [if_neg]
    simp only [List.size_toArray, List.length_append, List.length_cons, List.length_nil]
    omega
  rw [this]
  exact .pure

noncomputable def ent (u v : Tok) (it : Item) : DictEntry := ⟨Int.ofNat it.1, .int (Int.ofNat it.1) u, .str it.2 v⟩

theorem ev_dictSet {k : Nat} (hk : k < 2 ^ 60) {x : Str} {u v : Tok} {d : Addr} {s : Shared} {es : List DictEntry} {A B : Array Obj} {l : Life} (hs : s.heap = hp A es B l) (hd : d = A.size) (hn : n₀ ≤ A.size) (hz : es.length + 1 ≤ sizeLine)
    (hnew : ∀ e ∈ es, e.hash ≠ Int.ofNat k) :
    Ev treeTable p w n₀ ann (dictSet d (.int (Int.ofNat k) u) (.str x v)) s 10 () { s with heap := hp A (es ++ [ent u v (k, x)]) B l, toks := s.toks + 1 } := by
  unfold dictSet
  refine Ev.holding _ (Ev.bind' (n := 5) (m := 5) (ev_pyHash hk u s) ?_)
  unfold dictSetHashed
  refine Ev.holding _ (Ev.bind' (n := 1) (m := 4) (ev_dictFind (o := dictO es) (es := es.toArray) (ep := es.length) (by show s.heap.get? d = _; rw [hs, hd]; exact hp_get ..) rfl (by simpa using hnew) rfl (by intro _ _ h; cases h)) ?_)
  refine Ev.bind' (n := 1) (m := 3) (Ev.rule (n := 0) .pure) ?_
  exact ev_updateKeys (s := { s with toks := s.toks + 1 }) hs hd rfl hn hz

theorem ev_dictPut {e : DictEntry} (hc : carriedByValue e.key = true) (hstr : ∀ x t, e.key ≠ .str x t) {d : Addr} {s : Shared} {es : List DictEntry} {A B : Array Obj} {l : Life} (hs : s.heap = hp A es B l) (hd : d = A.size) (hn : n₀ ≤ A.size) (hz : es.length + 1 ≤ sizeLine)
    (hnew : ∀ e' ∈ es, e'.hash ≠ e.hash) :
    Ev treeTable p w n₀ ann (dictPut d e.hash e.key e.val) s 4 () { s with heap := hp A (es ++ [e]) B l } := by
  unfold dictPut
  refine (Ev.bind' (n := 1) (m := 3) (ev_dictFind (o := dictO es) (es := es.toArray) (ep := es.length) (by rw [hs, hd]; exact hp_get ..) rfl (by simpa using hnew) hc hstr) ?_)
  exact ev_updateKeys hs hd rfl hn hz

/-- the two trees of a written pair -/
noncomputable def keyT (it : Item) : Sem Value := mkInt (Int.ofNat it.1)
noncomputable def valT (pos : Pos) (it : Item) : Sem Value := do let x ← mkText it.2; standAt pos; pure x
theorem ev_keyT (it : Item) (s : Shared) : Ev treeTable p w n₀ ann (keyT it) s 1 (.int (Int.ofNat it.1) s.toks) { s with toks := s.toks + 1 } := Ev.fresh (n := 0) .pure
theorem ev_valT (pos : Pos) (it : Item) (s : Shared) : Ev treeTable p w n₀ ann (valT pos it) s 2 (.str it.2 s.toks) { s with toks := s.toks + 1 } := Ev.fresh (n := 1) (Ev.at (n := 0) .pure)

noncomputable def entsL (u : Tok) : List Item → List DictEntry
  | [] => []
  | it :: r => ent u (u + 1) it :: entsL (u + 3) r
noncomputable def entsS (u : Tok) : List Item → List DictEntry
  | [] => []
  | it :: r => ent u (u + 1) it :: entsS (u + 2) r
theorem entsL_hash (u : Tok) (its : List Item) : (entsL u its).map (·.hash) = its.map fun it => Int.ofNat it.1 := by
  induction its generalizing u with
  | nil => rfl
  | cons it r ih => simp only [entsL, List.map_cons, ih]; rfl
theorem entsS_hash (u : Tok) (its : List Item) : (entsS u its).map (·.hash) = its.map fun it => Int.ofNat it.1 := by
  induction its generalizing u with
  | nil => rfl
  | cons it r ih => simp only [entsS, List.map_cons, ih]; rfl
theorem entsL_len (u : Tok) (its : List Item) : (entsL u its).length = its.length := by
  induction its generalizing u with
  | nil => rfl
  | cons it r ih => simp only [entsL, List.length_cons, ih]
theorem entsS_len (u : Tok) (its : List Item) : (entsS u its).length = its.length := by
  induction its generalizing u with
  | nil => rfl
  | cons it r ih => simp only [entsS, List.length_cons, ih]
end
section
variable {p : Program} {w : World} {n₀ : Nat} {ann : Option Value} {A B : Array Obj} {l : Life}

noncomputable def hashes (es : List DictEntry) : List Int := es.map (·.hash)
noncomputable def keysI (its : List Item) : List Int := its.map fun it => Int.ofNat it.1
theorem new_of_nodup {es : List DictEntry} {k : Int} {r : List Int} (h : (hashes es ++ k :: r).Nodup) : ∀ e ∈ es, e.hash ≠ k := by
  intro e he hk
  have := (List.nodup_append.mp h).2.2 e.hash (List.mem_map_of_mem he) k (.head _)
  exact this hk
theorem nodup_step {es : List DictEntry} {e : DictEntry} {r : List Int} (h : (hashes es ++ e.hash :: r).Nodup) : (hashes (es ++ [e]) ++ r).Nodup := by
  simpa [hashes] using h

theorem ev_long {pos : Pos} {d : Addr} (hd : d = A.size) (hn : n₀ ≤ A.size) : ∀ (its : List Item) (s : Shared) (es : List DictEntry), s.heap = hp A es B l → (∀ it ∈ its, it.1 < 2 ^ 60) → (hashes es ++ keysI its).Nodup → es.length + its.length ≤ sizeLine →
    Ev treeTable p w n₀ ann (forIn (its.map fun it => (keyT it, valT pos it)) PUnit.unit fun x (_ : PUnit) => match x with
      | (k, v) => do
        let kv ← k
        let vv ← holding [kv] v
        holding [kv, vv] (dictSet d kv vv)
        pure (ForInStep.yield PUnit.unit)) s (13 * its.length) PUnit.unit { s with heap := hp A (es ++ entsL s.toks its) B l, toks := s.toks + 3 * its.length }
  | [], s, es, hs, _, _, _ => by
    have : ({ s with heap := hp A (es ++ entsL s.toks []) B l, toks := s.toks + 3 * ([] : List Item).length } : Shared) = s := by
      simp only [entsL, List.append_nil, List.length_nil, Nat.mul_zero, Nat.add_zero]
      rw [← hs]
    rw [this]
    exact .pure
  | it :: r, s, es, hs, hk, hnd, hz => by
    rw [List.map_cons, List.forIn_cons]
    have hz1 : es.length + 1 ≤ sizeLine := by simp only [List.length_cons] at hz; omega
    have hstep : Ev treeTable p w n₀ ann (do
        let kv ← keyT it
        let vv ← holding [kv] (valT pos it)
        holding [kv, vv] (dictSet d kv vv)
        pure (ForInStep.yield PUnit.unit)) s 13 (ForInStep.yield PUnit.unit) { s with heap := hp A (es ++ [ent s.toks (s.toks + 1) it]) B l, toks := s.toks + 3 } := by
      refine Ev.bind' (n := 1) (m := 12) (ev_keyT it s) ?_
      refine Ev.bind' (n := 2) (m := 10) (Ev.holding _ (ev_valT pos it _)) ?_
      refine Ev.bind' (n := 10) (m := 0) (Ev.holding _ (ev_dictSet (s := { s with toks := s.toks + 1 + 1 }) (hk it (.head _)) hs hd hn hz1 (new_of_nodup hnd))) ?_
      exact .pure
    have ih := ev_long (pos := pos) hd hn r { s with heap := hp A (es ++ [ent s.toks (s.toks + 1) it]) B l, toks := s.toks + 3 } (es ++ [ent s.toks (s.toks + 1) it]) rfl (fun x hx => hk x (.tail _ hx)) (nodup_step (e := ent s.toks (s.toks + 1) it) hnd)
      (by simp only [List.length_append, List.length_cons, List.length_nil] at hz ⊢; omega)
    refine Ev.cast (Ev.bind' hstep ih) rfl ?_ ?_
    · simp only [List.length_cons]; omega
    · simp only [entsL, List.append_assoc, List.cons_append, List.nil_append, List.length_cons]
      congr 1
      omega

theorem ev_pairs {pos : Pos} : ∀ (its : List Item) (s : Shared),
    Ev treeTable p w n₀ ann (evalPairs (its.map fun it => (keyT it, valT pos it))) s (3 * its.length) ((entsS s.toks its).map fun e => (e.key, e.val)) { s with toks := s.toks + 2 * its.length }
  | [], s => .pure
  | it :: r, s => by
    rw [List.map_cons]
    unfold evalPairs
    refine Ev.cast (n := 1 + (2 + (3 * r.length + 0))) (Ev.bind' (ev_keyT it s) ?_) rfl ?_ rfl
    · refine Ev.bind' (Ev.holding _ (ev_valT pos it _)) ?_
      refine Ev.bind' (Ev.holding _ (ev_pairs r _)) ?_
      have e : ({ s with toks := s.toks + 2 * (it :: r).length } : Shared) = { s with toks := s.toks + 1 + 1 + 2 * r.length } := by
        congr 1; simp only [List.length_cons]; omega
      rw [e]
      exact .pure
    · simp only [List.length_cons]; omega
theorem ev_short {d : Addr} (hd : d = A.size) (hn : n₀ ≤ A.size) : ∀ (its : List Item) (u : Tok) (s : Shared) (es : List DictEntry), s.heap = hp A es B l → (∀ it ∈ its, it.1 < 2 ^ 60) → (hashes es ++ keysI its).Nodup → es.length + its.length ≤ sizeLine →
    Ev treeTable p w n₀ ann (forIn ((entsS u its).map fun e => (e.key, e.val)) PUnit.unit fun x (_ : PUnit) => match x with
      | (k, v) => do
        dictSet d k v
        pure (ForInStep.yield PUnit.unit)) s (10 * its.length) PUnit.unit { s with heap := hp A (es ++ entsS u its) B l, toks := s.toks + its.length }
  | [], u, s, es, hs, _, _, _ => by
    have : ({ s with heap := hp A (es ++ entsS u []) B l, toks := s.toks + ([] : List Item).length } : Shared) = s := by
      simp only [entsS, List.append_nil, List.length_nil, Nat.add_zero]
      rw [← hs]
    rw [this]
    exact .pure
  | it :: r, u, s, es, hs, hk, hnd, hz => by
    unfold entsS
    rw [List.map_cons, List.forIn_cons]
    have hz1 : es.length + 1 ≤ sizeLine := by simp only [List.length_cons] at hz; omega
    have hstep : Ev treeTable p w n₀ ann (do
        dictSet d (.int (Int.ofNat it.1) u) (.str it.2 (u + 1))
        pure (ForInStep.yield PUnit.unit)) s 10 (ForInStep.yield PUnit.unit) { s with heap := hp A (es ++ [ent u (u + 1) it]) B l, toks := s.toks + 1 } :=
      Ev.bind' (n := 10) (m := 0) (ev_dictSet (hk it (.head _)) hs hd hn hz1 (new_of_nodup hnd)) .pure
    have ih := ev_short hd hn r (u + 2) { s with heap := hp A (es ++ [ent u (u + 1) it]) B l, toks := s.toks + 1 } (es ++ [ent u (u + 1) it]) rfl (fun x hx => hk x (.tail _ hx)) (nodup_step (e := ent u (u + 1) it) hnd)
      (by simp only [List.length_append, List.length_cons, List.length_nil] at hz ⊢; omega)
    refine Ev.cast (Ev.bind' hstep ih) rfl ?_ ?_
    · simp only [List.length_cons]; omega
    · simp only [List.append_assoc, List.cons_append, List.nil_append, List.length_cons]
      congr 1
      omega

/-- what a written sub-dict's entries are -/
noncomputable def entsOf (u : Tok) (its : List Item) : List DictEntry := if its.length ≤ 15 then entsS u its else entsL u its
theorem entsOf_hash (u : Tok) (its : List Item) : hashes (entsOf u its) = keysI its := by
  unfold entsOf hashes keysI
  split
  · exact entsS_hash u its
  · exact entsL_hash u its
theorem entsOf_len (u : Tok) (its : List Item) : (entsOf u its).length = its.length := by
  unfold entsOf
  split
  · exact entsS_len u its
  · exact entsL_len u its
noncomputable def costOf (its : List Item) : Nat := if its.length ≤ 15 then 1 + 13 * its.length else 2 + 13 * its.length

theorem push_hp (h : Heap) : h.push (dictO []) = hp h.objs [] #[] h.life := by
  unfold Heap.push hp
  simp
theorem hp_push_eq (h : Heap) (es : List DictEntry) : hp h.objs es #[] h.life = h.push (dictO es) := by
  unfold Heap.push hp
  simp
theorem ev_subDict {pos : Pos} {its : List Item} {s : Shared} (hn : n₀ ≤ s.heap.objs.size) (hk : ∀ it ∈ its, it.1 < 2 ^ 60) (hnd : (keysI its).Nodup) (hz : its.length ≤ sizeLine) :
    Ev treeTable p w n₀ ann (subDict (its.map fun it => (keyT it, valT pos it))) s (costOf its) s.heap.objs.size { s with heap := s.heap.push (dictO (entsOf s.toks its)), toks := s.toks + 3 * its.length } := by
  unfold subDict costOf entsOf
  refine Ev.cast (n := 1 + (0 + ((if its.length ≤ 15 then 13 * its.length else 1 + 13 * its.length) + 0))) (Ev.bind (s' := { s with heap := s.heap.push (dictO []) }) (Ev.alloc (n := 0) .pure) (Ev.bind (s' := { s with heap := s.heap.push (dictO []) }) (n := 0) .pure (Ev.bind' (a := ()) (Ev.holding _ ?_) (by exact .pure)))) rfl (by split <;> omega) rfl
  rw [List.length_map, push_hp]
  by_cases h : its.length ≤ 15
  · rw [if_pos h, if_pos h, if_pos h]
    refine Ev.cast (Ev.bind' (ev_pairs its _) (Ev.holding _ (Ev.bind' (ev_short (A := s.heap.objs) (B := #[]) (l := s.heap.life) rfl hn its s.toks _ [] rfl hk (by simpa [hashes] using hnd) (by simpa using hz)) .pure))) rfl (by omega) ?_
    rw [List.nil_append, hp_push_eq]
    congr 1
    dsimp only
    omega
  · rw [if_neg h, if_neg h, if_neg h]
    refine Ev.cast (Ev.bind' (Ev.rule (n := 0) .pure) (Ev.bind' (ev_long (A := s.heap.objs) (B := #[]) (l := s.heap.life) rfl hn its _ [] rfl hk (by simpa [hashes] using hnd) (by simpa using hz)) .pure)) rfl (by omega) ?_
    rw [List.nil_append, hp_push_eq]
end
section
variable {p : Program} {w : World} {n₀ : Nat} {ann : Option Value} {A B : Array Obj} {l : Life}

theorem hp_other {a : Nat} {es es' : List DictEntry} (h : a ≠ A.size) : (hp A es B l).get? a = (hp A es' B l).get? a := by
  have e : (A.push (dictO es) ++ B)[a]? = (A.push (dictO es') ++ B)[a]? := by
    by_cases h1 : (a : Nat) < A.size + 1
    · rw [Array.getElem?_append_left (by simpa using h1), Array.getElem?_append_left (by simpa using h1)]
      have h2 : (a : Nat) < A.size := by omega
      rw [Array.getElem?_push_lt h2, Array.getElem?_push_lt h2]
    · rw [Array.getElem?_append_right (by simp only [Array.size_push]; omega), Array.getElem?_append_right (by simp only [Array.size_push]; omega)]
      simp only [Array.size_push]
  unfold Heap.get? hp
  dsimp only
  rw [e]

theorem ev_typeOf {a : Addr} {s : Shared} {o : Obj} (h : s.heap.get? a = some o) : Ev treeTable p w n₀ ann (typeOf (.ref a)) s 1 o.cls s := Ev.load (n := 0) h .pure
theorem ev_isDict {a : Addr} {s : Shared} {E : List DictEntry} (h : s.heap.get? a = some (dictO E)) : Ev treeTable p w n₀ ann (isInstance (.ref a) (.type "dict")) s 1 true s := by
  unfold isInstance
  refine Ev.bind' (n := 1) (m := 0) (ev_typeOf h) ?_
  have e : isSubtype (dictO E).cls (.type "dict") = Sem.pure true := by kernel_rfl
  rw [e]; exact .pure
theorem ev_iterOf {a : Addr} {s : Shared} {E : List DictEntry} (h : s.heap.get? a = some (dictO E)) : Ev treeTable p w n₀ ann (specialOf (.ref a) (Str.ofString "__iter__")) s 1 (some (.builtin "dict.__iter__")) s := by
  unfold specialOf
  refine Ev.bind' (n := 1) (m := 0) (ev_typeOf h) ?_
  have e : typeLookup (dictO E).cls (Str.ofString "__iter__") = Sem.pure (some (.builtin "dict.__iter__")) := by kernel_rfl
  rw [e]; exact .pure
theorem ev_entries {a : Addr} {s : Shared} {E : List DictEntry} (h : s.heap.get? a = some (dictO E)) : Ev treeTable p w n₀ ann (dictEntries a) s 1 E.toArray s := Ev.load (n := 0) h .pure
theorem ev_epoch {a : Addr} {s : Shared} {E : List DictEntry} (h : s.heap.get? a = some (dictO E)) : Ev treeTable p w n₀ ann (dictEpoch a) s 1 E.length s := Ev.load (n := 0) h .pure

noncomputable def plainKeys (E : List DictEntry) : Prop := ∀ e ∈ E, carriedByValue e.key = true ∧ ∀ x t, e.key ≠ .str x t

theorem merge_shape (d a : Addr) (ha : (a == sysModules) = false) : ∃ F : Nat → Nat → PUnit → Sem (ForInStep PUnit), (∀ ep i u, F ep i u = (do
      let es ← dictEntries a
      match es[i]? with
        | some e => do
          holding [e.key, e.val] (dictPut d e.hash e.key e.val)
          let n ← dictEpoch a
          if (n != ep) = true then do
              unsupported "dict.changed-during-merge"
              pure (ForInStep.yield PUnit.unit)
            else pure (ForInStep.yield PUnit.unit)
        | _ => do
          unsupported "dict.changed-during-merge"
          pure (ForInStep.yield PUnit.unit))) ∧
    ∀ {s : Shared} {E es : List DictEntry} {N : Nat} {s' : Shared}, s.heap.get? a = some (dictO E) → s.heap.get? d = some (dictO es) → es ≠ [] →
      Ev treeTable p w n₀ ann (forIn (List.range E.length) PUnit.unit (F E.length)) s N PUnit.unit s' → Ev treeTable p w n₀ ann (mergeMapping d (.ref a) false) s (5 + N) () s' := by
  refine ⟨fun ep i u => (do
      let es ← dictEntries a
      match es[i]? with
        | some e => do
          holding [e.key, e.val] (dictPut d e.hash e.key e.val)
          let n ← dictEpoch a
          if (n != ep) = true then do
              unsupported "dict.changed-during-merge"
              pure (ForInStep.yield PUnit.unit)
            else pure (ForInStep.yield PUnit.unit)
        | _ => do
          unsupported "dict.changed-during-merge"
          pure (ForInStep.yield PUnit.unit)), fun _ _ _ => rfl, ?h2⟩
  case h2 =>
    intro s E es N s' h1 h2 h3 h
    unfold mergeMapping
    refine Ev.cast (n := 1 + (1 + (0 + (1 + (1 + (1 + (N + 0))))))) (Ev.bind' (ev_isDict h1) (Ev.bind' (ev_iterOf h1) ?_)) rfl (by omega) rfl
    refine Ev.bind' (n := 0) .pure ?_
    rw [show (some (Value.builtin "dict.__iter__") == some (Value.builtin "dict.__iter__")) = true from by decide]
    dsimp only
    rw [ha, if_neg Bool.false_ne_true]
    refine Ev.bind' (n := 1) (ev_entries h2) ?_
    have e : es.toArray.isEmpty = false := by cases es <;> simp_all
    rw [e, if_neg Bool.false_ne_true]
    refine Ev.bind' (n := 1) (ev_entries h1) ?_
    refine Ev.bind' (n := 1) (ev_epoch h1) ?_
    rw [List.size_toArray]
    simp only [Bool.false_eq_true, if_false]
    exact Ev.bind' h .pure

theorem ev_mergeLoop {d a : Addr} {F : Nat → Nat → PUnit → Sem (ForInStep PUnit)} (hF : ∀ ep i u, F ep i u = (do
      let es ← dictEntries a
      match es[i]? with
        | some e => do
          holding [e.key, e.val] (dictPut d e.hash e.key e.val)
          let n ← dictEpoch a
          if (n != ep) = true then do
              unsupported "dict.changed-during-merge"
              pure (ForInStep.yield PUnit.unit)
            else pure (ForInStep.yield PUnit.unit)
        | _ => do
          unsupported "dict.changed-during-merge"
          pure (ForInStep.yield PUnit.unit))) {E : List DictEntry} (hd : d = A.size) (hn : n₀ ≤ A.size) (ha : a ≠ A.size) (hE : plainKeys E) :
    ∀ (n i : Nat) (s : Shared) (es : List DictEntry), i + n = E.length → s.heap = hp A es B l → s.heap.get? a = some (dictO E) → (hashes es ++ hashes (E.drop i)).Nodup → es.length + n ≤ sizeLine →
      Ev treeTable p w n₀ ann (forIn (List.range' i n) PUnit.unit (F E.length)) s (6 * n) PUnit.unit { s with heap := hp A (es ++ E.drop i) B l }
  | 0, i, s, es, hi, hs, _, _, _ => by
    have : E.drop i = [] := List.drop_eq_nil_of_le (by omega)
    rw [this, List.append_nil, ← hs]
    exact .pure
  | n + 1, i, s, es, hi, hs, hga, hnd, hz => by
    have hlt : i < E.length := by omega
    have hdr : E.drop i = E[i] :: E.drop (i + 1) := List.drop_eq_getElem_cons hlt
    rw [hdr] at hnd
    rw [List.range'_succ, List.forIn_cons]
    have hga' : (hp A (es ++ [E[i]]) B l).get? a = some (dictO E) := by rw [hp_other (es' := es) ha, ← hs]; exact hga
    have hstep : Ev treeTable p w n₀ ann (F E.length i PUnit.unit) s 6 (ForInStep.yield PUnit.unit) { s with heap := hp A (es ++ [E[i]]) B l } := by
      rw [hF]
      refine Ev.bind' (n := 1) (m := 5) (ev_entries hga) ?_
      rw [List.getElem?_toArray, List.getElem?_eq_getElem hlt]
      refine Ev.bind' (n := 4) (m := 1) (Ev.holding _ (ev_dictPut (hE _ (List.getElem_mem hlt)).1 (hE _ (List.getElem_mem hlt)).2 hs hd hn (by omega) (new_of_nodup hnd))) ?_
      refine Ev.bind' (n := 1) (m := 0) (ev_epoch hga') ?_
      rw [if_neg (by simp)]
      exact .pure
    have ih := ev_mergeLoop hF (E := E) hd hn ha hE n (i + 1) { s with heap := hp A (es ++ [E[i]]) B l } (es ++ [E[i]]) (by omega) rfl hga' (nodup_step hnd) (by simp only [List.length_append, List.length_cons, List.length_nil]; omega)
    refine Ev.cast (Ev.bind' hstep ih) rfl (by omega) ?_
    rw [hdr, List.append_assoc, List.cons_append, List.nil_append]

theorem ev_merge {d a : Addr} {s : Shared} {E es : List DictEntry} (hs : s.heap = hp A es B l) (hd : d = A.size) (hn : n₀ ≤ A.size) (ha : a ≠ A.size) (hsm : (a == sysModules) = false) (hga : s.heap.get? a = some (dictO E)) (hE : plainKeys E) (hes : es ≠ [])
    (hnd : (hashes es ++ hashes E).Nodup) (hz : es.length + E.length ≤ sizeLine) :
    Ev treeTable p w n₀ ann (mergeMapping d (.ref a) false) s (5 + 6 * E.length) () { s with heap := hp A (es ++ E) B l } := by
  obtain ⟨F, h1, h2⟩ := merge_shape (p := p) (w := w) (n₀ := n₀) (ann := ann) d a hsm
  refine h2 hga (by rw [hs, hd]; exact hp_get ..) hes ?_
  rw [List.range_eq_range']
  exact ev_mergeLoop h1 hd hn ha hE E.length 0 s es (by omega) hs hga hnd hz
end
section
variable {p : Program} {w : World} {n₀ : Nat} {ann : Option Value}

noncomputable abbrev PairT := Sem Value × Sem Value
noncomputable abbrev pairT (pos : Pos) (it : Item) : PairT := (keyT it, valT pos it)
noncomputable abbrev itemT (pos : Pos) (it : Item) : Option (Sem Value) × Sem Value := (some (keyT it), valT pos it)

theorem dd_shape : ∃ (flush : List PairT → Option Addr → Sem (Option Addr)) (F : Option (Sem Value) × Sem Value → Option Addr × List PairT → Sem (ForInStep (Option Addr × List PairT))),
    (∀ items, dictDisplay items = (do
      let r ← forIn items (none, []) F
      let m ← flush r.2 r.1
      match m with
      | some d => pure (Value.ref d)
      | none => newDict)) ∧
    (∀ run, run.isEmpty = false → flush run none = (do let d ← subDict run; pure (some d))) ∧
    (∀ run d, run.isEmpty = false → flush run (some d) = (do
          let sub ← holding [Value.ref d] (subDict run)
          (holding [Value.ref d, Value.ref sub] (mergeMapping d (Value.ref sub) false)).onRaise fun x => do
              let _ ← holding [Value.ref d, x] (runValue (Code.builtin "proto.let_go" { }))
              pure ()
          pure (some d))) ∧
    (∀ k v main run, F (some k, v) (main, run) = (if ((run ++ [(k, v)]).length == 17) = true then do
                let main ← flush (run ++ [(k, v)]) main
                pure (ForInStep.yield (main, []))
              else pure (ForInStep.yield (main, run ++ [(k, v)])))) := by
  refine ⟨fun run main => if run.isEmpty = true then pure main else match main with
      | none => (do let d ← subDict run; pure (some d))
      | some d => (do
          let sub ← holding [Value.ref d] (subDict run)
          (holding [Value.ref d, Value.ref sub] (mergeMapping d (Value.ref sub) false)).onRaise fun x => do
              let _ ← holding [Value.ref d, x] (runValue (Code.builtin "proto.let_go" { }))
              pure ()
          pure (some d)), ?F, ?a, ?b, ?c, ?d⟩
  case a => intro items; unfold dictDisplay; rfl
  case b => intro run h; simp only [h]; rfl
  case c => intro run d h; simp only [h]; rfl
  case d => intro k v main run; rfl

structure Disp (flush : List PairT → Option Addr → Sem (Option Addr)) (F : Option (Sem Value) × Sem Value → Option Addr × List PairT → Sem (ForInStep (Option Addr × List PairT))) : Prop where
  f0 : ∀ run, run.isEmpty = false → flush run none = (do let d ← subDict run; pure (some d))
  f1 : ∀ run d, run.isEmpty = false → flush run (some d) = (do
          let sub ← holding [Value.ref d] (subDict run)
          (holding [Value.ref d, Value.ref sub] (mergeMapping d (Value.ref sub) false)).onRaise fun x => do
              let _ ← holding [Value.ref d, x] (runValue (Code.builtin "proto.let_go" { }))
              pure ()
          pure (some d))
  step : ∀ k v main run, F (some k, v) (main, run) = (if ((run ++ [(k, v)]).length == 17) = true then do
                let main ← flush (run ++ [(k, v)]) main
                pure (ForInStep.yield (main, []))
              else pure (ForInStep.yield (main, run ++ [(k, v)])))

section
variable {flush : List PairT → Option Addr → Sem (Option Addr)} {F : Option (Sem Value) × Sem Value → Option Addr × List PairT → Sem (ForInStep (Option Addr × List PairT))} {pos : Pos}

theorem Disp.gather (D : Disp flush F) (rest : List (Option (Sem Value) × Sem Value)) (main : Option Addr) : ∀ (xs done : List Item), done.length + xs.length ≤ 16 →
    forIn (xs.map (itemT pos) ++ rest) (main, done.map (pairT pos)) F = forIn rest (main, (done ++ xs).map (pairT pos)) F
  | [], done, _ => by simp
  | x :: r, done, h => by
    rw [List.map_cons, List.cons_append, List.forIn_cons, D.step, if_neg]
    · have ih := Disp.gather D rest main r (done ++ [x]) (by simp only [List.length_append, List.length_cons, List.length_nil] at h ⊢; omega)
      rw [List.append_assoc, List.cons_append, List.nil_append] at ih
      rw [← ih]
      simp only [List.map_append, List.map_cons, List.map_nil]
      rfl
    · simp only [List.length_append, List.length_map, List.length_cons, List.length_nil, beq_iff_eq] at h ⊢; omega

theorem Disp.chunk (D : Disp flush F) (rest : List (Option (Sem Value) × Sem Value)) (main : Option Addr) (c : List Item) (hc : c.length = 17) :
    forIn (c.map (itemT pos) ++ rest) (main, []) F = (do
      let m ← flush (c.map (pairT pos)) main
      forIn rest (m, []) F) := by
  obtain ⟨xs, x, rfl⟩ : ∃ xs x, c = xs ++ [x] := ⟨c.dropLast, c.getLast (by intro h; subst h; cases hc), (List.dropLast_concat_getLast _).symm⟩
  have hx : xs.length = 16 := by simpa using hc
  have g := D.gather (pos := pos) (x.1 |> fun _ => [itemT pos x] ++ rest) main xs [] (by simp [hx])
  rw [List.map_append, List.map_cons, List.map_nil, List.append_assoc]
  rw [show (main, ([] : List PairT)) = (main, ([] : List Item).map (pairT pos)) from rfl, g, List.nil_append]
  rw [List.cons_append, List.nil_append, List.forIn_cons, D.step, if_pos]
  · simp only [List.map_append, List.map_cons, List.map_nil]
    show Sem.bind (Sem.bind _ _) _ = Sem.bind _ _
    rw [Sem.bind_assoc]
    rfl
  · simp [hx]

noncomputable def subsOf (u : Tok) : List (List Item) → List Obj
  | [] => []
  | c :: r => dictO (entsOf u c) :: subsOf (u + 3 * c.length) r
noncomputable def entsAll (u : Tok) : List (List Item) → List DictEntry
  | [] => []
  | c :: r => entsOf u c ++ entsAll (u + 3 * c.length) r
noncomputable def lenAll : List (List Item) → Nat
  | [] => 0
  | c :: r => c.length + lenAll r
noncomputable def costAll : List (List Item) → Nat
  | [] => 0
  | c :: r => costOf c + 5 + 6 * c.length + costAll r
noncomputable def keysAll : List (List Item) → List Int
  | [] => []
  | c :: r => keysI c ++ keysAll r
theorem plain_entsL (u : Tok) (its : List Item) : plainKeys (entsL u its) := by
  induction its generalizing u with
  | nil => intro e he; cases he
  | cons it r ih =>
    intro e he
    rcases List.mem_cons.mp he with rfl | he
    · exact ⟨rfl, fun _ _ h => by cases h⟩
    · exact ih _ e he
theorem plain_entsS (u : Tok) (its : List Item) : plainKeys (entsS u its) := by
  induction its generalizing u with
  | nil => intro e he; cases he
  | cons it r ih =>
    intro e he
    rcases List.mem_cons.mp he with rfl | he
    · exact ⟨rfl, fun _ _ h => by cases h⟩
    · exact ih _ e he
theorem plain_entsOf (u : Tok) (its : List Item) : plainKeys (entsOf u its) := by
  unfold entsOf
  split
  · exact plain_entsS u its
  · exact plain_entsL u its

theorem Disp.evFirst (D : Disp flush F) {s : Shared} {c : List Item} (hn : n₀ ≤ s.heap.objs.size) (hk : ∀ it ∈ c, it.1 < 2 ^ 60) (hnd : (keysI c).Nodup) (hz : c.length ≤ sizeLine) (h0 : c ≠ []) :
    Ev treeTable p w n₀ ann (flush (c.map (pairT pos)) none) s (costOf c) (some s.heap.objs.size) { s with heap := hp s.heap.objs (entsOf s.toks c) #[] s.heap.life, toks := s.toks + 3 * c.length } := by
  rw [D.f0 _ (by cases c <;> simp_all), hp_push_eq]
  exact Ev.cast (Ev.bind' (ev_subDict hn hk hnd hz) .pure) rfl (by omega) rfl

theorem Disp.evNext (D : Disp flush F) {A B : Array Obj} {l : Life} {es : List DictEntry} {s : Shared} {c : List Item} (hs : s.heap = hp A es B l) (hn : n₀ ≤ A.size) (hsm : sysModules < A.size) (hes : es ≠ []) (hk : ∀ it ∈ c, it.1 < 2 ^ 60)
    (hnd : (hashes es ++ keysI c).Nodup) (hz : es.length + c.length ≤ sizeLine) (h0 : c ≠ []) :
    Ev treeTable p w n₀ ann (flush (c.map (pairT pos)) (some A.size)) s (costOf c + 5 + 6 * c.length) (some A.size) { s with heap := hp A (es ++ entsOf s.toks c) (B.push (dictO (entsOf s.toks c))) l, toks := s.toks + 3 * c.length } := by
  rw [D.f1 _ _ (by cases c <;> simp_all)]
  have hsz : s.heap.objs.size = A.size + 1 + B.size := by rw [hs]; simp [hp]
  have hpush : s.heap.push (dictO (entsOf s.toks c)) = hp A es (B.push (dictO (entsOf s.toks c))) l := by rw [hs, hp_push]
  have hge : (hp A es (B.push (dictO (entsOf s.toks c))) l).get? s.heap.objs.size = some (dictO (entsOf s.toks c)) := by
    rw [← hpush]; exact Heap.get?_push_size _ rfl
  refine Ev.cast (n := costOf c + ((5 + 6 * c.length) + 0)) (Ev.bind' (Ev.holding _ (ev_subDict (s := s) (by omega) hk ((List.nodup_append.mp hnd).2.1) (by omega))) ?_) rfl (by omega) rfl
  rw [hpush]
  refine Ev.bind' (Ev.onRaise (Ev.holding _ (ev_merge (A := A) (es := es) (B := B.push (dictO (entsOf s.toks c))) (l := l) (E := entsOf s.toks c) rfl rfl hn (fun e => by have e' : @Eq Nat s.heap.objs.size A.size := e; omega) ?_ hge (plain_entsOf _ _) hes ?_ ?_) |>.cast rfl (by rw [entsOf_len]) rfl)) .pure
  · exact beq_eq_false_iff_ne.mpr (fun e => by have e1 : @LT.lt Nat _ sysModules A.size := hsm; have e2 : @Eq Nat s.heap.objs.size sysModules := e; omega)
  · rw [entsOf_hash]; exact hnd
  · rw [entsOf_len]; exact hz

theorem Disp.evChunks (D : Disp flush F) {A : Array Obj} {l : Life} (hn : n₀ ≤ A.size) (hsm : sysModules < A.size) (rest : List (Option (Sem Value) × Sem Value)) {m : Nat} {r : Option Addr × List PairT} {s' : Shared} :
    ∀ (cs : List (List Item)) (B : Array Obj) (es : List DictEntry) (s : Shared), (∀ c ∈ cs, c.length = 17) → s.heap = hp A es B l → es ≠ [] → (∀ c ∈ cs, ∀ it ∈ c, it.1 < 2 ^ 60) → (hashes es ++ keysAll cs).Nodup → es.length + lenAll cs ≤ sizeLine →
      Ev treeTable p w n₀ ann (forIn rest (some A.size, []) F) { s with heap := hp A (es ++ entsAll s.toks cs) (B ++ (subsOf s.toks cs).toArray) l, toks := s.toks + 3 * lenAll cs } m r s' →
      Ev treeTable p w n₀ ann (forIn ((cs.map fun c => c.map (itemT pos)).flatten ++ rest) (some A.size, []) F) s (costAll cs + m) r s'
  | [], B, es, s, _, hs, _, _, _, _, h => by
    have e : ({ s with heap := hp A (es ++ entsAll s.toks []) (B ++ (subsOf s.toks []).toArray) l, toks := s.toks + 3 * lenAll [] } : Shared) = s := by
      simp only [entsAll, subsOf, lenAll, List.append_nil, Nat.mul_zero, Nat.add_zero, Array.append_empty]
      rw [← hs]
    rw [e] at h
    exact Ev.cast h rfl (by simp [costAll]) rfl
  | c :: cs, B, es, s, hc, hs, hes, hk, hnd, hz, h => by
    have hc17 := hc c (.head _)
    simp only [keysAll] at hnd
    simp only [lenAll] at hz
    have hnd1 : (hashes es ++ keysI c).Nodup := by rw [← List.append_assoc] at hnd; exact (List.nodup_append.mp hnd).1
    have ev1 := D.evNext (p := p) (w := w) (ann := ann) (pos := pos) hs hn hsm hes (hk c (.head _)) hnd1 (by omega) (by intro e; subst e; cases hc17)
    have ih := Disp.evChunks D hn hsm rest cs (B.push (dictO (entsOf s.toks c))) (es ++ entsOf s.toks c) { s with heap := hp A (es ++ entsOf s.toks c) (B.push (dictO (entsOf s.toks c))) l, toks := s.toks + 3 * c.length } (m := m) (r := r) (s' := s')
      (fun x hx => hc x (.tail _ hx)) rfl (by simp [hes]) (fun x hx => hk x (.tail _ hx)) (by
        have : hashes (es ++ entsOf s.toks c) = hashes es ++ keysI c := by rw [← entsOf_hash s.toks c]; simp [hashes]
        rw [this, List.append_assoc]; exact hnd) (by simp only [List.length_append, entsOf_len]; omega) ?_
    · rw [List.map_cons, List.flatten_cons, List.append_assoc, D.chunk _ _ _ hc17]
      exact Ev.cast (Ev.bind' ev1 ih) rfl (by simp only [costAll]; omega) rfl
    · refine Eq.mp ?_ h
      congr 1
      simp only [entsAll, subsOf, lenAll, List.append_assoc]
      congr 1
      · congr 1
        rw [← Array.toList_inj]; simp
      · omega
end

/-- a written dict of more than 17 pairs, whole -/
theorem ev_display {pos : Pos} (c0 : List Item) (cs : List (List Item)) (last : List Item) (s : Shared) (hc0 : c0.length = 17) (hcs : ∀ c ∈ cs, c.length = 17) (hl : last.length ≤ 16) (hl0 : last ≠ [])
    (hk : ∀ c ∈ c0 :: (cs ++ [last]), ∀ it ∈ c, it.1 < 2 ^ 60) (hnd : (keysAll (c0 :: (cs ++ [last]))).Nodup) (hz : lenAll (c0 :: (cs ++ [last])) ≤ sizeLine) (hn : n₀ ≤ s.heap.objs.size) (hsm : sysModules < s.heap.objs.size) :
    Ev treeTable p w n₀ ann (dictDisplay (((c0 :: (cs ++ [last])).map fun c => c.map (itemT pos)).flatten)) s (costOf c0 + (costAll (cs ++ [last]))) (.ref s.heap.objs.size)
      { s with heap := ⟨s.heap.objs ++ (dictO (entsAll s.toks (c0 :: (cs ++ [last]))) :: subsOf (s.toks + 3 * 17) (cs ++ [last])).toArray, s.heap.life⟩, toks := s.toks + 3 * lenAll (c0 :: (cs ++ [last])) } := by
  obtain ⟨flush, F, hdd, f0, f1, fs⟩ := dd_shape
  have D : Disp flush F := ⟨f0, f1, fs⟩
  rw [hdd]
  have hc0' : c0 ≠ [] := by intro e; subst e; cases hc0
  have hE0 : (entsOf s.toks c0) ≠ [] := by intro e; have := entsOf_len s.toks c0; rw [e, hc0] at this; cases this
  have hnd0 : (keysI c0 ++ keysAll (cs ++ [last])).Nodup := hnd
  have hz0 : c0.length + lenAll (cs ++ [last]) ≤ sizeLine := hz
  have happ : ∀ (cs : List (List Item)) (u : Nat), keysAll (cs ++ [last]) = keysAll cs ++ keysI last ∧ lenAll (cs ++ [last]) = lenAll cs + last.length ∧ entsAll u (cs ++ [last]) = entsAll u cs ++ entsOf (u + 3 * lenAll cs) last ∧ subsOf u (cs ++ [last]) = subsOf u cs ++ [dictO (entsOf (u + 3 * lenAll cs) last)] ∧ costAll (cs ++ [last]) = costAll cs + (costOf last + 5 + 6 * last.length) := by
    intro cs
    induction cs with
    | nil => intro u; simp [keysAll, lenAll, entsAll, subsOf, costAll]
    | cons c r ih =>
      intro u
      obtain ⟨h1, h2, h3, h4, h5⟩ := ih (u + 3 * c.length)
      refine ⟨?_, ?_, ?_, ?_, ?_⟩
      · simp only [List.cons_append, keysAll, h1, List.append_assoc]
      · simp only [List.cons_append, lenAll, h2]; omega
      · simp only [List.cons_append, entsAll, h3, List.append_assoc, lenAll]; rw [show u + 3 * c.length + 3 * lenAll r = u + 3 * (c.length + lenAll r) by omega]
      · simp only [List.cons_append, subsOf, h4, lenAll]; rw [show u + 3 * c.length + 3 * lenAll r = u + 3 * (c.length + lenAll r) by omega]
      · simp only [List.cons_append, costAll, h5]; omega
  obtain ⟨a1, a2, a3, a4, a5⟩ := happ cs (s.toks + 3 * c0.length)
  rw [a1] at hnd0
  rw [a2] at hz0
  have hk0 : ∀ it ∈ c0, it.1 < 2 ^ 60 := hk c0 (.head _)
  have hkl : ∀ it ∈ last, it.1 < 2 ^ 60 := hk last (List.mem_cons_of_mem _ (List.mem_append_right _ (List.mem_singleton_self _)))
  have hkc : ∀ c ∈ cs, ∀ it ∈ c, it.1 < 2 ^ 60 := fun c hc => hk c (List.mem_cons_of_mem _ (List.mem_append_left _ hc))
  have e0 := D.evFirst (p := p) (w := w) (n₀ := n₀) (ann := ann) (pos := pos) (s := s) hn hk0 (List.nodup_append.mp hnd0).1 (by omega) hc0'
  have hsz : (hp s.heap.objs (entsOf s.toks c0) #[] s.heap.life).objs.size = s.heap.objs.size + 1 := by simp [hp]
  -- the last, shorter run
  have eL : Ev treeTable p w n₀ ann (do
      let r ← forIn (last.map (itemT pos) ++ []) (some s.heap.objs.size, []) F
      let m ← flush r.2 r.1
      match m with
      | some d => pure (Value.ref d)
      | none => newDict)
      { s with heap := hp s.heap.objs (entsOf s.toks c0 ++ entsAll (s.toks + 3 * c0.length) cs) (#[] ++ (subsOf (s.toks + 3 * c0.length) cs).toArray) s.heap.life, toks := s.toks + 3 * c0.length + 3 * lenAll cs }
      (costOf last + 5 + 6 * last.length) (.ref s.heap.objs.size)
      { s with heap := hp s.heap.objs (entsOf s.toks c0 ++ entsAll (s.toks + 3 * c0.length) cs ++ entsOf (s.toks + 3 * c0.length + 3 * lenAll cs) last) ((#[] ++ (subsOf (s.toks + 3 * c0.length) cs).toArray).push (dictO (entsOf (s.toks + 3 * c0.length + 3 * lenAll cs) last))) s.heap.life, toks := s.toks + 3 * c0.length + 3 * lenAll cs + 3 * last.length } := by
    have g := D.gather (pos := pos) [] (some s.heap.objs.size) last [] (by simpa using hl)
    rw [show (some s.heap.objs.size, ([] : List PairT)) = (some s.heap.objs.size, ([] : List Item).map (pairT pos)) from rfl, g, List.nil_append]
    refine Ev.cast (n := 0 + ((costOf last + 5 + 6 * last.length) + 0)) (Ev.bind' (a := (some s.heap.objs.size, last.map (pairT pos))) .pure (Ev.bind' (D.evNext (pos := pos) (A := s.heap.objs) (B := #[] ++ (subsOf (s.toks + 3 * c0.length) cs).toArray) (l := s.heap.life) (es := entsOf s.toks c0 ++ entsAll (s.toks + 3 * c0.length) cs) rfl hn hsm (by simp [hE0]) hkl ?_ ?_ hl0) (by exact .pure))) rfl (by omega) rfl
    · have : hashes (entsOf s.toks c0 ++ entsAll (s.toks + 3 * c0.length) cs) = keysI c0 ++ keysAll cs := by
        have hA : ∀ (cs : List (List Item)) (u : Tok), hashes (entsAll u cs) = keysAll cs := by
          intro cs
          induction cs with
          | nil => intro u; rfl
          | cons c r ih => intro u; simp only [entsAll, keysAll, ← ih (u + 3 * c.length), ← entsOf_hash u c]; simp [hashes]
        rw [← hA cs (s.toks + 3 * c0.length), ← entsOf_hash s.toks c0]; simp [hashes]
      rw [this, List.append_assoc]; exact hnd0
    · have hA : ∀ (cs : List (List Item)) (u : Tok), (entsAll u cs).length = lenAll cs := by
        intro cs
        induction cs with
        | nil => intro u; rfl
        | cons c r ih => intro u; simp only [entsAll, lenAll, List.length_append, entsOf_len, ih]
      rw [List.length_append, entsOf_len, hA]; omega
  have hflat : (((c0 :: (cs ++ [last])).map fun c => c.map (itemT pos)).flatten) = c0.map (itemT pos) ++ ((cs.map fun c => c.map (itemT pos)).flatten ++ (last.map (itemT pos) ++ [])) := by simp
  rw [hflat, D.chunk _ _ _ hc0]
  have hrest := D.evChunks (p := p) (w := w) (n₀ := n₀) (ann := ann) (pos := pos) (A := s.heap.objs) (l := s.heap.life) hn hsm (last.map (itemT pos) ++ []) cs #[] (entsOf s.toks c0) { s with heap := hp s.heap.objs (entsOf s.toks c0) #[] s.heap.life, toks := s.toks + 3 * c0.length } (m := 0) (r := (some s.heap.objs.size, last.map (pairT pos)))
      hcs rfl hE0 hkc (by rw [entsOf_hash]; rw [← List.append_assoc] at hnd0; exact (List.nodup_append.mp hnd0).1) (by rw [entsOf_len]; omega) (by
        have g := D.gather (pos := pos) [] (some s.heap.objs.size) last [] (by simpa using hl)
        rw [show (some s.heap.objs.size, ([] : List PairT)) = (some s.heap.objs.size, ([] : List Item).map (pairT pos)) from rfl, g, List.nil_append]
        exact .pure)
  have g := D.gather (pos := pos) [] (some s.heap.objs.size) last [] (by simpa using hl)
  rw [show (some s.heap.objs.size, ([] : List PairT)) = (some s.heap.objs.size, ([] : List Item).map (pairT pos)) from rfl, g, List.nil_append] at eL
  have eL' : Ev treeTable p w n₀ ann (do
      let m ← flush (last.map (pairT pos)) (some s.heap.objs.size)
      match m with
      | some d => pure (Value.ref d)
      | none => newDict) _ _ _ _ := eL
  refine Ev.cast (n := costOf c0 + (costAll cs + 0) + (costOf last + 5 + 6 * last.length)) (Ev.bind' (a := (some s.heap.objs.size, last.map (pairT pos))) (Ev.bind' (f := fun m => forIn ((cs.map fun c => c.map (itemT pos)).flatten ++ (last.map (itemT pos) ++ [])) (m, []) F) e0 hrest) (by exact eL')) rfl ?_ ?_
  · rw [a5]; omega
  · have hl3 : lenAll (c0 :: (cs ++ [last])) = c0.length + (lenAll cs + last.length) := by simp only [lenAll, a2]
    have hE : entsAll s.toks (c0 :: (cs ++ [last])) = entsOf s.toks c0 ++ entsAll (s.toks + 3 * c0.length) cs ++ entsOf (s.toks + 3 * c0.length + 3 * lenAll cs) last := by
      rw [List.append_assoc, ← a3]; rfl
    have h17 : subsOf (s.toks + 3 * 17) (cs ++ [last]) = subsOf (s.toks + 3 * c0.length) (cs ++ [last]) := by rw [hc0]
    rw [hl3, hE, h17, a4]
    have ht : s.toks + 3 * c0.length + 3 * lenAll cs + 3 * last.length = s.toks + 3 * (c0.length + (lenAll cs + last.length)) := by omega
    rw [ht]
    congr 1
    unfold hp
    congr 1
    rw [← Array.toList_inj]
    simp
end
section
variable {p : Program} {w : World} {n₀ : Nat} {ann : Option Value}

theorem Ev.goW {α : Type} {x : Sem α} {s s' : Shared} {n : Nat} {a : α} (h : Ev treeTable p w n₀ ann x s n a s') (hw : ∀ c m v s₁ s₂, CallRuns treeTable p w n₀ ann c m s₁ v s₂ → True) : ∀ (K : α → Sem Fin) (H : Value → Sem Fin) (b : List Stmt) (env : Env) (pos : Pos) (f : Frame) (B : List Frame),
    ∃ pos', topGo treeTable p w n₀ ann n s ⟨x.wrap K H id id, .body b env, pos, f :: B⟩ = some (s', ⟨K a, .body b env, pos', f :: B⟩) := by
  intro K H b env pos f B
  induction h generalizing pos with
  | pure => exact ⟨pos, rfl⟩
  | rule _ ih => obtain ⟨q, hq⟩ := ih pos; exact ⟨q, topGo_add (topGo_one rfl rfl) hq⟩
  | «at» _ ih => obtain ⟨q, hq⟩ := ih _; exact ⟨q, topGo_add (topGo_one rfl rfl) hq⟩
  | @load b' part k s o n a s' ho _ ih =>
    obtain ⟨q, hq⟩ := ih pos
    refine ⟨q, topGo_add (topGo_one rfl ?_) hq⟩
    obtain ⟨heap, gens, drawn, toks, os⟩ := s
    simp only [Sem.wrap, step]
    rw [show heap.get? b' = some o from ho]
  | @update b' part g k s n a s' hb ho _ ih =>
    obtain ⟨q, hq⟩ := ih pos
    refine ⟨q, topGo_add (topGo_one ?_ ?_) hq⟩
    · simp only [stepOk, Sem.wrap]
      rw [show Nat.ble n₀ b' = true from Nat.ble_eq.mpr hb]; rfl
    · obtain ⟨heap, gens, drawn, toks, os⟩ := s
      simp only [Sem.wrap, step]
      rw [if_pos (show (heap.get? b').isSome = true from ho)]
  | alloc _ ih =>
    obtain ⟨q, hq⟩ := ih pos
    refine ⟨q, topGo_add (topGo_one rfl ?_) hq⟩
    rename_i s _ _ _ _
    obtain ⟨heap, gens, drawn, toks, os⟩ := s
    rfl
  | point _ ih => obtain ⟨q, hq⟩ := ih pos; exact ⟨q, topGo_add (topGo_one rfl rfl) hq⟩
  | fresh _ ih => obtain ⟨q, hq⟩ := ih pos; exact ⟨q, topGo_add (topGo_one rfl rfl) hq⟩
  | ask _ ih => obtain ⟨q, hq⟩ := ih pos; exact ⟨q, topGo_add (topGo_one rfl rfl) hq⟩
  | call hc _ ih =>
    obtain ⟨q1, h1⟩ := hc _ _ _ _ b env pos f B
    obtain ⟨q, hq⟩ := ih q1
    exact ⟨q, topGo_add h1 hq⟩

/-- the pairs of a written dict of ints to texts -/
noncomputable def constItems : List (Option Expr) → List Expr → Option (List Item)
  | [], [] => some []
  | some (.Constant (.int (.ofNat k)) _ _) :: ks, .Constant (.str x) _ _ :: vs => (constItems ks vs).map ((k, x) :: ·)
  | _, _ => none
theorem constItems_eval {env : Env} {pos : Pos} : ∀ {ks : List (Option Expr)} {vs : List Expr} {its : List Item}, constItems ks vs = some its →
    (evalEachOpt ks env).zip ((evalEach vs env).map fun v => (do let x ← v; standAt pos; pure x : Sem Value)) = its.map (itemT pos)
  | [], [], its, h => by cases h; rfl
  | some (.Constant (.int (.ofNat k)) _ _) :: ks, .Constant (.str x) _ _ :: vs, its, h => by
    simp only [constItems, Option.map_eq_some_iff] at h
    obtain ⟨r, h1, rfl⟩ := h
    have ih := constItems_eval (env := env) (pos := pos) h1
    rw [List.map_cons, ← ih]
    rfl

noncomputable def asc : List Item → Bool
  | a :: b :: r => Nat.blt a.1 b.1 && asc (b :: r)
  | _ => true
theorem asc_lt : ∀ {l : List Item}, asc l = true → l.Pairwise fun a b => a.1 < b.1
  | [], _ => .nil
  | [a], _ => by simp
  | a :: b :: r, h => by
    simp only [asc, Bool.and_eq_true, Nat.blt_eq] at h
    have ih := asc_lt h.2
    refine List.pairwise_cons.mpr ⟨fun x hx => ?_, ih⟩
    rcases List.mem_cons.mp hx with rfl | hx
    · exact h.1
    · exact Nat.lt_trans h.1 ((List.pairwise_cons.mp ih).1 x hx)
theorem asc_nodup {l : List Item} (h : asc l = true) : (keysI l).Nodup := by
  unfold keysI
  refine List.Pairwise.map _ (fun a b hab => ?_) (asc_lt h)
  intro e
  have := Int.ofNat.inj e
  omega

noncomputable def chunks17 : Nat → List Item → List (List Item)
  | 0, _ => []
  | n + 1, l => l.take 17 :: chunks17 n (l.drop 17)
theorem chunks17_flat : ∀ (n : Nat) (l : List Item), (chunks17 n l).flatten ++ l.drop (17 * n) = l
  | 0, l => by simp [chunks17]
  | n + 1, l => by
    have ih := chunks17_flat n (l.drop 17)
    rw [List.drop_drop] at ih
    rw [chunks17, List.flatten_cons, List.append_assoc, show 17 * (n + 1) = 17 + 17 * n by omega, ih, List.take_append_drop]
theorem chunks17_len : ∀ (n : Nat) (l : List Item), 17 * n ≤ l.length → ∀ c ∈ chunks17 n l, c.length = 17
  | 0, _, _, c, hc => by cases hc
  | n + 1, l, h, c, hc => by
    rcases List.mem_cons.mp hc with rfl | hc
    · rw [List.length_take]; omega
    · exact chunks17_len n (l.drop 17) (by rw [List.length_drop]; omega) c hc
theorem keysAll_flat : ∀ (cs : List (List Item)), keysAll cs = keysI cs.flatten
  | [] => rfl
  | c :: r => by rw [keysAll, keysAll_flat r]; simp [keysI]
theorem lenAll_flat : ∀ (cs : List (List Item)), lenAll cs = cs.flatten.length
  | [] => rfl
  | c :: r => by rw [lenAll, lenAll_flat r]; simp

/-- the chunks of a written dict -/
noncomputable def dchunks (n : Nat) (its : List Item) : List (List Item) := its.take 17 :: (chunks17 n (its.drop 17) ++ [its.drop (17 + 17 * n)])
theorem dchunks_flat (n : Nat) (its : List Item) : (dchunks n its).flatten = its := by
  have h := chunks17_flat n (its.drop 17)
  rw [List.drop_drop] at h
  unfold dchunks
  simp only [List.flatten_cons, List.flatten_append, List.flatten_nil, List.append_nil]
  rw [h, List.take_append_drop]

noncomputable def midS (n : Nat) (its : List Item) (s : Shared) : Shared :=
  { s with heap := ⟨s.heap.objs ++ (dictO (entsAll s.toks (dchunks n its)) :: subsOf (s.toks + 3 * 17) (chunks17 n (its.drop 17) ++ [its.drop (17 + 17 * n)])).toArray, s.heap.life⟩, toks := s.toks + 3 * its.length }
noncomputable def dcost (n : Nat) (its : List Item) : Nat := 1 + (costOf (its.take 17) + costAll (chunks17 n (its.drop 17) ++ [its.drop (17 + 17 * n)]))

theorem ev_evalDict {ks : List (Option Expr)} {vs : List Expr} {pos : Pos} {env : Env} {its : List Item} {n : Nat} {s : Shared} (hi : constItems ks vs = some its) (ha : asc its = true) (hb : (its.all fun it => Nat.blt it.1 (2 ^ 60)) = true)
    (hl1 : 17 + 17 * n < its.length) (hl2 : its.length ≤ 17 + 17 * n + 16) (hz : its.length ≤ sizeLine) (hn : n₀ ≤ s.heap.objs.size) (hsm : sysModules < s.heap.objs.size) :
    Ev treeTable p w n₀ ann (eval (.Dict ks vs pos) env) s (dcost n its) (.ref s.heap.objs.size) (midS n its s) := by
  have hflat := dchunks_flat n its
  have hk : ∀ it ∈ its, it.1 < 2 ^ 60 := fun it hit => by have := List.all_eq_true.mp hb it hit; simpa using this
  have hc : ∀ c ∈ dchunks n its, ∀ it ∈ c, it.1 < 2 ^ 60 := fun c hc it hit => hk it (by rw [← hflat]; exact List.mem_flatten.mpr ⟨c, hc, hit⟩)
  have d := ev_display (p := p) (w := w) (ann := ann) (n₀ := n₀) (pos := pos) (its.take 17) (chunks17 n (its.drop 17)) (its.drop (17 + 17 * n)) s (by rw [List.length_take]; omega)
    (chunks17_len n _ (by rw [List.length_drop]; omega)) (by rw [List.length_drop]; omega) (by intro e; have := congrArg List.length e; rw [List.length_drop] at this; simp only [List.length_nil] at this; omega)
    hc (by rw [keysAll_flat]; exact (show (keysI (dchunks n its).flatten).Nodup by rw [hflat]; exact asc_nodup ha)) (by rw [lenAll_flat]; exact (show (dchunks n its).flatten.length ≤ sizeLine by rw [hflat]; exact hz)) hn hsm
  have e1 : eval (.Dict ks vs pos) env = (standAt pos >>= fun _ => dictDisplay ((evalEachOpt ks env).zip ((evalEach vs env).map fun v => (do let x ← v; standAt pos; pure x : Sem Value)))) := by
    kernel_rfl
  rw [e1, constItems_eval hi]
  have e2 : its.map (itemT pos) = ((its.take 17 :: (chunks17 n (its.drop 17) ++ [its.drop (17 + 17 * n)])).map fun c => c.map (itemT pos)).flatten := by
    rw [← List.map_flatten]
    exact congrArg _ hflat.symm
  rw [e2]
  refine Ev.cast (Ev.bind' (n := 1) (Ev.at (n := 0) .pure) d) rfl rfl ?_
  unfold midS
  rw [lenAll_flat]
  have : (its.take 17 :: (chunks17 n (its.drop 17) ++ [its.drop (17 + 17 * n)])).flatten.length = its.length := congrArg List.length hflat
  rw [this]
  rfl
end
noncomputable def listNewQ : {G : Builtin // PySem.Builtin.«list.__new__» = G} := by
  refine ⟨?G, ?h⟩
  case h =>
    unfold PySem.Builtin.«list.__new__»
    rw [splitQ_eq]
noncomputable def tbQ (id : String) : Option Builtin := match Nat.beq (code id) (code "list.__new__") with
  | true => some listNewQ.1
  | false => treeTable id
theorem tbQ_eq : treeTable = tbQ := by
  funext id
  unfold tbQ
  cases h : Nat.beq (code id) (code "list.__new__") with
  | false => rfl
  | true =>
    have e : id = "list.__new__" := code_inj _ _ (Nat.eq_of_beq_eq_true h)
    subst e
    show _ = some listNewQ.1
    rw [← listNewQ.2]
    kernel_rfl

noncomputable abbrev pw : Program := pw_ul0020_02
noncomputable def bodyB : List Stmt := behindTheImports pw
noncomputable def stN (i : Nat) : Stmt := (pw.main.body)[i]!
noncomputable def l1 : List Stmt := pw.main.body.take 13
noncomputable def l2 : List Stmt := pw.main.body.drop 14
theorem body_split : bodyB = l1 ++ (stN 13 :: l2) := by kernel_rfl
noncomputable def b3ks : List (Option Expr) := match stN 13 with | .Assign _ (.Dict ks _ _) _ => ks | _ => []
noncomputable def b3vs : List Expr := match stN 13 with | .Assign _ (.Dict _ vs _) _ => vs | _ => []
noncomputable def b3ts : List Expr := match stN 13 with | .Assign ts _ _ => ts | _ => []
noncomputable def b3pos : Pos := match stN 13 with | .Assign _ (.Dict _ _ p) _ => p | _ => default
noncomputable def b3pa : Pos := match stN 13 with | .Assign _ _ p => p | _ => default
theorem st3_eq : stN 13 = .Assign b3ts (.Dict b3ks b3vs b3pos) b3pa := by kernel_rfl
noncomputable def b3its : List Item := (constItems b3ks b3vs).getD []
theorem b3its_eq : constItems b3ks b3vs = some b3its := by kernel_rfl
theorem b3its_len : b3its.length = 650 := by kernel_rfl
theorem b3its_asc : asc b3its = true := by kernel_rfl
theorem b3its_small : (b3its.all fun it => Nat.blt it.1 (2 ^ 60)) = true := by kernel_rfl

noncomputable def env1 : Env := { scope := pw.main.scope, locals := mainNs, globals := mainNs, cells := [], code := .ref 13, frame := some 14 }
noncomputable def contK (v : Value) : Sem Flow := do assignStores env1 v (← swappedStores b3ts (.Dict b3ks b3vs b3pos) env1) ((assignEach b3ts env1).map (·.2))
theorem swaps_no : swapsWithSole b3ts (.Dict b3ks b3vs b3pos) b3pa.line env1 = pure false := by kernel_rfl
theorem exec_assign (ts : List Expr) (v : Expr) (pos : Pos) (env : Env) : exec (.Assign ts v pos) env = (standAt pos >>= fun _ => (swapsWithSole ts v pos.line env >>= fun b => if b = true then (do
      evalThenUse v env fun v => assignAll v ((assignEach ts env).map (·.2))
      pure .next) else (eval v env >>= fun x => (do assignStores env x (← swappedStores ts v env) ((assignEach ts env).map (·.2)))))) := by kernel_rfl
theorem exec3 : exec (stN 13) env1 = (standAt b3pa >>= fun _ => (eval (.Dict b3ks b3vs b3pos) env1 >>= contK)) := by
  rw [st3_eq, exec_assign, swaps_no]
  rfl
noncomputable section
noncomputable def S (x : String) : Str := Str.ofString x
noncomputable def ke (P : Params) (x : String) (t : Tok) (v : Value) : DictEntry := ⟨PyData.keyHash P (S x), .str (S x) t, v⟩
noncomputable def fArgs (i : Nat) : Arguments := match stN i with | .FunctionDef _ a .. => a | _ => default
noncomputable def fBody (i : Nat) : List Stmt := match stN i with | .FunctionDef _ _ b .. => b | _ => []
noncomputable def fScope (i : Nat) : Scope := match stN i with | .FunctionDef _ _ _ _ _ _ s .. => s | _ => default
noncomputable def fName (i : Nat) : Str := match stN i with | .FunctionDef n .. => n | _ => default
noncomputable def bL2 : List Stmt := by
  refine (fun (x : List Stmt) (_ : fBody 2 = x) => x) ?x ?h
  case h => conv => lhs; whnf
noncomputable def sL2 : Scope := by
  refine (fun (x : Scope) (_ : fScope 2 = x) => x) ?x ?h
  case h => conv => lhs; whnf
noncomputable def aL2 : Arguments := by
  refine (fun (x : Arguments) (_ : fArgs 2 = x) => x) ?x ?h
  case h => conv => lhs; whnf
noncomputable def nL2 : Str := by
  refine (fun (x : Str) (_ : fName 2 = x) => x) ?x ?h
  case h => conv => lhs; whnf
noncomputable def bL3 : List Stmt := by
  refine (fun (x : List Stmt) (_ : fBody 3 = x) => x) ?x ?h
  case h => conv => lhs; whnf
noncomputable def sL3 : Scope := by
  refine (fun (x : Scope) (_ : fScope 3 = x) => x) ?x ?h
  case h => conv => lhs; whnf
noncomputable def aL3 : Arguments := by
  refine (fun (x : Arguments) (_ : fArgs 3 = x) => x) ?x ?h
  case h => conv => lhs; whnf
noncomputable def nL3 : Str := by
  refine (fun (x : Str) (_ : fName 3 = x) => x) ?x ?h
  case h => conv => lhs; whnf
noncomputable def bL4 : List Stmt := by
  refine (fun (x : List Stmt) (_ : fBody 4 = x) => x) ?x ?h
  case h => conv => lhs; whnf
noncomputable def sL4 : Scope := by
  refine (fun (x : Scope) (_ : fScope 4 = x) => x) ?x ?h
  case h => conv => lhs; whnf
noncomputable def aL4 : Arguments := by
  refine (fun (x : Arguments) (_ : fArgs 4 = x) => x) ?x ?h
  case h => conv => lhs; whnf
noncomputable def nL4 : Str := by
  refine (fun (x : Str) (_ : fName 4 = x) => x) ?x ?h
  case h => conv => lhs; whnf
noncomputable def bL5 : List Stmt := by
  refine (fun (x : List Stmt) (_ : fBody 5 = x) => x) ?x ?h
  case h => conv => lhs; whnf
noncomputable def sL5 : Scope := by
  refine (fun (x : Scope) (_ : fScope 5 = x) => x) ?x ?h
  case h => conv => lhs; whnf
noncomputable def aL5 : Arguments := by
  refine (fun (x : Arguments) (_ : fArgs 5 = x) => x) ?x ?h
  case h => conv => lhs; whnf
noncomputable def nL5 : Str := by
  refine (fun (x : Str) (_ : fName 5 = x) => x) ?x ?h
  case h => conv => lhs; whnf
noncomputable def bL6 : List Stmt := by
  refine (fun (x : List Stmt) (_ : fBody 6 = x) => x) ?x ?h
  case h => conv => lhs; whnf
noncomputable def sL6 : Scope := by
  refine (fun (x : Scope) (_ : fScope 6 = x) => x) ?x ?h
  case h => conv => lhs; whnf
noncomputable def aL6 : Arguments := by
  refine (fun (x : Arguments) (_ : fArgs 6 = x) => x) ?x ?h
  case h => conv => lhs; whnf
noncomputable def nL6 : Str := by
  refine (fun (x : Str) (_ : fName 6 = x) => x) ?x ?h
  case h => conv => lhs; whnf
noncomputable def bL7 : List Stmt := by
  refine (fun (x : List Stmt) (_ : fBody 7 = x) => x) ?x ?h
  case h => conv => lhs; whnf
noncomputable def sL7 : Scope := by
  refine (fun (x : Scope) (_ : fScope 7 = x) => x) ?x ?h
  case h => conv => lhs; whnf
noncomputable def aL7 : Arguments := by
  refine (fun (x : Arguments) (_ : fArgs 7 = x) => x) ?x ?h
  case h => conv => lhs; whnf
noncomputable def nL7 : Str := by
  refine (fun (x : Str) (_ : fName 7 = x) => x) ?x ?h
  case h => conv => lhs; whnf
noncomputable def bL9 : List Stmt := by
  refine (fun (x : List Stmt) (_ : fBody 9 = x) => x) ?x ?h
  case h => conv => lhs; whnf
noncomputable def sL9 : Scope := by
  refine (fun (x : Scope) (_ : fScope 9 = x) => x) ?x ?h
  case h => conv => lhs; whnf
noncomputable def aL9 : Arguments := by
  refine (fun (x : Arguments) (_ : fArgs 9 = x) => x) ?x ?h
  case h => conv => lhs; whnf
noncomputable def nL9 : Str := by
  refine (fun (x : Str) (_ : fName 9 = x) => x) ?x ?h
  case h => conv => lhs; whnf
noncomputable def bL12 : List Stmt := by
  refine (fun (x : List Stmt) (_ : fBody 12 = x) => x) ?x ?h
  case h => conv => lhs; whnf
noncomputable def sL12 : Scope := by
  refine (fun (x : Scope) (_ : fScope 12 = x) => x) ?x ?h
  case h => conv => lhs; whnf
noncomputable def aL12 : Arguments := by
  refine (fun (x : Arguments) (_ : fArgs 12 = x) => x) ?x ?h
  case h => conv => lhs; whnf
noncomputable def nL12 : Str := by
  refine (fun (x : Str) (_ : fName 12 = x) => x) ?x ?h
  case h => conv => lhs; whnf
noncomputable def bL14 : List Stmt := by
  refine (fun (x : List Stmt) (_ : fBody 14 = x) => x) ?x ?h
  case h => conv => lhs; whnf
noncomputable def sL14 : Scope := by
  refine (fun (x : Scope) (_ : fScope 14 = x) => x) ?x ?h
  case h => conv => lhs; whnf
noncomputable def aL14 : Arguments := by
  refine (fun (x : Arguments) (_ : fArgs 14 = x) => x) ?x ?h
  case h => conv => lhs; whnf
noncomputable def nL14 : Str := by
  refine (fun (x : Str) (_ : fName 14 = x) => x) ?x ?h
  case h => conv => lhs; whnf
noncomputable def bL16 : List Stmt := by
  refine (fun (x : List Stmt) (_ : fBody 16 = x) => x) ?x ?h
  case h => conv => lhs; whnf
noncomputable def sL16 : Scope := by
  refine (fun (x : Scope) (_ : fScope 16 = x) => x) ?x ?h
  case h => conv => lhs; whnf
noncomputable def aL16 : Arguments := by
  refine (fun (x : Arguments) (_ : fArgs 16 = x) => x) ?x ?h
  case h => conv => lhs; whnf
noncomputable def nL16 : Str := by
  refine (fun (x : Str) (_ : fName 16 = x) => x) ?x ?h
  case h => conv => lhs; whnf
noncomputable def bL17 : List Stmt := by
  refine (fun (x : List Stmt) (_ : fBody 17 = x) => x) ?x ?h
  case h => conv => lhs; whnf
noncomputable def sL17 : Scope := by
  refine (fun (x : Scope) (_ : fScope 17 = x) => x) ?x ?h
  case h => conv => lhs; whnf
noncomputable def aL17 : Arguments := by
  refine (fun (x : Arguments) (_ : fArgs 17 = x) => x) ?x ?h
  case h => conv => lhs; whnf
noncomputable def nL17 : Str := by
  refine (fun (x : Str) (_ : fName 17 = x) => x) ?x ?h
  case h => conv => lhs; whnf
noncomputable def bL18 : List Stmt := by
  refine (fun (x : List Stmt) (_ : fBody 18 = x) => x) ?x ?h
  case h => conv => lhs; whnf
noncomputable def sL18 : Scope := by
  refine (fun (x : Scope) (_ : fScope 18 = x) => x) ?x ?h
  case h => conv => lhs; whnf
noncomputable def aL18 : Arguments := by
  refine (fun (x : Arguments) (_ : fArgs 18 = x) => x) ?x ?h
  case h => conv => lhs; whnf
noncomputable def nL18 : Str := by
  refine (fun (x : Str) (_ : fName 18 = x) => x) ?x ?h
  case h => conv => lhs; whnf
noncomputable def bL19 : List Stmt := by
  refine (fun (x : List Stmt) (_ : fBody 19 = x) => x) ?x ?h
  case h => conv => lhs; whnf
noncomputable def sL19 : Scope := by
  refine (fun (x : Scope) (_ : fScope 19 = x) => x) ?x ?h
  case h => conv => lhs; whnf
noncomputable def aL19 : Arguments := by
  refine (fun (x : Arguments) (_ : fArgs 19 = x) => x) ?x ?h
  case h => conv => lhs; whnf
noncomputable def nL19 : Str := by
  refine (fun (x : Str) (_ : fName 19 = x) => x) ?x ?h
  case h => conv => lhs; whnf
noncomputable def bL20 : List Stmt := by
  refine (fun (x : List Stmt) (_ : fBody 20 = x) => x) ?x ?h
  case h => conv => lhs; whnf
noncomputable def sL20 : Scope := by
  refine (fun (x : Scope) (_ : fScope 20 = x) => x) ?x ?h
  case h => conv => lhs; whnf
noncomputable def aL20 : Arguments := by
  refine (fun (x : Arguments) (_ : fArgs 20 = x) => x) ?x ?h
  case h => conv => lhs; whnf
noncomputable def nL20 : Str := by
  refine (fun (x : Str) (_ : fName 20 = x) => x) ?x ?h
  case h => conv => lhs; whnf
noncomputable def bL21 : List Stmt := by
  refine (fun (x : List Stmt) (_ : fBody 21 = x) => x) ?x ?h
  case h => conv => lhs; whnf
noncomputable def sL21 : Scope := by
  refine (fun (x : Scope) (_ : fScope 21 = x) => x) ?x ?h
  case h => conv => lhs; whnf
noncomputable def aL21 : Arguments := by
  refine (fun (x : Arguments) (_ : fArgs 21 = x) => x) ?x ?h
  case h => conv => lhs; whnf
noncomputable def nL21 : Str := by
  refine (fun (x : Str) (_ : fName 21 = x) => x) ?x ?h
  case h => conv => lhs; whnf
noncomputable def fD (n : Str) (a : Arguments) (b : List Stmt) (sc : Scope) (g : Addr) (md cd : Value) : FuncData := { name := n, qualname := n, params := a, body := .stmts b, scope := sc, globals := g, closure := [], defaults := .none, kwdefaults := .none, doc := .none, pyModule := md, annotations := none, code := cd, closureTuple := .none, builtins := 0 }
noncomputable def a3 (P : Params) : Obj := ⟨.type "dict", none, .dict [ke P "__name__" 165 (.str (S "cpy313.stringprep") 281), ke P "__doc__" 166 (.none), ke P "__package__" 167 (.none), ke P "__loader__" 168 (.builtin "__main__.__loader__#opaque"), ke P "__spec__" 169 (.none), ke P "__annotations__" 170 (.ref 6), ke P "__builtins__" 171 (.ref 4), ke P "__file__" 173 (.str (S "/claim/cut.py") 172), ke P "__cached__" 174 (.none), ke P "_DIV_LIMIT" 190 (.int 4000 189), ke P "_div2n1n" 207 (.ref 21), ke P "_div3n2n" 221 (.ref 28), ke P "_int2digits" 232 (.ref 35), ke P "_digits2int" 243 (.ref 42), ke P "_divmod_pos" 258 (.ref 49), ke P "int_divmod" 268 (.ref 56), ke P "Int2AP" 280 (.ref 63), ke P "b1_set" 342 (.ref 71)].toArray 18, #[]⟩
noncomputable def a11 (P : Params) : Obj := ⟨.type "tuple", none, .seq [].toArray 0, #[]⟩
noncomputable def a12 (P : Params) : Obj := ⟨.none, none, .fields [.int 3 0, .int 0 0, .ref 20, .int 19 0, .int 0 0, .ref 27, .int 29 0, .int 0 0, .ref 34, .int 45 0, .int 0 0, .ref 41, .int 54 0, .int 0 0, .ref 48, .int 65 0, .int 0 0, .ref 55, .int 77 0, .int 0 0, .ref 62].toArray, #[]⟩
noncomputable def a13 (P : Params) : Obj := ⟨.type "code", none, .fields [.str (S "<module>") 182, .str (S "<module>") 183, .str (S "/claim/cut.py") 184, .int 1 0, .int 0 0, .int 0 0, .int 0 0, .int 0 0, .ref 11, .bool false, .int 181 0, .ref 12, .none, .none, .none, .none, .int 185 0, .int 1 0, .str (S "/claim/cut.py") 186].toArray, #[]⟩
noncomputable def a14 (P : Params) : Obj := ⟨.type "frame", none, .plain, #[some (.ref 13), some (.ref 3), some (.ref 3), none, some (.str (S "__main__") 164), none, some (.ref 0)]⟩
noncomputable def a15 (P : Params) : Obj := ⟨.type "tuple", none, .seq [].toArray 0, #[]⟩
noncomputable def a16 (P : Params) : Obj := ⟨.none, none, .fields [].toArray, #[]⟩
noncomputable def a17 (P : Params) : Obj := ⟨.type "tuple", none, .seq [.str (S "a") 194, .str (S "b") 195, .str (S "n") 196, .str (S "pad") 197, .str (S "half_n") 198, .str (S "mask") 199, .str (S "b1") 200, .str (S "b2") 201, .str (S "q1") 202, .str (S "r") 203, .str (S "q2") 204].toArray 0, #[]⟩
noncomputable def a18 (P : Params) : Obj := ⟨.type "tuple", none, .seq [].toArray 0, #[]⟩
noncomputable def a19 (P : Params) : Obj := ⟨.none, none, .func (fD nL2 aL2 bL2 sL2 0 (.none) (.none)), #[]⟩
noncomputable def a20 (P : Params) : Obj := ⟨.type "code", none, .fields [.str (S "_div2n1n") 191, .str (S "_div2n1n") 192, .str (S "/claim/cut.py") 193, .int 3 0, .int 3 0, .int 0 0, .int 0 0, .int 3 0, .ref 15, .bool true, .int 181 0, .ref 16, .none, .ref 17, .ref 18, .ref 19, .int 205 0, .int 3 0, .str (S "/claim/cut.py") 206].toArray, #[]⟩
noncomputable def a21 (P : Params) : Obj := ⟨.type "function", none, .func (fD nL2 aL2 bL2 sL2 3 (.str (S "cpy313._pylong") 187) (.ref 20)), #[]⟩
noncomputable def a22 (P : Params) : Obj := ⟨.type "tuple", none, .seq [].toArray 0, #[]⟩
noncomputable def a23 (P : Params) : Obj := ⟨.none, none, .fields [].toArray, #[]⟩
noncomputable def a24 (P : Params) : Obj := ⟨.type "tuple", none, .seq [.str (S "a12") 211, .str (S "a3") 212, .str (S "b") 213, .str (S "b1") 214, .str (S "b2") 215, .str (S "n") 216, .str (S "q") 217, .str (S "r") 218].toArray 0, #[]⟩
noncomputable def a25 (P : Params) : Obj := ⟨.type "tuple", none, .seq [].toArray 0, #[]⟩
noncomputable def a26 (P : Params) : Obj := ⟨.none, none, .func (fD nL3 aL3 bL3 sL3 0 (.none) (.none)), #[]⟩
noncomputable def a27 (P : Params) : Obj := ⟨.type "code", none, .fields [.str (S "_div3n2n") 208, .str (S "_div3n2n") 209, .str (S "/claim/cut.py") 210, .int 19 0, .int 6 0, .int 0 0, .int 0 0, .int 3 0, .ref 22, .bool true, .int 181 0, .ref 23, .none, .ref 24, .ref 25, .ref 26, .int 219 0, .int 19 0, .str (S "/claim/cut.py") 220].toArray, #[]⟩
noncomputable def a28 (P : Params) : Obj := ⟨.type "function", none, .func (fD nL3 aL3 bL3 sL3 3 (.str (S "cpy313._pylong") 187) (.ref 27)), #[]⟩
noncomputable def a29 (P : Params) : Obj := ⟨.type "tuple", none, .seq [].toArray 0, #[]⟩
noncomputable def a30 (P : Params) : Obj := ⟨.none, none, .fields [].toArray, #[]⟩
noncomputable def a31 (P : Params) : Obj := ⟨.type "tuple", none, .seq [.str (S "a") 225, .str (S "n") 226].toArray 0, #[]⟩
noncomputable def a32 (P : Params) : Obj := ⟨.type "tuple", none, .seq [.str (S "n") 227, .str (S "a_digits") 228, .str (S "inner") 229].toArray 0, #[]⟩
noncomputable def a33 (P : Params) : Obj := ⟨.none, none, .func (fD nL4 aL4 bL4 sL4 0 (.none) (.none)), #[]⟩
noncomputable def a34 (P : Params) : Obj := ⟨.type "code", none, .fields [.str (S "_int2digits") 222, .str (S "_int2digits") 223, .str (S "/claim/cut.py") 224, .int 29 0, .int 2 0, .int 0 0, .int 0 0, .int 3 0, .ref 29, .bool true, .int 181 0, .ref 30, .none, .ref 31, .ref 32, .ref 33, .int 230 0, .int 29 0, .str (S "/claim/cut.py") 231].toArray, #[]⟩
noncomputable def a35 (P : Params) : Obj := ⟨.type "function", none, .func (fD nL4 aL4 bL4 sL4 3 (.str (S "cpy313._pylong") 187) (.ref 34)), #[]⟩
noncomputable def a36 (P : Params) : Obj := ⟨.type "tuple", none, .seq [].toArray 0, #[]⟩
noncomputable def a37 (P : Params) : Obj := ⟨.none, none, .fields [].toArray, #[]⟩
noncomputable def a38 (P : Params) : Obj := ⟨.type "tuple", none, .seq [.str (S "digits") 236, .str (S "n") 237].toArray 0, #[]⟩
noncomputable def a39 (P : Params) : Obj := ⟨.type "tuple", none, .seq [.str (S "digits") 238, .str (S "n") 239, .str (S "inner") 240].toArray 0, #[]⟩
noncomputable def a40 (P : Params) : Obj := ⟨.none, none, .func (fD nL5 aL5 bL5 sL5 0 (.none) (.none)), #[]⟩
noncomputable def a41 (P : Params) : Obj := ⟨.type "code", none, .fields [.str (S "_digits2int") 233, .str (S "_digits2int") 234, .str (S "/claim/cut.py") 235, .int 45 0, .int 2 0, .int 0 0, .int 0 0, .int 3 0, .ref 36, .bool true, .int 181 0, .ref 37, .none, .ref 38, .ref 39, .ref 40, .int 241 0, .int 45 0, .str (S "/claim/cut.py") 242].toArray, #[]⟩
noncomputable def a42 (P : Params) : Obj := ⟨.type "function", none, .func (fD nL5 aL5 bL5 sL5 3 (.str (S "cpy313._pylong") 187) (.ref 41)), #[]⟩
noncomputable def a43 (P : Params) : Obj := ⟨.type "tuple", none, .seq [].toArray 0, #[]⟩
noncomputable def a44 (P : Params) : Obj := ⟨.none, none, .fields [].toArray, #[]⟩
noncomputable def a45 (P : Params) : Obj := ⟨.type "tuple", none, .seq [.str (S "a") 247, .str (S "b") 248, .str (S "n") 249, .str (S "a_digits") 250, .str (S "r") 251, .str (S "q_digits") 252, .str (S "a_digit") 253, .str (S "q_digit") 254, .str (S "q") 255].toArray 0, #[]⟩
noncomputable def a46 (P : Params) : Obj := ⟨.type "tuple", none, .seq [].toArray 0, #[]⟩
noncomputable def a47 (P : Params) : Obj := ⟨.none, none, .func (fD nL6 aL6 bL6 sL6 0 (.none) (.none)), #[]⟩
noncomputable def a48 (P : Params) : Obj := ⟨.type "code", none, .fields [.str (S "_divmod_pos") 244, .str (S "_divmod_pos") 245, .str (S "/claim/cut.py") 246, .int 54 0, .int 2 0, .int 0 0, .int 0 0, .int 3 0, .ref 43, .bool true, .int 181 0, .ref 44, .none, .ref 45, .ref 46, .ref 47, .int 256 0, .int 54 0, .str (S "/claim/cut.py") 257].toArray, #[]⟩
noncomputable def a49 (P : Params) : Obj := ⟨.type "function", none, .func (fD nL6 aL6 bL6 sL6 3 (.str (S "cpy313._pylong") 187) (.ref 48)), #[]⟩
noncomputable def a50 (P : Params) : Obj := ⟨.type "tuple", none, .seq [].toArray 0, #[]⟩
noncomputable def a51 (P : Params) : Obj := ⟨.none, none, .fields [].toArray, #[]⟩
noncomputable def a52 (P : Params) : Obj := ⟨.type "tuple", none, .seq [.str (S "a") 262, .str (S "b") 263, .str (S "q") 264, .str (S "r") 265].toArray 0, #[]⟩
noncomputable def a53 (P : Params) : Obj := ⟨.type "tuple", none, .seq [].toArray 0, #[]⟩
noncomputable def a54 (P : Params) : Obj := ⟨.none, none, .func (fD nL7 aL7 bL7 sL7 0 (.none) (.none)), #[]⟩
noncomputable def a55 (P : Params) : Obj := ⟨.type "code", none, .fields [.str (S "int_divmod") 259, .str (S "int_divmod") 260, .str (S "/claim/cut.py") 261, .int 65 0, .int 2 0, .int 0 0, .int 0 0, .int 3 0, .ref 50, .bool true, .int 181 0, .ref 51, .none, .ref 52, .ref 53, .ref 54, .int 266 0, .int 65 0, .str (S "/claim/cut.py") 267].toArray, #[]⟩
noncomputable def a56 (P : Params) : Obj := ⟨.type "function", none, .func (fD nL7 aL7 bL7 sL7 3 (.str (S "cpy313._pylong") 187) (.ref 55)), #[]⟩
noncomputable def a57 (P : Params) : Obj := ⟨.type "tuple", none, .seq [].toArray 0, #[]⟩
noncomputable def a58 (P : Params) : Obj := ⟨.none, none, .fields [].toArray, #[]⟩
noncomputable def a59 (P : Params) : Obj := ⟨.type "tuple", none, .seq [.str (S "num") 274, .str (S "val") 275, .str (S "AP") 276, .str (S "mod") 277].toArray 0, #[]⟩
noncomputable def a60 (P : Params) : Obj := ⟨.type "tuple", none, .seq [].toArray 0, #[]⟩
noncomputable def a61 (P : Params) : Obj := ⟨.none, none, .func (fD nL9 aL9 bL9 sL9 0 (.none) (.none)), #[]⟩
noncomputable def a62 (P : Params) : Obj := ⟨.type "code", none, .fields [.str (S "Int2AP") 271, .str (S "Int2AP") 272, .str (S "/claim/cut.py") 273, .int 77 0, .int 1 0, .int 0 0, .int 0 0, .int 3 0, .ref 57, .bool true, .int 181 0, .ref 58, .none, .ref 59, .ref 60, .ref 61, .int 278 0, .int 77 0, .str (S "/claim/cut.py") 279].toArray, #[]⟩
noncomputable def a63 (P : Params) : Obj := ⟨.type "function", none, .func (fD nL9 aL9 bL9 sL9 3 (.str (S "cpy313.imaplib") 269) (.ref 62)), #[]⟩
noncomputable def a64 (P : Params) : Obj := ⟨.type "list", none, .seq [.int 173 283, .int 847 284, .int 6150 285, .int 6155 286, .int 6156 287, .int 6157 288, .int 8203 289, .int 8204 290, .int 8205 291, .int 8288 292, .int 65279 293].toArray 0, #[]⟩
noncomputable def a65 (P : Params) : Obj := ⟨.type "range", none, .fields [.int 65024 294, .int 65040 295, .int 1 296].toArray, #[]⟩
noncomputable def a66 (P : Params) : Obj := ⟨.type "list", none, .seq [.int 65024 299, .int 65025 300, .int 65026 301, .int 65027 302, .int 65028 303, .int 65029 304, .int 65030 305, .int 65031 306, .int 65032 307, .int 65033 308, .int 65034 309, .int 65035 310, .int 65036 311, .int 65037 312, .int 65038 313, .int 65039 314].toArray 18, #[]⟩
noncomputable def a67 (P : Params) : Obj := ⟨.type "range_iterator", none, .fields [.int 65040 0, .int 0 0, .int 1 0].toArray, #[]⟩
noncomputable def a68 (P : Params) : Obj := ⟨.type "tuple", none, .seq [].toArray 0, #[]⟩
noncomputable def a69 (P : Params) : Obj := ⟨.type "StopIteration", none, .fields [.ref 68, .none, .none, .none, .bool false, .none].toArray, #[]⟩
noncomputable def a70 (P : Params) : Obj := ⟨.type "list", none, .seq [.int 173 283, .int 847 284, .int 6150 285, .int 6155 286, .int 6156 287, .int 6157 288, .int 8203 289, .int 8204 290, .int 8205 291, .int 8288 292, .int 65279 293, .int 65024 299, .int 65025 300, .int 65026 301, .int 65027 302, .int 65028 303, .int 65029 304, .int 65030 305, .int 65031 306, .int 65032 307, .int 65033 308, .int 65034 309, .int 65035 310, .int 65036 311, .int 65037 312, .int 65038 313, .int 65039 314].toArray 0, #[]⟩
noncomputable def a71 (P : Params) : Obj := ⟨.type "set", none, .set [(65024, .int 65024 299), (65025, .int 65025 300), (65026, .int 65026 301), (65027, .int 65027 302), (65028, .int 65028 303), (65029, .int 65029 304), (6150, .int 6150 285), (65030, .int 65030 305), (65031, .int 65031 306), (65032, .int 65032 307), (65033, .int 65033 308), (6155, .int 6155 286), (6156, .int 6156 287), (6157, .int 6157 288), (8203, .int 8203 289), (8204, .int 8204 290), (8205, .int 8205 291), (65034, .int 65034 309), (65035, .int 65035 310), (65036, .int 65036 311), (65037, .int 65037 312), (65038, .int 65038 313), (65039, .int 65039 314), (173, .int 173 283), (847, .int 847 284), (8288, .int 8288 292), (65279, .int 65279 293)].toArray 29 ⟨127, #[0, 1, 2, 3, 4, 5, 6, 7, 8, 9, 10, 11, 12, 13, 14, 15, 16, 17, 18, 19, 20, 21, 22, 45, 79, 96, 127], #[], 0, !(P.followText "set-order"), 2, true⟩, #[]⟩
noncomputable def a72 (P : Params) : Obj := ⟨.type "list_iterator", none, .fields [.none, .int 27 0].toArray, #[]⟩
noncomputable def a73 (P : Params) : Obj := ⟨.type "tuple", none, .seq [].toArray 0, #[]⟩
noncomputable def a74 (P : Params) : Obj := ⟨.type "StopIteration", none, .fields [.ref 73, .none, .none, .none, .bool false, .none].toArray, #[]⟩
noncomputable def SA (w : World) (os : OsState) : Shared := ⟨⟨Array.mk [boot_o_0 w.params, boot_o_1 w.params, boot_o_2 w.params, a3 w.params, boot_o_4 w.params, boot_o_5 w.params, boot_o_6 w.params, boot_o_7 w.params, boot_o_8 w.params, boot_o_9 w.params, boot_o_10 w.params, a11 w.params, a12 w.params, a13 w.params, a14 w.params, a15 w.params, a16 w.params, a17 w.params, a18 w.params, a19 w.params, a20 w.params, a21 w.params, a22 w.params, a23 w.params, a24 w.params, a25 w.params, a26 w.params, a27 w.params, a28 w.params, a29 w.params, a30 w.params, a31 w.params, a32 w.params, a33 w.params, a34 w.params, a35 w.params, a36 w.params, a37 w.params, a38 w.params, a39 w.params, a40 w.params, a41 w.params, a42 w.params, a43 w.params, a44 w.params, a45 w.params, a46 w.params, a47 w.params, a48 w.params, a49 w.params, a50 w.params, a51 w.params, a52 w.params, a53 w.params, a54 w.params, a55 w.params, a56 w.params, a57 w.params, a58 w.params, a59 w.params, a60 w.params, a61 w.params, a62 w.params, a63 w.params, a64 w.params, a65 w.params, a66 w.params, a67 w.params, a68 w.params, a69 w.params, a70 w.params, a71 w.params, a72 w.params, a73 w.params, a74 w.params], (boot_heap w.params).life⟩, Array.mk [], boot_drawn, 343, os⟩
noncomputable def q0 : Pos := ⟨0, 0, 0, 0⟩
noncomputable def c1 : Code := .body bodyB env1
noncomputable def m0 : Nat := 11
noncomputable def ann0 : Option Value := some (.ref 6)
noncomputable def S0 (w : World) (os : OsState) : Shared := ⟨boot_heap w.params, Array.mk [], boot_drawn, boot_toks, os⟩
noncomputable def Sa (w : World) (os : OsState) : Option (Shared × Thread) := topGo treeTable pw w m0 ann0 12 (S0 w os) (topStub pw)
noncomputable def sa (w : World) (os : OsState) : Shared := match Sa w os with | some (s, _) => s | none => S0 w os
theorem pre_ok (w : World) (os : OsState) : Sa w os = some (sa w os, ⟨denote treeTable c1, c1, q0, [topFrame q0]⟩) := by
  have h : (Sa w os).map (·.2) = some ⟨denote treeTable c1, c1, q0, [topFrame q0]⟩ := by kernel_rfl
  unfold sa
  cases e : Sa w os with
  | none => rw [e] at h; cases h
  | some r =>
    rw [e] at h
    obtain ⟨s, t⟩ := r
    have : t = _ := Option.some.inj h
    rw [this]
noncomputable def Sb (w : World) (os : OsState) : Option (Flow × Shared × Code × Pos) := segRun treeTable pw w m0 ann0 1 2 (sa w os) (blockOf bodyB env1 c1 q0 [topFrame q0])
noncomputable def sb (w : World) (os : OsState) : Shared := match Sb w os with | some (_, s, _) => s | none => S0 w os
theorem block_ok (w : World) (os : OsState) : Sb w os = some (.next, sb w os, c1, q0) := by
  have h : (Sb w os).map (fun x => (x.1, x.2.2)) = some (.next, c1, q0) := by kernel_rfl
  unfold sb
  cases e : Sb w os with
  | none => rw [e] at h; cases h
  | some r =>
    rw [e] at h
    obtain ⟨f, s, c, p⟩ := r
    obtain ⟨h1, h2, h3⟩ : f = .next ∧ c = c1 ∧ p = q0 := by simpa using h
    rw [h1, h2, h3]
noncomputable def lA : List Stmt := pw.main.body.take 12
noncomputable def lB : List Stmt := (pw.main.body.take 13).drop 12
theorem l1_split : l1 = lA ++ lB := by kernel_rfl
noncomputable def pA : Pos := ⟨86, 0, 86, 6⟩
noncomputable def Sc (w : World) (os : OsState) : Option (Flow × Shared × Code × Pos) := segRun tbQ pw w m0 ann0 1 1500 (sb w os) (piecesOf lA env1 c1 q0 [topFrame q0])
noncomputable def wf (w : World) (a b : Bool) : World := (w.withFollow "special-get-raises" a).withFollow "set-order" b
noncomputable def rA (w : World) (os : OsState) : Option (Flow × Shared × Code × Pos) := some (.next, SA w os, c1, pA)
set_option profiler true
set_option profiler.threshold 500
theorem segA4 (w : World) (os : OsState) : (Sc (wf w false false) os, Sc (wf w false true) os, Sc (wf w true false) os, Sc (wf w true true) os) = (rA (wf w false false) os, rA (wf w false true) os, rA (wf w true false) os, rA (wf w true true) os) := by kernel_rfl
theorem segA (w : World) (os : OsState) : Sc w os = rA w os := by
  have h : ∀ a b, Sc (wf w a b) os = rA (wf w a b) os := by
    have h4 := segA4 w os
    simp only [Prod.mk.injEq] at h4
    intro a b
    cases a <;> cases b
    · exact h4.1
    · exact h4.2.1
    · exact h4.2.2.1
    · exact h4.2.2.2
  have := h (w.params.followText "special-get-raises") (w.params.followText "set-order")
  have e : wf w (w.params.followText "special-get-raises") (w.params.followText "set-order") = w := by
    unfold wf
    rw [World.withFollow_self]
    exact World.withFollow_self w "set-order"
  rw [e] at this
  exact this
end
noncomputable section
noncomputable def z3 (P : Params) : Obj := ⟨.type "dict", none, .dict [ke P "__name__" 165 (.str (S "law_ul0020_02") 2309), ke P "__doc__" 166 (.none), ke P "__package__" 167 (.none), ke P "__loader__" 168 (.builtin "__main__.__loader__#opaque"), ke P "__spec__" 169 (.none), ke P "__annotations__" 170 (.ref 6), ke P "__builtins__" 171 (.ref 4), ke P "__file__" 173 (.str (S "/claim/cut.py") 172), ke P "__cached__" 174 (.none), ke P "_DIV_LIMIT" 190 (.int 4000 189), ke P "_div2n1n" 207 (.ref 21), ke P "_div3n2n" 221 (.ref 28), ke P "_int2digits" 232 (.ref 35), ke P "_digits2int" 243 (.ref 42), ke P "_divmod_pos" 258 (.ref 49), ke P "int_divmod" 268 (.ref 56), ke P "Int2AP" 280 (.ref 63), ke P "b1_set" 342 (.ref 71), ke P "in_table_b1" 349 (.ref 81), ke P "b3_exceptions" 2300 (.ref 82), ke P "map_table_b3" 2308 (.ref 127), ke P "_law_cell" 2319 (.ref 134), ke P "_law_row" 2330 (.ref 141), ke P "_law_part" 2341 (.ref 148), ke P "_law_text" 2356 (.ref 155), ke P "_law_words" 2369 (.ref 162), ke P "law" 2375 (.ref 167)].toArray 27, #[]⟩
noncomputable def z80 (P : Params) : Obj := ⟨.type "code", none, .fields [.str (S "in_table_b1") 343, .str (S "in_table_b1") 344, .str (S "/claim/cut.py") 345, .int 87 0, .int 1 0, .int 0 0, .int 0 0, .int 3 0, .ref 75, .bool true, .int 181 0, .ref 76, .none, .ref 77, .ref 78, .ref 79, .int 347 0, .int 87 0, .str (S "/claim/cut.py") 348].toArray, #[]⟩
noncomputable def z81 (P : Params) : Obj := ⟨.type "function", none, .func (fD nL12 aL12 bL12 sL12 3 (.str (S "cpy313.stringprep") 281) (.ref 80)), #[]⟩
noncomputable def z126 (P : Params) : Obj := ⟨.type "code", none, .fields [.str (S "map_table_b3") 2301, .str (S "map_table_b3") 2302, .str (S "/claim/cut.py") 2303, .int 90 0, .int 1 0, .int 0 0, .int 0 0, .int 3 0, .ref 121, .bool true, .int 181 0, .ref 122, .none, .ref 123, .ref 124, .ref 125, .int 2306 0, .int 90 0, .str (S "/claim/cut.py") 2307].toArray, #[]⟩
noncomputable def z127 (P : Params) : Obj := ⟨.type "function", none, .func (fD nL14 aL14 bL14 sL14 3 (.str (S "cpy313.stringprep") 281) (.ref 126)), #[]⟩
noncomputable def z133 (P : Params) : Obj := ⟨.type "code", none, .fields [.str (S "_law_cell") 2311, .str (S "_law_cell") 2312, .str (S "/claim/cut.py") 2313, .int 96 0, .int 3 0, .int 0 0, .int 0 0, .int 3 0, .ref 128, .bool true, .int 181 0, .ref 129, .none, .ref 130, .ref 131, .ref 132, .int 2317 0, .int 96 0, .str (S "/claim/cut.py") 2318].toArray, #[]⟩
noncomputable def z134 (P : Params) : Obj := ⟨.type "function", none, .func (fD nL16 aL16 bL16 sL16 3 (.str (S "law_ul0020_02") 2309) (.ref 133)), #[]⟩
noncomputable def z140 (P : Params) : Obj := ⟨.type "code", none, .fields [.str (S "_law_row") 2320, .str (S "_law_row") 2321, .str (S "/claim/cut.py") 2322, .int 98 0, .int 2 0, .int 0 0, .int 0 0, .int 3 0, .ref 135, .bool true, .int 181 0, .ref 136, .none, .ref 137, .ref 138, .ref 139, .int 2328 0, .int 98 0, .str (S "/claim/cut.py") 2329].toArray, #[]⟩
noncomputable def z141 (P : Params) : Obj := ⟨.type "function", none, .func (fD nL17 aL17 bL17 sL17 3 (.str (S "law_ul0020_02") 2309) (.ref 140)), #[]⟩
noncomputable def z147 (P : Params) : Obj := ⟨.type "code", none, .fields [.str (S "_law_part") 2331, .str (S "_law_part") 2332, .str (S "/claim/cut.py") 2333, .int 107 0, .int 3 0, .int 0 0, .int 0 0, .int 3 0, .ref 142, .bool true, .int 181 0, .ref 143, .none, .ref 144, .ref 145, .ref 146, .int 2339 0, .int 107 0, .str (S "/claim/cut.py") 2340].toArray, #[]⟩
noncomputable def z148 (P : Params) : Obj := ⟨.type "function", none, .func (fD nL18 aL18 bL18 sL18 3 (.str (S "law_ul0020_02") 2309) (.ref 147)), #[]⟩
noncomputable def z154 (P : Params) : Obj := ⟨.type "code", none, .fields [.str (S "_law_text") 2342, .str (S "_law_text") 2343, .str (S "/claim/cut.py") 2344, .int 114 0, .int 3 0, .int 0 0, .int 0 0, .int 3 0, .ref 149, .bool true, .int 181 0, .ref 150, .none, .ref 151, .ref 152, .ref 153, .int 2354 0, .int 114 0, .str (S "/claim/cut.py") 2355].toArray, #[]⟩
noncomputable def z155 (P : Params) : Obj := ⟨.type "function", none, .func (fD nL19 aL19 bL19 sL19 3 (.str (S "law_ul0020_02") 2309) (.ref 154)), #[]⟩
noncomputable def z161 (P : Params) : Obj := ⟨.type "code", none, .fields [.str (S "_law_words") 2357, .str (S "_law_words") 2358, .str (S "/claim/cut.py") 2359, .int 128 0, .int 1 0, .int 0 0, .int 0 0, .int 3 0, .ref 156, .bool true, .int 181 0, .ref 157, .none, .ref 158, .ref 159, .ref 160, .int 2367 0, .int 128 0, .str (S "/claim/cut.py") 2368].toArray, #[]⟩
noncomputable def z162 (P : Params) : Obj := ⟨.type "function", none, .func (fD nL20 aL20 bL20 sL20 3 (.str (S "law_ul0020_02") 2309) (.ref 161)), #[]⟩
noncomputable def z166 (P : Params) : Obj := ⟨.type "code", none, .fields [.str (S "law") 2370, .str (S "law") 2371, .str (S "/claim/cut.py") 2372, .int 142 0, .int 1 0, .int 0 0, .int 0 0, .int 3 0, .ref 163, .bool true, .int 181 0, .ref 164, .none, .none, .none, .ref 165, .int 2373 0, .int 142 0, .str (S "/claim/cut.py") 2374].toArray, #[]⟩
noncomputable def z167 (P : Params) : Obj := ⟨.type "function", none, .func (fD nL21 aL21 bL21 sL21 3 (.str (S "law_ul0020_02") 2309) (.ref 166)), #[]⟩
noncomputable def b3O : Obj := dictO (entsAll 350 (dchunks 37 b3its))
noncomputable def KL (P : Params) : Frag := (nat_lit 2, boot_o_2 P) :: (nat_lit 3, z3 P) :: (nat_lit 6, boot_o_6 P) :: (nat_lit 20, a20 P) :: (nat_lit 21, a21 P) :: (nat_lit 27, a27 P) :: (nat_lit 28, a28 P) :: (nat_lit 34, a34 P) :: (nat_lit 35, a35 P) :: (nat_lit 41, a41 P) :: (nat_lit 42, a42 P) :: (nat_lit 48, a48 P) :: (nat_lit 49, a49 P) :: (nat_lit 55, a55 P) :: (nat_lit 56, a56 P) :: (nat_lit 62, a62 P) :: (nat_lit 63, a63 P) :: (nat_lit 71, a71 P) :: (nat_lit 80, z80 P) :: (nat_lit 81, z81 P) :: (nat_lit 82, b3O) :: (nat_lit 126, z126 P) :: (nat_lit 127, z127 P) :: (nat_lit 133, z133 P) :: (nat_lit 134, z134 P) :: (nat_lit 140, z140 P) :: (nat_lit 141, z141 P) :: (nat_lit 147, z147 P) :: (nat_lit 148, z148 P) :: (nat_lit 154, z154 P) :: (nat_lit 155, z155 P) :: (nat_lit 161, z161 P) :: (nat_lit 162, z162 P) :: (nat_lit 166, z166 P) :: (nat_lit 167, z167 P) :: []
noncomputable def asL : List Addr := [2, 3, 6, 20, 21, 27, 28, 34, 35, 41, 42, 48, 49, 55, 56, 62, 63, 71, 80, 81, 82, 126, 127, 133, 134, 140, 141, 147, 148, 154, 155, 161, 162, 166, 167]
theorem asL_eq (P : Params) : asL = (KL P).map (·.1) := by kernel_rfl
noncomputable def qv : Program := { pw with main := { pw.main with body := [1, 2, 3, 4, 5, 6, 7, 9, 11, 12, 13, 14, 16, 17, 18, 19, 20, 21].filterMap fun i => pw.main.body[i]? } }
noncomputable def loose1 : List Str := [S "b1_set", S "b3_exceptions"]
noncomputable def H : Hook := kHook KL asL asL_eq
end
noncomputable section
noncomputable def sB (w : World) (os : OsState) : Option (Flow × Shared × Code × Pos) := segRun tbQ pw w m0 ann0 1 100 (SA w os) (piecesOf lB env1 c1 pA [topFrame q0])
noncomputable def midT (pos : Pos) : Thread := ⟨(contK (.ref 82)).wrap (fun f => match f with | .next => (execs l2 env1).wrap doneF (leaveH env1) id id | f => doneF f) (leaveH env1) id id, c1, pos, [topFrame q0]⟩
noncomputable def tailOf (w : World) (s : Shared) (pos : Pos) : Option Shared := topRun tbQ pw w m0 ann0 800 (midS 37 b3its s) (midT pos)
noncomputable def XtL (s : Shared) : Bool := xlAt qv [] s && recOk [] s
noncomputable def looksAt (w : World) (os : OsState) (r : Shared) := ((staticsOk (importedModules pw.main.body) (boot_heap w.params) r.heap && namesBound pw r.heap && gensDone r && laidKept (boot_heap w.params) r.heap), openSeen qv loose1 (importedModules pw.main.body) XtL true r, H.obs r)
noncomputable def looksOk (w : World) := (true, openGood qv loose1, H.val w)
noncomputable def outB (w : World) (os : OsState) (pos : Pos) := (sB w os).map fun x => (x.1, x.2.2.1, x.2.1.heap.objs.size, (tailOf w x.2.1 pos).map (looksAt w os))
set_option profiler true
set_option profiler.threshold 500
theorem segB (w : World) (os : OsState) (pos : Pos) : outB w os pos = some (.next, c1, 82, some (looksOk w)) := by kernel_rfl
end
noncomputable section
theorem left_mine {p q : Program} {loose : List Str} {Xt : Shared → Bool} {α : Type} {Yf : Shared → α} {Ya : World → α} {N : Nat} {g0 : Bool} {m₀ : Nat} {ann : Option Value}
    (open_ : ∀ w : World, (fencedOpening treeTable p w N).map (fun s => (s.heap, s.gens, s.drawn, s.toks)) = some (boot_heap w.params, Array.mk [], boot_drawn, boot_toks))
    (size : ∀ w : World, ((boot_heap w.params).isNs mainGlobals, (boot_heap w.params).objs.size, (boot_heap w.params).nsMap mainGlobals "__annotations__") = (true, m₀, ann))
    (run : ∀ (w : World) (os : OsState), ∃ r, topRun treeTable p w m₀ ann N ⟨boot_heap w.params, Array.mk [], boot_drawn, boot_toks, os⟩ (topStub p) = some r ∧
      ((staticsOk (importedModules p.main.body) (boot_heap w.params) r.heap && namesBound p r.heap && gensDone r && laidKept (boot_heap w.params) r.heap), openSeen q loose (importedModules p.main.body) Xt g0 r, Yf r) = (true, openGood q loose, Ya w)) :
    LeftO p q loose Xt Yf Ya N g0 := fun w => by
  obtain ⟨⟨h, gs, d, k, os⟩, e, e'⟩ := Option.map_eq_some_iff.mp (open_ w)
  obtain ⟨rfl, rfl, rfl, rfl⟩ : h = boot_heap w.params ∧ gs = Array.mk [] ∧ d = boot_drawn ∧ k = boot_toks := by simpa using e'
  obtain ⟨z1, z2, z3⟩ : _ ∧ _ ∧ _ := by simpa only [Prod.mk.injEq] using size w
  obtain ⟨r, hr, hl⟩ := run w os
  obtain ⟨l1, l2, l3⟩ : _ ∧ _ ∧ _ := by simpa only [Prod.mk.injEq] using hl
  have t : topFrom treeTable p w N ⟨boot_heap w.params, Array.mk [], boot_drawn, boot_toks, os⟩ = some r := by
    unfold topFrom
    dsimp only
    rw [z1, z2, z3, hr]
    show (match staticsOk (importedModules p.main.body) (boot_heap w.params) r.heap && namesBound p r.heap && gensDone r && laidKept (boot_heap w.params) r.heap with | true => _ | false => _) = _
    rw [l1]
  unfold openEnds
  rw [e]
  show (topFrom treeTable p w N _).map _ = _
  rw [t]
  exact congrArg some (Prod.ext l2 l3)

noncomputable def NN : Nat := 20000
theorem open1 : ∀ w : World, (fencedOpening treeTable pw w NN).map (fun s => (s.heap, s.gens, s.drawn, s.toks)) = some (boot_heap w.params, Array.mk [], boot_drawn, boot_toks) :=
  boot_open (p := pw) (N := NN) (by kernel_rfl) (by kernel_rfl) (fun s => by kernel_rfl)
theorem size1 (w : World) : ((boot_heap w.params).isNs mainGlobals, (boot_heap w.params).objs.size, (boot_heap w.params).nsMap mainGlobals "__annotations__") = (true, m0, ann0) := by kernel_rfl

theorem costs : 12 + (2 + (1500 + (100 + (1 + dcost 37 b3its + 800)))) ≤ NN := Nat.le_of_ble_eq_true (by kernel_rfl)

theorem run1 (w : World) (os : OsState) : ∃ r, topRun treeTable pw w m0 ann0 NN (S0 w os) (topStub pw) = some r ∧ looksAt w os r = looksOk w := by
  -- the piece before the dict, from the state that is written out
  have hB := segB w os q0
  obtain ⟨⟨f, sb1, cc, pp⟩, hsB, hx⟩ := Option.map_eq_some_iff.mp hB
  obtain ⟨hx1, hx2, hx3, -⟩ : f = .next ∧ cc = c1 ∧ sb1.heap.objs.size = 82 ∧ _ := by simpa only [Prod.mk.injEq] using hx
  subst hx1; subst hx2
  -- the dict
  have hev := ev_evalDict (p := pw) (w := w) (n₀ := m0) (ann := ann0) (pos := b3pos) (env := env1) (n := 37) (s := sb1) b3its_eq b3its_asc b3its_small (by rw [b3its_len]; decide) (by rw [b3its_len]; decide) (by rw [b3its_len]; decide) (by rw [hx3]; decide) (by rw [hx3]; decide)
  rw [hx3] at hev
  have hev1 : Ev treeTable pw w m0 ann0 (standAt b3pa >>= fun _ => eval (.Dict b3ks b3vs b3pos) env1) sb1 (1 + dcost 37 b3its) (.ref 82) (midS 37 b3its sb1) := Ev.bind' (n := 1) (Ev.at (n := 0) .pure) hev
  obtain ⟨pos', hgo⟩ := hev1.goW (fun _ _ _ _ _ _ => trivial) (fun v => (contK v).wrap (fun f => match f with | .next => (execs l2 env1).wrap doneF (leaveH env1) id id | f => doneF f) (leaveH env1) id id) (leaveH env1) bodyB env1 pp (topFrame q0) []
  -- the rest
  have hB' := segB w os pos'
  rw [outB, hsB] at hB'
  obtain ⟨-, -, -, hT⟩ : _ ∧ _ ∧ _ ∧ (tailOf w sb1 pos').map (looksAt w os) = some (looksOk w) := by simpa only [Option.map_some, Option.some.injEq, Prod.mk.injEq] using hB'
  obtain ⟨r, hr, hlook⟩ := Option.map_eq_some_iff.mp hT
  refine ⟨r, ?_, hlook⟩
  have k0 : topRun treeTable pw w m0 ann0 800 (midS 37 b3its sb1) (midT pos') = some r := by rw [tbQ_eq]; exact hr
  have k1 : topRun treeTable pw w m0 ann0 (1 + dcost 37 b3its + 800) sb1 (restOf (stN 13 :: l2) env1 c1 pp [topFrame q0]) = some r := by
    have e : restOf (stN 13 :: l2) env1 c1 pp [topFrame q0] = ⟨(standAt b3pa >>= fun _ => eval (.Dict b3ks b3vs b3pos) env1).wrap (fun v => (contK v).wrap (fun f => match f with | .next => (execs l2 env1).wrap doneF (leaveH env1) id id | f => doneF f) (leaveH env1) id id) (leaveH env1) id id, .body bodyB env1, pp, [topFrame q0]⟩ := by
      unfold restOf
      rw [execs_cons_wrap, exec3]
      have e2 : (standAt b3pa >>= fun _ => (eval (.Dict b3ks b3vs b3pos) env1 >>= contK)) = ((standAt b3pa >>= fun _ => eval (.Dict b3ks b3vs b3pos) env1) >>= contK) := (Sem.bind_assoc (standAt b3pa) (fun _ => eval (.Dict b3ks b3vs b3pos) env1) contK).symm
      rw [e2, Sem.bind_eq_wrap' _ contK, Sem.wrap_wrap]
      rfl
    rw [e]
    exact go_top hgo k0
  have hsB' : segRun treeTable pw w m0 ann0 1 100 (SA w os) (piecesOf lB env1 c1 pA [topFrame q0]) = some (.next, sb1, c1, pp) := by rw [tbQ_eq]; exact hsB
  have k2 := piece_app (rest := stN 13 :: l2) hsB' k1
  have hsA : segRun treeTable pw w m0 ann0 1 1500 (sb w os) (piecesOf lA env1 c1 q0 [topFrame q0]) = some (.next, SA w os, c1, pA) := by rw [tbQ_eq]; exact segA w os
  have k3 := piece_app (rest := lB ++ (stN 13 :: l2)) hsA k2
  have eb : lA ++ (lB ++ (stN 13 :: l2)) = bodyB := by rw [← List.append_assoc, ← l1_split, ← body_split]
  rw [eb] at k3
  have k4 := piece_block (block_ok w os) k3
  have k5 := go_top (pre_ok w os) k4
  generalize hM : 12 + (2 + (1500 + (100 + (1 + dcost 37 b3its + 800)))) = M at k5
  have hle : M ≤ NN := hM ▸ costs
  have k6 := topRun_mono (NN - M) _ _ _ _ k5
  rw [Nat.add_sub_of_le hle] at k6
  exact k6

theorem left1 : LeftO pw qv loose1 XtL H.obs H.val NN := left_mine open1 size1 run1
end
open PySem.Calls
theorem prime : rw_ul0020_02.prog = rw_ul0020_02.prog ∧ KL = KL := by k_fill; exact ⟨rfl, rfl⟩

noncomputable abbrev ML (w : World) : Model := model rw_ul0020_02.prog w
/-- the heads of the code objects whose tables grow -/
noncomputable def HdOk (h : Heap) : Prop := CodeHd h 41 37 ∧ CodeHd h 34 30
theorem HdOk.keeps {h h' : Heap} (x : HdOk h) (k : h.StaysIn h') : HdOk h' := ⟨x.1.keeps k, x.2.keeps k⟩
noncomputable abbrev looseL : List Str := looseW qv loose1 ++ (recsOf qv).map (·.name) ++ (litsOf qv).map (·.1) ++ (clssOf qv (looseW qv loose1)).map (·.name)

structure Grd (w : World) (mean : ExcName → Option Value) (mg mb : Str → Option Value) (h : Heap) : Prop where
  X : (KL w.params).In h
  T : Top topProg looseL mean mg mb h
  C : HdOk h
theorem Grd.keeps {w : World} {mean : ExcName → Option Value} {mg mb : Str → Option Value} {h h' : Heap} (x : Grd w mean mg mb h) (k : h.StaysIn h') : Grd w mean mg mb h' := ⟨x.X.keeps k, x.T.keeps k, x.C.keeps k⟩

noncomputable abbrev Rel := Value → List (Addr × Obj) → Prop
/-- what a call gives: for any caller's frame, over the ledger news -/
noncomputable def Spec (w : World) (mean : ExcName → Option Value) (mg mb : Str → Option Value) (f : Value) (vs : List Value) (D U : Nat) (news : List (Addr × Obj)) (R : Rel) : Prop :=
  ∀ (dp un : Nat) (gd : Option (List Code)) (cn : Str) (cs : Scope) (a : Addr) (ccd : Value) (cl : List (Str × Addr)) (outer : List Env) (A₀ : Around) (base h₀ : Heap) (L : Addr) (m : Str → Option Value) (s : Shared) (Q E : Value → Shared → Prop),
    Below A₀ base outer h₀ → Fr h₀ L s.heap m → News h₀ L s.heap news → Grd w mean mg mb h₀ → cs.kind = .function → dp + D < recursionLimit → un + U < cLine →
    (∀ r news' h' tk', R r news' → Fr h₀ L h' m → News h₀ L h' news' → Q r { s with heap := h', toks := tk' }) →
    wpAny (ML w) (ktrTop dp un gd cn cs L a ccd cl outer) (call f vs) Q E s

/-- the end of a body -/
noncomputable def Ret (s : Shared) (g : Heap) (L' : Addr) (R : Rel) (fl : Flow) (s' : Shared) : Prop :=
  ∃ m' news' h' tk', s' = { s with heap := h', toks := tk' } ∧ Fr g L' h' m' ∧ News g L' h' news' ∧ R (match fl with | .ret v => v | _ => .none) news'
theorem Ret.intro {s : Shared} {g : Heap} {L' : Addr} {R : Rel} {v : Value} {m' : Str → Option Value} {news' : List (Addr × Obj)} {h' : Heap} {tk' : Nat} (F : Fr g L' h' m') (N : News g L' h' news') (h : R v news') :
    Ret s g L' R (.ret v) { s with heap := h', toks := tk' } := ⟨m', news', h', tk', rfl, F, N, h⟩
noncomputable abbrev noE : Value → Shared → Prop := fun _ _ => False

section
variable {w : World} {mean : ExcName → Option Value} {mg mb : Str → Option Value}
/-- a def of the top without cells of its own -/
theorem spec_def {f c : Addr} {vs : List Value} {D U : Nat} {news : List (Addr × Obj)} {R : Rel} {nm : Str} {ar : Arguments} {bd : List Stmt} {sc : Scope} {pm : Value} {binds : List (Str × Value)}
    (ho : (KL w.params).lookup f = some ⟨.type "function", none, .func (fnOf nm nm ar bd sc .none .none .none pm none (.ref c) .none), #[]⟩) (hcd : codeIn (KL w.params) (.ref c) nm = true)
    (hbind : bindArgs (fnOf nm nm ar bd sc .none .none .none pm none (.ref c) .none) ⟨vs, []⟩ = pure binds) (hloc : (binds.all fun x => decide (sc.names.lookup x.1 = some .local)) = true)
    (h : ∀ (dp un : Nat) (gd : Option (List Code)) (outer : List Env) (A₀ : Around) (base g : Heap) (L' : Addr) (h₁ : Heap) (s : Shared), Below A₀ base outer g → Fr g L' h₁ (fun y => binds.reverse.lookup y) → News g L' h₁ news → Grd w mean mg mb g → (∀ p ∈ news, p.1 < L') → dp + D < recursionLimit + 1 → un + U < cLine + 3 →
      wpAny (ML w) (ktrTop dp un gd nm sc L' f (.ref c) [] outer) (execs bd (envX nm sc L' f (.ref c) [])) (Ret s g L' R) noE { s with heap := h₁, toks := s.toks + binds.length })
    (hcell : (sc.names.all fun x => x.2 != .cell) = true) (hco : sc.isCoroutine = false) (hgen : sc.isGenerator = false) (hk : sc.kind = .function) (hD : 0 < D) (hU : 0 < U) : Spec w mean mg mb (.ref f) vs D U news R := by
  intro dp un gd cn cs a ccd cl outer A₀ base h₀ L m s Q E B F N G hkc hd hu hret
  refine wpAny_call ?_
  refine callX_plain (cl := []) B F N G.T.nolimit rfl rfl hkc ((G.X.keeps F.keep) _ _ ho) rfl (codeRec_of (G.X.keeps F.keep) hcd) (by show dp < recursionLimit; omega) (BindsTo.of_eq hbind) (locs hloc) ?_ (fun x hx => by have := List.all_eq_true.mp hcell x hx; simpa using this) hco hgen hk
  intro g L' h₁ FG F' N' B' st lt
  refine wpAny_mono (h (dp + 1) (un + 3) gd (envX cn cs L a ccd cl :: outer) _ base g L' h₁ s B' F' N' (G.keeps st) lt (by omega) (by omega)) (fun fl s' hr => ?_) (fun _ _ x => x.elim)
  obtain ⟨m', news', h', tk', rfl, F2, N2, hR⟩ := hr
  exact leaveK_ F2 N2 fun F3 N3 => hret _ _ _ _ hR F3 N3
end
theorem prime1 : rw_ul0020_02.prog = rw_ul0020_02.prog ∧ KL = KL := by k_fill; exact ⟨rfl, rfl⟩
section
variable {w : World} {mean : ExcName → Option Value} {mg mb : Str → Option Value}

noncomputable def b1L : List Int := [65024, 65025, 65026, 65027, 65028, 65029, 6150, 65030, 65031, 65032, 65033, 6155, 6156, 6157, 8203, 8204, 8205, 65034, 65035, 65036, 65037, 65038, 65039, 173, 847, 8288, 65279]
noncomputable def intsAt : List (Int × Value) → List Int → Bool
  | [], [] => true
  | (h, .int k _) :: r, k' :: r' => h == hashInt k && k == k' && intsAt r r'
  | _, _ => false
theorem intsAt_elems {prog : Program} : ∀ {es : List (Int × Value)} {ks : List Int}, intsAt es ks = true → ElemsOf (intKind prog w) es
  | [], _, _ => fun e he => by cases he
  | (h, .int k t) :: r, k' :: r', x => by
    simp only [intsAt, Bool.and_eq_true, beq_iff_eq] at x
    intro e he
    rcases List.mem_cons.mp he with rfl | he
    · exact ⟨⟨k, intKind_is _ _ _ _, x.1.1⟩, rfl⟩
    · exact intsAt_elems x.2 e he
theorem intsAt_mem {prog : Program} : ∀ {es : List (Int × Value)} {ks : List Int}, intsAt es ks = true → ∀ k, decide (k ∈ ks) = true ↔ ∃ e ∈ es, (intKind prog w).is k e.2 = true
  | [], [], _ => fun k => by simp
  | (h, .int k t) :: r, k' :: r', x => by
    simp only [intsAt, Bool.and_eq_true, beq_iff_eq] at x
    obtain ⟨⟨_, rfl⟩, x2⟩ := x
    intro q
    have ih := intsAt_mem (prog := prog) x2 q
    simp only [decide_eq_true_eq, List.mem_cons] at ih ⊢
    rw [ih]
    constructor
    · rintro (rfl | ⟨e, he, h⟩)
      · exact ⟨_, .inl rfl, intKind_is _ _ _ _⟩
      · exact ⟨e, .inr he, h⟩
    · rintro ⟨e, rfl | he, h⟩
      · have h' : Value.isInt q (.int k t) = true := h
        obtain ⟨u, e⟩ := Value.isInt_shape h'
        cases e
        exact .inl rfl
      · exact .inr ⟨e, he, h⟩
theorem b1_set {h : Heap} (X : (KL w.params).In h) : h.SetOf (intKind rw_ul0020_02.prog w) 71 (fun k => decide (k ∈ b1L)) 27 := by
  have h1 := X 71 (a71 w.params) (by kernel_rfl)
  refine ⟨_, _, _, _, h1, ⟨rfl, rfl, rfl⟩, rfl, ?_, ?_, by decide, by rfl, rfl⟩
  · exact intsAt_elems (ks := b1L) (by decide +kernel)
  · exact intsAt_mem (by decide +kernel)
set_option maxRecDepth 100000 in
set_option maxHeartbeats 8000000 in
theorem spec_inB1 (c : Nat) (t : Tok) (news : List (Addr × Obj)) : Spec w mean mg mb (.ref 81) [.str ⟨#[c]⟩ t] 1 20 news (fun r n => r = .bool (decide ((c : Int) ∈ b1L)) ∧ n = news) := by
  refine spec_def (nm := nL12) (ar := aL12) (bd := bL12) (sc := sL12) (c := 80) (binds := [(S "code", .str ⟨#[c]⟩ t)]) rfl rfl rfl rfl ?_ rfl rfl rfl rfl (by decide) (by decide)
  intro dp un gd outer A₀ base g L' h₁ s B F N G lt hd hu
  obtain ⟨X, T, C⟩ := G
  dsimp only [bL12, sL12, S] at *
  k_steps
  exact wpAny_inSet_of (intKind_is _ _ _ _) rfl (b1_set (X.keeps F.keep)) (Ret.intro F N ⟨rfl, rfl⟩)

/-- entries that bear these items -/
inductive EI : List DictEntry → List Item → Prop
  | nil : EI [] []
  | cons {u v : Tok} {it : Item} {es : List DictEntry} {its : List Item} : EI es its → EI (ent u v it :: es) (it :: its)
theorem EI.append : ∀ {a b : List DictEntry} {x y : List Item}, EI a x → EI b y → EI (a ++ b) (x ++ y)
  | _, _, _, _, .nil, h => h
  | _, _, _, _, .cons h, k => .cons (h.append k)
theorem ei_L (u : Tok) : ∀ its : List Item, EI (entsL u its) its := fun its => by
  induction its generalizing u with
  | nil => exact .nil
  | cons it r ih => exact .cons (ih _)
theorem ei_S (u : Tok) : ∀ its : List Item, EI (entsS u its) its := fun its => by
  induction its generalizing u with
  | nil => exact .nil
  | cons it r ih => exact .cons (ih _)
theorem ei_of (u : Tok) (its : List Item) : EI (entsOf u its) its := by
  unfold entsOf
  split
  · exact ei_S u its
  · exact ei_L u its
theorem ei_all (u : Tok) : ∀ cs : List (List Item), EI (entsAll u cs) cs.flatten := fun cs => by
  induction cs generalizing u with
  | nil => exact .nil
  | cons c r ih => exact (ei_of _ _).append (ih _)
noncomputable def valsOf : List DictEntry → List (Int × Value)
  | [] => []
  | e :: r => ((match e.key with | .int k _ => k | _ => 0), e.val) :: valsOf r
noncomputable def tabD (its : List Item) : List (PyData × PyData) := its.map fun it => (PyData.int (Int.ofNat it.1), PyData.str it.2)
theorem rawHash_small {k : Nat} (h : k < 2 ^ 60) : hashInt (Int.ofNat k) = Int.ofNat k := by
  have h1 : ¬ (Int.ofNat k < 0) := by simp only [Int.ofNat_eq_natCast]; omega
  have h2 : (Int.ofNat k).natAbs % (2 ^ 61 - 1) = k := by
    simp only [Int.ofNat_eq_natCast, Int.natAbs_natCast]; omega
  have h4 : rawHash (Int.ofNat k) = Int.ofNat k := by
    have h3 : (((Int.ofNat k).natAbs : Nat) : Int) % ((2 ^ 61 - 1 : Nat) : Int) = Int.ofNat k := by
      rw [← Int.natCast_emod, h2]; rfl
    unfold rawHash
    dsimp only
    rw [if_neg h1, h3, if_neg (by simp only [beq_iff_eq, Int.ofNat_eq_natCast]; omega)]
  unfold hashInt
  rw [h4, if_neg (by simp only [beq_iff_eq, Int.ofNat_eq_natCast]; omega)]
theorem ei_tab {prog : Program} {h : Heap} {d : Addr} {es : List DictEntry} {its : List Item} (hd : h.get? d = some (dictO es)) (lo : (d == sysModules) = false) (e : EI es its) (hnd : (keysI its).Nodup) (hk : ∀ it ∈ its, it.1 < 2 ^ 60) :
    IntTab prog w h d (tabD its) := by
  have hkeys : (valsOf es).map (·.1) = keysI its := by
    clear hd hnd hk
    induction e with
    | nil => rfl
    | cons _ ih => simp only [valsOf, List.map_cons, ih, keysI]; rfl
  refine TabAt.ofObj (o := dictO es) (kvs := valsOf es) lo hd ⟨es.toArray, es.length, ⟨rfl, rfl, rfl⟩, rfl, ?_, ?_, by rw [hkeys]; exact hnd⟩ ?_
  · intro x hx
    have hx' : x ∈ es := by simpa using hx
    clear hd hnd hkeys hx
    induction e with
    | nil => cases hx'
    | @cons u v it es its _ ih =>
      rcases List.mem_cons.mp hx' with rfl | hx'
      · refine ⟨Int.ofNat it.1, intKind_is _ _ _ _, ?_⟩
        show Int.ofNat it.1 = hashInt (Int.ofNat it.1)
        rw [rawHash_small (hk it (.head _))]
      · exact ih (fun y hy => hk y (.tail _ hy)) hx'
  · show Pairs _ es _
    clear hd hnd hkeys hk
    induction e with
    | nil => exact .nil
    | cons _ ih => exact .cons (intKind_is _ _ _ _) rfl ih
  · clear hd hnd hkeys hk
    induction e with
    | nil => exact .nil
    | cons _ ih => exact .cons (PyProof.V.Flat.str _ _) ih
noncomputable def b3find (c : Nat) : Option Str := (b3its.find? fun it => it.1 == c).map (·.2)
theorem tab_lookup (its : List Item) (c : Nat) : PySem.Spec.lookup (.int (Int.ofNat c)) (tabD its) = ((its.find? fun it => it.1 == c).map (·.2)).map .str := by
  induction its with
  | nil => rfl
  | cons it r ih =>
    simp only [tabD, List.map_cons, PySem.Spec.lookup, List.find?_cons]
    have : PySem.Spec.same (.int (Int.ofNat it.1)) (.int (Int.ofNat c)) = (it.1 == c) := by
      rw [PyProof.V.same_int]
      by_cases hc : it.1 = c
      · subst hc; simp
      · have : (it.1 == c) = false := by simpa using hc
        rw [this, decide_eq_false]
        intro e; exact hc (Int.ofNat.inj e)
    rw [this]
    cases hb : it.1 == c with
    | true => rfl
    | false => simpa [tabD] using ih
set_option maxRecDepth 100000 in
theorem b3_at (P : Params) : (KL P).lookup 82 = some b3O := by kernel_rfl
set_option maxRecDepth 100000 in
theorem b3_tab {h : Heap} (X : (KL w.params).In h) : IntTab rw_ul0020_02.prog w h 82 (tabD b3its) := by
  have h1 := X 82 b3O (b3_at w.params)
  have hf : (dchunks 37 b3its).flatten = b3its := dchunks_flat 37 b3its
  exact ei_tab h1 (by decide) (hf ▸ ei_all _ (dchunks 37 b3its)) (asc_nodup b3its_asc) (fun it hit => by have := List.all_eq_true.mp b3its_small it hit; simpa using this)
theorem len_one (c : Nat) : (⟨#[c]⟩ : Str).length ≤ 5592405 := (by decide : (1 : Nat) ≤ 5592405)
/-- what map_table_b3 gives for a sign -/
noncomputable def mapB3 (c : Nat) : Str := (b3find c).getD (Txt.lower ⟨#[c]⟩)
set_option maxRecDepth 100000 in
set_option maxHeartbeats 8000000 in
theorem spec_map (c : Nat) (t : Tok) (news : List (Addr × Obj)) : Spec w mean mg mb (.ref 127) [.str ⟨#[c]⟩ t] 1 20 news (fun r n => (∃ u, r = .str (mapB3 c) u) ∧ n = news) := by
  refine spec_def (nm := nL14) (ar := aL14) (bd := bL14) (sc := sL14) (c := 126) (binds := [(S "code", .str ⟨#[c]⟩ t)]) rfl rfl rfl rfl ?_ rfl rfl rfl rfl (by decide) (by decide)
  intro dp un gd outer A₀ base g L' h₁ s B F N G lt hd hu
  obtain ⟨X, T, C⟩ := G
  dsimp only [bL14, sL14, S] at *
  have T3 := b3_tab (w := w) (X.keeps F.keep)
  k_steps
  rename (PyProof.V.Flat _ _) => hv
  have hl : PySem.Spec.lookup (.int (c : Int)) (tabD b3its) = (b3find c).map .str := tab_lookup b3its c
  rw [hl] at hv
  rcases hb : b3find c with _ | x
  · rw [hb] at hv
    obtain rfl := PyProof.V.Flat.none_inv hv
    k_steps
    refine SCL.lower (len_one c) fun k => ?_
    k_steps
    exact Ret.intro (by assumption) (by assumption) ⟨⟨_, by rw [mapB3, hb]; rfl⟩, rfl⟩
  · rw [hb] at hv
    obtain ⟨t', rfl⟩ := PyProof.V.Flat.str_inv hv
    k_steps
    exact Ret.intro (by assumption) (by assumption) ⟨⟨_, by rw [mapB3, hb]; rfl⟩, rfl⟩
end
theorem prime2 : rw_ul0020_02.prog = rw_ul0020_02.prog ∧ KL = KL := by k_fill; exact ⟨rfl, rfl⟩
section
variable {w : World} {mean : ExcName → Option Value} {mg mb : Str → Option Value}
/-- a tuple of two numbers -/
noncomputable abbrev tup2 (q r : Int) (t u : Tok) : Obj := { cls := .type "tuple", data := .seq #[.int q t, .int r u] }
/-- the answer is a new pair -/
noncomputable abbrev PairR (news : List (Addr × Obj)) (q r : Int) : Rel := fun v n => ∃ p t u, v = .ref p ∧ n = (p, tup2 q r t u) :: news ∧ ∀ p' ∈ news, p'.1 ≠ p
theorem bits_sub {x n : Int} {m : Nat} (h : x.natAbs < 2 ^ m) (hm : m ≤ 4000) (hn : 0 ≤ n) : (Builtin.Int.intBits x : Int) - n ≤ 4000 := by
  have := PySem.intBits_le_iff.mpr h
  omega
theorem log2_of {y : Int} {m : Nat} (h : y.natAbs < 2 ^ m) (hm : m ≤ 4000) : y.natAbs.log2 < 9000 := by
  by_cases h0 : y.natAbs = 0
  · rw [h0]; decide +kernel
  · have := (Nat.log2_lt h0).mpr h; omega
set_option maxRecDepth 100000 in
set_option maxHeartbeats 8000000 in
theorem spec_d21 (x y n : Int) (t1 t2 t3 : Tok) (hx : x.natAbs < 2 ^ 4000) (hy : y.natAbs < 2 ^ 4000) (hy0 : y ≠ 0) (hn : 0 ≤ n) (news : List (Addr × Obj)) : Spec w mean mg mb (.ref 21) [.int x t1, .int y t2, .int n t3] 1 20 news (PairR news (x.fdiv y) (x.fmod y)) := by
  refine spec_def (nm := nL2) (ar := aL2) (bd := bL2) (sc := sL2) (c := 20) (binds := [(S "a", .int x t1), (S "b", .int y t2), (S "n", .int n t3)]) rfl rfl rfl rfl ?_ rfl rfl rfl rfl (by decide) (by decide)
  intro dp un gd outer A₀ base g L' h₁ s B F N G lt hd hu
  obtain ⟨X, T, C⟩ := G
  dsimp only [bL2, sL2, S] at *
  have hl := bits_sub hx (Nat.le_refl _) hn
  k_steps
  have hlt : ∀ p' ∈ news, p'.1 ≠ h₁.objs.size := fun p hp => Nat.ne_of_lt (Heap.lt_size (N p hp).1)
  refine divmod_N (by assumption) (by assumption) hy0 (fun h' F2 N2 => ?_) (Or.inl (PyProof.noPylong_of_log2 (log2_of hy (Nat.le_refl _))))
  exact Ret.intro F2 N2 ⟨_, _, _, rfl, rfl, hlt⟩

theorem Spec.use {f : Value} {vs : List Value} {D U : Nat} {news : List (Addr × Obj)} {R : Rel} (S : Spec w mean mg mb f vs D U news R) {dp un : Nat} {gd : Option (List Code)} {cn : Str} {cs : Scope} {a : Addr} {ccd : Value} {cl : List (Str × Addr)} {outer : List Env} {A₀ : Around} {base h₀ : Heap} {L : Addr} {m : Str → Option Value} {s : Shared} {Q E : Value → Shared → Prop}
    (B : Below A₀ base outer h₀) (F : Fr h₀ L s.heap m) (N : News h₀ L s.heap news) (X : (KL w.params).In h₀) (T : Top topProg looseL mean mg mb h₀) (C : HdOk h₀) (hk : cs.kind = .function) (hd : dp + D < recursionLimit) (hu : un + U < cLine)
    (h : ∀ r news' h' tk', R r news' → Fr h₀ L h' m → News h₀ L h' news' → Q r { s with heap := h', toks := tk' }) :
    wpAny (ML w) (ktrTop dp un gd cn cs L a ccd cl outer) (call f vs) Q E s := S _ _ _ _ _ _ _ _ _ _ _ _ _ _ _ _ _ B F N ⟨X, T, C⟩ hk hd hu h
theorem spec_defC {f c : Addr} {vs : List Value} {D U : Nat} {news : List (Addr × Obj)} {R : Rel} {nm : Str} {ar : Arguments} {bd : List Stmt} {sc : Scope} {pm : Value} {binds : List (Str × Value)} {CL : Addr → List (Str × Addr)} {ml : Str → Option Value} {mc : Str → Option Value}
    (ho : (KL w.params).lookup f = some ⟨.type "function", none, .func (fnOf nm nm ar bd sc .none .none .none pm none (.ref c) .none), #[]⟩) (hcd : codeIn (KL w.params) (.ref c) nm = true)
    (hbind : bindArgs (fnOf nm nm ar bd sc .none .none .none pm none (.ref c) .none) ⟨vs, []⟩ = pure binds)
    (hkind : (binds.all fun y => sc.names.lookup y.1 == some .local || sc.names.lookup y.1 == some .cell) = true) (hnd : ((cellsFrom 0 sc.names []).map (·.1)).Nodup)
    (hCL : ∀ L, cellsFrom (L + 1) sc.names [] = CL L) (hml : ∀ L, bindL (envOfC nm sc L f (.ref c)).kindOf binds (fun _ => none) = ml) (hmc : ∀ L, bindC (envOfC nm sc L f (.ref c)).kindOf binds (fun _ => none) = mc)
    (h : ∀ (dp un : Nat) (gd : Option (List Code)) (outer : List Env) (A₀ : Around) (base g : Heap) (L' : Addr) (h₁ : Heap) (s : Shared) (tk : Tok) (cells : List (Addr × Obj)), Below A₀ base outer g → Fr g L' h₁ ml → News g L' h₁ (cells ++ news) → CellsAre mc (CL L') cells → Grd w mean mg mb g → (∀ p ∈ news, p.1 < L') → dp + D < recursionLimit + 1 → un + U < cLine + 3 →
      wpAny (ML w) (ktrTop dp un gd nm sc L' f (.ref c) (CL L') outer) (execs bd (envX nm sc L' f (.ref c) (CL L'))) (Ret s g L' R) noE { s with heap := h₁, toks := tk })
    (hco : sc.isCoroutine = false) (hgen : sc.isGenerator = false) (hk : sc.kind = .function) (hD : 0 < D) (hU : 0 < U) : Spec w mean mg mb (.ref f) vs D U news R := by
  intro dp un gd cn cs a ccd cl outer A₀ base h₀ L m s Q E B F N G hkc hd hu hret
  refine wpAny_call ?_
  refine callX_cells B F N G.T.nolimit rfl rfl hkc ((G.X.keeps F.keep) _ _ ho) rfl (codeRec_of (G.X.keeps F.keep) hcd) (by show dp < recursionLimit; omega) (BindsTo.of_eq hbind) (kindsX hkind) hnd ?_ hco hgen hk
  intro g L' h₁ tk cells FG F' N' Y B' st lt
  rw [hml] at F'
  rw [hmc, hCL] at Y
  have he : envOfC nm sc L' f (.ref c) = envX nm sc L' f (.ref c) (CL L') := by rw [← hCL]; rfl
  rw [he]
  refine wpAny_mono (h (dp + 1) (un + 3) gd (envX cn cs L a ccd cl :: outer) _ base g L' h₁ s tk cells B' F' N' Y (G.keeps st) lt (by omega) (by omega)) (fun fl s' hr => ?_) (fun _ _ x => x.elim)
  obtain ⟨m', news', h', tk', rfl, F2, N2, hR⟩ := hr
  exact leaveK_ F2 N2 fun F3 N3 => hret _ _ _ _ hR F3 N3
theorem spec_nest {f c' : Addr} {oc : Obj} {fvs : Array Value} {t : Tok} {vs : List Value} {D U : Nat} {news : List (Addr × Obj)} {R : Rel} {nm qual : Str} {ar : Arguments} {bd : List Stmt} {sc : Scope} {cl' : List (Str × Addr)} {doc pm ctv : Value} {binds : List (Str × Value)}
    (ho : (f, fnMade nm qual ar bd sc cl' doc pm c' ctv) ∈ news) (hoc : (c', oc) ∈ news) (hfv : oc.data = .fields fvs) (hq : fvs[1]? = some (.str qual t))
    (hbind : bindArgs (fnX nm qual ar bd sc cl' .none .none doc pm none (.ref c') ctv) ⟨vs, []⟩ = pure binds) (hloc : (binds.all fun x => decide (sc.names.lookup x.1 = some .local)) = true)
    (h : ∀ (dp un : Nat) (gd : Option (List Code)) (outer : List Env) (A₀ : Around) (base g : Heap) (L' : Addr) (h₁ : Heap) (s : Shared), Below A₀ base outer g → Fr g L' h₁ (fun y => binds.reverse.lookup y) → News g L' h₁ news → Grd w mean mg mb g → (∀ p ∈ news, p.1 < L') → dp + D < recursionLimit + 1 → un + U < cLine + 3 →
      wpAny (ML w) (ktrTop dp un gd qual sc L' f (.ref c') cl' outer) (execs bd (envX qual sc L' f (.ref c') cl')) (Ret s g L' R) noE { s with heap := h₁, toks := s.toks + binds.length })
    (hcell : (sc.names.all fun x => x.2 != .cell) = true) (hco : sc.isCoroutine = false) (hgen : sc.isGenerator = false) (hk : sc.kind = .function) (hD : 0 < D) (hU : 0 < U) : Spec w mean mg mb (.ref f) vs D U news R := by
  intro dp un gd cn cs a ccd cl outer A₀ base h₀ L m s Q E B F N G hkc hd hu hret
  refine wpAny_call ?_
  refine callX_plain (cl := cl') B F N G.T.nolimit rfl rfl hkc (N _ ho).1 rfl (codeRec_news N hoc hfv hq) (by show dp < recursionLimit; omega) (BindsTo.of_eq hbind) (locs hloc) ?_ (fun x hx => by have := List.all_eq_true.mp hcell x hx; simpa using this) hco hgen hk
  intro g L' h₁ FG F' N' B' st lt
  refine wpAny_mono (h (dp + 1) (un + 3) gd (envX cn cs L a ccd cl :: outer) _ base g L' h₁ s B' F' N' (G.keeps st) lt (by omega) (by omega)) (fun fl s' hr => ?_) (fun _ _ x => x.elim)
  obtain ⟨m', news', h', tk', rfl, F2, N2, hR⟩ := hr
  exact leaveK_ F2 N2 fun F3 N3 => hret _ _ _ _ hR F3 N3
end
section
variable {w : World} {mean : ExcName → Option Value} {mg mb : Str → Option Value}
noncomputable abbrev TP1 : Addr := 37
noncomputable abbrev TP2 : Addr := 30
/-- one code table among the entries: empty, or grown by its one inner def -/
noncomputable def TabOne (P : Addr) (pos : Pos) (qual : Str) (T : List (Addr × Obj)) : Prop :=
  ∃ ps, (P, tabObj ps) ∈ T ∧ (∀ o, (P, o) ∈ T → o = tabObj ps) ∧ (ps = #[] ∨ ∃ c' oc vs t, ps = #[rawInt pos.line, rawInt pos.col, .ref c'] ∧ c' ≠ TP1 ∧ c' ≠ TP2 ∧ (c', oc) ∈ T ∧ oc.data = .fields vs ∧ vs[1]? = some (.str qual t))
noncomputable def posD2i : Pos := match bL5 with | (.FunctionDef _ _ _ _ _ _ _ _ _ p) :: _ => p | _ => ⟨0, 0, 0, 0⟩
noncomputable def posI2d : Pos := match bL4 with | _ :: (.FunctionDef _ _ _ _ _ _ _ _ _ p) :: _ => p | _ => ⟨0, 0, 0, 0⟩
noncomputable def bdD2i : List Stmt := match bL5 with | (.FunctionDef _ _ b _ _ _ _ _ _ _) :: _ => b | _ => []
noncomputable def bdI2d : List Stmt := match bL4 with | _ :: (.FunctionDef _ _ b _ _ _ _ _ _ _) :: _ => b | _ => []
noncomputable def arD2i : Arguments := match bL5 with | (.FunctionDef _ p _ _ _ _ _ _ _ _) :: _ => p | _ => ⟨[], [], none, [], [], none, []⟩
noncomputable def arI2d : Arguments := match bL4 with | _ :: (.FunctionDef _ p _ _ _ _ _ _ _ _) :: _ => p | _ => ⟨[], [], none, [], [], none, []⟩
noncomputable def scD2i : Scope := match bL5 with | (.FunctionDef _ _ _ _ _ _ s _ _ _) :: _ => s | _ => default
noncomputable def scI2d : Scope := match bL4 with | _ :: (.FunctionDef _ _ _ _ _ _ s _ _ _) :: _ => s | _ => default
noncomputable def quD2i : Str := S "_digits2int.<locals>.inner"
noncomputable def quI2d : Str := S "_int2digits.<locals>.inner"
structure Tabs (T : List (Addr × Obj)) : Prop where
  a : TabOne TP1 posD2i quD2i T
  b : TabOne TP2 posI2d quI2d T
noncomputable abbrev Dis (A T : List (Addr × Obj)) : Prop := ∀ a ∈ A, ∀ p ∈ T, p.1 ≠ a.1
theorem TabOne.grow {P P' c' : Addr} {pos : Pos} {qual : Str} {T : List (Addr × Obj)} {oc o : Obj} (h : TabOne P pos qual T) (hP' : P' = TP1 ∨ P' = TP2) (hne : P ≠ P') (hc : c' ≠ P) :
    TabOne P pos qual ((c', oc) :: (P', o) :: T.filter fun p => p.1 != P') := by
  obtain ⟨ps, h1, h2, h3⟩ := h
  have mem : ∀ {q : Addr × Obj}, q ∈ T → q.1 ≠ P' → q ∈ T.filter fun p => p.1 != P' := fun hq hn => List.mem_filter.mpr ⟨hq, by simpa using hn⟩
  refine ⟨ps, .tail _ (.tail _ (mem h1 hne)), fun o' ho => ?_, ?_⟩
  · rcases List.mem_cons.mp ho with e | ho
    · cases e; exact absurd rfl hc
    · rcases List.mem_cons.mp ho with e | ho
      · cases e; exact absurd rfl hne
      · exact h2 o' (List.mem_filter.mp ho).1
  · rcases h3 with h3 | ⟨c2, oc2, vs, t, e1, e2, e3, e4, e5, e6⟩
    · exact .inl h3
    · refine .inr ⟨c2, oc2, vs, t, e1, e2, e3, .tail _ (.tail _ (mem e4 ?_)), e5, e6⟩
      rcases hP' with rfl | rfl
      · exact e2
      · exact e3
theorem TabOne.new {P c' : Addr} {pos : Pos} {qual : Str} {T : List (Addr × Obj)} {oc : Obj} {vs : Array Value} {t : Tok} (hc : c' ≠ P) (h1 : c' ≠ TP1) (h2 : c' ≠ TP2) (hd : oc.data = .fields vs) (hv : vs[1]? = some (.str qual t)) :
    TabOne P pos qual ((c', oc) :: (P, tabObj #[rawInt pos.line, rawInt pos.col, .ref c']) :: T.filter fun p => p.1 != P) := by
  refine ⟨_, .tail _ (.head _), fun o' ho => ?_, .inr ⟨c', oc, vs, t, rfl, h1, h2, .head _, hd, hv⟩⟩
  rcases List.mem_cons.mp ho with e | ho
  · cases e; exact absurd rfl hc
  · rcases List.mem_cons.mp ho with e | ho
    · cases e; rfl
    · have := (List.mem_filter.mp ho).2
      simp at this
theorem nsub {h₀ h : Heap} {L : Addr} {a b : List (Addr × Obj)} (N : News h₀ L h a) (k : ∀ p ∈ b, p ∈ a) : News h₀ L h b := fun p hp => N p (k p hp)
/-- an inner def is made: its table grows or is hit -/
theorem nest_T {M : Model} {Ar : Around} {E : Value → Shared → Prop} {s : Shared} {h₀ : Heap} {L a c P : Addr} {m : Str → Option Value} {cn : Str} {cs : Scope} {cl : List (Str × Addr)} {A T : List (Addr × Obj)}
    {name qual : Str} {params : Arguments} {body : List Stmt} {scope : Scope} {pos : Pos} {firstLine : Nat} {clos : List (Str × Addr)} {Q : Value → Shared → Prop}
    (F : Fr h₀ L s.heap m) (N : News h₀ L s.heap (A ++ T)) (Tp : Top topProg looseL mean mg mb h₀) (C : CodeHd h₀ c P) (hT : TabOne P pos qual T) (h1 : ∃ o, (TP1, o) ∈ T) (h2 : ∃ o, (TP2, o) ∈ T) (hP : P = TP1 ∨ P = TP2) (hD : Dis A T) (hcl : closureFor scope (envX cn cs L a (.ref c) cl) = pure clos)
    (h : ∀ f c' oc vs t ctv doc pm h' tk T', (T' = T ∨ ∃ oc, T' = (c', oc) :: (P, tabObj #[rawInt pos.line, rawInt pos.col, .ref c']) :: T.filter (fun p => p.1 != P) ∧ c' ≠ TP1 ∧ c' ≠ TP2) → TabOne P pos qual T' → Fr h₀ L h' m → News h₀ L h' ((f, fnMade name qual params body scope clos doc pm c' ctv) :: (A ++ T')) → (c', oc) ∈ T' → oc.data = .fields vs → vs[1]? = some (.str qual t) → (∀ p ∈ A ++ T', p.1 < f) → Dis A T' → Q (.ref f) { s with heap := h', toks := tk }) :
    wpAny M Ar (makeFunction name qual params (.stmts body) scope (envX cn cs L a (.ref c) cl) [] [] [] pos firstLine) Q E s := by
  obtain ⟨o1, h1⟩ := h1
  obtain ⟨o2, h2⟩ := h2
  have hT0 := hT
  obtain ⟨ps, hm, hu, hg | ⟨c', oc, vs, t, e1, e2, e3, e4, e5, e6⟩⟩ := hT
  · subst hg
    have hA : ∀ p ∈ A ++ T.filter (fun p => p.1 != P), p.1 ≠ P := fun p hp => by
      rcases List.mem_append.mp hp with hp | hp
      · exact (hD p hp _ hm).symm
      · have := (List.mem_filter.mp hp).2
        simpa using this
    have N1 : News h₀ L s.heap ((P, tabObj #[]) :: (A ++ T.filter fun p => p.1 != P)) := nsub N fun p hp => by
      rcases List.mem_cons.mp hp with rfl | hp
      · exact List.mem_append_right _ hm
      · rcases List.mem_append.mp hp with hp | hp
        · exact List.mem_append_left _ hp
        · exact List.mem_append_right _ (List.mem_filter.mp hp).1
    have inN : ∀ p ∈ A ++ T, p ∈ (P, tabObj #[]) :: (A ++ T.filter fun p => p.1 != P) := fun p hp => by
      rcases List.mem_append.mp hp with hp | hp
      · exact .tail _ (List.mem_append_left _ hp)
      · by_cases q : p.1 = P
        · obtain ⟨p1, p2⟩ := p
          cases q
          cases hu p2 hp
          exact .head _
        · exact .tail _ (List.mem_append_right _ (List.mem_filter.mpr ⟨hp, by simpa using q⟩))
    refine nest_K F N1 Tp C rfl (UpdF.head hA) (by simp [TriplesOk]) rfl hcl fun f c' oc vs t ctv doc h' tk F' N' hd hv l1 l2 => ?_
    have big : ∀ p ∈ A ++ T, p.1 < c' := fun p hp => l1 p (inN p hp)
    have ne : ∀ p ∈ A ++ T, c' ≠ p.1 := fun p hp => Nat.ne_of_gt (big p hp)
    have hcP : c' ≠ P := ne _ (List.mem_append_right _ hm)
    have n1 : c' ≠ TP1 := ne _ (List.mem_append_right _ h1)
    have n2 : c' ≠ TP2 := ne _ (List.mem_append_right _ h2)
    refine h f c' oc vs t ctv doc ((mg (Str.ofString "__name__")).getD .none) h' tk ((c', oc) :: (P, tabObj #[rawInt pos.line, rawInt pos.col, .ref c']) :: T.filter fun p => p.1 != P) (.inr ⟨oc, rfl, n1, n2⟩) (TabOne.new hcP n1 n2 hd hv) F' (nsub N' fun p hp => ?_) (.head _) hd hv (fun p hp => ?_) (fun a ha p hp => ?_)
    · rcases List.mem_cons.mp hp with rfl | hp
      · exact .head _
      · rcases List.mem_append.mp hp with hp | hp
        · exact .tail _ (.tail _ (.tail _ (List.mem_append_left _ hp)))
        · rcases List.mem_cons.mp hp with rfl | hp
          · exact .tail _ (.head _)
          · rcases List.mem_cons.mp hp with rfl | hp
            · exact .tail _ (.tail _ (.head _))
            · exact .tail _ (.tail _ (.tail _ (List.mem_append_right _ hp)))
    · rcases List.mem_append.mp hp with hp | hp
      · exact Nat.lt_trans (big p (List.mem_append_left _ hp)) l2
      · rcases List.mem_cons.mp hp with rfl | hp
        · exact l2
        · rcases List.mem_cons.mp hp with rfl | hp
          · exact Nat.lt_trans (big (P, tabObj #[]) (List.mem_append_right _ hm)) l2
          · exact Nat.lt_trans (big p (List.mem_append_right _ (List.mem_filter.mp hp).1)) l2
    · rcases List.mem_cons.mp hp with rfl | hp
      · exact ne a (List.mem_append_left _ ha)
      · rcases List.mem_cons.mp hp with rfl | hp
        · exact (hD a ha (P, tabObj #[]) hm : P ≠ a.1)
        · exact hD a ha p (List.mem_filter.mp hp).1
  · subst e1
    refine nestHit_K (c' := c') F N Tp C rfl (List.mem_append_right _ hm) (by simp [TriplesOk, rawInt]) (by simp [codeAmong, rawInt]) hcl fun f ctv doc h' tk F' N' l1 => ?_
    exact h f c' oc vs t ctv doc ((mg (Str.ofString "__name__")).getD .none) h' tk T (.inl rfl) hT0 F' N' e4 e5 e6 l1 hD
theorem TabOne.inT {P : Addr} {pos : Pos} {q : Str} {T : List (Addr × Obj)} (h : TabOne P pos q T) : ∃ o, (P, o) ∈ T := let ⟨_, h, _⟩ := h; ⟨_, h⟩
theorem Dis.cons {A T : List (Addr × Obj)} {L : Addr} {c : List (Addr × Obj)} (h : Dis A T) (lt : ∀ p ∈ A ++ T, p.1 < L) (hc : ∀ p ∈ c, L < p.1) : Dis (c ++ A) T := fun a ha p hp => by
  rcases List.mem_append.mp ha with ha | ha
  · exact Nat.ne_of_lt (Nat.lt_trans (lt p (List.mem_append_right _ hp)) (hc a ha))
  · exact h a ha p hp
theorem Dis.left {a b T : List (Addr × Obj)} (h : Dis (a ++ b) T) : Dis b T := fun x hx => h x (List.mem_append_right _ hx)
/-- the tables moved, the rest stood -/
noncomputable abbrev TabR (A : List (Addr × Obj)) (P : Value → Prop) : Rel := fun r n => P r ∧ ∃ T', n = A ++ T' ∧ Tabs T' ∧ Dis A T'
theorem Ret.fall {s : Shared} {g : Heap} {L' : Addr} {R : Rel} {m' : Str → Option Value} {news' : List (Addr × Obj)} {h' : Heap} {tk' : Nat} (F : Fr g L' h' m') (N : News g L' h' news') (h : R .none news') :
    Ret s g L' R .next { s with heap := h', toks := tk' } := ⟨m', news', h', tk', rfl, F, N, h⟩
theorem allLt_get {d : Nat} {l : List (Addr × Obj)} (h : AllLt d l) : ∀ p ∈ l, @LT.lt Nat _ p.1 d := by
  induction l with
  | nil => intro p hp; cases hp
  | cons a r ih =>
    intro p hp
    rcases List.mem_cons.mp hp with rfl | hp
    · exact h.1
    · exact ih h.2 p hp
theorem listAt {h₀ h : Heap} {L l : Addr} {us : List Value} {n : Nat} {news : List (Addr × Obj)} (N : News h₀ L h news) (hm : (l, listOf us.toArray n) ∈ news) : h.IsList l us.toArray := PySem.IsL.isList (n := n) (N _ hm).1
end
local macro_rules | `(tactic| k_mem) => `(tactic| assumption)
local macro_rules | `(tactic| k_all) => `(tactic| assumption)
local macro_rules | `(tactic| k_ne) => `(tactic| assumption)
local macro_rules | `(tactic| walk_at "binaryOp LShift int int") => `(tactic| (refine lshift_int (by assumption) (by assumption) ?_))
local macro_rules | `(tactic| walk_at "truthy ref") => `(tactic| (refine truthy_ints_fit (listAt (by assumption) (by k_mem)) (by assumption) (by omega) ?_; dsimp only))
local macro_rules | `(tactic| walk_at "call builtin:len") => `(tactic| (refine len_ints_fit (listAt (by assumption) (by k_mem)) (by assumption) (by omega) ?_; dsimp only))
theorem prime4 : rw_ul0020_02.prog = rw_ul0020_02.prog ∧ KL = KL := by k_fill; exact ⟨rfl, rfl⟩
section
variable {w : World} {mean : ExcName → Option Value} {mg mb : Str → Option Value}
/-- the number whose digits, the lowest first, these are -/
noncomputable def dval (n : Nat) : List Int → Int
  | [] => 0
  | d :: r => d + dval n r * 2 ^ n
theorem dval_append (n : Nat) (a b : List Int) : dval n (a ++ b) = dval n a + dval n b * 2 ^ (a.length * n) := by
  induction a with
  | nil => simp [dval]
  | cons x r ih =>
    simp only [List.cons_append, dval, ih, List.length_cons]
    rw [Nat.add_mul, Nat.one_mul, Int.pow_add, Int.add_mul, Int.mul_assoc]
    omega
theorem dval_slice (n : Nat) (ds : List Int) {a m b : Nat} (h1 : a ≤ m) (h2 : m ≤ b) (h3 : b ≤ ds.length) :
    dval n ((ds.drop a).take (b - a)) = dval n ((ds.drop m).take (b - m)) * 2 ^ ((m - a) * n) + dval n ((ds.drop a).take (m - a)) := by
  have e : (ds.drop a).take (b - a) = (ds.drop a).take (m - a) ++ (ds.drop m).take (b - m) := by
    have : b - a = (m - a) + (b - m) := by omega
    rw [this, List.take_add, List.drop_drop]
    have : a + (m - a) = m := by omega
    rw [this]
  rw [e, dval_append, List.length_take, List.length_drop, Nat.min_eq_left (by omega)]
  omega
theorem dval_bound (n B : Nat) (ds : List Int) (h : ∀ d ∈ ds, d.natAbs < 2 ^ B) : (dval n ds).natAbs < 2 ^ (B + ds.length * (n + 1)) := by
  induction ds with
  | nil => simp only [dval]; exact Nat.two_pow_pos _
  | cons d r ih =>
    have h1 := h d (.head _)
    have h2 := ih fun x hx => h x (.tail _ hx)
    simp only [dval, List.length_cons]
    have e : B + (r.length + 1) * (n + 1) = (B + r.length * (n + 1)) + n + 1 := by rw [Nat.add_mul]; omega
    rw [e, Nat.pow_succ, Nat.pow_add]
    have h3 : (dval n r * 2 ^ n).natAbs = (dval n r).natAbs * 2 ^ n := by
      rw [Int.natAbs_mul, Int.natAbs_pow]; rfl
    have h4 : (dval n r).natAbs + 1 ≤ 2 ^ (B + r.length * (n + 1)) := h2
    have h5 := Nat.mul_le_mul_right (2 ^ n) h4
    rw [Nat.add_mul, Nat.one_mul] at h5
    have h6 : 2 ^ B ≤ 2 ^ (B + r.length * (n + 1)) * 2 ^ n := by rw [← Nat.pow_add]; exact Nat.pow_le_pow_right (by omega) (by omega)
    have h7 := Nat.two_pow_pos n
    have h8 := Int.natAbs_add_le d (dval n r * 2 ^ n)
    omega
theorem dval_bits {n : Nat} {ds : List Int} {a k : Nat} (h : ∀ d ∈ ds, d.natAbs < 2 ^ 1000) (hn : n ≤ 1000) (hk : k ≤ 1000) : (Builtin.Int.intBits (dval n ((ds.drop a).take k)) : Int) ≤ 2 ^ 26 := by
  have h1 := dval_bound n 1000 ((ds.drop a).take k) fun d hd => h d (List.mem_of_mem_drop (List.mem_of_mem_take hd))
  have h2 : ((ds.drop a).take k).length ≤ 1000 := by rw [List.length_take]; omega
  have h3 := PySem.intBits_le_iff.mpr h1
  have h4 : ((ds.drop a).take k).length * (n + 1) ≤ 1000 * 1001 := Nat.mul_le_mul h2 (by omega)
  have h5 : (2 : Int) ^ 26 = 67108864 := by decide
  rw [h5]
  omega
theorem takeOneDrop9 {α : Type} {l : List α} {n : Nat} (h : n < l.length) : (l.drop n).take 1 = [l[n]] := by
  rw [List.drop_eq_getElem_cons h]; rfl
/-- the widest span that a depth of calls serves -/
noncomputable def bd : Nat → Nat
  | 0 => 0
  | k + 1 => max 1 (2 * bd k)
noncomputable abbrev clD2i (cd ci cn : Addr) : List (Str × Addr) := [(S "n", cn), (S "inner", ci), (S "digits", cd)]
set_option maxRecDepth 100000 in
set_option maxHeartbeats 8000000 in
theorem spec_inD {news : List (Addr × Obj)} {f c' l cd ci cn : Addr} {oc od oi on : Obj} {fvs : Array Value} {t : Tok} {nm : Str} {doc pm ctv : Value} {us : List Value} {ds : List Int} {n0 n : Nat} {tn : Tok}
    (ho : (f, fnMade nm quD2i arD2i bdD2i scD2i (clD2i cd ci cn) doc pm c' ctv) ∈ news) (hoc : (c', oc) ∈ news) (hfv : oc.data = .fields fvs) (hq : fvs[1]? = some (.str quD2i t))
    (hod : (cd, od) ∈ news) (hod' : od.data = .cell (some (.ref l))) (hoi : (ci, oi) ∈ news) (hoi' : oi.data = .cell (some (.ref f))) (hon : (cn, on) ∈ news) (hon' : on.data = .cell (some (.int n tn)))
    (hl : (l, listOf us.toArray n0) ∈ news) (hi : IntsAre us ds) (hB : ∀ d ∈ ds, d.natAbs < 2 ^ 1000) (hn : n ≤ 1000) (hlen : ds.length ≤ 1000) :
    ∀ (k a b : Nat) (t1 t2 : Tok), a < b → b ≤ ds.length → b - a ≤ bd k → Spec w mean mg mb (.ref f) [.int a t1, .int b t2] k (3 * k + 20) news (fun r n' => (∃ t', r = .int (dval n ((ds.drop a).take (b - a))) t') ∧ n' = news) := by
  intro k
  induction k with
  | zero => intro a b t1 t2 h1 h2 h3; exact absurd h3 (by show ¬ b - a ≤ 0; omega)
  | succ k ih =>
  intro a b t1 t2 hab hb hk
  have hbd : bd (k + 1) = max 1 (2 * bd k) := rfl
  refine spec_nest (binds := [(S "L", .int a t1), (S "R", .int b t2)]) ho hoc hfv hq rfl rfl ?_ rfl rfl rfl rfl (by omega) (by omega)
  intro dp un gd outer A₀ base g L' h₁ s B F N G lt hd hu
  obtain ⟨X, T, C⟩ := G
  have C1 := C.1
  dsimp only [bdD2i, scD2i, bL5, sL5, S, clD2i] at *
  k_steps
  · (show Ret _ _ _ _ _ _; first | refine Ret.intro (by k_asm) (by k_asm) ?_ | refine Ret.fall (by k_asm) (by k_asm) ?_)
    refine ⟨⟨_, congrArg (Value.int · _) ?_⟩, rfl⟩
    have e : b - a = 1 := by omega
    have ea : a < ds.length := by omega
    rw [e, takeOneDrop9 ea]
    simp [dval, ea]
  · generalize hmid : ((a : Int) + b).fdiv (2 ^ Int.toNat 1) = mid at *
    have hm0 : mid = (((a + b) / 2 : Nat) : Int) := by
      rw [← hmid]
      show ((a : Int) + b).fdiv 2 = _
      rw [Int.fdiv_eq_ediv_of_nonneg _ (by decide)]
      omega
    subst hm0
    have l1 : a < (a + b) / 2 := by omega
    have l2 : (a + b) / 2 < b := by omega
    generalize hM : (a + b) / 2 = mid at *
    refine Spec.use (ih _ _ _ _ ?_ ?_ ?_) (by k_asm) (by k_asm) (by k_asm) (by k_asm) (by k_asm) (by k_asm) rfl (by omega) (by omega) ?_
    · exact l2
    · exact hb
    · omega
    rintro _ _ h2 tk2 ⟨⟨t2', rfl⟩, he⟩ F2 N2
    subst he
    have hs0 : (((mid : Nat) : Int) - (a : Nat)) * (n : Nat) = (((mid - a) * n : Nat) : Int) := by
      rw [Int.natCast_mul, Int.natCast_sub (Nat.le_of_lt l1)]
    have hs1 : (0 : Int) ≤ (((mid : Nat) : Int) - (a : Nat)) * (n : Nat) := by rw [hs0]; omega
    have hs2 : (Builtin.Int.intBits (dval n ((ds.drop mid).take (b - mid))) : Int) + (((mid : Nat) : Int) - (a : Nat)) * (n : Nat) ≤ 2 ^ 27 := by
      have h1 := dval_bits (a := mid) (k := b - mid) hB hn (by omega)
      have h2 : (mid - a) * n ≤ 1000 * 1000 := Nat.mul_le_mul (by omega) hn
      have h5 : (2 : Int) ^ 26 = 67108864 := by decide
      have h6 : (2 : Int) ^ 27 = 134217728 := by decide
      rw [h5] at h1
      rw [hs0, h6]
      omega
    k_steps
    refine Spec.use (ih _ _ _ _ ?_ ?_ ?_) (by k_asm) (by k_asm) (by k_asm) (by k_asm) (by k_asm) (by k_asm) rfl (by omega) (by omega) ?_
    · exact l1
    · omega
    · omega
    rintro _ _ h3 tk3 ⟨⟨t3', rfl⟩, he⟩ F3 N3
    subst he
    k_steps
    (show Ret _ _ _ _ _ _; first | refine Ret.intro (by k_asm) (by k_asm) ?_ | refine Ret.fall (by k_asm) (by k_asm) ?_)
    refine ⟨⟨_, congrArg (Value.int · _) ?_⟩, rfl⟩
    rw [hs0, Int.toNat_natCast, dval_slice n ds (Nat.le_of_lt l1) (Nat.le_of_lt l2) hb]
end
theorem prime5 : rw_ul0020_02.prog = rw_ul0020_02.prog ∧ KL = KL := by k_fill; exact ⟨rfl, rfl⟩
section
variable {w : World} {mean : ExcName → Option Value} {mg mb : Str → Option Value}
set_option maxRecDepth 100000 in
set_option maxHeartbeats 8000000 in
theorem spec_d2i (l : Addr) (us : List Value) (ds : List Int) (hi : IntsAre us ds) (n0 n : Nat) (t : Tok) {A T : List (Addr × Obj)} (hl : (l, listOf us.toArray n0) ∈ A) (hB : ∀ d ∈ ds, d.natAbs < 2 ^ 1000) (hn : n ≤ 1000) (hlen : ds.length ≤ 300) (hT : Tabs T) (hD : Dis A T) :
    Spec w mean mg mb (.ref 42) [.ref l, .int n t] 15 100 (A ++ T) (TabR A fun r => ∃ t', r = .int (dval n ds) t') := by
  refine spec_defC (nm := nL5) (ar := aL5) (bd := bL5) (sc := sL5) (c := 41) (binds := [(S "digits", .ref l), (S "n", .int n t)]) rfl rfl rfl rfl (by decide +kernel) (fun _ => rfl) (ml := fun _ => none) (fun _ => rfl) (mc := fun y => if y = S "n" then some (.int n t) else if y = S "digits" then some (.ref l) else none) (fun _ => rfl) ?_ rfl rfl rfl (by decide) (by decide)
  intro dp un gd outer A₀ base g L' h₁ s tk cells B F N Y G lt hd hu
  obtain ⟨X, T0, C⟩ := G
  have C1 := C.1
  dsimp only [bL5, sL5, S] at *
  k_cells Y
  rename_i oi on od d1 d2 d3
  have DA := Dis.cons (c := [(L' + 1 + 1 + 1, oi), (L' + 1 + 1, on), (L' + 1, od)]) hD lt (fun p hp => by
    simp only [List.mem_cons, List.not_mem_nil, or_false] at hp
    rcases hp with rfl | rfl | rfl
    · exact Nat.lt_succ_of_lt (Nat.lt_succ_of_lt (Nat.lt_succ_self L'))
    · exact Nat.lt_succ_of_lt (Nat.lt_succ_self L')
    · exact Nat.lt_succ_self L')
  rw [← List.append_assoc] at N
  refine wpAny_execs_cons (nestDef_K rfl rfl rfl (nest_T (A := [(L' + 1 + 1 + 1, oi), (L' + 1 + 1, on), (L' + 1, od)] ++ A) (pos := posD2i) (qual := quD2i) F N T0 C1 hT.a hT.a.inT hT.b.inT (.inl rfl) DA rfl ?_))
  intro f c' oc vs t1 ctv doc pm h' tk' T' hor hT1 F2 N2 hoc hfv hq lt2 DA2
  have hm1 : (l, listOf us.toArray n0) ∈ A ++ T' := List.mem_append_left _ hl
  have hm2 : (c', oc) ∈ A ++ T' := List.mem_append_right _ hoc
  have ne3 : ∀ p ∈ A ++ T', p.1 ≠ L' + 1 + 1 + 1 := fun p hp => by
    rcases List.mem_append.mp hp with hp | hp
    · exact Nat.ne_of_lt (Nat.lt_trans (lt p (List.mem_append_left _ hp)) (Nat.lt_succ_of_lt (Nat.lt_succ_of_lt (Nat.lt_succ_self L'))))
    · exact DA2 (L' + 1 + 1 + 1, oi) (.head _) p hp
  have lf : f ≠ L' + 1 + 1 + 1 := Nat.ne_of_gt (lt2 (L' + 1 + 1 + 1, oi) (.head _))
  have nf : ∀ p ∈ A ++ T', p.1 ≠ f := fun p hp => Nat.ne_of_lt (lt2 p (by
    rcases List.mem_append.mp hp with hp | hp
    · exact List.mem_append_left _ (List.mem_append_right _ hp)
    · exact List.mem_append_right _ hp))
  simp only [List.cons_append, List.nil_append] at N2
  have hT2 : Tabs T' := ⟨hT1, by
    rcases hor with e | ⟨oc2, e, n1, n2⟩
    · rw [e]; exact hT.b
    · rw [e]; exact hT.b.grow (.inl rfl) (by decide) n2⟩
  clear N F
  k_steps
  · (refine' Spec.use ?wS ?wB ?wF ?wN ?wX ?wT ?wC ?wk ?wd ?wu ?_; (case wB => k_asm); (case wF => k_asm); (case wN => k_asm); (case wX => k_asm); (case wT => k_asm); (case wC => k_asm); (case wk => exact rfl); (case wS => exact (spec_inD (c' := c') (oc := oc) (od := od) (on := on) (l := l) (n0 := n0) (tn := t) (by k_mem) (by k_mem) hfv hq (by k_mem) d3 (by k_mem) (by assumption) (by k_mem) d2 (by k_mem) hi hB hn (by omega) 11 0 ds.length _ _ (by omega) (by omega) (by rw [show bd 11 = 1024 from rfl]; omega))); (case wd => omega); (case wu => omega))
    rintro _ _ h2 tk2 ⟨⟨t2', rfl⟩, he⟩ F3 N3
    rw [he] at N3
    show Ret _ _ _ _ _ _
    refine Ret.intro F3 (nsub N3 fun p hp => .tail _ (.tail _ (.tail _ (.tail _ hp)))) ⟨⟨t2', by simp⟩, T', rfl, ?_, fun a ha => DA2 a (.tail _ (.tail _ (.tail _ ha)))⟩
    exact hT2
  · rename News _ _ _ _ => N3
    show Ret _ _ _ _ _ _
    refine Ret.intro (by k_asm) (nsub N3 fun p hp => .tail _ (.tail _ (.tail _ (.tail _ hp)))) ⟨⟨_, congrArg (Value.int · _) ?_⟩, T', rfl, hT2, fun a ha => DA2 a (.tail _ (.tail _ (.tail _ ha)))⟩
    have : ds = [] := List.length_eq_zero_iff.mp (by omega)
    subst this
    rfl
end
theorem prime6 : rw_ul0020_02.prog = rw_ul0020_02.prog ∧ KL = KL := by k_fill; exact ⟨rfl, rfl⟩
section
variable {prog : Program} {w : World} {A : Around} {E : Value → Shared → Prop} {s : Shared} {a b n r : Int} {t u : Tok} {Q : Value → Shared → Prop}
theorem rshift_to (hn : 0 ≤ n) (e : a.fdiv (2 ^ n.toNat) = r) (h : Q (.int r s.toks) { s with toks := s.toks + 1 }) : wpAny (model prog w) A (binaryOp .RShift (.int a t) (.int n u)) Q E s := rshift_int hn (e ▸ h)
theorem lshift_to (hn : 0 ≤ n) (hsz : (Builtin.Int.intBits a : Int) + n ≤ 2 ^ 27) (e : a * 2 ^ n.toNat = r) (h : Q (.int r s.toks) { s with toks := s.toks + 1 }) : wpAny (model prog w) A (binaryOp .LShift (.int a t) (.int n u)) Q E s := lshift_int hn hsz (e ▸ h)
theorem xor_to (e : Builtin.bitXor a b = r) (h : Q (.int r s.toks) { s with toks := s.toks + 1 }) : wpAny (model prog w) A (binaryOp .BitXor (.int a t) (.int b u)) Q E s := xor_int (e ▸ h)
theorem mul_to (hm : IntMulOk a b) (e : a * b = r) (h : Q (.int r s.toks) { s with toks := s.toks + 1 }) : wpAny (model prog w) A (binaryOp .Mult (.int a t) (.int b u)) Q E s := mul_int (e ▸ h) hm
end
local macro_rules | `(tactic| walk_at "binaryOp Mult int int") => `(tactic| (refine mul_to (by mul_fits) (by assumption) ?_))
local macro_rules | `(tactic| walk_at "binaryOp RShift int int") => `(tactic| (refine rshift_to (by omega) (by assumption) ?_))
local macro_rules | `(tactic| walk_at "binaryOp LShift int int") => `(tactic| (refine lshift_to (by omega) (by assumption) (by assumption) ?_))
local macro_rules | `(tactic| walk_at "binaryOp BitXor int int") => `(tactic| (refine xor_to (by assumption) ?_))
/-- the digits of a number, the lowest first -/
noncomputable def digs (n : Nat) : Nat → Nat → List Int
  | 0, _ => []
  | k + 1, x => ((x % 2 ^ n : Nat) : Int) :: digs n k (x / 2 ^ n)
theorem digs_len (n k x : Nat) : (digs n k x).length = k := by
  induction k generalizing x with
  | zero => rfl
  | succ k ih => simp [digs, ih]
theorem digs_bound (n k x : Nat) : ∀ d ∈ digs n k x, 0 ≤ d ∧ d < 2 ^ n := by
  induction k generalizing x with
  | zero => intro d hd; cases hd
  | succ k ih =>
    intro d hd
    rcases List.mem_cons.mp hd with rfl | hd
    · have := Nat.mod_lt x (Nat.two_pow_pos n)
      refine ⟨Int.natCast_nonneg _, ?_⟩
      exact_mod_cast this
    · exact ih _ d hd
theorem digs_mod (n j x : Nat) : digs n j (x % 2 ^ (j * n)) = digs n j x := by
  induction j generalizing x with
  | zero => rfl
  | succ j ih =>
    simp only [digs]
    have h1 : x % 2 ^ ((j + 1) * n) % 2 ^ n = x % 2 ^ n := Nat.mod_mod_of_dvd _ (Nat.pow_dvd_pow 2 (by rw [Nat.add_mul]; omega))
    have h2 : x % 2 ^ ((j + 1) * n) / 2 ^ n = (x / 2 ^ n) % 2 ^ (j * n) := by
      rw [Nat.add_mul, Nat.one_mul, Nat.pow_add, Nat.mul_comm (2 ^ (j * n)), Nat.mod_mul_right_div_self]
    rw [h1, h2, ih]
theorem digs_add (n j k x : Nat) : digs n (j + k) x = digs n j x ++ digs n k (x / 2 ^ (j * n)) := by
  induction j generalizing x with
  | zero => simp [digs]
  | succ j ih =>
    rw [Nat.add_right_comm]
    simp only [digs, List.cons_append]
    rw [ih, Nat.div_div_eq_div_mul, ← Nat.pow_add, Nat.add_mul, Nat.one_mul, Nat.add_comm n]
theorem dval_digs (n k x : Nat) : dval n (digs n k x) = ((x % 2 ^ (k * n) : Nat) : Int) := by
  induction k generalizing x with
  | zero => simp [digs, dval, Nat.mod_one]
  | succ k ih =>
    simp only [digs, dval, ih]
    have : x % 2 ^ ((k + 1) * n) = x % 2 ^ n + 2 ^ n * (x / 2 ^ n % 2 ^ (k * n)) := by
      rw [Nat.add_mul, Nat.one_mul, Nat.add_comm, Nat.pow_add, Nat.mod_mul]
    rw [this]
    push_cast
    rw [Int.mul_comm]
theorem xor_low (x s : Nat) : Builtin.bitXor (x : Nat) ((x / 2 ^ s * 2 ^ s : Nat) : Nat) = ((x % 2 ^ s : Nat) : Int) := by
  rw [bitXor_and]
  have h1 : Builtin.bitAnd (x : Int) ((x / 2 ^ s * 2 ^ s : Nat) : Int) = ((x &&& (x / 2 ^ s * 2 ^ s) : Nat) : Int) := rfl
  have h2 : x &&& (x / 2 ^ s * 2 ^ s) = x / 2 ^ s * 2 ^ s := by
    rw [← Nat.shiftRight_eq_div_pow, ← Nat.shiftLeft_eq]
    apply Nat.eq_of_testBit_eq
    intro i
    simp only [Nat.testBit_and, Nat.testBit_shiftLeft, Nat.testBit_shiftRight]
    by_cases h : s ≤ i
    · simp [h]
    · simp [h]
  rw [h1, h2]
  have := Nat.div_add_mod x (2 ^ s)
  rw [Nat.mul_comm] at this
  omega
theorem prime7 : rw_ul0020_02.prog = rw_ul0020_02.prog ∧ KL = KL := by k_fill; exact ⟨rfl, rfl⟩
section
variable {w : World} {mean : ExcName → Option Value} {mg mb : Str → Option Value}
noncomputable abbrev clI2d (ca ci cn : Addr) : List (Str × Addr) := [(S "n", cn), (S "inner", ci), (S "a_digits", ca)]
/-- a row with the digits of x laid from place a on -/
noncomputable def laid (n a b x : Nat) (ds : List Int) : List Int := ds.take a ++ digs n (b - a) x ++ ds.drop b
theorem laid_len {n a b x : Nat} {ds : List Int} (h1 : a ≤ b) (h2 : b ≤ ds.length) : (laid n a b x ds).length = ds.length := by
  simp only [laid, List.length_append, List.length_take, List.length_drop, digs_len]
  omega
theorem laid_one {n a x : Nat} {ds : List Int} (h : a < ds.length) (hx : x < 2 ^ n) : ds.set a (x : Int) = laid n a (a + 1) x ds := by
  have e : a + 1 - a = 1 := by omega
  rw [laid, e]
  simp only [digs, Nat.mod_eq_of_lt hx]
  rw [List.set_eq_take_append_cons_drop, if_pos h, List.append_assoc]
  rfl
theorem laid_two {n a m b x : Nat} {ds : List Int} (h1 : a ≤ m) (h2 : m ≤ b) (h3 : b ≤ ds.length) :
    laid n m b (x / 2 ^ ((m - a) * n)) (laid n a m (x % 2 ^ ((m - a) * n)) ds) = laid n a b x ds := by
  have e : b - a = (m - a) + (b - m) := by omega
  have hl : (ds.take a ++ digs n (m - a) x).length = m := by simp only [List.length_append, List.length_take, digs_len]; omega
  unfold laid
  rw [e, digs_add, digs_mod]
  have t1 : (ds.take a ++ digs n (m - a) x ++ ds.drop m).take m = ds.take a ++ digs n (m - a) x := List.take_left' hl
  have t2 : (ds.take a ++ digs n (m - a) x ++ ds.drop m).drop b = ds.drop b := by
    rw [List.drop_append, hl, List.drop_eq_nil_of_le (by omega), List.drop_drop, List.nil_append]
    congr 1
    omega
  rw [t1, t2]
  simp only [List.append_assoc]
set_option maxRecDepth 100000 in
set_option maxHeartbeats 8000000 in
theorem spec_inI {rest : List (Addr × Obj)} {f c' q ca ci cn : Addr} {oc oa oi on : Obj} {fvs : Array Value} {t : Tok} {nm : Str} {doc pm ctv : Value} {n0 n : Nat} {tn : Tok}
    (ho : (f, fnMade nm quI2d arI2d bdI2d scI2d (clI2d ca ci cn) doc pm c' ctv) ∈ rest) (hoc : (c', oc) ∈ rest) (hfv : oc.data = .fields fvs) (hq : fvs[1]? = some (.str quI2d t))
    (hoa : (ca, oa) ∈ rest) (hoa' : oa.data = .cell (some (.ref q))) (hoi : (ci, oi) ∈ rest) (hoi' : oi.data = .cell (some (.ref f))) (hon : (cn, on) ∈ rest) (hon' : on.data = .cell (some (.int n tn)))
    (hne : ∀ p ∈ rest, p.1 ≠ q) (hn : n ≤ 1000) (hn0 : 0 < n) :
    ∀ (k a b x : Nat) (us : List Value) (ds : List Int) (t0 t1 t2 : Tok), IntsAre us ds → ds.length ≤ 1000 → a < b → b ≤ ds.length → b - a ≤ bd k → x < 2 ^ ((b - a) * n) →
      Spec w mean mg mb (.ref f) [.int x t0, .int a t1, .int b t2] k (3 * k + 20) ((q, listOf us.toArray n0) :: rest) (fun r n' => r = .none ∧ ∃ us', n' = (q, listOf us'.toArray n0) :: rest ∧ IntsAre us' (laid n a b x ds)) := by
  intro k
  induction k with
  | zero => intro a b x us ds t0 t1 t2 hi hlen h1 h2 h3; exact absurd h3 (by show ¬ b - a ≤ 0; omega)
  | succ k ih =>
  intro a b x us ds t0 t1 t2 hi hlen hab hb hk hx
  have hbd : bd (k + 1) = max 1 (2 * bd k) := rfl
  refine spec_nest (binds := [(S "x", .int x t0), (S "L", .int a t1), (S "R", .int b t2)]) (.tail _ ho) (.tail _ hoc) hfv hq rfl rfl ?_ rfl rfl rfl rfl (by omega) (by omega)
  intro dp un gd outer A₀ base g L' h₁ s B F N G lt hd hu
  obtain ⟨X, T, C⟩ := G
  have C1 := C.2
  have hmid : ((a : Int) + b).fdiv (2 ^ Int.toNat 1) = (((a + b) / 2 : Nat) : Int) := by
    show ((a : Int) + b).fdiv 2 = _
    rw [Int.fdiv_eq_ediv_of_nonneg _ (by decide)]
    omega
  have l0 : a ≤ (a + b) / 2 := by omega
  have l1 : (a + b) / 2 < b := by omega
  have l2 : a + 1 ≠ b → a < (a + b) / 2 := by omega
  generalize hM : (a + b) / 2 = mid at *
  obtain ⟨sh, hsh⟩ : ∃ sh, sh = (mid - a) * n := ⟨_, rfl⟩
  have e2 : (((mid : Nat) : Int) - (a : Nat)) * (n : Nat) = ((sh : Nat) : Int) := by
    rw [hsh, Int.natCast_mul, Int.natCast_sub l0]
  have e3 : ((x : Nat) : Int).fdiv (2 ^ ((sh : Nat) : Int).toNat) = ((x / 2 ^ sh : Nat) : Int) := by
    rw [Int.fdiv_eq_ediv_of_nonneg _ (Int.pow_nonneg (by decide)), Int.toNat_natCast]
    simp
  have e4 : ((x / 2 ^ sh : Nat) : Int) * 2 ^ ((sh : Nat) : Int).toNat = ((x / 2 ^ sh * 2 ^ sh : Nat) : Int) := by
    rw [Int.toNat_natCast]
    simp
  have e5 := xor_low x sh
  have hlt : x % 2 ^ sh < 2 ^ ((mid - a) * n) := hsh ▸ Nat.mod_lt _ (Nat.two_pow_pos _)
  have hup : x / 2 ^ sh < 2 ^ ((b - mid) * n) := by
    rw [Nat.div_lt_iff_lt_mul (Nat.two_pow_pos _), ← Nat.pow_add, hsh, ← Nat.add_mul]
    have : b - mid + (mid - a) = b - a := by omega
    rw [this]
    exact hx
  have e6 : (Builtin.Int.intBits ((x / 2 ^ sh : Nat) : Int) : Int) + ((sh : Nat) : Int) ≤ 2 ^ 27 := by
    have h1 := PySem.intBits_le_iff (x := ((x / 2 ^ sh : Nat) : Int)) (m := (b - mid) * n) |>.mpr hup
    have h2 : (b - mid) * n ≤ 1000 * 1000 := Nat.mul_le_mul (by omega) hn
    have h3 : sh ≤ 1000 * 1000 := hsh ▸ Nat.mul_le_mul (by omega) hn
    have h6 : (2 : Int) ^ 27 = 134217728 := by decide
    rw [h6]
    omega
  have hset : a + 1 = b → ds.set a (x : Int) = laid n a b x ds := fun e => by
    subst e
    refine laid_one (by omega) ?_
    have : a + 1 - a = 1 := by omega
    rw [this, Nat.one_mul] at hx
    exact hx
  dsimp only [bdI2d, scI2d, bL4, sL4, S, clI2d] at *
  k_steps
  · rename_i hi2 _ _
    (show Ret _ _ _ _ _ _; first | refine Ret.intro (by k_asm) (by k_asm) ?_ | refine Ret.fall (by k_asm) (by k_asm) ?_)
    refine ⟨rfl, _, rfl, ?_⟩
    rw [← hset (by omega)]
    simpa using hi2
  · have l3 := l2 (by omega)
    (refine' Spec.use ?wS ?wB ?wF ?wN ?wX ?wT ?wC ?wk ?wd ?wu ?_; (case wB => k_asm); (case wF => k_asm); (case wN => k_asm); (case wX => k_asm); (case wT => k_asm); (case wC => k_asm); (case wk => exact rfl); (case wS => exact (ih a mid (x % 2 ^ sh) us ds _ _ _ hi hlen l3 (by omega) (by omega) hlt)); (case wd => omega); (case wu => omega))
    rintro _ _ h2 tk2 ⟨rfl, us2, he, hi2⟩ F2 N2
    rw [he] at N2
    have hl2 : (laid n a mid (x % 2 ^ sh) ds).length = ds.length := laid_len l0 (by omega)
    k_steps
    (refine' Spec.use ?wS ?wB ?wF ?wN ?wX ?wT ?wC ?wk ?wd ?wu ?_; (case wB => k_asm); (case wF => k_asm); (case wN => k_asm); (case wX => k_asm); (case wT => k_asm); (case wC => k_asm); (case wk => exact rfl); (case wS => exact (ih mid b (x / 2 ^ sh) us2 _ _ _ _ hi2 (by omega) l1 (by omega) (by omega) hup)); (case wd => omega); (case wu => omega))
    rintro _ _ h3 tk3 ⟨rfl, us3, he, hi3⟩ F3 N3
    rw [he] at N3
    k_steps
    (show Ret _ _ _ _ _ _; first | refine Ret.intro (by k_asm) (by k_asm) ?_ | refine Ret.fall (by k_asm) (by k_asm) ?_)
    refine ⟨rfl, _, rfl, ?_⟩
    have := laid_two (n := n) (x := x) l0 (Nat.le_of_lt l1) hb
    rw [← hsh] at this
    rw [← this]
    exact hi3
end
theorem prime8 : rw_ul0020_02.prog = rw_ul0020_02.prog ∧ KL = KL := by k_fill; exact ⟨rfl, rfl⟩
section
variable {w : World} {mean : ExcName → Option Value} {mg mb : Str → Option Value}
/-- the places that a number takes -/
noncomputable def places (n x : Nat) : Nat := (Builtin.Int.intBits (x : Int) + n - 1) / n
theorem places_fit {n x : Nat} (hn : 0 < n) : x < 2 ^ (places n x * n) := by
  have h1 : Builtin.Int.intBits (x : Int) ≤ places n x * n := by
    unfold places
    have := Nat.div_add_mod (Builtin.Int.intBits (x : Int) + n - 1) n
    have h2 := Nat.mod_lt (Builtin.Int.intBits (x : Int) + n - 1) hn
    rw [Nat.mul_comm] at this
    omega
  exact PySem.intBits_le_iff.mp h1
/-- a new list of numbers, the tables moved -/
noncomputable abbrev ListR (A : List (Addr × Obj)) (ds : List Int) : Rel := fun r n => ∃ q us k T', r = .ref q ∧ n = (q, listOf us.toArray k) :: (A ++ T') ∧ IntsAre us ds ∧ (∀ p ∈ A ++ T', p.1 ≠ q) ∧ Tabs T' ∧ Dis A T'
set_option maxRecDepth 100000 in
set_option maxHeartbeats 8000000 in
theorem spec_i2d (x n : Nat) (t1 t2 : Tok) {A T : List (Addr × Obj)} (hx : x < 2 ^ 900) (hn : n ≤ 1000) (hn0 : 0 < n) (hT : Tabs T) (hD : Dis A T) :
    Spec w mean mg mb (.ref 35) [.int x t1, .int n t2] 15 100 (A ++ T) (ListR A (digs n (places n x) x)) := by
  refine spec_defC (nm := nL4) (ar := aL4) (bd := bL4) (sc := sL4) (c := 34) (binds := [(S "a", .int x t1), (S "n", .int n t2)]) rfl rfl rfl rfl (by decide +kernel) (fun _ => rfl) (ml := fun y => if y = S "a" then some (.int x t1) else none) (fun _ => rfl) (mc := fun y => if y = S "n" then some (.int n t2) else none) (fun _ => rfl) ?_ rfl rfl rfl (by decide) (by decide)
  intro dp un gd outer A₀ base g L' h₁ s tk cells B F N Y G lt hd hu
  obtain ⟨X, T0, C⟩ := G
  have C1 := C.2
  dsimp only [bL4, sL4, S] at *
  k_cells Y
  rename_i oi oa on d1 d2 d3
  have e0 : ((Builtin.Int.intBits (x : Int) : Int) + (n : Int) - 1).fdiv (n : Int) = ((places n x : Nat) : Int) := by
    rw [Int.fdiv_eq_ediv_of_nonneg _ (by omega)]
    have : (Builtin.Int.intBits (x : Int) : Int) + (n : Int) - 1 = ((Builtin.Int.intBits (x : Int) + n - 1 : Nat) : Int) := by omega
    rw [this]
    rfl
  have hpl : places n x ≤ 900 := by
    have h1 : Builtin.Int.intBits (x : Int) ≤ 900 := PySem.intBits_le_iff.mpr hx
    unfold places
    have h2 : (Builtin.Int.intBits (x : Int) + n - 1) / n < 901 := by
      rw [Nat.div_lt_iff_lt_mul hn0]
      have := Nat.mul_le_mul_left 900 hn0
      omega
    omega
  simp only [List.cons_append, List.nil_append] at N
  have lt3 : L' < L' + 1 + 1 + 1 := Nat.lt_succ_of_lt (Nat.lt_succ_of_lt (Nat.lt_succ_self L'))
  have lt2 : L' < L' + 1 + 1 := Nat.lt_succ_of_lt (Nat.lt_succ_self L')
  have lt1 : L' < L' + 1 := Nat.lt_succ_self L'
  have ne2 : ∀ p ∈ A ++ T, p.1 ≠ L' + 1 + 1 := fun p hp => Nat.ne_of_lt (Nat.lt_trans (lt p hp) lt2)
  k_steps
  rename_i tk0 l' h2 l1a D h3 i1 n1 s1 e1 e2 e3 l1b h4 o2 F2 N2 dq
  rw [e0] at i1 N2 e1
  rw [Int.toNat_natCast] at i1 N2 e1
  clear e2 e3 s1
  generalize hus : (List.replicate (places n x) [Value.int 0 tk0]).flatten = us at *
  generalize hds : (List.replicate (places n x) [(0 : Int)]).flatten = ds at *
  have hlen : ds.length = places n x := by rw [← hds]; simp
  have lD : L' < D := Nat.lt_trans lt3 l1b.2.1
  have lL : L' < l' := Nat.lt_trans lt3 l1a.1
  have nD : ∀ p ∈ A ++ T, p.1 ≠ D := fun p hp => Nat.ne_of_lt (Nat.lt_trans (lt p hp) lD)
  have DA := Dis.cons (c := [(D, listOf us.toArray 0), (l', listOf #[Value.int 0 tk0] 0), (L' + 1 + 1 + 1, oi), (L' + 1 + 1, o2), (L' + 1, on)]) hD lt (fun p hp => by
    simp only [List.mem_cons, List.not_mem_nil, or_false] at hp
    rcases hp with rfl | rfl | rfl | rfl | rfl
    · exact lD
    · exact lL
    · exact lt3
    · exact lt2
    · exact lt1)
  refine nestDef_K rfl rfl rfl (nest_T (A := [(D, listOf us.toArray 0), (l', listOf #[Value.int 0 tk0] 0), (L' + 1 + 1 + 1, oi), (L' + 1 + 1, o2), (L' + 1, on)] ++ A) (pos := posI2d) (qual := quI2d) F2 (by rw [List.append_assoc]; exact N2) T0 C1 hT.b hT.a.inT hT.b.inT (.inr rfl) DA rfl ?_)
  intro f c' oc vs t1' ctv doc pm h' tk' T' hor hT1 F3 N3 hoc hfv hq ltf DA2
  have hT2 : Tabs T' := ⟨by
    rcases hor with e | ⟨oc2, e, n1, n2⟩
    · rw [e]; exact hT.a
    · rw [e]; exact hT.a.grow (.inr rfl) (by decide) n1, hT1⟩
  have hAT : Dis A T' := fun a ha => DA2 a (.tail _ (.tail _ (.tail _ (.tail _ (.tail _ ha)))))
  clear N2 F2
  simp only [List.cons_append, List.nil_append] at N3
  have lf : ∀ p ∈ [(D, listOf us.toArray 0), (l', listOf #[Value.int 0 tk0] 0), (L' + 1 + 1 + 1, oi), (L' + 1 + 1, o2), (L' + 1, on)] ++ A ++ T', p.1 ≠ f := fun p hp => Nat.ne_of_lt (ltf p hp)
  have f3 : f ≠ L' + 1 + 1 + 1 := (lf (L' + 1 + 1 + 1, oi) (.tail _ (.tail _ (.head _)))).symm
  have D3 : D ≠ L' + 1 + 1 + 1 := Nat.ne_of_gt l1b.2.1
  have l3 : l' ≠ L' + 1 + 1 + 1 := Nat.ne_of_gt l1a.1
  have ne3 : ∀ p ∈ A ++ T', p.1 ≠ L' + 1 + 1 + 1 := fun p hp => by
    rcases List.mem_append.mp hp with hp | hp
    · exact Nat.ne_of_lt (Nat.lt_trans (lt p (List.mem_append_left _ hp)) lt3)
    · exact DA2 (L' + 1 + 1 + 1, oi) (.tail _ (.tail _ (.head _))) p hp
  have neD : ∀ p ∈ A ++ T', p.1 ≠ D := fun p hp => by
    rcases List.mem_append.mp hp with hp | hp
    · exact nD p (List.mem_append_left _ hp)
    · exact DA2 (D, listOf us.toArray 0) (.head _) p hp
  have fD : f ≠ D := (lf (D, listOf us.toArray 0) (.head _)).symm
  have hz0 : (0 : Int) = ((0 : Nat) : Int) := rfl
  k_steps
  · rename_i h5 o3 F5 N5 do3 hx0
    have N6 := nsub N5 (b := (D, listOf us.toArray 0) :: _ :: _ :: _ :: _ :: _ :: (A ++ T')) (fun p hp => by
      rcases List.mem_cons.mp hp with rfl | hp
      · exact .tail _ (.head _)
      rcases List.mem_cons.mp hp with rfl | hp
      · exact .head _
      · exact .tail _ (.tail _ hp))
    clear N5
    have hpos : 0 < places n x := by
      rcases Nat.eq_zero_or_pos (places n x) with e | e
      · have := places_fit (x := x) hn0
        rw [e, Nat.zero_mul] at this
        omega
      · exact e
    rw [hz0]
    (refine' Spec.use ?wS ?wB ?wF ?wN ?wX ?wT ?wC ?wk ?wd ?wu ?_; (case wB => k_asm); (case wF => k_asm); (case wN => k_asm); (case wX => k_asm); (case wT => k_asm); (case wC => k_asm); (case wk => exact rfl); (case wS => exact (spec_inI (c' := c') (oc := oc) (oa := o2) (on := on) (q := D) (n0 := 0) (tn := t2) (by k_mem) (List.mem_append_right _ hoc |> List.Mem.tail _ |> List.Mem.tail _ |> List.Mem.tail _ |> List.Mem.tail _ |> List.Mem.tail _) hfv hq (by k_mem) dq (by k_mem) do3 (by k_mem) d3 (List.forall_mem_cons.mpr ⟨fD, List.forall_mem_cons.mpr ⟨Nat.ne_of_lt l1b.1, List.forall_mem_cons.mpr ⟨D3.symm, List.forall_mem_cons.mpr ⟨Nat.ne_of_lt l1b.2.2.1, List.forall_mem_cons.mpr ⟨Nat.ne_of_lt l1b.2.2.2.1, neD⟩⟩⟩⟩⟩) hn hn0 11 0 ds.length x us ds _ _ _ i1 (by omega) (by omega) (by omega) (by rw [show bd 11 = 1024 from rfl]; omega) (by rw [hlen]; exact places_fit hn0))); (case wd => omega); (case wu => omega))
    rintro _ _ h6 tk6 ⟨rfl, us2, he, hi2⟩ F6 N6'
    rw [he] at N6'
    clear N6
    k_steps
    show Ret _ _ _ _ _ _
    refine Ret.intro F6 (nsub N6' (b := (D, listOf us2.toArray 0) :: (A ++ T')) fun p hp => ?_) ⟨D, us2, 0, T', rfl, rfl, ?_, neD, hT2, hAT⟩
    · rcases List.mem_cons.mp hp with rfl | hp
      · exact .head _
      · exact .tail _ (.tail _ (.tail _ (.tail _ (.tail _ (.tail _ hp)))))
    · have e : laid n 0 ds.length x ds = digs n (places n x) x := by rw [laid, List.take_zero, List.nil_append, Nat.sub_zero, List.drop_length, List.append_nil, hlen]
      rw [e] at hi2
      exact hi2
  · rename News _ _ _ _ => N6
    show Ret _ _ _ _ _ _
    refine Ret.intro (by k_asm) (nsub N6 (b := (D, listOf us.toArray 0) :: (A ++ T')) fun p hp => ?_) ⟨D, us, 0, T', rfl, rfl, ?_, neD, hT2, hAT⟩
    · rcases List.mem_cons.mp hp with rfl | hp
      · exact .tail _ (.head _)
      · exact .tail _ (.tail _ (.tail _ (.tail _ (.tail _ (.tail _ hp)))))
    · have hx0 : x = 0 := by omega
      have hp0 : places n x = 0 := by
        subst hx0
        show (0 + n - 1) / n = 0
        exact Nat.div_eq_of_lt (by omega)
      rw [hp0]
      have : ds = [] := List.length_eq_zero_iff.mp (by omega)
      rw [this] at i1
      exact i1
end
section
variable {prog : Program} {w : World} {A : Around} {E : Value → Shared → Prop} {s : Shared} {env : Env} {h₀ : Heap} {x : Str} {body : List Stmt} {Q : Flow → Shared → Prop}
theorem UnrPost.mono {L I : Addr} {s₁ : Shared} {it : Obj} {r r' : (Str → Option Value) → List (Addr × Obj) → Prop} {f : Flow} {s₂ : Shared} (k : ∀ m n, r m n → r' m n) (h : UnrPost h₀ L s₁ I it r Q f s₂) : UnrPost h₀ L s₁ I it r' Q f s₂ := by
  have end' : UnrEnd h₀ L s₁ I it r s₂ → UnrEnd h₀ L s₁ I it r' s₂ := fun ⟨h', tk, m', news', e, F, N, off, hr⟩ => ⟨h', tk, m', news', e, F, N, off, k _ _ hr⟩
  cases f with
  | ret v => exact h
  | brk => exact h
  | next => exact end' h
  | cont => exact end' h
theorem revRest_ind {I : Addr} {lp : Addr × Obj} {Inv : List Value → (Str → Option Value) → List (Addr × Obj) → Prop}
    (hend : ∀ m news, Inv [] m news → ∀ h tk, Fr h₀ env.locals h m → News h₀ env.locals h news → Q .next { s with heap := h, toks := tk })
    (hstep : ∀ v r m news, Inv (v :: r) m news → ∀ (it : Obj) h tk, it.cls = .type "list_reverseiterator" → Fr h₀ env.locals h (fun y => if y = x then some v else m y) → News h₀ env.locals h ((I, it) :: news) →
      wpAny (model prog w) A (execs body env) (UnrPost h₀ env.locals { s with heap := h, toks := tk } I it (fun m' n' => lp ∈ n' ∧ Inv r m' n') Q) E { s with heap := h, toks := tk }) :
    ∀ vs m news, Inv vs m news → RevRest prog w A E h₀ env x body Q s I lp vs m news
  | [], m, news, hi => RevRest.zero (hend m news hi)
  | v :: r, m, news, hi => RevRest.succ fun it h tk hit F N => wpAny_mono (hstep v r m news hi it h tk hit F N)
      (fun f s' hp => UnrPost.mono (fun m' n' hr => ⟨hr.1, revRest_ind hend hstep r m' n' hr.2⟩) hp) fun _ _ e => e
theorem listRest_ind {I : Addr} {lp : Addr × Obj} {Inv : List Value → (Str → Option Value) → List (Addr × Obj) → Prop}
    (hend : ∀ m news, Inv [] m news → ∀ h tk, Fr h₀ env.locals h m → News h₀ env.locals h news → Q .next { s with heap := h, toks := tk })
    (hstep : ∀ v r m news, Inv (v :: r) m news → ∀ (it : Obj) h tk, it.cls = .type "list_iterator" → Fr h₀ env.locals h (fun y => if y = x then some v else m y) → News h₀ env.locals h ((I, it) :: news) →
      wpAny (model prog w) A (execs body env) (UnrPost h₀ env.locals { s with heap := h, toks := tk } I it (fun m' n' => lp ∈ n' ∧ Inv r m' n') Q) E { s with heap := h, toks := tk }) :
    ∀ vs m news, Inv vs m news → ListRest prog w A E h₀ env x body Q s I lp vs m news
  | [], m, news, hi => ListRest.zero (hend m news hi)
  | v :: r, m, news, hi => ListRest.succ fun it h tk hit F N => wpAny_mono (hstep v r m news hi it h tk hit F N)
      (fun f s' hp => UnrPost.mono (fun m' n' hr => ⟨hr.1, listRest_ind hend hstep r m' n' hr.2⟩) hp) fun _ _ e => e
theorem rangeRest_ind {I : Addr} {a : Int} {n : Nat} {Inv : Nat → Nat → (Str → Option Value) → List (Addr × Obj) → Prop}
    (hend : ∀ i m news, Inv 0 i m news → ∀ h tk, Fr h₀ env.locals h m → News h₀ env.locals h news → Q .next { s with heap := h, toks := tk })
    (hstep : ∀ k i m news, Inv (k + 1) i m news → ∀ t h tk, Fr h₀ env.locals h (fun y => if y = x then some (.int (a + (i : Int)) t) else m y) →
      News h₀ env.locals h ((I, itR (a + ((i + 1 : Nat) : Int)) ((n : Int) - ((i + 1 : Nat) : Int))) :: news) →
      wpAny (model prog w) A (execs body env) (UnrPost h₀ env.locals { s with heap := h, toks := tk } I (itR (a + ((i + 1 : Nat) : Int)) ((n : Int) - ((i + 1 : Nat) : Int))) (Inv k (i + 1)) Q) E { s with heap := h, toks := tk }) :
    ∀ k i m news, Inv k i m news → RangeRest prog w A E h₀ env x body Q s I a n k i m news
  | 0, i, m, news, hi => RangeRest.zero (hend i m news hi)
  | k + 1, i, m, news, hi => RangeRest.succ fun t h tk F N => wpAny_mono (hstep k i m news hi t h tk F N)
      (fun f s' hp => UnrPost.mono (fun m' n' hr => rangeRest_ind hend hstep k (i + 1) m' n' hr) hp) fun _ _ e => e
end
theorem offI_of {I : Addr} {it : Obj} : ∀ {l : List (Addr × Obj)}, (∀ p ∈ l, p.1 ≠ I) → OffI I it l
  | [], _ => trivial
  | p :: r, h => ⟨.inl (h p (.head _)), offI_of fun q hq => h q (.tail _ hq)⟩
section
variable {prog : Program} {w : World} {A : Around} {E : Value → Shared → Prop} {s : Shared} {h₀ : Heap} {L D : Addr} {m : Str → Option Value} {news news' : List (Addr × Obj)} {us : List Value} {n : Nat} {x : Value} {Q : Value → Shared → Prop}
theorem append_L (F : Fr h₀ L s.heap m) (N : News h₀ L s.heap news) (U : Upd D (listOf us.toArray n) (listOf (us ++ [x]).toArray (n + 1)) news news') (hlen : us.length < 100000)
    (h : ∀ h', Fr h₀ L h' m → News h₀ L h' news' → Q .none { s with heap := h' }) : wpAny (model prog w) A (call (.builtin "list.append") [.ref D, x]) Q E s := by
  have e : us.toArray.push x = (us ++ [x]).toArray := by simp
  rw [← e] at U
  exact append_K F N U h (by rw [sizeLine_eq]; simp only [List.size_toArray]; omega)
theorem reverse_L (F : Fr h₀ L s.heap m) (N : News h₀ L s.heap news) (U : Upd D (listOf us.toArray n) (listOf us.reverse.toArray n) news news') (hlen : us.length < 100000)
    (h : ∀ h', Fr h₀ L h' m → News h₀ L h' news' → Q .none { s with heap := h' }) : wpAny (model prog w) A (call (.builtin "list.reverse") [.ref D]) Q E s :=
  kl_reverse F N (l := us.reverse) (by simp) U (by rw [sizeLine_eq]; simp only [List.toList_toArray]; omega) h
end
local macro_rules | `(tactic| walk_at "call builtin:list.append") => `(tactic| (k_here; k_dflt (refine' append_L ?k1 ?k2 ?k3 ?k4 ?_; (case k1 => k_asm); (case k2 => k_asm); (case k3 => k_upd); (case k4 => first | assumption | omega); k_whole); intro h' F' N'; (try k_sweep)))
local macro_rules | `(tactic| walk_at "call builtin:list.reverse") => `(tactic| (k_here; k_dflt (refine' reverse_L ?k1 ?k2 ?k3 ?k4 ?_; (case k1 => k_asm); (case k2 => k_asm); (case k3 => k_upd); (case k4 => first | assumption | omega); k_whole); intro h' F' N'; (try k_sweep)))
local macro_rules | `(tactic| walk_at "eval Name") => `(tactic| (k_here; k_dflt (refine' ld ?k1 ?k2 ?_; (case k1 => k_asm); (case k2 => first | exact rfl | assumption); k_whole)))
theorem prime10 : rw_ul0020_02.prog = rw_ul0020_02.prog ∧ KL = KL := by k_fill; exact ⟨rfl, rfl⟩
theorem places_le {n x B : Nat} (hn0 : 0 < n) (hx : x < 2 ^ B) : places n x ≤ B := by
  have h1 : Builtin.Int.intBits (x : Int) ≤ B := PySem.intBits_le_iff.mpr hx
  unfold places
  have h2 : (Builtin.Int.intBits (x : Int) + n - 1) / n < B + 1 := by
    rw [Nat.div_lt_iff_lt_mul hn0]
    have := Nat.mul_le_mul_left B hn0
    rw [Nat.add_mul]
    omega
  omega
theorem digs_snoc (n j x : Nat) : digs n (j + 1) x = digs n j x ++ [((x / 2 ^ (j * n) % 2 ^ n : Nat) : Int)] := by
  rw [digs_add]; rfl
theorem dp_step {x y nb j : Nat} (hy : 0 < y) :
    (x / 2 ^ ((j + 1) * nb) % y * 2 ^ nb + x / 2 ^ (j * nb) % 2 ^ nb) % y = x / 2 ^ (j * nb) % y ∧
    (x / 2 ^ ((j + 1) * nb) % y * 2 ^ nb + x / 2 ^ (j * nb) % 2 ^ nb) / y + x / 2 ^ ((j + 1) * nb) / y * 2 ^ nb = x / 2 ^ (j * nb) / y := by
  have e : x / 2 ^ ((j + 1) * nb) = x / 2 ^ (j * nb) / 2 ^ nb := by
    rw [Nat.div_div_eq_div_mul, ← Nat.pow_add, Nat.add_mul, Nat.one_mul]
  rw [e]
  generalize x / 2 ^ (j * nb) = P
  have h1 := Nat.div_add_mod P (2 ^ nb)
  have h2 := Nat.div_add_mod (P / 2 ^ nb) y
  have h3 : P = y * (P / 2 ^ nb / y * 2 ^ nb) + (P / 2 ^ nb % y * 2 ^ nb + P % 2 ^ nb) := by
    have : y * (P / 2 ^ nb / y * 2 ^ nb) + P / 2 ^ nb % y * 2 ^ nb = 2 ^ nb * (P / 2 ^ nb) := by
      rw [← Nat.mul_assoc, ← Nat.add_mul, h2, Nat.mul_comm]
    omega
  constructor
  · conv => rhs; rw [h3, Nat.mul_add_mod]
  · conv => rhs; rw [h3, Nat.mul_add_div hy]
    omega
theorem dp_lt {y nb r d : Nat} (hr : r < y) (hd : d < 2 ^ nb) : r * 2 ^ nb + d < y * 2 ^ nb := by
  have := Nat.mul_le_mul_right (2 ^ nb) hr
  rw [Nat.succ_mul] at this
  omega
section
variable {w : World} {mean : ExcName → Option Value} {mg mb : Str → Option Value}
/-- what stands at the head of a turn of the division's loop -/
noncomputable def InvDp (A T' : List (Addr × Obj)) (x y nb : Nat) (t2 : Tok) (l q : Addr) (us : List Value) (k : Nat) (vs : List Value) (m : Str → Option Value) (n : List (Addr × Obj)) : Prop :=
  ∃ (j : Nat) (tr tn : Tok) (qs : List Value) (qds : List Int) (kq : Nat),
    IntsAre vs (digs nb j x).reverse ∧ j + qs.length = places nb x ∧ m (S "r") = some (.int ((x / 2 ^ (j * nb) % y : Nat) : Int) tr) ∧ m (S "b") = some (.int (y : Int) t2) ∧ m (S "n") = some (.int (nb : Int) tn) ∧ m (S "q_digits") = some (.ref l) ∧
    n = (l, listOf qs.toArray kq) :: (q, listOf us.toArray k) :: (A ++ T') ∧ IntsAre qs qds ∧ (∀ d ∈ qds, d.natAbs < 2 ^ 1000) ∧ dval nb qds.reverse = ((x / 2 ^ (j * nb) / y : Nat) : Int)
set_option maxRecDepth 100000 in
set_option maxHeartbeats 8000000 in
theorem spec_dp (x y : Nat) (t1 t2 : Tok) {A T : List (Addr × Obj)} (hx : x < 2 ^ 300) (hy : y < 2 ^ 300) (hy0 : 0 < y) (hT : Tabs T) (hD : Dis A T) :
    Spec w mean mg mb (.ref 49) [.int x t1, .int y t2] 20 200 (A ++ T) (fun r n => ∃ p t u T', r = .ref p ∧ n = (p, tup2 (x / y : Nat) (x % y : Nat) t u) :: (A ++ T') ∧ (∀ p' ∈ A ++ T', p'.1 ≠ p) ∧ Tabs T' ∧ Dis A T') := by
  refine spec_def (nm := nL6) (ar := aL6) (bd := bL6) (sc := sL6) (c := 48) (binds := [(S "a", .int x t1), (S "b", .int y t2)]) rfl rfl rfl rfl ?_ rfl rfl rfl rfl (by decide) (by decide)
  intro dp un gd outer A₀ base g L' h₁ s B F N G lt hd hu
  obtain ⟨X, T0, C⟩ := G
  dsimp only [bL6, sL6, S] at *
  k_steps
  have hnb : Builtin.Int.intBits (y : Int) ≤ 300 := PySem.intBits_le_iff.mpr hy
  have hn0 : 0 < Builtin.Int.intBits (y : Int) := by
    rcases Nat.eq_zero_or_pos (Builtin.Int.intBits (y : Int)) with e | e
    · have := PySem.intBits_le_iff.mp (Nat.le_of_eq e)
      simp only [Int.natAbs_natCast, Nat.pow_zero] at this
      omega
    · exact e
  (refine' Spec.use ?wS ?wB ?wF ?wN ?wX ?wT ?wC ?wk ?wd ?wu ?_; (case wB => k_asm); (case wF => k_asm); (case wN => k_asm); (case wX => k_asm); (case wT => k_asm); (case wC => k_asm); (case wk => exact rfl); (case wS => exact (spec_i2d x (Builtin.Int.intBits (y : Int)) _ _ (Nat.lt_trans hx (Nat.pow_lt_pow_right (by decide) (by decide))) (by omega) hn0 hT hD)); (case wd => omega); (case wu => omega))
  rintro _ _ h2 tk2 ⟨q, us, k, T', rfl, he, hi, hq, hT', hD'⟩ F2 N2
  rw [he] at N2
  generalize hnn : Builtin.Int.intBits (y : Int) = nb at *
  have hul : us.length = places nb x := by rw [hi.length, digs_len]
  have hpl : places nb x ≤ 300 := places_le hn0 hx
  k_steps
  rename_i l' h5 l1a h6 D h7 F3 N3 l1b
  have lq : q < l' := l1a.1
  have lAT : ∀ p ∈ A ++ T', p.1 ≠ l' := fun p hp => Nat.ne_of_lt (allLt_get l1a.2 p hp)
  have nql : (q : Nat) ≠ l' := Nat.ne_of_lt lq
  refine iter_revUnr rfl F3 N3 (offI_of (List.forall_mem_cons.mpr ⟨Nat.ne_of_lt l1b.1, List.forall_mem_cons.mpr ⟨Nat.ne_of_lt l1b.2.1, fun p hp => Nat.ne_of_lt (allLt_get l1b.2.2 p hp)⟩⟩)) (.tail _ (.head _)) rfl rfl (revRest_ind (Inv := InvDp A T' x y nb t2 l' q us k) ?_ ?_ _ _ _ ?_)
  · rintro m news ⟨j, tr, tn, qs, qds, kq, hv, hj, mr, mb', mn, mq, rfl, hqi, hqb, hqv⟩ h tk F N
    have hj0 : j = 0 := by
      have := hv.length
      simp only [List.length_nil, List.length_reverse, digs_len] at this
      exact this.symm
    subst hj0
    have hql : qs.length < 100000 := by omega
    clear F3 N3
    have DD : Dis ((l', listOf qs.reverse.toArray kq) :: (q, listOf us.toArray k) :: A) T' := List.forall_mem_cons.mpr ⟨fun p hp => lAT p (List.mem_append_right _ hp), List.forall_mem_cons.mpr ⟨fun p hp => hq p (List.mem_append_right _ hp), hD'⟩⟩
    k_steps
    (refine' Spec.use ?wS ?wB ?wF ?wN ?wX ?wT ?wC ?wk ?wd ?wu ?_; (case wB => k_asm); (case wF => k_asm); (case wN => k_asm); (case wX => k_asm); (case wT => k_asm); (case wC => k_asm); (case wk => exact rfl); (case wS => exact (spec_d2i l' qs.reverse qds.reverse hqi.reverse kq nb _ (A := (l', listOf qs.reverse.toArray kq) :: (q, listOf us.toArray k) :: A) (T := T') (.head _) (fun d hd => hqb d (List.mem_reverse.mp hd)) (by omega) (by rw [List.length_reverse, ← hqi.length]; omega) hT' DD)); (case wd => omega); (case wu => omega))
    rintro _ _ h3 tk3 ⟨⟨t', rfl⟩, T'', he2, hT'', hD''⟩ F4 N4
    rw [he2] at N4
    simp only [List.cons_append] at N4
    k_steps
    rename_i p h8 F5 N5 l5
    show Ret _ _ _ _ _ _
    have hz : x / 2 ^ (0 * nb) = x := by rw [Nat.zero_mul, Nat.pow_zero, Nat.div_one]
    rw [hz] at hqv N5
    rw [hqv] at N5
    exact Ret.intro F5 (nsub N5 (b := (p, tup2 ((x / y : Nat) : Int) ((x % y : Nat) : Int) t' tr) :: (A ++ T'')) fun p' hp => by
      rcases List.mem_cons.mp hp with rfl | hp
      · exact .head _
      · exact .tail _ (.tail _ (.tail _ hp))) ⟨p, t', tr, T'', rfl, rfl, fun p' hp => Nat.ne_of_lt (allLt_get l5.2.2 p' hp), hT'', fun a ha => hD'' a (.tail _ (.tail _ ha))⟩
  · rintro v r m news ⟨j, tr, tn, qs, qds, kq, hv, hj, mr, mb', mn, mq, rfl, hqi, hqb, hqv⟩ it h tk hit F N
    have hql : qs.length < 100000 := by omega
    rcases j with _ | j
    · cases hv
    rw [digs_snoc, List.reverse_append] at hv
    obtain ⟨_, td, _⟩ := hv
    rename IntsAre r _ => hv'
    have hd' : x / 2 ^ (j * nb) % 2 ^ nb < 2 ^ nb := Nat.mod_lt _ (Nat.two_pow_pos _)
    have hr' : x / 2 ^ ((j + 1) * nb) % y < y := Nat.mod_lt _ hy0
    have hlt := dp_lt hr' hd'
    obtain ⟨st1, st2⟩ := dp_step (x := x) (nb := nb) (j := j) hy0
    generalize x / 2 ^ (j * nb) % 2 ^ nb = d at *
    generalize x / 2 ^ ((j + 1) * nb) % y = rv at *
    clear F3 N3
    have e1 : ((rv : Nat) : Int) * 2 ^ ((nb : Nat) : Int).toNat = ((rv * 2 ^ nb : Nat) : Int) := by rw [Int.toNat_natCast]; simp
    have e2 : (Builtin.Int.intBits ((rv : Nat) : Int) : Int) + ((nb : Nat) : Int) ≤ 2 ^ 27 := by
      have h1 : Builtin.Int.intBits ((rv : Nat) : Int) ≤ 300 := PySem.intBits_le_iff.mpr (Nat.lt_trans hr' hy)
      have h6 : (2 : Int) ^ 27 = 134217728 := by decide
      rw [h6]
      omega
    have e3 : (((rv * 2 ^ nb : Nat) : Int) + ((d : Nat) : Int)) = ((rv * 2 ^ nb + d : Nat) : Int) := by rw [Int.natCast_add]
    have hV : (((rv * 2 ^ nb : Nat) : Int) + ((d : Nat) : Int)).natAbs < 2 ^ 4000 := by
      rw [e3, Int.natAbs_natCast]
      refine Nat.lt_trans hlt (Nat.lt_of_lt_of_le (Nat.mul_lt_mul_of_pos_right hy (Nat.two_pow_pos _)) ?_)
      rw [← Nat.pow_add]
      exact Nat.pow_le_pow_right (by decide) (by omega)
    have e4 : (((rv * 2 ^ nb : Nat) : Int) + ((d : Nat) : Int)).fdiv (y : Int) = (((rv * 2 ^ nb + d) / y : Nat) : Int) := by
      rw [e3, Int.fdiv_eq_ediv_of_nonneg _ (by omega)]; rfl
    have e5 : (((rv * 2 ^ nb : Nat) : Int) + ((d : Nat) : Int)).fmod (y : Int) = (((rv * 2 ^ nb + d) % y : Nat) : Int) := by
      rw [e3, Int.fmod_eq_emod_of_nonneg _ (by omega)]; rfl
    k_steps
    (refine' Spec.use ?wS ?wB ?wF ?wN ?wX ?wT ?wC ?wk ?wd ?wu ?_; (case wB => k_asm); (case wF => k_asm); (case wN => k_asm); (case wX => k_asm); (case wT => k_asm); (case wC => k_asm); (case wk => exact rfl); (case wS => exact (spec_d21 (((rv * 2 ^ nb : Nat) : Int) + ((d : Nat) : Int)) (y : Int) (nb : Int) _ _ _ hV (Nat.lt_trans hy (Nat.pow_lt_pow_right (by decide) (by decide))) (by omega) (by omega) _)); (case wd => omega); (case wu => omega))
    rintro _ _ h3 tk3 ⟨p, t3, u3, rfl, he2, hp⟩ F4 N4
    rw [he2, e4, e5] at N4
    have hpl' : p ≠ l' := (hp _ (.tail _ (.head _))).symm
    have hDl : D ≠ l' := Nat.ne_of_gt l1b.1
    have hqd : ((rv * 2 ^ nb + d) / y : Nat) < 2 ^ 1000 := Nat.lt_of_lt_of_le (Nat.div_lt_of_lt_mul hlt) (Nat.pow_le_pow_right (by decide) (by omega))
    k_steps
    rename_i F5 N5
    refine UnrEnd.intro F5 N5 ((l', listOf (qs ++ [Value.int (((rv * 2 ^ nb + d) / y : Nat) : Int) t3]).toArray (kq + 1)) :: (q, listOf us.toArray k) :: (A ++ T')) (fun p' hp' => ?_) ?_ ⟨.tail _ (.head _), j, u3, _, _, qds ++ [(((rv * 2 ^ nb + d) / y : Nat) : Int)], _, hv', ?_, ?_, mb', mn, mq, rfl, hqi.append (.cons _ _ .nil), ?_, ?_⟩
    · rcases List.mem_cons.mp hp' with rfl | hp'
      · exact .tail _ (.head _)
      · exact .tail _ (.tail _ hp')
    · exact List.forall_mem_cons.mpr ⟨Nat.ne_of_lt l1b.1, List.forall_mem_cons.mpr ⟨Nat.ne_of_lt l1b.2.1, fun p' hp' => Nat.ne_of_lt (allLt_get l1b.2.2 p' hp')⟩⟩
    · rw [List.length_append]
      show j + (qs.length + 1) = _
      omega
    · rw [← st1]; exact rfl
    · intro dd hdd
      rcases List.mem_append.mp hdd with hdd | hdd
      · exact hqb dd hdd
      · rw [List.mem_singleton.mp hdd, Int.natAbs_natCast]
        exact hqd
    · rw [List.reverse_append]
      show dval nb ((((rv * 2 ^ nb + d) / y : Nat) : Int) :: qds.reverse) = _
      rw [dval, hqv, ← st2]
      push_cast
      rfl
  · have hz : x / 2 ^ (places nb x * nb) = 0 := Nat.div_eq_of_lt (places_fit hn0)
    refine ⟨places nb x, _, _, [], [], 0, hi.reverse, rfl, (by rw [hz, Nat.zero_mod]; exact rfl), rfl, rfl, rfl, rfl, .nil, (fun d hd => by cases hd), ?_⟩
    · rw [hz, Nat.zero_div]; rfl
end
theorem prime11 : rw_ul0020_02.prog = rw_ul0020_02.prog ∧ KL = KL := by k_fill; exact ⟨rfl, rfl⟩
section
variable {w : World} {mean : ExcName → Option Value} {mg mb : Str → Option Value}
/-- a new pair, the tables moved -/
noncomputable abbrev PairN (A : List (Addr × Obj)) (q r : Int) : Rel := fun v n => ∃ p t u T', v = .ref p ∧ n = (p, tup2 q r t u) :: (A ++ T') ∧ (∀ p' ∈ A ++ T', p'.1 ≠ p) ∧ Tabs T' ∧ Dis A T'
theorem fdiv_nat (x y : Nat) : ((x : Nat) : Int).fdiv (y : Int) = ((x / y : Nat) : Int) := by rw [Int.fdiv_eq_ediv_of_nonneg _ (by omega)]; rfl
theorem fmod_nat (x y : Nat) : ((x : Nat) : Int).fmod (y : Int) = ((x % y : Nat) : Int) := by rw [Int.fmod_eq_emod_of_nonneg _ (by omega)]; rfl
theorem Spec.weaken {f : Value} {vs : List Value} {D U D' U' : Nat} {news : List (Addr × Obj)} {R : Rel} (S : Spec w mean mg mb f vs D U news R) (h1 : D ≤ D') (h2 : U ≤ U') : Spec w mean mg mb f vs D' U' news R :=
  fun dp un gd cn cs a ccd cl outer A₀ base h₀ L m s Q E B F N G hk hd hu h => S dp un gd cn cs a ccd cl outer A₀ base h₀ L m s Q E B F N G hk (by omega) (by omega) h
/-- the division of a number below zero, from its inverse -/
theorem inv_div (a : Int) {b : Int} (hb : 0 < b) : a.fdiv b = Builtin.bitNot ((-a - 1).fdiv b) ∧ a.fmod b = b + Builtin.bitNot ((-a - 1).fmod b) := by
  show _ = -((-a - 1).fdiv b) - 1 ∧ _ = b + (-((-a - 1).fmod b) - 1)
  rw [Int.fdiv_eq_ediv_of_nonneg _ (by omega), Int.fdiv_eq_ediv_of_nonneg _ (by omega), Int.fmod_eq_emod_of_nonneg _ (by omega), Int.fmod_eq_emod_of_nonneg _ (by omega)]
  have h1 := Int.emod_add_mul_ediv a b
  have h2 := Int.emod_add_mul_ediv (-a - 1) b
  have h3 := Int.emod_nonneg a (by omega : b ≠ 0)
  have h4 := Int.emod_lt_of_pos a hb
  have h5 := Int.emod_nonneg (-a - 1) (by omega : b ≠ 0)
  have h6 := Int.emod_lt_of_pos (-a - 1) hb
  generalize a / b = q at *
  generalize (-a - 1) / b = q' at *
  generalize a % b = r at *
  generalize (-a - 1) % b = r' at *
  have e : b * (q + q' + 1) = b - 1 - r - r' := by rw [Int.mul_add, Int.mul_add]; omega
  have hq : q + q' + 1 = 0 := by
    rcases Int.lt_trichotomy (q + q' + 1) 0 with h | h | h
    · have : b * (q + q' + 1) ≤ b * (-1) := Int.mul_le_mul_of_nonneg_left (by omega) (by omega)
      omega
    · exact h
    · have : b * 1 ≤ b * (q + q' + 1) := Int.mul_le_mul_of_nonneg_left (by omega) (by omega)
      omega
  rw [hq] at e
  omega
set_option maxRecDepth 100000 in
set_option maxHeartbeats 8000000 in
theorem spec_dm0 (a b : Int) (t1 t2 : Tok) {A T : List (Addr × Obj)} (ha : a.natAbs < 2 ^ 300) (hb : b.natAbs < 2 ^ 300) (ha0 : 0 ≤ a) (hb0 : 0 < b) (hT : Tabs T) (hD : Dis A T) :
    Spec w mean mg mb (.ref 56) [.int a t1, .int b t2] 21 210 (A ++ T) (PairN A (a.fdiv b) (a.fmod b)) := by
  refine spec_def (nm := nL7) (ar := aL7) (bd := bL7) (sc := sL7) (c := 55) (binds := [(S "a", .int a t1), (S "b", .int b t2)]) rfl rfl rfl rfl ?_ rfl rfl rfl rfl (by decide) (by decide)
  intro dp un gd outer A₀ base g L' h₁ s B F N G lt hd hu
  obtain ⟨X, T0, C⟩ := G
  obtain ⟨x, rfl⟩ : ∃ x : Nat, a = x := ⟨a.toNat, by omega⟩
  obtain ⟨y, rfl⟩ : ∃ y : Nat, b = y := ⟨b.toNat, by omega⟩
  rw [fdiv_nat, fmod_nat]
  dsimp only [bL7, sL7, S] at *
  have hyne : ((y : Nat) : Int) ≠ 0 := by omega
  have hyn : ¬ ((y : Nat) : Int) < 0 := by omega
  have hxn : ¬ ((x : Nat) : Int) < 0 := by omega
  k_steps
  · exfalso; omega
  (refine' Spec.use ?wS ?wB ?wF ?wN ?wX ?wT ?wC ?wk ?wd ?wu ?_; (case wB => k_asm); (case wF => k_asm); (case wN => k_asm); (case wX => k_asm); (case wT => k_asm); (case wC => k_asm); (case wk => exact rfl); (case wS => exact (spec_dp x y t1 t2 (A := A) (T := T) ha hb (by omega) hT hD)); (case wd => omega); (case wu => omega))
  rintro _ _ h3 tk3 ⟨p, t, u, T', rfl, he, hp, hT', hD'⟩ F4 N4
  show Ret _ _ _ _ _ _
  exact Ret.intro F4 N4 ⟨p, t, u, T', rfl, he, hp, hT', hD'⟩
set_option maxRecDepth 100000 in
set_option maxHeartbeats 8000000 in
theorem spec_dm1 (a b : Int) (t1 t2 : Tok) {A T : List (Addr × Obj)} (ha : a.natAbs < 2 ^ 300) (hb : b.natAbs < 2 ^ 300) (hb0 : 0 < b) (hT : Tabs T) (hD : Dis A T) :
    Spec w mean mg mb (.ref 56) [.int a t1, .int b t2] 22 220 (A ++ T) (PairN A (a.fdiv b) (a.fmod b)) := by
  by_cases ha0 : 0 ≤ a
  · exact Spec.weaken (spec_dm0 a b t1 t2 ha hb ha0 hb0 hT hD) (by omega) (by omega)
  refine spec_def (nm := nL7) (ar := aL7) (bd := bL7) (sc := sL7) (c := 55) (binds := [(S "a", .int a t1), (S "b", .int b t2)]) rfl rfl rfl rfl ?_ rfl rfl rfl rfl (by decide) (by decide)
  intro dp un gd outer A₀ base g L' h₁ s B F N G lt hd hu
  obtain ⟨X, T0, C⟩ := G
  have hbne : b ≠ 0 := by omega
  have hbn : ¬ b < 0 := by omega
  have han : a < 0 := by omega
  dsimp only [bL7, sL7, S] at *
  k_steps
  · exfalso; omega
  have e0 : Builtin.bitNot a = -a - 1 := rfl
  rw [e0]
  (refine' Spec.use ?wS ?wB ?wF ?wN ?wX ?wT ?wC ?wk ?wd ?wu ?_; (case wB => k_asm); (case wF => k_asm); (case wN => k_asm); (case wX => k_asm); (case wT => k_asm); (case wC => k_asm); (case wk => exact rfl); (case wS => exact (spec_dm0 (-a - 1) b _ t2 (A := A) (T := T) (by omega) hb (by omega) hb0 hT hD)); (case wd => omega); (case wu => omega))
  rintro _ _ h3 tk3 ⟨p, t, u, T', rfl, he, hp, hT', hD'⟩ F4 N4
  rw [he] at N4
  k_steps
  rename_i p2 h8 F5 N5 l5
  obtain ⟨f1, f2⟩ := inv_div a hb0
  exact Ret.intro F5 (nsub N5 (b := (p2, tup2 (a.fdiv b) (a.fmod b) _ _) :: (A ++ T')) fun p' hp => by
    rcases List.mem_cons.mp hp with rfl | hp
    · rw [f1, f2]; exact .head _
    · exact .tail _ (.tail _ hp)) ⟨p2, _, _, T', rfl, rfl, fun p' hp => Nat.ne_of_lt (allLt_get l5.2 p' hp), hT', hD'⟩
set_option maxRecDepth 100000 in
set_option maxHeartbeats 8000000 in
/-- the law's division: the quotient and the rest of Python -/
theorem spec_dm (a b : Int) (t1 t2 : Tok) {A T : List (Addr × Obj)} (ha : a.natAbs < 2 ^ 300) (hb : b.natAbs < 2 ^ 300) (hb0 : b ≠ 0) (hT : Tabs T) (hD : Dis A T) :
    Spec w mean mg mb (.ref 56) [.int a t1, .int b t2] 23 230 (A ++ T) (PairN A (a.fdiv b) (a.fmod b)) := by
  by_cases hbp : 0 < b
  · exact Spec.weaken (spec_dm1 a b t1 t2 ha hb hbp hT hD) (by omega) (by omega)
  refine spec_def (nm := nL7) (ar := aL7) (bd := bL7) (sc := sL7) (c := 55) (binds := [(S "a", .int a t1), (S "b", .int b t2)]) rfl rfl rfl rfl ?_ rfl rfl rfl rfl (by decide) (by decide)
  intro dp un gd outer A₀ base g L' h₁ s B F N G lt hd hu
  obtain ⟨X, T0, C⟩ := G
  have hbn : b < 0 := by omega
  dsimp only [bL7, sL7, S] at *
  k_steps
  · exfalso; omega
  (refine' Spec.use ?wS ?wB ?wF ?wN ?wX ?wT ?wC ?wk ?wd ?wu ?_; (case wB => k_asm); (case wF => k_asm); (case wN => k_asm); (case wX => k_asm); (case wT => k_asm); (case wC => k_asm); (case wk => exact rfl); (case wS => exact (spec_dm1 (-a) (-b) _ _ (A := A) (T := T) (by omega) (by omega) (by omega) hT hD)); (case wd => omega); (case wu => omega))
  rintro _ _ h3 tk3 ⟨p, t, u, T', rfl, he, hp, hT', hD'⟩ F4 N4
  rw [he] at N4
  k_steps
  rename_i p2 h8 F5 N5 l5
  have f1 : (-a).fdiv (-b) = a.fdiv b := Int.neg_fdiv_neg _ _
  have f2 : -((-a).fmod (-b)) = a.fmod b := by rw [Int.neg_fmod_neg]; omega
  exact Ret.intro F5 (nsub N5 (b := (p2, tup2 (a.fdiv b) (a.fmod b) _ _) :: (A ++ T')) fun p' hp => by
    rcases List.mem_cons.mp hp with rfl | hp
    · rw [← f1, ← f2]; exact .head _
    · exact .tail _ (.tail _ hp)) ⟨p2, _, _, T', rfl, rfl, fun p' hp => Nat.ne_of_lt (allLt_get l5.2 p' hp), hT', hD'⟩
end
theorem prime12 : rw_ul0020_02.prog = rw_ul0020_02.prog ∧ KL = KL := by k_fill; exact ⟨rfl, rfl⟩
/-- a goal laid aside: no rule of the walk takes it -/
noncomputable def HoldK (P : Prop) : Prop := P
theorem HoldK.out {P : Prop} (h : HoldK P) : P := h
local macro_rules | `(tactic| walk_at "exec While") => `(tactic| refine HoldK.out ?_)
local macro_rules | `(tactic| walk_at "exec While Compare") => `(tactic| refine HoldK.out ?_)
local macro_rules | `(tactic| walk_at "exec While BoolOp") => `(tactic| refine HoldK.out ?_)
section
variable {prog : Program} {w : World} {A : Around} {E : Value → Shared → Prop} {s : Shared} {a b q r : Int} {t u : Tok} {Q : Value → Shared → Prop} {h₀ : Heap} {L : Addr} {m : Str → Option Value} {news : List (Addr × Obj)}
theorem divmod_to (F : Fr h₀ L s.heap m) (N : News h₀ L s.heap news) (hb : b ≠ 0) (hp : b.natAbs < 1073741824) (e1 : a.fdiv b = q) (e2 : a.fmod b = r)
    (h : ∀ p h', Fr h₀ L h' m → News h₀ L h' ((p, tup2 q r s.toks (s.toks + 1)) :: news) → Q (.ref p) { s with toks := s.toks + 1 + 1, heap := h' }) :
    wpAny (model prog w) A (call (.builtin "divmod") [.int a t, .int b u]) Q E s := by
  subst e1 e2
  exact divmod_N F N hb (fun h' F' N' => h _ h' F' N') (Or.inl (PyProof.noPylong_small hp))
end
local macro_rules | `(tactic| walk_at "call builtin:divmod") => `(tactic| (k_here; k_dflt (refine' divmod_to ?k1 ?k2 ?k3 ?k4 ?k5 ?k6 ?_; (case k1 => k_asm); (case k2 => k_asm); (case k3 => decide); (case k4 => decide); (case k5 => assumption); (case k6 => assumption)); intro _ _ _ _; (try k_sweep)))
local macro_rules | `(tactic| walk_at "binaryOp Add bytes bytes") => `(tactic| (refine KBy.add_bytes (by first | assumption | omega) ?_; intro _ _))
/-- the letters of a number -/
noncomputable def apL (x : Nat) : List UInt8 := if h : x = 0 then [] else apL (x / 16) ++ [UInt8.ofNat (65 + x % 16)]
theorem apL_zero : apL 0 = [] := by unfold apL; rfl
theorem apL_pos {x : Nat} (h : x ≠ 0) : apL x = apL (x / 16) ++ [UInt8.ofNat (65 + x % 16)] := by rw [apL, dif_neg h]
theorem apL_len : ∀ (k : Nat) {x : Nat}, x < 16 ^ k → (apL x).length ≤ k := by
  intro k
  induction k with
  | zero =>
    intro x hx
    have : x = 0 := by omega
    subst this
    rw [apL_zero]; exact Nat.le_refl _
  | succ k ih =>
    intro x hx
    by_cases h : x = 0
    · subst h; rw [apL_zero]; exact Nat.zero_le _
    · rw [apL_pos h, List.length_append]
      have := ih (x := x / 16) (by rw [Nat.div_lt_iff_lt_mul (by decide)]; rw [Nat.pow_succ] at hx; exact hx)
      simp only [List.length_singleton]
      omega
noncomputable abbrev AP16 : Array UInt8 := #[65, 66, 67, 68, 69, 70, 71, 72, 73, 74, 75, 76, 77, 78, 79, 80]
theorem ap_pick : ∀ d : Fin 16, KBy.whole AP16 (some (d.val : Int)) (some ((d.val : Int) + 1)) = false ∧ KBy.picked AP16 (some (d.val : Int)) (some ((d.val : Int) + 1)) = #[UInt8.ofNat (65 + d.val)] := by decide +kernel
section
variable {prog : Program} {w : World} {A : Around} {E : Value → Shared → Prop} {s : Shared} {t t1 t2 : Tok} {Q : Value → Shared → Prop} {h₀ : Heap} {L : Addr} {m : Str → Option Value} {news : List (Addr × Obj)} {value slice : PySem.Expr}
theorem ap_slice {d : Nat} (hd : d < 16) (F : Fr h₀ L s.heap m) (N : News h₀ L s.heap news)
    (h : ∀ h' t' k, Fr h₀ L h' m → News h₀ L h' news → Q (.bytes #[UInt8.ofNat (65 + d)] t') { s with heap := h', toks := k })
    (hs : subscripted slice false (.bytes AP16 t) (.ref s.heap.objs.size) = operate [.ref s.heap.objs.size, .bytes AP16 t] (getItem (.bytes AP16 t) (.ref s.heap.objs.size)) := by with_unfolding_all rfl)
    (ht : ∀ r, letTemporaryGo value (.bytes AP16 t) r = pure () := by intro _; with_unfolding_all rfl) :
    wpAny (model prog w) A (subscriptTail value slice (.bytes AP16 t) (.ref s.heap.objs.size)) Q E { s with heap := s.heap.push { cls := .type "slice", data := .fields #[.int (d : Int) t1, .int ((d : Int) + 1) t2, .none] } } := by
  obtain ⟨h1, h2⟩ := ap_pick ⟨d, hd⟩
  refine KBy.slice_N F N (.int _ _) (.int _ _) h1 (by rw [h2]; exact (by decide : 1 ≤ 16777216)) (fun h' t' k F' N' => ?_) hs ht
  rw [h2]
  exact h h' t' k F' N'
end
section
variable {w : World} {mean : ExcName → Option Value} {mg mb : Str → Option Value}
noncomputable def InvAp (x : Nat) (n0 : List (Addr × Obj)) (n : Nat) (m : Str → Option Value) (news : List (Addr × Obj)) : Prop :=
  ∃ (arr : Array UInt8) (t1 t2 t3 : Tok), news = n0 ∧ m (S "num") = some (.int (n : Int) t1) ∧ m (S "val") = some (.bytes arr t2) ∧ m (S "AP") = some (.bytes AP16 t3) ∧ apL x = apL n ++ arr.toList
set_option maxRecDepth 100000 in
set_option maxHeartbeats 8000000 in
theorem spec_ap (x : Int) (t1 : Tok) (news : List (Addr × Obj)) (hx : x.natAbs < 16 ^ 100) :
    Spec w mean mg mb (.ref 63) [.int x t1] 2 30 news (fun r n => (∃ t, r = .bytes (apL x.natAbs).toArray t) ∧ n = news) := by
  refine spec_def (nm := nL9) (ar := aL9) (bd := bL9) (sc := sL9) (c := 62) (binds := [(S "num", .int x t1)]) rfl rfl rfl rfl ?_ rfl rfl rfl rfl (by decide) (by decide)
  intro dp un gd outer A₀ base g L' h₁ s B F N G lt hd hu
  obtain ⟨X, T0, C⟩ := G
  dsimp only [bL9, sL9, S] at *
  k_steps
  unfold HoldK
  rename Fr _ _ _ _ => F2
  rename News _ _ _ _ => N2
  have hx0 : (if x < 0 then -x else x) = ((x.natAbs : Nat) : Int) := by split <;> omega
  rw [hx0] at F2
  refine While_inv2 (InvAp x.natAbs news) F2 N2 (n₀ := x.natAbs) ⟨#[], _, _, _, rfl, rfl, rfl, rfl, by simp⟩ ?_
  clear F2 N2
  rintro z m news₁ h2 tk2 F2 N2 ⟨arr, tz, tv, tp, rfl, mz, mv, mp, happ⟩
  have e1 : ((z : Nat) : Int).fdiv 16 = ((z / 16 : Nat) : Int) := fdiv_nat z 16
  have e2 : ((z : Nat) : Int).fmod 16 = ((z % 16 : Nat) : Int) := fmod_nat z 16
  have hd16 : z % 16 < 16 := Nat.mod_lt _ (by decide)
  have hsz : (#[UInt8.ofNat (65 + z % 16)] : Array UInt8).size + arr.size ≤ 16777216 := by
    have h1 := apL_len 100 hx
    have h3 : (apL x.natAbs).length = (apL z).length + arr.toList.length := by rw [happ, List.length_append]
    have h4 : arr.size = arr.toList.length := Array.length_toList.symm
    have h5 : (#[UInt8.ofNat (65 + z % 16)] : Array UInt8).size = 1 := rfl
    omega
  k_steps
  · rename Fr _ _ _ _ => F3
    rename News _ _ _ _ => N3
    refine ap_slice (s := ⟨_, _, _, _, _⟩) hd16 F3 N3 (fun h' t' k F4 N4 => ?_)
    clear F3 N3
    k_steps
    rename Fr _ _ _ _ => F5
    rename News _ _ _ _ => N5
    have hzne : z ≠ 0 := by omega
    exact ⟨_, _, _, news₁, z / 16, rfl, F5, nsub N5 (fun p hp => .tail _ hp), by omega, #[UInt8.ofNat (65 + z % 16)] ++ arr, _, _, tp, rfl, rfl, rfl, mp, by rw [happ, apL_pos hzne]; simp⟩
  · have hz : z = 0 := by omega
    subst hz
    (show Ret _ _ _ _ _ _; first | refine Ret.intro (by k_asm) (by k_asm) ?_ | refine Ret.fall (by k_asm) (by k_asm) ?_)
    refine ⟨⟨_, congrArg (Value.bytes · _) ?_⟩, rfl⟩
    rw [happ, apL_zero, List.nil_append]
end
theorem prime13 : rw_ul0020_02.prog = rw_ul0020_02.prog ∧ KL = KL := by k_fill; exact ⟨rfl, rfl⟩
section
variable {w : World} {mean : ExcName → Option Value} {mg mb : Str → Option Value}
theorem sliceK3 {prog : Program} {w : World} {A : Around} {E : Value → Shared → Prop} {s : Shared} {value slice : PySem.Expr} {l : Addr} {h₀ : Heap} {L : Addr} {m : Str → Option Value} {news : List (Addr × Obj)} {us : List Value} {ns : List Int} {vl vu : Value} {lo hi : Option Int} {st : Int} {t : Tok} {ops : List Value} {Q : Value → Shared → Prop}
    (F : Fr h₀ L s.heap m) (N : News h₀ L s.heap news) (hl : s.heap.IsList l us.toArray) (hi' : IntsAre us ns) (pl : IsPart vl lo) (pu : IsPart vu hi) (h0 : st ≠ 0) (hz : us.length ≤ 10000000)
    (h : ∀ D ws h', Fr h₀ L h' m → News h₀ L h' ((D, listOf ws.toArray 0) :: news) → (∀ p ∈ news, p.1 < D) → IntsAre ws (pickNums ns lo hi (some st)) → Q (.ref D) { s with heap := h' })
    (hs : subscripted slice false (.ref l) (.ref s.heap.objs.size) = operate ops (getItem (.ref l) (.ref s.heap.objs.size))) (ht : ∀ r, letTemporaryGo value (.ref l) r = pure ()) :
    wpAny (model prog w) A (subscriptTail value slice (.ref l) (.ref s.heap.objs.size)) Q E { s with heap := s.heap.push { cls := .type "slice", data := .fields #[vl, vu, .int st t] } } :=
  kmk_slice3_lit F N hl pl pu (IsPart.int _ _) (by simpa using h0) rfl (fun D h' F' N' l1 => h D _ h' F' N' l1 (hi'.pick lo hi (some st))) hs ht (by rw [sizeLine_eq]; simp only [List.size_toArray]; omega)
/-- what a cell of the script tells -/
noncomputable def cellV (ns : List Int) (place : Nat) (st start : Int) : Int := start + (pickNums ns (some (place : Int)) none (some st)).sum
set_option maxRecDepth 100000 in
set_option maxHeartbeats 8000000 in
theorem cell_K (l : Addr) (us : List Value) (ns : List Int) (place : Nat) (start : Int) (t1 t2 : Tok) {news : List (Addr × Obj)} {dp un : Nat} {gd : Option (List Code)} {cn : Str} {cs : Scope} {a : Addr} {ccd : Value} {cl : List (Str × Addr)} {outer : List Env} {A₀ : Around} {base h₀ : Heap} {L : Addr} {m : Str → Option Value} {s : Shared} {Q E : Value → Shared → Prop}
    (B : Below A₀ base outer h₀) (F : Fr h₀ L s.heap m) (N : News h₀ L s.heap news) (X : (KL w.params).In h₀) (T : Top topProg looseL mean mg mb h₀) (C : HdOk h₀) (hk : cs.kind = .function) (hd : dp + 2 < recursionLimit) (hu : un + 30 < cLine)
    (hl : h₀.IsList l us.toArray) (hi : IntsAre us ns) (hz : us.length ≤ 10000000)
    (h : ∀ t h' tk', Fr h₀ L h' m → News h₀ L h' news → Q (.int (cellV ns place 8 start) t) { s with heap := h', toks := tk' }) :
    wpAny (ML w) (ktrTop dp un gd cn cs L a ccd cl outer) (call (.ref 134) [.ref l, .int place t1, .int start t2]) Q E s := by
  refine wpAny_call ?_
  refine callX_plain (cl := []) (name := nL16) (qual := nL16) (params := aL16) (body := bL16) (scope := sL16) (dV := .none) (kV := .none) (doc := .none) (an := none) (ct := .none) (cdv := .ref 133) (binds := [(S "script", .ref l), (S "place", .int place t1), (S "start", .int start t2)]) B F N T.nolimit rfl rfl hk ((X.keeps F.keep) _ _ rfl) rfl (codeRec_of (X.keeps F.keep) rfl) (by show dp < recursionLimit; omega) (BindsTo.of_eq rfl) (locs rfl) ?_ (fun x hx => by have := List.all_eq_true.mp (rfl : (sL16.names.all fun x => x.2 != .cell) = true) x hx; simpa using this) rfl rfl rfl
  intro g L' h₁ FG F' N' B' st lt
  have hl' : g.IsList l us.toArray := stays_list st hl
  refine wpAny_mono (Q := Ret s g L' (fun r n' => (∃ t', r = .int (cellV ns place 8 start) t') ∧ n' = news)) (E := noE) ?_ (fun fl s' hr => ?_) (fun _ _ x => x.elim)
  · have X := X.keeps st
    have T := T.keeps st
    have C := C.keeps st
    clear F N hl B
    change wpAny (ML w) (ktrTop (dp + 1) (un + 3) gd nL16 sL16 L' 134 (.ref 133) [] (envX cn cs L a ccd cl :: outer)) _ _ _ _
    generalize envX cn cs L a ccd cl :: outer = outer' at *
    dsimp only [bL16, sL16, S] at *
    k_steps
    rename Fr _ _ _ _ => F3
    rename News _ _ _ _ => N3
    refine sumK rfl F3 N3 (vs := (slicePick us.toArray (some (place : Int)) none (some 8)).toList) ⟨_, (N3 _ (.head _)).1, rfl, 0, rfl⟩ (hi.pick _ _ _) fun h' tk t' F4 N4 => ?_
    clear F3 N3
    k_steps
    exact Ret.intro F4 (nsub N4 fun p hp => .tail _ hp) ⟨⟨_, rfl⟩, rfl⟩
  · obtain ⟨m', news', h', tk', rfl, F2, N2, ⟨t', hr⟩, rfl⟩ := hr
    cases fl with
    | ret v =>
      replace hr : v = _ := hr
      subst hr
      exact leaveK_ F2 N2 fun F3 N3 => h _ _ _ F3 N3
    | next => cases hr
    | brk => cases hr
    | cont => cases hr
end
/-- the row that the steps give -/
noncomputable def bump (side : Int) (n k : Nat) : Int := if 0 < side ∧ 0 < k then (if k + 1 = n then 2 else 1) else 0
noncomputable def rowGo (side : Int) (n : Nat) : Nat → Int → List Int → List Int
  | _, _, [] => []
  | k, last, d :: r => (last + d + bump side n k) :: rowGo side n (k + 1) (last + d + bump side n k) r
noncomputable def rowV (side : Int) (ds : List Int) : List Int := rowGo side ds.length 0 1 ds
/-- what a row tells of a whole -/
noncomputable def partGo (side : Int) : Int → Int → List Int → Int
  | _, worth, [] => worth
  | whole, worth, n :: r => partGo side (-side * whole.fdiv n) (worth + whole.fdiv n) r
noncomputable def partV (side whole : Int) (ds : List Int) : Int := partGo side whole 0 ds
noncomputable def prodL : List Int → Int
  | [] => 1
  | r :: rs => r * prodL rs
noncomputable def Yv (side : Int) : List Int → Int
  | [] => 0
  | r :: rs => prodL rs - side * Yv side rs
theorem partGo_mul (side : Int) : ∀ (rs : List Int) (c worth : Int), (∀ r ∈ rs, r ≠ 0) → partGo side (c * prodL rs) worth rs = worth + c * Yv side rs
  | [], c, worth, _ => by simp [partGo, Yv]
  | r :: rs, c, worth, h => by
    have hr : r ≠ 0 := h r (.head _)
    have e : (c * prodL (r :: rs)).fdiv r = c * prodL rs := by
      rw [prodL, show c * (r * prodL rs) = r * (c * prodL rs) by rw [← Int.mul_assoc, Int.mul_comm c r, Int.mul_assoc]]
      exact Int.mul_fdiv_cancel_left _ hr
    rw [partGo, e, show -side * (c * prodL rs) = (-side * c) * prodL rs by rw [Int.mul_assoc], partGo_mul side rs _ _ fun x hx => h x (.tail _ hx), Yv]
    rw [Int.mul_sub, show c * (side * Yv side rs) = side * c * Yv side rs by rw [← Int.mul_assoc, Int.mul_comm c side], Int.neg_mul, Int.neg_mul]
    omega
theorem partV_mul (side : Int) (rs : List Int) (c : Int) (h : ∀ r ∈ rs, r ≠ 0) : partV side (c * prodL rs) rs = c * Yv side rs := by
  rw [partV, partGo_mul side rs c 0 h, Int.zero_add]
/-- rows that division writes again -/
noncomputable def Rise (side : Int) : List Int → Prop
  | [] => True
  | [r] => 1 ≤ r
  | r :: s :: rs => 1 ≤ r ∧ (if 0 < side then (r + 1 ≤ s ∧ (rs = [] → r + 2 ≤ s)) else r ≤ s) ∧ Rise side (s :: rs)
theorem Rise.pos {side : Int} : ∀ {rs : List Int}, Rise side rs → ∀ r ∈ rs, 1 ≤ r
  | [], _, _, h => nomatch h
  | [r], h, x, hx => by rcases List.mem_singleton.mp hx with rfl; exact h
  | r :: s :: rs, h, x, hx => by
    rcases List.mem_cons.mp hx with rfl | hx
    · exact h.1
    · exact Rise.pos h.2.2 x hx
theorem Rise.tail {side r : Int} : ∀ {rs : List Int}, Rise side (r :: rs) → Rise side rs
  | [], _ => trivial
  | _ :: _, h => h.2.2
theorem prodL_pos : ∀ {rs : List Int}, (∀ r ∈ rs, 1 ≤ r) → 0 < prodL rs
  | [], _ => by decide
  | r :: rs, h => Int.mul_pos (by have := h r (.head _); omega) (prodL_pos fun x hx => h x (.tail _ hx))
/-- the rest is below the part -/
theorem good_pierce : ∀ (rs : List Int), Rise 1 rs → 0 ≤ Yv 1 rs ∧ (rs ≠ [] → 0 < Yv 1 rs) ∧ (∀ r, Rise 1 (r :: rs) → (r + 1) * Yv 1 rs < prodL rs)
  | [], _ => ⟨by decide, fun h => absurd rfl h, fun r _ => by show (r + 1) * 0 < 1; omega⟩
  | s :: rs, h => by
    obtain ⟨h0, h1, h2⟩ := good_pierce rs h.tail
    have hs : 1 ≤ s := h.pos s (.head _)
    have e : Yv 1 (s :: rs) = prodL rs - Yv 1 rs := by rw [Yv, Int.one_mul]
    have hlt := h2 s h
    have hle : 1 * Yv 1 rs ≤ (s + 1) * Yv 1 rs := Int.mul_le_mul_of_nonneg_right (by omega) h0
    have hp : 0 < Yv 1 (s :: rs) := by omega
    refine ⟨by omega, fun _ => hp, fun r hr => ?_⟩
    have hr2 : r + 1 ≤ s ∧ (rs = [] → r + 2 ≤ s) := by have := hr.2.1; rwa [if_pos (by decide)] at this
    rw [prodL]
    have e2 : s * Yv 1 (s :: rs) = s * prodL rs - s * Yv 1 rs := by rw [e, Int.mul_sub]
    by_cases hn : rs = []
    · subst hn
      show (r + 1) * (1 - 1 * 0) < s * 1
      have := hr2.2 rfl
      omega
    · have h3 : (r + 1) * Yv 1 (s :: rs) ≤ s * Yv 1 (s :: rs) := Int.mul_le_mul_of_nonneg_right hr2.1 (by omega)
      have h4 : 0 < s * Yv 1 rs := Int.mul_pos (by omega) (h1 hn)
      omega
theorem good_engel : ∀ (rs : List Int), Rise (-1) rs → 0 ≤ Yv (-1) rs ∧ (rs ≠ [] → 0 < Yv (-1) rs) ∧ (∀ r, Rise (-1) (r :: rs) → r * Yv (-1) rs < prodL rs + Yv (-1) rs)
  | [], _ => ⟨by decide, fun h => absurd rfl h, fun r _ => by show r * 0 < 1 + 0; omega⟩
  | s :: rs, h => by
    obtain ⟨h0, h1, h2⟩ := good_engel rs h.tail
    have hs : 1 ≤ s := h.pos s (.head _)
    have e : Yv (-1) (s :: rs) = prodL rs + Yv (-1) rs := by rw [Yv, Int.neg_mul, Int.one_mul]; omega
    have hpp := prodL_pos fun x hx => h.pos x (.tail _ hx)
    have hp : 0 < Yv (-1) (s :: rs) := by omega
    refine ⟨by omega, fun _ => hp, fun r hr => ?_⟩
    have hr2 : r ≤ s := by have := hr.2.1; rwa [if_neg (by decide)] at this
    have hlt := h2 s h
    have h3 : r * Yv (-1) (s :: rs) ≤ s * Yv (-1) (s :: rs) := Int.mul_le_mul_of_nonneg_right hr2 (by omega)
    have e2 : s * Yv (-1) (s :: rs) = s * prodL rs + s * Yv (-1) rs := by rw [e, Int.mul_add]
    rw [prodL]
    omega
/-- one step of the division, in the letters of the row -/
theorem good_step {side : Int} (hs : side = 1 ∨ side = -1) {r : Int} {rs : List Int} (h : Rise side (r :: rs)) : 0 ≤ Yv side rs ∧ r * Yv side rs < Yv side (r :: rs) := by
  rcases hs with rfl | rfl
  · obtain ⟨h0, _, h2⟩ := good_pierce rs h.tail
    have := h2 r h
    rw [Int.add_mul] at this
    rw [Yv]
    omega
  · obtain ⟨h0, _, h2⟩ := good_engel rs h.tail
    have := h2 r h
    rw [Yv, Int.neg_mul]
    omega
theorem fdiv_fmod_of {a b q r : Int} (e : a = q * b + r) (h : (0 ≤ r ∧ r < b) ∨ (b < r ∧ r ≤ 0)) : a.fdiv b = q ∧ a.fmod b = r := by
  subst e
  have key : ∀ {b r : Int}, 0 ≤ r → r < b → (q * b + r).fdiv b = q ∧ (q * b + r).fmod b = r := fun {b r} h0 h1 => by
    rw [Int.fdiv_eq_ediv_of_nonneg _ (by omega), Int.fmod_eq_emod_of_nonneg _ (by omega)]
    constructor
    · rw [Int.add_comm, Int.add_mul_ediv_right _ _ (by omega), Int.ediv_eq_zero_of_lt h0 h1, Int.zero_add]
    · rw [Int.add_comm, Int.add_mul_emod_self_right, Int.emod_eq_of_lt h0 h1]
  rcases h with ⟨h0, h1⟩ | ⟨h0, h1⟩
  · exact key h0 h1
  · have := key (b := -b) (r := -r) (by omega) (by omega)
    have e : q * -b + -r = -(q * b + r) := by rw [Int.mul_neg]; omega
    rw [e, Int.neg_fdiv_neg, Int.neg_fmod_neg] at this
    exact ⟨this.1, by omega⟩
/-- the division that the law asks -/
theorem law_div {side : Int} (hs : side = 1 ∨ side = -1) {W c : Int} (hc : c ≠ 0) {pre : List Int} {r : Int} {rs : List Int} (h : Rise side (r :: rs)) (hpre : ∀ x ∈ pre, 1 ≤ x) (hW : W = c * (prodL pre * prodL (r :: rs))) :
    (side * W).fdiv (partV side W (r :: rs)) = side * r ∧ (side * W).fmod (partV side W (r :: rs)) = partV side W rs ∧ partV side W (r :: rs) ≠ 0 := by
  obtain ⟨h0, h1⟩ := good_step hs h
  have hp : 0 < prodL pre := prodL_pos hpre
  have hr : 1 ≤ r := h.pos r (.head _)
  have hnz : ∀ x ∈ r :: rs, x ≠ 0 := fun x hx => by have := h.pos x hx; omega
  have e1 : partV side W (r :: rs) = c * prodL pre * Yv side (r :: rs) := by rw [hW, ← Int.mul_assoc, partV_mul _ _ _ hnz]
  have e2 : partV side W rs = c * prodL pre * (r * Yv side rs) := by
    rw [hW, prodL, ← Int.mul_assoc, ← Int.mul_assoc, partV_mul _ _ _ fun x hx => hnz x (.tail _ hx), Int.mul_assoc]
  have e3 : W = c * prodL pre * (r * prodL rs) := by rw [hW, prodL, Int.mul_assoc]
  have hY : 0 < Yv side (r :: rs) := by
    have : 0 ≤ r * Yv side rs := Int.mul_nonneg (by omega) h0
    omega
  generalize hd : c * prodL pre = d at *
  have hdn : d ≠ 0 := by rw [← hd]; exact Int.mul_ne_zero hc (by omega)
  have e4 : side * W = side * r * partV side W (r :: rs) + partV side W rs := by
    rw [e1, e2, e3, Yv]
    have hss : side * side = 1 := by rcases hs with rfl | rfl <;> rfl
    have : side * r * (d * (prodL rs - side * Yv side rs)) = side * (d * (r * prodL rs)) - side * side * (d * (r * Yv side rs)) := by
      simp only [Int.mul_sub, Int.mul_assoc, Int.mul_comm, Int.mul_left_comm]
    rw [this, hss, Int.one_mul]
    omega
  have hb : (0 ≤ partV side W rs ∧ partV side W rs < partV side W (r :: rs)) ∨ (partV side W (r :: rs) < partV side W rs ∧ partV side W rs ≤ 0) := by
    have h2 : 0 ≤ r * Yv side rs := Int.mul_nonneg (by omega) h0
    rw [e1, e2]
    rcases Int.lt_or_gt_of_ne hdn with hd' | hd'
    · right
      refine ⟨Int.mul_lt_mul_of_neg_left h1 hd', ?_⟩
      exact Int.mul_nonpos_of_nonpos_of_nonneg (by omega) h2
    · left
      exact ⟨Int.mul_nonneg (by omega) h2, Int.mul_lt_mul_of_pos_left h1 hd'⟩
  refine ⟨(fdiv_fmod_of e4 hb).1, (fdiv_fmod_of e4 hb).2, ?_⟩
  rw [e1]
  exact Int.mul_ne_zero hdn (by omega)
/-- the rows of the law rise so -/
theorem rowGo_rise {side : Int} (hs : side = 1 ∨ side = -1) : ∀ (ds : List Int) (n k : Nat) (last : Int), (∀ d ∈ ds, 0 ≤ d) → k + ds.length = n → 1 ≤ last → Rise side (rowGo side n k last ds)
  | [], _, _, _, _, _, _ => trivial
  | [d], n, k, last, hd, hk, hl => by
    have := hd d (.head _)
    show 1 ≤ last + d + bump side n k
    have : 0 ≤ bump side n k := by rw [bump]; split <;> (try split) <;> omega
    omega
  | d :: d' :: r, n, k, last, hd, hk, hl => by
    have hd0 := hd d (.head _)
    have hd1 := hd d' (.tail _ (.head _))
    have hb : 0 ≤ bump side n k := by rw [bump]; split <;> (try split) <;> omega
    have ih := rowGo_rise hs (d' :: r) n (k + 1) (last + d + bump side n k) (fun x hx => hd x (.tail _ hx)) (by simp only [List.length_cons] at hk ⊢; omega) (by omega)
    refine ⟨by omega, ?_, ih⟩
    split
    · rename_i hsp
      have e : bump side n (k + 1) = if k + 1 + 1 = n then 2 else 1 := by rw [bump, if_pos ⟨hsp, by omega⟩]
      rw [e]
      refine ⟨by split <;> omega, fun hr => ?_⟩
      have hr' : r = [] := by
        rcases r with _ | ⟨y, r⟩
        · rfl
        · rw [rowGo] at hr; cases hr
      subst hr'
      simp only [List.length_cons, List.length_nil] at hk
      rw [if_pos (by omega)]
      omega
    · rename_i hsp
      have hb' : 0 ≤ bump side n (k + 1) := by rw [bump]; split <;> (try split) <;> omega
      omega
theorem rowV_rise {side : Int} (hs : side = 1 ∨ side = -1) {ds : List Int} (hd : ∀ d ∈ ds, 0 ≤ d) : Rise side (rowV side ds) := rowGo_rise hs ds ds.length 0 1 hd (by omega) (by decide)
theorem rowGo_len (side : Int) (n : Nat) : ∀ (ds : List Int) (k : Nat) (last : Int), (rowGo side n k last ds).length = ds.length
  | [], _, _ => rfl
  | _ :: r, _, _ => by rw [rowGo, List.length_cons, rowGo_len side n r]; rfl
theorem rowV_len (side : Int) (ds : List Int) : (rowV side ds).length = ds.length := rowGo_len _ _ _ _ _
theorem rowGo_le (side : Int) (n : Nat) (B : Int) : ∀ (ds : List Int) (k : Nat) (last M : Int), (∀ d ∈ ds, d ≤ B) → 0 ≤ B → last ≤ M → ∀ x ∈ rowGo side n k last ds, x ≤ M + ds.length * (B + 2)
  | [], _, _, _, _, _, _, _, h => nomatch h
  | d :: r, k, last, M, hd, hB, hl, x, hx => by
    have hd0 := hd d (.head _)
    have hb : bump side n k ≤ 2 := by rw [bump]; split <;> (try split) <;> omega
    have e : ((d :: r).length : Int) * (B + 2) = (B + 2) + r.length * (B + 2) := by
      rw [List.length_cons, Int.natCast_add, Int.add_mul, Int.add_comm, Int.natCast_one, Int.one_mul]
    have h3 : 0 ≤ (r.length : Int) * (B + 2) := Int.mul_nonneg (by omega) (by omega)
    rw [e]
    rcases List.mem_cons.mp hx with rfl | hx
    · omega
    · have := rowGo_le side n B r (k + 1) (last + d + bump side n k) (M + (B + 2)) (fun y hy => hd y (.tail _ hy)) hB (by omega) x hx
      omega
noncomputable abbrev alphL : List Int := [0, 1, 2, 4, 7, 8, 9, 10, 11, 12]
noncomputable abbrev unseenL : List Int := [173, 847, 6150, 6155, 6156, 6157, 8203, 8204, 8205, 8288, 65279] ++ rangeKs 65024 16
/-- the signs of one number in the alphabet al, k signs, with what is strewn among them -/
noncomputable def textNum (al n : Nat) : Nat → Nat → List Nat × Nat
  | 0, st => ([], st)
  | k + 1, st => ((119808 + 52 * al + n / 16 ^ k % 16) :: ((if 0 < st % 28 then [(unseenL.getD (st % 28 - 1) 0).toNat] else []) ++ (textNum al n k (st / 28)).1), (textNum al n k (st / 28)).2)
/-- the places of a number to the base 16 -/
noncomputable def hexK (n : Nat) : Nat := (Builtin.Int.intBits (n : Int) - 1) / 4 + 1
/-- the signs of a row -/
noncomputable def textRow : Nat → Nat → Nat → List Nat → List Nat
  | _, _, _, [] => []
  | at_, order, st, n :: r =>
    let at' := (at_ + 1 + order % 9) % 10
    let x := textNum (alphL.getD at' 0).toNat n ((Builtin.Int.intBits (n : Int) - 1) / 4 + 1) st
    x.1 ++ textRow at' (order / 9) x.2 r
theorem alph_nat : ∀ a : Fin 10, alphL.getD a.val 0 = ((alphL.getD a.val 0).toNat : Int) ∧ (alphL.getD a.val 0).toNat ≤ 12 := by decide
theorem unseen_nat : ∀ a : Fin 27, unseenL.getD a.val 0 = ((unseenL.getD a.val 0).toNat : Int) ∧ (unseenL.getD a.val 0).toNat ≤ 1114111 := by decide
/-- the figures of a number to the base 16, the highest first -/
noncomputable def hexd (n : Nat) : Nat → List Nat
  | 0 => []
  | k + 1 => (n / 16 ^ k % 16) :: hexd n k
theorem hexd_len (n : Nat) : ∀ k, (hexd n k).length = k
  | 0 => rfl
  | k + 1 => by rw [hexd, List.length_cons, hexd_len n k]
theorem hexd_lt (n : Nat) : ∀ k, ∀ d ∈ hexd n k, d < 16
  | 0, _, h => nomatch h
  | k + 1, d, h => by
    rcases List.mem_cons.mp h with rfl | h
    · exact Nat.mod_lt _ (by decide)
    · exact hexd_lt n k d h
theorem hexd_snoc (n : Nat) : ∀ k, hexd n (k + 1) = hexd (n / 16) k ++ [n % 16]
  | 0 => by simp [hexd]
  | k + 1 => by
    rw [hexd, hexd_snoc n k, hexd, Nat.div_div_eq_div_mul, ← Nat.pow_succ']
    rfl
theorem apL_hexd : ∀ (k n : Nat), (k = 0 ∨ 16 ^ (k - 1) ≤ n) → n < 16 ^ k → apL n = (hexd n k).map fun d => UInt8.ofNat (65 + d)
  | 0, n, _, h => by
    have : n = 0 := by simpa using h
    subst this
    rw [apL_zero]; rfl
  | k + 1, n, h1, h2 => by
    have h1' : 16 ^ k ≤ n := by
      rcases h1 with h1 | h1
      · cases h1
      · exact h1
    have h0 : n ≠ 0 := by have := Nat.pow_pos (n := k) (by decide : 0 < 16); omega
    rw [apL_pos h0, hexd_snoc, List.map_append, apL_hexd k (n / 16) ?_ ?_]
    · rfl
    · rcases k with _ | k
      · exact .inl rfl
      · right
        rw [Nat.le_div_iff_mul_le (by decide)]
        rw [Nat.pow_succ] at h1'
        exact h1'
    · rw [Nat.div_lt_iff_lt_mul (by decide)]
      rw [Nat.pow_succ] at h2
      exact h2
theorem hexK_ok {n : Nat} (h0 : 0 < n) : 16 ^ (hexK n - 1) ≤ n ∧ n < 16 ^ hexK n := by
  have hb : Builtin.Int.intBits (n : Int) ≤ Builtin.Int.intBits (n : Int) := Nat.le_refl _
  have h2 : n < 2 ^ Builtin.Int.intBits (n : Int) := PySem.intBits_le_iff.mp hb
  have hpos : 0 < Builtin.Int.intBits (n : Int) := by
    rcases Nat.eq_zero_or_pos (Builtin.Int.intBits (n : Int)) with e | e
    · rw [e] at h2; simp only [Nat.pow_zero] at h2; omega
    · exact e
  have h3 : 2 ^ (Builtin.Int.intBits (n : Int) - 1) ≤ n := by
    refine Nat.not_lt.mp fun hl => ?_
    have := PySem.intBits_le_iff.mpr (show ((n : Nat) : Int).natAbs < 2 ^ (Builtin.Int.intBits (n : Int) - 1) from hl)
    omega
  unfold hexK
  generalize Builtin.Int.intBits (n : Int) = b at *
  have p16 : ∀ k, 16 ^ k = 2 ^ (4 * k) := fun k => by rw [Nat.pow_mul]
  refine ⟨Nat.le_trans ?_ h3, Nat.lt_of_lt_of_le h2 ?_⟩
  · rw [p16]; exact Nat.pow_le_pow_right (by decide) (by omega)
  · rw [p16]; exact Nat.pow_le_pow_right (by decide) (by omega)
theorem ap_hex {n : Nat} (h0 : 0 < n) : apL n = (hexd n (hexK n)).map fun d => UInt8.ofNat (65 + d) := apL_hexd _ _ (.inr (hexK_ok h0).1) (hexK_ok h0).2
theorem dval_hexd (n : Nat) : ∀ k, dval 4 ((hexd n k).map fun d : Nat => (d : Int)).reverse = ((n % 16 ^ k : Nat) : Int)
  | 0 => by rw [Nat.pow_zero, Nat.mod_one]; rfl
  | k + 1 => by
    rw [hexd, List.map_cons, List.reverse_cons, dval_append, dval_hexd n k, List.length_reverse, List.length_map, hexd_len, Nat.mod_pow_succ]
    have e : (2 : Int) ^ (k * 4) = ((16 ^ k : Nat) : Int) := by rw [Nat.mul_comm, Int.pow_mul]; norm_cast
    rw [e]
    show _ + (((n / 16 ^ k % 16 : Nat) : Int) + 0 * _) * _ = _
    rw [Int.zero_mul, Int.add_zero, Int.natCast_add, Int.natCast_mul, Int.mul_comm]
theorem dval_hex {n : Nat} (h0 : 0 < n) : dval 4 ((hexd n (hexK n)).map fun d : Nat => (d : Int)).reverse = (n : Int) := by
  rw [dval_hexd, Nat.mod_eq_of_lt (hexK_ok h0).2]
/-- a sign that the words take: one of table B.1, or a letter -/
noncomputable def GoodC (c : Nat) : Prop := c ≤ 1114111 ∧ ((c : Int) ∈ b1L ∨ ∃ al d, al ≤ 12 ∧ d < 16 ∧ c = 119808 + 52 * al + d ∧ (c : Int) ∉ b1L ∧ mapB3 c = ⟨#[97 + d]⟩)
noncomputable def wordsGo : List Nat → Int → List (List Nat) → List (List Nat)
  | [], _, ws => ws
  | c :: r, last, ws => if (c : Int) ∈ b1L then wordsGo r last ws else
    wordsGo r (((c - 119808) / 52 : Nat) : Int) (if (((c - 119808) / 52 : Nat) : Int) = last then ws.dropLast ++ [ws.getLastD [] ++ [97 + (c - 119808) % 52]] else ws ++ [[97 + (c - 119808) % 52]])
noncomputable def alOf (a : Nat) : Nat := (alphL.getD a 0).toNat
theorem sign_tab : ∀ a : Fin 10, ∀ d : Fin 16, ((119808 + 52 * alOf a + d.val : Nat) : Int) ∉ b1L ∧ mapB3 (119808 + 52 * alOf a + d.val) = ⟨#[97 + d.val]⟩ ∧ alOf a ≤ 12 := by decide +kernel
theorem unseen_tab : ∀ a : Fin 27, ((unseenL.getD a.val 0).toNat : Int) ∈ b1L := by decide +kernel
theorem al_inj : ∀ a b : Fin 10, alOf a = alOf b → a = b := by decide
theorem good_sign {a d : Nat} (ha : a < 10) (hd : d < 16) : GoodC (119808 + 52 * alOf a + d) := by
  obtain ⟨h1, h2, h3⟩ := sign_tab ⟨a, ha⟩ ⟨d, hd⟩
  have h4 : alOf a ≤ 12 := h3
  exact ⟨by omega, .inr ⟨alOf a, d, h3, hd, rfl, h1, h2⟩⟩
theorem good_unseen {x : Nat} (hx : 0 < x % 28) : GoodC (unseenL.getD (x % 28 - 1) 0).toNat :=
  have hl : x % 28 - 1 < 27 := by have := Nat.mod_lt x (by decide : 28 > 0); omega
  ⟨(unseen_nat ⟨_, hl⟩).2, .inl (unseen_tab ⟨_, hl⟩)⟩
theorem good_num {a : Nat} (ha : a < 10) (n : Nat) : ∀ k st, ∀ c ∈ (textNum (alOf a) n k st).1, GoodC c
  | 0, _, _, h => nomatch h
  | k + 1, st, c, h => by
    rcases List.mem_cons.mp h with rfl | h
    · exact good_sign ha (Nat.mod_lt _ (by decide))
    · rcases List.mem_append.mp h with h | h
      · split at h
        · rcases List.mem_singleton.mp h with rfl
          exact good_unseen (by assumption)
        · cases h
      · exact good_num ha n k _ c h
theorem good_row : ∀ (ns : List Nat) (at_ od st : Nat), ∀ c ∈ textRow at_ od st ns, GoodC c
  | [], _, _, _, _, h => nomatch h
  | n :: r, at_, od, st, c, h => by
    rcases List.mem_append.mp h with h | h
    · exact good_num (Nat.mod_lt _ (by decide)) n _ _ c h
    · exact good_row r _ _ _ c h
theorem num_len (al n : Nat) : ∀ k st, (textNum al n k st).1.length ≤ 2 * k
  | 0, _ => Nat.le_refl _
  | k + 1, st => by
    have := num_len al n k (st / 28)
    rw [textNum, List.length_cons, List.length_append]
    have h1 : (if 0 < st % 28 then [(unseenL.getD (st % 28 - 1) 0).toNat] else []).length ≤ 1 := by split <;> simp
    omega
theorem words_one {a d : Nat} (ha : a < 10) (hd : d < 16) (r : List Nat) (last : Int) (ws : List (List Nat)) :
    wordsGo ((119808 + 52 * alOf a + d) :: r) last ws = wordsGo r (alOf a : Nat) (if ((alOf a : Nat) : Int) = last then ws.dropLast ++ [ws.getLastD [] ++ [97 + d]] else ws ++ [[97 + d]]) := by
  obtain ⟨h1, _, _⟩ := sign_tab ⟨a, ha⟩ ⟨d, hd⟩
  have e1 : (119808 + 52 * alOf a + d - 119808) / 52 = alOf a := by omega
  have e2 : (119808 + 52 * alOf a + d - 119808) % 52 = d := by omega
  rw [wordsGo, if_neg h1, e1, e2]
theorem words_skip (st : Nat) (r : List Nat) (last : Int) (ws : List (List Nat)) : wordsGo ((if 0 < st % 28 then [(unseenL.getD (st % 28 - 1) 0).toNat] else []) ++ r) last ws = wordsGo r last ws := by
  split
  · rename_i hx
    have hl : st % 28 - 1 < 27 := by have := Nat.mod_lt st (by decide : 28 > 0); omega
    show wordsGo (_ :: r) last ws = _
    rw [wordsGo, if_pos (unseen_tab ⟨_, hl⟩)]
  · rfl
theorem words_num {a : Nat} (ha : a < 10) (n : Nat) : ∀ (k st : Nat) (w : List Nat) (ws : List (List Nat)) (rest : List Nat),
    wordsGo ((textNum (alOf a) n k st).1 ++ rest) (alOf a : Nat) (ws ++ [w]) = wordsGo rest (alOf a : Nat) (ws ++ [w ++ (hexd n k).map fun d => 97 + d])
  | 0, st, w, ws, rest => by rw [hexd, List.map_nil, List.append_nil]; rfl
  | k + 1, st, w, ws, rest => by
    rw [textNum, List.cons_append, words_one ha (Nat.mod_lt _ (by decide)), if_pos rfl, List.append_assoc, words_skip, List.dropLast_concat]
    have e : (ws ++ [w]).getLastD [] = w := by simp
    rw [e, words_num ha n k, hexd, List.map_cons, List.append_assoc]
    rfl
theorem words_new {a : Nat} (ha : a < 10) (n k st : Nat) (last : Int) (ws : List (List Nat)) (rest : List Nat) (hl : ((alOf a : Nat) : Int) ≠ last) :
    wordsGo ((textNum (alOf a) n (k + 1) st).1 ++ rest) last ws = wordsGo rest (alOf a : Nat) (ws ++ [(hexd n (k + 1)).map fun d => 97 + d]) := by
  rw [textNum, List.cons_append, words_one ha (Nat.mod_lt _ (by decide)), if_neg hl, List.append_assoc, words_skip, words_num ha n k, hexd, List.map_cons]
  rfl
/-- the word of a number -/
noncomputable def wordOf (n : Nat) : List Nat := (hexd n (hexK n)).map fun d => 97 + d
theorem words_row : ∀ (ns : List Nat) (at_ od st : Nat) (last : Int) (ws : List (List Nat)), at_ < 10 → (∀ b, b < 10 → b ≠ at_ → ((alOf b : Nat) : Int) ≠ last) →
    wordsGo (textRow at_ od st ns) last ws = ws ++ ns.map wordOf
  | [], _, _, _, _, ws, _, _ => by rw [textRow, wordsGo, List.map_nil, List.append_nil]
  | n :: r, at_, od, st, last, ws, hat, hl => by
    have h10 : (at_ + 1 + od % 9) % 10 < 10 := Nat.mod_lt _ (by decide)
    have hne : (at_ + 1 + od % 9) % 10 ≠ at_ := by omega
    rw [textRow]
    show wordsGo ((textNum (alOf ((at_ + 1 + od % 9) % 10)) n ((Builtin.Int.intBits (n : Int) - 1) / 4 + 1) st).1 ++ _) last ws = _
    rw [words_new h10 n _ st last ws _ (hl _ h10 hne), words_row r _ _ _ _ _ h10 ?_, List.append_assoc]
    · rfl
    · intro b hb hbn e
      exact hbn (congrArg Fin.val (al_inj ⟨b, hb⟩ ⟨_, h10⟩ (Int.ofNat.inj e)))
theorem words_of (ns : List Nat) (od st : Nat) : wordsGo (textRow 0 od st ns) (-1) [] = ns.map wordOf := by
  rw [words_row ns 0 od st (-1) [] (by decide) (fun b _ _ => by omega), List.nil_append]
theorem hexK_le {n B : Nat} (h : n < 2 ^ B) : hexK n ≤ (B - 1) / 4 + 1 := by
  have : Builtin.Int.intBits (n : Int) ≤ B := PySem.intBits_le_iff.mpr h
  unfold hexK
  omega
theorem row_len {B : Nat} : ∀ (ns : List Nat) (at_ od st : Nat), (∀ n ∈ ns, n < 2 ^ B) → (textRow at_ od st ns).length ≤ ns.length * (2 * ((B - 1) / 4 + 1))
  | [], _, _, _, _ => Nat.zero_le _
  | n :: r, at_, od, st, h => by
    rw [textRow, List.length_append, List.length_cons, Nat.succ_mul]
    have h1 := num_len (alphL.getD ((at_ + 1 + od % 9) % 10) 0).toNat n ((Builtin.Int.intBits (n : Int) - 1) / 4 + 1) st
    have h2 : (Builtin.Int.intBits (n : Int) - 1) / 4 + 1 ≤ (B - 1) / 4 + 1 := hexK_le (h n (.head _))
    have h3 := row_len r ((at_ + 1 + od % 9) % 10) (od / 9) (textNum (alphL.getD ((at_ + 1 + od % 9) % 10) 0).toNat n ((Builtin.Int.intBits (n : Int) - 1) / 4 + 1) st).2 fun x hx => h x (.tail _ hx)
    omega
theorem fdiv_abs {x n : Int} (hn : 1 ≤ n) : (x.fdiv n).natAbs ≤ x.natAbs := by
  rw [Int.fdiv_eq_ediv_of_nonneg _ (by omega)]
  have h1 := Int.emod_add_mul_ediv x n
  have h2 := Int.emod_nonneg x (by omega : n ≠ 0)
  have h3 := Int.emod_lt_of_pos x (by omega : 0 < n)
  generalize x / n = q at *
  generalize x % n = r at *
  rcases Int.lt_or_le q 0 with hq | hq
  · have : n * q ≤ 1 * q := by
      have := Int.mul_le_mul_of_nonpos_right hn (by omega : q ≤ 0)
      omega
    have h4 : n * (q + 1) ≤ 1 * (q + 1) := Int.mul_le_mul_of_nonpos_right hn (by omega : q + 1 ≤ 0)
    rw [Int.mul_add] at h4
    omega
  · have : 1 * q ≤ n * q := Int.mul_le_mul_of_nonneg_right hn hq
    omega
theorem partGo_abs {side : Int} (hs : side = 1 ∨ side = -1) : ∀ (ds : List Int) (whole worth : Int), (∀ d ∈ ds, 1 ≤ d) → (partGo side whole worth ds).natAbs ≤ worth.natAbs + ds.length * whole.natAbs
  | [], whole, worth, _ => by simp [partGo]
  | d :: r, whole, worth, h => by
    have h1 := fdiv_abs (x := whole) (h d (.head _))
    have h2 := partGo_abs hs r (-side * whole.fdiv d) (worth + whole.fdiv d) fun x hx => h x (.tail _ hx)
    have h3 : (-side * whole.fdiv d).natAbs = (whole.fdiv d).natAbs := by rcases hs with rfl | rfl <;> omega
    have h4 : r.length * (whole.fdiv d).natAbs ≤ r.length * whole.natAbs := Nat.mul_le_mul_left _ h1
    rw [h3] at h2
    rw [partGo, List.length_cons, Nat.succ_mul]
    omega
theorem partV_abs {side : Int} (hs : side = 1 ∨ side = -1) {ds : List Int} {whole : Int} (h : ∀ d ∈ ds, 1 ≤ d) : (partV side whole ds).natAbs ≤ ds.length * whole.natAbs := by
  have := partGo_abs hs ds whole 0 h
  rw [partV]
  omega
theorem Rise.drop {side : Int} : ∀ {rs : List Int} (k : Nat), Rise side rs → Rise side (rs.drop k)
  | _, 0, h => h
  | [], _ + 1, _ => trivial
  | _ :: _, k + 1, h => Rise.drop k h.tail
theorem prodL_append : ∀ (a b : List Int), prodL (a ++ b) = prodL a * prodL b
  | [], b => by simp [prodL]
  | x :: a, b => by rw [List.cons_append, prodL, prodL, prodL_append a b, Int.mul_assoc]
theorem prodL_abs {B : Nat} : ∀ (rs : List Int), (∀ r ∈ rs, r.natAbs ≤ B) → (prodL rs).natAbs ≤ B ^ rs.length
  | [], _ => by simp [prodL]
  | r :: rs, h => by
    rw [prodL, Int.natAbs_mul, List.length_cons, Nat.pow_succ, Nat.mul_comm]
    exact Nat.mul_le_mul (prodL_abs rs fun x hx => h x (.tail _ hx)) (h r (.head _))
/-- the law's division at the place k of the row -/
theorem law_div_at {side : Int} (hs : side = 1 ∨ side = -1) {W c : Int} (hc : c ≠ 0) {row : List Int} (h : Rise side row) (hW : W = c * prodL row) {k : Nat} (hk : k < row.length) :
    (side * W).fdiv (partV side W (row.drop k)) = side * row.getD k 0 ∧ (side * W).fmod (partV side W (row.drop k)) = partV side W (row.drop (k + 1)) ∧ partV side W (row.drop k) ≠ 0 := by
  have e : row.drop k = row.getD k 0 :: row.drop (k + 1) := by
    rw [List.drop_eq_getElem_cons hk]
    congr 1
    simp [hk]
  have hr := h.drop k
  rw [e] at hr ⊢
  refine law_div hs hc (pre := row.take k) hr (fun x hx => h.pos x (List.mem_of_mem_take hx)) ?_
  rw [hW, ← prodL_append, ← e, List.take_append_drop]
section
variable {prog : Program} {w : World} {A : Around} {E : Value → Shared → Prop} {s : Shared} {h₀ : Heap} {L D : Addr} {m : Str → Option Value} {news news' : List (Addr × Obj)} {us : List Value} {n : Nat} {x v : Value} {t : Tok}
theorem setAt_last {l : Addr} {items : List Value} {Q : Unit → Shared → Prop} (ho : s.heap.get? l = some (listOf (items ++ [x]).toArray n))
    (hQ : Q () { s with heap := s.heap.update l (Obj.mapSeq (·.setIfInBounds items.length v)) }) : wpAny (model prog w) A (setItem (.ref l) (.int (-1) t) v) Q E s := by
  have hl : s.heap.IsList l (items ++ [x]).toArray := PySem.IsL.isList (n := n) ho
  unfold setItem
  try with_reducible refine wpAny_holding ?_
  first | refine wpAny_bind (wpAny_pure ?_) | skip
  refine wpAny_bind (wpAny_sequenceKey hl.typeIs (by decide) ?_)
  refine wpAny_bind (wpAny_callSpecial?_slot (name := Str.ofString "__setitem__") hl.typeIs slot_list_setitem
    (wpAny_call_entry slot_list_setitem hl.typeIs entry_list_setitem ?_ (args_list_setitem _ _ _)))
  show wpAny _ _ (Builtin.List.listSubscript? (.int (-1) t) >>= _) _ _ s
  refine wpAny_bind (wpAny_listSubscript_int (fitsIndex_neg (by decide) (by decide)) ?_)
  have hidx : seqIndex? (-1) (items ++ [x]).toArray.size = some items.length := by
    rw [seqIndex_neg (by decide) (by simp; omega)]
    congr 1
    simp
    omega
  show wpAny _ _ ((Builtin.List.listItems (.ref l) >>= fun xs => pure ((seqIndex? (Int.negSucc 0) xs.size).bind fun i => xs[i]?.map (i, ·))) >>= _) _ _ s
  refine wpAny_bind (wpAny_bind ?_)
  show wpAny _ _ (seqItems? (.ref l) >>= _) _ _ s
  obtain ⟨o, ho', hc, ne, hd⟩ := id hl
  refine wpAny_bind (wpAny_seqItems ho' hd (wpAny_pure (wpAny_pure ?_)))
  rw [show Int.negSucc 0 = -1 from rfl, hidx]
  have hx : (items ++ [x]).toArray[items.length]? = some x := by simp
  simp only [Option.bind_some, hx, Option.map_some]
  show wpAny _ _ (setSeqItemAt l items.length v >>= _) _ _ s
  refine wpAny_bind (wpAny_setSeqItemAt ho' hd ?_)
  first
    | exact wpAny_bind (wpAny_pure (wpAny_pure ⟨.none, rfl, wpAny_pure hQ⟩))
    | exact wpAny_pure ⟨.none, rfl, wpAny_pure hQ⟩
theorem set_last {Q : Unit → Shared → Prop} (F : Fr h₀ L s.heap m) (N : News h₀ L s.heap news) (U : Upd D (listOf (us ++ [x]).toArray n) (listOf (us ++ [v]).toArray n) news news')
    (h : ∀ h', Fr h₀ L h' m → News h₀ L h' news' → Q () { s with heap := h' }) : wpAny (model prog w) A (setItem (.ref D) (.int (-1) t) v) Q E s := by
  obtain ⟨pre, post, rfl, rfl, a, b⟩ := U.split
  have z := N (D, listOf (us ++ [x]).toArray n) (List.mem_append.mpr (.inr (.head _)))
  refine setAt_last z.1 (h _ (F.change (Heap.SameBut.update ..) z.2.1 z.2.2) (ki_turn _ N a b ?_ ?_))
  · apply Array.toList_inj.mp
    simp
  · simp
theorem get_last {value slice : PySem.Expr} {Q : Value → Shared → Prop} (N : News h₀ L s.heap news) (hm : (D, listOf (us ++ [v]).toArray n) ∈ news) (h : Q v s)
    (hs : subscripted slice false (.ref D) (.int (-1) t) = operate [.ref D, .int (-1) t] (getItem (.ref D) (.int (-1) t)) := by with_unfolding_all rfl) :
    wpAny (model prog w) A (subscriptTail value slice (.ref D) (.int (-1) t)) Q E s := by
  have hl : s.heap.IsList D (us ++ [v]).toArray := PySem.IsL.isList (n := n) (N _ hm).1
  refine tail_any hl.typeIs slot_list_getitem.lookup (wpAny_getItem_list_neg hl (by decide) (by simp; omega) (by decide) ?_ h) hs
  have e : ((-1 : Int) + ((us ++ [v]).toArray.size : Int)).toNat = us.length := by simp; omega
  rw [e]; simp
end
section
variable {prog : Program} {w : World} {A : Around} {E : Value → Shared → Prop} {s : Shared} {h₀ : Heap} {L : Addr} {m : Str → Option Value} {env : Env}
theorem compEnd_mono {I C D : Addr} {s₁ : Shared} {oI oC oD : Obj} {S : List (Addr × Obj) → Prop} {r r' : Value → List (Addr × Obj) → Prop} {y : Value} {s₂ : Shared} (k : ∀ n, r y n → r' y n) (h : LCg.CompEnd h₀ L m s₁ I oI C oC D oD S r y s₂) : LCg.CompEnd h₀ L m s₁ I oI C oC D oD S r' y s₂ :=
  let ⟨h', tk, n, e, F, N, o, hS, hr⟩ := h
  ⟨h', tk, n, e, F, N, o, hS, k _ hr⟩
/-- the turns of a comprehension, by what holds at the head of each -/
theorem compRest_ind {elt : PySem.Expr} {x : Str} {scope : Scope} {cl : List (Str × Addr)} {S : List (Addr × Obj) → Prop} {P : Nat → Value → Prop} {Fin : List Value → List (Addr × Obj) → Prop} {Inv : Nat → Nat → List Value → List (Addr × Obj) → Prop}
    (hend : ∀ i ys news, Inv 0 i ys news → Fin ys news)
    (hstep : ∀ k i ys news, Inv (k + 1) i ys news → ∀ v I oI C oC D m₂ h tk (E' : Value → Shared → Prop), P i v → LCg.NsObj oC m₂ → m₂ x = some v → Fr h₀ L h m → News h₀ L h ((I, oI) :: (C, oC) :: (D, LCg.lst ys) :: news) → LCg.Off3 I C D news → ((@Ne Nat I C) ∧ (@Ne Nat I D) ∧ (@Ne Nat C D)) →
      wpAny (model prog w) A (eval elt (compEnvC scope cl C env)) (LCg.CompEnd h₀ L m { s with heap := h, toks := tk } I oI C oC D (LCg.lst ys) S (fun y news' => Inv k (i + 1) (ys ++ [y]) news')) E' { s with heap := h, toks := tk }) :
    ∀ k i ys news, Inv k i ys news → LCg.CompRest prog w A h₀ L m env elt x scope cl s S P Fin k i ys news
  | 0, i, ys, news, hi => LCg.CompRest.zero (hend i ys news hi)
  | k + 1, i, ys, news, hi => LCg.CompRest.succ fun v I oI C oC D m₂ h tk E' hv hC hx F N off ne =>
      wpAny_mono (hstep k i ys news hi v I oI C oC D m₂ h tk E' hv hC hx F N off ne) (fun y s₂ hq => compEnd_mono (fun n hr => compRest_ind hend hstep k (i + 1) (ys ++ [y]) n hr) hq) fun _ _ e => e
theorem wide_st {I : Addr} {T : String} {y : Str} {t : Tok} : ∀ i (h h' : Heap) (o : Obj) (nw : List (Addr × Obj)), h.IsStrIter I T y t i → h.get? I = some o → h'.get? I = some o → (∀ b o, h₀.get? b = some o → h'.get? b = some o) → News h₀ L h' nw → True → h'.IsStrIter I T y t i :=
  fun i h h' o nw st e e' _ _ _ => by obtain ⟨o', q, r⟩ := st; rw [e] at q; cases q; exact ⟨o, e', r⟩
/-- the source of a comprehension over the signs of a text -/
noncomputable def StrSrc (prog : Program) (w : World) (A : Around) (h₀ : Heap) (L : Addr) (m : Str → Option Value) (env : Env) (elt : PySem.Expr) (x : Str) (scope : Scope) (cl : List (Str × Addr)) (Q : Value → Shared → Prop) (xv : Value) (s₁ : Shared) : Prop :=
  ∃ y t news, xv = .str y t ∧ A.handled = none ∧ Fr h₀ L s₁.heap m ∧ News h₀ L s₁.heap news ∧ y.cps.size ≤ sizeLine ∧
      ∀ g : Heap, LCg.CompRest prog w A h₀ L m env elt x scope cl { s₁ with heap := g } (fun _ => True) (SignAt y) (LCg.FinE h₀ L m { s₁ with heap := g } Q) y.cps.size 0 [] news
theorem StrSrc.intro {elt : PySem.Expr} {x : Str} {scope : Scope} {cl : List (Str × Addr)} {Q : Value → Shared → Prop} {s₁ : Shared} {y : Str} {t : Tok} {news : List (Addr × Obj)} (hh : A.handled = none) (F : Fr h₀ L s₁.heap m) (N : News h₀ L s₁.heap news) (hsz : y.cps.size ≤ 100000)
    (h : ∀ g : Heap, LCg.CompRest prog w A h₀ L m env elt x scope cl { s₁ with heap := g } (fun _ => True) (SignAt y) (LCg.FinE h₀ L m { s₁ with heap := g } Q) y.cps.size 0 [] news) : StrSrc prog w A h₀ L m env elt x scope cl Q (.str y t) s₁ :=
  ⟨y, t, news, rfl, hh, F, N, Nat.le_trans hsz (by rw [sizeLine_eq]; decide), h⟩
/-- a comprehension over the signs of a text -/
theorem ListComp_S {elt iter : PySem.Expr} {x : Str} {px : Pos} {scope : Scope} {cl : List (Str × Addr)} {pos : Pos} {Q : Value → Shared → Prop} (F₀ : Fr h₀ L s.heap m)
    (hclos : closureFor scope env = pure cl) (hcell : ∀ y ∈ scope.names, y.2 ≠ .cell) (hkind : scope.kind = .function)
    (hnames : ∀ y ∈ scope.names, y.2 = .local → scope.names.lookup y.1 = some .local) (hx : scope.names.lookup x = some .local)
    (h : wpAny (model prog w) A (eval iter env) (StrSrc prog w A h₀ L m env elt x scope cl Q) E s)
    (hs : ∀ x, foldedSetIterable iter env x = pure x := by intro _; rfl) :
    wpAny (model prog w) A (eval (.ListComp elt [⟨.Name x px, iter, [], 0⟩] scope pos) env) Q E s := by
  rw [eval_ListComp]
  refine wpAny_comprehension_free (use := none) rfl hs hclos hkind hnames (wpAny_mono h (fun xv s₁ h₁ => ?_) fun _ _ e => e)
  obtain ⟨y, t, news, rfl, hh, F, N, hsz, R⟩ := h₁
  cases ha : y.cps.all (· < 128)
  · refine wpAny_pyIter_wide ha ?_
    refine LCg.block_U (Walks.strWide hh s₁.heap.objs.size y t) hsz (fun i h st => let ⟨o, e, _⟩ := st; ⟨o, e⟩) wide_st hcell hkind hx ⟨_, Heap.get?_push_size _ rfl, rfl, rfl⟩ (fun b hb => ?_)
      (F.keeps fun _ _ e => Heap.get?_push_of_some _ e) (N.grown fun _ _ e => Heap.get?_push_of_some _ e) (Nat.ne_of_lt F.ns.lt) (next_is_new F) (fun p hp => Nat.ne_of_lt (Heap.lt_size (N p hp).1)) trivial (R _) ?_
    · rw [List.mem_singleton.mp hb]
      show s₁.heap.objs.size < (s₁.heap.push _).objs.size
      rw [Heap.size_push]; exact Nat.lt_succ_self _
    · intro D C h tk m' ys news' F' N' o1 hn hC₀ hD₀ hCL hDL hCD offC fin
      refine ⟨m', hn, fun h'' hs'' => fin D h'' tk (F'.change hs'' hCL hC₀) (fun p hp => ?_) o1⟩
      refine ⟨hs''.extBut _ _ ?_ (N' p hp).1, (N' p hp).2⟩
      rcases List.mem_cons.mp hp with rfl | hp
      · exact Ne.symm hCD
      · exact offC p hp
  · refine wpAny_pyIter_ascii ha ?_
    refine LCg.block_U (Walks.strAscii hh s₁.heap.objs.size y t) hsz (fun i h st => let ⟨o, e, _⟩ := st; ⟨o, e⟩) wide_st hcell hkind hx ⟨_, Heap.get?_push_size _ rfl, rfl, rfl⟩ (fun b hb => ?_)
      (F.keeps fun _ _ e => Heap.get?_push_of_some _ e) (N.grown fun _ _ e => Heap.get?_push_of_some _ e) (Nat.ne_of_lt F.ns.lt) (next_is_new F) (fun p hp => Nat.ne_of_lt (Heap.lt_size (N p hp).1)) trivial (R _) ?_
    · rw [List.mem_singleton.mp hb]
      show s₁.heap.objs.size < (s₁.heap.push _).objs.size
      rw [Heap.size_push]; exact Nat.lt_succ_self _
    · intro D C h tk m' ys news' F' N' o1 hn hC₀ hD₀ hCL hDL hCD offC fin
      refine ⟨m', hn, fun h'' hs'' => fin D h'' tk (F'.change hs'' hCL hC₀) (fun p hp => ?_) o1⟩
      refine ⟨hs''.extBut _ _ ?_ (N' p hp).1, (N' p hp).2⟩
      rcases List.mem_cons.mp hp with rfl | hp
      · exact Ne.symm hCD
      · exact offC p hp
theorem unrPostW_mono {its : List (Addr × Obj)} {s₁ : Shared} {r r' : (Str → Option Value) → List (Addr × Obj) → Prop} {Q : Flow → Shared → Prop} {f : Flow} {s₂ : Shared} (k : ∀ m n, r m n → r' m n) (h : UnrPostW h₀ L s₁ its r Q f s₂) : UnrPostW h₀ L s₁ its r' Q f s₂ := by
  have end' : UnrEndW h₀ L s₁ its r s₂ → UnrEndW h₀ L s₁ its r' s₂ := fun ⟨h', tk, m', news', e, F, N, off, hr⟩ => ⟨h', tk, m', news', e, F, N, off, k _ _ hr⟩
  cases f with
  | ret v => exact h
  | brk => exact h
  | next => exact end' h
  | cont => exact end' h
/-- the turns over a tuple, by what holds at the head of each -/
theorem tup_ind {I : Addr} {tp : Addr × Obj} {target : PySem.Expr} {body : List Stmt} {Q : Flow → Shared → Prop} {Inv : List Value → (Str → Option Value) → List (Addr × Obj) → Prop}
    (hend : ∀ m news, Inv [] m news → ∀ h tk, Fr h₀ env.locals h m → News h₀ env.locals h news → Q .next { s with heap := h, toks := tk })
    (hstep : ∀ v r m news, Inv (v :: r) m news → ∀ (it : Obj) h tk, it.cls = .type "tuple_iterator" → Fr h₀ env.locals h m → News h₀ env.locals h ((I, it) :: news) →
      wpAny (model prog w) A (assign target env v) (fun _ s₂ => wpAny (model prog w) A (execs body env) (UnrPostW h₀ env.locals { s with heap := h, toks := tk } [(I, it)] (fun m' n' => tp ∈ n' ∧ Inv r m' n') Q) E s₂) E { s with heap := h, toks := tk }) :
    ∀ vs m news, Inv vs m news → ItemsRest prog w A E h₀ env target body Q s [(I, "tuple_iterator")] [tp] (vs.map .val) m news
  | [], m, news, hi => ItemsRest.zero (hend m news hi)
  | v :: r, m, news, hi => ItemsRest.val fun h tk F => AllObj.cons fun o ho => AllObj.nil fun N =>
      wpAny_mono (hstep v r m news hi o h tk ho F N) (fun _ s₂ hp => wpAny_mono hp (fun f s₃ hq => unrPostW_mono (fun m' n' hr => ⟨⟨hr.1, trivial⟩, tup_ind hend hstep r m' n' hr.2⟩) hq) fun _ _ e => e) fun _ _ e => e
end
theorem size_ok {vs : List Value} (hz : vs.length ≤ 100000) : vs.toArray.size ≤ sizeLine := by
  rw [List.size_toArray]
  exact Nat.le_trans hz (by rw [sizeLine_eq]; decide)
section
variable {prog : Program} {w : World} {A : Around} {E : Value → Shared → Prop} {s : Shared} {h₀ : Heap} {L l : Addr} {m : Str → Option Value} {news : List (Addr × Obj)} {value slice : PySem.Expr} {vs : List Value} {ns : List Int} {n : Nat} {Q : Value → Shared → Prop}
theorem slice_from {k : Nat} {t : Tok} (F : Fr h₀ L s.heap m) (N : News h₀ L s.heap news) (hl : (l, listOf vs.toArray n) ∈ news) (hi' : IntsAre vs ns) (hz : vs.length ≤ 100000)
    (h : ∀ D ws h', Fr h₀ L h' m → News h₀ L h' ((D, listOf ws.toArray 0) :: news) → (∀ p ∈ news, p.1 < D) → IntsAre ws (ns.drop k) → Q (.ref D) { s with heap := h' })
    (hs : subscripted slice false (.ref l) (.ref s.heap.objs.size) = operate [.ref s.heap.objs.size, .ref l] (getItem (.ref l) (.ref s.heap.objs.size))) (ht : ∀ r, letTemporaryGo value (.ref l) r = pure ()) :
    wpAny (model prog w) A (subscriptTail value slice (.ref l) (.ref s.heap.objs.size)) Q E { s with heap := s.heap.push { cls := .type "slice", data := .fields #[.int (k : Int) t, .none, .none] } } :=
  kmk_slice_ints (c := (ns.drop k).length) F N (PySem.IsL.isList (n := n) (N _ hl).1) (.int _ _) .none hi' (kmk_from hi' (by omega : (0 : Int) ≤ (k : Int))) (by rw [Int.toNat_natCast]) (fun D ws h' F' N' l1 hw _ _ => h D ws h' F' N' l1 (by rw [Int.toNat_natCast] at hw; exact hw)) hs ht (size_ok hz)
theorem slice_upto {k : Nat} {t : Tok} (F : Fr h₀ L s.heap m) (N : News h₀ L s.heap news) (hl : (l, listOf vs.toArray n) ∈ news) (hi' : IntsAre vs ns) (hz : vs.length ≤ 100000)
    (h : ∀ D ws h', Fr h₀ L h' m → News h₀ L h' ((D, listOf ws.toArray 0) :: news) → (∀ p ∈ news, p.1 < D) → IntsAre ws (ns.take k) → Q (.ref D) { s with heap := h' })
    (hs : subscripted slice false (.ref l) (.ref s.heap.objs.size) = operate [.ref s.heap.objs.size, .ref l] (getItem (.ref l) (.ref s.heap.objs.size))) (ht : ∀ r, letTemporaryGo value (.ref l) r = pure ()) :
    wpAny (model prog w) A (subscriptTail value slice (.ref l) (.ref s.heap.objs.size)) Q E { s with heap := s.heap.push { cls := .type "slice", data := .fields #[.none, .int (k : Int) t, .none] } } :=
  kmk_slice_ints (c := (ns.take k).length) F N (PySem.IsL.isList (n := n) (N _ hl).1) .none (.int _ _) hi' (kmk_upto hi' (by omega : (0 : Int) ≤ (k : Int))) (by rw [Int.toNat_natCast]) (fun D ws h' F' N' l1 hw _ _ => h D ws h' F' N' l1 (by rw [Int.toNat_natCast] at hw; exact hw)) hs ht (size_ok hz)
theorem slice_run {a b : Nat} {t u : Tok} (hb : b ≤ ns.length) (F : Fr h₀ L s.heap m) (N : News h₀ L s.heap news) (hl : (l, listOf vs.toArray n) ∈ news) (hi' : IntsAre vs ns) (hz : vs.length ≤ 100000)
    (h : ∀ D ws h', Fr h₀ L h' m → News h₀ L h' ((D, listOf ws.toArray 0) :: news) → (∀ p ∈ news, p.1 < D) → IntsAre ws ((ns.drop a).take (b - a)) → Q (.ref D) { s with heap := h' })
    (hs : subscripted slice false (.ref l) (.ref s.heap.objs.size) = operate [.ref s.heap.objs.size, .ref l] (getItem (.ref l) (.ref s.heap.objs.size))) (ht : ∀ r, letTemporaryGo value (.ref l) r = pure ()) :
    wpAny (model prog w) A (subscriptTail value slice (.ref l) (.ref s.heap.objs.size)) Q E { s with heap := s.heap.push { cls := .type "slice", data := .fields #[.int (a : Int) t, .int (b : Int) u, .none] } } := by
  have e := kmk_run hi' (by omega : (0 : Int) ≤ (a : Int)) (by omega : (0 : Int) ≤ (b : Int))
  rw [Int.toNat_natCast, Int.toNat_natCast, Nat.min_eq_left hb] at e
  exact kmk_slice_ints (c := ((ns.drop a).take (b - a)).length) F N (PySem.IsL.isList (n := n) (N _ hl).1) (.int _ _) (.int _ _) hi' e rfl (fun D ws h' F' N' l1 hw _ _ => h D ws h' F' N' l1 hw) hs ht (size_ok hz)
theorem assign_K {env : Env} {x : Str} {px : Pos} {v : Value} {Q : Unit → Shared → Prop} (F : Fr h₀ env.locals s.heap m) (N : News h₀ env.locals s.heap news) (hy : env.kindOf x = some .local) (hp : (env.scope.kind == .class || (env.scope.kind == .module && env.locals != env.globals)) = false)
    (h : ∀ h', Fr h₀ env.locals h' (fun z => if z = x then some v else m z) → News h₀ env.locals h' news → Q () { s with heap := h', toks := s.toks + 1 }) : wpAny (model prog w) A (assign (.Name x px) env v) Q E s := by
  refine wpAny_assign_Name (wpAny_storeName_local hy F.ns (fun h₂ hn₂ hs₂ => ?_) hp)
  have hL₀ : h₀.get? env.locals = none := Heap.get?_none_of_le F.above
  exact h h₂ ⟨hn₂, fun b o e => hs₂.extBut b o (fun q => by rw [q, hL₀] at e; cases e) (F.keep b o e), F.above⟩ fun p hp => ⟨hs₂.extBut _ _ (N p hp).2.1 (N p hp).1, (N p hp).2⟩
theorem off1_mem {D : Addr} : ∀ {l : List (Addr × Obj)}, LCg.Off1 D l → ∀ p ∈ l, p.1 ≠ D
  | [], _, _, h => nomatch h
  | _ :: _, x, p, h => by
    rcases List.mem_cons.mp h with rfl | h
    · exact x.1
    · exact off1_mem x.2 p h
end
theorem prime14 : rw_ul0020_02.prog = rw_ul0020_02.prog ∧ KL = KL := by k_fill; exact ⟨rfl, rfl⟩
local macro_rules | `(tactic| walk_at "exec For Name Name cons nil") => `(tactic| (k_here; (rename Fr _ _ _ _ => lF'); (with_unfolding_all refine' For_invVF lF' ?k1 ?k2 ?_; (case k1 => exact rfl); (case k2 => exact rfl); k_whole)))
local macro_rules | `(tactic| walk_at "exec For Name Call cons nil") => `(tactic| (k_here; (rename Fr _ _ _ _ => lF'); (with_unfolding_all refine' For_invVF lF' ?k1 ?k2 ?_; (case k1 => exact rfl); (case k2 => exact rfl); k_whole)))
local macro_rules | `(tactic| walk_at "exec For Name Tuple cons nil") => `(tactic| (k_here; (rename Fr _ _ _ _ => lF'); (with_unfolding_all refine' For_invVF lF' ?k1 ?k2 ?_; (case k1 => exact rfl); (case k2 => exact rfl); k_whole)))
local macro_rules | `(tactic| walk_at "pyIter ref") => `(tactic| refine HoldK.out ?_)
theorem floordiv_to {prog : Program} {w : World} {A : Around} {E : Value → Shared → Prop} {s : Shared} {a b : Int} {t u : Tok} {Q : Value → Shared → Prop} (hb : b ≠ 0) (hB : b.natAbs < 2 ^ 4000) (h : Q (.int (a.fdiv b) s.toks) { s with toks := s.toks + 1 }) :
    wpAny (model prog w) A (binaryOp .FloorDiv (.int a t) (.int b u)) Q E s := floordiv_int hb h (Or.inl (PyProof.noPylong_of_log2 (log2_of hB (Nat.le_refl _))))
local macro_rules | `(tactic| walk_at "binaryOp FloorDiv int int") => `(tactic| (refine floordiv_to (by first | decide | assumption | omega) (by first | decide | assumption | omega) ?_))
section
variable {w : World} {mean : ExcName → Option Value} {mg mb : Str → Option Value}
noncomputable def InvRow (side : Int) (t : Tok) (l q : Addr) (ds : List Int) (n0 : List (Addr × Obj)) (k i : Nat) (m : Str → Option Value) (news : List (Addr × Obj)) : Prop :=
  ∃ (rs : List Value) (rv : List Int) (kr : Nat) (last : Int) (tl : Tok), i + k = ds.length ∧ news = (q, listOf rs.toArray kr) :: n0 ∧ IntsAre rs rv ∧ rv.length = i ∧ m (S "last") = some (.int last tl) ∧ m (S "row") = some (.ref q) ∧ m (S "steps") = some (.ref l) ∧ m (S "side") = some (.int side t) ∧
    rowV side ds = rv ++ rowGo side ds.length i last (ds.drop i)
theorem invRow_step {side : Int} {t tl tt : Tok} {l q : Addr} {ds : List Int} {n0 : List (Addr × Obj)} {k i : Nat} {m : Str → Option Value} {rs : List Value} {rv : List Int} {kr : Nat} {last last' : Int} (hik : i + (k + 1) = ds.length) (hrs : IntsAre rs rv) (hrl : rv.length = i)
    (hrow : rowV side ds = rv ++ rowGo side ds.length i last (ds.drop i)) (e : last' = last + ds.getD i 0 + bump side ds.length i) (ml : m (S "last") = some (.int last' tl)) (mr : m (S "row") = some (.ref q)) (ms : m (S "steps") = some (.ref l)) (mi : m (S "side") = some (.int side t)) :
    InvRow side t l q ds n0 k (i + 1) m ((q, listOf (rs ++ [Value.int last' tt]).toArray (kr + 1)) :: n0) := by
  refine ⟨_, rv ++ [last'], _, last', tl, by omega, rfl, hrs.append (.cons _ _ .nil), by rw [List.length_append, hrl]; rfl, ml, mr, ms, mi, ?_⟩
  have hlt : i < ds.length := by omega
  have hg : ds.getD i 0 = ds[i] := by simp [hlt]
  rw [hrow, List.drop_eq_getElem_cons hlt, rowGo, ← hg, ← e, List.append_assoc]
  rfl
set_option maxRecDepth 100000 in
set_option maxHeartbeats 8000000 in
theorem spec_row (l : Addr) (us : List Value) (ds : List Int) (hi : IntsAre us ds) (n0 : Nat) (side : Int) (t : Tok) {news : List (Addr × Obj)} (hl : (l, listOf us.toArray n0) ∈ news) (hlen : ds.length ≤ 100) :
    Spec w mean mg mb (.ref 141) [.ref l, .int side t] 3 30 news (fun r n => ∃ q rs k, r = .ref q ∧ n = (q, listOf rs.toArray k) :: news ∧ IntsAre rs (rowV side ds) ∧ (∀ p ∈ news, p.1 ≠ q)) := by
  refine spec_def (nm := nL17) (ar := aL17) (bd := bL17) (sc := sL17) (c := 140) (binds := [(S "steps", .ref l), (S "side", .int side t)]) rfl rfl rfl rfl ?_ rfl rfl rfl rfl (by decide) (by decide)
  intro dp un gd outer A₀ base g L' h₁ s B F N G lt hd hu
  obtain ⟨X, T0, C⟩ := G
  dsimp only [bL17, sL17, S] at *
  k_steps
  unfold HoldK
  rename_i q h2 l1 h3 h4 _ _ h5 tk5 t5 u5 v5 hR F5 N5 _
  have nq : ∀ p ∈ news, p.1 ≠ q := fun p hp => Nat.ne_of_lt (l1 p hp)
  refine iter_rangeUnr rfl hR (small_one (by decide) (by decide) (by omega) (by omega)) (rangeSize_nat _ _) F5 N5 fun I hI => rangeRest_ind (Inv := InvRow side t l q ds news) ?_ ?_ _ _ _ _ ⟨[], [], _, 1, _, by omega, rfl, .nil, rfl, rfl, rfl, rfl, rfl, rfl⟩
  · rintro i m n' ⟨rs, rv, kr, last, tl, hik, rfl, hrs, hrl, ml, mr, ms, mi, hrow⟩ h tk F N
    k_steps
    (show Ret _ _ _ _ _ _; first | refine Ret.intro (by k_asm) (by k_asm) ?_ | refine Ret.fall (by k_asm) (by k_asm) ?_)
    refine ⟨q, rs, kr, rfl, rfl, ?_, nq⟩
    rw [hrow, List.drop_eq_nil_of_le (by omega), rowGo, List.append_nil]
    exact hrs
  · rintro k i m n' ⟨rs, rv, kr, last, tl, hik, rfl, hrs, hrl, ml, mr, ms, mi, hrow⟩ t' h tk F N
    have nI : ∀ p ∈ (q, listOf rs.toArray kr) :: news, p.1 ≠ I := fun p hp => by
      rcases List.mem_cons.mp hp with rfl | hp
      · exact Nat.ne_of_lt (hI (q, listOf #[] 0) (.head _))
      · exact Nat.ne_of_lt (hI p (.tail _ hp))
    have hrl' : rs.length < 100000 := by rw [hrs.length]; omega
    have hqI : I ≠ q := (nI _ (.head _)).symm
    have hz : (0 : Int) + (i : Nat) = ((i : Nat) : Int) := by omega
    rw [hz] at F
    k_steps
    all_goals (
      rename Fr _ _ _ _ => F6
      rename News _ _ _ _ => N6
      refine UnrEnd.intro F6 N6 ((q, _) :: news) (fun p hp => hp) (List.forall_mem_cons.mpr ⟨hqI.symm, fun p hp => nI p (.tail _ hp)⟩) ?_
      refine invRow_step hik hrs hrl hrow ?_ rfl mr ms mi
      rw [Int.toNat_natCast, bump]
      split <;> (try split) <;> omega)
end
theorem prime15 : rw_ul0020_02.prog = rw_ul0020_02.prog ∧ KL = KL := by k_fill; exact ⟨rfl, rfl⟩
section
variable {w : World} {mean : ExcName → Option Value} {mg mb : Str → Option Value}
noncomputable def InvPart (side : Int) (ts : Tok) (V : Int) (n0 : List (Addr × Obj)) (vs : List Value) (m : Str → Option Value) (news : List (Addr × Obj)) : Prop :=
  ∃ (ds : List Int) (whole worth : Int) (t1 t2 : Tok), news = n0 ∧ IntsAre vs ds ∧ (∀ d ∈ ds, d ≠ 0 ∧ d.natAbs < 2 ^ 4000) ∧ m (S "whole") = some (.int whole t1) ∧ m (S "worth") = some (.int worth t2) ∧ m (S "side") = some (.int side ts) ∧ V = partGo side whole worth ds
set_option maxRecDepth 100000 in
set_option maxHeartbeats 8000000 in
theorem spec_part (l : Addr) (us : List Value) (ds : List Int) (hi : IntsAre us ds) (n0 : Nat) (whole side : Int) (t1 t2 : Tok) {news : List (Addr × Obj)} (hl : (l, listOf us.toArray n0) ∈ news) (h0 : ∀ d ∈ ds, d ≠ 0 ∧ d.natAbs < 2 ^ 4000) (hs : side = 1 ∨ side = -1) :
    Spec w mean mg mb (.ref 148) [.ref l, .int whole t1, .int side t2] 3 30 news (fun r n => (∃ t, r = .int (partV side whole ds) t) ∧ n = news) := by
  refine spec_def (nm := nL18) (ar := aL18) (bd := bL18) (sc := sL18) (c := 147) (binds := [(S "row", .ref l), (S "whole", .int whole t1), (S "side", .int side t2)]) rfl rfl rfl rfl ?_ rfl rfl rfl rfl (by decide) (by decide)
  intro dp un gd outer A₀ base g L' h₁ s B F N G lt hd hu
  obtain ⟨X, T0, C⟩ := G
  dsimp only [bL18, sL18, S] at *
  k_steps
  unfold HoldK
  rename Fr _ _ _ _ => F5
  rename News _ _ _ _ => N5
  refine iter_listUnr rfl F5 N5 hl rfl rfl fun I hI => listRest_ind (Inv := InvPart side t2 (partV side whole ds) news) ?_ ?_ _ _ _ ⟨ds, whole, 0, _, _, rfl, hi, h0, rfl, rfl, rfl, rfl⟩
  · rintro m n' ⟨ds', wh, wo, tw, to, rfl, hv, hd0, mw, mo, ms, hV⟩ h tk F N
    cases hv
    k_steps
    (show Ret _ _ _ _ _ _; first | refine Ret.intro (by k_asm) (by k_asm) ?_ | refine Ret.fall (by k_asm) (by k_asm) ?_)
    exact ⟨⟨_, congrArg (Value.int · _) hV.symm⟩, rfl⟩
  · rintro v r m n' ⟨ds', wh, wo, tw, to, rfl, hv, hd0, mw, mo, ms, hV⟩ it h tk hit F N
    cases hv
    rename_i d td ds'' hv
    have hdn : d ≠ 0 := (hd0 d (.head _)).1
    have hdb : d.natAbs < 2 ^ 4000 := (hd0 d (.head _)).2
    have hI0 := hl
    have nI : ∀ p ∈ n', p.1 ≠ I := fun p hp => Nat.ne_of_lt (hI p hp)
    k_steps
    rename Fr _ _ _ _ => F6
    rename News _ _ _ _ => N6
    exact UnrEnd.intro F6 N6 n' (fun p hp => hp) nI ⟨hI0, ds'', _, _, _, _, rfl, hv, fun x hx => hd0 x (.tail _ hx), rfl, rfl, ms, hV⟩
end
theorem prime16 : rw_ul0020_02.prog = rw_ul0020_02.prog ∧ KL = KL := by k_fill; exact ⟨rfl, rfl⟩
local macro_rules | `(tactic| walk_at "call type:list") => `(tactic| ((rename IsRange _ _ _ _ _ _ _ _ => rgX); (refine kll_range (n := 16) rfl (by k_asm) (by k_asm) rgX (small_one (by decide) (by decide) (by decide) (by decide)) (by decide) (by decide) ?_); intro D' us' c' h' tk' F' N' l1 hI'; (try k_lt l1); (try k_sweep)))
section
variable {prog : Program} {w : World} {A : Around} {E : Value → Shared → Prop} {s : Shared} {a b r : Int} {t u : Tok} {Q : Value → Shared → Prop}
theorem addE (e : a + b = r) (h : Q (.int r s.toks) { s with toks := s.toks + 1 }) : wpAny (model prog w) A (binaryOp .Add (.int a t) (.int b u)) Q E s := add_int (e ▸ h)
theorem subE (e : a - b = r) (h : Q (.int r s.toks) { s with toks := s.toks + 1 }) : wpAny (model prog w) A (binaryOp .Sub (.int a t) (.int b u)) Q E s := sub_int (e ▸ h)
theorem mulE (e : a * b = r) (hm : IntMulOk a b) (h : Q (.int r s.toks) { s with toks := s.toks + 1 }) : wpAny (model prog w) A (binaryOp .Mult (.int a t) (.int b u)) Q E s := mul_int (e ▸ h) hm
theorem modE (hb : b ≠ 0) (e : a.fmod b = r) (h : Q (.int r s.toks) { s with toks := s.toks + 1 }) : wpAny (model prog w) A (binaryOp .Mod (.int a t) (.int b u)) Q E s := mod_int' hb (e ▸ h)
theorem divE (hb : b ≠ 0) (hB : b.natAbs < 2 ^ 4000) (e : a.fdiv b = r) (h : Q (.int r s.toks) { s with toks := s.toks + 1 }) : wpAny (model prog w) A (binaryOp .FloorDiv (.int a t) (.int b u)) Q E s := floordiv_to hb hB (e ▸ h)
theorem powE (h0 : 0 ≤ b) (hb : b ≤ 1000000) (ha : a.natAbs < 2 ^ 64) (e : a ^ b.toNat = r) (h : Q (.int r s.toks) { s with toks := s.toks + 1 }) : wpAny (model prog w) A (binaryOp .Pow (.int a t) (.int b u)) Q E s :=
  pow_int_small h0 hb ha (e ▸ h)
theorem chrE {c : Nat} (e : a = (c : Int)) (hc : c ≤ 1114111) (h : Q (.str ⟨#[c]⟩ s.toks) { s with toks := s.toks + 1 }) : wpAny (model prog w) A (call (.builtin "chr") [.int a t]) Q E s := by subst e; exact chr_of_range (by omega) (by omega) h
end
local macro_rules | `(tactic| walk_at "binaryOp Add int int") => `(tactic| ((refine addE (by with_reducible assumption) ?_); (try dsimp only)))
local macro_rules | `(tactic| walk_at "binaryOp Sub int int") => `(tactic| ((refine subE (by with_reducible assumption) ?_); (try dsimp only)))
local macro_rules | `(tactic| walk_at "binaryOp Mult int int") => `(tactic| ((refine mulE (by with_reducible assumption) (by with_reducible assumption) ?_); (try dsimp only)))
local macro_rules | `(tactic| walk_at "binaryOp Mod int int") => `(tactic| ((refine modE (by first | with_reducible assumption | decide) (by with_reducible assumption) ?_); (try dsimp only)))
local macro_rules | `(tactic| walk_at "binaryOp FloorDiv int int") => `(tactic| ((refine divE (by first | with_reducible assumption | decide) (by first | with_reducible assumption | decide) (by with_reducible assumption) ?_); (try dsimp only)))
local macro_rules | `(tactic| walk_at "binaryOp Pow int int") => `(tactic| ((refine powE (by first | with_reducible assumption | decide) (by first | with_reducible assumption | decide) (by first | with_reducible assumption | decide) (by with_reducible assumption) ?_); (try dsimp only)))
local macro_rules | `(tactic| walk_at "call builtin:chr") => `(tactic| ((refine chrE (by with_reducible assumption) (by with_reducible assumption) ?_); (try dsimp only)))
section
variable {prog : Program} {w : World} {A : Around} {E : Value → Shared → Prop} {s : Shared} {env : Env} {h₀ : Heap} {x : Str} {body : List Stmt} {Q : Flow → Shared → Prop}
/-- a range that goes down, with what holds at the head of each turn -/
theorem iter_down {r : Addr} {a₀ b₀ : Int} {t₀ u₀ v₀ : Tok} {n : Nat} {m₀ : Str → Option Value} {news : List (Addr × Obj)} (J : Nat → (Str → Option Value) → List (Addr × Obj) → Prop)
    (hh : A.handled = none) (hr : IsRange s.heap r a₀ b₀ (-1) t₀ u₀ v₀) (hsmall : Builtin.Range.small a₀ b₀ (-1) = true) (hn : Builtin.Range.rangeSize a₀ b₀ (-1) = (n : Int)) (F : Fr h₀ env.locals s.heap m₀) (N : News h₀ env.locals s.heap news) (hj : J 0 m₀ news)
    (turn : ∀ i t m₁ news₁ h tk own, i < n → news₁.map (·.1) = news.map (·.1) → OwnOff own (news.map (·.1)) → J i m₁ news₁ → Fr h₀ env.locals h (fun y => if y = x then some (.int (a₀ - (i : Int)) t) else m₁ y) → News h₀ env.locals h (news₁ ++ own) →
      wpAny (model prog w) A (execs body env) (InvPostN h₀ env.locals (J (i + 1)) own (news.map (·.1)) { s with heap := h, toks := tk } Q) E { s with heap := h, toks := tk })
    (done : ∀ m₁ news₁ h tk, J n m₁ news₁ → Fr h₀ env.locals h m₁ → News h₀ env.locals h news₁ → Q .next { s with heap := h, toks := tk }) :
    wpAny (model prog w) A (pyIter (.ref r)) (fun it s₂ => LoopAtV prog w A h₀ env x body Q E it s₂) E s := by
  refine wpAny_pyIter_range hr hsmall ?_
  have old : ∀ {b : Addr} {o : Obj}, s.heap.get? b = some o → b ≠ s.heap.objs.size := fun e => Nat.ne_of_lt (Heap.lt_size e)
  refine loop_invN J (Walks.range hh s.heap.objs.size a₀ (-1) n).bound (fun hm => ?_) (fun b hb => ?_) (fun p hp hI => ?_) (fun p hp hI => ?_) ?_ (F.push _) (fun p hp => ⟨Heap.get?_push_of_some _ (N p hp).1, (N p hp).2⟩) hj ?_ (fun m₁ news₁ h tk hJ F₁ N₁ => done m₁ news₁ h tk hJ F₁ N₁)
  · exact absurd F.ns.lt ((List.mem_singleton.mp hm) ▸ Nat.lt_irrefl _)
  · rw [List.mem_singleton.mp hb]; exact next_is_new F
  · exact old (N p hp).1 (List.mem_singleton.mp hI)
  · exact old (N p hp).1 (List.mem_singleton.mp hI)
  · show IsRangeIter _ _ _ _ _
    rw [hn]
    simpa using Heap.get?_push_size _ rfl
  · rintro i v m₁ news₁ h tk own hi ⟨_, t, rfl⟩ hmap hoff hJ F₁ N₁
    have e : a₀ + (i : Int) * (-1) = a₀ - (i : Int) := by omega
    rw [e] at F₁
    exact turn i t m₁ news₁ h tk own hi hmap hoff hJ F₁ N₁
end
local macro_rules | `(tactic| walk_at "call builtin:list.append") => `(tactic| (k_here; k_dflt (refine' append_L ?k1 ?k2 ?k3 ?k4 ?_; (case k1 => k_asm); (case k2 => k_asm); (case k3 => k_upd); (case k4 => first | with_reducible assumption | omega | (simp only [List.length_append, List.length_singleton]; omega)); k_whole); intro h' F' N'; (try k_sweep)))
theorem item_to {prog : Program} {w : World} {A : Around} {E : Value → Shared → Prop} {s : Shared} {value slice : PySem.Expr} {h₀ : Heap} {L D : Addr} {news : List (Addr × Obj)} {vs : List Value} {ns : List Int} {n : Nat} {k r : Int} {u : Tok} {Q : Value → Shared → Prop} (N : News h₀ L s.heap news) (hm : (D, listOf vs.toArray n) ∈ news) (hi : IntsAre vs ns) (h0 : 0 ≤ k) (h1 : k < ns.length) (hfit : k < 2 ^ 63) (e : ns.getD k.toNat 0 = r) (h : ∀ t, Q (.int r t) s)
    (hs : subscripted slice false (.ref D) (.int k u) = operate [.ref D, .int k u] (getItem (.ref D) (.int k u))) :
    wpAny (model prog w) A (subscriptTail value slice (.ref D) (.int k u)) Q E s := ksa_sub N hm hi h0 h1 hfit (fun t => e ▸ h t) hs
local macro_rules | `(tactic| walk_at "subscriptTail") => `(tactic| (k_here; (with_reducible show wpAny _ _ (subscriptTail _ _ (Value.ref _) (Value.int _ _)) _ _ _); k_dflt (refine' item_to ?k1 ?k2 ?k3 ?k4 ?k5 ?k6 ?k8 ?_ ?k7; (case k1 => k_asm); (case k2 => k_mem); (case k3 => with_reducible assumption); (case k4 => first | with_reducible assumption | omega); (case k5 => first | with_reducible assumption | omega); (case k6 => omega); (case k8 => first | with_reducible assumption | exact rfl); (case k7 => with_unfolding_all rfl); k_whole); intro _))
local macro_rules | `(tactic| walk_at "subscriptTail Name Name ref int") => `(tactic| (k_here; (with_reducible show wpAny _ _ (subscriptTail _ _ (Value.ref _) (Value.int _ _)) _ _ _); k_dflt (refine' item_to ?k1 ?k2 ?k3 ?k4 ?k5 ?k6 ?k8 ?_ ?k7; (case k1 => k_asm); (case k2 => k_mem); (case k3 => with_reducible assumption); (case k4 => first | with_reducible assumption | omega); (case k5 => first | with_reducible assumption | omega); (case k6 => omega); (case k8 => first | with_reducible assumption | exact rfl); (case k7 => with_unfolding_all rfl); k_whole); intro _))
/-- signs of one code point each -/
inductive ChrsAre : List Value → List Nat → Prop
  | nil : ChrsAre [] []
  | cons (c : Nat) (t : Tok) {vs : List Value} {cs : List Nat} : ChrsAre vs cs → ChrsAre (.str ⟨#[c]⟩ t :: vs) (c :: cs)
theorem ChrsAre.append {vs ws : List Value} {a b : List Nat} (h : ChrsAre vs a) (k : ChrsAre ws b) : ChrsAre (vs ++ ws) (a ++ b) := by
  induction h with
  | nil => exact k
  | cons c t _ ih => exact .cons c t ih
theorem ChrsAre.length {vs : List Value} {cs : List Nat} (h : ChrsAre vs cs) : vs.length = cs.length := by
  induction h with
  | nil => rfl
  | cons c t _ ih => simp [ih]
section
variable {w : World} {mean : ExcName → Option Value} {mg mb : Str → Option Value}
noncomputable def InvText (t1 t2 : Tok) (q qa qu : Addr) (V : List Nat) (rest : List (Addr × Obj)) (vs : List Value) (m : Str → Option Value) (n' : List (Addr × Obj)) : Prop :=
  ∃ (ns : List Nat) (at_ od st : Nat) (ts : List Value) (cs : List Nat) (kt : Nat) (ta to tst : Tok), IntsAre vs (ns.map fun n : Nat => (n : Int)) ∧ n' = (q, listOf ts.toArray kt) :: rest ∧ ChrsAre ts cs ∧ m (S "at") = some (.int (at_ : Int) ta) ∧ m (S "order") = some (.int (od : Int) to) ∧ m (S "strewn") = some (.int (st : Int) tst) ∧
    m (S "text") = some (.ref q) ∧ m (S "alphabets") = some (.ref qa) ∧ m (S "unseen") = some (.ref qu) ∧ V = cs ++ textRow at_ od st ns ∧ (∀ n ∈ ns, 0 < n ∧ n < 2 ^ 200) ∧ cs.length + 102 * ns.length ≤ 2000
/-- what holds at the head of a turn of the inner loop: i signs are written -/
noncomputable def InvNum (t1 t2 : Tok) (q qa qu : Addr) (al n K at_ od : Nat) (tn : Tok) (cs0 : List Nat) (st0 : Nat) (pre rest : List (Addr × Obj)) (i : Nat) (m : Str → Option Value) (n' : List (Addr × Obj)) : Prop :=
  ∃ (st : Nat) (ts : List Value) (cs : List Nat) (kt : Nat) (ta to tst : Tok), n' = pre ++ (q, listOf ts.toArray kt) :: rest ∧ ChrsAre ts cs ∧ m (S "at") = some (.int (at_ : Int) ta) ∧ m (S "order") = some (.int (od : Int) to) ∧ m (S "strewn") = some (.int (st : Int) tst) ∧
    m (S "text") = some (.ref q) ∧ m (S "alphabets") = some (.ref qa) ∧ m (S "unseen") = some (.ref qu) ∧ m (S "number") = some (.int (n : Int) tn) ∧
    cs ++ (textNum al n (K - i) st).1 = cs0 ++ (textNum al n K st0).1 ∧ (textNum al n (K - i) st).2 = (textNum al n K st0).2 ∧ cs.length + 2 * (K - i) ≤ cs0.length + 2 * K
end
theorem prime16b : rw_ul0020_02.prog = rw_ul0020_02.prog ∧ KL = KL := by k_fill; exact ⟨rfl, rfl⟩
section
variable {w : World} {mean : ExcName → Option Value} {mg mb : Str → Option Value}
set_option maxRecDepth 100000 in
set_option maxHeartbeats 8000000 in
theorem spec_text (l : Addr) (us : List Value) (ns : List Nat) (hi : IntsAre us (ns.map fun n : Nat => (n : Int))) (hb : ∀ n ∈ ns, 0 < n ∧ n < 2 ^ 200) (hln : ns.length ≤ 10) (n0 : Nat) (order strewn : Nat) (t1 t2 : Tok) {news : List (Addr × Obj)} (hl : (l, listOf us.toArray n0) ∈ news) :
    Spec w mean mg mb (.ref 155) [.ref l, .int order t1, .int strewn t2] 3 30 news (fun r n => ∃ q us k, r = .ref q ∧ n = (q, listOf us.toArray k) :: news ∧ ChrsAre us (textRow 0 order strewn ns) ∧ ∀ p ∈ news, p.1 ≠ q) := by
  refine spec_def (nm := nL19) (ar := aL19) (bd := bL19) (sc := sL19) (c := 154) (binds := [(S "row", .ref l), (S "order", .int order t1), (S "strewn", .int strewn t2)]) rfl rfl rfl rfl ?_ rfl rfl rfl rfl (by decide) (by decide)
  intro dp un gd outer A₀ base g L' h₁ s B F N G lt hd hu
  obtain ⟨X, T0, C⟩ := G
  dsimp only [bL19, sL19, S] at *
  k_steps
  rename_i qa h1a la h1b tka qp h1c lp h1d tkb t1' u1' v1' rgX hk qr usr cr h1e tkc hIr lr qu wsu h1f hIu lu h1g tkd q h1h lq h1i h1j F6 N6
  obtain ⟨usa, hia, N6⟩ : ∃ usa, IntsAre usa alphL ∧ News g L' h1j ((q, listOf #[] 0) :: (qu, listOf wsu.toArray 0) :: (qr, listOf usr.toArray cr) :: (qp, _) :: (qa, listOf usa.toArray 0) :: news) := ⟨_, by repeat constructor, N6⟩
  have N7 := nsub N6 (b := (q, listOf ([] : List Value).toArray 0) :: (qu, listOf wsu.toArray 0) :: (qa, listOf usa.toArray 0) :: news) (fun p hp => by
    rcases List.mem_cons.mp hp with rfl | hp
    · exact .head _
    rcases List.mem_cons.mp hp with rfl | hp
    · exact .tail _ (.head _)
    · exact .tail _ (.tail _ (.tail _ (.tail _ hp))))
  have nq : ∀ p ∈ (qu, listOf wsu.toArray 0) :: (qa, listOf usa.toArray 0) :: news, p.1 ≠ q := List.forall_mem_cons.mpr ⟨Nat.ne_of_lt lq.1, List.forall_mem_cons.mpr ⟨Nat.ne_of_lt lq.2.2.2.1, fun p hp => Nat.ne_of_lt (allLt_get lq.2.2.2.2 p hp)⟩⟩
  clear N6
  unfold HoldK
  refine iter_listUnr rfl F6 N7 (.tail _ (.tail _ (.tail _ hl))) rfl rfl fun I hI => listRest_ind (Inv := InvText t1 t2 q qa qu (textRow 0 order strewn ns) ((qu, listOf wsu.toArray 0) :: (qa, listOf usa.toArray 0) :: news)) ?_ ?_ _ _ _ ⟨ns, 0, order, strewn, [], [], 0, _, _, _, hi, rfl, .nil, rfl, rfl, rfl, rfl, rfl, rfl, rfl, hb, by simp; omega⟩
  · rintro m n' ⟨ns', at_, od, st, ts, cs, kt, ta, to, tst, hv, rfl, hts, ma, mo, ms, mt, mal, mu, hV, hb', hlen⟩ h tk F N
    rcases ns' with _ | ⟨n, ns'⟩
    · k_steps
      rename News _ _ _ _ => N8
      show Ret _ _ _ _ _ _
      refine Ret.intro (by k_asm) (nsub N8 (b := (q, listOf ts.toArray kt) :: news) fun p hp => by
        rcases List.mem_cons.mp hp with rfl | hp
        · exact .head _
        · exact .tail _ (.tail _ (.tail _ hp))) ⟨q, ts, kt, rfl, rfl, ?_, fun p hp => nq p (.tail _ (.tail _ hp))⟩
      rw [hV, textRow, List.append_nil]
      exact hts
    · cases hv
  · rintro v r m n' ⟨ns', at_, od, st, ts, cs, kt, ta, to, tst, hv, rfl, hts, ma, mo, ms, mt, mal, mu, hV, hb', hlen⟩ it h tk hit F N
    rcases ns' with _ | ⟨n, ns'⟩
    · cases hv
    cases hv
    rename_i tn hv
    have nI : ∀ p ∈ (q, listOf ts.toArray kt) :: (qu, listOf wsu.toArray 0) :: (qa, listOf usa.toArray 0) :: news, p.1 ≠ I := fun p hp => by
      rcases List.mem_cons.mp hp with rfl | hp
      · exact Nat.ne_of_lt (hI (q, listOf ([] : List Value).toArray 0) (.head _))
      · exact Nat.ne_of_lt (hI p (.tail _ hp))
    obtain ⟨hn1, hn2⟩ := hb' n (.head _)
    have hbit0 : Builtin.Int.intBits (n : Int) ≤ 200 := PySem.intBits_le_iff.mpr hn2
    have hbit1 : 0 < Builtin.Int.intBits (n : Int) := by
      rcases Nat.eq_zero_or_pos (Builtin.Int.intBits (n : Int)) with e | e
      · have := PySem.intBits_le_iff.mp (Nat.le_of_eq e)
        simp only [Int.natAbs_natCast, Nat.pow_zero] at this
        omega
      · exact e
    have hsub : ((Builtin.Int.intBits (n : Int) : Nat) : Int) - 1 = ((Builtin.Int.intBits (n : Int) - 1 : Nat) : Int) := by omega
    have f1 : ((od : Nat) : Int).fmod 9 = ((od % 9 : Nat) : Int) := fmod_nat od 9
    have f2 : ((at_ : Nat) : Int) + 1 = ((at_ + 1 : Nat) : Int) := by omega
    have f3 : ((at_ + 1 : Nat) : Int) + ((od % 9 : Nat) : Int) = ((at_ + 1 + od % 9 : Nat) : Int) := by omega
    have f4 : ((at_ + 1 + od % 9 : Nat) : Int).fmod 10 = (((at_ + 1 + od % 9) % 10 : Nat) : Int) := fmod_nat _ 10
    have f5 : ((od : Nat) : Int).fdiv 9 = ((od / 9 : Nat) : Int) := fdiv_nat od 9
    have f6 : ((Builtin.Int.intBits (n : Int) - 1 : Nat) : Int).fdiv 4 = (((Builtin.Int.intBits (n : Int) - 1) / 4 : Nat) : Int) := fdiv_nat _ 4
    k_steps
    clear f1 f2 f3 f4 f5 f6 hsub
    unfold HoldK
    rename_i h9 tk9 t9 u9 v9 hR F9 N9 _
    have hK : (Builtin.Int.intBits (n : Int) - 1) / 4 ≤ 50 := by omega
    generalize hKK : (Builtin.Int.intBits (n : Int) - 1) / 4 = K at *
    have hat : (at_ + 1 + od % 9) % 10 < 10 := Nat.mod_lt _ (by decide)
    generalize hA : (at_ + 1 + od % 9) % 10 = at' at *
    refine iter_down (n := K + 1) (InvNum t1 t2 q qa qu (alphL.getD at' 0).toNat n (K + 1) at' (od / 9) tn cs st [(I, it)] ((qu, listOf wsu.toArray 0) :: (qa, listOf usa.toArray 0) :: news)) rfl hR (small_down (by omega) (by omega) (by omega) (by omega)) (by rw [rangeSize_downNat]; omega) F9 N9 ⟨st, ts, cs, kt, _, _, _, rfl, hts, rfl, rfl, ms, mt, mal, mu, rfl, rfl, rfl, Nat.le_refl _⟩ ?_ ?_
    · rintro i t3 m3 n3 h3 tk3 own hi3 hmap hoff ⟨st3, ts3, cs3, kt3, ta3, to3, tst3, rfl, hts3, ma3, mo3, ms3, mt3, mal3, mu3, mn3, hv3, hs3, hl3⟩ F3 N3
      have hk3 : ((K : Nat) : Int) - ((i : Nat) : Int) = ((K - i : Nat) : Int) := by omega
      rw [hk3] at F3
      have eK : K + 1 - i = (K - i) + 1 := by omega
      rw [eK, textNum] at hv3 hs3
      obtain ⟨ea, ea12⟩ := alph_nat ⟨at', hat⟩
      have ea' : alphL.getD ((at' : Nat) : Int).toNat 0 = ((alphL.getD at' 0).toNat : Int) := ea
      generalize hal : (alphL.getD at' 0).toNat = al at *
      have hla : alphL.length = 10 := rfl
      have hi1 : ((at' : Nat) : Int) < alphL.length := by rw [hla]; omega
      have hp9 : n / 16 ^ (K - i) % 16 < 16 := Nat.mod_lt _ (by decide)
      have hpk : K - i ≤ 1000 := by omega
      have hpw : 16 ^ (K - i) < 2 ^ 4000 := by
        have : (16 : Nat) ^ (K - i) = 2 ^ (4 * (K - i)) := by rw [Nat.pow_mul]
        rw [this]
        exact Nat.pow_lt_pow_right (by decide) (by omega)
      have hpw0 : 16 ^ (K - i) ≠ 0 := Nat.ne_of_gt (Nat.pow_pos (by decide))
      have hchr : 119808 + 52 * al + n / 16 ^ (K - i) % 16 ≤ 1114111 := by omega
      have htl : ts3.length < 90000 := by rw [hts3.length]; simp only [List.length_cons] at hlen; omega
      have e1 : (52 : Int) * ((al : Nat) : Int) = ((52 * al : Nat) : Int) := by omega
      have e1m : IntMulOk (52 : Int) ((al : Nat) : Int) := PySem.IntMulOk.of_left (by decide)
      have e2 : (119808 : Int) + ((52 * al : Nat) : Int) = ((119808 + 52 * al : Nat) : Int) := by omega
      have e3 : (16 : Int) ^ (((K - i : Nat) : Int)).toNat = ((16 ^ (K - i) : Nat) : Int) := by rw [Int.toNat_natCast]; norm_cast
      have e3b : ((K - i : Nat) : Int) ≤ 1000000 := by omega
      have e3c : (0 : Int) ≤ ((K - i : Nat) : Int) := by omega
      generalize hpp : 16 ^ (K - i) = pw at *
      have hpwi : ((pw : Nat) : Int) ≠ 0 := by omega
      have hpwb : ((pw : Nat) : Int).natAbs < 2 ^ 4000 := by rw [Int.natAbs_natCast]; exact hpw
      have e4 : ((n : Nat) : Int).fdiv ((pw : Nat) : Int) = ((n / pw : Nat) : Int) := fdiv_nat _ _
      have e5 : ((n / pw : Nat) : Int).fmod 16 = ((n / pw % 16 : Nat) : Int) := fmod_nat _ 16
      have e6 : ((119808 + 52 * al : Nat) : Int) + ((n / pw % 16 : Nat) : Int) = ((119808 + 52 * al + n / pw % 16 : Nat) : Int) := by omega
      have e7 : ((119808 + 52 * al + n / pw % 16 : Nat) : Int) = ((119808 + 52 * al + n / pw % 16 : Nat) : Int) := rfl
      have e8 : ((st3 : Nat) : Int).fmod 28 = ((st3 % 28 : Nat) : Int) := fmod_nat _ 28
      have e9 : ((st3 : Nat) : Int).fdiv 28 = ((st3 / 28 : Nat) : Int) := fdiv_nat _ 28
      have h28' : st3 % 28 < 28 := Nat.mod_lt _ (by decide)
      simp only [List.cons_append, List.nil_append] at N3
      have nIq : I ≠ q := (nI _ (.head _)).symm
      have nrest : ∀ p ∈ (qu, listOf wsu.toArray 0) :: (qa, listOf usa.toArray 0) :: (news ++ own), p.1 ≠ q := fun p hp => by
        rcases List.mem_cons.mp hp with rfl | hp
        · exact nq _ (.head _)
        rcases List.mem_cons.mp hp with rfl | hp
        · exact nq _ (.tail _ (.head _))
        rcases List.mem_append.mp hp with hp | hp
        · exact nq _ (.tail _ (.tail _ hp))
        · exact hoff p hp q (.tail _ (.head _))
      by_cases h28 : 0 < st3 % 28
      · have hsu : ((st3 % 28 : Nat) : Int) - 1 = ((st3 % 28 - 1 : Nat) : Int) := by omega
        have hul : st3 % 28 - 1 < 27 := by omega
        obtain ⟨eu, eu2⟩ := unseen_nat ⟨st3 % 28 - 1, hul⟩
        have eu' : unseenL.getD ((st3 % 28 - 1 : Nat) : Int).toNat 0 = ((unseenL.getD (st3 % 28 - 1) 0).toNat : Int) := eu
        have hu2 : (unseenL.getD (st3 % 28 - 1) 0).toNat ≤ 1114111 := eu2
        rw [if_pos h28] at hv3
        generalize hUU : (unseenL.getD (st3 % 28 - 1) 0).toNat = uc at *
        have hlu : unseenL.length = 27 := rfl
        have hi2 : ((st3 % 28 - 1 : Nat) : Int) < unseenL.length := by rw [hlu]; omega
        have hc28 : ((st3 % 28 : Nat) : Int) > 0 := by omega
        have e10 : ((uc : Nat) : Int) = ((uc : Nat) : Int) := rfl
        k_steps
        rename Fr _ _ _ _ => F4
        rename News _ _ _ _ => N4
        obtain ⟨t4, t5, k4, N4⟩ : ∃ t4 t5 k4, News g L' _ ((I, it) :: (q, listOf ((ts3 ++ [Value.str ⟨#[119808 + 52 * al + n / pw % 16]⟩ t4]) ++ [Value.str ⟨#[uc]⟩ t5]).toArray k4) :: (qu, listOf wsu.toArray 0) :: (qa, listOf usa.toArray 0) :: (news ++ own)) := ⟨_, _, _, N4⟩
        refine InvEndN.intro F4 N4 (nx := [(I, it)] ++ (q, listOf ((ts3 ++ [Value.str ⟨#[119808 + 52 * al + n / pw % 16]⟩ t4]) ++ [Value.str ⟨#[uc]⟩ t5]).toArray k4) :: (qu, listOf wsu.toArray 0) :: (qa, listOf usa.toArray 0) :: news) ⟨st3 / 28, _, (cs3 ++ [119808 + 52 * al + n / pw % 16]) ++ [uc], _, _, _, _, rfl, (hts3.append (.cons _ _ .nil)).append (.cons _ _ .nil), ma3, mo3, rfl, mt3, mal3, mu3, mn3, ?_, ?_, ?_⟩ rfl (fun p hp => ?_) (fun p hp => .tail _ (.tail _ (.tail _ (.tail _ (List.mem_append_right _ hp)))))
        · rw [← hv3, show K + 1 - (i + 1) = K - i by omega]
          simp only [List.append_assoc, List.cons_append, List.nil_append]
        · rw [← hs3, show K + 1 - (i + 1) = K - i by omega]
        · simp only [List.length_append, List.length_singleton]
          omega
        · simp only [List.cons_append, List.nil_append] at hp
          rcases List.mem_cons.mp hp with rfl | hp
          · exact .head _
          rcases List.mem_cons.mp hp with rfl | hp
          · exact .tail _ (.head _)
          rcases List.mem_cons.mp hp with rfl | hp
          · exact .tail _ (.tail _ (.head _))
          rcases List.mem_cons.mp hp with rfl | hp
          · exact .tail _ (.tail _ (.tail _ (.head _)))
          · exact .tail _ (.tail _ (.tail _ (.tail _ (List.mem_append_left _ hp))))
      · have hc28 : ¬ ((st3 % 28 : Nat) : Int) > 0 := by omega
        rw [if_neg h28] at hv3
        k_steps
        rename Fr _ _ _ _ => F4
        rename News _ _ _ _ => N4
        obtain ⟨t4, k4, N4⟩ : ∃ t4 k4, News g L' _ ((I, it) :: (q, listOf (ts3 ++ [Value.str ⟨#[119808 + 52 * al + n / pw % 16]⟩ t4]).toArray k4) :: (qu, listOf wsu.toArray 0) :: (qa, listOf usa.toArray 0) :: (news ++ own)) := ⟨_, _, N4⟩
        refine InvEndN.intro F4 N4 (nx := [(I, it)] ++ (q, listOf (ts3 ++ [Value.str ⟨#[119808 + 52 * al + n / pw % 16]⟩ t4]).toArray k4) :: (qu, listOf wsu.toArray 0) :: (qa, listOf usa.toArray 0) :: news) ⟨st3 / 28, _, (cs3 ++ [119808 + 52 * al + n / pw % 16]), _, _, _, _, rfl, (hts3.append (.cons _ _ .nil)), ma3, mo3, rfl, mt3, mal3, mu3, mn3, ?_, ?_, ?_⟩ rfl (fun p hp => ?_) (fun p hp => .tail _ (.tail _ (.tail _ (.tail _ (List.mem_append_right _ hp)))))
        · rw [← hv3, show K + 1 - (i + 1) = K - i by omega]
          simp only [List.append_assoc, List.cons_append, List.nil_append]
        · rw [← hs3, show K + 1 - (i + 1) = K - i by omega]
        · simp only [List.length_append, List.length_singleton]
          omega
        · simp only [List.cons_append, List.nil_append] at hp
          rcases List.mem_cons.mp hp with rfl | hp
          · exact .head _
          rcases List.mem_cons.mp hp with rfl | hp
          · exact .tail _ (.head _)
          rcases List.mem_cons.mp hp with rfl | hp
          · exact .tail _ (.tail _ (.head _))
          rcases List.mem_cons.mp hp with rfl | hp
          · exact .tail _ (.tail _ (.tail _ (.head _)))
          · exact .tail _ (.tail _ (.tail _ (.tail _ (List.mem_append_left _ hp))))
    · rintro m3 n3 h3 tk3 ⟨st3, ts3, cs3, kt3, ta3, to3, tst3, rfl, hts3, ma3, mo3, ms3, mt3, mal3, mu3, mn3, hv3, hs3, hl3⟩ F3 N3
      rw [Nat.sub_self, textNum] at hv3 hs3
      have hs3' : st3 = (textNum (alphL.getD at' 0).toNat n (K + 1) st).2 := hs3
      have hv3' : cs3 = cs ++ (textNum (alphL.getD at' 0).toNat n (K + 1) st).1 := by simpa using hv3
      k_steps
      refine UnrEnd.intro F3 N3 ((q, listOf ts3.toArray kt3) :: (qu, listOf wsu.toArray 0) :: (qa, listOf usa.toArray 0) :: news) (fun p hp => hp) (fun p hp => by
        rcases List.mem_cons.mp hp with rfl | hp
        · exact nI (q, listOf ts.toArray kt) (.head _)
        · exact nI p (.tail _ hp)) ⟨.tail _ (.tail _ (.tail _ hl)), ns', at', od / 9, st3, ts3, cs3, kt3, ta3, to3, tst3, hv, rfl, hts3, ma3, mo3, ms3, mt3, mal3, mu3, ?_, fun x hx => hb' x (.tail _ hx), ?_⟩
      · rw [hV, textRow]
        simp only [hA, hKK]
        rw [hv3', hs3', List.append_assoc]
      · simp only [List.length_cons] at hlen
        omega
end
theorem prime17 : rw_ul0020_02.prog = rw_ul0020_02.prog ∧ KL = KL := by k_fill; exact ⟨rfl, rfl⟩
/-- two texts whose sum has room -/
noncomputable def FitS (x y : Str) : Prop := x.length + y.length ≤ 16777216
theorem addS {prog : Program} {w : World} {A : Around} {E : Value → Shared → Prop} {s : Shared} {x y : Str} {t u : Tok} {Q : Value → Shared → Prop} (hs : FitS x y) (h : ∀ t' k, Q (.str (x ++ y) t') { s with toks := k }) : wpAny (model prog w) A (binaryOp .Add (.str x t) (.str y u)) Q E s :=
  PyProof.Rows.add_str h hs
local macro_rules | `(tactic| walk_at "binaryOp Add str str") => `(tactic| (refine addS (by with_reducible assumption) ?_; intro _ _; (try dsimp only)))
local macro_rules | `(tactic| walk_at "subscriptTail Name UnaryOp ref int") => `(tactic| (k_here; k_dflt (refine' get_last ?k1 ?k2 ?_ ?k3; (case k1 => k_asm); (case k2 => k_mem); (case k3 => with_unfolding_all rfl); k_whole); (try dsimp only)))
local macro_rules | `(tactic| walk_at "setItem ref int str") => `(tactic| (k_here; k_dflt (refine' set_last ?k1 ?k2 ?k3 ?_; (case k1 => k_asm); (case k2 => k_asm); (case k3 => k_upd); k_whole); intro h' F' N'; (try k_sweep)))
/-- a text of these code points -/
noncomputable def strOf (w : List Nat) : Str := ⟨w.toArray⟩
theorem strOf_snoc (w : List Nat) (x : Nat) : strOf w ++ ⟨#[x]⟩ = strOf (w ++ [x]) := by
  unfold strOf
  show Str.mk (w.toArray ++ #[x]) = _
  simp
theorem strOf_one (x : Nat) : Str.ofString "" ++ ⟨#[x]⟩ = strOf [x] := by
  show Str.mk ((Str.ofString "").cps ++ #[x]) = _
  rw [show (Str.ofString "").cps = #[] from rfl]
  simp [strOf]
section
variable {w : World} {mean : ExcName → Option Value} {mg mb : Str → Option Value}
noncomputable def InvWords (q I : Addr) (A : List (Addr × Obj)) (V : List (List Nat)) (vs : List Value) (m : Str → Option Value) (n' : List (Addr × Obj)) : Prop :=
  ∃ (cs : List Nat) (ws : List (List Nat)) (W : List Value) (kw : Nat) (last : Int) (tl : Tok) (T : List (Addr × Obj)), ChrsAre vs cs ∧ (∀ c ∈ cs, GoodC c) ∧ n' = (q, listOf W.toArray kw) :: (A ++ T) ∧ StrsAre W (ws.map strOf) ∧ Tabs T ∧ Dis A T ∧
    m (S "words") = some (.ref q) ∧ m (S "last") = some (.int last tl) ∧ (last = -1 ∨ ws ≠ []) ∧ -1 ≤ last ∧ V = wordsGo cs last ws ∧ ws.length + cs.length ≤ 2000 ∧ (ws.getLastD []).length + cs.length ≤ 2000 ∧ (∀ p ∈ A ++ T, p.1 ≠ q) ∧ (∀ p ∈ A ++ T, p.1 ≠ I)
set_option maxRecDepth 100000 in
set_option maxHeartbeats 8000000 in
theorem spec_words (l : Addr) (us : List Value) (cs : List Nat) (hi : ChrsAre us cs) (hg : ∀ c ∈ cs, GoodC c) (hlen : cs.length ≤ 2000) (n0 : Nat) {A T : List (Addr × Obj)} (hl : (l, listOf us.toArray n0) ∈ A) (hT : Tabs T) (hD : Dis A T) :
    Spec w mean mg mb (.ref 162) [.ref l] 30 300 (A ++ T) (fun r n => ∃ q W k T', r = .ref q ∧ n = (q, listOf W.toArray k) :: (A ++ T') ∧ StrsAre W ((wordsGo cs (-1) []).map strOf) ∧ (∀ p ∈ A ++ T', p.1 ≠ q) ∧ Tabs T' ∧ Dis A T') := by
  refine spec_def (nm := nL20) (ar := aL20) (bd := bL20) (sc := sL20) (c := 161) (binds := [(S "text", .ref l)]) rfl rfl rfl rfl ?_ rfl rfl rfl rfl (by decide) (by decide)
  intro dp un gd outer A₀ base g L' h₁ s B F N G lt hd hu
  obtain ⟨X, T0, C⟩ := G
  dsimp only [bL20, sL20, S] at *
  k_steps
  unfold HoldK
  rename Fr _ _ _ _ => F5
  rename_i q hq1 lq hq2 hq3 N5
  have nq : ∀ p ∈ A ++ T, p.1 ≠ q := fun p hp => Nat.ne_of_lt (lq p hp)
  have hlen0 : ∀ (W : List Value) (ws : List (List Nat)) (cs : List Nat), StrsAre W (ws.map strOf) → ws.length + cs.length ≤ 2000 → W.length < 90000 := fun W ws cs h1 h2 => by
    have := h1.length
    rw [List.length_map] at this
    omega
  refine iter_listUnr rfl F5 N5 (.tail _ (List.mem_append_left _ hl)) rfl rfl fun I hI => listRest_ind (Inv := InvWords q I A (wordsGo cs (-1) [])) ?_ ?_ _ _ _ ⟨cs, [], [], _, -1, _, T, hi, hg, rfl, .nil, hT, hD, rfl, rfl, .inl rfl, by decide, rfl, by simpa using hlen, by simpa using hlen, nq, fun p hp => Nat.ne_of_lt (hI p (.tail _ hp))⟩
  · rintro m n' ⟨cs', ws, W, kw, last, tl, T1, hv, hg', rfl, hW, hT1, hD1, mw, ml, hlw, hl1, hV, hb1, hb2, hq, hqI⟩ h tk F N
    cases hv
    k_steps
    (show Ret _ _ _ _ _ _; first | refine Ret.intro (by k_asm) (by k_asm) ?_ | refine Ret.fall (by k_asm) (by k_asm) ?_)
    exact ⟨q, W, kw, T1, rfl, rfl, by rw [hV]; exact hW, hq, hT1, hD1⟩
  · rintro v r m n' ⟨cs', ws, W, kw, last, tl, T1, hv, hg', rfl, hW, hT1, hD1, mw, ml, hlw, hl1, hV, hb1, hb2, hq, hqI⟩ it h tk hit F N
    cases hv
    rename_i c tc cs2 hv
    have qI : q ≠ I := Nat.ne_of_lt (hI (q, _) (.head _))
    have nI : ∀ (W : List Value) (k : Nat), ∀ p ∈ (q, listOf W.toArray k) :: (A ++ T1), p.1 ≠ I := fun W k => List.forall_mem_cons.mpr ⟨qI, hqI⟩
    simp only [List.length_cons] at hb1 hb2
    have hg2 : ∀ c ∈ cs2, GoodC c := fun x hx => hg' x (.tail _ hx)
    obtain ⟨hc0, hb | ⟨al, d, hal, hd, rfl, hnb, hm⟩⟩ := hg' c (.head _)
    · k_steps
      (refine' Spec.use ?wS ?wB ?wF ?wN ?wX ?wT ?wC ?wk ?wd ?wu ?_; (case wB => k_asm); (case wF => k_asm); (case wN => k_asm); (case wX => k_asm); (case wT => k_asm); (case wC => k_asm); (case wk => exact rfl); (case wS => exact (spec_inB1 c tc _)); (case wd => omega); (case wu => omega))
      rintro _ _ h2 tk2 ⟨rfl, rfl⟩ F2 N2
      rw [decide_eq_true hb]
      k_steps
      refine UnrEnd.intro F2 N2 ((q, listOf W.toArray kw) :: (A ++ T1)) (fun p hp => hp) (nI W kw) ⟨.tail _ (List.mem_append_left _ hl), cs2, ws, W, kw, last, tl, T1, hv, hg2, rfl, hW, hT1, hD1, mw, ml, hlw, hl1, ?_, by omega, by omega, hq, hqI⟩
      rw [hV, wordsGo, if_pos hb]
    · have hlW := hlen0 W ws cs2 hW (by omega)
      have DD : Dis ((I, it) :: (q, listOf W.toArray kw) :: A) T1 := List.forall_mem_cons.mpr ⟨fun p hp => hqI p (List.mem_append_right _ hp), List.forall_mem_cons.mpr ⟨fun p hp => hq p (List.mem_append_right _ hp), hD1⟩⟩
      k_steps
      (refine' Spec.use ?wS ?wB ?wF ?wN ?wX ?wT ?wC ?wk ?wd ?wu ?_; (case wB => k_asm); (case wF => k_asm); (case wN => k_asm); (case wX => k_asm); (case wT => k_asm); (case wC => k_asm); (case wk => exact rfl); (case wS => exact (spec_inB1 _ tc _)); (case wd => omega); (case wu => omega))
      rintro _ _ h2 tk2 ⟨rfl, rfl⟩ F2 N2
      rw [decide_eq_false hnb]
      have g1 : ((119808 + 52 * al + d : Nat) : Int) - 119808 = ((52 * al + d : Nat) : Int) := by omega
      have g2 : ((52 * al + d : Nat) : Int).fdiv 52 = ((al : Nat) : Int) := by rw [show (52 : Int) = ((52 : Nat) : Int) from rfl, fdiv_nat]; congr 1; omega
      have g3 : ((52 * al + d : Nat) : Int).fmod 52 = ((d : Nat) : Int) := by rw [show (52 : Int) = ((52 : Nat) : Int) from rfl, fmod_nat]; congr 1; omega
      have g4 : (97 : Int) + ((d : Nat) : Int) = ((97 + d : Nat) : Int) := by omega
      have g5 : ((97 + d : Nat) : Int) = ((97 + d : Nat) : Int) := rfl
      have g6 : 97 + d ≤ 1114111 := by omega
      have gb : ((52 * al + d : Nat) : Int).natAbs < 2 ^ 300 := by
        rw [Int.natAbs_natCast]
        exact Nat.lt_of_lt_of_le (by omega : 52 * al + d < 2 ^ 10) (Nat.pow_le_pow_right (by decide) (by decide))
      k_steps
      (refine' Spec.use ?wS ?wB ?wF ?wN ?wX ?wT ?wC ?wk ?wd ?wu ?_; (case wB => k_asm); (case wF => k_asm); (case wN => k_asm); (case wX => k_asm); (case wT => k_asm); (case wC => k_asm); (case wk => exact rfl); (case wS => exact (spec_dm ((52 * al + d : Nat) : Int) 52 _ _ (A := (I, it) :: (q, listOf W.toArray kw) :: A) (T := T1) gb (by decide) (by decide) hT1 DD)); (case wd => omega); (case wu => omega))
      rintro _ _ h3 tk3 ⟨p, tq, tr, T2, rfl, he, hp, hT2, hD2⟩ F3 N3
      rw [he, g2, g3] at N3
      simp only [List.cons_append] at N3
      k_steps
      (refine' Spec.use ?wS ?wB ?wF ?wN ?wX ?wT ?wC ?wk ?wd ?wu ?_; (case wB => k_asm); (case wF => k_asm); (case wN => k_asm); (case wX => k_asm); (case wT => k_asm); (case wC => k_asm); (case wk => exact rfl); (case wS => exact (spec_map _ tc _)); (case wd => omega); (case wu => omega))
      rintro _ _ h4 tk4 ⟨⟨u, rfl⟩, rfl⟩ F4 N4
      rw [hm]
      have q2 : ∀ p ∈ A ++ T2, p.1 ≠ q := fun p hp => by
        rcases List.mem_append.mp hp with hp | hp
        · exact hq p (List.mem_append_left _ hp)
        · exact hD2 (q, listOf W.toArray kw) (.tail _ (.head _)) p hp
      have I2 : ∀ p ∈ A ++ T2, p.1 ≠ I := fun p hp => by
        rcases List.mem_append.mp hp with hp | hp
        · exact hqI p (List.mem_append_left _ hp)
        · exact hD2 (I, it) (.head _) p hp
      have hpq : p ≠ q := (hp (q, listOf W.toArray kw) (.tail _ (.head _))).symm
      have hIq : I ≠ q := qI.symm
      have hAT2 : Dis A T2 := fun a ha => hD2 a (.tail _ (.tail _ ha))
      by_cases heq : ((al : Nat) : Int) = last
      · have hne : ws ≠ [] := by rcases hlw with hlw | hlw; · omega
                                 · exact hlw
        obtain ⟨ws0, w0, rfl⟩ : ∃ ws0 w0, ws = ws0 ++ [w0] := ⟨ws.dropLast, ws.getLast hne, (List.dropLast_concat_getLast hne).symm⟩
        have ew : (ws0 ++ [w0]).getLastD [] = w0 := by simp
        rw [ew] at hb2
        obtain ⟨W0, t0, rfl, hW0⟩ : ∃ W0 t0, W = W0 ++ [.str (strOf w0) t0] ∧ StrsAre W0 (ws0.map strOf) := by
          rw [List.map_append] at hW
          rcases PyProof.Rows.strs_nil_or_snoc hW with ⟨_, h0⟩ | ⟨vi, yi, y, t, h1, h2, h3⟩
          · simp at h0
          · obtain ⟨rfl, h4⟩ := List.append_inj' h2 rfl
            cases h4
            exact ⟨vi, t, h1, h3⟩
        have hs1 : FitS (strOf w0) ⟨#[97 + d]⟩ := by
          unfold FitS
          have h1 : (strOf w0).length = w0.length := rfl
          have h2 : (⟨#[97 + d]⟩ : Str).length = 1 := rfl
          omega
        k_steps
        · rename @Eq Bool _ true => hx
          simp at hx
        · rename (_ : Int) ≠ _ => hx
          exact absurd heq hx
        · rename Fr _ _ _ _ => F6
          rename News _ _ _ _ => N6
          have e1 : (119808 + 52 * al + d - 119808) / 52 = al := by omega
          have e2 : (119808 + 52 * al + d - 119808) % 52 = d := by omega
          refine UnrEnd.intro F6 N6 ((q, _) :: (A ++ T2)) (fun x hx => .tail _ hx) (List.forall_mem_cons.mpr ⟨qI, I2⟩) ⟨.tail _ (List.mem_append_left _ hl), cs2, ws0 ++ [w0 ++ [97 + d]], _, kw, _, _, T2, hv, hg2, rfl, ?_, hT2, hAT2, mw, rfl, .inr (by simp), by omega, ?_, ?_, ?_, q2, I2⟩
          · rw [List.map_append, strOf_snoc]
            exact kct_snoc hW0
          · rw [hV, wordsGo, if_neg hnb, e1, e2, if_pos heq, List.dropLast_concat, ew]
          · simp only [List.length_append, List.length_singleton] at hb1 ⊢
            omega
          · have : (ws0 ++ [w0 ++ [97 + d]]).getLastD [] = w0 ++ [97 + d] := by simp
            rw [this, List.length_append, List.length_singleton]
            omega
      · have hs1 : FitS (Str.ofString "") ⟨#[97 + d]⟩ := by
          unfold FitS
          have h1 : (Str.ofString "").length = 0 := rfl
          have h2 : (⟨#[97 + d]⟩ : Str).length = 1 := rfl
          omega
        k_steps
        · rename @Eq Bool _ true => hx
          simp at hx
        · rename Fr _ _ _ _ => F6
          rename News _ _ _ _ => N6
          have e1 : (119808 + 52 * al + d - 119808) / 52 = al := by omega
          have e2 : (119808 + 52 * al + d - 119808) % 52 = d := by omega
          refine UnrEnd.intro F6 N6 ((q, _) :: (A ++ T2)) (fun x hx => .tail _ hx) (List.forall_mem_cons.mpr ⟨qI, I2⟩) ⟨.tail _ (List.mem_append_left _ hl), cs2, ws ++ [[97 + d]], _, _, _, _, T2, hv, hg2, rfl, ?_, hT2, hAT2, mw, rfl, .inr (by simp), by omega, ?_, ?_, ?_, q2, I2⟩
          · rw [List.map_append, strOf_one]
            exact kct_snoc hW
          · rw [hV, wordsGo, if_neg hnb, e1, e2, if_neg heq]
          · simp only [List.length_append, List.length_singleton]
            omega
          · have : (ws ++ [[97 + d]]).getLastD [] = [97 + d] := by simp
            rw [this, List.length_singleton]
            omega
end
theorem prime19 : rw_ul0020_02.prog = rw_ul0020_02.prog ∧ KL = KL := by k_fill; exact ⟨rfl, rfl⟩
local macro_rules | `(tactic| walk_at "CompSrc") => `(tactic| refine HoldK.out ?_)
local macro_rules | `(tactic| walk_at "exec For Name Tuple cons nil") => `(tactic| (k_here; (rename Fr _ _ _ _ => lF'); (with_unfolding_all refine' For_turns lF' ?_; k_whole)))
theorem ldX {M : Model} {A : Around} {E : Value → Shared → Prop} {s : Shared} {h₀ : Heap} {m : Str → Option Value} {env : Env} {x : Str} {pos : Pos} {v : Value} {Q : Value → Shared → Prop} (F : Fr h₀ env.locals s.heap m) (hv : m x = some v) (h : Q v s)
    (hk : env.scope.kind = .function) (hl : env.kindOf x = some .local) (hd : (x == ("__debug__" : Str)) = false) : wpAny M A (eval (.Name x pos) env) Q E s := wpAny_Name (wpAny_loadName_local hk hl F.ns hv h) hd
local macro_rules | `(tactic| walk_at "eval Name") => `(tactic| (k_here; (with_reducible show wpAny _ _ (eval (Expr.Name _ _) (envX _ _ _ _ _ _)) _ _ _); k_dflt (refine' ldX ?k1 ?k2 ?_ ?k3 ?k4 ?k5; (case k1 => k_asm); (case k2 => first | exact rfl | assumption); (case k3 => rfl); (case k4 => rfl); (case k5 => decide); k_whole)))
theorem neSame {prog : Program} {w : World} {A : Around} {E : Value → Shared → Prop} {s : Shared} {a : Int} {t u : Tok} {Q : Value → Shared → Prop} (h : Q (.bool false) s) : wpAny (model prog w) A (compareOp .NotEq (.int a t) (.int a u)) Q E s := PyProof.Rows.ne_int (by rw [bne_self_eq_false]; exact h)
local macro_rules | `(tactic| walk_at "compareOp NotEq int int") => `(tactic| refine neSame ?_)
local macro_rules | `(tactic| walk_at "subscriptTail Name Slice ref ref") => `(tactic| refine HoldK.out ?_)
local macro_rules | `(tactic| walk_at "eval ListComp") => `(tactic| refine HoldK.out ?_)
local macro_rules | `(tactic| walk_at "call type:bytes") => `(tactic| refine HoldK.out ?_)
theorem item_strTo {prog : Program} {w : World} {A : Around} {E : Value → Shared → Prop} {s : Shared} {value slice : PySem.Expr} {h₀ : Heap} {L D : Addr} {news : List (Addr × Obj)} {vs : List Value} {ss : List Str} {n k : Nat} {y : Str} {u : Tok} {Q : Value → Shared → Prop} (N : News h₀ L s.heap news) (hm : (D, listOf vs.toArray n) ∈ news) (hi : StrsAre vs ss) (e : ss[k]? = some y) (h1 : k < 1000) (h : ∀ t, Q (.str y t) s)
    (hs : subscripted slice false (.ref D) (.int (k : Int) u) = operate [.ref D, .int (k : Int) u] (getItem (.ref D) (.int (k : Int) u))) :
    wpAny (model prog w) A (subscriptTail value slice (.ref D) (.int (k : Int) u)) Q E s := by
  have hl : s.heap.IsList D vs.toArray := PySem.IsL.isList (n := n) (N _ hm).1
  have key : ∀ {vs : List Value} {ss : List Str}, StrsAre vs ss → ∀ k : Nat, ss[k]? = some y → ∃ t, vs[k]? = some (.str y t) := by
    intro vs ss hh
    induction hh with
    | nil => intro k e; simp at e
    | cons z t _ ih =>
      intro k e
      cases k with
      | zero => exact ⟨t, by simp at e; simp [e]⟩
      | succ k => exact ih k (by simpa using e)
  obtain ⟨t, ht⟩ := key hi k e
  exact tail_any hl.typeIs slot_list_getitem.lookup (wpAny_getItem_list hl (by omega) (by omega) (by rw [Int.toNat_natCast]; simpa using ht) (h t)) hs
local macro_rules | `(tactic| walk_at "subscriptTail Name Name ref int") => `(tactic| (k_here; (with_reducible show wpAny _ _ (subscriptTail _ _ (Value.ref _) (Value.int _ _)) _ _ _); k_dflt (refine' item_strTo ?k1 ?k2 ?k3 ?k4 ?k5 ?_ ?k7; (case k1 => k_asm); (case k2 => k_mem); (case k3 => with_reducible assumption); (case k4 => with_reducible assumption); (case k5 => omega); (case k7 => with_unfolding_all rfl); k_whole); intro _))
theorem neSameB {prog : Program} {w : World} {A : Around} {E : Value → Shared → Prop} {s : Shared} {a b : Array UInt8} {t u : Tok} {Q : Value → Shared → Prop} (e : a = b) (h : Q (.bool false) s) : wpAny (model prog w) A (compareOp .NotEq (.bytes a t) (.bytes b u)) Q E s := by
  subst e
  exact ne_bytes (by rw [bne_self_eq_false]; exact h)
local macro_rules | `(tactic| walk_at "compareOp NotEq bytes bytes") => `(tactic| refine neSameB (by with_reducible assumption) ?_)
noncomputable def sideB : List Stmt := match bL21 with | _ :: _ :: _ :: _ :: _ :: _ :: (.For _ _ b _ _) :: _ => b | _ => []
noncomputable def turnB : List Stmt := match sideB with | _ :: _ :: _ :: _ :: _ :: (.For _ _ b _ _) :: _ => b | _ => []
noncomputable def kB : List Stmt := match turnB with | _ :: (.For _ _ b _ _) :: _ => b | _ => []
/-- a run of statements goes on behind, the frame and the ledger so -/
noncomputable def NextP (g : Heap) (L' : Addr) (s : Shared) (R : (Str → Option Value) → List (Addr × Obj) → Prop) : Flow → Shared → Prop := fun fl s' => fl = .next ∧ ∃ h' tk' m' n', s' = { s with heap := h', toks := tk' } ∧ Fr g L' h' m' ∧ News g L' h' n' ∧ R m' n'
theorem big_mul {x n y : Nat} (h : x ≤ n * y) (hn : n ≤ 4) (hy : y < 2 ^ 250) : x < 2 ^ 300 := by
  have h1 : n * y ≤ 4 * y := Nat.mul_le_mul_right _ hn
  have h2 : 2 ^ 2 * 2 ^ 250 ≤ 2 ^ 300 := by rw [← Nat.pow_add]; exact Nat.pow_le_pow_right (by decide) (by decide)
  generalize 2 ^ 300 = a at *
  generalize 2 ^ 250 = b at *
  omega
section
variable {w : World} {mean : ExcName → Option Value} {mg mb : Str → Option Value}
set_option maxRecDepth 100000 in
set_option maxHeartbeats 8000000 in
theorem k_turn {dp un : Nat} {gd : Option (List Code)} {outer : List Env} {A₀ : Around} {base g : Heap} {f L' : Addr} {cdv : Value} {h₁ : Heap} {s : Shared} {A T : List (Addr × Obj)} {m : Str → Option Value}
    {side W c : Int} {row : List Int} {ns : List Nat} {q q3 : Addr} {us Ws : List Value} {kq k3 k : Nat} {ts tt tr tk : Tok}
    (B : Below A₀ base outer g) (F : Fr g L' h₁ m) (N : News g L' h₁ (A ++ T)) (X : (KL w.params).In g) (T0 : Top topProg looseL mean mg mb g) (C : HdOk g) (hT : Tabs T) (hD : Dis A T) (hd : dp ≤ 400) (hu : un + 400 < cLine)
    (hs : side = 1 ∨ side = -1) (hc : c ≠ 0) (hr : Rise side row) (hW : W = c * prodL row) (hWb : W.natAbs < 2 ^ 250) (hrb : ∀ r ∈ row, r.natAbs < 2 ^ 60) (hlen : row.length ≤ 4) (hns : row = ns.map fun n : Nat => (n : Int))
    (hq : (q, listOf us.toArray kq) ∈ A) (hi : IntsAre us row) (hq3 : (q3, listOf Ws.toArray k3) ∈ A) (hi3 : StrsAre Ws (ns.map fun n => strOf (wordOf n))) (hk : k < row.length)
    (ms : m (S "side") = some (.int side ts)) (mt : m (S "turned") = some (.int W tt)) (mr : m (S "rest") = some (.int (partV side W (row.drop k)) tr)) (mrow : m (S "row") = some (.ref q)) (mw : m (S "words") = some (.ref q3)) (mk : m (S "k") = some (.int (k : Int) tk)) :
    wpAny (ML w) (ktrTop dp un gd nL21 sL21 L' f cdv [(S "starts", L' + 1 + 1), (S "script", L' + 1)] outer) (execs kB (envX nL21 sL21 L' f cdv [(S "starts", L' + 1 + 1), (S "script", L' + 1)]))
      (NextP g L' s (fun m' n' => (∃ tr', m' (S "rest") = some (.int (partV side W (row.drop (k + 1))) tr')) ∧ (∀ y, y ≠ S "quotient" → y ≠ S "rest" → m' y = m y) ∧ ∃ T', n' = A ++ T' ∧ Tabs T' ∧ Dis A T')) noE { s with heap := h₁ } := by
  obtain ⟨f1, f2, f3⟩ := law_div_at hs hc hr hW hk
  have b1 := partV_abs hs (whole := W) (ds := row.drop k) fun d hd => hr.pos d (List.mem_of_mem_drop hd)
  have b2 : (partV side W (row.drop k)).natAbs < 2 ^ 300 := by
    have h3 : (row.drop k).length ≤ 4 := by rw [List.length_drop]; omega
    exact big_mul b1 h3 hWb
  obtain ⟨SW, eSW⟩ : ∃ x, side * W = x := ⟨_, rfl⟩
  have bSW : SW.natAbs < 2 ^ 300 := by
    have h3 : SW.natAbs ≤ 1 * W.natAbs := by rw [← eSW]; rcases hs with rfl | rfl <;> omega
    exact big_mul h3 (by decide) hWb
  have mSW : IntMulOk side W := PySem.IntMulOk.of_left (by rcases hs with rfl | rfl <;> decide)
  obtain ⟨r, er⟩ : ∃ x, row.getD k 0 = x := ⟨_, rfl⟩
  rw [er] at f1
  have er' : row.getD ((k : Nat) : Int).toNat 0 = r := by rw [Int.toNat_natCast]; exact er
  obtain ⟨SR, eSR⟩ : ∃ x, side * r = x := ⟨_, rfl⟩
  have mSR : IntMulOk side r := PySem.IntMulOk.of_left (by rcases hs with rfl | rfl <;> decide)
  rw [eSW, eSR] at f1
  rw [eSW] at f2
  obtain ⟨Y1, eY1⟩ : ∃ x, partV side W (row.drop (k + 1)) = x := ⟨_, rfl⟩
  rw [eY1] at f2 ⊢
  generalize partV side W (row.drop k) = Y0 at *
  have e1 : ((k : Nat) : Int) + 1 = ((k + 1 : Nat) : Int) := by omega
  have e2 : ((k : Nat) : Int) < row.length := by omega
  have e3 : (0 : Int) ≤ ((k : Nat) : Int) := by omega
  have hd2 : dp + 30 < recursionLimit := Nat.lt_of_le_of_lt (Nat.add_le_add_right hd 30) (by decide)
  have hu2 : un + 250 < cLine := Nat.lt_of_le_of_lt (Nat.add_le_add_left (by decide) un) hu
  dsimp only [kB, turnB, sideB, bL21, sL21, S] at *
  k_steps
  (refine' Spec.use ?wS ?wB ?wF ?wN ?wX ?wT ?wC ?wk ?wd ?wu ?_; (case wB => k_asm); (case wF => k_asm); (case wN => k_asm); (case wX => k_asm); (case wT => k_asm); (case wC => k_asm); (case wk => exact rfl); (case wS => exact (spec_dm SW Y0 _ _ (A := A) (T := T) bSW b2 f3 hT hD)); (case wd => omega); (case wu => omega))
  rintro _ _ h2 tk2 ⟨p, tq, tr2, T2, rfl, he, hp, hT2, hD2⟩ F2 N2
  rw [he, f1, f2] at N2
  have hm1 : (q, listOf us.toArray kq) ∈ (p, tup2 SR Y1 tq tr2) :: (A ++ T2) := .tail _ (List.mem_append_left _ hq)
  have hm3 : (q3, listOf Ws.toArray k3) ∈ (p, tup2 SR Y1 tq tr2) :: (A ++ T2) := .tail _ (List.mem_append_left _ hq3)
  k_steps
  unfold HoldK
  rename Fr _ _ _ _ => F3
  rename News _ _ _ _ => N3
  have hus : us.length ≤ 100000 := by rw [hi.length]; omega
  refine slice_from (s := ⟨_, _, _, _, _⟩) F3 N3 hm1 hi hus (fun D ws h4 F4 N4 l4 hw => ?_) (by with_unfolding_all rfl) (by intro _; with_unfolding_all rfl)
  clear F3 N3
  k_steps
  (refine' Spec.use ?wS ?wB ?wF ?wN ?wX ?wT ?wC ?wk ?wd ?wu ?_; (case wB => k_asm); (case wF => k_asm); (case wN => k_asm); (case wX => k_asm); (case wT => k_asm); (case wC => k_asm); (case wk => exact rfl); (case wS => exact (spec_part D ws (row.drop (k + 1)) hw 0 W side _ _ (.head _) (fun d hd => ⟨by have := hr.pos d (List.mem_of_mem_drop hd); omega, Nat.lt_trans (hrb d (List.mem_of_mem_drop hd)) (Nat.pow_lt_pow_right (by decide) (by decide))⟩) hs)); (case wd => omega); (case wu => omega))
  rintro _ _ h5 tk5 ⟨⟨tp, rfl⟩, rfl⟩ F5 N5
  rw [eY1]
  k_steps
  obtain ⟨n, hn⟩ : ∃ n, ns.getD k 0 = n := ⟨_, rfl⟩
  have hkn : k < ns.length := by rw [hns, List.length_map] at hk; exact hk
  have hrn : r = (n : Int) := by
    rw [← er, ← hn, hns]
    simp [hkn]
  have hr1 : 1 ≤ r := by
    refine hr.pos r ?_
    rw [← er]
    have : row.getD k 0 = row[k] := by simp [hk]
    rw [this]
    exact List.getElem_mem hk
  have hn0 : 0 < n := by omega
  have hSRn : SR.natAbs = n := by rw [← eSR, hrn]; rcases hs with rfl | rfl <;> omega
  have hnb : n < 2 ^ 60 := by
    have := hrb r (by
      rw [← er]
      have : row.getD k 0 = row[k] := by simp [hk]
      rw [this]
      exact List.getElem_mem hk)
    rw [hrn, Int.natAbs_natCast] at this
    exact this
  have hx : SR.natAbs < 16 ^ 100 := by
    rw [hSRn]
    exact Nat.lt_trans hnb (by rw [show 16 = 2 ^ 4 from rfl, ← Nat.pow_mul]; exact Nat.pow_lt_pow_right (by decide) (by decide))
  (refine' Spec.use ?wS ?wB ?wF ?wN ?wX ?wT ?wC ?wk ?wd ?wu ?_; (case wB => k_asm); (case wF => k_asm); (case wN => k_asm); (case wX => k_asm); (case wT => k_asm); (case wC => k_asm); (case wk => exact rfl); (case wS => exact (spec_ap SR _ _ hx)); (case wd => omega); (case wu => omega))
  rintro _ _ h6 tk6 ⟨⟨ta, rfl⟩, rfl⟩ F6 N6
  rw [hSRn, ap_hex hn0]
  have hwk : (ns.map fun n => strOf (wordOf n))[k]? = some (strOf (wordOf n)) := by
    rw [List.getElem?_map, ← hn]
    simp [hkn]
  have hKl : hexK n ≤ 15 := hexK_le hnb
  have hm5 : (q3, listOf Ws.toArray k3) ∈ (D, listOf ws.toArray 0) :: (p, tup2 SR Y1 tq tr2) :: (A ++ T2) := .tail _ hm3
  have hk1000 : k < 1000 := by omega
  k_steps
  unfold HoldK
  refine ListComp_S F6 (by with_unfolding_all rfl) (by decide) (by rfl) (by decide) (by rfl) ?_
  k_steps
  rename_i tw
  have hcs : (strOf (wordOf n)).cps.size = hexK n := by
    show (wordOf n).toArray.size = _
    rw [List.size_toArray, wordOf, List.length_map, hexd_len]
  refine StrSrc.intro rfl F6 N6 (by rw [hcs]; omega) fun g' => ?_
  rw [hcs]
  refine compRest_ind (Inv := fun j i ys n' => i + j = hexK n ∧ n' = (D, listOf ws.toArray 0) :: (p, tup2 SR Y1 tq tr2) :: (A ++ T2) ∧ IntsAre ys (((hexd n (hexK n)).take i).map fun d : Nat => ((65 + d : Nat) : Int))) ?_ ?_ _ _ _ _ ⟨by omega, rfl, .nil⟩
  · rintro i ys n' ⟨hij, rfl, hys⟩ D3 h7 tk7 F7 N7 o7
    have hi' : i = hexK n := by omega
    subst hi'
    rw [List.take_of_length_le (by rw [hexd_len]; omega)] at hys
    k_steps
    unfold HoldK
    refine KBa.make_K F7 N7 rfl ⟨_, (N7 _ (.head _)).1, rfl, _, rfl⟩ hys ?_ ?_ fun h8 t8 k8 F8 N8 _ => ?_
    · intro x hx
      obtain ⟨d, hd8, rfl⟩ := List.mem_map.mp hx
      have := hexd_lt _ _ d hd8
      omega
    · rw [List.length_map, hexd_len]
      omega
    have hbe : (List.map (fun d => UInt8.ofNat (65 + d)) (hexd n (hexK n))).toArray = byteArr ((hexd n (hexK n)).map fun d : Nat => ((65 + d : Nat) : Int)) := by
      unfold byteArr
      rw [List.map_map]
      rfl
    k_steps
    refine ⟨rfl, _, _, _, _, rfl, F8, nsub N8 (b := A ++ T2) (fun x hx => .tail _ (.tail _ (.tail _ hx))), ⟨_, rfl⟩, fun y h1 h2 => ?_, T2, rfl, hT2, hD2⟩
    show (if y = Str.ofString "rest" then _ else if y = Str.ofString "quotient" then _ else m y) = m y
    rw [if_neg h2, if_neg h1]
  · rintro j i ys n' ⟨hij, rfl, hys⟩ v I oI Cc oC D3 m₂ h7 tk7 E' hv hC hx7 F7 N7 off ne
    obtain ⟨ch, u7, hch, rfl⟩ := hv
    obtain ⟨d, hd7, rfl⟩ : ∃ d, (hexd n (hexK n))[i]? = some d ∧ 97 + d = ch := by
      have hch' : ((hexd n (hexK n)).map fun d => 97 + d)[i]? = some ch := by
        have : (wordOf n).toArray[i]? = some ch := hch
        simpa [wordOf] using this
      rw [List.getElem?_map] at hch'
      rcases hgd : (hexd n (hexK n))[i]? with _ | d
      · rw [hgd] at hch'; cases hch'
      · rw [hgd] at hch'; exact ⟨d, rfl, by simpa using hch'⟩
    have g1 : ((97 + d : Nat) : Int) - 32 = ((65 + d : Nat) : Int) := by omega
    k_steps
    rename_i t9
    refine LCg.CompEnd.intro F7 N7 _ (fun p hp => hp) off trivial ⟨by omega, rfl, ?_⟩
    rw [List.take_add_one, hd7, Option.toList_some, List.map_append]
    exact hys.append (.cons _ _ .nil)
end
theorem prime20 : rw_ul0020_02.prog = rw_ul0020_02.prog ∧ KL = KL := by k_fill; exact ⟨rfl, rfl⟩
section
variable {w : World} {mean : ExcName → Option Value} {mg mb : Str → Option Value}
noncomputable def InvK (m : Str → Option Value) (A : List (Addr × Obj)) (side W : Int) (row : List Int) (I : Addr) (k i : Nat) (m' : Str → Option Value) (n' : List (Addr × Obj)) : Prop :=
  i + k = row.length ∧ (∃ tr, m' (S "rest") = some (.int (partV side W (row.drop i)) tr)) ∧ (∀ y, y ≠ S "quotient" → y ≠ S "rest" → y ≠ S "k" → m' y = m y) ∧ ∃ T', n' = A ++ T' ∧ Tabs T' ∧ Dis A T' ∧ ∀ p ∈ A ++ T', p.1 ≠ I
set_option maxRecDepth 100000 in
set_option maxHeartbeats 8000000 in
theorem t_turn {dp un : Nat} {gd : Option (List Code)} {outer : List Env} {A₀ : Around} {base g : Heap} {f L' : Addr} {cdv : Value} {h₁ : Heap} {s : Shared} {A T : List (Addr × Obj)} {m : Str → Option Value}
    {side W c : Int} {row : List Int} {ns : List Nat} {q q3 : Addr} {us Ws : List Value} {kq k3 : Nat} {ts tt tc : Tok}
    (B : Below A₀ base outer g) (F : Fr g L' h₁ m) (N : News g L' h₁ (A ++ T)) (X : (KL w.params).In g) (T0 : Top topProg looseL mean mg mb g) (C : HdOk g) (hT : Tabs T) (hD : Dis A T) (hd : dp ≤ 400) (hu : un + 400 < cLine)
    (hs : side = 1 ∨ side = -1) (hc : c ≠ 0) (hr : Rise side row) (hW : W = c * prodL row) (hWb : W.natAbs < 2 ^ 250) (hrb : ∀ r ∈ row, r.natAbs < 2 ^ 60) (hlen : row.length ≤ 4) (hns : row = ns.map fun n : Nat => (n : Int))
    (hq : (q, listOf us.toArray kq) ∈ A) (hi : IntsAre us row) (hq3 : (q3, listOf Ws.toArray k3) ∈ A) (hi3 : StrsAre Ws (ns.map fun n => strOf (wordOf n)))
    (ms : m (S "side") = some (.int side ts)) (mt : m (S "turned") = some (.int W tt)) (mrow : m (S "row") = some (.ref q)) (mw : m (S "words") = some (.ref q3)) (mc : m (S "count") = some (.int (row.length : Int) tc)) :
    wpAny (ML w) (ktrTop dp un gd nL21 sL21 L' f cdv [(S "starts", L' + 1 + 1), (S "script", L' + 1)] outer) (execs turnB (envX nL21 sL21 L' f cdv [(S "starts", L' + 1 + 1), (S "script", L' + 1)]))
      (NextP g L' s (fun m' n' => (∀ y, y ≠ S "quotient" → y ≠ S "rest" → y ≠ S "k" → m' y = m y) ∧ ∃ T', n' = A ++ T' ∧ Tabs T' ∧ Dis A T')) noE { s with heap := h₁ } := by
  have hd2 : dp + 30 < recursionLimit := Nat.lt_of_le_of_lt (Nat.add_le_add_right hd 30) (by decide)
  have hu2 : un + 250 < cLine := Nat.lt_of_le_of_lt (Nat.add_le_add_left (by decide) un) hu
  have hm1 : (q, listOf us.toArray kq) ∈ A ++ T := List.mem_append_left _ hq
  dsimp only [turnB, sideB, bL21, sL21, S] at *
  k_steps
  (refine' Spec.use ?wS ?wB ?wF ?wN ?wX ?wT ?wC ?wk ?wd ?wu ?_; (case wB => k_asm); (case wF => k_asm); (case wN => k_asm); (case wX => k_asm); (case wT => k_asm); (case wC => k_asm); (case wk => exact rfl); (case wS => exact (spec_part q us row hi kq W side _ _ hm1 (fun d hd => ⟨by have := hr.pos d hd; omega, Nat.lt_trans (hrb d hd) (Nat.pow_lt_pow_right (by decide) (by decide))⟩) hs)); (case wd => omega); (case wu => omega))
  rintro _ _ h5 tk5 ⟨⟨tp, rfl⟩, rfl⟩ F5 N5
  k_steps
  unfold HoldK
  rename IsRange _ _ _ _ _ _ _ _ => hR
  rename Fr _ _ _ _ => F6
  rename News _ _ _ _ => N6
  refine iter_rangeUnr rfl hR (small_one (by decide) (by decide) (by omega) (by omega)) (rangeSize_nat _ _) F6 N6 fun I hI => rangeRest_ind (Inv := InvK m A side W row I) ?_ ?_ _ _ _ _ ⟨by omega, ⟨_, rfl⟩, fun y h1 h2 h3 => ?_, T, rfl, hT, hD, fun p hp => Nat.ne_of_lt (hI p hp)⟩
  · rintro i m' n' ⟨hik, _, hm', T', rfl, hT', hD', hI'⟩ h tk F N
    k_steps
    exact ⟨rfl, h, _, m', A ++ T', rfl, F, N, hm', T', rfl, hT', hD'⟩
  · rintro k i m' n' ⟨hik, ⟨tr, mr⟩, hm', T', rfl, hT', hD', hI'⟩ t h tk F N
    have e0 : (0 : Int) + (i : Int) = ((i : Nat) : Int) := by omega
    rw [e0] at F
    refine wpAny_mono (k_turn (f := f) (L' := L') (cdv := cdv) (s := { s with toks := tk }) (A := (I, itR _ _) :: A) (T := T') (k := i) B F N X T0 C hT' (List.forall_mem_cons.mpr ⟨fun p hp => hI' p (List.mem_append_right _ hp), hD'⟩) hd hu hs hc hr hW hWb hrb hlen hns (.tail _ hq) hi (.tail _ hq3) hi3 (by omega) ((hm' _ (by decide) (by decide) (by decide)).trans ms) ((hm' _ (by decide) (by decide) (by decide)).trans mt) mr ((hm' _ (by decide) (by decide) (by decide)).trans mrow) ((hm' _ (by decide) (by decide) (by decide)).trans mw) rfl) ?_ (fun _ _ x => x.elim)
    · rintro _ _ ⟨rfl, h7, tk7, m7, n7, rfl, F7, N7, ⟨tr7, mr7⟩, hm7, T7, rfl, hT7, hD7⟩
      have I7 : ∀ p ∈ A ++ T7, p.1 ≠ I := fun p hp => by
        rcases List.mem_append.mp hp with hp | hp
        · exact hI' p (List.mem_append_left _ hp)
        · exact hD7 _ (.head _) p hp
      refine UnrEnd.intro F7 N7 (A ++ T7) (fun p hp => hp) ?_ ⟨by omega, ⟨tr7, mr7⟩, fun y h1 h2 h3 => ?_, T7, rfl, hT7, fun a ha => hD7 a (.tail _ ha), ?_⟩
      · exact I7
      · rw [hm7 y h1 h2]
        rw [if_neg (show ¬ y = Str.ofString "k" from h3)]
        exact hm' y h1 h2 h3
      · exact I7
  · dsimp only
    rw [if_neg (show ¬ y = Str.ofString "rest" from h2)]
end
theorem prime21a : rw_ul0020_02.prog = rw_ul0020_02.prog ∧ KL = KL := by k_fill; exact ⟨rfl, rfl⟩
noncomputable def prodS : Stmt := match sideB with | _ :: _ :: _ :: _ :: x :: _ => x | _ => .Pass ⟨0, 0, 0, 0⟩
noncomputable def turnS : Stmt := match sideB with | _ :: _ :: _ :: _ :: _ :: x :: _ => x | _ => .Pass ⟨0, 0, 0, 0⟩
theorem NextP.use {M : Model} {A : Around} {T : Sem Flow} {g : Heap} {L' : Addr} {s s0 : Shared} {R : (Str → Option Value) → List (Addr × Obj) → Prop} {Q : Flow → Shared → Prop} {E : Value → Shared → Prop} (h : wpAny M A T (NextP g L' s R) noE s0)
    (k : ∀ h' tk' m' n', Fr g L' h' m' → News g L' h' n' → R m' n' → Q .next { s with heap := h', toks := tk' }) : wpAny M A T Q E s0 :=
  wpAny_mono h (fun _ _ ⟨e, h', tk', m', n', e2, F, N, r⟩ => e ▸ e2 ▸ k h' tk' m' n' F N r) fun _ _ (x : False) => x.elim
theorem prodL_snoc (a : List Int) (d : Int) : prodL (a ++ [d]) = prodL a * d := by
  rw [prodL_append]; simp [prodL]
section
variable {w : World} {mean : ExcName → Option Value} {mg mb : Str → Option Value}
noncomputable def InvProd (m : Str → Option Value) (n0 : List (Addr × Obj)) (cm : Int) (row : List Int) (I : Addr) (vs : List Value) (m' : Str → Option Value) (n' : List (Addr × Obj)) : Prop :=
  ∃ (pre ds : List Int) (t : Tok), n' = n0 ∧ row = pre ++ ds ∧ IntsAre vs ds ∧ m' (S "whole") = some (.int (cm * prodL pre) t) ∧ (∀ y, y ≠ S "whole" → y ≠ S "number" → m' y = m y) ∧ ∀ p ∈ n0, p.1 ≠ I
set_option maxRecDepth 100000 in
set_option maxHeartbeats 8000000 in
theorem prod_loop {dp un : Nat} {gd : Option (List Code)} {outer : List Env} {A₀ : Around} {base g : Heap} {f L' : Addr} {cdv : Value} {h₁ : Heap} {s : Shared} {news : List (Addr × Obj)} {m : Str → Option Value}
    {cm : Int} {row : List Int} {q : Addr} {us : List Value} {kq : Nat} {t0 : Tok}
    (B : Below A₀ base outer g) (F : Fr g L' h₁ m) (N : News g L' h₁ news) (X : (KL w.params).In g) (T0 : Top topProg looseL mean mg mb g) (C : HdOk g) (hd : dp ≤ 400) (hu : un + 400 < cLine)
    (hrb : ∀ r ∈ row, r.natAbs < 2 ^ 60) (hq : (q, listOf us.toArray kq) ∈ news) (hi : IntsAre us row)
    (mw : m (S "whole") = some (.int cm t0)) (mrow : m (S "row") = some (.ref q)) :
    wpAny (ML w) (ktrTop dp un gd nL21 sL21 L' f cdv [(S "starts", L' + 1 + 1), (S "script", L' + 1)] outer) (exec prodS (envX nL21 sL21 L' f cdv [(S "starts", L' + 1 + 1), (S "script", L' + 1)]))
      (NextP g L' s (fun m' n' => n' = news ∧ (∃ t, m' (S "whole") = some (.int (cm * prodL row) t)) ∧ ∀ y, y ≠ S "whole" → y ≠ S "number" → m' y = m y)) noE { s with heap := h₁ } := by
  dsimp only [prodS, sideB, bL21, sL21, S] at *
  k_steps
  unfold HoldK
  rename Fr _ _ _ _ => F
  rename News _ _ _ _ => N
  refine iter_listUnr rfl F N hq rfl rfl fun I hI => listRest_ind (Inv := InvProd m news cm row I) ?_ ?_ _ _ _ ⟨[], row, t0, rfl, rfl, hi, by simp only [prodL, Int.mul_one]; exact mw, fun _ _ _ => rfl, fun p hp => Nat.ne_of_lt (hI p hp)⟩
  · rintro m' n' ⟨pre, ds, t, rfl, hrow, hv, mw', hm', hnI⟩ h tk F N
    cases hv
    rw [List.append_nil] at hrow
    subst hrow
    k_steps
    exact ⟨rfl, h, _, m', n', rfl, F, N, rfl, ⟨t, mw'⟩, hm'⟩
  · rintro v r m' n' ⟨pre, ds, t, rfl, hrow, hv, mw', hm', hnI⟩ it h tk hit F N
    cases hv
    rename_i d td ds' hv
    have hdb : d.natAbs < 2 ^ 60 := hrb d (by rw [hrow]; exact List.mem_append_right _ (.head _))
    have hdb2 : d.natAbs < 1152921504606846976 := hdb
    have hm1 : IntMulOk (cm * prodL pre) d := PySem.IntMulOk.of_right (PySem.intBits_le_64 (by omega) (by omega))
    have he1 : cm * prodL pre * d = cm * prodL (pre ++ [d]) := by rw [prodL_snoc, Int.mul_assoc]
    k_steps
    rename Fr _ _ _ _ => F6
    rename News _ _ _ _ => N6
    refine UnrEnd.intro F6 N6 n' (fun p hp => hp) hnI ⟨hq, pre ++ [d], ds', _, rfl, by rw [hrow, List.append_assoc]; rfl, hv, rfl, fun y h1 h2 => ?_, hnI⟩
    dsimp only
    rw [if_neg (show ¬ y = Str.ofString "whole" from h1), if_neg (show ¬ y = Str.ofString "number" from h2)]
    exact hm' y h1 h2
noncomputable def InvTurn (m : Str → Option Value) (A : List (Addr × Obj)) (row : List Int) (I : Addr) (tp : Addr × Obj) (vs : List Value) (m' : Str → Option Value) (n' : List (Addr × Obj)) : Prop :=
  ∃ T', n' = tp :: (A ++ T') ∧ Tabs T' ∧ (∀ p ∈ tp :: (A ++ T'), p.1 ≠ I) ∧ Dis (tp :: A) T' ∧ (∀ y, y ≠ S "quotient" → y ≠ S "rest" → y ≠ S "k" → y ≠ S "turned" → m' y = m y) ∧ ∀ v ∈ vs, ∃ W' c' t', v = .int W' t' ∧ c' ≠ 0 ∧ W' = c' * prodL row ∧ W'.natAbs < 2 ^ 250
set_option maxRecDepth 100000 in
set_option maxHeartbeats 8000000 in
theorem turn_loop {dp un : Nat} {gd : Option (List Code)} {outer : List Env} {A₀ : Around} {base g : Heap} {f L' : Addr} {cdv : Value} {h₁ : Heap} {s : Shared} {A T : List (Addr × Obj)} {m : Str → Option Value}
    {side W c : Int} {row : List Int} {ns : List Nat} {q q3 : Addr} {us Ws : List Value} {kq k3 : Nat} {ts tt tc : Tok}
    (B : Below A₀ base outer g) (F : Fr g L' h₁ m) (N : News g L' h₁ (A ++ T)) (X : (KL w.params).In g) (T0 : Top topProg looseL mean mg mb g) (C : HdOk g) (hT : Tabs T) (hD : Dis A T) (hd : dp ≤ 400) (hu : un + 400 < cLine)
    (hs : side = 1 ∨ side = -1) (hc : c ≠ 0) (hr : Rise side row) (hW : W = c * prodL row) (hWb : W.natAbs < 2 ^ 250) (hrb : ∀ r ∈ row, r.natAbs < 2 ^ 60) (hlen : row.length ≤ 4) (hns : row = ns.map fun n : Nat => (n : Int))
    (hq : (q, listOf us.toArray kq) ∈ A) (hi : IntsAre us row) (hq3 : (q3, listOf Ws.toArray k3) ∈ A) (hi3 : StrsAre Ws (ns.map fun n => strOf (wordOf n)))
    (ms : m (S "side") = some (.int side ts)) (mwh : m (S "whole") = some (.int W tt)) (mrow : m (S "row") = some (.ref q)) (mw : m (S "words") = some (.ref q3)) (mc : m (S "count") = some (.int (row.length : Int) tc)) :
    wpAny (ML w) (ktrTop dp un gd nL21 sL21 L' f cdv [(S "starts", L' + 1 + 1), (S "script", L' + 1)] outer) (exec turnS (envX nL21 sL21 L' f cdv [(S "starts", L' + 1 + 1), (S "script", L' + 1)]))
      (NextP g L' s (fun m' n' => (∀ y, y ≠ S "quotient" → y ≠ S "rest" → y ≠ S "k" → y ≠ S "turned" → m' y = m y) ∧ ∃ T', n' = A ++ T' ∧ Tabs T' ∧ Dis A T')) noE { s with heap := h₁ } := by
  dsimp only [turnS, sideB, bL21, sL21, S] at *
  k_steps
  unfold HoldK
  rename_i P h2 F2 N2 lP
  have hWn : (-W).natAbs = W.natAbs := Int.natAbs_neg W
  refine iter_tupTurns (n := 0) (vs := [_, _]) rfl F2 N2 (.head _) rfl rfl fun I hI => tup_ind (Inv := InvTurn m A row I (P, _)) ?_ ?_ _ _ _ ⟨T, rfl, hT, fun p hp => Nat.ne_of_lt (hI p hp), List.forall_mem_cons.mpr ⟨fun p hp => Nat.ne_of_lt (lP p (List.mem_append_right _ hp)), hD⟩, fun _ _ _ _ _ => rfl, ?_⟩
  · rintro m' n' ⟨T', rfl, hT', hI', hD', hm', _⟩ h tk F N
    k_steps
    exact ⟨rfl, h, _, m', A ++ T', rfl, F, nsub N (fun p hp => .tail _ hp), hm', T', rfl, hT', fun a ha => hD' a (.tail _ ha)⟩
  · rintro v r m' n' ⟨T', rfl, hT', hI', hD', hm', hv⟩ it h tk hit F N
    obtain ⟨W', c', t', rfl, hc', hW', hWb'⟩ := hv v (.head _)
    refine assign_K F N rfl rfl fun h3 F3 N3 => ?_
    refine wpAny_mono (t_turn (f := f) (L' := L') (cdv := cdv) (s := { s with toks := _ }) (A := (I, it) :: (P, _) :: A) (T := T') B F3 N3 X T0 C hT' (List.forall_mem_cons.mpr ⟨fun p hp => hI' p (.tail _ (List.mem_append_right _ hp)), hD'⟩) hd hu hs hc' hr hW' hWb' hrb hlen hns (.tail _ (.tail _ hq)) hi (.tail _ (.tail _ hq3)) hi3 ((hm' _ (by decide) (by decide) (by decide) (by decide)).trans ms) rfl ((hm' _ (by decide) (by decide) (by decide) (by decide)).trans mrow) ((hm' _ (by decide) (by decide) (by decide) (by decide)).trans mw) ((hm' _ (by decide) (by decide) (by decide) (by decide)).trans mc)) ?_ (fun _ _ x => x.elim)
    rintro _ _ ⟨rfl, h7, tk7, m7, n7, rfl, F7, N7, hm7, T7, rfl, hT7, hD7⟩
    have I7 : ∀ p ∈ (P, _) :: (A ++ T7), p.1 ≠ I := List.forall_mem_cons.mpr ⟨hI' _ (.head _), fun p hp => by
      rcases List.mem_append.mp hp with hp | hp
      · exact hI' p (.tail _ (List.mem_append_left _ hp))
      · exact hD7 _ (.head _) p hp⟩
    refine ⟨h7, tk7, m7, (P, _) :: (A ++ T7), rfl, F7, N7, fun p hp q hq => ?_, .head _, T7, rfl, hT7, I7, fun a ha => hD7 a (.tail _ ha), fun y h1 h2 h3 h4 => ?_, fun v hv' => hv v (.tail _ hv')⟩
    · rcases List.mem_singleton.mp hq with rfl
      exact I7 p hp
    · rw [hm7 y h1 h2 h3, if_neg (show ¬ y = Str.ofString "turned" from h4)]
      exact hm' y h1 h2 h3 h4
  · intro v hv
    rcases List.mem_cons.mp hv with rfl | hv
    · exact ⟨W, c, _, rfl, hc, hW, hWb⟩
    rcases List.mem_cons.mp hv with rfl | hv
    · exact ⟨-W, -c, _, rfl, by omega, by rw [hW, Int.neg_mul], by rw [hWn]; exact hWb⟩
    · cases hv
end
theorem prime21 : rw_ul0020_02.prog = rw_ul0020_02.prog ∧ KL = KL := by k_fill; exact ⟨rfl, rfl⟩
local macro_rules | `(tactic| walk_at "subscriptTail ListComp Slice ref ref") => `(tactic| refine HoldK.out ?_)
local macro_rules | `(tactic| walk_at "compareOp NotEq ref ref") => `(tactic| refine HoldK.out ?_)
local macro_rules | `(tactic| walk_at "exec For Name Name cons nil") => `(tactic| refine HoldK.out ?_)
local macro_rules | `(tactic| walk_at "exec For Name Tuple cons nil") => `(tactic| refine HoldK.out ?_)
section
variable {w : World} {mean : ExcName → Option Value} {mg mb : Str → Option Value}
/-- the names that a side leaves as they are -/
noncomputable abbrev keepL : List Str := [S "steps", S "count", S "common", S "order", S "strewn"]
theorem strs_at {vs : List Value} {ss : List Str} (h : StrsAre vs ss) : ∀ {k : Nat} {v : Value}, vs[k]? = some v → ∃ y t, ss[k]? = some y ∧ v = .str y t := by
  induction h with
  | nil => intro k v e; simp at e
  | cons z t _ ih =>
    intro k v e
    cases k with
    | zero => exact ⟨z, t, rfl, by simpa using e.symm⟩
    | succ k => exact ih (by simpa using e)
set_option maxRecDepth 100000 in
set_option maxHeartbeats 8000000 in
theorem s_turn {dp un : Nat} {gd : Option (List Code)} {outer : List Env} {A₀ : Around} {base g : Heap} {f L' : Addr} {cdv : Value} {h₁ : Heap} {s : Shared} {A T : List (Addr × Obj)} {m : Str → Option Value}
    {side : Int} {ds : List Int} {ys : List Value} {qs : Addr} {ky cm od st : Nat} {ts tc tm to tst : Tok}
    (B : Below A₀ base outer g) (F : Fr g L' h₁ m) (N : News g L' h₁ (A ++ T)) (X : (KL w.params).In g) (T0 : Top topProg looseL mean mg mb g) (C : HdOk g) (hT : Tabs T) (hD : Dis A T) (hd : dp ≤ 400) (hu : un + 400 < cLine)
    (hs : side = 1 ∨ side = -1) (hcm : 0 < cm) (hcm2 : cm < 2 ^ 41) (hds : ∀ d ∈ ds, 0 ≤ d ∧ d < 68719476736) (hlen : ds.length ≤ 4)
    (hq : (qs, listOf ys.toArray ky) ∈ A) (hi : IntsAre ys ds)
    (ms : m (S "side") = some (.int side ts)) (mst : m (S "steps") = some (.ref qs)) (mc : m (S "count") = some (.int (ds.length : Int) tc)) (mcm : m (S "common") = some (.int (cm : Int) tm)) (mo : m (S "order") = some (.int (od : Int) to)) (mstr : m (S "strewn") = some (.int (st : Int) tst)) :
    wpAny (ML w) (ktrTop dp un gd nL21 sL21 L' f cdv [(S "starts", L' + 1 + 1), (S "script", L' + 1)] outer) (execs sideB (envX nL21 sL21 L' f cdv [(S "starts", L' + 1 + 1), (S "script", L' + 1)]))
      (NextP g L' s (fun m' n' => (∀ y ∈ keepL, m' y = m y) ∧ ∃ T', n' = A ++ T' ∧ Tabs T' ∧ Dis A T')) noE { s with heap := h₁ } := by
  have hd2 : dp + 35 < recursionLimit := Nat.lt_of_le_of_lt (Nat.add_le_add_right hd 35) (by decide)
  have hu2 : un + 350 < cLine := Nat.lt_of_le_of_lt (Nat.add_le_add_left (by decide) un) hu
  have hrise := rowV_rise hs (ds := ds) fun d hd => (hds d hd).1
  obtain ⟨row, hrow⟩ : ∃ r, rowV side ds = r := ⟨_, rfl⟩
  rw [hrow] at hrise
  have hrl : row.length = ds.length := by rw [← hrow, rowV_len]
  have hr39 : ∀ r ∈ row, r.natAbs ≤ 2 ^ 39 := fun r hr => by
    have h1 := hrise.pos r hr
    have h2 := rowGo_le side ds.length 68719476735 ds 0 1 1 (fun d hd => by have := (hds d hd).2; omega) (by decide) (Int.le_refl _) r (by rw [← hrow] at hr; exact hr)
    have h3 : (ds.length : Int) * (68719476735 + 2) ≤ 4 * (68719476735 + 2) := Int.mul_le_mul_of_nonneg_right (by omega) (by decide)
    have e : 2 ^ 39 = 549755813888 := by decide
    omega
  obtain ⟨ns, hns⟩ : ∃ ns : List Nat, row = ns.map fun n : Nat => (n : Int) := ⟨row.map Int.toNat, by
    rw [List.map_map]
    conv => lhs; rw [← List.map_id row]
    refine List.map_congr_left fun r hr => ?_
    have := hrise.pos r hr
    show r = ((r.toNat : Nat) : Int)
    omega⟩
  have hnl : ns.length = ds.length := by rw [← hrl, hns, List.length_map]
  have hnb : ∀ n ∈ ns, 0 < n ∧ n < 2 ^ 60 := fun n hn => by
    have hm : (n : Int) ∈ row := by rw [hns]; exact List.mem_map.mpr ⟨n, hn, rfl⟩
    have h1 := hrise.pos _ hm
    have h2 := hr39 _ hm
    rw [Int.natAbs_natCast] at h2
    exact ⟨by omega, Nat.lt_of_le_of_lt h2 (by decide)⟩
  have hm0 : (qs, listOf ys.toArray ky) ∈ A ++ T := List.mem_append_left _ hq
  dsimp only [sideB, bL21, sL21, S] at *
  k_steps
  (refine' Spec.use ?wS ?wB ?wF ?wN ?wX ?wT ?wC ?wk ?wd ?wu ?_; (case wB => k_asm); (case wF => k_asm); (case wN => k_asm); (case wX => k_asm); (case wT => k_asm); (case wC => k_asm); (case wk => exact rfl); (case wS => exact (spec_row qs ys ds hi ky side _ hm0 (by omega))); (case wd => omega); (case wu => omega))
  rintro _ _ h2 tk2 ⟨q, rs, kq, rfl, rfl, hrs, hqn⟩ F2 N2
  rw [hrow] at hrs
  k_steps
  (refine' Spec.use ?wS ?wB ?wF ?wN ?wX ?wT ?wC ?wk ?wd ?wu ?_; (case wB => k_asm); (case wF => k_asm); (case wN => k_asm); (case wX => k_asm); (case wT => k_asm); (case wC => k_asm); (case wk => exact rfl); (case wS => exact (spec_text q rs ns (by rw [← hns]; exact hrs) (fun n hn => ⟨(hnb n hn).1, Nat.lt_trans (hnb n hn).2 (Nat.pow_lt_pow_right (by decide) (by decide))⟩) (by omega) kq od st _ _ (.head _))); (case wd => omega); (case wu => omega))
  rintro _ _ h3 tk3 ⟨q2, ts2, k2, rfl, rfl, hts, hq2n⟩ F3 N3
  have D3 : Dis ((q2, listOf ts2.toArray k2) :: (q, listOf rs.toArray kq) :: A) T := List.forall_mem_cons.mpr ⟨fun p hp => hq2n p (.tail _ (List.mem_append_right _ hp)), List.forall_mem_cons.mpr ⟨fun p hp => hqn p (List.mem_append_right _ hp), hD⟩⟩
  k_steps
  (refine' Spec.use ?wS ?wB ?wF ?wN ?wX ?wT ?wC ?wk ?wd ?wu ?_; (case wB => k_asm); (case wF => k_asm); (case wN => k_asm); (case wX => k_asm); (case wT => k_asm); (case wC => k_asm); (case wk => exact rfl); (case wS => exact (spec_words q2 ts2 (textRow 0 od st ns) hts (good_row ns 0 od st) (Nat.le_trans (row_len ns 0 od st fun n hn => (hnb n hn).2) (by omega)) k2 (A := (q2, listOf ts2.toArray k2) :: (q, listOf rs.toArray kq) :: A) (T := T) (.head _) hT D3)); (case wd => omega); (case wu => omega))
  rintro _ _ h4 tk4 ⟨q3, Ws, k3, T4, rfl, rfl, hWs, hq3n, hT4, hD4⟩ F4 N4
  rw [words_of, List.map_map] at hWs
  k_steps
  unfold HoldK
  rename Fr _ _ _ _ => F5
  rename News _ _ _ _ => N5
  generalize hA3 : (q2, listOf ts2.toArray k2) :: (q, listOf rs.toArray kq) :: A = A2 at *
  have hWl : Ws.length = ns.length := by rw [hWs.length, List.length_map]
  have mq3 : (q3, listOf Ws.toArray k3) ∈ (q3, listOf Ws.toArray k3) :: (A2 ++ T4) := .head _
  refine LCg.ListComp_U F5 (by with_unfolding_all rfl) (by decide) (by rfl) (by decide) (by rfl) ?_
  k_steps
  unfold HoldK
  refine LCg.CompSrc.ledger rfl F5 N5 mq3 (size_ok (by rw [hWl]; omega)) fun g' => ?_
  rw [List.size_toArray, hWl]
  have D43 : Dis ((q3, listOf Ws.toArray k3) :: A2) T4 := List.forall_mem_cons.mpr ⟨fun p hp => hq3n p (List.mem_append_right _ hp), hD4⟩
  refine compRest_ind (Inv := fun j i zs n' => i + j = ns.length ∧ IntsAre zs ((ns.take i).map fun n : Nat => (n : Int)) ∧ ∃ T', n' = (q3, listOf Ws.toArray k3) :: (A2 ++ T') ∧ Tabs T' ∧ Dis ((q3, listOf Ws.toArray k3) :: A2) T') ?_ ?_ _ _ _ _ ⟨by omega, .nil, T4, rfl, hT4, D43⟩
  · rintro i zs n' ⟨hij, hzs, T5, rfl, hT5, hD5⟩ D6 h6 tk6 F6 N6 o6
    have hi' : i = ns.length := by omega
    subst hi'
    rw [List.take_length, ← hns] at hzs
    k_steps
    unfold HoldK
    have mq : (q, listOf rs.toArray kq) ∈ (D6, LCg.lst zs) :: (q3, listOf Ws.toArray k3) :: (A2 ++ T5) := .tail _ (.tail _ (List.mem_append_left _ (by rw [← hA3]; exact .tail _ (.head _))))
    refine ne_intsK ⟨_, (N6 _ (.head _)).1, rfl, _, rfl⟩ hzs ⟨_, (N6 _ mq).1, rfl, _, rfl⟩ hrs (show un + 64 < cLine by omega) ?_
    rw [show (!decide (row = row)) = false by simp]
    k_steps
    unfold HoldK
    rename Fr _ _ _ _ => F7
    rename News _ _ _ _ => N7
    have N8 := nsub N7 (b := ((q3, listOf Ws.toArray k3) :: A2) ++ T5) (fun p hp => .tail _ hp)
    have hrb : ∀ r ∈ row, r.natAbs < 2 ^ 60 := fun r hr => Nat.lt_of_le_of_lt (hr39 r hr) (by decide)
    have mqA : (q, listOf rs.toArray kq) ∈ (q3, listOf Ws.toArray k3) :: A2 := .tail _ (by rw [← hA3]; exact .tail _ (.head _))
    refine NextP.use (s := { s with toks := tk6 + 1 }) (prod_loop (f := f) (L' := L') (cdv := cdv) (gd := gd) (s := { s with toks := tk6 + 1 }) (cm := cm) (row := row) (us := rs) (kq := kq) (t0 := tm) B F7 N8 X T0 C hd hu hrb (List.mem_append_left _ mqA) hrs rfl rfl) ?_
    rintro h8 tk8 m8 n8 F8 N8' ⟨rfl, ⟨t8, mw8⟩, hm8⟩
    k_steps
    unfold HoldK
    have hk8 : ∀ y, y ≠ S "whole" → y ≠ S "number" → y ≠ S "words" → y ≠ S "row" → m8 y = m y := fun y h1 h2 h3 h4 => by
      rw [hm8 y h1 h2]
      show (if y = S "whole" then _ else if y = S "words" then _ else if y = S "row" then _ else m y) = m y
      rw [if_neg h1, if_neg h3, if_neg h4]
    have m8w : m8 (S "words") = some (.ref q3) := (hm8 _ (by decide) (by decide)).trans rfl
    have m8r : m8 (S "row") = some (.ref q) := (hm8 _ (by decide) (by decide)).trans rfl
    have hc0 : (cm : Int) ≠ 0 := by omega
    have hpb := prodL_abs row hr39
    have hWb : ((cm : Int) * prodL row).natAbs < 2 ^ 250 := by
      rw [Int.natAbs_mul, Int.natAbs_natCast]
      have h1 : (2 ^ 39) ^ row.length ≤ 2 ^ 156 := by
        rw [← Nat.pow_mul]
        exact Nat.pow_le_pow_right (by decide) (by omega)
      have h2 : cm * (prodL row).natAbs ≤ 2 ^ 41 * 2 ^ 156 := Nat.mul_le_mul (Nat.le_of_lt hcm2) (Nat.le_trans hpb h1)
      rw [← Nat.pow_add] at h2
      exact Nat.lt_of_le_of_lt h2 (Nat.pow_lt_pow_right (by decide) (by decide))
    refine NextP.use (s := { s with toks := tk8 }) (turn_loop (f := f) (L' := L') (cdv := cdv) (gd := gd) (s := { s with toks := tk8 }) (W := (cm : Int) * prodL row) (c := (cm : Int)) (ns := ns) (A := (q3, listOf Ws.toArray k3) :: A2) (T := T5) B F8 N8' X T0 C hT5 hD5 hd hu hs hc0 hrise rfl hWb hrb (by omega) hns mqA hrs (.head _) hWs ((hk8 _ (by decide) (by decide) (by decide) (by decide)).trans ms) mw8 m8r m8w (by rw [hrl]; exact (hk8 _ (by decide) (by decide) (by decide) (by decide)).trans mc)) ?_
    rintro h9 tk9 m9 n9 F9 N9 ⟨hm9, T9, rfl, hT9, hD9⟩
    k_steps
    refine ⟨rfl, h9, _, m9, A ++ T9, rfl, F9, nsub N9 (fun p hp => .tail _ ?_), fun y hy => ?_, T9, rfl, hT9, fun a ha => hD9 a (.tail _ ?_)⟩
    · rcases List.mem_append.mp hp with hp | hp
      · exact List.mem_append_left _ (by rw [← hA3]; exact .tail _ (.tail _ hp))
      · exact List.mem_append_right _ hp
    · have hy' : y = S "steps" ∨ y = S "count" ∨ y = S "common" ∨ y = S "order" ∨ y = S "strewn" := by simpa [keepL] using hy
      rcases hy' with rfl | rfl | rfl | rfl | rfl <;> exact (hm9 _ (by decide) (by decide) (by decide) (by decide)).trans (hk8 _ (by decide) (by decide) (by decide) (by decide))
    · rw [← hA3]
      exact .tail _ (.tail _ ha)
  · rintro j i zs n' ⟨hij, hzs, T5, rfl, hT5, hD5⟩ v I oI Cc oC D6 m₂ h6 tk6 E' hv hC hx6 F6 N6 off ne
    have hv' : Ws[i]? = some v := by simpa using hv
    obtain ⟨y, ty, hy, rfl⟩ := strs_at hWs hv'
    obtain ⟨n, hn, rfl⟩ : ∃ n, ns[i]? = some n ∧ strOf (wordOf n) = y := by
      rw [List.getElem?_map] at hy
      rcases hgd : ns[i]? with _ | n
      · rw [hgd] at hy; cases hy
      · rw [hgd] at hy; exact ⟨n, rfl, by simpa using hy⟩
    obtain ⟨hn0, hnb60⟩ := hnb n (List.mem_of_getElem? hn)
    have hKl : hexK n ≤ 15 := hexK_le hnb60
    k_steps
    unfold HoldK
    refine ListComp_S F6 (by with_unfolding_all rfl) (by decide) (by rfl) (by decide) (by rfl) ?_
    k_steps
    have hcs : (strOf (wordOf n)).cps.size = hexK n := by
      show (wordOf n).toArray.size = _
      rw [List.size_toArray, wordOf, List.length_map, hexd_len]
    refine StrSrc.intro rfl F6 N6 (by rw [hcs]; omega) fun g' => ?_
    rw [hcs]
    refine compRest_ind (Inv := fun j i ys n' => i + j = hexK n ∧ n' = (I, oI) :: (Cc, oC) :: (D6, LCg.lst zs) :: (q3, listOf Ws.toArray k3) :: (A2 ++ T5) ∧ IntsAre ys (((hexd n (hexK n)).take i).map fun d : Nat => (d : Int))) ?_ ?_ _ _ _ _ ⟨by omega, rfl, .nil⟩
    · rintro i7 ys7 n' ⟨hij7, rfl, hys7⟩ D7 h7 tk7 F7 N7 o7
      have hi7 : i7 = hexK n := by omega
      subst hi7
      rw [List.take_of_length_le (by rw [hexd_len]; omega)] at hys7
      k_steps
      unfold HoldK
      have l7 : ys7.length ≤ 100000 := by rw [hys7.length, List.length_map, hexd_len]; omega
      refine krv_ints (s := ⟨_, _, _, _, _⟩) F7 N7 ⟨_, (N7 _ (.head _)).1, rfl, _, rfl⟩ (.int _ _) hys7 (fun D8 ws8 h8 F8 N8 l8 hw8 _ => ?_) (by with_unfolding_all rfl) (by intro _; with_unfolding_all rfl) (size_ok l7)
      have m7 := off1_mem o7
      have m6 := LCg.Off3.mem off
      have DD8 : Dis ((D8, listOf ws8.toArray 0) :: (D7, LCg.lst ys7) :: (I, oI) :: (Cc, oC) :: (D6, LCg.lst zs) :: (q3, listOf Ws.toArray k3) :: A2) T5 := by
        have in5 : ∀ p ∈ T5, p ∈ (q3, listOf Ws.toArray k3) :: (A2 ++ T5) := fun p hp => .tail _ (List.mem_append_right _ hp)
        refine List.forall_mem_cons.mpr ⟨fun p hp => Nat.ne_of_lt (l8 p (.tail _ (.tail _ (.tail _ (.tail _ (in5 p hp)))))), List.forall_mem_cons.mpr ⟨fun p hp => m7 p (.tail _ (.tail _ (.tail _ (in5 p hp)))), List.forall_mem_cons.mpr ⟨fun p hp => (m6 p (in5 p hp)).1, List.forall_mem_cons.mpr ⟨fun p hp => (m6 p (in5 p hp)).2.1, List.forall_mem_cons.mpr ⟨fun p hp => (m6 p (in5 p hp)).2.2, hD5⟩⟩⟩⟩⟩
      k_steps
      (refine' Spec.use ?wS ?wB ?wF ?wN ?wX ?wT ?wC ?wk ?wd ?wu ?_; (case wB => k_asm); (case wF => k_asm); (case wN => k_asm); (case wX => k_asm); (case wT => k_asm); (case wC => k_asm); (case wk => exact rfl); (case wS => exact (spec_d2i D8 ws8 _ hw8 0 4 _ (A := (D8, listOf ws8.toArray 0) :: (D7, LCg.lst ys7) :: (I, oI) :: (Cc, oC) :: (D6, LCg.lst zs) :: (q3, listOf Ws.toArray k3) :: A2) (T := T5) (.head _) (fun d hd => by
        rw [List.mem_reverse] at hd
        obtain ⟨x, hx, rfl⟩ := List.mem_map.mp hd
        have hx16 := hexd_lt _ _ x hx
        rw [Int.natAbs_natCast]
        exact Nat.lt_trans (Nat.lt_trans hx16 (by decide : 16 < 2 ^ 10)) (Nat.pow_lt_pow_right (by decide) (by decide))) (by decide) (by rw [List.length_reverse, List.length_map, hexd_len]; omega) hT5 DD8)); (case wd => omega); (case wu => omega))
      rintro _ _ h9 tk9 ⟨⟨t9, rfl⟩, T9, rfl, hT9, hD9⟩ F9 N9
      rw [dval_hex hn0]
      k_steps
      refine LCg.CompEnd.intro F9 N9 ((q3, listOf Ws.toArray k3) :: (A2 ++ T9)) (fun p hp => .tail _ (.tail _ hp)) (LCg.Off3.of fun p hp => ?_) (.inr ⟨_, .head _, rfl, _, rfl⟩) ⟨by omega, ?_, T9, rfl, hT9, fun a ha => hD9 a (.tail _ (.tail _ (.tail _ (.tail _ (.tail _ ha)))))⟩
      · rcases List.mem_cons.mp hp with rfl | hp
        · exact m6 _ (.head _)
        rcases List.mem_append.mp hp with hp | hp
        · exact m6 p (.tail _ (List.mem_append_left _ hp))
        · exact ⟨hD9 (I, oI) (.tail _ (.tail _ (.head _))) p hp, hD9 (Cc, oC) (.tail _ (.tail _ (.tail _ (.head _)))) p hp, hD9 (D6, LCg.lst zs) (.tail _ (.tail _ (.tail _ (.tail _ (.head _))))) p hp⟩
      · rw [List.take_add_one, hn, Option.toList_some, List.map_append]
        exact hzs.append (.cons _ _ .nil)
    · rintro j7 i7 ys7 n' ⟨hij7, rfl, hys7⟩ v I7 oI7 C7 oC7 D7 m₇ h7 tk7 E7 hv7 hC7 hx7 F7 N7 off7 ne7
      obtain ⟨ch, u7, hch, rfl⟩ := hv7
      obtain ⟨d, hd7, rfl⟩ : ∃ d, (hexd n (hexK n))[i7]? = some d ∧ 97 + d = ch := by
        have hch' : ((hexd n (hexK n)).map fun d => 97 + d)[i7]? = some ch := by
          have : (wordOf n).toArray[i7]? = some ch := hch
          simpa [wordOf] using this
        rw [List.getElem?_map] at hch'
        rcases hgd : (hexd n (hexK n))[i7]? with _ | d
        · rw [hgd] at hch'; cases hch'
        · rw [hgd] at hch'; exact ⟨d, rfl, by simpa using hch'⟩
      have g1 : ((97 + d : Nat) : Int) - 97 = ((d : Nat) : Int) := by omega
      k_steps
      refine LCg.CompEnd.intro F7 N7 _ (fun p hp => hp) off7 trivial ⟨by omega, rfl, ?_⟩
      rw [List.take_add_one, hd7, Option.toList_some, List.map_append]
      exact hys7.append (.cons _ _ .nil)
end
theorem prime22 : rw_ul0020_02.prog = rw_ul0020_02.prog ∧ KL = KL := by k_fill; exact ⟨rfl, rfl⟩
/-- the tables stand in the ledger -/
noncomputable def TabsIn (n' : List (Addr × Obj)) : Prop := ∃ T', Tabs T' ∧ ∀ p ∈ T', p ∈ n'
noncomputable def sideS : Stmt := match bL21 with | _ :: _ :: _ :: _ :: _ :: _ :: x :: _ => x | _ => .Pass ⟨0, 0, 0, 0⟩
section
variable {w : World} {mean : ExcName → Option Value} {mg mb : Str → Option Value}
noncomputable def InvSide (m : Str → Option Value) (A : List (Addr × Obj)) (I : Addr) (tp : Addr × Obj) (vs : List Value) (m' : Str → Option Value) (n' : List (Addr × Obj)) : Prop :=
  ∃ T', n' = tp :: (A ++ T') ∧ Tabs T' ∧ (∀ p ∈ tp :: (A ++ T'), p.1 ≠ I) ∧ Dis (tp :: A) T' ∧ (∀ y ∈ keepL, m' y = m y) ∧ ∀ v ∈ vs, ∃ t, v = .int 1 t ∨ v = .int (-1) t
local macro_rules | `(tactic| walk_at "exec For Name Tuple cons nil") => `(tactic| (k_here; (rename Fr _ _ _ _ => lF'); (with_unfolding_all refine' For_turns lF' ?_; k_whole)))
set_option maxRecDepth 100000 in
set_option maxHeartbeats 8000000 in
theorem side_loop {dp un : Nat} {gd : Option (List Code)} {outer : List Env} {A₀ : Around} {base g : Heap} {f L' : Addr} {cdv : Value} {h₁ : Heap} {s : Shared} {A T : List (Addr × Obj)} {m : Str → Option Value}
    {ds : List Int} {ys : List Value} {qs : Addr} {ky cm od st : Nat} {tc tm to tst : Tok}
    (B : Below A₀ base outer g) (F : Fr g L' h₁ m) (N : News g L' h₁ (A ++ T)) (X : (KL w.params).In g) (T0 : Top topProg looseL mean mg mb g) (C : HdOk g) (hT : Tabs T) (hD : Dis A T) (hd : dp ≤ 400) (hu : un + 400 < cLine)
    (hcm : 0 < cm) (hcm2 : cm < 2 ^ 41) (hds : ∀ d ∈ ds, 0 ≤ d ∧ d < 68719476736) (hlen : ds.length ≤ 4)
    (hq : (qs, listOf ys.toArray ky) ∈ A) (hi : IntsAre ys ds)
    (mst : m (S "steps") = some (.ref qs)) (mc : m (S "count") = some (.int (ds.length : Int) tc)) (mcm : m (S "common") = some (.int (cm : Int) tm)) (mo : m (S "order") = some (.int (od : Int) to)) (mstr : m (S "strewn") = some (.int (st : Int) tst)) :
    wpAny (ML w) (ktrTop dp un gd nL21 sL21 L' f cdv [(S "starts", L' + 1 + 1), (S "script", L' + 1)] outer) (exec sideS (envX nL21 sL21 L' f cdv [(S "starts", L' + 1 + 1), (S "script", L' + 1)]))
      (NextP g L' s (fun m' n' => TabsIn n')) noE { s with heap := h₁ } := by
  dsimp only [sideS, bL21, sL21, S] at *
  k_steps
  unfold HoldK
  rename_i P h2 F2 N2 lP
  refine iter_tupTurns (n := 0) (vs := [_, _]) rfl F2 N2 (.head _) rfl rfl fun I hI => tup_ind (Inv := InvSide m A I (P, _)) ?_ ?_ _ _ _ ⟨T, rfl, hT, fun p hp => Nat.ne_of_lt (hI p hp), List.forall_mem_cons.mpr ⟨fun p hp => Nat.ne_of_lt (lP p (List.mem_append_right _ hp)), hD⟩, fun _ _ => rfl, ?_⟩
  · rintro m' n' ⟨T', rfl, hT', hI', hD', hm', _⟩ h tk F N
    k_steps
    exact ⟨rfl, h, _, m', _, rfl, F, N, T', hT', fun p hp => .tail _ (List.mem_append_right _ hp)⟩
  · rintro v r m' n' ⟨T', rfl, hT', hI', hD', hm', hv⟩ it h tk hit F N
    obtain ⟨side, t', rfl, hs⟩ : ∃ side t', v = .int side t' ∧ (side = 1 ∨ side = -1) := by
      obtain ⟨t, rfl | rfl⟩ := hv v (.head _)
      · exact ⟨1, t, rfl, .inl rfl⟩
      · exact ⟨-1, t, rfl, .inr rfl⟩
    refine assign_K F N rfl rfl fun h3 F3 N3 => ?_
    have hk : ∀ y ∈ keepL, (fun z => if z = S "side" then some (Value.int side t') else m' z) y = m y := fun y hy => by
      have hne : y ≠ S "side" := by
        have hy' : y = S "steps" ∨ y = S "count" ∨ y = S "common" ∨ y = S "order" ∨ y = S "strewn" := by simpa [keepL] using hy
        rcases hy' with rfl | rfl | rfl | rfl | rfl <;> decide
      dsimp only
      rw [if_neg hne]
      exact hm' y hy
    refine wpAny_mono (s_turn (f := f) (L' := L') (cdv := cdv) (s := { s with toks := tk + 1 }) (A := (I, it) :: (P, _) :: A) (T := T') (m := fun z => if z = S "side" then some (Value.int side t') else m' z) B F3 N3 X T0 C hT' (List.forall_mem_cons.mpr ⟨fun p hp => hI' p (.tail _ (List.mem_append_right _ hp)), hD'⟩) hd hu hs hcm hcm2 hds hlen (.tail _ (.tail _ hq)) hi rfl ((hk _ (by decide)).trans mst) ((hk _ (by decide)).trans mc) ((hk _ (by decide)).trans mcm) ((hk _ (by decide)).trans mo) ((hk _ (by decide)).trans mstr)) ?_ (fun _ _ (x : False) => x.elim)
    rintro _ _ ⟨rfl, h7, tk7, m7, n7, rfl, F7, N7, hm7, T7, rfl, hT7, hD7⟩
    have I7 : ∀ p ∈ (P, _) :: (A ++ T7), p.1 ≠ I := List.forall_mem_cons.mpr ⟨hI' _ (.head _), fun p hp => by
      rcases List.mem_append.mp hp with hp | hp
      · exact hI' p (.tail _ (List.mem_append_left _ hp))
      · exact hD7 _ (.head _) p hp⟩
    refine ⟨h7, tk7, m7, (P, _) :: (A ++ T7), rfl, F7, N7, fun p hp q hq => ?_, .head _, T7, rfl, hT7, I7, fun a ha => hD7 a (.tail _ ha), fun y hy => ?_, fun v hv' => hv v (.tail _ hv')⟩
    · rcases List.mem_singleton.mp hq with rfl
      exact I7 p hp
    · exact (hm7 y hy).trans (hk y hy)
  · intro v hv
    rcases List.mem_cons.mp hv with rfl | hv
    · exact ⟨_, .inl rfl⟩
    rcases List.mem_cons.mp hv with rfl | hv
    · exact ⟨_, .inr rfl⟩
    · cases hv
end
theorem prime18 : rw_ul0020_02.prog = rw_ul0020_02.prog ∧ KL = KL := by k_fill; exact ⟨rfl, rfl⟩
local macro_rules | `(tactic| walk_at "CompSrc") => `(tactic| refine HoldK.out ?_)
local macro_rules | `(tactic| walk_at "exec For Name Tuple cons nil") => `(tactic| refine HoldK.out ?_)
theorem fmod_some (x : Int) {b : Nat} (hb : 0 < b) : ∃ k : Nat, x.fmod (b : Int) = (k : Int) ∧ k < b := by
  have h1 := Int.fmod_nonneg_of_pos x (by omega : (0 : Int) < (b : Int))
  have h2 := Int.fmod_lt_of_pos x (by omega : (0 : Int) < (b : Int))
  exact ⟨(x.fmod (b : Int)).toNat, by omega, by omega⟩
noncomputable def LawP (g : Heap) (L' : Addr) (s : Shared) (R : List (Addr × Obj) → Prop) : Flow → Shared → Prop := fun fl s' => ∃ h' tk' m' n', fl = .ret (.bool true) ∧ s' = { s with heap := h', toks := tk' } ∧ Fr g L' h' m' ∧ News g L' h' n' ∧ R n'
noncomputable def startsL : List Int := [2, 37, 500, 9000]
/-- a step of the law -/
noncomputable def stepAt (ns : List Int) (i : Nat) : Int := (cellV ns (1 + i) 8 (startsL.getD i 0)).fmod 68719476736
section
variable {w : World} {mean : ExcName → Option Value} {mg mb : Str → Option Value}
set_option maxRecDepth 100000 in
set_option maxHeartbeats 8000000 in
theorem law_body (l : Addr) (us : List Value) (ns : List Int) (hi : IntsAre us ns) (hz : us.length ≤ 63) {dp un : Nat} {gd : Option (List Code)} {outer : List Env} {A₀ : Around} {base g : Heap} {f L' : Addr} {cdv : Value} {h₁ : Heap} {s : Shared} {tk : Nat} {oS oT : Obj} {T : List (Addr × Obj)}
    (B : Below A₀ base outer g) (F : Fr g L' h₁ (fun _ => none)) (N : News g L' h₁ ((L' + 1 + 1, oT) :: (L' + 1, oS) :: T)) (dS : oS.data = .cell (some (.ref l))) (dT : oT.data = .cell none)
    (X : (KL w.params).In g) (T0 : Top topProg looseL mean mg mb g) (C : HdOk g) (hl : g.IsList l us.toArray) (hT : Tabs T) (lt : ∀ p ∈ T, p.1 < L') (hd : dp ≤ 400) (hu : un + 400 < cLine) :
    wpAny (ML w) (ktrTop dp un gd nL21 sL21 L' f cdv [(S "starts", L' + 1 + 1), (S "script", L' + 1)] outer) (execs bL21 (envX nL21 sL21 L' f cdv [(S "starts", L' + 1 + 1), (S "script", L' + 1)])) (LawP g L' s TabsIn) noE { s with heap := h₁, toks := tk } := by
  dsimp only [bL21, sL21, S] at *
  have hd2 : dp + 2 < recursionLimit := Nat.lt_of_le_of_lt (Nat.add_le_add_right hd 2) (by decide)
  have lt2 : L' < L' + 1 + 1 := Nat.lt_succ_of_lt (Nat.lt_succ_self L')
  have lt1 : L' < L' + 1 := Nat.lt_succ_self L'
  have n1 : L' + 1 ≠ L' + 1 + 1 := Nat.ne_of_lt (Nat.lt_succ_self _)
  have nT2 : ∀ p ∈ T, p.1 ≠ L' + 1 + 1 := fun p hp => Nat.ne_of_lt (Nat.lt_trans (lt p hp) lt2)
  have hu2 : un + 30 < cLine := Nat.lt_of_le_of_lt (Nat.add_le_add_left (by decide) un) hu
  have hz2 : us.length ≤ 10000000 := Nat.le_trans hz (by decide)
  obtain ⟨k0, c0, hk0⟩ := fmod_some (cellV ns 0 8 2) (by decide : 0 < 4)
  have c0' : (cellV ns 0 8 2).fmod 4 = (k0 : Int) := c0
  have c1 : (1 : Int) + (k0 : Int) = ((1 + k0 : Nat) : Int) := by omega
  obtain ⟨k5, c5, hk5⟩ := fmod_some (cellV ns 5 8 12345) (by decide : 0 < 1099511627776)
  have c5' : (cellV ns 5 8 12345).fmod 1099511627776 = (k5 : Int) := c5
  have c5p : (2 : Int) ^ (40 : Int).toNat = 1099511627776 := by decide
  have c5a : (1099511627776 : Int) + (k5 : Int) = ((1099511627776 + k5 : Nat) : Int) := by omega
  obtain ⟨k6, c6, hk6⟩ := fmod_some (cellV ns 6 8 480) (by decide : 0 < 6561)
  have c6' : (cellV ns 6 8 480).fmod 6561 = (k6 : Int) := c6
  have c6p : (9 : Int) ^ (4 : Int).toNat = 6561 := by decide
  obtain ⟨k7, c7, hk7⟩ := fmod_some (cellV ns 7 8 7968716) (by decide : 0 < 7696995872834089412498427582956590237436585436481822130176)
  have c7' : (cellV ns 7 8 7968716).fmod 7696995872834089412498427582956590237436585436481822130176 = (k7 : Int) := c7
  have c7p : (28 : Int) ^ (40 : Int).toNat = 7696995872834089412498427582956590237436585436481822130176 := by decide
  clear c0 c5 c6 c7
  k_steps
  (refine' cell_K (cn := nL21) (a := f) (ccd := cdv) l us ns 0 2 _ _ ?cB ?cF ?cN X T0 C rfl hd2 hu2 hl hi hz2 ?_; (case cB => k_asm); (case cF => k_asm); (case cN => k_asm)); intro t1 h2 tk2 F2 N2
  k_steps
  (try (any_goals first | exact (S "") | exact Value.none | exact (0 : Addr)))
  unfold HoldK
  rename_i tk0 q4 hC l1 hD oT' dT' tkA hE FE NE hF tkB ta tb tc hR FF NF _
  generalize hNL : ((q4, listOf #[Value.int 2 tk0, Value.int 37 (tk0 + 1), Value.int 500 (tk0 + 1 + 1), Value.int 9000 (tk0 + 1 + 1 + 1)] 0) :: (L' + 1 + 1, oT') :: (L' + 1, oS) :: T) = NL at *
  have hst : IntsAre [Value.int 2 tk0, Value.int 37 (tk0 + 1), Value.int 500 (tk0 + 1 + 1), Value.int 9000 (tk0 + 1 + 1 + 1)] startsL := .cons _ _ (.cons _ _ (.cons _ _ (.cons _ _ .nil)))
  generalize hVS : [Value.int 2 tk0, Value.int 37 (tk0 + 1), Value.int 500 (tk0 + 1 + 1), Value.int 9000 (tk0 + 1 + 1 + 1)] = vst at hst
  have hq4 : (q4, listOf vst.toArray 0) ∈ NL := by rw [← hNL, ← hVS]; exact .head _
  have hS1 : (L' + 1, oS) ∈ NL := by rw [← hNL]; exact .tail _ (.tail _ (.head _))
  have hS2 : (L' + 1 + 1, oT') ∈ NL := by rw [← hNL]; exact .tail _ (.head _)
  (try clear FE NE)
  refine LCg.CompSrc.range rfl FF NF hR (small_one (by omega) (by omega) (by omega) (by omega)) (rangeSize_nat _ _) (Nat.le_trans (by omega : 1 + k0 ≤ 100) (by decide)) fun g' => compRest_ind (Inv := fun k i ys n' => i + k = 1 + k0 ∧ n' = NL ∧ IntsAre ys ((List.range i).map (stepAt ns))) ?_ ?_ _ _ _ _ ⟨by omega, rfl, .nil⟩
  · rintro i ys n' ⟨hik, rfl, hys⟩ qs h3 tk3 F3 N3 o3
    have hik' : i = 1 + k0 := by omega
    subst hik'
    dsimp only at F3 N3 ⊢
    k_steps
    (refine' cell_K (cn := nL21) (a := f) (ccd := cdv) l us ns 5 12345 _ _ ?cB ?cF ?cN X T0 C rfl hd2 hu2 hl hi hz2 ?_; (case cB => k_asm); (case cF => k_asm); (case cN => k_asm)); intro t5 h5 tk5 F5 N5
    k_steps
    (refine' cell_K (cn := nL21) (a := f) (ccd := cdv) l us ns 6 480 _ _ ?cB ?cF ?cN X T0 C rfl hd2 hu2 hl hi hz2 ?_; (case cB => k_asm); (case cF => k_asm); (case cN => k_asm)); intro t6 h6 tk6 F6 N6
    k_steps
    (refine' cell_K (cn := nL21) (a := f) (ccd := cdv) l us ns 7 7968716 _ _ ?cB ?cF ?cN X T0 C rfl hd2 hu2 hl hi hz2 ?_; (case cB => k_asm); (case cF => k_asm); (case cN => k_asm)); intro t7 h7 tk7 F7 N7
    k_steps
    unfold HoldK
    rename Fr _ _ _ _ => F8
    rename News _ _ _ _ => N8
    obtain ⟨ds, hds⟩ : ∃ ds, (List.range (1 + k0)).map (stepAt ns) = ds := ⟨_, rfl⟩
    have hdl : ds.length = 1 + k0 := by rw [← hds, List.length_map, List.length_range]
    have hdb : ∀ d ∈ ds, 0 ≤ d ∧ d < 68719476736 := fun d hd => by
      rw [← hds] at hd
      obtain ⟨i, _, rfl⟩ := List.mem_map.mp hd
      exact ⟨Int.fmod_nonneg_of_pos _ (by decide), Int.fmod_lt_of_pos _ (by decide)⟩
    rw [hds] at hys
    have m3 := off1_mem o3
    subst hNL
    have DD : Dis [(qs, LCg.lst ys), (q4, listOf #[Value.int 2 tk0, Value.int 37 (tk0 + 1), Value.int 500 (tk0 + 1 + 1), Value.int 9000 (tk0 + 1 + 1 + 1)] 0), (L' + 1 + 1, oT'), (L' + 1, oS)] T :=
      List.forall_mem_cons.mpr ⟨fun p hp => m3 p (.tail _ (.tail _ (.tail _ hp))), List.forall_mem_cons.mpr ⟨fun p hp => Nat.ne_of_lt (allLt_get l1.2.2 p hp), List.forall_mem_cons.mpr ⟨nT2, List.forall_mem_cons.mpr ⟨fun p hp => Nat.ne_of_lt (Nat.lt_trans (lt p hp) (Nat.lt_succ_self _)), fun _ h => nomatch h⟩⟩⟩⟩
    have hcl : 1099511627776 + k5 < 2 ^ 41 := by
      rw [show (2 : Nat) ^ 41 = 2199023255552 from rfl]
      omega
    refine NextP.use (s := { s with toks := _ }) (side_loop (f := f) (L' := L') (cdv := cdv) (gd := gd) (s := { s with toks := _ }) (cm := 1099511627776 + k5) (od := k6) (st := k7) (ds := ds) (ys := ys) (ky := ys.length) (qs := qs) (A := [(qs, LCg.lst ys), (q4, _), (L' + 1 + 1, oT'), (L' + 1, oS)]) (T := T) B F8 N8 X T0 C hT DD hd hu (by omega) hcl hdb (by omega) (.head _) hys rfl (by rw [hdl]; rfl) rfl rfl rfl) ?_
    rintro h9 tk9 m9 n9 F9 N9 hn9
    k_steps
    exact ⟨h9, _, m9, n9, rfl, rfl, F9, N9, hn9⟩
  · rintro k i ys n' ⟨hik, rfl, hys⟩ v I oI Cc oC D m₂ h3 tk3 E' ⟨tv, rfl⟩ hC hx F3 N3 off ne
    have e0 : (0 : Int) + (i : Int) = ((i : Nat) : Int) := by omega
    rw [e0] at hx
    have e1 : (1 : Int) + ((i : Nat) : Int) = ((1 + i : Nat) : Int) := by omega
    have e2 : ((i : Nat) : Int) < startsL.length := by show _ < ((4 : Nat) : Int); omega
    have e3 : startsL.getD ((i : Nat) : Int).toNat 0 = startsL.getD i 0 := by rw [Int.toNat_natCast]
    have e4 : (16 : Int) ^ (9 : Int).toNat = 68719476736 := by decide
    have e5 : (cellV ns (1 + i) 8 (startsL.getD i 0)).fmod 68719476736 = stepAt ns i := rfl
    have e6 : (0 : Int) ≤ ((i : Nat) : Int) := by omega
    k_steps
    (refine' cell_K (cn := nL21) (a := f) (ccd := cdv) l us ns (1 + i) (startsL.getD i 0) _ _ ?cB ?cF ?cN X T0 C rfl hd2 hu2 hl hi hz2 ?_; (case cB => k_asm); (case cF => k_asm); (case cN => k_asm))
    intro t5 h5 tk5 F5 N5
    k_steps
    refine LCg.CompEnd.intro F5 N5 n' (fun p hp => hp) off trivial ⟨by omega, rfl, ?_⟩
    rw [List.range_succ, List.map_append]
    exact hys.append (.cons _ _ .nil)
end
theorem env_law (L fa : Addr) (cd : Value) : envOfC nL21 sL21 L fa cd = envX nL21 sL21 L fa cd [(S "starts", L + 1 + 1), (S "script", L + 1)] := by rfl
theorem deep_law (L fa : Addr) (cd : Value) : callerA.deeper (envOfC nL21 sL21 L fa cd) = ktrTop 302 7 (some []) nL21 sL21 L fa cd [(S "starts", L + 1 + 1), (S "script", L + 1)] [] := by rfl
theorem said9 : PySem.W.OpenLaw.wellSaid rw_ul0020_02 = true := by decide +kernel
set_option maxRecDepth 100000 in
set_option maxHeartbeats 8000000 in
theorem holds9 : rw_ul0020_02.Holds := by
  w_on
  refine holds_law said9 fun said => ?_
  refine holds_open (q := qv) (loose := loose1) (Xt := XtL) (XP := XL qv []) (Yf := Hook.obs H) (Ya := Hook.val H) (YP := Hook.says H) (N := NN) left1 (Hook.of H) (Hook.keeps H) (fun s e => xl_of s (Bool.and_eq_true_iff.mp e).1) XL.keeps (by rfl) (by rfl) (by rfl) (fun s e => recFacts_of (Bool.and_eq_true_iff.mp e).2) (by rfl) (by assumption) (by decide +kernel) ⟨rfl, rfl, rfl, rfl, rfl, by decide +kernel⟩ ?hw ?hc
  case hw => w_witness2
  k_fill
  intro w s₀ s₁ mg mb G Y fa o pm cd doc dV kV ho hd hcd hD hmg hg args vals as hpre hlay hrd hwl hlo
  have KX := kIn_of Y
  have X := (Ground.X G).1
  have V := (Ground.X G).2
  refine Ground.open G ?_
  intro T B D TE TW
  have hT9 : TabsAt ([(41, 37), (34, 30)]) s₁.heap := List.forall_mem_cons.mpr ⟨tab_of (x := Str.ofString "_digits2int") T KX rfl (by kernel_rfl), List.forall_mem_cons.mpr ⟨tab_of (x := Str.ofString "_int2digits") T KX rfl (by kernel_rfl), fun _ h => nomatch h⟩⟩
  clear hmg
  wrow_args hpre hlay hrd hwl hlo
  all_goals (
    first | refine callC_kw (enter_call ?_) | refine enter_call ?_
    w_top on
    kn_posts
    w_call any ho hd hcd hD T F
    clear hd
    kn_ghosts F T
    k_drop
    skip)
  rename IntsAre _ _ => hI
  rename (KL w.params).In _ => X9
  rename Top topProg _ _ _ _ _ => T9
  rename Below callerA _ _ _ => K9
  rename Fr _ _ _ _ => F9
  rename News _ _ _ _ => N9
  rename List Int => xs
  rename (_ ∧ _) => l9
  rename (¬ ((63 : Int) < _)) => h63
  have hlen := hI.length
  have tab0 : Tabs [(37, tabObj #[]), (30, tabObj #[])] := by
    refine ⟨⟨#[], .head _, fun o ho => ?_, .inl rfl⟩, ⟨#[], .tail _ (.head _), fun o ho => ?_, .inl rfl⟩⟩
    · rcases List.mem_cons.mp ho with e | ho
      · exact (Prod.mk.inj e).2
      · rcases List.mem_singleton.mp ho with e
        cases (Prod.mk.inj e).1
    · rcases List.mem_cons.mp ho with e | ho
      · cases (Prod.mk.inj e).1
      · exact (Prod.mk.inj (List.mem_singleton.mp ho)).2
  have lt9 : ∀ p ∈ [((37 : Addr), tabObj #[]), ((30 : Addr), tabObj #[])], p.1 < s₁.heap.objs.size := fun p hp => by
    rcases List.mem_cons.mp hp with rfl | hp
    · exact l9.1
    · rcases List.mem_singleton.mp hp with rfl
      exact l9.2
  rename_i h19 tk9 oT oS dT dS x0 codeHd1
  have main := law_body (f := fa) (cdv := cd) (L' := s₁.heap.objs.size) (dp := 302) (un := 7) (gd := some []) (outer := []) (s := s₁) (h₁ := h19) (tk := tk9) _ _ xs hI (by rw [hlen]; omega) K9 F9 N9 dS dT X9 T9 ⟨codeHd1, codeHd⟩ lifted tab0 lt9 (by decide) (by decide)
  rw [← deep_law, ← env_law] at main
  refine wpAny_mono (by with_unfolding_all exact main) (fun fl s' hr => ?_) (fun _ _ (x : False) => x.elim)
  obtain ⟨h', tk', m', n', rfl, rfl, F', N', T', hT', hn'⟩ := hr
  obtain ⟨p1, hp1, _⟩ := hT'.a
  obtain ⟨p2, hp2, _⟩ := hT'.b
  exact ⟨goodW_bool F' hg (raisesW_false (by wrow_none_raised)) (by wrow_post), GrownAt.of N' (hn' _ hp1), GrownAt.of N' (hn' _ hp2), True.intro⟩
end Mine
theorem PySem.Challenge.cw_ul0020_02_holds : PySem.Challenge.rw_ul0020_02.Holds := by
  exact Mine.holds9
