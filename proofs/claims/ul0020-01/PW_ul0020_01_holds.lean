import PyProof.Rows.All
import Wide.All
import OpenK.AllK
import Wide.FinOn
import Lean
import PySem.Challenge.RW_ul0020_01
set_option Elab.async false
set_option linter.unusedVariables false
open PySem PySem.W PyProof.Rows PySem.Challenge
namespace Mine
section
variable {tb : String → Option Builtin} {p : Program} {w : World} {n₀ : Nat} {ann : Option Value}

theorem topGo_add : ∀ {m n : Nat} {s s' s'' : Shared} {t t' t'' : Thread}, topGo tb p w n₀ ann m s t = some (s', t') → topGo tb p w n₀ ann n s' t' = some (s'', t'') → topGo tb p w n₀ ann (m + n) s t = some (s'', t'')
  | 0, n, s, s', s'', t, t', t'', h, k => by
    obtain ⟨rfl, rfl⟩ : s = s' ∧ t = t' := by simpa [topGo] using h
    rw [Nat.zero_add]; exact k
  | m + 1, n, s, s', s'', t, t', t'', h, k => by
    rw [show m + 1 + n = m + n + 1 by lia]
    unfold topGo at h ⊢
    cases ht : through t with
    | true => rw [ht] at h; cases h
    | false =>
      rw [ht] at h
      cases hk : stepOk n₀ ann t with
      | false => rw [hk] at h; cases h
      | true =>
        rw [hk] at h
        cases hs : step (denote tb) p w s t with
        | halt o s₂ => rw [hs] at h; cases h
        | go s₂ t₂ => rw [hs] at h; exact topGo_add h k

theorem topGo_one {s s' : Shared} {cur : Sem Fin} {code : Code} {pos : Pos} {f : Frame} {B : List Frame} {t' : Thread} (hk : stepOk n₀ ann ⟨cur, code, pos, f :: B⟩ = true)
    (hs : step (denote tb) p w s ⟨cur, code, pos, f :: B⟩ = .go s' t') : topGo tb p w n₀ ann 1 s ⟨cur, code, pos, f :: B⟩ = some (s', t') := by
  unfold topGo
  rw [show through ⟨cur, code, pos, f :: B⟩ = false from rfl, hk, hs]
  rfl

/-- a call that runs to its end: any frame, any continuation -/
noncomputable def CallRuns (tb : String → Option Builtin) (p : Program) (w : World) (n₀ : Nat) (ann : Option Value) (c : Code) (m : Nat) (s : Shared) (v : Value) (s' : Shared) : Prop :=
  ∀ (h : Option Value) (g : Bool) (l : List Value) (k : Result → Sem Fin) (b : List Stmt) (env : Env) (pos : Pos) (f : Frame) (B : List Frame),
    ∃ pos', topGo tb p w n₀ ann m s ⟨.call c h g l k, .body b env, pos, f :: B⟩ = some (s', ⟨k (.ok (.ret v)), .body b env, pos', f :: B⟩)

inductive Ev (tb : String → Option Builtin) (p : Program) (w : World) (n₀ : Nat) (ann : Option Value) {α : Type} : Sem α → Shared → Nat → α → Shared → Prop
  | pure {a s} : Ev tb p w n₀ ann (.pure a) s 0 a s
  | rule {t k s n a s'} (h : Ev tb p w n₀ ann (k ()) s n a s') : Ev tb p w n₀ ann (.rule t k) s (1 + n) a s'
  | «at» {q k s n a s'} (h : Ev tb p w n₀ ann (k ()) s n a s') : Ev tb p w n₀ ann (.at q k) s (1 + n) a s'
  | load {b part k s o n a s'} (ho : s.heap.get? b = some o) (h : Ev tb p w n₀ ann (k o) s n a s') : Ev tb p w n₀ ann (.load b part k) s (1 + n) a s'
  | update {b part f k s n a s'} (hb : n₀ ≤ b) (ho : (s.heap.get? b).isSome = true) (h : Ev tb p w n₀ ann (k ()) { s with heap := s.heap.update b f } n a s') : Ev tb p w n₀ ann (.update b part f k) s (1 + n) a s'
  | alloc {o k s n a s'} (h : Ev tb p w n₀ ann (k s.heap.objs.size) { s with heap := s.heap.push o } n a s') : Ev tb p w n₀ ann (.alloc o k) s (1 + n) a s'
  | point {l k s n a s'} (h : Ev tb p w n₀ ann (k ()) s n a s') : Ev tb p w n₀ ann (.point l k) s (1 + n) a s'
  | fresh {k s n a s'} (h : Ev tb p w n₀ ann (k s.toks) { s with toks := s.toks + 1 } n a s') : Ev tb p w n₀ ann (.fresh k) s (1 + n) a s'
  | ask {k s n a s'} (h : Ev tb p w n₀ ann (k ⟨p, w.params⟩) s n a s') : Ev tb p w n₀ ann (.ask k) s (1 + n) a s'
  | call {c hd g l k s m v s₁ n a s'} (hc : CallRuns tb p w n₀ ann c m s v s₁) (h : Ev tb p w n₀ ann (k (.ok (.ret v))) s₁ n a s') : Ev tb p w n₀ ann (.call c hd g l k) s (m + n) a s'

theorem Ev.cast {α : Type} {x y : Sem α} {s s' t' : Shared} {n m : Nat} {a : α} (h : Ev tb p w n₀ ann x s n a s') (e : y = x) (hn : n = m) (hs : s' = t') : Ev tb p w n₀ ann y s m a t' := by
  subst e; subst hn; subst hs; exact h

theorem Ev.bind {α β : Type} {x : Sem α} {f : α → Sem β} {s s' s'' : Shared} {n m : Nat} {a : α} {b : β} (h : Ev tb p w n₀ ann x s n a s') (k : Ev tb p w n₀ ann (f a) s' m b s'') : Ev tb p w n₀ ann (x.bind f) s (n + m) b s'' := by
  induction h with
  | pure => rw [Nat.zero_add]; exact k
  | rule _ ih => rw [Nat.add_assoc]; exact .rule (ih k)
  | «at» _ ih => rw [Nat.add_assoc]; exact .at (ih k)
  | load ho _ ih => rw [Nat.add_assoc]; exact .load ho (ih k)
  | update hb ho _ ih => rw [Nat.add_assoc]; exact .update hb ho (ih k)
  | alloc _ ih => rw [Nat.add_assoc]; exact .alloc (ih k)
  | point _ ih => rw [Nat.add_assoc]; exact .point (ih k)
  | fresh _ ih => rw [Nat.add_assoc]; exact .fresh (ih k)
  | ask _ ih => rw [Nat.add_assoc]; exact .ask (ih k)
  | call hc _ ih => rw [Nat.add_assoc]; exact .call hc (ih k)

theorem Ev.keep {α : Type} {x : Sem α} {s s' : Shared} {n : Nat} {a : α} (vs : List Value) (h : Ev tb p w n₀ ann x s n a s') : Ev tb p w n₀ ann (x.keep vs) s n a s' := by
  induction h with
  | pure => exact .pure
  | rule _ ih => exact .rule ih
  | «at» _ ih => exact .at ih
  | load ho _ ih => exact .load ho ih
  | update hb ho _ ih => exact .update hb ho ih
  | alloc _ ih => exact .alloc ih
  | point _ ih => exact .point ih
  | fresh _ ih => exact .fresh ih
  | ask _ ih => exact .ask ih
  | call hc _ ih => exact .call hc ih
theorem Ev.holding {α : Type} {x : Sem α} {s s' : Shared} {n : Nat} {a : α} (vs : List Value) (h : Ev tb p w n₀ ann x s n a s') : Ev tb p w n₀ ann (PySem.holding vs x) s n a s' := by
  unfold PySem.holding
  split
  · exact h
  · exact h.keep _
theorem Ev.tryCatch {α : Type} {x : Sem α} {f : Value → Sem α} {s s' : Shared} {n : Nat} {a : α} (h : Ev tb p w n₀ ann x s n a s') : Ev tb p w n₀ ann (x.tryCatch f) s n a s' := by
  induction h with
  | pure => exact .pure
  | rule _ ih => exact .rule ih
  | «at» _ ih => exact .at ih
  | load ho _ ih => exact .load ho ih
  | update hb ho _ ih => exact .update hb ho ih
  | alloc _ ih => exact .alloc ih
  | point _ ih => exact .point ih
  | fresh _ ih => exact .fresh ih
  | ask _ ih => exact .ask ih
  | call hc _ ih => exact .call hc ih
theorem Ev.onRaise {α : Type} {x : Sem α} {f : Value → Sem Unit} {s s' : Shared} {n : Nat} {a : α} (h : Ev tb p w n₀ ann x s n a s') : Ev tb p w n₀ ann (x.onRaise f) s n a s' := by
  induction h with
  | pure => exact .pure
  | rule _ ih => exact .rule ih
  | «at» _ ih => exact .at ih
  | load ho _ ih => exact .load ho ih
  | update hb ho _ ih => exact .update hb ho ih
  | alloc _ ih => exact .alloc ih
  | point _ ih => exact .point ih
  | fresh _ ih => exact .fresh ih
  | ask _ ih => exact .ask ih
  | call hc _ ih => exact .call hc ih

theorem Ev.go {α : Type} {x : Sem α} {s s' : Shared} {n : Nat} {a : α} (h : Ev tb p w n₀ ann x s n a s') : ∀ (K : α → Sem Fin) (b : List Stmt) (env : Env) (pos : Pos) (f : Frame) (B : List Frame),
    ∃ pos', topGo tb p w n₀ ann n s ⟨x.bind K, .body b env, pos, f :: B⟩ = some (s', ⟨K a, .body b env, pos', f :: B⟩) := by
  intro K b env pos f B
  induction h generalizing pos with
  | pure => exact ⟨pos, rfl⟩
  | rule _ ih => obtain ⟨q, hq⟩ := ih pos; exact ⟨q, topGo_add (topGo_one rfl rfl) hq⟩
  | «at» _ ih => obtain ⟨q, hq⟩ := ih _; exact ⟨q, topGo_add (topGo_one rfl rfl) hq⟩
  | @load b' part k s o n a s' ho _ ih =>
    obtain ⟨q, hq⟩ := ih pos
    refine ⟨q, topGo_add (topGo_one rfl ?_) hq⟩
    obtain ⟨heap, gens, drawn, toks, os⟩ := s
    simp only [Sem.bind, step]
    rw [show heap.get? b' = some o from ho]
  | @update b' part g k s n a s' hb ho _ ih =>
    obtain ⟨q, hq⟩ := ih pos
    refine ⟨q, topGo_add (topGo_one ?_ ?_) hq⟩
    · simp only [stepOk, Sem.bind]
      rw [show Nat.ble n₀ b' = true from Nat.ble_eq.mpr hb]; rfl
    · obtain ⟨heap, gens, drawn, toks, os⟩ := s
      simp only [Sem.bind, step]
      rw [if_pos (show (heap.get? b').isSome = true from ho)]
  | alloc _ ih =>
    obtain ⟨q, hq⟩ := ih pos
    refine ⟨q, topGo_add (topGo_one rfl ?_) hq⟩
    rename_i s _ _ _ _
    obtain ⟨heap, gens, drawn, toks, os⟩ := s
    rfl
  | point _ ih => obtain ⟨q, hq⟩ := ih pos; exact ⟨q, topGo_add (topGo_one rfl rfl) hq⟩
  | fresh _ ih => obtain ⟨q, hq⟩ := ih pos; exact ⟨q, topGo_add (topGo_one rfl rfl) hq⟩
  | ask _ ih => obtain ⟨q, hq⟩ := ih pos; exact ⟨q, topGo_add (topGo_one rfl rfl) hq⟩
  | call hc _ ih =>
    obtain ⟨q1, h1⟩ := hc _ _ _ _ b env pos f B
    obtain ⟨q, hq⟩ := ih q1
    exact ⟨q, topGo_add h1 hq⟩
end
noncomputable def askOf {α : Type} : Sem α → Setting → Option (Sem α)
  | .ask k, S => some (k S)
  | _, _ => none
noncomputable def callOf {α : Type} : Sem α → Option (Code × (Option Value × Bool × List Value) × (Result → Sem α))
  | .call c h g l k => some (c, (h, g, l), k)
  | _ => none
theorem askOf_some {α : Type} {x y : Sem α} {S : Setting} (h : askOf x S = some y) : ∃ k, x = .ask k ∧ k S = y := by
  cases x <;> simp only [askOf] at h <;> first | exact ⟨_, rfl, Option.some.inj h⟩ | cases h
theorem callOf_some {α : Type} {x : Sem α} {c m k} (h : callOf x = some (c, m, k)) : x = .call c m.1 m.2.1 m.2.2 k := by
  cases x <;> simp only [callOf] at h <;> first | (cases h; rfl) | cases h

section
variable {p : Program} {w : World} {n₀ : Nat} {ann : Option Value}
noncomputable def hM : Nat := 2 ^ 61 - 1
noncomputable def hashI (k : Nat) : Int := if ((if Int.ofNat k < 0 then -(((Int.ofNat k).natAbs % hM : Nat) : Int) else (((Int.ofNat k).natAbs % hM : Nat) : Int)) == -1) = true then -2 else if Int.ofNat k < 0 then -(((Int.ofNat k).natAbs % hM : Nat) : Int) else (((Int.ofNat k).natAbs % hM : Nat) : Int)
theorem hashI_eq {k : Nat} (h : k < 2 ^ 60) : hashI k = Int.ofNat k := by
  unfold hashI hM
  have h1 : ¬ (Int.ofNat k < 0) := by simp only [Int.ofNat_eq_natCast]; lia
  rw [if_neg h1]
  have h2 : (Int.ofNat k).natAbs % (2 ^ 61 - 1) = k := by
    simp only [Int.ofNat_eq_natCast, Int.natAbs_natCast]; lia
  rw [h2]
  rw [if_neg]; rfl
  simp only [beq_iff_eq]; lia
theorem hash_go (k t : Nat) (s : Shared) (h : Option Value) (g : Bool) (l : List Value) (K : Result → Sem Fin) (b : List Stmt) (env : Env) (pos : Pos) (f : Frame) (B : List Frame) :
  topGo treeTable p w n₀ ann 4 s ⟨.call (.call (.builtin "int.__hash__") ⟨[.int (Int.ofNat k) t], []⟩) h g l K, .body b env, pos, f :: B⟩ = some ({ s with toks := s.toks + 1 }, ⟨K (.ok (.ret (.int (hashI k) s.toks))), .body b env, pos, f :: B⟩) := by kernel_rfl
theorem hash_runs {k : Nat} (hk : k < 2 ^ 60) (t : Nat) (s : Shared) : CallRuns treeTable p w n₀ ann (.call (.builtin "int.__hash__") ⟨[.int (Int.ofNat k) t], []⟩) 4 s (.int (Int.ofNat k) s.toks) { s with toks := s.toks + 1 } := by
  intro h g l K b env pos f B
  refine ⟨pos, ?_⟩
  rw [hash_go, hashI_eq hk]
theorem pyHash_shape (k t u : Nat) (j : Int) (S : Params) (b : Bool) : ((askOf (pyHash (.int (Int.ofNat k) t)) ⟨p, { S with followText := fun r => if r = "special-get-raises" then b else S.followText r }⟩).bind callOf).map (fun r => (r.1, r.2.2 (.ok (.ret (.int j u))))) =
    some (.call (.builtin "int.__hash__") ⟨[.int (Int.ofNat k) t], []⟩, pyHashByItsType.reduced j) := by
  cases b <;> kernel_rfl
theorem reduced_eq {k : Nat} (hk : k < 2 ^ 60) : pyHashByItsType.reduced (Int.ofNat k) = Sem.pure (Int.ofNat k) := by
  unfold pyHashByItsType.reduced
  have h1 : (decide (-(2 ^ 63 : Int) ≤ Int.ofNat k) && decide (Int.ofNat k < 2 ^ 63)) = true := by
    simp only [Bool.and_eq_true, decide_eq_true_eq, Int.ofNat_eq_natCast]; lia
  rw [if_pos h1]
  rw [if_neg (by simp only [beq_iff_eq, Int.ofNat_eq_natCast]; lia)]
  rfl
theorem ev_pyHash {k : Nat} (hk : k < 2 ^ 60) (t : Nat) (s : Shared) : Ev treeTable p w n₀ ann (pyHash (.int (Int.ofNat k) t)) s 5 (Int.ofNat k) { s with toks := s.toks + 1 } := by
  have e := pyHash_shape (p := p) k t s.toks (Int.ofNat k) w.params (w.params.followText "special-get-raises")
  have e2 : ({ w.params with followText := fun r => if r = "special-get-raises" then w.params.followText "special-get-raises" else w.params.followText r } : Params) = w.params := congrArg World.params (World.withFollow_self w "special-get-raises")
  rw [e2] at e
  obtain ⟨r, h1, h2⟩ := Option.map_eq_some_iff.mp e
  obtain ⟨y, h3, h4⟩ := Option.bind_eq_some_iff.mp h1
  obtain ⟨kk, h5, h6⟩ := askOf_some h3
  obtain ⟨c, m, kc⟩ := r
  have h7 := callOf_some h4
  obtain ⟨h8, h9⟩ := Prod.mk.inj h2
  dsimp only at h8 h9
  subst h8
  rw [h5]
  refine (Ev.ask (n := 4) ?_)
  rw [h6, h7]
  refine (Ev.call (n := 0) (hash_runs hk t s) ?_)
  rw [h9, reduced_eq hk]
  exact .pure

theorem Ev.bind' {tb : String → Option Builtin} {α β : Type} {x : Sem α} {f : α → Sem β} {s s' s'' : Shared} {n m : Nat} {a : α} {b : β} (h : Ev tb p w n₀ ann x s n a s') (k : Ev tb p w n₀ ann (f a) s' m b s'') : Ev tb p w n₀ ann (x >>= f) s (n + m) b s'' := h.bind k

theorem places_none {es : Array DictEntry} {h : Int} (hn : ∀ e ∈ es, e.hash ≠ h) : placesWithHash es.size (fun i => es[i]?.map (·.hash)) h = [] := by
  unfold placesWithHash
  rw [List.filter_eq_nil_iff]
  intro i hi
  simp only [beq_iff_eq]
  intro e
  obtain ⟨x, hx, hh⟩ := Option.map_eq_some_iff.mp e
  exact hn x (Array.mem_of_getElem? hx) hh

theorem ev_dictFind {d : Addr} {key : Value} {h : Int} {s : Shared} {o : Obj} {es : Array DictEntry} {ep : Nat} (hd : s.heap.get? d = some o) (ho : o.data = .dict es ep) (hn : ∀ e ∈ es, e.hash ≠ h) (hk : carriedByValue key = true) (hks : ∀ x t, key ≠ .str x t) :
    Ev treeTable p w n₀ ann (dictFind d key h) s 1 none s := by
  unfold dictFind
  refine Ev.holding _ ?_
  refine Ev.bind' (n := 1) (m := 0) (a := es) (s' := s) ?_ ?_
  · unfold dictEntries loadPart
    refine Ev.load (n := 0) hd ?_
    show Ev treeTable p w n₀ ann (match o.data with | .dict es _ => pure es | _ => unsupported "internal:not-a-dict") s 0 es s
    rw [ho]; exact .pure
  · rw [places_none hn]
    cases key <;> first | exact absurd rfl (hks _ _) | (simp only [carriedByValue] at hk; done) | (simp only [List.filterMap_nil, List.all_cons, List.all_nil, carriedByValue, Bool.and_true, if_true]; unfold dictWalkPlain; exact .pure) | (cases hk)
end
section
variable {p : Program} {w : World} {n₀ : Nat} {ann : Option Value}

noncomputable abbrev Item := Nat × Str
noncomputable def dictO (es : List DictEntry) : Obj := ⟨.type "dict", none, .dict es.toArray es.length, #[]⟩
/-- a heap with the dict es behind the objects A, and B behind it -/
noncomputable def hp (A : Array Obj) (es : List DictEntry) (B : Array Obj) (l : Life) : Heap := ⟨A.push (dictO es) ++ B, l⟩
theorem hp_get (A : Array Obj) (es : List DictEntry) (B : Array Obj) (l : Life) : (hp A es B l).get? A.size = some (dictO es) := by
  have h : (A.push (dictO es) ++ B)[A.size]? = some (dictO es) := by
    rw [Array.getElem?_append_left (by simp)]; simp
  unfold Heap.get? hp
  dsimp only
  rw [h]; rfl
theorem hp_upd (A : Array Obj) (es : List DictEntry) (B : Array Obj) (l : Life) (e : DictEntry) : (hp A es B l).update A.size (Obj.mapDictKeys (·.push e)) = hp A (es ++ [e]) B l := by
  unfold Heap.update hp
  dsimp only
  congr 1
  apply Array.ext
  · simp
  · intro i h1 h2
    rw [Array.getElem_modify]
    simp only [Array.size_modify] at h1
    by_cases hi : A.size = i
    · subst hi
      rw [if_pos rfl]
      rw [Array.getElem_append_left (by simp), Array.getElem_append_left (by simp)]
      simp only [Array.getElem_push_eq]
      unfold dictO Obj.mapDictKeys
      simp
    · rw [if_neg hi]
      by_cases h3 : i < (A.push (dictO es)).size
      · rw [Array.getElem_append_left h3, Array.getElem_append_left (by simpa using h3)]
        have h4 : i < A.size := by simp only [Array.size_push] at h3; lia
        rw [Array.getElem_push_lt h4, Array.getElem_push_lt h4]
      · rw [Array.getElem_append_right (by lia), Array.getElem_append_right (by simp only [Array.size_push] at h3 ⊢; lia)]
        simp
theorem hp_push (A : Array Obj) (es : List DictEntry) (B : Array Obj) (l : Life) (o : Obj) : (hp A es B l).push o = hp A es (B.push o) l := by
  unfold Heap.push hp
  simp

theorem ev_updateKeys {d : Addr} {f : Array DictEntry → Array DictEntry} {part : Option Value} {s : Shared} {es : List DictEntry} {e : DictEntry} {A B : Array Obj} {l : Life} (hs : s.heap = hp A es B l) (hd : d = A.size) (hf : f = (·.push e)) (hn : n₀ ≤ A.size) (hz : es.length + 1 ≤ sizeLine) :
    Ev treeTable p w n₀ ann (updateDictKeys d f part) s 3 () { s with heap := hp A (es ++ [e]) B l } := by
  subst hd; subst hf
  unfold updateDictKeys loadPart
  refine Ev.load (n := 2) (o := dictO es) (by rw [hs]; exact hp_get ..) ?_
  refine Ev.update (n := 1) hn (by rw [hs, hp_get]; rfl) ?_
  rw [hs, hp_upd]
  refine Ev.load (n := 0) (o := dictO (es ++ [e])) (hp_get ..) ?_
  refine Ev.bind (n := 0) (m := 0) .pure ?_
  have : (dictO (es ++ [e])).data.pastItsLine = none := by
    unfold dictO Data.pastItsLine
    dsimp only
    rw [if_neg]
    simp only [List.size_toArray, List.length_append, List.length_cons, List.length_nil]
    lia
  rw [this]
  exact .pure

noncomputable def ent (u v : Tok) (it : Item) : DictEntry := ⟨Int.ofNat it.1, .int (Int.ofNat it.1) u, .str it.2 v⟩

theorem ev_dictSet {k : Nat} (hk : k < 2 ^ 60) {x : Str} {u v : Tok} {d : Addr} {s : Shared} {es : List DictEntry} {A B : Array Obj} {l : Life} (hs : s.heap = hp A es B l) (hd : d = A.size) (hn : n₀ ≤ A.size) (hz : es.length + 1 ≤ sizeLine)
    (hnew : ∀ e ∈ es, e.hash ≠ Int.ofNat k) :
    Ev treeTable p w n₀ ann (dictSet d (.int (Int.ofNat k) u) (.str x v)) s 10 () { s with heap := hp A (es ++ [ent u v (k, x)]) B l, toks := s.toks + 1 } := by
  unfold dictSet
  refine Ev.holding _ (Ev.bind' (n := 5) (m := 5) (ev_pyHash hk u s) ?_)
  unfold dictSetHashed
  refine Ev.holding _ (Ev.bind' (n := 1) (m := 4) (ev_dictFind (o := dictO es) (es := es.toArray) (ep := es.length) (by show s.heap.get? d = _; rw [hs, hd]; exact hp_get ..) rfl (by simpa using hnew) rfl (by intro _ _ h; cases h)) ?_)
  refine Ev.bind' (n := 1) (m := 3) (Ev.rule (n := 0) .pure) ?_
  exact ev_updateKeys (s := { s with toks := s.toks + 1 }) hs hd rfl hn hz

theorem ev_dictPut {e : DictEntry} (hc : carriedByValue e.key = true) (hstr : ∀ x t, e.key ≠ .str x t) {d : Addr} {s : Shared} {es : List DictEntry} {A B : Array Obj} {l : Life} (hs : s.heap = hp A es B l) (hd : d = A.size) (hn : n₀ ≤ A.size) (hz : es.length + 1 ≤ sizeLine)
    (hnew : ∀ e' ∈ es, e'.hash ≠ e.hash) :
    Ev treeTable p w n₀ ann (dictPut d e.hash e.key e.val) s 4 () { s with heap := hp A (es ++ [e]) B l } := by
  unfold dictPut
  refine (Ev.bind' (n := 1) (m := 3) (ev_dictFind (o := dictO es) (es := es.toArray) (ep := es.length) (by rw [hs, hd]; exact hp_get ..) rfl (by simpa using hnew) hc hstr) ?_)
  exact ev_updateKeys hs hd rfl hn hz

/-- the two trees of a written pair -/
noncomputable def keyT (it : Item) : Sem Value := mkInt (Int.ofNat it.1)
noncomputable def valT (pos : Pos) (it : Item) : Sem Value := do let x ← mkText it.2; standAt pos; pure x
theorem ev_keyT (it : Item) (s : Shared) : Ev treeTable p w n₀ ann (keyT it) s 1 (.int (Int.ofNat it.1) s.toks) { s with toks := s.toks + 1 } := Ev.fresh (n := 0) .pure
theorem ev_valT (pos : Pos) (it : Item) (s : Shared) : Ev treeTable p w n₀ ann (valT pos it) s 2 (.str it.2 s.toks) { s with toks := s.toks + 1 } := Ev.fresh (n := 1) (Ev.at (n := 0) .pure)

noncomputable def entsL (u : Tok) : List Item → List DictEntry
  | [] => []
  | it :: r => ent u (u + 1) it :: entsL (u + 3) r
noncomputable def entsS (u : Tok) : List Item → List DictEntry
  | [] => []
  | it :: r => ent u (u + 1) it :: entsS (u + 2) r
theorem entsL_hash (u : Tok) (its : List Item) : (entsL u its).map (·.hash) = its.map fun it => Int.ofNat it.1 := by
  induction its generalizing u with
  | nil => rfl
  | cons it r ih => simp only [entsL, List.map_cons, ih]; rfl
theorem entsS_hash (u : Tok) (its : List Item) : (entsS u its).map (·.hash) = its.map fun it => Int.ofNat it.1 := by
  induction its generalizing u with
  | nil => rfl
  | cons it r ih => simp only [entsS, List.map_cons, ih]; rfl
theorem entsL_len (u : Tok) (its : List Item) : (entsL u its).length = its.length := by
  induction its generalizing u with
  | nil => rfl
  | cons it r ih => simp only [entsL, List.length_cons, ih]
theorem entsS_len (u : Tok) (its : List Item) : (entsS u its).length = its.length := by
  induction its generalizing u with
  | nil => rfl
  | cons it r ih => simp only [entsS, List.length_cons, ih]
end
section
variable {p : Program} {w : World} {n₀ : Nat} {ann : Option Value} {A B : Array Obj} {l : Life}

noncomputable def hashes (es : List DictEntry) : List Int := es.map (·.hash)
noncomputable def keysI (its : List Item) : List Int := its.map fun it => Int.ofNat it.1
theorem new_of_nodup {es : List DictEntry} {k : Int} {r : List Int} (h : (hashes es ++ k :: r).Nodup) : ∀ e ∈ es, e.hash ≠ k := by
  intro e he hk
  have := (List.nodup_append.mp h).2.2 e.hash (List.mem_map_of_mem he) k (.head _)
  exact this hk
theorem nodup_step {es : List DictEntry} {e : DictEntry} {r : List Int} (h : (hashes es ++ e.hash :: r).Nodup) : (hashes (es ++ [e]) ++ r).Nodup := by
  simpa [hashes] using h

theorem ev_long {pos : Pos} {d : Addr} (hd : d = A.size) (hn : n₀ ≤ A.size) : ∀ (its : List Item) (s : Shared) (es : List DictEntry), s.heap = hp A es B l → (∀ it ∈ its, it.1 < 2 ^ 60) → (hashes es ++ keysI its).Nodup → es.length + its.length ≤ sizeLine →
    Ev treeTable p w n₀ ann (forIn (its.map fun it => (keyT it, valT pos it)) PUnit.unit fun x (_ : PUnit) => match x with
      | (k, v) => do
        let kv ← k
        let vv ← holding [kv] v
        holding [kv, vv] (dictSet d kv vv)
        pure (ForInStep.yield PUnit.unit)) s (13 * its.length) PUnit.unit { s with heap := hp A (es ++ entsL s.toks its) B l, toks := s.toks + 3 * its.length }
  | [], s, es, hs, _, _, _ => by
    have : ({ s with heap := hp A (es ++ entsL s.toks []) B l, toks := s.toks + 3 * ([] : List Item).length } : Shared) = s := by
      simp only [entsL, List.append_nil, List.length_nil, Nat.mul_zero, Nat.add_zero]
      rw [← hs]
    rw [this]
    exact .pure
  | it :: r, s, es, hs, hk, hnd, hz => by
    rw [List.map_cons, List.forIn_cons]
    have hz1 : es.length + 1 ≤ sizeLine := by simp only [List.length_cons] at hz; lia
    have hstep : Ev treeTable p w n₀ ann (do
        let kv ← keyT it
        let vv ← holding [kv] (valT pos it)
        holding [kv, vv] (dictSet d kv vv)
        pure (ForInStep.yield PUnit.unit)) s 13 (ForInStep.yield PUnit.unit) { s with heap := hp A (es ++ [ent s.toks (s.toks + 1) it]) B l, toks := s.toks + 3 } := by
      refine Ev.bind' (n := 1) (m := 12) (ev_keyT it s) ?_
      refine Ev.bind' (n := 2) (m := 10) (Ev.holding _ (ev_valT pos it _)) ?_
      refine Ev.bind' (n := 10) (m := 0) (Ev.holding _ (ev_dictSet (s := { s with toks := s.toks + 1 + 1 }) (hk it (.head _)) hs hd hn hz1 (new_of_nodup hnd))) ?_
      exact .pure
    have ih := ev_long (pos := pos) hd hn r { s with heap := hp A (es ++ [ent s.toks (s.toks + 1) it]) B l, toks := s.toks + 3 } (es ++ [ent s.toks (s.toks + 1) it]) rfl (fun x hx => hk x (.tail _ hx)) (nodup_step (e := ent s.toks (s.toks + 1) it) hnd)
      (by simp only [List.length_append, List.length_cons, List.length_nil] at hz ⊢; lia)
    refine Ev.cast (Ev.bind' hstep ih) rfl ?_ ?_
    · simp only [List.length_cons]; lia
    · simp only [entsL, List.append_assoc, List.cons_append, List.nil_append, List.length_cons]
      congr 1
      lia

theorem ev_pairs {pos : Pos} : ∀ (its : List Item) (s : Shared),
    Ev treeTable p w n₀ ann (evalPairs (its.map fun it => (keyT it, valT pos it))) s (3 * its.length) ((entsS s.toks its).map fun e => (e.key, e.val)) { s with toks := s.toks + 2 * its.length }
  | [], s => .pure
  | it :: r, s => by
    rw [List.map_cons]
    unfold evalPairs
    refine Ev.cast (n := 1 + (2 + (3 * r.length + 0))) (Ev.bind' (ev_keyT it s) ?_) rfl ?_ rfl
    · refine Ev.bind' (Ev.holding _ (ev_valT pos it _)) ?_
      refine Ev.bind' (Ev.holding _ (ev_pairs r _)) ?_
      have e : ({ s with toks := s.toks + 2 * (it :: r).length } : Shared) = { s with toks := s.toks + 1 + 1 + 2 * r.length } := by
        congr 1; simp only [List.length_cons]; lia
      rw [e]
      exact .pure
    · simp only [List.length_cons]; lia
theorem ev_short {d : Addr} (hd : d = A.size) (hn : n₀ ≤ A.size) : ∀ (its : List Item) (u : Tok) (s : Shared) (es : List DictEntry), s.heap = hp A es B l → (∀ it ∈ its, it.1 < 2 ^ 60) → (hashes es ++ keysI its).Nodup → es.length + its.length ≤ sizeLine →
    Ev treeTable p w n₀ ann (forIn ((entsS u its).map fun e => (e.key, e.val)) PUnit.unit fun x (_ : PUnit) => match x with
      | (k, v) => do
        dictSet d k v
        pure (ForInStep.yield PUnit.unit)) s (10 * its.length) PUnit.unit { s with heap := hp A (es ++ entsS u its) B l, toks := s.toks + its.length }
  | [], u, s, es, hs, _, _, _ => by
    have : ({ s with heap := hp A (es ++ entsS u []) B l, toks := s.toks + ([] : List Item).length } : Shared) = s := by
      simp only [entsS, List.append_nil, List.length_nil, Nat.add_zero]
      rw [← hs]
    rw [this]
    exact .pure
  | it :: r, u, s, es, hs, hk, hnd, hz => by
    unfold entsS
    rw [List.map_cons, List.forIn_cons]
    have hz1 : es.length + 1 ≤ sizeLine := by simp only [List.length_cons] at hz; lia
    have hstep : Ev treeTable p w n₀ ann (do
        dictSet d (.int (Int.ofNat it.1) u) (.str it.2 (u + 1))
        pure (ForInStep.yield PUnit.unit)) s 10 (ForInStep.yield PUnit.unit) { s with heap := hp A (es ++ [ent u (u + 1) it]) B l, toks := s.toks + 1 } :=
      Ev.bind' (n := 10) (m := 0) (ev_dictSet (hk it (.head _)) hs hd hn hz1 (new_of_nodup hnd)) .pure
    have ih := ev_short hd hn r (u + 2) { s with heap := hp A (es ++ [ent u (u + 1) it]) B l, toks := s.toks + 1 } (es ++ [ent u (u + 1) it]) rfl (fun x hx => hk x (.tail _ hx)) (nodup_step (e := ent u (u + 1) it) hnd)
      (by simp only [List.length_append, List.length_cons, List.length_nil] at hz ⊢; lia)
    refine Ev.cast (Ev.bind' hstep ih) rfl ?_ ?_
    · simp only [List.length_cons]; lia
    · simp only [List.append_assoc, List.cons_append, List.nil_append, List.length_cons]
      congr 1
      lia

/-- what a written sub-dict's entries are -/
noncomputable def entsOf (u : Tok) (its : List Item) : List DictEntry := if its.length ≤ 15 then entsS u its else entsL u its
theorem entsOf_hash (u : Tok) (its : List Item) : hashes (entsOf u its) = keysI its := by
  unfold entsOf hashes keysI
  split
  · exact entsS_hash u its
  · exact entsL_hash u its
theorem entsOf_len (u : Tok) (its : List Item) : (entsOf u its).length = its.length := by
  unfold entsOf
  split
  · exact entsS_len u its
  · exact entsL_len u its
noncomputable def costOf (its : List Item) : Nat := if its.length ≤ 15 then 1 + 13 * its.length else 2 + 13 * its.length

theorem push_hp (h : Heap) : h.push (dictO []) = hp h.objs [] #[] h.life := by
  unfold Heap.push hp
  simp
theorem hp_push_eq (h : Heap) (es : List DictEntry) : hp h.objs es #[] h.life = h.push (dictO es) := by
  unfold Heap.push hp
  simp
theorem ev_subDict {pos : Pos} {its : List Item} {s : Shared} (hn : n₀ ≤ s.heap.objs.size) (hk : ∀ it ∈ its, it.1 < 2 ^ 60) (hnd : (keysI its).Nodup) (hz : its.length ≤ sizeLine) :
    Ev treeTable p w n₀ ann (subDict (its.map fun it => (keyT it, valT pos it))) s (costOf its) s.heap.objs.size { s with heap := s.heap.push (dictO (entsOf s.toks its)), toks := s.toks + 3 * its.length } := by
  unfold subDict costOf entsOf
  refine Ev.cast (n := 1 + (0 + ((if its.length ≤ 15 then 13 * its.length else 1 + 13 * its.length) + 0))) (Ev.bind (s' := { s with heap := s.heap.push (dictO []) }) (Ev.alloc (n := 0) .pure) (Ev.bind (s' := { s with heap := s.heap.push (dictO []) }) (n := 0) .pure (Ev.bind' (a := ()) (Ev.holding _ ?_) (by exact .pure)))) rfl (by split <;> lia) rfl
  rw [List.length_map, push_hp]
  by_cases h : its.length ≤ 15
  · rw [if_pos h, if_pos h, if_pos h]
    refine Ev.cast (Ev.bind' (ev_pairs its _) (Ev.holding _ (Ev.bind' (ev_short (A := s.heap.objs) (B := #[]) (l := s.heap.life) rfl hn its s.toks _ [] rfl hk (by simpa [hashes] using hnd) (by simpa using hz)) .pure))) rfl (by lia) ?_
    rw [List.nil_append, hp_push_eq]
    congr 1
    dsimp only
    lia
  · rw [if_neg h, if_neg h, if_neg h]
    refine Ev.cast (Ev.bind' (Ev.rule (n := 0) .pure) (Ev.bind' (ev_long (A := s.heap.objs) (B := #[]) (l := s.heap.life) rfl hn its _ [] rfl hk (by simpa [hashes] using hnd) (by simpa using hz)) .pure)) rfl (by lia) ?_
    rw [List.nil_append, hp_push_eq]
end
section
variable {p : Program} {w : World} {n₀ : Nat} {ann : Option Value} {A B : Array Obj} {l : Life}

theorem hp_other {a : Nat} {es es' : List DictEntry} (h : a ≠ A.size) : (hp A es B l).get? a = (hp A es' B l).get? a := by
  have e : (A.push (dictO es) ++ B)[a]? = (A.push (dictO es') ++ B)[a]? := by
    by_cases h1 : (a : Nat) < A.size + 1
    · rw [Array.getElem?_append_left (by simpa using h1), Array.getElem?_append_left (by simpa using h1)]
      have h2 : (a : Nat) < A.size := by lia
      rw [Array.getElem?_push_lt h2, Array.getElem?_push_lt h2]
    · rw [Array.getElem?_append_right (by simp only [Array.size_push]; lia), Array.getElem?_append_right (by simp only [Array.size_push]; lia)]
      simp only [Array.size_push]
  unfold Heap.get? hp
  dsimp only
  rw [e]

theorem ev_typeOf {a : Addr} {s : Shared} {o : Obj} (h : s.heap.get? a = some o) : Ev treeTable p w n₀ ann (typeOf (.ref a)) s 1 o.cls s := Ev.load (n := 0) h .pure
theorem ev_isDict {a : Addr} {s : Shared} {E : List DictEntry} (h : s.heap.get? a = some (dictO E)) : Ev treeTable p w n₀ ann (isInstance (.ref a) (.type "dict")) s 1 true s := by
  unfold isInstance
  refine Ev.bind' (n := 1) (m := 0) (ev_typeOf h) ?_
  have e : isSubtype (dictO E).cls (.type "dict") = Sem.pure true := by kernel_rfl
  rw [e]; exact .pure
theorem ev_iterOf {a : Addr} {s : Shared} {E : List DictEntry} (h : s.heap.get? a = some (dictO E)) : Ev treeTable p w n₀ ann (specialOf (.ref a) (Str.ofString "__iter__")) s 1 (some (.builtin "dict.__iter__")) s := by
  unfold specialOf
  refine Ev.bind' (n := 1) (m := 0) (ev_typeOf h) ?_
  have e : typeLookup (dictO E).cls (Str.ofString "__iter__") = Sem.pure (some (.builtin "dict.__iter__")) := by kernel_rfl
  rw [e]; exact .pure
theorem ev_entries {a : Addr} {s : Shared} {E : List DictEntry} (h : s.heap.get? a = some (dictO E)) : Ev treeTable p w n₀ ann (dictEntries a) s 1 E.toArray s := Ev.load (n := 0) h .pure
theorem ev_epoch {a : Addr} {s : Shared} {E : List DictEntry} (h : s.heap.get? a = some (dictO E)) : Ev treeTable p w n₀ ann (dictEpoch a) s 1 E.length s := Ev.load (n := 0) h .pure

noncomputable def plainKeys (E : List DictEntry) : Prop := ∀ e ∈ E, carriedByValue e.key = true ∧ ∀ x t, e.key ≠ .str x t

theorem merge_shape (d a : Addr) (ha : (a == sysModules) = false) : ∃ F : Nat → Nat → PUnit → Sem (ForInStep PUnit), (∀ ep i u, F ep i u = (do
      let es ← dictEntries a
      match es[i]? with
        | some e => do
          holding [e.key, e.val] (dictPut d e.hash e.key e.val)
          let n ← dictEpoch a
          if (n != ep) = true then do
              unsupported "dict.changed-during-merge"
              pure (ForInStep.yield PUnit.unit)
            else pure (ForInStep.yield PUnit.unit)
        | _ => do
          unsupported "dict.changed-during-merge"
          pure (ForInStep.yield PUnit.unit))) ∧
    ∀ {s : Shared} {E es : List DictEntry} {N : Nat} {s' : Shared}, s.heap.get? a = some (dictO E) → s.heap.get? d = some (dictO es) → es ≠ [] →
      Ev treeTable p w n₀ ann (forIn (List.range E.length) PUnit.unit (F E.length)) s N PUnit.unit s' → Ev treeTable p w n₀ ann (mergeMapping d (.ref a) false) s (5 + N) () s' := by
  refine ⟨fun ep i u => (do
      let es ← dictEntries a
      match es[i]? with
        | some e => do
          holding [e.key, e.val] (dictPut d e.hash e.key e.val)
          let n ← dictEpoch a
          if (n != ep) = true then do
              unsupported "dict.changed-during-merge"
              pure (ForInStep.yield PUnit.unit)
            else pure (ForInStep.yield PUnit.unit)
        | _ => do
          unsupported "dict.changed-during-merge"
          pure (ForInStep.yield PUnit.unit)), fun _ _ _ => rfl, ?h2⟩
  case h2 =>
    intro s E es N s' h1 h2 h3 h
    unfold mergeMapping
    refine Ev.cast (n := 1 + (1 + (0 + (1 + (1 + (1 + (N + 0))))))) (Ev.bind' (ev_isDict h1) (Ev.bind' (ev_iterOf h1) ?_)) rfl (by lia) rfl
    refine Ev.bind' (n := 0) .pure ?_
    rw [show (some (Value.builtin "dict.__iter__") == some (Value.builtin "dict.__iter__")) = true from by decide]
    dsimp only
    rw [ha, if_neg Bool.false_ne_true]
    refine Ev.bind' (n := 1) (ev_entries h2) ?_
    have e : es.toArray.isEmpty = false := by cases es <;> simp_all
    rw [e, if_neg Bool.false_ne_true]
    refine Ev.bind' (n := 1) (ev_entries h1) ?_
    refine Ev.bind' (n := 1) (ev_epoch h1) ?_
    rw [List.size_toArray]
    simp only [Bool.false_eq_true, if_false]
    exact Ev.bind' h .pure

theorem ev_mergeLoop {d a : Addr} {F : Nat → Nat → PUnit → Sem (ForInStep PUnit)} (hF : ∀ ep i u, F ep i u = (do
      let es ← dictEntries a
      match es[i]? with
        | some e => do
          holding [e.key, e.val] (dictPut d e.hash e.key e.val)
          let n ← dictEpoch a
          if (n != ep) = true then do
              unsupported "dict.changed-during-merge"
              pure (ForInStep.yield PUnit.unit)
            else pure (ForInStep.yield PUnit.unit)
        | _ => do
          unsupported "dict.changed-during-merge"
          pure (ForInStep.yield PUnit.unit))) {E : List DictEntry} (hd : d = A.size) (hn : n₀ ≤ A.size) (ha : a ≠ A.size) (hE : plainKeys E) :
    ∀ (n i : Nat) (s : Shared) (es : List DictEntry), i + n = E.length → s.heap = hp A es B l → s.heap.get? a = some (dictO E) → (hashes es ++ hashes (E.drop i)).Nodup → es.length + n ≤ sizeLine →
      Ev treeTable p w n₀ ann (forIn (List.range' i n) PUnit.unit (F E.length)) s (6 * n) PUnit.unit { s with heap := hp A (es ++ E.drop i) B l }
  | 0, i, s, es, hi, hs, _, _, _ => by
    have : E.drop i = [] := List.drop_eq_nil_of_le (by lia)
    rw [this, List.append_nil, ← hs]
    exact .pure
  | n + 1, i, s, es, hi, hs, hga, hnd, hz => by
    have hlt : i < E.length := by lia
    have hdr : E.drop i = E[i] :: E.drop (i + 1) := List.drop_eq_getElem_cons hlt
    rw [hdr] at hnd
    rw [List.range'_succ, List.forIn_cons]
    have hga' : (hp A (es ++ [E[i]]) B l).get? a = some (dictO E) := by rw [hp_other (es' := es) ha, ← hs]; exact hga
    have hstep : Ev treeTable p w n₀ ann (F E.length i PUnit.unit) s 6 (ForInStep.yield PUnit.unit) { s with heap := hp A (es ++ [E[i]]) B l } := by
      rw [hF]
      refine Ev.bind' (n := 1) (m := 5) (ev_entries hga) ?_
      rw [List.getElem?_toArray, List.getElem?_eq_getElem hlt]
      refine Ev.bind' (n := 4) (m := 1) (Ev.holding _ (ev_dictPut (hE _ (List.getElem_mem hlt)).1 (hE _ (List.getElem_mem hlt)).2 hs hd hn (by lia) (new_of_nodup hnd))) ?_
      refine Ev.bind' (n := 1) (m := 0) (ev_epoch hga') ?_
      rw [if_neg (by simp)]
      exact .pure
    have ih := ev_mergeLoop hF (E := E) hd hn ha hE n (i + 1) { s with heap := hp A (es ++ [E[i]]) B l } (es ++ [E[i]]) (by lia) rfl hga' (nodup_step hnd) (by simp only [List.length_append, List.length_cons, List.length_nil]; lia)
    refine Ev.cast (Ev.bind' hstep ih) rfl (by lia) ?_
    rw [hdr, List.append_assoc, List.cons_append, List.nil_append]

theorem ev_merge {d a : Addr} {s : Shared} {E es : List DictEntry} (hs : s.heap = hp A es B l) (hd : d = A.size) (hn : n₀ ≤ A.size) (ha : a ≠ A.size) (hsm : (a == sysModules) = false) (hga : s.heap.get? a = some (dictO E)) (hE : plainKeys E) (hes : es ≠ [])
    (hnd : (hashes es ++ hashes E).Nodup) (hz : es.length + E.length ≤ sizeLine) :
    Ev treeTable p w n₀ ann (mergeMapping d (.ref a) false) s (5 + 6 * E.length) () { s with heap := hp A (es ++ E) B l } := by
  obtain ⟨F, h1, h2⟩ := merge_shape (p := p) (w := w) (n₀ := n₀) (ann := ann) d a hsm
  refine h2 hga (by rw [hs, hd]; exact hp_get ..) hes ?_
  rw [List.range_eq_range']
  exact ev_mergeLoop h1 hd hn ha hE E.length 0 s es (by lia) hs hga hnd hz
end
section
variable {p : Program} {w : World} {n₀ : Nat} {ann : Option Value}

noncomputable abbrev PairT := Sem Value × Sem Value
noncomputable abbrev pairT (pos : Pos) (it : Item) : PairT := (keyT it, valT pos it)
noncomputable abbrev itemT (pos : Pos) (it : Item) : Option (Sem Value) × Sem Value := (some (keyT it), valT pos it)

theorem dd_shape : ∃ (flush : List PairT → Option Addr → Sem (Option Addr)) (F : Option (Sem Value) × Sem Value → Option Addr × List PairT → Sem (ForInStep (Option Addr × List PairT))),
    (∀ items, dictDisplay items = (do
      let r ← forIn items (none, []) F
      let m ← flush r.2 r.1
      match m with
      | some d => pure (Value.ref d)
      | none => newDict)) ∧
    (∀ run, run.isEmpty = false → flush run none = (do let d ← subDict run; pure (some d))) ∧
    (∀ run d, run.isEmpty = false → flush run (some d) = (do
          let sub ← holding [Value.ref d] (subDict run)
          (holding [Value.ref d, Value.ref sub] (mergeMapping d (Value.ref sub) false)).onRaise fun x => do
              let _ ← holding [Value.ref d, x] (runValue (Code.builtin "proto.let_go" { }))
              pure ()
          pure (some d))) ∧
    (∀ k v main run, F (some k, v) (main, run) = (if ((run ++ [(k, v)]).length == 17) = true then do
                let main ← flush (run ++ [(k, v)]) main
                pure (ForInStep.yield (main, []))
              else pure (ForInStep.yield (main, run ++ [(k, v)])))) := by
  refine ⟨fun run main => if run.isEmpty = true then pure main else match main with
      | none => (do let d ← subDict run; pure (some d))
      | some d => (do
          let sub ← holding [Value.ref d] (subDict run)
          (holding [Value.ref d, Value.ref sub] (mergeMapping d (Value.ref sub) false)).onRaise fun x => do
              let _ ← holding [Value.ref d, x] (runValue (Code.builtin "proto.let_go" { }))
              pure ()
          pure (some d)), ?F, ?a, ?b, ?c, ?d⟩
  case a => intro items; unfold dictDisplay; rfl
  case b => intro run h; simp only [h]; rfl
  case c => intro run d h; simp only [h]; rfl
  case d => intro k v main run; rfl

structure Disp (flush : List PairT → Option Addr → Sem (Option Addr)) (F : Option (Sem Value) × Sem Value → Option Addr × List PairT → Sem (ForInStep (Option Addr × List PairT))) : Prop where
  f0 : ∀ run, run.isEmpty = false → flush run none = (do let d ← subDict run; pure (some d))
  f1 : ∀ run d, run.isEmpty = false → flush run (some d) = (do
          let sub ← holding [Value.ref d] (subDict run)
          (holding [Value.ref d, Value.ref sub] (mergeMapping d (Value.ref sub) false)).onRaise fun x => do
              let _ ← holding [Value.ref d, x] (runValue (Code.builtin "proto.let_go" { }))
              pure ()
          pure (some d))
  step : ∀ k v main run, F (some k, v) (main, run) = (if ((run ++ [(k, v)]).length == 17) = true then do
                let main ← flush (run ++ [(k, v)]) main
                pure (ForInStep.yield (main, []))
              else pure (ForInStep.yield (main, run ++ [(k, v)])))

section
variable {flush : List PairT → Option Addr → Sem (Option Addr)} {F : Option (Sem Value) × Sem Value → Option Addr × List PairT → Sem (ForInStep (Option Addr × List PairT))} {pos : Pos}

theorem Disp.gather (D : Disp flush F) (rest : List (Option (Sem Value) × Sem Value)) (main : Option Addr) : ∀ (xs done : List Item), done.length + xs.length ≤ 16 →
    forIn (xs.map (itemT pos) ++ rest) (main, done.map (pairT pos)) F = forIn rest (main, (done ++ xs).map (pairT pos)) F
  | [], done, _ => by simp
  | x :: r, done, h => by
    rw [List.map_cons, List.cons_append, List.forIn_cons, D.step, if_neg]
    · have ih := Disp.gather D rest main r (done ++ [x]) (by simp only [List.length_append, List.length_cons, List.length_nil] at h ⊢; lia)
      rw [List.append_assoc, List.cons_append, List.nil_append] at ih
      rw [← ih]
      simp only [List.map_append, List.map_cons, List.map_nil]
      rfl
    · simp only [List.length_append, List.length_map, List.length_cons, List.length_nil, beq_iff_eq] at h ⊢; lia

theorem Disp.chunk (D : Disp flush F) (rest : List (Option (Sem Value) × Sem Value)) (main : Option Addr) (c : List Item) (hc : c.length = 17) :
    forIn (c.map (itemT pos) ++ rest) (main, []) F = (do
      let m ← flush (c.map (pairT pos)) main
      forIn rest (m, []) F) := by
  obtain ⟨xs, x, rfl⟩ : ∃ xs x, c = xs ++ [x] := ⟨c.dropLast, c.getLast (by intro h; subst h; cases hc), (List.dropLast_concat_getLast _).symm⟩
  have hx : xs.length = 16 := by simpa using hc
  have g := D.gather (pos := pos) (x.1 |> fun _ => [itemT pos x] ++ rest) main xs [] (by simp [hx])
  rw [List.map_append, List.map_cons, List.map_nil, List.append_assoc]
  rw [show (main, ([] : List PairT)) = (main, ([] : List Item).map (pairT pos)) from rfl, g, List.nil_append]
  rw [List.cons_append, List.nil_append, List.forIn_cons, D.step, if_pos]
  · simp only [List.map_append, List.map_cons, List.map_nil]
    show Sem.bind (Sem.bind _ _) _ = Sem.bind _ _
    rw [Sem.bind_assoc]
    rfl
  · simp [hx]

noncomputable def subsOf (u : Tok) : List (List Item) → List Obj
  | [] => []
  | c :: r => dictO (entsOf u c) :: subsOf (u + 3 * c.length) r
noncomputable def entsAll (u : Tok) : List (List Item) → List DictEntry
  | [] => []
  | c :: r => entsOf u c ++ entsAll (u + 3 * c.length) r
noncomputable def lenAll : List (List Item) → Nat
  | [] => 0
  | c :: r => c.length + lenAll r
noncomputable def costAll : List (List Item) → Nat
  | [] => 0
  | c :: r => costOf c + 5 + 6 * c.length + costAll r
noncomputable def keysAll : List (List Item) → List Int
  | [] => []
  | c :: r => keysI c ++ keysAll r
theorem plain_entsL (u : Tok) (its : List Item) : plainKeys (entsL u its) := by
  induction its generalizing u with
  | nil => intro e he; cases he
  | cons it r ih =>
    intro e he
    rcases List.mem_cons.mp he with rfl | he
    · exact ⟨rfl, fun _ _ h => by cases h⟩
    · exact ih _ e he
theorem plain_entsS (u : Tok) (its : List Item) : plainKeys (entsS u its) := by
  induction its generalizing u with
  | nil => intro e he; cases he
  | cons it r ih =>
    intro e he
    rcases List.mem_cons.mp he with rfl | he
    · exact ⟨rfl, fun _ _ h => by cases h⟩
    · exact ih _ e he
theorem plain_entsOf (u : Tok) (its : List Item) : plainKeys (entsOf u its) := by
  unfold entsOf
  split
  · exact plain_entsS u its
  · exact plain_entsL u its

theorem Disp.evFirst (D : Disp flush F) {s : Shared} {c : List Item} (hn : n₀ ≤ s.heap.objs.size) (hk : ∀ it ∈ c, it.1 < 2 ^ 60) (hnd : (keysI c).Nodup) (hz : c.length ≤ sizeLine) (h0 : c ≠ []) :
    Ev treeTable p w n₀ ann (flush (c.map (pairT pos)) none) s (costOf c) (some s.heap.objs.size) { s with heap := hp s.heap.objs (entsOf s.toks c) #[] s.heap.life, toks := s.toks + 3 * c.length } := by
  rw [D.f0 _ (by cases c <;> simp_all), hp_push_eq]
  exact Ev.cast (Ev.bind' (ev_subDict hn hk hnd hz) .pure) rfl (by lia) rfl

theorem Disp.evNext (D : Disp flush F) {A B : Array Obj} {l : Life} {es : List DictEntry} {s : Shared} {c : List Item} (hs : s.heap = hp A es B l) (hn : n₀ ≤ A.size) (hsm : sysModules < A.size) (hes : es ≠ []) (hk : ∀ it ∈ c, it.1 < 2 ^ 60)
    (hnd : (hashes es ++ keysI c).Nodup) (hz : es.length + c.length ≤ sizeLine) (h0 : c ≠ []) :
    Ev treeTable p w n₀ ann (flush (c.map (pairT pos)) (some A.size)) s (costOf c + 5 + 6 * c.length) (some A.size) { s with heap := hp A (es ++ entsOf s.toks c) (B.push (dictO (entsOf s.toks c))) l, toks := s.toks + 3 * c.length } := by
  rw [D.f1 _ _ (by cases c <;> simp_all)]
  have hsz : s.heap.objs.size = A.size + 1 + B.size := by rw [hs]; simp [hp]
  have hpush : s.heap.push (dictO (entsOf s.toks c)) = hp A es (B.push (dictO (entsOf s.toks c))) l := by rw [hs, hp_push]
  have hge : (hp A es (B.push (dictO (entsOf s.toks c))) l).get? s.heap.objs.size = some (dictO (entsOf s.toks c)) := by
    rw [← hpush]; exact Heap.get?_push_size _ rfl
  refine Ev.cast (n := costOf c + ((5 + 6 * c.length) + 0)) (Ev.bind' (Ev.holding _ (ev_subDict (s := s) (by lia) hk ((List.nodup_append.mp hnd).2.1) (by lia))) ?_) rfl (by lia) rfl
  rw [hpush]
  refine Ev.bind' (Ev.onRaise (Ev.holding _ (ev_merge (A := A) (es := es) (B := B.push (dictO (entsOf s.toks c))) (l := l) (E := entsOf s.toks c) rfl rfl hn (fun e => by have e' : @Eq Nat s.heap.objs.size A.size := e; lia) ?_ hge (plain_entsOf _ _) hes ?_ ?_) |>.cast rfl (by rw [entsOf_len]) rfl)) .pure
  · exact beq_eq_false_iff_ne.mpr (fun e => by have e1 : @LT.lt Nat _ sysModules A.size := hsm; have e2 : @Eq Nat s.heap.objs.size sysModules := e; lia)
  · rw [entsOf_hash]; exact hnd
  · rw [entsOf_len]; exact hz

theorem Disp.evChunks (D : Disp flush F) {A : Array Obj} {l : Life} (hn : n₀ ≤ A.size) (hsm : sysModules < A.size) (rest : List (Option (Sem Value) × Sem Value)) {m : Nat} {r : Option Addr × List PairT} {s' : Shared} :
    ∀ (cs : List (List Item)) (B : Array Obj) (es : List DictEntry) (s : Shared), (∀ c ∈ cs, c.length = 17) → s.heap = hp A es B l → es ≠ [] → (∀ c ∈ cs, ∀ it ∈ c, it.1 < 2 ^ 60) → (hashes es ++ keysAll cs).Nodup → es.length + lenAll cs ≤ sizeLine →
      Ev treeTable p w n₀ ann (forIn rest (some A.size, []) F) { s with heap := hp A (es ++ entsAll s.toks cs) (B ++ (subsOf s.toks cs).toArray) l, toks := s.toks + 3 * lenAll cs } m r s' →
      Ev treeTable p w n₀ ann (forIn ((cs.map fun c => c.map (itemT pos)).flatten ++ rest) (some A.size, []) F) s (costAll cs + m) r s'
  | [], B, es, s, _, hs, _, _, _, _, h => by
    have e : ({ s with heap := hp A (es ++ entsAll s.toks []) (B ++ (subsOf s.toks []).toArray) l, toks := s.toks + 3 * lenAll [] } : Shared) = s := by
      simp only [entsAll, subsOf, lenAll, List.append_nil, Nat.mul_zero, Nat.add_zero, Array.append_empty]
      rw [← hs]
    rw [e] at h
    exact Ev.cast h rfl (by simp [costAll]) rfl
  | c :: cs, B, es, s, hc, hs, hes, hk, hnd, hz, h => by
    have hc17 := hc c (.head _)
    simp only [keysAll] at hnd
    simp only [lenAll] at hz
    have hnd1 : (hashes es ++ keysI c).Nodup := by rw [← List.append_assoc] at hnd; exact (List.nodup_append.mp hnd).1
    have ev1 := D.evNext (p := p) (w := w) (ann := ann) (pos := pos) hs hn hsm hes (hk c (.head _)) hnd1 (by lia) (by intro e; subst e; cases hc17)
    have ih := Disp.evChunks D hn hsm rest cs (B.push (dictO (entsOf s.toks c))) (es ++ entsOf s.toks c) { s with heap := hp A (es ++ entsOf s.toks c) (B.push (dictO (entsOf s.toks c))) l, toks := s.toks + 3 * c.length } (m := m) (r := r) (s' := s')
      (fun x hx => hc x (.tail _ hx)) rfl (by simp [hes]) (fun x hx => hk x (.tail _ hx)) (by
        have : hashes (es ++ entsOf s.toks c) = hashes es ++ keysI c := by rw [← entsOf_hash s.toks c]; simp [hashes]
        rw [this, List.append_assoc]; exact hnd) (by simp only [List.length_append, entsOf_len]; lia) ?_
    · rw [List.map_cons, List.flatten_cons, List.append_assoc, D.chunk _ _ _ hc17]
      exact Ev.cast (Ev.bind' ev1 ih) rfl (by simp only [costAll]; lia) rfl
    · refine Eq.mp ?_ h
      congr 1
      simp only [entsAll, subsOf, lenAll, List.append_assoc]
      congr 1
      · congr 1
        rw [← Array.toList_inj]; simp
      · lia
end

/-- a written dict of more than 17 pairs, whole -/
theorem ev_display {pos : Pos} (c0 : List Item) (cs : List (List Item)) (last : List Item) (s : Shared) (hc0 : c0.length = 17) (hcs : ∀ c ∈ cs, c.length = 17) (hl : last.length ≤ 16) (hl0 : last ≠ [])
    (hk : ∀ c ∈ c0 :: (cs ++ [last]), ∀ it ∈ c, it.1 < 2 ^ 60) (hnd : (keysAll (c0 :: (cs ++ [last]))).Nodup) (hz : lenAll (c0 :: (cs ++ [last])) ≤ sizeLine) (hn : n₀ ≤ s.heap.objs.size) (hsm : sysModules < s.heap.objs.size) :
    Ev treeTable p w n₀ ann (dictDisplay (((c0 :: (cs ++ [last])).map fun c => c.map (itemT pos)).flatten)) s (costOf c0 + (costAll (cs ++ [last]))) (.ref s.heap.objs.size)
      { s with heap := ⟨s.heap.objs ++ (dictO (entsAll s.toks (c0 :: (cs ++ [last]))) :: subsOf (s.toks + 3 * 17) (cs ++ [last])).toArray, s.heap.life⟩, toks := s.toks + 3 * lenAll (c0 :: (cs ++ [last])) } := by
  obtain ⟨flush, F, hdd, f0, f1, fs⟩ := dd_shape
  have D : Disp flush F := ⟨f0, f1, fs⟩
  rw [hdd]
  have hc0' : c0 ≠ [] := by intro e; subst e; cases hc0
  have hE0 : (entsOf s.toks c0) ≠ [] := by intro e; have := entsOf_len s.toks c0; rw [e, hc0] at this; cases this
  have hnd0 : (keysI c0 ++ keysAll (cs ++ [last])).Nodup := hnd
  have hz0 : c0.length + lenAll (cs ++ [last]) ≤ sizeLine := hz
  have happ : ∀ (cs : List (List Item)) (u : Nat), keysAll (cs ++ [last]) = keysAll cs ++ keysI last ∧ lenAll (cs ++ [last]) = lenAll cs + last.length ∧ entsAll u (cs ++ [last]) = entsAll u cs ++ entsOf (u + 3 * lenAll cs) last ∧ subsOf u (cs ++ [last]) = subsOf u cs ++ [dictO (entsOf (u + 3 * lenAll cs) last)] ∧ costAll (cs ++ [last]) = costAll cs + (costOf last + 5 + 6 * last.length) := by
    intro cs
    induction cs with
    | nil => intro u; simp [keysAll, lenAll, entsAll, subsOf, costAll]
    | cons c r ih =>
      intro u
      obtain ⟨h1, h2, h3, h4, h5⟩ := ih (u + 3 * c.length)
      refine ⟨?_, ?_, ?_, ?_, ?_⟩
      · simp only [List.cons_append, keysAll, h1, List.append_assoc]
      · simp only [List.cons_append, lenAll, h2]; lia
      · simp only [List.cons_append, entsAll, h3, List.append_assoc, lenAll]; rw [show u + 3 * c.length + 3 * lenAll r = u + 3 * (c.length + lenAll r) by lia]
      · simp only [List.cons_append, subsOf, h4, lenAll]; rw [show u + 3 * c.length + 3 * lenAll r = u + 3 * (c.length + lenAll r) by lia]
      · simp only [List.cons_append, costAll, h5]; lia
  obtain ⟨a1, a2, a3, a4, a5⟩ := happ cs (s.toks + 3 * c0.length)
  rw [a1] at hnd0
  rw [a2] at hz0
  have hk0 : ∀ it ∈ c0, it.1 < 2 ^ 60 := hk c0 (.head _)
  have hkl : ∀ it ∈ last, it.1 < 2 ^ 60 := hk last (List.mem_cons_of_mem _ (List.mem_append_right _ (List.mem_singleton_self _)))
  have hkc : ∀ c ∈ cs, ∀ it ∈ c, it.1 < 2 ^ 60 := fun c hc => hk c (List.mem_cons_of_mem _ (List.mem_append_left _ hc))
  have e0 := D.evFirst (p := p) (w := w) (n₀ := n₀) (ann := ann) (pos := pos) (s := s) hn hk0 (List.nodup_append.mp hnd0).1 (by lia) hc0'
  have hsz : (hp s.heap.objs (entsOf s.toks c0) #[] s.heap.life).objs.size = s.heap.objs.size + 1 := by simp [hp]
  -- the last, shorter run
  have eL : Ev treeTable p w n₀ ann (do
      let r ← forIn (last.map (itemT pos) ++ []) (some s.heap.objs.size, []) F
      let m ← flush r.2 r.1
      match m with
      | some d => pure (Value.ref d)
      | none => newDict)
      { s with heap := hp s.heap.objs (entsOf s.toks c0 ++ entsAll (s.toks + 3 * c0.length) cs) (#[] ++ (subsOf (s.toks + 3 * c0.length) cs).toArray) s.heap.life, toks := s.toks + 3 * c0.length + 3 * lenAll cs }
      (costOf last + 5 + 6 * last.length) (.ref s.heap.objs.size)
      { s with heap := hp s.heap.objs (entsOf s.toks c0 ++ entsAll (s.toks + 3 * c0.length) cs ++ entsOf (s.toks + 3 * c0.length + 3 * lenAll cs) last) ((#[] ++ (subsOf (s.toks + 3 * c0.length) cs).toArray).push (dictO (entsOf (s.toks + 3 * c0.length + 3 * lenAll cs) last))) s.heap.life, toks := s.toks + 3 * c0.length + 3 * lenAll cs + 3 * last.length } := by
    have g := D.gather (pos := pos) [] (some s.heap.objs.size) last [] (by simpa using hl)
    rw [show (some s.heap.objs.size, ([] : List PairT)) = (some s.heap.objs.size, ([] : List Item).map (pairT pos)) from rfl, g, List.nil_append]
    refine Ev.cast (n := 0 + ((costOf last + 5 + 6 * last.length) + 0)) (Ev.bind' (a := (some s.heap.objs.size, last.map (pairT pos))) .pure (Ev.bind' (D.evNext (pos := pos) (A := s.heap.objs) (B := #[] ++ (subsOf (s.toks + 3 * c0.length) cs).toArray) (l := s.heap.life) (es := entsOf s.toks c0 ++ entsAll (s.toks + 3 * c0.length) cs) rfl hn hsm (by simp [hE0]) hkl ?_ ?_ hl0) (by exact .pure))) rfl (by lia) rfl
    · have : hashes (entsOf s.toks c0 ++ entsAll (s.toks + 3 * c0.length) cs) = keysI c0 ++ keysAll cs := by
        have hA : ∀ (cs : List (List Item)) (u : Tok), hashes (entsAll u cs) = keysAll cs := by
          intro cs
          induction cs with
          | nil => intro u; rfl
          | cons c r ih => intro u; simp only [entsAll, keysAll, ← ih (u + 3 * c.length), ← entsOf_hash u c]; simp [hashes]
        rw [← hA cs (s.toks + 3 * c0.length), ← entsOf_hash s.toks c0]; simp [hashes]
      rw [this, List.append_assoc]; exact hnd0
    · have hA : ∀ (cs : List (List Item)) (u : Tok), (entsAll u cs).length = lenAll cs := by
        intro cs
        induction cs with
        | nil => intro u; rfl
        | cons c r ih => intro u; simp only [entsAll, lenAll, List.length_append, entsOf_len, ih]
      rw [List.length_append, entsOf_len, hA]; lia
  have hflat : (((c0 :: (cs ++ [last])).map fun c => c.map (itemT pos)).flatten) = c0.map (itemT pos) ++ ((cs.map fun c => c.map (itemT pos)).flatten ++ (last.map (itemT pos) ++ [])) := by simp
  rw [hflat, D.chunk _ _ _ hc0]
  have hrest := D.evChunks (p := p) (w := w) (n₀ := n₀) (ann := ann) (pos := pos) (A := s.heap.objs) (l := s.heap.life) hn hsm (last.map (itemT pos) ++ []) cs #[] (entsOf s.toks c0) { s with heap := hp s.heap.objs (entsOf s.toks c0) #[] s.heap.life, toks := s.toks + 3 * c0.length } (m := 0) (r := (some s.heap.objs.size, last.map (pairT pos)))
      hcs rfl hE0 hkc (by rw [entsOf_hash]; rw [← List.append_assoc] at hnd0; exact (List.nodup_append.mp hnd0).1) (by rw [entsOf_len]; lia) (by
        have g := D.gather (pos := pos) [] (some s.heap.objs.size) last [] (by simpa using hl)
        rw [show (some s.heap.objs.size, ([] : List PairT)) = (some s.heap.objs.size, ([] : List Item).map (pairT pos)) from rfl, g, List.nil_append]
        exact .pure)
  have g := D.gather (pos := pos) [] (some s.heap.objs.size) last [] (by simpa using hl)
  rw [show (some s.heap.objs.size, ([] : List PairT)) = (some s.heap.objs.size, ([] : List Item).map (pairT pos)) from rfl, g, List.nil_append] at eL
  have eL' : Ev treeTable p w n₀ ann (do
      let m ← flush (last.map (pairT pos)) (some s.heap.objs.size)
      match m with
      | some d => pure (Value.ref d)
      | none => newDict) _ _ _ _ := eL
  refine Ev.cast (n := costOf c0 + (costAll cs + 0) + (costOf last + 5 + 6 * last.length)) (Ev.bind' (a := (some s.heap.objs.size, last.map (pairT pos))) (Ev.bind' (f := fun m => forIn ((cs.map fun c => c.map (itemT pos)).flatten ++ (last.map (itemT pos) ++ [])) (m, []) F) e0 hrest) (by exact eL')) rfl ?_ ?_
  · rw [a5]; lia
  · have hl3 : lenAll (c0 :: (cs ++ [last])) = c0.length + (lenAll cs + last.length) := by simp only [lenAll, a2]
    have hE : entsAll s.toks (c0 :: (cs ++ [last])) = entsOf s.toks c0 ++ entsAll (s.toks + 3 * c0.length) cs ++ entsOf (s.toks + 3 * c0.length + 3 * lenAll cs) last := by
      rw [List.append_assoc, ← a3]; rfl
    have h17 : subsOf (s.toks + 3 * 17) (cs ++ [last]) = subsOf (s.toks + 3 * c0.length) (cs ++ [last]) := by rw [hc0]
    rw [hl3, hE, h17, a4]
    have ht : s.toks + 3 * c0.length + 3 * lenAll cs + 3 * last.length = s.toks + 3 * (c0.length + (lenAll cs + last.length)) := by lia
    rw [ht]
    congr 1
    unfold hp
    congr 1
    rw [← Array.toList_inj]
    simp
end
section
variable {p : Program} {w : World} {n₀ : Nat} {ann : Option Value}

theorem Ev.goW {α : Type} {x : Sem α} {s s' : Shared} {n : Nat} {a : α} (h : Ev treeTable p w n₀ ann x s n a s') (hw : ∀ c m v s₁ s₂, CallRuns treeTable p w n₀ ann c m s₁ v s₂ → True) : ∀ (K : α → Sem Fin) (H : Value → Sem Fin) (b : List Stmt) (env : Env) (pos : Pos) (f : Frame) (B : List Frame),
    ∃ pos', topGo treeTable p w n₀ ann n s ⟨x.wrap K H id id, .body b env, pos, f :: B⟩ = some (s', ⟨K a, .body b env, pos', f :: B⟩) := by
  intro K H b env pos f B
  induction h generalizing pos with
  | pure => exact ⟨pos, rfl⟩
  | rule _ ih => obtain ⟨q, hq⟩ := ih pos; exact ⟨q, topGo_add (topGo_one rfl rfl) hq⟩
  | «at» _ ih => obtain ⟨q, hq⟩ := ih _; exact ⟨q, topGo_add (topGo_one rfl rfl) hq⟩
  | @load b' part k s o n a s' ho _ ih =>
    obtain ⟨q, hq⟩ := ih pos
    refine ⟨q, topGo_add (topGo_one rfl ?_) hq⟩
    obtain ⟨heap, gens, drawn, toks, os⟩ := s
    simp only [Sem.wrap, step]
    rw [show heap.get? b' = some o from ho]
  | @update b' part g k s n a s' hb ho _ ih =>
    obtain ⟨q, hq⟩ := ih pos
    refine ⟨q, topGo_add (topGo_one ?_ ?_) hq⟩
    · simp only [stepOk, Sem.wrap]
      rw [show Nat.ble n₀ b' = true from Nat.ble_eq.mpr hb]; rfl
    · obtain ⟨heap, gens, drawn, toks, os⟩ := s
      simp only [Sem.wrap, step]
      rw [if_pos (show (heap.get? b').isSome = true from ho)]
  | alloc _ ih =>
    obtain ⟨q, hq⟩ := ih pos
    refine ⟨q, topGo_add (topGo_one rfl ?_) hq⟩
    rename_i s _ _ _ _
    obtain ⟨heap, gens, drawn, toks, os⟩ := s
    rfl
  | point _ ih => obtain ⟨q, hq⟩ := ih pos; exact ⟨q, topGo_add (topGo_one rfl rfl) hq⟩
  | fresh _ ih => obtain ⟨q, hq⟩ := ih pos; exact ⟨q, topGo_add (topGo_one rfl rfl) hq⟩
  | ask _ ih => obtain ⟨q, hq⟩ := ih pos; exact ⟨q, topGo_add (topGo_one rfl rfl) hq⟩
  | call hc _ ih =>
    obtain ⟨q1, h1⟩ := hc _ _ _ _ b env pos f B
    obtain ⟨q, hq⟩ := ih q1
    exact ⟨q, topGo_add h1 hq⟩

/-- the pairs of a written dict of ints to texts -/
noncomputable def constK : Const → Option Nat
  | .int i => match i with
    | .ofNat k => some k
    | .negSucc _ => none
  | _ => none
noncomputable def constT : Const → Option Str
  | .str x => some x
  | _ => none
noncomputable def constOf : Expr → Option Const
  | .Constant c _ _ => some c
  | _ => none
noncomputable def constItems : List (Option Expr) → List Expr → Option (List Item)
  | [], vs => match vs with
    | [] => some []
    | _ :: _ => none
  | a :: ks, vs => match vs with
    | [] => none
    | b :: vs => match (a.bind constOf).bind constK, (constOf b).bind constT with
      | some k, some x => (constItems ks vs).map ((k, x) :: ·)
      | _, _ => none
theorem constOf_eq {e : Expr} {c : Const} (h : constOf e = some c) : ∃ k p, e = .Constant c k p := by
  unfold constOf at h
  split at h
  · cases h; exact ⟨_, _, rfl⟩
  · cases h
theorem constK_eq {c : Const} {k : Nat} (h : constK c = some k) : c = .int (.ofNat k) := by
  unfold constK at h
  split at h
  · split at h
    · cases h; rfl
    · cases h
  · cases h
theorem constT_eq {c : Const} {x : Str} (h : constT c = some x) : c = .str x := by
  unfold constT at h
  split at h
  · cases h; rfl
  · cases h
theorem constItems_eval {env : Env} {pos : Pos} : ∀ {ks : List (Option Expr)} {vs : List Expr} {its : List Item}, constItems ks vs = some its →
    (evalEachOpt ks env).zip ((evalEach vs env).map fun v => (do let x ← v; standAt pos; pure x : Sem Value)) = its.map (itemT pos)
  | [], [], its, h => by
    rw [constItems] at h
    cases h; rfl
  | [], _ :: _, its, h => by
    rw [constItems] at h
    cases h
  | _ :: _, [], its, h => by
    rw [constItems] at h
    cases h
  | a :: ks, b :: vs, its, h => by
    rw [constItems] at h
    split at h
    · rename_i k x hk hx
      obtain ⟨c, hc, hk⟩ := Option.bind_eq_some_iff.mp hk
      obtain ⟨e, rfl, hc⟩ := Option.bind_eq_some_iff.mp hc
      obtain ⟨d, hd, hx⟩ := Option.bind_eq_some_iff.mp hx
      obtain ⟨_, _, rfl⟩ := constOf_eq hc
      obtain ⟨_, _, rfl⟩ := constOf_eq hd
      obtain rfl := constK_eq hk
      obtain rfl := constT_eq hx
      rw [Option.map_eq_some_iff] at h
      obtain ⟨r, h1, rfl⟩ := h
      have ih := constItems_eval (env := env) (pos := pos) h1
      rw [List.map_cons, ← ih]
      rfl
    · cases h

noncomputable def asc : List Item → Bool
  | a :: b :: r => Nat.blt a.1 b.1 && asc (b :: r)
  | _ => true
theorem asc_lt : ∀ {l : List Item}, asc l = true → l.Pairwise fun a b => a.1 < b.1
  | [], _ => .nil
  | [a], _ => by simp
  | a :: b :: r, h => by
    simp only [asc, Bool.and_eq_true, Nat.blt_eq] at h
    have ih := asc_lt h.2
    refine List.pairwise_cons.mpr ⟨fun x hx => ?_, ih⟩
    rcases List.mem_cons.mp hx with rfl | hx
    · exact h.1
    · exact Nat.lt_trans h.1 ((List.pairwise_cons.mp ih).1 x hx)
theorem asc_nodup {l : List Item} (h : asc l = true) : (keysI l).Nodup := by
  unfold keysI
  refine List.Pairwise.map _ (fun a b hab => ?_) (asc_lt h)
  intro e
  have := Int.ofNat.inj e
  lia

noncomputable def chunks17 : Nat → List Item → List (List Item)
  | 0, _ => []
  | n + 1, l => l.take 17 :: chunks17 n (l.drop 17)
theorem chunks17_flat : ∀ (n : Nat) (l : List Item), (chunks17 n l).flatten ++ l.drop (17 * n) = l
  | 0, l => by simp [chunks17]
  | n + 1, l => by
    have ih := chunks17_flat n (l.drop 17)
    rw [List.drop_drop] at ih
    rw [chunks17, List.flatten_cons, List.append_assoc, show 17 * (n + 1) = 17 + 17 * n by lia, ih, List.take_append_drop]
theorem chunks17_len : ∀ (n : Nat) (l : List Item), 17 * n ≤ l.length → ∀ c ∈ chunks17 n l, c.length = 17
  | 0, _, _, c, hc => by cases hc
  | n + 1, l, h, c, hc => by
    rcases List.mem_cons.mp hc with rfl | hc
    · rw [List.length_take]; lia
    · exact chunks17_len n (l.drop 17) (by rw [List.length_drop]; lia) c hc
theorem keysAll_flat : ∀ (cs : List (List Item)), keysAll cs = keysI cs.flatten
  | [] => rfl
  | c :: r => by rw [keysAll, keysAll_flat r]; simp [keysI]
theorem lenAll_flat : ∀ (cs : List (List Item)), lenAll cs = cs.flatten.length
  | [] => rfl
  | c :: r => by rw [lenAll, lenAll_flat r]; simp

/-- the chunks of a written dict -/
noncomputable def dchunks (n : Nat) (its : List Item) : List (List Item) := its.take 17 :: (chunks17 n (its.drop 17) ++ [its.drop (17 + 17 * n)])
theorem dchunks_flat (n : Nat) (its : List Item) : (dchunks n its).flatten = its := by
  have h := chunks17_flat n (its.drop 17)
  rw [List.drop_drop] at h
  unfold dchunks
  simp only [List.flatten_cons, List.flatten_append, List.flatten_nil, List.append_nil]
  rw [h, List.take_append_drop]

noncomputable def midS (n : Nat) (its : List Item) (s : Shared) : Shared :=
  { s with heap := ⟨s.heap.objs ++ (dictO (entsAll s.toks (dchunks n its)) :: subsOf (s.toks + 3 * 17) (chunks17 n (its.drop 17) ++ [its.drop (17 + 17 * n)])).toArray, s.heap.life⟩, toks := s.toks + 3 * its.length }
noncomputable def dcost (n : Nat) (its : List Item) : Nat := 1 + (costOf (its.take 17) + costAll (chunks17 n (its.drop 17) ++ [its.drop (17 + 17 * n)]))

theorem ev_evalDict {ks : List (Option Expr)} {vs : List Expr} {pos : Pos} {env : Env} {its : List Item} {n : Nat} {s : Shared} (hi : constItems ks vs = some its) (ha : asc its = true) (hb : (its.all fun it => Nat.blt it.1 (2 ^ 60)) = true)
    (hl1 : 17 + 17 * n < its.length) (hl2 : its.length ≤ 17 + 17 * n + 16) (hz : its.length ≤ sizeLine) (hn : n₀ ≤ s.heap.objs.size) (hsm : sysModules < s.heap.objs.size) :
    Ev treeTable p w n₀ ann (eval (.Dict ks vs pos) env) s (dcost n its) (.ref s.heap.objs.size) (midS n its s) := by
  have hflat := dchunks_flat n its
  have hk : ∀ it ∈ its, it.1 < 2 ^ 60 := fun it hit => by have := List.all_eq_true.mp hb it hit; simpa using this
  have hc : ∀ c ∈ dchunks n its, ∀ it ∈ c, it.1 < 2 ^ 60 := fun c hc it hit => hk it (by rw [← hflat]; exact List.mem_flatten.mpr ⟨c, hc, hit⟩)
  have d := ev_display (p := p) (w := w) (ann := ann) (n₀ := n₀) (pos := pos) (its.take 17) (chunks17 n (its.drop 17)) (its.drop (17 + 17 * n)) s (by rw [List.length_take]; lia)
    (chunks17_len n _ (by rw [List.length_drop]; lia)) (by rw [List.length_drop]; lia) (by intro e; have := congrArg List.length e; rw [List.length_drop] at this; simp only [List.length_nil] at this; lia)
    hc (by rw [keysAll_flat]; exact (show (keysI (dchunks n its).flatten).Nodup by rw [hflat]; exact asc_nodup ha)) (by rw [lenAll_flat]; exact (show (dchunks n its).flatten.length ≤ sizeLine by rw [hflat]; exact hz)) hn hsm
  have e1 : eval (.Dict ks vs pos) env = (standAt pos >>= fun _ => dictDisplay ((evalEachOpt ks env).zip ((evalEach vs env).map fun v => (do let x ← v; standAt pos; pure x : Sem Value)))) := by
    kernel_rfl
  rw [e1, constItems_eval hi]
  have e2 : its.map (itemT pos) = ((its.take 17 :: (chunks17 n (its.drop 17) ++ [its.drop (17 + 17 * n)])).map fun c => c.map (itemT pos)).flatten := by
    rw [← List.map_flatten]
    exact congrArg _ hflat.symm
  rw [e2]
  refine Ev.cast (Ev.bind' (n := 1) (Ev.at (n := 0) .pure) d) rfl rfl ?_
  unfold midS
  rw [lenAll_flat]
  have : (its.take 17 :: (chunks17 n (its.drop 17) ++ [its.drop (17 + 17 * n)])).flatten.length = its.length := congrArg List.length hflat
  rw [this]
  rfl
end
noncomputable def listNewQ : {G : Builtin // PySem.Builtin.«list.__new__» = G} := by
  refine ⟨?G, ?h⟩
  case h =>
    unfold PySem.Builtin.«list.__new__»
    rw [splitQ_eq]
noncomputable def tbQ (id : String) : Option Builtin := match Nat.beq (code id) (code "list.__new__") with
  | true => some listNewQ.1
  | false => treeTable id
theorem tbQ_eq : treeTable = tbQ := by
  funext id
  unfold tbQ
  cases h : Nat.beq (code id) (code "list.__new__") with
  | false => rfl
  | true =>
    have e : id = "list.__new__" := code_inj _ _ (Nat.eq_of_beq_eq_true h)
    subst e
    show _ = some listNewQ.1
    rw [← listNewQ.2]
    kernel_rfl

noncomputable abbrev pw : Program := pw_ul0020_01
noncomputable def bodyB : List Stmt := behindTheImports pw
noncomputable def stN (i : Nat) : Stmt := (pw.main.body)[i]!
noncomputable def l1 : List Stmt := pw.main.body.take 3
noncomputable def l2 : List Stmt := pw.main.body.drop 4
theorem body_split : bodyB = l1 ++ (stN 3 :: l2) := by kernel_rfl
noncomputable def b3ks : List (Option Expr) := match stN 3 with | .Assign _ (.Dict ks _ _) _ => ks | _ => []
noncomputable def b3vs : List Expr := match stN 3 with | .Assign _ (.Dict _ vs _) _ => vs | _ => []
noncomputable def b3ts : List Expr := match stN 3 with | .Assign ts _ _ => ts | _ => []
noncomputable def b3pos : Pos := match stN 3 with | .Assign _ (.Dict _ _ p) _ => p | _ => default
noncomputable def b3pa : Pos := match stN 3 with | .Assign _ _ p => p | _ => default
theorem st3_eq : stN 3 = .Assign b3ts (.Dict b3ks b3vs b3pos) b3pa := by kernel_rfl
noncomputable def b3its : List Item := (constItems b3ks b3vs).getD []
theorem b3its_eq : constItems b3ks b3vs = some b3its := by kernel_rfl
theorem b3its_len : b3its.length = 650 := by kernel_rfl
theorem b3its_asc : asc b3its = true := by kernel_rfl
theorem b3its_small : (b3its.all fun it => Nat.blt it.1 (2 ^ 60)) = true := by kernel_rfl

noncomputable def env1 : Env := { scope := pw.main.scope, locals := mainNs, globals := mainNs, cells := [], code := .ref 13, frame := some 14 }
noncomputable def contK (v : Value) : Sem Flow := do assignStores env1 v (← swappedStores b3ts (.Dict b3ks b3vs b3pos) env1) ((assignEach b3ts env1).map (·.2))
theorem swaps_no : swapsWithSole b3ts (.Dict b3ks b3vs b3pos) b3pa.line env1 = pure false := by kernel_rfl
theorem exec_assign (ts : List Expr) (v : Expr) (pos : Pos) (env : Env) : exec (.Assign ts v pos) env = (standAt pos >>= fun _ => (swapsWithSole ts v pos.line env >>= fun b => if b = true then (do
      evalThenUse v env fun v => assignAll v ((assignEach ts env).map (·.2))
      pure .next) else (eval v env >>= fun x => (do assignStores env x (← swappedStores ts v env) ((assignEach ts env).map (·.2)))))) := by kernel_rfl
theorem exec3 : exec (stN 3) env1 = (standAt b3pa >>= fun _ => (eval (.Dict b3ks b3vs b3pos) env1 >>= contK)) := by
  rw [st3_eq, exec_assign, swaps_no]
  rfl
noncomputable section
noncomputable def S (x : String) : Str := Str.ofString x
noncomputable def ke (P : Params) (x : String) (t : Tok) (v : Value) : DictEntry := ⟨PyData.keyHash P (S x), .str (S x) t, v⟩
noncomputable def fArgs (i : Nat) : Arguments := match stN i with | .FunctionDef _ a .. => a | _ => default
noncomputable def fBody (i : Nat) : List Stmt := match stN i with | .FunctionDef _ _ b .. => b | _ => []
noncomputable def fScope (i : Nat) : Scope := match stN i with | .FunctionDef _ _ _ _ _ _ s .. => s | _ => default
noncomputable def fName (i : Nat) : Str := match stN i with | .FunctionDef n .. => n | _ => default
noncomputable def bL2 : List Stmt := by
  refine (fun (x : List Stmt) (_ : fBody 2 = x) => x) ?x ?h
  case h => conv => lhs; whnf
noncomputable def sL2 : Scope := by
  refine (fun (x : Scope) (_ : fScope 2 = x) => x) ?x ?h
  case h => conv => lhs; whnf
noncomputable def aL2 : Arguments := by
  refine (fun (x : Arguments) (_ : fArgs 2 = x) => x) ?x ?h
  case h => conv => lhs; whnf
noncomputable def nL2 : Str := by
  refine (fun (x : Str) (_ : fName 2 = x) => x) ?x ?h
  case h => conv => lhs; whnf
noncomputable def bL4 : List Stmt := by
  refine (fun (x : List Stmt) (_ : fBody 4 = x) => x) ?x ?h
  case h => conv => lhs; whnf
noncomputable def sL4 : Scope := by
  refine (fun (x : Scope) (_ : fScope 4 = x) => x) ?x ?h
  case h => conv => lhs; whnf
noncomputable def aL4 : Arguments := by
  refine (fun (x : Arguments) (_ : fArgs 4 = x) => x) ?x ?h
  case h => conv => lhs; whnf
noncomputable def nL4 : Str := by
  refine (fun (x : Str) (_ : fName 4 = x) => x) ?x ?h
  case h => conv => lhs; whnf
noncomputable def bL7 : List Stmt := by
  refine (fun (x : List Stmt) (_ : fBody 7 = x) => x) ?x ?h
  case h => conv => lhs; whnf
noncomputable def sL7 : Scope := by
  refine (fun (x : Scope) (_ : fScope 7 = x) => x) ?x ?h
  case h => conv => lhs; whnf
noncomputable def aL7 : Arguments := by
  refine (fun (x : Arguments) (_ : fArgs 7 = x) => x) ?x ?h
  case h => conv => lhs; whnf
noncomputable def nL7 : Str := by
  refine (fun (x : Str) (_ : fName 7 = x) => x) ?x ?h
  case h => conv => lhs; whnf
noncomputable def bL8 : List Stmt := by
  refine (fun (x : List Stmt) (_ : fBody 8 = x) => x) ?x ?h
  case h => conv => lhs; whnf
noncomputable def sL8 : Scope := by
  refine (fun (x : Scope) (_ : fScope 8 = x) => x) ?x ?h
  case h => conv => lhs; whnf
noncomputable def aL8 : Arguments := by
  refine (fun (x : Arguments) (_ : fArgs 8 = x) => x) ?x ?h
  case h => conv => lhs; whnf
noncomputable def nL8 : Str := by
  refine (fun (x : Str) (_ : fName 8 = x) => x) ?x ?h
  case h => conv => lhs; whnf
noncomputable def bL9 : List Stmt := by
  refine (fun (x : List Stmt) (_ : fBody 9 = x) => x) ?x ?h
  case h => conv => lhs; whnf
noncomputable def sL9 : Scope := by
  refine (fun (x : Scope) (_ : fScope 9 = x) => x) ?x ?h
  case h => conv => lhs; whnf
noncomputable def aL9 : Arguments := by
  refine (fun (x : Arguments) (_ : fArgs 9 = x) => x) ?x ?h
  case h => conv => lhs; whnf
noncomputable def nL9 : Str := by
  refine (fun (x : Str) (_ : fName 9 = x) => x) ?x ?h
  case h => conv => lhs; whnf
noncomputable def bL10 : List Stmt := by
  refine (fun (x : List Stmt) (_ : fBody 10 = x) => x) ?x ?h
  case h => conv => lhs; whnf
noncomputable def sL10 : Scope := by
  refine (fun (x : Scope) (_ : fScope 10 = x) => x) ?x ?h
  case h => conv => lhs; whnf
noncomputable def aL10 : Arguments := by
  refine (fun (x : Arguments) (_ : fArgs 10 = x) => x) ?x ?h
  case h => conv => lhs; whnf
noncomputable def nL10 : Str := by
  refine (fun (x : Str) (_ : fName 10 = x) => x) ?x ?h
  case h => conv => lhs; whnf
noncomputable def bL11 : List Stmt := by
  refine (fun (x : List Stmt) (_ : fBody 11 = x) => x) ?x ?h
  case h => conv => lhs; whnf
noncomputable def sL11 : Scope := by
  refine (fun (x : Scope) (_ : fScope 11 = x) => x) ?x ?h
  case h => conv => lhs; whnf
noncomputable def aL11 : Arguments := by
  refine (fun (x : Arguments) (_ : fArgs 11 = x) => x) ?x ?h
  case h => conv => lhs; whnf
noncomputable def nL11 : Str := by
  refine (fun (x : Str) (_ : fName 11 = x) => x) ?x ?h
  case h => conv => lhs; whnf
noncomputable def bL12 : List Stmt := by
  refine (fun (x : List Stmt) (_ : fBody 12 = x) => x) ?x ?h
  case h => conv => lhs; whnf
noncomputable def sL12 : Scope := by
  refine (fun (x : Scope) (_ : fScope 12 = x) => x) ?x ?h
  case h => conv => lhs; whnf
noncomputable def aL12 : Arguments := by
  refine (fun (x : Arguments) (_ : fArgs 12 = x) => x) ?x ?h
  case h => conv => lhs; whnf
noncomputable def nL12 : Str := by
  refine (fun (x : Str) (_ : fName 12 = x) => x) ?x ?h
  case h => conv => lhs; whnf
noncomputable def bL14 : List Stmt := by
  refine (fun (x : List Stmt) (_ : fBody 14 = x) => x) ?x ?h
  case h => conv => lhs; whnf
noncomputable def sL14 : Scope := by
  refine (fun (x : Scope) (_ : fScope 14 = x) => x) ?x ?h
  case h => conv => lhs; whnf
noncomputable def aL14 : Arguments := by
  refine (fun (x : Arguments) (_ : fArgs 14 = x) => x) ?x ?h
  case h => conv => lhs; whnf
noncomputable def nL14 : Str := by
  refine (fun (x : Str) (_ : fName 14 = x) => x) ?x ?h
  case h => conv => lhs; whnf
noncomputable def bL16 : List Stmt := by
  refine (fun (x : List Stmt) (_ : fBody 16 = x) => x) ?x ?h
  case h => conv => lhs; whnf
noncomputable def sL16 : Scope := by
  refine (fun (x : Scope) (_ : fScope 16 = x) => x) ?x ?h
  case h => conv => lhs; whnf
noncomputable def aL16 : Arguments := by
  refine (fun (x : Arguments) (_ : fArgs 16 = x) => x) ?x ?h
  case h => conv => lhs; whnf
noncomputable def nL16 : Str := by
  refine (fun (x : Str) (_ : fName 16 = x) => x) ?x ?h
  case h => conv => lhs; whnf
noncomputable def bL17 : List Stmt := by
  refine (fun (x : List Stmt) (_ : fBody 17 = x) => x) ?x ?h
  case h => conv => lhs; whnf
noncomputable def sL17 : Scope := by
  refine (fun (x : Scope) (_ : fScope 17 = x) => x) ?x ?h
  case h => conv => lhs; whnf
noncomputable def aL17 : Arguments := by
  refine (fun (x : Arguments) (_ : fArgs 17 = x) => x) ?x ?h
  case h => conv => lhs; whnf
noncomputable def nL17 : Str := by
  refine (fun (x : Str) (_ : fName 17 = x) => x) ?x ?h
  case h => conv => lhs; whnf
noncomputable def bL18 : List Stmt := by
  refine (fun (x : List Stmt) (_ : fBody 18 = x) => x) ?x ?h
  case h => conv => lhs; whnf
noncomputable def sL18 : Scope := by
  refine (fun (x : Scope) (_ : fScope 18 = x) => x) ?x ?h
  case h => conv => lhs; whnf
noncomputable def aL18 : Arguments := by
  refine (fun (x : Arguments) (_ : fArgs 18 = x) => x) ?x ?h
  case h => conv => lhs; whnf
noncomputable def nL18 : Str := by
  refine (fun (x : Str) (_ : fName 18 = x) => x) ?x ?h
  case h => conv => lhs; whnf
noncomputable def bL19 : List Stmt := by
  refine (fun (x : List Stmt) (_ : fBody 19 = x) => x) ?x ?h
  case h => conv => lhs; whnf
noncomputable def sL19 : Scope := by
  refine (fun (x : Scope) (_ : fScope 19 = x) => x) ?x ?h
  case h => conv => lhs; whnf
noncomputable def aL19 : Arguments := by
  refine (fun (x : Arguments) (_ : fArgs 19 = x) => x) ?x ?h
  case h => conv => lhs; whnf
noncomputable def nL19 : Str := by
  refine (fun (x : Str) (_ : fName 19 = x) => x) ?x ?h
  case h => conv => lhs; whnf
noncomputable def bL20 : List Stmt := by
  refine (fun (x : List Stmt) (_ : fBody 20 = x) => x) ?x ?h
  case h => conv => lhs; whnf
noncomputable def sL20 : Scope := by
  refine (fun (x : Scope) (_ : fScope 20 = x) => x) ?x ?h
  case h => conv => lhs; whnf
noncomputable def aL20 : Arguments := by
  refine (fun (x : Arguments) (_ : fArgs 20 = x) => x) ?x ?h
  case h => conv => lhs; whnf
noncomputable def nL20 : Str := by
  refine (fun (x : Str) (_ : fName 20 = x) => x) ?x ?h
  case h => conv => lhs; whnf
noncomputable def bL21 : List Stmt := by
  refine (fun (x : List Stmt) (_ : fBody 21 = x) => x) ?x ?h
  case h => conv => lhs; whnf
noncomputable def sL21 : Scope := by
  refine (fun (x : Scope) (_ : fScope 21 = x) => x) ?x ?h
  case h => conv => lhs; whnf
noncomputable def aL21 : Arguments := by
  refine (fun (x : Arguments) (_ : fArgs 21 = x) => x) ?x ?h
  case h => conv => lhs; whnf
noncomputable def nL21 : Str := by
  refine (fun (x : Str) (_ : fName 21 = x) => x) ?x ?h
  case h => conv => lhs; whnf
noncomputable def fD (n : Str) (a : Arguments) (b : List Stmt) (sc : Scope) (g : Addr) (md cd : Value) : FuncData := { name := n, qualname := n, params := a, body := .stmts b, scope := sc, globals := g, closure := [], defaults := .none, kwdefaults := .none, doc := .none, pyModule := md, annotations := none, code := cd, closureTuple := .none, builtins := 0 }
noncomputable def a3 (P : Params) : Obj := ⟨.type "dict", none, .dict [ke P "__name__" 165 (.str (S "cpy313.stringprep") 187), ke P "__doc__" 166 (.none), ke P "__package__" 167 (.none), ke P "__loader__" 168 (.builtin "__main__.__loader__#opaque"), ke P "__spec__" 169 (.none), ke P "__annotations__" 170 (.ref 6), ke P "__builtins__" 171 (.ref 4), ke P "__file__" 173 (.str (S "/claim/cut.py") 172), ke P "__cached__" 174 (.none), ke P "b1_set" 248 (.ref 22)].toArray 10, #[]⟩
noncomputable def a11 (P : Params) : Obj := ⟨.type "tuple", none, .seq [].toArray 0, #[]⟩
noncomputable def a12 (P : Params) : Obj := ⟨.none, none, .fields [].toArray, #[]⟩
noncomputable def a13 (P : Params) : Obj := ⟨.type "code", none, .fields [.str (S "<module>") 182, .str (S "<module>") 183, .str (S "/claim/cut.py") 184, .int 1 0, .int 0 0, .int 0 0, .int 0 0, .int 0 0, .ref 11, .bool false, .int 181 0, .ref 12, .none, .none, .none, .none, .int 185 0, .int 1 0, .str (S "/claim/cut.py") 186].toArray, #[]⟩
noncomputable def a14 (P : Params) : Obj := ⟨.type "frame", none, .plain, #[some (.ref 13), some (.ref 3), some (.ref 3), none, some (.str (S "__main__") 164), none, some (.ref 0)]⟩
noncomputable def a15 (P : Params) : Obj := ⟨.type "list", none, .seq [.int 173 189, .int 847 190, .int 6150 191, .int 6155 192, .int 6156 193, .int 6157 194, .int 8203 195, .int 8204 196, .int 8205 197, .int 8288 198, .int 65279 199].toArray 0, #[]⟩
noncomputable def a16 (P : Params) : Obj := ⟨.type "range", none, .fields [.int 65024 200, .int 65040 201, .int 1 202].toArray, #[]⟩
noncomputable def a17 (P : Params) : Obj := ⟨.type "list", none, .seq [.int 65024 205, .int 65025 206, .int 65026 207, .int 65027 208, .int 65028 209, .int 65029 210, .int 65030 211, .int 65031 212, .int 65032 213, .int 65033 214, .int 65034 215, .int 65035 216, .int 65036 217, .int 65037 218, .int 65038 219, .int 65039 220].toArray 18, #[]⟩
noncomputable def a18 (P : Params) : Obj := ⟨.type "range_iterator", none, .fields [.int 65040 0, .int 0 0, .int 1 0].toArray, #[]⟩
noncomputable def a19 (P : Params) : Obj := ⟨.type "tuple", none, .seq [].toArray 0, #[]⟩
noncomputable def a20 (P : Params) : Obj := ⟨.type "StopIteration", none, .fields [.ref 19, .none, .none, .none, .bool false, .none].toArray, #[]⟩
noncomputable def a21 (P : Params) : Obj := ⟨.type "list", none, .seq [.int 173 189, .int 847 190, .int 6150 191, .int 6155 192, .int 6156 193, .int 6157 194, .int 8203 195, .int 8204 196, .int 8205 197, .int 8288 198, .int 65279 199, .int 65024 205, .int 65025 206, .int 65026 207, .int 65027 208, .int 65028 209, .int 65029 210, .int 65030 211, .int 65031 212, .int 65032 213, .int 65033 214, .int 65034 215, .int 65035 216, .int 65036 217, .int 65037 218, .int 65038 219, .int 65039 220].toArray 0, #[]⟩
noncomputable def a22 (P : Params) : Obj := ⟨.type "set", none, .set [(65024, .int 65024 205), (65025, .int 65025 206), (65026, .int 65026 207), (65027, .int 65027 208), (65028, .int 65028 209), (65029, .int 65029 210), (6150, .int 6150 191), (65030, .int 65030 211), (65031, .int 65031 212), (65032, .int 65032 213), (65033, .int 65033 214), (6155, .int 6155 192), (6156, .int 6156 193), (6157, .int 6157 194), (8203, .int 8203 195), (8204, .int 8204 196), (8205, .int 8205 197), (65034, .int 65034 215), (65035, .int 65035 216), (65036, .int 65036 217), (65037, .int 65037 218), (65038, .int 65038 219), (65039, .int 65039 220), (173, .int 173 189), (847, .int 847 190), (8288, .int 8288 198), (65279, .int 65279 199)].toArray 29 ⟨127, #[0, 1, 2, 3, 4, 5, 6, 7, 8, 9, 10, 11, 12, 13, 14, 15, 16, 17, 18, 19, 20, 21, 22, 45, 79, 96, 127], #[], 0, !(P.followText "set-order"), 2, true⟩, #[]⟩
noncomputable def a23 (P : Params) : Obj := ⟨.type "list_iterator", none, .fields [.none, .int 27 0].toArray, #[]⟩
noncomputable def a24 (P : Params) : Obj := ⟨.type "tuple", none, .seq [].toArray 0, #[]⟩
noncomputable def a25 (P : Params) : Obj := ⟨.type "StopIteration", none, .fields [.ref 24, .none, .none, .none, .bool false, .none].toArray, #[]⟩
noncomputable def SA (w : World) (os : OsState) : Shared := ⟨⟨Array.mk [boot_o_0 w.params, boot_o_1 w.params, boot_o_2 w.params, a3 w.params, boot_o_4 w.params, boot_o_5 w.params, boot_o_6 w.params, boot_o_7 w.params, boot_o_8 w.params, boot_o_9 w.params, boot_o_10 w.params, a11 w.params, a12 w.params, a13 w.params, a14 w.params, a15 w.params, a16 w.params, a17 w.params, a18 w.params, a19 w.params, a20 w.params, a21 w.params, a22 w.params, a23 w.params, a24 w.params, a25 w.params], (boot_heap w.params).life⟩, Array.mk [], boot_drawn, 249, os⟩
noncomputable def q0 : Pos := ⟨0, 0, 0, 0⟩
noncomputable def c1 : Code := .body bodyB env1
noncomputable def m0 : Nat := 11
noncomputable def ann0 : Option Value := some (.ref 6)
noncomputable def S0 (w : World) (os : OsState) : Shared := ⟨boot_heap w.params, Array.mk [], boot_drawn, boot_toks, os⟩
noncomputable def Sa (w : World) (os : OsState) : Option (Shared × Thread) := topGo treeTable pw w m0 ann0 12 (S0 w os) (topStub pw)
noncomputable def sa (w : World) (os : OsState) : Shared := match Sa w os with | some (s, _) => s | none => S0 w os
theorem pre_ok (w : World) (os : OsState) : Sa w os = some (sa w os, ⟨denote treeTable c1, c1, q0, [topFrame q0]⟩) := by
  have h : (Sa w os).map (·.2) = some ⟨denote treeTable c1, c1, q0, [topFrame q0]⟩ := by kernel_rfl
  unfold sa
  cases e : Sa w os with
  | none => rw [e] at h; cases h
  | some r =>
    rw [e] at h
    obtain ⟨s, t⟩ := r
    have : t = _ := Option.some.inj h
    rw [this]
noncomputable def Sb (w : World) (os : OsState) : Option (Flow × Shared × Code × Pos) := segRun treeTable pw w m0 ann0 1 2 (sa w os) (blockOf bodyB env1 c1 q0 [topFrame q0])
noncomputable def sb (w : World) (os : OsState) : Shared := match Sb w os with | some (_, s, _) => s | none => S0 w os
theorem block_ok (w : World) (os : OsState) : Sb w os = some (.next, sb w os, c1, q0) := by
  have h : (Sb w os).map (fun x => (x.1, x.2.2)) = some (.next, c1, q0) := by kernel_rfl
  unfold sb
  cases e : Sb w os with
  | none => rw [e] at h; cases h
  | some r =>
    rw [e] at h
    obtain ⟨f, s, c, p⟩ := r
    obtain ⟨h1, h2, h3⟩ : f = .next ∧ c = c1 ∧ p = q0 := by simpa using h
    rw [h1, h2, h3]
noncomputable def lA : List Stmt := pw.main.body.take 2
noncomputable def lB : List Stmt := (pw.main.body.take 3).drop 2
theorem l1_split : l1 = lA ++ lB := by kernel_rfl
noncomputable def pA : Pos := ⟨2, 0, 2, 6⟩
noncomputable def Sc (w : World) (os : OsState) : Option (Flow × Shared × Code × Pos) := segRun tbQ pw w m0 ann0 1 1500 (sb w os) (piecesOf lA env1 c1 q0 [topFrame q0])
noncomputable def wf (w : World) (a b : Bool) : World := (w.withFollow "special-get-raises" a).withFollow "set-order" b
noncomputable def rA (w : World) (os : OsState) : Option (Flow × Shared × Code × Pos) := some (.next, SA w os, c1, pA)
set_option profiler true
set_option profiler.threshold 500
theorem segA4 (w : World) (os : OsState) : (Sc (wf w false false) os, Sc (wf w false true) os, Sc (wf w true false) os, Sc (wf w true true) os) = (rA (wf w false false) os, rA (wf w false true) os, rA (wf w true false) os, rA (wf w true true) os) := by kernel_rfl
theorem segA (w : World) (os : OsState) : Sc w os = rA w os := by
  have h : ∀ a b, Sc (wf w a b) os = rA (wf w a b) os := by
    have h4 := segA4 w os
    simp only [Prod.mk.injEq] at h4
    intro a b
    cases a <;> cases b
    · exact h4.1
    · exact h4.2.1
    · exact h4.2.2.1
    · exact h4.2.2.2
  have := h (w.params.followText "special-get-raises") (w.params.followText "set-order")
  have e : wf w (w.params.followText "special-get-raises") (w.params.followText "set-order") = w := by
    unfold wf
    rw [World.withFollow_self]
    exact World.withFollow_self w "set-order"
  rw [e] at this
  exact this
end
noncomputable section
noncomputable def z3 (P : Params) : Obj := ⟨.type "dict", none, .dict [ke P "__name__" 165 (.str (S "law_ul0020_01") 2309), ke P "__doc__" 166 (.none), ke P "__package__" 167 (.none), ke P "__loader__" 168 (.builtin "__main__.__loader__#opaque"), ke P "__spec__" 169 (.none), ke P "__annotations__" 170 (.ref 6), ke P "__builtins__" 171 (.ref 4), ke P "__file__" 173 (.str (S "/claim/cut.py") 172), ke P "__cached__" 174 (.none), ke P "b1_set" 248 (.ref 22), ke P "in_table_b1" 255 (.ref 32), ke P "b3_exceptions" 2206 (.ref 33), ke P "map_table_b3" 2214 (.ref 78), ke P "_DIV_LIMIT" 2218 (.int 4000 2217), ke P "_div2n1n" 2235 (.ref 85), ke P "_div3n2n" 2249 (.ref 92), ke P "_int2digits" 2260 (.ref 99), ke P "_digits2int" 2271 (.ref 106), ke P "_divmod_pos" 2286 (.ref 113), ke P "int_divmod" 2296 (.ref 120), ke P "Int2AP" 2308 (.ref 127), ke P "_law_cell" 2319 (.ref 134), ke P "_law_sign" 2329 (.ref 141), ke P "_law_text" 2344 (.ref 148), ke P "_law_read" 2350 (.ref 153), ke P "_law_turn" 2362 (.ref 160), ke P "law" 2368 (.ref 165)].toArray 27, #[]⟩
noncomputable def z31 (P : Params) : Obj := ⟨.type "code", none, .fields [.str (S "in_table_b1") 249, .str (S "in_table_b1") 250, .str (S "/claim/cut.py") 251, .int 3 0, .int 1 0, .int 0 0, .int 0 0, .int 3 0, .ref 26, .bool true, .int 181 0, .ref 27, .none, .ref 28, .ref 29, .ref 30, .int 253 0, .int 3 0, .str (S "/claim/cut.py") 254].toArray, #[]⟩
noncomputable def z32 (P : Params) : Obj := ⟨.type "function", none, .func (fD nL2 aL2 bL2 sL2 3 (.str (S "cpy313.stringprep") 187) (.ref 31)), #[]⟩
noncomputable def z77 (P : Params) : Obj := ⟨.type "code", none, .fields [.str (S "map_table_b3") 2207, .str (S "map_table_b3") 2208, .str (S "/claim/cut.py") 2209, .int 6 0, .int 1 0, .int 0 0, .int 0 0, .int 3 0, .ref 72, .bool true, .int 181 0, .ref 73, .none, .ref 74, .ref 75, .ref 76, .int 2212 0, .int 6 0, .str (S "/claim/cut.py") 2213].toArray, #[]⟩
noncomputable def z78 (P : Params) : Obj := ⟨.type "function", none, .func (fD nL4 aL4 bL4 sL4 3 (.str (S "cpy313.stringprep") 187) (.ref 77)), #[]⟩
noncomputable def z84 (P : Params) : Obj := ⟨.type "code", none, .fields [.str (S "_div2n1n") 2219, .str (S "_div2n1n") 2220, .str (S "/claim/cut.py") 2221, .int 13 0, .int 3 0, .int 0 0, .int 0 0, .int 3 0, .ref 79, .bool true, .int 181 0, .ref 80, .none, .ref 81, .ref 82, .ref 83, .int 2233 0, .int 13 0, .str (S "/claim/cut.py") 2234].toArray, #[]⟩
noncomputable def z85 (P : Params) : Obj := ⟨.type "function", none, .func (fD nL7 aL7 bL7 sL7 3 (.str (S "cpy313._pylong") 2215) (.ref 84)), #[]⟩
noncomputable def z91 (P : Params) : Obj := ⟨.type "code", none, .fields [.str (S "_div3n2n") 2236, .str (S "_div3n2n") 2237, .str (S "/claim/cut.py") 2238, .int 29 0, .int 6 0, .int 0 0, .int 0 0, .int 3 0, .ref 86, .bool true, .int 181 0, .ref 87, .none, .ref 88, .ref 89, .ref 90, .int 2247 0, .int 29 0, .str (S "/claim/cut.py") 2248].toArray, #[]⟩
noncomputable def z92 (P : Params) : Obj := ⟨.type "function", none, .func (fD nL8 aL8 bL8 sL8 3 (.str (S "cpy313._pylong") 2215) (.ref 91)), #[]⟩
noncomputable def z98 (P : Params) : Obj := ⟨.type "code", none, .fields [.str (S "_int2digits") 2250, .str (S "_int2digits") 2251, .str (S "/claim/cut.py") 2252, .int 39 0, .int 2 0, .int 0 0, .int 0 0, .int 3 0, .ref 93, .bool true, .int 181 0, .ref 94, .none, .ref 95, .ref 96, .ref 97, .int 2258 0, .int 39 0, .str (S "/claim/cut.py") 2259].toArray, #[]⟩
noncomputable def z99 (P : Params) : Obj := ⟨.type "function", none, .func (fD nL9 aL9 bL9 sL9 3 (.str (S "cpy313._pylong") 2215) (.ref 98)), #[]⟩
noncomputable def z105 (P : Params) : Obj := ⟨.type "code", none, .fields [.str (S "_digits2int") 2261, .str (S "_digits2int") 2262, .str (S "/claim/cut.py") 2263, .int 55 0, .int 2 0, .int 0 0, .int 0 0, .int 3 0, .ref 100, .bool true, .int 181 0, .ref 101, .none, .ref 102, .ref 103, .ref 104, .int 2269 0, .int 55 0, .str (S "/claim/cut.py") 2270].toArray, #[]⟩
noncomputable def z106 (P : Params) : Obj := ⟨.type "function", none, .func (fD nL10 aL10 bL10 sL10 3 (.str (S "cpy313._pylong") 2215) (.ref 105)), #[]⟩
noncomputable def z112 (P : Params) : Obj := ⟨.type "code", none, .fields [.str (S "_divmod_pos") 2272, .str (S "_divmod_pos") 2273, .str (S "/claim/cut.py") 2274, .int 64 0, .int 2 0, .int 0 0, .int 0 0, .int 3 0, .ref 107, .bool true, .int 181 0, .ref 108, .none, .ref 109, .ref 110, .ref 111, .int 2284 0, .int 64 0, .str (S "/claim/cut.py") 2285].toArray, #[]⟩
noncomputable def z113 (P : Params) : Obj := ⟨.type "function", none, .func (fD nL11 aL11 bL11 sL11 3 (.str (S "cpy313._pylong") 2215) (.ref 112)), #[]⟩
noncomputable def z119 (P : Params) : Obj := ⟨.type "code", none, .fields [.str (S "int_divmod") 2287, .str (S "int_divmod") 2288, .str (S "/claim/cut.py") 2289, .int 75 0, .int 2 0, .int 0 0, .int 0 0, .int 3 0, .ref 114, .bool true, .int 181 0, .ref 115, .none, .ref 116, .ref 117, .ref 118, .int 2294 0, .int 75 0, .str (S "/claim/cut.py") 2295].toArray, #[]⟩
noncomputable def z120 (P : Params) : Obj := ⟨.type "function", none, .func (fD nL12 aL12 bL12 sL12 3 (.str (S "cpy313._pylong") 2215) (.ref 119)), #[]⟩
noncomputable def z126 (P : Params) : Obj := ⟨.type "code", none, .fields [.str (S "Int2AP") 2299, .str (S "Int2AP") 2300, .str (S "/claim/cut.py") 2301, .int 87 0, .int 1 0, .int 0 0, .int 0 0, .int 3 0, .ref 121, .bool true, .int 181 0, .ref 122, .none, .ref 123, .ref 124, .ref 125, .int 2306 0, .int 87 0, .str (S "/claim/cut.py") 2307].toArray, #[]⟩
noncomputable def z127 (P : Params) : Obj := ⟨.type "function", none, .func (fD nL14 aL14 bL14 sL14 3 (.str (S "cpy313.imaplib") 2297) (.ref 126)), #[]⟩
noncomputable def z133 (P : Params) : Obj := ⟨.type "code", none, .fields [.str (S "_law_cell") 2311, .str (S "_law_cell") 2312, .str (S "/claim/cut.py") 2313, .int 96 0, .int 3 0, .int 0 0, .int 0 0, .int 3 0, .ref 128, .bool true, .int 181 0, .ref 129, .none, .ref 130, .ref 131, .ref 132, .int 2317 0, .int 96 0, .str (S "/claim/cut.py") 2318].toArray, #[]⟩
noncomputable def z134 (P : Params) : Obj := ⟨.type "function", none, .func (fD nL16 aL16 bL16 sL16 3 (.str (S "law_ul0020_01") 2309) (.ref 133)), #[]⟩
noncomputable def z140 (P : Params) : Obj := ⟨.type "code", none, .fields [.str (S "_law_sign") 2320, .str (S "_law_sign") 2321, .str (S "/claim/cut.py") 2322, .int 98 0, .int 2 0, .int 0 0, .int 0 0, .int 3 0, .ref 135, .bool true, .int 181 0, .ref 136, .none, .ref 137, .ref 138, .ref 139, .int 2327 0, .int 98 0, .str (S "/claim/cut.py") 2328].toArray, #[]⟩
noncomputable def z141 (P : Params) : Obj := ⟨.type "function", none, .func (fD nL17 aL17 bL17 sL17 3 (.str (S "law_ul0020_01") 2309) (.ref 140)), #[]⟩
noncomputable def z147 (P : Params) : Obj := ⟨.type "code", none, .fields [.str (S "_law_text") 2330, .str (S "_law_text") 2331, .str (S "/claim/cut.py") 2332, .int 106 0, .int 4 0, .int 0 0, .int 0 0, .int 3 0, .ref 142, .bool true, .int 181 0, .ref 143, .none, .ref 144, .ref 145, .ref 146, .int 2342 0, .int 106 0, .str (S "/claim/cut.py") 2343].toArray, #[]⟩
noncomputable def z148 (P : Params) : Obj := ⟨.type "function", none, .func (fD nL18 aL18 bL18 sL18 3 (.str (S "law_ul0020_01") 2309) (.ref 147)), #[]⟩
noncomputable def z152 (P : Params) : Obj := ⟨.type "code", none, .fields [.str (S "_law_read") 2345, .str (S "_law_read") 2346, .str (S "/claim/cut.py") 2347, .int 126 0, .int 1 0, .int 0 0, .int 0 0, .int 3 0, .ref 149, .bool true, .int 181 0, .ref 150, .none, .none, .none, .ref 151, .int 2348 0, .int 126 0, .str (S "/claim/cut.py") 2349].toArray, #[]⟩
noncomputable def z153 (P : Params) : Obj := ⟨.type "function", none, .func (fD nL19 aL19 bL19 sL19 3 (.str (S "law_ul0020_01") 2309) (.ref 152)), #[]⟩
noncomputable def z159 (P : Params) : Obj := ⟨.type "code", none, .fields [.str (S "_law_turn") 2351, .str (S "_law_turn") 2352, .str (S "/claim/cut.py") 2353, .int 135 0, .int 2 0, .int 0 0, .int 0 0, .int 3 0, .ref 154, .bool true, .int 181 0, .ref 155, .none, .ref 156, .ref 157, .ref 158, .int 2360 0, .int 135 0, .str (S "/claim/cut.py") 2361].toArray, #[]⟩
noncomputable def z160 (P : Params) : Obj := ⟨.type "function", none, .func (fD nL20 aL20 bL20 sL20 3 (.str (S "law_ul0020_01") 2309) (.ref 159)), #[]⟩
noncomputable def z164 (P : Params) : Obj := ⟨.type "code", none, .fields [.str (S "law") 2363, .str (S "law") 2364, .str (S "/claim/cut.py") 2365, .int 143 0, .int 1 0, .int 0 0, .int 0 0, .int 3 0, .ref 161, .bool true, .int 181 0, .ref 162, .none, .none, .none, .ref 163, .int 2366 0, .int 143 0, .str (S "/claim/cut.py") 2367].toArray, #[]⟩
noncomputable def z165 (P : Params) : Obj := ⟨.type "function", none, .func (fD nL21 aL21 bL21 sL21 3 (.str (S "law_ul0020_01") 2309) (.ref 164)), #[]⟩
noncomputable def b3O : Obj := dictO (entsAll 256 (dchunks 37 b3its))
noncomputable def KL (P : Params) : Frag := (nat_lit 2, boot_o_2 P) :: (nat_lit 3, z3 P) :: (nat_lit 6, boot_o_6 P) :: (nat_lit 22, a22 P) :: (nat_lit 31, z31 P) :: (nat_lit 32, z32 P) :: (nat_lit 33, b3O) :: (nat_lit 77, z77 P) :: (nat_lit 78, z78 P) :: (nat_lit 84, z84 P) :: (nat_lit 85, z85 P) :: (nat_lit 91, z91 P) :: (nat_lit 92, z92 P) :: (nat_lit 98, z98 P) :: (nat_lit 99, z99 P) :: (nat_lit 105, z105 P) :: (nat_lit 106, z106 P) :: (nat_lit 112, z112 P) :: (nat_lit 113, z113 P) :: (nat_lit 119, z119 P) :: (nat_lit 120, z120 P) :: (nat_lit 126, z126 P) :: (nat_lit 127, z127 P) :: (nat_lit 133, z133 P) :: (nat_lit 134, z134 P) :: (nat_lit 140, z140 P) :: (nat_lit 141, z141 P) :: (nat_lit 147, z147 P) :: (nat_lit 148, z148 P) :: (nat_lit 152, z152 P) :: (nat_lit 153, z153 P) :: (nat_lit 159, z159 P) :: (nat_lit 160, z160 P) :: (nat_lit 164, z164 P) :: (nat_lit 165, z165 P) :: []
noncomputable def asL : List Addr := [2, 3, 6, 22, 31, 32, 33, 77, 78, 84, 85, 91, 92, 98, 99, 105, 106, 112, 113, 119, 120, 126, 127, 133, 134, 140, 141, 147, 148, 152, 153, 159, 160, 164, 165]
theorem asL_eq (P : Params) : asL = (KL P).map (·.1) := by kernel_rfl
noncomputable def qv : Program := { pw with main := { pw.main with body := [1, 2, 3, 4, 6, 7, 8, 9, 10, 11, 12, 14, 16, 17, 18, 19, 20, 21].filterMap fun i => pw.main.body[i]? } }
noncomputable def loose1 : List Str := [S "b1_set", S "b3_exceptions"]
noncomputable def H : Hook := kHook KL asL asL_eq
end
noncomputable section
noncomputable def sB (w : World) (os : OsState) : Option (Flow × Shared × Code × Pos) := segRun tbQ pw w m0 ann0 1 100 (SA w os) (piecesOf lB env1 c1 pA [topFrame q0])
noncomputable def midT (pos : Pos) : Thread := ⟨(contK (.ref 33)).wrap (fun f => match f with | .next => (execs l2 env1).wrap doneF (leaveH env1) id id | f => doneF f) (leaveH env1) id id, c1, pos, [topFrame q0]⟩
noncomputable def tailOf (w : World) (s : Shared) (pos : Pos) : Option Shared := topRun tbQ pw w m0 ann0 800 (midS 37 b3its s) (midT pos)
noncomputable def XtL (s : Shared) : Bool := xlAt qv [] s && recOk [] s
noncomputable def looksAt (w : World) (os : OsState) (r : Shared) := ((staticsOk (importedModules pw.main.body) (boot_heap w.params) r.heap && namesBound pw r.heap && gensDone r && laidKept (boot_heap w.params) r.heap), openSeen qv loose1 (importedModules pw.main.body) XtL true r, H.obs r)
noncomputable def looksOk (w : World) := (true, openGood qv loose1, H.val w)
noncomputable def outB (w : World) (os : OsState) (pos : Pos) := (sB w os).map fun x => (x.1, x.2.2.1, x.2.1.heap.objs.size, (tailOf w x.2.1 pos).map (looksAt w os))
set_option profiler true
set_option profiler.threshold 500
theorem segB (w : World) (os : OsState) (pos : Pos) : outB w os pos = some (.next, c1, 33, some (looksOk w)) := by kernel_rfl
end
noncomputable section
theorem left_mine {p q : Program} {loose : List Str} {Xt : Shared → Bool} {α : Type} {Yf : Shared → α} {Ya : World → α} {N : Nat} {g0 : Bool} {m₀ : Nat} {ann : Option Value}
    (open_ : ∀ w : World, (fencedOpening treeTable p w N).map (fun s => (s.heap, s.gens, s.drawn, s.toks)) = some (boot_heap w.params, Array.mk [], boot_drawn, boot_toks))
    (size : ∀ w : World, ((boot_heap w.params).isNs mainGlobals, (boot_heap w.params).objs.size, (boot_heap w.params).nsMap mainGlobals "__annotations__") = (true, m₀, ann))
    (run : ∀ (w : World) (os : OsState), ∃ r, topRun treeTable p w m₀ ann N ⟨boot_heap w.params, Array.mk [], boot_drawn, boot_toks, os⟩ (topStub p) = some r ∧
      ((staticsOk (importedModules p.main.body) (boot_heap w.params) r.heap && namesBound p r.heap && gensDone r && laidKept (boot_heap w.params) r.heap), openSeen q loose (importedModules p.main.body) Xt g0 r, Yf r) = (true, openGood q loose, Ya w)) :
    LeftO p q loose Xt Yf Ya N g0 := fun w => by
  obtain ⟨⟨h, gs, d, k, os⟩, e, e'⟩ := Option.map_eq_some_iff.mp (open_ w)
  obtain ⟨rfl, rfl, rfl, rfl⟩ : h = boot_heap w.params ∧ gs = Array.mk [] ∧ d = boot_drawn ∧ k = boot_toks := by simpa using e'
  obtain ⟨z1, z2, z3⟩ : _ ∧ _ ∧ _ := by simpa only [Prod.mk.injEq] using size w
  obtain ⟨r, hr, hl⟩ := run w os
  obtain ⟨l1, l2, l3⟩ : _ ∧ _ ∧ _ := by simpa only [Prod.mk.injEq] using hl
  have t : topFrom treeTable p w N ⟨boot_heap w.params, Array.mk [], boot_drawn, boot_toks, os⟩ = some r := by
    unfold topFrom
    dsimp only
    rw [z1, z2, z3, hr]
    show (match staticsOk (importedModules p.main.body) (boot_heap w.params) r.heap && namesBound p r.heap && gensDone r && laidKept (boot_heap w.params) r.heap with | true => _ | false => _) = _
    rw [l1]
  unfold openEnds
  rw [e]
  show (topFrom treeTable p w N _).map _ = _
  rw [t]
  exact congrArg some (Prod.ext l2 l3)

noncomputable def NN : Nat := 20000
theorem open1 : ∀ w : World, (fencedOpening treeTable pw w NN).map (fun s => (s.heap, s.gens, s.drawn, s.toks)) = some (boot_heap w.params, Array.mk [], boot_drawn, boot_toks) :=
  boot_open (p := pw) (N := NN) (by kernel_rfl) (by kernel_rfl) (fun s => by kernel_rfl)
theorem size1 (w : World) : ((boot_heap w.params).isNs mainGlobals, (boot_heap w.params).objs.size, (boot_heap w.params).nsMap mainGlobals "__annotations__") = (true, m0, ann0) := by kernel_rfl

theorem costs : 12 + (2 + (1500 + (100 + (1 + dcost 37 b3its + 800)))) ≤ NN := Nat.le_of_ble_eq_true (by kernel_rfl)

theorem run1 (w : World) (os : OsState) : ∃ r, topRun treeTable pw w m0 ann0 NN (S0 w os) (topStub pw) = some r ∧ looksAt w os r = looksOk w := by
  -- the piece before the dict, from the state that is written out
  have hB := segB w os q0
  obtain ⟨⟨f, sb1, cc, pp⟩, hsB, hx⟩ := Option.map_eq_some_iff.mp hB
  obtain ⟨hx1, hx2, hx3, -⟩ : f = .next ∧ cc = c1 ∧ sb1.heap.objs.size = 33 ∧ _ := by simpa only [Prod.mk.injEq] using hx
  subst hx1; subst hx2
  -- the dict
  have hev := ev_evalDict (p := pw) (w := w) (n₀ := m0) (ann := ann0) (pos := b3pos) (env := env1) (n := 37) (s := sb1) b3its_eq b3its_asc b3its_small (by rw [b3its_len]; decide) (by rw [b3its_len]; decide) (by rw [b3its_len]; decide) (by rw [hx3]; decide) (by rw [hx3]; decide)
  rw [hx3] at hev
  have hev1 : Ev treeTable pw w m0 ann0 (standAt b3pa >>= fun _ => eval (.Dict b3ks b3vs b3pos) env1) sb1 (1 + dcost 37 b3its) (.ref 33) (midS 37 b3its sb1) := Ev.bind' (n := 1) (Ev.at (n := 0) .pure) hev
  obtain ⟨pos', hgo⟩ := hev1.goW (fun _ _ _ _ _ _ => trivial) (fun v => (contK v).wrap (fun f => match f with | .next => (execs l2 env1).wrap doneF (leaveH env1) id id | f => doneF f) (leaveH env1) id id) (leaveH env1) bodyB env1 pp (topFrame q0) []
  -- the rest
  have hB' := segB w os pos'
  rw [outB, hsB] at hB'
  obtain ⟨-, -, -, hT⟩ : _ ∧ _ ∧ _ ∧ (tailOf w sb1 pos').map (looksAt w os) = some (looksOk w) := by simpa only [Option.map_some, Option.some.injEq, Prod.mk.injEq] using hB'
  obtain ⟨r, hr, hlook⟩ := Option.map_eq_some_iff.mp hT
  refine ⟨r, ?_, hlook⟩
  have k0 : topRun treeTable pw w m0 ann0 800 (midS 37 b3its sb1) (midT pos') = some r := by rw [tbQ_eq]; exact hr
  have k1 : topRun treeTable pw w m0 ann0 (1 + dcost 37 b3its + 800) sb1 (restOf (stN 3 :: l2) env1 c1 pp [topFrame q0]) = some r := by
    have e : restOf (stN 3 :: l2) env1 c1 pp [topFrame q0] = ⟨(standAt b3pa >>= fun _ => eval (.Dict b3ks b3vs b3pos) env1).wrap (fun v => (contK v).wrap (fun f => match f with | .next => (execs l2 env1).wrap doneF (leaveH env1) id id | f => doneF f) (leaveH env1) id id) (leaveH env1) id id, .body bodyB env1, pp, [topFrame q0]⟩ := by
      unfold restOf
      rw [execs_cons_wrap, exec3]
      have e2 : (standAt b3pa >>= fun _ => (eval (.Dict b3ks b3vs b3pos) env1 >>= contK)) = ((standAt b3pa >>= fun _ => eval (.Dict b3ks b3vs b3pos) env1) >>= contK) := (Sem.bind_assoc (standAt b3pa) (fun _ => eval (.Dict b3ks b3vs b3pos) env1) contK).symm
      rw [e2, Sem.bind_eq_wrap' _ contK, Sem.wrap_wrap]
      rfl
    rw [e]
    exact go_top hgo k0
  have hsB' : segRun treeTable pw w m0 ann0 1 100 (SA w os) (piecesOf lB env1 c1 pA [topFrame q0]) = some (.next, sb1, c1, pp) := by rw [tbQ_eq]; exact hsB
  have k2 := piece_app (rest := stN 3 :: l2) hsB' k1
  have hsA : segRun treeTable pw w m0 ann0 1 1500 (sb w os) (piecesOf lA env1 c1 q0 [topFrame q0]) = some (.next, SA w os, c1, pA) := by rw [tbQ_eq]; exact segA w os
  have k3 := piece_app (rest := lB ++ (stN 3 :: l2)) hsA k2
  have eb : lA ++ (lB ++ (stN 3 :: l2)) = bodyB := by rw [← List.append_assoc, ← l1_split, ← body_split]
  rw [eb] at k3
  have k4 := piece_block (block_ok w os) k3
  have k5 := go_top (pre_ok w os) k4
  generalize hM : 12 + (2 + (1500 + (100 + (1 + dcost 37 b3its + 800)))) = M at k5
  have hle : M ≤ NN := hM ▸ costs
  have k6 := topRun_mono (NN - M) _ _ _ _ k5
  rw [Nat.add_sub_of_le hle] at k6
  exact k6

theorem left1 : LeftO pw qv loose1 XtL H.obs H.val NN := left_mine open1 size1 run1
end
open PySem.Calls
theorem prime : rw_ul0020_01.prog = rw_ul0020_01.prog ∧ KL = KL := by k_fill; exact ⟨rfl, rfl⟩

noncomputable abbrev ML (w : World) : Model := model rw_ul0020_01.prog w
/-- the heads of the code objects whose tables grow -/
noncomputable def HdOk (h : Heap) : Prop := CodeHd h 105 101 ∧ CodeHd h 98 94
theorem HdOk.keeps {h h' : Heap} (x : HdOk h) (k : h.StaysIn h') : HdOk h' := ⟨x.1.keeps k, x.2.keeps k⟩
noncomputable abbrev looseL : List Str := looseW qv loose1 ++ (recsOf qv).map (·.name) ++ (litsOf qv).map (·.1) ++ (clssOf qv (looseW qv loose1)).map (·.name)

structure Grd (w : World) (mean : ExcName → Option Value) (mg mb : Str → Option Value) (h : Heap) : Prop where
  X : (KL w.params).In h
  T : Top topProg looseL mean mg mb h
  C : HdOk h
theorem Grd.keeps {w : World} {mean : ExcName → Option Value} {mg mb : Str → Option Value} {h h' : Heap} (x : Grd w mean mg mb h) (k : h.StaysIn h') : Grd w mean mg mb h' := ⟨x.X.keeps k, x.T.keeps k, x.C.keeps k⟩

noncomputable abbrev Rel := Value → List (Addr × Obj) → Prop
/-- what a call gives: for any caller's frame, over the ledger news -/
noncomputable def Spec (w : World) (mean : ExcName → Option Value) (mg mb : Str → Option Value) (f : Value) (vs : List Value) (D U : Nat) (news : List (Addr × Obj)) (R : Rel) : Prop :=
  ∀ (dp un : Nat) (gd : Option (List Code)) (cn : Str) (cs : Scope) (a : Addr) (ccd : Value) (cl : List (Str × Addr)) (outer : List Env) (A₀ : Around) (base h₀ : Heap) (L : Addr) (m : Str → Option Value) (s : Shared) (Q E : Value → Shared → Prop),
    Below A₀ base outer h₀ → Fr h₀ L s.heap m → News h₀ L s.heap news → Grd w mean mg mb h₀ → cs.kind = .function → dp + D < recursionLimit → un + U < cLine →
    (∀ r news' h' tk', R r news' → Fr h₀ L h' m → News h₀ L h' news' → Q r { s with heap := h', toks := tk' }) →
    wpAny (ML w) (ktrTop dp un gd cn cs L a ccd cl outer) (call f vs) Q E s

/-- the end of a body -/
noncomputable def Ret (s : Shared) (g : Heap) (L' : Addr) (R : Rel) (fl : Flow) (s' : Shared) : Prop :=
  ∃ m' news' h' tk', s' = { s with heap := h', toks := tk' } ∧ Fr g L' h' m' ∧ News g L' h' news' ∧ R (match fl with | .ret v => v | _ => .none) news'
theorem Ret.intro {s : Shared} {g : Heap} {L' : Addr} {R : Rel} {v : Value} {m' : Str → Option Value} {news' : List (Addr × Obj)} {h' : Heap} {tk' : Nat} (F : Fr g L' h' m') (N : News g L' h' news') (h : R v news') :
    Ret s g L' R (.ret v) { s with heap := h', toks := tk' } := ⟨m', news', h', tk', rfl, F, N, h⟩
noncomputable abbrev noE : Value → Shared → Prop := fun _ _ => False

section
variable {w : World} {mean : ExcName → Option Value} {mg mb : Str → Option Value}
/-- a def of the top without cells of its own -/
theorem spec_def {f c : Addr} {vs : List Value} {D U : Nat} {news : List (Addr × Obj)} {R : Rel} {nm : Str} {ar : Arguments} {bd : List Stmt} {sc : Scope} {pm : Value} {binds : List (Str × Value)}
    (ho : (KL w.params).lookup f = some ⟨.type "function", none, .func (fnOf nm nm ar bd sc .none .none .none pm none (.ref c) .none), #[]⟩) (hcd : codeIn (KL w.params) (.ref c) nm = true)
    (hbind : bindArgs (fnOf nm nm ar bd sc .none .none .none pm none (.ref c) .none) ⟨vs, []⟩ = pure binds) (hloc : (binds.all fun x => decide (sc.names.lookup x.1 = some .local)) = true)
    (h : ∀ (dp un : Nat) (gd : Option (List Code)) (outer : List Env) (A₀ : Around) (base g : Heap) (L' : Addr) (h₁ : Heap) (s : Shared), Below A₀ base outer g → Fr g L' h₁ (fun y => binds.reverse.lookup y) → News g L' h₁ news → Grd w mean mg mb g → (∀ p ∈ news, p.1 < L') → dp + D < recursionLimit + 1 → un + U < cLine + 3 →
      wpAny (ML w) (ktrTop dp un gd nm sc L' f (.ref c) [] outer) (execs bd (envX nm sc L' f (.ref c) [])) (Ret s g L' R) noE { s with heap := h₁, toks := s.toks + binds.length })
    (hcell : (sc.names.all fun x => x.2 != .cell) = true) (hco : sc.isCoroutine = false) (hgen : sc.isGenerator = false) (hk : sc.kind = .function) (hD : 0 < D) (hU : 0 < U) : Spec w mean mg mb (.ref f) vs D U news R := by
  intro dp un gd cn cs a ccd cl outer A₀ base h₀ L m s Q E B F N G hkc hd hu hret
  refine wpAny_call ?_
  refine callX_plain (cl := []) B F N G.T.nolimit rfl rfl hkc ((G.X.keeps F.keep) _ _ ho) rfl (codeRec_of (G.X.keeps F.keep) hcd) (by show dp < recursionLimit; lia) (BindsTo.of_eq hbind) (locs hloc) ?_ (fun x hx => by have := List.all_eq_true.mp hcell x hx; simpa using this) hco hgen hk
  intro g L' h₁ FG F' N' B' st lt
  refine wpAny_mono (h (dp + 1) (un + 3) gd (envX cn cs L a ccd cl :: outer) _ base g L' h₁ s B' F' N' (G.keeps st) lt (by lia) (by lia)) (fun fl s' hr => ?_) (fun _ _ x => x.elim)
  obtain ⟨m', news', h', tk', rfl, F2, N2, hR⟩ := hr
  exact leaveK_ F2 N2 fun F3 N3 => hret _ _ _ _ hR F3 N3
end
theorem prime1 : rw_ul0020_01.prog = rw_ul0020_01.prog ∧ KL = KL := by k_fill; exact ⟨rfl, rfl⟩
section
variable {w : World} {mean : ExcName → Option Value} {mg mb : Str → Option Value}

noncomputable def b1L : List Int := [65024, 65025, 65026, 65027, 65028, 65029, 6150, 65030, 65031, 65032, 65033, 6155, 6156, 6157, 8203, 8204, 8205, 65034, 65035, 65036, 65037, 65038, 65039, 173, 847, 8288, 65279]
noncomputable def intsAt : List (Int × Value) → List Int → Bool
  | [], [] => true
  | (h, .int k _) :: r, k' :: r' => h == hashInt k && k == k' && intsAt r r'
  | _, _ => false
theorem intsAt_elems {prog : Program} : ∀ {es : List (Int × Value)} {ks : List Int}, intsAt es ks = true → ElemsOf (intKind prog w) es
  | [], _, _ => fun e he => by cases he
  | (h, .int k t) :: r, k' :: r', x => by
    simp only [intsAt, Bool.and_eq_true, beq_iff_eq] at x
    intro e he
    rcases List.mem_cons.mp he with rfl | he
    · exact ⟨⟨k, intKind_is _ _ _ _, x.1.1⟩, rfl⟩
    · exact intsAt_elems x.2 e he
theorem intsAt_mem {prog : Program} : ∀ {es : List (Int × Value)} {ks : List Int}, intsAt es ks = true → ∀ k, decide (k ∈ ks) = true ↔ ∃ e ∈ es, (intKind prog w).is k e.2 = true
  | [], [], _ => fun k => by simp
  | (h, .int k t) :: r, k' :: r', x => by
    simp only [intsAt, Bool.and_eq_true, beq_iff_eq] at x
    obtain ⟨⟨_, rfl⟩, x2⟩ := x
    intro q
    have ih := intsAt_mem (prog := prog) x2 q
    simp only [decide_eq_true_eq, List.mem_cons] at ih ⊢
    rw [ih]
    constructor
    · rintro (rfl | ⟨e, he, h⟩)
      · exact ⟨_, .inl rfl, intKind_is _ _ _ _⟩
      · exact ⟨e, .inr he, h⟩
    · rintro ⟨e, rfl | he, h⟩
      · have h' : Value.isInt q (.int k t) = true := h
        obtain ⟨u, e⟩ := Value.isInt_shape h'
        cases e
        exact .inl rfl
      · exact .inr ⟨e, he, h⟩
theorem b1_set {h : Heap} (X : (KL w.params).In h) : h.SetOf (intKind rw_ul0020_01.prog w) 22 (fun k => decide (k ∈ b1L)) 27 := by
  have h1 := X 22 (a22 w.params) (by kernel_rfl)
  refine ⟨_, _, _, _, h1, ⟨rfl, rfl, rfl⟩, rfl, ?_, ?_, by decide, by rfl, rfl⟩
  · exact intsAt_elems (ks := b1L) (by decide +kernel)
  · exact intsAt_mem (by decide +kernel)
set_option maxRecDepth 100000 in
set_option maxHeartbeats 8000000 in
theorem spec_inB1 (c : Nat) (t : Tok) (news : List (Addr × Obj)) : Spec w mean mg mb (.ref 32) [.str ⟨#[c]⟩ t] 1 20 news (fun r n => r = .bool (decide ((c : Int) ∈ b1L)) ∧ n = news) := by
  refine spec_def (nm := nL2) (ar := aL2) (bd := bL2) (sc := sL2) (c := 31) (binds := [(S "code", .str ⟨#[c]⟩ t)]) rfl rfl rfl rfl ?_ rfl rfl rfl rfl (by decide) (by decide)
  intro dp un gd outer A₀ base g L' h₁ s B F N G lt hd hu
  obtain ⟨X, T, C⟩ := G
  dsimp only [bL2, sL2, S] at *
  k_steps
  exact wpAny_inSet_of (intKind_is _ _ _ _) rfl (b1_set (X.keeps F.keep)) (Ret.intro F N ⟨rfl, rfl⟩)

/-- entries that bear these items -/
inductive EI : List DictEntry → List Item → Prop
  | nil : EI [] []
  | cons {u v : Tok} {it : Item} {es : List DictEntry} {its : List Item} : EI es its → EI (ent u v it :: es) (it :: its)
theorem EI.append : ∀ {a b : List DictEntry} {x y : List Item}, EI a x → EI b y → EI (a ++ b) (x ++ y)
  | _, _, _, _, .nil, h => h
  | _, _, _, _, .cons h, k => .cons (h.append k)
theorem ei_L (u : Tok) : ∀ its : List Item, EI (entsL u its) its := fun its => by
  induction its generalizing u with
  | nil => exact .nil
  | cons it r ih => exact .cons (ih _)
theorem ei_S (u : Tok) : ∀ its : List Item, EI (entsS u its) its := fun its => by
  induction its generalizing u with
  | nil => exact .nil
  | cons it r ih => exact .cons (ih _)
theorem ei_of (u : Tok) (its : List Item) : EI (entsOf u its) its := by
  unfold entsOf
  split
  · exact ei_S u its
  · exact ei_L u its
theorem ei_all (u : Tok) : ∀ cs : List (List Item), EI (entsAll u cs) cs.flatten := fun cs => by
  induction cs generalizing u with
  | nil => exact .nil
  | cons c r ih => exact (ei_of _ _).append (ih _)
noncomputable def valsOf : List DictEntry → List (Int × Value)
  | [] => []
  | e :: r => ((match e.key with | .int k _ => k | _ => 0), e.val) :: valsOf r
noncomputable def tabD (its : List Item) : List (PyData × PyData) := its.map fun it => (PyData.int (Int.ofNat it.1), PyData.str it.2)
theorem rawHash_small {k : Nat} (h : k < 2 ^ 60) : hashInt (Int.ofNat k) = Int.ofNat k := by
  have h1 : ¬ (Int.ofNat k < 0) := by simp only [Int.ofNat_eq_natCast]; lia
  have h2 : (Int.ofNat k).natAbs % (2 ^ 61 - 1) = k := by
    simp only [Int.ofNat_eq_natCast, Int.natAbs_natCast]; lia
  have h4 : rawHash (Int.ofNat k) = Int.ofNat k := by
    have h3 : (((Int.ofNat k).natAbs : Nat) : Int) % ((2 ^ 61 - 1 : Nat) : Int) = Int.ofNat k := by
      rw [← Int.natCast_emod, h2]; rfl
    unfold rawHash
    dsimp only
    rw [if_neg h1, h3, if_neg (by simp only [beq_iff_eq, Int.ofNat_eq_natCast]; lia)]
  unfold hashInt
  rw [h4, if_neg (by simp only [beq_iff_eq, Int.ofNat_eq_natCast]; lia)]
theorem ei_tab {prog : Program} {h : Heap} {d : Addr} {es : List DictEntry} {its : List Item} (hd : h.get? d = some (dictO es)) (lo : (d == sysModules) = false) (e : EI es its) (hnd : (keysI its).Nodup) (hk : ∀ it ∈ its, it.1 < 2 ^ 60) :
    IntTab prog w h d (tabD its) := by
  have hkeys : (valsOf es).map (·.1) = keysI its := by
    clear hd hnd hk
    induction e with
    | nil => rfl
    | cons _ ih => simp only [valsOf, List.map_cons, ih, keysI]; rfl
  refine TabAt.ofObj (o := dictO es) (kvs := valsOf es) lo hd ⟨es.toArray, es.length, ⟨rfl, rfl, rfl⟩, rfl, ?_, ?_, by rw [hkeys]; exact hnd⟩ ?_
  · intro x hx
    have hx' : x ∈ es := by simpa using hx
    clear hd hnd hkeys hx
    induction e with
    | nil => cases hx'
    | @cons u v it es its _ ih =>
      rcases List.mem_cons.mp hx' with rfl | hx'
      · refine ⟨Int.ofNat it.1, intKind_is _ _ _ _, ?_⟩
        show Int.ofNat it.1 = hashInt (Int.ofNat it.1)
        rw [rawHash_small (hk it (.head _))]
      · exact ih (fun y hy => hk y (.tail _ hy)) hx'
  · show Pairs _ es _
    clear hd hnd hkeys hk
    induction e with
    | nil => exact .nil
    | cons _ ih => exact .cons (intKind_is _ _ _ _) rfl ih
  · clear hd hnd hkeys hk
    induction e with
    | nil => exact .nil
    | cons _ ih => exact .cons (PyProof.V.Flat.str _ _) ih
noncomputable def b3find (c : Nat) : Option Str := (b3its.find? fun it => it.1 == c).map (·.2)
theorem tab_lookup (its : List Item) (c : Nat) : PySem.Spec.lookup (.int (Int.ofNat c)) (tabD its) = ((its.find? fun it => it.1 == c).map (·.2)).map .str := by
  induction its with
  | nil => rfl
  | cons it r ih =>
    simp only [tabD, List.map_cons, PySem.Spec.lookup, List.find?_cons]
    have : PySem.Spec.same (.int (Int.ofNat it.1)) (.int (Int.ofNat c)) = (it.1 == c) := by
      rw [PyProof.V.same_int]
      by_cases hc : it.1 = c
      · subst hc; simp
      · have : (it.1 == c) = false := by simpa using hc
        rw [this, decide_eq_false]
        intro e; exact hc (Int.ofNat.inj e)
    rw [this]
    cases hb : it.1 == c with
    | true => rfl
    | false => simpa [tabD] using ih
set_option maxRecDepth 100000 in
theorem b3_at (P : Params) : (KL P).lookup 33 = some b3O := by kernel_rfl
set_option maxRecDepth 100000 in
theorem b3_tab {h : Heap} (X : (KL w.params).In h) : IntTab rw_ul0020_01.prog w h 33 (tabD b3its) := by
  have h1 := X 33 b3O (b3_at w.params)
  have hf : (dchunks 37 b3its).flatten = b3its := dchunks_flat 37 b3its
  exact ei_tab h1 (by decide) (hf ▸ ei_all _ (dchunks 37 b3its)) (asc_nodup b3its_asc) (fun it hit => by have := List.all_eq_true.mp b3its_small it hit; simpa using this)
theorem len_one (c : Nat) : (⟨#[c]⟩ : Str).length ≤ 5592405 := (by decide : (1 : Nat) ≤ 5592405)
/-- what map_table_b3 gives for a sign -/
noncomputable def mapB3 (c : Nat) : Str := (b3find c).getD (Txt.lower ⟨#[c]⟩)
set_option maxRecDepth 100000 in
set_option maxHeartbeats 8000000 in
theorem spec_map (c : Nat) (t : Tok) (news : List (Addr × Obj)) : Spec w mean mg mb (.ref 78) [.str ⟨#[c]⟩ t] 1 20 news (fun r n => (∃ u, r = .str (mapB3 c) u) ∧ n = news) := by
  refine spec_def (nm := nL4) (ar := aL4) (bd := bL4) (sc := sL4) (c := 77) (binds := [(S "code", .str ⟨#[c]⟩ t)]) rfl rfl rfl rfl ?_ rfl rfl rfl rfl (by decide) (by decide)
  intro dp un gd outer A₀ base g L' h₁ s B F N G lt hd hu
  obtain ⟨X, T, C⟩ := G
  dsimp only [bL4, sL4, S] at *
  have T3 := b3_tab (w := w) (X.keeps F.keep)
  k_steps
  rename (PyProof.V.Flat _ _) => hv
  have hl : PySem.Spec.lookup (.int (c : Int)) (tabD b3its) = (b3find c).map .str := tab_lookup b3its c
  rw [hl] at hv
  rcases hb : b3find c with _ | x
  · rw [hb] at hv
    obtain rfl := PyProof.V.Flat.none_inv hv
    k_steps
    refine SCL.lower (len_one c) fun k => ?_
    k_steps
    exact Ret.intro (by assumption) (by assumption) ⟨⟨_, by rw [mapB3, hb]; rfl⟩, rfl⟩
  · rw [hb] at hv
    obtain ⟨t', rfl⟩ := PyProof.V.Flat.str_inv hv
    k_steps
    exact Ret.intro (by assumption) (by assumption) ⟨⟨_, by rw [mapB3, hb]; rfl⟩, rfl⟩
end
theorem prime2 : rw_ul0020_01.prog = rw_ul0020_01.prog ∧ KL = KL := by k_fill; exact ⟨rfl, rfl⟩
section
variable {w : World} {mean : ExcName → Option Value} {mg mb : Str → Option Value}
/-- a tuple of two numbers -/
noncomputable abbrev tup2 (q r : Int) (t u : Tok) : Obj := { cls := .type "tuple", data := .seq #[.int q t, .int r u] }
/-- the answer is a new pair -/
noncomputable abbrev PairR (news : List (Addr × Obj)) (q r : Int) : Rel := fun v n => ∃ p t u, v = .ref p ∧ n = (p, tup2 q r t u) :: news ∧ ∀ p' ∈ news, p'.1 ≠ p
theorem bits_sub {x n : Int} {m : Nat} (h : x.natAbs < 2 ^ m) (hm : m ≤ 4000) (hn : 0 ≤ n) : (Builtin.Int.intBits x : Int) - n ≤ 4000 := by
  have := PySem.intBits_le_iff.mpr h
  lia
theorem log2_of {y : Int} {m : Nat} (h : y.natAbs < 2 ^ m) (hm : m ≤ 4000) : y.natAbs.log2 < 9000 := by
  by_cases h0 : y.natAbs = 0
  · rw [h0]; decide +kernel
  · have := (Nat.log2_lt h0).mpr h; lia
set_option maxRecDepth 100000 in
set_option maxHeartbeats 8000000 in
theorem spec_d21 (x y n : Int) (t1 t2 t3 : Tok) (hx : x.natAbs < 2 ^ 4000) (hy : y.natAbs < 2 ^ 4000) (hy0 : y ≠ 0) (hn : 0 ≤ n) (news : List (Addr × Obj)) : Spec w mean mg mb (.ref 85) [.int x t1, .int y t2, .int n t3] 1 20 news (PairR news (x.fdiv y) (x.fmod y)) := by
  refine spec_def (nm := nL7) (ar := aL7) (bd := bL7) (sc := sL7) (c := 84) (binds := [(S "a", .int x t1), (S "b", .int y t2), (S "n", .int n t3)]) rfl rfl rfl rfl ?_ rfl rfl rfl rfl (by decide) (by decide)
  intro dp un gd outer A₀ base g L' h₁ s B F N G lt hd hu
  obtain ⟨X, T, C⟩ := G
  dsimp only [bL7, sL7, S] at *
  have hl := bits_sub hx (Nat.le_refl _) hn
  k_steps
  have hlt : ∀ p' ∈ news, p'.1 ≠ h₁.objs.size := fun p hp => Nat.ne_of_lt (Heap.lt_size (N p hp).1)
  refine divmod_N (by assumption) (by assumption) hy0 (fun h' F2 N2 => ?_) (Or.inl (PyProof.noPylong_of_log2 (log2_of hy (Nat.le_refl _))))
  exact Ret.intro F2 N2 ⟨_, _, _, rfl, rfl, hlt⟩

theorem Spec.use {f : Value} {vs : List Value} {D U : Nat} {news : List (Addr × Obj)} {R : Rel} (S : Spec w mean mg mb f vs D U news R) {dp un : Nat} {gd : Option (List Code)} {cn : Str} {cs : Scope} {a : Addr} {ccd : Value} {cl : List (Str × Addr)} {outer : List Env} {A₀ : Around} {base h₀ : Heap} {L : Addr} {m : Str → Option Value} {s : Shared} {Q E : Value → Shared → Prop}
    (B : Below A₀ base outer h₀) (F : Fr h₀ L s.heap m) (N : News h₀ L s.heap news) (X : (KL w.params).In h₀) (T : Top topProg looseL mean mg mb h₀) (C : HdOk h₀) (hk : cs.kind = .function) (hd : dp + D < recursionLimit) (hu : un + U < cLine)
    (h : ∀ r news' h' tk', R r news' → Fr h₀ L h' m → News h₀ L h' news' → Q r { s with heap := h', toks := tk' }) :
    wpAny (ML w) (ktrTop dp un gd cn cs L a ccd cl outer) (call f vs) Q E s := S _ _ _ _ _ _ _ _ _ _ _ _ _ _ _ _ _ B F N ⟨X, T, C⟩ hk hd hu h
theorem spec_defC {f c : Addr} {vs : List Value} {D U : Nat} {news : List (Addr × Obj)} {R : Rel} {nm : Str} {ar : Arguments} {bd : List Stmt} {sc : Scope} {pm : Value} {binds : List (Str × Value)} {CL : Addr → List (Str × Addr)} {ml : Str → Option Value} {mc : Str → Option Value}
    (ho : (KL w.params).lookup f = some ⟨.type "function", none, .func (fnOf nm nm ar bd sc .none .none .none pm none (.ref c) .none), #[]⟩) (hcd : codeIn (KL w.params) (.ref c) nm = true)
    (hbind : bindArgs (fnOf nm nm ar bd sc .none .none .none pm none (.ref c) .none) ⟨vs, []⟩ = pure binds)
    (hkind : (binds.all fun y => sc.names.lookup y.1 == some .local || sc.names.lookup y.1 == some .cell) = true) (hnd : ((cellsFrom 0 sc.names []).map (·.1)).Nodup)
    (hCL : ∀ L, cellsFrom (L + 1) sc.names [] = CL L) (hml : ∀ L, bindL (envOfC nm sc L f (.ref c)).kindOf binds (fun _ => none) = ml) (hmc : ∀ L, bindC (envOfC nm sc L f (.ref c)).kindOf binds (fun _ => none) = mc)
    (h : ∀ (dp un : Nat) (gd : Option (List Code)) (outer : List Env) (A₀ : Around) (base g : Heap) (L' : Addr) (h₁ : Heap) (s : Shared) (tk : Tok) (cells : List (Addr × Obj)), Below A₀ base outer g → Fr g L' h₁ ml → News g L' h₁ (cells ++ news) → CellsAre mc (CL L') cells → Grd w mean mg mb g → (∀ p ∈ news, p.1 < L') → dp + D < recursionLimit + 1 → un + U < cLine + 3 →
      wpAny (ML w) (ktrTop dp un gd nm sc L' f (.ref c) (CL L') outer) (execs bd (envX nm sc L' f (.ref c) (CL L'))) (Ret s g L' R) noE { s with heap := h₁, toks := tk })
    (hco : sc.isCoroutine = false) (hgen : sc.isGenerator = false) (hk : sc.kind = .function) (hD : 0 < D) (hU : 0 < U) : Spec w mean mg mb (.ref f) vs D U news R := by
  intro dp un gd cn cs a ccd cl outer A₀ base h₀ L m s Q E B F N G hkc hd hu hret
  refine wpAny_call ?_
  refine callX_cells B F N G.T.nolimit rfl rfl hkc ((G.X.keeps F.keep) _ _ ho) rfl (codeRec_of (G.X.keeps F.keep) hcd) (by show dp < recursionLimit; lia) (BindsTo.of_eq hbind) (kindsX hkind) hnd ?_ hco hgen hk
  intro g L' h₁ tk cells FG F' N' Y B' st lt
  rw [hml] at F'
  rw [hmc, hCL] at Y
  have he : envOfC nm sc L' f (.ref c) = envX nm sc L' f (.ref c) (CL L') := by rw [← hCL]; rfl
  rw [he]
  refine wpAny_mono (h (dp + 1) (un + 3) gd (envX cn cs L a ccd cl :: outer) _ base g L' h₁ s tk cells B' F' N' Y (G.keeps st) lt (by lia) (by lia)) (fun fl s' hr => ?_) (fun _ _ x => x.elim)
  obtain ⟨m', news', h', tk', rfl, F2, N2, hR⟩ := hr
  exact leaveK_ F2 N2 fun F3 N3 => hret _ _ _ _ hR F3 N3
theorem spec_nest {f c' : Addr} {oc : Obj} {fvs : Array Value} {t : Tok} {vs : List Value} {D U : Nat} {news : List (Addr × Obj)} {R : Rel} {nm qual : Str} {ar : Arguments} {bd : List Stmt} {sc : Scope} {cl' : List (Str × Addr)} {doc pm ctv : Value} {binds : List (Str × Value)}
    (ho : (f, fnMade nm qual ar bd sc cl' doc pm c' ctv) ∈ news) (hoc : (c', oc) ∈ news) (hfv : oc.data = .fields fvs) (hq : fvs[1]? = some (.str qual t))
    (hbind : bindArgs (fnX nm qual ar bd sc cl' .none .none doc pm none (.ref c') ctv) ⟨vs, []⟩ = pure binds) (hloc : (binds.all fun x => decide (sc.names.lookup x.1 = some .local)) = true)
    (h : ∀ (dp un : Nat) (gd : Option (List Code)) (outer : List Env) (A₀ : Around) (base g : Heap) (L' : Addr) (h₁ : Heap) (s : Shared), Below A₀ base outer g → Fr g L' h₁ (fun y => binds.reverse.lookup y) → News g L' h₁ news → Grd w mean mg mb g → (∀ p ∈ news, p.1 < L') → dp + D < recursionLimit + 1 → un + U < cLine + 3 →
      wpAny (ML w) (ktrTop dp un gd qual sc L' f (.ref c') cl' outer) (execs bd (envX qual sc L' f (.ref c') cl')) (Ret s g L' R) noE { s with heap := h₁, toks := s.toks + binds.length })
    (hcell : (sc.names.all fun x => x.2 != .cell) = true) (hco : sc.isCoroutine = false) (hgen : sc.isGenerator = false) (hk : sc.kind = .function) (hD : 0 < D) (hU : 0 < U) : Spec w mean mg mb (.ref f) vs D U news R := by
  intro dp un gd cn cs a ccd cl outer A₀ base h₀ L m s Q E B F N G hkc hd hu hret
  refine wpAny_call ?_
  refine callX_plain (cl := cl') B F N G.T.nolimit rfl rfl hkc (N _ ho).1 rfl (codeRec_news N hoc hfv hq) (by show dp < recursionLimit; lia) (BindsTo.of_eq hbind) (locs hloc) ?_ (fun x hx => by have := List.all_eq_true.mp hcell x hx; simpa using this) hco hgen hk
  intro g L' h₁ FG F' N' B' st lt
  refine wpAny_mono (h (dp + 1) (un + 3) gd (envX cn cs L a ccd cl :: outer) _ base g L' h₁ s B' F' N' (G.keeps st) lt (by lia) (by lia)) (fun fl s' hr => ?_) (fun _ _ x => x.elim)
  obtain ⟨m', news', h', tk', rfl, F2, N2, hR⟩ := hr
  exact leaveK_ F2 N2 fun F3 N3 => hret _ _ _ _ hR F3 N3
end
section
variable {w : World} {mean : ExcName → Option Value} {mg mb : Str → Option Value}
noncomputable abbrev TP1 : Addr := 101
noncomputable abbrev TP2 : Addr := 94
/-- one code table among the entries: empty, or grown by its one inner def -/
noncomputable def TabOne (P : Addr) (pos : Pos) (qual : Str) (T : List (Addr × Obj)) : Prop :=
  ∃ ps, (P, tabObj ps) ∈ T ∧ (∀ o, (P, o) ∈ T → o = tabObj ps) ∧ (ps = #[] ∨ ∃ c' oc vs t, ps = #[rawInt pos.line, rawInt pos.col, .ref c'] ∧ c' ≠ TP1 ∧ c' ≠ TP2 ∧ (c', oc) ∈ T ∧ oc.data = .fields vs ∧ vs[1]? = some (.str qual t))
noncomputable def posD2i : Pos := match bL10 with | (.FunctionDef _ _ _ _ _ _ _ _ _ p) :: _ => p | _ => ⟨0, 0, 0, 0⟩
noncomputable def posI2d : Pos := match bL9 with | _ :: (.FunctionDef _ _ _ _ _ _ _ _ _ p) :: _ => p | _ => ⟨0, 0, 0, 0⟩
noncomputable def bdD2i : List Stmt := match bL10 with | (.FunctionDef _ _ b _ _ _ _ _ _ _) :: _ => b | _ => []
noncomputable def bdI2d : List Stmt := match bL9 with | _ :: (.FunctionDef _ _ b _ _ _ _ _ _ _) :: _ => b | _ => []
noncomputable def arD2i : Arguments := match bL10 with | (.FunctionDef _ p _ _ _ _ _ _ _ _) :: _ => p | _ => ⟨[], [], none, [], [], none, []⟩
noncomputable def arI2d : Arguments := match bL9 with | _ :: (.FunctionDef _ p _ _ _ _ _ _ _ _) :: _ => p | _ => ⟨[], [], none, [], [], none, []⟩
noncomputable def scD2i : Scope := match bL10 with | (.FunctionDef _ _ _ _ _ _ s _ _ _) :: _ => s | _ => default
noncomputable def scI2d : Scope := match bL9 with | _ :: (.FunctionDef _ _ _ _ _ _ s _ _ _) :: _ => s | _ => default
noncomputable def quD2i : Str := S "_digits2int.<locals>.inner"
noncomputable def quI2d : Str := S "_int2digits.<locals>.inner"
structure Tabs (T : List (Addr × Obj)) : Prop where
  a : TabOne TP1 posD2i quD2i T
  b : TabOne TP2 posI2d quI2d T
noncomputable abbrev Dis (A T : List (Addr × Obj)) : Prop := ∀ a ∈ A, ∀ p ∈ T, p.1 ≠ a.1
theorem TabOne.grow {P P' c' : Addr} {pos : Pos} {qual : Str} {T : List (Addr × Obj)} {oc o : Obj} (h : TabOne P pos qual T) (hP' : P' = TP1 ∨ P' = TP2) (hne : P ≠ P') (hc : c' ≠ P) :
    TabOne P pos qual ((c', oc) :: (P', o) :: T.filter fun p => p.1 != P') := by
  obtain ⟨ps, h1, h2, h3⟩ := h
  have mem : ∀ {q : Addr × Obj}, q ∈ T → q.1 ≠ P' → q ∈ T.filter fun p => p.1 != P' := fun hq hn => List.mem_filter.mpr ⟨hq, by simpa using hn⟩
  refine ⟨ps, .tail _ (.tail _ (mem h1 hne)), fun o' ho => ?_, ?_⟩
  · rcases List.mem_cons.mp ho with e | ho
    · cases e; exact absurd rfl hc
    · rcases List.mem_cons.mp ho with e | ho
      · cases e; exact absurd rfl hne
      · exact h2 o' (List.mem_filter.mp ho).1
  · rcases h3 with h3 | ⟨c2, oc2, vs, t, e1, e2, e3, e4, e5, e6⟩
    · exact .inl h3
    · refine .inr ⟨c2, oc2, vs, t, e1, e2, e3, .tail _ (.tail _ (mem e4 ?_)), e5, e6⟩
      rcases hP' with rfl | rfl
      · exact e2
      · exact e3
theorem TabOne.new {P c' : Addr} {pos : Pos} {qual : Str} {T : List (Addr × Obj)} {oc : Obj} {vs : Array Value} {t : Tok} (hc : c' ≠ P) (h1 : c' ≠ TP1) (h2 : c' ≠ TP2) (hd : oc.data = .fields vs) (hv : vs[1]? = some (.str qual t)) :
    TabOne P pos qual ((c', oc) :: (P, tabObj #[rawInt pos.line, rawInt pos.col, .ref c']) :: T.filter fun p => p.1 != P) := by
  refine ⟨_, .tail _ (.head _), fun o' ho => ?_, .inr ⟨c', oc, vs, t, rfl, h1, h2, .head _, hd, hv⟩⟩
  rcases List.mem_cons.mp ho with e | ho
  · cases e; exact absurd rfl hc
  · rcases List.mem_cons.mp ho with e | ho
    · cases e; rfl
    · have := (List.mem_filter.mp ho).2
      simp at this
theorem nsub {h₀ h : Heap} {L : Addr} {a b : List (Addr × Obj)} (N : News h₀ L h a) (k : ∀ p ∈ b, p ∈ a) : News h₀ L h b := fun p hp => N p (k p hp)
/-- an inner def is made: its table grows or is hit -/
theorem nest_T {M : Model} {Ar : Around} {E : Value → Shared → Prop} {s : Shared} {h₀ : Heap} {L a c P : Addr} {m : Str → Option Value} {cn : Str} {cs : Scope} {cl : List (Str × Addr)} {A T : List (Addr × Obj)}
    {name qual : Str} {params : Arguments} {body : List Stmt} {scope : Scope} {pos : Pos} {firstLine : Nat} {clos : List (Str × Addr)} {Q : Value → Shared → Prop}
    (F : Fr h₀ L s.heap m) (N : News h₀ L s.heap (A ++ T)) (Tp : Top topProg looseL mean mg mb h₀) (C : CodeHd h₀ c P) (hT : TabOne P pos qual T) (h1 : ∃ o, (TP1, o) ∈ T) (h2 : ∃ o, (TP2, o) ∈ T) (hP : P = TP1 ∨ P = TP2) (hD : Dis A T) (hcl : closureFor scope (envX cn cs L a (.ref c) cl) = pure clos)
    (h : ∀ f c' oc vs t ctv doc pm h' tk T', (T' = T ∨ ∃ oc, T' = (c', oc) :: (P, tabObj #[rawInt pos.line, rawInt pos.col, .ref c']) :: T.filter (fun p => p.1 != P) ∧ c' ≠ TP1 ∧ c' ≠ TP2) → TabOne P pos qual T' → Fr h₀ L h' m → News h₀ L h' ((f, fnMade name qual params body scope clos doc pm c' ctv) :: (A ++ T')) → (c', oc) ∈ T' → oc.data = .fields vs → vs[1]? = some (.str qual t) → (∀ p ∈ A ++ T', p.1 < f) → Dis A T' → Q (.ref f) { s with heap := h', toks := tk }) :
    wpAny M Ar (makeFunction name qual params (.stmts body) scope (envX cn cs L a (.ref c) cl) [] [] [] pos firstLine) Q E s := by
  obtain ⟨o1, h1⟩ := h1
  obtain ⟨o2, h2⟩ := h2
  have hT0 := hT
  obtain ⟨ps, hm, hu, hg | ⟨c', oc, vs, t, e1, e2, e3, e4, e5, e6⟩⟩ := hT
  · subst hg
    have hA : ∀ p ∈ A ++ T.filter (fun p => p.1 != P), p.1 ≠ P := fun p hp => by
      rcases List.mem_append.mp hp with hp | hp
      · exact (hD p hp _ hm).symm
      · have := (List.mem_filter.mp hp).2
        simpa using this
    have N1 : News h₀ L s.heap ((P, tabObj #[]) :: (A ++ T.filter fun p => p.1 != P)) := nsub N fun p hp => by
      rcases List.mem_cons.mp hp with rfl | hp
      · exact List.mem_append_right _ hm
      · rcases List.mem_append.mp hp with hp | hp
        · exact List.mem_append_left _ hp
        · exact List.mem_append_right _ (List.mem_filter.mp hp).1
    have inN : ∀ p ∈ A ++ T, p ∈ (P, tabObj #[]) :: (A ++ T.filter fun p => p.1 != P) := fun p hp => by
      rcases List.mem_append.mp hp with hp | hp
      · exact .tail _ (List.mem_append_left _ hp)
      · by_cases q : p.1 = P
        · obtain ⟨p1, p2⟩ := p
          cases q
          cases hu p2 hp
          exact .head _
        · exact .tail _ (List.mem_append_right _ (List.mem_filter.mpr ⟨hp, by simpa using q⟩))
    refine nest_K F N1 Tp C rfl (UpdF.head hA) (by simp [TriplesOk]) rfl hcl fun f c' oc vs t ctv doc h' tk F' N' hd hv l1 l2 => ?_
    have big : ∀ p ∈ A ++ T, p.1 < c' := fun p hp => l1 p (inN p hp)
    have ne : ∀ p ∈ A ++ T, c' ≠ p.1 := fun p hp => Nat.ne_of_gt (big p hp)
    have hcP : c' ≠ P := ne _ (List.mem_append_right _ hm)
    have n1 : c' ≠ TP1 := ne _ (List.mem_append_right _ h1)
    have n2 : c' ≠ TP2 := ne _ (List.mem_append_right _ h2)
    refine h f c' oc vs t ctv doc ((mg (Str.ofString "__name__")).getD .none) h' tk ((c', oc) :: (P, tabObj #[rawInt pos.line, rawInt pos.col, .ref c']) :: T.filter fun p => p.1 != P) (.inr ⟨oc, rfl, n1, n2⟩) (TabOne.new hcP n1 n2 hd hv) F' (nsub N' fun p hp => ?_) (.head _) hd hv (fun p hp => ?_) (fun a ha p hp => ?_)
    · rcases List.mem_cons.mp hp with rfl | hp
      · exact .head _
      · rcases List.mem_append.mp hp with hp | hp
        · exact .tail _ (.tail _ (.tail _ (List.mem_append_left _ hp)))
        · rcases List.mem_cons.mp hp with rfl | hp
          · exact .tail _ (.head _)
          · rcases List.mem_cons.mp hp with rfl | hp
            · exact .tail _ (.tail _ (.head _))
            · exact .tail _ (.tail _ (.tail _ (List.mem_append_right _ hp)))
    · rcases List.mem_append.mp hp with hp | hp
      · exact Nat.lt_trans (big p (List.mem_append_left _ hp)) l2
      · rcases List.mem_cons.mp hp with rfl | hp
        · exact l2
        · rcases List.mem_cons.mp hp with rfl | hp
          · exact Nat.lt_trans (big (P, tabObj #[]) (List.mem_append_right _ hm)) l2
          · exact Nat.lt_trans (big p (List.mem_append_right _ (List.mem_filter.mp hp).1)) l2
    · rcases List.mem_cons.mp hp with rfl | hp
      · exact ne a (List.mem_append_left _ ha)
      · rcases List.mem_cons.mp hp with rfl | hp
        · exact (hD a ha (P, tabObj #[]) hm : P ≠ a.1)
        · exact hD a ha p (List.mem_filter.mp hp).1
  · subst e1
    refine nestHit_K (c' := c') F N Tp C rfl (List.mem_append_right _ hm) (by simp [TriplesOk, rawInt]) (by simp [codeAmong, rawInt]) hcl fun f ctv doc h' tk F' N' l1 => ?_
    exact h f c' oc vs t ctv doc ((mg (Str.ofString "__name__")).getD .none) h' tk T (.inl rfl) hT0 F' N' e4 e5 e6 l1 hD
theorem TabOne.inT {P : Addr} {pos : Pos} {q : Str} {T : List (Addr × Obj)} (h : TabOne P pos q T) : ∃ o, (P, o) ∈ T := let ⟨_, h, _⟩ := h; ⟨_, h⟩
theorem Dis.cons {A T : List (Addr × Obj)} {L : Addr} {c : List (Addr × Obj)} (h : Dis A T) (lt : ∀ p ∈ A ++ T, p.1 < L) (hc : ∀ p ∈ c, L < p.1) : Dis (c ++ A) T := fun a ha p hp => by
  rcases List.mem_append.mp ha with ha | ha
  · exact Nat.ne_of_lt (Nat.lt_trans (lt p (List.mem_append_right _ hp)) (hc a ha))
  · exact h a ha p hp
theorem Dis.left {a b T : List (Addr × Obj)} (h : Dis (a ++ b) T) : Dis b T := fun x hx => h x (List.mem_append_right _ hx)
/-- the tables moved, the rest stood -/
noncomputable abbrev TabR (A : List (Addr × Obj)) (P : Value → Prop) : Rel := fun r n => P r ∧ ∃ T', n = A ++ T' ∧ Tabs T' ∧ Dis A T'
theorem Ret.fall {s : Shared} {g : Heap} {L' : Addr} {R : Rel} {m' : Str → Option Value} {news' : List (Addr × Obj)} {h' : Heap} {tk' : Nat} (F : Fr g L' h' m') (N : News g L' h' news') (h : R .none news') :
    Ret s g L' R .next { s with heap := h', toks := tk' } := ⟨m', news', h', tk', rfl, F, N, h⟩
theorem allLt_get {d : Nat} {l : List (Addr × Obj)} (h : AllLt d l) : ∀ p ∈ l, @LT.lt Nat _ p.1 d := by
  induction l with
  | nil => intro p hp; cases hp
  | cons a r ih =>
    intro p hp
    rcases List.mem_cons.mp hp with rfl | hp
    · exact h.1
    · exact ih h.2 p hp
theorem listAt {h₀ h : Heap} {L l : Addr} {us : List Value} {n : Nat} {news : List (Addr × Obj)} (N : News h₀ L h news) (hm : (l, listOf us.toArray n) ∈ news) : h.IsList l us.toArray := PySem.IsL.isList (n := n) (N _ hm).1
end
local macro_rules | `(tactic| k_mem) => `(tactic| assumption)
local macro_rules | `(tactic| k_all) => `(tactic| assumption)
local macro_rules | `(tactic| k_ne) => `(tactic| assumption)
local macro_rules | `(tactic| walk_at "binaryOp LShift int int") => `(tactic| (refine lshift_int (by assumption) (by assumption) ?_))
local macro_rules | `(tactic| walk_at "truthy ref") => `(tactic| (refine truthy_ints_fit (listAt (by assumption) (by k_mem)) (by assumption) (by omega) ?_; dsimp only))
local macro_rules | `(tactic| walk_at "call builtin:len") => `(tactic| (refine len_ints_fit (listAt (by assumption) (by k_mem)) (by assumption) (by omega) ?_; dsimp only))
theorem prime4 : rw_ul0020_01.prog = rw_ul0020_01.prog ∧ KL = KL := by k_fill; exact ⟨rfl, rfl⟩
section
variable {w : World} {mean : ExcName → Option Value} {mg mb : Str → Option Value}
/-- the number whose digits, the lowest first, these are -/
noncomputable def dval (n : Nat) : List Int → Int
  | [] => 0
  | d :: r => d + dval n r * 2 ^ n
theorem dval_append (n : Nat) (a b : List Int) : dval n (a ++ b) = dval n a + dval n b * 2 ^ (a.length * n) := by
  induction a with
  | nil => simp [dval]
  | cons x r ih =>
    simp only [List.cons_append, dval, ih, List.length_cons]
    rw [Nat.add_mul, Nat.one_mul, Int.pow_add, Int.add_mul, Int.mul_assoc]
    lia
theorem dval_slice (n : Nat) (ds : List Int) {a m b : Nat} (h1 : a ≤ m) (h2 : m ≤ b) (h3 : b ≤ ds.length) :
    dval n ((ds.drop a).take (b - a)) = dval n ((ds.drop m).take (b - m)) * 2 ^ ((m - a) * n) + dval n ((ds.drop a).take (m - a)) := by
  have e : (ds.drop a).take (b - a) = (ds.drop a).take (m - a) ++ (ds.drop m).take (b - m) := by
    have : b - a = (m - a) + (b - m) := by lia
    rw [this, List.take_add, List.drop_drop]
    have : a + (m - a) = m := by lia
    rw [this]
  rw [e, dval_append, List.length_take, List.length_drop, Nat.min_eq_left (by lia)]
  lia
theorem dval_bound (n B : Nat) (ds : List Int) (h : ∀ d ∈ ds, d.natAbs < 2 ^ B) : (dval n ds).natAbs < 2 ^ (B + ds.length * (n + 1)) := by
  induction ds with
  | nil => simp only [dval]; exact Nat.two_pow_pos _
  | cons d r ih =>
    have h1 := h d (.head _)
    have h2 := ih fun x hx => h x (.tail _ hx)
    simp only [dval, List.length_cons]
    have e : B + (r.length + 1) * (n + 1) = (B + r.length * (n + 1)) + n + 1 := by rw [Nat.add_mul]; lia
    rw [e, Nat.pow_succ, Nat.pow_add]
    have h3 : (dval n r * 2 ^ n).natAbs = (dval n r).natAbs * 2 ^ n := by
      rw [Int.natAbs_mul, Int.natAbs_pow]; rfl
    have h4 : (dval n r).natAbs + 1 ≤ 2 ^ (B + r.length * (n + 1)) := h2
    have h5 := Nat.mul_le_mul_right (2 ^ n) h4
    rw [Nat.add_mul, Nat.one_mul] at h5
    have h6 : 2 ^ B ≤ 2 ^ (B + r.length * (n + 1)) * 2 ^ n := by rw [← Nat.pow_add]; exact Nat.pow_le_pow_right (by lia) (by lia)
    have h7 := Nat.two_pow_pos n
    have h8 := Int.natAbs_add_le d (dval n r * 2 ^ n)
    lia
theorem dval_bits {n : Nat} {ds : List Int} {a k : Nat} (h : ∀ d ∈ ds, d.natAbs < 2 ^ 1000) (hn : n ≤ 1000) (hk : k ≤ 1000) : (Builtin.Int.intBits (dval n ((ds.drop a).take k)) : Int) ≤ 2 ^ 26 := by
  have h1 := dval_bound n 1000 ((ds.drop a).take k) fun d hd => h d (List.mem_of_mem_drop (List.mem_of_mem_take hd))
  have h2 : ((ds.drop a).take k).length ≤ 1000 := by rw [List.length_take]; lia
  have h3 := PySem.intBits_le_iff.mpr h1
  have h4 : ((ds.drop a).take k).length * (n + 1) ≤ 1000 * 1001 := Nat.mul_le_mul h2 (by lia)
  have h5 : (2 : Int) ^ 26 = 67108864 := by decide
  rw [h5]
  lia
theorem takeOneDrop9 {α : Type} {l : List α} {n : Nat} (h : n < l.length) : (l.drop n).take 1 = [l[n]] := by
  rw [List.drop_eq_getElem_cons h]; rfl
/-- the widest span that a depth of calls serves -/
noncomputable def bd : Nat → Nat
  | 0 => 0
  | k + 1 => max 1 (2 * bd k)
noncomputable abbrev clD2i (cd ci cn : Addr) : List (Str × Addr) := [(S "n", cn), (S "inner", ci), (S "digits", cd)]
set_option maxRecDepth 100000 in
set_option maxHeartbeats 8000000 in
theorem spec_inD {news : List (Addr × Obj)} {f c' l cd ci cn : Addr} {oc od oi on : Obj} {fvs : Array Value} {t : Tok} {nm : Str} {doc pm ctv : Value} {us : List Value} {ds : List Int} {n0 n : Nat} {tn : Tok}
    (ho : (f, fnMade nm quD2i arD2i bdD2i scD2i (clD2i cd ci cn) doc pm c' ctv) ∈ news) (hoc : (c', oc) ∈ news) (hfv : oc.data = .fields fvs) (hq : fvs[1]? = some (.str quD2i t))
    (hod : (cd, od) ∈ news) (hod' : od.data = .cell (some (.ref l))) (hoi : (ci, oi) ∈ news) (hoi' : oi.data = .cell (some (.ref f))) (hon : (cn, on) ∈ news) (hon' : on.data = .cell (some (.int n tn)))
    (hl : (l, listOf us.toArray n0) ∈ news) (hi : IntsAre us ds) (hB : ∀ d ∈ ds, d.natAbs < 2 ^ 1000) (hn : n ≤ 1000) (hlen : ds.length ≤ 1000) :
    ∀ (k a b : Nat) (t1 t2 : Tok), a < b → b ≤ ds.length → b - a ≤ bd k → Spec w mean mg mb (.ref f) [.int a t1, .int b t2] k (3 * k + 20) news (fun r n' => (∃ t', r = .int (dval n ((ds.drop a).take (b - a))) t') ∧ n' = news) := by
  intro k
  induction k with
  | zero => intro a b t1 t2 h1 h2 h3; exact absurd h3 (by show ¬ b - a ≤ 0; lia)
  | succ k ih =>
  intro a b t1 t2 hab hb hk
  have hbd : bd (k + 1) = max 1 (2 * bd k) := rfl
  refine spec_nest (binds := [(S "L", .int a t1), (S "R", .int b t2)]) ho hoc hfv hq rfl rfl ?_ rfl rfl rfl rfl (by lia) (by lia)
  intro dp un gd outer A₀ base g L' h₁ s B F N G lt hd hu
  obtain ⟨X, T, C⟩ := G
  have C1 := C.1
  dsimp only [bdD2i, scD2i, bL10, sL10, S, clD2i] at *
  k_steps
  · (show Ret _ _ _ _ _ _; first | refine Ret.intro (by k_asm) (by k_asm) ?_ | refine Ret.fall (by k_asm) (by k_asm) ?_)
    refine ⟨⟨_, congrArg (Value.int · _) ?_⟩, rfl⟩
    have e : b - a = 1 := by lia
    have ea : a < ds.length := by lia
    rw [e, takeOneDrop9 ea]
    simp [dval, ea]
  · generalize hmid : ((a : Int) + b).fdiv (2 ^ Int.toNat 1) = mid at *
    have hm0 : mid = (((a + b) / 2 : Nat) : Int) := by
      rw [← hmid]
      show ((a : Int) + b).fdiv 2 = _
      rw [Int.fdiv_eq_ediv_of_nonneg _ (by decide)]
      lia
    subst hm0
    have l1 : a < (a + b) / 2 := by lia
    have l2 : (a + b) / 2 < b := by lia
    generalize hM : (a + b) / 2 = mid at *
    refine Spec.use (ih _ _ _ _ ?_ ?_ ?_) (by k_asm) (by k_asm) (by k_asm) (by k_asm) (by k_asm) (by k_asm) rfl (by lia) (by lia) ?_
    · exact l2
    · exact hb
    · lia
    rintro _ _ h2 tk2 ⟨⟨t2', rfl⟩, he⟩ F2 N2
    subst he
    have hs0 : (((mid : Nat) : Int) - (a : Nat)) * (n : Nat) = (((mid - a) * n : Nat) : Int) := by
      rw [Int.natCast_mul, Int.natCast_sub (Nat.le_of_lt l1)]
    have hs1 : (0 : Int) ≤ (((mid : Nat) : Int) - (a : Nat)) * (n : Nat) := by rw [hs0]; lia
    have hs2 : (Builtin.Int.intBits (dval n ((ds.drop mid).take (b - mid))) : Int) + (((mid : Nat) : Int) - (a : Nat)) * (n : Nat) ≤ 2 ^ 27 := by
      have h1 := dval_bits (a := mid) (k := b - mid) hB hn (by lia)
      have h2 : (mid - a) * n ≤ 1000 * 1000 := Nat.mul_le_mul (by lia) hn
      have h5 : (2 : Int) ^ 26 = 67108864 := by decide
      have h6 : (2 : Int) ^ 27 = 134217728 := by decide
      rw [h5] at h1
      rw [hs0, h6]
      lia
    k_steps
    refine Spec.use (ih _ _ _ _ ?_ ?_ ?_) (by k_asm) (by k_asm) (by k_asm) (by k_asm) (by k_asm) (by k_asm) rfl (by lia) (by lia) ?_
    · exact l1
    · lia
    · lia
    rintro _ _ h3 tk3 ⟨⟨t3', rfl⟩, he⟩ F3 N3
    subst he
    k_steps
    (show Ret _ _ _ _ _ _; first | refine Ret.intro (by k_asm) (by k_asm) ?_ | refine Ret.fall (by k_asm) (by k_asm) ?_)
    refine ⟨⟨_, congrArg (Value.int · _) ?_⟩, rfl⟩
    rw [hs0, Int.toNat_natCast, dval_slice n ds (Nat.le_of_lt l1) (Nat.le_of_lt l2) hb]
end
theorem prime5 : rw_ul0020_01.prog = rw_ul0020_01.prog ∧ KL = KL := by k_fill; exact ⟨rfl, rfl⟩
section
variable {w : World} {mean : ExcName → Option Value} {mg mb : Str → Option Value}
set_option maxRecDepth 100000 in
set_option maxHeartbeats 8000000 in
theorem spec_d2i (l : Addr) (us : List Value) (ds : List Int) (hi : IntsAre us ds) (n0 n : Nat) (t : Tok) {A T : List (Addr × Obj)} (hl : (l, listOf us.toArray n0) ∈ A) (hB : ∀ d ∈ ds, d.natAbs < 2 ^ 1000) (hn : n ≤ 1000) (hlen : ds.length ≤ 300) (hT : Tabs T) (hD : Dis A T) :
    Spec w mean mg mb (.ref 106) [.ref l, .int n t] 15 100 (A ++ T) (TabR A fun r => ∃ t', r = .int (dval n ds) t') := by
  refine spec_defC (nm := nL10) (ar := aL10) (bd := bL10) (sc := sL10) (c := 105) (binds := [(S "digits", .ref l), (S "n", .int n t)]) rfl rfl rfl rfl (by decide +kernel) (fun _ => rfl) (ml := fun _ => none) (fun _ => rfl) (mc := fun y => if y = S "n" then some (.int n t) else if y = S "digits" then some (.ref l) else none) (fun _ => rfl) ?_ rfl rfl rfl (by decide) (by decide)
  intro dp un gd outer A₀ base g L' h₁ s tk cells B F N Y G lt hd hu
  obtain ⟨X, T0, C⟩ := G
  have C1 := C.1
  dsimp only [bL10, sL10, S] at *
  k_cells Y
  rename_i oi on od d1 d2 d3
  have DA := Dis.cons (c := [(L' + 1 + 1 + 1, oi), (L' + 1 + 1, on), (L' + 1, od)]) hD lt (fun p hp => by
    simp only [List.mem_cons, List.not_mem_nil, or_false] at hp
    rcases hp with rfl | rfl | rfl
    · exact Nat.lt_succ_of_lt (Nat.lt_succ_of_lt (Nat.lt_succ_self L'))
    · exact Nat.lt_succ_of_lt (Nat.lt_succ_self L')
    · exact Nat.lt_succ_self L')
  rw [← List.append_assoc] at N
  refine wpAny_execs_cons (nestDef_K rfl rfl rfl (nest_T (A := [(L' + 1 + 1 + 1, oi), (L' + 1 + 1, on), (L' + 1, od)] ++ A) (pos := posD2i) (qual := quD2i) F N T0 C1 hT.a hT.a.inT hT.b.inT (.inl rfl) DA rfl ?_))
  intro f c' oc vs t1 ctv doc pm h' tk' T' hor hT1 F2 N2 hoc hfv hq lt2 DA2
  have hm1 : (l, listOf us.toArray n0) ∈ A ++ T' := List.mem_append_left _ hl
  have hm2 : (c', oc) ∈ A ++ T' := List.mem_append_right _ hoc
  have ne3 : ∀ p ∈ A ++ T', p.1 ≠ L' + 1 + 1 + 1 := fun p hp => by
    rcases List.mem_append.mp hp with hp | hp
    · exact Nat.ne_of_lt (Nat.lt_trans (lt p (List.mem_append_left _ hp)) (Nat.lt_succ_of_lt (Nat.lt_succ_of_lt (Nat.lt_succ_self L'))))
    · exact DA2 (L' + 1 + 1 + 1, oi) (.head _) p hp
  have lf : f ≠ L' + 1 + 1 + 1 := Nat.ne_of_gt (lt2 (L' + 1 + 1 + 1, oi) (.head _))
  have nf : ∀ p ∈ A ++ T', p.1 ≠ f := fun p hp => Nat.ne_of_lt (lt2 p (by
    rcases List.mem_append.mp hp with hp | hp
    · exact List.mem_append_left _ (List.mem_append_right _ hp)
    · exact List.mem_append_right _ hp))
  simp only [List.cons_append, List.nil_append] at N2
  have hT2 : Tabs T' := ⟨hT1, by
    rcases hor with e | ⟨oc2, e, n1, n2⟩
    · rw [e]; exact hT.b
    · rw [e]; exact hT.b.grow (.inl rfl) (by decide) n2⟩
  clear N F
  k_steps
  · (refine' Spec.use ?wS ?wB ?wF ?wN ?wX ?wT ?wC ?wk ?wd ?wu ?_; (case wB => k_asm); (case wF => k_asm); (case wN => k_asm); (case wX => k_asm); (case wT => k_asm); (case wC => k_asm); (case wk => exact rfl); (case wS => exact (spec_inD (c' := c') (oc := oc) (od := od) (on := on) (l := l) (n0 := n0) (tn := t) (by k_mem) (by k_mem) hfv hq (by k_mem) d3 (by k_mem) (by assumption) (by k_mem) d2 (by k_mem) hi hB hn (by lia) 11 0 ds.length _ _ (by lia) (by lia) (by rw [show bd 11 = 1024 from rfl]; lia))); (case wd => lia); (case wu => lia))
    rintro _ _ h2 tk2 ⟨⟨t2', rfl⟩, he⟩ F3 N3
    rw [he] at N3
    show Ret _ _ _ _ _ _
    refine Ret.intro F3 (nsub N3 fun p hp => .tail _ (.tail _ (.tail _ (.tail _ hp)))) ⟨⟨t2', by simp⟩, T', rfl, ?_, fun a ha => DA2 a (.tail _ (.tail _ (.tail _ ha)))⟩
    exact hT2
  · rename News _ _ _ _ => N3
    show Ret _ _ _ _ _ _
    refine Ret.intro (by k_asm) (nsub N3 fun p hp => .tail _ (.tail _ (.tail _ (.tail _ hp)))) ⟨⟨_, congrArg (Value.int · _) ?_⟩, T', rfl, hT2, fun a ha => DA2 a (.tail _ (.tail _ (.tail _ ha)))⟩
    have : ds = [] := List.length_eq_zero_iff.mp (by lia)
    subst this
    rfl
end
theorem prime6 : rw_ul0020_01.prog = rw_ul0020_01.prog ∧ KL = KL := by k_fill; exact ⟨rfl, rfl⟩
section
variable {prog : Program} {w : World} {A : Around} {E : Value → Shared → Prop} {s : Shared} {a b n r : Int} {t u : Tok} {Q : Value → Shared → Prop}
theorem rshift_to (hn : 0 ≤ n) (e : a.fdiv (2 ^ n.toNat) = r) (h : Q (.int r s.toks) { s with toks := s.toks + 1 }) : wpAny (model prog w) A (binaryOp .RShift (.int a t) (.int n u)) Q E s := rshift_int hn (e ▸ h)
theorem lshift_to (hn : 0 ≤ n) (hsz : (Builtin.Int.intBits a : Int) + n ≤ 2 ^ 27) (e : a * 2 ^ n.toNat = r) (h : Q (.int r s.toks) { s with toks := s.toks + 1 }) : wpAny (model prog w) A (binaryOp .LShift (.int a t) (.int n u)) Q E s := lshift_int hn hsz (e ▸ h)
theorem xor_to (e : Builtin.bitXor a b = r) (h : Q (.int r s.toks) { s with toks := s.toks + 1 }) : wpAny (model prog w) A (binaryOp .BitXor (.int a t) (.int b u)) Q E s := xor_int (e ▸ h)
theorem mul_to (hm : IntMulOk a b) (e : a * b = r) (h : Q (.int r s.toks) { s with toks := s.toks + 1 }) : wpAny (model prog w) A (binaryOp .Mult (.int a t) (.int b u)) Q E s := mul_int (e ▸ h) hm
end
local macro_rules | `(tactic| walk_at "binaryOp Mult int int") => `(tactic| (refine mul_to (by mul_fits) (by assumption) ?_))
local macro_rules | `(tactic| walk_at "binaryOp RShift int int") => `(tactic| (refine rshift_to (by lia) (by assumption) ?_))
local macro_rules | `(tactic| walk_at "binaryOp LShift int int") => `(tactic| (refine lshift_to (by lia) (by assumption) (by assumption) ?_))
local macro_rules | `(tactic| walk_at "binaryOp BitXor int int") => `(tactic| (refine xor_to (by assumption) ?_))
/-- the digits of a number, the lowest first -/
noncomputable def digs (n : Nat) : Nat → Nat → List Int
  | 0, _ => []
  | k + 1, x => ((x % 2 ^ n : Nat) : Int) :: digs n k (x / 2 ^ n)
theorem digs_len (n k x : Nat) : (digs n k x).length = k := by
  induction k generalizing x with
  | zero => rfl
  | succ k ih => simp [digs, ih]
theorem digs_bound (n k x : Nat) : ∀ d ∈ digs n k x, 0 ≤ d ∧ d < 2 ^ n := by
  induction k generalizing x with
  | zero => intro d hd; cases hd
  | succ k ih =>
    intro d hd
    rcases List.mem_cons.mp hd with rfl | hd
    · have := Nat.mod_lt x (Nat.two_pow_pos n)
      refine ⟨Int.natCast_nonneg _, ?_⟩
      exact_mod_cast this
    · exact ih _ d hd
theorem digs_mod (n j x : Nat) : digs n j (x % 2 ^ (j * n)) = digs n j x := by
  induction j generalizing x with
  | zero => rfl
  | succ j ih =>
    simp only [digs]
    have h1 : x % 2 ^ ((j + 1) * n) % 2 ^ n = x % 2 ^ n := Nat.mod_mod_of_dvd _ (Nat.pow_dvd_pow 2 (by rw [Nat.add_mul]; lia))
    have h2 : x % 2 ^ ((j + 1) * n) / 2 ^ n = (x / 2 ^ n) % 2 ^ (j * n) := by
      rw [Nat.add_mul, Nat.one_mul, Nat.pow_add, Nat.mul_comm (2 ^ (j * n)), Nat.mod_mul_right_div_self]
    rw [h1, h2, ih]
theorem digs_add (n j k x : Nat) : digs n (j + k) x = digs n j x ++ digs n k (x / 2 ^ (j * n)) := by
  induction j generalizing x with
  | zero => simp [digs]
  | succ j ih =>
    rw [Nat.add_right_comm]
    simp only [digs, List.cons_append]
    rw [ih, Nat.div_div_eq_div_mul, ← Nat.pow_add, Nat.add_mul, Nat.one_mul, Nat.add_comm n]
theorem dval_digs (n k x : Nat) : dval n (digs n k x) = ((x % 2 ^ (k * n) : Nat) : Int) := by
  induction k generalizing x with
  | zero => simp [digs, dval, Nat.mod_one]
  | succ k ih =>
    simp only [digs, dval, ih]
    have : x % 2 ^ ((k + 1) * n) = x % 2 ^ n + 2 ^ n * (x / 2 ^ n % 2 ^ (k * n)) := by
      rw [Nat.add_mul, Nat.one_mul, Nat.add_comm, Nat.pow_add, Nat.mod_mul]
    rw [this]
    push_cast
    rw [Int.mul_comm]
theorem xor_low (x s : Nat) : Builtin.bitXor (x : Nat) ((x / 2 ^ s * 2 ^ s : Nat) : Nat) = ((x % 2 ^ s : Nat) : Int) := by
  rw [bitXor_and]
  have h1 : Builtin.bitAnd (x : Int) ((x / 2 ^ s * 2 ^ s : Nat) : Int) = ((x &&& (x / 2 ^ s * 2 ^ s) : Nat) : Int) := rfl
  have h2 : x &&& (x / 2 ^ s * 2 ^ s) = x / 2 ^ s * 2 ^ s := by
    rw [← Nat.shiftRight_eq_div_pow, ← Nat.shiftLeft_eq]
    apply Nat.eq_of_testBit_eq
    intro i
    simp only [Nat.testBit_and, Nat.testBit_shiftLeft, Nat.testBit_shiftRight]
    by_cases h : s ≤ i
    · simp [h]
    · simp [h]
  rw [h1, h2]
  have := Nat.div_add_mod x (2 ^ s)
  rw [Nat.mul_comm] at this
  lia
theorem prime7 : rw_ul0020_01.prog = rw_ul0020_01.prog ∧ KL = KL := by k_fill; exact ⟨rfl, rfl⟩
section
variable {w : World} {mean : ExcName → Option Value} {mg mb : Str → Option Value}
noncomputable abbrev clI2d (ca ci cn : Addr) : List (Str × Addr) := [(S "n", cn), (S "inner", ci), (S "a_digits", ca)]
/-- a row with the digits of x laid from place a on -/
noncomputable def laid (n a b x : Nat) (ds : List Int) : List Int := ds.take a ++ digs n (b - a) x ++ ds.drop b
theorem laid_len {n a b x : Nat} {ds : List Int} (h1 : a ≤ b) (h2 : b ≤ ds.length) : (laid n a b x ds).length = ds.length := by
  simp only [laid, List.length_append, List.length_take, List.length_drop, digs_len]
  lia
theorem laid_one {n a x : Nat} {ds : List Int} (h : a < ds.length) (hx : x < 2 ^ n) : ds.set a (x : Int) = laid n a (a + 1) x ds := by
  have e : a + 1 - a = 1 := by lia
  rw [laid, e]
  simp only [digs, Nat.mod_eq_of_lt hx]
  rw [List.set_eq_take_append_cons_drop, if_pos h, List.append_assoc]
  rfl
theorem laid_two {n a m b x : Nat} {ds : List Int} (h1 : a ≤ m) (h2 : m ≤ b) (h3 : b ≤ ds.length) :
    laid n m b (x / 2 ^ ((m - a) * n)) (laid n a m (x % 2 ^ ((m - a) * n)) ds) = laid n a b x ds := by
  have e : b - a = (m - a) + (b - m) := by lia
  have hl : (ds.take a ++ digs n (m - a) x).length = m := by simp only [List.length_append, List.length_take, digs_len]; lia
  unfold laid
  rw [e, digs_add, digs_mod]
  have t1 : (ds.take a ++ digs n (m - a) x ++ ds.drop m).take m = ds.take a ++ digs n (m - a) x := List.take_left' hl
  have t2 : (ds.take a ++ digs n (m - a) x ++ ds.drop m).drop b = ds.drop b := by
    rw [List.drop_append, hl, List.drop_eq_nil_of_le (by lia), List.drop_drop, List.nil_append]
    congr 1
    lia
  rw [t1, t2]
  simp only [List.append_assoc]
set_option maxRecDepth 100000 in
set_option maxHeartbeats 8000000 in
theorem spec_inI {rest : List (Addr × Obj)} {f c' q ca ci cn : Addr} {oc oa oi on : Obj} {fvs : Array Value} {t : Tok} {nm : Str} {doc pm ctv : Value} {n0 n : Nat} {tn : Tok}
    (ho : (f, fnMade nm quI2d arI2d bdI2d scI2d (clI2d ca ci cn) doc pm c' ctv) ∈ rest) (hoc : (c', oc) ∈ rest) (hfv : oc.data = .fields fvs) (hq : fvs[1]? = some (.str quI2d t))
    (hoa : (ca, oa) ∈ rest) (hoa' : oa.data = .cell (some (.ref q))) (hoi : (ci, oi) ∈ rest) (hoi' : oi.data = .cell (some (.ref f))) (hon : (cn, on) ∈ rest) (hon' : on.data = .cell (some (.int n tn)))
    (hne : ∀ p ∈ rest, p.1 ≠ q) (hn : n ≤ 1000) (hn0 : 0 < n) :
    ∀ (k a b x : Nat) (us : List Value) (ds : List Int) (t0 t1 t2 : Tok), IntsAre us ds → ds.length ≤ 1000 → a < b → b ≤ ds.length → b - a ≤ bd k → x < 2 ^ ((b - a) * n) →
      Spec w mean mg mb (.ref f) [.int x t0, .int a t1, .int b t2] k (3 * k + 20) ((q, listOf us.toArray n0) :: rest) (fun r n' => r = .none ∧ ∃ us', n' = (q, listOf us'.toArray n0) :: rest ∧ IntsAre us' (laid n a b x ds)) := by
  intro k
  induction k with
  | zero => intro a b x us ds t0 t1 t2 hi hlen h1 h2 h3; exact absurd h3 (by show ¬ b - a ≤ 0; lia)
  | succ k ih =>
  intro a b x us ds t0 t1 t2 hi hlen hab hb hk hx
  have hbd : bd (k + 1) = max 1 (2 * bd k) := rfl
  refine spec_nest (binds := [(S "x", .int x t0), (S "L", .int a t1), (S "R", .int b t2)]) (.tail _ ho) (.tail _ hoc) hfv hq rfl rfl ?_ rfl rfl rfl rfl (by lia) (by lia)
  intro dp un gd outer A₀ base g L' h₁ s B F N G lt hd hu
  obtain ⟨X, T, C⟩ := G
  have C1 := C.2
  have hmid : ((a : Int) + b).fdiv (2 ^ Int.toNat 1) = (((a + b) / 2 : Nat) : Int) := by
    show ((a : Int) + b).fdiv 2 = _
    rw [Int.fdiv_eq_ediv_of_nonneg _ (by decide)]
    lia
  have l0 : a ≤ (a + b) / 2 := by lia
  have l1 : (a + b) / 2 < b := by lia
  have l2 : a + 1 ≠ b → a < (a + b) / 2 := by lia
  generalize hM : (a + b) / 2 = mid at *
  obtain ⟨sh, hsh⟩ : ∃ sh, sh = (mid - a) * n := ⟨_, rfl⟩
  have e2 : (((mid : Nat) : Int) - (a : Nat)) * (n : Nat) = ((sh : Nat) : Int) := by
    rw [hsh, Int.natCast_mul, Int.natCast_sub l0]
  have e3 : ((x : Nat) : Int).fdiv (2 ^ ((sh : Nat) : Int).toNat) = ((x / 2 ^ sh : Nat) : Int) := by
    rw [Int.fdiv_eq_ediv_of_nonneg _ (Int.pow_nonneg (by decide)), Int.toNat_natCast]
    simp
  have e4 : ((x / 2 ^ sh : Nat) : Int) * 2 ^ ((sh : Nat) : Int).toNat = ((x / 2 ^ sh * 2 ^ sh : Nat) : Int) := by
    rw [Int.toNat_natCast]
    simp
  have e5 := xor_low x sh
  have hlt : x % 2 ^ sh < 2 ^ ((mid - a) * n) := hsh ▸ Nat.mod_lt _ (Nat.two_pow_pos _)
  have hup : x / 2 ^ sh < 2 ^ ((b - mid) * n) := by
    rw [Nat.div_lt_iff_lt_mul (Nat.two_pow_pos _), ← Nat.pow_add, hsh, ← Nat.add_mul]
    have : b - mid + (mid - a) = b - a := by lia
    rw [this]
    exact hx
  have e6 : (Builtin.Int.intBits ((x / 2 ^ sh : Nat) : Int) : Int) + ((sh : Nat) : Int) ≤ 2 ^ 27 := by
    have h1 := PySem.intBits_le_iff (x := ((x / 2 ^ sh : Nat) : Int)) (m := (b - mid) * n) |>.mpr hup
    have h2 : (b - mid) * n ≤ 1000 * 1000 := Nat.mul_le_mul (by lia) hn
    have h3 : sh ≤ 1000 * 1000 := hsh ▸ Nat.mul_le_mul (by lia) hn
    have h6 : (2 : Int) ^ 27 = 134217728 := by decide
    rw [h6]
    lia
  have hset : a + 1 = b → ds.set a (x : Int) = laid n a b x ds := fun e => by
    subst e
    refine laid_one (by lia) ?_
    have : a + 1 - a = 1 := by lia
    rw [this, Nat.one_mul] at hx
    exact hx
  dsimp only [bdI2d, scI2d, bL9, sL9, S, clI2d] at *
  k_steps
  · rename_i hi2 _ _
    (show Ret _ _ _ _ _ _; first | refine Ret.intro (by k_asm) (by k_asm) ?_ | refine Ret.fall (by k_asm) (by k_asm) ?_)
    refine ⟨rfl, _, rfl, ?_⟩
    rw [← hset (by lia)]
    simpa using hi2
  · have l3 := l2 (by lia)
    (refine' Spec.use ?wS ?wB ?wF ?wN ?wX ?wT ?wC ?wk ?wd ?wu ?_; (case wB => k_asm); (case wF => k_asm); (case wN => k_asm); (case wX => k_asm); (case wT => k_asm); (case wC => k_asm); (case wk => exact rfl); (case wS => exact (ih a mid (x % 2 ^ sh) us ds _ _ _ hi hlen l3 (by lia) (by lia) hlt)); (case wd => lia); (case wu => lia))
    rintro _ _ h2 tk2 ⟨rfl, us2, he, hi2⟩ F2 N2
    rw [he] at N2
    have hl2 : (laid n a mid (x % 2 ^ sh) ds).length = ds.length := laid_len l0 (by lia)
    k_steps
    (refine' Spec.use ?wS ?wB ?wF ?wN ?wX ?wT ?wC ?wk ?wd ?wu ?_; (case wB => k_asm); (case wF => k_asm); (case wN => k_asm); (case wX => k_asm); (case wT => k_asm); (case wC => k_asm); (case wk => exact rfl); (case wS => exact (ih mid b (x / 2 ^ sh) us2 _ _ _ _ hi2 (by lia) l1 (by lia) (by lia) hup)); (case wd => lia); (case wu => lia))
    rintro _ _ h3 tk3 ⟨rfl, us3, he, hi3⟩ F3 N3
    rw [he] at N3
    k_steps
    (show Ret _ _ _ _ _ _; first | refine Ret.intro (by k_asm) (by k_asm) ?_ | refine Ret.fall (by k_asm) (by k_asm) ?_)
    refine ⟨rfl, _, rfl, ?_⟩
    have := laid_two (n := n) (x := x) l0 (Nat.le_of_lt l1) hb
    rw [← hsh] at this
    rw [← this]
    exact hi3
end
theorem prime8 : rw_ul0020_01.prog = rw_ul0020_01.prog ∧ KL = KL := by k_fill; exact ⟨rfl, rfl⟩
section
variable {w : World} {mean : ExcName → Option Value} {mg mb : Str → Option Value}
/-- the places that a number takes -/
noncomputable def places (n x : Nat) : Nat := (Builtin.Int.intBits (x : Int) + n - 1) / n
theorem places_fit {n x : Nat} (hn : 0 < n) : x < 2 ^ (places n x * n) := by
  have h1 : Builtin.Int.intBits (x : Int) ≤ places n x * n := by
    unfold places
    have := Nat.div_add_mod (Builtin.Int.intBits (x : Int) + n - 1) n
    have h2 := Nat.mod_lt (Builtin.Int.intBits (x : Int) + n - 1) hn
    rw [Nat.mul_comm] at this
    lia
  exact PySem.intBits_le_iff.mp h1
/-- a new list of numbers, the tables moved -/
noncomputable abbrev ListR (A : List (Addr × Obj)) (ds : List Int) : Rel := fun r n => ∃ q us k T', r = .ref q ∧ n = (q, listOf us.toArray k) :: (A ++ T') ∧ IntsAre us ds ∧ (∀ p ∈ A ++ T', p.1 ≠ q) ∧ Tabs T' ∧ Dis A T'
set_option maxRecDepth 100000 in
set_option maxHeartbeats 8000000 in
theorem spec_i2d (x n : Nat) (t1 t2 : Tok) {A T : List (Addr × Obj)} (hx : x < 2 ^ 900) (hn : n ≤ 1000) (hn0 : 0 < n) (hT : Tabs T) (hD : Dis A T) :
    Spec w mean mg mb (.ref 99) [.int x t1, .int n t2] 15 100 (A ++ T) (ListR A (digs n (places n x) x)) := by
  refine spec_defC (nm := nL9) (ar := aL9) (bd := bL9) (sc := sL9) (c := 98) (binds := [(S "a", .int x t1), (S "n", .int n t2)]) rfl rfl rfl rfl (by decide +kernel) (fun _ => rfl) (ml := fun y => if y = S "a" then some (.int x t1) else none) (fun _ => rfl) (mc := fun y => if y = S "n" then some (.int n t2) else none) (fun _ => rfl) ?_ rfl rfl rfl (by decide) (by decide)
  intro dp un gd outer A₀ base g L' h₁ s tk cells B F N Y G lt hd hu
  obtain ⟨X, T0, C⟩ := G
  have C1 := C.2
  dsimp only [bL9, sL9, S] at *
  k_cells Y
  rename_i oi oa on d1 d2 d3
  have e0 : ((Builtin.Int.intBits (x : Int) : Int) + (n : Int) - 1).fdiv (n : Int) = ((places n x : Nat) : Int) := by
    rw [Int.fdiv_eq_ediv_of_nonneg _ (by lia)]
    have : (Builtin.Int.intBits (x : Int) : Int) + (n : Int) - 1 = ((Builtin.Int.intBits (x : Int) + n - 1 : Nat) : Int) := by lia
    rw [this]
    rfl
  have hpl : places n x ≤ 900 := by
    have h1 : Builtin.Int.intBits (x : Int) ≤ 900 := PySem.intBits_le_iff.mpr hx
    unfold places
    have h2 : (Builtin.Int.intBits (x : Int) + n - 1) / n < 901 := by
      rw [Nat.div_lt_iff_lt_mul hn0]
      have := Nat.mul_le_mul_left 900 hn0
      lia
    lia
  simp only [List.cons_append, List.nil_append] at N
  have lt3 : L' < L' + 1 + 1 + 1 := Nat.lt_succ_of_lt (Nat.lt_succ_of_lt (Nat.lt_succ_self L'))
  have lt2 : L' < L' + 1 + 1 := Nat.lt_succ_of_lt (Nat.lt_succ_self L')
  have lt1 : L' < L' + 1 := Nat.lt_succ_self L'
  have ne2 : ∀ p ∈ A ++ T, p.1 ≠ L' + 1 + 1 := fun p hp => Nat.ne_of_lt (Nat.lt_trans (lt p hp) lt2)
  k_steps
  rename_i tk0 l' h2 l1a D h3 i1 n1 s1 e1 e2 e3 l1b h4 o2 F2 N2 dq
  rw [e0] at i1 N2 e1
  rw [Int.toNat_natCast] at i1 N2 e1
  clear e2 e3 s1
  generalize hus : (List.replicate (places n x) [Value.int 0 tk0]).flatten = us at *
  generalize hds : (List.replicate (places n x) [(0 : Int)]).flatten = ds at *
  have hlen : ds.length = places n x := by rw [← hds]; simp
  have lD : L' < D := Nat.lt_trans lt3 l1b.2.1
  have lL : L' < l' := Nat.lt_trans lt3 l1a.1
  have nD : ∀ p ∈ A ++ T, p.1 ≠ D := fun p hp => Nat.ne_of_lt (Nat.lt_trans (lt p hp) lD)
  have DA := Dis.cons (c := [(D, listOf us.toArray 0), (l', listOf #[Value.int 0 tk0] 0), (L' + 1 + 1 + 1, oi), (L' + 1 + 1, o2), (L' + 1, on)]) hD lt (fun p hp => by
    simp only [List.mem_cons, List.not_mem_nil, or_false] at hp
    rcases hp with rfl | rfl | rfl | rfl | rfl
    · exact lD
    · exact lL
    · exact lt3
    · exact lt2
    · exact lt1)
  refine nestDef_K rfl rfl rfl (nest_T (A := [(D, listOf us.toArray 0), (l', listOf #[Value.int 0 tk0] 0), (L' + 1 + 1 + 1, oi), (L' + 1 + 1, o2), (L' + 1, on)] ++ A) (pos := posI2d) (qual := quI2d) F2 (by rw [List.append_assoc]; exact N2) T0 C1 hT.b hT.a.inT hT.b.inT (.inr rfl) DA rfl ?_)
  intro f c' oc vs t1' ctv doc pm h' tk' T' hor hT1 F3 N3 hoc hfv hq ltf DA2
  have hT2 : Tabs T' := ⟨by
    rcases hor with e | ⟨oc2, e, n1, n2⟩
    · rw [e]; exact hT.a
    · rw [e]; exact hT.a.grow (.inr rfl) (by decide) n1, hT1⟩
  have hAT : Dis A T' := fun a ha => DA2 a (.tail _ (.tail _ (.tail _ (.tail _ (.tail _ ha)))))
  clear N2 F2
  simp only [List.cons_append, List.nil_append] at N3
  have lf : ∀ p ∈ [(D, listOf us.toArray 0), (l', listOf #[Value.int 0 tk0] 0), (L' + 1 + 1 + 1, oi), (L' + 1 + 1, o2), (L' + 1, on)] ++ A ++ T', p.1 ≠ f := fun p hp => Nat.ne_of_lt (ltf p hp)
  have f3 : f ≠ L' + 1 + 1 + 1 := (lf (L' + 1 + 1 + 1, oi) (.tail _ (.tail _ (.head _)))).symm
  have D3 : D ≠ L' + 1 + 1 + 1 := Nat.ne_of_gt l1b.2.1
  have l3 : l' ≠ L' + 1 + 1 + 1 := Nat.ne_of_gt l1a.1
  have ne3 : ∀ p ∈ A ++ T', p.1 ≠ L' + 1 + 1 + 1 := fun p hp => by
    rcases List.mem_append.mp hp with hp | hp
    · exact Nat.ne_of_lt (Nat.lt_trans (lt p (List.mem_append_left _ hp)) lt3)
    · exact DA2 (L' + 1 + 1 + 1, oi) (.tail _ (.tail _ (.head _))) p hp
  have neD : ∀ p ∈ A ++ T', p.1 ≠ D := fun p hp => by
    rcases List.mem_append.mp hp with hp | hp
    · exact nD p (List.mem_append_left _ hp)
    · exact DA2 (D, listOf us.toArray 0) (.head _) p hp
  have fD : f ≠ D := (lf (D, listOf us.toArray 0) (.head _)).symm
  have hz0 : (0 : Int) = ((0 : Nat) : Int) := rfl
  k_steps
  · rename_i h5 o3 F5 N5 do3 hx0
    have N6 := nsub N5 (b := (D, listOf us.toArray 0) :: _ :: _ :: _ :: _ :: _ :: (A ++ T')) (fun p hp => by
      rcases List.mem_cons.mp hp with rfl | hp
      · exact .tail _ (.head _)
      rcases List.mem_cons.mp hp with rfl | hp
      · exact .head _
      · exact .tail _ (.tail _ hp))
    clear N5
    have hpos : 0 < places n x := by
      rcases Nat.eq_zero_or_pos (places n x) with e | e
      · have := places_fit (x := x) hn0
        rw [e, Nat.zero_mul] at this
        lia
      · exact e
    rw [hz0]
    (refine' Spec.use ?wS ?wB ?wF ?wN ?wX ?wT ?wC ?wk ?wd ?wu ?_; (case wB => k_asm); (case wF => k_asm); (case wN => k_asm); (case wX => k_asm); (case wT => k_asm); (case wC => k_asm); (case wk => exact rfl); (case wS => exact (spec_inI (c' := c') (oc := oc) (oa := o2) (on := on) (q := D) (n0 := 0) (tn := t2) (by k_mem) (List.mem_append_right _ hoc |> List.Mem.tail _ |> List.Mem.tail _ |> List.Mem.tail _ |> List.Mem.tail _ |> List.Mem.tail _) hfv hq (by k_mem) dq (by k_mem) do3 (by k_mem) d3 (List.forall_mem_cons.mpr ⟨fD, List.forall_mem_cons.mpr ⟨Nat.ne_of_lt l1b.1, List.forall_mem_cons.mpr ⟨D3.symm, List.forall_mem_cons.mpr ⟨Nat.ne_of_lt l1b.2.2.1, List.forall_mem_cons.mpr ⟨Nat.ne_of_lt l1b.2.2.2.1, neD⟩⟩⟩⟩⟩) hn hn0 11 0 ds.length x us ds _ _ _ i1 (by lia) (by lia) (by lia) (by rw [show bd 11 = 1024 from rfl]; lia) (by rw [hlen]; exact places_fit hn0))); (case wd => lia); (case wu => lia))
    rintro _ _ h6 tk6 ⟨rfl, us2, he, hi2⟩ F6 N6'
    rw [he] at N6'
    clear N6
    k_steps
    show Ret _ _ _ _ _ _
    refine Ret.intro F6 (nsub N6' (b := (D, listOf us2.toArray 0) :: (A ++ T')) fun p hp => ?_) ⟨D, us2, 0, T', rfl, rfl, ?_, neD, hT2, hAT⟩
    · rcases List.mem_cons.mp hp with rfl | hp
      · exact .head _
      · exact .tail _ (.tail _ (.tail _ (.tail _ (.tail _ (.tail _ hp)))))
    · have e : laid n 0 ds.length x ds = digs n (places n x) x := by rw [laid, List.take_zero, List.nil_append, Nat.sub_zero, List.drop_length, List.append_nil, hlen]
      rw [e] at hi2
      exact hi2
  · rename News _ _ _ _ => N6
    show Ret _ _ _ _ _ _
    refine Ret.intro (by k_asm) (nsub N6 (b := (D, listOf us.toArray 0) :: (A ++ T')) fun p hp => ?_) ⟨D, us, 0, T', rfl, rfl, ?_, neD, hT2, hAT⟩
    · rcases List.mem_cons.mp hp with rfl | hp
      · exact .tail _ (.head _)
      · exact .tail _ (.tail _ (.tail _ (.tail _ (.tail _ (.tail _ hp)))))
    · have hx0 : x = 0 := by lia
      have hp0 : places n x = 0 := by
        subst hx0
        show (0 + n - 1) / n = 0
        exact Nat.div_eq_of_lt (by lia)
      rw [hp0]
      have : ds = [] := List.length_eq_zero_iff.mp (by lia)
      rw [this] at i1
      exact i1
end
section
variable {prog : Program} {w : World} {A : Around} {E : Value → Shared → Prop} {s : Shared} {env : Env} {h₀ : Heap} {x : Str} {body : List Stmt} {Q : Flow → Shared → Prop}
theorem UnrPost.mono {L I : Addr} {s₁ : Shared} {it : Obj} {r r' : (Str → Option Value) → List (Addr × Obj) → Prop} {f : Flow} {s₂ : Shared} (k : ∀ m n, r m n → r' m n) (h : UnrPost h₀ L s₁ I it r Q f s₂) : UnrPost h₀ L s₁ I it r' Q f s₂ := by
  have end' : UnrEnd h₀ L s₁ I it r s₂ → UnrEnd h₀ L s₁ I it r' s₂ := fun ⟨h', tk, m', news', e, F, N, off, hr⟩ => ⟨h', tk, m', news', e, F, N, off, k _ _ hr⟩
  cases f with
  | ret v => exact h
  | brk => exact h
  | next => exact end' h
  | cont => exact end' h
theorem revRest_ind {I : Addr} {lp : Addr × Obj} {Inv : List Value → (Str → Option Value) → List (Addr × Obj) → Prop}
    (hend : ∀ m news, Inv [] m news → ∀ h tk, Fr h₀ env.locals h m → News h₀ env.locals h news → Q .next { s with heap := h, toks := tk })
    (hstep : ∀ v r m news, Inv (v :: r) m news → ∀ (it : Obj) h tk, it.cls = .type "list_reverseiterator" → Fr h₀ env.locals h (fun y => if y = x then some v else m y) → News h₀ env.locals h ((I, it) :: news) →
      wpAny (model prog w) A (execs body env) (UnrPost h₀ env.locals { s with heap := h, toks := tk } I it (fun m' n' => lp ∈ n' ∧ Inv r m' n') Q) E { s with heap := h, toks := tk }) :
    ∀ vs m news, Inv vs m news → RevRest prog w A E h₀ env x body Q s I lp vs m news
  | [], m, news, hi => RevRest.zero (hend m news hi)
  | v :: r, m, news, hi => RevRest.succ fun it h tk hit F N => wpAny_mono (hstep v r m news hi it h tk hit F N)
      (fun f s' hp => UnrPost.mono (fun m' n' hr => ⟨hr.1, revRest_ind hend hstep r m' n' hr.2⟩) hp) fun _ _ e => e
theorem listRest_ind {I : Addr} {lp : Addr × Obj} {Inv : List Value → (Str → Option Value) → List (Addr × Obj) → Prop}
    (hend : ∀ m news, Inv [] m news → ∀ h tk, Fr h₀ env.locals h m → News h₀ env.locals h news → Q .next { s with heap := h, toks := tk })
    (hstep : ∀ v r m news, Inv (v :: r) m news → ∀ (it : Obj) h tk, it.cls = .type "list_iterator" → Fr h₀ env.locals h (fun y => if y = x then some v else m y) → News h₀ env.locals h ((I, it) :: news) →
      wpAny (model prog w) A (execs body env) (UnrPost h₀ env.locals { s with heap := h, toks := tk } I it (fun m' n' => lp ∈ n' ∧ Inv r m' n') Q) E { s with heap := h, toks := tk }) :
    ∀ vs m news, Inv vs m news → ListRest prog w A E h₀ env x body Q s I lp vs m news
  | [], m, news, hi => ListRest.zero (hend m news hi)
  | v :: r, m, news, hi => ListRest.succ fun it h tk hit F N => wpAny_mono (hstep v r m news hi it h tk hit F N)
      (fun f s' hp => UnrPost.mono (fun m' n' hr => ⟨hr.1, listRest_ind hend hstep r m' n' hr.2⟩) hp) fun _ _ e => e
theorem rangeRest_ind {I : Addr} {a : Int} {n : Nat} {Inv : Nat → Nat → (Str → Option Value) → List (Addr × Obj) → Prop}
    (hend : ∀ i m news, Inv 0 i m news → ∀ h tk, Fr h₀ env.locals h m → News h₀ env.locals h news → Q .next { s with heap := h, toks := tk })
    (hstep : ∀ k i m news, Inv (k + 1) i m news → ∀ t h tk, Fr h₀ env.locals h (fun y => if y = x then some (.int (a + (i : Int)) t) else m y) →
      News h₀ env.locals h ((I, itR (a + ((i + 1 : Nat) : Int)) ((n : Int) - ((i + 1 : Nat) : Int))) :: news) →
      wpAny (model prog w) A (execs body env) (UnrPost h₀ env.locals { s with heap := h, toks := tk } I (itR (a + ((i + 1 : Nat) : Int)) ((n : Int) - ((i + 1 : Nat) : Int))) (Inv k (i + 1)) Q) E { s with heap := h, toks := tk }) :
    ∀ k i m news, Inv k i m news → RangeRest prog w A E h₀ env x body Q s I a n k i m news
  | 0, i, m, news, hi => RangeRest.zero (hend i m news hi)
  | k + 1, i, m, news, hi => RangeRest.succ fun t h tk F N => wpAny_mono (hstep k i m news hi t h tk F N)
      (fun f s' hp => UnrPost.mono (fun m' n' hr => rangeRest_ind hend hstep k (i + 1) m' n' hr) hp) fun _ _ e => e
end
theorem offI_of {I : Addr} {it : Obj} : ∀ {l : List (Addr × Obj)}, (∀ p ∈ l, p.1 ≠ I) → OffI I it l
  | [], _ => trivial
  | p :: r, h => ⟨.inl (h p (.head _)), offI_of fun q hq => h q (.tail _ hq)⟩
section
variable {prog : Program} {w : World} {A : Around} {E : Value → Shared → Prop} {s : Shared} {h₀ : Heap} {L D : Addr} {m : Str → Option Value} {news news' : List (Addr × Obj)} {us : List Value} {n : Nat} {x : Value} {Q : Value → Shared → Prop}
theorem append_L (F : Fr h₀ L s.heap m) (N : News h₀ L s.heap news) (U : Upd D (listOf us.toArray n) (listOf (us ++ [x]).toArray (n + 1)) news news') (hlen : us.length < 100000)
    (h : ∀ h', Fr h₀ L h' m → News h₀ L h' news' → Q .none { s with heap := h' }) : wpAny (model prog w) A (call (.builtin "list.append") [.ref D, x]) Q E s := by
  have e : us.toArray.push x = (us ++ [x]).toArray := by simp
  rw [← e] at U
  exact append_K F N U h (by rw [sizeLine_eq]; simp only [List.size_toArray]; lia)
theorem reverse_L (F : Fr h₀ L s.heap m) (N : News h₀ L s.heap news) (U : Upd D (listOf us.toArray n) (listOf us.reverse.toArray n) news news') (hlen : us.length < 100000)
    (h : ∀ h', Fr h₀ L h' m → News h₀ L h' news' → Q .none { s with heap := h' }) : wpAny (model prog w) A (call (.builtin "list.reverse") [.ref D]) Q E s :=
  kl_reverse F N (l := us.reverse) (by simp) U (by rw [sizeLine_eq]; simp only [List.toList_toArray]; lia) h
end
local macro_rules | `(tactic| walk_at "call builtin:list.append") => `(tactic| (k_here; k_dflt (refine' append_L ?k1 ?k2 ?k3 ?k4 ?_; (case k1 => k_asm); (case k2 => k_asm); (case k3 => k_upd); (case k4 => first | assumption | lia); k_whole); intro h' F' N'; (try k_sweep)))
local macro_rules | `(tactic| walk_at "call builtin:list.reverse") => `(tactic| (k_here; k_dflt (refine' reverse_L ?k1 ?k2 ?k3 ?k4 ?_; (case k1 => k_asm); (case k2 => k_asm); (case k3 => k_upd); (case k4 => first | assumption | lia); k_whole); intro h' F' N'; (try k_sweep)))
local macro_rules | `(tactic| walk_at "eval Name") => `(tactic| (k_here; k_dflt (refine' ld ?k1 ?k2 ?_; (case k1 => k_asm); (case k2 => first | exact rfl | assumption); k_whole)))
theorem prime10 : rw_ul0020_01.prog = rw_ul0020_01.prog ∧ KL = KL := by k_fill; exact ⟨rfl, rfl⟩
theorem places_le {n x B : Nat} (hn0 : 0 < n) (hx : x < 2 ^ B) : places n x ≤ B := by
  have h1 : Builtin.Int.intBits (x : Int) ≤ B := PySem.intBits_le_iff.mpr hx
  unfold places
  have h2 : (Builtin.Int.intBits (x : Int) + n - 1) / n < B + 1 := by
    rw [Nat.div_lt_iff_lt_mul hn0]
    have := Nat.mul_le_mul_left B hn0
    rw [Nat.add_mul]
    lia
  lia
theorem digs_snoc (n j x : Nat) : digs n (j + 1) x = digs n j x ++ [((x / 2 ^ (j * n) % 2 ^ n : Nat) : Int)] := by
  rw [digs_add]; rfl
theorem dp_step {x y nb j : Nat} (hy : 0 < y) :
    (x / 2 ^ ((j + 1) * nb) % y * 2 ^ nb + x / 2 ^ (j * nb) % 2 ^ nb) % y = x / 2 ^ (j * nb) % y ∧
    (x / 2 ^ ((j + 1) * nb) % y * 2 ^ nb + x / 2 ^ (j * nb) % 2 ^ nb) / y + x / 2 ^ ((j + 1) * nb) / y * 2 ^ nb = x / 2 ^ (j * nb) / y := by
  have e : x / 2 ^ ((j + 1) * nb) = x / 2 ^ (j * nb) / 2 ^ nb := by
    rw [Nat.div_div_eq_div_mul, ← Nat.pow_add, Nat.add_mul, Nat.one_mul]
  rw [e]
  generalize x / 2 ^ (j * nb) = P
  have h1 := Nat.div_add_mod P (2 ^ nb)
  have h2 := Nat.div_add_mod (P / 2 ^ nb) y
  have h3 : P = y * (P / 2 ^ nb / y * 2 ^ nb) + (P / 2 ^ nb % y * 2 ^ nb + P % 2 ^ nb) := by
    have : y * (P / 2 ^ nb / y * 2 ^ nb) + P / 2 ^ nb % y * 2 ^ nb = 2 ^ nb * (P / 2 ^ nb) := by
      rw [← Nat.mul_assoc, ← Nat.add_mul, h2, Nat.mul_comm]
    lia
  constructor
  · conv => rhs; rw [h3, Nat.mul_add_mod]
  · conv => rhs; rw [h3, Nat.mul_add_div hy]
    lia
theorem dp_lt {y nb r d : Nat} (hr : r < y) (hd : d < 2 ^ nb) : r * 2 ^ nb + d < y * 2 ^ nb := by
  have := Nat.mul_le_mul_right (2 ^ nb) hr
  rw [Nat.succ_mul] at this
  lia
section
variable {w : World} {mean : ExcName → Option Value} {mg mb : Str → Option Value}
/-- what stands at the head of a turn of the division's loop -/
noncomputable def InvDp (A T' : List (Addr × Obj)) (x y nb : Nat) (t2 : Tok) (l q : Addr) (us : List Value) (k : Nat) (vs : List Value) (m : Str → Option Value) (n : List (Addr × Obj)) : Prop :=
  ∃ (j : Nat) (tr tn : Tok) (qs : List Value) (qds : List Int) (kq : Nat),
    IntsAre vs (digs nb j x).reverse ∧ j + qs.length = places nb x ∧ m (S "r") = some (.int ((x / 2 ^ (j * nb) % y : Nat) : Int) tr) ∧ m (S "b") = some (.int (y : Int) t2) ∧ m (S "n") = some (.int (nb : Int) tn) ∧ m (S "q_digits") = some (.ref l) ∧
    n = (l, listOf qs.toArray kq) :: (q, listOf us.toArray k) :: (A ++ T') ∧ IntsAre qs qds ∧ (∀ d ∈ qds, d.natAbs < 2 ^ 1000) ∧ dval nb qds.reverse = ((x / 2 ^ (j * nb) / y : Nat) : Int)
set_option maxRecDepth 100000 in
set_option maxHeartbeats 8000000 in
theorem spec_dp (x y : Nat) (t1 t2 : Tok) {A T : List (Addr × Obj)} (hx : x < 2 ^ 300) (hy : y < 2 ^ 300) (hy0 : 0 < y) (hT : Tabs T) (hD : Dis A T) :
    Spec w mean mg mb (.ref 113) [.int x t1, .int y t2] 20 200 (A ++ T) (fun r n => ∃ p t u T', r = .ref p ∧ n = (p, tup2 (x / y : Nat) (x % y : Nat) t u) :: (A ++ T') ∧ (∀ p' ∈ A ++ T', p'.1 ≠ p) ∧ Tabs T' ∧ Dis A T') := by
  refine spec_def (nm := nL11) (ar := aL11) (bd := bL11) (sc := sL11) (c := 112) (binds := [(S "a", .int x t1), (S "b", .int y t2)]) rfl rfl rfl rfl ?_ rfl rfl rfl rfl (by decide) (by decide)
  intro dp un gd outer A₀ base g L' h₁ s B F N G lt hd hu
  obtain ⟨X, T0, C⟩ := G
  dsimp only [bL11, sL11, S] at *
  k_steps
  have hnb : Builtin.Int.intBits (y : Int) ≤ 300 := PySem.intBits_le_iff.mpr hy
  have hn0 : 0 < Builtin.Int.intBits (y : Int) := by
    rcases Nat.eq_zero_or_pos (Builtin.Int.intBits (y : Int)) with e | e
    · have := PySem.intBits_le_iff.mp (Nat.le_of_eq e)
      simp only [Int.natAbs_natCast, Nat.pow_zero] at this
      lia
    · exact e
  (refine' Spec.use ?wS ?wB ?wF ?wN ?wX ?wT ?wC ?wk ?wd ?wu ?_; (case wB => k_asm); (case wF => k_asm); (case wN => k_asm); (case wX => k_asm); (case wT => k_asm); (case wC => k_asm); (case wk => exact rfl); (case wS => exact (spec_i2d x (Builtin.Int.intBits (y : Int)) _ _ (Nat.lt_trans hx (Nat.pow_lt_pow_right (by decide) (by decide))) (by lia) hn0 hT hD)); (case wd => lia); (case wu => lia))
  rintro _ _ h2 tk2 ⟨q, us, k, T', rfl, he, hi, hq, hT', hD'⟩ F2 N2
  rw [he] at N2
  generalize hnn : Builtin.Int.intBits (y : Int) = nb at *
  have hul : us.length = places nb x := by rw [hi.length, digs_len]
  have hpl : places nb x ≤ 300 := places_le hn0 hx
  k_steps
  rename_i l' h5 l1a h6 D h7 F3 N3 l1b
  have lq : q < l' := l1a.1
  have lAT : ∀ p ∈ A ++ T', p.1 ≠ l' := fun p hp => Nat.ne_of_lt (allLt_get l1a.2 p hp)
  have nql : (q : Nat) ≠ l' := Nat.ne_of_lt lq
  refine iter_revUnr rfl F3 N3 (offI_of (List.forall_mem_cons.mpr ⟨Nat.ne_of_lt l1b.1, List.forall_mem_cons.mpr ⟨Nat.ne_of_lt l1b.2.1, fun p hp => Nat.ne_of_lt (allLt_get l1b.2.2 p hp)⟩⟩)) (.tail _ (.head _)) rfl rfl (revRest_ind (Inv := InvDp A T' x y nb t2 l' q us k) ?_ ?_ _ _ _ ?_)
  · rintro m news ⟨j, tr, tn, qs, qds, kq, hv, hj, mr, mb', mn, mq, rfl, hqi, hqb, hqv⟩ h tk F N
    have hj0 : j = 0 := by
      have := hv.length
      simp only [List.length_nil, List.length_reverse, digs_len] at this
      exact this.symm
    subst hj0
    have hql : qs.length < 100000 := by lia
    clear F3 N3
    have DD : Dis ((l', listOf qs.reverse.toArray kq) :: (q, listOf us.toArray k) :: A) T' := List.forall_mem_cons.mpr ⟨fun p hp => lAT p (List.mem_append_right _ hp), List.forall_mem_cons.mpr ⟨fun p hp => hq p (List.mem_append_right _ hp), hD'⟩⟩
    k_steps
    (refine' Spec.use ?wS ?wB ?wF ?wN ?wX ?wT ?wC ?wk ?wd ?wu ?_; (case wB => k_asm); (case wF => k_asm); (case wN => k_asm); (case wX => k_asm); (case wT => k_asm); (case wC => k_asm); (case wk => exact rfl); (case wS => exact (spec_d2i l' qs.reverse qds.reverse hqi.reverse kq nb _ (A := (l', listOf qs.reverse.toArray kq) :: (q, listOf us.toArray k) :: A) (T := T') (.head _) (fun d hd => hqb d (List.mem_reverse.mp hd)) (by lia) (by rw [List.length_reverse, ← hqi.length]; lia) hT' DD)); (case wd => lia); (case wu => lia))
    rintro _ _ h3 tk3 ⟨⟨t', rfl⟩, T'', he2, hT'', hD''⟩ F4 N4
    rw [he2] at N4
    simp only [List.cons_append] at N4
    k_steps
    rename_i p h8 F5 N5 l5
    show Ret _ _ _ _ _ _
    have hz : x / 2 ^ (0 * nb) = x := by rw [Nat.zero_mul, Nat.pow_zero, Nat.div_one]
    rw [hz] at hqv N5
    rw [hqv] at N5
    exact Ret.intro F5 (nsub N5 (b := (p, tup2 ((x / y : Nat) : Int) ((x % y : Nat) : Int) t' tr) :: (A ++ T'')) fun p' hp => by
      rcases List.mem_cons.mp hp with rfl | hp
      · exact .head _
      · exact .tail _ (.tail _ (.tail _ hp))) ⟨p, t', tr, T'', rfl, rfl, fun p' hp => Nat.ne_of_lt (allLt_get l5.2.2 p' hp), hT'', fun a ha => hD'' a (.tail _ (.tail _ ha))⟩
  · rintro v r m news ⟨j, tr, tn, qs, qds, kq, hv, hj, mr, mb', mn, mq, rfl, hqi, hqb, hqv⟩ it h tk hit F N
    have hql : qs.length < 100000 := by lia
    rcases j with _ | j
    · cases hv
    rw [digs_snoc, List.reverse_append] at hv
    obtain ⟨_, td, _⟩ := hv
    rename IntsAre r _ => hv'
    have hd' : x / 2 ^ (j * nb) % 2 ^ nb < 2 ^ nb := Nat.mod_lt _ (Nat.two_pow_pos _)
    have hr' : x / 2 ^ ((j + 1) * nb) % y < y := Nat.mod_lt _ hy0
    have hlt := dp_lt hr' hd'
    obtain ⟨st1, st2⟩ := dp_step (x := x) (nb := nb) (j := j) hy0
    generalize x / 2 ^ (j * nb) % 2 ^ nb = d at *
    generalize x / 2 ^ ((j + 1) * nb) % y = rv at *
    clear F3 N3
    have e1 : ((rv : Nat) : Int) * 2 ^ ((nb : Nat) : Int).toNat = ((rv * 2 ^ nb : Nat) : Int) := by rw [Int.toNat_natCast]; simp
    have e2 : (Builtin.Int.intBits ((rv : Nat) : Int) : Int) + ((nb : Nat) : Int) ≤ 2 ^ 27 := by
      have h1 : Builtin.Int.intBits ((rv : Nat) : Int) ≤ 300 := PySem.intBits_le_iff.mpr (Nat.lt_trans hr' hy)
      have h6 : (2 : Int) ^ 27 = 134217728 := by decide
      rw [h6]
      lia
    have e3 : (((rv * 2 ^ nb : Nat) : Int) + ((d : Nat) : Int)) = ((rv * 2 ^ nb + d : Nat) : Int) := by rw [Int.natCast_add]
    have hV : (((rv * 2 ^ nb : Nat) : Int) + ((d : Nat) : Int)).natAbs < 2 ^ 4000 := by
      rw [e3, Int.natAbs_natCast]
      refine Nat.lt_trans hlt (Nat.lt_of_lt_of_le (Nat.mul_lt_mul_of_pos_right hy (Nat.two_pow_pos _)) ?_)
      rw [← Nat.pow_add]
      exact Nat.pow_le_pow_right (by decide) (by lia)
    have e4 : (((rv * 2 ^ nb : Nat) : Int) + ((d : Nat) : Int)).fdiv (y : Int) = (((rv * 2 ^ nb + d) / y : Nat) : Int) := by
      rw [e3, Int.fdiv_eq_ediv_of_nonneg _ (by lia)]; rfl
    have e5 : (((rv * 2 ^ nb : Nat) : Int) + ((d : Nat) : Int)).fmod (y : Int) = (((rv * 2 ^ nb + d) % y : Nat) : Int) := by
      rw [e3, Int.fmod_eq_emod_of_nonneg _ (by lia)]; rfl
    k_steps
    (refine' Spec.use ?wS ?wB ?wF ?wN ?wX ?wT ?wC ?wk ?wd ?wu ?_; (case wB => k_asm); (case wF => k_asm); (case wN => k_asm); (case wX => k_asm); (case wT => k_asm); (case wC => k_asm); (case wk => exact rfl); (case wS => exact (spec_d21 (((rv * 2 ^ nb : Nat) : Int) + ((d : Nat) : Int)) (y : Int) (nb : Int) _ _ _ hV (Nat.lt_trans hy (Nat.pow_lt_pow_right (by decide) (by decide))) (by lia) (by lia) _)); (case wd => lia); (case wu => lia))
    rintro _ _ h3 tk3 ⟨p, t3, u3, rfl, he2, hp⟩ F4 N4
    rw [he2, e4, e5] at N4
    have hpl' : p ≠ l' := (hp _ (.tail _ (.head _))).symm
    have hDl : D ≠ l' := Nat.ne_of_gt l1b.1
    have hqd : ((rv * 2 ^ nb + d) / y : Nat) < 2 ^ 1000 := Nat.lt_of_lt_of_le (Nat.div_lt_of_lt_mul hlt) (Nat.pow_le_pow_right (by decide) (by lia))
    k_steps
    rename_i F5 N5
    refine UnrEnd.intro F5 N5 ((l', listOf (qs ++ [Value.int (((rv * 2 ^ nb + d) / y : Nat) : Int) t3]).toArray (kq + 1)) :: (q, listOf us.toArray k) :: (A ++ T')) (fun p' hp' => ?_) ?_ ⟨.tail _ (.head _), j, u3, _, _, qds ++ [(((rv * 2 ^ nb + d) / y : Nat) : Int)], _, hv', ?_, ?_, mb', mn, mq, rfl, hqi.append (.cons _ _ .nil), ?_, ?_⟩
    · rcases List.mem_cons.mp hp' with rfl | hp'
      · exact .tail _ (.head _)
      · exact .tail _ (.tail _ hp')
    · exact List.forall_mem_cons.mpr ⟨Nat.ne_of_lt l1b.1, List.forall_mem_cons.mpr ⟨Nat.ne_of_lt l1b.2.1, fun p' hp' => Nat.ne_of_lt (allLt_get l1b.2.2 p' hp')⟩⟩
    · rw [List.length_append]
      show j + (qs.length + 1) = _
      lia
    · rw [← st1]; exact rfl
    · intro dd hdd
      rcases List.mem_append.mp hdd with hdd | hdd
      · exact hqb dd hdd
      · rw [List.mem_singleton.mp hdd, Int.natAbs_natCast]
        exact hqd
    · rw [List.reverse_append]
      show dval nb ((((rv * 2 ^ nb + d) / y : Nat) : Int) :: qds.reverse) = _
      rw [dval, hqv, ← st2]
      push_cast
      rfl
  · have hz : x / 2 ^ (places nb x * nb) = 0 := Nat.div_eq_of_lt (places_fit hn0)
    refine ⟨places nb x, _, _, [], [], 0, hi.reverse, rfl, (by rw [hz, Nat.zero_mod]; exact rfl), rfl, rfl, rfl, rfl, .nil, (fun d hd => by cases hd), ?_⟩
    · rw [hz, Nat.zero_div]; rfl
end
theorem prime11 : rw_ul0020_01.prog = rw_ul0020_01.prog ∧ KL = KL := by k_fill; exact ⟨rfl, rfl⟩
section
variable {w : World} {mean : ExcName → Option Value} {mg mb : Str → Option Value}
/-- a new pair, the tables moved -/
noncomputable abbrev PairN (A : List (Addr × Obj)) (q r : Int) : Rel := fun v n => ∃ p t u T', v = .ref p ∧ n = (p, tup2 q r t u) :: (A ++ T') ∧ (∀ p' ∈ A ++ T', p'.1 ≠ p) ∧ Tabs T' ∧ Dis A T'
theorem fdiv_nat (x y : Nat) : ((x : Nat) : Int).fdiv (y : Int) = ((x / y : Nat) : Int) := by rw [Int.fdiv_eq_ediv_of_nonneg _ (by lia)]; rfl
theorem fmod_nat (x y : Nat) : ((x : Nat) : Int).fmod (y : Int) = ((x % y : Nat) : Int) := by rw [Int.fmod_eq_emod_of_nonneg _ (by lia)]; rfl
theorem Spec.weaken {f : Value} {vs : List Value} {D U D' U' : Nat} {news : List (Addr × Obj)} {R : Rel} (S : Spec w mean mg mb f vs D U news R) (h1 : D ≤ D') (h2 : U ≤ U') : Spec w mean mg mb f vs D' U' news R :=
  fun dp un gd cn cs a ccd cl outer A₀ base h₀ L m s Q E B F N G hk hd hu h => S dp un gd cn cs a ccd cl outer A₀ base h₀ L m s Q E B F N G hk (by lia) (by lia) h
/-- the division of a number below zero, from its inverse -/
theorem inv_div (a : Int) {b : Int} (hb : 0 < b) : a.fdiv b = Builtin.bitNot ((-a - 1).fdiv b) ∧ a.fmod b = b + Builtin.bitNot ((-a - 1).fmod b) := by
  show _ = -((-a - 1).fdiv b) - 1 ∧ _ = b + (-((-a - 1).fmod b) - 1)
  rw [Int.fdiv_eq_ediv_of_nonneg _ (by lia), Int.fdiv_eq_ediv_of_nonneg _ (by lia), Int.fmod_eq_emod_of_nonneg _ (by lia), Int.fmod_eq_emod_of_nonneg _ (by lia)]
  have h1 := Int.emod_add_mul_ediv a b
  have h2 := Int.emod_add_mul_ediv (-a - 1) b
  have h3 := Int.emod_nonneg a (by lia : b ≠ 0)
  have h4 := Int.emod_lt_of_pos a hb
  have h5 := Int.emod_nonneg (-a - 1) (by lia : b ≠ 0)
  have h6 := Int.emod_lt_of_pos (-a - 1) hb
  generalize a / b = q at *
  generalize (-a - 1) / b = q' at *
  generalize a % b = r at *
  generalize (-a - 1) % b = r' at *
  have e : b * (q + q' + 1) = b - 1 - r - r' := by rw [Int.mul_add, Int.mul_add]; lia
  have hq : q + q' + 1 = 0 := by
    rcases Int.lt_trichotomy (q + q' + 1) 0 with h | h | h
    · have : b * (q + q' + 1) ≤ b * (-1) := Int.mul_le_mul_of_nonneg_left (by lia) (by lia)
      lia
    · exact h
    · have : b * 1 ≤ b * (q + q' + 1) := Int.mul_le_mul_of_nonneg_left (by lia) (by lia)
      lia
  rw [hq] at e
  lia
set_option maxRecDepth 100000 in
set_option maxHeartbeats 8000000 in
theorem spec_dm0 (a b : Int) (t1 t2 : Tok) {A T : List (Addr × Obj)} (ha : a.natAbs < 2 ^ 300) (hb : b.natAbs < 2 ^ 300) (ha0 : 0 ≤ a) (hb0 : 0 < b) (hT : Tabs T) (hD : Dis A T) :
    Spec w mean mg mb (.ref 120) [.int a t1, .int b t2] 21 210 (A ++ T) (PairN A (a.fdiv b) (a.fmod b)) := by
  refine spec_def (nm := nL12) (ar := aL12) (bd := bL12) (sc := sL12) (c := 119) (binds := [(S "a", .int a t1), (S "b", .int b t2)]) rfl rfl rfl rfl ?_ rfl rfl rfl rfl (by decide) (by decide)
  intro dp un gd outer A₀ base g L' h₁ s B F N G lt hd hu
  obtain ⟨X, T0, C⟩ := G
  obtain ⟨x, rfl⟩ : ∃ x : Nat, a = x := ⟨a.toNat, by lia⟩
  obtain ⟨y, rfl⟩ : ∃ y : Nat, b = y := ⟨b.toNat, by lia⟩
  rw [fdiv_nat, fmod_nat]
  dsimp only [bL12, sL12, S] at *
  have hyne : ((y : Nat) : Int) ≠ 0 := by lia
  have hyn : ¬ ((y : Nat) : Int) < 0 := by lia
  have hxn : ¬ ((x : Nat) : Int) < 0 := by lia
  k_steps
  · exfalso; lia
  (refine' Spec.use ?wS ?wB ?wF ?wN ?wX ?wT ?wC ?wk ?wd ?wu ?_; (case wB => k_asm); (case wF => k_asm); (case wN => k_asm); (case wX => k_asm); (case wT => k_asm); (case wC => k_asm); (case wk => exact rfl); (case wS => exact (spec_dp x y t1 t2 (A := A) (T := T) ha hb (by lia) hT hD)); (case wd => lia); (case wu => lia))
  rintro _ _ h3 tk3 ⟨p, t, u, T', rfl, he, hp, hT', hD'⟩ F4 N4
  show Ret _ _ _ _ _ _
  exact Ret.intro F4 N4 ⟨p, t, u, T', rfl, he, hp, hT', hD'⟩
set_option maxRecDepth 100000 in
set_option maxHeartbeats 8000000 in
theorem spec_dm1 (a b : Int) (t1 t2 : Tok) {A T : List (Addr × Obj)} (ha : a.natAbs < 2 ^ 300) (hb : b.natAbs < 2 ^ 300) (hb0 : 0 < b) (hT : Tabs T) (hD : Dis A T) :
    Spec w mean mg mb (.ref 120) [.int a t1, .int b t2] 22 220 (A ++ T) (PairN A (a.fdiv b) (a.fmod b)) := by
  by_cases ha0 : 0 ≤ a
  · exact Spec.weaken (spec_dm0 a b t1 t2 ha hb ha0 hb0 hT hD) (by lia) (by lia)
  refine spec_def (nm := nL12) (ar := aL12) (bd := bL12) (sc := sL12) (c := 119) (binds := [(S "a", .int a t1), (S "b", .int b t2)]) rfl rfl rfl rfl ?_ rfl rfl rfl rfl (by decide) (by decide)
  intro dp un gd outer A₀ base g L' h₁ s B F N G lt hd hu
  obtain ⟨X, T0, C⟩ := G
  have hbne : b ≠ 0 := by lia
  have hbn : ¬ b < 0 := by lia
  have han : a < 0 := by lia
  dsimp only [bL12, sL12, S] at *
  k_steps
  · exfalso; lia
  have e0 : Builtin.bitNot a = -a - 1 := rfl
  rw [e0]
  (refine' Spec.use ?wS ?wB ?wF ?wN ?wX ?wT ?wC ?wk ?wd ?wu ?_; (case wB => k_asm); (case wF => k_asm); (case wN => k_asm); (case wX => k_asm); (case wT => k_asm); (case wC => k_asm); (case wk => exact rfl); (case wS => exact (spec_dm0 (-a - 1) b _ t2 (A := A) (T := T) (by lia) hb (by lia) hb0 hT hD)); (case wd => lia); (case wu => lia))
  rintro _ _ h3 tk3 ⟨p, t, u, T', rfl, he, hp, hT', hD'⟩ F4 N4
  rw [he] at N4
  k_steps
  rename_i p2 h8 F5 N5 l5
  obtain ⟨f1, f2⟩ := inv_div a hb0
  exact Ret.intro F5 (nsub N5 (b := (p2, tup2 (a.fdiv b) (a.fmod b) _ _) :: (A ++ T')) fun p' hp => by
    rcases List.mem_cons.mp hp with rfl | hp
    · rw [f1, f2]; exact .head _
    · exact .tail _ (.tail _ hp)) ⟨p2, _, _, T', rfl, rfl, fun p' hp => Nat.ne_of_lt (allLt_get l5.2 p' hp), hT', hD'⟩
set_option maxRecDepth 100000 in
set_option maxHeartbeats 8000000 in
/-- the law's division: the quotient and the rest of Python -/
theorem spec_dm (a b : Int) (t1 t2 : Tok) {A T : List (Addr × Obj)} (ha : a.natAbs < 2 ^ 300) (hb : b.natAbs < 2 ^ 300) (hb0 : b ≠ 0) (hT : Tabs T) (hD : Dis A T) :
    Spec w mean mg mb (.ref 120) [.int a t1, .int b t2] 23 230 (A ++ T) (PairN A (a.fdiv b) (a.fmod b)) := by
  by_cases hbp : 0 < b
  · exact Spec.weaken (spec_dm1 a b t1 t2 ha hb hbp hT hD) (by lia) (by lia)
  refine spec_def (nm := nL12) (ar := aL12) (bd := bL12) (sc := sL12) (c := 119) (binds := [(S "a", .int a t1), (S "b", .int b t2)]) rfl rfl rfl rfl ?_ rfl rfl rfl rfl (by decide) (by decide)
  intro dp un gd outer A₀ base g L' h₁ s B F N G lt hd hu
  obtain ⟨X, T0, C⟩ := G
  have hbn : b < 0 := by lia
  dsimp only [bL12, sL12, S] at *
  k_steps
  · exfalso; lia
  (refine' Spec.use ?wS ?wB ?wF ?wN ?wX ?wT ?wC ?wk ?wd ?wu ?_; (case wB => k_asm); (case wF => k_asm); (case wN => k_asm); (case wX => k_asm); (case wT => k_asm); (case wC => k_asm); (case wk => exact rfl); (case wS => exact (spec_dm1 (-a) (-b) _ _ (A := A) (T := T) (by lia) (by lia) (by lia) hT hD)); (case wd => lia); (case wu => lia))
  rintro _ _ h3 tk3 ⟨p, t, u, T', rfl, he, hp, hT', hD'⟩ F4 N4
  rw [he] at N4
  k_steps
  rename_i p2 h8 F5 N5 l5
  have f1 : (-a).fdiv (-b) = a.fdiv b := Int.neg_fdiv_neg _ _
  have f2 : -((-a).fmod (-b)) = a.fmod b := by rw [Int.neg_fmod_neg]; lia
  exact Ret.intro F5 (nsub N5 (b := (p2, tup2 (a.fdiv b) (a.fmod b) _ _) :: (A ++ T')) fun p' hp => by
    rcases List.mem_cons.mp hp with rfl | hp
    · rw [← f1, ← f2]; exact .head _
    · exact .tail _ (.tail _ hp)) ⟨p2, _, _, T', rfl, rfl, fun p' hp => Nat.ne_of_lt (allLt_get l5.2 p' hp), hT', hD'⟩
end
theorem prime12 : rw_ul0020_01.prog = rw_ul0020_01.prog ∧ KL = KL := by k_fill; exact ⟨rfl, rfl⟩
/-- a goal laid aside: no rule of the walk takes it -/
noncomputable def HoldK (P : Prop) : Prop := P
theorem HoldK.out {P : Prop} (h : HoldK P) : P := h
local macro_rules | `(tactic| walk_at "exec While") => `(tactic| refine HoldK.out ?_)
local macro_rules | `(tactic| walk_at "exec While Compare") => `(tactic| refine HoldK.out ?_)
local macro_rules | `(tactic| walk_at "exec While BoolOp") => `(tactic| refine HoldK.out ?_)
section
variable {prog : Program} {w : World} {A : Around} {E : Value → Shared → Prop} {s : Shared} {a b q r : Int} {t u : Tok} {Q : Value → Shared → Prop} {h₀ : Heap} {L : Addr} {m : Str → Option Value} {news : List (Addr × Obj)}
theorem divmod_to (F : Fr h₀ L s.heap m) (N : News h₀ L s.heap news) (hb : b ≠ 0) (hp : b.natAbs < 1073741824) (e1 : a.fdiv b = q) (e2 : a.fmod b = r)
    (h : ∀ p h', Fr h₀ L h' m → News h₀ L h' ((p, tup2 q r s.toks (s.toks + 1)) :: news) → Q (.ref p) { s with toks := s.toks + 1 + 1, heap := h' }) :
    wpAny (model prog w) A (call (.builtin "divmod") [.int a t, .int b u]) Q E s := by
  subst e1 e2
  exact divmod_N F N hb (fun h' F' N' => h _ h' F' N') (Or.inl (PyProof.noPylong_small hp))
end
local macro_rules | `(tactic| walk_at "call builtin:divmod") => `(tactic| (k_here; k_dflt (refine' divmod_to ?k1 ?k2 ?k3 ?k4 ?k5 ?k6 ?_; (case k1 => k_asm); (case k2 => k_asm); (case k3 => decide); (case k4 => decide); (case k5 => assumption); (case k6 => assumption)); intro _ _ _ _; (try k_sweep)))
local macro_rules | `(tactic| walk_at "binaryOp Add bytes bytes") => `(tactic| (refine KBy.add_bytes (by first | assumption | lia) ?_; intro _ _))
/-- the letters of a number -/
noncomputable def apL (x : Nat) : List UInt8 := if h : x = 0 then [] else apL (x / 16) ++ [UInt8.ofNat (65 + x % 16)]
theorem apL_zero : apL 0 = [] := by unfold apL; rfl
theorem apL_pos {x : Nat} (h : x ≠ 0) : apL x = apL (x / 16) ++ [UInt8.ofNat (65 + x % 16)] := by rw [apL, dif_neg h]
theorem apL_len : ∀ (k : Nat) {x : Nat}, x < 16 ^ k → (apL x).length ≤ k := by
  intro k
  induction k with
  | zero =>
    intro x hx
    have : x = 0 := by lia
    subst this
    rw [apL_zero]; exact Nat.le_refl _
  | succ k ih =>
    intro x hx
    by_cases h : x = 0
    · subst h; rw [apL_zero]; exact Nat.zero_le _
    · rw [apL_pos h, List.length_append]
      have := ih (x := x / 16) (by rw [Nat.div_lt_iff_lt_mul (by decide)]; rw [Nat.pow_succ] at hx; exact hx)
      simp only [List.length_singleton]
      lia
noncomputable abbrev AP16 : Array UInt8 := #[65, 66, 67, 68, 69, 70, 71, 72, 73, 74, 75, 76, 77, 78, 79, 80]
theorem ap_pick : ∀ d : Fin 16, KBy.whole AP16 (some (d.val : Int)) (some ((d.val : Int) + 1)) = false ∧ KBy.picked AP16 (some (d.val : Int)) (some ((d.val : Int) + 1)) = #[UInt8.ofNat (65 + d.val)] := by decide +kernel
section
variable {prog : Program} {w : World} {A : Around} {E : Value → Shared → Prop} {s : Shared} {t t1 t2 : Tok} {Q : Value → Shared → Prop} {h₀ : Heap} {L : Addr} {m : Str → Option Value} {news : List (Addr × Obj)} {value slice : PySem.Expr}
theorem ap_slice {d : Nat} (hd : d < 16) (F : Fr h₀ L s.heap m) (N : News h₀ L s.heap news)
    (h : ∀ h' t' k, Fr h₀ L h' m → News h₀ L h' news → Q (.bytes #[UInt8.ofNat (65 + d)] t') { s with heap := h', toks := k })
    (hs : subscripted slice false (.bytes AP16 t) (.ref s.heap.objs.size) = operate [.ref s.heap.objs.size, .bytes AP16 t] (getItem (.bytes AP16 t) (.ref s.heap.objs.size)) := by with_unfolding_all rfl)
    (ht : ∀ r, letTemporaryGo value (.bytes AP16 t) r = pure () := by intro _; with_unfolding_all rfl) :
    wpAny (model prog w) A (subscriptTail value slice (.bytes AP16 t) (.ref s.heap.objs.size)) Q E { s with heap := s.heap.push { cls := .type "slice", data := .fields #[.int (d : Int) t1, .int ((d : Int) + 1) t2, .none] } } := by
  obtain ⟨h1, h2⟩ := ap_pick ⟨d, hd⟩
  refine KBy.slice_N F N (.int _ _) (.int _ _) h1 (by rw [h2]; exact (by decide : 1 ≤ 16777216)) (fun h' t' k F' N' => ?_) hs ht
  rw [h2]
  exact h h' t' k F' N'
end
section
variable {w : World} {mean : ExcName → Option Value} {mg mb : Str → Option Value}
noncomputable def InvAp (x : Nat) (n0 : List (Addr × Obj)) (n : Nat) (m : Str → Option Value) (news : List (Addr × Obj)) : Prop :=
  ∃ (arr : Array UInt8) (t1 t2 t3 : Tok), news = n0 ∧ m (S "num") = some (.int (n : Int) t1) ∧ m (S "val") = some (.bytes arr t2) ∧ m (S "AP") = some (.bytes AP16 t3) ∧ apL x = apL n ++ arr.toList
set_option maxRecDepth 100000 in
set_option maxHeartbeats 8000000 in
theorem spec_ap (x : Int) (t1 : Tok) (news : List (Addr × Obj)) (hx : x.natAbs < 16 ^ 100) :
    Spec w mean mg mb (.ref 127) [.int x t1] 2 30 news (fun r n => (∃ t, r = .bytes (apL x.natAbs).toArray t) ∧ n = news) := by
  refine spec_def (nm := nL14) (ar := aL14) (bd := bL14) (sc := sL14) (c := 126) (binds := [(S "num", .int x t1)]) rfl rfl rfl rfl ?_ rfl rfl rfl rfl (by decide) (by decide)
  intro dp un gd outer A₀ base g L' h₁ s B F N G lt hd hu
  obtain ⟨X, T0, C⟩ := G
  dsimp only [bL14, sL14, S] at *
  k_steps
  unfold HoldK
  rename Fr _ _ _ _ => F2
  rename News _ _ _ _ => N2
  have hx0 : (if x < 0 then -x else x) = ((x.natAbs : Nat) : Int) := by split <;> lia
  rw [hx0] at F2
  refine While_inv2 (InvAp x.natAbs news) F2 N2 (n₀ := x.natAbs) ⟨#[], _, _, _, rfl, rfl, rfl, rfl, by simp⟩ ?_
  clear F2 N2
  rintro z m news₁ h2 tk2 F2 N2 ⟨arr, tz, tv, tp, rfl, mz, mv, mp, happ⟩
  have e1 : ((z : Nat) : Int).fdiv 16 = ((z / 16 : Nat) : Int) := fdiv_nat z 16
  have e2 : ((z : Nat) : Int).fmod 16 = ((z % 16 : Nat) : Int) := fmod_nat z 16
  have hd16 : z % 16 < 16 := Nat.mod_lt _ (by decide)
  have hsz : (#[UInt8.ofNat (65 + z % 16)] : Array UInt8).size + arr.size ≤ 16777216 := by
    have h1 := apL_len 100 hx
    have h3 : (apL x.natAbs).length = (apL z).length + arr.toList.length := by rw [happ, List.length_append]
    have h4 : arr.size = arr.toList.length := Array.length_toList.symm
    have h5 : (#[UInt8.ofNat (65 + z % 16)] : Array UInt8).size = 1 := rfl
    lia
  k_steps
  · rename Fr _ _ _ _ => F3
    rename News _ _ _ _ => N3
    refine ap_slice (s := ⟨_, _, _, _, _⟩) hd16 F3 N3 (fun h' t' k F4 N4 => ?_)
    clear F3 N3
    k_steps
    rename Fr _ _ _ _ => F5
    rename News _ _ _ _ => N5
    have hzne : z ≠ 0 := by lia
    exact ⟨_, _, _, news₁, z / 16, rfl, F5, nsub N5 (fun p hp => .tail _ hp), by lia, #[UInt8.ofNat (65 + z % 16)] ++ arr, _, _, tp, rfl, rfl, rfl, mp, by rw [happ, apL_pos hzne]; simp⟩
  · have hz : z = 0 := by lia
    subst hz
    (show Ret _ _ _ _ _ _; first | refine Ret.intro (by k_asm) (by k_asm) ?_ | refine Ret.fall (by k_asm) (by k_asm) ?_)
    refine ⟨⟨_, congrArg (Value.bytes · _) ?_⟩, rfl⟩
    rw [happ, apL_zero, List.nil_append]
end
theorem prime13 : rw_ul0020_01.prog = rw_ul0020_01.prog ∧ KL = KL := by k_fill; exact ⟨rfl, rfl⟩
section
variable {w : World} {mean : ExcName → Option Value} {mg mb : Str → Option Value}
theorem sliceK3 {prog : Program} {w : World} {A : Around} {E : Value → Shared → Prop} {s : Shared} {value slice : PySem.Expr} {l : Addr} {h₀ : Heap} {L : Addr} {m : Str → Option Value} {news : List (Addr × Obj)} {us : List Value} {ns : List Int} {vl vu : Value} {lo hi : Option Int} {st : Int} {t : Tok} {ops : List Value} {Q : Value → Shared → Prop}
    (F : Fr h₀ L s.heap m) (N : News h₀ L s.heap news) (hl : s.heap.IsList l us.toArray) (hi' : IntsAre us ns) (pl : IsPart vl lo) (pu : IsPart vu hi) (h0 : st ≠ 0) (hz : us.length ≤ 10000000)
    (h : ∀ D ws h', Fr h₀ L h' m → News h₀ L h' ((D, listOf ws.toArray 0) :: news) → (∀ p ∈ news, p.1 < D) → IntsAre ws (pickNums ns lo hi (some st)) → Q (.ref D) { s with heap := h' })
    (hs : subscripted slice false (.ref l) (.ref s.heap.objs.size) = operate ops (getItem (.ref l) (.ref s.heap.objs.size))) (ht : ∀ r, letTemporaryGo value (.ref l) r = pure ()) :
    wpAny (model prog w) A (subscriptTail value slice (.ref l) (.ref s.heap.objs.size)) Q E { s with heap := s.heap.push { cls := .type "slice", data := .fields #[vl, vu, .int st t] } } :=
  kmk_slice3_lit F N hl pl pu (IsPart.int _ _) (by simpa using h0) rfl (fun D h' F' N' l1 => h D _ h' F' N' l1 (hi'.pick lo hi (some st))) hs ht (by rw [sizeLine_eq]; simp only [List.size_toArray]; lia)
/-- what a cell of the script tells -/
noncomputable def cellV (ns : List Int) (place : Nat) (st start : Int) : Int := start + (pickNums ns (some (place : Int)) none (some st)).sum
set_option maxRecDepth 100000 in
set_option maxHeartbeats 8000000 in
theorem cell_K (l : Addr) (us : List Value) (ns : List Int) (place : Nat) (start : Int) (t1 t2 : Tok) {news : List (Addr × Obj)} {dp un : Nat} {gd : Option (List Code)} {cn : Str} {cs : Scope} {a : Addr} {ccd : Value} {cl : List (Str × Addr)} {outer : List Env} {A₀ : Around} {base h₀ : Heap} {L : Addr} {m : Str → Option Value} {s : Shared} {Q E : Value → Shared → Prop}
    (B : Below A₀ base outer h₀) (F : Fr h₀ L s.heap m) (N : News h₀ L s.heap news) (X : (KL w.params).In h₀) (T : Top topProg looseL mean mg mb h₀) (C : HdOk h₀) (hk : cs.kind = .function) (hd : dp + 2 < recursionLimit) (hu : un + 30 < cLine)
    (hl : h₀.IsList l us.toArray) (hi : IntsAre us ns) (hz : us.length ≤ 10000000)
    (h : ∀ t h' tk', Fr h₀ L h' m → News h₀ L h' news → Q (.int (cellV ns place 7 start) t) { s with heap := h', toks := tk' }) :
    wpAny (ML w) (ktrTop dp un gd cn cs L a ccd cl outer) (call (.ref 134) [.ref l, .int place t1, .int start t2]) Q E s := by
  refine wpAny_call ?_
  refine callX_plain (cl := []) (name := nL16) (qual := nL16) (params := aL16) (body := bL16) (scope := sL16) (dV := .none) (kV := .none) (doc := .none) (an := none) (ct := .none) (cdv := .ref 133) (binds := [(S "script", .ref l), (S "place", .int place t1), (S "start", .int start t2)]) B F N T.nolimit rfl rfl hk ((X.keeps F.keep) _ _ rfl) rfl (codeRec_of (X.keeps F.keep) rfl) (by show dp < recursionLimit; lia) (BindsTo.of_eq rfl) (locs rfl) ?_ (fun x hx => by have := List.all_eq_true.mp (rfl : (sL16.names.all fun x => x.2 != .cell) = true) x hx; simpa using this) rfl rfl rfl
  intro g L' h₁ FG F' N' B' st lt
  have hl' : g.IsList l us.toArray := stays_list st hl
  refine wpAny_mono (Q := Ret s g L' (fun r n' => (∃ t', r = .int (cellV ns place 7 start) t') ∧ n' = news)) (E := noE) ?_ (fun fl s' hr => ?_) (fun _ _ x => x.elim)
  · have X := X.keeps st
    have T := T.keeps st
    have C := C.keeps st
    clear F N hl B
    change wpAny (ML w) (ktrTop (dp + 1) (un + 3) gd nL16 sL16 L' 134 (.ref 133) [] (envX cn cs L a ccd cl :: outer)) _ _ _ _
    generalize envX cn cs L a ccd cl :: outer = outer' at *
    dsimp only [bL16, sL16, S] at *
    k_steps
    rename Fr _ _ _ _ => F3
    rename News _ _ _ _ => N3
    refine sumK rfl F3 N3 (vs := (slicePick us.toArray (some (place : Int)) none (some 7)).toList) ⟨_, (N3 _ (.head _)).1, rfl, 0, rfl⟩ (hi.pick _ _ _) fun h' tk t' F4 N4 => ?_
    clear F3 N3
    k_steps
    exact Ret.intro F4 (nsub N4 fun p hp => .tail _ hp) ⟨⟨_, rfl⟩, rfl⟩
  · obtain ⟨m', news', h', tk', rfl, F2, N2, ⟨t', hr⟩, rfl⟩ := hr
    cases fl with
    | ret v =>
      replace hr : v = _ := hr
      subst hr
      exact leaveK_ F2 N2 fun F3 N3 => h _ _ _ F3 N3
    | next => cases hr
    | brk => cases hr
    | cont => cases hr
end
noncomputable abbrev alphL : List Int := [0, 1, 2, 4, 7, 8, 9, 10, 11, 12]
noncomputable abbrev unseenL : List Int := [173, 847, 6150, 6155, 6156, 6157, 8203, 8204, 8205, 8288, 65279] ++ rangeKs 65024 16
/-- the signs of one number in the alphabet al, k signs, with what is strewn among them -/
noncomputable def textNum (al n : Nat) : Nat → Nat → List Nat × Nat
  | 0, st => ([], st)
  | k + 1, st => ((119808 + 52 * al + n / 16 ^ k % 16) :: ((if 0 < st % 28 then [(unseenL.getD (st % 28 - 1) 0).toNat] else []) ++ (textNum al n k (st / 28)).1), (textNum al n k (st / 28)).2)
/-- the places of a number to the base 16 -/
noncomputable def hexK (n : Nat) : Nat := (Builtin.Int.intBits (n : Int) - 1) / 4 + 1
/-- the signs of a row -/
noncomputable def textRow : Nat → Nat → Nat → List Nat → List Nat
  | _, _, _, [] => []
  | at_, order, st, n :: r =>
    let at' := (at_ + 1 + order % 9) % 10
    let x := textNum (alphL.getD at' 0).toNat n ((Builtin.Int.intBits (n : Int) - 1) / 4 + 1) st
    x.1 ++ textRow at' (order / 9) x.2 r
theorem alph_nat : ∀ a : Fin 10, alphL.getD a.val 0 = ((alphL.getD a.val 0).toNat : Int) ∧ (alphL.getD a.val 0).toNat ≤ 12 := by decide
theorem unseen_nat : ∀ a : Fin 27, unseenL.getD a.val 0 = ((unseenL.getD a.val 0).toNat : Int) ∧ (unseenL.getD a.val 0).toNat ≤ 1114111 := by decide
/-- the figures of a number to the base 16, the highest first -/
noncomputable def hexd (n : Nat) : Nat → List Nat
  | 0 => []
  | k + 1 => (n / 16 ^ k % 16) :: hexd n k
theorem hexd_len (n : Nat) : ∀ k, (hexd n k).length = k
  | 0 => rfl
  | k + 1 => by rw [hexd, List.length_cons, hexd_len n k]
theorem hexd_lt (n : Nat) : ∀ k, ∀ d ∈ hexd n k, d < 16
  | 0, _, h => nomatch h
  | k + 1, d, h => by
    rcases List.mem_cons.mp h with rfl | h
    · exact Nat.mod_lt _ (by decide)
    · exact hexd_lt n k d h
theorem hexd_snoc (n : Nat) : ∀ k, hexd n (k + 1) = hexd (n / 16) k ++ [n % 16]
  | 0 => by simp [hexd]
  | k + 1 => by
    rw [hexd, hexd_snoc n k, hexd, Nat.div_div_eq_div_mul, ← Nat.pow_succ']
    rfl
theorem apL_hexd : ∀ (k n : Nat), (k = 0 ∨ 16 ^ (k - 1) ≤ n) → n < 16 ^ k → apL n = (hexd n k).map fun d => UInt8.ofNat (65 + d)
  | 0, n, _, h => by
    have : n = 0 := by simpa using h
    subst this
    rw [apL_zero]; rfl
  | k + 1, n, h1, h2 => by
    have h1' : 16 ^ k ≤ n := by
      rcases h1 with h1 | h1
      · cases h1
      · exact h1
    have h0 : n ≠ 0 := by have := Nat.pow_pos (n := k) (by decide : 0 < 16); lia
    rw [apL_pos h0, hexd_snoc, List.map_append, apL_hexd k (n / 16) ?_ ?_]
    · rfl
    · rcases k with _ | k
      · exact .inl rfl
      · right
        rw [Nat.le_div_iff_mul_le (by decide)]
        rw [Nat.pow_succ] at h1'
        exact h1'
    · rw [Nat.div_lt_iff_lt_mul (by decide)]
      rw [Nat.pow_succ] at h2
      exact h2
theorem hexK_ok {n : Nat} (h0 : 0 < n) : 16 ^ (hexK n - 1) ≤ n ∧ n < 16 ^ hexK n := by
  have hb : Builtin.Int.intBits (n : Int) ≤ Builtin.Int.intBits (n : Int) := Nat.le_refl _
  have h2 : n < 2 ^ Builtin.Int.intBits (n : Int) := PySem.intBits_le_iff.mp hb
  have hpos : 0 < Builtin.Int.intBits (n : Int) := by
    rcases Nat.eq_zero_or_pos (Builtin.Int.intBits (n : Int)) with e | e
    · rw [e] at h2; simp only [Nat.pow_zero] at h2; lia
    · exact e
  have h3 : 2 ^ (Builtin.Int.intBits (n : Int) - 1) ≤ n := by
    refine Nat.not_lt.mp fun hl => ?_
    have := PySem.intBits_le_iff.mpr (show ((n : Nat) : Int).natAbs < 2 ^ (Builtin.Int.intBits (n : Int) - 1) from hl)
    lia
  unfold hexK
  generalize Builtin.Int.intBits (n : Int) = b at *
  have p16 : ∀ k, 16 ^ k = 2 ^ (4 * k) := fun k => by rw [Nat.pow_mul]
  refine ⟨Nat.le_trans ?_ h3, Nat.lt_of_lt_of_le h2 ?_⟩
  · rw [p16]; exact Nat.pow_le_pow_right (by decide) (by lia)
  · rw [p16]; exact Nat.pow_le_pow_right (by decide) (by lia)
theorem ap_hex {n : Nat} (h0 : 0 < n) : apL n = (hexd n (hexK n)).map fun d => UInt8.ofNat (65 + d) := apL_hexd _ _ (.inr (hexK_ok h0).1) (hexK_ok h0).2
theorem dval_hexd (n : Nat) : ∀ k, dval 4 ((hexd n k).map fun d : Nat => (d : Int)).reverse = ((n % 16 ^ k : Nat) : Int)
  | 0 => by rw [Nat.pow_zero, Nat.mod_one]; rfl
  | k + 1 => by
    rw [hexd, List.map_cons, List.reverse_cons, dval_append, dval_hexd n k, List.length_reverse, List.length_map, hexd_len, Nat.mod_pow_succ]
    have e : (2 : Int) ^ (k * 4) = ((16 ^ k : Nat) : Int) := by rw [Nat.mul_comm, Int.pow_mul]; norm_cast
    rw [e]
    show _ + (((n / 16 ^ k % 16 : Nat) : Int) + 0 * _) * _ = _
    rw [Int.zero_mul, Int.add_zero, Int.natCast_add, Int.natCast_mul, Int.mul_comm]
theorem dval_hex {n : Nat} (h0 : 0 < n) : dval 4 ((hexd n (hexK n)).map fun d : Nat => (d : Int)).reverse = (n : Int) := by
  rw [dval_hexd, Nat.mod_eq_of_lt (hexK_ok h0).2]
section
variable {prog : Program} {w : World} {A : Around} {E : Value → Shared → Prop} {s : Shared} {h₀ : Heap} {L D : Addr} {m : Str → Option Value} {news news' : List (Addr × Obj)} {us : List Value} {n : Nat} {x v : Value} {t : Tok}
theorem setAt_last {l : Addr} {items : List Value} {Q : Unit → Shared → Prop} (ho : s.heap.get? l = some (listOf (items ++ [x]).toArray n))
    (hQ : Q () { s with heap := s.heap.update l (Obj.mapSeq (·.setIfInBounds items.length v)) }) : wpAny (model prog w) A (setItem (.ref l) (.int (-1) t) v) Q E s := by
  have hl : s.heap.IsList l (items ++ [x]).toArray := PySem.IsL.isList (n := n) ho
  unfold setItem
  try with_reducible refine wpAny_holding ?_
  first | refine wpAny_bind (wpAny_pure ?_) | skip
  refine wpAny_bind (wpAny_sequenceKey hl.typeIs (by decide) ?_)
  refine wpAny_bind (wpAny_callSpecial?_slot (name := Str.ofString "__setitem__") hl.typeIs slot_list_setitem
    (wpAny_call_entry slot_list_setitem hl.typeIs entry_list_setitem ?_ (args_list_setitem _ _ _)))
  show wpAny _ _ (Builtin.List.listSubscript? (.int (-1) t) >>= _) _ _ s
  refine wpAny_bind (wpAny_listSubscript_int (fitsIndex_neg (by decide) (by decide)) ?_)
  have hidx : seqIndex? (-1) (items ++ [x]).toArray.size = some items.length := by
    rw [seqIndex_neg (by decide) (by simp; lia)]
    congr 1
    simp
    lia
  show wpAny _ _ ((Builtin.List.listItems (.ref l) >>= fun xs => pure ((seqIndex? (Int.negSucc 0) xs.size).bind fun i => xs[i]?.map (i, ·))) >>= _) _ _ s
  refine wpAny_bind (wpAny_bind ?_)
  show wpAny _ _ (seqItems? (.ref l) >>= _) _ _ s
  obtain ⟨o, ho', hc, ne, hd⟩ := id hl
  refine wpAny_bind (wpAny_seqItems ho' hd (wpAny_pure (wpAny_pure ?_)))
  rw [show Int.negSucc 0 = -1 from rfl, hidx]
  have hx : (items ++ [x]).toArray[items.length]? = some x := by simp
  simp only [Option.bind_some, hx, Option.map_some]
  show wpAny _ _ (setSeqItemAt l items.length v >>= _) _ _ s
  refine wpAny_bind (wpAny_setSeqItemAt ho' hd ?_)
  first
    | exact wpAny_bind (wpAny_pure (wpAny_pure ⟨.none, rfl, wpAny_pure hQ⟩))
    | exact wpAny_pure ⟨.none, rfl, wpAny_pure hQ⟩
theorem set_last {Q : Unit → Shared → Prop} (F : Fr h₀ L s.heap m) (N : News h₀ L s.heap news) (U : Upd D (listOf (us ++ [x]).toArray n) (listOf (us ++ [v]).toArray n) news news')
    (h : ∀ h', Fr h₀ L h' m → News h₀ L h' news' → Q () { s with heap := h' }) : wpAny (model prog w) A (setItem (.ref D) (.int (-1) t) v) Q E s := by
  obtain ⟨pre, post, rfl, rfl, a, b⟩ := U.split
  have z := N (D, listOf (us ++ [x]).toArray n) (List.mem_append.mpr (.inr (.head _)))
  refine setAt_last z.1 (h _ (F.change (Heap.SameBut.update ..) z.2.1 z.2.2) (ki_turn _ N a b ?_ ?_))
  · apply Array.toList_inj.mp
    simp
  · simp
theorem get_last {value slice : PySem.Expr} {Q : Value → Shared → Prop} (N : News h₀ L s.heap news) (hm : (D, listOf (us ++ [v]).toArray n) ∈ news) (h : Q v s)
    (hs : subscripted slice false (.ref D) (.int (-1) t) = operate [.ref D, .int (-1) t] (getItem (.ref D) (.int (-1) t)) := by with_unfolding_all rfl) :
    wpAny (model prog w) A (subscriptTail value slice (.ref D) (.int (-1) t)) Q E s := by
  have hl : s.heap.IsList D (us ++ [v]).toArray := PySem.IsL.isList (n := n) (N _ hm).1
  refine tail_any hl.typeIs slot_list_getitem.lookup (wpAny_getItem_list_neg hl (by decide) (by simp; lia) (by decide) ?_ h) hs
  have e : ((-1 : Int) + ((us ++ [v]).toArray.size : Int)).toNat = us.length := by simp; lia
  rw [e]; simp
end
section
variable {prog : Program} {w : World} {A : Around} {E : Value → Shared → Prop} {s : Shared} {h₀ : Heap} {L : Addr} {m : Str → Option Value} {env : Env}
theorem compEnd_mono {I C D : Addr} {s₁ : Shared} {oI oC oD : Obj} {S : List (Addr × Obj) → Prop} {r r' : Value → List (Addr × Obj) → Prop} {y : Value} {s₂ : Shared} (k : ∀ n, r y n → r' y n) (h : LCg.CompEnd h₀ L m s₁ I oI C oC D oD S r y s₂) : LCg.CompEnd h₀ L m s₁ I oI C oC D oD S r' y s₂ :=
  let ⟨h', tk, n, e, F, N, o, hS, hr⟩ := h
  ⟨h', tk, n, e, F, N, o, hS, k _ hr⟩
/-- the turns of a comprehension, by what holds at the head of each -/
theorem compRest_ind {elt : PySem.Expr} {x : Str} {scope : Scope} {cl : List (Str × Addr)} {S : List (Addr × Obj) → Prop} {P : Nat → Value → Prop} {Fin : List Value → List (Addr × Obj) → Prop} {Inv : Nat → Nat → List Value → List (Addr × Obj) → Prop}
    (hend : ∀ i ys news, Inv 0 i ys news → Fin ys news)
    (hstep : ∀ k i ys news, Inv (k + 1) i ys news → ∀ v I oI C oC D m₂ h tk (E' : Value → Shared → Prop), P i v → LCg.NsObj oC m₂ → m₂ x = some v → Fr h₀ L h m → News h₀ L h ((I, oI) :: (C, oC) :: (D, LCg.lst ys) :: news) → LCg.Off3 I C D news → ((@Ne Nat I C) ∧ (@Ne Nat I D) ∧ (@Ne Nat C D)) →
      wpAny (model prog w) A (eval elt (compEnvC scope cl C env)) (LCg.CompEnd h₀ L m { s with heap := h, toks := tk } I oI C oC D (LCg.lst ys) S (fun y news' => Inv k (i + 1) (ys ++ [y]) news')) E' { s with heap := h, toks := tk }) :
    ∀ k i ys news, Inv k i ys news → LCg.CompRest prog w A h₀ L m env elt x scope cl s S P Fin k i ys news
  | 0, i, ys, news, hi => LCg.CompRest.zero (hend i ys news hi)
  | k + 1, i, ys, news, hi => LCg.CompRest.succ fun v I oI C oC D m₂ h tk E' hv hC hx F N off ne =>
      wpAny_mono (hstep k i ys news hi v I oI C oC D m₂ h tk E' hv hC hx F N off ne) (fun y s₂ hq => compEnd_mono (fun n hr => compRest_ind hend hstep k (i + 1) (ys ++ [y]) n hr) hq) fun _ _ e => e
theorem wide_st {I : Addr} {T : String} {y : Str} {t : Tok} : ∀ i (h h' : Heap) (o : Obj) (nw : List (Addr × Obj)), h.IsStrIter I T y t i → h.get? I = some o → h'.get? I = some o → (∀ b o, h₀.get? b = some o → h'.get? b = some o) → News h₀ L h' nw → True → h'.IsStrIter I T y t i :=
  fun i h h' o nw st e e' _ _ _ => by obtain ⟨o', q, r⟩ := st; rw [e] at q; cases q; exact ⟨o, e', r⟩
/-- the source of a comprehension over the signs of a text -/
noncomputable def StrSrc (prog : Program) (w : World) (A : Around) (h₀ : Heap) (L : Addr) (m : Str → Option Value) (env : Env) (elt : PySem.Expr) (x : Str) (scope : Scope) (cl : List (Str × Addr)) (Q : Value → Shared → Prop) (xv : Value) (s₁ : Shared) : Prop :=
  ∃ y t news, xv = .str y t ∧ A.handled = none ∧ Fr h₀ L s₁.heap m ∧ News h₀ L s₁.heap news ∧ y.cps.size ≤ sizeLine ∧
      ∀ g : Heap, LCg.CompRest prog w A h₀ L m env elt x scope cl { s₁ with heap := g } (fun _ => True) (SignAt y) (LCg.FinE h₀ L m { s₁ with heap := g } Q) y.cps.size 0 [] news
theorem StrSrc.intro {elt : PySem.Expr} {x : Str} {scope : Scope} {cl : List (Str × Addr)} {Q : Value → Shared → Prop} {s₁ : Shared} {y : Str} {t : Tok} {news : List (Addr × Obj)} (hh : A.handled = none) (F : Fr h₀ L s₁.heap m) (N : News h₀ L s₁.heap news) (hsz : y.cps.size ≤ 100000)
    (h : ∀ g : Heap, LCg.CompRest prog w A h₀ L m env elt x scope cl { s₁ with heap := g } (fun _ => True) (SignAt y) (LCg.FinE h₀ L m { s₁ with heap := g } Q) y.cps.size 0 [] news) : StrSrc prog w A h₀ L m env elt x scope cl Q (.str y t) s₁ :=
  ⟨y, t, news, rfl, hh, F, N, Nat.le_trans hsz (by rw [sizeLine_eq]; decide), h⟩
/-- a comprehension over the signs of a text -/
theorem ListComp_S {elt iter : PySem.Expr} {x : Str} {px : Pos} {scope : Scope} {cl : List (Str × Addr)} {pos : Pos} {Q : Value → Shared → Prop} (F₀ : Fr h₀ L s.heap m)
    (hclos : closureFor scope env = pure cl) (hcell : ∀ y ∈ scope.names, y.2 ≠ .cell) (hkind : scope.kind = .function)
    (hnames : ∀ y ∈ scope.names, y.2 = .local → scope.names.lookup y.1 = some .local) (hx : scope.names.lookup x = some .local)
    (h : wpAny (model prog w) A (eval iter env) (StrSrc prog w A h₀ L m env elt x scope cl Q) E s)
    (hs : ∀ x, foldedSetIterable iter env x = pure x := by intro _; rfl) :
    wpAny (model prog w) A (eval (.ListComp elt [⟨.Name x px, iter, [], 0⟩] scope pos) env) Q E s := by
  rw [eval_ListComp]
  refine wpAny_comprehension_free (use := none) rfl hs hclos hkind hnames (wpAny_mono h (fun xv s₁ h₁ => ?_) fun _ _ e => e)
  obtain ⟨y, t, news, rfl, hh, F, N, hsz, R⟩ := h₁
  cases ha : y.cps.all (· < 128)
  · refine wpAny_pyIter_wide ha ?_
    refine LCg.block_U (Walks.strWide hh s₁.heap.objs.size y t) hsz (fun i h st => let ⟨o, e, _⟩ := st; ⟨o, e⟩) wide_st hcell hkind hx ⟨_, Heap.get?_push_size _ rfl, rfl, rfl⟩ (fun b hb => ?_)
      (F.keeps fun _ _ e => Heap.get?_push_of_some _ e) (N.grown fun _ _ e => Heap.get?_push_of_some _ e) (Nat.ne_of_lt F.ns.lt) (next_is_new F) (fun p hp => Nat.ne_of_lt (Heap.lt_size (N p hp).1)) trivial (R _) ?_
    · rw [List.mem_singleton.mp hb]
      show s₁.heap.objs.size < (s₁.heap.push _).objs.size
      rw [Heap.size_push]; exact Nat.lt_succ_self _
    · intro D C h tk m' ys news' F' N' o1 hn hC₀ hD₀ hCL hDL hCD offC fin
      refine ⟨m', hn, fun h'' hs'' => fin D h'' tk (F'.change hs'' hCL hC₀) (fun p hp => ?_) o1⟩
      refine ⟨hs''.extBut _ _ ?_ (N' p hp).1, (N' p hp).2⟩
      rcases List.mem_cons.mp hp with rfl | hp
      · exact Ne.symm hCD
      · exact offC p hp
  · refine wpAny_pyIter_ascii ha ?_
    refine LCg.block_U (Walks.strAscii hh s₁.heap.objs.size y t) hsz (fun i h st => let ⟨o, e, _⟩ := st; ⟨o, e⟩) wide_st hcell hkind hx ⟨_, Heap.get?_push_size _ rfl, rfl, rfl⟩ (fun b hb => ?_)
      (F.keeps fun _ _ e => Heap.get?_push_of_some _ e) (N.grown fun _ _ e => Heap.get?_push_of_some _ e) (Nat.ne_of_lt F.ns.lt) (next_is_new F) (fun p hp => Nat.ne_of_lt (Heap.lt_size (N p hp).1)) trivial (R _) ?_
    · rw [List.mem_singleton.mp hb]
      show s₁.heap.objs.size < (s₁.heap.push _).objs.size
      rw [Heap.size_push]; exact Nat.lt_succ_self _
    · intro D C h tk m' ys news' F' N' o1 hn hC₀ hD₀ hCL hDL hCD offC fin
      refine ⟨m', hn, fun h'' hs'' => fin D h'' tk (F'.change hs'' hCL hC₀) (fun p hp => ?_) o1⟩
      refine ⟨hs''.extBut _ _ ?_ (N' p hp).1, (N' p hp).2⟩
      rcases List.mem_cons.mp hp with rfl | hp
      · exact Ne.symm hCD
      · exact offC p hp
theorem unrPostW_mono {its : List (Addr × Obj)} {s₁ : Shared} {r r' : (Str → Option Value) → List (Addr × Obj) → Prop} {Q : Flow → Shared → Prop} {f : Flow} {s₂ : Shared} (k : ∀ m n, r m n → r' m n) (h : UnrPostW h₀ L s₁ its r Q f s₂) : UnrPostW h₀ L s₁ its r' Q f s₂ := by
  have end' : UnrEndW h₀ L s₁ its r s₂ → UnrEndW h₀ L s₁ its r' s₂ := fun ⟨h', tk, m', news', e, F, N, off, hr⟩ => ⟨h', tk, m', news', e, F, N, off, k _ _ hr⟩
  cases f with
  | ret v => exact h
  | brk => exact h
  | next => exact end' h
  | cont => exact end' h
/-- the turns over a tuple, by what holds at the head of each -/
theorem tup_ind {I : Addr} {tp : Addr × Obj} {target : PySem.Expr} {body : List Stmt} {Q : Flow → Shared → Prop} {Inv : List Value → (Str → Option Value) → List (Addr × Obj) → Prop}
    (hend : ∀ m news, Inv [] m news → ∀ h tk, Fr h₀ env.locals h m → News h₀ env.locals h news → Q .next { s with heap := h, toks := tk })
    (hstep : ∀ v r m news, Inv (v :: r) m news → ∀ (it : Obj) h tk, it.cls = .type "tuple_iterator" → Fr h₀ env.locals h m → News h₀ env.locals h ((I, it) :: news) →
      wpAny (model prog w) A (assign target env v) (fun _ s₂ => wpAny (model prog w) A (execs body env) (UnrPostW h₀ env.locals { s with heap := h, toks := tk } [(I, it)] (fun m' n' => tp ∈ n' ∧ Inv r m' n') Q) E s₂) E { s with heap := h, toks := tk }) :
    ∀ vs m news, Inv vs m news → ItemsRest prog w A E h₀ env target body Q s [(I, "tuple_iterator")] [tp] (vs.map .val) m news
  | [], m, news, hi => ItemsRest.zero (hend m news hi)
  | v :: r, m, news, hi => ItemsRest.val fun h tk F => AllObj.cons fun o ho => AllObj.nil fun N =>
      wpAny_mono (hstep v r m news hi o h tk ho F N) (fun _ s₂ hp => wpAny_mono hp (fun f s₃ hq => unrPostW_mono (fun m' n' hr => ⟨⟨hr.1, trivial⟩, tup_ind hend hstep r m' n' hr.2⟩) hq) fun _ _ e => e) fun _ _ e => e
end
theorem size_ok {vs : List Value} (hz : vs.length ≤ 100000) : vs.toArray.size ≤ sizeLine := by
  rw [List.size_toArray]
  exact Nat.le_trans hz (by rw [sizeLine_eq]; decide)
section
variable {prog : Program} {w : World} {A : Around} {E : Value → Shared → Prop} {s : Shared} {h₀ : Heap} {L l : Addr} {m : Str → Option Value} {news : List (Addr × Obj)} {value slice : PySem.Expr} {vs : List Value} {ns : List Int} {n : Nat} {Q : Value → Shared → Prop}
theorem slice_from {k : Nat} {t : Tok} (F : Fr h₀ L s.heap m) (N : News h₀ L s.heap news) (hl : (l, listOf vs.toArray n) ∈ news) (hi' : IntsAre vs ns) (hz : vs.length ≤ 100000)
    (h : ∀ D ws h', Fr h₀ L h' m → News h₀ L h' ((D, listOf ws.toArray 0) :: news) → (∀ p ∈ news, p.1 < D) → IntsAre ws (ns.drop k) → Q (.ref D) { s with heap := h' })
    (hs : subscripted slice false (.ref l) (.ref s.heap.objs.size) = operate [.ref s.heap.objs.size, .ref l] (getItem (.ref l) (.ref s.heap.objs.size))) (ht : ∀ r, letTemporaryGo value (.ref l) r = pure ()) :
    wpAny (model prog w) A (subscriptTail value slice (.ref l) (.ref s.heap.objs.size)) Q E { s with heap := s.heap.push { cls := .type "slice", data := .fields #[.int (k : Int) t, .none, .none] } } :=
  kmk_slice_ints (c := (ns.drop k).length) F N (PySem.IsL.isList (n := n) (N _ hl).1) (.int _ _) .none hi' (kmk_from hi' (by lia : (0 : Int) ≤ (k : Int))) (by rw [Int.toNat_natCast]) (fun D ws h' F' N' l1 hw _ _ => h D ws h' F' N' l1 (by rw [Int.toNat_natCast] at hw; exact hw)) hs ht (size_ok hz)
theorem slice_upto {k : Nat} {t : Tok} (F : Fr h₀ L s.heap m) (N : News h₀ L s.heap news) (hl : (l, listOf vs.toArray n) ∈ news) (hi' : IntsAre vs ns) (hz : vs.length ≤ 100000)
    (h : ∀ D ws h', Fr h₀ L h' m → News h₀ L h' ((D, listOf ws.toArray 0) :: news) → (∀ p ∈ news, p.1 < D) → IntsAre ws (ns.take k) → Q (.ref D) { s with heap := h' })
    (hs : subscripted slice false (.ref l) (.ref s.heap.objs.size) = operate [.ref s.heap.objs.size, .ref l] (getItem (.ref l) (.ref s.heap.objs.size))) (ht : ∀ r, letTemporaryGo value (.ref l) r = pure ()) :
    wpAny (model prog w) A (subscriptTail value slice (.ref l) (.ref s.heap.objs.size)) Q E { s with heap := s.heap.push { cls := .type "slice", data := .fields #[.none, .int (k : Int) t, .none] } } :=
  kmk_slice_ints (c := (ns.take k).length) F N (PySem.IsL.isList (n := n) (N _ hl).1) .none (.int _ _) hi' (kmk_upto hi' (by lia : (0 : Int) ≤ (k : Int))) (by rw [Int.toNat_natCast]) (fun D ws h' F' N' l1 hw _ _ => h D ws h' F' N' l1 (by rw [Int.toNat_natCast] at hw; exact hw)) hs ht (size_ok hz)
theorem slice_run {a b : Nat} {t u : Tok} (hb : b ≤ ns.length) (F : Fr h₀ L s.heap m) (N : News h₀ L s.heap news) (hl : (l, listOf vs.toArray n) ∈ news) (hi' : IntsAre vs ns) (hz : vs.length ≤ 100000)
    (h : ∀ D ws h', Fr h₀ L h' m → News h₀ L h' ((D, listOf ws.toArray 0) :: news) → (∀ p ∈ news, p.1 < D) → IntsAre ws ((ns.drop a).take (b - a)) → Q (.ref D) { s with heap := h' })
    (hs : subscripted slice false (.ref l) (.ref s.heap.objs.size) = operate [.ref s.heap.objs.size, .ref l] (getItem (.ref l) (.ref s.heap.objs.size))) (ht : ∀ r, letTemporaryGo value (.ref l) r = pure ()) :
    wpAny (model prog w) A (subscriptTail value slice (.ref l) (.ref s.heap.objs.size)) Q E { s with heap := s.heap.push { cls := .type "slice", data := .fields #[.int (a : Int) t, .int (b : Int) u, .none] } } := by
  have e := kmk_run hi' (by lia : (0 : Int) ≤ (a : Int)) (by lia : (0 : Int) ≤ (b : Int))
  rw [Int.toNat_natCast, Int.toNat_natCast, Nat.min_eq_left hb] at e
  exact kmk_slice_ints (c := ((ns.drop a).take (b - a)).length) F N (PySem.IsL.isList (n := n) (N _ hl).1) (.int _ _) (.int _ _) hi' e rfl (fun D ws h' F' N' l1 hw _ _ => h D ws h' F' N' l1 hw) hs ht (size_ok hz)
theorem assign_K {env : Env} {x : Str} {px : Pos} {v : Value} {Q : Unit → Shared → Prop} (F : Fr h₀ env.locals s.heap m) (N : News h₀ env.locals s.heap news) (hy : env.kindOf x = some .local) (hp : (env.scope.kind == .class || (env.scope.kind == .module && env.locals != env.globals)) = false)
    (h : ∀ h', Fr h₀ env.locals h' (fun z => if z = x then some v else m z) → News h₀ env.locals h' news → Q () { s with heap := h', toks := s.toks + 1 }) : wpAny (model prog w) A (assign (.Name x px) env v) Q E s := by
  refine wpAny_assign_Name (wpAny_storeName_local hy F.ns (fun h₂ hn₂ hs₂ => ?_) hp)
  have hL₀ : h₀.get? env.locals = none := Heap.get?_none_of_le F.above
  exact h h₂ ⟨hn₂, fun b o e => hs₂.extBut b o (fun q => by rw [q, hL₀] at e; cases e) (F.keep b o e), F.above⟩ fun p hp => ⟨hs₂.extBut _ _ (N p hp).2.1 (N p hp).1, (N p hp).2⟩
theorem off1_mem {D : Addr} : ∀ {l : List (Addr × Obj)}, LCg.Off1 D l → ∀ p ∈ l, p.1 ≠ D
  | [], _, _, h => nomatch h
  | _ :: _, x, p, h => by
    rcases List.mem_cons.mp h with rfl | h
    · exact x.1
    · exact off1_mem x.2 p h
end
section
open PyProof.V PySem.Spec
/-- a written dict of ints to ints -/
inductive DispI : List (Option PySem.Expr) → List PySem.Expr → List (Int × Int) → Prop
  | nil : DispI [] [] []
  | cons {k v : Int} {kd vd : Nat} {kp vp : Pos} {ks : List (Option PySem.Expr)} {vs : List PySem.Expr} {ps : List (Int × Int)} : DispI ks vs ps → DispI (some (.Constant (.int k) kd kp) :: ks) (.Constant (.int v) vd vp :: vs) ((k, v) :: ps)
theorem DispI.isSome {ks : List (Option PySem.Expr)} {vs : List PySem.Expr} {ps : List (Int × Int)} (h : DispI ks vs ps) : ks.all (·.isSome) = true ∧ ks.length = vs.length ∧ ks.length = ps.length := by
  induction h with
  | nil => exact ⟨rfl, rfl, rfl⟩
  | cons _ ih => exact ⟨by simpa using ih.1, by simp only [List.length_cons, ih.2.1], by simp only [List.length_cons, ih.2.2]⟩
noncomputable def dataI (ps : List (Int × Int)) : List (PyData × PyData) := ps.map fun p => (.int p.1, .int p.2)
/-- pairs of values that carry these ints -/
inductive KvsAre : List (Int × Value) → List (Int × Int) → Prop
  | nil : KvsAre [] []
  | cons {k v : Int} {t : Tok} {kvs : List (Int × Value)} {ps : List (Int × Int)} : KvsAre kvs ps → KvsAre ((k, .int v t) :: kvs) ((k, v) :: ps)
theorem KvsAre.flat {kvs : List (Int × Value)} {ps : List (Int × Int)} (h : KvsAre kvs ps) : FlatPairs PyData.int kvs (dataI ps) := by
  induction h with
  | nil => exact .nil
  | cons _ ih => exact .cons (Flat.int _ _) ih
theorem KvsAre.keys {kvs : List (Int × Value)} {ps : List (Int × Int)} (h : KvsAre kvs ps) : kvs.map (·.1) = ps.map (·.1) := by
  induction h with
  | nil => rfl
  | cons _ ih => simp only [List.map_cons, ih]
theorem KvsAre.length {kvs : List (Int × Value)} {ps : List (Int × Int)} (h : KvsAre kvs ps) : kvs.length = ps.length := by
  induction h with
  | nil => rfl
  | cons _ ih => simp only [List.length_cons, ih]
section
variable {prog : Program} {w : World} {A : Around} {E : Value → Shared → Prop} {s : Shared} {env : Env} {h₀ : Heap} {L : Addr} {m : Str → Option Value} {news : List (Addr × Obj)}
theorem stored_len (kvs : List (Int × Value)) (k : Int) (v : Value) : (stored kvs k v).length ≤ kvs.length + 1 := stored_length_le kvs k v
theorem store_ints {d : Addr} {pos : Pos} {keys : List (Option PySem.Expr)} {values : List PySem.Expr} {ps : List (Int × Int)} (h : DispI keys values ps) : ∀ (acc : List (Int × Value)) (s : Shared) (Q : PUnit → Shared → Prop), s.heap.DictOf (intKind prog w) d acc → acc.length + ps.length ≤ sizeLine →
    (∀ kvs h' tk, KvsAre kvs ps → h'.DictOf (intKind prog w) d (merged acc kvs) → Heap.SameBut d s.heap h' → Q PUnit.unit { s with heap := h', toks := tk }) →
    wpAny (model prog w) A (forIn (pairTrees keys values env pos) PUnit.unit fun (x : Sem Value × Sem Value) (_ : PUnit) => (do let kv ← x.1; let vv ← holding [kv] x.2; holding [kv, vv] (dictSet d kv vv); pure (ForInStep.yield PUnit.unit) : Sem (ForInStep PUnit))) Q E s := by
  induction h with
  | nil =>
    intro acc s Q hm _ hQ
    exact wpAny_pure (hQ [] s.heap s.toks .nil (by simpa [merged] using hm) (Heap.SameBut.refl _ _))
  | @cons k v kd vd kp vp ks vs r h1 ih =>
    intro acc s Q hm hz hQ
    rw [List.length_cons] at hz
    rw [pairTrees, List.forIn_cons]
    refine wpAny_bind (wpAny_bind ?_)
    refine wpAny_mkInt ?_
    refine wpAny_bind (wpAny_holding (wpAny_bind (wpAny_mkInt (wpAny_bind (wpAny_standAt (wpAny_pure ?_))))))
    refine wpAny_bind (wpAny_holding (wpAny_dictSet_pairs (hsz := by lia) (intKind_is prog w k _) hm fun h₁ hm₁ hs₁ => wpAny_pure ?_))
    refine ih (stored acc k (.int v (s.toks + 1))) _ Q hm₁ (by have := stored_len acc k (.int v (s.toks + 1)); lia) fun kvs h' tk hk hm' hs' => ?_
    exact hQ ((k, .int v (s.toks + 1)) :: kvs) h' tk (.cons hk) (by simpa [merged] using hm') (hs₁.trans hs')
theorem gather_more (f : (Option (Sem Value) × Sem Value) → (Option Addr × List (Sem Value × Sem Value)) → Sem (ForInStep (Option Addr × List (Sem Value × Sem Value))))
    (hf : ∀ (p : Sem Value × Sem Value) (run : List (Sem Value × Sem Value)), run.length + 1 < 17 → f (some p.1, p.2) (none, run) = pure (.yield (none, run ++ [p]))) (rest : List (Option (Sem Value) × Sem Value)) :
    ∀ (items run : List (Sem Value × Sem Value)), run.length + items.length < 17 → forIn (items.map (fun p => (some p.1, p.2)) ++ rest) ((none : Option Addr), run) f = forIn rest ((none : Option Addr), run ++ items) f
  | [], run, _ => by simp
  | p :: r, run, h => by
    rw [List.map_cons, List.cons_append, List.forIn_cons, hf p run (by simp at h; lia), pure_bind]
    have := gather_more f hf rest r (run ++ [p]) (by simp at h ⊢; lia)
    simpa using this
theorem disp17 (a : List (Sem Value × Sem Value)) (z : Sem Value × Sem Value) (hlen : a.length = 16) :
    dictDisplay ((a ++ [z]).map fun p => (some p.1, p.2)) = (do let d ← subDict (a ++ [z]); pure (.ref d)) := by
  unfold dictDisplay
  dsimp only
  rw [List.map_append, gather_more _ (fun p run h => by
    have hne : ((run ++ [(p.1, p.2)]).length == 17) = false := by simp; lia
    simp only [hne, Bool.false_eq_true, if_false]) _ a [] (by simp; lia)]
  simp [hlen]
/-- a dict of these pairs stands there -/
noncomputable def DictI (prog : Program) (w : World) (d : Addr) (o : Obj) (ps : List (Int × Int)) : Prop := (d == sysModules) = false ∧ ∃ kvs, o.IsDictOf (intKind prog w) kvs ∧ KvsAre kvs ps
theorem DictI.tab {d : Addr} {o : Obj} {ps : List (Int × Int)} {h : Heap} (x : DictI prog w d o ps) (N : News h₀ L h news) (hp : (d, o) ∈ news) : IntTab prog w h d (dataI ps) :=
  let ⟨lo, _, hd, hk⟩ := x
  TabAt.ofNews N hp lo hd hk.flat
theorem evalPairs_I {pos : Pos} {keys : List (Option PySem.Expr)} {values : List PySem.Expr} {ps : List (Int × Int)} (h : DispI keys values ps) : ∀ (s : Shared) (Q : List (Value × Value) → Shared → Prop),
    (∀ vs kvs tk, Carries (intKind prog w) vs kvs → KvsAre kvs ps → Q vs { s with toks := tk }) → wpAny (model prog w) A (evalPairs (pairTrees keys values env pos)) Q E s := by
  induction h with
  | nil => intro s Q h; exact evalPairs_nil (h [] [] s.toks trivial .nil)
  | @cons k v kd vd kp vp ks vs r h1 ih =>
    intro s Q h
    refine pairTrees_cons_walk ?_
    refine wpAny_mkInt ?_
    refine wpAny_mkInt ?_
    refine ih _ _ fun vs kvs tk hc hk => ?_
    exact h ((.int k _, .int v _) :: vs) ((k, .int v _) :: kvs) tk ⟨intKind_is prog w k _, rfl, hc⟩ (.cons hk)
theorem subDict_I {pos : Pos} {keys : List (Option PySem.Expr)} {values : List PySem.Expr} {ps : List (Int × Int)} {Q : Addr → Shared → Prop} (hp : DispI keys values ps) (hz : ps.length ≤ 17) (hn : (ps.map (·.1)).Nodup) (F : Fr h₀ L s.heap m) (N : News h₀ L s.heap news) (hbig : h₀.NoLimit)
    (h : ∀ d h' tk o, Fr h₀ L h' m → News h₀ L h' ((d, o) :: news) → (∀ p ∈ news, p.1 < d) → DictI prog w d o ps → Q d { s with heap := h', toks := tk }) :
    wpAny (model prog w) A (subDict (pairTrees keys values env pos)) Q E s := by
  obtain ⟨i1, i2, i3⟩ := hp.isSome
  have hlen := pairTrees_length keys values env pos i1 i2
  have fin : ∀ kvs h' tk, KvsAre kvs ps → h'.DictOf (intKind prog w) s.heap.objs.size (merged [] kvs) → Heap.SameBut s.heap.objs.size (s.heap.push { cls := .type "dict", data := .dict #[] }) h' → Q s.heap.objs.size { s with heap := h', toks := tk } := fun kvs h' tk hk hm hs => by
    rw [merged_nil_of_nodup _ (by rw [hk.keys]; exact hn)] at hm
    obtain ⟨o, ho, hd⟩ := Heap.dictOf_iff.mp hm
    exact h _ h' tk o (F.filled hs) (N.filled F hs ho) (fun p hp => Heap.lt_size (N p hp).1) ⟨F.notModules (modules_low hbig), kvs, hd, hk⟩
  have hsz : 17 ≤ sizeLine := by rw [sizeLine_eq]; decide
  by_cases hl : (pairTrees keys values env pos).length ≤ 15
  · refine wpAny_subDict (knd := intKind prog w) hl (evalPairs_I hp _ _ fun vs kvs tk hc hk => ⟨kvs, hc, Heap.DictOf.new s.heap, fun h' hm hs => ?_⟩)
    exact fin kvs h' _ hk hm hs
  · unfold subDict
    refine wpAny_bind (wpAny_alloc ?_)
    refine wpAny_bind (wpAny_holding ?_)
    rw [if_neg hl]
    refine wpAny_bind (wpAny_rule ?_)
    have hnew : (s.heap.push { cls := .type "dict", data := .dict #[] }).DictOf (intKind prog w) s.heap.objs.size [] := Heap.DictOf.new s.heap
    refine wpAny_bind (wpAny_mono (store_ints (prog := prog) (w := w) hp [] { s with heap := s.heap.push { cls := .type "dict", data := .dict #[] } } (fun _ s' => wpAny (model prog w) A (pure ()) (fun _ => wpAny (model prog w) A (pure s.heap.objs.size) Q E) E s') hnew (by simp only [List.length_nil]; lia) fun kvs h' tk hk hm hs => wpAny_pure (wpAny_pure (fin kvs h' tk hk hm hs))) (fun _ _ x => x) fun _ _ x => x)
/-- a written dict of 17 ints or less, 16 left out -/
theorem Dict_I {pos : Pos} {keys : List (Option PySem.Expr)} {values : List PySem.Expr} {ps : List (Int × Int)} {Q : Value → Shared → Prop} (hp : DispI keys values ps) (h0 : 0 < ps.length) (hz : ps.length ≤ 17) (hn : (ps.map (·.1)).Nodup) (F : Fr h₀ L s.heap m) (N : News h₀ L s.heap news) (hbig : h₀.NoLimit)
    (h : ∀ d h' tk o, Fr h₀ L h' m → News h₀ L h' ((d, o) :: news) → (∀ p ∈ news, p.1 < d) → DictI prog w d o ps → Q (.ref d) { s with heap := h', toks := tk }) :
    wpAny (model prog w) A (eval (.Dict keys values pos) env) Q E s := by
  obtain ⟨i1, i2, i3⟩ := hp.isSome
  have hlen := pairTrees_length keys values env pos i1 i2
  have key : wpAny (model prog w) A (do let d ← subDict (pairTrees keys values env pos); pure (.ref d) : Sem Value) Q E s :=
    wpAny_bind (subDict_I hp hz hn F N hbig fun d h' tk o F' N' l hd => wpAny_pure (h d h' tk o F' N' l hd))
  have e : dictDisplay ((pairTrees keys values env pos).map fun p => (some p.1, p.2)) = (do let d ← subDict (pairTrees keys values env pos); pure (.ref d)) := by
    by_cases hl : (pairTrees keys values env pos).length < 17
    · exact dictDisplay_pairs _ (fun e => by rw [e] at hlen; simp at hlen; lia) hl
    · rcases List.eq_nil_or_concat (pairTrees keys values env pos) with e | ⟨a, z, e⟩
      · rw [e] at hlen; simp at hlen; lia
      · rw [List.concat_eq_append] at e
        rw [e]
        exact disp17 a z (by rw [e] at hl hlen; simp at hl hlen; lia)
  rw [arm_eval_Dict, zip_pairTrees keys values env pos i1 i2, e]
  exact wpAny_bind (wpAny_standAt key)
/-- what a dict of ints holds at an int -/
noncomputable def atI (ps : List (Int × Int)) (i : Int) : Option Int := (ps.find? fun p => p.1 == i).map (·.2)
theorem look_I (ps : List (Int × Int)) (i : Int) : PySem.Spec.lookup (.int i) (dataI ps) = (atI ps i).map .int := by
  induction ps with
  | nil => rfl
  | cons p r ih =>
    simp only [dataI, List.map_cons, PySem.Spec.lookup, atI, List.find?_cons]
    have : PySem.Spec.same (.int p.1) (.int i) = (p.1 == i) := by
      rw [PyProof.V.same_int]
      by_cases hc : p.1 = i
      · subst hc; simp
      · have : (p.1 == i) = false := by simpa using hc
        rw [this, decide_eq_false hc]
    rw [this]
    cases hb : p.1 == i with
    | true => rfl
    | false => simpa [dataI, atI] using ih
variable {d : Addr} {o : Obj} {ps : List (Int × Int)} {i c r : Int} {t u : Tok} {Q : Value → Shared → Prop} {value slice : PySem.Expr}
theorem method_I {pl : Sem Bool} {Q : Value × List Value → Shared → Prop} (x : DictI prog w d o ps) (N : News h₀ L s.heap news) (hp : (d, o) ∈ news) (h : Q (.builtin "dict.get", [.ref d]) s) :
    wpAny (model prog w) A (getMethod (.ref d) "get" pl) Q E s := getMethod_intTab_get (x.tab N hp) h
theorem get2_I (x : DictI prog w d o ps) (N : News h₀ L s.heap news) (hp : (d, o) ∈ news) (e : (atI ps i).getD c = r) (h : ∀ t, Q (.int r t) { s with toks := s.toks + 1 }) :
    wpAny (model prog w) A (call (.builtin "dict.get") [.ref d, .int i t, .int c u]) Q E s := by
  refine call_get2_intTab (x.tab N hp) (Flat.int c u) fun v hv => ?_
  rw [look_I] at hv
  have : ((atI ps i).map PyData.int).getD (.int c) = .int r := by rw [← e]; cases atI ps i <;> rfl
  rw [this] at hv
  obtain ⟨t', rfl⟩ := Flat.int_inv hv
  exact h t'
theorem in_I {b : Bool} (x : DictI prog w d o ps) (N : News h₀ L s.heap news) (hp : (d, o) ∈ news) (e : (atI ps i).isSome = b) (h : Q (.bool b) { s with toks := s.toks + 1 }) :
    wpAny (model prog w) A (compareOp .In (.int i t) (.ref d)) Q E s := by
  refine in_intTab (x.tab N hp) ?_
  rw [look_I, Option.isSome_map, e]
  exact h
theorem item_I (x : DictI prog w d o ps) (N : News h₀ L s.heap news) (hp : (d, o) ∈ news) (e : atI ps i = some r) (h : ∀ t, Q (.int r t) { s with toks := s.toks + 1 })
    (hs : subscripted slice false (.ref d) (.int i t) = operate [.ref d, .int i t] (getItem (.ref d) (.int i t))) (hg : ∀ r, letTemporaryGo value (.ref d) r = pure ()) :
    wpAny (model prog w) A (subscriptTail value slice (.ref d) (.int i t)) Q E s := by
  refine item_intTab (x.tab N hp) (dv := .int r) (by rw [look_I, e]; rfl) (fun v hv => ?_) hs hg
  obtain ⟨t', rfl⟩ := Flat.int_inv hv
  exact h t'
end
end
theorem primeC : rw_ul0020_01.prog = rw_ul0020_01.prog ∧ KL = KL := by k_fill; exact ⟨rfl, rfl⟩
local macro_rules | `(tactic| walk_at "exec For Name Name cons nil") => `(tactic| (k_here; (rename Fr _ _ _ _ => lF'); (with_unfolding_all refine' For_invVF lF' ?k1 ?k2 ?_; (case k1 => exact rfl); (case k2 => exact rfl); k_whole)))
local macro_rules | `(tactic| walk_at "exec For Name Call cons nil") => `(tactic| (k_here; (rename Fr _ _ _ _ => lF'); (with_unfolding_all refine' For_invVF lF' ?k1 ?k2 ?_; (case k1 => exact rfl); (case k2 => exact rfl); k_whole)))
local macro_rules | `(tactic| walk_at "exec For Name Tuple cons nil") => `(tactic| (k_here; (rename Fr _ _ _ _ => lF'); (with_unfolding_all refine' For_invVF lF' ?k1 ?k2 ?_; (case k1 => exact rfl); (case k2 => exact rfl); k_whole)))
local macro_rules | `(tactic| walk_at "pyIter ref") => `(tactic| refine HoldK.out ?_)
theorem floordiv_to {prog : Program} {w : World} {A : Around} {E : Value → Shared → Prop} {s : Shared} {a b : Int} {t u : Tok} {Q : Value → Shared → Prop} (hb : b ≠ 0) (hB : b.natAbs < 2 ^ 4000) (h : Q (.int (a.fdiv b) s.toks) { s with toks := s.toks + 1 }) :
    wpAny (model prog w) A (binaryOp .FloorDiv (.int a t) (.int b u)) Q E s := floordiv_int hb h (Or.inl (PyProof.noPylong_of_log2 (log2_of hB (Nat.le_refl _))))
local macro_rules | `(tactic| walk_at "binaryOp FloorDiv int int") => `(tactic| (refine floordiv_to (by first | decide | assumption | omega) (by first | decide | assumption | omega) ?_))
section
variable {prog : Program} {w : World} {A : Around} {E : Value → Shared → Prop} {s : Shared} {a b r : Int} {t u : Tok} {Q : Value → Shared → Prop}
theorem addE (e : a + b = r) (h : Q (.int r s.toks) { s with toks := s.toks + 1 }) : wpAny (model prog w) A (binaryOp .Add (.int a t) (.int b u)) Q E s := add_int (e ▸ h)
theorem subE (e : a - b = r) (h : Q (.int r s.toks) { s with toks := s.toks + 1 }) : wpAny (model prog w) A (binaryOp .Sub (.int a t) (.int b u)) Q E s := sub_int (e ▸ h)
theorem mulE (e : a * b = r) (hm : IntMulOk a b) (h : Q (.int r s.toks) { s with toks := s.toks + 1 }) : wpAny (model prog w) A (binaryOp .Mult (.int a t) (.int b u)) Q E s := mul_int (e ▸ h) hm
theorem modE (hb : b ≠ 0) (e : a.fmod b = r) (h : Q (.int r s.toks) { s with toks := s.toks + 1 }) : wpAny (model prog w) A (binaryOp .Mod (.int a t) (.int b u)) Q E s := mod_int' hb (e ▸ h)
theorem divE (hb : b ≠ 0) (hB : b.natAbs < 2 ^ 4000) (e : a.fdiv b = r) (h : Q (.int r s.toks) { s with toks := s.toks + 1 }) : wpAny (model prog w) A (binaryOp .FloorDiv (.int a t) (.int b u)) Q E s := floordiv_to hb hB (e ▸ h)
theorem powE (h0 : 0 ≤ b) (hb : b ≤ 1000000) (ha : a.natAbs < 2 ^ 64) (e : a ^ b.toNat = r) (h : Q (.int r s.toks) { s with toks := s.toks + 1 }) : wpAny (model prog w) A (binaryOp .Pow (.int a t) (.int b u)) Q E s :=
  pow_int_small h0 hb ha (e ▸ h)
theorem chrE {c : Nat} (e : a = (c : Int)) (hc : c ≤ 1114111) (h : Q (.str ⟨#[c]⟩ s.toks) { s with toks := s.toks + 1 }) : wpAny (model prog w) A (call (.builtin "chr") [.int a t]) Q E s := by subst e; exact chr_of_range (by omega) (by omega) h
end
local macro_rules | `(tactic| walk_at "binaryOp Add int int") => `(tactic| ((refine addE (by with_reducible assumption) ?_); (try dsimp only)))
local macro_rules | `(tactic| walk_at "binaryOp Sub int int") => `(tactic| ((refine subE (by with_reducible assumption) ?_); (try dsimp only)))
local macro_rules | `(tactic| walk_at "binaryOp Mult int int") => `(tactic| ((refine mulE (by with_reducible assumption) (by with_reducible assumption) ?_); (try dsimp only)))
local macro_rules | `(tactic| walk_at "binaryOp Mod int int") => `(tactic| ((refine modE (by first | with_reducible assumption | decide) (by with_reducible assumption) ?_); (try dsimp only)))
local macro_rules | `(tactic| walk_at "binaryOp FloorDiv int int") => `(tactic| ((refine divE (by first | with_reducible assumption | decide) (by first | with_reducible assumption | decide) (by with_reducible assumption) ?_); (try dsimp only)))
local macro_rules | `(tactic| walk_at "binaryOp Pow int int") => `(tactic| ((refine powE (by first | with_reducible assumption | decide) (by first | with_reducible assumption | decide) (by first | with_reducible assumption | decide) (by with_reducible assumption) ?_); (try dsimp only)))
local macro_rules | `(tactic| walk_at "call builtin:chr") => `(tactic| ((refine chrE (by with_reducible assumption) (by with_reducible assumption) ?_); (try dsimp only)))
section
variable {prog : Program} {w : World} {A : Around} {E : Value → Shared → Prop} {s : Shared} {env : Env} {h₀ : Heap} {x : Str} {body : List Stmt} {Q : Flow → Shared → Prop}
/-- a range that goes down, with what holds at the head of each turn -/
theorem iter_down {r : Addr} {a₀ b₀ : Int} {t₀ u₀ v₀ : Tok} {n : Nat} {m₀ : Str → Option Value} {news : List (Addr × Obj)} (J : Nat → (Str → Option Value) → List (Addr × Obj) → Prop)
    (hh : A.handled = none) (hr : IsRange s.heap r a₀ b₀ (-1) t₀ u₀ v₀) (hsmall : Builtin.Range.small a₀ b₀ (-1) = true) (hn : Builtin.Range.rangeSize a₀ b₀ (-1) = (n : Int)) (F : Fr h₀ env.locals s.heap m₀) (N : News h₀ env.locals s.heap news) (hj : J 0 m₀ news)
    (turn : ∀ i t m₁ news₁ h tk own, i < n → news₁.map (·.1) = news.map (·.1) → OwnOff own (news.map (·.1)) → J i m₁ news₁ → Fr h₀ env.locals h (fun y => if y = x then some (.int (a₀ - (i : Int)) t) else m₁ y) → News h₀ env.locals h (news₁ ++ own) →
      wpAny (model prog w) A (execs body env) (InvPostN h₀ env.locals (J (i + 1)) own (news.map (·.1)) { s with heap := h, toks := tk } Q) E { s with heap := h, toks := tk })
    (done : ∀ m₁ news₁ h tk, J n m₁ news₁ → Fr h₀ env.locals h m₁ → News h₀ env.locals h news₁ → Q .next { s with heap := h, toks := tk }) :
    wpAny (model prog w) A (pyIter (.ref r)) (fun it s₂ => LoopAtV prog w A h₀ env x body Q E it s₂) E s := by
  refine wpAny_pyIter_range hr hsmall ?_
  have old : ∀ {b : Addr} {o : Obj}, s.heap.get? b = some o → b ≠ s.heap.objs.size := fun e => Nat.ne_of_lt (Heap.lt_size e)
  refine loop_invN J (Walks.range hh s.heap.objs.size a₀ (-1) n).bound (fun hm => ?_) (fun b hb => ?_) (fun p hp hI => ?_) (fun p hp hI => ?_) ?_ (F.push _) (fun p hp => ⟨Heap.get?_push_of_some _ (N p hp).1, (N p hp).2⟩) hj ?_ (fun m₁ news₁ h tk hJ F₁ N₁ => done m₁ news₁ h tk hJ F₁ N₁)
  · exact absurd F.ns.lt ((List.mem_singleton.mp hm) ▸ Nat.lt_irrefl _)
  · rw [List.mem_singleton.mp hb]; exact next_is_new F
  · exact old (N p hp).1 (List.mem_singleton.mp hI)
  · exact old (N p hp).1 (List.mem_singleton.mp hI)
  · show IsRangeIter _ _ _ _ _
    rw [hn]
    simpa using Heap.get?_push_size _ rfl
  · rintro i v m₁ news₁ h tk own hi ⟨_, t, rfl⟩ hmap hoff hJ F₁ N₁
    have e : a₀ + (i : Int) * (-1) = a₀ - (i : Int) := by omega
    rw [e] at F₁
    exact turn i t m₁ news₁ h tk own hi hmap hoff hJ F₁ N₁
end
local macro_rules | `(tactic| walk_at "call builtin:list.append") => `(tactic| (k_here; k_dflt (refine' append_L ?k1 ?k2 ?k3 ?k4 ?_; (case k1 => k_asm); (case k2 => k_asm); (case k3 => k_upd); (case k4 => first | with_reducible assumption | omega | (simp only [List.length_append, List.length_singleton]; omega)); k_whole); intro h' F' N'; (try k_sweep)))
theorem item_to {prog : Program} {w : World} {A : Around} {E : Value → Shared → Prop} {s : Shared} {value slice : PySem.Expr} {h₀ : Heap} {L D : Addr} {news : List (Addr × Obj)} {vs : List Value} {ns : List Int} {n : Nat} {k r : Int} {u : Tok} {Q : Value → Shared → Prop} (N : News h₀ L s.heap news) (hm : (D, listOf vs.toArray n) ∈ news) (hi : IntsAre vs ns) (h0 : 0 ≤ k) (h1 : k < ns.length) (hfit : k < 2 ^ 63) (e : ns.getD k.toNat 0 = r) (h : ∀ t, Q (.int r t) s)
    (hs : subscripted slice false (.ref D) (.int k u) = operate [.ref D, .int k u] (getItem (.ref D) (.int k u))) :
    wpAny (model prog w) A (subscriptTail value slice (.ref D) (.int k u)) Q E s := ksa_sub N hm hi h0 h1 hfit (fun t => e ▸ h t) hs
local macro_rules | `(tactic| walk_at "subscriptTail") => `(tactic| (k_here; (with_reducible show wpAny _ _ (subscriptTail _ _ (Value.ref _) (Value.int _ _)) _ _ _); k_dflt (refine' item_to ?k1 ?k2 ?k3 ?k4 ?k5 ?k6 ?k8 ?_ ?k7; (case k1 => k_asm); (case k2 => k_mem); (case k3 => with_reducible assumption); (case k4 => first | with_reducible assumption | omega); (case k5 => first | with_reducible assumption | omega); (case k6 => omega); (case k8 => first | with_reducible assumption | exact rfl); (case k7 => with_unfolding_all rfl); k_whole); intro _))
local macro_rules | `(tactic| walk_at "subscriptTail Name Name ref int") => `(tactic| (k_here; (with_reducible show wpAny _ _ (subscriptTail _ _ (Value.ref _) (Value.int _ _)) _ _ _); k_dflt (refine' item_to ?k1 ?k2 ?k3 ?k4 ?k5 ?k6 ?k8 ?_ ?k7; (case k1 => k_asm); (case k2 => k_mem); (case k3 => with_reducible assumption); (case k4 => first | with_reducible assumption | omega); (case k5 => first | with_reducible assumption | omega); (case k6 => omega); (case k8 => first | with_reducible assumption | exact rfl); (case k7 => with_unfolding_all rfl); k_whole); intro _))
/-- signs of one code point each -/
inductive ChrsAre : List Value → List Nat → Prop
  | nil : ChrsAre [] []
  | cons (c : Nat) (t : Tok) {vs : List Value} {cs : List Nat} : ChrsAre vs cs → ChrsAre (.str ⟨#[c]⟩ t :: vs) (c :: cs)
theorem ChrsAre.append {vs ws : List Value} {a b : List Nat} (h : ChrsAre vs a) (k : ChrsAre ws b) : ChrsAre (vs ++ ws) (a ++ b) := by
  induction h with
  | nil => exact k
  | cons c t _ ih => exact .cons c t ih
theorem ChrsAre.length {vs : List Value} {cs : List Nat} (h : ChrsAre vs cs) : vs.length = cs.length := by
  induction h with
  | nil => rfl
  | cons c t _ ih => simp [ih]
theorem ldX {M : Model} {A : Around} {E : Value → Shared → Prop} {s : Shared} {h₀ : Heap} {m : Str → Option Value} {env : Env} {x : Str} {pos : Pos} {v : Value} {Q : Value → Shared → Prop} (F : Fr h₀ env.locals s.heap m) (hv : m x = some v) (h : Q v s)
    (hk : env.scope.kind = .function) (hl : env.kindOf x = some .local) (hd : (x == ("__debug__" : Str)) = false) : wpAny M A (eval (.Name x pos) env) Q E s := wpAny_Name (wpAny_loadName_local hk hl F.ns hv h) hd
local macro_rules | `(tactic| walk_at "eval Name") => `(tactic| (k_here; (with_reducible show wpAny _ _ (eval (Expr.Name _ _) (envX _ _ _ _ _ _)) _ _ _); k_dflt (refine' ldX ?k1 ?k2 ?_ ?k3 ?k4 ?k5; (case k1 => k_asm); (case k2 => first | exact rfl | assumption); (case k3 => rfl); (case k4 => rfl); (case k5 => decide); k_whole)))
theorem fmod_some (x : Int) {b : Nat} (hb : 0 < b) : ∃ k : Nat, x.fmod (b : Int) = (k : Int) ∧ k < b := by
  have h1 := Int.fmod_nonneg_of_pos x (by omega : (0 : Int) < (b : Int))
  have h2 := Int.fmod_lt_of_pos x (by omega : (0 : Int) < (b : Int))
  exact ⟨(x.fmod (b : Int)).toNat, by omega, by omega⟩
theorem primeS1 : rw_ul0020_01.prog = rw_ul0020_01.prog ∧ KL = KL := by k_fill; exact ⟨rfl, rfl⟩
noncomputable abbrev fillL : List (Int × Int) := [(119965, 8492), (119968, 8496), (119969, 8497), (119971, 8459), (119972, 8464), (119975, 8466), (119976, 8499), (120070, 8493), (120075, 8460), (120076, 8465), (120122, 8450), (120127, 8461), (120133, 8469), (120135, 8473)]
local macro_rules | `(tactic| walk_at "eval Dict") => `(tactic| (k_here; k_dflt (refine' Dict_I (ps := fillL) ?k0 ?k4 ?k5 ?k6 ?k1 ?k2 ?k3 ?_; (case k0 => repeat (first | exact DispI.nil | refine DispI.cons ?_)); (case k1 => k_asm); (case k2 => k_asm); (case k3 => exact Top.nolimit (by k_asm)); (case k4 => decide +kernel); (case k5 => decide +kernel); (case k6 => decide +kernel)); intro d' h' tk' o' F' N' l1 hd'; (try k_lt l1); (try k_sweep)))
local macro_rules | `(tactic| walk_at "getMethod ref") => `(tactic| (refine method_I (by with_reducible assumption) (by k_asm) (by k_mem) ?_))
local macro_rules | `(tactic| walk_at "call builtin:dict.get") => `(tactic| (k_dflt (refine' get2_I ?k1 ?k2 ?k3 ?k4 ?_; (case k1 => with_reducible assumption); (case k2 => k_asm); (case k3 => k_mem); (case k4 => assumption)); intro _; (try dsimp only)))
/-- the sign of a letter in a look -/
noncomputable def fillV (code : Nat) : Nat := ((atI fillL (code : Int)).getD (code : Int)).toNat
noncomputable def signV (letter look : Nat) : Nat := if look = 14 then 97 + letter else if 12 < look then 65 + letter else fillV (119808 + 52 * look + letter)
theorem fill_tab : ∀ a : Fin 13, ∀ d : Fin 16, (atI fillL ((119808 + 52 * a.val + d.val : Nat) : Int)).getD ((119808 + 52 * a.val + d.val : Nat) : Int) = ((fillV (119808 + 52 * a.val + d.val) : Nat) : Int) ∧ fillV (119808 + 52 * a.val + d.val) ≤ 1114111 := by decide +kernel
section
variable {w : World} {mean : ExcName → Option Value} {mg mb : Str → Option Value}
set_option maxRecDepth 100000 in
set_option maxHeartbeats 8000000 in
theorem spec_sign (letter look : Nat) (hl : letter < 16) (hk : look < 16) (t1 t2 : Tok) (news : List (Addr × Obj)) :
    Spec w mean mg mb (.ref 141) [.int letter t1, .int look t2] 1 20 news (fun r n => (∃ t, r = .str ⟨#[signV letter look]⟩ t) ∧ n = news) := by
  refine spec_def (nm := nL17) (ar := aL17) (bd := bL17) (sc := sL17) (c := 140) (binds := [(S "letter", .int letter t1), (S "look", .int look t2)]) rfl rfl rfl rfl ?_ rfl rfl rfl rfl (by decide) (by decide)
  intro dp un gd outer A₀ base g L' h₁ s B F N G lt hd hu
  obtain ⟨X, T0, C⟩ := G
  dsimp only [bL17, sL17, S] at *
  have g1 : (97 : Int) + ((letter : Nat) : Int) = ((97 + letter : Nat) : Int) := by lia
  have g2 : (65 : Int) + ((letter : Nat) : Int) = ((65 + letter : Nat) : Int) := by lia
  have g3 : (52 : Int) * ((look : Nat) : Int) = ((52 * look : Nat) : Int) := by lia
  have g3m : IntMulOk (52 : Int) ((look : Nat) : Int) := PySem.IntMulOk.of_left (by decide)
  have g4 : (119808 : Int) + ((52 * look : Nat) : Int) = ((119808 + 52 * look : Nat) : Int) := by lia
  have g5 : ((119808 + 52 * look : Nat) : Int) + ((letter : Nat) : Int) = ((119808 + 52 * look + letter : Nat) : Int) := by lia
  have l1 : 97 + letter ≤ 1114111 := by lia
  have l2 : 65 + letter ≤ 1114111 := by lia
  have r1 : ((97 + letter : Nat) : Int) = ((97 + letter : Nat) : Int) := rfl
  have r2 : ((65 + letter : Nat) : Int) = ((65 + letter : Nat) : Int) := rfl
  rcases Classical.em (look = 14) with h14 | h14
  · have h14' : ((look : Nat) : Int) = 14 := by lia
    have e : signV letter look = 97 + letter := if_pos h14
    rw [e]
    k_steps
    all_goals first | (exfalso; lia) | (rename Fr _ _ _ _ => F9; rename News _ _ _ _ => N9; exact Ret.intro F9 (nsub N9 fun p hp => .tail _ hp) ⟨⟨_, rfl⟩, rfl⟩)
  · have h14' : ((look : Nat) : Int) ≠ 14 := by lia
    rcases Classical.em (12 < look) with h12 | h12
    · have h12' : ((look : Nat) : Int) > 12 := by lia
      have e : signV letter look = 65 + letter := (if_neg h14).trans (if_pos h12)
      rw [e]
      k_steps
      all_goals first | (exfalso; lia) | (rename Fr _ _ _ _ => F9; rename News _ _ _ _ => N9; exact Ret.intro F9 (nsub N9 fun p hp => .tail _ hp) ⟨⟨_, rfl⟩, rfl⟩)
    · have h12' : ¬ ((look : Nat) : Int) > 12 := by lia
      have e : signV letter look = fillV (119808 + 52 * look + letter) := (if_neg h14).trans (if_neg h12)
      rw [e]
      obtain ⟨f1, f2⟩ := fill_tab ⟨look, by lia⟩ ⟨letter, hl⟩
      dsimp only at f1 f2
      generalize hfv : fillV (119808 + 52 * look + letter) = fv at *
      have r3 : ((fv : Nat) : Int) = ((fv : Nat) : Int) := rfl
      k_steps
      all_goals first | (exfalso; lia) | (rename Fr _ _ _ _ => F9; rename News _ _ _ _ => N9; exact Ret.intro F9 (nsub N9 fun p hp => .tail _ hp) ⟨⟨_, rfl⟩, rfl⟩)
end
theorem primeS2 : rw_ul0020_01.prog = rw_ul0020_01.prog ∧ KL = KL := by k_fill; exact ⟨rfl, rfl⟩
noncomputable abbrev pairL : List (Int × Int) := [(85, 64256), (88, 64257), (91, 64258), (49, 13256), (97, 13191), (127, 13259), (160, 13188), (161, 13189), (170, 13261), (172, 13262), (192, 13187), (193, 13190), (208, 13185), (213, 13195), (240, 13184), (245, 13194), (247, 13271)]
local macro_rules | `(tactic| walk_at "eval Dict") => `(tactic| (k_here; k_dflt (refine' Dict_I (ps := pairL) ?k0 ?k4 ?k5 ?k6 ?k1 ?k2 ?k3 ?_; (case k0 => repeat (first | exact DispI.nil | refine DispI.cons ?_)); (case k1 => k_asm); (case k2 => k_asm); (case k3 => exact Top.nolimit (by k_asm)); (case k4 => decide +kernel); (case k5 => decide +kernel); (case k6 => decide +kernel)); intro d' h' tk' o' F' N' l1 hd'; (try k_lt l1); (try k_sweep)))
local macro_rules | `(tactic| walk_at "compareOp In int ref") => `(tactic| (k_dflt (refine' in_I ?k1 ?k2 ?k3 ?k4 ?_; (case k1 => with_reducible assumption); (case k2 => k_asm); (case k3 => k_mem); (case k4 => with_reducible assumption)); (try dsimp only)))
local macro_rules | `(tactic| walk_at "subscriptTail Name Name ref int") => `(tactic| (k_here; (with_reducible show wpAny _ _ (subscriptTail _ _ (Value.ref _) (Value.int _ _)) _ _ _); k_dflt (refine' item_I ?k1 ?k2 ?k3 ?k4 ?_ ?k5 ?k6; (case k1 => with_reducible assumption); (case k2 => k_asm); (case k3 => k_mem); (case k4 => with_reducible assumption); (case k5 => with_unfolding_all rfl); (case k6 => intro _; with_unfolding_all rfl)); intro _; (try dsimp only)))
local macro_rules | `(tactic| walk_at "exec While BoolOp") => `(tactic| refine HoldK.out ?_)
/-- what one sign tells: its code point, the letters, the unseen figures -/
noncomputable abbrev Seg := Nat × List Nat × List Nat
noncomputable def SignOk (x : Seg) : Prop := (∃ u, u < 16 ∧ x = (65024 + u, [], [u])) ∨ (∃ a k, a < 16 ∧ k < 16 ∧ x = (signV a k, [a], [])) ∨ (∃ a b v, a < 16 ∧ b < 16 ∧ atI pairL ((16 * a + b : Nat) : Int) = some ((v : Nat) : Int) ∧ x = (v, [a, b], []))
theorem pair_tab : ∀ a b : Fin 16, atI pairL ((16 * a.val + b.val : Nat) : Int) = none ∨ (atI pairL ((16 * a.val + b.val : Nat) : Int) = some ((((atI pairL ((16 * a.val + b.val : Nat) : Int)).getD 0).toNat : Nat) : Int) ∧ ((atI pairL ((16 * a.val + b.val : Nat) : Int)).getD 0).toNat ≤ 1114111) := by decide +kernel
theorem pair_cases {a b : Nat} (ha : a < 16) (hb : b < 16) : atI pairL ((16 * a + b : Nat) : Int) = none ∨ ∃ v : Nat, atI pairL ((16 * a + b : Nat) : Int) = some ((v : Nat) : Int) ∧ v ≤ 1114111 := by
  rcases pair_tab ⟨a, ha⟩ ⟨b, hb⟩ with h | ⟨h1, h2⟩
  · exact .inl h
  · exact .inr ⟨_, h1, h2⟩
noncomputable def InvT (L U : List Nat) (l l2 q d : Addr) (rest : List (Addr × Obj)) (z : Nat) (m : Str → Option Value) (news : List (Addr × Obj)) : Prop :=
  ∃ (segs : List Seg) (i j lk od : Nat) (ts : List Value) (kt : Nat) (ti tj tl to : Tok), news = (q, listOf ts.toArray kt) :: rest ∧ ChrsAre ts (segs.map (·.1)) ∧ (∀ x ∈ segs, SignOk x) ∧ (segs.map (·.2.1)).flatten = L.take i ∧ (segs.map (·.2.2)).flatten = U.take j ∧
    i ≤ L.length ∧ j ≤ U.length ∧ z = (L.length - i) + (U.length - j) ∧ segs.length ≤ i + j ∧
    m (S "i") = some (.int (i : Int) ti) ∧ m (S "j") = some (.int (j : Int) tj) ∧ m (S "looks") = some (.int (lk : Int) tl) ∧ m (S "order") = some (.int (od : Int) to) ∧ m (S "text") = some (.ref q) ∧ m (S "letters") = some (.ref l) ∧ m (S "unseen") = some (.ref l2) ∧ m (S "pairs") = some (.ref d)
theorem take_snoc {L : List Nat} {i : Nat} (h : i < L.length) : L.take (i + 1) = L.take i ++ [L.getD i 0] := by
  rw [List.take_add_one]
  simp [h]
theorem take_snoc2 {L : List Nat} {i : Nat} (h : i + 1 < L.length) : L.take (i + 2) = L.take i ++ [L.getD i 0, L.getD (i + 1) 0] := by
  rw [take_snoc (i := i + 1) h, take_snoc (by lia), List.append_assoc]; rfl
theorem segs_snoc {segs : List Seg} {x : Seg} {A B : List Nat} (h1 : (segs.map (·.2.1)).flatten = A) (h2 : (segs.map (·.2.2)).flatten = B) : ((segs ++ [x]).map (·.2.1)).flatten = A ++ x.2.1 ∧ ((segs ++ [x]).map (·.2.2)).flatten = B ++ x.2.2 := by
  subst h1 h2
  simp
theorem getD_nat {L : List Nat} {i : Nat} : (L.map fun n : Nat => (n : Int)).getD ((i : Nat) : Int).toNat 0 = ((L.getD i 0 : Nat) : Int) := by
  rw [Int.toNat_natCast]
  rw [List.getD_eq_getElem?_getD, List.getD_eq_getElem?_getD, List.getElem?_map]
  cases L[i]? <;> rfl
theorem invT_go {L U : List Nat} {l l2 q d : Addr} {rest : List (Addr × Obj)} {m' : Str → Option Value} {segs : List Seg} {i i' j j' lk od kt : Nat} {ts : List Value} {ti tj tl to tx : Tok} {x : Seg} (hts : ChrsAre ts (segs.map (·.1))) (hso : ∀ x ∈ segs, SignOk x) (hsl : (segs.map (·.2.1)).flatten = L.take i) (hsu : (segs.map (·.2.2)).flatten = U.take j) (hsz : segs.length ≤ i + j)
    (hx : SignOk x) (ei : L.take i' = L.take i ++ x.2.1) (ej : U.take j' = U.take j ++ x.2.2) (hi' : i' ≤ L.length) (hj' : j' ≤ U.length) (hlt : i + j + 1 ≤ i' + j')
    (mi : m' (S "i") = some (.int (i' : Int) ti)) (mj : m' (S "j") = some (.int (j' : Int) tj)) (ml : m' (S "looks") = some (.int (lk : Int) tl)) (mo : m' (S "order") = some (.int (od : Int) to)) (mt : m' (S "text") = some (.ref q)) (mle : m' (S "letters") = some (.ref l)) (mu : m' (S "unseen") = some (.ref l2)) (mp : m' (S "pairs") = some (.ref d)) :
    InvT L U l l2 q d rest ((L.length - i') + (U.length - j')) m' ((q, listOf (ts ++ [Value.str ⟨#[x.1]⟩ tx]).toArray kt) :: rest) := by
  obtain ⟨e1, e2⟩ := segs_snoc (x := x) hsl hsu
  refine ⟨segs ++ [x], i', j', lk, od, _, kt, ti, tj, tl, to, rfl, ?_, ?_, by rw [e1, ei], by rw [e2, ej], hi', hj', rfl, ?_, mi, mj, ml, mo, mt, mle, mu, mp⟩
  · rw [List.map_append]
    exact hts.append (.cons _ _ .nil)
  · intro y hy
    rcases List.mem_append.mp hy with hy | hy
    · exact hso y hy
    · rcases List.mem_singleton.mp hy with rfl
      exact hx
  · rw [List.length_append, List.length_singleton]
    lia
noncomputable def CutP (s : Shared) (b : Bool) (r : Bool) (s₂ : Shared) : Prop := r = b ∧ ∃ tk, s₂ = { s with toks := tk }
/-- a test that gives b, whatever road it takes -/
theorem cutB {M : Model} {A : Around} {T : Sem Bool} {Q : Bool → Shared → Prop} {E : Value → Shared → Prop} {s : Shared} (b : Bool) (h : wpAny M A T (CutP s b) E s) (k : ∀ tk, Q b { s with toks := tk }) : wpAny M A T Q E s :=
  wpAny_mono h (fun _ _ ⟨e, tk, e2⟩ => e ▸ e2 ▸ k tk) fun _ _ x => x
section
local macro_rules | `(tactic| walk_at "exec If") => `(tactic| refine HoldK.out ?_)
variable {w : World} {mean : ExcName → Option Value} {mg mb : Str → Option Value}
set_option maxRecDepth 100000 in
set_option maxHeartbeats 8000000 in
theorem spec_ltext (l l2 : Addr) (us us2 : List Value) (L U : List Nat) (hi : IntsAre us (L.map fun n : Nat => (n : Int))) (hi2 : IntsAre us2 (U.map fun n : Nat => (n : Int))) (hL : ∀ a ∈ L, a < 16) (hU : ∀ a ∈ U, a < 16) (hln : L.length ≤ 1000) (hln2 : U.length ≤ 1000) (n0 n02 lk od : Nat) (t1 t2 : Tok) {news : List (Addr × Obj)} (hl : (l, listOf us.toArray n0) ∈ news) (hl2 : (l2, listOf us2.toArray n02) ∈ news) :
    Spec w mean mg mb (.ref 148) [.ref l, .ref l2, .int lk t1, .int od t2] 5 60 news (fun r n => ∃ (q : Addr) (ts : List Value) (k : Nat) (segs : List Seg), r = .ref q ∧ n = (q, listOf ts.toArray k) :: news ∧ ChrsAre ts (segs.map (·.1)) ∧ (∀ x ∈ segs, SignOk x) ∧ (segs.map (·.2.1)).flatten = L ∧ (segs.map (·.2.2)).flatten = U ∧ segs.length ≤ L.length + U.length ∧ ∀ p ∈ news, p.1 ≠ q) := by
  refine spec_def (nm := nL18) (ar := aL18) (bd := bL18) (sc := sL18) (c := 147) (binds := [(S "letters", .ref l), (S "unseen", .ref l2), (S "looks", .int lk t1), (S "order", .int od t2)]) rfl rfl rfl rfl ?_ rfl rfl rfl rfl (by decide) (by decide)
  intro dp un gd outer A₀ base g L' h₁ s B F N G lt hd hu
  obtain ⟨X, T0, C⟩ := G
  dsimp only [bL18, sL18, S] at *
  k_steps
  rename_i tk0 d h5 tk5 o5 ld hd5 h4 q h3 lq h2 hh1 hh F9 N9
  unfold HoldK
  refine While_inv2 (InvT L U l l2 q d ((d, o5) :: news)) F9 N9 (n₀ := L.length + U.length) ⟨[], 0, 0, lk, od, [], 0, _, _, _, _, rfl, .nil, (fun _ h => nomatch h), rfl, rfl, by lia, by lia, by lia, by simp, rfl, rfl, rfl, rfl, rfl, rfl, rfl, rfl⟩ ?_
  clear F9 N9
  have nq : ∀ p ∈ (d, o5) :: news, p.1 ≠ q := List.forall_mem_cons.mpr ⟨Nat.ne_of_lt lq.1, fun p hp => Nat.ne_of_lt (allLt_get lq.2 p hp)⟩
  rintro z m news₁ h9 tk9 F9 N9 ⟨segs, i, j, lk', od', ts, kt, ti, tj, tl, to, rfl, hts, hso, hsl, hsu, hi1, hj1, hz, hsz, mi, mj, ml, mo, mt, mle, mu, mp⟩
  have hm1 : (l, listOf us.toArray n0) ∈ (q, listOf ts.toArray kt) :: (d, o5) :: news := .tail _ (.tail _ hl)
  have hm2 : (l2, listOf us2.toArray n02) ∈ (q, listOf ts.toArray kt) :: (d, o5) :: news := .tail _ (.tail _ hl2)
  have hLl : (L.map fun n : Nat => (n : Int)).length = L.length := List.length_map _
  have hUl : (U.map fun n : Nat => (n : Int)).length = U.length := List.length_map _
  have hul : us.length = L.length := by rw [hi.length, hLl]
  have hul2 : us2.length = U.length := by rw [hi2.length, hUl]
  have htl : ts.length < 90000 := by rw [hts.length, List.length_map]; lia
  have f1 : ((od' : Nat) : Int).fmod 2 = ((od' % 2 : Nat) : Int) := fmod_nat od' 2
  have f2 : ((od' : Nat) : Int).fdiv 2 = ((od' / 2 : Nat) : Int) := fdiv_nat od' 2
  have f3 : ((lk' : Nat) : Int).fmod 16 = ((lk' % 16 : Nat) : Int) := fmod_nat lk' 16
  have f4 : ((lk' : Nat) : Int).fdiv 16 = ((lk' / 16 : Nat) : Int) := fdiv_nat lk' 16
  have f5 : ((i : Nat) : Int) + 1 = ((i + 1 : Nat) : Int) := by lia
  have f6 : ((j : Nat) : Int) + 1 = ((j + 1 : Nat) : Int) := by lia
  have f7 : ((i : Nat) : Int) + 2 = ((i + 2 : Nat) : Int) := by lia
  have hk16 : lk' % 16 < 16 := Nat.mod_lt _ (by decide)
  have hcase : (i = L.length ∧ j = U.length) ∨ (j < U.length ∧ (od' % 2 = 1 ∨ i = L.length)) ∨ (i < L.length ∧ (j = U.length ∨ od' % 2 = 0)) := by lia
  rcases hcase with ⟨c1, c2⟩ | ⟨c1, c2⟩ | ⟨c1, c2⟩
  · refine cutB false (by k_steps; all_goals first | (exfalso; lia) | exact ⟨rfl, _, rfl⟩) fun tkc => ?_
    k_steps
    rename Fr _ _ _ _ => F8
    rename News _ _ _ _ => N8
    show Ret _ _ _ _ _ _
    refine Ret.intro F8 (nsub N8 (b := (q, listOf ts.toArray kt) :: news) fun p hp => ?_) ⟨q, ts, kt, segs, rfl, rfl, hts, hso, by rw [hsl, c1, List.take_length], by rw [hsu, c2, List.take_length], by lia, fun p hp => nq p (.tail _ hp)⟩
    rcases List.mem_cons.mp hp with rfl | hp
    · exact .head _
    · exact .tail _ (.tail _ hp)
  · obtain ⟨u, hu'⟩ : ∃ u, U.getD j 0 = u := ⟨_, rfl⟩
    have hu16 : u < 16 := by
      rw [← hu']
      have : U.getD j 0 = U[j] := by simp [c1]
      rw [this]
      exact hU _ (List.getElem_mem c1)
    have g1 : (U.map fun n : Nat => (n : Int)).getD ((j : Nat) : Int).toNat 0 = ((u : Nat) : Int) := by rw [← hu']; exact getD_nat
    have g2 : (65024 : Int) + ((u : Nat) : Int) = ((65024 + u : Nat) : Int) := by lia
    have g3 : ((65024 + u : Nat) : Int) = ((65024 + u : Nat) : Int) := rfl
    have g4 : 65024 + u ≤ 1114111 := by lia
    have g5 : ((j : Nat) : Int) < (U.map fun n : Nat => (n : Int)).length := by lia
    have hx : SignOk (65024 + u, [], [u]) := .inl ⟨u, hu16, rfl⟩
    have ej : U.take (j + 1) = U.take j ++ [u] := by rw [take_snoc c1, hu']
    refine cutB true (by k_steps; all_goals first | (exfalso; lia) | exact ⟨rfl, _, rfl⟩) fun tkc => ?_
    k_steps
    unfold HoldK
    refine wpAny_If (cutB true (by k_steps; all_goals first | (exfalso; lia) | exact ⟨rfl, _, rfl⟩) fun tkd => ?_)
    k_steps
    all_goals first | (exfalso; lia) | (
      rename Fr _ _ _ _ => F8
      rename News _ _ _ _ => N8
      exact ⟨_, _, _, _, _, rfl, F8, N8, by lia, invT_go (j' := j + 1) (x := (65024 + u, [], [u])) hts hso hsl hsu hsz hx (List.append_nil _).symm ej hi1 (by lia) (by lia) mi rfl ml rfl mt mle mu mp⟩)
  · obtain ⟨a, ha'⟩ : ∃ a, L.getD i 0 = a := ⟨_, rfl⟩
    have ha16 : a < 16 := by
      rw [← ha']
      have : L.getD i 0 = L[i] := by simp [c1]
      rw [this]
      exact hL _ (List.getElem_mem c1)
    have g1 : (L.map fun n : Nat => (n : Int)).getD ((i : Nat) : Int).toNat 0 = ((a : Nat) : Int) := by rw [← ha']; exact getD_nat
    have g5 : ((i : Nat) : Int) < (L.map fun n : Nat => (n : Int)).length := by lia
    have ei : L.take (i + 1) = L.take i ++ [a] := by rw [take_snoc c1, ha']
    have hx : SignOk (signV a (lk' % 16), [a], []) := .inr (.inl ⟨a, lk' % 16, ha16, hk16, rfl⟩)
    refine cutB true (by k_steps; all_goals first | (exfalso; lia) | exact ⟨rfl, _, rfl⟩) fun tkc => ?_
    k_steps
    unfold HoldK
    refine wpAny_If (cutB false (by k_steps; all_goals first | (exfalso; lia) | exact ⟨rfl, _, rfl⟩) fun tkd => ?_)
    rcases Nat.lt_or_ge (i + 1) L.length with c3 | c3
    · obtain ⟨b, hb'⟩ : ∃ b, L.getD (i + 1) 0 = b := ⟨_, rfl⟩
      have hb16 : b < 16 := by
        rw [← hb']
        have : L.getD (i + 1) 0 = L[i + 1] := by simp [c3]
        rw [this]
        exact hL _ (List.getElem_mem c3)
      have g6 : (L.map fun n : Nat => (n : Int)).getD ((i + 1 : Nat) : Int).toNat 0 = ((b : Nat) : Int) := by rw [← hb']; exact getD_nat
      have g7 : ((i + 1 : Nat) : Int) < (L.map fun n : Nat => (n : Int)).length := by lia
      have p1 : (16 : Int) * ((a : Nat) : Int) = ((16 * a : Nat) : Int) := by lia
      have p1m : IntMulOk (16 : Int) ((a : Nat) : Int) := PySem.IntMulOk.of_left (by decide)
      have p2 : ((16 * a : Nat) : Int) + ((b : Nat) : Int) = ((16 * a + b : Nat) : Int) := by lia
      rcases pair_cases ha16 hb16 with pc | ⟨v, pc, pv⟩
      · have ps : (atI pairL ((16 * a + b : Nat) : Int)).isSome = false := by rw [pc]; rfl
        k_steps
        unfold HoldK
        refine wpAny_If (cutB false (by k_steps; all_goals first | (exfalso; lia) | exact ⟨rfl, _, rfl⟩) fun tke => ?_)
        k_steps
        all_goals first | (exfalso; lia) | (
          (refine' Spec.use ?wS ?wB ?wF ?wN ?wX ?wT ?wC ?wk ?wd ?wu ?_; (case wB => k_asm); (case wF => k_asm); (case wN => k_asm); (case wX => k_asm); (case wT => k_asm); (case wC => k_asm); (case wk => exact rfl); (case wS => exact (spec_sign a (lk' % 16) ha16 hk16 _ _ _)); (case wd => lia); (case wu => lia))
          rintro _ _ h2 tk2 ⟨⟨t9, rfl⟩, rfl⟩ F2 N2
          k_steps
          rename Fr _ _ _ _ => F8
          rename News _ _ _ _ => N8
          exact ⟨_, _, _, _, _, rfl, F8, N8, by lia, invT_go (i' := i + 1) (x := (signV a (lk' % 16), [a], [])) hts hso hsl hsu hsz hx ei (List.append_nil _).symm (by lia) hj1 (by lia) rfl mj rfl rfl mt mle mu mp⟩)
      · have ps : (atI pairL ((16 * a + b : Nat) : Int)).isSome = true := by rw [pc]; rfl
        have pr : ((v : Nat) : Int) = ((v : Nat) : Int) := rfl
        have hx2 : SignOk (v, [a, b], []) := .inr (.inr ⟨a, b, v, ha16, hb16, pc, rfl⟩)
        have ei2 : L.take (i + 2) = L.take i ++ [a, b] := by rw [take_snoc2 c3, ha', hb']
        rcases Classical.em (lk' % 16 = 15) with c5 | c5
        · k_steps
          unfold HoldK
          refine wpAny_If (cutB true (by k_steps; all_goals first | (exfalso; lia) | exact ⟨rfl, _, rfl⟩) fun tke => ?_)
          k_steps
          all_goals first | (exfalso; lia) | (
            rename Fr _ _ _ _ => F8
            rename News _ _ _ _ => N8
            exact ⟨_, _, _, _, _, rfl, F8, N8, by lia, invT_go (i' := i + 2) (x := (v, [a, b], [])) hts hso hsl hsu hsz hx2 ei2 (List.append_nil _).symm (by lia) hj1 (by lia) rfl mj rfl rfl mt mle mu mp⟩)
        · k_steps
          unfold HoldK
          refine wpAny_If (cutB false (by k_steps; all_goals first | (exfalso; lia) | exact ⟨rfl, _, rfl⟩) fun tke => ?_)
          k_steps
          all_goals first | (exfalso; lia) | (
            (refine' Spec.use ?wS ?wB ?wF ?wN ?wX ?wT ?wC ?wk ?wd ?wu ?_; (case wB => k_asm); (case wF => k_asm); (case wN => k_asm); (case wX => k_asm); (case wT => k_asm); (case wC => k_asm); (case wk => exact rfl); (case wS => exact (spec_sign a (lk' % 16) ha16 hk16 _ _ _)); (case wd => lia); (case wu => lia))
            rintro _ _ h2 tk2 ⟨⟨t9, rfl⟩, rfl⟩ F2 N2
            k_steps
            rename Fr _ _ _ _ => F8
            rename News _ _ _ _ => N8
            exact ⟨_, _, _, _, _, rfl, F8, N8, by lia, invT_go (i' := i + 1) (x := (signV a (lk' % 16), [a], [])) hts hso hsl hsu hsz hx ei (List.append_nil _).symm (by lia) hj1 (by lia) rfl mj rfl rfl mt mle mu mp⟩)
    · have ps : (atI pairL (-1)).isSome = false := by decide
      k_steps
      unfold HoldK
      refine wpAny_If (cutB false (by k_steps; all_goals first | (exfalso; lia) | exact ⟨rfl, _, rfl⟩) fun tke => ?_)
      k_steps
      all_goals first | (exfalso; lia) | (
        (refine' Spec.use ?wS ?wB ?wF ?wN ?wX ?wT ?wC ?wk ?wd ?wu ?_; (case wB => k_asm); (case wF => k_asm); (case wN => k_asm); (case wX => k_asm); (case wT => k_asm); (case wC => k_asm); (case wk => exact rfl); (case wS => exact (spec_sign a (lk' % 16) ha16 hk16 _ _ _)); (case wd => lia); (case wu => lia))
        rintro _ _ h2 tk2 ⟨⟨t9, rfl⟩, rfl⟩ F2 N2
        k_steps
        rename Fr _ _ _ _ => F8
        rename News _ _ _ _ => N8
        exact ⟨_, _, _, _, _, rfl, F8, N8, by lia, invT_go (i' := i + 1) (x := (signV a (lk' % 16), [a], [])) hts hso hsl hsu hsz hx ei (List.append_nil _).symm (by lia) hj1 (by lia) rfl mj rfl rfl mt mle mu mp⟩)
end
theorem primeS3 : rw_ul0020_01.prog = rw_ul0020_01.prog ∧ KL = KL := by k_fill; exact ⟨rfl, rfl⟩
/-- a text of these code points -/
noncomputable def strOf (w : List Nat) : Str := ⟨w.toArray⟩
theorem sign_tab1 : ∀ a k : Fin 16, ((signV a.val k.val : Nat) : Int) ∉ b1L ∧ mapB3 (signV a.val k.val) = strOf [97 + a.val] ∧ signV a.val k.val ≤ 1114111 := by decide +kernel
theorem sign_tab2 : ∀ a b : Fin 16, (match atI pairL ((16 * a.val + b.val : Nat) : Int) with | none => true | some v => decide (v ∉ b1L ∧ mapB3 v.toNat = strOf [97 + a.val, 97 + b.val] ∧ v.toNat ≤ 1114111)) = true := by decide +kernel
theorem sign_tab3 : ∀ u : Fin 16, ((65024 + u.val : Nat) : Int) ∈ b1L := by decide +kernel
theorem sign_read {x : Seg} (h : SignOk x) : x.1 ≤ 1114111 ∧ ((∃ u, u < 16 ∧ x = (65024 + u, [], [u]) ∧ ((65024 + u : Nat) : Int) ∈ b1L) ∨ (((x.1 : Nat) : Int) ∉ b1L ∧ x.2.2 = [] ∧ (∀ a ∈ x.2.1, a < 16) ∧ 0 < x.2.1.length ∧ x.2.1.length ≤ 2 ∧ mapB3 x.1 = strOf (x.2.1.map fun a => 97 + a))) := by
  rcases h with ⟨u, hu, rfl⟩ | ⟨a, k, ha, hk, rfl⟩ | ⟨a, b, v, ha, hb, he, rfl⟩
  · exact ⟨by show 65024 + u ≤ 1114111; lia, .inl ⟨u, hu, rfl, sign_tab3 ⟨u, hu⟩⟩⟩
  · obtain ⟨h1, h2, h3⟩ := sign_tab1 ⟨a, ha⟩ ⟨k, hk⟩
    exact ⟨h3, .inr ⟨h1, rfl, fun x hx => by rcases List.mem_singleton.mp hx with rfl; exact ha, by simp, by simp, h2⟩⟩
  · have h := sign_tab2 ⟨a, ha⟩ ⟨b, hb⟩
    simp only [he] at h
    obtain ⟨h1, h2, h3⟩ := of_decide_eq_true h
    refine ⟨h3, .inr ⟨h1, rfl, fun x hx => ?_, by simp, by simp, h2⟩⟩
    rcases List.mem_cons.mp hx with rfl | hx
    · exact ha
    · rcases List.mem_singleton.mp hx with rfl
      exact hb
theorem bytes_last {prog : Program} {w : World} {A : Around} {E : Value → Shared → Prop} {s : Shared} {value slice : PySem.Expr} {xs : List UInt8} {c : UInt8} {t ui : Tok} {Q : Value → Shared → Prop} (hz : xs.length ≤ 100000) (h : ∀ t' k, Q (.int (c.toNat : Int) t') { s with toks := k })
    (hs : subscripted slice false (.bytes (xs ++ [c]).toArray t) (.int (-1) ui) = operate [.bytes (xs ++ [c]).toArray t, .int (-1) ui] (getItem (.bytes (xs ++ [c]).toArray t) (.int (-1) ui)) := by with_unfolding_all rfl)
    (ht : ∀ r, letTemporaryGo value (.bytes (xs ++ [c]).toArray t) r = pure () := by intro _; with_unfolding_all rfl) : wpAny (model prog w) A (subscriptTail value slice (.bytes (xs ++ [c]).toArray t) (.int (-1) ui)) Q E s := by
  have hl : (KBw.bInts (xs ++ [c]).toArray).length = xs.length + 1 := by rw [KBw.ints_length]; simp
  refine KBc.itemR_K (i := -1) rfl (by rw [hl]; lia) (by rw [hl]; lia) (by decide) (fun t' k _ _ => ?_) hs ht
  have e : (KBw.bInts (xs ++ [c]).toArray).getD (-1 + ((KBw.bInts (xs ++ [c]).toArray).length : Int)).toNat 0 = (c.toNat : Int) := by
    rw [hl]
    have : (-1 + ((xs.length + 1 : Nat) : Int)).toNat = xs.length := by lia
    rw [this]
    simp [KBw.bInts]
  rw [e]
  exact h t' k
local macro_rules | `(tactic| walk_at "subscriptTail Name UnaryOp bytes int") => `(tactic| (refine bytes_last (by assumption) ?_; intro _ _; (try dsimp only)))
local macro_rules | `(tactic| walk_at "eval ListComp") => `(tactic| refine HoldK.out ?_)
local macro_rules | `(tactic| walk_at "call builtin:list.extend") => `(tactic| refine HoldK.out ?_)
section
variable {w : World} {mean : ExcName → Option Value} {mg mb : Str → Option Value}
noncomputable def InvR (qa qb I : Addr) (VL VU : List Nat) (news : List (Addr × Obj)) (vs : List Value) (m : Str → Option Value) (n' : List (Addr × Obj)) : Prop :=
  ∃ (segs : List Seg) (A B : List Nat) (ua ub : List Value) (ka kb : Nat), ChrsAre vs (segs.map (·.1)) ∧ (∀ x ∈ segs, SignOk x) ∧ n' = (qb, listOf ub.toArray kb) :: (qa, listOf ua.toArray ka) :: news ∧ IntsAre ua (A.map fun n : Nat => (n : Int)) ∧ IntsAre ub (B.map fun n : Nat => (n : Int)) ∧
    m (S "letters") = some (.ref qa) ∧ m (S "unseen") = some (.ref qb) ∧ VL = A ++ (segs.map (·.2.1)).flatten ∧ VU = B ++ (segs.map (·.2.2)).flatten ∧ A.length + 2 * segs.length ≤ 3000 ∧ B.length + segs.length ≤ 3000 ∧ (∀ p ∈ news, p.1 ≠ I)
set_option maxRecDepth 100000 in
set_option maxHeartbeats 8000000 in
theorem spec_read (l : Addr) (us : List Value) (segs : List Seg) (hi : ChrsAre us (segs.map (·.1))) (hg : ∀ x ∈ segs, SignOk x) (hlen : segs.length ≤ 1000) (n0 : Nat) {news : List (Addr × Obj)} (hl : (l, listOf us.toArray n0) ∈ news) :
    Spec w mean mg mb (.ref 153) [.ref l] 5 60 news (fun r n => ∃ (P qa qb : Addr) (ua ub : List Value) (ka kb : Nat) (cP : Obj), r = .ref P ∧ cP = { cls := .type "tuple", data := .seq #[.ref qa, .ref qb] } ∧ n = (P, cP) :: (qb, listOf ub.toArray kb) :: (qa, listOf ua.toArray ka) :: news ∧ IntsAre ua ((segs.map (·.2.1)).flatten.map fun n : Nat => (n : Int)) ∧ IntsAre ub ((segs.map (·.2.2)).flatten.map fun n : Nat => (n : Int)) ∧ (∀ p ∈ news, p.1 ≠ qa) ∧ (∀ p ∈ news, p.1 ≠ qb) ∧ (∀ p ∈ news, p.1 ≠ P) ∧ qa ≠ qb ∧ qa ≠ P ∧ qb ≠ P) := by
  refine spec_def (nm := nL19) (ar := aL19) (bd := bL19) (sc := sL19) (c := 152) (binds := [(S "text", .ref l)]) rfl rfl rfl rfl ?_ rfl rfl rfl rfl (by decide) (by decide)
  intro dp un gd outer A₀ base g L' h₁ s B F N G lt hd hu
  obtain ⟨X, T0, C⟩ := G
  dsimp only [bL19, sL19, S] at *
  k_steps
  unfold HoldK
  rename_i tk0 qa ha la hb qb hc lb hd2 F5 N5
  have nqa : ∀ p ∈ news, p.1 ≠ qa := fun p hp => Nat.ne_of_lt (la p hp)
  have nqb : ∀ p ∈ news, p.1 ≠ qb := fun p hp => Nat.ne_of_lt (allLt_get lb.2 p hp)
  have nab : qa ≠ qb := Nat.ne_of_lt lb.1
  refine iter_listUnr rfl F5 N5 (.tail _ (.tail _ hl)) rfl rfl fun I hI => listRest_ind (Inv := InvR qa qb I (segs.map (·.2.1)).flatten (segs.map (·.2.2)).flatten news) ?_ ?_ _ _ _ ⟨segs, [], [], [], [], _, _, hi, hg, rfl, .nil, .nil, rfl, rfl, rfl, rfl, by simp; lia, by simp; lia, fun p hp => Nat.ne_of_lt (hI p (.tail _ (.tail _ hp)))⟩
  · rintro m n' ⟨segs', A, B, ua, ub, ka, kb, hv, hg', rfl, hua, hub, mL, mU, hVL, hVU, hb1, hb2, hnI⟩ h tk F N
    cases hv' : segs' with
    | cons x r => rw [hv'] at hv; cases hv
    | nil =>
      subst hv'
      rename_i hk9
      k_steps
      rename Fr _ _ _ _ => F8
      rename_i P9 h8 N8 lP
      have eL : (segs.map (·.2.1)).flatten = A := by rw [hVL]; simp
      have eU : (segs.map (·.2.2)).flatten = B := by rw [hVU]; simp
      exact Ret.intro F8 N8 ⟨P9, qa, qb, ua, ub, ka, kb, _, rfl, rfl, rfl, by rw [eL]; exact hua, by rw [eU]; exact hub, nqa, nqb, fun p hp => Nat.ne_of_lt (allLt_get lP.2.2 p hp), nab, Nat.ne_of_lt lP.2.1, Nat.ne_of_lt lP.1⟩
  · rintro v r m n' ⟨segs', A, B, ua, ub, ka, kb, hv, hg', rfl, hua, hub, mL, mU, hVL, hVU, hb1, hb2, hnI⟩ it h tk hit F N
    rcases segs' with _ | ⟨x, segs2⟩
    · cases hv
    cases hv
    rename_i tc hv
    have qaI : qa ≠ I := Nat.ne_of_lt (hI (qa, _) (.tail _ (.head _)))
    have qbI : qb ≠ I := Nat.ne_of_lt (hI (qb, _) (.head _))
    simp only [List.length_cons] at hb1 hb2
    have hg2 : ∀ x ∈ segs2, SignOk x := fun y hy => hg' y (.tail _ hy)
    obtain ⟨hc0, ⟨u, hu16, rfl, hb⟩ | ⟨hnb, hn2, ha16, hl0, hl2, hmp⟩⟩ := sign_read (hg' x (.head _))
    · have g1 : ((65024 + u : Nat) : Int).natAbs = 65024 + u := Int.natAbs_natCast _
      have eap : apL (65024 + u) = apL 4064 ++ [UInt8.ofNat (65 + u)] := by
        rw [apL_pos (by lia)]
        have e1 : (65024 + u) / 16 = 4064 := by lia
        have e2 : (65024 + u) % 16 = u := by lia
        rw [e1, e2]
      have hz : (apL 4064).length ≤ 100000 := Nat.le_trans (apL_len 4 (by decide)) (by decide)
      have hcn : ((UInt8.ofNat (65 + u)).toNat : Int) = ((65 + u : Nat) : Int) := by
        rw [UInt8.toNat_ofNat']
        congr 1
        lia
      have hap : ((65024 + u : Nat) : Int).natAbs < 16 ^ 100 := by
        rw [g1]
        exact Nat.lt_of_lt_of_le (by lia : 65024 + u < 16 ^ 5) (Nat.pow_le_pow_right (by decide) (by decide))
      have g2 : ((UInt8.ofNat (65 + u)).toNat : Int) - 65 = ((u : Nat) : Int) := by rw [hcn]; lia
      have nqI : I ≠ qb := qbI.symm
      have hbl : ub.length < 90000 := by rw [hub.length, List.length_map]; lia
      k_steps
      (refine' Spec.use ?wS ?wB ?wF ?wN ?wX ?wT ?wC ?wk ?wd ?wu ?_; (case wB => k_asm); (case wF => k_asm); (case wN => k_asm); (case wX => k_asm); (case wT => k_asm); (case wC => k_asm); (case wk => exact rfl); (case wS => exact (spec_inB1 _ tc _)); (case wd => lia); (case wu => lia))
      rintro _ _ h2 tk2 ⟨rfl, rfl⟩ F2 N2
      rw [decide_eq_true hb]
      k_steps
      (refine' Spec.use ?wS ?wB ?wF ?wN ?wX ?wT ?wC ?wk ?wd ?wu ?_; (case wB => k_asm); (case wF => k_asm); (case wN => k_asm); (case wX => k_asm); (case wT => k_asm); (case wC => k_asm); (case wk => exact rfl); (case wS => exact (spec_ap _ _ _ hap)); (case wd => lia); (case wu => lia))
      rintro _ _ h3 tk3 ⟨⟨ta, rfl⟩, rfl⟩ F3 N3
      rw [g1, eap]
      k_steps
      rename Fr _ _ _ _ => F8
      rename News _ _ _ _ => N8
      refine UnrEnd.intro F8 N8 ((qb, _) :: (qa, listOf ua.toArray ka) :: news) (fun p hp => hp) (List.forall_mem_cons.mpr ⟨qbI, List.forall_mem_cons.mpr ⟨qaI, hnI⟩⟩) ⟨.tail _ (.tail _ hl), segs2, A, B ++ [u], ua, _, ka, _, hv, hg2, rfl, hua, ?_, mL, mU, ?_, ?_, by lia, by simp; lia, hnI⟩
      · rw [List.map_append]
        exact hub.append (.cons _ _ .nil)
      · rw [hVL]; simp
      · rw [hVU]; simp
    · k_steps
      (refine' Spec.use ?wS ?wB ?wF ?wN ?wX ?wT ?wC ?wk ?wd ?wu ?_; (case wB => k_asm); (case wF => k_asm); (case wN => k_asm); (case wX => k_asm); (case wT => k_asm); (case wC => k_asm); (case wk => exact rfl); (case wS => exact (spec_inB1 _ tc _)); (case wd => lia); (case wu => lia))
      rintro _ _ h2 tk2 ⟨rfl, rfl⟩ F2 N2
      rw [decide_eq_false hnb]
      k_steps
      unfold HoldK
      rename Fr _ _ _ _ => F5
      refine ListComp_S F5 (by with_unfolding_all rfl) (by decide) (by rfl) (by decide) (by rfl) ?_
      k_steps
      (refine' Spec.use ?wS ?wB ?wF ?wN ?wX ?wT ?wC ?wk ?wd ?wu ?_; (case wB => k_asm); (case wF => k_asm); (case wN => k_asm); (case wX => k_asm); (case wT => k_asm); (case wC => k_asm); (case wk => exact rfl); (case wS => exact (spec_map x.1 tc _)); (case wd => lia); (case wu => lia))
      rintro _ _ h3 tk3 ⟨⟨t3, rfl⟩, rfl⟩ F3 N3
      rw [hmp]
      have hcs : (strOf (x.2.1.map fun a => 97 + a)).cps.size = x.2.1.length := by
        show (List.toArray _).size = _
        rw [List.size_toArray, List.length_map]
      refine StrSrc.intro rfl F3 N3 (by rw [hcs]; lia) fun g' => ?_
      rw [hcs]
      refine compRest_ind (Inv := fun j i ys n' => i + j = x.2.1.length ∧ n' = (I, it) :: (qb, listOf ub.toArray kb) :: (qa, listOf ua.toArray ka) :: news ∧ IntsAre ys ((x.2.1.take i).map fun d : Nat => (d : Int))) ?_ ?_ _ _ _ _ ⟨by lia, rfl, .nil⟩
      · rintro i ys n' ⟨hij, rfl, hys⟩ D3 h7 tk7 F7 N7 o7
        have hi' : i = x.2.1.length := by lia
        subst hi'
        rw [List.take_length] at hys
        have hyl : ys.length = x.2.1.length := by rw [hys.length, List.length_map]
        have hal : ua.length ≤ 3000 := by rw [hua.length, List.length_map]; lia
        have m7 := off1_mem o7
        have hz1 : ua.length + ys.length ≤ 100000 := by lia
        k_steps
        unfold HoldK
        rename Fr _ _ _ _ => F8
        rename News _ _ _ _ => N8
        have U9 : Upd qa (listOf ua.toArray ka) (listOf (ua ++ ys).toArray (ka + 1)) ((D3, LCg.lst ys) :: (I, it) :: (qb, listOf ub.toArray kb) :: (qa, listOf ua.toArray ka) :: news) ((D3, LCg.lst ys) :: (I, it) :: (qb, listOf ub.toArray kb) :: (qa, listOf (ua ++ ys).toArray (ka + 1)) :: news) :=
          .tail (m7 _ (.tail _ (.tail _ (.head _)))).symm (.tail qaI.symm (.tail nab.symm (.head nqa)))
        refine kl_extend (its := ua.toArray) (its2 := ys.toArray) (n2 := ys.length) (b := D3) F8 N8 (.head _) rfl (by simp only [List.toList_toArray]; lia) U9 (extend_door (by rw [sizeLine_eq]; simp only [List.size_toArray]; lia)) (by rw [sizeLine_eq]; simp only [List.toList_toArray]; lia) (by rw [sizeLine_eq]; simp only [List.size_toArray]; lia) fun h9 F9 N9 => ?_
        clear F8 N8
        k_steps
        rename Fr _ _ _ _ => F10
        rename News _ _ _ _ => N10
        refine UnrEnd.intro F10 N10 ((qb, listOf ub.toArray kb) :: (qa, _) :: news) (fun p hp => .tail _ hp) (List.forall_mem_cons.mpr ⟨qbI, List.forall_mem_cons.mpr ⟨qaI, hnI⟩⟩) ⟨.tail _ (.tail _ hl), segs2, A ++ x.2.1, B, _, ub, _, kb, hv, hg2, rfl, ?_, hub, mL, mU, ?_, ?_, by simp; lia, by lia, hnI⟩
        · rw [List.map_append]
          exact hua.append hys
        · rw [hVL]; simp
        · rw [hVU, List.map_cons, List.flatten_cons, hn2]; simp
      · rintro j i ys n' ⟨hij, rfl, hys⟩ v I7 oI7 C7 oC7 D7 m₇ h7 tk7 E7 hv7 hC7 hx7 F7 N7 off7 ne7
        obtain ⟨ch, u7, hch, rfl⟩ := hv7
        obtain ⟨d, hd7, rfl⟩ : ∃ d, x.2.1[i]? = some d ∧ 97 + d = ch := by
          have hch' : (x.2.1.map fun d => 97 + d)[i]? = some ch := by
            have : (x.2.1.map fun d => 97 + d).toArray[i]? = some ch := hch
            simpa using this
          rw [List.getElem?_map] at hch'
          rcases hgd : x.2.1[i]? with _ | d
          · rw [hgd] at hch'; cases hch'
          · rw [hgd] at hch'; exact ⟨d, rfl, by simpa using hch'⟩
        have g1 : ((97 + d : Nat) : Int) - 97 = ((d : Nat) : Int) := by lia
        k_steps
        refine LCg.CompEnd.intro F7 N7 _ (fun p hp => hp) off7 trivial ⟨by lia, rfl, ?_⟩
        rw [List.take_add_one, hd7, Option.toList_some, List.map_append]
        exact hys.append (.cons _ _ .nil)
end
/-- an odd number that stands for what went wrong -/
noncomputable abbrev OddOk (o : Int) : Prop := o.fmod 2 = 1 ∧ o.natAbs < 16
noncomputable def turnGo (g w : Nat) : Nat → Nat → Int × Int
  | 0, _ => (0, 0)
  | k + 1, t =>
    if OddOk ((g * 2 ^ t % (2 ^ w - 1) : Nat) : Int) then (((g * 2 ^ t % (2 ^ w - 1) : Nat) : Int), (((w - t) % w : Nat) : Int))
    else if OddOk (((g * 2 ^ t % (2 ^ w - 1) : Nat) : Int) - ((2 ^ w - 1 : Nat) : Int)) then (((g * 2 ^ t % (2 ^ w - 1) : Nat) : Int) - ((2 ^ w - 1 : Nat) : Int), (((w - t) % w : Nat) : Int))
    else turnGo g w k (t + 1)
noncomputable def turnV (g w : Nat) : Int × Int := turnGo g w w 0
/-- figures to the base 16, the highest first, as a number -/
noncomputable def hexval : List Nat → Nat
  | [] => 0
  | d :: r => d * 16 ^ r.length + hexval r
theorem hexval_dval : ∀ l : List Nat, dval 4 ((l.map fun d : Nat => (d : Int)).reverse) = ((hexval l : Nat) : Int)
  | [] => rfl
  | d :: r => by
    rw [List.map_cons, List.reverse_cons, dval_append, hexval_dval r, List.length_reverse, List.length_map, hexval]
    have e : (2 : Int) ^ (r.length * 4) = ((16 ^ r.length : Nat) : Int) := by rw [Nat.mul_comm, Int.pow_mul]; norm_cast
    rw [e]
    show _ + (((d : Nat) : Int) + 0 * _) * _ = _
    rw [Int.zero_mul, Int.add_zero, Int.natCast_add, Int.natCast_mul]
    lia
theorem hexval_hexd (n : Nat) : ∀ k, hexval (hexd n k) = n % 16 ^ k
  | 0 => by rw [Nat.pow_zero, Nat.mod_one]; rfl
  | k + 1 => by
    rw [hexd, hexval, hexval_hexd n k, hexd_len, Nat.mod_pow_succ, Nat.mul_comm]
    lia
theorem hexval_lt : ∀ l : List Nat, (∀ d ∈ l, d < 16) → hexval l < 16 ^ l.length
  | [], _ => by decide
  | d :: r, h => by
    have h1 := hexval_lt r fun x hx => h x (.tail _ hx)
    have h2 : d < 16 := h d (.head _)
    have h3 : d * 16 ^ r.length ≤ 15 * 16 ^ r.length := Nat.mul_le_mul_right _ (by lia)
    rw [hexval, List.length_cons, Nat.pow_succ]
    lia
theorem hexval_set : ∀ (l : List Nat) (i v : Nat), i < l.length → ((hexval (l.set i v) : Nat) : Int) = ((hexval l : Nat) : Int) + (((v : Nat) : Int) - ((l.getD i 0 : Nat) : Int)) * ((16 ^ (l.length - 1 - i) : Nat) : Int)
  | [], _, _, h => by cases h
  | d :: r, 0, v, _ => by
    rw [List.set_cons_zero, hexval, hexval]
    have e : (d :: r).length - 1 - 0 = r.length := by simp
    rw [e]
    show _ = _ + (((v : Nat) : Int) - ((d : Nat) : Int)) * _
    rw [Int.natCast_add, Int.natCast_mul, Int.natCast_add, Int.natCast_mul, Int.sub_mul]
    lia
  | d :: r, i + 1, v, h => by
    rw [List.set_cons_succ, hexval, hexval, List.length_set]
    have h' : i < r.length := by simpa using h
    have e : (d :: r).length - 1 - (i + 1) = r.length - 1 - i := by simp; lia
    rw [e, Int.natCast_add, hexval_set r i v h', Int.natCast_add]
    show _ = _ + (((v : Nat) : Int) - ((r.getD i 0 : Nat) : Int)) * _
    lia
/-- the row that is sent, before anything is moved -/
noncomputable def rowL (w sz N : Nat) : List Nat := hexd N sz ++ (hexd (N % (2 ^ w - 1)) 4 ++ hexd (N % (2 ^ (w + 1) - 1)) 4)
theorem rowL_len (w sz N : Nat) : (rowL w sz N).length = sz + 8 := by rw [rowL, List.length_append, List.length_append, hexd_len, hexd_len, hexd_len]
noncomputable def sentF (row : List Nat) (pl st k : Nat) : Nat := if k = pl then (row.getD k 0 + st) % 16 else row.getD k 0
noncomputable def sentL (row : List Nat) (pl st : Nat) : List Nat := (List.range row.length).map (sentF row pl st)
theorem sentL_set (row : List Nat) (pl st : Nat) : sentL row pl st = row.set pl ((row.getD pl 0 + st) % 16) := by
  refine List.ext_getElem (by simp [sentL]) fun i h1 h2 => ?_
  have hi : i < row.length := by simpa [sentL] using h1
  simp only [sentL, List.getElem_map, List.getElem_range, sentF, List.getElem_set]
  by_cases e : i = pl
  · subst e; rw [if_pos rfl, if_pos rfl]
  · rw [if_neg e, if_neg (fun x => e x.symm)]; simp [hi]
theorem rowL_lt (w sz N : Nat) : ∀ d ∈ rowL w sz N, d < 16 := fun d hd => by
  rcases List.mem_append.mp hd with h | h
  · exact hexd_lt _ _ d h
  · rcases List.mem_append.mp h with h | h <;> exact hexd_lt _ _ d h
theorem sentL_lt (w sz N pl st : Nat) : ∀ d ∈ sentL (rowL w sz N) pl st, d < 16 := fun d hd => by
  obtain ⟨k, hk, rfl⟩ := List.mem_map.mp hd
  have hk' : k < (rowL w sz N).length := List.mem_range.mp hk
  unfold sentF
  split
  · exact Nat.mod_lt _ (by decide)
  · have : (rowL w sz N).getD k 0 = (rowL w sz N)[k] := by simp [hk']
    rw [this]
    exact rowL_lt w sz N _ (List.getElem_mem hk')
theorem sentL_len (w sz N pl st : Nat) : (sentL (rowL w sz N) pl st).length = sz + 8 := by rw [sentL, List.length_map, List.length_range, rowL_len]
/-- the sixteen odd numbers -/
noncomputable def oddV (o : Nat) : Int := if o < 8 then 2 * (o : Int) + 1 else -(2 * ((o - 8 : Nat) : Int) + 1)
theorem odd_tab : ∀ d : Fin 16, ∀ s : Fin 15, ∃ o : Fin 16, ∃ t : Fin 4, (((d.val + (s.val + 1)) % 16 : Nat) : Int) - ((d.val : Nat) : Int) = oddV o.val * ((2 ^ t.val : Nat) : Int) := by decide +kernel
theorem odd_lt : ∀ o : Fin 16, (oddV o.val).natAbs < 16 := by decide
theorem turn_tab : ∀ k : Fin 5, ∀ o : Fin 16, ∀ T : Fin 14, T.val < 9 + k.val → (oddV o.val * ((2 ^ T.val : Nat) : Int)).fmod ((2 ^ (9 + k.val) - 1 : Nat) : Int) ≠ 0 ∧ turnV ((oddV o.val * ((2 ^ T.val : Nat) : Int)).fmod ((2 ^ (9 + k.val) - 1 : Nat) : Int)).toNat (9 + k.val) = (oddV o.val, ((T.val : Nat) : Int)) := by decide +kernel
theorem pow_one_mod (M : Int) (b : Int) (h : b = 1 + M) : ∀ q : Nat, ∃ c : Int, b ^ q = 1 + c * M
  | 0 => ⟨0, by simp⟩
  | q + 1 => by
    obtain ⟨c, hc⟩ := pow_one_mod M b h q
    refine ⟨c + (1 + c * M), ?_⟩
    rw [Int.pow_succ, hc, h, Int.mul_add, Int.mul_one, Int.add_mul c]
    lia
theorem two_pow_mod {wk : Nat} (hw : 0 < wk) (T : Nat) : ∃ c : Int, ((2 ^ T : Nat) : Int) = ((2 ^ (T % wk) : Nat) : Int) + c * ((2 ^ wk - 1 : Nat) : Int) := by
  have hp : 1 ≤ 2 ^ wk := Nat.one_le_two_pow
  obtain ⟨c, hc⟩ := pow_one_mod ((2 ^ wk - 1 : Nat) : Int) ((2 ^ wk : Nat) : Int) (by lia) (T / wk)
  refine ⟨((2 ^ (T % wk) : Nat) : Int) * c, ?_⟩
  have e : 2 ^ T = 2 ^ (T % wk) * (2 ^ wk) ^ (T / wk) := by
    rw [← Nat.pow_mul, ← Nat.pow_add, Nat.mod_add_div]
  have e2 : (((2 ^ wk) ^ (T / wk) : Nat) : Int) = ((2 ^ wk : Nat) : Int) ^ (T / wk) := by norm_cast
  rw [e, Int.natCast_mul, e2, hc, Int.mul_add, Int.mul_one, Int.mul_assoc]
theorem gap_turn {wk N T : Nat} (o : Fin 16) (h9 : 9 ≤ wk) (h13 : wk ≤ 13) :
    let g := (((N : Nat) : Int) + oddV o.val * ((2 ^ T : Nat) : Int) - ((N % (2 ^ wk - 1) : Nat) : Int)).fmod ((2 ^ wk - 1 : Nat) : Int)
    g ≠ 0 ∧ turnV g.toNat wk = (oddV o.val, ((T % wk : Nat) : Int)) := by
  intro g
  have hp : 512 ≤ 2 ^ wk := Nat.pow_le_pow_right (n := 2) (by decide) h9
  have key : g = (oddV o.val * ((2 ^ (T % wk) : Nat) : Int)).fmod ((2 ^ wk - 1 : Nat) : Int) := by
    show Int.fmod _ _ = _
    obtain ⟨c, hc⟩ := two_pow_mod (show 0 < wk by lia) T
    have hN := Nat.mod_add_div N (2 ^ wk - 1)
    generalize hM : 2 ^ wk - 1 = M at *
    rw [hc, Int.fmod_eq_emod_of_nonneg _ (by lia), Int.fmod_eq_emod_of_nonneg _ (by lia)]
    have e : ((N : Nat) : Int) + oddV o.val * (((2 ^ (T % wk) : Nat) : Int) + c * ((M : Nat) : Int)) - ((N % M : Nat) : Int) = oddV o.val * ((2 ^ (T % wk) : Nat) : Int) + (((N / M : Nat) : Int) + oddV o.val * c) * ((M : Nat) : Int) := by
      have h1 : ((N : Nat) : Int) = ((N % M : Nat) : Int) + ((M : Nat) : Int) * ((N / M : Nat) : Int) := by
        rw [← Int.natCast_mul, ← Int.natCast_add, hN]
      rw [Int.mul_add, Int.add_mul, Int.mul_assoc, Int.mul_comm ((N / M : Nat) : Int)]
      lia
    rw [e, Int.add_mul_emod_self_right]
  have h := turn_tab ⟨wk - 9, by lia⟩ o ⟨T % wk, by have := Nat.mod_lt T (show 0 < wk by lia); lia⟩ (by have := Nat.mod_lt T (show 0 < wk by lia); show T % wk < 9 + (wk - 9); lia)
  dsimp only at h
  rw [show 9 + (wk - 9) = wk by lia] at h
  rw [key]
  exact h
theorem turn_back {w T : Nat} (h9 : 9 ≤ w) (h12 : w ≤ 12) (hT : T < w * (w + 1)) : ((T : Nat) : Int) = ((T % w : Nat) : Int) + ((w : Nat) : Int) * ((((T % w : Nat) : Int) - ((T % (w + 1) : Nat) : Int)).fmod (((w : Nat) : Int) + 1)) := by
  rw [Int.fmod_eq_emod_of_nonneg _ (by lia)]
  have : w = 9 ∨ w = 10 ∨ w = 11 ∨ w = 12 := by lia
  rcases this with rfl | rfl | rfl | rfl
  · simp only [Nat.reduceMul, Nat.reduceAdd] at hT; simp only [Nat.reduceAdd, Int.cast_ofNat_Int, Int.reduceAdd]; lia
  · simp only [Nat.reduceMul, Nat.reduceAdd] at hT; simp only [Nat.reduceAdd, Int.cast_ofNat_Int, Int.reduceAdd]; lia
  · simp only [Nat.reduceMul, Nat.reduceAdd] at hT; simp only [Nat.reduceAdd, Int.cast_ofNat_Int, Int.reduceAdd]; lia
  · simp only [Nat.reduceMul, Nat.reduceAdd] at hT; simp only [Nat.reduceAdd, Int.cast_ofNat_Int, Int.reduceAdd]; lia
theorem take_row (w sz N : Nat) : (rowL w sz N).take sz = hexd N sz := by
  rw [rowL, List.take_append_of_le_length (by rw [hexd_len]; lia), List.take_of_length_le (by rw [hexd_len]; lia)]
theorem drop_row (w sz N : Nat) : (rowL w sz N).drop sz = hexd (N % (2 ^ w - 1)) 4 ++ hexd (N % (2 ^ (w + 1) - 1)) 4 := by
  rw [rowL, List.drop_append_of_le_length (by rw [hexd_len]; lia), List.drop_of_length_le (by rw [hexd_len]; lia), List.nil_append]
theorem check_lt {w N : Nat} (h9 : 9 ≤ w) (h13 : w ≤ 13) : N % (2 ^ w - 1) < 16 ^ 4 := by
  have h1 : 512 ≤ 2 ^ w := Nat.pow_le_pow_right (n := 2) (by decide) h9
  have h2 : 2 ^ w ≤ 2 ^ 13 := Nat.pow_le_pow_right (by decide) h13
  have h3 := Nat.mod_lt N (show 0 < 2 ^ w - 1 by lia)
  have h4 : (16 : Nat) ^ 4 = 65536 := rfl
  have h5 : (2 : Nat) ^ 13 = 8192 := rfl
  lia
theorem check_val {w N : Nat} (h9 : 9 ≤ w) (h13 : w ≤ 13) : hexval (hexd (N % (2 ^ w - 1)) 4) = N % (2 ^ w - 1) := by
  rw [hexval_hexd, Nat.mod_eq_of_lt (check_lt h9 h13)]
theorem zero_gap {w N : Nat} (h9 : 9 ≤ w) : (((N : Nat) : Int) - ((N % (2 ^ w - 1) : Nat) : Int)).fmod ((2 ^ w - 1 : Nat) : Int) = 0 := by
  have hN := Nat.mod_add_div N (2 ^ w - 1)
  generalize 2 ^ w - 1 = M at *
  have e : ((N : Nat) : Int) - ((N % M : Nat) : Int) = ((M : Nat) : Int) * ((N / M : Nat) : Int) := by
    have h1 : ((N : Nat) : Int) = ((N % M : Nat) : Int) + ((M : Nat) : Int) * ((N / M : Nat) : Int) := by
      rw [← Int.natCast_mul, ← Int.natCast_add, hN]
    lia
  rw [e, Int.mul_fmod_right]
/-- what the law asks of its numbers -/
theorem law_math {w sz N pl st : Nat} (h9 : 9 ≤ w) (h12 : w ≤ 12) (hsz : 4 * sz ≤ w * (w + 1)) (hN : N < 16 ^ sz) (hst : 1 ≤ st ∧ st ≤ 15) (hpl : pl < sz + 9)
    {seen c0 c1 g0 g1 : Int} (e : seen = ((hexval ((sentL (rowL w sz N) pl st).take sz) : Nat) : Int)) (e0 : c0 = ((hexval (((sentL (rowL w sz N) pl st).drop sz).take 4) : Nat) : Int)) (e1 : c1 = ((hexval ((((sentL (rowL w sz N) pl st).drop sz).drop 4).take 4) : Nat) : Int))
    (f0 : g0 = (seen - c0).fmod ((2 ^ w - 1 : Nat) : Int)) (f1 : g1 = (seen - c1).fmod ((2 ^ (w + 1) - 1 : Nat) : Int)) :
    ((g0 = 0 ∨ g1 = 0) ∧ seen = ((N : Nat) : Int)) ∨ (g0 ≠ 0 ∧ g1 ≠ 0 ∧ ∃ (o : Int) (T : Nat), turnV g0.toNat w = (o, ((T % w : Nat) : Int)) ∧ turnV g1.toNat (w + 1) = (o, ((T % (w + 1) : Nat) : Int)) ∧ o.natAbs < 16 ∧ T < 200 ∧ ((T : Nat) : Int) = ((T % w : Nat) : Int) + ((w : Nat) : Int) * ((((T % w : Nat) : Int) - ((T % (w + 1) : Nat) : Int)).fmod (((w : Nat) : Int) + 1)) ∧ seen - o * ((2 ^ T : Nat) : Int) = ((N : Nat) : Int)) := by
  rw [sentL_set] at e e0 e1
  rw [List.take_set, take_row] at e
  rw [List.drop_set] at e0 e1
  have hv : hexval (hexd N sz) = N := by rw [hexval_hexd, Nat.mod_eq_of_lt hN]
  rcases Nat.lt_or_ge pl sz with hp | hp
  · rw [if_pos hp, drop_row] at e0 e1
    rw [List.take_append_of_le_length (by rw [hexd_len]; lia), List.take_of_length_le (by rw [hexd_len]; lia), check_val h9 (by lia)] at e0
    rw [List.drop_append_of_le_length (by rw [hexd_len]; lia), List.drop_of_length_le (by rw [hexd_len]; lia), List.nil_append, List.take_of_length_le (by rw [hexd_len]; lia), check_val (by lia) (by lia)] at e1
    have hrow : (rowL w sz N).getD pl 0 = (hexd N sz).getD pl 0 := by
      rw [List.getD_eq_getElem?_getD, List.getD_eq_getElem?_getD, rowL, List.getElem?_append_left (by rw [hexd_len]; exact hp)]
    rw [hexval_set _ _ _ (by rw [hexd_len]; exact hp), hv, hexd_len, hrow] at e
    have hd16 : (hexd N sz).getD pl 0 < 16 := by
      have : (hexd N sz).getD pl 0 = (hexd N sz)[pl]'(by rw [hexd_len]; exact hp) := by simp [hexd_len, hp]
      rw [this]
      exact hexd_lt _ _ _ (List.getElem_mem _)
    obtain ⟨o, t, hot⟩ := odd_tab ⟨(hexd N sz).getD pl 0, hd16⟩ ⟨st - 1, by lia⟩
    dsimp only at hot
    rw [show st - 1 + 1 = st by lia] at hot
    rw [hot] at e
    have eT : oddV o.val * ((2 ^ t.val : Nat) : Int) * ((16 ^ (sz - 1 - pl) : Nat) : Int) = oddV o.val * ((2 ^ (4 * (sz - 1 - pl) + t.val) : Nat) : Int) := by
      rw [Int.mul_assoc, ← Int.natCast_mul, Nat.pow_add, Nat.pow_mul, Nat.mul_comm]
    rw [eT] at e
    have hT : 4 * (sz - 1 - pl) + t.val < w * (w + 1) := by have := t.isLt; lia
    generalize 4 * (sz - 1 - pl) + t.val = T at *
    obtain ⟨a1, a2⟩ := gap_turn (N := N) (T := T) o h9 (by lia)
    obtain ⟨b1, b2⟩ := gap_turn (wk := w + 1) (N := N) (T := T) o (by lia) (by lia)
    rw [e, e0] at f0
    rw [e, e1] at f1
    refine .inr ⟨by rw [f0]; exact a1, by rw [f1]; exact b1, oddV o.val, T, by rw [f0]; exact a2, by rw [f1]; exact b2, odd_lt o, ?_, turn_back h9 h12 hT, by rw [e]; lia⟩
    have : w * (w + 1) ≤ 12 * 13 := Nat.mul_le_mul h12 (by lia)
    lia
  · rw [List.set_eq_of_length_le (by rw [hexd_len]; exact hp), hv] at e
    rw [if_neg (by lia), drop_row] at e0 e1
    refine .inl ⟨?_, e⟩
    rcases Nat.lt_or_ge (pl - sz) 4 with hq | hq
    · right
      rw [List.drop_set, if_pos hq, List.drop_append_of_le_length (by rw [hexd_len]; lia), List.drop_of_length_le (by rw [hexd_len]; lia), List.nil_append, List.take_of_length_le (by rw [hexd_len]; lia), check_val (by lia) (by lia)] at e1
      rw [f1, e, e1]
      exact zero_gap (by lia)
    · left
      rw [List.take_set, List.take_append_of_le_length (by rw [hexd_len]; lia), List.take_of_length_le (by rw [hexd_len]; lia), List.set_eq_of_length_le (by rw [hexd_len]; lia), check_val h9 (by lia)] at e0
      rw [f0, e, e0]
      exact zero_gap h9
theorem primeS4 : rw_ul0020_01.prog = rw_ul0020_01.prog ∧ KL = KL := by k_fill; exact ⟨rfl, rfl⟩
local macro_rules | `(tactic| walk_at "exec For Name List cons nil") => `(tactic| (k_here; (rename Fr _ _ _ _ => lF'); (with_unfolding_all refine' For_invVF lF' ?k1 ?k2 ?_; (case k1 => exact rfl); (case k2 => exact rfl); k_whole)))
section
variable {w : World} {mean : ExcName → Option Value} {mg mb : Str → Option Value}
noncomputable def InvTu (g wi : Nat) (I : Addr) (news : List (Addr × Obj)) (k i : Nat) (m : Str → Option Value) (n' : List (Addr × Obj)) : Prop :=
  ∃ tg tw th : Tok, i + k = wi ∧ n' = news ∧ turnV g wi = turnGo g wi k i ∧ m (S "gap") = some (.int (g : Int) tg) ∧ m (S "width") = some (.int (wi : Int) tw) ∧ m (S "whole") = some (.int ((2 ^ wi - 1 : Nat) : Int) th) ∧ ∀ p ∈ news, p.1 ≠ I
noncomputable def InvTi (m0 : Str → Option Value) (o1 o2 : Int) (I : Addr) (n0 : List (Addr × Obj)) (vs : List Value) (m : Str → Option Value) (n' : List (Addr × Obj)) : Prop :=
  n' = n0 ∧ (∀ y, y ≠ S "odd" → m y = m0 y) ∧ (∀ p ∈ n0, p.1 ≠ I) ∧ ((∃ t1 t2, vs = [.int o1 t1, .int o2 t2]) ∨ (∃ t2, vs = [.int o2 t2] ∧ ¬ OddOk o1) ∨ (vs = [] ∧ ¬ OddOk o1 ∧ ¬ OddOk o2))
set_option maxRecDepth 100000 in
set_option maxHeartbeats 8000000 in
theorem spec_turn (g wi : Nat) (hg : g < 2 ^ 13) (hw9 : 9 ≤ wi) (hw13 : wi ≤ 13) (t1 t2 : Tok) (news : List (Addr × Obj)) :
    Spec w mean mg mb (.ref 160) [.int g t1, .int wi t2] 3 40 news (PairR news (turnV g wi).1 (turnV g wi).2) := by
  refine spec_def (nm := nL20) (ar := aL20) (bd := bL20) (sc := sL20) (c := 159) (binds := [(S "gap", .int g t1), (S "width", .int wi t2)]) rfl rfl rfl rfl ?_ rfl rfl rfl rfl (by decide) (by decide)
  intro dp un gd outer A₀ base h0 L' h₁ s B F N G lt hd hu
  obtain ⟨X, T0, C⟩ := G
  dsimp only [bL20, sL20, S] at *
  have hp512 : 512 ≤ 2 ^ wi := Nat.pow_le_pow_right (by decide) hw9 (n := 2)
  have hp8192 : 2 ^ wi ≤ 2 ^ 13 := Nat.pow_le_pow_right (by decide) hw13
  have hq1 : (2 : Int) ^ ((wi : Nat) : Int).toNat = ((2 ^ wi : Nat) : Int) := by rw [Int.toNat_natCast]; norm_cast
  have hq2 : ((2 ^ wi : Nat) : Int) - 1 = ((2 ^ wi - 1 : Nat) : Int) := by lia
  have hq3 : (0 : Int) ≤ ((wi : Nat) : Int) := by lia
  have hq4 : ((wi : Nat) : Int) ≤ 1000000 := by lia
  k_steps
  unfold HoldK
  rename_i h2a F2a N2a h3 tk3 ta tb tc hR F3 N3 _
  obtain ⟨M, hM⟩ : ∃ M, 2 ^ wi - 1 = M := ⟨_, rfl⟩
  rw [hM] at F3
  have hp13 : (2 : Nat) ^ 13 = 8192 := rfl
  have hM0 : ((M : Nat) : Int) ≠ 0 := by lia
  have hw0 : ((wi : Nat) : Int) ≠ 0 := by lia
  refine iter_rangeUnr rfl hR (small_one (by decide) (by decide) (by lia) (by lia)) (rangeSize_nat _ _) F3 N3 fun I hI => rangeRest_ind (Inv := InvTu g wi I news) ?_ ?_ _ _ _ _ ⟨_, _, _, by lia, rfl, rfl, rfl, rfl, by rw [hM]; rfl, fun p hp => Nat.ne_of_lt (hI p hp)⟩
  · rintro i m n' ⟨tg, tw, th, hik, rfl, hV, mg', mw, mh, hnI⟩ h tk F N
    rw [turnGo] at hV
    k_steps
    rw [hV]
    rename Fr _ _ _ _ => F8
    rename_i P9 h8 N8 lP
    exact Ret.intro F8 N8 ⟨_, _, _, rfl, rfl, fun p hp => Nat.ne_of_lt (lP p hp)⟩
  · rintro k i m n' ⟨tg, tw, th, hik, rfl, hV, mg', mw, mh, hnI⟩ t h tk F N
    have ez : (0 : Int) + ((i : Nat) : Int) = ((i : Nat) : Int) := by lia
    rw [ez] at F
    rw [hM] at mh
    have hi13 : i ≤ 13 := by lia
    have hpi : 2 ^ i ≤ 2 ^ 13 := Nat.pow_le_pow_right (by decide) hi13
    have e1 : (2 : Int) ^ ((i : Nat) : Int).toNat = ((2 ^ i : Nat) : Int) := by rw [Int.toNat_natCast]; norm_cast
    have e1a : (0 : Int) ≤ ((i : Nat) : Int) := by lia
    have e1b : ((i : Nat) : Int) ≤ 1000000 := by lia
    rw [turnGo, hM] at hV
    generalize 2 ^ i = pw at *
    have e2 : ((g : Nat) : Int) * ((pw : Nat) : Int) = ((g * pw : Nat) : Int) := by push_cast; rfl
    have e2m : IntMulOk ((g : Nat) : Int) ((pw : Nat) : Int) := PySem.IntMulOk.of_right (PySem.intBits_le_64 (by lia) (by lia))
    have e3 : ((g * pw : Nat) : Int).fmod ((M : Nat) : Int) = ((g * pw % M : Nat) : Int) := fmod_nat _ _
    obtain ⟨r, hr⟩ : ∃ r, g * pw % M = r := ⟨_, rfl⟩
    rw [hr] at e3 hV
    have hrM : r < M := by rw [← hr]; exact Nat.mod_lt _ (by lia)
    obtain ⟨o2, ho2⟩ : ∃ o2, ((r : Nat) : Int) - ((M : Nat) : Int) = o2 := ⟨_, rfl⟩
    rw [ho2] at hV
    k_steps
    unfold HoldK
    rename Fr _ _ _ _ => F5
    rename_i tk6 h6 q h7 N5 lq
    have nqI : q ≠ I := (Nat.ne_of_lt lq.1).symm
    have sub1 : ((wi : Nat) : Int) - ((i : Nat) : Int) = ((wi - i : Nat) : Int) := by lia
    have mod1 : ((wi - i : Nat) : Int).fmod ((wi : Nat) : Int) = (((wi - i) % wi : Nat) : Int) := fmod_nat _ _
    obtain ⟨m0, hm0⟩ : ∃ m0 : Str → Option Value, (fun y => if y = Str.ofString "rest" then some (Value.int ((r : Nat) : Int) (tk6 + 1 + 1 + 1)) else if y = Str.ofString "turn" then some (Value.int ((i : Nat) : Int) t) else m y) = m0 := ⟨_, rfl⟩
    have k1 : m0 (S "gap") = some (.int (g : Int) tg) := by rw [← hm0]; exact mg'
    have k2 : m0 (S "width") = some (.int (wi : Int) tw) := by rw [← hm0]; exact mw
    have k3 : m0 (S "whole") = some (.int ((M : Nat) : Int) th) := by rw [← hm0]; exact mh
    have k4 : m0 (S "turn") = some (.int (i : Int) t) := by rw [← hm0]; rfl
    rw [hm0] at F5
    clear hm0
    refine iter_listUnr (vs := [Value.int ((r : Nat) : Int) (tk6 + 1 + 1 + 1), Value.int o2 tk]) rfl F5 N5 (.head _) rfl rfl fun J hJ => listRest_ind (Inv := InvTi m0 ((r : Nat) : Int) o2 J ((q, _) :: (I, _) :: n')) ?_ ?_ _ _ _ ⟨rfl, fun _ _ => rfl, fun p hp => Nat.ne_of_lt (hJ p hp), .inl ⟨_, _, rfl⟩⟩
    · rintro m9 n9 ⟨rfl, hm9, hnJ, hc⟩ h tk F N
      obtain ⟨n1, n2⟩ : ¬ OddOk ((r : Nat) : Int) ∧ ¬ OddOk o2 := by
        rcases hc with ⟨_, _, e⟩ | ⟨_, e, _⟩ | ⟨_, h1, h2⟩
        · cases e
        · cases e
        · exact ⟨h1, h2⟩
      k_steps
      exact UnrEnd.intro F N n' (fun p hp => .tail _ hp) hnI ⟨tg, tw, th, by lia, rfl, by rw [hV, if_neg n1, if_neg n2], (hm9 (S "gap") (by decide)).trans k1, (hm9 (S "width") (by decide)).trans k2, by rw [hM]; exact (hm9 (S "whole") (by decide)).trans k3, hnI⟩
    · rintro v rest m9 n9 ⟨rfl, hm9, hnJ, hc⟩ it h tk hit F N
      have k1' := (hm9 (S "gap") (by decide)).trans k1
      have k2' := (hm9 (S "width") (by decide)).trans k2
      have k4' := (hm9 (S "turn") (by decide)).trans k4
      obtain ⟨o, to, rfl, hor⟩ : ∃ (o : Int) (to : Tok), v = .int o to ∧ ((o = r ∧ ∃ t2, rest = [.int o2 t2]) ∨ (o = o2 ∧ rest = [] ∧ ¬ OddOk ((r : Nat) : Int))) := by
        rcases hc with ⟨a, b, e⟩ | ⟨b, e, hn⟩ | ⟨e, _⟩
        · cases e; exact ⟨_, _, rfl, .inl ⟨rfl, _, rfl⟩⟩
        · cases e; exact ⟨_, _, rfl, .inr ⟨rfl, rfl, hn⟩⟩
        · cases e
      obtain ⟨f, hf⟩ : ∃ f, o.fmod 2 = f := ⟨_, rfl⟩
      have hab : (if o < 0 then -o else o) = ((o.natAbs : Nat) : Int) := by split <;> lia
      rcases Classical.em (OddOk o) with hok | hok
      · obtain ⟨hok1, hok2⟩ := id hok
        rw [hf] at hok1
        have eV : turnV g wi = (o, (((wi - i) % wi : Nat) : Int)) := by
          rcases hor with ⟨e, _⟩ | ⟨e, _, hn⟩
          · rw [hV, if_pos (e ▸ hok), e]
          · rw [hV, if_neg hn, if_pos (e ▸ hok), e]
        k_steps
        all_goals first | (exfalso; lia) | (
          rw [eV]
          rename Fr _ _ _ _ => F8
          rename_i P9 h8 N8 lP
          have N9 := nsub N8 (b := (P9, _) :: n') (List.forall_mem_cons.mpr ⟨.head _, fun p hp => .tail _ (.tail _ (.tail _ (.tail _ hp)))⟩)
          exact Ret.intro F8 N9 ⟨_, _, _, rfl, rfl, fun p hp => Nat.ne_of_lt (allLt_get lP.2.2.2 p hp)⟩)
      · have hok' : ¬ (f = 1 ∧ o.natAbs < 16) := fun x => hok ⟨hf ▸ x.1, x.2⟩
        k_steps
        all_goals first | (exfalso; lia) | (
          rename Fr _ _ _ _ => F8
          rename News _ _ _ _ => N8
          refine UnrEnd.intro F8 N8 ((q, _) :: (I, _) :: n') (fun p hp => hp) hnJ ⟨.head _, rfl, fun y hy => ?_, hnJ, ?_⟩
          · dsimp only
            rw [if_neg (show ¬ y = Str.ofString "odd" from hy)]
            exact hm9 y hy
          · rcases hor with ⟨e, t2, e2⟩ | ⟨e, e2, hn⟩
            · exact .inr (.inl ⟨t2, e2, e ▸ hok⟩)
            · exact .inr (.inr ⟨e2, hn, e ▸ hok⟩))
end
section
variable {prog : Program} {w : World} {A : Around} {E : Value → Shared → Prop} {R : Result → Shared → Prop} {s : Shared}
theorem turn_out (elt t1 i1 t2 i2 : PySem.Expr) (scope : Scope) (pos : Pos) (it acc : Value) (env : Env) :
    compTurn (.ListComp elt [⟨t1, i1, [], 0⟩, ⟨t2, i2, [], 0⟩] scope pos) 0 it acc env = (standAt i1.pos >>= fun _ => pyNext it >>= fun r => match r with
      | none => pure (.done .next)
      | some v => letOwnedTupleGo t1 it v >>= fun _ => assign t1 env v >>= fun _ =>
        (eval i2 env >>= fun x => standAt i2.pos >>= fun _ => foldedSetIterable i2 env x >>= fun x => holding [x] (pyIter x) >>= fun it2 =>
          runOwn (.compStart (.ListComp elt [⟨t1, i1, [], 0⟩, ⟨t2, i2, [], 0⟩] scope pos) 1 it2 acc env) env >>= fun _ => again (.compLoop (.ListComp elt [⟨t1, i1, [], 0⟩, ⟨t2, i2, [], 0⟩] scope pos) 0 it acc env))) := by rfl
theorem turn_in (elt t1 i1 t2 i2 : PySem.Expr) (scope : Scope) (pos : Pos) (it acc : Value) (env : Env) :
    compTurn (.ListComp elt [⟨t1, i1, [], 0⟩, ⟨t2, i2, [], 0⟩] scope pos) 1 it acc env = (standAt i2.pos >>= fun _ => pyNext it >>= fun r => match r with
      | none => pure (.done .next)
      | some v => letOwnedTupleGo t2 it v >>= fun _ => assign t2 env v >>= fun _ =>
        (eval elt env >>= fun x => call (.builtin "list.append") [acc, x] >>= fun _ => pure ()) >>= fun _ =>
          again (.compLoop (.ListComp elt [⟨t1, i1, [], 0⟩, ⟨t2, i2, [], 0⟩] scope pos) 1 it acc env)) := by rfl
theorem loop_in {elt t1 i1 t2 i2 : PySem.Expr} {scope : Scope} {pos : Pos} {it acc : Value} {env : Env} (I : Nat → Shared → Prop)
    (turn : ∀ n s, I n s → wpAny (model prog w) A (pyNext it) (fun r s₁ => match r with
      | none => R (.ok .next) s₁
      | some v => wpAny (model prog w) A (assign t2 env v) (fun _ s₂ => wpAny (model prog w) A (eval elt env) (fun x s₃ =>
          wpAny (model prog w) A (call (.builtin "list.append") [acc, x]) (fun _ s₄ => ∃ m, m < n ∧ I m s₄) (notedBy (model prog w) A env fun e s' => R (.error e) s') s₃)
          (notedBy (model prog w) A env fun e s' => R (.error e) s') s₂) (notedBy (model prog w) A env fun e s' => R (.error e) s') s₁) (notedBy (model prog w) A env fun e s' => R (.error e) s') s)
    (n : Nat) (h : I n s) (ht : ∀ v, letOwnedTupleGo t2 it v = pure () := by intro _; rfl) :
    codeAny (model prog w) A (.compLoop (.ListComp elt [⟨t1, i1, [], 0⟩, ⟨t2, i2, [], 0⟩] scope pos) 1 it acc env) R s := by
  refine codeAny_loop rfl I (fun n s hI => ?_) n h
  show wpAny _ _ ((compTurn (.ListComp elt [⟨t1, i1, [], 0⟩, ⟨t2, i2, [], 0⟩] scope pos) 1 it acc env).onRaise (fun x => do noteFrame x env; theTreesLotGoes x)) _ _ s
  refine wpAny_noted ?_
  rw [turn_in]
  refine wpAny_bind (wpAny_standAt (wpAny_bind (wpAny_mono (turn n s hI) (fun r s₁ h₁ => ?_) fun _ _ h' => h')))
  cases r with
  | none => exact wpAny_pure h₁
  | some v =>
    refine wpAny_bind (wpAny_of_eq (ht v) ?_)
    exact wpAny_bind (wpAny_mono h₁ (fun _ s₂ h₂ => wpAny_bind (wpAny_bind (wpAny_mono h₂ (fun x s₃ h₃ => wpAny_bind (wpAny_mono h₃
      (fun _ s₄ h₄ => wpAny_pure (wpAny_pure ⟨rfl, h₄⟩)) fun _ _ h' => h')) fun _ _ h' => h'))) fun _ _ h' => h')
theorem loop_out {elt t1 i1 t2 i2 : PySem.Expr} {scope : Scope} {pos : Pos} {it acc : Value} {env : Env} (I : Nat → Shared → Prop)
    (turn : ∀ n s, I n s → wpAny (model prog w) A (pyNext it) (fun r s₁ => match r with
      | none => R (.ok .next) s₁
      | some v => wpAny (model prog w) A (assign t1 env v) (fun _ s₂ => wpAny (model prog w) A (eval i2 env) (fun x s₃ =>
          wpAny (model prog w) A (pyIter x) (fun it2 s₄ => codeAny (model prog w) (A.mark none) (.compStart (.ListComp elt [⟨t1, i1, [], 0⟩, ⟨t2, i2, [], 0⟩] scope pos) 1 it2 acc env) (fun r s' => match r with | .ok f => ∃ m, m < n ∧ I m s' | .error _ => False) s₄)
          (notedBy (model prog w) A env fun e s' => R (.error e) s') s₃)
          (notedBy (model prog w) A env fun e s' => R (.error e) s') s₂) (notedBy (model prog w) A env fun e s' => R (.error e) s') s₁) (notedBy (model prog w) A env fun e s' => R (.error e) s') s)
    (n : Nat) (h : I n s) (ht : ∀ v, letOwnedTupleGo t1 it v = pure () := by intro _; rfl) (hs : ∀ x, foldedSetIterable i2 env x = pure x := by intro _; rfl) :
    codeAny (model prog w) A (.compLoop (.ListComp elt [⟨t1, i1, [], 0⟩, ⟨t2, i2, [], 0⟩] scope pos) 0 it acc env) R s := by
  refine codeAny_loop rfl I (fun n s hI => ?_) n h
  show wpAny _ _ ((compTurn (.ListComp elt [⟨t1, i1, [], 0⟩, ⟨t2, i2, [], 0⟩] scope pos) 0 it acc env).onRaise (fun x => do noteFrame x env; theTreesLotGoes x)) _ _ s
  refine wpAny_noted ?_
  rw [turn_out]
  refine wpAny_bind (wpAny_standAt (wpAny_bind (wpAny_mono (turn n s hI) (fun r s₁ h₁ => ?_) fun _ _ h' => h')))
  cases r with
  | none => exact wpAny_pure h₁
  | some v =>
    refine wpAny_bind (wpAny_of_eq (ht v) ?_)
    refine wpAny_bind (wpAny_mono h₁ (fun _ s₂ h₂ => ?_) fun _ _ h' => h')
    refine wpAny_bind (wpAny_mono h₂ (fun x s₃ h₃ => ?_) fun _ _ h' => h')
    refine wpAny_bind (wpAny_standAt ?_)
    refine wpAny_bind (wpAny_of_eq (hs x) ?_)
    refine wpAny_bind (wpAny_holding (wpAny_mono h₃ (fun it2 s₄ h₄ => ?_) fun _ _ h' => h'))
    refine wpAny_bind (wpAny_runOwn (codeAny_mono h₄ fun r s' hr => ?_))
    cases r with
    | ok f => exact wpAny_pure ⟨rfl, hr⟩
    | error e => exact hr.elim
theorem start_in {elt t1 i1 t2 i2 : PySem.Expr} {scope : Scope} {pos : Pos} {it acc : Value} {env : Env}
    (h0 : codeAny (model prog w) A (.compLoop (.ListComp elt [⟨t1, i1, [], 0⟩, ⟨t2, i2, [], 0⟩] scope pos) 1 it acc env) R s)
    (h : wpAny (model prog w) A (pyIter it) (fun it' s' => codeAny (model prog w) A (.compLoop (.ListComp elt [⟨t1, i1, [], 0⟩, ⟨t2, i2, [], 0⟩] scope pos) 1 it' acc env) R s')
      (notedBy (model prog w) A env fun x s' => R (.error x) s') s) :
    codeAny (model prog w) A (.compStart (.ListComp elt [⟨t1, i1, [], 0⟩, ⟨t2, i2, [], 0⟩] scope pos) 1 it acc env) R s := by
  refine codeAny_of_tree ?_
  show wpAny _ _ ((compStart (.ListComp elt [⟨t1, i1, [], 0⟩, ⟨t2, i2, [], 0⟩] scope pos) 1 it acc env).onRaise (fun x => do noteFrame x env; standAt theWindowsPlace)) _ _ s
  refine wpAny_notedAt ?_
  unfold compStart
  show wpAny _ _ (ask >>= _) _ _ s
  refine wpAny_bind (wpAny_askSetting (wpAny_ite ?_))
  split
  · first
      | exact wpAny_bind (wpAny_pure (wpAny_pure (And.intro rfl h0)))
      | exact wpAny_pure (And.intro rfl h0)
  · first
      | exact wpAny_bind (wpAny_rule (wpAny_bind (wpAny_standAt (wpAny_bind (wpAny_mono h (fun it' s' h' => wpAny_pure (And.intro rfl h')) fun _ _ x => x)))))
      | (refine wpAny_bind (wpAny_rule ?_); show wpAny _ _ (standAt i2.pos >>= _) _ _ s; exact wpAny_bind (wpAny_standAt (wpAny_bind (wpAny_mono h (fun it' s' h' => wpAny_pure (And.intro rfl h')) fun _ _ x => x))))
end
theorem mark_none (A : Around) : A.mark none = A := by cases A; rfl
/-- the sum list of a two-clause comprehension -/
noncomputable def twice (as bs : List Int) (f : Int → Int → Int) : List Int := (as.map fun a => bs.map (f a)).flatten
theorem ints_at {vs : List Value} {ns : List Int} (h : IntsAre vs ns) : ∀ {k : Nat} {v : Value}, vs[k]? = some v → ∃ n t, ns[k]? = some n ∧ v = .int n t := by
  induction h with
  | nil => intro k v e; simp at e
  | cons n t _ ih =>
    intro k v e
    cases k with
    | zero => exact ⟨n, t, rfl, by simpa using e.symm⟩
    | succ k => exact ih (by simpa using e)
section
variable {prog : Program} {w : World} {A : Around} {E : Value → Shared → Prop} {s : Shared} {h₀ : Heap} {L ax : Addr} {m : Str → Option Value} {env : Env} {news : List (Addr × Obj)}
set_option maxHeartbeats 2000000 in
theorem ListComp2 {elt iter i2 : PySem.Expr} {x y : Str} {px py : Pos} {scope : Scope} {cl : List (Str × Addr)} {pos : Pos} {Q : Value → Shared → Prop} {vs : List Value} {as bs : List Int} {n : Nat} {f : Int → Int → Int}
    (hh : A.handled = none) (F : Fr h₀ L s.heap m) (N : News h₀ L s.heap news)
    (hclos : closureFor scope env = pure cl) (hcell : ∀ y ∈ scope.names, y.2 ≠ .cell) (hkind : scope.kind = .function)
    (hnames : ∀ y ∈ scope.names, y.2 = .local → scope.names.lookup y.1 = some .local) (hx : scope.names.lookup x = some .local) (hy : scope.names.lookup y = some .local) (hxy : x ≠ y)
    (hm : (ax, W.listOf vs.toArray n) ∈ news) (hi : IntsAre vs as) (hz : as.length ≤ 100) (hzb : bs.length ≤ 100)
    (hiter : ∀ (Q' : Value → Shared → Prop), Q' (.ref ax) s → wpAny (model prog w) A (eval iter env) Q' E s)
    (htup : ∀ (C : Addr) (s' : Shared) (Q' E' : Value → Shared → Prop), (∀ us tk, IntsAre us bs → Q' (.ref s'.heap.objs.size) { s' with heap := s'.heap.push { cls := .type "tuple", data := .seq us.toArray }, toks := tk }) → wpAny (model prog w) A (eval i2 (compEnvC scope cl C env)) Q' E' s')
    (helt : ∀ (C : Addr) (m₂ : Str → Option Value) (s' : Shared) (a b : Int) (ta tb : Tok) (Q' E' : Value → Shared → Prop), a ∈ as → b ∈ bs → s'.heap.Ns C m₂ → m₂ x = some (.int a ta) → m₂ y = some (.int b tb) → (∀ t tk, Q' (.int (f a b) t) { s' with toks := tk }) → wpAny (model prog w) A (eval elt (compEnvC scope cl C env)) Q' E' s')
    (h : ∀ D h' tk ys, Fr h₀ L h' m → News h₀ L h' ((D, LCg.lst ys) :: news) → (∀ p ∈ news, p.1 < D) → IntsAre ys (twice as bs f) → Q (.ref D) { s with heap := h', toks := tk })
    (hs : ∀ x, foldedSetIterable iter env x = pure x := by intro _; rfl) (hs2 : ∀ e x, foldedSetIterable i2 e x = pure x := by intro _ _; rfl) :
    wpAny (model prog w) A (eval (.ListComp elt [⟨.Name x px, iter, [], 0⟩, ⟨.Name y py, i2, [], 0⟩] scope pos) env) Q E s := by
  rw [eval_ListComp]
  refine wpAny_comprehension_free (use := none) rfl hs hclos hkind hnames (hiter _ ?_)
  have hax := N _ hm
  have hl : s.heap.IsList ax vs.toArray := ⟨_, hax.1, rfl, n, rfl⟩
  have hlt : ax < s.heap.objs.size := Heap.lt_size hax.1
  refine wpAny_pyIter_list hl ?_
  generalize hI : s.heap.objs.size = I at *
  refine wpAny_newObj_type (wpAny_newFunctionEnv hcell (by intro y hy; simp at hy) (fun h₁ hns₁ hsb₁ => ?_) hkind)
  dsimp only at hns₁ hsb₁ ⊢
  generalize hH1 : s.heap.push { cls := .type "list_iterator", data := .fields #[.ref ax, .int 0 0] } = H1 at *
  generalize hH2 : H1.push { cls := .type "list", dict := none, data := .seq ([] : List Value).toArray } = H2 at hns₁ hsb₁ ⊢
  have hD : H1.objs.size = I + 1 := by rw [← hH1, Heap.size_push, hI]
  generalize hDD : H1.objs.size = D at *
  have hC : H2.objs.size = D + 1 := by rw [← hH2, Heap.size_push, hDD]
  generalize hCC : H2.objs.size = C at *
  have blt : ∀ (b : Nat) o, s.heap.get? b = some o → @LT.lt Nat _ b I := fun b o e => hI ▸ Heap.lt_size e
  have old1 : ∀ b o, s.heap.get? b = some o → H1.get? b = some o := fun b o e => hH1 ▸ Heap.get?_push_of_some _ e
  have old2 : ∀ b o, H1.get? b = some o → h₁.get? b = some o := fun b o e => hsb₁.extBut b o (by
    have h1 : @LT.lt Nat _ b D := hDD ▸ Heap.lt_size e
    intro q
    have q' : @Eq Nat b C := q
    lia) (Heap.get?_push_of_some _ (hH2 ▸ Heap.get?_push_of_some _ e))
  have old : ∀ b o, s.heap.get? b = some o → h₁.get? b = some o := fun b o e => old2 b o (old1 b o e)
  have zI : H1.get? I = some { cls := .type "list_iterator", data := .fields #[.ref ax, .int 0 0] } := by rw [← hH1, ← hI]; exact Heap.get?_push_size _ rfl
  have zD : h₁.get? D = some (LCg.lst []) := hsb₁.extBut D _ (by intro q; have q' : @Eq Nat D C := q; lia) (Heap.get?_push_of_some _ (by rw [← hH2, ← hDD]; exact Heap.get?_push_size _ rfl))
  have F1 : Fr h₀ L h₁ m := F.keeps old
  have N1 : News h₀ L h₁ news := fun p hp => ⟨old _ _ (N p hp).1, (N p hp).2⟩
  have hLI : @LT.lt Nat _ L I := hI ▸ F.ns.lt
  have above : ∀ (b : Nat), @LE.le Nat _ I b → h₀.get? b = none := fun b hb => by
    cases e : h₀.get? b with
    | none => rfl
    | some o => have := blt b o (F.keep b o e); lia
  have hCL : C ≠ L := by intro q; have q' : @Eq Nat C L := q; lia
  have hDL : D ≠ L := by intro q; have q' : @Eq Nat D L := q; lia
  have hIL : I ≠ L := by intro q; have q' : @Eq Nat I L := q; lia
  have nlt : ∀ p ∈ news, @LT.lt Nat _ p.1 I := fun p hp => blt p.1 p.2 (N p hp).1
  have hvl : vs.length = as.length := hi.length
  have W1 := Walks.list (prog := prog) (w := w) hh I ax (by intro q; have := nlt _ hm; have q' : @Eq Nat ax I := q; lia) vs.toArray
  -- the outer loop
  have loop : codeAny (model prog w) A (.compLoop (.ListComp elt [⟨.Name x px, iter, [], 0⟩, ⟨.Name y py, i2, [], 0⟩] scope pos) 0 (.ref I) (.ref D) (compEnvC scope cl C env))
      (fun r s' => r = .ok .next ∧ ∃ h' tk m' ys, s' = { s with heap := h', toks := tk } ∧ Fr h₀ L h' m ∧ h'.Ns C m' ∧ News h₀ L h' ((D, LCg.lst ys) :: news) ∧ IntsAre ys (twice as bs f)) { s with heap := h₁, toks := s.toks + ([] : List (Str × Value)).length } := by
    refine loop_out (fun k s' => ∃ h' tk i m' ys, s' = { s with heap := h', toks := tk } ∧ i ≤ as.length ∧ k = as.length - i ∧ (h'.IsListIter I ax i ∧ h'.IsList ax vs.toArray) ∧ Fr h₀ L h' m ∧ h'.Ns C m' ∧ News h₀ L h' ((D, LCg.lst ys) :: news) ∧ IntsAre ys (twice (as.take i) bs f)) ?_ as.length ⟨h₁, _, 0, _, [], rfl, Nat.zero_le _, rfl, ⟨⟨_, old2 _ _ zI, rfl, rfl⟩, ⟨_, old _ _ hax.1, rfl, n, rfl⟩⟩, F1, hns₁, ?_, .nil⟩ (by intro _; rfl) (by intro x; exact hs2 _ x)
    · rintro k s' ⟨h', tk, i, m', ys, rfl, hi', rfl, hst, F', hn', N', hys⟩
      have nCI : C ∉ [I] := by intro q; have q' : @Eq Nat C I := List.mem_singleton.mp q; lia
      have axI : @Ne Nat ax I := by have := nlt _ hm; intro q; have q' : @Eq Nat ax I := q; lia
      have axlt : @LT.lt Nat _ ax I := nlt _ hm
      have offI : ∀ p ∈ (D, LCg.lst ys) :: news, p.1 ≠ I := fun p hp => by
        rcases List.mem_cons.mp hp with rfl | hp
        · intro q; have q' : @Eq Nat D I := q; lia
        · intro q; have q' : @Eq Nat p.1 I := q; have := nlt p hp; lia
      have hI0 : h₀.get? I = none := above _ (Nat.le_refl _)
      have hC0 : h₀.get? C = none := above _ (by lia)
      have hD0 : h₀.get? D = none := above _ (by lia)
      rcases Nat.lt_or_ge i as.length with hl1 | hl1
      · refine W1.item i _ _ _ (by simp only [List.size_toArray]; lia) hst fun v h₂ tk₂ hPv hst₂ hk₂ => ?_
        obtain ⟨a, ta, hai, rfl⟩ := ints_at hi (show vs[i]? = some v by simpa using hPv)
        refine wpAny_assign_Name (wpAny_storeName_local (lookup_relabel_local hx) (hn'.at' fun o e => hk₂ _ o nCI e) (fun h₃ hn₃ hs₃ => ?_) (by simp [compEnvC, relabel, hkind]))
        have F3 : Fr h₀ L h₃ m := (LCg.fr_but F' hk₂ hIL.symm hI0).change hs₃ hCL hC0
        have st3 : h₃.IsListIter I ax (i + 1) ∧ h₃.IsList ax vs.toArray := W1.frame _ _ _ hst₂ fun b hb o e => hs₃.extBut b o (by
          intro q
          have q' : @Eq Nat b C := q
          rcases List.mem_cons.mp hb with e1 | hb
          · have e1' : @Eq Nat b I := e1; lia
          · have e1' : @Eq Nat b ax := List.mem_singleton.mp hb; lia) e
        have N3 : News h₀ L h₃ ((D, LCg.lst ys) :: news) := fun p hp => by
          have z := LCg.news_but N' hk₂ offI p hp
          refine ⟨hs₃.extBut _ _ ?_ z.1, z.2⟩
          intro q
          have q' : @Eq Nat p.1 C := q
          rcases List.mem_cons.mp hp with e1 | hp
          · have e1' : @Eq Nat p.1 D := by rw [e1]
            lia
          · have := nlt p hp; lia
        refine htup C _ _ _ fun us tk₃ hus => ?_
        dsimp only
        generalize hT : h₃.objs.size = T
        have ht : (h₃.push { cls := .type "tuple", data := .seq us.toArray }).IsTuple T us.toArray := ⟨_, by rw [← hT]; exact Heap.get?_push_size _ rfl, rfl, _, rfl⟩
        generalize hH4 : h₃.push { cls := .type "tuple", data := .seq us.toArray } = H4 at *
        have up4 : ∀ b o, h₃.get? b = some o → H4.get? b = some o := fun b o e => hH4 ▸ Heap.get?_push_of_some _ e
        have blt3 : ∀ (b : Nat) o, h₃.get? b = some o → @LT.lt Nat _ b T := fun b o e => hT ▸ Heap.lt_size e
        have sz4 : H4.objs.size = T + 1 := by rw [← hH4, Heap.size_push, hT]
        refine wpAny_pyIter_tuple ht ?_
        dsimp only
        rw [sz4]
        generalize hJ : T + 1 = J
        have zJ : (H4.push { cls := .type "tuple_iterator", data := .fields #[.ref T, .int 0 0] }).get? J = some { cls := .type "tuple_iterator", data := .fields #[.ref T, .int 0 0] } := by rw [← hJ, ← sz4]; exact Heap.get?_push_size _ rfl
        have up5 : ∀ b o, H4.get? b = some o → (H4.push { cls := .type "tuple_iterator", data := .fields #[.ref T, .int 0 0] }).get? b = some o := fun b o e => Heap.get?_push_of_some _ e
        generalize H4.push { cls := .type "tuple_iterator", data := .fields #[.ref T, .int 0 0] } = H5 at *
        have up : ∀ b o, h₃.get? b = some o → H5.get? b = some o := fun b o e => up5 b o (up4 b o e)
        have lC : @LT.lt Nat _ C T := by obtain ⟨o, _, _, e, _⟩ := hn₃; exact blt3 _ _ e
        have lI : @LT.lt Nat _ I T := by obtain ⟨o, e, _⟩ := st3.1; exact blt3 _ _ e
        have lD : @LT.lt Nat _ D T := blt3 _ _ (N3 _ (.head _)).1
        have lL : @LT.lt Nat _ L T := hT ▸ F3.ns.lt
        have above3 : ∀ (b : Nat), @LE.le Nat _ T b → h₀.get? b = none := fun b hb => by
          cases e : h₀.get? b with
          | none => rfl
          | some o => have := blt3 b o (F3.keep b o e); lia
        have W2 := Walks.tuple (prog := prog) (w := w) hh J T (by intro q; have q' : @Eq Nat T J := q; lia) us.toArray
        have hul : us.length = bs.length := hus.length
        rw [mark_none]
        have inner : codeAny (model prog w) A (.compLoop (.ListComp elt [⟨.Name x px, iter, [], 0⟩, ⟨.Name y py, i2, [], 0⟩] scope pos) 1 (.ref J) (.ref D) (compEnvC scope cl C env))
            (fun r s' => match r with | .ok f_1 => ∃ m_1, m_1 < as.length - i ∧ ∃ h' tk i m' ys, s' = { s with heap := h', toks := tk } ∧ i ≤ as.length ∧ m_1 = as.length - i ∧ (h'.IsListIter I ax i ∧ h'.IsList ax vs.toArray) ∧ Fr h₀ L h' m ∧ h'.Ns C m' ∧ News h₀ L h' ((D, LCg.lst ys) :: news) ∧ IntsAre ys (twice (as.take i) bs f) | .error _ => False) { s with heap := H5, toks := tk₃ } := by
          refine loop_in (fun k s' => ∃ h' tk j m' ys, s' = { s with heap := h', toks := tk } ∧ j ≤ bs.length ∧ k = bs.length - j ∧ (h'.IsTupleIter J T j ∧ h'.IsTuple T us.toArray) ∧ (h'.IsListIter I ax (i + 1) ∧ h'.IsList ax vs.toArray) ∧ Fr h₀ L h' m ∧ h'.Ns C m' ∧ m' x = some (.int a ta) ∧ News h₀ L h' ((D, LCg.lst ys) :: news) ∧ IntsAre ys (twice (as.take i) bs f ++ (bs.take j).map (f a))) ?_ bs.length
            ⟨H5, tk₃, 0, _, ys, rfl, Nat.zero_le _, rfl, ⟨⟨_, zJ, rfl, rfl⟩, ht.at fun o e => up5 _ _ e⟩, ⟨st3.1.at fun o e => up _ _ e, st3.2.at fun o e => up _ _ e⟩, F3.keeps up, hn₃.at' fun o e => up _ _ e, by simp, N3.grown up, by simpa using hys⟩ (by intro _; rfl)
          rintro k s' ⟨h6, tk6, j, m6, ys6, rfl, hj', rfl, hstJ, hstI, F6, hn6, m6x, N6, hys6⟩
          have nCJ : C ∉ [J] := by intro q; have q' : @Eq Nat C J := List.mem_singleton.mp q; lia
          have offJ : ∀ p ∈ (D, LCg.lst ys6) :: news, p.1 ≠ J := fun p hp => by
            rcases List.mem_cons.mp hp with rfl | hp
            · intro q; have q' : @Eq Nat D J := q; lia
            · intro q; have q' : @Eq Nat p.1 J := q; have := nlt p hp; lia
          have hJ0 : h₀.get? J = none := above3 _ (by lia)
          have hJL : L ≠ J := by intro q; have q' : @Eq Nat L J := q; lia
          have keepI : ∀ {ha hb : Heap}, (ha.IsListIter I ax (i + 1) ∧ ha.IsList ax vs.toArray) → (∀ b o, b ∉ [J] → ha.get? b = some o → hb.get? b = some o) → (hb.IsListIter I ax (i + 1) ∧ hb.IsList ax vs.toArray) := fun st hk => W1.frame _ _ _ st fun b hb o e => hk b o (by
            intro q
            have q' : @Eq Nat b J := List.mem_singleton.mp q
            rcases List.mem_cons.mp hb with e1 | hb
            · have e1' : @Eq Nat b I := e1; lia
            · have e1' : @Eq Nat b ax := List.mem_singleton.mp hb; lia) e
          rcases Nat.lt_or_ge j bs.length with hl2 | hl2
          · refine W2.item j _ _ _ (by simp only [List.size_toArray]; lia) hstJ fun u h7 tk7 hPu hst7 hk7 => ?_
            obtain ⟨b, tb, hbj, rfl⟩ := ints_at hus (show us[j]? = some u by simpa using hPu)
            refine wpAny_assign_Name (wpAny_storeName_local (lookup_relabel_local hy) (hn6.at' fun o e => hk7 _ o nCJ e) (fun h8 hn8 hs8 => ?_) (by simp [compEnvC, relabel, hkind]))
            have F8 : Fr h₀ L h8 m := (LCg.fr_but F6 hk7 hJL hJ0).change hs8 hCL hC0
            have stJ8 : h8.IsTupleIter J T (j + 1) ∧ h8.IsTuple T us.toArray := W2.frame _ _ _ hst7 fun b hb o e => hs8.extBut b o (by
              intro q
              have q' : @Eq Nat b C := q
              rcases List.mem_cons.mp hb with e1 | hb
              · have e1' : @Eq Nat b J := e1; lia
              · have e1' : @Eq Nat b T := List.mem_singleton.mp hb; lia) e
            have stI8 : h8.IsListIter I ax (i + 1) ∧ h8.IsList ax vs.toArray := W1.frame _ _ _ (keepI hstI hk7) fun b hb o e => hs8.extBut b o (by
              intro q
              have q' : @Eq Nat b C := q
              rcases List.mem_cons.mp hb with e1 | hb
              · have e1' : @Eq Nat b I := e1; lia
              · have e1' : @Eq Nat b ax := List.mem_singleton.mp hb; lia) e
            have N8 : News h₀ L h8 ((D, LCg.lst ys6) :: news) := fun p hp => by
              have z := LCg.news_but N6 hk7 offJ p hp
              refine ⟨hs8.extBut _ _ ?_ z.1, z.2⟩
              intro q
              have q' : @Eq Nat p.1 C := q
              rcases List.mem_cons.mp hp with e1 | hp
              · have e1' : @Eq Nat p.1 D := by rw [e1]
                lia
              · have := nlt p hp; lia
            refine helt C _ _ a b ta tb _ _ (List.mem_of_getElem? hai) (List.mem_of_getElem? hbj) hn8 (by simp [hxy, m6x]) (by simp) fun t9 tk9 => ?_
            have zD8 := (N8 _ (.head _)).1
            have hyl : ys6.length ≤ 20000 := by
              rw [hys6.length, List.length_append, List.length_map, List.length_take]
              have h1 : (twice (as.take i) bs f).length = (as.take i).length * bs.length := by
                unfold twice
                generalize as.take i = l
                induction l with
                | nil => simp
                | cons a r ih => rw [List.map_cons, List.flatten_cons, List.length_append, List.length_map, ih, List.length_cons, Nat.succ_mul, Nat.add_comm]
              have h2 : (as.take i).length ≤ 100 := by rw [List.length_take]; lia
              have h3 : (as.take i).length * bs.length ≤ 100 * 100 := Nat.mul_le_mul h2 hzb
              lia
            refine append_at (hsz := by rw [sizeLine_eq]; show ys6.toArray.size ≤ _; rw [List.size_toArray]; lia) zD8 fun h9 hs9 hD9 => ?_
            refine ⟨bs.length - (j + 1), by lia, h9, tk9, j + 1, _, ys6 ++ [.int (f a b) t9], rfl, hl2, rfl, W2.frame _ _ _ stJ8 fun b hb o e => hs9.extBut b o (by
              intro q
              have q' : @Eq Nat b D := q
              rcases List.mem_cons.mp hb with e1 | hb
              · have e1' : @Eq Nat b J := e1; lia
              · have e1' : @Eq Nat b T := List.mem_singleton.mp hb; lia) e, W1.frame _ _ _ stI8 fun b hb o e => hs9.extBut b o (by
              intro q
              have q' : @Eq Nat b D := q
              rcases List.mem_cons.mp hb with e1 | hb
              · have e1' : @Eq Nat b I := e1; lia
              · have e1' : @Eq Nat b ax := List.mem_singleton.mp hb; lia) e, F8.change hs9 hDL hD0, hn8.at' fun o e => hs9.extBut _ o (by intro q; have q' : @Eq Nat C D := q; lia) e, by simp [hxy, m6x], fun p hp => ?_, ?_⟩
            · rcases List.mem_cons.mp hp with rfl | hp
              · exact ⟨hD9.trans (congrArg some (LCg.lst_snoc ys6 _)), hDL, hD0⟩
              · have z := N8 p (.tail _ hp)
                exact ⟨hs9.extBut _ _ (by intro q; have q' : @Eq Nat p.1 D := q; have := nlt p hp; lia) z.1, z.2⟩
            · rw [List.take_add_one, hbj, Option.toList_some, List.map_append, ← List.append_assoc]
              exact hys6.append (.cons _ _ .nil)
          · refine W2.done _ _ _ (by rw [show us.toArray.size = j by simp only [List.size_toArray]; lia]; exact hstJ) fun h7 tk7 hk7 => ?_
            refine ⟨as.length - (i + 1), by lia, h7, tk7, i + 1, m6, ys6, rfl, hl1, rfl, keepI hstI hk7, LCg.fr_but F6 hk7 hJL hJ0, hn6.at' fun o e => hk7 _ o nCJ e, LCg.news_but N6 hk7 offJ, ?_⟩
            rw [List.take_of_length_le hl2] at hys6
            rw [List.take_add_one, hai, Option.toList_some, twice, List.map_append, List.flatten_append]
            simpa [twice] using hys6
        exact start_in inner (W2.self 0 _ _ _ ⟨⟨_, zJ, rfl, rfl⟩, ht.at fun o e => up5 _ _ e⟩ inner)
      · refine W1.done _ _ _ (by rw [show vs.toArray.size = i by simp only [List.size_toArray]; lia]; exact hst) fun h₂ tk₂ hk₂ => ?_
        refine ⟨rfl, h₂, tk₂, m', ys, rfl, LCg.fr_but F' hk₂ hIL.symm hI0, hn'.at' fun o e => hk₂ _ o nCI e, LCg.news_but N' hk₂ offI, ?_⟩
        rw [List.take_of_length_le hl1] at hys
        exact hys
    · intro p hp
      rcases List.mem_cons.mp hp with rfl | hp
      · exact ⟨zD, hDL, above _ (by lia)⟩
      · exact N1 p hp
  refine codeAny_mono (codeAny_compStart_list loop (W1.self 0 _ _ _ ⟨⟨_, old2 _ _ zI, rfl, rfl⟩, ⟨_, old _ _ hax.1, rfl, n, rfl⟩⟩ loop)) ?_
  rintro _ s' ⟨rfl, h', tk, m', ys, rfl, F', hn', N', hys⟩
  refine ⟨m', hn', fun h'' hs'' => h D h'' tk ys (F'.change hs'' hCL (above C (by lia))) (fun p hp => ?_) (fun p hp => by have h1 := nlt p hp; show @LT.lt Nat _ p.1 D; lia) hys⟩
  refine ⟨hs''.extBut _ _ ?_ (N' p hp).1, (N' p hp).2⟩
  intro q
  have q' : @Eq Nat p.1 C := q
  rcases List.mem_cons.mp hp with e1 | hp
  · have e1' : @Eq Nat p.1 D := by rw [e1]
    lia
  · have := nlt p hp; lia
end
theorem primeS5 : rw_ul0020_01.prog = rw_ul0020_01.prog ∧ KL = KL := by k_fill; exact ⟨rfl, rfl⟩
local macro_rules | `(tactic| walk_at "CompSrc") => `(tactic| refine HoldK.out ?_)
noncomputable abbrev CLs (L' : Addr) : List (Str × Addr) := [(S "mended", L' + 1 + 1 + 1 + 1 + 1 + 1), (S "step", L' + 1 + 1 + 1 + 1 + 1), (S "place", L' + 1 + 1 + 1 + 1), (S "row", L' + 1 + 1 + 1), (S "number", L' + 1 + 1), (S "width", L' + 1)]
noncomputable def NextP (g : Heap) (L' : Addr) (s : Shared) (R : (Str → Option Value) → List (Addr × Obj) → Prop) : Flow → Shared → Prop := fun fl s' => fl = .next ∧ ∃ h' tk' m' n', s' = { s with heap := h', toks := tk' } ∧ Fr g L' h' m' ∧ News g L' h' n' ∧ R m' n'
theorem NextP.use {M : Model} {A : Around} {T : Sem Flow} {g : Heap} {L' : Addr} {s s0 : Shared} {R : (Str → Option Value) → List (Addr × Obj) → Prop} {Q : Flow → Shared → Prop} {E : Value → Shared → Prop} (h : wpAny M A T (NextP g L' s R) noE s0)
    (k : ∀ h' tk' m' n', Fr g L' h' m' → News g L' h' n' → R m' n' → Q .next { s with heap := h', toks := tk' }) : wpAny M A T Q E s0 :=
  wpAny_mono h (fun _ _ ⟨e, h', tk', m', n', e2, F, N, r⟩ => e ▸ e2 ▸ k h' tk' m' n' F N r) fun _ _ (x : False) => x.elim
section
variable {w : World} {mean : ExcName → Option Value} {mg mb : Str → Option Value}
noncomputable def part1 : List Stmt := bL21.take 4
set_option maxRecDepth 100000 in
set_option maxHeartbeats 8000000 in
theorem body1 (l : Addr) (us : List Value) (ns : List Int) (hi : IntsAre us ns) (hz : us.length ≤ 63) {dp un : Nat} {gd : Option (List Code)} {outer : List Env} {A₀ : Around} {base g : Heap} {f L' : Addr} {cdv : Value} {h₁ : Heap} {s : Shared} {tk : Nat} {oM oS oP oR oN oW : Obj} {T : List (Addr × Obj)} {m : Str → Option Value}
    (B : Below A₀ base outer g) (F : Fr g L' h₁ m) (N : News g L' h₁ ((L' + 1 + 1 + 1 + 1 + 1 + 1, oM) :: (L' + 1 + 1 + 1 + 1 + 1, oS) :: (L' + 1 + 1 + 1 + 1, oP) :: (L' + 1 + 1 + 1, oR) :: (L' + 1 + 1, oN) :: (L' + 1, oW) :: T)) (dN : oN.data = .cell none) (dW : oW.data = .cell none)
    (X : (KL w.params).In g) (T0 : Top topProg looseL mean mg mb g) (C : HdOk g) (hl : g.IsList l us.toArray) (lt : ∀ p ∈ T, p.1 < L') (hd : dp ≤ 400) (hu : un + 400 < cLine) (ms : m (S "script") = some (.ref l)) :
    wpAny (ML w) (ktrTop dp un gd nL21 sL21 L' f cdv (CLs L') outer) (execs part1 (envX nL21 sL21 L' f cdv (CLs L')))
      (NextP g L' s (fun m' n' => ∃ (wi sz N : Nat) (tw ts tn : Tok) (q : Addr) (cs : List Value) (kc : Nat) (oN' oW' : Obj), 9 ≤ wi ∧ wi ≤ 12 ∧ 1 ≤ sz ∧ 4 * sz ≤ wi * (wi + 1) ∧ N < 16 ^ sz ∧ oN'.data = .cell (some (.int (N : Int) tn)) ∧ oW'.data = .cell (some (.int (wi : Int) tw)) ∧
        n' = (q, listOf cs.toArray kc) :: (L' + 1 + 1 + 1 + 1 + 1 + 1, oM) :: (L' + 1 + 1 + 1 + 1 + 1, oS) :: (L' + 1 + 1 + 1 + 1, oP) :: (L' + 1 + 1 + 1, oR) :: (L' + 1 + 1, oN') :: (L' + 1, oW') :: T ∧ IntsAre cs [((N % (2 ^ wi - 1) : Nat) : Int), ((N % (2 ^ (wi + 1) - 1) : Nat) : Int)] ∧ (∀ p ∈ T, p.1 < q) ∧ L' + 1 + 1 + 1 + 1 + 1 + 1 < q ∧
        m' (S "script") = some (.ref l) ∧ m' (S "size") = some (.int (sz : Int) ts) ∧ m' (S "checks") = some (.ref q))) noE { s with heap := h₁, toks := tk } := by
  dsimp only [part1, List.take, bL21, sL21, S, CLs] at *
  have hd2 : dp + 2 < recursionLimit := Nat.lt_of_le_of_lt (Nat.add_le_add_right hd 2) (by decide)
  have hu2 : un + 30 < cLine := Nat.lt_of_le_of_lt (Nat.add_le_add_left (by decide) un) hu
  have hz2 : us.length ≤ 10000000 := Nat.le_trans hz (by decide)
  have q1 : L' + 1 + 1 + 1 + 1 + 1 + 1 ≠ L' + 1 := by show @Ne Nat _ _; lia
  have q2 : L' + 1 + 1 + 1 + 1 + 1 ≠ L' + 1 := by show @Ne Nat _ _; lia
  have q3 : L' + 1 + 1 + 1 + 1 ≠ L' + 1 := by show @Ne Nat _ _; lia
  have q4 : L' + 1 + 1 + 1 ≠ L' + 1 := by show @Ne Nat _ _; lia
  have q5 : L' + 1 + 1 ≠ L' + 1 := by show @Ne Nat _ _; lia
  have r1 : L' + 1 + 1 + 1 + 1 + 1 + 1 ≠ L' + 1 + 1 := by show @Ne Nat _ _; lia
  have r2 : L' + 1 + 1 + 1 + 1 + 1 ≠ L' + 1 + 1 := by show @Ne Nat _ _; lia
  have r3 : L' + 1 + 1 + 1 + 1 ≠ L' + 1 + 1 := by show @Ne Nat _ _; lia
  have r4 : L' + 1 + 1 + 1 ≠ L' + 1 + 1 := by show @Ne Nat _ _; lia
  have r5 : L' + 1 ≠ L' + 1 + 1 := by show @Ne Nat _ _; lia
  have nT1 : ∀ p ∈ T, p.1 ≠ L' + 1 := fun p hp => by have := lt p hp; exact Nat.ne_of_lt (Nat.lt_succ_of_lt this)
  have nT2 : ∀ p ∈ T, p.1 ≠ L' + 1 + 1 := fun p hp => by have := lt p hp; exact Nat.ne_of_lt (Nat.lt_succ_of_lt (Nat.lt_succ_of_lt this))
  obtain ⟨k0, c0, hk0⟩ := fmod_some (cellV ns 0 7 1) (by decide : 0 < 4)
  have c0' : (cellV ns 0 7 1).fmod 4 = (k0 : Int) := c0
  have a0 : (9 : Int) + ((k0 : Nat) : Int) = ((9 + k0 : Nat) : Int) := by lia
  obtain ⟨wi, hwi⟩ : ∃ wi, 9 + k0 = wi := ⟨_, rfl⟩
  rw [hwi] at a0
  have a1 : ((wi : Nat) : Int) + 1 = ((wi + 1 : Nat) : Int) := by lia
  have a2 : ((wi : Nat) : Int) * ((wi + 1 : Nat) : Int) = ((wi * (wi + 1) : Nat) : Int) := by push_cast; rfl
  have a2m : IntMulOk ((wi : Nat) : Int) ((wi + 1 : Nat) : Int) := PySem.IntMulOk.of_right (PySem.intBits_le_64 (by lia) (by lia))
  have a3 : ((wi * (wi + 1) : Nat) : Int).fdiv 4 = ((wi * (wi + 1) / 4 : Nat) : Int) := fdiv_nat _ 4
  have hq90 : 9 * 10 ≤ wi * (wi + 1) := Nat.mul_le_mul (by lia) (by lia)
  have hq156 : wi * (wi + 1) ≤ 12 * 13 := Nat.mul_le_mul (by lia) (by lia)
  obtain ⟨k1, c1, hk1⟩ := fmod_some (cellV ns 1 7 12) (show 0 < wi * (wi + 1) / 4 by lia)
  have d1 : ((wi * (wi + 1) / 4 : Nat) : Int) ≠ 0 := by lia
  have a4 : (1 : Int) + ((k1 : Nat) : Int) = ((1 + k1 : Nat) : Int) := by lia
  obtain ⟨sz, hsz⟩ : ∃ sz, 1 + k1 = sz := ⟨_, rfl⟩
  rw [hsz] at a4
  have hsz39 : sz ≤ 39 := by lia
  have a5 : (16 : Int) ^ ((sz : Nat) : Int).toNat = ((16 ^ sz : Nat) : Int) := by rw [Int.toNat_natCast]; norm_cast
  have a5a : (0 : Int) ≤ ((sz : Nat) : Int) := by lia
  have a5b : ((sz : Nat) : Int) ≤ 1000000 := by lia
  have a6p : 0 < 16 ^ sz := Nat.pow_pos (by decide)
  obtain ⟨N9, c2, hN9⟩ := fmod_some (cellV ns 2 7 4227999935938957) a6p
  have d2 : ((16 ^ sz : Nat) : Int) ≠ 0 := by lia
  have e1 : (2 : Int) ^ ((wi : Nat) : Int).toNat = ((2 ^ wi : Nat) : Int) := by rw [Int.toNat_natCast]; norm_cast
  have e1a : (0 : Int) ≤ ((wi : Nat) : Int) := by lia
  have e1b : ((wi : Nat) : Int) ≤ 1000000 := by lia
  have e2 : (2 : Int) ^ ((wi + 1 : Nat) : Int).toNat = ((2 ^ (wi + 1) : Nat) : Int) := by rw [Int.toNat_natCast]; norm_cast
  have e2a : (0 : Int) ≤ ((wi + 1 : Nat) : Int) := by lia
  have e2b : ((wi + 1 : Nat) : Int) ≤ 1000000 := by lia
  have p1 : 512 ≤ 2 ^ wi := Nat.pow_le_pow_right (n := 2) (by decide) (show 9 ≤ wi by lia)
  have p2 : 1024 ≤ 2 ^ (wi + 1) := Nat.pow_le_pow_right (n := 2) (by decide) (show 10 ≤ wi + 1 by lia)
  have e3 : ((2 ^ wi : Nat) : Int) - 1 = ((2 ^ wi - 1 : Nat) : Int) := by lia
  have e4 : ((2 ^ (wi + 1) : Nat) : Int) - 1 = ((2 ^ (wi + 1) - 1 : Nat) : Int) := by lia
  have e5 : ((2 ^ wi - 1 : Nat) : Int) ≠ 0 := by lia
  have e6 : ((2 ^ (wi + 1) - 1 : Nat) : Int) ≠ 0 := by lia
  have e7 : ((N9 : Nat) : Int).fmod ((2 ^ wi - 1 : Nat) : Int) = ((N9 % (2 ^ wi - 1) : Nat) : Int) := fmod_nat _ _
  have e8 : ((N9 : Nat) : Int).fmod ((2 ^ (wi + 1) - 1 : Nat) : Int) = ((N9 % (2 ^ (wi + 1) - 1) : Nat) : Int) := fmod_nat _ _
  k_steps
  (refine' cell_K (cn := nL21) (a := f) (ccd := cdv) l us ns 0 1 _ _ ?cB ?cF ?cN X T0 C rfl hd2 hu2 hl hi hz2 ?_; (case cB => k_asm); (case cF => k_asm); (case cN => k_asm)); intro t1 h2 tk2 F2 N2
  k_steps
  (refine' cell_K (cn := nL21) (a := f) (ccd := cdv) l us ns 1 12 _ _ ?cB ?cF ?cN X T0 C rfl hd2 hu2 hl hi hz2 ?_; (case cB => k_asm); (case cF => k_asm); (case cN => k_asm)); intro t3 h3 tk3 F3 N3
  k_steps
  (refine' cell_K (cn := nL21) (a := f) (ccd := cdv) l us ns 2 4227999935938957 _ _ ?cB ?cF ?cN X T0 C rfl hd2 hu2 hl hi hz2 ?_; (case cB => k_asm); (case cF => k_asm); (case cN => k_asm)); intro t4 h4 tk4 F4 N4
  k_steps
  rename_i ha oW' dW' ta hb tb hc oN' dN' tc q hd' lq he F8 N8
  exact ⟨rfl, _, _, _, _, rfl, F8, N8, wi, sz, N9, _, _, _, q, [_, _], 0, oN', oW', by lia, by lia, by lia, by lia, hN9, dN', dW', rfl, .cons _ _ (.cons _ _ .nil), allLt_get lq.2.2.2.2.2.2, lq.1, ms, rfl, rfl⟩
end
section
variable {prog : Program} {w : World} {A : Around} {E : Value → Shared → Prop} {s : Shared} {h₀ : Heap} {L : Addr} {m : Str → Option Value} {env : Env}
theorem down_st {I : Addr} {a : Int} {n : Nat} : ∀ i (h h' : Heap) (o : Obj) (nw : List (Addr × Obj)), IsRangeIter h I (a + (i : Nat) * (-1)) ((n : Int) - (i : Nat)) (-1) → h.get? I = some o → h'.get? I = some o → (∀ b o, h₀.get? b = some o → h'.get? b = some o) → News h₀ L h' nw → True → IsRangeIter h' I (a + (i : Nat) * (-1)) ((n : Int) - (i : Nat)) (-1) :=
  fun i h h' o nw st e e' _ _ _ => by
    have st' : h.get? I = some _ := st
    show h'.get? I = some _
    rw [e'] 
    rw [e] at st'
    exact st'
noncomputable def DownSrc (prog : Program) (w : World) (A : Around) (h₀ : Heap) (L : Addr) (m : Str → Option Value) (env : Env) (elt : PySem.Expr) (x : Str) (scope : Scope) (cl : List (Str × Addr)) (Q : Value → Shared → Prop) (xv : Value) (s₁ : Shared) : Prop :=
  ∃ r a b t u v n news, xv = .ref r ∧ A.handled = none ∧ Fr h₀ L s₁.heap m ∧ News h₀ L s₁.heap news ∧ IsRange s₁.heap r a b (-1) t u v ∧ Builtin.Range.small a b (-1) = true ∧ Builtin.Range.rangeSize a b (-1) = ((n : Nat) : Int) ∧ n ≤ sizeLine ∧
      ∀ g : Heap, LCg.CompRest prog w A h₀ L m env elt x scope cl { s₁ with heap := g } (fun _ => True) (fun i v => ∃ t, v = .int (a + (i : Int) * (-1)) t) (LCg.FinE h₀ L m { s₁ with heap := g } Q) n 0 [] news
theorem DownSrc.intro {elt : PySem.Expr} {x : Str} {scope : Scope} {cl : List (Str × Addr)} {Q : Value → Shared → Prop} {s₁ : Shared} {r : Addr} {a b : Int} {t u v : Tok} {n : Nat} {news : List (Addr × Obj)} (hh : A.handled = none) (F : Fr h₀ L s₁.heap m) (N : News h₀ L s₁.heap news) (hr : IsRange s₁.heap r a b (-1) t u v) (hsm : Builtin.Range.small a b (-1) = true) (hn : Builtin.Range.rangeSize a b (-1) = ((n : Nat) : Int)) (hsz : n ≤ 100000)
    (h : ∀ g : Heap, LCg.CompRest prog w A h₀ L m env elt x scope cl { s₁ with heap := g } (fun _ => True) (fun i v => ∃ t, v = .int (a + (i : Int) * (-1)) t) (LCg.FinE h₀ L m { s₁ with heap := g } Q) n 0 [] news) : DownSrc prog w A h₀ L m env elt x scope cl Q (.ref r) s₁ :=
  ⟨r, a, b, t, u, v, n, news, rfl, hh, F, N, hr, hsm, hn, Nat.le_trans hsz (by rw [sizeLine_eq]; decide), h⟩
/-- a comprehension over a range that goes down -/
theorem ListComp_D {elt iter : PySem.Expr} {x : Str} {px : Pos} {scope : Scope} {cl : List (Str × Addr)} {pos : Pos} {Q : Value → Shared → Prop} (F₀ : Fr h₀ L s.heap m)
    (hclos : closureFor scope env = pure cl) (hcell : ∀ y ∈ scope.names, y.2 ≠ .cell) (hkind : scope.kind = .function)
    (hnames : ∀ y ∈ scope.names, y.2 = .local → scope.names.lookup y.1 = some .local) (hx : scope.names.lookup x = some .local)
    (h : wpAny (model prog w) A (eval iter env) (DownSrc prog w A h₀ L m env elt x scope cl Q) E s)
    (hs : ∀ x, foldedSetIterable iter env x = pure x := by intro _; rfl) :
    wpAny (model prog w) A (eval (.ListComp elt [⟨.Name x px, iter, [], 0⟩] scope pos) env) Q E s := by
  rw [eval_ListComp]
  refine wpAny_comprehension_free (use := none) rfl hs hclos hkind hnames (wpAny_mono h (fun xv s₁ h₁ => ?_) fun _ _ e => e)
  obtain ⟨r, a, b, t, u, v, n, news, rfl, hh, F, N, hr, hsm, hn, hsz, R⟩ := h₁
  refine wpAny_pyIter_range hr hsm ?_
  refine LCg.block_U (Walks.range hh s₁.heap.objs.size a (-1) n) hsz (fun i h st => ⟨_, st⟩) down_st hcell hkind hx ?_ (fun b hb => ?_)
    (F.keeps fun _ _ e => Heap.get?_push_of_some _ e) (N.grown fun _ _ e => Heap.get?_push_of_some _ e) (Nat.ne_of_lt F.ns.lt) (next_is_new F) (fun p hp => Nat.ne_of_lt (Heap.lt_size (N p hp).1)) trivial (R _) ?_
  · show IsRangeIter _ _ _ _ _
    rw [hn]
    simpa using Heap.get?_push_size _ rfl
  · rw [List.mem_singleton.mp hb]
    show s₁.heap.objs.size < (s₁.heap.push _).objs.size
    rw [Heap.size_push]; exact Nat.lt_succ_self _
  · intro D C h tk m' ys news' F' N' o1 hn hC₀ hD₀ hCL hDL hCD offC fin
    refine ⟨m', hn, fun h'' hs'' => fin D h'' tk (F'.change hs'' hCL hC₀) (fun p hp => ?_) o1⟩
    refine ⟨hs''.extBut _ _ ?_ (N' p hp).1, (N' p hp).2⟩
    rcases List.mem_cons.mp hp with rfl | hp
    · exact Ne.symm hCD
    · exact offC p hp
end
theorem hexd_get (n : Nat) : ∀ {k i : Nat}, i < k → (hexd n k)[i]? = some (n / 16 ^ (k - 1 - i) % 16)
  | k + 1, 0, _ => by rw [hexd]; simp
  | k + 1, i + 1, h => by
    rw [hexd, List.getElem?_cons_succ, hexd_get n (by lia : i < k)]
    rw [show k + 1 - 1 - (i + 1) = k - 1 - i by lia]
theorem ap_pad : ∀ (k n : Nat), n < 16 ^ k → (apL n).length ≤ k ∧ List.replicate (k - (apL n).length) (65 : UInt8) ++ apL n = (hexd n k).map fun d => UInt8.ofNat (65 + d)
  | 0, n, h => by
    have : n = 0 := by simpa using h
    subst this
    rw [apL_zero]
    exact ⟨Nat.le_refl _, rfl⟩
  | k + 1, n, h => by
    by_cases h0 : n = 0
    · subst h0
      obtain ⟨_, h2⟩ := ap_pad k 0 (Nat.pow_pos (by decide))
      rw [apL_zero] at h2 ⊢
      refine ⟨Nat.zero_le _, ?_⟩
      rw [List.append_nil, List.length_nil, Nat.sub_zero] at h2 ⊢
      rw [hexd_snoc, List.map_append, List.replicate_succ', Nat.zero_div, ← h2]
      rfl
    · have hd : n / 16 < 16 ^ k := by
        rw [Nat.div_lt_iff_lt_mul (by decide)]
        rw [Nat.pow_succ] at h
        exact h
      obtain ⟨h1, h2⟩ := ap_pad k (n / 16) hd
      rw [apL_pos h0, List.length_append, List.length_singleton, hexd_snoc, List.map_append, ← h2, ← List.append_assoc]
      refine ⟨by lia, ?_⟩
      rw [show k + 1 - ((apL (n / 16)).length + 1) = k - (apL (n / 16)).length by lia]
      rfl
theorem primeS6 : rw_ul0020_01.prog = rw_ul0020_01.prog ∧ KL = KL := by k_fill; exact ⟨rfl, rfl⟩
local macro_rules | `(tactic| walk_at "eval ListComp") => `(tactic| refine HoldK.out ?_)
section
variable {w : World} {mean : ExcName → Option Value} {mg mb : Str → Option Value}
noncomputable def part2 : List Stmt := (bL21.drop 4).take 1
set_option maxRecDepth 100000 in
set_option maxHeartbeats 8000000 in
theorem body2 {dp un : Nat} {gd : Option (List Code)} {outer : List Env} {A₀ : Around} {base g : Heap} {f L' : Addr} {cdv : Value} {h₁ : Heap} {s : Shared} {tk : Nat} {oM oS oP oR oN oW oq : Obj} {q : Addr} {T : List (Addr × Obj)} {m : Str → Option Value} {N9 sz : Nat} {tn ts : Tok}
    (B : Below A₀ base outer g) (F : Fr g L' h₁ m) (N : News g L' h₁ ((q, oq) :: (L' + 1 + 1 + 1 + 1 + 1 + 1, oM) :: (L' + 1 + 1 + 1 + 1 + 1, oS) :: (L' + 1 + 1 + 1 + 1, oP) :: (L' + 1 + 1 + 1, oR) :: (L' + 1 + 1, oN) :: (L' + 1, oW) :: T)) (dN : oN.data = .cell (some (.int (N9 : Int) tn))) (dR : oR.data = .cell none)
    (X : (KL w.params).In g) (T0 : Top topProg looseL mean mg mb g) (C : HdOk g) (lq : L' + 1 + 1 + 1 + 1 + 1 + 1 < q) (lt : ∀ p ∈ T, p.1 < L') (hd : dp ≤ 400) (hu : un + 400 < cLine) (ms : m (S "size") = some (.int (sz : Int) ts)) (hsz : 1 ≤ sz) (hsz2 : sz ≤ 39) :
    wpAny (ML w) (ktrTop dp un gd nL21 sL21 L' f cdv (CLs L') outer) (execs part2 (envX nL21 sL21 L' f cdv (CLs L')))
      (NextP g L' s (fun m' n' => (∀ y, m' y = m y) ∧ ∃ (q2 : Addr) (cs : List Value) (oR' : Obj), oR'.data = .cell (some (.ref q2)) ∧ n' = (q2, LCg.lst cs) :: (q, oq) :: (L' + 1 + 1 + 1 + 1 + 1 + 1, oM) :: (L' + 1 + 1 + 1 + 1 + 1, oS) :: (L' + 1 + 1 + 1 + 1, oP) :: (L' + 1 + 1 + 1, oR') :: (L' + 1 + 1, oN) :: (L' + 1, oW) :: T ∧ IntsAre cs ((hexd N9 sz).map fun d : Nat => (d : Int)) ∧
        (∀ p ∈ (q, oq) :: (L' + 1 + 1 + 1 + 1 + 1 + 1, oM) :: (L' + 1 + 1 + 1 + 1 + 1, oS) :: (L' + 1 + 1 + 1 + 1, oP) :: (L' + 1 + 1 + 1, oR') :: (L' + 1 + 1, oN) :: (L' + 1, oW) :: T, p.1 ≠ q2))) noE { s with heap := h₁, toks := tk } := by
  have q1 : L' + 1 + 1 + 1 + 1 + 1 + 1 ≠ L' + 1 + 1 + 1 := by show @Ne Nat _ _; lia
  have q2 : L' + 1 + 1 + 1 + 1 + 1 ≠ L' + 1 + 1 + 1 := by show @Ne Nat _ _; lia
  have q3 : L' + 1 + 1 + 1 + 1 ≠ L' + 1 + 1 + 1 := by show @Ne Nat _ _; lia
  have q4 : L' + 1 + 1 ≠ L' + 1 + 1 + 1 := by show @Ne Nat _ _; lia
  have q5 : L' + 1 ≠ L' + 1 + 1 + 1 := by show @Ne Nat _ _; lia
  have q6 : q ≠ L' + 1 + 1 + 1 := by show @Ne Nat _ _; have : @LT.lt Nat _ _ _ := lq; lia
  have nT3 : ∀ p ∈ T, p.1 ≠ L' + 1 + 1 + 1 := fun p hp => by have := lt p hp; exact Nat.ne_of_lt (Nat.lt_succ_of_lt (Nat.lt_succ_of_lt (Nat.lt_succ_of_lt this)))
  have b1 : ((sz : Nat) : Int) - 1 = ((sz - 1 : Nat) : Int) := by lia
  dsimp only [part2, List.drop, List.take, bL21, sL21, S, CLs] at *
  k_steps
  unfold HoldK
  rename Fr _ _ _ _ => F5
  refine ListComp_D F5 (by with_unfolding_all rfl) (by decide) (by rfl) (by decide) (by rfl) ?_
  k_steps
  rename_i hA tA tB tC tD hR FF NF _
  generalize hNL : (q, oq) :: (L' + 1 + 1 + 1 + 1 + 1 + 1, oM) :: (L' + 1 + 1 + 1 + 1 + 1, oS) :: (L' + 1 + 1 + 1 + 1, oP) :: (L' + 1 + 1 + 1, oR) :: (L' + 1 + 1, oN) :: (L' + 1, oW) :: T = NL at *
  have hcN : (L' + 1 + 1, oN) ∈ NL := by rw [← hNL]; exact .tail _ (.tail _ (.tail _ (.tail _ (.tail _ (.head _)))))
  refine DownSrc.intro rfl FF NF hR (small_down (by lia) (by lia) (by lia) (by lia)) (n := sz) (by rw [rangeSize_downNat]; lia) (by lia) fun g' => compRest_ind (Inv := fun j i ys n' => i + j = sz ∧ n' = NL ∧ IntsAre ys (((hexd N9 sz).take i).map fun d : Nat => (d : Int))) ?_ ?_ _ _ _ _ ⟨by lia, rfl, .nil⟩
  · rintro i ys n' ⟨hij, rfl, hys⟩ D7 h7 tk7 F7 N7 o7
    have hi' : i = sz := by lia
    subst hi'
    rw [List.take_of_length_le (by rw [hexd_len]; lia)] at hys
    have m7 := off1_mem o7
    subst hNL
    have q7 : D7 ≠ L' + 1 + 1 + 1 := (m7 _ (.tail _ (.tail _ (.tail _ (.tail _ (.head _)))))).symm
    k_steps
    rename_i h8 o8 F8 N8 d8
    exact ⟨rfl, _, _, _, _, rfl, F8, N8, fun _ => rfl, D7, ys, o8, d8, rfl, hys, off1_mem (show LCg.Off1 D7 ((q, oq) :: (L' + 1 + 1 + 1 + 1 + 1 + 1, oM) :: (L' + 1 + 1 + 1 + 1 + 1, oS) :: (L' + 1 + 1 + 1 + 1, oP) :: (L' + 1 + 1 + 1, o8) :: (L' + 1 + 1, oN) :: (L' + 1, oW) :: T) from o7)⟩
  · rintro j i ys n' ⟨hij, rfl, hys⟩ v I7 oI7 C7 oC7 D7 m₇ h7 tk7 E7 ⟨tv, rfl⟩ hC7 hx7 F7 N7 off7 ne7
    have e0 : ((sz - 1 : Nat) : Int) + ((i : Nat) : Int) * (-1) = ((sz - 1 - i : Nat) : Int) := by lia
    rw [e0] at hx7
    have e1 : (16 : Int) ^ ((sz - 1 - i : Nat) : Int).toNat = ((16 ^ (sz - 1 - i) : Nat) : Int) := by rw [Int.toNat_natCast]; norm_cast
    have e1a : (0 : Int) ≤ ((sz - 1 - i : Nat) : Int) := by lia
    have e1b : ((sz - 1 - i : Nat) : Int) ≤ 1000000 := by lia
    have hp : 0 < 16 ^ (sz - 1 - i) := Nat.pow_pos (by decide)
    have hpb : 16 ^ (sz - 1 - i) < 2 ^ 4000 := by
      rw [show 16 = 2 ^ 4 from rfl, ← Nat.pow_mul]
      exact Nat.pow_lt_pow_right (by decide) (by lia)
    have ehd : (hexd N9 sz)[i]? = some (N9 / 16 ^ (sz - 1 - i) % 16) := hexd_get N9 (by lia)
    generalize 16 ^ (sz - 1 - i) = pw at *
    have e2 : ((pw : Nat) : Int) ≠ 0 := by lia
    have e2b : ((pw : Nat) : Int).natAbs < 2 ^ 4000 := by rw [Int.natAbs_natCast]; exact hpb
    have e3 : ((N9 : Nat) : Int).fdiv ((pw : Nat) : Int) = ((N9 / pw : Nat) : Int) := fdiv_nat _ _
    have e4 : ((N9 / pw : Nat) : Int).fmod 16 = ((N9 / pw % 16 : Nat) : Int) := fmod_nat _ 16
    k_steps
    refine LCg.CompEnd.intro F7 N7 n' (fun p hp => hp) off7 trivial ⟨by lia, rfl, ?_⟩
    rw [List.take_add_one, ehd, Option.toList_some, List.map_append]
    exact hys.append (.cons _ _ .nil)
end
theorem primeS7 : rw_ul0020_01.prog = rw_ul0020_01.prog ∧ KL = KL := by k_fill; exact ⟨rfl, rfl⟩
local macro_rules | `(tactic| walk_at "binaryOp Add ref ref") => `(tactic| refine HoldK.out ?_)
/-- one figure of a check -/
noncomputable def figF (a b : Int) : Int := (a.fdiv ((16 : Int) ^ b.toNat)).fmod 16
theorem figF_nat (c k : Nat) : figF ((c : Nat) : Int) ((k : Nat) : Int) = ((c / 16 ^ k % 16 : Nat) : Int) := by
  have e : (16 : Int) ^ ((k : Nat) : Int).toNat = ((16 ^ k : Nat) : Int) := by rw [Int.toNat_natCast]; norm_cast
  rw [figF, e, fdiv_nat]
  exact fmod_nat _ 16
theorem twice_checks (c0 c1 : Nat) : twice [((c0 : Nat) : Int), ((c1 : Nat) : Int)] [3, 2, 1, 0] figF = (hexd c0 4 ++ hexd c1 4).map fun d : Nat => (d : Int) := by
  have h3 := fun c => figF_nat c 3
  have h2 := fun c => figF_nat c 2
  have h1 := fun c => figF_nat c 1
  have h0 := fun c => figF_nat c 0
  simp only [twice, List.map_cons, List.map_nil, List.flatten_cons, List.flatten_nil, List.append_nil]
  show [figF _ ((3 : Nat) : Int), figF _ ((2 : Nat) : Int), figF _ ((1 : Nat) : Int), figF _ ((0 : Nat) : Int)] ++ [figF _ ((3 : Nat) : Int), figF _ ((2 : Nat) : Int), figF _ ((1 : Nat) : Int), figF _ ((0 : Nat) : Int)] = _
  rw [h3, h2, h1, h0, h3, h2, h1, h0]
  rfl
section
variable {w : World} {mean : ExcName → Option Value} {mg mb : Str → Option Value}
theorem nmC {M : Model} {A : Around} {E : Value → Shared → Prop} {s : Shared} {scope : Scope} {cl : List (Str × Addr)} {C : Addr} {env : Env} {x : Str} {pos : Pos} {v : Value} {m : Str → Option Value} {Q : Value → Shared → Prop} (hn : s.heap.Ns C m) (hv : m x = some v) (h : Q v s)
    (hk : scope.kind = .function) (hl : scope.names.lookup x = some .local) (hd : (x == ("__debug__" : Str)) = false) : wpAny M A (eval (.Name x pos) (compEnvC scope cl C env)) Q E s :=
  wpAny_Name (wpAny_loadName_local (by simpa [compEnvC, relabel] using hk) (lookup_relabel_local hl) hn hv h) hd
noncomputable def part3 : List Stmt := (bL21.drop 5).take 1
set_option maxRecDepth 100000 in
set_option maxHeartbeats 8000000 in
theorem body3 {dp un : Nat} {gd : Option (List Code)} {outer : List Env} {A₀ : Around} {base g : Heap} {f L' : Addr} {cdv : Value} {h₁ : Heap} {s : Shared} {tk : Nat} {oM oS oP oR oN oW : Obj} {q q2 : Addr} {cs rs : List Value} {kc kr : Nat} {T : List (Addr × Obj)} {m : Str → Option Value} {c0 c1 : Nat} {row : List Int}
    (B : Below A₀ base outer g) (F : Fr g L' h₁ m) (N : News g L' h₁ ((q2, listOf rs.toArray kr) :: (q, listOf cs.toArray kc) :: (L' + 1 + 1 + 1 + 1 + 1 + 1, oM) :: (L' + 1 + 1 + 1 + 1 + 1, oS) :: (L' + 1 + 1 + 1 + 1, oP) :: (L' + 1 + 1 + 1, oR) :: (L' + 1 + 1, oN) :: (L' + 1, oW) :: T)) (dR : oR.data = .cell (some (.ref q2)))
    (X : (KL w.params).In g) (T0 : Top topProg looseL mean mg mb g) (C : HdOk g) (lq : L' + 1 + 1 + 1 + 1 + 1 + 1 < q) (q8 : q2 ≠ L' + 1 + 1 + 1) (lt : ∀ p ∈ T, p.1 < L') (hd : dp ≤ 400) (hu : un + 400 < cLine) (mc : m (S "checks") = some (.ref q)) (hrow : row.length ≤ 39)
    (hrs : IntsAre rs row) (hcs : IntsAre cs [((c0 : Nat) : Int), ((c1 : Nat) : Int)]) :
    wpAny (ML w) (ktrTop dp un gd nL21 sL21 L' f cdv (CLs L') outer) (execs part3 (envX nL21 sL21 L' f cdv (CLs L')))
      (NextP g L' s (fun m' n' => (∀ y, m' y = m y) ∧ ∃ (q4 : Addr) (us : List Value) (oR' : Obj), oR'.data = .cell (some (.ref q4)) ∧ n' = (q4, listOf us.toArray 0) :: (q, listOf cs.toArray kc) :: (L' + 1 + 1 + 1 + 1 + 1 + 1, oM) :: (L' + 1 + 1 + 1 + 1 + 1, oS) :: (L' + 1 + 1 + 1 + 1, oP) :: (L' + 1 + 1 + 1, oR') :: (L' + 1 + 1, oN) :: (L' + 1, oW) :: T ∧ IntsAre us (row ++ ((hexd c0 4 ++ hexd c1 4).map fun d : Nat => (d : Int))) ∧ q < q4)) noE { s with heap := h₁, toks := tk } := by
  have q1 : L' + 1 + 1 + 1 + 1 + 1 + 1 ≠ L' + 1 + 1 + 1 := by show @Ne Nat _ _; lia
  have q2' : L' + 1 + 1 + 1 + 1 + 1 ≠ L' + 1 + 1 + 1 := by show @Ne Nat _ _; lia
  have q3 : L' + 1 + 1 + 1 + 1 ≠ L' + 1 + 1 + 1 := by show @Ne Nat _ _; lia
  have q4 : L' + 1 + 1 ≠ L' + 1 + 1 + 1 := by show @Ne Nat _ _; lia
  have q5 : L' + 1 ≠ L' + 1 + 1 + 1 := by show @Ne Nat _ _; lia
  have q6 : q ≠ L' + 1 + 1 + 1 := by show @Ne Nat _ _; have : @LT.lt Nat _ _ _ := lq; lia
  have nT3 : ∀ p ∈ T, p.1 ≠ L' + 1 + 1 + 1 := fun p hp => by have := lt p hp; exact Nat.ne_of_lt (Nat.lt_succ_of_lt (Nat.lt_succ_of_lt (Nat.lt_succ_of_lt this)))
  dsimp only [part3, List.drop, List.take, bL21, sL21, S, CLs] at *
  k_steps
  unfold HoldK
  rename Fr _ _ _ _ => F5
  rename News _ _ _ _ => N5
  refine ListComp2 (ax := q) (vs := cs) (as := [((c0 : Nat) : Int), ((c1 : Nat) : Int)]) (bs := [3, 2, 1, 0]) (f := figF) rfl F5 N5 (by with_unfolding_all rfl) (by decide) (by rfl) (by decide) (by rfl) (by rfl) (by decide) (.tail _ (.head _)) hcs (show 2 ≤ 100 by decide) (show 4 ≤ 100 by decide) (fun Q' hQ => ldX F5 mc hQ rfl rfl (by decide)) ?_ ?_ ?_
  · intro C s' Q' E' hQ
    refine wpAny_Tuple (spliced_more (wpAny_mkInt (spliced_more (wpAny_mkInt (spliced_more (wpAny_mkInt (spliced_more (wpAny_mkInt (spliced_none ?_)))))))))
    exact ⟨by rw [sizeLine_eq]; show 4 ≤ _; decide, hQ _ _ (.cons _ _ (.cons _ _ (.cons _ _ (.cons _ _ .nil))))⟩
  · intro C m₂ s' a b ta tb Q' E' ha hb hn hx hy hQ
    have hb' : 0 ≤ b ∧ b ≤ 3 := by simp at hb; lia
    have hp : ((16 : Int) ^ b.toNat) ≠ 0 ∧ ((16 : Int) ^ b.toNat).natAbs < 2 ^ 4000 := by
      have : b = 0 ∨ b = 1 ∨ b = 2 ∨ b = 3 := by lia
      rcases this with rfl | rfl | rfl | rfl <;> exact ⟨by decide, Nat.lt_of_lt_of_le (by decide : _ < 2 ^ 20) (Nat.pow_le_pow_right (by decide) (by decide))⟩
    refine wpAny_BinOp (wpAny_BinOp (nmC hn hx ?_ rfl rfl (by decide)))
    refine wpAny_BinOp (wpAny_mkInt (nmC hn hy ?_ rfl rfl (by decide)))
    refine powE hb'.1 (by lia) (by decide) rfl ?_
    refine divE hp.1 hp.2 rfl ?_
    refine wpAny_mkInt ?_
    exact modE (by decide) rfl (hQ _ _)
  · intro D h7 tk7 ys F7 N7 l7 hys
    have n7 : ∀ p ∈ (q2, listOf rs.toArray kr) :: (q, listOf cs.toArray kc) :: (L' + 1 + 1 + 1 + 1 + 1 + 1, oM) :: (L' + 1 + 1 + 1 + 1 + 1, oS) :: (L' + 1 + 1 + 1 + 1, oP) :: (L' + 1 + 1 + 1, oR) :: (L' + 1 + 1, oN) :: (L' + 1, oW) :: T, p.1 ≠ D := fun p hp => Nat.ne_of_lt (l7 p hp)
    have q7 : D ≠ L' + 1 + 1 + 1 := (n7 _ (.tail _ (.tail _ (.tail _ (.tail _ (.tail _ (.head _))))))).symm
    clear F5 N5
    rw [twice_checks] at hys
    k_steps
    unfold HoldK
    rename Fr _ _ _ _ => F8
    rename News _ _ _ _ => N8
    have z1 : row.length + ((hexd c0 4 ++ hexd c1 4).map fun d : Nat => (d : Int)).length ≤ sizeLine := by
      rw [sizeLine_eq, List.length_map, List.length_append, hexd_len, hexd_len]; lia
    refine kmk_add_ints F8 N8 (listAt N8 (.tail _ (.head _))) (listAt (n := ys.length) N8 (.head _)) hrs hys (fun D2 us h8 F9 N9 l9 hus => ?_) z1
    clear F8 N8
    have q9 : D2 ≠ L' + 1 + 1 + 1 := (Nat.ne_of_lt (l9 _ (.tail _ (.tail _ (.tail _ (.tail _ (.tail _ (.tail _ (.head _))))))))).symm
    have lq9 : q < D2 := l9 (q, _) (.tail _ (.tail _ (.head _)))
    k_steps
    rename_i h10 o10 F10 N10 d10
    exact ⟨rfl, _, _, _, _, rfl, F10, nsub N10 (List.forall_mem_cons.mpr ⟨.head _, fun p hp => .tail _ (.tail _ (.tail _ hp))⟩), fun _ => rfl, D2, us, o10, d10, rfl, hus, lq9⟩
end
theorem primeS8 : rw_ul0020_01.prog = rw_ul0020_01.prog ∧ KL = KL := by k_fill; exact ⟨rfl, rfl⟩
section
variable {w : World} {mean : ExcName → Option Value} {mg mb : Str → Option Value}
noncomputable def part4 : List Stmt := (bL21.drop 6).take 2
noncomputable def part5 : List Stmt := (bL21.drop 8).take 1
noncomputable def part6 : List Stmt := (bL21.drop 9).take 2
set_option maxRecDepth 100000 in
set_option maxHeartbeats 8000000 in
theorem body4 (l : Addr) (us : List Value) (ns : List Int) (hi : IntsAre us ns) (hz : us.length ≤ 63) {dp un : Nat} {gd : Option (List Code)} {outer : List Env} {A₀ : Around} {base g : Heap} {f L' : Addr} {cdv : Value} {h₁ : Heap} {s : Shared} {tk : Nat} {oM oS oP oR oN oW oq o4 : Obj} {q q4 : Addr} {T : List (Addr × Obj)} {m : Str → Option Value} {sz : Nat} {ts : Tok}
    (B : Below A₀ base outer g) (F : Fr g L' h₁ m) (N : News g L' h₁ ((q4, o4) :: (q, oq) :: (L' + 1 + 1 + 1 + 1 + 1 + 1, oM) :: (L' + 1 + 1 + 1 + 1 + 1, oS) :: (L' + 1 + 1 + 1 + 1, oP) :: (L' + 1 + 1 + 1, oR) :: (L' + 1 + 1, oN) :: (L' + 1, oW) :: T)) (dS : oS.data = .cell none) (dP : oP.data = .cell none)
    (X : (KL w.params).In g) (T0 : Top topProg looseL mean mg mb g) (C : HdOk g) (hl : g.IsList l us.toArray) (lq : L' + 1 + 1 + 1 + 1 + 1 + 1 < q) (lq4 : q < q4) (lt : ∀ p ∈ T, p.1 < L') (hd : dp ≤ 400) (hu : un + 400 < cLine) (ms : m (S "script") = some (.ref l)) (msz : m (S "size") = some (.int (sz : Int) ts)) :
    wpAny (ML w) (ktrTop dp un gd nL21 sL21 L' f cdv (CLs L') outer) (execs part4 (envX nL21 sL21 L' f cdv (CLs L')))
      (NextP g L' s (fun m' n' => (∀ y, m' y = m y) ∧ ∃ (pl st : Nat) (tp tst : Tok) (oS' oP' : Obj), pl < sz + 9 ∧ 1 ≤ st ∧ st ≤ 15 ∧ oS'.data = .cell (some (.int (st : Int) tst)) ∧ oP'.data = .cell (some (.int (pl : Int) tp)) ∧ n' = (q4, o4) :: (q, oq) :: (L' + 1 + 1 + 1 + 1 + 1 + 1, oM) :: (L' + 1 + 1 + 1 + 1 + 1, oS') :: (L' + 1 + 1 + 1 + 1, oP') :: (L' + 1 + 1 + 1, oR) :: (L' + 1 + 1, oN) :: (L' + 1, oW) :: T)) noE { s with heap := h₁, toks := tk } := by
  have hd2 : dp + 2 < recursionLimit := Nat.lt_of_le_of_lt (Nat.add_le_add_right hd 2) (by decide)
  have hu2 : un + 30 < cLine := Nat.lt_of_le_of_lt (Nat.add_le_add_left (by decide) un) hu
  have hz2 : us.length ≤ 10000000 := Nat.le_trans hz (by decide)
  have lqn : @LT.lt Nat _ (L' + 1 + 1 + 1 + 1 + 1 + 1) q := lq
  have lqn4 : @LT.lt Nat _ q q4 := lq4
  have q1 : L' + 1 + 1 + 1 + 1 + 1 + 1 ≠ L' + 1 + 1 + 1 + 1 := by show @Ne Nat _ _; lia
  have q2 : L' + 1 + 1 + 1 + 1 + 1 ≠ L' + 1 + 1 + 1 + 1 := by show @Ne Nat _ _; lia
  have q3 : L' + 1 + 1 + 1 ≠ L' + 1 + 1 + 1 + 1 := by show @Ne Nat _ _; lia
  have q4' : L' + 1 + 1 ≠ L' + 1 + 1 + 1 + 1 := by show @Ne Nat _ _; lia
  have q5 : L' + 1 ≠ L' + 1 + 1 + 1 + 1 := by show @Ne Nat _ _; lia
  have q6 : q ≠ L' + 1 + 1 + 1 + 1 := by show @Ne Nat _ _; lia
  have q7 : q4 ≠ L' + 1 + 1 + 1 + 1 := by show @Ne Nat _ _; lia
  have nT4 : ∀ p ∈ T, p.1 ≠ L' + 1 + 1 + 1 + 1 := fun p hp => by have := lt p hp; show @Ne Nat _ _; have h2 : @LT.lt Nat _ p.1 L' := this; lia
  have r1 : L' + 1 + 1 + 1 + 1 + 1 + 1 ≠ L' + 1 + 1 + 1 + 1 + 1 := by show @Ne Nat _ _; lia
  have r2 : L' + 1 + 1 + 1 + 1 ≠ L' + 1 + 1 + 1 + 1 + 1 := by show @Ne Nat _ _; lia
  have r3 : L' + 1 + 1 + 1 ≠ L' + 1 + 1 + 1 + 1 + 1 := by show @Ne Nat _ _; lia
  have r4 : L' + 1 + 1 ≠ L' + 1 + 1 + 1 + 1 + 1 := by show @Ne Nat _ _; lia
  have r5 : L' + 1 ≠ L' + 1 + 1 + 1 + 1 + 1 := by show @Ne Nat _ _; lia
  have r6 : q ≠ L' + 1 + 1 + 1 + 1 + 1 := by show @Ne Nat _ _; lia
  have r7 : q4 ≠ L' + 1 + 1 + 1 + 1 + 1 := by show @Ne Nat _ _; lia
  have nT5 : ∀ p ∈ T, p.1 ≠ L' + 1 + 1 + 1 + 1 + 1 := fun p hp => by have := lt p hp; show @Ne Nat _ _; have h2 : @LT.lt Nat _ p.1 L' := this; lia
  obtain ⟨pl, c5, hpl⟩ := fmod_some (cellV ns 5 7 4) (show 0 < sz + 9 by lia)
  obtain ⟨k6, c6, hk6⟩ := fmod_some (cellV ns 6 7 3) (by decide : 0 < 15)
  have c6' : (cellV ns 6 7 3).fmod 15 = (k6 : Int) := c6
  have a1 : ((sz : Nat) : Int) + 9 = ((sz + 9 : Nat) : Int) := by lia
  have a2 : ((sz + 9 : Nat) : Int) ≠ 0 := by lia
  have a3 : (1 : Int) + ((k6 : Nat) : Int) = ((1 + k6 : Nat) : Int) := by lia
  dsimp only [part4, List.drop, List.take, bL21, sL21, S, CLs] at *
  k_steps
  (refine' cell_K (cn := nL21) (a := f) (ccd := cdv) l us ns 5 4 _ _ ?cB ?cF ?cN X T0 C rfl hd2 hu2 hl hi hz2 ?_; (case cB => k_asm); (case cF => k_asm); (case cN => k_asm)); intro t1 h2 tk2 F2 N2
  k_steps
  (refine' cell_K (cn := nL21) (a := f) (ccd := cdv) l us ns 6 3 _ _ ?cB ?cF ?cN X T0 C rfl hd2 hu2 hl hi hz2 ?_; (case cB => k_asm); (case cF => k_asm); (case cN => k_asm)); intro t3 h3 tk3 F3 N3
  k_steps
  rename_i ha oP' dP' tka hb oS' F8 N8 dS'
  exact ⟨rfl, _, _, _, _, rfl, F8, N8, fun _ => rfl, pl, 1 + k6, _, _, oS', oP', hpl, by lia, by lia, dS', dP', rfl⟩
set_option maxRecDepth 100000 in
set_option maxHeartbeats 8000000 in
theorem body5 {dp un : Nat} {gd : Option (List Code)} {outer : List Env} {A₀ : Around} {base g : Heap} {f L' : Addr} {cdv : Value} {h₁ : Heap} {s : Shared} {tk : Nat} {oS oP oR : Obj} {q4 : Addr} {us : List Value} {ku : Nat} {NL : List (Addr × Obj)} {m : Str → Option Value} {sz pl st : Nat} {ts tp tst : Tok} {row : List Nat}
    (B : Below A₀ base outer g) (F : Fr g L' h₁ m) (N : News g L' h₁ NL) (hcS : (L' + 1 + 1 + 1 + 1 + 1, oS) ∈ NL) (hcP : (L' + 1 + 1 + 1 + 1, oP) ∈ NL) (hcR : (L' + 1 + 1 + 1, oR) ∈ NL) (hq4 : (q4, listOf us.toArray ku) ∈ NL) (dS : oS.data = .cell (some (.int (st : Int) tst))) (dP : oP.data = .cell (some (.int (pl : Int) tp))) (dR : oR.data = .cell (some (.ref q4)))
    (X : (KL w.params).In g) (T0 : Top topProg looseL mean mg mb g) (C : HdOk g) (hd : dp ≤ 400) (hu : un + 400 < cLine) (msz : m (S "size") = some (.int (sz : Int) ts)) (hus : IntsAre us (row.map fun d : Nat => (d : Int))) (hrl : row.length = sz + 8) (hsz2 : sz ≤ 39) :
    wpAny (ML w) (ktrTop dp un gd nL21 sL21 L' f cdv (CLs L') outer) (execs part5 (envX nL21 sL21 L' f cdv (CLs L')))
      (NextP g L' s (fun m' n' => (∀ y, y ≠ S "sent" → m' y = m y) ∧ ∃ (q5 : Addr) (vs : List Value), m' (S "sent") = some (.ref q5) ∧ n' = (q5, LCg.lst vs) :: NL ∧ IntsAre vs ((sentL row pl st).map fun d : Nat => (d : Int)) ∧ (∀ p ∈ NL, p.1 ≠ q5))) noE { s with heap := h₁, toks := tk } := by
  have a1 : ((sz : Nat) : Int) + 8 = ((sz + 8 : Nat) : Int) := by lia
  dsimp only [part5, List.drop, List.take, bL21, sL21, S, CLs] at *
  k_steps
  (try (any_goals first | exact (S "") | exact Value.none | exact (0 : Addr)))
  unfold HoldK
  rename_i hA tA tB tC tD hR FF NF _
  refine LCg.CompSrc.range rfl FF NF hR (small_one (by lia) (by lia) (by lia) (by lia)) (rangeSize_nat _ _) (Nat.le_trans (by lia : sz + 8 ≤ 100) (by rw [sizeLine_eq]; decide)) fun g' => compRest_ind (Inv := fun k i ys n' => i + k = sz + 8 ∧ n' = NL ∧ IntsAre ys (((List.range i).map (sentF row pl st)).map fun d : Nat => (d : Int))) ?_ ?_ _ _ _ _ ⟨by lia, rfl, .nil⟩
  · rintro i ys n' ⟨hij, rfl, hys⟩ D7 h7 tk7 F7 N7 o7
    have hi' : i = row.length := by lia
    subst hi'
    have m7 := off1_mem o7
    k_steps
    exact ⟨rfl, _, _, _, _, rfl, F7, N7, fun y hy => if_neg hy, D7, ys, rfl, rfl, hys, m7⟩
  · rintro j i ys n' ⟨hij, rfl, hys⟩ v I7 oI7 C7 oC7 D7 m₇ h7 tk7 E7 ⟨tv, rfl⟩ hC7 hx7 F7 N7 off7 ne7
    have e0 : (0 : Int) + ((i : Nat) : Int) = ((i : Nat) : Int) := by lia
    rw [e0] at hx7
    obtain ⟨r, hr⟩ : ∃ r, row.getD i 0 = r := ⟨_, rfl⟩
    have e1 : (row.map fun n : Nat => (n : Int)).getD ((i : Nat) : Int).toNat 0 = ((r : Nat) : Int) := by rw [← hr]; exact getD_nat
    have hrl2 : (row.map fun n : Nat => (n : Int)).length = sz + 8 := by rw [List.length_map]; exact hrl
    have e2 : ((i : Nat) : Int) < (row.map fun n : Nat => (n : Int)).length := by rw [hrl2]; lia
    have e2a : (0 : Int) ≤ ((i : Nat) : Int) := by lia
    have e3 : ((r : Nat) : Int) + ((st : Nat) : Int) = ((r + st : Nat) : Int) := by lia
    have e4 : ((r + st : Nat) : Int).fmod 16 = (((r + st) % 16 : Nat) : Int) := fmod_nat _ 16
    have fin : ∀ (t : Tok), IntsAre (ys ++ [.int ((sentF row pl st i : Nat) : Int) t]) (((List.range (i + 1)).map (sentF row pl st)).map fun d : Nat => (d : Int)) := fun t => by
      rw [List.range_succ, List.map_append, List.map_append]
      exact hys.append (.cons _ _ .nil)
    rcases Classical.em (i = pl) with ep | ep
    · have ef : sentF row pl st i = (r + st) % 16 := by unfold sentF; rw [if_pos ep, hr]
      have ep' : ((i : Nat) : Int) = ((pl : Nat) : Int) := by lia
      rw [ef] at fin
      k_steps
      all_goals first | (exfalso; lia) | exact LCg.CompEnd.intro F7 N7 n' (fun p hp => hp) off7 trivial ⟨by lia, rfl, fin _⟩
    · have ef : sentF row pl st i = r := by unfold sentF; rw [if_neg ep, hr]
      have ep' : ((i : Nat) : Int) ≠ ((pl : Nat) : Int) := by lia
      rw [ef] at fin
      k_steps
      all_goals first | (exfalso; lia) | exact LCg.CompEnd.intro F7 N7 n' (fun p hp => hp) off7 trivial ⟨by lia, rfl, fin _⟩
set_option maxRecDepth 100000 in
set_option maxHeartbeats 8000000 in
theorem body6 (l : Addr) (us : List Value) (ns : List Int) (hi : IntsAre us ns) (hz : us.length ≤ 63) {dp un : Nat} {gd : Option (List Code)} {outer : List Env} {A₀ : Around} {base g : Heap} {f L' : Addr} {cdv : Value} {h₁ : Heap} {s : Shared} {tk : Nat} {NL : List (Addr × Obj)} {m : Str → Option Value}
    (B : Below A₀ base outer g) (F : Fr g L' h₁ m) (N : News g L' h₁ NL)
    (X : (KL w.params).In g) (T0 : Top topProg looseL mean mg mb g) (C : HdOk g) (hl : g.IsList l us.toArray) (hd : dp ≤ 400) (hu : un + 400 < cLine) (ms : m (S "script") = some (.ref l)) :
    wpAny (ML w) (ktrTop dp un gd nL21 sL21 L' f cdv (CLs L') outer) (execs part6 (envX nL21 sL21 L' f cdv (CLs L')))
      (NextP g L' s (fun m' n' => n' = NL ∧ (∀ y, y ≠ S "looks" → y ≠ S "order" → m' y = m y) ∧ ∃ (lk od : Nat) (t1 t2 : Tok), m' (S "looks") = some (.int (lk : Int) t1) ∧ m' (S "order") = some (.int (od : Int) t2))) noE { s with heap := h₁, toks := tk } := by
  have hd2 : dp + 2 < recursionLimit := Nat.lt_of_le_of_lt (Nat.add_le_add_right hd 2) (by decide)
  have hu2 : un + 30 < cLine := Nat.lt_of_le_of_lt (Nat.add_le_add_left (by decide) un) hu
  have hz2 : us.length ≤ 10000000 := Nat.le_trans hz (by decide)
  obtain ⟨k3, c3, hk3⟩ := fmod_some (cellV ns 3 7 437804950527) (by decide : 0 < 16 ^ 40)
  have c3p : (16 : Int) ^ (40 : Int).toNat = ((16 ^ 40 : Nat) : Int) := by decide
  have c3n : ((16 ^ 40 : Nat) : Int) ≠ 0 := by decide
  obtain ⟨k4, c4, hk4⟩ := fmod_some (cellV ns 4 7 725) (by decide : 0 < 2 ^ 48)
  have c4p : (2 : Int) ^ (48 : Int).toNat = ((2 ^ 48 : Nat) : Int) := by decide
  have c4n : ((2 ^ 48 : Nat) : Int) ≠ 0 := by decide
  dsimp only [part6, List.drop, List.take, bL21, sL21, S, CLs] at *
  k_steps
  (refine' cell_K (cn := nL21) (a := f) (ccd := cdv) l us ns 3 437804950527 _ _ ?cB ?cF ?cN X T0 C rfl hd2 hu2 hl hi hz2 ?_; (case cB => k_asm); (case cF => k_asm); (case cN => k_asm)); intro t1 h2 tk2 F2 N2
  k_steps
  (refine' cell_K (cn := nL21) (a := f) (ccd := cdv) l us ns 4 725 _ _ ?cB ?cF ?cN X T0 C rfl hd2 hu2 hl hi hz2 ?_; (case cB => k_asm); (case cF => k_asm); (case cN => k_asm)); intro t3 h3 tk3 F3 N3
  k_steps
  rename Fr _ _ _ _ => F8
  rename News _ _ _ _ => N8
  exact ⟨rfl, _, _, _, _, rfl, F8, N8, rfl, fun y h1 h2 => (if_neg h2).trans (if_neg h1), k3, k4, _, _, rfl, rfl⟩
end
theorem primeS9 : rw_ul0020_01.prog = rw_ul0020_01.prog ∧ KL = KL := by k_fill; exact ⟨rfl, rfl⟩
local macro_rules | `(tactic| walk_at "subscriptTail Name Slice ref ref") => `(tactic| refine HoldK.out ?_)
local macro_rules | `(tactic| walk_at "compareOp NotEq ref ref") => `(tactic| refine HoldK.out ?_)
section
variable {w : World} {mean : ExcName → Option Value} {mg mb : Str → Option Value}
noncomputable def part7 : List Stmt := (bL21.drop 11).take 2
set_option maxRecDepth 100000 in
set_option maxHeartbeats 8000000 in
theorem body7 {dp un : Nat} {gd : Option (List Code)} {outer : List Env} {A₀ : Around} {base g : Heap} {f L' : Addr} {cdv : Value} {h₁ : Heap} {s : Shared} {tk : Nat} {NL : List (Addr × Obj)} {m : Str → Option Value} {sz lk od ku : Nat} {ts tl to : Tok} {q5 : Addr} {vs : List Value} {sent : List Nat}
    (B : Below A₀ base outer g) (F : Fr g L' h₁ m) (N : News g L' h₁ NL) (hq5 : (q5, listOf vs.toArray ku) ∈ NL)
    (X : (KL w.params).In g) (T0 : Top topProg looseL mean mg mb g) (C : HdOk g) (hd : dp ≤ 400) (hu : un + 400 < cLine) (msz : m (S "size") = some (.int (sz : Int) ts)) (mse : m (S "sent") = some (.ref q5)) (mlk : m (S "looks") = some (.int (lk : Int) tl)) (mod' : m (S "order") = some (.int (od : Int) to))
    (hvs : IntsAre vs (sent.map fun d : Nat => (d : Int))) (hsl : sent.length = sz + 8) (hsz2 : sz ≤ 39) (h16 : ∀ d ∈ sent, d < 16) :
    wpAny (ML w) (ktrTop dp un gd nL21 sL21 L' f cdv (CLs L') outer) (execs part7 (envX nL21 sL21 L' f cdv (CLs L')))
      (NextP g L' s (fun m' n' => (∀ y, y ≠ S "letters" → y ≠ S "unseen" → m' y = m y) ∧ ∃ (qa qb : Addr) (ua ub : List Value) (ka kb : Nat), m' (S "letters") = some (.ref qa) ∧ m' (S "unseen") = some (.ref qb) ∧ n' = (qb, listOf ub.toArray kb) :: (qa, listOf ua.toArray ka) :: NL ∧ IntsAre ua ((sent.take sz).map fun d : Nat => (d : Int)) ∧ IntsAre ub ((sent.drop sz).map fun d : Nat => (d : Int)) ∧ (∀ p ∈ NL, p.1 ≠ qa) ∧ (∀ p ∈ NL, p.1 ≠ qb) ∧ qa ≠ qb)) noE { s with heap := h₁, toks := tk } := by
  have hd2 : dp + 10 < recursionLimit := Nat.lt_of_le_of_lt (Nat.add_le_add_right hd 10) (by decide)
  have hu2 : un + 100 < cLine := Nat.lt_of_le_of_lt (Nat.add_le_add_left (by decide) un) hu
  have hvl : vs.length ≤ 100000 := by rw [hvs.length, List.length_map]; lia
  have eT : (sent.map fun d : Nat => (d : Int)).take sz = (sent.take sz).map fun d : Nat => (d : Int) := List.map_take.symm
  have eD : (sent.map fun d : Nat => (d : Int)).drop sz = (sent.drop sz).map fun d : Nat => (d : Int) := List.map_drop.symm
  dsimp only [part7, List.drop, List.take, bL21, sL21, S, CLs] at *
  k_steps
  unfold HoldK
  rename Fr _ _ _ _ => F3
  rename News _ _ _ _ => N3
  refine slice_upto (s := ⟨_, _, _, _, _⟩) F3 N3 hq5 hvs hvl (fun D1 w1 h4 F4 N4 l4 hw1 => ?_) (by with_unfolding_all rfl) (by intro _; with_unfolding_all rfl)
  rw [eT] at hw1
  clear F3 N3
  k_steps
  unfold HoldK
  rename Fr _ _ _ _ => F3
  rename News _ _ _ _ => N3
  refine slice_from (s := ⟨_, _, _, _, _⟩) F3 N3 (.tail _ hq5) hvs hvl (fun D2 w2 h5 F5 N5 l5 hw2 => ?_) (by with_unfolding_all rfl) (by intro _; with_unfolding_all rfl)
  rw [eD] at hw2
  clear F3 N3
  k_steps
  (refine' Spec.use ?wS ?wB ?wF ?wN ?wX ?wT ?wC ?wk ?wd ?wu ?_; (case wB => k_asm); (case wF => k_asm); (case wN => k_asm); (case wX => k_asm); (case wT => k_asm); (case wC => k_asm); (case wk => exact rfl); (case wS => exact (spec_ltext D1 D2 w1 w2 (sent.take sz) (sent.drop sz) hw1 hw2 (fun a ha => h16 a (List.mem_of_mem_take ha)) (fun a ha => h16 a (List.mem_of_mem_drop ha)) (by rw [List.length_take]; lia) (by rw [List.length_drop]; lia) 0 0 lk od _ _ (.tail _ (.head _)) (.head _))); (case wd => lia); (case wu => lia))
  rintro _ _ h6 tk6 ⟨q6, t6, k6, segs, rfl, rfl, hts, hso, hsL, hsU, hsz, hq6⟩ F6 N6
  k_steps
  (refine' Spec.use ?wS ?wB ?wF ?wN ?wX ?wT ?wC ?wk ?wd ?wu ?_; (case wB => k_asm); (case wF => k_asm); (case wN => k_asm); (case wX => k_asm); (case wT => k_asm); (case wC => k_asm); (case wk => exact rfl); (case wS => exact (spec_read q6 t6 segs hts hso (by rw [List.length_take, List.length_drop] at hsz; lia) k6 (.head _))); (case wd => lia); (case wu => lia))
  rintro _ _ h7 tk7 ⟨P, qa, qb, ua, ub, ka, kb, cP, rfl, hcP, rfl, hua, hub, nqa, nqb, nP, nab, naP, nbP⟩ F7 N7
  subst hcP
  rw [hsL] at hua
  rw [hsU] at hub
  k_steps
  unfold HoldK
  rename Fr _ _ _ _ => F3
  rename News _ _ _ _ => N3
  refine slice_upto (s := ⟨_, _, _, _, _⟩) F3 N3 (.tail _ (.tail _ (.tail _ (.tail _ (.tail _ (.tail _ hq5)))))) hvs hvl (fun D3 w3 h8 F8 N8 l8 hw3 => ?_) (by with_unfolding_all rfl) (by intro _; with_unfolding_all rfl)
  rw [eT] at hw3
  clear F3 N3
  k_steps
  unfold HoldK
  rename Fr _ _ _ _ => F9
  rename News _ _ _ _ => N9
  refine ne_intsK ⟨_, (N9 _ (.tail _ (.tail _ (.tail _ (.head _))))).1, rfl, _, rfl⟩ hua ⟨_, (N9 _ (.head _)).1, rfl, _, rfl⟩ hw3 (show un + 64 < cLine by lia) ?_
  have eq1 : (!decide (((sent.take sz).map fun d : Nat => (d : Int)) = ((sent.take sz).map fun d : Nat => (d : Int)))) = false := by simp
  rw [eq1]
  k_steps
  unfold HoldK
  rename Fr _ _ _ _ => F3
  rename News _ _ _ _ => N3
  refine slice_from (s := ⟨_, _, _, _, _⟩) F3 N3 (.tail _ (.tail _ (.tail _ (.tail _ (.tail _ (.tail _ (.tail _ hq5))))))) hvs hvl (fun D4 w4 h9 F10 N10 l10 hw4 => ?_) (by with_unfolding_all rfl) (by intro _; with_unfolding_all rfl)
  rw [eD] at hw4
  clear F3 N3
  k_steps
  unfold HoldK
  rename Fr _ _ _ _ => F9
  rename News _ _ _ _ => N9
  refine ne_intsK ⟨_, (N9 _ (.tail _ (.tail _ (.tail _ (.head _))))).1, rfl, _, rfl⟩ hub ⟨_, (N9 _ (.head _)).1, rfl, _, rfl⟩ hw4 (show un + 64 < cLine by lia) ?_
  have eq2 : (!decide (((sent.drop sz).map fun d : Nat => (d : Int)) = ((sent.drop sz).map fun d : Nat => (d : Int)))) = false := by simp
  rw [eq2]
  k_steps
  rename Fr _ _ _ _ => F11
  rename News _ _ _ _ => N11
  exact ⟨rfl, _, _, _, _, rfl, F11, nsub N11 (b := (qb, listOf ub.toArray kb) :: (qa, listOf ua.toArray ka) :: NL) (List.forall_mem_cons.mpr ⟨.tail _ (.tail _ (.tail _ (.head _))), List.forall_mem_cons.mpr ⟨.tail _ (.tail _ (.tail _ (.tail _ (.head _)))), fun p hp => .tail _ (.tail _ (.tail _ (.tail _ (.tail _ (.tail _ (.tail _ (.tail _ hp)))))))⟩⟩), fun y h1 h2 => (if_neg h2).trans (if_neg h1), qa, qb, ua, ub, ka, kb, rfl, rfl, rfl, hua, hub, fun p hp => nqa p (.tail _ (.tail _ (.tail _ hp))), fun p hp => nqb p (.tail _ (.tail _ (.tail _ hp))), nab⟩
end
theorem primeS10 : rw_ul0020_01.prog = rw_ul0020_01.prog ∧ KL = KL := by k_fill; exact ⟨rfl, rfl⟩
local macro_rules | `(tactic| walk_at "subscriptTail Subscript Slice ref ref") => `(tactic| refine HoldK.out ?_)
theorem neSame {prog : Program} {w : World} {A : Around} {E : Value → Shared → Prop} {s : Shared} {a : Int} {t u : Tok} {Q : Value → Shared → Prop} (h : Q (.bool false) s) : wpAny (model prog w) A (compareOp .NotEq (.int a t) (.int a u)) Q E s := PyProof.Rows.ne_int (by rw [bne_self_eq_false]; exact h)
local macro_rules | `(tactic| walk_at "compareOp NotEq int int") => `(tactic| refine neSame ?_)
section
variable {w : World} {mean : ExcName → Option Value} {mg mb : Str → Option Value}
noncomputable def part8 : List Stmt := (bL21.drop 13).take 2
noncomputable def gapS : Stmt := match bL21.drop 15 with | x :: _ => x | _ => .Pass ⟨0, 0, 0, 0⟩
theorem dval_ok {l : List Nat} (h : ∀ d ∈ l, d < 16) : ∀ d ∈ (l.map fun d : Nat => (d : Int)).reverse, d.natAbs < 2 ^ 1000 := fun d hd => by
  rw [List.mem_reverse] at hd
  obtain ⟨x, hx, rfl⟩ := List.mem_map.mp hd
  rw [Int.natAbs_natCast]
  exact Nat.lt_trans (Nat.lt_trans (h x hx) (by decide : 16 < 2 ^ 10)) (Nat.pow_lt_pow_right (by decide) (by decide))
set_option maxRecDepth 100000 in
set_option maxHeartbeats 8000000 in
theorem body8 {dp un : Nat} {gd : Option (List Code)} {outer : List Env} {A₀ : Around} {base g : Heap} {f L' : Addr} {cdv : Value} {h₁ : Heap} {s : Shared} {tk : Nat} {A T : List (Addr × Obj)} {m : Str → Option Value} {ka : Nat} {qa : Addr} {ua : List Value} {L : List Nat}
    (B : Below A₀ base outer g) (F : Fr g L' h₁ m) (N : News g L' h₁ (A ++ T)) (hT : Tabs T) (hD : Dis A T) (hqa : (qa, listOf ua.toArray ka) ∈ A)
    (X : (KL w.params).In g) (T0 : Top topProg looseL mean mg mb g) (C : HdOk g) (hd : dp ≤ 400) (hu : un + 400 < cLine) (ml : m (S "letters") = some (.ref qa))
    (hua : IntsAre ua (L.map fun d : Nat => (d : Int))) (hLl : L.length ≤ 39) (h16 : ∀ d ∈ L, d < 16) :
    wpAny (ML w) (ktrTop dp un gd nL21 sL21 L' f cdv (CLs L') outer) (execs part8 (envX nL21 sL21 L' f cdv (CLs L')))
      (NextP g L' s (fun m' n' => (∀ y, y ≠ S "seen" → y ≠ S "gaps" → m' y = m y) ∧ ∃ (qg : Addr) (t : Tok) (T' : List (Addr × Obj)), m' (S "seen") = some (.int ((hexval L : Nat) : Int) t) ∧ m' (S "gaps") = some (.ref qg) ∧ n' = (qg, listOf #[] 0) :: (A ++ T') ∧ Tabs T' ∧ Dis A T' ∧ ∀ p ∈ A ++ T', p.1 ≠ qg)) noE { s with heap := h₁, toks := tk } := by
  have hd2 : dp + 20 < recursionLimit := Nat.lt_of_le_of_lt (Nat.add_le_add_right hd 20) (by decide)
  have hu2 : un + 150 < cLine := Nat.lt_of_le_of_lt (Nat.add_le_add_left (by decide) un) hu
  have hqa' : (qa, listOf ua.toArray ka) ∈ A ++ T := List.mem_append_left _ hqa
  dsimp only [part8, List.drop, List.take, bL21, sL21, S, CLs] at *
  k_steps
  unfold HoldK
  rename Fr _ _ _ _ => F3
  rename News _ _ _ _ => N3
  have l7 : ua.length ≤ 100000 := by rw [hua.length, List.length_map]; lia
  refine krv_ints (s := ⟨_, _, _, _, _⟩) F3 N3 ⟨_, (N3 _ hqa').1, rfl, _, rfl⟩ (.int _ _) hua (fun D8 ws8 h8 F8 N8 l8 hw8 _ => ?_) (by with_unfolding_all rfl) (by intro _; with_unfolding_all rfl) (size_ok l7)
  clear F3 N3
  k_steps
  (refine' Spec.use ?wS ?wB ?wF ?wN ?wX ?wT ?wC ?wk ?wd ?wu ?_; (case wB => k_asm); (case wF => k_asm); (case wN => k_asm); (case wX => k_asm); (case wT => k_asm); (case wC => k_asm); (case wk => exact rfl); (case wS => exact (spec_d2i D8 ws8 _ hw8 0 4 _ (A := (D8, listOf ws8.toArray 0) :: A) (T := T) (.head _) (dval_ok h16) (by decide) (by rw [List.length_reverse, List.length_map]; lia) hT (List.forall_mem_cons.mpr ⟨fun p hp => Nat.ne_of_lt (l8 p (List.mem_append_right _ hp)), hD⟩))); (case wd => lia); (case wu => lia))
  rintro _ _ h9 tk9 ⟨⟨t9, rfl⟩, T9, rfl, hT9, hD9⟩ F9 N9
  rw [hexval_dval]
  k_steps
  rename_i ha ta qg hb lg hc F10 N10
  exact ⟨rfl, _, _, _, _, rfl, F10, nsub N10 (b := (qg, listOf #[] 0) :: (A ++ T9)) (List.forall_mem_cons.mpr ⟨.head _, fun p hp => .tail _ (.tail _ hp)⟩), fun y h1 h2 => (if_neg h2).trans (if_neg h1), qg, t9, T9, rfl, rfl, rfl, hT9, fun a ha => hD9 a (.tail _ ha), fun p hp => Nat.ne_of_lt (lg p (.tail _ hp))⟩
noncomputable def InvG (m : Str → Option Value) (A : List (Addr × Obj)) (qg : Addr) (gL : List Int) (I : Addr) (k i : Nat) (m' : Str → Option Value) (n' : List (Addr × Obj)) : Prop :=
  ∃ (T' : List (Addr × Obj)) (gs : List Value) (kg : Nat), i + k = 2 ∧ n' = (qg, listOf gs.toArray kg) :: (A ++ T') ∧ Tabs T' ∧ Dis A T' ∧ IntsAre gs (gL.take i) ∧ (∀ y, y ≠ S "k" → y ≠ S "less" → y ≠ S "quotient" → y ≠ S "gap" → m' y = m y) ∧ (∀ p ∈ A ++ T', p.1 ≠ qg) ∧ (∀ p ∈ (qg, listOf gs.toArray kg) :: (A ++ T'), p.1 ≠ I)
set_option maxRecDepth 100000 in
set_option maxHeartbeats 8000000 in
theorem body9 {dp un : Nat} {gd : Option (List Code)} {outer : List Env} {A₀ : Around} {base g : Heap} {f L' : Addr} {cdv : Value} {h₁ : Heap} {s : Shared} {tk : Nat} {A T : List (Addr × Obj)} {m : Str → Option Value} {kb : Nat} {qb qg : Addr} {ub : List Value} {U : List Nat} {oW : Obj} {wi : Nat} {tw tse : Tok} {seen : Nat} {g0 g1 : Int}
    (B : Below A₀ base outer g) (F : Fr g L' h₁ m) (N : News g L' h₁ ((qg, listOf #[] 0) :: (A ++ T))) (hT : Tabs T) (hD : Dis A T) (hqb : (qb, listOf ub.toArray kb) ∈ A) (hcW : (L' + 1, oW) ∈ A) (dW : oW.data = .cell (some (.int (wi : Int) tw))) (nqg : ∀ p ∈ A ++ T, p.1 ≠ qg)
    (X : (KL w.params).In g) (T0 : Top topProg looseL mean mg mb g) (C : HdOk g) (hd : dp ≤ 400) (hu : un + 400 < cLine) (mu : m (S "unseen") = some (.ref qb)) (mse : m (S "seen") = some (.int (seen : Int) tse)) (mga : m (S "gaps") = some (.ref qg))
    (hub : IntsAre ub (U.map fun d : Nat => (d : Int))) (hUl : U.length = 8) (h16 : ∀ d ∈ U, d < 16) (h9 : 9 ≤ wi) (h12 : wi ≤ 12) (hse : seen < 16 ^ 39)
    (e0 : g0 = (((seen : Nat) : Int) - ((hexval (U.take 4) : Nat) : Int)).fmod ((2 ^ wi - 1 : Nat) : Int)) (e1 : g1 = (((seen : Nat) : Int) - ((hexval ((U.drop 4).take 4) : Nat) : Int)).fmod ((2 ^ (wi + 1) - 1 : Nat) : Int)) :
    wpAny (ML w) (ktrTop dp un gd nL21 sL21 L' f cdv (CLs L') outer) (exec gapS (envX nL21 sL21 L' f cdv (CLs L')))
      (NextP g L' s (fun m' n' => (∀ y, y ≠ S "k" → y ≠ S "less" → y ≠ S "quotient" → y ≠ S "gap" → m' y = m y) ∧ ∃ (T' : List (Addr × Obj)) (gs : List Value) (kg : Nat), n' = (qg, listOf gs.toArray kg) :: (A ++ T') ∧ Tabs T' ∧ Dis A T' ∧ IntsAre gs [g0, g1] ∧ (∀ p ∈ A ++ T', p.1 ≠ qg))) noE { s with heap := h₁, toks := tk } := by
  have hd2 : dp + 30 < recursionLimit := Nat.lt_of_le_of_lt (Nat.add_le_add_right hd 30) (by decide)
  have hu2 : un + 300 < cLine := Nat.lt_of_le_of_lt (Nat.add_le_add_left (by decide) un) hu
  dsimp only [gapS, List.drop, List.take, bL21, sL21, S, CLs] at *
  k_steps
  unfold HoldK
  rename_i hA tA tB tC tD hR FF NF _
  refine iter_rangeUnr rfl hR (small_one (by decide) (by decide) (by decide) (by decide)) (rangeSize_nat _ _) FF NF fun I hI => rangeRest_ind (Inv := InvG m A qg [g0, g1] I) ?_ ?_ _ _ _ _ ⟨T, [], 0, by decide, rfl, hT, hD, .nil, fun _ _ _ _ _ => rfl, nqg, fun p hp => Nat.ne_of_lt (hI p hp)⟩
  · rintro i m' n' ⟨T', gs, kg, hik, rfl, hT', hD', hgs, hm', nqg', nI⟩ h tk F N
    have hi2 : i = 2 := by lia
    subst hi2
    k_steps
    exact ⟨rfl, h, _, m', _, rfl, F, N, hm', T', gs, kg, rfl, hT', hD', hgs, nqg'⟩
  · rintro k i m' n' ⟨T', gs, kg, hik, rfl, hT', hD', hgs, hm', nqg', nI⟩ t h tk F N
    have ez : (0 : Int) + ((i : Nat) : Int) = ((i : Nat) : Int) := by lia
    rw [ez] at F
    have mu' := (hm' (S "unseen") (by decide) (by decide) (by decide) (by decide)).trans mu
    have mse' := (hm' (S "seen") (by decide) (by decide) (by decide) (by decide)).trans mse
    have mga' := (hm' (S "gaps") (by decide) (by decide) (by decide) (by decide)).trans mga
    have hi2 : i < 2 := by lia
    obtain ⟨c, hc⟩ : ∃ c, hexval ((U.drop (4 * i)).take 4) = c := ⟨_, rfl⟩
    have hclt : c < 16 ^ 4 := by
      rw [← hc]
      have h1 := hexval_lt ((U.drop (4 * i)).take 4) fun d hd => h16 d (List.mem_of_mem_drop (List.mem_of_mem_take hd))
      exact Nat.lt_of_lt_of_le h1 (Nat.pow_le_pow_right (by decide) (by rw [List.length_take]; lia))
    obtain ⟨less, hless⟩ : ∃ x, ((seen : Nat) : Int) - ((c : Nat) : Int) = x := ⟨_, rfl⟩
    have hg : [g0, g1][i]? = some (less.fmod ((2 ^ (wi + i) - 1 : Nat) : Int)) := by
      have : i = 0 ∨ i = 1 := by lia
      rcases this with rfl | rfl
      · rw [← hless, ← hc]; exact congrArg some e0
      · rw [← hless, ← hc]; exact congrArg some e1
    have f1 : (4 : Int) * ((i : Nat) : Int) = ((4 * i : Nat) : Int) := by lia
    have f1m : IntMulOk (4 : Int) ((i : Nat) : Int) := PySem.IntMulOk.of_left (by decide)
    have f2 : ((4 * i : Nat) : Int) + 4 = ((4 * i + 4 : Nat) : Int) := by lia
    have f3 : ((wi : Nat) : Int) + ((i : Nat) : Int) = ((wi + i : Nat) : Int) := by lia
    have f4 : (2 : Int) ^ ((wi + i : Nat) : Int).toNat = ((2 ^ (wi + i) : Nat) : Int) := by rw [Int.toNat_natCast]; norm_cast
    have f4a : (0 : Int) ≤ ((wi + i : Nat) : Int) := by lia
    have f4b : ((wi + i : Nat) : Int) ≤ 1000000 := by lia
    have hp1 : 512 ≤ 2 ^ (wi + i) := Nat.pow_le_pow_right (n := 2) (by decide) (show 9 ≤ wi + i by lia)
    have hp2 : 2 ^ (wi + i) ≤ 2 ^ 13 := Nat.pow_le_pow_right (by decide) (by lia)
    generalize 2 ^ (wi + i) = P2 at *
    have f5 : ((P2 : Nat) : Int) - 1 = ((P2 - 1 : Nat) : Int) := by lia
    obtain ⟨M, hM⟩ : ∃ M, P2 - 1 = M := ⟨_, rfl⟩
    rw [hM] at f5 hg
    have hp3 : (2 : Nat) ^ 13 = 8192 := rfl
    have hM0 : ((M : Nat) : Int) ≠ 0 := by lia
    obtain ⟨qu, hqu⟩ : ∃ x, less.fdiv ((M : Nat) : Int) = x := ⟨_, rfl⟩
    obtain ⟨ga, hga⟩ : ∃ x, less.fmod ((M : Nat) : Int) = x := ⟨_, rfl⟩
    have hga0 : 0 ≤ ga := by rw [← hga]; exact Int.fmod_nonneg_of_pos _ (by lia)
    have hga1 : ga < ((M : Nat) : Int) := by rw [← hga]; exact Int.fmod_lt_of_pos _ (by lia)
    have hqm : qu * ((M : Nat) : Int) = less - ga := by
      have := Int.mul_fdiv_add_fmod less ((M : Nat) : Int)
      rw [hqu, hga, Int.mul_comm] at this
      lia
    have hqmm : IntMulOk qu ((M : Nat) : Int) := PySem.IntMulOk.of_right (PySem.intBits_le_64 (by lia) (by lia))
    have hsum : less - ga + ga = less := by lia
    have hlb : less.natAbs < 2 ^ 300 := by
      have h1 : (16 : Nat) ^ 39 = 2 ^ 156 := by rw [show 16 = 2 ^ 4 from rfl, ← Nat.pow_mul]
      have h2 : (16 : Nat) ^ 4 = 2 ^ 16 := by rw [show 16 = 2 ^ 4 from rfl, ← Nat.pow_mul]
      have h3 : (2 : Nat) ^ 16 ≤ 2 ^ 156 := Nat.pow_le_pow_right (by decide) (by decide)
      have h4 : (2 : Nat) ^ 156 < 2 ^ 300 := Nat.pow_lt_pow_right (by decide) (by decide)
      rw [h1] at hse
      rw [h2] at hclt
      generalize (2 : Nat) ^ 16 = x1 at *
      generalize (2 : Nat) ^ 156 = x2 at *
      generalize (2 : Nat) ^ 300 = x3 at *
      lia
    have hMb : ((M : Nat) : Int).natAbs < 2 ^ 300 := by
      rw [Int.natAbs_natCast]
      exact Nat.lt_of_lt_of_le (by lia : M < 2 ^ 13) (Nat.pow_le_pow_right (by decide) (by decide))
    have hubl : ub.length ≤ 100000 := by rw [hub.length, List.length_map]; lia
    have hbl : 4 * i + 4 ≤ (U.map fun d : Nat => (d : Int)).length := by rw [List.length_map]; lia
    have nIqg : I ≠ qg := (nI _ (.head _)).symm
    have hgl : gs.length < 90000 := by rw [hgs.length, List.length_take]; lia
    k_steps
    unfold HoldK
    rename Fr _ _ _ _ => F3
    rename News _ _ _ _ => N3
    refine slice_run (a := 4 * i) (b := 4 * i + 4) (s := ⟨_, _, _, _, _⟩) hbl F3 N3 (.tail _ (.tail _ (List.mem_append_left _ hqb))) hub hubl (fun D7 w7 h7 F7 N7 l7 hw7 => ?_) (by with_unfolding_all rfl) (by intro _; with_unfolding_all rfl)
    clear F3 N3
    have hw7' : IntsAre w7 (((U.drop (4 * i)).take 4).map fun d : Nat => (d : Int)) := by
      rw [List.map_take, List.map_drop]
      have e4 : 4 * i + 4 - 4 * i = 4 := by lia
      rw [e4] at hw7
      exact hw7
    k_steps
    unfold HoldK
    rename Fr _ _ _ _ => F3
    rename News _ _ _ _ => N3
    have l77 : w7.length ≤ 100000 := by rw [hw7'.length, List.length_map, List.length_take]; lia
    refine krv_ints (s := ⟨_, _, _, _, _⟩) F3 N3 ⟨_, (N3 _ (.head _)).1, rfl, _, rfl⟩ (.int _ _) hw7' (fun D8 ws8 h8 F8 N8 l8 hw8 _ => ?_) (by with_unfolding_all rfl) (by intro _; with_unfolding_all rfl) (size_ok l77)
    clear F3 N3
    have DD8 : Dis ((D8, listOf ws8.toArray 0) :: (D7, listOf w7.toArray 0) :: (I, itR (0 + ((i + 1 : Nat) : Int)) (((2 - 0 : Int).toNat : Nat) - ((i + 1 : Nat) : Int))) :: (qg, listOf gs.toArray kg) :: A) T' :=
      List.forall_mem_cons.mpr ⟨fun p hp => Nat.ne_of_lt (l8 p (.tail _ (.tail _ (.tail _ (List.mem_append_right _ hp))))), List.forall_mem_cons.mpr ⟨fun p hp => Nat.ne_of_lt (l7 p (.tail _ (.tail _ (List.mem_append_right _ hp)))), List.forall_mem_cons.mpr ⟨fun p hp => nI p (.tail _ (List.mem_append_right _ hp)), List.forall_mem_cons.mpr ⟨fun p hp => nqg' p (List.mem_append_right _ hp), hD'⟩⟩⟩⟩
    k_steps
    (refine' Spec.use ?wS ?wB ?wF ?wN ?wX ?wT ?wC ?wk ?wd ?wu ?_; (case wB => k_asm); (case wF => k_asm); (case wN => k_asm); (case wX => k_asm); (case wT => k_asm); (case wC => k_asm); (case wk => exact rfl); (case wS => exact (spec_d2i D8 ws8 _ hw8 0 4 _ (A := (D8, listOf ws8.toArray 0) :: (D7, listOf w7.toArray 0) :: (I, itR (0 + ((i + 1 : Nat) : Int)) (((2 - 0 : Int).toNat : Nat) - ((i + 1 : Nat) : Int))) :: (qg, listOf gs.toArray kg) :: A) (T := T') (.head _) (dval_ok fun d hd => h16 d (List.mem_of_mem_drop (List.mem_of_mem_take hd))) (by decide) (by rw [List.length_reverse, List.length_map, List.length_take]; lia) hT' DD8)); (case wd => lia); (case wu => lia))
    rintro _ _ h9 tk9 ⟨⟨t9, rfl⟩, T9, rfl, hT9, hD9⟩ F9 N9
    rw [hexval_dval, hc]
    simp only [List.cons_append] at N9
    have hcW9 : (L' + 1, oW) ∈ (D8, listOf ws8.toArray 0) :: (D7, listOf w7.toArray 0) :: (I, itR (0 + ((i + 1 : Nat) : Int)) (((2 - 0 : Int).toNat : Nat) - ((i + 1 : Nat) : Int))) :: (qg, listOf gs.toArray kg) :: (A ++ T9) := .tail _ (.tail _ (.tail _ (.tail _ (List.mem_append_left _ hcW))))
    k_steps
    (refine' Spec.use ?wS ?wB ?wF ?wN ?wX ?wT ?wC ?wk ?wd ?wu ?_; (case wB => k_asm); (case wF => k_asm); (case wN => k_asm); (case wX => k_asm); (case wT => k_asm); (case wC => k_asm); (case wk => exact rfl); (case wS => exact (spec_dm less ((M : Nat) : Int) _ _ (A := (D8, listOf ws8.toArray 0) :: (D7, listOf w7.toArray 0) :: (I, itR (0 + ((i + 1 : Nat) : Int)) (((2 - 0 : Int).toNat : Nat) - ((i + 1 : Nat) : Int))) :: (qg, listOf gs.toArray kg) :: A) (T := T9) hlb hMb hM0 hT9 hD9)); (case wd => lia); (case wu => lia))
    rintro _ _ h10 tk10 ⟨p, tq, tr, T10, rfl, he, hp, hT10, hD10⟩ F10 N10
    rw [he, hqu, hga] at N10
    simp only [List.cons_append] at N10
    have hcW10 : (L' + 1, oW) ∈ (p, tup2 qu ga tq tr) :: (D8, listOf ws8.toArray 0) :: (D7, listOf w7.toArray 0) :: (I, itR (0 + ((i + 1 : Nat) : Int)) (((2 - 0 : Int).toNat : Nat) - ((i + 1 : Nat) : Int))) :: (qg, listOf gs.toArray kg) :: (A ++ T10) := .tail _ (.tail _ (.tail _ (.tail _ (.tail _ (List.mem_append_left _ hcW)))))
    have npq : p ≠ qg := (hp _ (.tail _ (.tail _ (.tail _ (.head _))))).symm
    have n8q : D8 ≠ qg := (Nat.ne_of_lt (l8 (qg, _) (.tail _ (.tail _ (.head _))))).symm
    have n7q : D7 ≠ qg := (Nat.ne_of_lt (l7 (qg, _) (.tail _ (.head _)))).symm
    have nq10 : ∀ p ∈ A ++ T10, p.1 ≠ qg := fun p hp => by
      rcases List.mem_append.mp hp with hp | hp
      · exact nqg' p (List.mem_append_left _ hp)
      · exact hD10 (qg, listOf gs.toArray kg) (.tail _ (.tail _ (.tail _ (.head _)))) p hp
    have nI10 : ∀ p ∈ A ++ T10, p.1 ≠ I := fun p hp => by
      rcases List.mem_append.mp hp with hp | hp
      · exact nI p (.tail _ (List.mem_append_left _ hp))
      · exact hD10 (I, itR (0 + ((i + 1 : Nat) : Int)) (((2 - 0 : Int).toNat : Nat) - ((i + 1 : Nat) : Int))) (.tail _ (.tail _ (.head _))) p hp
    k_steps
    all_goals first | (exfalso; lia) | (
      rename Fr _ _ _ _ => F12
      rename News _ _ _ _ => N12
      refine UnrEnd.intro F12 N12 ((qg, _) :: (A ++ T10)) (List.forall_mem_cons.mpr ⟨.tail _ (.tail _ (.tail _ (.head _))), fun x hx => .tail _ (.tail _ (.tail _ (.tail _ hx)))⟩) (List.forall_mem_cons.mpr ⟨nIqg.symm, nI10⟩) ⟨T10, _, _, by lia, rfl, hT10, fun a ha => hD10 a (.tail _ (.tail _ (.tail _ (.tail _ ha)))), ?_, fun y h1 h2 h3 h4 => ?_, nq10, List.forall_mem_cons.mpr ⟨nIqg.symm, nI10⟩⟩
      · rw [List.take_add_one, hg, hga, Option.toList_some]
        exact hgs.append (.cons _ _ .nil)
      · exact ((if_neg h4).trans ((if_neg h3).trans ((if_neg h2).trans (if_neg h1)))).trans (hm' y h1 h2 h3 h4))
end
theorem primeS11 : rw_ul0020_01.prog = rw_ul0020_01.prog ∧ KL = KL := by k_fill; exact ⟨rfl, rfl⟩
local macro_rules | `(tactic| walk_at "compareOp NotIn int ref") => `(tactic| refine HoldK.out ?_)
section
variable {w : World} {mean : ExcName → Option Value} {mg mb : Str → Option Value}
noncomputable def part10 : List Stmt := (bL21.drop 16).take 2
set_option maxRecDepth 100000 in
set_option maxHeartbeats 8000000 in
theorem body10 {dp un : Nat} {gd : Option (List Code)} {outer : List Env} {A₀ : Around} {base g : Heap} {f L' : Addr} {cdv : Value} {h₁ : Heap} {s : Shared} {tk : Nat} {A : List (Addr × Obj)} {m : Str → Option Value} {kg : Nat} {qg : Addr} {gs : List Value} {oW oM : Obj} {wi N9 : Nat} {tw tse : Tok} {seen g0 g1 : Int}
    (B : Below A₀ base outer g) (F : Fr g L' h₁ m) (N : News g L' h₁ ((L' + 1 + 1 + 1 + 1 + 1 + 1, oM) :: (qg, listOf gs.toArray kg) :: A)) (hcW : (L' + 1, oW) ∈ A) (dW : oW.data = .cell (some (.int (wi : Int) tw))) (dM : oM.data = .cell none) (nqg : qg ≠ L' + 1 + 1 + 1 + 1 + 1 + 1) (nA : ∀ p ∈ A, p.1 ≠ L' + 1 + 1 + 1 + 1 + 1 + 1)
    (X : (KL w.params).In g) (T0 : Top topProg looseL mean mg mb g) (C : HdOk g) (hd : dp ≤ 400) (hu : un + 400 < cLine) (mse : m (S "seen") = some (.int seen tse)) (mga : m (S "gaps") = some (.ref qg))
    (hgs : IntsAre gs [g0, g1]) (h9 : 9 ≤ wi) (h12 : wi ≤ 12) (z0 : 0 ≤ g0) (z1 : 0 ≤ g1) (y0 : g0 < 8192) (y1 : g1 < 8192)
    (hmath : ((g0 = 0 ∨ g1 = 0) ∧ seen = ((N9 : Nat) : Int)) ∨ (g0 ≠ 0 ∧ g1 ≠ 0 ∧ ∃ (o : Int) (T : Nat), turnV g0.toNat wi = (o, ((T % wi : Nat) : Int)) ∧ turnV g1.toNat (wi + 1) = (o, ((T % (wi + 1) : Nat) : Int)) ∧ o.natAbs < 16 ∧ T < 200 ∧ ((T : Nat) : Int) = ((T % wi : Nat) : Int) + ((wi : Nat) : Int) * ((((T % wi : Nat) : Int) - ((T % (wi + 1) : Nat) : Int)).fmod (((wi : Nat) : Int) + 1)) ∧ seen - o * ((2 ^ T : Nat) : Int) = ((N9 : Nat) : Int))) :
    wpAny (ML w) (ktrTop dp un gd nL21 sL21 L' f cdv (CLs L') outer) (execs part10 (envX nL21 sL21 L' f cdv (CLs L')))
      (NextP g L' s (fun m' n' => (∀ y, y ≠ S "odd" → y ≠ S "turn" → y ≠ S "twin" → y ≠ S "other" → m' y = m y) ∧ ∃ (oM' : Obj) (t : Tok), oM'.data = .cell (some (.int ((N9 : Nat) : Int) t)) ∧ n' = (L' + 1 + 1 + 1 + 1 + 1 + 1, oM') :: A)) noE { s with heap := h₁, toks := tk } := by
  have hd2 : dp + 10 < recursionLimit := Nat.lt_of_le_of_lt (Nat.add_le_add_right hd 10) (by decide)
  have hu2 : un + 100 < cLine := Nat.lt_of_le_of_lt (Nat.add_le_add_left (by decide) un) hu
  dsimp only [part10, List.drop, List.take, bL21, sL21, S, CLs] at *
  rcases hmath with ⟨hz, hsN⟩ | ⟨n0, n1, o, T, t1, t2, ho, hT, hTe, hsN⟩
  · have hin : (0 : Int) ∈ [g0, g1] := by rcases hz with h | h <;> simp [h]
    have hany : (!([g0, g1].any (· == 0))) = false := by
      rcases hz with h | h <;> simp [h]
    subst hsN
    k_steps
    unfold HoldK
    rename News _ _ _ _ => N3
    refine notin_list_ints (listAt N3 (.tail _ (.head _))) hgs ?_
    rw [hany]
    k_steps
    rename Fr _ _ _ _ => F8
    rename News _ _ _ _ => N8
    rename_i d8
    exact ⟨rfl, _, _, _, _, rfl, F8, nsub N8 (b := (L' + 1 + 1 + 1 + 1 + 1 + 1, _) :: A) (List.forall_mem_cons.mpr ⟨.head _, fun p hp => .tail _ (.tail _ hp)⟩), fun _ _ _ _ _ => rfl, _, tse, d8, rfl⟩
  · have hany : (!([g0, g1].any (· == 0))) = true := by
      simp
      exact ⟨n0, n1⟩
    obtain ⟨G0, rfl⟩ : ∃ G0 : Nat, g0 = ((G0 : Nat) : Int) := ⟨g0.toNat, by lia⟩
    obtain ⟨G1, rfl⟩ : ∃ G1 : Nat, g1 = ((G1 : Nat) : Int) := ⟨g1.toNat, by lia⟩
    rw [Int.toNat_natCast] at t1 t2
    have hG0 : G0 < 2 ^ 13 := by rw [show (2 : Nat) ^ 13 = 8192 from rfl]; lia
    have hG1 : G1 < 2 ^ 13 := by rw [show (2 : Nat) ^ 13 = 8192 from rfl]; lia
    have i0 : [((G0 : Nat) : Int), ((G1 : Nat) : Int)].getD (0 : Int).toNat 0 = ((G0 : Nat) : Int) := rfl
    have i1 : [((G0 : Nat) : Int), ((G1 : Nat) : Int)].getD (1 : Int).toNat 0 = ((G1 : Nat) : Int) := rfl
    have il0 : (0 : Int) < ([((G0 : Nat) : Int), ((G1 : Nat) : Int)] : List Int).length := by show (0 : Int) < ((2 : Nat) : Int); lia
    have il1 : (1 : Int) < ([((G0 : Nat) : Int), ((G1 : Nat) : Int)] : List Int).length := by show (1 : Int) < ((2 : Nat) : Int); lia
    have w1 : ((wi : Nat) : Int) + 1 = ((wi + 1 : Nat) : Int) := by lia
    have w1n : ((wi + 1 : Nat) : Int) ≠ 0 := by lia
    rw [w1] at hTe
    generalize hta : T % wi = ta at *
    generalize htb : T % (wi + 1) = tb at *
    obtain ⟨dd, hdd⟩ : ∃ dd, ((ta : Nat) : Int) - ((tb : Nat) : Int) = dd := ⟨_, rfl⟩
    rw [hdd] at hTe
    obtain ⟨ee, hee⟩ : ∃ ee, dd.fmod ((wi + 1 : Nat) : Int) = ee := ⟨_, rfl⟩
    rw [hee] at hTe
    have hm1 : IntMulOk ((wi : Nat) : Int) ee := PySem.IntMulOk.of_left (PySem.intBits_le_64 (by lia) (by lia))
    obtain ⟨ff, hff⟩ : ∃ ff, ((wi : Nat) : Int) * ee = ff := ⟨_, rfl⟩
    rw [hff] at hTe
    have hTe' := hTe.symm
    have hT0 : (0 : Int) ≤ ((T : Nat) : Int) := by lia
    have hT1 : ((T : Nat) : Int) ≤ 1000000 := by lia
    have hpw : (2 : Int) ^ ((T : Nat) : Int).toNat = ((2 ^ T : Nat) : Int) := by rw [Int.toNat_natCast]; norm_cast
    have hm2 : IntMulOk o ((2 ^ T : Nat) : Int) := PySem.IntMulOk.of_left (PySem.intBits_le_64 (by lia) (by lia))
    generalize 2 ^ T = P2 at *
    obtain ⟨gg, hgg⟩ : ∃ gg, o * ((P2 : Nat) : Int) = gg := ⟨_, rfl⟩
    rw [hgg] at hsN
    k_steps
    unfold HoldK
    rename News _ _ _ _ => N3
    refine notin_list_ints (listAt N3 (.tail _ (.head _))) hgs ?_
    rw [hany]
    k_steps
    (refine' Spec.use ?wS ?wB ?wF ?wN ?wX ?wT ?wC ?wk ?wd ?wu ?_; (case wB => k_asm); (case wF => k_asm); (case wN => k_asm); (case wX => k_asm); (case wT => k_asm); (case wC => k_asm); (case wk => exact rfl); (case wS => exact (spec_turn G0 wi hG0 h9 (by lia) _ _ _)); (case wd => lia); (case wu => lia))
    rintro _ _ h2 tk2 ⟨p1, ta1, tb1, rfl, rfl, hp1⟩ F2 N2
    rw [t1] at N2
    have c1 : p1 ≠ L' + 1 + 1 + 1 + 1 + 1 + 1 := (hp1 _ (.head _)).symm
    k_steps
    (refine' Spec.use ?wS ?wB ?wF ?wN ?wX ?wT ?wC ?wk ?wd ?wu ?_; (case wB => k_asm); (case wF => k_asm); (case wN => k_asm); (case wX => k_asm); (case wT => k_asm); (case wC => k_asm); (case wk => exact rfl); (case wS => exact (spec_turn G1 (wi + 1) hG1 (by lia) (by lia) _ _ _)); (case wd => lia); (case wu => lia))
    rintro _ _ h4 tk4 ⟨p2, ta2, tb2, rfl, rfl, hp2⟩ F4 N4
    rw [t2] at N4
    have c2 : p2 ≠ L' + 1 + 1 + 1 + 1 + 1 + 1 := (hp2 _ (.tail _ (.head _))).symm
    k_steps
    rename_i h8 o8 F8 N8 d8
    exact ⟨rfl, _, _, _, _, rfl, F8, nsub N8 (b := (L' + 1 + 1 + 1 + 1 + 1 + 1, _) :: A) (List.forall_mem_cons.mpr ⟨.tail _ (.tail _ (.head _)), fun p hp => .tail _ (.tail _ (.tail _ (.tail _ hp)))⟩), fun y h1 h2 h3 h4 => (if_neg h4).trans ((if_neg h3).trans ((if_neg h2).trans (if_neg h1))), o8, _, d8, rfl⟩
end
theorem primeS12 : rw_ul0020_01.prog = rw_ul0020_01.prog ∧ KL = KL := by k_fill; exact ⟨rfl, rfl⟩
theorem eqSame {prog : Program} {w : World} {A : Around} {E : Value → Shared → Prop} {s : Shared} {a : Int} {t u : Tok} {Q : Value → Shared → Prop} (h : Q (.bool true) s) : wpAny (model prog w) A (compareOp .Eq (.int a t) (.int a u)) Q E s := PyProof.Rows.eq_int (by rw [beq_self_eq_true]; exact h)
local macro_rules | `(tactic| walk_at "compareOp Eq int int") => `(tactic| refine eqSame ?_)
local macro_rules | `(tactic| walk_at "compareOp Eq ref ref") => `(tactic| refine HoldK.out ?_)
theorem eqSameB {prog : Program} {w : World} {A : Around} {E : Value → Shared → Prop} {s : Shared} {a b : Array UInt8} {t u : Tok} {Q : Value → Shared → Prop} (e : a = b) (h : Q (.bool true) s) : wpAny (model prog w) A (compareOp .Eq (.bytes a t) (.bytes b u)) Q E s := by
  subst e
  exact eq_bytes (by rw [beq_self_eq_true]; exact h)
local macro_rules | `(tactic| walk_at "compareOp Eq bytes bytes") => `(tactic| refine eqSameB (by with_reducible assumption) ?_)
local macro_rules | `(tactic| walk_at "binaryOp Mult bytes int") => `(tactic| refine HoldK.out ?_)
local macro_rules | `(tactic| walk_at "call type:bytes") => `(tactic| refine HoldK.out ?_)
local macro_rules | `(tactic| walk_at "call builtin:len") => `(tactic| (with_reducible show wpAny _ _ (call _ [Value.bytes _ _]) _ _ _; refine len_bytes (by assumption) ?_))
noncomputable def LawP (g : Heap) (L' : Addr) (s : Shared) (R : List (Addr × Obj) → Prop) : Flow → Shared → Prop := fun fl s' => ∃ h' tk' m' n', fl = .ret (.bool true) ∧ s' = { s with heap := h', toks := tk' } ∧ Fr g L' h' m' ∧ News g L' h' n' ∧ R n'
/-- the tables stand in the ledger -/
noncomputable def TabsIn (n' : List (Addr × Obj)) : Prop := ∃ T', Tabs T' ∧ ∀ p ∈ T', p ∈ n'
section
variable {w : World} {mean : ExcName → Option Value} {mg mb : Str → Option Value}
noncomputable def part11 : List Stmt := (bL21.drop 18).take 2
noncomputable def part12 : List Stmt := bL21.drop 20
set_option maxRecDepth 100000 in
set_option maxHeartbeats 8000000 in
theorem body11 {dp un : Nat} {gd : Option (List Code)} {outer : List Env} {A₀ : Around} {base g : Heap} {f L' : Addr} {cdv : Value} {h₁ : Heap} {s : Shared} {tk : Nat} {A T : List (Addr × Obj)} {m : Str → Option Value} {oW oM : Obj} {wi N9 : Nat} {tw tm : Tok}
    (B : Below A₀ base outer g) (F : Fr g L' h₁ m) (N : News g L' h₁ (A ++ T)) (hT : Tabs T) (hD : Dis A T) (hcW : (L' + 1, oW) ∈ A) (hcM : (L' + 1 + 1 + 1 + 1 + 1 + 1, oM) ∈ A) (dW : oW.data = .cell (some (.int (wi : Int) tw))) (dM : oM.data = .cell (some (.int (N9 : Int) tm)))
    (X : (KL w.params).In g) (T0 : Top topProg looseL mean mg mb g) (C : HdOk g) (hd : dp ≤ 400) (hu : un + 400 < cLine) (h9 : 9 ≤ wi) (h12 : wi ≤ 12) (hN : N9 < 16 ^ 39) :
    wpAny (ML w) (ktrTop dp un gd nL21 sL21 L' f cdv (CLs L') outer) (execs part11 (envX nL21 sL21 L' f cdv (CLs L')))
      (NextP g L' s (fun m' n' => (∀ y, y ≠ S "word" → y ≠ S "told" → m' y = m y) ∧ ∃ (tb : Tok) (qt : Addr) (cs : List Value) (kt : Nat) (T' : List (Addr × Obj)), m' (S "word") = some (.bytes (apL N9).toArray tb) ∧ m' (S "told") = some (.ref qt) ∧ n' = (qt, listOf cs.toArray kt) :: (A ++ T') ∧ Tabs T' ∧ Dis A T' ∧ IntsAre cs [((N9 % (2 ^ wi - 1) : Nat) : Int), ((N9 % (2 ^ (wi + 1) - 1) : Nat) : Int)])) noE { s with heap := h₁, toks := tk } := by
  have hd2 : dp + 30 < recursionLimit := Nat.lt_of_le_of_lt (Nat.add_le_add_right hd 30) (by decide)
  have hu2 : un + 300 < cLine := Nat.lt_of_le_of_lt (Nat.add_le_add_left (by decide) un) hu
  have hcM0 : (L' + 1 + 1 + 1 + 1 + 1 + 1, oM) ∈ A ++ T := List.mem_append_left _ hcM
  have hN39 : (16 : Nat) ^ 39 = 2 ^ 156 := by rw [show 16 = 2 ^ 4 from rfl, ← Nat.pow_mul]
  have hN1 : ((N9 : Nat) : Int).natAbs < 16 ^ 100 := by
    rw [Int.natAbs_natCast]
    exact Nat.lt_of_lt_of_le hN (Nat.pow_le_pow_right (by decide) (by decide))
  have hN2 : ((N9 : Nat) : Int).natAbs < 2 ^ 300 := by
    rw [Int.natAbs_natCast]
    rw [hN39] at hN
    exact Nat.lt_of_lt_of_le hN (Nat.pow_le_pow_right (by decide) (by decide))
  have hNa : ((N9 : Nat) : Int).natAbs = N9 := Int.natAbs_natCast _
  clear hN39 hN
  dsimp only [part11, List.drop, List.take, bL21, sL21, S, CLs] at *
  k_steps
  (refine' Spec.use ?wS ?wB ?wF ?wN ?wX ?wT ?wC ?wk ?wd ?wu ?_; (case wB => k_asm); (case wF => k_asm); (case wN => k_asm); (case wX => k_asm); (case wT => k_asm); (case wC => k_asm); (case wk => exact rfl); (case wS => exact (spec_ap _ _ _ hN1)); (case wd => lia); (case wu => lia))
  rintro _ _ h3 tk3 ⟨⟨ta, rfl⟩, rfl⟩ F3 N3
  rw [hNa]
  k_steps
  (try (any_goals first | exact (S "") | exact Value.none | exact (0 : Addr)))
  unfold HoldK
  rename_i hA tA tB tC tD hR FF NF _
  refine LCg.CompSrc.range rfl FF NF hR (small_one (by decide) (by decide) (by decide) (by decide)) (rangeSize_nat _ _) (by rw [sizeLine_eq]; decide) fun g' => compRest_ind (Inv := fun k i ys n' => i + k = 2 ∧ IntsAre ys (([((N9 % (2 ^ wi - 1) : Nat) : Int), ((N9 % (2 ^ (wi + 1) - 1) : Nat) : Int)] : List Int).take i) ∧ ∃ T', n' = A ++ T' ∧ Tabs T' ∧ Dis A T') ?_ ?_ _ _ _ _ ⟨by decide, .nil, T, rfl, hT, hD⟩
  · rintro i ys n' ⟨hij, hys, T', rfl, hT', hD'⟩ D7 h7 tk7 F7 N7 o7
    have hi' : i = 2 := by lia
    subst hi'
    k_steps
    exact ⟨rfl, _, _, _, _, rfl, F7, N7, fun y h1 h2 => (if_neg h2).trans (if_neg h1), ta, D7, ys, _, T', rfl, rfl, rfl, hT', hD', hys⟩
  · rintro j i ys n' ⟨hij, hys, T', rfl, hT', hD'⟩ v I7 oI7 C7 oC7 D7 m₇ h7 tk7 E7 ⟨tv, rfl⟩ hC7 hx7 F7 N7 off7 ne7
    have e0 : (0 : Int) + ((i : Nat) : Int) = ((i : Nat) : Int) := by lia
    rw [e0] at hx7
    have hi2 : i < 2 := by lia
    have m6 := LCg.Off3.mem off7
    have f3 : ((wi : Nat) : Int) + ((i : Nat) : Int) = ((wi + i : Nat) : Int) := by lia
    have f4 : (2 : Int) ^ ((wi + i : Nat) : Int).toNat = ((2 ^ (wi + i) : Nat) : Int) := by rw [Int.toNat_natCast]; norm_cast
    have f4a : (0 : Int) ≤ ((wi + i : Nat) : Int) := by lia
    have f4b : ((wi + i : Nat) : Int) ≤ 1000000 := by lia
    have hp1 : 512 ≤ 2 ^ (wi + i) := Nat.pow_le_pow_right (n := 2) (by decide) (show 9 ≤ wi + i by lia)
    have hp2 : 2 ^ (wi + i) ≤ 2 ^ 13 := Nat.pow_le_pow_right (by decide) (by lia)
    have hg : ([((N9 % (2 ^ wi - 1) : Nat) : Int), ((N9 % (2 ^ (wi + 1) - 1) : Nat) : Int)] : List Int)[i]? = some ((N9 % (2 ^ (wi + i) - 1) : Nat) : Int) := by
      have : i = 0 ∨ i = 1 := by lia
      rcases this with rfl | rfl <;> rfl
    generalize 2 ^ (wi + i) = P2 at *
    have f5 : ((P2 : Nat) : Int) - 1 = ((P2 - 1 : Nat) : Int) := by lia
    obtain ⟨M, hM⟩ : ∃ M, P2 - 1 = M := ⟨_, rfl⟩
    rw [hM] at f5 hg
    have hp3 : (2 : Nat) ^ 13 = 8192 := rfl
    have hM0 : ((M : Nat) : Int) ≠ 0 := by lia
    have hMb : ((M : Nat) : Int).natAbs < 2 ^ 300 := by
      rw [Int.natAbs_natCast]
      exact Nat.lt_of_lt_of_le (by lia : M < 2 ^ 13) (Nat.pow_le_pow_right (by decide) (by decide))
    have hga : ((N9 : Nat) : Int).fmod ((M : Nat) : Int) = ((N9 % M : Nat) : Int) := fmod_nat _ _
    have DD7 : Dis ((I7, oI7) :: (C7, oC7) :: (D7, LCg.lst ys) :: A) T' :=
      List.forall_mem_cons.mpr ⟨fun p hp => (m6 p (List.mem_append_right _ hp)).1, List.forall_mem_cons.mpr ⟨fun p hp => (m6 p (List.mem_append_right _ hp)).2.1, List.forall_mem_cons.mpr ⟨fun p hp => (m6 p (List.mem_append_right _ hp)).2.2, hD'⟩⟩⟩
    have hcW7 : (L' + 1, oW) ∈ A ++ T' := List.mem_append_left _ hcW
    have hcM7 : (L' + 1 + 1 + 1 + 1 + 1 + 1, oM) ∈ A ++ T' := List.mem_append_left _ hcM
    k_steps
    (refine' Spec.use ?wS ?wB ?wF ?wN ?wX ?wT ?wC ?wk ?wd ?wu ?_; (case wB => k_asm); (case wF => k_asm); (case wN => k_asm); (case wX => k_asm); (case wT => k_asm); (case wC => k_asm); (case wk => exact rfl); (case wS => exact (spec_dm ((N9 : Nat) : Int) ((M : Nat) : Int) _ _ (A := (I7, oI7) :: (C7, oC7) :: (D7, LCg.lst ys) :: A) (T := T') hN2 hMb hM0 hT' DD7)); (case wd => lia); (case wu => lia))
    rintro _ _ h10 tk10 ⟨p, tq, tr, T10, rfl, he, hp, hT10, hD10⟩ F10 N10
    rw [he, hga] at N10
    k_steps
    refine LCg.CompEnd.intro F10 N10 (A ++ T10) (fun p hp => .tail _ hp) (LCg.Off3.of fun p hp => ?_) trivial ⟨by lia, ?_, T10, rfl, hT10, fun a ha => hD10 a (.tail _ (.tail _ (.tail _ ha)))⟩
    · rcases List.mem_append.mp hp with hp | hp
      · exact m6 p (List.mem_append_left _ hp)
      · exact ⟨hD10 (I7, oI7) (.head _) p hp, hD10 (C7, oC7) (.tail _ (.head _)) p hp, hD10 (D7, LCg.lst ys) (.tail _ (.tail _ (.head _))) p hp⟩
    · rw [List.take_add_one, hg, Option.toList_some]
      exact hys.append (.cons _ _ .nil)
end
theorem primeS13 : rw_ul0020_01.prog = rw_ul0020_01.prog ∧ KL = KL := by k_fill; exact ⟨rfl, rfl⟩
section
variable {w : World} {mean : ExcName → Option Value} {mg mb : Str → Option Value}
set_option maxRecDepth 100000 in
set_option maxHeartbeats 8000000 in
theorem body12 {dp un : Nat} {gd : Option (List Code)} {outer : List Env} {A₀ : Around} {base g : Heap} {f L' : Addr} {cdv : Value} {h₁ : Heap} {s : Shared} {tk : Nat} {NL : List (Addr × Obj)} {m : Str → Option Value} {oN oM oR : Obj} {wi N9 sz : Nat} {tn tm tb ts : Tok} {qt q q4 : Addr} {cs us rs : List Value} {kt kc kr : Nat} {ch : List Int} {row : List Nat}
    (B : Below A₀ base outer g) (F : Fr g L' h₁ m) (N : News g L' h₁ NL) (hNL : TabsIn NL) (hcN : (L' + 1 + 1, oN) ∈ NL) (hcM : (L' + 1 + 1 + 1 + 1 + 1 + 1, oM) ∈ NL) (hcR : (L' + 1 + 1 + 1, oR) ∈ NL) (hqt : (qt, listOf cs.toArray kt) ∈ NL) (hq : (q, listOf us.toArray kc) ∈ NL) (hq4 : (q4, listOf rs.toArray kr) ∈ NL)
    (dN : oN.data = .cell (some (.int (N9 : Int) tn))) (dM : oM.data = .cell (some (.int (N9 : Int) tm))) (dR : oR.data = .cell (some (.ref q4)))
    (X : (KL w.params).In g) (T0 : Top topProg looseL mean mg mb g) (C : HdOk g) (hd : dp ≤ 400) (hu : un + 400 < cLine) (mtold : m (S "told") = some (.ref qt)) (mch : m (S "checks") = some (.ref q)) (msz : m (S "size") = some (.int (sz : Int) ts)) (mwd : m (S "word") = some (.bytes (apL N9).toArray tb))
    (hcs : IntsAre cs ch) (hus : IntsAre us ch) (hrs : IntsAre rs (row.map fun d : Nat => (d : Int))) (hrow : row.take sz = hexd N9 sz) (hrl : row.length ≤ 100) (hN : N9 < 16 ^ sz) (hsz : sz ≤ 39) :
    wpAny (ML w) (ktrTop dp un gd nL21 sL21 L' f cdv (CLs L') outer) (execs part12 (envX nL21 sL21 L' f cdv (CLs L'))) (LawP g L' s TabsIn) noE { s with heap := h₁, toks := tk } := by
  have hd2 : dp + 30 < recursionLimit := Nat.lt_of_le_of_lt (Nat.add_le_add_right hd 30) (by decide)
  have hu2 : un + 300 < cLine := Nat.lt_of_le_of_lt (Nat.add_le_add_left (by decide) un) hu
  obtain ⟨hal, hpad⟩ := ap_pad sz N9 hN
  obtain ⟨al, hale⟩ : ∃ al, apL N9 = al := ⟨_, rfl⟩
  rw [hale] at hal hpad mwd
  have z1 : al.toArray.size ≤ 1099511627776 := by rw [List.size_toArray]; lia
  have z2 : ((sz : Nat) : Int) - ((al.toArray.size : Nat) : Int) = ((sz - al.length : Nat) : Int) := by rw [List.size_toArray]; lia
  have hrsl : rs.length ≤ 100000 := by rw [hrs.length, List.length_map]; lia
  have eT : (row.map fun d : Nat => (d : Int)).take sz = (hexd N9 sz).map fun d : Nat => (d : Int) := by rw [← List.map_take, hrow]
  dsimp only [part12, List.drop, List.take, bL21, sL21, S, CLs] at *
  k_steps
  unfold HoldK
  rename News _ _ _ _ => N3
  refine eq_intsK ⟨_, (N3 _ hqt).1, rfl, _, rfl⟩ hcs ⟨_, (N3 _ hq).1, rfl, _, rfl⟩ hus (show un + 64 < cLine by lia) ?_
  rw [show decide (ch = ch) = true by simp]
  k_steps
  unfold HoldK
  refine bytes_mul_any (b := [65]) (by simp) (by lia) (by lia) (by decide) fun tq kq => ?_
  have hrep : (List.replicate ((sz - al.length : Nat) : Int).toNat [(65 : UInt8)]).flatten = List.replicate (sz - al.length) 65 := by rw [Int.toNat_natCast]; simp
  rw [hrep]
  have z3 : (List.replicate (sz - al.length) (65 : UInt8)).toArray.size + al.toArray.size ≤ 16777216 := by simp; lia
  have hbe : (List.replicate (sz - al.length) (65 : UInt8)).toArray ++ al.toArray = byteArr ((hexd N9 sz).map fun d : Nat => ((65 + d : Nat) : Int)) := by
    rw [List.append_toArray, hpad]
    unfold byteArr
    rw [List.map_map]
    rfl
  k_steps
  unfold HoldK
  rename Fr _ _ _ _ => F5
  refine LCg.ListComp_U F5 (by with_unfolding_all rfl) (by decide) (by rfl) (by decide) (by rfl) ?_
  k_steps
  unfold HoldK
  rename Fr _ _ _ _ => F3
  rename News _ _ _ _ => N3
  refine slice_upto (s := ⟨_, _, _, _, _⟩) F3 N3 hq4 hrs hrsl (fun D1 w1 h4 F4 N4 l4 hw1 => ?_) (by with_unfolding_all rfl) (by intro _; with_unfolding_all rfl)
  clear F3 N3
  rw [eT] at hw1
  have hw1l : w1.length = sz := by rw [hw1.length, List.length_map, hexd_len]
  k_steps
  unfold HoldK
  refine LCg.CompSrc.ledger rfl F4 N4 (.head _) (size_ok (by rw [hw1l]; lia)) fun g' => ?_
  rw [List.size_toArray, hw1l]
  refine compRest_ind (Inv := fun j i ys n' => i + j = sz ∧ n' = (D1, listOf w1.toArray 0) :: NL ∧ IntsAre ys (((hexd N9 sz).take i).map fun d : Nat => ((65 + d : Nat) : Int))) ?_ ?_ _ _ _ _ ⟨by lia, rfl, .nil⟩
  · rintro i ys n' ⟨hij, rfl, hys⟩ D7 h7 tk7 F7 N7 o7
    have hi' : i = sz := by lia
    subst hi'
    rw [List.take_of_length_le (by rw [hexd_len]; lia)] at hys
    k_steps
    unfold HoldK
    refine KBa.make_K F7 N7 rfl ⟨_, (N7 _ (.head _)).1, rfl, _, rfl⟩ hys ?_ ?_ fun h8 t8 k8 F8 N8 _ => ?_
    · intro x hx
      obtain ⟨d, hd8, rfl⟩ := List.mem_map.mp hx
      have := hexd_lt _ _ d hd8
      lia
    · rw [List.length_map, hexd_len]
      lia
    obtain ⟨T9, hT9, hT9n⟩ := hNL
    k_steps
    exact ⟨h8, _, m, _, rfl, rfl, F8, N8, T9, hT9, fun p hp => .tail _ (.tail _ (hT9n p hp))⟩
  · rintro j i ys n' ⟨hij, rfl, hys⟩ v I7 oI7 C7 oC7 D7 m₇ h7 tk7 E7 hv7 hC7 hx7 F7 N7 off7 ne7
    have hv' : w1[i]? = some v := by simpa using hv7
    obtain ⟨n, tv, hn, rfl⟩ := ints_at hw1 hv'
    obtain ⟨d, hd7, rfl⟩ : ∃ d, (hexd N9 sz)[i]? = some d ∧ ((d : Nat) : Int) = n := by
      rw [List.getElem?_map] at hn
      rcases hgd : (hexd N9 sz)[i]? with _ | d
      · rw [hgd] at hn; cases hn
      · rw [hgd] at hn; exact ⟨d, rfl, by simpa using hn⟩
    have g1 : (65 : Int) + ((d : Nat) : Int) = ((65 + d : Nat) : Int) := by lia
    k_steps
    refine LCg.CompEnd.intro F7 N7 _ (fun p hp => hp) off7 (.inr ⟨_, .head _, rfl, _, rfl⟩) ⟨by lia, rfl, ?_⟩
    rw [List.take_add_one, hd7, Option.toList_some, List.map_append]
    exact hys.append (.cons _ _ .nil)
end
theorem execs_app {env : Env} : ∀ (a b : List Stmt), execs (a ++ b) env = (execs a env >>= fun f => match f with | .next => execs b env | f => pure f)
  | [], b => by
    show execs b env = (pure Flow.next >>= _)
    rw [pure_bind]
  | st :: r, b => by
    rw [List.cons_append, PySem.execs_cons, PySem.execs_cons, bind_assoc]
    congr 1
    funext f
    cases f with
    | next => exact execs_app r b
    | cont => rfl
    | brk => rfl
    | ret v => rfl
theorem seqN {M : Model} {A : Around} {env : Env} {a b c : List Stmt} {Q : Flow → Shared → Prop} {E : Value → Shared → Prop} {s : Shared} (e : c = a ++ b) (h : wpAny M A (execs a env) (fun f s' => match f with | .next => wpAny M A (execs b env) Q E s' | f => Q f s') E s) : wpAny M A (execs c env) Q E s := by
  subst e
  rw [execs_app]
  refine wpAny_bind (wpAny_mono h (fun f s' hf => ?_) fun _ _ e => e)
  cases f with
  | next => exact hf
  | cont => exact wpAny_pure hf
  | brk => exact wpAny_pure hf
  | ret v => exact wpAny_pure hf
section
variable {w : World} {mean : ExcName → Option Value} {mg mb : Str → Option Value}
set_option maxRecDepth 100000 in
set_option maxHeartbeats 8000000 in
theorem law_body (l : Addr) (us : List Value) (ns : List Int) (hi : IntsAre us ns) (hz : us.length ≤ 63) {dp un : Nat} {gd : Option (List Code)} {outer : List Env} {A₀ : Around} {base g : Heap} {f L' : Addr} {cdv : Value} {h₁ : Heap} {s : Shared} {tk : Nat} {oM oS oP oR oN oW : Obj} {T : List (Addr × Obj)} {m : Str → Option Value}
    (B : Below A₀ base outer g) (F : Fr g L' h₁ m) (N : News g L' h₁ ((L' + 1 + 1 + 1 + 1 + 1 + 1, oM) :: (L' + 1 + 1 + 1 + 1 + 1, oS) :: (L' + 1 + 1 + 1 + 1, oP) :: (L' + 1 + 1 + 1, oR) :: (L' + 1 + 1, oN) :: (L' + 1, oW) :: T)) (dM : oM.data = .cell none) (dS : oS.data = .cell none) (dP : oP.data = .cell none) (dR : oR.data = .cell none) (dN : oN.data = .cell none) (dW : oW.data = .cell none)
    (X : (KL w.params).In g) (T0 : Top topProg looseL mean mg mb g) (C : HdOk g) (hl : g.IsList l us.toArray) (hT : Tabs T) (lt : ∀ p ∈ T, p.1 < L') (hd : dp ≤ 400) (hu : un + 400 < cLine) (ms : m (S "script") = some (.ref l)) :
    wpAny (ML w) (ktrTop dp un gd nL21 sL21 L' f cdv (CLs L') outer) (execs bL21 (envX nL21 sL21 L' f cdv (CLs L'))) (LawP g L' s TabsIn) noE { s with heap := h₁, toks := tk } := by
  have ltn : ∀ p ∈ T, @LT.lt Nat _ p.1 L' := lt
  refine seqN (a := part1) (b := bL21.drop 4) rfl (NextP.use (s := s) (body1 l us ns hi hz B F N dN dW X T0 C hl lt hd hu ms) ?_)
  rintro h2 tk2 m2 n2 F2 N2 ⟨wi, sz, N9, tw, ts, tn, q, cs, kc, oN', oW', h9, h12, hsz1, hsz4, hN9, dN', dW', rfl, hcs, ltq, lq6, ms2, msz2, mch2⟩
  have hq156 : wi * (wi + 1) ≤ 12 * 13 := Nat.mul_le_mul (by omega) (by omega)
  have hsz39 : sz ≤ 39 := by omega
  refine seqN (a := part2) (b := bL21.drop 5) rfl (NextP.use (s := s) (body2 B F2 N2 dN' dR X T0 C lq6 lt hd hu msz2 hsz1 hsz39) ?_)
  rintro h3 tk3 m3 n3 F3 N3 ⟨hm3, q2, cs2, oR3, dR3, rfl, hcs2, nq2⟩
  refine seqN (a := part3) (b := bL21.drop 6) rfl (NextP.use (s := s) (body3 (kr := cs2.length) B F3 N3 dR3 X T0 C lq6 ((nq2 (L' + 1 + 1 + 1, oR3) (.tail _ (.tail _ (.tail _ (.tail _ (.head _)))))).symm) lt hd hu ((hm3 _).trans mch2) (by rw [List.length_map, hexd_len]; exact hsz39) hcs2 hcs) ?_)
  rintro h4 tk4 m4 n4 F4 N4 ⟨hm4, q4, us4, oR4, dR4, rfl, hus4, lq4⟩
  have hus4' : IntsAre us4 ((rowL wi sz N9).map fun d : Nat => (d : Int)) := by
    rw [rowL, List.map_append]
    exact hus4
  clear hus4
  refine seqN (a := part4) (b := bL21.drop 8) rfl (NextP.use (s := s) (body4 l us ns hi hz B F4 N4 dS dP X T0 C hl lq6 lq4 lt hd hu ((hm4 _).trans ((hm3 _).trans ms2)) ((hm4 _).trans ((hm3 _).trans msz2))) ?_)
  rintro h5 tk5 m5 n5 F5 N5 ⟨hm5, pl, st, tp, tst, oS5, oP5, hpl, hst1, hst2, dS5, dP5, rfl⟩
  have msz5 : m5 (S "size") = some (.int (sz : Int) ts) := (hm5 _).trans ((hm4 _).trans ((hm3 _).trans msz2))
  have ms5 : m5 (S "script") = some (.ref l) := (hm5 _).trans ((hm4 _).trans ((hm3 _).trans ms2))
  have mch5 : m5 (S "checks") = some (.ref q) := (hm5 _).trans ((hm4 _).trans ((hm3 _).trans mch2))
  clear F2 N2 F3 N3 F4 N4 F N
  have hrl := rowL_len wi sz N9
  refine seqN (a := part5) (b := bL21.drop 9) rfl (NextP.use (s := s) (body5 B F5 N5 (.tail _ (.tail _ (.tail _ (.head _)))) (.tail _ (.tail _ (.tail _ (.tail _ (.head _))))) (.tail _ (.tail _ (.tail _ (.tail _ (.tail _ (.head _)))))) (.head _) dS5 dP5 dR4 X T0 C hd hu msz5 hus4' hrl hsz39) ?_)
  rintro h6 tk6 m6 n6 F6 N6 ⟨hm6, q5, vs, mse6, rfl, hvs, nq5⟩
  obtain ⟨sent, hsent⟩ : ∃ x, sentL (rowL wi sz N9) pl st = x := ⟨_, rfl⟩
  have hsl : sent.length = sz + 8 := by rw [← hsent]; exact sentL_len wi sz N9 pl st
  have hs16 : ∀ d ∈ sent, d < 16 := by rw [← hsent]; exact sentL_lt wi sz N9 pl st
  rw [hsent] at hvs
  refine seqN (a := part6) (b := bL21.drop 11) rfl (NextP.use (s := s) (body6 l us ns hi hz B F6 N6 X T0 C hl hd hu ((hm6 _ (by decide)).trans ms5)) ?_)
  rintro h7 tk7 m7 n7 F7 N7 ⟨rfl, hm7, lk, od, tl7, to7, mlk, mod'⟩
  have msz7 : m7 (S "size") = some (.int (sz : Int) ts) := (hm7 _ (by decide) (by decide)).trans ((hm6 _ (by decide)).trans msz5)
  have mch7 : m7 (S "checks") = some (.ref q) := (hm7 _ (by decide) (by decide)).trans ((hm6 _ (by decide)).trans mch5)
  refine seqN (a := part7) (b := bL21.drop 13) rfl (NextP.use (s := s) (body7 (ku := vs.length) B F7 N7 (.head _) X T0 C hd hu msz7 ((hm7 _ (by decide) (by decide)).trans mse6) mlk mod' hvs hsl hsz39 hs16) ?_)
  rintro h8 tk8 m8 n8 F8 N8 ⟨hm8, qa, qb, ua, ub, ka, kb, ml8, mu8, rfl, hua, hub, nqa, nqb, nab⟩
  have msz8 : m8 (S "size") = some (.int (sz : Int) ts) := (hm8 _ (by decide) (by decide)).trans msz7
  have mch8 : m8 (S "checks") = some (.ref q) := (hm8 _ (by decide) (by decide)).trans mch7
  clear F5 N5 F6 N6 F7 N7
  have lq6n : @LT.lt Nat _ (L' + 1 + 1 + 1 + 1 + 1 + 1) q := lq6
  have lq4n : @LT.lt Nat _ q q4 := lq4
  have tl : ∀ (c : Addr), @LT.lt Nat _ L' c → ∀ p ∈ T, p.1 ≠ c := fun c hc p hp => by have := ltn p hp; show @Ne Nat _ _; omega
  have DT : Dis [(qb, listOf ub.toArray kb), (qa, listOf ua.toArray ka), (q5, LCg.lst vs), (q4, listOf us4.toArray 0), (q, listOf cs.toArray kc), (L' + 1 + 1 + 1 + 1 + 1 + 1, oM), (L' + 1 + 1 + 1 + 1 + 1, oS5), (L' + 1 + 1 + 1 + 1, oP5), (L' + 1 + 1 + 1, oR4), (L' + 1 + 1, oN'), (L' + 1, oW')] T := by
    refine List.forall_mem_cons.mpr ⟨fun p hp => nqb p (.tail _ (.tail _ (.tail _ (.tail _ (.tail _ (.tail _ (.tail _ (.tail _ (.tail _ hp))))))))), ?_⟩
    refine List.forall_mem_cons.mpr ⟨fun p hp => nqa p (.tail _ (.tail _ (.tail _ (.tail _ (.tail _ (.tail _ (.tail _ (.tail _ (.tail _ hp))))))))), ?_⟩
    refine List.forall_mem_cons.mpr ⟨fun p hp => nq5 p (.tail _ (.tail _ (.tail _ (.tail _ (.tail _ (.tail _ (.tail _ (.tail _ hp)))))))), ?_⟩
    refine List.forall_mem_cons.mpr ⟨tl _ (by show @LT.lt Nat _ _ _; omega), ?_⟩
    refine List.forall_mem_cons.mpr ⟨tl _ (by show @LT.lt Nat _ _ _; omega), ?_⟩
    refine List.forall_mem_cons.mpr ⟨tl _ (by show @LT.lt Nat _ _ _; omega), ?_⟩
    refine List.forall_mem_cons.mpr ⟨tl _ (by show @LT.lt Nat _ _ _; omega), ?_⟩
    refine List.forall_mem_cons.mpr ⟨tl _ (by show @LT.lt Nat _ _ _; omega), ?_⟩
    refine List.forall_mem_cons.mpr ⟨tl _ (by show @LT.lt Nat _ _ _; omega), ?_⟩
    refine List.forall_mem_cons.mpr ⟨tl _ (by show @LT.lt Nat _ _ _; omega), ?_⟩
    refine List.forall_mem_cons.mpr ⟨tl _ (by show @LT.lt Nat _ _ _; omega), fun _ h => nomatch h⟩
  have hLt : (sent.take sz).length ≤ 39 := by rw [List.length_take]; omega
  have hL16 : ∀ d ∈ sent.take sz, d < 16 := fun d hd => hs16 d (List.mem_of_mem_take hd)
  refine seqN (a := part8) (b := bL21.drop 15) rfl (NextP.use (s := s) (body8 (A := [(qb, listOf ub.toArray kb), (qa, listOf ua.toArray ka), (q5, LCg.lst vs), (q4, listOf us4.toArray 0), (q, listOf cs.toArray kc), (L' + 1 + 1 + 1 + 1 + 1 + 1, oM), (L' + 1 + 1 + 1 + 1 + 1, oS5), (L' + 1 + 1 + 1 + 1, oP5), (L' + 1 + 1 + 1, oR4), (L' + 1 + 1, oN'), (L' + 1, oW')]) (T := T) B F8 N8 hT DT (.tail _ (.head _)) X T0 C hd hu ml8 hua hLt hL16) ?_)
  rintro h10 tk10 m10 n10 F10 N10 ⟨hm10, qg, tsn, T10, mse10, mga10, rfl, hT10, DT10, nqg10⟩
  obtain ⟨seen, hseen⟩ : ∃ x, hexval (sent.take sz) = x := ⟨_, rfl⟩
  rw [hseen] at mse10
  have hse : seen < 16 ^ 39 := by
    rw [← hseen]
    exact Nat.lt_of_lt_of_le (hexval_lt _ hL16) (Nat.pow_le_pow_right (by decide) hLt)
  obtain ⟨g0, hg0⟩ : ∃ x, (((seen : Nat) : Int) - ((hexval ((sent.drop sz).take 4) : Nat) : Int)).fmod ((2 ^ wi - 1 : Nat) : Int) = x := ⟨_, rfl⟩
  obtain ⟨g1, hg1⟩ : ∃ x, (((seen : Nat) : Int) - ((hexval (((sent.drop sz).drop 4).take 4) : Nat) : Int)).fmod ((2 ^ (wi + 1) - 1 : Nat) : Int) = x := ⟨_, rfl⟩
  refine seqN (a := [gapS]) (b := bL21.drop 16) rfl (wpAny_execs_cons (NextP.use (s := s) (body9 (A := [(qb, listOf ub.toArray kb), (qa, listOf ua.toArray ka), (q5, LCg.lst vs), (q4, listOf us4.toArray 0), (q, listOf cs.toArray kc), (L' + 1 + 1 + 1 + 1 + 1 + 1, oM), (L' + 1 + 1 + 1 + 1 + 1, oS5), (L' + 1 + 1 + 1 + 1, oP5), (L' + 1 + 1 + 1, oR4), (L' + 1 + 1, oN'), (L' + 1, oW')]) (T := T10) B F10 N10 hT10 DT10 (.head _) (.tail _ (.tail _ (.tail _ (.tail _ (.tail _ (.tail _ (.tail _ (.tail _ (.tail _ (.tail _ (.head _))))))))))) dW' nqg10 X T0 C hd hu ((hm10 _ (by decide) (by decide)).trans mu8) mse10 mga10 hub (by rw [List.length_drop]; omega) (fun d hd => hs16 d (List.mem_of_mem_drop hd)) h9 h12 hse hg0.symm hg1.symm) fun h11 tk11 m11 n11 F11 N11 hr11 => wpAny_execs_nil ?_))
  obtain ⟨hm11, T11, gs, kg, rfl, hT11, DT11, hgs, nqg11⟩ := hr11
  have msz11 : m11 (S "size") = some (.int (sz : Int) ts) := (hm11 _ (by decide) (by decide) (by decide) (by decide)).trans ((hm10 _ (by decide) (by decide)).trans msz8)
  have mch11 : m11 (S "checks") = some (.ref q) := (hm11 _ (by decide) (by decide) (by decide) (by decide)).trans ((hm10 _ (by decide) (by decide)).trans mch8)
  have mse11 := (hm11 (S "seen") (by decide) (by decide) (by decide) (by decide)).trans mse10
  have mga11 := (hm11 (S "gaps") (by decide) (by decide) (by decide) (by decide)).trans mga10
  have hmath := law_math (w := wi) (sz := sz) (N := N9) (pl := pl) (st := st) h9 h12 hsz4 hN9 ⟨hst1, hst2⟩ hpl (seen := ((seen : Nat) : Int)) (c0 := ((hexval ((sent.drop sz).take 4) : Nat) : Int)) (c1 := ((hexval (((sent.drop sz).drop 4).take 4) : Nat) : Int)) (g0 := g0) (g1 := g1) (by rw [hsent, hseen]) (by rw [hsent]) (by rw [hsent]) hg0.symm hg1.symm
  have p1 : 512 ≤ 2 ^ wi := Nat.pow_le_pow_right (n := 2) (by decide) h9
  have p2 : 1024 ≤ 2 ^ (wi + 1) := Nat.pow_le_pow_right (n := 2) (by decide) (show 10 ≤ wi + 1 by omega)
  have p3 : 2 ^ wi ≤ 2 ^ 13 := Nat.pow_le_pow_right (by decide) (by omega)
  have p4 : 2 ^ (wi + 1) ≤ 2 ^ 13 := Nat.pow_le_pow_right (by decide) (by omega)
  have p5 : (2 : Nat) ^ 13 = 8192 := rfl
  have z0 : 0 ≤ g0 := by rw [← hg0]; exact Int.fmod_nonneg_of_pos _ (by omega)
  have z1 : 0 ≤ g1 := by rw [← hg1]; exact Int.fmod_nonneg_of_pos _ (by omega)
  have y0 : g0 < 8192 := by have : g0 < ((2 ^ wi - 1 : Nat) : Int) := by { rw [← hg0]; exact Int.fmod_lt_of_pos _ (by omega) }
                            omega
  have y1 : g1 < 8192 := by have : g1 < ((2 ^ (wi + 1) - 1 : Nat) : Int) := by { rw [← hg1]; exact Int.fmod_lt_of_pos _ (by omega) }
                            omega
  clear F8 N8 F10 N10
  have inA : ∀ (p : Addr × Obj), p ∈ [(qb, listOf ub.toArray kb), (qa, listOf ua.toArray ka), (q5, LCg.lst vs), (q4, listOf us4.toArray 0), (q, listOf cs.toArray kc), (L' + 1 + 1 + 1 + 1 + 1, oS5), (L' + 1 + 1 + 1 + 1, oP5), (L' + 1 + 1 + 1, oR4), (L' + 1 + 1, oN'), (L' + 1, oW')] → p ∈ [(qb, listOf ub.toArray kb), (qa, listOf ua.toArray ka), (q5, LCg.lst vs), (q4, listOf us4.toArray 0), (q, listOf cs.toArray kc), (L' + 1 + 1 + 1 + 1 + 1 + 1, oM), (L' + 1 + 1 + 1 + 1 + 1, oS5), (L' + 1 + 1 + 1 + 1, oP5), (L' + 1 + 1 + 1, oR4), (L' + 1 + 1, oN'), (L' + 1, oW')] := fun p hp => by
    rcases List.mem_cons.mp hp with e | hp
    · exact e ▸ .head _
    rcases List.mem_cons.mp hp with e | hp
    · exact e ▸ .tail _ (.head _)
    rcases List.mem_cons.mp hp with e | hp
    · exact e ▸ .tail _ (.tail _ (.head _))
    rcases List.mem_cons.mp hp with e | hp
    · exact e ▸ .tail _ (.tail _ (.tail _ (.head _)))
    rcases List.mem_cons.mp hp with e | hp
    · exact e ▸ .tail _ (.tail _ (.tail _ (.tail _ (.head _))))
    · exact .tail _ (.tail _ (.tail _ (.tail _ (.tail _ (.tail _ hp)))))
  have N11' := nsub N11 (b := (L' + 1 + 1 + 1 + 1 + 1 + 1, oM) :: (qg, listOf gs.toArray kg) :: ([(qb, listOf ub.toArray kb), (qa, listOf ua.toArray ka), (q5, LCg.lst vs), (q4, listOf us4.toArray 0), (q, listOf cs.toArray kc), (L' + 1 + 1 + 1 + 1 + 1, oS5), (L' + 1 + 1 + 1 + 1, oP5), (L' + 1 + 1 + 1, oR4), (L' + 1 + 1, oN'), (L' + 1, oW')] ++ T11)) (List.forall_mem_cons.mpr ⟨.tail _ (.tail _ (.tail _ (.tail _ (.tail _ (.tail _ (.head _)))))), List.forall_mem_cons.mpr ⟨.head _, fun p hp => .tail _ (by
    rcases List.mem_append.mp hp with hp | hp
    · exact List.mem_append_left _ (inA p hp)
    · exact List.mem_append_right _ hp)⟩⟩)
  clear N11
  have cMmem : ((L' + 1 + 1 + 1 + 1 + 1 + 1 : Addr), oM) ∈ [(qb, listOf ub.toArray kb), (qa, listOf ua.toArray ka), (q5, LCg.lst vs), (q4, listOf us4.toArray 0), (q, listOf cs.toArray kc), (L' + 1 + 1 + 1 + 1 + 1 + 1, oM), (L' + 1 + 1 + 1 + 1 + 1, oS5), (L' + 1 + 1 + 1 + 1, oP5), (L' + 1 + 1 + 1, oR4), (L' + 1 + 1, oN'), (L' + 1, oW')] := .tail _ (.tail _ (.tail _ (.tail _ (.tail _ (.head _)))))
  have nM : ∀ p ∈ [(qb, listOf ub.toArray kb), (qa, listOf ua.toArray ka), (q5, LCg.lst vs), (q4, listOf us4.toArray 0), (q, listOf cs.toArray kc), (L' + 1 + 1 + 1 + 1 + 1, oS5), (L' + 1 + 1 + 1 + 1, oP5), (L' + 1 + 1 + 1, oR4), (L' + 1 + 1, oN'), (L' + 1, oW')] ++ T11, p.1 ≠ L' + 1 + 1 + 1 + 1 + 1 + 1 := by
    refine List.forall_mem_cons.mpr ⟨(nqb (L' + 1 + 1 + 1 + 1 + 1 + 1, oM) (.tail _ (.tail _ (.tail _ (.head _))))).symm, ?_⟩
    refine List.forall_mem_cons.mpr ⟨(nqa (L' + 1 + 1 + 1 + 1 + 1 + 1, oM) (.tail _ (.tail _ (.tail _ (.head _))))).symm, ?_⟩
    refine List.forall_mem_cons.mpr ⟨(nq5 (L' + 1 + 1 + 1 + 1 + 1 + 1, oM) (.tail _ (.tail _ (.head _)))).symm, ?_⟩
    refine List.forall_mem_cons.mpr ⟨by show @Ne Nat _ _; omega, ?_⟩
    refine List.forall_mem_cons.mpr ⟨by show @Ne Nat _ _; omega, ?_⟩
    refine List.forall_mem_cons.mpr ⟨by show @Ne Nat _ _; omega, ?_⟩
    refine List.forall_mem_cons.mpr ⟨by show @Ne Nat _ _; omega, ?_⟩
    refine List.forall_mem_cons.mpr ⟨by show @Ne Nat _ _; omega, ?_⟩
    refine List.forall_mem_cons.mpr ⟨by show @Ne Nat _ _; omega, ?_⟩
    refine List.forall_mem_cons.mpr ⟨by show @Ne Nat _ _; omega, fun p hp => DT11 _ cMmem p hp⟩
  have nqgM : qg ≠ L' + 1 + 1 + 1 + 1 + 1 + 1 := (nqg11 _ (List.mem_append_left _ cMmem)).symm
  refine seqN (a := part10) (b := bL21.drop 18) rfl (NextP.use (s := s) (body10 (A := [(qb, listOf ub.toArray kb), (qa, listOf ua.toArray ka), (q5, LCg.lst vs), (q4, listOf us4.toArray 0), (q, listOf cs.toArray kc), (L' + 1 + 1 + 1 + 1 + 1, oS5), (L' + 1 + 1 + 1 + 1, oP5), (L' + 1 + 1 + 1, oR4), (L' + 1 + 1, oN'), (L' + 1, oW')] ++ T11) B F11 N11' (.tail _ (.tail _ (.tail _ (.tail _ (.tail _ (.tail _ (.tail _ (.tail _ (.tail _ (.head _)))))))))) dW' dM nqgM nM X T0 C hd hu mse11 mga11 hgs h9 h12 z0 z1 y0 y1 hmath) ?_)
  rintro h12' tk12 m12 n12 F12 N12 ⟨hm12, oM12, tm12, dM12, rfl⟩
  have msz12 := (hm12 (S "size") (by decide) (by decide) (by decide) (by decide)).trans msz11
  have mch12 := (hm12 (S "checks") (by decide) (by decide) (by decide) (by decide)).trans mch11
  have hN39 : N9 < 16 ^ 39 := Nat.lt_of_lt_of_le hN9 (Nat.pow_le_pow_right (by decide) hsz39)
  have DT12 : Dis ((L' + 1 + 1 + 1 + 1 + 1 + 1, oM12) :: [(qb, listOf ub.toArray kb), (qa, listOf ua.toArray ka), (q5, LCg.lst vs), (q4, listOf us4.toArray 0), (q, listOf cs.toArray kc), (L' + 1 + 1 + 1 + 1 + 1, oS5), (L' + 1 + 1 + 1 + 1, oP5), (L' + 1 + 1 + 1, oR4), (L' + 1 + 1, oN'), (L' + 1, oW')]) T11 := List.forall_mem_cons.mpr ⟨fun p hp => DT11 (L' + 1 + 1 + 1 + 1 + 1 + 1, oM) cMmem p hp, fun a ha => DT11 a (inA a ha)⟩
  clear F11 N11'
  refine seqN (a := part11) (b := bL21.drop 20) rfl (NextP.use (s := s) (body11 (A := (L' + 1 + 1 + 1 + 1 + 1 + 1, oM12) :: [(qb, listOf ub.toArray kb), (qa, listOf ua.toArray ka), (q5, LCg.lst vs), (q4, listOf us4.toArray 0), (q, listOf cs.toArray kc), (L' + 1 + 1 + 1 + 1 + 1, oS5), (L' + 1 + 1 + 1 + 1, oP5), (L' + 1 + 1 + 1, oR4), (L' + 1 + 1, oN'), (L' + 1, oW')]) (T := T11) B F12 N12 hT11 DT12 (.tail _ (.tail _ (.tail _ (.tail _ (.tail _ (.tail _ (.tail _ (.tail _ (.tail _ (.tail _ (.head _))))))))))) (.head _) dW' dM12 X T0 C hd hu h9 h12 hN39) ?_)
  rintro h13 tk13 m13 n13 F13 N13 ⟨hm13, tb13, qt, cs13, kt13, T13, mwd, mto, rfl, hT13, DT13, hcs13⟩
  have msz13 := (hm13 (S "size") (by decide) (by decide)).trans msz12
  have mch13 := (hm13 (S "checks") (by decide) (by decide)).trans mch12
  exact body12 (wi := wi) (NL := (qt, listOf cs13.toArray kt13) :: ((L' + 1 + 1 + 1 + 1 + 1 + 1, oM12) :: [(qb, listOf ub.toArray kb), (qa, listOf ua.toArray ka), (q5, LCg.lst vs), (q4, listOf us4.toArray 0), (q, listOf cs.toArray kc), (L' + 1 + 1 + 1 + 1 + 1, oS5), (L' + 1 + 1 + 1 + 1, oP5), (L' + 1 + 1 + 1, oR4), (L' + 1 + 1, oN'), (L' + 1, oW')] ++ T13)) (row := rowL wi sz N9) B F13 N13 ⟨T13, hT13, fun p hp => .tail _ (List.mem_append_right _ hp)⟩ (.tail _ (.tail _ (.tail _ (.tail _ (.tail _ (.tail _ (.tail _ (.tail _ (.tail _ (.tail _ (.head _))))))))))) (.tail _ (.head _)) (.tail _ (.tail _ (.tail _ (.tail _ (.tail _ (.tail _ (.tail _ (.tail _ (.tail _ (.head _)))))))))) (.head _) (.tail _ (.tail _ (.tail _ (.tail _ (.tail _ (.tail _ (.head _))))))) (.tail _ (.tail _ (.tail _ (.tail _ (.tail _ (.head _)))))) dN' dM12 dR4 X T0 C hd hu mto mch13 msz13 mwd hcs13 hcs hus4' (take_row wi sz N9) (by rw [hrl]; omega) hN9 hsz39
end
theorem env_law (L fa : Addr) (cd : Value) : envOfC nL21 sL21 L fa cd = envX nL21 sL21 L fa cd [(S "mended", L + 1 + 1 + 1 + 1 + 1 + 1), (S "step", L + 1 + 1 + 1 + 1 + 1), (S "place", L + 1 + 1 + 1 + 1), (S "row", L + 1 + 1 + 1), (S "number", L + 1 + 1), (S "width", L + 1)] := by rfl
theorem deep_law (L fa : Addr) (cd : Value) : callerA.deeper (envOfC nL21 sL21 L fa cd) = ktrTop 302 7 (some []) nL21 sL21 L fa cd [(S "mended", L + 1 + 1 + 1 + 1 + 1 + 1), (S "step", L + 1 + 1 + 1 + 1 + 1), (S "place", L + 1 + 1 + 1 + 1), (S "row", L + 1 + 1 + 1), (S "number", L + 1 + 1), (S "width", L + 1)] [] := by rfl
theorem said9 : PySem.W.OpenLaw.wellSaid rw_ul0020_01 = true := by decide +kernel
set_option maxRecDepth 100000 in
set_option maxHeartbeats 8000000 in
theorem holds9 : rw_ul0020_01.Holds := by
  w_on
  refine holds_law said9 fun said => ?_
  refine holds_open (q := qv) (loose := loose1) (Xt := XtL) (XP := XL qv []) (Yf := Hook.obs H) (Ya := Hook.val H) (YP := Hook.says H) (N := NN) left1 (Hook.of H) (Hook.keeps H) (fun s e => xl_of s (Bool.and_eq_true_iff.mp e).1) XL.keeps (by rfl) (by rfl) (by rfl) (fun s e => recFacts_of (Bool.and_eq_true_iff.mp e).2) (by rfl) (by assumption) (by decide +kernel) ⟨rfl, rfl, rfl, rfl, rfl, by decide +kernel⟩ ?hw ?hc
  case hw => w_witness2
  k_fill
  intro w s₀ s₁ mg mb G Y fa o pm cd doc dV kV ho hd hcd hD hmg hg args vals as hpre hlay hrd hwl hlo
  have KX := kIn_of Y
  have X := (Ground.X G).1
  have V := (Ground.X G).2
  refine Ground.open G ?_
  intro T B D TE TW
  have hT9 : TabsAt ([(105, 101), (98, 94)]) s₁.heap := List.forall_mem_cons.mpr ⟨tab_of (x := Str.ofString "_digits2int") T KX rfl (by kernel_rfl), List.forall_mem_cons.mpr ⟨tab_of (x := Str.ofString "_int2digits") T KX rfl (by kernel_rfl), fun _ h => nomatch h⟩⟩
  clear hmg
  wrow_args hpre hlay hrd hwl hlo
  all_goals (
    first | refine callC_kw (enter_call ?_) | refine enter_call ?_
    w_top on
    kn_posts
    w_call any ho hd hcd hD T F
    clear hd
    kn_ghosts F T
    k_drop
    skip)
  rename IntsAre _ _ => hI
  rename (KL w.params).In _ => X9
  rename Top topProg _ _ _ _ _ => T9
  rename Below callerA _ _ _ => K9
  rename Fr _ _ _ _ => F9
  rename News _ _ _ _ => N9
  rename List Int => xs
  rename (_ ∧ _) => l9
  rename (¬ ((63 : Int) < _)) => h63
  have hlen := hI.length
  have tab0 : Tabs [(101, tabObj #[]), (94, tabObj #[])] := by
    refine ⟨⟨#[], .head _, fun o ho => ?_, .inl rfl⟩, ⟨#[], .tail _ (.head _), fun o ho => ?_, .inl rfl⟩⟩
    · rcases List.mem_cons.mp ho with e | ho
      · exact (Prod.mk.inj e).2
      · rcases List.mem_singleton.mp ho with e
        cases (Prod.mk.inj e).1
    · rcases List.mem_cons.mp ho with e | ho
      · cases (Prod.mk.inj e).1
      · exact (Prod.mk.inj (List.mem_singleton.mp ho)).2
  have lt9 : ∀ p ∈ [((101 : Addr), tabObj #[]), ((94 : Addr), tabObj #[])], p.1 < s₁.heap.objs.size := fun p hp => by
    rcases List.mem_cons.mp hp with rfl | hp
    · exact l9.1
    · rcases List.mem_singleton.mp hp with rfl
      exact l9.2
  rename_i h19 tk9 oM oS oP oR oN oW dM dS dP dR dN dW x0 codeHd1
  have main := law_body (f := fa) (cdv := cd) (L' := s₁.heap.objs.size) (dp := 302) (un := 7) (gd := some []) (outer := []) (s := s₁) (h₁ := h19) (tk := tk9) _ _ xs hI (by rw [hlen]; lia) K9 F9 N9 dM dS dP dR dN dW X9 T9 ⟨codeHd1, codeHd⟩ lifted tab0 lt9 (by decide) (by decide) rfl
  rw [← deep_law, ← env_law] at main
  refine wpAny_mono (by with_unfolding_all exact main) (fun fl s' hr => ?_) (fun _ _ (x : False) => x.elim)
  obtain ⟨h', tk', m', n', rfl, rfl, F', N', T', hT', hn'⟩ := hr
  obtain ⟨p1, hp1, _⟩ := hT'.a
  obtain ⟨p2, hp2, _⟩ := hT'.b
  exact ⟨goodW_bool F' hg (raisesW_false (by wrow_none_raised)) (by wrow_post), GrownAt.of N' (hn' _ hp1), GrownAt.of N' (hn' _ hp2), True.intro⟩
end Mine
theorem PySem.Challenge.cw_ul0020_01_holds : PySem.Challenge.rw_ul0020_01.Holds := by
  exact Mine.holds9
