import PyProof.Rows.All
import Wide.All
import OpenK.AllK
import Wide.FinOn
import PySem.Challenge.RW_wf0060_01
set_option Elab.async false
set_option maxRecDepth 100000
set_option linter.all false
set_option compiler.extract_closed false
namespace Mine
open PySem PySem.W PySem.Calls PyProof.Rows PySem.Spec LCg
local macro_rules | `(tactic| walk_at "own mem1") => `(tactic| (repeat (first | assumption | exact List.Mem.head _ | refine List.Mem.tail _ ?_)))
local macro_rules | `(tactic| walk_at "own mem2") => `(tactic| (repeat (first | assumption | refine List.Mem.tail _ ?_)))
local macro_rules | `(tactic| walk_at "own mem3") => `(tactic| (repeat (first | with_reducible assumption | exact List.Mem.head _ | refine List.mem_cons_of_mem _ ?_)))
local macro_rules | `(tactic| walk_at "own 0") => `(tactic| (k_here; (rename Fr _ _ _ _ => lF'); (with_unfolding_all refine' For_turns lF' ?_ ?h1 ?h2; (case h1 => intro _; rfl); (case h2 => first | assumption | passes_own); k_whole)))
local macro_rules | `(tactic| walk_at "own 6") => `(tactic| (refine' ks_code_super ?k1 ?k2 ?k3 ?k4 ?k5 ?kA ?kF ?kK ?k6 ?k7 ?k8 ?k9 ?kB ?_ ?c1 ?c2 ?c3 ?c4; (case kA => exact rfl); (case kF => exact rfl); (case kK => assumption); (case k1 | k2 | k3 | k4 | k5 => k_asm); (case k6 => k_is); (case k7 => k_is); (case k8 => ktr_room); (case k9 => first | exact BindsTo.of_eq rfl | exact binds_K (by k_in) rfl (by k_is) rfl rfl rfl); (case kB => exact locs rfl); (case c1 => decide); (case c2 => exact rfl); (case c3 => exact rfl); (case c4 => exact rfl); intro g' L' h' FG' F' N' B' X' T' l1; (try dsimp only); (try k_lift B')))
local macro_rules | `(tactic| walk_at "own 11") => `(tactic| (k_here; (rename Fr _ _ _ _ => lF'); (with_unfolding_all refine' For_turns lF' ?_; k_whole)))
local macro_rules | `(tactic| walk_at "own 12") => `(tactic| (k_here; k_dflt (refine' wpAny_loadName_local ?k1 ?k2 (Fr.ns ?F) ?v ?_; (case k1 => exact rfl); (case k2 => exact rfl); (case F => k_asm); (case v => exact rfl); k_whole)))
section
section
open PySem PySem.W PySem.Calls PyProof.Rows
section
variable (p : Program) (w : World) (n₀ : Nat) (ann : Option Value)
/-- a call that comes back: whatever stands below, it takes so many steps -/
noncomputable def Back (m : Nat) (c : Code) (s : Shared) (v : Value) (s' : Shared) : Prop :=
  ∀ (h : Option Value) (g : Bool) (l : List Value) (k : Result → Sem Fin) (code : Code) (pos : Pos) (stack : List Frame), stack ≠ [] →
    segGo treeTable p w n₀ ann 1 m s ⟨.call c h g l k, code, pos, stack⟩ = some (s', ⟨k (.ok (.ret v)), code, pos, stack⟩)
/-- a tree that is walked to its end without a raise; the steps are counted -/
noncomputable def Ev {α : Type} : Sem α → (Nat → α → Shared → Prop) → Nat → Shared → Prop
  | .pure a, Q, n, s => Q n a s
  | .rule _ k, Q, n, s => Ev (k ()) Q (n + 1) s
  | .at _ k, Q, n, s => Ev (k ()) Q (n + 1) s
  | .point _ k, Q, n, s => Ev (k ()) Q (n + 1) s
  | .ask k, Q, n, s => Ev (k ⟨p, w.params⟩) Q (n + 1) s
  | .load a _ k, Q, n, s => ∃ o, s.heap.get? a = some o ∧ Ev (k o) Q (n + 1) s
  | .update a _ f k, Q, n, s => Nat.ble n₀ a = true ∧ (s.heap.get? a).isSome = true ∧ Ev (k ()) Q (n + 1) { s with heap := s.heap.update a f }
  | .alloc o k, Q, n, s => Ev (k s.heap.objs.size) Q (n + 1) { s with heap := s.heap.push o }
  | .fresh k, Q, n, s => Ev (k s.toks) Q (n + 1) { s with toks := s.toks + 1 }
  | .call c _ _ _ k, Q, n, s => ∃ m v s', Back p w n₀ ann m c s v s' ∧ Ev (k (.ok (.ret v))) Q (n + m) s'
  | _, _, _, _ => False
end
section
variable {p : Program} {w : World} {n₀ : Nat} {ann : Option Value} {α β : Type}
theorem segGo_one {s s' : Shared} {t t' : Thread} (e : endAt 1 t = none) (k : stepOk n₀ ann t = true) (h : step (denote treeTable) p w s t = .go s' t') : segGo treeTable p w n₀ ann 1 1 s t = some (s', t') := by
  unfold segGo; rw [e]; dsimp only; rw [k]; dsimp only; rw [h]; rfl
theorem segGo_add : ∀ {n m : Nat} {s s' s'' : Shared} {t t' t'' : Thread}, segGo treeTable p w n₀ ann 1 n s t = some (s', t') → segGo treeTable p w n₀ ann 1 m s' t' = some (s'', t'') → segGo treeTable p w n₀ ann 1 (n + m) s t = some (s'', t'')
  | 0, m, s, s', s'', t, t', t'', h, k => by
    obtain ⟨rfl, rfl⟩ : s = s' ∧ t = t' := by simpa [segGo] using h
    rw [Nat.zero_add]; exact k
  | n + 1, m, s, s', s'', t, t', t'', h, k => by
    rw [show n + 1 + m = n + m + 1 by omega]
    unfold segGo at h ⊢
    cases he : endAt 1 t with
    | some f => rw [he] at h; cases h
    | none =>
      rw [he] at h
      cases hk : stepOk n₀ ann t with
      | false => rw [hk] at h; cases h
      | true =>
        rw [hk] at h
        cases hs : step (denote treeTable) p w s t with
        | halt o s₂ => rw [hs] at h; cases h
        | go s₂ t₂ => rw [hs] at h; dsimp only at h ⊢; exact segGo_add h k
/-- what was walked is a run of the machine -/
theorem ev_sound (K : α → Sem Fin) (H : Value → Sem Fin) (gd : Bool → Bool) (lv : List Value → List Value) (code : Code) (stack : List Frame) (hst : stack ≠ []) : ∀ (t : Sem α) (Q : Nat → α → Shared → Prop) (n : Nat) (s : Shared) (pos : Pos), Ev p w n₀ ann t Q n s →
    ∃ d a s' pos', Q (n + d) a s' ∧ segGo treeTable p w n₀ ann 1 d s ⟨t.wrap K H gd lv, code, pos, stack⟩ = some (s', ⟨K a, code, pos', stack⟩) := by
  intro t
  have key : ∀ {Q : Nat → α → Shared → Prop} {n : Nat} {s s₁ : Shared} {cur : Sem Fin} {x : Sem α} {pos pos₁ : Pos},
      (∃ d a s' pos', Q (n + 1 + d) a s' ∧ segGo treeTable p w n₀ ann 1 d s₁ ⟨x.wrap K H gd lv, code, pos₁, stack⟩ = some (s', ⟨K a, code, pos', stack⟩)) →
      segGo treeTable p w n₀ ann 1 1 s ⟨cur, code, pos, stack⟩ = some (s₁, ⟨x.wrap K H gd lv, code, pos₁, stack⟩) →
      ∃ d a s' pos', Q (n + d) a s' ∧ segGo treeTable p w n₀ ann 1 d s ⟨cur, code, pos, stack⟩ = some (s', ⟨K a, code, pos', stack⟩) := by
    rintro Q n s s₁ cur x pos pos₁ ⟨d, a, s', pos', q, h⟩ g
    exact ⟨1 + d, a, s', pos', by rw [← Nat.add_assoc]; exact q, segGo_add g h⟩
  have ends : ∀ {cur : Sem Fin} {pos : Pos}, (∀ f, cur ≠ .pure f) → endAt 1 ⟨cur, code, pos, stack⟩ = none := by
    intro cur pos hc
    unfold endAt
    cases cur <;> first | (exact absurd rfl (hc _)) | (dsimp only; split <;> first | rfl | (rename_i e; cases e))
  induction t with
  | pure a => intro Q n s pos h; exact ⟨0, a, s, pos, h, rfl⟩
  | rule tg k ih => intro Q n s pos h; exact key (ih () Q _ s pos h) (segGo_one (ends fun _ => by intro e; cases e) rfl rfl)
  | «at» q k ih => intro Q n s pos h; exact key (ih () Q _ s q h) (segGo_one (ends fun _ => by intro e; cases e) rfl rfl)
  | point l k ih => intro Q n s pos h; exact key (ih () Q _ s pos h) (segGo_one (ends fun _ => by intro e; cases e) rfl rfl)
  | ask k ih => intro Q n s pos h; exact key (ih _ Q _ s pos h) (segGo_one (ends fun _ => by intro e; cases e) rfl rfl)
  | load a q k ih =>
    rintro Q n s pos ⟨o, ho, h⟩
    refine key (ih o Q _ s pos h) (segGo_one (ends fun _ => by intro e; cases e) rfl ?_)
    simp only [Sem.wrap, step, ho]
  | update a q f k ih =>
    rintro Q n s pos ⟨hn, ho, h⟩
    refine key (ih () Q _ _ pos h) (segGo_one (ends fun _ => by intro e; cases e) ?_ ?_)
    · show (true && (Nat.ble n₀ a || a == mainNs || a == cStatics || ann == some (.ref a))) = true
      rw [hn]; rfl
    · simp only [Sem.wrap, step, ho, if_true]
  | alloc o k ih => intro Q n s pos h; exact key (ih _ Q _ _ pos h) (segGo_one (ends fun _ => by intro e; cases e) rfl rfl)
  | fresh k ih => intro Q n s pos h; exact key (ih _ Q _ _ pos h) (segGo_one (ends fun _ => by intro e; cases e) rfl rfl)
  | call c hd g l k ih =>
    rintro Q n s pos ⟨m, v, s', hb, h⟩
    obtain ⟨d, a, s'', pos', q, hh⟩ := ih _ Q _ s' pos h
    exact ⟨m + d, a, s'', pos', by rw [← Nat.add_assoc]; exact q, segGo_add (hb hd (gd g) (lv l) _ code pos stack hst) hh⟩
  | _ => intro Q n s pos h; exact h.elim
theorem ev_mono : ∀ (t : Sem α) (Q Q' : Nat → α → Shared → Prop) (n : Nat) (s : Shared), (∀ n a s, Q n a s → Q' n a s) → Ev p w n₀ ann t Q n s → Ev p w n₀ ann t Q' n s := by
  intro t
  induction t with
  | pure a => intro Q Q' n s i h; exact i _ _ _ h
  | load a q k ih => rintro Q Q' n s i ⟨o, ho, h⟩; exact ⟨o, ho, ih o _ _ _ _ i h⟩
  | update a q f k ih => rintro Q Q' n s i ⟨a1, a2, h⟩; exact ⟨a1, a2, ih () _ _ _ _ i h⟩
  | call c hd g l k ih => rintro Q Q' n s i ⟨m, v, s', hb, h⟩; exact ⟨m, v, s', hb, ih _ _ _ _ _ i h⟩
  | rule _ k ih => intro Q Q' n s i h; exact ih _ _ _ _ _ i h
  | «at» _ k ih => intro Q Q' n s i h; exact ih _ _ _ _ _ i h
  | point _ k ih => intro Q Q' n s i h; exact ih _ _ _ _ _ i h
  | ask k ih => intro Q Q' n s i h; exact ih _ _ _ _ _ i h
  | alloc _ k ih => intro Q Q' n s i h; exact ih _ _ _ _ _ i h
  | fresh k ih => intro Q Q' n s i h; exact ih _ _ _ _ _ i h
  | _ => intro Q Q' n s i h; exact h.elim
theorem ev_bind' (f : α → Sem β) (Q : Nat → β → Shared → Prop) : ∀ (t : Sem α) (n : Nat) (s : Shared), Ev p w n₀ ann t (fun n a s => Ev p w n₀ ann (f a) Q n s) n s → Ev p w n₀ ann (t.bind f) Q n s := by
  intro t
  induction t with
  | pure a => intro n s h; exact h
  | load a q k ih => rintro n s ⟨o, ho, h⟩; exact ⟨o, ho, ih o _ _ h⟩
  | update a q f k ih => rintro n s ⟨a1, a2, h⟩; exact ⟨a1, a2, ih () _ _ h⟩
  | call c hd g l k ih => rintro n s ⟨m, v, s', hb, h⟩; exact ⟨m, v, s', hb, ih _ _ _ h⟩
  | rule _ k ih => intro n s h; exact ih _ _ _ h
  | «at» _ k ih => intro n s h; exact ih _ _ _ h
  | point _ k ih => intro n s h; exact ih _ _ _ h
  | ask k ih => intro n s h; exact ih _ _ _ h
  | alloc _ k ih => intro n s h; exact ih _ _ _ h
  | fresh k ih => intro n s h; exact ih _ _ _ h
  | _ => intro n s h; exact h.elim
variable {Q : Nat → β → Shared → Prop} {n : Nat} {s : Shared}
theorem ev_bind {t : Sem α} {f : α → Sem β} (h : Ev p w n₀ ann t (fun n a s => Ev p w n₀ ann (f a) Q n s) n s) : Ev p w n₀ ann (t >>= f) Q n s := ev_bind' f Q t n s h
theorem ev_pure {a : β} (h : Q n a s) : Ev p w n₀ ann (pure a) Q n s := h
theorem ev_map {t : Sem α} {f : α → β} (h : Ev p w n₀ ann t (fun n a s => Q n (f a) s) n s) : Ev p w n₀ ann (f <$> t) Q n s := ev_bind' _ Q t n s h
theorem ev_keep (vs : List Value) : ∀ (t : Sem β) (n : Nat) (s : Shared), Ev p w n₀ ann t Q n s → Ev p w n₀ ann (t.keep vs) Q n s := by
  intro t
  induction t with
  | pure a => intro n s h; exact h
  | load a q k ih => rintro n s ⟨o, ho, h⟩; exact ⟨o, ho, ih o _ _ h⟩
  | update a q f k ih => rintro n s ⟨a1, a2, h⟩; exact ⟨a1, a2, ih () _ _ h⟩
  | call c hd g l k ih => rintro n s ⟨m, v, s', hb, h⟩; exact ⟨m, v, s', hb, ih _ _ _ h⟩
  | rule _ k ih => intro n s h; exact ih _ _ _ h
  | «at» _ k ih => intro n s h; exact ih _ _ _ h
  | point _ k ih => intro n s h; exact ih _ _ _ h
  | ask k ih => intro n s h; exact ih _ _ _ h
  | alloc _ k ih => intro n s h; exact ih _ _ _ h
  | fresh k ih => intro n s h; exact ih _ _ _ h
  | _ => intro n s h; exact h.elim
theorem ev_holding {vs : List Value} {t : Sem β} (h : Ev p w n₀ ann t Q n s) : Ev p w n₀ ann (holding vs t) Q n s := by
  unfold holding
  split
  · exact h
  · exact ev_keep _ _ _ _ h
theorem ev_onRaise {r : Value → Sem Unit} : ∀ (t : Sem β) (n : Nat) (s : Shared), Ev p w n₀ ann t Q n s → Ev p w n₀ ann (t.onRaise r) Q n s := by
  intro t
  induction t with
  | pure a => intro n s h; exact h
  | load a q k ih => rintro n s ⟨o, ho, h⟩; exact ⟨o, ho, ih o _ _ h⟩
  | update a q f k ih => rintro n s ⟨a1, a2, h⟩; exact ⟨a1, a2, ih () _ _ h⟩
  | call c hd g l k ih => rintro n s ⟨m, v, s', hb, h⟩; exact ⟨m, v, s', hb, ih _ _ _ h⟩
  | rule _ k ih => intro n s h; exact ih _ _ _ h
  | «at» _ k ih => intro n s h; exact ih _ _ _ h
  | point _ k ih => intro n s h; exact ih _ _ _ h
  | ask k ih => intro n s h; exact ih _ _ _ h
  | alloc _ k ih => intro n s h; exact ih _ _ _ h
  | fresh k ih => intro n s h; exact ih _ _ _ h
  | _ => intro n s h; exact h.elim
theorem ev_rule {tg : String} {Q : Nat → Unit → Shared → Prop} (h : Q (n + 1) () s) : Ev p w n₀ ann (rule tg) Q n s := h
theorem ev_standAt {q : Pos} {Q : Nat → Unit → Shared → Prop} (h : Q (n + 1) () s) : Ev p w n₀ ann (standAt q) Q n s := h
theorem ev_ask {Q : Nat → Setting → Shared → Prop} (h : Q (n + 1) ⟨p, w.params⟩ s) : Ev p w n₀ ann ask Q n s := h
theorem ev_load {a : Addr} {o : Obj} {Q : Nat → Obj → Shared → Prop} (ho : s.heap.get? a = some o) (h : Q (n + 1) o s) : Ev p w n₀ ann (load a) Q n s := ⟨o, ho, h⟩
theorem ev_loadPart {a : Addr} {q : Option Value} {o : Obj} {Q : Nat → Obj → Shared → Prop} (ho : s.heap.get? a = some o) (h : Q (n + 1) o s) : Ev p w n₀ ann (loadPart a q) Q n s := ⟨o, ho, h⟩
theorem ev_updatePart {a : Addr} {q : Option Value} {f : Obj → Obj} {o : Obj} {Q : Nat → Unit → Shared → Prop} (hn : Nat.ble n₀ a = true) (ho : s.heap.get? a = some o) (h : Q (n + 1) () { s with heap := s.heap.update a f }) : Ev p w n₀ ann (updatePart a q f) Q n s :=
  ⟨hn, by rw [ho]; rfl, h⟩
theorem ev_alloc {o : Obj} {Q : Nat → Addr → Shared → Prop} (h : Q (n + 1) s.heap.objs.size { s with heap := s.heap.push o }) : Ev p w n₀ ann (alloc o) Q n s := h
theorem ev_mkInt {i : Int} {Q : Nat → Value → Shared → Prop} (h : Q (n + 1) (.int i s.toks) { s with toks := s.toks + 1 }) : Ev p w n₀ ann (mkInt i) Q n s := h
/-- a loop, by what holds between its turns -/
theorem ev_for {γ : Type} {I : List α → γ → Nat → Shared → Prop} {f : α → γ → Sem (ForInStep γ)} (stp : ∀ x r b n s, I (x :: r) b n s → Ev p w n₀ ann (f x b) (fun n y s => match y with | .yield b' => I r b' n s | .done _ => False) n s) :
    ∀ (l : List α) (b : γ) (n : Nat) (s : Shared), I l b n s → Ev p w n₀ ann (forIn l b f) (fun n b s => I [] b n s) n s
  | [], b, n, s, h => by rw [List.forIn_nil]; exact h
  | x :: r, b, n, s, h => by
    rw [List.forIn_cons]
    refine ev_bind (ev_mono _ _ _ _ _ ?_ (stp x r b n s h))
    intro n y s hy
    cases y with
    | yield b' => exact ev_for stp r b' n s hy
    | done _ => exact hy.elim
end
end
end
section
section
open PySem PySem.W PySem.Calls PyProof.Rows
section
variable {p : Program} {w : World} {n₀ : Nat} {ann : Option Value} {α β : Type} {n : Nat} {s : Shared}
theorem den_hash1 (k : Int) (t : Tok) : denote treeTable (.call (.builtin "int.__hash__") ⟨[.int k t], []⟩) = .pure (.again (.builtin "int.__hash__" ⟨[.int k t], []⟩)) := by kernel_rfl
theorem den_hash2 (k : Int) (t : Tok) : denote treeTable (.builtin "int.__hash__" ⟨[.int k t], []⟩) = .fresh fun u => .pure (.done (.ret (.int (rawHash k) u))) := by kernel_rfl
theorem back_hash (k : Int) (t : Tok) (s : Shared) : Back p w n₀ ann 4 (.call (.builtin "int.__hash__") ⟨[.int k t], []⟩) s (.int (rawHash k) s.toks) { s with toks := s.toks + 1 } := by
  intro h g l kk code pos stack hst
  have nolen : ∀ fr : Frame, ((fr :: stack).length == 1) = false := by
    intro fr
    cases stack with
    | nil => exact absurd rfl hst
    | cons a r => rfl
  have e0 : ∀ cur : Sem Fin, (∀ f, cur ≠ .pure f) → endAt 1 ⟨cur, code, pos, stack⟩ = none := by
    intro cur hc
    unfold endAt
    cases cur <;> first | (exact absurd rfl (hc _)) | (dsimp only; split <;> first | rfl | (rename_i e; cases e))
  have e1 : ∀ (cur : Sem Fin) (c : Code) (q : Pos) (fr : Frame), endAt 1 ⟨cur, c, q, fr :: stack⟩ = none := by
    intro cur c q fr
    unfold endAt
    dsimp only
    rw [nolen fr]
  refine segGo_add (n := 1) (m := 3) (segGo_one (e0 _ fun _ => by intro e; cases e) rfl rfl) ?_
  rw [den_hash1]
  refine segGo_add (n := 1) (m := 2) (segGo_one (e1 _ _ _ _) (by kernel_rfl) (PySem.W.step_again)) ?_
  rw [den_hash2]
  refine segGo_add (n := 1) (m := 1) (segGo_one (e1 _ _ _ _) rfl rfl) ?_
  exact segGo_one (e1 _ _ _ _) rfl rfl

theorem ev_specialInt {k : Int} {t : Tok} {Q : Nat → Option Value → Shared → Prop} (h : Q n (some (.builtin "int.__hash__")) s) : Ev p w n₀ ann (specialOf (.int k t) "__hash__") Q n s := by
  have e : specialOf (.int k t) "__hash__" = pure (some (.builtin "int.__hash__")) := by
    simp only [specialOf]
    exact slot_int_hash.lookup
  rw [e]; exact h
theorem ev_tryCatch_bindpure {t : Sem α} {a : α} {f : Value → Sem α} {Q : Nat → α → Shared → Prop} (e : t = pure a) (h : Q n a s) : Ev p w n₀ ann (tryCatch t f) Q n s := by
  rw [e]; exact h
theorem ev_hashInt {k : Int} {t : Tok} {Q : Nat → Int → Shared → Prop} (h : Q (n + 5) (hashInt k) { s with toks := s.toks + 1 }) : Ev p w n₀ ann (pyHash (.int k t)) Q n s := by
  have hr := rawHash_range k
  unfold pyHash pyHashByItsType
  have hv : [Value.int k t].any Value.onHeap = false := rfl
  refine ev_bind ?_
  rw [cRoomFor, if_neg (by rw [hv]; exact Bool.false_ne_true)]; refine ev_pure ?_
  refine ev_bind (ev_specialInt ?_)
  show Ev _ _ _ _ (if (some (Value.builtin "int.__hash__") == some Value.none) = true then _ else _) Q _ s
  rw [if_neg (by rw [beq_builtin_none]; exact Bool.false_ne_true)]
  refine ev_bind (ev_specialInt ?_)
  show Ev _ _ _ _ (callSpecialIfBoundUnlessNone? (.int k t) "__hash__" _ >>= _) Q _ s
  refine ev_bind ?_
  simp only [callSpecialIfBoundUnlessNone?, bindSpecialIfBound?]
  refine ev_holding (ev_bind (ev_bind (ev_specialInt ?_)))
  simp only [slot_int_hash.bind]
  refine ev_bind (ev_ask ?_)
  split
  · refine ev_bind (ev_pure (ev_pure ?_))
    show Ev _ _ _ _ (if (Value.builtin "int.__hash__" == Value.none) = true then _ else (call (.builtin "int.__hash__") [.int k t] >>= fun v => pure (some v))) _ _ _
    rw [if_neg (by rw [builtin_beq_none]; exact Bool.false_ne_true)]
    refine ev_bind ?_
    refine ⟨4, _, _, back_hash k t s, ?_⟩
    show Ev _ _ _ _ (if (decide (-(2 : Int) ^ 63 ≤ rawHash k) && decide (rawHash k < 2 ^ 63)) = true then _ else _) Q _ _
    rw [if_pos (by rw [decide_eq_true hr.1, decide_eq_true hr.2]; rfl)]
    exact h
  · refine ev_tryCatch_bindpure (a := some (.builtin "int.__hash__", [.int k t])) (by rfl) ?_
    show Ev _ _ _ _ (if (Value.builtin "int.__hash__" == Value.none) = true then _ else (call (.builtin "int.__hash__") [.int k t] >>= fun v => pure (some v))) _ _ _
    rw [if_neg (by rw [builtin_beq_none]; exact Bool.false_ne_true)]
    refine ev_bind ?_
    refine ⟨4, _, _, back_hash k t s, ?_⟩
    show Ev _ _ _ _ (if (decide (-(2 : Int) ^ 63 ≤ rawHash k) && decide (rawHash k < 2 ^ 63)) = true then _ else _) Q _ _
    rw [if_pos (by rw [decide_eq_true hr.1, decide_eq_true hr.2]; rfl)]
    exact h
theorem ev_dictEntries {a : Addr} {q : Option Value} {o : Obj} {es : Array DictEntry} {ep : Nat} {Q : Nat → Array DictEntry → Shared → Prop} (ho : s.heap.get? a = some o) (hd : o.data = .dict es ep) (h : Q (n + 1) es s) : Ev p w n₀ ann (dictEntries a q) Q n s := by
  unfold dictEntries; refine ev_bind (ev_loadPart ho ?_); rw [hd]; exact ev_pure h
theorem ev_dictEpoch {a : Addr} {q : Option Value} {o : Obj} {es : Array DictEntry} {ep : Nat} {Q : Nat → Nat → Shared → Prop} (ho : s.heap.get? a = some o) (hd : o.data = .dict es ep) (h : Q (n + 1) ep s) : Ev p w n₀ ann (dictEpoch a q) Q n s := by
  unfold dictEpoch; refine ev_bind (ev_loadPart ho ?_); rw [hd]; exact ev_pure h
theorem ev_dictFind {d : Addr} {o : Obj} {es : Array DictEntry} {ep : Nat} {k h : Int} {t : Tok} {Q : Nat → Option Nat → Shared → Prop} (ho : s.heap.get? d = some o) (hd : o.data = .dict es ep) (hno : ∀ e ∈ es, e.hash ≠ h) (hQ : Q (n + 1) none s) :
    Ev p w n₀ ann (dictFind d (.int k t) h) Q n s := by
  have hp : placesWithHash es.size (fun i => es[i]?.map (·.hash)) h = [] := by
    unfold placesWithHash
    rw [List.filter_eq_nil_iff]
    intro i hi
    rw [List.mem_range] at hi
    dsimp only
    rw [Array.getElem?_eq_getElem hi]
    simp only [Option.map_some, beq_iff_eq, Option.some.injEq]
    exact hno _ (Array.getElem_mem hi)
  unfold dictFind
  refine ev_holding (ev_bind (ev_dictEntries ho hd ?_))
  dsimp only
  rw [hp]
  exact ev_bind (ev_pure hQ)
/-- a plain dict of these entries -/
noncomputable def dictOb (es : List DictEntry) : Obj := ⟨.type "dict", none, .dict es.toArray es.length, #[]⟩
/-- one entry more -/
noncomputable def pushKey (e : DictEntry) : Obj → Obj := Obj.mapDictKeys fun es => es.push e
theorem ev_dictSet {d : Addr} {es : List DictEntry} {k : Int} {t : Tok} {v : Value} {Q : Nat → Unit → Shared → Prop} (hn : Nat.ble n₀ d = true) (ho : s.heap.get? d = some (dictOb es)) (hh : hashInt k = k)
    (hno : ∀ e ∈ es, e.hash ≠ k) (hlen : es.length ≤ 100000) (hQ : Q (n + 10) () { s with heap := s.heap.update d (pushKey (DictEntry.mk k (Value.int k t) v)), toks := s.toks + 1 })
    (hup : ∀ h', h' = s.heap.update d (pushKey (DictEntry.mk k (Value.int k t) v)) → h'.get? d = some (dictOb (es ++ [DictEntry.mk k (Value.int k t) v]))) :
    Ev p w n₀ ann (dictSet d (.int k t) v) Q n s := by
  unfold dictSet
  refine ev_holding (ev_bind (ev_hashInt ?_))
  rw [hh]
  unfold dictSetHashed
  refine ev_holding (ev_bind (ev_dictFind ho rfl (fun e he => hno e (by simpa using he)) ?_))
  dsimp only
  refine ev_bind (ev_rule ?_)
  unfold updateDictKeys
  refine ev_bind (ev_loadPart ho ?_)
  show Ev _ _ _ _ (updatePart d _ _ >>= _) _ _ _
  refine ev_bind (ev_updatePart hn ho ?_)
  unfold lookBehind
  refine ev_bind (ev_loadPart (hup _ rfl) ?_)
  have hz : ¬ (es ++ [DictEntry.mk k (Value.int k t) v]).toArray.size > sizeLine + 1 := by
    simp only [List.size_toArray, List.length_append, List.length_cons, List.length_nil, sizeLine]; omega
  have hp : (dictOb (es ++ [DictEntry.mk k (Value.int k t) v])).data.pastItsLine = none := if_neg hz
  rw [hp]
  exact ev_pure hQ
end
end
end
section
section
open PySem PySem.W PySem.Calls PyProof.Rows
/-- the heap as a list: what stood, and what came -/
noncomputable def HL (base l : List Obj) : Heap := ⟨(base ++ l).toArray, {}⟩
theorem HL_size (base l : List Obj) : (HL base l).objs.size = base.length + l.length := by simp [HL]
theorem HL_push (base l : List Obj) (o : Obj) : (HL base l).push o = HL base (l ++ [o]) := by
  unfold HL Heap.push
  simp
theorem HL_get {base a b : List Obj} {es : List DictEntry} : (HL base (a ++ dictOb es :: b)).get? (base.length + a.length) = some (dictOb es) := by
  have e : (HL base (a ++ dictOb es :: b)).objs[base.length + a.length]? = some (dictOb es) := by
    unfold HL
    rw [List.getElem?_toArray, ← List.append_assoc, List.getElem?_append_right (by simp)]
    simp
  unfold Heap.get?
  rw [e]
  rfl
theorem HL_upd {base a b : List Obj} {o : Obj} {f : Obj → Obj} : (HL base (a ++ o :: b)).update (base.length + a.length) f = HL base (a ++ f o :: b) := by
  have : ((base ++ (a ++ o :: b)).toArray.modify (base.length + a.length) f) = (base ++ (a ++ f o :: b)).toArray := by
    apply Array.ext_getElem?
    intro i
    rw [Array.getElem?_modify, List.getElem?_toArray, List.getElem?_toArray, ← List.append_assoc, ← List.append_assoc]
    by_cases h : base.length + a.length = i
    · subst h
      rw [if_pos rfl, List.getElem?_append_right (by simp), List.getElem?_append_right (by simp)]
      simp
    · rw [if_neg h]
      rcases Nat.lt_or_ge i (base ++ a).length with q | q
      · rw [List.getElem?_append_left q, List.getElem?_append_left q]
      · rw [List.getElem?_append_right q, List.getElem?_append_right q]
        have : i - (base ++ a).length ≠ 0 := by simp at q ⊢; omega
        obtain ⟨j, hj⟩ := Nat.exists_eq_succ_of_ne_zero this
        rw [hj]
        rfl
  exact congrArg (Heap.mk · {}) this
theorem pushKey_ob (es : List DictEntry) (e : DictEntry) : pushKey e (dictOb es) = dictOb (es ++ [e]) := by
  unfold pushKey dictOb Obj.mapDictKeys
  simp

/-- the entries, from a place: the token of the first key, the step from key to key -/
noncomputable def entsFrom (t d : Nat) : List (Int × PySem.Str) → List DictEntry
  | [] => []
  | (i, x) :: r => ⟨i, .int i t, .str x (t + 1)⟩ :: entsFrom (t + d) d r
theorem entsFrom_length (d : Nat) : ∀ (l : List (Int × PySem.Str)) (t : Nat), (entsFrom t d l).length = l.length
  | [], _ => rfl
  | _ :: r, t => by simp [entsFrom, entsFrom_length d r]
theorem entsFrom_app (d : Nat) : ∀ (a b : List (Int × PySem.Str)) (t : Nat), entsFrom t d (a ++ b) = entsFrom t d a ++ entsFrom (t + d * a.length) d b
  | [], b, t => by simp [entsFrom]
  | x :: r, b, t => by
    simp only [List.cons_append, entsFrom, entsFrom_app d r b, List.length_cons, Nat.mul_add, Nat.mul_one]
    rw [show t + d + d * r.length = t + (d * r.length + d) by omega]
theorem entsFrom_hash (d : Nat) : ∀ (l : List (Int × PySem.Str)) (t : Nat), (entsFrom t d l).map (·.hash) = l.map (·.1)
  | [], _ => rfl
  | (i, x) :: r, t => by simp [entsFrom, entsFrom_hash d r]
section
variable {p : Program} {w : World} {n₀ : Nat} {ann : Option Value} {n : Nat} {s : Shared}
/-- the trees of one item -/
noncomputable def IsItem (p : Program) (w : World) (n₀ : Nat) (ann : Option Value) (q : Sem Value × Sem Value) (d : Int × PySem.Str) : Prop :=
  (∀ (n : Nat) (s : Shared) (Q : Nat → Value → Shared → Prop), Q (n + 1) (.int d.1 s.toks) { s with toks := s.toks + 1 } → Ev p w n₀ ann q.1 Q n s) ∧
  (∀ (n : Nat) (s : Shared) (Q : Nat → Value → Shared → Prop), Q (n + 2) (.str d.2 s.toks) { s with toks := s.toks + 1 } → Ev p w n₀ ann q.2 Q n s)
inductive Items (p : Program) (w : World) (n₀ : Nat) (ann : Option Value) : List (Sem Value × Sem Value) → List (Int × PySem.Str) → Prop
  | nil : Items p w n₀ ann [] []
  | cons {q d ps ds} : IsItem p w n₀ ann q d → Items p w n₀ ann ps ds → Items p w n₀ ann (q :: ps) (d :: ds)
theorem Items.length {ps ds} (h : Items p w n₀ ann ps ds) : ps.length = ds.length := by induction h <;> simp [*]
/-- keys that are their own hashes, all unlike -/
noncomputable def GoodKeys (ks : List Int) : Prop := ks.Nodup ∧ ∀ k ∈ ks, hashInt k = k
theorem fresh_key {ks : List Int} {es : List DictEntry} {k : Int} (h : es.map (·.hash) = ks) (hk : k ∉ ks) : ∀ e ∈ es, e.hash ≠ k := by
  intro e he q
  exact hk (h ▸ q ▸ List.mem_map_of_mem he)
/-- a fill of the newest dict, item by item -/
theorem ev_fill {base A : List Obj} {ps : List (Sem Value × Sem Value)} {ds : List (Int × PySem.Str)} {S : Shared} {t₀ : Nat} {Q : Nat → PUnit → Shared → Prop} (hb : n₀ ≤ base.length) (hi : Items p w n₀ ann ps ds) (hg : GoodKeys (ds.map (·.1))) (hl : ds.length ≤ 1000)
    (hs : s = { S with heap := HL base (A ++ [dictOb []]), toks := t₀ })
    (hQ : ∀ m, m ≤ n + 13 * ds.length → Q m ⟨⟩ { S with heap := HL base (A ++ [dictOb (entsFrom t₀ 3 ds)]), toks := t₀ + 3 * ds.length }) :
    ∀ f : Sem Value × Sem Value → PUnit → Sem (ForInStep PUnit), (∀ x r n s Q, Ev p w n₀ ann (do
        let kv ← x.1
        let vv ← holding [kv] x.2
        holding [kv, vv] (dictSet (base.length + A.length) kv vv)
        pure (ForInStep.yield PUnit.unit)) Q n s → Ev p w n₀ ann (f x r) Q n s) → Ev p w n₀ ann (forIn ps PUnit.unit f) Q n s := by
  intro f hf
  refine ev_mono _ _ _ _ _ ?_ (ev_for (I := fun rest _ m s' => ∃ a b, a ++ b = ds ∧ Items p w n₀ ann rest b ∧ m ≤ n + 13 * a.length ∧ s' = { S with heap := HL base (A ++ [dictOb (entsFrom t₀ 3 a)]), toks := t₀ + 3 * a.length }) ?_ ps _ n s ⟨[], ds, rfl, hi, by simp, by rw [hs]; rfl⟩)
  · rintro m ⟨⟩ s' ⟨a, b, e, hi', hm, rfl⟩
    cases hi'
    rw [List.append_nil] at e
    subst e
    exact hQ m hm
  · rintro x r ⟨⟩ m s' ⟨a, b, e, hi', hm, rfl⟩
    obtain ⟨d, b', rfl, hx, hr⟩ : ∃ d b', b = d :: b' ∧ IsItem p w n₀ ann x d ∧ Items p w n₀ ann r b' := by
      cases hi' with
      | cons h1 h2 => exact ⟨_, _, rfl, h1, h2⟩
    have hk : d.1 ∉ a.map (·.1) := by
      have := hg.1
      rw [← e, List.map_append, List.map_cons] at this
      have h2 := List.nodup_append.mp this
      intro q
      exact h2.2.2 _ q _ (.head _) rfl
    have hlen : a.length + 1 ≤ ds.length := by rw [← e]; simp
    refine hf _ _ _ _ _ (ev_bind (hx.1 _ _ _ (ev_bind (ev_holding (hx.2 _ _ _ (ev_bind (ev_holding ?_)))))))
    refine ev_dictSet (es := entsFrom t₀ 3 a) ?_ HL_get (hg.2 _ ?_) (fresh_key (entsFrom_hash 3 a t₀) hk) ?_ ?_ ?_
    · exact Nat.ble_eq_true_of_le (Nat.le_trans hb (Nat.le_add_right _ _))
    · rw [← e]; simp
    · rw [entsFrom_length]; omega
    · rw [HL_upd, pushKey_ob]
      refine ev_pure ⟨a ++ [d], b', by simp [← e], hr, by simp; omega, ?_⟩
      rw [entsFrom_app]
      simp only [entsFrom, List.length_append, List.length_cons, List.length_nil]
      rfl
    · rintro h' rfl
      rw [HL_upd, pushKey_ob]
      exact HL_get
theorem ev_subLong {base A : List Obj} {ps : List (Sem Value × Sem Value)} {ds : List (Int × PySem.Str)} {S : Shared} {t₀ : Nat} {Q : Nat → Addr → Shared → Prop} (hb : n₀ ≤ base.length) (hi : Items p w n₀ ann ps ds) (hg : GoodKeys (ds.map (·.1))) (hl : ds.length ≤ 1000) (hlong : 15 < ds.length)
    (hQ : ∀ m, m ≤ n + 2 + 13 * ds.length → Q m (base.length + A.length) { S with heap := HL base (A ++ [dictOb (entsFrom t₀ 3 ds)]), toks := t₀ + 3 * ds.length }) :
    Ev p w n₀ ann (subDict ps) Q n { S with heap := HL base A, toks := t₀ } := by
  unfold subDict
  refine ev_bind (ev_alloc ?_)
  have e1 : (HL base A).objs.size = base.length + A.length := HL_size _ _
  dsimp only
  rw [e1, HL_push]
  refine ev_bind (ev_holding ?_)
  rw [if_neg (by rw [hi.length]; omega)]
  refine ev_bind (ev_rule ?_)
  refine ev_bind (ev_fill (S := S) (t₀ := t₀) hb hi hg hl rfl ?_ _ ?_)
  · intro m hm
    exact ev_pure (ev_pure (hQ m (by omega)))
  · rintro ⟨k, v⟩ r n s Q h
    exact h
/-- the values of the pairs, in their order -/
noncomputable def valsFrom (t : Nat) : List (Int × PySem.Str) → List (Value × Value)
  | [] => []
  | (i, x) :: r => (.int i t, .str x (t + 1)) :: valsFrom (t + 2) r
theorem ev_evalPairs {ps : List (Sem Value × Sem Value)} {ds : List (Int × PySem.Str)} (hi : Items p w n₀ ann ps ds) : ∀ {n : Nat} {S : Shared} {t₀ : Nat} {Q : Nat → List (Value × Value) → Shared → Prop}, Q (n + 3 * ds.length) (valsFrom t₀ ds) { S with toks := t₀ + 2 * ds.length } →
    Ev p w n₀ ann (evalPairs ps) Q n { S with toks := t₀ } := by
  induction hi with
  | nil => intro n S t₀ Q h; exact ev_pure h
  | @cons q d ps ds hx _ ih =>
    intro n S t₀ Q h
    obtain ⟨k, v⟩ := q
    obtain ⟨i, x⟩ := d
    unfold evalPairs
    refine ev_bind (hx.1 _ _ _ (ev_bind (ev_holding (hx.2 _ _ _ (ev_bind (ev_holding (ih (n := n + 1 + 2) (S := S) (t₀ := t₀ + 1 + 1) ?_)))))))
    refine ev_pure ?_
    simp only [List.length_cons, valsFrom, Nat.mul_add, Nat.mul_one] at h
    rw [show n + 1 + 2 + 3 * ds.length = n + (3 * ds.length + 3) by omega, show t₀ + 1 + 1 + 2 * ds.length = t₀ + (2 * ds.length + 2) by omega]
    exact h
theorem ev_fill2 {base A : List Obj} {ds : List (Int × PySem.Str)} {S : Shared} {t₀ t₁ : Nat} {Q : Nat → PUnit → Shared → Prop} (hb : n₀ ≤ base.length) (hg : GoodKeys (ds.map (·.1))) (hl : ds.length ≤ 1000)
    (hs : s = { S with heap := HL base (A ++ [dictOb []]), toks := t₁ })
    (hQ : ∀ m, m ≤ n + 10 * ds.length → Q m ⟨⟩ { S with heap := HL base (A ++ [dictOb (entsFrom t₀ 2 ds)]), toks := t₁ + ds.length }) :
    ∀ f : Value × Value → PUnit → Sem (ForInStep PUnit), (∀ x r n s Q, Ev p w n₀ ann (do
        dictSet (base.length + A.length) x.1 x.2
        pure (ForInStep.yield PUnit.unit)) Q n s → Ev p w n₀ ann (f x r) Q n s) → Ev p w n₀ ann (forIn (valsFrom t₀ ds) PUnit.unit f) Q n s := by
  intro f hf
  refine ev_mono _ _ _ _ _ ?_ (ev_for (I := fun rest _ m s' => ∃ a b, a ++ b = ds ∧ rest = valsFrom (t₀ + 2 * a.length) b ∧ m ≤ n + 10 * a.length ∧ s' = { S with heap := HL base (A ++ [dictOb (entsFrom t₀ 2 a)]), toks := t₁ + a.length }) ?_ _ _ n s ⟨[], ds, rfl, rfl, by simp, by rw [hs]; rfl⟩)
  · rintro m ⟨⟩ s' ⟨a, b, e, hr, hm, rfl⟩
    have : b = [] := by
      cases b with
      | nil => rfl
      | cons d b => obtain ⟨i, x⟩ := d; cases hr
    subst this
    rw [List.append_nil] at e
    subst e
    exact hQ m hm
  · rintro x r ⟨⟩ m s' ⟨a, b, e, hr, hm, rfl⟩
    cases b with
    | nil => cases hr
    | cons d b =>
    obtain ⟨i, y⟩ := d
    rw [valsFrom] at hr
    injection hr with hx hr
    subst hx hr
    have hk : i ∉ a.map (·.1) := by
      have := hg.1
      rw [← e, List.map_append, List.map_cons] at this
      have h2 := List.nodup_append.mp this
      intro q
      exact h2.2.2 _ q _ (.head _) rfl
    have hlen : a.length + 1 ≤ ds.length := by rw [← e]; simp
    refine hf _ _ _ _ _ (ev_bind ?_)
    refine ev_dictSet (es := entsFrom t₀ 2 a) ?_ HL_get (hg.2 _ ?_) (fresh_key (entsFrom_hash 2 a t₀) hk) ?_ ?_ ?_
    · exact Nat.ble_eq_true_of_le (Nat.le_trans hb (Nat.le_add_right _ _))
    · rw [← e]; simp
    · rw [entsFrom_length]; omega
    · rw [HL_upd, pushKey_ob]
      refine ev_pure ⟨a ++ [(i, y)], b, by simp [← e], by simp [Nat.mul_add, Nat.add_assoc], by simp; omega, ?_⟩
      rw [entsFrom_app]
      simp only [entsFrom, List.length_append, List.length_cons, List.length_nil]
      rfl
    · rintro h' rfl
      rw [HL_upd, pushKey_ob]
      exact HL_get
theorem ev_subShort {base A : List Obj} {ps : List (Sem Value × Sem Value)} {ds : List (Int × PySem.Str)} {S : Shared} {t₀ : Nat} {Q : Nat → Addr → Shared → Prop} (hb : n₀ ≤ base.length) (hi : Items p w n₀ ann ps ds) (hg : GoodKeys (ds.map (·.1))) (hshort : ds.length ≤ 15)
    (hQ : ∀ m, m ≤ n + 2 + 13 * ds.length → Q m (base.length + A.length) { S with heap := HL base (A ++ [dictOb (entsFrom t₀ 2 ds)]), toks := t₀ + 2 * ds.length + ds.length }) :
    Ev p w n₀ ann (subDict ps) Q n { S with heap := HL base A, toks := t₀ } := by
  unfold subDict
  refine ev_bind (ev_alloc ?_)
  have e1 : (HL base A).objs.size = base.length + A.length := HL_size _ _
  dsimp only
  rw [e1, HL_push]
  refine ev_bind (ev_holding ?_)
  rw [if_pos (by rw [hi.length]; omega)]
  refine ev_bind (ev_evalPairs hi (S := { S with heap := HL base (A ++ [dictOb []]) }) (t₀ := t₀) ?_)
  refine ev_holding ?_
  refine ev_bind (ev_fill2 (S := S) (t₀ := t₀) (t₁ := t₀ + 2 * ds.length) hb hg (by omega) rfl ?_ _ ?_)
  · intro m hm
    exact ev_pure (ev_pure (hQ m (by omega)))
  · rintro ⟨k, v⟩ r n s Q h
    exact h
end
end
end
section
section
open PySem PySem.W PySem.Calls PyProof.Rows
section
variable {p : Program} {w : World} {n₀ : Nat} {ann : Option Value} {n : Nat} {s : Shared}
theorem ev_typeOf {a : Addr} {o : Obj} {Q : Nat → Value → Shared → Prop} (ho : s.heap.get? a = some o) (h : Q (n + 1) o.cls s) : Ev p w n₀ ann (typeOf (.ref a)) Q n s := by
  simp only [typeOf]; exact ev_bind (ev_loadPart ho (ev_pure h))
theorem sub_dict : isSubtype (.type "dict") (.type "dict") = pure true := by rw [isSubtype_type]; kernel_rfl
theorem look_dict_iter : typeLookup (.type "dict") "__iter__" = pure (some (.builtin "dict.__iter__")) := by rw [typeLookup_type, builtinLookup_eq_fast]; kernel_rfl
theorem ev_isDict {a : Addr} {es : List DictEntry} {Q : Nat → Bool → Shared → Prop} (ho : s.heap.get? a = some (dictOb es)) (h : Q (n + 1) true s) : Ev p w n₀ ann (isInstance (.ref a) (.type "dict")) Q n s := by
  unfold isInstance
  refine ev_bind (ev_typeOf ho ?_)
  show Ev _ _ _ _ (isSubtype (.type "dict") (.type "dict")) _ _ _
  rw [sub_dict]; exact ev_pure h
theorem ev_dictIter {a : Addr} {es : List DictEntry} {Q : Nat → Option Value → Shared → Prop} (ho : s.heap.get? a = some (dictOb es)) (h : Q (n + 1) (some (.builtin "dict.__iter__")) s) : Ev p w n₀ ann (specialOf (.ref a) "__iter__") Q n s := by
  simp only [specialOf]
  refine ev_bind (ev_typeOf ho ?_)
  show Ev _ _ _ _ (typeLookup (.type "dict") "__iter__") _ _ _
  rw [look_dict_iter]; exact ev_pure h
theorem ev_dictPut {d : Addr} {es : List DictEntry} {k : Int} {t : Tok} {v : Value} {Q : Nat → Unit → Shared → Prop} (hn : Nat.ble n₀ d = true) (ho : s.heap.get? d = some (dictOb es))
    (hno : ∀ e ∈ es, e.hash ≠ k) (hlen : es.length ≤ 100000) (hQ : Q (n + 4) () { s with heap := s.heap.update d (pushKey (DictEntry.mk k (Value.int k t) v)) })
    (hup : ∀ h', h' = s.heap.update d (pushKey (DictEntry.mk k (Value.int k t) v)) → h'.get? d = some (dictOb (es ++ [DictEntry.mk k (Value.int k t) v]))) :
    Ev p w n₀ ann (dictPut d k (.int k t) v) Q n s := by
  unfold dictPut
  refine ev_bind (ev_dictFind ho rfl (fun e he => hno e (by simpa using he)) ?_)
  dsimp only
  unfold updateDictKeys
  refine ev_bind (ev_loadPart ho ?_)
  show Ev _ _ _ _ (updatePart d _ _ >>= _) _ _ _
  refine ev_bind (ev_updatePart hn ho ?_)
  unfold lookBehind
  refine ev_bind (ev_loadPart (hup _ rfl) ?_)
  have hz : ¬ (es ++ [DictEntry.mk k (Value.int k t) v]).toArray.size > sizeLine + 1 := by
    simp only [List.size_toArray, List.length_append, List.length_cons, List.length_nil, sizeLine]; omega
  have hp : (dictOb (es ++ [DictEntry.mk k (Value.int k t) v])).data.pastItsLine = none := if_neg hz
  rw [hp]
  exact ev_pure hQ
/-- entries under ints that are their own hashes -/
noncomputable def IntEnt (e : DictEntry) : Prop := ∃ t, e.key = .int e.hash t
theorem ev_merge {base M : List Obj} {E B : List DictEntry} {S : Shared} {Q : Nat → Unit → Shared → Prop} (hb : n₀ ≤ base.length) (hb2 : 2 ≤ base.length) (hE : E ≠ []) (hlE : E.length ≤ 50000) (hlB : B.length ≤ 50000) (hint : ∀ e ∈ B, IntEnt e) (hnd : ((E ++ B).map (·.hash)).Nodup)
    (hQ : ∀ m, m ≤ n + 6 + 6 * B.length → Q m () { S with heap := HL base (dictOb (E ++ B) :: M ++ [dictOb B]) }) :
    Ev p w n₀ ann (mergeMapping base.length (.ref (base.length + (M.length + 1))) false) Q n { S with heap := HL base (dictOb E :: M ++ [dictOb B]) } := by
  have get0 : ∀ (X : List DictEntry), (HL base (dictOb X :: M ++ [dictOb B])).get? base.length = some (dictOb X) := fun X => HL_get (a := []) (b := M ++ [dictOb B])
  have get1 : ∀ (X : List DictEntry), (HL base (dictOb X :: M ++ [dictOb B])).get? (base.length + (M.length + 1)) = some (dictOb B) := fun X => HL_get (a := dictOb X :: M) (b := [])
  unfold mergeMapping
  refine ev_bind (ev_bind (ev_isDict (get1 E) ?_))
  rw [if_pos rfl]
  refine ev_bind (ev_dictIter (get1 E) (ev_bind (ev_pure ?_)))
  have hb' : (some (Value.builtin "dict.__iter__") == some (.builtin "dict.__iter__")) = true := by decide
  rw [hb']
  dsimp only
  rw [if_neg (by intro q; have q : base.length + (M.length + 1) = (1 : Nat) := beq_iff_eq.mp q; omega)]
  refine ev_bind (ev_dictEntries (get0 E) rfl ?_)
  rw [if_neg (by simpa using hE)]
  refine ev_bind (ev_dictEntries (get1 E) rfl ?_)
  refine ev_bind (ev_dictEpoch (get1 E) rfl ?_)
  refine ev_bind (ev_mono _ _ _ _ _ ?_ (ev_for (I := fun rest _ m s' => ∃ i, i ≤ B.length ∧ rest = (List.range B.length).drop i ∧ m ≤ n + 6 + 6 * i ∧ s' = { S with heap := HL base (dictOb (E ++ B.take i) :: M ++ [dictOb B]) }) ?_ _ _ _ _ ?_))
  · rintro m ⟨⟩ s' ⟨i, hi, hr, hm, rfl⟩
    have hi' : i = B.length := by
      have := congrArg List.length hr
      simp at this
      omega
    subst hi'
    rw [List.take_length]
    exact ev_pure (hQ m hm)
  · rintro x r ⟨⟩ m s' ⟨i, hi, hr, hm, rfl⟩
    have hlt : i < B.length := by
      rcases Nat.lt_or_ge i B.length with q | q
      · exact q
      · rw [List.drop_eq_nil_of_le (by simpa using q)] at hr; cases hr
    rw [List.drop_eq_getElem_cons (by simpa using hlt)] at hr
    injection hr with hx hr
    rw [List.getElem_range] at hx
    subst hx hr
    have hget : B.toArray[x]? = some B[x] := by rw [List.getElem?_toArray, List.getElem?_eq_getElem hlt]
    obtain ⟨t, ht⟩ := hint B[x] (List.getElem_mem hlt)
    have htake : B.take (x + 1) = B.take x ++ [B[x]] := by rw [List.take_add_one, List.getElem?_eq_getElem hlt]; rfl
    have hno : ∀ e ∈ E ++ B.take x, e.hash ≠ B[x].hash := by
      intro e he q
      have h1 : E ++ B = (E ++ B.take x) ++ B[x] :: B.drop (x + 1) := by
        rw [List.append_assoc]
        congr 1
        rw [← List.drop_eq_getElem_cons hlt, List.take_append_drop]
      rw [h1, List.map_append, List.map_cons] at hnd
      exact (List.nodup_append.mp hnd).2.2 _ (List.mem_map_of_mem he) _ (.head _) q
    have hlen : (E ++ B.take x).length ≤ 100000 := by
      rw [List.length_append, List.length_take]; omega
    refine ev_bind (ev_dictEntries (get1 _) rfl ?_)
    rw [hget]
    dsimp only
    refine ev_bind (ev_holding ?_)
    rw [if_neg Bool.false_ne_true, ht]
    refine ev_dictPut (es := E ++ B.take x) (Nat.ble_eq_true_of_le hb) (get0 _) hno hlen ?_ ?_
    · have e2 : (⟨B[x].hash, .int B[x].hash t, B[x].val⟩ : DictEntry) = B[x] := by rw [← ht]
      have e3 : (HL base (dictOb (E ++ B.take x) :: M ++ [dictOb B])).update base.length (pushKey B[x]) = HL base (dictOb (E ++ B.take (x + 1)) :: M ++ [dictOb B]) := by
        have := HL_upd (base := base) (a := []) (b := M ++ [dictOb B]) (o := dictOb (E ++ B.take x)) (f := pushKey B[x])
        rw [pushKey_ob, List.append_assoc, ← htake] at this
        exact this
      rw [e2, e3]
      refine ev_bind (ev_dictEpoch (get1 _) rfl ?_)
      rw [if_neg (by simp)]
      exact ev_pure ⟨x + 1, hlt, rfl, by omega, rfl⟩
    · rintro h' rfl
      have := HL_upd (base := base) (a := []) (b := M ++ [dictOb B]) (o := dictOb (E ++ B.take x)) (f := pushKey (DictEntry.mk B[x].hash (Value.int B[x].hash t) B[x].val))
      rw [pushKey_ob] at this
      have h2 : (HL base (dictOb (E ++ B.take x) :: M ++ [dictOb B])).update base.length (pushKey (DictEntry.mk B[x].hash (Value.int B[x].hash t) B[x].val)) = _ := this
      rw [h2]
      exact HL_get (a := [])
  · exact ⟨0, Nat.zero_le _, rfl, by omega, by rw [List.take_zero, List.append_nil]⟩
end
end
end
section
section
open PySem PySem.W PySem.Calls PyProof.Rows
section
variable {p : Program} {w : World} {n₀ : Nat} {ann : Option Value} {n : Nat} {s : Shared}
theorem Items.take {ps ds} (h : Items p w n₀ ann ps ds) : ∀ k, Items p w n₀ ann (ps.take k) (ds.take k) := by
  induction h with
  | nil => intro k; simp; exact .nil
  | cons a _ ih => intro k; cases k with
    | zero => exact .nil
    | succ k => exact .cons a (ih k)
theorem Items.drop {ps ds} (h : Items p w n₀ ann ps ds) : ∀ k, Items p w n₀ ann (ps.drop k) (ds.drop k) := by
  induction h with
  | nil => intro k; simp; exact .nil
  | cons a h ih => intro k; cases k with
    | zero => exact .cons a h
    | succ k => exact ih k
/-- what the batches before have made -/
noncomputable def subOb (t₀ : Nat) (D : List (Int × PySem.Str)) (j : Nat) : Obj := dictOb (entsFrom (t₀ + 51 * (j + 1)) 3 ((D.drop (17 * (j + 1))).take 17))
noncomputable def tailOf (t₀ : Nat) (D : List (Int × PySem.Str)) : Nat → List Obj
  | 0 => []
  | m + 1 => dictOb (entsFrom t₀ 3 (D.take (17 * (m + 1)))) :: (List.range m).map (subOb t₀ D)
noncomputable def mainOf (N : Nat) : Nat → Option Addr
  | 0 => none
  | _ + 1 => some N
theorem entsFrom_int (t d : Nat) (l : List (Int × PySem.Str)) : ∀ e ∈ entsFrom t d l, IntEnt e := by
  induction l generalizing t with
  | nil => intro e h; cases h
  | cons x r ih =>
    obtain ⟨i, y⟩ := x
    intro e h
    rcases List.mem_cons.mp h with rfl | h
    · exact ⟨t, rfl⟩
    · exact ih _ e h
theorem good_sub {l r : List (Int × PySem.Str)} (h : l.Sublist r) (g : GoodKeys (r.map (·.1))) : GoodKeys (l.map (·.1)) :=
  ⟨(h.map _).nodup g.1, fun k hk => g.2 k ((h.map _).subset hk)⟩
theorem take_drop_app {α : Type} (l : List α) (a b : Nat) : l.take a ++ (l.drop a).take b = l.take (a + b) := by
  rw [List.take_add]
/-- a batch onto the dict -/
theorem ev_next {base M : List Obj} {E B : List DictEntry} {ps : List (Sem Value × Sem Value)} {S : Shared} {Q : Nat → Option Addr → Shared → Prop} {t₁ t₂ : Nat} (hb : n₀ ≤ base.length) (hb2 : 2 ≤ base.length) (hE : E ≠ []) (hlE : E.length ≤ 50000) (hlB : B.length ≤ 50000) (hint : ∀ e ∈ B, IntEnt e)
    (hnd : ((E ++ B).map (·.hash)).Nodup) (c : Nat)
    (hsub : ∀ (n : Nat) (Q : Nat → Addr → Shared → Prop), (∀ m, m ≤ n + c → Q m (base.length + (dictOb E :: M).length) { S with heap := HL base (dictOb E :: M ++ [dictOb B]), toks := t₂ }) → Ev p w n₀ ann (subDict ps) Q n { S with heap := HL base (dictOb E :: M), toks := t₁ })
    (hQ : ∀ m, m ≤ n + c + 6 + 6 * B.length → Q m (some base.length) { S with heap := HL base (dictOb (E ++ B) :: M ++ [dictOb B]), toks := t₂ }) (f : Addr → Value → Sem Unit) :
    Ev p w n₀ ann (do
      let sub ← holding [Value.ref base.length] (subDict ps)
      (holding [Value.ref base.length, Value.ref sub] (mergeMapping base.length (Value.ref sub) false)).onRaise (f sub)
      pure (some base.length)) Q n { S with heap := HL base (dictOb E :: M), toks := t₁ } := by
  refine ev_bind (ev_holding (hsub _ _ ?_))
  intro m hm
  refine ev_bind (ev_onRaise _ _ _ (ev_holding ?_))
  refine ev_merge (S := { S with toks := t₂ }) hb hb2 hE hlE hlB hint hnd ?_
  intro m' hm'
  exact ev_pure (hQ m' (by omega))
theorem dv_end {n q r : Nat} (h : n = 17 * (q + 1) + r) (h15 : r ≤ 15) : n / 17 = q + 1 ∧ n % 17 = r := by omega
theorem dv_full {i n : Nat} (h : i < n) (h17 : i % 17 + 1 = 17) : min 17 (n - 17 * (i / 17)) = 17 := by omega
theorem dv_part {i n : Nat} (h : i < n) : min (i % 17 + 1) (n - 17 * (i / 17)) = i % 17 + 1 := by omega
theorem dv_next {i : Nat} (h17 : i % 17 + 1 = 17) : (i + 1) / 17 = i / 17 + 1 ∧ (i + 1) % 17 = 0 := by omega
theorem dv_same {i : Nat} (h17 : ¬ i % 17 + 1 = 17) : (i + 1) / 17 = i / 17 ∧ (i + 1) % 17 = i % 17 + 1 := by omega
theorem dv_le {i n m₀ : Nat} (h : i < n) (hq : i / 17 = m₀ + 1) : 17 * (m₀ + 1) ≤ n := by omega
theorem cnt_end {k n q r L m : Nat} (hk : k ≤ n + 400 * (q + 1)) (hL : L = 17 * (q + 1) + r) (hm : m ≤ k + (2 + 13 * r) + 6 + 6 * r) : m ≤ n + 40 * L + 600 := by omega
theorem cnt_zero {k n m : Nat} (hk : k ≤ n + 400 * 0) (hm : m ≤ k + 2 + 13 * 17) : m ≤ n + 400 * (0 + 1) := by omega
theorem cnt_next {k n a m : Nat} (hk : k ≤ n + 400 * (a + 1)) (hm : m ≤ k + (2 + 13 * 17) + 6 + 6 * 17) : m ≤ n + 400 * (a + 1 + 1) := by omega
theorem min_zero {a n : Nat} (h : a + 1 ≤ n) : min (a + 1) n ≠ 0 := by omega
theorem ev_display {base : List Obj} {its : List (Sem Value × Sem Value)} {D : List (Int × PySem.Str)} {S : Shared} {t₀ q r : Nat} {Q : Nat → Value → Shared → Prop} (hb : n₀ ≤ base.length) (hb2 : 2 ≤ base.length) (hi : Items p w n₀ ann its D) (hg : GoodKeys (D.map (·.1))) (hl : D.length ≤ 1000)
    (hD : D.length = 17 * (q + 1) + r) (h0 : 0 < r) (h15 : r ≤ 15)
    (hQ : ∀ m, m ≤ n + 40 * D.length + 600 → Q m (.ref base.length) { S with heap := HL base (dictOb (entsFrom t₀ 3 (D.take (17 * (q + 1))) ++ entsFrom (t₀ + 51 * (q + 1)) 2 (D.drop (17 * (q + 1)))) :: (List.range q).map (subOb t₀ D) ++ [dictOb (entsFrom (t₀ + 51 * (q + 1)) 2 (D.drop (17 * (q + 1))))]), toks := t₀ + 51 * (q + 1) + 3 * r }) :
    Ev p w n₀ ann (dictDisplay (its.map fun q => (some q.1, q.2))) Q n { S with heap := HL base [], toks := t₀ } := by
  have hlen : its.length = D.length := hi.length
  unfold dictDisplay
  dsimp only
  refine ev_bind (ev_mono _ _ _ _ _ ?_ (ev_for (I := fun rest (st : Option Addr × List (Sem Value × Sem Value)) k s' => ∃ i, i ≤ its.length ∧ rest = (its.map fun q => (some q.1, q.2)).drop i ∧ st = (mainOf base.length (i / 17), (its.drop (17 * (i / 17))).take (i % 17)) ∧ k ≤ n + 400 * (i / 17) ∧ s' = { S with heap := HL base (tailOf t₀ D (i / 17)), toks := t₀ + 51 * (i / 17) }) ?_ _ _ _ _ ?_))
  · rintro k st s' ⟨i, hil, hr, rfl, hk, rfl⟩
    have hi2 : i = its.length := by
      have := congrArg List.length hr
      simp at this
      omega
    subst hi2
    obtain ⟨hm, hrr⟩ := dv_end (hlen.trans hD) h15
    rw [hm] at hk
    rw [hm, hrr]
    have hrun : (its.drop (17 * (q + 1))).take r = its.drop (17 * (q + 1)) := List.take_of_length_le (by simp; omega)
    rw [hrun]
    have hne : (its.drop (17 * (q + 1))).isEmpty = false := by
      cases e : its.drop (17 * (q + 1)) with
      | nil => have := congrArg List.length e; simp at this; omega
      | cons => rfl
    dsimp only
    rw [hne, if_neg Bool.false_ne_true]
    show Ev _ _ _ _ ((do
      let sub ← holding [Value.ref base.length] (subDict (its.drop (17 * (q + 1))))
      (holding [Value.ref base.length, Value.ref sub] (mergeMapping base.length (Value.ref sub) false)).onRaise _
      pure (some base.length)) >>= _) Q _ _
    have hds : (D.drop (17 * (q + 1))).length = r := by simp; omega
    refine ev_bind (ev_next (M := (List.range q).map (subOb t₀ D)) (E := entsFrom t₀ 3 (D.take (17 * (q + 1)))) (B := entsFrom (t₀ + 51 * (q + 1)) 2 (D.drop (17 * (q + 1)))) (c := 2 + 13 * r) (t₂ := t₀ + 51 * (q + 1) + 3 * r) hb hb2 ?_ ?_ ?_ (entsFrom_int _ _ _) ?_ ?_ ?_ _)
    · intro e
      have := congrArg List.length e
      rw [entsFrom_length, List.length_take, List.length_nil] at this
      exact min_zero (a := 17 * q + 16) (by rw [hD]; exact Nat.le_add_right _ _) this
    · rw [entsFrom_length, List.length_take]; exact Nat.le_trans (Nat.min_le_right ..) (Nat.le_trans hl (by decide))
    · rw [entsFrom_length, hds]; omega
    · rw [List.map_append, entsFrom_hash, entsFrom_hash, ← List.map_append, List.take_append_drop]; exact hg.1
    · intro n Q hQ
      refine ev_subShort (S := S) hb (hi.drop _) (good_sub (List.drop_sublist _ _) hg) (by rw [hds]; exact h15) ?_
      intro m hm
      rw [hds] at hm ⊢
      rw [show t₀ + 51 * (q + 1) + 2 * r + r = t₀ + 51 * (q + 1) + 3 * r by omega]
      exact hQ m (by omega)
    · intro m hm
      rw [entsFrom_length, hds] at hm
      exact ev_pure (hQ m (cnt_end hk hD hm))
  · rintro x rest st k s' ⟨i, hil, hr, rfl, hk, rfl⟩
    have hlt : i < its.length := by
      rcases Nat.lt_or_ge i its.length with z | z
      · exact z
      · rw [List.drop_eq_nil_of_le (by simpa using z)] at hr; cases hr
    rw [List.drop_eq_getElem_cons (by simpa using hlt)] at hr
    injection hr with hx hr
    rw [List.getElem_map] at hx
    subst hx hr
    dsimp only
    have hrun : (its.drop (17 * (i / 17))).take (i % 17) ++ [(its[i].1, its[i].2)] = (its.drop (17 * (i / 17))).take (i % 17 + 1) := by
      rw [List.take_add_one, List.getElem?_drop, show 17 * (i / 17) + i % 17 = i by omega, List.getElem?_eq_getElem hlt]
      rfl
    rw [hrun]
    have hrl : ((its.drop (17 * (i / 17))).take (i % 17 + 1)).length = i % 17 + 1 := by
      rw [List.length_take, List.length_drop]; exact dv_part hlt
    rw [hrl]
    by_cases h17 : i % 17 + 1 = 17
    · rw [h17]
      rw [if_pos (by rfl)]
      have hne : ((its.drop (17 * (i / 17))).take 17).isEmpty = false := by
        cases e : (its.drop (17 * (i / 17))).take 17 with
        | nil => rw [h17] at hrl; rw [e] at hrl; cases hrl
        | cons => rfl
      rw [hne, if_neg Bool.false_ne_true]
      have hds : ((D.drop (17 * (i / 17))).take 17).length = 17 := by rw [List.length_take, List.length_drop]; exact dv_full (hlen ▸ hlt) h17
      obtain ⟨hm1, hr1⟩ := dv_next h17
      refine ev_bind ?_
      have hits := (hi.drop (17 * (i / 17))).take 17
      cases hq : i / 17 with
      | zero =>
        rw [hq] at hits hds hk
        dsimp only [mainOf]
        refine ev_bind (ev_subLong (S := S) (A := []) hb hits (good_sub ((List.take_sublist _ _).trans (List.drop_sublist _ _)) hg) (by omega) (by omega) ?_)
        intro m hm
        rw [hds] at hm ⊢
        refine ev_pure (ev_pure ⟨i + 1, hlt, rfl, ?_, by rw [hm1, hq]; exact cnt_zero hk hm, ?_⟩)
        · rw [hm1, hr1, hq, List.take_zero]; rfl
        · rw [hm1, hq]; rfl
      | succ m₀ =>
        rw [hq] at hits hds hm1 hk
        have hle : 17 * (m₀ + 1) ≤ D.length := dv_le (hlen ▸ hlt) hq
        dsimp only [mainOf]
        refine ev_next (M := (List.range m₀).map (subOb t₀ D)) (E := entsFrom t₀ 3 (D.take (17 * (m₀ + 1)))) (B := entsFrom (t₀ + 51 * (m₀ + 1)) 3 ((D.drop (17 * (m₀ + 1))).take 17)) (c := 2 + 13 * 17) (t₂ := t₀ + 51 * (m₀ + 1) + 51) hb hb2 ?_ ?_ ?_ (entsFrom_int _ _ _) ?_ ?_ ?_ _
        · intro e
          have := congrArg List.length e
          rw [entsFrom_length, List.length_take, List.length_nil] at this
          exact min_zero (a := 17 * m₀ + 16) hle this
        · rw [entsFrom_length, List.length_take]; exact Nat.le_trans (Nat.min_le_right ..) (Nat.le_trans hl (by decide))
        · rw [entsFrom_length, hds]; omega
        · rw [List.map_append, entsFrom_hash, entsFrom_hash, ← List.map_append, take_drop_app]; exact (good_sub (List.take_sublist _ _) hg).1
        · intro n Q hQ
          refine ev_subLong (S := S) hb hits (good_sub ((List.take_sublist _ _).trans (List.drop_sublist _ _)) hg) (by omega) (by omega) ?_
          intro m hm
          rw [hds] at hm ⊢
          exact hQ m (by omega)
        · intro m hm
          rw [entsFrom_length, hds] at hm
          refine ev_pure ⟨i + 1, hlt, rfl, ?_, by rw [hm1]; exact cnt_next hk hm, ?_⟩
          · rw [hm1, hr1, List.take_zero]
          · rw [hm1]
            have e1 : entsFrom t₀ 3 (D.take (17 * (m₀ + 1))) ++ entsFrom (t₀ + 51 * (m₀ + 1)) 3 ((D.drop (17 * (m₀ + 1))).take 17) = entsFrom t₀ 3 (D.take (17 * (m₀ + 1 + 1))) := by
              have := entsFrom_app 3 (D.take (17 * (m₀ + 1))) ((D.drop (17 * (m₀ + 1))).take 17) t₀
              rw [take_drop_app, List.length_take, Nat.min_eq_left hle] at this
              rw [show 17 * (m₀ + 1 + 1) = 17 * (m₀ + 1) + 17 by omega, this, show t₀ + 3 * (17 * (m₀ + 1)) = t₀ + 51 * (m₀ + 1) by omega]
            rw [e1, show t₀ + 51 * (m₀ + 1) + 51 = t₀ + 51 * (m₀ + 1 + 1) by omega]
            have e2 : (List.range m₀).map (subOb t₀ D) ++ [dictOb (entsFrom (t₀ + 51 * (m₀ + 1)) 3 ((D.drop (17 * (m₀ + 1))).take 17))] = (List.range (m₀ + 1)).map (subOb t₀ D) := by
              rw [List.range_succ, List.map_append]; rfl
            rw [List.cons_append, e2]
            rfl
    · rw [if_neg (by simpa using h17)]
      obtain ⟨s1, s2⟩ := dv_same h17
      refine ev_pure ⟨i + 1, hlt, rfl, ?_, by rw [s1]; exact hk, ?_⟩
      · rw [s1, s2]
      · rw [s1]
  · exact ⟨0, Nat.zero_le _, rfl, rfl, Nat.le_refl _, rfl⟩
/-- the same, closed to the eye -/
@[irreducible] noncomputable def EvI {α : Type} (p : Program) (w : World) (n₀ : Nat) (ann : Option Value) (t : Sem α) (Q : Nat → α → Shared → Prop) (n : Nat) (s : Shared) : Prop := Ev p w n₀ ann t Q n s
theorem EvI.mk {α : Type} {t : Sem α} {Q : Nat → α → Shared → Prop} (h : Ev p w n₀ ann t Q n s) : EvI p w n₀ ann t Q n s := by unfold EvI; exact h
theorem EvI.out {α : Type} {t : Sem α} {Q : Nat → α → Shared → Prop} (h : EvI p w n₀ ann t Q n s) : Ev p w n₀ ann t Q n s := by unfold EvI at h; exact h
theorem evI_display {base : List Obj} {its : List (Sem Value × Sem Value)} {D : List (Int × PySem.Str)} {S : Shared} {t₀ q r : Nat} {Q : Nat → Value → Shared → Prop} (hb : n₀ ≤ base.length) (hb2 : 2 ≤ base.length) (hi : Items p w n₀ ann its D) (hg : GoodKeys (D.map (·.1))) (hl : D.length ≤ 1000)
    (hD : D.length = 17 * (q + 1) + r) (h0 : 0 < r) (h15 : r ≤ 15)
    (hQ : ∀ m, m ≤ n + 40 * D.length + 600 → Q m (.ref base.length) { S with heap := HL base (dictOb (entsFrom t₀ 3 (D.take (17 * (q + 1))) ++ entsFrom (t₀ + 51 * (q + 1)) 2 (D.drop (17 * (q + 1)))) :: (List.range q).map (subOb t₀ D) ++ [dictOb (entsFrom (t₀ + 51 * (q + 1)) 2 (D.drop (17 * (q + 1))))]), toks := t₀ + 51 * (q + 1) + 3 * r }) :
    EvI p w n₀ ann (dictDisplay (its.map fun q => (some q.1, q.2))) Q n { S with heap := HL base [], toks := t₀ } := .mk (ev_display hb hb2 hi hg hl hD h0 h15 hQ)
theorem evI_at2 {α : Type} {t : Sem α} {q₁ q₂ : Pos} {Q : Nat → α → Shared → Prop} (h : EvI p w n₀ ann t Q (n + 2) s) : EvI p w n₀ ann (Sem.at q₁ fun _ => Sem.at q₂ fun _ => t) Q n s := by
  unfold EvI at h ⊢
  exact h
theorem evI_sound {α : Type} (K : α → Sem Fin) (H : Value → Sem Fin) (code : Code) (fr : Frame) (t : Sem α) (Q : Nat → α → Shared → Prop) (pos : Pos) (h : EvI p w n₀ ann t Q n s) :
    ∃ d a s' pos', Q (n + d) a s' ∧ segGo treeTable p w n₀ ann 1 d s ⟨t.wrap K H id id, code, pos, [fr]⟩ = some (s', ⟨K a, code, pos', [fr]⟩) :=
  ev_sound K H id id code [fr] (by simp) t Q n s pos h.out
end
end
end
section
section
open PySem PySem.W PySem.Calls PyProof.Rows
/-- a table's data, where all is written -/
noncomputable def dataOf : List (Option PySem.Expr) → List PySem.Expr → List (Int × PySem.Str)
  | some (.Constant (.int i) _ _) :: ks, .Constant (.str x) _ _ :: vs => (i, x) :: dataOf ks vs
  | _, _ => []
end
section
open PySem PySem.W PySem.Calls PyProof.Rows
noncomputable abbrev pw : Program := PySem.Challenge.pw_wf0060_01
noncomputable def q0 : Pos := ⟨0, 0, 0, 0⟩
noncomputable def noStmt : Stmt := .Pass q0
noncomputable def st (i : Nat) : Stmt := pw.main.body.getD i noStmt
noncomputable def clsBody : Stmt → List Stmt
  | .ClassDef _ _ _ b _ _ _ _ _ _ _ => b
  | _ => []
noncomputable def cst (i : Nat) : Stmt := (clsBody (st 8)).getD i noStmt
noncomputable def noArgs : Arguments := { posonlyargs := [], args := [], vararg := none, kwonlyargs := [], kw_defaults := [], kwarg := none, defaults := [] }
noncomputable def argsOf : Stmt → Arguments
  | .FunctionDef _ a _ _ _ _ _ _ _ _ => a
  | _ => noArgs
noncomputable def bodyOf : Stmt → List Stmt
  | .FunctionDef _ _ b _ _ _ _ _ _ _ => b
  | _ => []
noncomputable def scopeOf : Stmt → Scope
  | .FunctionDef _ _ _ _ _ _ s _ _ _ => s
  | _ => pw.main.scope

noncomputable def o11 (P : Params) : Obj := ⟨(.type "tuple"), none, (.seq #[] 0), #[]⟩
noncomputable def o13 (P : Params) : Obj := ⟨(.type "code"), none, (.fields #[(.str ⟨#[60,109,111,100,117,108,101,62]⟩ 182), (.str ⟨#[60,109,111,100,117,108,101,62]⟩ 183), (.str ⟨#[47,99,108,97,105,109,47,99,117,116,46,112,121]⟩ 184), (.int 1 0), (.int 0 0), (.int 0 0), (.int 0 0), (.int 0 0), (.ref 11), (.bool false), (.int 181 0), (.ref 12), .none, .none, .none, .none, (.int 185 0), (.int 1 0), (.str ⟨#[47,99,108,97,105,109,47,99,117,116,46,112,121]⟩ 186)]), #[]⟩
noncomputable def o14 (P : Params) : Obj := ⟨(.type "frame"), none, .plain, #[(some (.ref 13)), (some (.ref 3)), (some (.ref 3)), none, (some (.str ⟨#[95,95,109,97,105,110,95,95]⟩ 164)), none, (some (.ref 0))]⟩
noncomputable def o15 (P : Params) : Obj := ⟨(.type "tuple"), none, (.seq #[] 0), #[]⟩
noncomputable def o16 (P : Params) : Obj := ⟨.none, none, (.fields #[]), #[]⟩
noncomputable def o17 (P : Params) : Obj := ⟨(.type "tuple"), none, (.seq #[(.str ⟨#[107]⟩ 190)] 0), #[]⟩
noncomputable def o18 (P : Params) : Obj := ⟨(.type "tuple"), none, (.seq #[] 0), #[]⟩
noncomputable def o19 (P : Params) : Obj := ⟨.none, none, (.func { name := ⟨#[95,119,97,108,108]⟩, qualname := ⟨#[95,119,97,108,108]⟩, params := argsOf (st 0), body := .stmts (bodyOf (st 0)), scope := scopeOf (st 0), globals := 0, closure := [], defaults := .none, kwdefaults := .none, doc := .none, pyModule := .none, annotations := none, code := .none, closureTuple := .none, builtins := 0 }), #[]⟩
noncomputable def o20 (P : Params) : Obj := ⟨(.type "code"), none, (.fields #[(.str ⟨#[95,119,97,108,108]⟩ 187), (.str ⟨#[95,119,97,108,108]⟩ 188), (.str ⟨#[47,99,108,97,105,109,47,99,117,116,46,112,121]⟩ 189), (.int 1 0), (.int 1 0), (.int 0 0), (.int 0 0), (.int 3 0), (.ref 15), (.bool true), (.int 181 0), (.ref 16), .none, (.ref 17), (.ref 18), (.ref 19), (.int 191 0), (.int 1 0), (.str ⟨#[47,99,108,97,105,109,47,99,117,116,46,112,121]⟩ 192)]), #[]⟩
noncomputable def o21 (P : Params) : Obj := ⟨(.type "function"), none, (.func { name := ⟨#[95,119,97,108,108]⟩, qualname := ⟨#[95,119,97,108,108]⟩, params := argsOf (st 0), body := .stmts (bodyOf (st 0)), scope := scopeOf (st 0), globals := 3, closure := [], defaults := .none, kwdefaults := .none, doc := .none, pyModule := (.str ⟨#[95,95,109,97,105,110,95,95]⟩ 164), annotations := none, code := (.ref 20), closureTuple := .none, builtins := 0 }), #[]⟩
noncomputable def o22 (P : Params) : Obj := ⟨(.type "tuple"), none, (.seq #[] 0), #[]⟩
noncomputable def o23 (P : Params) : Obj := ⟨.none, none, (.fields #[]), #[]⟩
noncomputable def o24 (P : Params) : Obj := ⟨(.type "tuple"), none, (.seq #[(.str ⟨#[120]⟩ 203)] 0), #[]⟩
noncomputable def o25 (P : Params) : Obj := ⟨(.type "tuple"), none, (.seq #[] 0), #[]⟩
noncomputable def o26 (P : Params) : Obj := ⟨.none, none, (.func { name := ⟨#[73,83,84,69,82,77,73,78,65,76]⟩, qualname := ⟨#[73,83,84,69,82,77,73,78,65,76]⟩, params := argsOf (st 4), body := .stmts (bodyOf (st 4)), scope := scopeOf (st 4), globals := 0, closure := [], defaults := .none, kwdefaults := .none, doc := .none, pyModule := .none, annotations := none, code := .none, closureTuple := .none, builtins := 0 }), #[]⟩
noncomputable def o27 (P : Params) : Obj := ⟨(.type "code"), none, (.fields #[(.str ⟨#[73,83,84,69,82,77,73,78,65,76]⟩ 200), (.str ⟨#[73,83,84,69,82,77,73,78,65,76]⟩ 201), (.str ⟨#[47,99,108,97,105,109,47,99,117,116,46,112,121]⟩ 202), (.int 7 0), (.int 1 0), (.int 0 0), (.int 0 0), (.int 3 0), (.ref 22), (.bool true), (.int 181 0), (.ref 23), .none, (.ref 24), (.ref 25), (.ref 26), (.int 204 0), (.int 7 0), (.str ⟨#[47,99,108,97,105,109,47,99,117,116,46,112,121]⟩ 205)]), #[]⟩
noncomputable def o28 (P : Params) : Obj := ⟨(.type "function"), none, (.func { name := ⟨#[73,83,84,69,82,77,73,78,65,76]⟩, qualname := ⟨#[73,83,84,69,82,77,73,78,65,76]⟩, params := argsOf (st 4), body := .stmts (bodyOf (st 4)), scope := scopeOf (st 4), globals := 3, closure := [], defaults := .none, kwdefaults := .none, doc := .none, pyModule := (.str ⟨#[99,112,121,51,49,51,46,116,111,107,101,110]⟩ 194), annotations := none, code := (.ref 27), closureTuple := .none, builtins := 0 }), #[]⟩
noncomputable def o29 (P : Params) : Obj := ⟨(.type "tuple"), none, (.seq #[] 0), #[]⟩
noncomputable def o30 (P : Params) : Obj := ⟨.none, none, (.fields #[]), #[]⟩
noncomputable def o31 (P : Params) : Obj := ⟨(.type "tuple"), none, (.seq #[(.str ⟨#[120]⟩ 210)] 0), #[]⟩
noncomputable def o32 (P : Params) : Obj := ⟨(.type "tuple"), none, (.seq #[] 0), #[]⟩
noncomputable def o33 (P : Params) : Obj := ⟨.none, none, (.func { name := ⟨#[73,83,69,79,70]⟩, qualname := ⟨#[73,83,69,79,70]⟩, params := argsOf (st 5), body := .stmts (bodyOf (st 5)), scope := scopeOf (st 5), globals := 0, closure := [], defaults := .none, kwdefaults := .none, doc := .none, pyModule := .none, annotations := none, code := .none, closureTuple := .none, builtins := 0 }), #[]⟩
noncomputable def o34 (P : Params) : Obj := ⟨(.type "code"), none, (.fields #[(.str ⟨#[73,83,69,79,70]⟩ 207), (.str ⟨#[73,83,69,79,70]⟩ 208), (.str ⟨#[47,99,108,97,105,109,47,99,117,116,46,112,121]⟩ 209), (.int 9 0), (.int 1 0), (.int 0 0), (.int 0 0), (.int 3 0), (.ref 29), (.bool true), (.int 181 0), (.ref 30), .none, (.ref 31), (.ref 32), (.ref 33), (.int 211 0), (.int 9 0), (.str ⟨#[47,99,108,97,105,109,47,99,117,116,46,112,121]⟩ 212)]), #[]⟩
noncomputable def o35 (P : Params) : Obj := ⟨(.type "function"), none, (.func { name := ⟨#[73,83,69,79,70]⟩, qualname := ⟨#[73,83,69,79,70]⟩, params := argsOf (st 5), body := .stmts (bodyOf (st 5)), scope := scopeOf (st 5), globals := 3, closure := [], defaults := .none, kwdefaults := .none, doc := .none, pyModule := (.str ⟨#[99,112,121,51,49,51,46,116,111,107,101,110]⟩ 194), annotations := none, code := (.ref 34), closureTuple := .none, builtins := 0 }), #[]⟩
noncomputable def o36 (P : Params) : Obj := ⟨(.type "tuple"), none, (.seq #[(.type "list")] 0), #[]⟩
noncomputable def o37 (P : Params) : Obj := ⟨(.type "builtin_function_or_method"), none, (.fields #[(.builtin "type.__prepare__"), (.type "type")]), #[]⟩
noncomputable def o38 (P : Params) : Obj := ⟨(.type "dict"), none, (.dict #[⟨PyData.keyHash P ⟨#[95,95,109,111,100,117,108,101,95,95]⟩, (.str ⟨#[95,95,109,111,100,117,108,101,95,95]⟩ 225), (.str ⟨#[99,112,121,51,49,51,46,101,109,97,105,108,46,104,101,97,100,101,114]⟩ 214)⟩, ⟨PyData.keyHash P ⟨#[95,95,113,117,97,108,110,97,109,101,95,95]⟩, (.str ⟨#[95,95,113,117,97,108,110,97,109,101,95,95]⟩ 227), (.str ⟨#[95,65,99,99,117,109,117,108,97,116,111,114]⟩ 226)⟩, ⟨PyData.keyHash P ⟨#[95,95,102,105,114,115,116,108,105,110,101,110,111,95,95]⟩, (.str ⟨#[95,95,102,105,114,115,116,108,105,110,101,110,111,95,95]⟩ 229), (.int 13 228)⟩, ⟨PyData.keyHash P ⟨#[95,95,105,110,105,116,95,95]⟩, (.str ⟨#[95,95,105,110,105,116,95,95]⟩ 239), (.ref 52)⟩, ⟨PyData.keyHash P ⟨#[112,117,115,104]⟩, (.str ⟨#[112,117,115,104]⟩ 248), (.ref 59)⟩, ⟨PyData.keyHash P ⟨#[112,111,112,95,102,114,111,109]⟩, (.str ⟨#[112,111,112,95,102,114,111,109]⟩ 257), (.ref 67)⟩, ⟨PyData.keyHash P ⟨#[112,111,112]⟩, (.str ⟨#[112,111,112]⟩ 265), (.ref 75)⟩, ⟨PyData.keyHash P ⟨#[95,95,108,101,110,95,95]⟩, (.str ⟨#[95,95,108,101,110,95,95]⟩ 272), (.ref 82)⟩, ⟨PyData.keyHash P ⟨#[95,95,115,116,114,95,95]⟩, (.str ⟨#[95,95,115,116,114,95,95]⟩ 279), (.ref 89)⟩, ⟨PyData.keyHash P ⟨#[114,101,115,101,116]⟩, (.str ⟨#[114,101,115,101,116]⟩ 287), (.ref 97)⟩, ⟨PyData.keyHash P ⟨#[105,115,95,111,110,108,121,119,115]⟩, (.str ⟨#[105,115,95,111,110,108,121,119,115]⟩ 294), (.ref 104)⟩, ⟨PyData.keyHash P ⟨#[112,97,114,116,95,99,111,117,110,116]⟩, (.str ⟨#[112,97,114,116,95,99,111,117,110,116]⟩ 302), (.ref 112)⟩, ⟨PyData.keyHash P ⟨#[95,95,115,116,97,116,105,99,95,97,116,116,114,105,98,117,116,101,115,95,95]⟩, (.str ⟨#[95,95,115,116,97,116,105,99,95,97,116,116,114,105,98,117,116,101,115,95,95]⟩ 304), (.ref 113)⟩, ⟨PyData.keyHash P ⟨#[95,95,99,108,97,115,115,99,101,108,108,95,95]⟩, (.str ⟨#[95,95,99,108,97,115,115,99,101,108,108,95,95]⟩ 305), (.ref 39)⟩] 14), #[]⟩
noncomputable def o39 (P : Params) : Obj := ⟨(.type "cell"), none, (.cell (some (.ref 115))), #[]⟩
noncomputable def o40 (P : Params) : Obj := ⟨(.type "tuple"), none, (.seq #[] 0), #[]⟩
noncomputable def o41 (P : Params) : Obj := ⟨.none, none, (.fields #[(.int 15 0), (.int 4 0), (.ref 51), (.int 19 0), (.int 4 0), (.ref 58), (.int 22 0), (.int 4 0), (.ref 66), (.int 25 0), (.int 4 0), (.ref 74), (.int 30 0), (.int 4 0), (.ref 81), (.int 33 0), (.int 4 0), (.ref 88), (.int 36 0), (.int 4 0), (.ref 96), (.int 39 0), (.int 4 0), (.ref 103), (.int 42 0), (.int 4 0), (.ref 111)]), #[]⟩
noncomputable def o42 (P : Params) : Obj := ⟨(.type "code"), none, (.fields #[(.str ⟨#[95,65,99,99,117,109,117,108,97,116,111,114]⟩ 220), (.str ⟨#[95,65,99,99,117,109,117,108,97,116,111,114]⟩ 221), (.str ⟨#[47,99,108,97,105,109,47,99,117,116,46,112,121]⟩ 222), (.int 13 0), (.int 0 0), (.int 0 0), (.int 0 0), (.int 0 0), (.ref 40), (.bool false), (.int 181 0), (.ref 41), .none, .none, .none, .none, (.int 223 0), (.int 13 0), (.str ⟨#[47,99,108,97,105,109,47,99,117,116,46,112,121]⟩ 224)]), #[]⟩
noncomputable def o43 (P : Params) : Obj := ⟨(.type "frame"), none, .plain, #[(some (.ref 42)), (some (.ref 3)), (some (.ref 38)), none, (some (.str ⟨#[99,112,121,51,49,51,46,101,109,97,105,108,46,104,101,97,100,101,114]⟩ 214)), none, (some (.ref 0))]⟩
noncomputable def o44 (P : Params) : Obj := ⟨(.type "tuple"), none, (.seq #[(.int 0 230)] 0), #[]⟩
noncomputable def o45 (P : Params) : Obj := ⟨(.type "tuple"), none, (.seq #[(.ref 39)] 0), #[]⟩
noncomputable def o46 (P : Params) : Obj := ⟨(.type "tuple"), none, (.seq #[(.str ⟨#[95,95,99,108,97,115,115,95,95]⟩ 234)] 0), #[]⟩
noncomputable def o47 (P : Params) : Obj := ⟨.none, none, (.fields #[]), #[]⟩
noncomputable def o48 (P : Params) : Obj := ⟨(.type "tuple"), none, (.seq #[(.str ⟨#[115,101,108,102]⟩ 235), (.str ⟨#[105,110,105,116,105,97,108,95,115,105,122,101]⟩ 236)] 0), #[]⟩
noncomputable def o49 (P : Params) : Obj := ⟨(.type "tuple"), none, (.seq #[] 0), #[]⟩
noncomputable def o50 (P : Params) : Obj := ⟨.none, none, (.func { name := ⟨#[95,95,105,110,105,116,95,95]⟩, qualname := ⟨#[95,65,99,99,117,109,117,108,97,116,111,114,46,95,95,105,110,105,116,95,95]⟩, params := argsOf (cst 0), body := .stmts (bodyOf (cst 0)), scope := scopeOf (cst 0), globals := 0, closure := [], defaults := .none, kwdefaults := .none, doc := .none, pyModule := .none, annotations := none, code := .none, closureTuple := .none, builtins := 0 }), #[]⟩
noncomputable def o51 (P : Params) : Obj := ⟨(.type "code"), none, (.fields #[(.str ⟨#[95,95,105,110,105,116,95,95]⟩ 231), (.str ⟨#[95,65,99,99,117,109,117,108,97,116,111,114,46,95,95,105,110,105,116,95,95]⟩ 232), (.str ⟨#[47,99,108,97,105,109,47,99,117,116,46,112,121]⟩ 233), (.int 15 0), (.int 2 0), (.int 0 0), (.int 0 0), (.int 3 0), (.ref 46), (.bool true), (.int 181 0), (.ref 47), .none, (.ref 48), (.ref 49), (.ref 50), (.int 237 0), (.int 15 0), (.str ⟨#[47,99,108,97,105,109,47,99,117,116,46,112,121]⟩ 238)]), #[]⟩
noncomputable def o52 (P : Params) : Obj := ⟨(.type "function"), none, (.func { name := ⟨#[95,95,105,110,105,116,95,95]⟩, qualname := ⟨#[95,65,99,99,117,109,117,108,97,116,111,114,46,95,95,105,110,105,116,95,95]⟩, params := argsOf (cst 0), body := .stmts (bodyOf (cst 0)), scope := scopeOf (cst 0), globals := 3, closure := [(⟨#[95,95,99,108,97,115,115,95,95]⟩, 39)], defaults := (.ref 44), kwdefaults := .none, doc := .none, pyModule := (.str ⟨#[99,112,121,51,49,51,46,101,109,97,105,108,46,104,101,97,100,101,114]⟩ 214), annotations := none, code := (.ref 51), closureTuple := (.ref 45), builtins := 0 }), #[]⟩
noncomputable def o53 (P : Params) : Obj := ⟨(.type "tuple"), none, (.seq #[] 0), #[]⟩
noncomputable def o54 (P : Params) : Obj := ⟨.none, none, (.fields #[]), #[]⟩
noncomputable def o55 (P : Params) : Obj := ⟨(.type "tuple"), none, (.seq #[(.str ⟨#[115,101,108,102]⟩ 243), (.str ⟨#[102,119,115]⟩ 244), (.str ⟨#[115,116,114,105,110,103]⟩ 245)] 0), #[]⟩
noncomputable def o56 (P : Params) : Obj := ⟨(.type "tuple"), none, (.seq #[] 0), #[]⟩
noncomputable def o57 (P : Params) : Obj := ⟨.none, none, (.func { name := ⟨#[112,117,115,104]⟩, qualname := ⟨#[95,65,99,99,117,109,117,108,97,116,111,114,46,112,117,115,104]⟩, params := argsOf (cst 1), body := .stmts (bodyOf (cst 1)), scope := scopeOf (cst 1), globals := 0, closure := [], defaults := .none, kwdefaults := .none, doc := .none, pyModule := .none, annotations := none, code := .none, closureTuple := .none, builtins := 0 }), #[]⟩
noncomputable def o58 (P : Params) : Obj := ⟨(.type "code"), none, (.fields #[(.str ⟨#[112,117,115,104]⟩ 240), (.str ⟨#[95,65,99,99,117,109,117,108,97,116,111,114,46,112,117,115,104]⟩ 241), (.str ⟨#[47,99,108,97,105,109,47,99,117,116,46,112,121]⟩ 242), (.int 19 0), (.int 3 0), (.int 0 0), (.int 0 0), (.int 3 0), (.ref 53), (.bool true), (.int 181 0), (.ref 54), .none, (.ref 55), (.ref 56), (.ref 57), (.int 246 0), (.int 19 0), (.str ⟨#[47,99,108,97,105,109,47,99,117,116,46,112,121]⟩ 247)]), #[]⟩
noncomputable def o59 (P : Params) : Obj := ⟨(.type "function"), none, (.func { name := ⟨#[112,117,115,104]⟩, qualname := ⟨#[95,65,99,99,117,109,117,108,97,116,111,114,46,112,117,115,104]⟩, params := argsOf (cst 1), body := .stmts (bodyOf (cst 1)), scope := scopeOf (cst 1), globals := 3, closure := [], defaults := .none, kwdefaults := .none, doc := .none, pyModule := (.str ⟨#[99,112,121,51,49,51,46,101,109,97,105,108,46,104,101,97,100,101,114]⟩ 214), annotations := none, code := (.ref 58), closureTuple := .none, builtins := 0 }), #[]⟩
noncomputable def o60 (P : Params) : Obj := ⟨(.type "tuple"), none, (.seq #[(.int 0 249)] 0), #[]⟩
noncomputable def o61 (P : Params) : Obj := ⟨(.type "tuple"), none, (.seq #[] 0), #[]⟩
noncomputable def o62 (P : Params) : Obj := ⟨.none, none, (.fields #[]), #[]⟩
noncomputable def o63 (P : Params) : Obj := ⟨(.type "tuple"), none, (.seq #[(.str ⟨#[115,101,108,102]⟩ 253), (.str ⟨#[105]⟩ 254)] 0), #[]⟩
noncomputable def o64 (P : Params) : Obj := ⟨(.type "tuple"), none, (.seq #[] 0), #[]⟩
noncomputable def o65 (P : Params) : Obj := ⟨.none, none, (.func { name := ⟨#[112,111,112,95,102,114,111,109]⟩, qualname := ⟨#[95,65,99,99,117,109,117,108,97,116,111,114,46,112,111,112,95,102,114,111,109]⟩, params := argsOf (cst 2), body := .stmts (bodyOf (cst 2)), scope := scopeOf (cst 2), globals := 0, closure := [], defaults := .none, kwdefaults := .none, doc := .none, pyModule := .none, annotations := none, code := .none, closureTuple := .none, builtins := 0 }), #[]⟩
noncomputable def o66 (P : Params) : Obj := ⟨(.type "code"), none, (.fields #[(.str ⟨#[112,111,112,95,102,114,111,109]⟩ 250), (.str ⟨#[95,65,99,99,117,109,117,108,97,116,111,114,46,112,111,112,95,102,114,111,109]⟩ 251), (.str ⟨#[47,99,108,97,105,109,47,99,117,116,46,112,121]⟩ 252), (.int 22 0), (.int 2 0), (.int 0 0), (.int 0 0), (.int 3 0), (.ref 61), (.bool true), (.int 181 0), (.ref 62), .none, (.ref 63), (.ref 64), (.ref 65), (.int 255 0), (.int 22 0), (.str ⟨#[47,99,108,97,105,109,47,99,117,116,46,112,121]⟩ 256)]), #[]⟩
noncomputable def o67 (P : Params) : Obj := ⟨(.type "function"), none, (.func { name := ⟨#[112,111,112,95,102,114,111,109]⟩, qualname := ⟨#[95,65,99,99,117,109,117,108,97,116,111,114,46,112,111,112,95,102,114,111,109]⟩, params := argsOf (cst 2), body := .stmts (bodyOf (cst 2)), scope := scopeOf (cst 2), globals := 3, closure := [], defaults := (.ref 60), kwdefaults := .none, doc := .none, pyModule := (.str ⟨#[99,112,121,51,49,51,46,101,109,97,105,108,46,104,101,97,100,101,114]⟩ 214), annotations := none, code := (.ref 66), closureTuple := .none, builtins := 0 }), #[]⟩
noncomputable def o68 (P : Params) : Obj := ⟨(.type "tuple"), none, (.seq #[(.ref 39)] 0), #[]⟩
noncomputable def o69 (P : Params) : Obj := ⟨(.type "tuple"), none, (.seq #[(.str ⟨#[95,95,99,108,97,115,115,95,95]⟩ 261)] 0), #[]⟩
noncomputable def o70 (P : Params) : Obj := ⟨.none, none, (.fields #[]), #[]⟩
noncomputable def o71 (P : Params) : Obj := ⟨(.type "tuple"), none, (.seq #[(.str ⟨#[115,101,108,102]⟩ 262)] 0), #[]⟩
noncomputable def o72 (P : Params) : Obj := ⟨(.type "tuple"), none, (.seq #[] 0), #[]⟩
noncomputable def o73 (P : Params) : Obj := ⟨.none, none, (.func { name := ⟨#[112,111,112]⟩, qualname := ⟨#[95,65,99,99,117,109,117,108,97,116,111,114,46,112,111,112]⟩, params := argsOf (cst 3), body := .stmts (bodyOf (cst 3)), scope := scopeOf (cst 3), globals := 0, closure := [], defaults := .none, kwdefaults := .none, doc := .none, pyModule := .none, annotations := none, code := .none, closureTuple := .none, builtins := 0 }), #[]⟩
noncomputable def o74 (P : Params) : Obj := ⟨(.type "code"), none, (.fields #[(.str ⟨#[112,111,112]⟩ 258), (.str ⟨#[95,65,99,99,117,109,117,108,97,116,111,114,46,112,111,112]⟩ 259), (.str ⟨#[47,99,108,97,105,109,47,99,117,116,46,112,121]⟩ 260), (.int 25 0), (.int 1 0), (.int 0 0), (.int 0 0), (.int 3 0), (.ref 69), (.bool true), (.int 181 0), (.ref 70), .none, (.ref 71), (.ref 72), (.ref 73), (.int 263 0), (.int 25 0), (.str ⟨#[47,99,108,97,105,109,47,99,117,116,46,112,121]⟩ 264)]), #[]⟩
noncomputable def o75 (P : Params) : Obj := ⟨(.type "function"), none, (.func { name := ⟨#[112,111,112]⟩, qualname := ⟨#[95,65,99,99,117,109,117,108,97,116,111,114,46,112,111,112]⟩, params := argsOf (cst 3), body := .stmts (bodyOf (cst 3)), scope := scopeOf (cst 3), globals := 3, closure := [(⟨#[95,95,99,108,97,115,115,95,95]⟩, 39)], defaults := .none, kwdefaults := .none, doc := .none, pyModule := (.str ⟨#[99,112,121,51,49,51,46,101,109,97,105,108,46,104,101,97,100,101,114]⟩ 214), annotations := none, code := (.ref 74), closureTuple := (.ref 68), builtins := 0 }), #[]⟩
noncomputable def o76 (P : Params) : Obj := ⟨(.type "tuple"), none, (.seq #[] 0), #[]⟩
noncomputable def o77 (P : Params) : Obj := ⟨.none, none, (.fields #[]), #[]⟩
noncomputable def o78 (P : Params) : Obj := ⟨(.type "tuple"), none, (.seq #[(.str ⟨#[115,101,108,102]⟩ 269)] 0), #[]⟩
noncomputable def o79 (P : Params) : Obj := ⟨(.type "tuple"), none, (.seq #[] 0), #[]⟩
noncomputable def o80 (P : Params) : Obj := ⟨.none, none, (.func { name := ⟨#[95,95,108,101,110,95,95]⟩, qualname := ⟨#[95,65,99,99,117,109,117,108,97,116,111,114,46,95,95,108,101,110,95,95]⟩, params := argsOf (cst 4), body := .stmts (bodyOf (cst 4)), scope := scopeOf (cst 4), globals := 0, closure := [], defaults := .none, kwdefaults := .none, doc := .none, pyModule := .none, annotations := none, code := .none, closureTuple := .none, builtins := 0 }), #[]⟩
noncomputable def o81 (P : Params) : Obj := ⟨(.type "code"), none, (.fields #[(.str ⟨#[95,95,108,101,110,95,95]⟩ 266), (.str ⟨#[95,65,99,99,117,109,117,108,97,116,111,114,46,95,95,108,101,110,95,95]⟩ 267), (.str ⟨#[47,99,108,97,105,109,47,99,117,116,46,112,121]⟩ 268), (.int 30 0), (.int 1 0), (.int 0 0), (.int 0 0), (.int 3 0), (.ref 76), (.bool true), (.int 181 0), (.ref 77), .none, (.ref 78), (.ref 79), (.ref 80), (.int 270 0), (.int 30 0), (.str ⟨#[47,99,108,97,105,109,47,99,117,116,46,112,121]⟩ 271)]), #[]⟩
noncomputable def o82 (P : Params) : Obj := ⟨(.type "function"), none, (.func { name := ⟨#[95,95,108,101,110,95,95]⟩, qualname := ⟨#[95,65,99,99,117,109,117,108,97,116,111,114,46,95,95,108,101,110,95,95]⟩, params := argsOf (cst 4), body := .stmts (bodyOf (cst 4)), scope := scopeOf (cst 4), globals := 3, closure := [], defaults := .none, kwdefaults := .none, doc := .none, pyModule := (.str ⟨#[99,112,121,51,49,51,46,101,109,97,105,108,46,104,101,97,100,101,114]⟩ 214), annotations := none, code := (.ref 81), closureTuple := .none, builtins := 0 }), #[]⟩
noncomputable def o83 (P : Params) : Obj := ⟨(.type "tuple"), none, (.seq #[] 0), #[]⟩
noncomputable def o84 (P : Params) : Obj := ⟨.none, none, (.fields #[]), #[]⟩
noncomputable def o85 (P : Params) : Obj := ⟨(.type "tuple"), none, (.seq #[(.str ⟨#[115,101,108,102]⟩ 276)] 0), #[]⟩
noncomputable def o86 (P : Params) : Obj := ⟨(.type "tuple"), none, (.seq #[] 0), #[]⟩
noncomputable def o87 (P : Params) : Obj := ⟨.none, none, (.func { name := ⟨#[95,95,115,116,114,95,95]⟩, qualname := ⟨#[95,65,99,99,117,109,117,108,97,116,111,114,46,95,95,115,116,114,95,95]⟩, params := argsOf (cst 5), body := .stmts (bodyOf (cst 5)), scope := scopeOf (cst 5), globals := 0, closure := [], defaults := .none, kwdefaults := .none, doc := .none, pyModule := .none, annotations := none, code := .none, closureTuple := .none, builtins := 0 }), #[]⟩
noncomputable def o88 (P : Params) : Obj := ⟨(.type "code"), none, (.fields #[(.str ⟨#[95,95,115,116,114,95,95]⟩ 273), (.str ⟨#[95,65,99,99,117,109,117,108,97,116,111,114,46,95,95,115,116,114,95,95]⟩ 274), (.str ⟨#[47,99,108,97,105,109,47,99,117,116,46,112,121]⟩ 275), (.int 33 0), (.int 1 0), (.int 0 0), (.int 0 0), (.int 3 0), (.ref 83), (.bool true), (.int 181 0), (.ref 84), .none, (.ref 85), (.ref 86), (.ref 87), (.int 277 0), (.int 33 0), (.str ⟨#[47,99,108,97,105,109,47,99,117,116,46,112,121]⟩ 278)]), #[]⟩
noncomputable def o89 (P : Params) : Obj := ⟨(.type "function"), none, (.func { name := ⟨#[95,95,115,116,114,95,95]⟩, qualname := ⟨#[95,65,99,99,117,109,117,108,97,116,111,114,46,95,95,115,116,114,95,95]⟩, params := argsOf (cst 5), body := .stmts (bodyOf (cst 5)), scope := scopeOf (cst 5), globals := 3, closure := [], defaults := .none, kwdefaults := .none, doc := .none, pyModule := (.str ⟨#[99,112,121,51,49,51,46,101,109,97,105,108,46,104,101,97,100,101,114]⟩ 214), annotations := none, code := (.ref 88), closureTuple := .none, builtins := 0 }), #[]⟩
noncomputable def o90 (P : Params) : Obj := ⟨(.type "tuple"), none, (.seq #[.none] 0), #[]⟩
noncomputable def o91 (P : Params) : Obj := ⟨(.type "tuple"), none, (.seq #[] 0), #[]⟩
noncomputable def o92 (P : Params) : Obj := ⟨.none, none, (.fields #[]), #[]⟩
noncomputable def o93 (P : Params) : Obj := ⟨(.type "tuple"), none, (.seq #[(.str ⟨#[115,101,108,102]⟩ 283), (.str ⟨#[115,116,97,114,116,118,97,108]⟩ 284)] 0), #[]⟩
noncomputable def o94 (P : Params) : Obj := ⟨(.type "tuple"), none, (.seq #[] 0), #[]⟩
noncomputable def o95 (P : Params) : Obj := ⟨.none, none, (.func { name := ⟨#[114,101,115,101,116]⟩, qualname := ⟨#[95,65,99,99,117,109,117,108,97,116,111,114,46,114,101,115,101,116]⟩, params := argsOf (cst 6), body := .stmts (bodyOf (cst 6)), scope := scopeOf (cst 6), globals := 0, closure := [], defaults := .none, kwdefaults := .none, doc := .none, pyModule := .none, annotations := none, code := .none, closureTuple := .none, builtins := 0 }), #[]⟩
noncomputable def o96 (P : Params) : Obj := ⟨(.type "code"), none, (.fields #[(.str ⟨#[114,101,115,101,116]⟩ 280), (.str ⟨#[95,65,99,99,117,109,117,108,97,116,111,114,46,114,101,115,101,116]⟩ 281), (.str ⟨#[47,99,108,97,105,109,47,99,117,116,46,112,121]⟩ 282), (.int 36 0), (.int 2 0), (.int 0 0), (.int 0 0), (.int 3 0), (.ref 91), (.bool true), (.int 181 0), (.ref 92), .none, (.ref 93), (.ref 94), (.ref 95), (.int 285 0), (.int 36 0), (.str ⟨#[47,99,108,97,105,109,47,99,117,116,46,112,121]⟩ 286)]), #[]⟩
noncomputable def o97 (P : Params) : Obj := ⟨(.type "function"), none, (.func { name := ⟨#[114,101,115,101,116]⟩, qualname := ⟨#[95,65,99,99,117,109,117,108,97,116,111,114,46,114,101,115,101,116]⟩, params := argsOf (cst 6), body := .stmts (bodyOf (cst 6)), scope := scopeOf (cst 6), globals := 3, closure := [], defaults := (.ref 90), kwdefaults := .none, doc := .none, pyModule := (.str ⟨#[99,112,121,51,49,51,46,101,109,97,105,108,46,104,101,97,100,101,114]⟩ 214), annotations := none, code := (.ref 96), closureTuple := .none, builtins := 0 }), #[]⟩
noncomputable def o98 (P : Params) : Obj := ⟨(.type "tuple"), none, (.seq #[] 0), #[]⟩
noncomputable def o99 (P : Params) : Obj := ⟨.none, none, (.fields #[]), #[]⟩
noncomputable def o100 (P : Params) : Obj := ⟨(.type "tuple"), none, (.seq #[(.str ⟨#[115,101,108,102]⟩ 291)] 0), #[]⟩
noncomputable def o101 (P : Params) : Obj := ⟨(.type "tuple"), none, (.seq #[] 0), #[]⟩
noncomputable def o102 (P : Params) : Obj := ⟨.none, none, (.func { name := ⟨#[105,115,95,111,110,108,121,119,115]⟩, qualname := ⟨#[95,65,99,99,117,109,117,108,97,116,111,114,46,105,115,95,111,110,108,121,119,115]⟩, params := argsOf (cst 7), body := .stmts (bodyOf (cst 7)), scope := scopeOf (cst 7), globals := 0, closure := [], defaults := .none, kwdefaults := .none, doc := .none, pyModule := .none, annotations := none, code := .none, closureTuple := .none, builtins := 0 }), #[]⟩
noncomputable def o103 (P : Params) : Obj := ⟨(.type "code"), none, (.fields #[(.str ⟨#[105,115,95,111,110,108,121,119,115]⟩ 288), (.str ⟨#[95,65,99,99,117,109,117,108,97,116,111,114,46,105,115,95,111,110,108,121,119,115]⟩ 289), (.str ⟨#[47,99,108,97,105,109,47,99,117,116,46,112,121]⟩ 290), (.int 39 0), (.int 1 0), (.int 0 0), (.int 0 0), (.int 3 0), (.ref 98), (.bool true), (.int 181 0), (.ref 99), .none, (.ref 100), (.ref 101), (.ref 102), (.int 292 0), (.int 39 0), (.str ⟨#[47,99,108,97,105,109,47,99,117,116,46,112,121]⟩ 293)]), #[]⟩
noncomputable def o104 (P : Params) : Obj := ⟨(.type "function"), none, (.func { name := ⟨#[105,115,95,111,110,108,121,119,115]⟩, qualname := ⟨#[95,65,99,99,117,109,117,108,97,116,111,114,46,105,115,95,111,110,108,121,119,115]⟩, params := argsOf (cst 7), body := .stmts (bodyOf (cst 7)), scope := scopeOf (cst 7), globals := 3, closure := [], defaults := .none, kwdefaults := .none, doc := .none, pyModule := (.str ⟨#[99,112,121,51,49,51,46,101,109,97,105,108,46,104,101,97,100,101,114]⟩ 214), annotations := none, code := (.ref 103), closureTuple := .none, builtins := 0 }), #[]⟩
noncomputable def o105 (P : Params) : Obj := ⟨(.type "tuple"), none, (.seq #[(.ref 39)] 0), #[]⟩
noncomputable def o106 (P : Params) : Obj := ⟨(.type "tuple"), none, (.seq #[(.str ⟨#[95,95,99,108,97,115,115,95,95]⟩ 298)] 0), #[]⟩
noncomputable def o107 (P : Params) : Obj := ⟨.none, none, (.fields #[]), #[]⟩
noncomputable def o108 (P : Params) : Obj := ⟨(.type "tuple"), none, (.seq #[(.str ⟨#[115,101,108,102]⟩ 299)] 0), #[]⟩
noncomputable def o109 (P : Params) : Obj := ⟨(.type "tuple"), none, (.seq #[] 0), #[]⟩
noncomputable def o110 (P : Params) : Obj := ⟨.none, none, (.func { name := ⟨#[112,97,114,116,95,99,111,117,110,116]⟩, qualname := ⟨#[95,65,99,99,117,109,117,108,97,116,111,114,46,112,97,114,116,95,99,111,117,110,116]⟩, params := argsOf (cst 8), body := .stmts (bodyOf (cst 8)), scope := scopeOf (cst 8), globals := 0, closure := [], defaults := .none, kwdefaults := .none, doc := .none, pyModule := .none, annotations := none, code := .none, closureTuple := .none, builtins := 0 }), #[]⟩
noncomputable def o111 (P : Params) : Obj := ⟨(.type "code"), none, (.fields #[(.str ⟨#[112,97,114,116,95,99,111,117,110,116]⟩ 295), (.str ⟨#[95,65,99,99,117,109,117,108,97,116,111,114,46,112,97,114,116,95,99,111,117,110,116]⟩ 296), (.str ⟨#[47,99,108,97,105,109,47,99,117,116,46,112,121]⟩ 297), (.int 42 0), (.int 1 0), (.int 0 0), (.int 0 0), (.int 3 0), (.ref 106), (.bool true), (.int 181 0), (.ref 107), .none, (.ref 108), (.ref 109), (.ref 110), (.int 300 0), (.int 42 0), (.str ⟨#[47,99,108,97,105,109,47,99,117,116,46,112,121]⟩ 301)]), #[]⟩
noncomputable def o112 (P : Params) : Obj := ⟨(.type "function"), none, (.func { name := ⟨#[112,97,114,116,95,99,111,117,110,116]⟩, qualname := ⟨#[95,65,99,99,117,109,117,108,97,116,111,114,46,112,97,114,116,95,99,111,117,110,116]⟩, params := argsOf (cst 8), body := .stmts (bodyOf (cst 8)), scope := scopeOf (cst 8), globals := 3, closure := [(⟨#[95,95,99,108,97,115,115,95,95]⟩, 39)], defaults := .none, kwdefaults := .none, doc := .none, pyModule := (.str ⟨#[99,112,121,51,49,51,46,101,109,97,105,108,46,104,101,97,100,101,114]⟩ 214), annotations := none, code := (.ref 111), closureTuple := (.ref 105), builtins := 0 }), #[]⟩
noncomputable def o113 (P : Params) : Obj := ⟨(.type "tuple"), none, (.seq #[(.str ⟨#[95,105,110,105,116,105,97,108,95,115,105,122,101]⟩ 303)] 0), #[]⟩
noncomputable def o114 (P : Params) : Obj := ⟨(.type "dict"), none, (.dict #[⟨PyData.keyHash P ⟨#[95,95,109,111,100,117,108,101,95,95]⟩, (.str ⟨#[95,95,109,111,100,117,108,101,95,95]⟩ 225), (.str ⟨#[99,112,121,51,49,51,46,101,109,97,105,108,46,104,101,97,100,101,114]⟩ 214)⟩, ⟨PyData.keyHash P ⟨#[95,95,102,105,114,115,116,108,105,110,101,110,111,95,95]⟩, (.str ⟨#[95,95,102,105,114,115,116,108,105,110,101,110,111,95,95]⟩ 229), (.int 13 228)⟩, ⟨PyData.keyHash P ⟨#[95,95,105,110,105,116,95,95]⟩, (.str ⟨#[95,95,105,110,105,116,95,95]⟩ 239), (.ref 52)⟩, ⟨PyData.keyHash P ⟨#[112,117,115,104]⟩, (.str ⟨#[112,117,115,104]⟩ 248), (.ref 59)⟩, ⟨PyData.keyHash P ⟨#[112,111,112,95,102,114,111,109]⟩, (.str ⟨#[112,111,112,95,102,114,111,109]⟩ 257), (.ref 67)⟩, ⟨PyData.keyHash P ⟨#[112,111,112]⟩, (.str ⟨#[112,111,112]⟩ 265), (.ref 75)⟩, ⟨PyData.keyHash P ⟨#[95,95,108,101,110,95,95]⟩, (.str ⟨#[95,95,108,101,110,95,95]⟩ 272), (.ref 82)⟩, ⟨PyData.keyHash P ⟨#[95,95,115,116,114,95,95]⟩, (.str ⟨#[95,95,115,116,114,95,95]⟩ 279), (.ref 89)⟩, ⟨PyData.keyHash P ⟨#[114,101,115,101,116]⟩, (.str ⟨#[114,101,115,101,116]⟩ 287), (.ref 97)⟩, ⟨PyData.keyHash P ⟨#[105,115,95,111,110,108,121,119,115]⟩, (.str ⟨#[105,115,95,111,110,108,121,119,115]⟩ 294), (.ref 104)⟩, ⟨PyData.keyHash P ⟨#[112,97,114,116,95,99,111,117,110,116]⟩, (.str ⟨#[112,97,114,116,95,99,111,117,110,116]⟩ 302), (.ref 112)⟩, ⟨PyData.keyHash P ⟨#[95,95,115,116,97,116,105,99,95,97,116,116,114,105,98,117,116,101,115,95,95]⟩, (.str ⟨#[95,95,115,116,97,116,105,99,95,97,116,116,114,105,98,117,116,101,115,95,95]⟩ 304), (.ref 113)⟩, ⟨PyData.keyHash P ⟨#[95,95,100,105,99,116,95,95]⟩, (.str ⟨#[95,95,100,105,99,116,95,95]⟩ 307), (.ref 116)⟩, ⟨PyData.keyHash P ⟨#[95,95,119,101,97,107,114,101,102,95,95]⟩, (.str ⟨#[95,95,119,101,97,107,114,101,102,95,95]⟩ 309), (.ref 117)⟩, ⟨PyData.keyHash P ⟨#[95,95,100,111,99,95,95]⟩, (.str ⟨#[95,95,100,111,99,95,95]⟩ 310), .none⟩] 5), #[]⟩
noncomputable def o115 (P : Params) : Obj := ⟨(.type "type"), none, (.cls { name := ⟨#[95,65,99,99,117,109,117,108,97,116,111,114]⟩, bases := [(.type "list")], mro := [(.ref 115), (.type "list"), (.type "object")], ns := 114, qualname := ⟨#[95,65,99,99,117,109,117,108,97,116,111,114]⟩, hasDict := true, slotNames := [], subclasses := [], abstract := false, collection := none, hasDel := false }), #[(some (.ref 36)), none, (some (.str ⟨#[95,65,99,99,117,109,117,108,97,116,111,114]⟩ 218)), (some (.str ⟨#[95,65,99,99,117,109,117,108,97,116,111,114]⟩ 226)), (some (.builtin "list.__new__")), (some (.bool true))]⟩
noncomputable def o116 (P : Params) : Obj := ⟨(.type "getset_descriptor"), none, (.fields #[(.str ⟨#[95,95,100,105,99,116,95,95]⟩ 306), (.ref 115), (.builtin "function.__dict__"), (.builtin "function.__dict__#set")]), #[]⟩
noncomputable def o117 (P : Params) : Obj := ⟨(.type "getset_descriptor"), none, (.fields #[(.str ⟨#[95,95,119,101,97,107,114,101,102,95,95]⟩ 308), (.ref 115), (.builtin "ExceptionGroup.__weakref__"), .none]), #[]⟩
noncomputable def o118 (P : Params) : Obj := ⟨(.type "super"), none, (.fields #[(.ref 115), (.ref 115), (.ref 115)]), #[]⟩
noncomputable def o119 (P : Params) : Obj := ⟨(.type "builtin_function_or_method"), none, (.fields #[(.builtin "object.__init_subclass__"), (.ref 115)]), #[]⟩
noncomputable def o120 (P : Params) : Obj := ⟨(.type "list"), none, (.seq #[(.int 173 315), (.int 847 316), (.int 6150 317), (.int 6155 318), (.int 6156 319), (.int 6157 320), (.int 8203 321), (.int 8204 322), (.int 8205 323), (.int 8288 324), (.int 65279 325)] 0), #[]⟩
noncomputable def o121 (P : Params) : Obj := ⟨(.type "range"), none, (.fields #[(.int 65024 326), (.int 65040 327), (.int 1 328)]), #[]⟩
noncomputable def o122 (P : Params) : Obj := ⟨(.type "list"), none, (.seq #[(.int 65024 331), (.int 65025 332), (.int 65026 333), (.int 65027 334), (.int 65028 335), (.int 65029 336), (.int 65030 337), (.int 65031 338), (.int 65032 339), (.int 65033 340), (.int 65034 341), (.int 65035 342), (.int 65036 343), (.int 65037 344), (.int 65038 345), (.int 65039 346)] 18), #[]⟩
noncomputable def o123 (P : Params) : Obj := ⟨(.type "range_iterator"), none, (.fields #[(.int 65040 0), (.int 0 0), (.int 1 0)]), #[]⟩
noncomputable def o124 (P : Params) : Obj := ⟨(.type "tuple"), none, (.seq #[] 0), #[]⟩
noncomputable def o125 (P : Params) : Obj := ⟨(.type "StopIteration"), none, (.fields #[(.ref 124), .none, .none, .none, (.bool false), .none]), #[]⟩
noncomputable def o126 (P : Params) : Obj := ⟨(.type "list"), none, (.seq #[(.int 173 315), (.int 847 316), (.int 6150 317), (.int 6155 318), (.int 6156 319), (.int 6157 320), (.int 8203 321), (.int 8204 322), (.int 8205 323), (.int 8288 324), (.int 65279 325), (.int 65024 331), (.int 65025 332), (.int 65026 333), (.int 65027 334), (.int 65028 335), (.int 65029 336), (.int 65030 337), (.int 65031 338), (.int 65032 339), (.int 65033 340), (.int 65034 341), (.int 65035 342), (.int 65036 343), (.int 65037 344), (.int 65038 345), (.int 65039 346)] 0), #[]⟩
noncomputable def o127 (P : Params) : Obj := ⟨(.type "set"), none, (.set #[(65024, (.int 65024 331)), (65025, (.int 65025 332)), (65026, (.int 65026 333)), (65027, (.int 65027 334)), (65028, (.int 65028 335)), (65029, (.int 65029 336)), (6150, (.int 6150 317)), (65030, (.int 65030 337)), (65031, (.int 65031 338)), (65032, (.int 65032 339)), (65033, (.int 65033 340)), (6155, (.int 6155 318)), (6156, (.int 6156 319)), (6157, (.int 6157 320)), (8203, (.int 8203 321)), (8204, (.int 8204 322)), (8205, (.int 8205 323)), (65034, (.int 65034 341)), (65035, (.int 65035 342)), (65036, (.int 65036 343)), (65037, (.int 65037 344)), (65038, (.int 65038 345)), (65039, (.int 65039 346)), (173, (.int 173 315)), (847, (.int 847 316)), (8288, (.int 8288 324)), (65279, (.int 65279 325))] 29 ⟨127, #[0, 1, 2, 3, 4, 5, 6, 7, 8, 9, 10, 11, 12, 13, 14, 15, 16, 17, 18, 19, 20, 21, 22, 45, 79, 96, 127], #[], 0, !P.followText "set-order", 2, true⟩), #[]⟩
noncomputable def o128 (P : Params) : Obj := ⟨(.type "list_iterator"), none, (.fields #[.none, (.int 27 0)]), #[]⟩
noncomputable def o129 (P : Params) : Obj := ⟨(.type "tuple"), none, (.seq #[] 0), #[]⟩
noncomputable def o130 (P : Params) : Obj := ⟨(.type "StopIteration"), none, (.fields #[(.ref 129), .none, .none, .none, (.bool false), .none]), #[]⟩
noncomputable def o131 (P : Params) : Obj := ⟨(.type "tuple"), none, (.seq #[] 0), #[]⟩
noncomputable def o132 (P : Params) : Obj := ⟨.none, none, (.fields #[]), #[]⟩
noncomputable def o133 (P : Params) : Obj := ⟨(.type "tuple"), none, (.seq #[(.str ⟨#[99,111,100,101]⟩ 378)] 0), #[]⟩
noncomputable def o134 (P : Params) : Obj := ⟨(.type "tuple"), none, (.seq #[] 0), #[]⟩
noncomputable def o135 (P : Params) : Obj := ⟨.none, none, (.func { name := ⟨#[105,110,95,116,97,98,108,101,95,98,49]⟩, qualname := ⟨#[105,110,95,116,97,98,108,101,95,98,49]⟩, params := argsOf (st 11), body := .stmts (bodyOf (st 11)), scope := scopeOf (st 11), globals := 0, closure := [], defaults := .none, kwdefaults := .none, doc := .none, pyModule := .none, annotations := none, code := .none, closureTuple := .none, builtins := 0 }), #[]⟩
noncomputable def o136 (P : Params) : Obj := ⟨(.type "code"), none, (.fields #[(.str ⟨#[105,110,95,116,97,98,108,101,95,98,49]⟩ 375), (.str ⟨#[105,110,95,116,97,98,108,101,95,98,49]⟩ 376), (.str ⟨#[47,99,108,97,105,109,47,99,117,116,46,112,121]⟩ 377), (.int 46 0), (.int 1 0), (.int 0 0), (.int 0 0), (.int 3 0), (.ref 131), (.bool true), (.int 181 0), (.ref 132), .none, (.ref 133), (.ref 134), (.ref 135), (.int 379 0), (.int 46 0), (.str ⟨#[47,99,108,97,105,109,47,99,117,116,46,112,121]⟩ 380)]), #[]⟩
noncomputable def o137 (P : Params) : Obj := ⟨(.type "function"), none, (.func { name := ⟨#[105,110,95,116,97,98,108,101,95,98,49]⟩, qualname := ⟨#[105,110,95,116,97,98,108,101,95,98,49]⟩, params := argsOf (st 11), body := .stmts (bodyOf (st 11)), scope := scopeOf (st 11), globals := 3, closure := [], defaults := .none, kwdefaults := .none, doc := .none, pyModule := (.str ⟨#[99,112,121,51,49,51,46,115,116,114,105,110,103,112,114,101,112]⟩ 313), annotations := none, code := (.ref 136), closureTuple := .none, builtins := 0 }), #[]⟩
noncomputable def o177 (P : Params) : Obj := ⟨(.type "tuple"), none, (.seq #[] 0), #[]⟩
noncomputable def o178 (P : Params) : Obj := ⟨.none, none, (.fields #[]), #[]⟩
noncomputable def o179 (P : Params) : Obj := ⟨(.type "tuple"), none, (.seq #[(.str ⟨#[99,111,100,101]⟩ 2336), (.str ⟨#[114]⟩ 2337)] 0), #[]⟩
noncomputable def o180 (P : Params) : Obj := ⟨(.type "tuple"), none, (.seq #[] 0), #[]⟩
noncomputable def o181 (P : Params) : Obj := ⟨.none, none, (.func { name := ⟨#[109,97,112,95,116,97,98,108,101,95,98,51]⟩, qualname := ⟨#[109,97,112,95,116,97,98,108,101,95,98,51]⟩, params := argsOf (st 13), body := .stmts (bodyOf (st 13)), scope := scopeOf (st 13), globals := 0, closure := [], defaults := .none, kwdefaults := .none, doc := .none, pyModule := .none, annotations := none, code := .none, closureTuple := .none, builtins := 0 }), #[]⟩
noncomputable def o182 (P : Params) : Obj := ⟨(.type "code"), none, (.fields #[(.str ⟨#[109,97,112,95,116,97,98,108,101,95,98,51]⟩ 2333), (.str ⟨#[109,97,112,95,116,97,98,108,101,95,98,51]⟩ 2334), (.str ⟨#[47,99,108,97,105,109,47,99,117,116,46,112,121]⟩ 2335), (.int 49 0), (.int 1 0), (.int 0 0), (.int 0 0), (.int 3 0), (.ref 177), (.bool true), (.int 181 0), (.ref 178), .none, (.ref 179), (.ref 180), (.ref 181), (.int 2338 0), (.int 49 0), (.str ⟨#[47,99,108,97,105,109,47,99,117,116,46,112,121]⟩ 2339)]), #[]⟩
noncomputable def o183 (P : Params) : Obj := ⟨(.type "function"), none, (.func { name := ⟨#[109,97,112,95,116,97,98,108,101,95,98,51]⟩, qualname := ⟨#[109,97,112,95,116,97,98,108,101,95,98,51]⟩, params := argsOf (st 13), body := .stmts (bodyOf (st 13)), scope := scopeOf (st 13), globals := 3, closure := [], defaults := .none, kwdefaults := .none, doc := .none, pyModule := (.str ⟨#[99,112,121,51,49,51,46,115,116,114,105,110,103,112,114,101,112]⟩ 313), annotations := none, code := (.ref 182), closureTuple := .none, builtins := 0 }), #[]⟩
noncomputable def o184 (P : Params) : Obj := ⟨(.type "tuple"), none, (.seq #[] 0), #[]⟩
noncomputable def o185 (P : Params) : Obj := ⟨.none, none, (.fields #[]), #[]⟩
noncomputable def o186 (P : Params) : Obj := ⟨(.type "tuple"), none, (.seq #[(.str ⟨#[116,101,120,116]⟩ 2346), (.str ⟨#[114,117,108,101,115]⟩ 2347), (.str ⟨#[114,117,108,101]⟩ 2348), (.str ⟨#[115,105,103,110]⟩ 2349)] 0), #[]⟩
noncomputable def o187 (P : Params) : Obj := ⟨(.type "tuple"), none, (.seq #[] 0), #[]⟩
noncomputable def o188 (P : Params) : Obj := ⟨.none, none, (.func { name := ⟨#[95,108,97,119,95,114,117,108,101,115]⟩, qualname := ⟨#[95,108,97,119,95,114,117,108,101,115]⟩, params := argsOf (st 15), body := .stmts (bodyOf (st 15)), scope := scopeOf (st 15), globals := 0, closure := [], defaults := .none, kwdefaults := .none, doc := .none, pyModule := .none, annotations := none, code := .none, closureTuple := .none, builtins := 0 }), #[]⟩
noncomputable def o189 (P : Params) : Obj := ⟨(.type "code"), none, (.fields #[(.str ⟨#[95,108,97,119,95,114,117,108,101,115]⟩ 2343), (.str ⟨#[95,108,97,119,95,114,117,108,101,115]⟩ 2344), (.str ⟨#[47,99,108,97,105,109,47,99,117,116,46,112,121]⟩ 2345), (.int 55 0), (.int 1 0), (.int 0 0), (.int 0 0), (.int 3 0), (.ref 184), (.bool true), (.int 181 0), (.ref 185), .none, (.ref 186), (.ref 187), (.ref 188), (.int 2350 0), (.int 55 0), (.str ⟨#[47,99,108,97,105,109,47,99,117,116,46,112,121]⟩ 2351)]), #[]⟩
noncomputable def o190 (P : Params) : Obj := ⟨(.type "function"), none, (.func { name := ⟨#[95,108,97,119,95,114,117,108,101,115]⟩, qualname := ⟨#[95,108,97,119,95,114,117,108,101,115]⟩, params := argsOf (st 15), body := .stmts (bodyOf (st 15)), scope := scopeOf (st 15), globals := 3, closure := [], defaults := .none, kwdefaults := .none, doc := .none, pyModule := (.str ⟨#[108,97,119,95,119,102,48,48,54,48,95,48,49]⟩ 2341), annotations := none, code := (.ref 189), closureTuple := .none, builtins := 0 }), #[]⟩
noncomputable def o191 (P : Params) : Obj := ⟨(.type "tuple"), none, (.seq #[] 0), #[]⟩
noncomputable def o192 (P : Params) : Obj := ⟨.none, none, (.fields #[]), #[]⟩
noncomputable def o193 (P : Params) : Obj := ⟨(.type "tuple"), none, (.seq #[(.str ⟨#[114,117,108,101,115]⟩ 2356), (.str ⟨#[116,101,120,116]⟩ 2357), (.str ⟨#[112,105,108,101]⟩ 2358), (.str ⟨#[115,105,103,110]⟩ 2359), (.str ⟨#[108,101,116,116,101,114]⟩ 2360), (.str ⟨#[116,111,112]⟩ 2361), (.str ⟨#[112,97,114,116]⟩ 2362)] 0), #[]⟩
noncomputable def o194 (P : Params) : Obj := ⟨(.type "tuple"), none, (.seq #[] 0), #[]⟩
noncomputable def o195 (P : Params) : Obj := ⟨.none, none, (.func { name := ⟨#[95,108,97,119,95,116,97,107,101,110]⟩, qualname := ⟨#[95,108,97,119,95,116,97,107,101,110]⟩, params := argsOf (st 16), body := .stmts (bodyOf (st 16)), scope := scopeOf (st 16), globals := 0, closure := [], defaults := .none, kwdefaults := .none, doc := .none, pyModule := .none, annotations := none, code := .none, closureTuple := .none, builtins := 0 }), #[]⟩
noncomputable def o196 (P : Params) : Obj := ⟨(.type "code"), none, (.fields #[(.str ⟨#[95,108,97,119,95,116,97,107,101,110]⟩ 2353), (.str ⟨#[95,108,97,119,95,116,97,107,101,110]⟩ 2354), (.str ⟨#[47,99,108,97,105,109,47,99,117,116,46,112,121]⟩ 2355), (.int 65 0), (.int 2 0), (.int 0 0), (.int 0 0), (.int 3 0), (.ref 191), (.bool true), (.int 181 0), (.ref 192), .none, (.ref 193), (.ref 194), (.ref 195), (.int 2363 0), (.int 65 0), (.str ⟨#[47,99,108,97,105,109,47,99,117,116,46,112,121]⟩ 2364)]), #[]⟩
noncomputable def o197 (P : Params) : Obj := ⟨(.type "function"), none, (.func { name := ⟨#[95,108,97,119,95,116,97,107,101,110]⟩, qualname := ⟨#[95,108,97,119,95,116,97,107,101,110]⟩, params := argsOf (st 16), body := .stmts (bodyOf (st 16)), scope := scopeOf (st 16), globals := 3, closure := [], defaults := .none, kwdefaults := .none, doc := .none, pyModule := (.str ⟨#[108,97,119,95,119,102,48,48,54,48,95,48,49]⟩ 2341), annotations := none, code := (.ref 196), closureTuple := .none, builtins := 0 }), #[]⟩
noncomputable def o198 (P : Params) : Obj := ⟨(.type "tuple"), none, (.seq #[] 0), #[]⟩
noncomputable def o199 (P : Params) : Obj := ⟨.none, none, (.fields #[]), #[]⟩
noncomputable def o200 (P : Params) : Obj := ⟨(.type "tuple"), none, (.seq #[(.str ⟨#[102,105,103,117,114,101]⟩ 2369)] 0), #[]⟩
noncomputable def o201 (P : Params) : Obj := ⟨(.type "tuple"), none, (.seq #[] 0), #[]⟩
noncomputable def o202 (P : Params) : Obj := ⟨.none, none, (.func { name := ⟨#[95,108,97,119,95,112,97,114,116,115]⟩, qualname := ⟨#[95,108,97,119,95,112,97,114,116,115]⟩, params := argsOf (st 17), body := .stmts (bodyOf (st 17)), scope := scopeOf (st 17), globals := 0, closure := [], defaults := .none, kwdefaults := .none, doc := .none, pyModule := .none, annotations := none, code := .none, closureTuple := .none, builtins := 0 }), #[]⟩
noncomputable def o203 (P : Params) : Obj := ⟨(.type "code"), none, (.fields #[(.str ⟨#[95,108,97,119,95,112,97,114,116,115]⟩ 2366), (.str ⟨#[95,108,97,119,95,112,97,114,116,115]⟩ 2367), (.str ⟨#[47,99,108,97,105,109,47,99,117,116,46,112,121]⟩ 2368), (.int 82 0), (.int 1 0), (.int 0 0), (.int 0 0), (.int 3 0), (.ref 198), (.bool true), (.int 181 0), (.ref 199), .none, (.ref 200), (.ref 201), (.ref 202), (.int 2370 0), (.int 82 0), (.str ⟨#[47,99,108,97,105,109,47,99,117,116,46,112,121]⟩ 2371)]), #[]⟩
noncomputable def o204 (P : Params) : Obj := ⟨(.type "function"), none, (.func { name := ⟨#[95,108,97,119,95,112,97,114,116,115]⟩, qualname := ⟨#[95,108,97,119,95,112,97,114,116,115]⟩, params := argsOf (st 17), body := .stmts (bodyOf (st 17)), scope := scopeOf (st 17), globals := 3, closure := [], defaults := .none, kwdefaults := .none, doc := .none, pyModule := (.str ⟨#[108,97,119,95,119,102,48,48,54,48,95,48,49]⟩ 2341), annotations := none, code := (.ref 203), closureTuple := .none, builtins := 0 }), #[]⟩
noncomputable def o205 (P : Params) : Obj := ⟨(.type "tuple"), none, (.seq #[] 0), #[]⟩
noncomputable def o206 (P : Params) : Obj := ⟨.none, none, (.fields #[]), #[]⟩
noncomputable def o207 (P : Params) : Obj := ⟨.none, none, (.func { name := ⟨#[95,108,97,119,95,119,111,114,100,115]⟩, qualname := ⟨#[95,108,97,119,95,119,111,114,100,115]⟩, params := argsOf (st 18), body := .stmts (bodyOf (st 18)), scope := scopeOf (st 18), globals := 0, closure := [], defaults := .none, kwdefaults := .none, doc := .none, pyModule := .none, annotations := none, code := .none, closureTuple := .none, builtins := 0 }), #[]⟩
noncomputable def o208 (P : Params) : Obj := ⟨(.type "code"), none, (.fields #[(.str ⟨#[95,108,97,119,95,119,111,114,100,115]⟩ 2373), (.str ⟨#[95,108,97,119,95,119,111,114,100,115]⟩ 2374), (.str ⟨#[47,99,108,97,105,109,47,99,117,116,46,112,121]⟩ 2375), (.int 86 0), (.int 2 0), (.int 0 0), (.int 0 0), (.int 3 0), (.ref 205), (.bool true), (.int 181 0), (.ref 206), .none, .none, .none, (.ref 207), (.int 2376 0), (.int 86 0), (.str ⟨#[47,99,108,97,105,109,47,99,117,116,46,112,121]⟩ 2377)]), #[]⟩
noncomputable def o209 (P : Params) : Obj := ⟨(.type "function"), none, (.func { name := ⟨#[95,108,97,119,95,119,111,114,100,115]⟩, qualname := ⟨#[95,108,97,119,95,119,111,114,100,115]⟩, params := argsOf (st 18), body := .stmts (bodyOf (st 18)), scope := scopeOf (st 18), globals := 3, closure := [], defaults := .none, kwdefaults := .none, doc := .none, pyModule := (.str ⟨#[108,97,119,95,119,102,48,48,54,48,95,48,49]⟩ 2341), annotations := none, code := (.ref 208), closureTuple := .none, builtins := 0 }), #[]⟩
noncomputable def o210 (P : Params) : Obj := ⟨(.type "tuple"), none, (.seq #[] 0), #[]⟩
noncomputable def o211 (P : Params) : Obj := ⟨.none, none, (.fields #[]), #[]⟩
noncomputable def o212 (P : Params) : Obj := ⟨.none, none, (.func { name := ⟨#[108,97,119]⟩, qualname := ⟨#[108,97,119]⟩, params := argsOf (st 19), body := .stmts (bodyOf (st 19)), scope := scopeOf (st 19), globals := 0, closure := [], defaults := .none, kwdefaults := .none, doc := .none, pyModule := .none, annotations := none, code := .none, closureTuple := .none, builtins := 0 }), #[]⟩
noncomputable def o213 (P : Params) : Obj := ⟨(.type "code"), none, (.fields #[(.str ⟨#[108,97,119]⟩ 2379), (.str ⟨#[108,97,119]⟩ 2380), (.str ⟨#[47,99,108,97,105,109,47,99,117,116,46,112,121]⟩ 2381), (.int 105 0), (.int 1 0), (.int 0 0), (.int 0 0), (.int 3 0), (.ref 210), (.bool true), (.int 181 0), (.ref 211), .none, .none, .none, (.ref 212), (.int 2382 0), (.int 105 0), (.str ⟨#[47,99,108,97,105,109,47,99,117,116,46,112,121]⟩ 2383)]), #[]⟩
noncomputable def o214 (P : Params) : Obj := ⟨(.type "function"), none, (.func { name := ⟨#[108,97,119]⟩, qualname := ⟨#[108,97,119]⟩, params := argsOf (st 19), body := .stmts (bodyOf (st 19)), scope := scopeOf (st 19), globals := 3, closure := [], defaults := .none, kwdefaults := .none, doc := .none, pyModule := (.str ⟨#[108,97,119,95,119,102,48,48,54,48,95,48,49]⟩ 2341), annotations := none, code := (.ref 213), closureTuple := .none, builtins := 0 }), #[]⟩
noncomputable def o12n (n : Nat) (P : Params) : Obj := ⟨.none, none, .fields (([(.int 1 0), (.int 0 0), (.ref 20), (.int 7 0), (.int 0 0), (.ref 27), (.int 9 0), (.int 0 0), (.ref 34), (.int 13 0), (.int 0 0), (.ref 42), (.int 46 0), (.int 0 0), (.ref 136), (.int 49 0), (.int 0 0), (.ref 182), (.int 55 0), (.int 0 0), (.ref 189), (.int 65 0), (.int 0 0), (.ref 196), (.int 82 0), (.int 0 0), (.ref 203), (.int 86 0), (.int 0 0), (.ref 208), (.int 105 0), (.int 0 0), (.ref 213)] : List Value).take n).toArray, #[]⟩

noncomputable def ents3 (P : Params) (nm : Value) : List DictEntry := [⟨PyData.keyHash P ⟨#[95,95,110,97,109,101,95,95]⟩, (.str ⟨#[95,95,110,97,109,101,95,95]⟩ 165), nm⟩, ⟨PyData.keyHash P ⟨#[95,95,100,111,99,95,95]⟩, (.str ⟨#[95,95,100,111,99,95,95]⟩ 166), .none⟩,
  ⟨PyData.keyHash P ⟨#[95,95,112,97,99,107,97,103,101,95,95]⟩, (.str ⟨#[95,95,112,97,99,107,97,103,101,95,95]⟩ 167), .none⟩,
  ⟨PyData.keyHash P ⟨#[95,95,108,111,97,100,101,114,95,95]⟩, (.str ⟨#[95,95,108,111,97,100,101,114,95,95]⟩ 168), (.builtin "__main__.__loader__#opaque")⟩,
  ⟨PyData.keyHash P ⟨#[95,95,115,112,101,99,95,95]⟩, (.str ⟨#[95,95,115,112,101,99,95,95]⟩ 169), .none⟩,
  ⟨PyData.keyHash P ⟨#[95,95,97,110,110,111,116,97,116,105,111,110,115,95,95]⟩, (.str ⟨#[95,95,97,110,110,111,116,97,116,105,111,110,115,95,95]⟩ 170), (.ref 6)⟩,
  ⟨PyData.keyHash P ⟨#[95,95,98,117,105,108,116,105,110,115,95,95]⟩, (.str ⟨#[95,95,98,117,105,108,116,105,110,115,95,95]⟩ 171), (.ref 4)⟩,
  ⟨PyData.keyHash P ⟨#[95,95,102,105,108,101,95,95]⟩, (.str ⟨#[95,95,102,105,108,101,95,95]⟩ 173), (.str ⟨#[47,99,108,97,105,109,47,99,117,116,46,112,121]⟩ 172)⟩,
  ⟨PyData.keyHash P ⟨#[95,95,99,97,99,104,101,100,95,95]⟩, (.str ⟨#[95,95,99,97,99,104,101,100,95,95]⟩ 174), .none⟩,
  ⟨PyData.keyHash P ⟨#[95,119,97,108,108]⟩, (.str ⟨#[95,119,97,108,108]⟩ 193), (.ref 21)⟩,
  ⟨PyData.keyHash P ⟨#[69,78,68,77,65,82,75,69,82]⟩, (.str ⟨#[69,78,68,77,65,82,75,69,82]⟩ 197), (.int 0 196)⟩,
  ⟨PyData.keyHash P ⟨#[78,84,95,79,70,70,83,69,84]⟩, (.str ⟨#[78,84,95,79,70,70,83,69,84]⟩ 199), (.int 256 198)⟩,
  ⟨PyData.keyHash P ⟨#[73,83,84,69,82,77,73,78,65,76]⟩, (.str ⟨#[73,83,84,69,82,77,73,78,65,76]⟩ 206), (.ref 28)⟩,
  ⟨PyData.keyHash P ⟨#[73,83,69,79,70]⟩, (.str ⟨#[73,83,69,79,70]⟩ 213), (.ref 35)⟩,
  ⟨PyData.keyHash P ⟨#[69,77,80,84,89,83,84,82,73,78,71]⟩, (.str ⟨#[69,77,80,84,89,83,84,82,73,78,71]⟩ 217), (.str ⟨#[]⟩ 216)⟩,
  ⟨PyData.keyHash P ⟨#[95,65,99,99,117,109,117,108,97,116,111,114]⟩, (.str ⟨#[95,65,99,99,117,109,117,108,97,116,111,114]⟩ 312), (.ref 115)⟩,
  ⟨PyData.keyHash P ⟨#[98,49,95,115,101,116]⟩, (.str ⟨#[98,49,95,115,101,116]⟩ 374), (.ref 127)⟩,
  ⟨PyData.keyHash P ⟨#[105,110,95,116,97,98,108,101,95,98,49]⟩, (.str ⟨#[105,110,95,116,97,98,108,101,95,98,49]⟩ 381), (.ref 137)⟩,
  ⟨PyData.keyHash P ⟨#[98,51,95,101,120,99,101,112,116,105,111,110,115]⟩, (.str ⟨#[98,51,95,101,120,99,101,112,116,105,111,110,115]⟩ 2332), (.ref 138)⟩,
  ⟨PyData.keyHash P ⟨#[109,97,112,95,116,97,98,108,101,95,98,51]⟩, (.str ⟨#[109,97,112,95,116,97,98,108,101,95,98,51]⟩ 2340), (.ref 183)⟩,
  ⟨PyData.keyHash P ⟨#[95,108,97,119,95,114,117,108,101,115]⟩, (.str ⟨#[95,108,97,119,95,114,117,108,101,115]⟩ 2352), (.ref 190)⟩,
  ⟨PyData.keyHash P ⟨#[95,108,97,119,95,116,97,107,101,110]⟩, (.str ⟨#[95,108,97,119,95,116,97,107,101,110]⟩ 2365), (.ref 197)⟩,
  ⟨PyData.keyHash P ⟨#[95,108,97,119,95,112,97,114,116,115]⟩, (.str ⟨#[95,108,97,119,95,112,97,114,116,115]⟩ 2372), (.ref 204)⟩,
  ⟨PyData.keyHash P ⟨#[95,108,97,119,95,119,111,114,100,115]⟩, (.str ⟨#[95,108,97,119,95,119,111,114,100,115]⟩ 2378), (.ref 209)⟩,
  ⟨PyData.keyHash P ⟨#[108,97,119]⟩, (.str ⟨#[108,97,119]⟩ 2384), (.ref 214)⟩]
noncomputable def o3n (nm : Value) (n : Nat) (P : Params) : Obj := ⟨.type "dict", none, .dict ((ents3 P nm).take n).toArray n, #[]⟩
noncomputable def nmA : Value := (.str ⟨#[99,112,121,51,49,51,46,115,116,114,105,110,103,112,114,101,112]⟩ 313)
noncomputable def nmE : Value := (.str ⟨#[108,97,119,95,119,102,48,48,54,48,95,48,49]⟩ 2341)
/-- the table's pairs, read off the text -/
noncomputable def dictE : PySem.Expr := match st 12 with
  | .Assign _ v _ => v
  | _ => .Tuple [] 0 q0
noncomputable def tgtD : List PySem.Expr := match st 12 with
  | .Assign t _ _ => t
  | _ => []
noncomputable def posD : Pos := match st 12 with
  | .Assign _ _ q => q
  | _ => q0
noncomputable def ksD : List (Option PySem.Expr) := match dictE with
  | .Dict ks _ _ => ks
  | _ => []
noncomputable def vsD : List PySem.Expr := match dictE with
  | .Dict _ vs _ => vs
  | _ => []
noncomputable def posE : Pos := match dictE with
  | .Dict _ _ q => q
  | _ => q0
noncomputable def pairsB3 : List (Int × PySem.Str) := dataOf ksD vsD
noncomputable def lastB3 : List DictEntry := entsFrom 2320 2 (pairsB3.drop 646)
noncomputable def o138 (_ : Params) : Obj := dictOb (entsFrom 382 3 (pairsB3.take 646) ++ lastB3)
noncomputable def oSub (j : Nat) (_ : Params) : Obj := subOb 382 pairsB3 j
noncomputable def oLast (_ : Params) : Obj := dictOb lastB3

noncomputable def TP (P : Params) : BT := (.node (boot_o_0 P) (.node (boot_o_1 P) (.node (boot_o_3 P) (.node (boot_o_7 P) .nil .nil) (.node (o11 P) .nil .nil)) (.node (boot_o_5 P) (.node (boot_o_9 P) .nil .nil) (.node (o13 P) .nil .nil))) (.node (boot_o_2 P) (.node (boot_o_4 P) (.node (boot_o_8 P) .nil .nil) (.node (o12n 0 P) .nil .nil)) (.node (boot_o_6 P) (.node (boot_o_10 P) .nil .nil) (.node (o14 P) .nil .nil))))
noncomputable def TA (P : Params) : BT := (.node (boot_o_0 P) (.node (boot_o_1 P) (.node (o3n nmA 16 P) (.node (boot_o_7 P) (.node (o15 P) (.node (o31 P) (.node (o63 P) .nil .nil) (.node (o95 P) .nil .nil)) (.node (o47 P) (.node (o79 P) .nil .nil) (.node (o111 P) .nil .nil))) (.node (o23 P) (.node (o39 P) (.node (o71 P) .nil .nil) (.node (o103 P) .nil .nil)) (.node (o55 P) (.node (o87 P) .nil .nil) (.node (o119 P) .nil .nil)))) (.node (o11 P) (.node (o19 P) (.node (o35 P) (.node (o67 P) .nil .nil) (.node (o99 P) .nil .nil)) (.node (o51 P) (.node (o83 P) .nil .nil) (.node (o115 P) .nil .nil))) (.node (o27 P) (.node (o43 P) (.node (o75 P) .nil .nil) (.node (o107 P) .nil .nil)) (.node (o59 P) (.node (o91 P) .nil .nil) .nil)))) (.node (boot_o_5 P) (.node (boot_o_9 P) (.node (o17 P) (.node (o33 P) (.node (o65 P) .nil .nil) (.node (o97 P) .nil .nil)) (.node (o49 P) (.node (o81 P) .nil .nil) (.node (o113 P) .nil .nil))) (.node (o25 P) (.node (o41 P) (.node (o73 P) .nil .nil) (.node (o105 P) .nil .nil)) (.node (o57 P) (.node (o89 P) .nil .nil) .nil))) (.node (o13 P) (.node (o21 P) (.node (o37 P) (.node (o69 P) .nil .nil) (.node (o101 P) .nil .nil)) (.node (o53 P) (.node (o85 P) .nil .nil) (.node (o117 P) .nil .nil))) (.node (o29 P) (.node (o45 P) (.node (o77 P) .nil .nil) (.node (o109 P) .nil .nil)) (.node (o61 P) (.node (o93 P) .nil .nil) .nil))))) (.node (boot_o_2 P) (.node (boot_o_4 P) (.node (boot_o_8 P) (.node (o16 P) (.node (o32 P) (.node (o64 P) .nil .nil) (.node (o96 P) .nil .nil)) (.node (o48 P) (.node (o80 P) .nil .nil) (.node (o112 P) .nil .nil))) (.node (o24 P) (.node (o40 P) (.node (o72 P) .nil .nil) (.node (o104 P) .nil .nil)) (.node (o56 P) (.node (o88 P) .nil .nil) .nil))) (.node (o12n 12 P) (.node (o20 P) (.node (o36 P) (.node (o68 P) .nil .nil) (.node (o100 P) .nil .nil)) (.node (o52 P) (.node (o84 P) .nil .nil) (.node (o116 P) .nil .nil))) (.node (o28 P) (.node (o44 P) (.node (o76 P) .nil .nil) (.node (o108 P) .nil .nil)) (.node (o60 P) (.node (o92 P) .nil .nil) .nil)))) (.node (boot_o_6 P) (.node (boot_o_10 P) (.node (o18 P) (.node (o34 P) (.node (o66 P) .nil .nil) (.node (o98 P) .nil .nil)) (.node (o50 P) (.node (o82 P) .nil .nil) (.node (o114 P) .nil .nil))) (.node (o26 P) (.node (o42 P) (.node (o74 P) .nil .nil) (.node (o106 P) .nil .nil)) (.node (o58 P) (.node (o90 P) .nil .nil) .nil))) (.node (o14 P) (.node (o22 P) (.node (o38 P) (.node (o70 P) .nil .nil) (.node (o102 P) .nil .nil)) (.node (o54 P) (.node (o86 P) .nil .nil) (.node (o118 P) .nil .nil))) (.node (o30 P) (.node (o46 P) (.node (o78 P) .nil .nil) (.node (o110 P) .nil .nil)) (.node (o62 P) (.node (o94 P) .nil .nil) .nil))))))
noncomputable def TB (P : Params) : BT := (.node (boot_o_0 P) (.node (boot_o_1 P) (.node (o3n nmA 17 P) (.node (boot_o_7 P) (.node (o15 P) (.node (o31 P) (.node (o63 P) (.node (o127 P) .nil .nil) .nil) (.node (o95 P) .nil .nil)) (.node (o47 P) (.node (o79 P) .nil .nil) (.node (o111 P) .nil .nil))) (.node (o23 P) (.node (o39 P) (.node (o71 P) .nil .nil) (.node (o103 P) .nil .nil)) (.node (o55 P) (.node (o87 P) .nil .nil) (.node (o119 P) .nil .nil)))) (.node (o11 P) (.node (o19 P) (.node (o35 P) (.node (o67 P) .nil .nil) (.node (o99 P) .nil .nil)) (.node (o51 P) (.node (o83 P) .nil .nil) (.node (o115 P) .nil .nil))) (.node (o27 P) (.node (o43 P) (.node (o75 P) .nil .nil) (.node (o107 P) .nil .nil)) (.node (o59 P) (.node (o91 P) .nil .nil) (.node (o123 P) .nil .nil))))) (.node (boot_o_5 P) (.node (boot_o_9 P) (.node (o17 P) (.node (o33 P) (.node (o65 P) (.node (o129 P) .nil .nil) .nil) (.node (o97 P) .nil .nil)) (.node (o49 P) (.node (o81 P) .nil .nil) (.node (o113 P) .nil .nil))) (.node (o25 P) (.node (o41 P) (.node (o73 P) .nil .nil) (.node (o105 P) .nil .nil)) (.node (o57 P) (.node (o89 P) .nil .nil) (.node (o121 P) .nil .nil)))) (.node (o13 P) (.node (o21 P) (.node (o37 P) (.node (o69 P) .nil .nil) (.node (o101 P) .nil .nil)) (.node (o53 P) (.node (o85 P) .nil .nil) (.node (o117 P) .nil .nil))) (.node (o29 P) (.node (o45 P) (.node (o77 P) .nil .nil) (.node (o109 P) .nil .nil)) (.node (o61 P) (.node (o93 P) .nil .nil) (.node (o125 P) .nil .nil)))))) (.node (boot_o_2 P) (.node (boot_o_4 P) (.node (boot_o_8 P) (.node (o16 P) (.node (o32 P) (.node (o64 P) (.node (o128 P) .nil .nil) .nil) (.node (o96 P) .nil .nil)) (.node (o48 P) (.node (o80 P) .nil .nil) (.node (o112 P) .nil .nil))) (.node (o24 P) (.node (o40 P) (.node (o72 P) .nil .nil) (.node (o104 P) .nil .nil)) (.node (o56 P) (.node (o88 P) .nil .nil) (.node (o120 P) .nil .nil)))) (.node (o12n 12 P) (.node (o20 P) (.node (o36 P) (.node (o68 P) .nil .nil) (.node (o100 P) .nil .nil)) (.node (o52 P) (.node (o84 P) .nil .nil) (.node (o116 P) .nil .nil))) (.node (o28 P) (.node (o44 P) (.node (o76 P) .nil .nil) (.node (o108 P) .nil .nil)) (.node (o60 P) (.node (o92 P) .nil .nil) (.node (o124 P) .nil .nil))))) (.node (boot_o_6 P) (.node (boot_o_10 P) (.node (o18 P) (.node (o34 P) (.node (o66 P) (.node (o130 P) .nil .nil) .nil) (.node (o98 P) .nil .nil)) (.node (o50 P) (.node (o82 P) .nil .nil) (.node (o114 P) .nil .nil))) (.node (o26 P) (.node (o42 P) (.node (o74 P) .nil .nil) (.node (o106 P) .nil .nil)) (.node (o58 P) (.node (o90 P) .nil .nil) (.node (o122 P) .nil .nil)))) (.node (o14 P) (.node (o22 P) (.node (o38 P) (.node (o70 P) .nil .nil) (.node (o102 P) .nil .nil)) (.node (o54 P) (.node (o86 P) .nil .nil) (.node (o118 P) .nil .nil))) (.node (o30 P) (.node (o46 P) (.node (o78 P) .nil .nil) (.node (o110 P) .nil .nil)) (.node (o62 P) (.node (o94 P) .nil .nil) (.node (o126 P) .nil .nil)))))))
noncomputable def TC (P : Params) : BT := (.node (boot_o_0 P) (.node (boot_o_1 P) (.node (o3n nmA 18 P) (.node (boot_o_7 P) (.node (o15 P) (.node (o31 P) (.node (o63 P) (.node (o127 P) .nil .nil) .nil) (.node (o95 P) .nil .nil)) (.node (o47 P) (.node (o79 P) .nil .nil) (.node (o111 P) .nil .nil))) (.node (o23 P) (.node (o39 P) (.node (o71 P) (.node (o135 P) .nil .nil) .nil) (.node (o103 P) .nil .nil)) (.node (o55 P) (.node (o87 P) .nil .nil) (.node (o119 P) .nil .nil)))) (.node (o11 P) (.node (o19 P) (.node (o35 P) (.node (o67 P) (.node (o131 P) .nil .nil) .nil) (.node (o99 P) .nil .nil)) (.node (o51 P) (.node (o83 P) .nil .nil) (.node (o115 P) .nil .nil))) (.node (o27 P) (.node (o43 P) (.node (o75 P) .nil .nil) (.node (o107 P) .nil .nil)) (.node (o59 P) (.node (o91 P) .nil .nil) (.node (o123 P) .nil .nil))))) (.node (boot_o_5 P) (.node (boot_o_9 P) (.node (o17 P) (.node (o33 P) (.node (o65 P) (.node (o129 P) .nil .nil) .nil) (.node (o97 P) .nil .nil)) (.node (o49 P) (.node (o81 P) .nil .nil) (.node (o113 P) .nil .nil))) (.node (o25 P) (.node (o41 P) (.node (o73 P) (.node (o137 P) .nil .nil) .nil) (.node (o105 P) .nil .nil)) (.node (o57 P) (.node (o89 P) .nil .nil) (.node (o121 P) .nil .nil)))) (.node (o13 P) (.node (o21 P) (.node (o37 P) (.node (o69 P) (.node (o133 P) .nil .nil) .nil) (.node (o101 P) .nil .nil)) (.node (o53 P) (.node (o85 P) .nil .nil) (.node (o117 P) .nil .nil))) (.node (o29 P) (.node (o45 P) (.node (o77 P) .nil .nil) (.node (o109 P) .nil .nil)) (.node (o61 P) (.node (o93 P) .nil .nil) (.node (o125 P) .nil .nil)))))) (.node (boot_o_2 P) (.node (boot_o_4 P) (.node (boot_o_8 P) (.node (o16 P) (.node (o32 P) (.node (o64 P) (.node (o128 P) .nil .nil) .nil) (.node (o96 P) .nil .nil)) (.node (o48 P) (.node (o80 P) .nil .nil) (.node (o112 P) .nil .nil))) (.node (o24 P) (.node (o40 P) (.node (o72 P) (.node (o136 P) .nil .nil) .nil) (.node (o104 P) .nil .nil)) (.node (o56 P) (.node (o88 P) .nil .nil) (.node (o120 P) .nil .nil)))) (.node (o12n 15 P) (.node (o20 P) (.node (o36 P) (.node (o68 P) (.node (o132 P) .nil .nil) .nil) (.node (o100 P) .nil .nil)) (.node (o52 P) (.node (o84 P) .nil .nil) (.node (o116 P) .nil .nil))) (.node (o28 P) (.node (o44 P) (.node (o76 P) .nil .nil) (.node (o108 P) .nil .nil)) (.node (o60 P) (.node (o92 P) .nil .nil) (.node (o124 P) .nil .nil))))) (.node (boot_o_6 P) (.node (boot_o_10 P) (.node (o18 P) (.node (o34 P) (.node (o66 P) (.node (o130 P) .nil .nil) .nil) (.node (o98 P) .nil .nil)) (.node (o50 P) (.node (o82 P) .nil .nil) (.node (o114 P) .nil .nil))) (.node (o26 P) (.node (o42 P) (.node (o74 P) .nil .nil) (.node (o106 P) .nil .nil)) (.node (o58 P) (.node (o90 P) .nil .nil) (.node (o122 P) .nil .nil)))) (.node (o14 P) (.node (o22 P) (.node (o38 P) (.node (o70 P) (.node (o134 P) .nil .nil) .nil) (.node (o102 P) .nil .nil)) (.node (o54 P) (.node (o86 P) .nil .nil) (.node (o118 P) .nil .nil))) (.node (o30 P) (.node (o46 P) (.node (o78 P) .nil .nil) (.node (o110 P) .nil .nil)) (.node (o62 P) (.node (o94 P) .nil .nil) (.node (o126 P) .nil .nil)))))))
noncomputable def TX (P : Params) : BT := (.node (boot_o_0 P) (.node (boot_o_1 P) (.node (o3n nmA 18 P) (.node (boot_o_7 P) (.node (o15 P) (.node (o31 P) (.node (o63 P) (.node (o127 P) .nil .nil) .nil) (.node (o95 P) (.node (oSub 20 P) .nil .nil) .nil)) (.node (o47 P) (.node (o79 P) (.node (oSub 4 P) .nil .nil) .nil) (.node (o111 P) (.node (oSub 36 P) .nil .nil) .nil))) (.node (o23 P) (.node (o39 P) (.node (o71 P) (.node (o135 P) .nil .nil) .nil) (.node (o103 P) (.node (oSub 28 P) .nil .nil) .nil)) (.node (o55 P) (.node (o87 P) (.node (oSub 12 P) .nil .nil) .nil) (.node (o119 P) .nil .nil)))) (.node (o11 P) (.node (o19 P) (.node (o35 P) (.node (o67 P) (.node (o131 P) .nil .nil) .nil) (.node (o99 P) (.node (oSub 24 P) .nil .nil) .nil)) (.node (o51 P) (.node (o83 P) (.node (oSub 8 P) .nil .nil) .nil) (.node (o115 P) .nil .nil))) (.node (o27 P) (.node (o43 P) (.node (o75 P) (.node (oSub 0 P) .nil .nil) .nil) (.node (o107 P) (.node (oSub 32 P) .nil .nil) .nil)) (.node (o59 P) (.node (o91 P) (.node (oSub 16 P) .nil .nil) .nil) (.node (o123 P) .nil .nil))))) (.node (boot_o_5 P) (.node (boot_o_9 P) (.node (o17 P) (.node (o33 P) (.node (o65 P) (.node (o129 P) .nil .nil) .nil) (.node (o97 P) (.node (oSub 22 P) .nil .nil) .nil)) (.node (o49 P) (.node (o81 P) (.node (oSub 6 P) .nil .nil) .nil) (.node (o113 P) .nil .nil))) (.node (o25 P) (.node (o41 P) (.node (o73 P) (.node (o137 P) .nil .nil) .nil) (.node (o105 P) (.node (oSub 30 P) .nil .nil) .nil)) (.node (o57 P) (.node (o89 P) (.node (oSub 14 P) .nil .nil) .nil) (.node (o121 P) .nil .nil)))) (.node (o13 P) (.node (o21 P) (.node (o37 P) (.node (o69 P) (.node (o133 P) .nil .nil) .nil) (.node (o101 P) (.node (oSub 26 P) .nil .nil) .nil)) (.node (o53 P) (.node (o85 P) (.node (oSub 10 P) .nil .nil) .nil) (.node (o117 P) .nil .nil))) (.node (o29 P) (.node (o45 P) (.node (o77 P) (.node (oSub 2 P) .nil .nil) .nil) (.node (o109 P) (.node (oSub 34 P) .nil .nil) .nil)) (.node (o61 P) (.node (o93 P) (.node (oSub 18 P) .nil .nil) .nil) (.node (o125 P) .nil .nil)))))) (.node (boot_o_2 P) (.node (boot_o_4 P) (.node (boot_o_8 P) (.node (o16 P) (.node (o32 P) (.node (o64 P) (.node (o128 P) .nil .nil) .nil) (.node (o96 P) (.node (oSub 21 P) .nil .nil) .nil)) (.node (o48 P) (.node (o80 P) (.node (oSub 5 P) .nil .nil) .nil) (.node (o112 P) (.node (oLast P) .nil .nil) .nil))) (.node (o24 P) (.node (o40 P) (.node (o72 P) (.node (o136 P) .nil .nil) .nil) (.node (o104 P) (.node (oSub 29 P) .nil .nil) .nil)) (.node (o56 P) (.node (o88 P) (.node (oSub 13 P) .nil .nil) .nil) (.node (o120 P) .nil .nil)))) (.node (o12n 15 P) (.node (o20 P) (.node (o36 P) (.node (o68 P) (.node (o132 P) .nil .nil) .nil) (.node (o100 P) (.node (oSub 25 P) .nil .nil) .nil)) (.node (o52 P) (.node (o84 P) (.node (oSub 9 P) .nil .nil) .nil) (.node (o116 P) .nil .nil))) (.node (o28 P) (.node (o44 P) (.node (o76 P) (.node (oSub 1 P) .nil .nil) .nil) (.node (o108 P) (.node (oSub 33 P) .nil .nil) .nil)) (.node (o60 P) (.node (o92 P) (.node (oSub 17 P) .nil .nil) .nil) (.node (o124 P) .nil .nil))))) (.node (boot_o_6 P) (.node (boot_o_10 P) (.node (o18 P) (.node (o34 P) (.node (o66 P) (.node (o130 P) .nil .nil) .nil) (.node (o98 P) (.node (oSub 23 P) .nil .nil) .nil)) (.node (o50 P) (.node (o82 P) (.node (oSub 7 P) .nil .nil) .nil) (.node (o114 P) .nil .nil))) (.node (o26 P) (.node (o42 P) (.node (o74 P) (.node (o138 P) .nil .nil) .nil) (.node (o106 P) (.node (oSub 31 P) .nil .nil) .nil)) (.node (o58 P) (.node (o90 P) (.node (oSub 15 P) .nil .nil) .nil) (.node (o122 P) .nil .nil)))) (.node (o14 P) (.node (o22 P) (.node (o38 P) (.node (o70 P) (.node (o134 P) .nil .nil) .nil) (.node (o102 P) (.node (oSub 27 P) .nil .nil) .nil)) (.node (o54 P) (.node (o86 P) (.node (oSub 11 P) .nil .nil) .nil) (.node (o118 P) .nil .nil))) (.node (o30 P) (.node (o46 P) (.node (o78 P) (.node (oSub 3 P) .nil .nil) .nil) (.node (o110 P) (.node (oSub 35 P) .nil .nil) .nil)) (.node (o62 P) (.node (o94 P) (.node (oSub 19 P) .nil .nil) .nil) (.node (o126 P) .nil .nil)))))))
noncomputable def TD (P : Params) : BT := (.node (boot_o_0 P) (.node (boot_o_1 P) (.node (o3n nmA 19 P) (.node (boot_o_7 P) (.node (o15 P) (.node (o31 P) (.node (o63 P) (.node (o127 P) .nil .nil) .nil) (.node (o95 P) (.node (oSub 20 P) .nil .nil) .nil)) (.node (o47 P) (.node (o79 P) (.node (oSub 4 P) .nil .nil) .nil) (.node (o111 P) (.node (oSub 36 P) .nil .nil) .nil))) (.node (o23 P) (.node (o39 P) (.node (o71 P) (.node (o135 P) .nil .nil) .nil) (.node (o103 P) (.node (oSub 28 P) .nil .nil) .nil)) (.node (o55 P) (.node (o87 P) (.node (oSub 12 P) .nil .nil) .nil) (.node (o119 P) .nil .nil)))) (.node (o11 P) (.node (o19 P) (.node (o35 P) (.node (o67 P) (.node (o131 P) .nil .nil) .nil) (.node (o99 P) (.node (oSub 24 P) .nil .nil) .nil)) (.node (o51 P) (.node (o83 P) (.node (oSub 8 P) .nil .nil) .nil) (.node (o115 P) .nil .nil))) (.node (o27 P) (.node (o43 P) (.node (o75 P) (.node (oSub 0 P) .nil .nil) .nil) (.node (o107 P) (.node (oSub 32 P) .nil .nil) .nil)) (.node (o59 P) (.node (o91 P) (.node (oSub 16 P) .nil .nil) .nil) (.node (o123 P) .nil .nil))))) (.node (boot_o_5 P) (.node (boot_o_9 P) (.node (o17 P) (.node (o33 P) (.node (o65 P) (.node (o129 P) .nil .nil) .nil) (.node (o97 P) (.node (oSub 22 P) .nil .nil) .nil)) (.node (o49 P) (.node (o81 P) (.node (oSub 6 P) .nil .nil) .nil) (.node (o113 P) .nil .nil))) (.node (o25 P) (.node (o41 P) (.node (o73 P) (.node (o137 P) .nil .nil) .nil) (.node (o105 P) (.node (oSub 30 P) .nil .nil) .nil)) (.node (o57 P) (.node (o89 P) (.node (oSub 14 P) .nil .nil) .nil) (.node (o121 P) .nil .nil)))) (.node (o13 P) (.node (o21 P) (.node (o37 P) (.node (o69 P) (.node (o133 P) .nil .nil) .nil) (.node (o101 P) (.node (oSub 26 P) .nil .nil) .nil)) (.node (o53 P) (.node (o85 P) (.node (oSub 10 P) .nil .nil) .nil) (.node (o117 P) .nil .nil))) (.node (o29 P) (.node (o45 P) (.node (o77 P) (.node (oSub 2 P) .nil .nil) .nil) (.node (o109 P) (.node (oSub 34 P) .nil .nil) .nil)) (.node (o61 P) (.node (o93 P) (.node (oSub 18 P) .nil .nil) .nil) (.node (o125 P) .nil .nil)))))) (.node (boot_o_2 P) (.node (boot_o_4 P) (.node (boot_o_8 P) (.node (o16 P) (.node (o32 P) (.node (o64 P) (.node (o128 P) .nil .nil) .nil) (.node (o96 P) (.node (oSub 21 P) .nil .nil) .nil)) (.node (o48 P) (.node (o80 P) (.node (oSub 5 P) .nil .nil) .nil) (.node (o112 P) (.node (oLast P) .nil .nil) .nil))) (.node (o24 P) (.node (o40 P) (.node (o72 P) (.node (o136 P) .nil .nil) .nil) (.node (o104 P) (.node (oSub 29 P) .nil .nil) .nil)) (.node (o56 P) (.node (o88 P) (.node (oSub 13 P) .nil .nil) .nil) (.node (o120 P) .nil .nil)))) (.node (o12n 15 P) (.node (o20 P) (.node (o36 P) (.node (o68 P) (.node (o132 P) .nil .nil) .nil) (.node (o100 P) (.node (oSub 25 P) .nil .nil) .nil)) (.node (o52 P) (.node (o84 P) (.node (oSub 9 P) .nil .nil) .nil) (.node (o116 P) .nil .nil))) (.node (o28 P) (.node (o44 P) (.node (o76 P) (.node (oSub 1 P) .nil .nil) .nil) (.node (o108 P) (.node (oSub 33 P) .nil .nil) .nil)) (.node (o60 P) (.node (o92 P) (.node (oSub 17 P) .nil .nil) .nil) (.node (o124 P) .nil .nil))))) (.node (boot_o_6 P) (.node (boot_o_10 P) (.node (o18 P) (.node (o34 P) (.node (o66 P) (.node (o130 P) .nil .nil) .nil) (.node (o98 P) (.node (oSub 23 P) .nil .nil) .nil)) (.node (o50 P) (.node (o82 P) (.node (oSub 7 P) .nil .nil) .nil) (.node (o114 P) .nil .nil))) (.node (o26 P) (.node (o42 P) (.node (o74 P) (.node (o138 P) .nil .nil) .nil) (.node (o106 P) (.node (oSub 31 P) .nil .nil) .nil)) (.node (o58 P) (.node (o90 P) (.node (oSub 15 P) .nil .nil) .nil) (.node (o122 P) .nil .nil)))) (.node (o14 P) (.node (o22 P) (.node (o38 P) (.node (o70 P) (.node (o134 P) .nil .nil) .nil) (.node (o102 P) (.node (oSub 27 P) .nil .nil) .nil)) (.node (o54 P) (.node (o86 P) (.node (oSub 11 P) .nil .nil) .nil) (.node (o118 P) .nil .nil))) (.node (o30 P) (.node (o46 P) (.node (o78 P) (.node (oSub 3 P) .nil .nil) .nil) (.node (o110 P) (.node (oSub 35 P) .nil .nil) .nil)) (.node (o62 P) (.node (o94 P) (.node (oSub 19 P) .nil .nil) .nil) (.node (o126 P) .nil .nil)))))))
noncomputable def TE (P : Params) : BT := (.node (boot_o_0 P) (.node (boot_o_1 P) (.node (o3n nmE 25 P) (.node (boot_o_7 P) (.node (o15 P) (.node (o31 P) (.node (o63 P) (.node (o127 P) .nil .nil) (.node (o191 P) .nil .nil)) (.node (o95 P) (.node (oSub 20 P) .nil .nil) .nil)) (.node (o47 P) (.node (o79 P) (.node (oSub 4 P) .nil .nil) (.node (o207 P) .nil .nil)) (.node (o111 P) (.node (oSub 36 P) .nil .nil) .nil))) (.node (o23 P) (.node (o39 P) (.node (o71 P) (.node (o135 P) .nil .nil) (.node (o199 P) .nil .nil)) (.node (o103 P) (.node (oSub 28 P) .nil .nil) .nil)) (.node (o55 P) (.node (o87 P) (.node (oSub 12 P) .nil .nil) .nil) (.node (o119 P) (.node (o183 P) .nil .nil) .nil)))) (.node (o11 P) (.node (o19 P) (.node (o35 P) (.node (o67 P) (.node (o131 P) .nil .nil) (.node (o195 P) .nil .nil)) (.node (o99 P) (.node (oSub 24 P) .nil .nil) .nil)) (.node (o51 P) (.node (o83 P) (.node (oSub 8 P) .nil .nil) (.node (o211 P) .nil .nil)) (.node (o115 P) (.node (o179 P) .nil .nil) .nil))) (.node (o27 P) (.node (o43 P) (.node (o75 P) (.node (oSub 0 P) .nil .nil) (.node (o203 P) .nil .nil)) (.node (o107 P) (.node (oSub 32 P) .nil .nil) .nil)) (.node (o59 P) (.node (o91 P) (.node (oSub 16 P) .nil .nil) .nil) (.node (o123 P) (.node (o187 P) .nil .nil) .nil))))) (.node (boot_o_5 P) (.node (boot_o_9 P) (.node (o17 P) (.node (o33 P) (.node (o65 P) (.node (o129 P) .nil .nil) (.node (o193 P) .nil .nil)) (.node (o97 P) (.node (oSub 22 P) .nil .nil) .nil)) (.node (o49 P) (.node (o81 P) (.node (oSub 6 P) .nil .nil) (.node (o209 P) .nil .nil)) (.node (o113 P) (.node (o177 P) .nil .nil) .nil))) (.node (o25 P) (.node (o41 P) (.node (o73 P) (.node (o137 P) .nil .nil) (.node (o201 P) .nil .nil)) (.node (o105 P) (.node (oSub 30 P) .nil .nil) .nil)) (.node (o57 P) (.node (o89 P) (.node (oSub 14 P) .nil .nil) .nil) (.node (o121 P) (.node (o185 P) .nil .nil) .nil)))) (.node (o13 P) (.node (o21 P) (.node (o37 P) (.node (o69 P) (.node (o133 P) .nil .nil) (.node (o197 P) .nil .nil)) (.node (o101 P) (.node (oSub 26 P) .nil .nil) .nil)) (.node (o53 P) (.node (o85 P) (.node (oSub 10 P) .nil .nil) (.node (o213 P) .nil .nil)) (.node (o117 P) (.node (o181 P) .nil .nil) .nil))) (.node (o29 P) (.node (o45 P) (.node (o77 P) (.node (oSub 2 P) .nil .nil) (.node (o205 P) .nil .nil)) (.node (o109 P) (.node (oSub 34 P) .nil .nil) .nil)) (.node (o61 P) (.node (o93 P) (.node (oSub 18 P) .nil .nil) .nil) (.node (o125 P) (.node (o189 P) .nil .nil) .nil)))))) (.node (boot_o_2 P) (.node (boot_o_4 P) (.node (boot_o_8 P) (.node (o16 P) (.node (o32 P) (.node (o64 P) (.node (o128 P) .nil .nil) (.node (o192 P) .nil .nil)) (.node (o96 P) (.node (oSub 21 P) .nil .nil) .nil)) (.node (o48 P) (.node (o80 P) (.node (oSub 5 P) .nil .nil) (.node (o208 P) .nil .nil)) (.node (o112 P) (.node (oLast P) .nil .nil) .nil))) (.node (o24 P) (.node (o40 P) (.node (o72 P) (.node (o136 P) .nil .nil) (.node (o200 P) .nil .nil)) (.node (o104 P) (.node (oSub 29 P) .nil .nil) .nil)) (.node (o56 P) (.node (o88 P) (.node (oSub 13 P) .nil .nil) .nil) (.node (o120 P) (.node (o184 P) .nil .nil) .nil)))) (.node (o12n 33 P) (.node (o20 P) (.node (o36 P) (.node (o68 P) (.node (o132 P) .nil .nil) (.node (o196 P) .nil .nil)) (.node (o100 P) (.node (oSub 25 P) .nil .nil) .nil)) (.node (o52 P) (.node (o84 P) (.node (oSub 9 P) .nil .nil) (.node (o212 P) .nil .nil)) (.node (o116 P) (.node (o180 P) .nil .nil) .nil))) (.node (o28 P) (.node (o44 P) (.node (o76 P) (.node (oSub 1 P) .nil .nil) (.node (o204 P) .nil .nil)) (.node (o108 P) (.node (oSub 33 P) .nil .nil) .nil)) (.node (o60 P) (.node (o92 P) (.node (oSub 17 P) .nil .nil) .nil) (.node (o124 P) (.node (o188 P) .nil .nil) .nil))))) (.node (boot_o_6 P) (.node (boot_o_10 P) (.node (o18 P) (.node (o34 P) (.node (o66 P) (.node (o130 P) .nil .nil) (.node (o194 P) .nil .nil)) (.node (o98 P) (.node (oSub 23 P) .nil .nil) .nil)) (.node (o50 P) (.node (o82 P) (.node (oSub 7 P) .nil .nil) (.node (o210 P) .nil .nil)) (.node (o114 P) (.node (o178 P) .nil .nil) .nil))) (.node (o26 P) (.node (o42 P) (.node (o74 P) (.node (o138 P) .nil .nil) (.node (o202 P) .nil .nil)) (.node (o106 P) (.node (oSub 31 P) .nil .nil) .nil)) (.node (o58 P) (.node (o90 P) (.node (oSub 15 P) .nil .nil) .nil) (.node (o122 P) (.node (o186 P) .nil .nil) .nil)))) (.node (o14 P) (.node (o22 P) (.node (o38 P) (.node (o70 P) (.node (o134 P) .nil .nil) (.node (o198 P) .nil .nil)) (.node (o102 P) (.node (oSub 27 P) .nil .nil) .nil)) (.node (o54 P) (.node (o86 P) (.node (oSub 11 P) .nil .nil) (.node (o214 P) .nil .nil)) (.node (o118 P) (.node (o182 P) .nil .nil) .nil))) (.node (o30 P) (.node (o46 P) (.node (o78 P) (.node (oSub 3 P) .nil .nil) (.node (o206 P) .nil .nil)) (.node (o110 P) (.node (oSub 35 P) .nil .nil) .nil)) (.node (o62 P) (.node (o94 P) (.node (oSub 19 P) .nil .nil) .nil) (.node (o126 P) (.node (o190 P) .nil .nil) .nil)))))))
noncomputable def envT : Env := { scope := pw.main.scope, locals := mainNs, globals := mainNs, cells := [], code := .ref 13, frame := some 14 }
noncomputable def annT : Option Value := some (.ref 6)
noncomputable def bT : List Stmt := behindTheImports pw
noncomputable def cT : Code := .body bT envT
noncomputable def shT (T : Params → BT) (n toks : Nat) (w : World) (os : OsState) : SharedT := ⟨T w.params, n, {}, #[], {}, toks, os⟩
end
end
section
set_option maxHeartbeats 0
section
open PySem PySem.W PySem.Calls PyProof.Rows
theorem seg_q {p : Program} {w : World} {n₀ : Nat} {ann : Option Value} {b n : Nat} {s : SharedT} {t : Thread} {r : Option (Flow × SharedT × Code × Pos)}
    (h : Fast.tw10110043849684766642 Fast.tw14364793385576792824 p w n₀ ann b n s t = r) : segRunT treeTable p w n₀ ann b n s t = r := by
  rw [Fast.te10110043849684766642, Fast.te14364793385576792824]; exact h
theorem segA (w : World) (os : OsState) : segRunT treeTable pw w 11 annT 1 645 (shT TP 15 187 w os) (piecesOf [st 0, st 1, st 2, st 3, st 4, st 5, st 6, st 7, st 8, st 9] envT cT q0 [topFrame q0]) =
    some (.next, shT TA 120 315 w os, cT, ⟨44, 0, 44, 8⟩) := seg_q (by kernel_rfl)
end
end
section
set_option maxHeartbeats 0


section
open PySem PySem.W PySem.Calls PyProof.Rows
noncomputable def CD (v : Value) : Sem Flow := do assignStores envT v (← swappedStores tgtD dictE envT) ((assignEach tgtD envT).map (·.2))
noncomputable def DD (f : Flow) : Sem Flow := match f with
  | .next => execs [] envT
  | f => pure f
noncomputable def valT (t : Sem Value) : Sem Value := do let x ← t; standAt posE; pure x
theorem exec1 : execs [st 12] envT = (exec (st 12) envT).bind DD := by kernel_rfl
theorem exec2 : exec (st 12) envT = (standAt posD >>= fun _ => (swapsWithSole tgtD dictE posD.line envT >>= fun b => if b then (do
      evalThenUse dictE envT fun v => assignAll v ((assignEach tgtD envT).map (·.2))
      pure .next) else eval dictE envT >>= CD)) := by kernel_rfl
theorem exec3 : swapsWithSole tgtD dictE posD.line envT = pure false := by kernel_rfl
theorem exec4 : eval dictE envT = (Sem.at posE fun _ => dictDisplay ((evalEachOpt ksD envT).zip ((evalEach vsD envT).map valT))) := by kernel_rfl
theorem execD : execs [st 12] envT = ((Sem.at posD fun _ => eval dictE envT).bind CD).bind DD := by
  rw [exec1, exec2, exec3]
  rfl
noncomputable def mkIts : List (Option PySem.Expr) → List PySem.Expr → List (Sem Value × Sem Value)
  | some k :: ks, v :: vs => (eval k envT, valT (eval v envT)) :: mkIts ks vs
  | _, _ => []
/-- the display's rows, read off it -/
noncomputable def rowE (k : Option PySem.Expr) (v : PySem.Expr) : (Int × Nat × Pos) × (PySem.Str × Nat × Pos) :=
  (match k with
    | some (.Constant (.int i) a b) => (i, a, b)
    | _ => (0, 0, posE), match v with
    | .Constant (.str x) a b => (x, a, b)
    | _ => (Str.empty, 0, posE))
noncomputable def keyE (q : (Int × Nat × Pos) × (PySem.Str × Nat × Pos)) : Option PySem.Expr := some (.Constant (.int q.1.1) q.1.2.1 q.1.2.2)
noncomputable def valE (q : (Int × Nat × Pos) × (PySem.Str × Nat × Pos)) : PySem.Expr := .Constant (.str q.2.1) q.2.2.1 q.2.2.2
noncomputable def rowsD : List ((Int × Nat × Pos) × (PySem.Str × Nat × Pos)) := List.zipWith rowE ksD vsD
theorem ks_form : ksD = rowsD.map keyE := by kernel_rfl
theorem vs_form : vsD = rowsD.map valE := by kernel_rfl
theorem zip_form0 : ∀ qs : List ((Int × Nat × Pos) × (PySem.Str × Nat × Pos)), (evalEachOpt (qs.map keyE) envT).zip ((evalEach (qs.map valE) envT).map valT) = (mkIts (qs.map keyE) (qs.map valE)).map fun q => (some q.1, q.2)
  | [] => rfl
  | q :: qs => by
    have ih := zip_form0 qs
    show ((some (eval (.Constant (.int q.1.1) q.1.2.1 q.1.2.2) envT), valT (eval (valE q) envT)) :: (evalEachOpt (qs.map keyE) envT).zip ((evalEach (qs.map valE) envT).map valT)) = _
    rw [ih]
    rfl
theorem zip_form : (evalEachOpt ksD envT).zip ((evalEach vsD envT).map valT) = (mkIts ksD vsD).map fun q => (some q.1, q.2) := by
  have h := zip_form0 rowsD
  rwa [← ks_form, ← vs_form] at h
theorem items_of0 {p : Program} {w : World} {n₀ : Nat} {ann : Option Value} : ∀ qs : List ((Int × Nat × Pos) × (PySem.Str × Nat × Pos)), Items p w n₀ ann (mkIts (qs.map keyE) (qs.map valE)) (dataOf (qs.map keyE) (qs.map valE))
  | [] => .nil
  | q :: qs => by
    refine .cons ⟨fun n s Q q => ?_, fun n s Q q => ?_⟩ (items_of0 qs)
    · exact q
    · exact q
theorem items_of {p : Program} {w : World} {n₀ : Nat} {ann : Option Value} : Items p w n₀ ann (mkIts ksD vsD) (dataOf ksD vsD) := by
  have h := items_of0 (p := p) (w := w) (n₀ := n₀) (ann := ann) rowsD
  rwa [← ks_form, ← vs_form] at h
noncomputable def rising : List Int → Bool
  | a :: b :: r => decide (a < b) && rising (b :: r)
  | _ => true
theorem rising_lt : ∀ (l : List Int) (a : Int), rising (a :: l) = true → ∀ b ∈ l, a < b
  | [], _, _, _, h => (nomatch h)
  | c :: r, a, h, b, hb => by
    simp only [rising, Bool.and_eq_true, decide_eq_true_eq] at h
    rcases List.mem_cons.mp hb with rfl | hb
    · exact h.1
    · have := rising_lt r c h.2 b hb; omega
theorem rising_nodup : ∀ (l : List Int), rising l = true → l.Nodup
  | [], _ => .nil
  | a :: r, h => by
    refine List.nodup_cons.mpr ⟨fun q => ?_, ?_⟩
    · have := rising_lt r a h a q; omega
    · cases r with
      | nil => exact .nil
      | cons b r => simp only [rising, Bool.and_eq_true] at h; exact rising_nodup _ h.2
theorem hash_small {k : Int} (h0 : 0 ≤ k) (h1 : k < 2 ^ 60) : hashInt k = k := by
  have h2 : rawHash k = k := by
    simp only [rawHash]
    have : (k.natAbs : Int) % ((2 ^ 61 - 1 : Nat) : Int) = k := by
      rw [Int.emod_eq_of_lt (by omega) (by have : ((2 ^ 61 - 1 : Nat) : Int) = 2 ^ 61 - 1 := rfl; omega)]; omega
    simp only [if_neg (show ¬ k < 0 by omega), this]
    split
    · rename_i e; have := beq_iff_eq.mp e; omega
    · rfl
  unfold hashInt
  rw [h2]
  split
  · rename_i e; have := beq_iff_eq.mp e; omega
  · rfl
theorem keys_good : (rising (pairsB3.map (·.1)) && (pairsB3.map (·.1)).all fun k => decide (0 ≤ k) && decide (k < 2 ^ 60)) = true := by decide +kernel
theorem good_pairs : GoodKeys (pairsB3.map (·.1)) := by
  have h := keys_good
  rw [Bool.and_eq_true] at h
  refine ⟨rising_nodup _ h.1, fun k hk => ?_⟩
  have := List.all_eq_true.mp h.2 k hk
  simp only [Bool.and_eq_true, decide_eq_true_eq] at this
  exact hash_small this.1 this.2
theorem len_pairs : pairsB3.length = 650 := by decide +kernel
theorem list_len (t : BT) (n : Nat) : (t.list n).length = n := by unfold BT.list; rw [List.length_map, List.length_range]
theorem tail_eq (P : Params) : (TX P).list 177 = (TC P).list 138 ++ (dictOb (entsFrom 382 3 (pairsB3.take (17 * (37 + 1))) ++ entsFrom (382 + 51 * (37 + 1)) 2 (pairsB3.drop (17 * (37 + 1)))) :: (List.range 37).map (subOb 382 pairsB3) ++ [dictOb (entsFrom (382 + 51 * (37 + 1)) 2 (pairsB3.drop (17 * (37 + 1))))]) := by kernel_rfl
noncomputable def KD : Value → Sem Fin := fun v => (CD v).wrap (fun a => (DD a).wrap doneF deadEnd id id) (fun e => (Sem.raise e : Sem Flow).wrap doneF deadEnd id id) id id
noncomputable def HDe : Value → Sem Fin := fun e => (Sem.raise e : Sem Flow).wrap (fun a => (DD a).wrap doneF deadEnd id id) (fun e => (Sem.raise e : Sem Flow).wrap doneF deadEnd id id) id id
theorem wrap_two (Y : Sem Value) : ((Y.bind CD).bind DD).wrap doneF deadEnd id id = Y.wrap KD HDe id id := by
  rw [Sem.bind_eq_wrap, Sem.bind_eq_wrap, Sem.wrap_wrap, Sem.wrap_wrap]
  rfl
theorem segD2 (w : World) (os : OsState) (pos : Pos) : segRunT treeTable pw w 11 annT 1 20 (shT TX 177 2332 w os) ⟨KD (.ref 138), cT, pos, [topFrame q0]⟩ = some (.next, shT TD 177 2333 w os, cT, ⟨48, 0, 48, 13⟩) := seg_q (by kernel_rfl)
noncomputable def itsD : List (Option (Sem Value) × Sem Value) := (mkIts ksD vsD).map fun q => (some q.1, q.2)
noncomputable def S0 (w : World) (os : OsState) : Shared := { (⟨{}, #[], {}, 0, os⟩ : Shared) with heap := HL ((TC w.params).list 138) [], toks := 382 }
noncomputable def endL : List Obj := dictOb (entsFrom 382 3 (pairsB3.take (17 * (37 + 1))) ++ entsFrom (382 + 51 * (37 + 1)) 2 (pairsB3.drop (17 * (37 + 1)))) :: (List.range 37).map (subOb 382 pairsB3) ++ [dictOb (entsFrom (382 + 51 * (37 + 1)) 2 (pairsB3.drop (17 * (37 + 1))))]
noncomputable def S1 (w : World) (os : OsState) : Shared := { (⟨{}, #[], {}, 0, os⟩ : Shared) with heap := HL ((TC w.params).list 138) endL, toks := 382 + 51 * (37 + 1) + 3 * 4 }
theorem abs_X (w : World) (os : OsState) : (shT TX 177 2332 w os).abs = S1 w os := by
  have : absHeap (TX w.params) 177 {} = HL ((TC w.params).list 138) endL := by
    unfold absHeap HL
    rw [show (TX w.params).list 177 = (TC w.params).list 138 ++ endL from tail_eq w.params]
  unfold SharedT.abs shT S1
  dsimp only
  rw [this]
noncomputable def QD (w : World) (os : OsState) (n : Nat) (a : Value) (s : Shared) : Prop := n ≤ 26800 ∧ a = .ref 138 ∧ s = S1 w os
theorem qD (w : World) (os : OsState) (m : Nat) (hm : m ≤ 2 + 40 * pairsB3.length + 600) : QD w os m (.ref ((TC w.params).list 138).length) (S1 w os) := by
  rw [len_pairs] at hm
  exact ⟨by omega, congrArg Value.ref (list_len _ _), rfl⟩
theorem evD (w : World) (os : OsState) : EvI pw w 11 annT (dictDisplay itsD) (QD w os) (0 + 2) (S0 w os) := by
  unfold itsD S0
  exact evI_display (q := 37) (r := 4) (by rw [list_len]; omega) (by rw [list_len]; omega) items_of good_pairs (by show pairsB3.length ≤ _; rw [len_pairs]; omega) (by show pairsB3.length = _; rw [len_pairs]) (by omega) (by omega) (fun m hm => qD w os m hm)
theorem abs_C (w : World) (os : OsState) : (shT TC 138 382 w os).abs = S0 w os := by
  have : absHeap (TC w.params) 138 {} = HL ((TC w.params).list 138) [] := by unfold absHeap HL; rw [List.append_nil]
  unfold SharedT.abs shT S0
  dsimp only
  rw [this]
theorem wrapD : (execs [st 12] envT).wrap doneF deadEnd id id = Sem.wrap KD HDe id id (Sem.at posD fun _ => Sem.at posE fun _ => dictDisplay itsD) := by
  rw [execD, exec4, zip_form, wrap_two]
  rfl
theorem goD (w : World) (os : OsState) (pos : Pos) : ∃ d pos', d ≤ 26800 ∧ segGo treeTable pw w 11 annT 1 d (S0 w os) ⟨(execs [st 12] envT).wrap doneF deadEnd id id, cT, pos, [topFrame q0]⟩ = some (S1 w os, ⟨KD (.ref 138), cT, pos', [topFrame q0]⟩) := by
  obtain ⟨d, a, s', pos', ⟨hd, rfl, rfl⟩, h⟩ := evI_sound KD HDe cT (topFrame q0) _ _ pos (evI_at2 (q₁ := posD) (q₂ := posE) (evD w os))
  rw [wrapD]
  exact ⟨d, pos', by omega, h⟩
theorem segD0 (w : World) (os : OsState) (pos pos' : Pos) (d : Nat) (h : segGo treeTable pw w 11 annT 1 d (S0 w os) ⟨(execs [st 12] envT).wrap doneF deadEnd id id, cT, pos, [topFrame q0]⟩ = some (S1 w os, ⟨KD (.ref 138), cT, pos', [topFrame q0]⟩)) :
    segRun treeTable pw w 11 annT 1 (d + 20) (S0 w os) (piecesOf [st 12] envT cT pos [topFrame q0]) = some (.next, (shT TD 177 2333 w os).abs, cT, ⟨48, 0, 48, 13⟩) := by
  rw [← abs_X] at h
  exact seg_go h (segRun_of (segD2 w os pos'))
theorem segD (w : World) (os : OsState) (pos : Pos) : ∃ n, n ≤ 27000 ∧ segRun treeTable pw w 11 annT 1 n (shT TC 138 382 w os).abs (piecesOf [st 12] envT cT pos [topFrame q0]) = some (.next, (shT TD 177 2333 w os).abs, cT, ⟨48, 0, 48, 13⟩) := by
  rw [abs_C]
  obtain ⟨d, pos', hd, h⟩ := goD w os pos
  exact ⟨d + 20, by omega, segD0 w os pos pos' d h⟩
end
end
section
set_option maxHeartbeats 0
section
open PySem PySem.W PySem.Calls PyProof.Rows
noncomputable def RowsAt (P : World → Prop) : Prop := ∀ w, P w
theorem segB (w : World) (os : OsState) : segRunT treeTable pw w 11 annT 1 999 (shT TA 120 315 w os) (piecesOf [st 10] envT cT ⟨44, 0, 44, 8⟩ [topFrame q0]) = some (.next, shT TB 131 375 w os, cT, ⟨45, 0, 45, 6⟩) :=
  byRow2 (P := fun w => ∀ os, segRunT treeTable pw w 11 annT 1 999 (shT TA 120 315 w os) (piecesOf [st 10] envT cT ⟨44, 0, 44, 8⟩ [topFrame q0]) = some (.next, shT TB 131 375 w os, cT, ⟨45, 0, 45, 6⟩)) "special-get-raises"
    (fun w os => seg_q (by kernel_rfl)) (fun w os => seg_q (by kernel_rfl)) w os
theorem segC (w : World) (os : OsState) : segRunT treeTable pw w 11 annT 1 30 (shT TB 131 375 w os) (piecesOf [st 11] envT cT ⟨45, 0, 45, 6⟩ [topFrame q0]) = some (.next, shT TC 138 382 w os, cT, ⟨46, 0, 47, 30⟩) := seg_q (by kernel_rfl)
theorem segE (w : World) (os : OsState) : segRunT treeTable pw w 11 annT 1 188 (shT TD 177 2333 w os) (piecesOf [st 13, st 14, st 15, st 16, st 17, st 18, st 19] envT cT ⟨48, 0, 48, 13⟩ [topFrame q0]) = some (.next, shT TE 215 2385 w os, cT, ⟨105, 0, 132, 23⟩) := seg_q (by kernel_rfl)
noncomputable def boot0 (w : World) (os : OsState) : Shared := ⟨boot_heap w.params, Array.mk [], boot_drawn, boot_toks, os⟩
theorem pre0 (w : World) (os : OsState) : topGo treeTable pw w 11 annT 12 (boot0 w os) (topStub pw) = some ((shT TP 15 187 w os).abs, ⟨denote treeTable cT, cT, q0, [topFrame q0]⟩) := by kernel_rfl
theorem blk0 (w : World) (os : OsState) : segRun treeTable pw w 11 annT 1 1 (shT TP 15 187 w os).abs (blockOf bT envT cT q0 [topFrame q0]) = some (.next, (shT TP 15 187 w os).abs, cT, q0) := by kernel_rfl
theorem bT_eq : bT = [st 0, st 1, st 2, st 3, st 4, st 5, st 6, st 7, st 8, st 9] ++ ([st 10] ++ ([st 11] ++ ([st 12] ++ ([st 13, st 14, st 15, st 16, st 17, st 18, st 19] ++ [])))) := by kernel_rfl
theorem fin0 (w : World) (os : OsState) : topRun treeTable pw w 11 annT 2 (shT TE 215 2385 w os).abs ⟨doneF .next, cT, ⟨105, 0, 132, 23⟩, [topFrame q0]⟩ = some (shT TE 215 2385 w os).abs := by kernel_rfl
theorem run0 (w : World) (os : OsState) : topRun treeTable pw w 11 annT 28877 (boot0 w os) (topStub pw) = some (shT TE 215 2385 w os).abs := by
  obtain ⟨n, hn, hD⟩ := segD w os ⟨46, 0, 47, 30⟩
  have h := go_top (pre0 w os) (piece_block (blk0 w os) (by
    rw [bT_eq]
    exact piece_app (segRun_of (segA w os)) (piece_app (segRun_of (segB w os)) (piece_app (segRun_of (segC w os)) (piece_app hD (piece_app (segRun_of (segE w os)) (piece_nil (fin0 w os))))))))
  have m := topRun_mono (27000 - n) _ _ _ _ h
  rw [show 12 + (1 + (645 + (999 + (30 + (n + (188 + 2)))))) + (27000 - n) = 28877 by omega] at m
  exact m
end
end
section
set_option maxHeartbeats 0
section
open PySem PySem.W PySem.Calls PyProof.Rows
noncomputable def q60 : Program := { pw with main := { pw.main with body := [st 0, st 2, st 3, st 4, st 5, st 7, st 8, st 10, st 11, st 12, st 13, st 15, st 16, st 17, st 18, st 19] } }
noncomputable def loose60 : List PySem.Str := [Str.ofString "_Accumulator", Str.ofString "b1_set", Str.ofString "b3_exceptions"]
noncomputable def Xt60 (s : Shared) : Bool := xlAt q60 [] s && recOk PySem.Challenge.rw_wf0060_01.row.records s
noncomputable def endS (w : World) (os : OsState) : Shared := (shT TE 215 2385 w os).abs
theorem look1 (w : World) (os : OsState) : (staticsOk (importedModules pw.main.body) (boot_heap w.params) (endS w os).heap && namesBound pw (endS w os).heap && gensDone (endS w os) && laidKept (boot_heap w.params) (endS w os).heap) = true := by kernel_rfl
/-- rising keys lie apart: no need to hold each against each -/
noncomputable def risD (a : Int) : List (PyData × PyData) → Bool
  | [] => true
  | (.int b, _) :: D => decide (a < b) && risD b D
  | _ :: _ => false
theorem ris_has : ∀ (D : List (PyData × PyData)) (a k : Int), k ≤ a → risD a D = true → hasIntKey k D = false
  | [], _, _, _, _ => rfl
  | (.int b, v) :: D, a, k, hk, h => by
    have h : (decide (a < b) && risD b D) = true := h
    rw [Bool.and_eq_true, decide_eq_true_eq] at h
    show ((b == k) || hasIntKey k D) = false
    rw [ris_has D b k (Int.le_of_lt (Int.lt_of_le_of_lt hk h.1)) h.2, Bool.or_false, beq_eq_false_iff_ne]
    exact (Int.ne_of_lt (Int.lt_of_le_of_lt hk h.1)).symm
  | (.none, _) :: _, _, _, _, h => nomatch (h : false = true)
  | (.bool _, _) :: _, _, _, _, h => nomatch (h : false = true)
  | (.str _, _) :: _, _, _, _, h => nomatch (h : false = true)
  | (.list _, _) :: _, _, _, _, h => nomatch (h : false = true)
  | (.tuple _, _) :: _, _, _, _, h => nomatch (h : false = true)
  | (.dict _, _) :: _, _, _, _, h => nomatch (h : false = true)
theorem ris_apart : ∀ (D : List (PyData × PyData)) (a : Int), risD a D = true → keysApartInt D = true
  | [], _, _ => rfl
  | (.int b, v) :: D, a, h => by
    have h : (decide (a < b) && risD b D) = true := h
    rw [Bool.and_eq_true] at h
    show (!hasIntKey b D && keysApartInt D) = true
    rw [ris_has D b b (Int.le_refl _) h.2, ris_apart D b h.2]; rfl
  | (.none, _) :: _, _, h => nomatch (h : false = true)
  | (.bool _, _) :: _, _, h => nomatch (h : false = true)
  | (.str _, _) :: _, _, h => nomatch (h : false = true)
  | (.list _, _) :: _, _, h => nomatch (h : false = true)
  | (.tuple _, _) :: _, _, h => nomatch (h : false = true)
  | (.dict _, _) :: _, _, h => nomatch (h : false = true)
noncomputable def apartF (D : List (PyData × PyData)) : Bool := if risD (-1) D = true then true else keysApartInt D
theorem apart_eq : keysApartInt = apartF := by
  funext D
  unfold apartF
  split
  · exact ris_apart D _ (by assumption)
  · rfl
theorem tup9 {α β γ δ ε ζ η θ ι : Type} {a a' : α} {b b' : β} {c c' : γ} {d d' : δ} {e e' : ε} {f f' : ζ} {g g' : η} {h h' : θ} {i i' : ι} (h1 : a = a') (h2 : b = b') (h3 : c = c') (h4 : d = d') (h5 : e = e') (h6 : f = f') (h7 : g = g') (h8 : h = h') (h9 : i = i') :
    (a, b, c, d, e, f, g, h, i) = (a', b', c', d', e', f', g', h', i') := by rw [h1, h2, h3, h4, h5, h6, h7, h8, h9]
theorem and7 {a b c d e f g : Bool} (h1 : a = true) (h2 : b = true) (h3 : c = true) (h4 : d = true) (h5 : e = true) (h6 : f = true) (h7 : g = true) : (a && b && c && d && e && f && g) = true := by rw [h1, h2, h3, h4, h5, h6, h7]; rfl
theorem lo1 (w : World) (os : OsState) : seen ((recsOf q60).map (·.name)) (ownsOf q60) [] { endS w os with gens := #[] } = expectedOf q60 := by kernel_rfl
theorem lo2 (w : World) (os : OsState) : (endS w os).heap.bltView = bltViewBooted := by kernel_rfl
theorem lo31 (w : World) (os : OsState) : (endS w os).heap.keysOk (looseW q60 loose60) ((recsOf q60).map (·.name)) ((litsOf q60).map (·.1)) ((clssOf q60 (looseW q60 loose60)).map (·.name)) = true := by kernel_rfl
theorem lo32 (w : World) (os : OsState) : (endS w os).heap.accountedOkI (importedModules pw.main.body) = true := by kernel_rfl
theorem lo33 (w : World) (os : OsState) : (endS w os).heap.isNs mainGlobals = true := by kernel_rfl
theorem lo34 (w : World) (os : OsState) : (endS w os).heap.isNs builtinsNs = true := by kernel_rfl
theorem lo35 (w : World) (os : OsState) : tablesOk q60 (endS w os).heap = true := by
  unfold tablesOk Heap.tabIntOk
  rw [apart_eq]
  kernel_rfl
theorem lo36 (w : World) (os : OsState) : Xt60 (endS w os) = true := by kernel_rfl
theorem lo37 (w : World) (os : OsState) : (if true = true then (endS w os).gens.size == 0 else !leftWithCleanup (endS w os).gens) = true := by kernel_rfl
theorem lo4 (w : World) (os : OsState) : tabsOk q60 (endS w os) = true := by kernel_rfl
theorem lo5 (w : World) (os : OsState) : pinSeenD q60 (drecsOf q60) (endS w os) = pinGoodD (drecsOf q60) := by kernel_rfl
theorem lo6 (w : World) (os : OsState) : plainSeenE q60 (looseW q60 loose60) (endS w os) = plainGoodE q60 (looseW q60 loose60) := by kernel_rfl
theorem lo7 (w : World) (os : OsState) : plainSeenD q60 loose60 (endS w os) = plainGoodD q60 loose60 := by kernel_rfl
theorem lo8 (w : World) (os : OsState) : wideSeen q60 (endS w os) = wideGood q60 := by kernel_rfl
theorem lo9 (w : World) (os : OsState) : clsSeenW q60 loose60 (endS w os) = clsGoodW q60 loose60 := by kernel_rfl
theorem look2 (w : World) (os : OsState) : openSeen q60 loose60 (importedModules pw.main.body) Xt60 true (endS w os) = openGood q60 loose60 := by
  unfold openSeen openGood
  exact tup9 (lo1 w os) (lo2 w os) (and7 (lo31 w os) (lo32 w os) (lo33 w os) (lo34 w os) (lo35 w os) (lo36 w os) (lo37 w os)) (lo4 w os) (lo5 w os) (lo6 w os) (lo7 w os) (lo8 w os) (lo9 w os)
theorem size0 (w : World) : ((boot_heap w.params).isNs mainGlobals && (Array.mk [] : Array GenState).size == 0, (boot_heap w.params).objs.size, (boot_heap w.params).nsMap mainGlobals "__annotations__") = (true, 11, annT) := by kernel_rfl
theorem open0 : ∀ w : World, (fencedOpening treeTable pw w 30000).map (fun s => (s.heap, s.gens, s.drawn, s.toks)) = some (boot_heap w.params, Array.mk [], boot_drawn, boot_toks) :=
  boot_open (by kernel_rfl) (by decide) (fun s => by kernel_rfl)
theorem left60 {α : Type} {Yf : Shared → α} {Ya : World → α} (hY : ∀ w os, Yf (endS w os) = Ya w) : LeftO pw q60 loose60 Xt60 Yf Ya 30000 :=
  LeftO.of_pieces (H₀ := boot_heap) (H₁ := fun P => absHeap (TE P) 215 {}) (gs₀ := Array.mk []) (gs₁ := #[]) (d₀ := boot_drawn) (d₁ := {}) (k₀ := boot_toks) (k₁ := 2385) (m₀ := 11) (ann := annT) (M := 28877)
    open0 size0 (fun w os => run0 w os) (by decide) (fun w => funext fun os => by
      have h1 := look1 w os
      have h2 := look2 w os
      have h3 := hY w os
      exact Prod.ext h1 (Prod.ext h2 h3))
end
end
section
set_option maxHeartbeats 8000000
section
open PySem PySem.W PySem.Calls PyProof.Rows
/-- the two tables, as they stand -/
noncomputable def Tabs2 (w : World) (h : Heap) : Prop := h.get? 127 = some (o127 w.params) ∧ h.get? 138 = some (o138 w.params)
/-- the part written out, and the two tables (the set hangs on the world) -/
noncomputable def hook60 (H : Hook) : Hook :=
  ⟨H.α × (Option Obj × Option Obj), fun s => (H.obs s, s.heap.get? 127, s.heap.get? 138), fun w => (H.val w, some (o127 w.params), some (o138 w.params)), fun w h => H.says w h ∧ Tabs2 w h,
   fun w s e => ⟨H.of w s (congrArg Prod.fst e), congrArg (fun x => x.2.1) e, congrArg (fun x => x.2.2) e⟩, fun w h h' x k => ⟨H.keeps w h h' x.1 k, k _ _ x.2.1, k _ _ x.2.2⟩⟩
/-- the head, whatever part is written out -/
theorem head60 (H : Hook) (hl : LeftO pw q60 loose60 Xt60 (Hook.obs (hook60 H)) (Hook.val (hook60 H)) 30000) {d : DefRec} {kwd : List (Str × PySem.Expr)}
    (hdef : defOf q60 PySem.Challenge.rw_wf0060_01.row.name = some (d, kwd)) (hp : pw.theDef PySem.Challenge.rw_wf0060_01.row.name = some (d.params, d.body, d.scope)) (hk : kwWritten? d.params.kwonlyargs d.params.kw_defaults = some kwd)
    (k1 : PySem.Challenge.rw_wf0060_01.row.wellSaid = true) (hw : PySem.Challenge.rw_wf0060_01.row.toRowW.promised)
    (hc : WalkO q60 loose60 (XL q60 []) (Hook.says (hook60 H)) PySem.Challenge.rw_wf0060_01.row.toRowW d kwd fun f vs => PySem.call f vs) : PySem.Challenge.rw_wf0060_01.row.Holds :=
  holds_open (q := q60) (loose := loose60) (Xt := Xt60) (XP := XL q60 []) (YP := Hook.says (hook60 H)) hl (Hook.of (hook60 H)) (Hook.keeps (hook60 H)) (fun s e => xl_of s (Bool.and_eq_true_iff.mp e).1) XL.keeps hdef hp hk
    (fun s e => recFacts_of (Bool.and_eq_true_iff.mp e).2) (by rfl) k1 (by decide +kernel) ⟨rfl, rfl, rfl, rfl, rfl, by decide +kernel⟩ hw hc
local macro_rules | `(tactic| o_head $H) => `(tactic| refine head60 $H (left60 fun w os => Prod.ext (by kernel_rfl) (Prod.ext (by kernel_rfl) (by kernel_rfl))) (by rfl) (by rfl) (by rfl) (by assumption) ?hw ?hc)
/-- the law is well said: look by look -/
theorem said60 : PySem.Challenge.rw_wf0060_01.wellSaid = true := by
  unfold OpenLaw.wellSaid OpenRow.wellSaid OpenRow.partSaid looksOpen
  repeat (refine look_both ?_ ?_)
  all_goals decide +kernel
local macro_rules | `(tactic| o_law) => `(tactic| refine holds_law said60 fun said => ?_)
open_top hd for PySem.Challenge.rw_wf0060_01
end
end
section
section
open PySem PySem.W PySem.Calls PyProof.Rows PySem.Spec
/-- names the row, so that the lines find what was written out -/
noncomputable abbrev Fill (_ : OpenLaw) : Prop := True
/-- what a call of a def does, told once: in whatever frame, whatever was made before -/
noncomputable abbrev Cut (w : World) (mean : ExcName → Option Value) (mg mb : Str → Option Value) (f : Addr) (D U : Nat) (vs : List Value)
   (R : Heap → Addr → (Str → Option Value) → List (Addr × Obj) → Shared → (Value → Shared → Prop) → Prop) : Prop :=
  Fill PySem.Challenge.rw_wf0060_01 → ∀ (dp un : Nat) (gd : Option (List Code)) (cn : Str) (cs : Scope) (a : Addr) (ccd : Value) (cl : List (Str × Addr)) (outer : List Env) (A₀ : Around) (base h₀ : Heap) (L : Addr) (m : Str → Option Value) (s : Shared) (Q E : Value → Shared → Prop) (news : List (Addr × Obj)),
    Below A₀ base outer h₀ → Fr h₀ L s.heap m → (Mine.hd.heap_1 w.params).In h₀ → News h₀ L s.heap news → Top q60 (looseW q60 loose60) mean mg mb h₀ → cs.kind = .function → Tabs2 w base → dp + D < recursionLimit → un + U < cLine →
    R h₀ L m news s Q →
      wpAny (model pw w) (ktrTop dp un gd cn cs L a ccd cl outer) (call (.ref f) vs) Q E s
/-- a plain value comes back; nothing else is told -/
noncomputable abbrev Gives (v : Tok → Value) (h₀ : Heap) (L : Addr) (m : Str → Option Value) (news : List (Addr × Obj)) (s : Shared) (Q : Value → Shared → Prop) : Prop :=
  ∀ (t : Tok) (h' : Heap) (tk' : Nat), Fr h₀ L h' m → News h₀ L h' news → Q (v t) { s with heap := h', toks := tk' }
theorem Cut.use {w : World} {mean : ExcName → Option Value} {mg mb : Str → Option Value} {f : Addr} {D U : Nat} {vs : List Value} {R : Heap → Addr → (Str → Option Value) → List (Addr × Obj) → Shared → (Value → Shared → Prop) → Prop} (h : Cut w mean mg mb f D U vs R)
    {dp un : Nat} {gd : Option (List Code)} {cn : Str} {cs : Scope} {a : Addr} {ccd : Value} {cl : List (Str × Addr)} {outer : List Env} {A₀ : Around} {base h₀ : Heap} {L : Addr} {m : Str → Option Value} {s : Shared} {Q E : Value → Shared → Prop} {news : List (Addr × Obj)}
    (k1 : Below A₀ base outer h₀) (k2 : Fr h₀ L s.heap m) (k3 : (Mine.hd.heap_1 w.params).In h₀) (k4 : News h₀ L s.heap news) (k5 : Top q60 (looseW q60 loose60) mean mg mb h₀) (k6 : cs.kind = .function) (k7 : Tabs2 w base) (k8 : dp + D < recursionLimit) (k9 : un + U < cLine) (r : R h₀ L m news s Q) :
    wpAny (model pw w) (ktrTop dp un gd cn cs L a ccd cl outer) (call (.ref f) vs) Q E s := h trivial dp un gd cn cs a ccd cl outer A₀ base h₀ L m s Q E news k1 k2 k3 k4 k5 k6 k7 k8 k9 r
theorem room {a n L : Nat} (b : Nat) (h : a + n < L) (hb : Nat.ble b n = true) : a + b < L := Nat.lt_of_le_of_lt (Nat.add_le_add_left (Nat.le_of_ble_eq_true hb) a) h
theorem room2 {a c n L : Nat} (b : Nat) (h : a + n < L) (hb : Nat.ble (c + b) n = true) : a + c + b < L := by rw [Nat.add_assoc]; exact room _ h hb
end
end
local macro_rules | `(tactic| walk_at "own room") => `(tactic| first | exact room _ (by with_reducible assumption) rfl | exact room2 _ (by with_reducible assumption) rfl | ktr_room | ktr_units)
section
set_option maxHeartbeats 8000000
section
open PySem PySem.W PySem.Calls PyProof.Rows PySem.Spec
variable (w : World) (mean : ExcName → Option Value) (mg mb : Str → Option Value)
/-- a made list comes back, ahead of what stood in the ledger -/
noncomputable abbrev GivesList (vs : List Value → Prop) (h₀ : Heap) (L : Addr) (m : Str → Option Value) (news : List (Addr × Obj)) (s : Shared) (Q : Value → Shared → Prop) : Prop :=
  ∀ (l : Addr) (xs : List Value) (h' : Heap) (tk' : Nat), vs xs → (∀ p ∈ news, p.1 < l) → Fr h₀ L h' m → News h₀ L h' ((l, W.listOf xs.toArray 0) :: news) → Q (.ref l) { s with heap := h', toks := tk' }
/-- the parts that a figure names -/
noncomputable def partsOf (x : Int) : List Int := if x < 2 then [] else if x < 7 then [x - 2] else [Int.fdiv (x - 7) 5, Int.fmod (x - 7) 5]
theorem cut_parts (x : Int) (tk : Tok) : Cut w mean mg mb 204 1 8 [.int x tk] (GivesList fun xs => IntsAre xs (partsOf x)) := by
  unfold Cut; k_fill; w_top off
  intro _ dp un gd cn cs a ccd cl outer A₀ base h₀ L m s Q E news B F X N T hk hb hd hu hret
  refine wpAny_call ?_
  k_dflt cell_enter
  k_steps
  all_goals refine hret _ _ _ _ ?_ (by assumption) (by assumption) (by assumption)
  all_goals show IntsAre _ (partsOf x)
  · rw [partsOf, if_pos (by assumption)]; exact .nil
  · rw [partsOf, if_neg (by assumption), if_pos (by assumption)]; exact .cons _ _ .nil
  · rw [partsOf, if_neg (by assumption), if_neg (by assumption)]; exact .cons _ _ (.cons _ _ .nil)
end
end
section
section
open PySem PySem.W PySem.Calls PyProof.Rows PySem.Spec
/-- a turn's end: what the loop holds stands in the ledger behind the iterator's own -/
noncomputable def FreeEnd (h₀ : Heap) (L : Addr) (J : (Str → Option Value) → List (Addr × Obj) → Prop) (own : List (Addr × Obj)) (s₁ s₂ : Shared) : Prop :=
  ∃ h' tk m' nx, s₂ = { s₁ with heap := h', toks := tk } ∧ Fr h₀ L h' m' ∧ News h₀ L h' (own ++ nx) ∧ (∀ p ∈ nx, ∀ q ∈ own, p.1 ≠ q.1) ∧ J m' nx
noncomputable def FreePost (h₀ : Heap) (L : Addr) (J : (Str → Option Value) → List (Addr × Obj) → Prop) (own : List (Addr × Obj)) (s₁ : Shared) (Q : Flow → Shared → Prop) (f : Flow) (s₂ : Shared) : Prop :=
  match f with
  | .ret v => Q (.ret v) s₂
  | .brk => Q .next s₂
  | _ => FreeEnd h₀ L J own s₁ s₂
section
variable {prog : Program} {w : World} {A : Around} {E : Value → Shared → Prop} {s : Shared} {env : Env} {h₀ : Heap} {x : Str} {body : List Stmt} {Q : Flow → Shared → Prop}
theorem loop_free {I : Addr} {fp wr : List Addr} {n : Nat} {P : Nat → Value → Prop} {St : Nat → Heap → Prop} {m₀ : Str → Option Value} {news : List (Addr × Obj)} (J : Nat → (Str → Option Value) → List (Addr × Obj) → Prop)
    (W : Walks prog w A I fp wr n P St) (live : ∀ i h, St i h → ∀ b ∈ fp, ∃ o, h.get? b = some o) (hLf : env.locals ∉ fp) (hwr : ∀ b ∈ wr, h₀.get? b = none) (hnf : ∀ p ∈ news, p.1 ∉ fp) (hst : St 0 s.heap) (F : Fr h₀ env.locals s.heap m₀) (N : News h₀ env.locals s.heap news) (hj : J 0 m₀ news)
    (turn : ∀ i v m₁ news₁ h tk own, i < n → P i v → (∀ p ∈ news₁, ∀ q ∈ own, p.1 ≠ q.1) → J i m₁ news₁ → Fr h₀ env.locals h (fun y => if y = x then some v else m₁ y) → News h₀ env.locals h (own ++ news₁) →
      wpAny (model prog w) A (execs body env) (FreePost h₀ env.locals (J (i + 1)) own { s with heap := h, toks := tk } Q) E { s with heap := h, toks := tk })
    (done : ∀ m₁ news₁ h tk, J n m₁ news₁ → Fr h₀ env.locals h m₁ → News h₀ env.locals h news₁ → Q .next { s with heap := h, toks := tk }) :
    LoopAtV prog w A h₀ env x body Q E (.ref I) s := by
  have hnw : ∀ p ∈ news, p.1 ∉ wr := fun p hp q => hnf p hp (W.sub _ q)
  refine ⟨I, fp, wr, n, P, St, m₀, news, (fun i m₁ nx => (∀ p ∈ nx, p.1 ∉ fp) ∧ J i m₁ nx), rfl, W, hLf, hwr, hnw, hst, F, N, ⟨hnf, hj⟩, ?_, ?_⟩
  · rintro i v m₁ news₁ s₁ own ⟨hh', tk', rfl⟩ hin hP ⟨hfp, hJ⟩ hoff hown _ hall hst₁ F₁ N₁
    refine wpAny_mono (turn i v m₁ news₁ hh' tk' own hin hP (fun p hp q hq e => hfp p hp (e ▸ hown q hq)) hJ F₁ N₁) (fun f s₂ p => ?_) fun _ _ e => e
    have fin : FreeEnd h₀ env.locals (J (i + 1)) own { s with heap := hh', toks := tk' } s₂ → LoopStepU h₀ env.locals wr own (fun m₁ nx => (∀ p ∈ nx, p.1 ∉ fp) ∧ J (i + 1) m₁ nx) { s with heap := hh', toks := tk' } .next s₂ := by
      rintro ⟨h', tk, m', nx, e, F', N', ha, hm⟩
      have hx : ∀ p ∈ nx, p.1 ∉ fp := fun p hp hq => by
        obtain ⟨o, ho⟩ := live _ _ hst₁ _ hq
        exact ha p hp (p.1, o) (hall _ hq (N' p (List.mem_append_right _ hp)).2.2 o ho) rfl
      exact ⟨rfl, h', tk, m', nx, e, F', N', fun p hp hq => hx p hp (W.sub _ hq), hx, hm⟩
    cases f with
    | ret v => exact .ret p
    | brk => exact .brk p
    | next => exact .next (fin p)
    | cont => exact .cont (fin p)
  · rintro h' tk m' news' F' N' _ ⟨_, hJ⟩
    exact done m' news' h' tk hJ F' N'
theorem FreeEnd.intro {L : Addr} {J : (Str → Option Value) → List (Addr × Obj) → Prop} {own nx : List (Addr × Obj)} {s₁ : Shared} {h' : Heap} {tk : Nat} {m' : Str → Option Value}
    (F : Fr h₀ L h' m') (N : News h₀ L h' (own ++ nx)) (ha : ∀ p ∈ nx, ∀ q ∈ own, p.1 ≠ q.1) (hj : J m' nx) : FreeEnd h₀ L J own s₁ { s₁ with heap := h', toks := tk } := ⟨h', tk, m', nx, rfl, F, N, ha, hj⟩
/-- over a text's signs -/
theorem text_loop {xt : Str} {tx : Tok} {m₀ : Str → Option Value} {news : List (Addr × Obj)} (J : List Nat → (Str → Option Value) → List (Addr × Obj) → Prop)
    (hh : A.handled = none) (F : Fr h₀ env.locals s.heap m₀) (N : News h₀ env.locals s.heap news) (hj : J [] m₀ news)
    (turn : ∀ pre c post t m₁ news₁ h tk own, xt.cps.toList = pre ++ c :: post → (∀ p ∈ news₁, ∀ q ∈ own, p.1 ≠ q.1) → J pre m₁ news₁ → Fr h₀ env.locals h (fun y => if y = x then some (.str ⟨#[c]⟩ t) else m₁ y) → News h₀ env.locals h (own ++ news₁) →
      wpAny (model prog w) A (execs body env) (FreePost h₀ env.locals (J (pre ++ [c])) own { s with heap := h, toks := tk } Q) E { s with heap := h, toks := tk })
    (done : ∀ m₁ news₁ h tk, J xt.cps.toList m₁ news₁ → Fr h₀ env.locals h m₁ → News h₀ env.locals h news₁ → Q .next { s with heap := h, toks := tk }) :
    wpAny (model prog w) A (pyIter (.str xt tx)) (fun it s₂ => LoopAtV prog w A h₀ env x body Q E it s₂) E s := by
  have main : ∀ (o : Obj) (St : Nat → Heap → Prop), Walks prog w A s.heap.objs.size [s.heap.objs.size] [s.heap.objs.size] xt.cps.size (SignAt xt) St → (∀ i h, St i h → ∃ o, h.get? s.heap.objs.size = some o) → St 0 (s.heap.push o) →
      LoopAtV prog w A h₀ env x body Q E (.ref s.heap.objs.size) { s with heap := s.heap.push o } := by
    intro o St W live hst
    refine loop_free (fun i m nx => J (xt.cps.toList.take i) m nx) W (fun i h st b hb => ?_) ?_ ?_ ?_ hst (F.push _) (fun p hp => ⟨Heap.get?_push_of_some _ (N p hp).1, (N p hp).2⟩) (by simpa using hj) ?_ ?_
    · rw [List.mem_singleton.mp hb]; exact live i h st
    · intro hm
      exact absurd F.ns.lt ((List.mem_singleton.mp hm) ▸ Nat.lt_irrefl _)
    · intro b' hb
      rw [List.mem_singleton.mp hb]
      exact next_is_new F
    · intro p hp hI
      exact absurd (Heap.lt_size (N p hp).1) ((List.mem_singleton.mp hI) ▸ Nat.lt_irrefl _)
    · rintro i v m₁ news₁ h tk own hi ⟨c, u, hn, rfl⟩ hoff hJ F₁ N₁
      have hn' : xt.cps.toList[i]? = some c := by simpa using hn
      have hs : xt.cps.toList.take (i + 1) = xt.cps.toList.take i ++ [c] := by simp [List.take_add_one, hn']
      have e : xt.cps.toList = xt.cps.toList.take i ++ c :: xt.cps.toList.drop (i + 1) := by
        have ht := List.take_append_drop (i + 1) xt.cps.toList
        rw [hs, List.append_assoc] at ht
        exact ht.symm
      show wpAny _ _ _ (FreePost h₀ env.locals (J (xt.cps.toList.take (i + 1))) own _ Q) _ _
      rw [hs]
      exact turn _ c _ u m₁ news₁ h tk own e hoff hJ F₁ N₁
    · rintro m₁ nx h tk hJ F₁ N₁
      rw [← Array.length_toList, List.take_length] at hJ
      exact done m₁ nx h tk hJ F₁ N₁
  cases ha : xt.cps.all (· < 128)
  · exact wpAny_pyIter_wide ha (main _ _ (Walks.strWide hh _ xt tx) (fun i h st => let ⟨o, ho, _⟩ := st; ⟨o, ho⟩) ⟨_, Heap.get?_push_size _ rfl, rfl, rfl⟩)
  · exact wpAny_pyIter_ascii ha (main _ _ (Walks.strAscii hh _ xt tx) (fun i h st => let ⟨o, ho, _⟩ := st; ⟨o, ho⟩) ⟨_, Heap.get?_push_size _ rfl, rfl, rfl⟩)
end
end
end
section
set_option maxHeartbeats 8000000
section
open PySem PySem.W PySem.Calls PyProof.Rows PySem.Spec
theorem owner_rv : Manifest.owners.lookup (String.ofList ['d', 'e', 's', 'r', 'e', 'v', 'e', 'r'].reverse) = some Manifest.sig_reversed := by kernel_rfl
theorem slot_rv_next : Slot "reversed" "__next__" "reversed.__next__" :=
  .of (owner := "reversed") (n := "__next__") (by rw [typeLookup_type, builtinLookup_eq_fast]; kernel_rfl) (by decide +kernel) (by decide +kernel) (by decide +kernel)
    (by first | exact .inl (by decide +kernel) | exact .inr (by decide +kernel)) (by rw [isSubtype_type]; kernel_rfl)
theorem entry_rv_next : entryFor table "reversed.__next__" = some Builtin.«reversed.__next__» := entryFor_of_tree (by kernel_rfl)
theorem args_rv_next (a : Value) : argsOk "reversed.__next__" ⟨[a], []⟩ := by unfold argsOk; kernel_rfl
theorem slot_rv_iter : Slot "reversed" "__iter__" "reversed.__iter__" :=
  .of (owner := "reversed") (n := "__iter__") (by rw [typeLookup_type, builtinLookup_eq_fast]; kernel_rfl) (by decide +kernel) (by decide +kernel) (by decide +kernel)
    (by first | exact .inl (by decide +kernel) | exact .inr (by decide +kernel)) (by rw [isSubtype_type]; kernel_rfl)
theorem args_rv_iter (a : Value) : argsOk "reversed.__iter__" ⟨[a], []⟩ := by unfold argsOk; kernel_rfl
theorem entry_rv_iter : entryFor table "reversed.__iter__" = some Builtin.«dict_keyiterator.__iter__» :=
  entryFor_alias (id' := "dict_keyiterator.__iter__") (by kernel_rfl) (by first | rfl | decide +kernel | (unfold String.splitOn; simp +decide [String.splitOnAux])) (by decide +kernel) (by kernel_rfl)
theorem slot_rv_init : Slot "reversed" "__init__" "object.__init__" :=
  .of (owner := "object") (n := "__init__") (by rw [typeLookup_type, builtinLookup_eq_fast]; kernel_rfl) (by decide +kernel) (by decide +kernel) (by decide +kernel)
    (by first | exact .inl (by decide +kernel) | exact .inr (by decide +kernel)) (by rw [isSubtype_type]; kernel_rfl)
theorem called_rv : TypeCalled "reversed" "reversed.__new__" "object.__init__" :=
  ⟨by decide +kernel, by decide +kernel, ⟨_, _, PySem.F.mro_reversed⟩, PySem.F.made_reversed, by decide +kernel, by rw [isSubtype_type]; kernel_rfl, slot_rv_init⟩
/-- the object that reversed makes of a text -/
noncomputable abbrev rvObj (x : PySem.Str) (t : Tok) (i : Int) : Obj := { cls := .type "reversed", data := .fields #[.str x t, rawInt i] }
theorem no_str_reversed : typeLookup (.type "str") "__reversed__" = pure none := by rw [typeLookup_type, builtinLookup_eq_fast]; kernel_rfl
theorem sub_str_dict : isSubtype (.type "str") (.type "dict") = pure false := by rw [isSubtype_type]; kernel_rfl
theorem meets_reversed_new {prog : Program} {w : World} (x : PySem.Str) (t : Tok) (hz : x.length < 4096) :
    MeetsIn prog w (Builtin.«reversed.__new__» ⟨[.type "reversed", .str x t], []⟩) (fun _ R s =>
      R (.ok (.ret (.ref s.heap.objs.size))) { s with heap := s.heap.push (rvObj x t ((x.length : Int) - 1)), toks := s.toks + 2 }) := fun A R s h => by
  have hT : ∀ s : Shared, s.TypeIs (.str x t) "str" := fun s => typeIs_str s x t
  unfold Builtin.«reversed.__new__»
  refine wpAny_bind (wpAny_of_eq (newClass_reversed _) ?_)
  try dsimp only
  refine wpAny_bind (wpAny_of_eq (a := ()) (by first | rfl | kernel_rfl) ?_)
  refine wpAny_bind (wpAny_of_eq (a := ()) (by first | rfl | kernel_rfl) ?_)
  refine wpAny_bind (wpAny_specialOf (hT _) no_str_reversed ?_)
  try dsimp only
  refine wpAny_bind (wpAny_bind (wpAny_isInstance (hT _) sub_str_dict ?_))
  rw [if_neg Bool.false_ne_true]
  refine wpAny_bind (wpAny_specialOf (hT _) PySem.F.slot_str_getitem.lookup ?_)
  dsimp only
  rw [if_pos (by decide)]
  refine wpAny_pure ?_
  rw [if_neg (by decide)]
  refine wpAny_bind (P.len_str (by omega) ?_)
  refine wpAny_bind (wpAny_of_eq (a := some (x.length : Int)) (by first | rfl | kernel_rfl) ?_)
  dsimp only
  show wpAny _ _ (newObj (.type "reversed") (.fields #[.str x t, rawInt ((x.length : Int) - 1)]) >>= fun r => ret r) _ _ _
  refine wpAny_bind (wpAny_newObj_type (wpAny_pure ?_))
  exact h
theorem call_reversed_str {prog : Program} {w : World} {A : Around} {E : Value → Shared → Prop} {s : Shared} {x : PySem.Str} {t : Tok} {Q : Value → Shared → Prop} (hz : x.length < 4096)
    (h : Q (.ref s.heap.objs.size) { s with heap := s.heap.push (rvObj x t ((x.length : Int) - 1)), toks := s.toks + 2 }) : wpAny (model prog w) A (call (.type "reversed") [.str x t]) Q E s := by
  refine callType_newIn called_rv (by decide) (PySem.F.typeCall_reversed_1 _) (PySem.F.newCall_reversed_1 _) (fun obj => PySem.F.args_object_init_2 obj _) PySem.F.entry_reversed_new (meets_reversed_new x t hz) ?_
  exact ⟨⟨_, Heap.get?_push_size _ rfl, rfl⟩, h⟩
/-- the iterator where it stands -/
noncomputable def IsRv (h : Heap) (a : Addr) (x : PySem.Str) (t : Tok) (i : Int) : Prop := ∃ o, h.get? a = some o ∧ o.cls = .type "reversed" ∧ o.data = .fields #[.str x t, rawInt i]
theorem IsRv.typeIs {s : Shared} {a : Addr} {x : PySem.Str} {t : Tok} {i : Int} (y : IsRv s.heap a x t i) : s.TypeIs (.ref a) "reversed" := let ⟨o, ho, hc, _⟩ := y; ⟨o, ho, hc⟩
theorem IsRv.at {h h' : Heap} {a : Addr} {x : PySem.Str} {t : Tok} {i : Int} (y : IsRv h a x t i) (e : ∀ o, h.get? a = some o → h'.get? a = some o) : IsRv h' a x t i := let ⟨o, ho, r⟩ := y; ⟨o, e _ ho, r⟩
section
variable {prog : Program} {w : World} {A : Around} {E : Value → Shared → Prop} {s : Shared} {x : PySem.Str} {t : Tok}
theorem next_rv_item {it : Addr} {i : Nat} {c : Nat} {Q : Option Value → Shared → Prop} (hit : IsRv s.heap it x t (i : Int)) (hz : x.length < 4096) (hx : x.cps[i]? = some c)
    (hQ : ∀ h' t' tk', IsRv h' it x t ((i : Int) - 1) → Heap.SameBut it s.heap h' → Q (some (.str ⟨#[c]⟩ t')) { s with heap := h', toks := tk' }) : wpAny (model prog w) A (pyNext (.ref it)) Q E s := by
  obtain ⟨o, ho, hc, hd⟩ := id hit
  have hi : i < x.length := by
    have := (Array.getElem?_eq_some_iff.mp hx).1
    exact this
  unfold pyNext
  refine wpAny_bind (wpAny_attempt (wpAny_callSpecial?_slot (name := Str.ofString "__next__") hit.typeIs slot_rv_next
    (wpAny_call_entry slot_rv_next hit.typeIs entry_rv_next ?_ (args_rv_next _))))
  unfold Builtin.«reversed.__next__»
  refine wpAny_bind (wpAny_of_eq (a := (Value.ref it, [])) rfl ?_)
  try dsimp only
  refine wpAny_bind (wpAny_field ho hd (x := .str x t) rfl ?_)
  refine wpAny_bind (wpAny_field ho hd (x := rawInt (i : Int)) rfl ?_)
  show wpAny _ _ (if (i : Int) < 0 then _ else _) _ _ s
  rw [if_neg (by omega)]
  refine wpAny_bind (wpAny_specialOf (typeIs_str s x t) PySem.F.slot_str_getitem.lookup ?_)
  rw [if_neg (by decide)]
  refine wpAny_bind (wpAny_mkInt (wpAny_bind (wpAny_attempt (P.getItem_str (c := c) ?_ ?_ ?_))))
  · simp only [Bool.or_eq_false_iff, decide_eq_false_iff_not]; omega
  · have e : seqIndex? (i : Int) x.length = some i := PyProof.Rows.seqIndex_at (by omega) (by omega)
    rw [e]; exact hx
  dsimp only
  refine wpAny_bind (wpAny_field (s := { s with toks := _ }) ho hd (x := rawInt (i : Int)) rfl ?_)
  dsimp only [rawInt]
  refine wpAny_bind (wpAny_setField (s := { s with toks := _ }) ho hd (by simp) ?_)
  refine wpAny_pure ⟨_, rfl, wpAny_pure (hQ _ _ _ ?_ (Heap.SameBut.update ..))⟩
  exact ⟨_, Heap.get?_update_self _ ho (Obj.isFreed_of_fields (Obj.data_mapFields hd _)), (Obj.cls_mapFields ..).trans hc, by
    rw [Obj.data_mapFields hd]; simp [rawInt]⟩
theorem next_rv_end {it : Addr} {Q : Option Value → Shared → Prop} (hh : A.handled = none) (hit : IsRv s.heap it x t (-1))
    (hQ : ∀ h', Heap.ExtBut it s.heap h' → Q none { s with heap := h' }) : wpAny (model prog w) A (pyNext (.ref it)) Q E s := by
  obtain ⟨o, ho, hc, hd⟩ := id hit
  unfold pyNext
  refine wpAny_bind (wpAny_attempt (wpAny_callSpecial?_slot (name := Str.ofString "__next__") hit.typeIs slot_rv_next
    (wpAny_call_entry slot_rv_next hit.typeIs entry_rv_next ?_ (args_rv_next _))))
  unfold Builtin.«reversed.__next__»
  refine wpAny_bind (wpAny_of_eq (a := (Value.ref it, [])) rfl ?_)
  try dsimp only
  refine wpAny_bind (wpAny_field ho hd (x := .str x t) rfl ?_)
  refine wpAny_bind (wpAny_field ho hd (x := rawInt (-1)) rfl ?_)
  show wpAny _ _ (if (-1 : Int) < 0 then _ else _) _ _ s
  rw [if_pos (by decide)]
  refine wpAny_bind (wpAny_rule ?_)
  refine wpAny_bind ?_
  have hf1 : (Obj.mapFields (·.setIfInBounds 1 (rawInt (-1))) o).isFreed = false := Obj.isFreed_of_fields (Obj.data_mapFields hd _)
  have g1 : (s.heap.update it (Obj.mapFields (·.setIfInBounds 1 (rawInt (-1))))).get? it = some (Obj.mapFields (·.setIfInBounds 1 (rawInt (-1))) o) := Heap.get?_update_self _ ho hf1
  have d1 := Obj.data_mapFields hd (·.setIfInBounds 1 (rawInt (-1)))
  show wpAny _ _ (setField (.ref it) 1 (rawInt (-1)) >>= fun _ => setField (.ref it) 0 .none) _ _ _
  refine wpAny_bind (wpAny_setField ho hd (by simp) (wpAny_setField g1 d1 (by simp) ?_))
  have k1 : Heap.ExtBut it s.heap ((s.heap.update it (Obj.mapFields (·.setIfInBounds 1 (rawInt (-1))))).update it (Obj.mapFields (·.setIfInBounds 0 .none))) := fun b o hb e =>
    (Heap.SameBut.update ..).extBut b o hb ((Heap.SameBut.update ..).extBut b o hb e)
  refine wpAny_bind ?_
  show wpAny _ _ (newExc (.type "StopIteration") [] >>= _) _ _ _
  refine wpAny_bind ?_
  simp only [newExc, newTuple]
  refine wpAny_bind (wpAny_newObj_type ?_ (by size_fits))
  refine wpAny_bind (m := firstArgMember _ _) (wpAny_of_eq (a := Value.none) (by first | rfl | (simp only [firstArgMember]; rfl)) ?_)
  refine wpAny_newObj_type ?_ (by size_fits)
  simp only [raiseNew]
  refine wpAny_bind (wpAny_handled ?_)
  first | rw [show A.in1.handled = none from hh] | rw [hh]
  refine wpAny_bind (wpAny_pure (wpAny_throw ?_))
  refine wpAny_bind (wpAny_isInstance (T := "StopIteration") (b := true) ⟨_, Heap.get?_push_size _ rfl, rfl⟩ isSubtype_stop ?_)
  exact wpAny_pure (hQ _ ((k1.push _).push _))
theorem iter_rv {it : Addr} {i : Int} {Q : Value → Shared → Prop} (hit : IsRv s.heap it x t i) (h : Q (.ref it) s) : wpAny (model prog w) A (pyIter (.ref it)) Q E s := by
  refine wpAny_pyIter_slot hit.typeIs slot_rv_iter (wpAny_call_entry slot_rv_iter hit.typeIs entry_rv_iter ?_ (args_rv_iter _))
  show wpAny _ _ (ret (.ref it)) _ _ s
  exact wpAny_pure ⟨_, rfl, "reversed", _, hit.typeIs, slot_rv_next.lookup, h⟩
end
theorem walks_rv {prog : Program} {w : World} {A : Around} (hh : A.handled = none) (I : Addr) (x : PySem.Str) (t : Tok) (hz : x.length < 4096) :
    Walks prog w A I [I] [I] x.length (fun i v => ∃ c t', x.cps[x.length - 1 - i]? = some c ∧ v = .str ⟨#[c]⟩ t') (fun i h => i ≤ x.length ∧ IsRv h I x t ((x.length : Int) - 1 - (i : Int))) where
  sub := fun b hb => hb
  frame := fun _ _ _ y hk => ⟨y.1, y.2.at fun o e => hk I (by simp) o e⟩
  item := fun i s Q E hi y hQ => by
    have e : (x.length : Int) - 1 - (i : Int) = ((x.length - 1 - i : Nat) : Int) := by omega
    have hit := y.2
    rw [e] at hit
    have hlt : x.length - 1 - i < x.cps.size := by show _ < x.length; omega
    have hx : x.cps[x.length - 1 - i]? = some (x.cps[x.length - 1 - i]'hlt) := Array.getElem?_eq_getElem hlt
    refine next_rv_item hit hz hx fun h' t' tk' hit' hs' => ?_
    have e2 : ((x.length - 1 - i : Nat) : Int) - 1 = (x.length : Int) - 1 - ((i + 1 : Nat) : Int) := by omega
    rw [e2] at hit'
    exact hQ _ h' tk' ⟨_, _, hx, rfl⟩ ⟨hi, hit'⟩ fun b o hb eo => hs'.extBut b o (fun h => hb (by simp [h])) eo
  done := fun s Q E y hQ => by
    have e : (x.length : Int) - 1 - (x.length : Int) = -1 := by omega
    have hit := y.2
    rw [e] at hit
    exact next_rv_end hh hit fun h' he' => hQ h' s.toks fun b o hb eo => he' b o (fun h => hb (by simp [h])) eo
  self := fun _ _ _ _ y hQ => iter_rv y.2 hQ
end
end
section
set_option maxHeartbeats 8000000
section
open PySem PySem.W PySem.Calls PyProof.Rows PySem.Spec
section
variable {prog : Program} {w : World} {A : Around} {E : Value → Shared → Prop} {s : Shared} {env : Env} {h₀ : Heap} {target : PySem.Expr} {body : List Stmt} {Q : Flow → Shared → Prop}
/-- a loop whose iterator is one object; what it walks over stands in the ledger -/
theorem turns_one {I : Addr} {n : Nat} {P : Nat → Value → Prop} {St : Nat → Heap → Prop} {m₀ : Str → Option Value} {news keep : List (Addr × Obj)} (J : Nat → (Str → Option Value) → List (Addr × Obj) → Prop)
    (W : Walks prog w A I (I :: keep.map (·.1)) [I] n P St) (live : ∀ i h, St i h → ∃ o, h.get? I = some o)
    (hLI : env.locals ≠ I) (hLk : ∀ p ∈ keep, env.locals ≠ p.1) (hI₀ : h₀.get? I = none) (hst : St 0 s.heap) (F : Fr h₀ env.locals s.heap m₀) (N : News h₀ env.locals s.heap news)
    (hnI : ∀ p ∈ news, p.1 ≠ I) (hj : J 0 m₀ news) (hkeep : ∀ i m nx, J i m nx → ∀ p ∈ keep, p ∈ nx)
    (turn : ∀ i v m₁ news₁ h tk it, i < n → P i v → (∀ p ∈ news₁, p.1 ≠ I) → J i m₁ news₁ → Fr h₀ env.locals h m₁ → News h₀ env.locals h ((I, it) :: news₁) →
      wpAny (model prog w) A (assign target env v) (fun _ s₂ => wpAny (model prog w) A (execs body env) (FreePost h₀ env.locals (J (i + 1)) [(I, it)] { s with heap := h, toks := tk } Q) E s₂) E { s with heap := h, toks := tk })
    (done : ∀ m₁ news₁ h tk, (∀ p ∈ news₁, p.1 ≠ I) → J n m₁ news₁ → Fr h₀ env.locals h m₁ → News h₀ env.locals h news₁ → Q .next { s with heap := h, toks := tk })
    (ht : ∀ it v, letOwnedTupleGo target it v = pure () := by intro _ _; rfl) :
    TurnsAt prog w A h₀ env target body Q E (.ref I) s := by
  refine ⟨I, _, _, n, _, _, St, m₀, news, J, rfl, KTurns.ofWalks W fun i v s Q E _ q => wpAny_of_eq (ht _ _) q, ?_, ?_, ?_, hst, F, N, hj, ?_, ?_⟩
  · intro hm
    rcases List.mem_cons.mp hm with e | hm
    · exact hLI e
    · obtain ⟨p, hp, e⟩ := List.mem_map.mp hm
      exact hLk p hp e.symm
  · intro b hb
    rw [List.mem_singleton.mp hb]; exact hI₀
  · intro p hp hI
    exact hnI p hp (List.mem_singleton.mp hI)
  · intro i v m₁ news₁ h₁ tk₁ own hin hP hJ hoff hown hget hall hst₁ F₁ N₁
    obtain ⟨it, hit⟩ := live _ _ hst₁
    have hnI₁ : ∀ p ∈ news₁, p.1 ≠ I := fun p hp e => hoff p hp (List.mem_singleton.mpr e)
    have hmem := hall I (List.mem_cons_self ..) hI₀ _ hit
    have N₂ : News h₀ env.locals h₁ ((I, it) :: news₁) := fun p hp => by
      rcases List.mem_cons.mp hp with rfl | hp
      · exact N₁ _ (List.mem_append_left _ hmem)
      · exact N₁ _ (List.mem_append_right _ hp)
    refine wpAny_mono (turn i v m₁ news₁ h₁ tk₁ it hin hP hnI₁ hJ F₁ N₂) (fun _ s₂ h₂ => wpAny_mono h₂ (fun f s₃ p => ?_) fun _ _ e => e) fun _ _ e => e
    have fin : FreeEnd h₀ env.locals (J (i + 1)) [(I, it)] { s with heap := h₁, toks := tk₁ } s₃ → LoopStepU h₀ env.locals [I] own (J (i + 1)) { s with heap := h₁, toks := tk₁ } .next s₃ := by
      rintro ⟨h', tk, m', nx, e, F', N', ha, hm⟩
      refine ⟨rfl, h', tk, m', nx, e, F', ?_, ?_, hm⟩
      · rintro ⟨pa, po⟩ hp
        rcases List.mem_append.mp hp with hp | hp
        · have h2 : h₁.get? pa = some po := hget _ hp
          rcases List.mem_cons.mp (hown _ hp) with e1 | hk
          · have e1 : pa = I := e1
            subst e1
            have h6 : it = po := Option.some.inj (hit.symm.trans h2)
            subst h6
            exact N' _ (List.mem_append_left _ (List.mem_singleton.mpr rfl))
          · obtain ⟨⟨qa, qo⟩, hq, e1⟩ := List.mem_map.mp hk
            have e1 : qa = pa := e1
            subst e1
            have h4 : h₁.get? qa = some qo := (N₁ _ (List.mem_append_right _ (hkeep _ _ _ hJ _ hq))).1
            have h6 : qo = po := Option.some.inj (h4.symm.trans h2)
            subst h6
            exact N' _ (List.mem_append_right _ (hkeep _ _ _ hm _ hq))
        · exact N' _ (List.mem_append_right _ hp)
      · intro p hp hI
        exact ha p hp _ (List.mem_singleton.mpr rfl) (List.mem_singleton.mp hI)
    cases f with
    | ret v => exact .ret p
    | brk => exact .brk p
    | next => exact .next (fin p)
    | cont => exact .cont (fin p)
  · rintro h' tk m' news' F' N' ha hJ
    exact done m' news' h' tk (fun p hp e => ha p hp (List.mem_singleton.mpr e)) hJ F' N'
/-- over a range by ones -/
theorem turns_range {r : Addr} {a b : Int} {t u v₀ : Tok} {n : Nat} {m₀ : Str → Option Value} {news : List (Addr × Obj)} (J : Nat → (Str → Option Value) → List (Addr × Obj) → Prop)
    (hh : A.handled = none) (F : Fr h₀ env.locals s.heap m₀) (N : News h₀ env.locals s.heap news) (hr : IsRange s.heap r a b 1 t u v₀) (hsm : Builtin.Range.small a b 1 = true) (hn : Builtin.Range.rangeSize a b 1 = ((n : Nat) : Int)) (hj : J 0 m₀ news)
    (turn : ∀ I i m₁ news₁ h tk t it, i < n → (∀ p ∈ news₁, p.1 ≠ I) → J i m₁ news₁ → Fr h₀ env.locals h m₁ → News h₀ env.locals h ((I, it) :: news₁) →
      wpAny (model prog w) A (assign target env (.int (a + (i : Int)) t)) (fun _ s₂ => wpAny (model prog w) A (execs body env) (FreePost h₀ env.locals (J (i + 1)) [(I, it)] { s with heap := h, toks := tk } Q) E s₂) E { s with heap := h, toks := tk })
    (done : ∀ m₁ news₁ h tk, J n m₁ news₁ → Fr h₀ env.locals h m₁ → News h₀ env.locals h news₁ → Q .next { s with heap := h, toks := tk })
    (ht : ∀ it v, letOwnedTupleGo target it v = pure () := by intro _ _; rfl) :
    wpAny (model prog w) A (pyIter (.ref r)) (fun it s₂ => TurnsAt prog w A h₀ env target body Q E it s₂) E s := by
  refine wpAny_pyIter_range hr hsm ?_
  refine turns_one (keep := []) J (LCg.range_walks hh a n) (fun i h st => ⟨_, st⟩) (Nat.ne_of_lt F.ns.lt) (fun _ hp => nomatch hp) (next_is_new F) ?_ (F.push _) (fun p hp => ⟨Heap.get?_push_of_some _ (N p hp).1, (N p hp).2⟩) (fun p hp => Nat.ne_of_lt (Heap.lt_size (N p hp).1)) hj (fun _ _ _ _ _ hp => nomatch hp) ?_ ?_ ht
  · show IsRangeIter _ _ _ _ _
    rw [hn]; simpa using Heap.get?_push_size _ rfl
  · rintro i v m₁ news₁ h tk it hi ⟨t, rfl⟩ ho hJ F₁ N₁
    exact turn _ i m₁ news₁ h tk t it hi ho hJ F₁ N₁
  · intro m₁ news₁ h tk _ hJ F₁ N₁
    exact done m₁ news₁ h tk hJ F₁ N₁
/-- over a list of the ledger -/
theorem turns_list {ax : Addr} {vs : List Value} {k : Nat} {m₀ : Str → Option Value} {news : List (Addr × Obj)} (J : List Value → (Str → Option Value) → List (Addr × Obj) → Prop)
    (hh : A.handled = none) (F : Fr h₀ env.locals s.heap m₀) (N : News h₀ env.locals s.heap news) (hj : J [] m₀ news) (hkeep : ∀ pre m nx, J pre m nx → (ax, W.listOf vs.toArray k) ∈ nx)
    (turn : ∀ I pre v post m₁ news₁ h tk it, vs = pre ++ v :: post → (∀ p ∈ news₁, p.1 ≠ I) → J pre m₁ news₁ → Fr h₀ env.locals h m₁ → News h₀ env.locals h ((I, it) :: news₁) →
      wpAny (model prog w) A (assign target env v) (fun _ s₂ => wpAny (model prog w) A (execs body env) (FreePost h₀ env.locals (J (pre ++ [v])) [(I, it)] { s with heap := h, toks := tk } Q) E s₂) E { s with heap := h, toks := tk })
    (done : ∀ m₁ news₁ h tk, J vs m₁ news₁ → Fr h₀ env.locals h m₁ → News h₀ env.locals h news₁ → Q .next { s with heap := h, toks := tk })
    (ht : ∀ it v, letOwnedTupleGo target it v = pure () := by intro _ _; rfl) :
    wpAny (model prog w) A (pyIter (.ref ax)) (fun it s₂ => TurnsAt prog w A h₀ env target body Q E it s₂) E s := by
  have hax := N _ (hkeep _ _ _ hj)
  have hl : s.heap.IsList ax vs.toArray := ⟨_, hax.1, rfl, k, rfl⟩
  have hlt : ax < s.heap.objs.size := Heap.lt_size hax.1
  refine wpAny_pyIter_list hl ?_
  refine turns_one (keep := [(ax, W.listOf vs.toArray k)]) (fun i => J (vs.take i)) (Walks.list hh s.heap.objs.size ax (Nat.ne_of_lt hlt) vs.toArray) (fun i h st => let ⟨o, ho, _⟩ := st.1; ⟨o, ho⟩) (Nat.ne_of_lt F.ns.lt) (fun p hp => by rw [List.mem_singleton.mp hp]; exact hax.2.1.symm) (next_is_new F)
    ⟨⟨_, Heap.get?_push_size _ rfl, rfl, rfl⟩, hl.push _⟩ (F.push _) (fun p hp => ⟨Heap.get?_push_of_some _ (N p hp).1, (N p hp).2⟩) (fun p hp => Nat.ne_of_lt (Heap.lt_size (N p hp).1)) (by simpa using hj) (fun i m nx hJ p hp => by rw [List.mem_singleton.mp hp]; exact hkeep _ _ _ hJ) ?_ ?_ ht
  · intro i v m₁ news₁ h tk it hi hP ho hJ F₁ N₁
    have hn' : vs[i]? = some v := by simpa using hP
    have hs : vs.take (i + 1) = vs.take i ++ [v] := by simp [List.take_add_one, hn']
    have e : vs = vs.take i ++ v :: vs.drop (i + 1) := by
      have ht := List.take_append_drop (i + 1) vs
      rw [hs, List.append_assoc] at ht
      exact ht.symm
    show wpAny _ _ _ (fun _ s₂ => wpAny _ _ _ (FreePost h₀ env.locals (J (vs.take (i + 1))) _ _ _) _ _) _ _
    rw [hs]
    exact turn _ _ v _ m₁ news₁ h tk it e ho hJ F₁ N₁
  · intro m₁ news₁ h tk _ hJ F₁ N₁
    rw [List.size_toArray, List.take_length] at hJ
    exact done m₁ news₁ h tk hJ F₁ N₁
/-- over a text from its end -/
theorem turns_rv {I : Addr} {xt : PySem.Str} {tx : Tok} {m₀ : Str → Option Value} {news : List (Addr × Obj)} (J : List Nat → (Str → Option Value) → List (Addr × Obj) → Prop)
    (hh : A.handled = none) (hz : xt.length < 4096) (F : Fr h₀ env.locals s.heap m₀) (N : News h₀ env.locals s.heap ((I, rvObj xt tx ((xt.length : Int) - 1)) :: news)) (hnI : ∀ p ∈ news, p.1 ≠ I) (hj : J [] m₀ news)
    (turn : ∀ pre c post t m₁ news₁ h tk it, xt.cps.toList.reverse = pre ++ c :: post → (∀ p ∈ news₁, p.1 ≠ I) → J pre m₁ news₁ → Fr h₀ env.locals h m₁ → News h₀ env.locals h ((I, it) :: news₁) →
      wpAny (model prog w) A (assign target env (.str ⟨#[c]⟩ t)) (fun _ s₂ => wpAny (model prog w) A (execs body env) (FreePost h₀ env.locals (J (pre ++ [c])) [(I, it)] { s with heap := h, toks := tk } Q) E s₂) E { s with heap := h, toks := tk })
    (done : ∀ m₁ news₁ h tk, J xt.cps.toList.reverse m₁ news₁ → Fr h₀ env.locals h m₁ → News h₀ env.locals h news₁ → Q .next { s with heap := h, toks := tk })
    (ht : ∀ it v, letOwnedTupleGo target it v = pure () := by intro _ _; rfl) :
    wpAny (model prog w) A (pyIter (.ref I)) (fun it s₂ => TurnsAt prog w A h₀ env target body Q E it s₂) E s := by
  have z := N _ (List.mem_cons_self ..)
  refine iter_rv (x := xt) (t := tx) (i := (xt.length : Int) - 1) ⟨_, z.1, rfl, rfl⟩ ?_
  refine turns_one (keep := []) (fun i => J (xt.cps.toList.reverse.take i)) (walks_rv hh I xt tx hz) (fun i h st => let ⟨o, ho, _⟩ := st.2; ⟨o, ho⟩) (fun e => z.2.1 e.symm) (fun _ hp => nomatch hp) z.2.2 ⟨Nat.zero_le _, _, z.1, rfl, by simp⟩ F (fun p hp => N p (.tail _ hp)) hnI (by simpa using hj) (fun _ _ _ _ _ hp => nomatch hp) ?_ ?_ ht
  · rintro i v m₁ news₁ h tk it hi ⟨c, t', hc, rfl⟩ ho hJ F₁ N₁
    have hlen : xt.cps.toList.length = xt.length := by rw [Array.length_toList]; rfl
    have hn' : xt.cps.toList.reverse[i]? = some c := by
      rw [List.getElem?_reverse (by rw [hlen]; exact hi), hlen]
      simpa using hc
    have hs : xt.cps.toList.reverse.take (i + 1) = xt.cps.toList.reverse.take i ++ [c] := by simp only [List.take_add_one, hn', Option.toList_some]
    have e : xt.cps.toList.reverse = xt.cps.toList.reverse.take i ++ c :: xt.cps.toList.reverse.drop (i + 1) := by
      have ht := List.take_append_drop (i + 1) xt.cps.toList.reverse
      rw [hs, List.append_assoc] at ht
      exact ht.symm
    show wpAny _ _ _ (fun _ s₂ => wpAny _ _ _ (FreePost h₀ env.locals (J (xt.cps.toList.reverse.take (i + 1))) _ _ _) _ _) _ _
    rw [hs]
    exact turn _ c _ t' m₁ news₁ h tk it e ho hJ F₁ N₁
  · intro m₁ news₁ h tk _ hJ F₁ N₁
    have hlen : xt.length = xt.cps.toList.reverse.length := by rw [List.length_reverse, Array.length_toList]; rfl
    rw [hlen, List.take_length] at hJ
    exact done m₁ news₁ h tk hJ F₁ N₁
/-- over a text's signs -/
theorem turns_text {xt : PySem.Str} {tx : Tok} {m₀ : Str → Option Value} {news : List (Addr × Obj)} (J : List Nat → (Str → Option Value) → List (Addr × Obj) → Prop)
    (hh : A.handled = none) (F : Fr h₀ env.locals s.heap m₀) (N : News h₀ env.locals s.heap news) (hj : J [] m₀ news)
    (turn : ∀ I pre c post t m₁ news₁ h tk it, xt.cps.toList = pre ++ c :: post → (∀ p ∈ news₁, p.1 ≠ I) → J pre m₁ news₁ → Fr h₀ env.locals h m₁ → News h₀ env.locals h ((I, it) :: news₁) →
      wpAny (model prog w) A (assign target env (.str ⟨#[c]⟩ t)) (fun _ s₂ => wpAny (model prog w) A (execs body env) (FreePost h₀ env.locals (J (pre ++ [c])) [(I, it)] { s with heap := h, toks := tk } Q) E s₂) E { s with heap := h, toks := tk })
    (done : ∀ m₁ news₁ h tk, J xt.cps.toList m₁ news₁ → Fr h₀ env.locals h m₁ → News h₀ env.locals h news₁ → Q .next { s with heap := h, toks := tk })
    (ht : ∀ it v, letOwnedTupleGo target it v = pure () := by intro _ _; rfl) :
    wpAny (model prog w) A (pyIter (.str xt tx)) (fun it s₂ => TurnsAt prog w A h₀ env target body Q E it s₂) E s := by
  have main : ∀ (o : Obj) (St : Nat → Heap → Prop), Walks prog w A s.heap.objs.size [s.heap.objs.size] [s.heap.objs.size] xt.cps.size (SignAt xt) St → (∀ i h, St i h → ∃ o, h.get? s.heap.objs.size = some o) → St 0 (s.heap.push o) →
      TurnsAt prog w A h₀ env target body Q E (.ref s.heap.objs.size) { s with heap := s.heap.push o } := by
    intro o St W live hst
    refine turns_one (keep := []) (fun i m nx => J (xt.cps.toList.take i) m nx) W live (Nat.ne_of_lt F.ns.lt) (fun _ hp => nomatch hp) (next_is_new F) hst (F.push _) (fun p hp => ⟨Heap.get?_push_of_some _ (N p hp).1, (N p hp).2⟩) (fun p hp => Nat.ne_of_lt (Heap.lt_size (N p hp).1)) (by simpa using hj) (fun _ _ _ _ _ hp => nomatch hp) ?_ ?_ ht
    · rintro i v m₁ news₁ h tk it hi ⟨c, u, hn, rfl⟩ ho hJ F₁ N₁
      have hn' : xt.cps.toList[i]? = some c := by simpa using hn
      have hs : xt.cps.toList.take (i + 1) = xt.cps.toList.take i ++ [c] := by simp [List.take_add_one, hn']
      have e : xt.cps.toList = xt.cps.toList.take i ++ c :: xt.cps.toList.drop (i + 1) := by
        have ht := List.take_append_drop (i + 1) xt.cps.toList
        rw [hs, List.append_assoc] at ht
        exact ht.symm
      show wpAny _ _ _ (fun _ s₂ => wpAny _ _ _ (FreePost h₀ env.locals (J (xt.cps.toList.take (i + 1))) _ _ _) _ _) _ _
      rw [hs]
      exact turn _ _ c _ u m₁ news₁ h tk it e ho hJ F₁ N₁
    · rintro m₁ nx h tk _ hJ F₁ N₁
      rw [← Array.length_toList, List.take_length] at hJ
      exact done m₁ nx h tk hJ F₁ N₁
  cases ha : xt.cps.all (· < 128)
  · exact wpAny_pyIter_wide ha (main _ _ (Walks.strWide hh _ xt tx) (fun i h st => let ⟨o, ho, _⟩ := st; ⟨o, ho⟩) ⟨_, Heap.get?_push_size _ rfl, rfl, rfl⟩)
  · exact wpAny_pyIter_ascii ha (main _ _ (Walks.strAscii hh _ xt tx) (fun i h st => let ⟨o, ho, _⟩ := st; ⟨o, ho⟩) ⟨_, Heap.get?_push_size _ rfl, rfl, rfl⟩)
end
end
end
section
set_option maxHeartbeats 8000000
section
open PySem PySem.W PySem.Calls PyProof.Rows PySem.Spec LCg
/-- a text's value -/
noncomputable def Rep (v : Value) (t : List Nat) : Prop := ∃ tk, v = .str ⟨t.toArray⟩ tk
inductive Texts : List Value → List (List Nat) → Prop where
  | nil : Texts [] []
  | cons {v : Value} {t : List Nat} {vs : List Value} {ts : List (List Nat)} : Rep v t → Texts vs ts → Texts (v :: vs) (t :: ts)
theorem Texts.length {vs : List Value} {ts : List (List Nat)} (h : Texts vs ts) : vs.length = ts.length := by
  induction h with
  | nil => rfl
  | cons _ _ ih => simp [ih]
theorem Texts.append {vs vs' : List Value} {ts ts' : List (List Nat)} (h : Texts vs ts) (h' : Texts vs' ts') : Texts (vs ++ vs') (ts ++ ts') := by
  induction h with
  | nil => exact h'
  | cons r _ ih => exact .cons r ih
theorem Texts.snoc {vs : List Value} {ts : List (List Nat)} {v : Value} {t : List Nat} (h : Texts vs ts) (r : Rep v t) : Texts (vs ++ [v]) (ts ++ [t]) := h.append (.cons r .nil)
theorem Texts.at {vs : List Value} {ts : List (List Nat)} (h : Texts vs ts) : ∀ {i : Nat} {v : Value}, vs[i]? = some v → ∃ t, ts[i]? = some t ∧ Rep v t := by
  induction h with
  | nil => intro i v e; cases e
  | cons r _ ih =>
    intro i v e
    cases i with
    | zero => cases e; exact ⟨_, rfl, r⟩
    | succ i => exact ih e
/-- what a clause's items yield -/
noncomputable def pick (p : List Nat → Bool) (g : List Nat → List Nat) (us : List (List Nat)) : List (List Nat) := (us.filter p).map g
theorem pick_len (p : List Nat → Bool) (g : List Nat → List Nat) (us : List (List Nat)) : (pick p g us).length ≤ us.length := by unfold pick; rw [List.length_map]; exact List.length_filter_le ..
theorem pick_snoc (p : List Nat → Bool) (g : List Nat → List Nat) (us : List (List Nat)) (t : List Nat) : pick p g (us ++ [t]) = pick p g us ++ (if p t then [g t] else []) := by
  unfold pick
  rw [List.filter_append, List.map_append]
  cases h : p t <;> simp [List.filter_cons, h]
noncomputable abbrev testsOf (ifs : List PySem.Expr) (env : Env) : Sem Bool := forIn ifs true fun c r => if r = true then do let ok ← isTrue c env (eval c env); pure (ForInStep.yield ok) else pure (ForInStep.yield r)
/-- one turn of the last clause -/
noncomputable def LastTurn (gens : List Comprehension) (scope : Scope) (pos : Pos) (elt iter : PySem.Expr) (y : Str) (py : Pos) (ifs : List PySem.Expr) (d : Nat) : Prop :=
  ∀ it acc env, compTurn (.ListComp elt gens scope pos) d it acc env = (do
      standAt iter.pos
      match ← pyNext it with
      | none => pure (.done .next)
      | some v =>
        letOwnedTupleGo (.Name y py) it v
        assign (.Name y py) env v
        let ok ← testsOf ifs env
        if ok then
          (do let _ ← call (.builtin "list.append") [acc, ← eval elt env])
        again (.compLoop (.ListComp elt gens scope pos) d it acc env))
section
variable {prog : Program} {w : World} {A : Around} {E : Value → Shared → Prop} {s : Shared} {env : Env} {h₀ : Heap} {L : Addr} {m : Str → Option Value} {R : Result → Shared → Prop}
theorem last_any {gens : List Comprehension} {scope : Scope} {pos : Pos} {elt iter : PySem.Expr} {y : Str} {py : Pos} {ifs : List PySem.Expr} {d : Nat} {it acc : Value} (ht : LastTurn gens scope pos elt iter y py ifs d) (I : Nat → Shared → Prop)
    (turn : ∀ n s, I n s → wpAny (model prog w) A (pyNext it) (fun r s₁ => match r with
      | none => R (.ok .next) s₁
      | some v => wpAny (model prog w) A (assign (.Name y py) env v) (fun _ s₂ =>
          wpAny (model prog w) A (testsOf ifs env) (fun ok s₃ =>
            if ok = true then wpAny (model prog w) A (eval elt env) (fun x s₄ =>
              wpAny (model prog w) A (call (.builtin "list.append") [acc, x]) (fun _ s₅ => ∃ m, m < n ∧ I m s₅) (notedBy (model prog w) A env fun e s' => R (.error e) s') s₄) (notedBy (model prog w) A env fun e s' => R (.error e) s') s₃
            else ∃ m, m < n ∧ I m s₃) (notedBy (model prog w) A env fun e s' => R (.error e) s') s₂) (notedBy (model prog w) A env fun e s' => R (.error e) s') s₁) (notedBy (model prog w) A env fun e s' => R (.error e) s') s)
    (n : Nat) (h : I n s) : codeAny (model prog w) A (.compLoop (.ListComp elt gens scope pos) d it acc env) R s := by
  refine codeAny_loop rfl I (fun n s hI => ?_) n h
  show wpAny _ _ ((compTurn (.ListComp elt gens scope pos) d it acc env).onRaise (fun x => do noteFrame x env; theTreesLotGoes x)) _ _ s
  refine wpAny_noted ?_
  rw [ht]
  refine wpAny_bind (wpAny_standAt (wpAny_bind (wpAny_mono (turn n s hI) (fun r s₁ h₁ => ?_) fun _ _ h' => h')))
  cases r with
  | none => exact wpAny_pure h₁
  | some v =>
    refine wpAny_bind (wpAny_of_eq (show letOwnedTupleGo (.Name y py) it v = pure () from rfl) ?_)
    refine wpAny_bind (wpAny_mono h₁ (fun _ s₂ h₂ => wpAny_bind (wpAny_mono h₂ (fun ok s₃ h₃ => ?_) fun _ _ h' => h')) fun _ _ h' => h')
    cases ok with
    | false => exact wpAny_pure ⟨rfl, h₃⟩
    | true =>
      exact wpAny_bind (wpAny_bind (wpAny_mono h₃ (fun x s₄ h₄ => wpAny_bind (wpAny_mono h₄ (fun _ s₅ h₅ => wpAny_pure (wpAny_pure ⟨rfl, h₅⟩)) fun _ _ h' => h')) fun _ _ h' => h'))
theorem last_one (elt iter : PySem.Expr) (y : Str) (py : Pos) (ifs : List PySem.Expr) (scope : Scope) (pos : Pos) : LastTurn [⟨.Name y py, iter, ifs, 0⟩] scope pos elt iter y py ifs 0 := fun it acc env => rfl
theorem last_two (g : Comprehension) (elt iter : PySem.Expr) (y : Str) (py : Pos) (ifs : List PySem.Expr) (scope : Scope) (pos : Pos) : LastTurn [g, ⟨.Name y py, iter, ifs, 0⟩] scope pos elt iter y py ifs 1 := fun it acc env => rfl
/-- the last clause's loop, from one list of texts to what they yield -/
theorem last_loop {gens : List Comprehension} {scope : Scope} {pos : Pos} {cl : List (Str × Addr)} {elt iter : PySem.Expr} {y : Str} {py : Pos} {ifs : List PySem.Expr} {d : Nat} {I C D : Addr} {oI oC : Obj} {mC : Str → Option Value} {n : Nat} {P : Nat → Value → Prop} {St : Nat → Heap → Prop} {rest keep : List (Addr × Obj)}
    {us : List (List Nat)} {p : List Nat → Bool} {g : List Nat → List Nat} {ys : List Value} {ts : List (List Nat)}
    (ht : LastTurn gens scope pos elt iter y py ifs d) (hkind : scope.kind = .function) (hy : scope.names.lookup y = some .local)
    (W : Walks prog w A I (I :: keep.map (·.1)) [I] n P St) (live : ∀ i h, St i h → ∃ o, h.get? I = some o) (hn : n = us.length) (hP : ∀ i v, P i v → ∃ t, us[i]? = some t ∧ Rep v t) (hk : ∀ q ∈ keep, q ∈ rest)
    (hst : St 0 s.heap) (F : Fr h₀ L s.heap m) (N : News h₀ L s.heap ((I, oI) :: (C, oC) :: (D, lst ys) :: rest)) (hC : NsObj oC mC) (off : Off3 I C D rest) (hIC : I ≠ C) (hID : I ≠ D) (hCD : C ≠ D) (hys : Texts ys ts) (hsz : ts.length + us.length ≤ sizeLine)
    (htest : ∀ h tk oC mC' v t (Q : Bool → Shared → Prop) (E' : Value → Shared → Prop), t ∈ us → NsObj oC mC' → mC' y = some v → (∀ z, z ≠ y → mC' z = mC z) → Rep v t → Fr h₀ L h m → News h₀ L h ((C, oC) :: rest) → (∀ tk', Q (p t) { s with heap := h, toks := tk' }) →
      wpAny (model prog w) A (testsOf ifs (compEnvC scope cl C env)) Q E' { s with heap := h, toks := tk })
    (helt : ∀ h tk oC mC' v t (Q E' : Value → Shared → Prop), t ∈ us → p t = true → NsObj oC mC' → mC' y = some v → (∀ z, z ≠ y → mC' z = mC z) → Rep v t → Fr h₀ L h m → News h₀ L h ((C, oC) :: rest) → (∀ z tk', Rep z (g t) → Q z { s with heap := h, toks := tk' }) →
      wpAny (model prog w) A (eval elt (compEnvC scope cl C env)) Q E' { s with heap := h, toks := tk })
    (done : ∀ h tk oC mC' ys', Fr h₀ L h m → News h₀ L h ((C, oC) :: (D, lst ys') :: rest) → NsObj oC mC' → (∀ z, z ≠ y → mC' z = mC z) → Texts ys' (ts ++ pick p g us) → R (.ok .next) { s with heap := h, toks := tk }) :
    codeAny (model prog w) A (.compLoop (.ListComp elt gens scope pos) d (.ref I) (.ref D) (compEnvC scope cl C env)) R s := by
  have off3 := off.mem
  have hCL : C ≠ L := (N (C, oC) (.tail _ (.head _))).2.1
  have hC₀ : h₀.get? C = none := (N (C, oC) (.tail _ (.head _))).2.2
  have hDL : D ≠ L := (N (D, lst ys) (.tail _ (.tail _ (.head _)))).2.1
  have hD₀ : h₀.get? D = none := (N (D, lst ys) (.tail _ (.tail _ (.head _)))).2.2
  have hIL : I ≠ L := (N (I, oI) (.head _)).2.1
  have hI₀ : h₀.get? I = none := (N (I, oI) (.head _)).2.2
  refine last_any ht (fun k s' => ∃ h tk i oI oC mC' ys', s' = { s with heap := h, toks := tk } ∧ i ≤ n ∧ k = n + 1 - i ∧ St i h ∧ Fr h₀ L h m ∧ News h₀ L h ((I, oI) :: (C, oC) :: (D, lst ys') :: rest) ∧ NsObj oC mC' ∧ (∀ z, z ≠ y → mC' z = mC z) ∧ Texts ys' (ts ++ pick p g (us.take i))) ?_ (n + 1)
    ⟨s.heap, s.toks, 0, oI, oC, mC, ys, rfl, Nat.zero_le _, rfl, hst, F, N, hC, fun _ _ => rfl, by simpa [pick] using hys⟩
  rintro k s' ⟨h, tk, i, oI, oC, mC', ys', rfl, hi, rfl, hst, F, N, hC, hmC, hT⟩
  by_cases hlt : i < n
  · refine W.item i _ _ _ hlt hst fun v h₁ tk₁ hPv hst₁ hk₁ => ?_
    obtain ⟨t, hut, hrep⟩ := hP i v hPv
    have hmem : t ∈ us := List.mem_of_getElem? hut
    have htake : us.take (i + 1) = us.take i ++ [t] := by simp [List.take_add_one, hut]
    have hC1 : h₁.Ns C mC' := hC.ns (hk₁ C _ (by simpa using Ne.symm hIC) (N (C, oC) (.tail _ (.head _))).1)
    refine wpAny_assign_Name (wpAny_storeName_local (lookup_relabel_local hy) hC1 (fun h₂ hn₂ hs₂ => ?_) (by simp [compEnvC, relabel, hkind]))
    obtain ⟨oI₂, heI⟩ : ∃ o, h₂.get? I = some o := by
      obtain ⟨o, e⟩ := live _ _ hst₁
      exact ⟨o, hs₂.extBut I o hIC e⟩
    obtain ⟨oC₂, heC, hoC⟩ := ns_obj hn₂
    have F₂ : Fr h₀ L h₂ m := (fr_but F hk₁ (Ne.symm hIL) hI₀).change hs₂ hCL hC₀
    have hD₂ : h₂.get? D = some (lst ys') := hs₂.extBut D _ (Ne.symm hCD) (hk₁ D _ (by simpa using Ne.symm hID) (N (D, lst ys') (.tail _ (.tail _ (.head _)))).1)
    have hr₂ : ∀ q ∈ rest, h₂.get? q.1 = some q.2 := fun q hq => hs₂.extBut _ _ (off3 q hq).2.1 (hk₁ _ _ (by simpa using (off3 q hq).1) (N q (.tail _ (.tail _ (.tail _ hq)))).1)
    have hnr : ∀ q ∈ rest, q.1 ≠ L ∧ h₀.get? q.1 = none := fun q hq => (N q (.tail _ (.tail _ (.tail _ hq)))).2
    have hst₂ : St (i + 1) h₂ := W.frame _ _ _ hst₁ fun b hb o e => by
      rcases List.mem_cons.mp hb with rfl | hb
      · exact hs₂.extBut b o hIC e
      · obtain ⟨q, hq, rfl⟩ := List.mem_map.mp hb
        exact hs₂.extBut _ o (off3 q (hk q hq)).2.1 e
    have N₂ : News h₀ L h₂ ((C, oC₂) :: rest) := fun q hq => by
      rcases List.mem_cons.mp hq with rfl | hq
      · exact ⟨heC, hCL, hC₀⟩
      · exact ⟨hr₂ q hq, hnr q hq⟩
    have hmC₂ : ∀ z, z ≠ y → (fun x => if x = y then some v else mC' x) z = mC z := fun z hz => by simp only [if_neg hz]; exact hmC z hz
    have N₃ : News h₀ L h₂ ((I, oI₂) :: (C, oC₂) :: (D, lst ys') :: rest) := fun q hq => by
      rcases List.mem_cons.mp hq with rfl | hq
      · exact ⟨heI, hIL, hI₀⟩
      · rcases List.mem_cons.mp hq with rfl | hq
        · exact ⟨heC, hCL, hC₀⟩
        · rcases List.mem_cons.mp hq with rfl | hq
          · exact ⟨hD₂, hDL, hD₀⟩
          · exact ⟨hr₂ q hq, hnr q hq⟩
    refine htest h₂ _ oC₂ _ v t _ _ hmem hoC (by simp) hmC₂ hrep F₂ N₂ fun tk₃ => ?_
    by_cases hp : p t = true
    · rw [if_pos hp]
      refine helt h₂ _ oC₂ _ v t _ _ hmem hp hoC (by simp) hmC₂ hrep F₂ N₂ fun z tk₄ hz => ?_
      have hlen := hT.length
      have hpl := pick_len p g (us.take i)
      rw [List.length_append] at hlen
      rw [List.length_take] at hpl
      refine append_at (hsz := by show ys'.toArray.size ≤ sizeLine; rw [List.size_toArray]; omega) hD₂ fun h₅ hs₅ hD₅ => ?_
      refine ⟨n + 1 - (i + 1), by omega, h₅, tk₄, i + 1, oI₂, oC₂, _, ys' ++ [z], rfl, hlt, rfl, W.frame _ _ _ hst₂ fun b hb o e => ?_, F₂.change hs₅ hDL hD₀, fun q hq => ?_, hoC, hmC₂, ?_⟩
      · rcases List.mem_cons.mp hb with rfl | hb
        · exact hs₅.extBut b o hID e
        · obtain ⟨q, hq, rfl⟩ := List.mem_map.mp hb
          exact hs₅.extBut _ o (off3 q (hk q hq)).2.2 e
      · rcases List.mem_cons.mp hq with rfl | hq
        · exact ⟨hs₅.extBut _ _ hID heI, hIL, hI₀⟩
        · rcases List.mem_cons.mp hq with rfl | hq
          · exact ⟨hs₅.extBut _ _ hCD heC, hCL, hC₀⟩
          · rcases List.mem_cons.mp hq with rfl | hq
            · exact ⟨hD₅.trans (congrArg some (lst_snoc ys' z)), hDL, hD₀⟩
            · exact ⟨hs₅.extBut _ _ (off3 q hq).2.2 (hr₂ q hq), hnr q hq⟩
      · rw [htake, pick_snoc, if_pos hp, ← List.append_assoc]
        exact hT.snoc hz
    · rw [if_neg hp]
      refine ⟨n + 1 - (i + 1), by omega, h₂, tk₃, i + 1, oI₂, oC₂, _, ys', rfl, hlt, rfl, hst₂, F₂, N₃, hoC, hmC₂, ?_⟩
      rw [htake, pick_snoc, if_neg hp, List.append_nil]
      exact hT
  · obtain rfl : i = n := Nat.le_antisymm hi (Nat.not_lt.mp hlt)
    refine W.done _ _ _ hst fun h₂ tk₂ hk₂ => ?_
    have hT' : Texts ys' (ts ++ pick p g us) := by rw [hn, List.take_length] at hT; exact hT
    refine done h₂ tk₂ oC mC' ys' (fr_but F hk₂ (Ne.symm hIL) hI₀) (news_but (fun q hq => N q (.tail _ hq)) hk₂ fun q hq => ?_) hC hmC hT'
    rcases List.mem_cons.mp hq with rfl | hq
    · exact Ne.symm hIC
    · rcases List.mem_cons.mp hq with rfl | hq
      · exact Ne.symm hID
      · exact (off3 q hq).1
/-- the block's start -/
theorem comp_begin {g : Comprehension} {gs : List Comprehension} {scope : Scope} {pos : Pos} {cl : List (Str × Addr)} {elt : PySem.Expr} {I : Addr} {oI : Obj} {rest : List (Addr × Obj)} {RR : Value → Addr → Result → Shared → Prop}
    (hga : g.is_async = 0) (hcell : ∀ y ∈ scope.names, y.2 ≠ .cell) (hkind : scope.kind = .function) (F : Fr h₀ L s.heap m) (N : News h₀ L s.heap ((I, oI) :: rest)) (hIr : ∀ q ∈ rest, q.1 ≠ I)
    (hself : ∀ h tk (Q E : Value → Shared → Prop), (∀ b o, s.heap.get? b = some o → h.get? b = some o) → Q (.ref I) { s with heap := h, toks := tk } → wpAny (model prog w) A (pyIter (.ref I)) Q E { s with heap := h, toks := tk })
    (next : ∀ h tk oC mC C D, Fr h₀ L h m → News h₀ L h ((I, oI) :: (C, oC) :: (D, lst []) :: rest) → NsObj oC mC → Off3 I C D rest → I ≠ C → I ≠ D → C ≠ D → (∀ q ∈ rest, q.1 < D) → (∀ b o, s.heap.get? b = some o → h.get? b = some o) →
      codeAny (model prog w) A (.compLoop (.ListComp elt (g :: gs) scope pos) 0 (.ref I) (.ref D) (compEnvC scope cl C env)) (RR (.ref D) C) { s with heap := h, toks := tk }) :
    wpAny (model prog w) A (newList []) (fun acc s₃ => wpAny (model prog w) A (newFunctionEnv scope env.globals cl [] env.qual none .none (some env)) (fun cenv s₄ =>
      codeAny (model prog w) A (.compStart (.ListComp elt (g :: gs) scope pos) 0 (.ref I) acc { cenv with scope := relabel scope env }) (RR acc cenv.locals) s₄) E s₃) E s := by
  obtain ⟨gt, gi, gf, ga⟩ := g
  have hga : ga = 0 := hga
  subst hga
  refine wpAny_newObj_type (wpAny_newFunctionEnv hcell (by intro y hy; simp at hy) (fun h₁ hns₁ hsb₁ => ?_) hkind)
  dsimp only at hns₁ hsb₁ ⊢
  generalize hH2 : s.heap.push { cls := .type "list", dict := none, data := .seq ([] : List Value).toArray } = H2 at hns₁ hsb₁ ⊢
  have hCs : H2.objs.size = s.heap.objs.size + 1 := by rw [← hH2, Heap.size_push]
  have hDC : s.heap.objs.size ≠ H2.objs.size := by rw [hCs]; exact Nat.ne_of_lt (Nat.lt_succ_self _)
  have below : ∀ b, b < s.heap.objs.size → b ≠ H2.objs.size ∧ b ≠ s.heap.objs.size := fun b hb => ⟨by rw [hCs]; exact Nat.ne_of_lt (Nat.lt_succ_of_lt hb), Nat.ne_of_lt hb⟩
  have old : ∀ b o, s.heap.get? b = some o → h₁.get? b = some o := fun b o e => hsb₁.extBut b o (below b (Heap.lt_size e)).1 (Heap.get?_push_of_some _ (hH2 ▸ Heap.get?_push_of_some _ e))
  have hacc : h₁.get? s.heap.objs.size = some (lst []) := hsb₁.extBut _ _ hDC (Heap.get?_push_of_some _ (hH2 ▸ Heap.get?_push_size _ rfl))
  have fresh₀ : ∀ a, s.heap.objs.size ≤ a → h₀.get? a = none := fun a ha => by
    cases e : h₀.get? a with
    | none => rfl
    | some o' => exact absurd (Heap.lt_size (F.keep a o' e)) (Nat.not_lt.mpr ha)
  have hLlt : L < s.heap.objs.size := F.ns.lt
  obtain ⟨oC, heC, hoC⟩ := ns_obj hns₁
  have hIlt : I < s.heap.objs.size := Heap.lt_size (N (I, oI) (.head _)).1
  have loop : ∀ s₃ : Shared, s₃ = { s with heap := h₁, toks := s.toks + ([] : List (Str × Value)).length } →
      codeAny (model prog w) A (.compLoop (.ListComp elt (⟨gt, gi, gf, 0⟩ :: gs) scope pos) 0 (.ref I) (.ref s.heap.objs.size) (compEnvC scope cl H2.objs.size env)) (RR (.ref s.heap.objs.size) H2.objs.size) s₃ := by
    rintro s₃ rfl
    refine next h₁ _ oC _ H2.objs.size s.heap.objs.size (F.keeps old) (fun q hq => ?_) hoC (Off3.of fun q hq => ⟨hIr q hq, ?_, ?_⟩) (below I hIlt).1 (below I hIlt).2 (Ne.symm hDC) (fun q hq => Heap.lt_size (N q (.tail _ hq)).1) old
    · rcases List.mem_cons.mp hq with rfl | hq
      · exact ⟨old _ _ (N (I, oI) (.head _)).1, (N (I, oI) (.head _)).2⟩
      · rcases List.mem_cons.mp hq with rfl | hq
        · exact ⟨heC, Ne.symm (below L hLlt).1, fresh₀ _ (by rw [hCs]; exact Nat.le_succ _)⟩
        · rcases List.mem_cons.mp hq with rfl | hq
          · exact ⟨hacc, Ne.symm (below L hLlt).2, fresh₀ _ (Nat.le_refl _)⟩
          · exact ⟨old _ _ (N q (.tail _ hq)).1, (N q (.tail _ hq)).2⟩
    · exact (below _ (Heap.lt_size (N q (.tail _ hq)).1)).1
    · exact (below _ (Heap.lt_size (N q (.tail _ hq)).1)).2
  refine codeAny_compStart_list (loop _ rfl) (hself h₁ _ _ _ old (loop _ rfl))
end
end
end
section
set_option maxHeartbeats 8000000
section
open PySem PySem.W PySem.Calls PyProof.Rows PySem.Spec LCg
section
variable {prog : Program} {w : World} {A : Around} {E : Value → Shared → Prop} {s : Shared} {env : Env} {h₀ : Heap} {L : Addr} {m : Str → Option Value} {R : Result → Shared → Prop}
/-- a whole evaluated: C is forgotten -/
theorem fin_none {C D : Addr} {oC : Obj} {mC : Str → Option Value} {ys : List Value} {rest : List (Addr × Obj)} {Q : Value → Shared → Prop} (F : Fr h₀ L s.heap m) (N : News h₀ L s.heap ((C, oC) :: (D, lst ys) :: rest)) (hC : NsObj oC mC) (hCD : C ≠ D) (hCr : ∀ q ∈ rest, q.1 ≠ C)
    (h : ∀ h', Fr h₀ L h' m → News h₀ L h' ((D, lst ys) :: rest) → Q (.ref D) { s with heap := h' }) : compPost (model prog w) A E none Q (.ref D) C (.ok .next) s := by
  have z := N (C, oC) (.head _)
  refine ⟨mC, hC.ns z.1, fun h' hs => h h' (F.change hs z.2.1 z.2.2) fun q hq => ?_⟩
  have y := N q (.tail _ hq)
  refine ⟨hs.extBut _ _ ?_ y.1, y.2⟩
  rcases List.mem_cons.mp hq with rfl | hq
  · exact Ne.symm hCD
  · exact hCr q hq
theorem fin_name {C D : Addr} {oC : Obj} {mC : Str → Option Value} {ys : List Value} {rest : List (Addr × Obj)} {y : Str} {py : Pos} {Q : Value → Shared → Prop} (F : Fr h₀ env.locals s.heap m) (N : News h₀ env.locals s.heap ((C, oC) :: (D, lst ys) :: rest)) (hC : NsObj oC mC) (hCD : C ≠ D) (hCr : ∀ q ∈ rest, q.1 ≠ C)
    (hy : env.kindOf y = some .local) (hp : (env.scope.kind == .class || (env.scope.kind == .module && env.locals != env.globals)) = false)
    (h : ∀ h' tk, Fr h₀ env.locals h' (fun z => if z = y then some (.ref D) else m z) → News h₀ env.locals h' ((D, lst ys) :: rest) → Q .none { s with heap := h', toks := tk }) : compPost (model prog w) A E (some (assign (.Name y py) env)) Q (.ref D) C (.ok .next) s := by
  have z := N (C, oC) (.head _)
  show wpAny _ A (assign (.Name y py) env (.ref D)) _ _ _
  refine wpAny_assign_Name (wpAny_storeName_local hy F.ns (fun h₂ hn₂ hs₂ => ?_) hp)
  have hL₀ : h₀.get? env.locals = none := Heap.get?_none_of_le F.above
  have F₂ : Fr h₀ env.locals h₂ (fun z => if z = y then some (.ref D) else m z) := ⟨hn₂, fun b o e => hs₂.extBut b o (fun q => by rw [q, hL₀] at e; cases e) (F.keep b o e), F.above⟩
  refine ⟨mC, (hC.ns z.1).sameBut hs₂ z.2.1, fun h'' hs'' => h h'' _ (F₂.change hs'' z.2.1 z.2.2) (fun q hq => ?_)⟩
  have y := N q (.tail _ hq)
  refine ⟨hs''.extBut _ _ ?_ (hs₂.extBut _ _ y.2.1 y.1), y.2⟩
  rcases List.mem_cons.mp hq with rfl | hq
  · exact Ne.symm hCD
  · exact hCr q hq
theorem start_one {g g' : Comprehension} {scope : Scope} {pos : Pos} {elt : PySem.Expr} {it acc : Value} (ha : g'.is_async = 0)
    (h0 : codeAny (model prog w) A (.compLoop (.ListComp elt [g, g'] scope pos) 1 it acc env) R s)
    (h : wpAny (model prog w) A (pyIter it) (fun it' s' => codeAny (model prog w) A (.compLoop (.ListComp elt [g, g'] scope pos) 1 it' acc env) R s') (notedBy (model prog w) A env fun x s' => R (.error x) s') s) :
    codeAny (model prog w) A (.compStart (.ListComp elt [g, g'] scope pos) 1 it acc env) R s := by
  obtain ⟨gt, gi, gf, ga⟩ := g'
  have ha : ga = 0 := ha
  subst ha
  refine codeAny_of_tree ?_
  show wpAny _ _ ((compStart (.ListComp elt [g, ⟨gt, gi, gf, 0⟩] scope pos) 1 it acc env).onRaise (fun x => do noteFrame x env; standAt theWindowsPlace)) _ _ s
  refine wpAny_notedAt ?_
  unfold compStart
  show wpAny _ _ (ask >>= _) _ _ s
  refine wpAny_bind (wpAny_askSetting (wpAny_ite ?_))
  split
  · first
      | exact wpAny_bind (wpAny_pure (wpAny_pure (And.intro rfl h0)))
      | exact wpAny_pure (And.intro rfl h0)
  · first
      | exact wpAny_bind (wpAny_rule (wpAny_bind (wpAny_standAt (wpAny_bind (wpAny_mono h (fun it' s' h' => wpAny_pure (And.intro rfl h')) fun _ _ x => x)))))
      | (refine wpAny_bind (wpAny_rule ?_); show wpAny _ _ (standAt gi.pos >>= _) _ _ s; exact wpAny_bind (wpAny_standAt (wpAny_bind (wpAny_mono h (fun it' s' h' => wpAny_pure (And.intro rfl h')) fun _ _ x => x))))
/-- one turn of the first of two clauses -/
theorem first_turn (elt iter iter2 : PySem.Expr) (x y : Str) (px py : Pos) (ifs : List PySem.Expr) (scope : Scope) (pos : Pos) (it acc : Value) (env : Env) :
    compTurn (.ListComp elt [⟨.Name x px, iter, [], 0⟩, ⟨.Name y py, iter2, ifs, 0⟩] scope pos) 0 it acc env = (do
      standAt iter.pos
      match ← pyNext it with
      | none => pure (.done .next)
      | some v =>
        letOwnedTupleGo (.Name x px) it v
        assign (.Name x px) env v
        let xv ← eval iter2 env
        standAt iter2.pos
        let xw ← foldedSetIterable iter2 env xv
        let it2 ← holding [xw] (pyIter xw)
        let _ ← runOwn (.compStart (.ListComp elt [⟨.Name x px, iter, [], 0⟩, ⟨.Name y py, iter2, ifs, 0⟩] scope pos) 1 it2 acc env) env
        again (.compLoop (.ListComp elt [⟨.Name x px, iter, [], 0⟩, ⟨.Name y py, iter2, ifs, 0⟩] scope pos) 0 it acc env)) := by rfl
theorem first_any {elt iter iter2 : PySem.Expr} {x y : Str} {px py : Pos} {ifs : List PySem.Expr} {scope : Scope} {pos : Pos} {it acc : Value} (hs2 : ∀ v, foldedSetIterable iter2 env v = pure v) (I : Nat → Shared → Prop)
    (turn : ∀ n s, I n s → wpAny (model prog w) A (pyNext it) (fun r s₁ => match r with
      | none => R (.ok .next) s₁
      | some v => wpAny (model prog w) A (assign (.Name x px) env v) (fun _ s₂ =>
          wpAny (model prog w) A (eval iter2 env) (fun xv s₃ => wpAny (model prog w) A (pyIter xv) (fun it2 s₄ =>
            codeAny (model prog w) A (.compStart (.ListComp elt [⟨.Name x px, iter, [], 0⟩, ⟨.Name y py, iter2, ifs, 0⟩] scope pos) 1 it2 acc env) (fun r s₅ => match r with | .ok _ => ∃ m, m < n ∧ I m s₅ | .error _ => False) s₄)
            (notedBy (model prog w) A env fun e s' => R (.error e) s') s₃) (notedBy (model prog w) A env fun e s' => R (.error e) s') s₂) (notedBy (model prog w) A env fun e s' => R (.error e) s') s₁) (notedBy (model prog w) A env fun e s' => R (.error e) s') s)
    (n : Nat) (h : I n s) : codeAny (model prog w) A (.compLoop (.ListComp elt [⟨.Name x px, iter, [], 0⟩, ⟨.Name y py, iter2, ifs, 0⟩] scope pos) 0 it acc env) R s := by
  refine codeAny_loop rfl I (fun n s hI => ?_) n h
  show wpAny _ _ ((compTurn (.ListComp elt [⟨.Name x px, iter, [], 0⟩, ⟨.Name y py, iter2, ifs, 0⟩] scope pos) 0 it acc env).onRaise (fun x => do noteFrame x env; theTreesLotGoes x)) _ _ s
  refine wpAny_noted ?_
  rw [first_turn]
  refine wpAny_bind (wpAny_standAt (wpAny_bind (wpAny_mono (turn n s hI) (fun r s₁ h₁ => ?_) fun _ _ h' => h')))
  cases r with
  | none => exact wpAny_pure h₁
  | some v =>
    refine wpAny_bind (wpAny_of_eq (show letOwnedTupleGo (.Name x px) it v = pure () from rfl) ?_)
    refine wpAny_bind (wpAny_mono h₁ (fun _ s₂ h₂ => wpAny_bind (wpAny_mono h₂ (fun xv s₃ h₃ => wpAny_bind (wpAny_standAt (wpAny_bind (wpAny_of_eq (hs2 xv) (wpAny_bind (wpAny_holding (wpAny_mono h₃ (fun it2 s₄ h₄ => ?_) fun _ _ h' => h'))))))) fun _ _ h' => h')) fun _ _ h' => h')
    refine wpAny_bind (wpAny_runOwn (codeAny_mono h₄ fun r s₅ h₅ => ?_))
    cases r with
    | error e => exact h₅.elim
    | ok f => exact wpAny_pure ⟨rfl, h₅⟩
/-- what one item of the first clause brings -/
noncomputable abbrev Brings (prog : Program) (w : World) (A : Around) (h₀ : Heap) (L : Addr) (m : Str → Option Value) (env : Env) (e : PySem.Expr) (iter2 : PySem.Expr) (scope : Scope) (cl : List (Str × Addr)) (x y : Str) (s : Shared) (I C D : Addr) (rest : List (Addr × Obj)) (N : Nat) (f : List Nat → List (List Nat)) (us : List (List Nat)) : Prop :=
  ∀ h tk oI oC mC v t ys ts (E' : Value → Shared → Prop) (Q : Shared → Prop), t ∈ us → Rep v t → NsObj oC mC → mC x = some v → Fr h₀ L h m → News h₀ L h ((I, oI) :: (C, oC) :: (D, lst ys) :: rest) → Texts ys ts → ts.length + (f t).length ≤ N →
    (∀ h' tk' oC' mC' ys', Fr h₀ L h' m → News h₀ L h' ((I, oI) :: (C, oC') :: (D, lst ys') :: rest) → NsObj oC' mC' → Texts ys' (ts ++ f t) → Q { s with heap := h', toks := tk' }) →
    wpAny (model prog w) A (eval iter2 (compEnvC scope cl C env)) (fun xv s₃ => wpAny (model prog w) A (pyIter xv) (fun it2 s₄ => codeAny (model prog w) A (.compStart e 1 it2 (.ref D) (compEnvC scope cl C env)) (fun r s₅ => match r with | .ok _ => Q s₅ | .error _ => False) s₄) E' s₃) E' { s with heap := h, toks := tk }
theorem first_loop {scope : Scope} {pos : Pos} {cl : List (Str × Addr)} {elt iter iter2 : PySem.Expr} {x y : Str} {px py : Pos} {ifs : List PySem.Expr} {I C D : Addr} {oI oC : Obj} {mC : Str → Option Value} {n : Nat} {P : Nat → Value → Prop} {St : Nat → Heap → Prop} {rest keep : List (Addr × Obj)}
    {us : List (List Nat)} {f : List Nat → List (List Nat)} {ys : List Value} {ts : List (List Nat)} {B : Nat}
    (hs2 : ∀ v, foldedSetIterable iter2 (compEnvC scope cl C env) v = pure v) (hkind : scope.kind = .function) (hx : scope.names.lookup x = some .local)
    (W : Walks prog w A I (I :: keep.map (·.1)) [I] n P St) (live : ∀ i h, St i h → ∃ o, h.get? I = some o) (hn : n = us.length) (hP : ∀ i v, P i v → ∃ t, us[i]? = some t ∧ Rep v t) (hk : ∀ q ∈ keep, q ∈ rest)
    (hst : St 0 s.heap) (F : Fr h₀ L s.heap m) (N : News h₀ L s.heap ((I, oI) :: (C, oC) :: (D, lst ys) :: rest)) (hC : NsObj oC mC) (off : Off3 I C D rest) (hIC : I ≠ C) (hID : I ≠ D) (hCD : C ≠ D) (hys : Texts ys ts) (hsz : (ts ++ us.flatMap f).length ≤ B)
    (brings : Brings prog w A h₀ L m env (.ListComp elt [⟨.Name x px, iter, [], 0⟩, ⟨.Name y py, iter2, ifs, 0⟩] scope pos) iter2 scope cl x y s I C D rest B f us)
    (done : ∀ h tk oC mC' ys', Fr h₀ L h m → News h₀ L h ((C, oC) :: (D, lst ys') :: rest) → NsObj oC mC' → Texts ys' (ts ++ us.flatMap f) → R (.ok .next) { s with heap := h, toks := tk }) :
    codeAny (model prog w) A (.compLoop (.ListComp elt [⟨.Name x px, iter, [], 0⟩, ⟨.Name y py, iter2, ifs, 0⟩] scope pos) 0 (.ref I) (.ref D) (compEnvC scope cl C env)) R s := by
  have off3 := off.mem
  have hCL : C ≠ L := (N (C, oC) (.tail _ (.head _))).2.1
  have hC₀ : h₀.get? C = none := (N (C, oC) (.tail _ (.head _))).2.2
  have hDL : D ≠ L := (N (D, lst ys) (.tail _ (.tail _ (.head _)))).2.1
  have hD₀ : h₀.get? D = none := (N (D, lst ys) (.tail _ (.tail _ (.head _)))).2.2
  have hIL : I ≠ L := (N (I, oI) (.head _)).2.1
  have hI₀ : h₀.get? I = none := (N (I, oI) (.head _)).2.2
  refine first_any hs2 (fun k s' => ∃ h tk i oI oC mC' ys', s' = { s with heap := h, toks := tk } ∧ i ≤ n ∧ k = n + 1 - i ∧ St i h ∧ Fr h₀ L h m ∧ News h₀ L h ((I, oI) :: (C, oC) :: (D, lst ys') :: rest) ∧ NsObj oC mC' ∧ Texts ys' (ts ++ (us.take i).flatMap f)) ?_ (n + 1)
    ⟨s.heap, s.toks, 0, oI, oC, mC, ys, rfl, Nat.zero_le _, rfl, hst, F, N, hC, by simpa using hys⟩
  rintro k s' ⟨h, tk, i, oI, oC, mC', ys', rfl, hi, rfl, hst, F, N, hC, hT⟩
  by_cases hlt : i < n
  · refine W.item i _ _ _ hlt hst fun v h₁ tk₁ hPv hst₁ hk₁ => ?_
    obtain ⟨t, hut, hrep⟩ := hP i v hPv
    have hmem : t ∈ us := List.mem_of_getElem? hut
    have htake : us.take (i + 1) = us.take i ++ [t] := by simp [List.take_add_one, hut]
    have hC1 : h₁.Ns C mC' := hC.ns (hk₁ C _ (by simpa using Ne.symm hIC) (N (C, oC) (.tail _ (.head _))).1)
    refine wpAny_assign_Name (wpAny_storeName_local (lookup_relabel_local hx) hC1 (fun h₂ hn₂ hs₂ => ?_) (by simp [compEnvC, relabel, hkind]))
    obtain ⟨oI₂, heI⟩ : ∃ o, h₂.get? I = some o := by
      obtain ⟨o, e⟩ := live _ _ hst₁
      exact ⟨o, hs₂.extBut I o hIC e⟩
    obtain ⟨oC₂, heC, hoC⟩ := ns_obj hn₂
    have F₂ : Fr h₀ L h₂ m := (fr_but F hk₁ (Ne.symm hIL) hI₀).change hs₂ hCL hC₀
    have hD₂ : h₂.get? D = some (lst ys') := hs₂.extBut D _ (Ne.symm hCD) (hk₁ D _ (by simpa using Ne.symm hID) (N (D, lst ys') (.tail _ (.tail _ (.head _)))).1)
    have hr₂ : ∀ q ∈ rest, h₂.get? q.1 = some q.2 := fun q hq => hs₂.extBut _ _ (off3 q hq).2.1 (hk₁ _ _ (by simpa using (off3 q hq).1) (N q (.tail _ (.tail _ (.tail _ hq)))).1)
    have hnr : ∀ q ∈ rest, q.1 ≠ L ∧ h₀.get? q.1 = none := fun q hq => (N q (.tail _ (.tail _ (.tail _ hq)))).2
    have hst₂ : St (i + 1) h₂ := W.frame _ _ _ hst₁ fun b hb o e => by
      rcases List.mem_cons.mp hb with rfl | hb
      · exact hs₂.extBut b o hIC e
      · obtain ⟨q, hq, rfl⟩ := List.mem_map.mp hb
        exact hs₂.extBut _ o (off3 q (hk q hq)).2.1 e
    have N₃ : News h₀ L h₂ ((I, oI₂) :: (C, oC₂) :: (D, lst ys') :: rest) := fun q hq => by
      rcases List.mem_cons.mp hq with rfl | hq
      · exact ⟨heI, hIL, hI₀⟩
      · rcases List.mem_cons.mp hq with rfl | hq
        · exact ⟨heC, hCL, hC₀⟩
        · rcases List.mem_cons.mp hq with rfl | hq
          · exact ⟨hD₂, hDL, hD₀⟩
          · exact ⟨hr₂ q hq, hnr q hq⟩
    have hb : (ts ++ (us.take i).flatMap f).length + (f t).length ≤ B := by
      have e : us = us.take (i + 1) ++ us.drop (i + 1) := (List.take_append_drop _ _).symm
      rw [e, htake] at hsz
      simp only [List.flatMap_append, List.length_append, List.flatMap_cons, List.flatMap_nil, List.append_nil] at hsz ⊢
      omega
    refine brings h₂ _ oI₂ oC₂ _ v t ys' _ _ _ hmem hrep hoC (by simp) F₂ N₃ hT hb fun h₅ tk₅ oC₅ mC₅ ys₅ F₅ N₅ hC₅ hT₅ => ?_
    refine ⟨n + 1 - (i + 1), by omega, h₅, tk₅, i + 1, oI₂, oC₅, mC₅, ys₅, rfl, hlt, rfl, W.frame _ _ _ hst₂ fun b hb o e => ?_, F₅, N₅, hC₅, ?_⟩
    · rcases List.mem_cons.mp hb with rfl | hb
      · have : oI₂ = o := Option.some.inj (heI.symm.trans e)
        subst this
        exact (N₅ (b, oI₂) (.head _)).1
      · obtain ⟨q, hq, rfl⟩ := List.mem_map.mp hb
        have hq' := hk q hq
        have : q.2 = o := Option.some.inj ((hr₂ q hq').symm.trans e)
        subst this
        exact (N₅ q (.tail _ (.tail _ (.tail _ hq')))).1
    · rw [htake, List.flatMap_append, ← List.append_assoc]
      simpa using hT₅
  · obtain rfl : i = n := Nat.le_antisymm hi (Nat.not_lt.mp hlt)
    refine W.done _ _ _ hst fun h₂ tk₂ hk₂ => ?_
    have hT' : Texts ys' (ts ++ us.flatMap f) := by rw [hn, List.take_length] at hT; exact hT
    refine done h₂ tk₂ oC mC' ys' (fr_but F hk₂ (Ne.symm hIL) hI₀) (news_but (fun q hq => N q (.tail _ hq)) hk₂ fun q hq => ?_) hC hT'
    rcases List.mem_cons.mp hq with rfl | hq
    · exact Ne.symm hIC
    · rcases List.mem_cons.mp hq with rfl | hq
      · exact Ne.symm hID
      · exact (off3 q hq).1
end
end
end
section
set_option maxHeartbeats 8000000
section
open PySem PySem.W PySem.Calls PyProof.Rows PySem.Spec LCg
section
variable {prog : Program} {w : World} {A : Around} {E : Value → Shared → Prop} {s : Shared} {env : Env} {h₀ : Heap} {L : Addr} {m : Str → Option Value} {R : Result → Shared → Prop}
/-- the signs of a text, as texts -/
noncomputable def signTexts (x : Str) : List (List Nat) := x.cps.toList.map fun c => [c]
/-- the tests of the last clause, told -/
noncomputable abbrev TestsAre (prog : Program) (w : World) (A : Around) (h₀ : Heap) (L : Addr) (m : Str → Option Value) (env : Env) (ifs : List PySem.Expr) (scope : Scope) (cl : List (Str × Addr)) (s : Shared) (C : Addr) (rest : List (Addr × Obj)) (known : (Str → Option Value) → Prop) (y : Str) (us : List (List Nat)) (p : List Nat → Bool) : Prop :=
  ∀ h tk oC mC v t (Q : Bool → Shared → Prop) (E' : Value → Shared → Prop), t ∈ us → NsObj oC mC → mC y = some v → known mC → Rep v t → Fr h₀ L h m → News h₀ L h ((C, oC) :: rest) → (∀ tk', Q (p t) { s with heap := h, toks := tk' }) →
    wpAny (model prog w) A (testsOf ifs (compEnvC scope cl C env)) Q E' { s with heap := h, toks := tk }
noncomputable abbrev EltIs (prog : Program) (w : World) (A : Around) (h₀ : Heap) (L : Addr) (m : Str → Option Value) (env : Env) (elt : PySem.Expr) (scope : Scope) (cl : List (Str × Addr)) (s : Shared) (C : Addr) (rest : List (Addr × Obj)) (known : (Str → Option Value) → Prop) (y : Str) (us : List (List Nat)) (p : List Nat → Bool) (g : List Nat → List Nat) : Prop :=
  ∀ h tk oC mC v t (Q E' : Value → Shared → Prop), t ∈ us → p t = true → NsObj oC mC → mC y = some v → known mC → Rep v t → Fr h₀ L h m → News h₀ L h ((C, oC) :: rest) → (∀ z tk', Rep z (g t) → Q z { s with heap := h, toks := tk' }) →
    wpAny (model prog w) A (eval elt (compEnvC scope cl C env)) Q E' { s with heap := h, toks := tk }
/-- the second clause over an iterator just made -/
theorem second_go {scope : Scope} {pos : Pos} {cl : List (Str × Addr)} {elt iter iter2 : PySem.Expr} {x y : Str} {px py : Pos} {ifs : List PySem.Expr} {I C D : Addr} {oI oC : Obj} {mC : Str → Option Value} {rest keep : List (Addr × Obj)} {v : Value}
    {us : List (List Nat)} {p : List Nat → Bool} {g : List Nat → List Nat} {ys : List Value} {ts : List (List Nat)} {h : Heap} {tk n : Nat} {o₂ : Obj} {P : Nat → Value → Prop} {St : Nat → Heap → Prop} {Q : Shared → Prop}
    (hkind : scope.kind = .function) (hy : scope.names.lookup y = some .local) (hxy : x ≠ y) (hx : mC x = some v)
    (W : Walks prog w A h.objs.size (h.objs.size :: keep.map (·.1)) [h.objs.size] n P St) (live : ∀ i h', St i h' → ∃ o, h'.get? h.objs.size = some o) (hn : n = us.length) (hP : ∀ i v, P i v → ∃ t, us[i]? = some t ∧ Rep v t) (hk : ∀ q ∈ keep, q ∈ rest)
    (hst : St 0 (h.push o₂)) (hfr : o₂.isFreed = false) (F : Fr h₀ L h m) (N : News h₀ L h ((I, oI) :: (C, oC) :: (D, lst ys) :: rest)) (hC : NsObj oC mC) (off : Off3 I C D rest) (hIC : I ≠ C) (hID : I ≠ D) (hCD : C ≠ D) (hys : Texts ys ts) (hsz : ts.length + us.length ≤ sizeLine)
    (htest : TestsAre prog w A h₀ L m env ifs scope cl s C rest (fun mC => mC x = some v) y us p) (helt : EltIs prog w A h₀ L m env elt scope cl s C rest (fun mC => mC x = some v) y us p g)
    (done : ∀ h' tk' oC' mC' ys', Fr h₀ L h' m → News h₀ L h' ((I, oI) :: (C, oC') :: (D, lst ys') :: rest) → NsObj oC' mC' → Texts ys' (ts ++ pick p g us) → Q { s with heap := h', toks := tk' }) :
    codeAny (model prog w) A (.compStart (.ListComp elt [⟨.Name x px, iter, [], 0⟩, ⟨.Name y py, iter2, ifs, 0⟩] scope pos) 1 (.ref h.objs.size) (.ref D) (compEnvC scope cl C env)) (fun r s₅ => match r with | .ok _ => Q s₅ | .error _ => False) { s with heap := h.push o₂, toks := tk } := by
  have off3 := off.mem
  have lt : ∀ q ∈ (I, oI) :: (C, oC) :: (D, lst ys) :: rest, q.1 < h.objs.size := fun q hq => Heap.lt_size (N q hq).1
  have ne : ∀ q ∈ (I, oI) :: (C, oC) :: (D, lst ys) :: rest, h.objs.size ≠ q.1 := fun q hq => Nat.ne_of_gt (lt q hq)
  have hself := Heap.get?_push_size h (o := o₂) hfr
  have loop : codeAny (model prog w) A (.compLoop (.ListComp elt [⟨.Name x px, iter, [], 0⟩, ⟨.Name y py, iter2, ifs, 0⟩] scope pos) 1 (.ref h.objs.size) (.ref D) (compEnvC scope cl C env)) (fun r s₅ => match r with | .ok _ => Q s₅ | .error _ => False) { s with heap := h.push o₂, toks := tk } := by
    refine last_loop (s := { s with heap := h.push o₂, toks := tk }) (rest := (I, oI) :: rest) (mC := mC) (ys := ys) (ts := ts) (p := p) (g := g) (oI := o₂) (oC := oC) (last_two _ elt iter2 y py ifs scope pos) hkind hy W live hn hP (fun q hq => .tail _ (hk q hq)) hst (F.push _) (fun q hq => ?_) hC ?_ (ne _ (.tail _ (.head _))) (ne _ (.tail _ (.tail _ (.head _)))) hCD hys hsz ?_ ?_ ?_
    · rcases List.mem_cons.mp hq with rfl | hq
      · exact ⟨hself, fun e => Nat.lt_irrefl _ (e ▸ F.ns.lt), next_is_new F⟩
      · have hm : q ∈ (I, oI) :: (C, oC) :: (D, lst ys) :: rest := by
          simp only [List.mem_cons] at hq ⊢; grind
        exact ⟨Heap.get?_push_of_some _ (N q hm).1, (N q hm).2⟩
    · refine ⟨⟨(ne _ (.head _)).symm, hIC, hID⟩, Off3.of fun q hq => ⟨(ne _ (.tail _ (.tail _ (.tail _ hq)))).symm, (off3 q hq).2.1, (off3 q hq).2.2⟩⟩
    · intro h' tk' oC' mC' v' t Q' E' ht hC' hy' hk' hr F' N' q
      exact htest h' tk' oC' mC' v' t Q' E' ht hC' hy' ((hk' x hxy).trans hx) hr F' (fun q hq => N' q (by simp only [List.mem_cons] at hq ⊢; grind)) q
    · intro h' tk' oC' mC' v' t Q' E' ht hp hC' hy' hk' hr F' N' q
      exact helt h' tk' oC' mC' v' t Q' E' ht hp hC' hy' ((hk' x hxy).trans hx) hr F' (fun q hq => N' q (by simp only [List.mem_cons] at hq ⊢; grind)) q
    · intro h' tk' oC' mC' ys' F' N' hC' _ hT
      exact done h' tk' oC' mC' ys' F' (fun q hq => N' q (by simp only [List.mem_cons] at hq ⊢; grind)) hC' hT
  refine start_one rfl loop (W.self 0 { s with heap := h.push o₂, toks := tk } _ _ hst loop)
theorem signTexts_len (x : Str) : (signTexts x).length = x.cps.size := by simp [signTexts]
/-- the second clause over a list that stands in the ledger -/
theorem brings_list {scope : Scope} {pos : Pos} {cl : List (Str × Addr)} {elt iter iter2 : PySem.Expr} {x y : Str} {px py : Pos} {ifs : List PySem.Expr} {I C D b : Addr} {rest : List (Addr × Obj)} {vs₂ : List Value} {k : Nat}
    {us us₂ : List (List Nat)} {p : List Nat → List Nat → Bool} {g : List Nat → List Nat → List Nat} {B : Nat}
    (hh : A.handled = none) (hkind : scope.kind = .function) (hy : scope.names.lookup y = some .local) (hxy : x ≠ y) (hb : (b, W.listOf vs₂.toArray k) ∈ rest) (hus : Texts vs₂ us₂) (off : Off3 I C D rest) (hIC : I ≠ C) (hID : I ≠ D) (hCD : C ≠ D) (hB : B + us₂.length ≤ sizeLine)
    (hev : ∀ h tk oC mC v t (Q E' : Value → Shared → Prop), t ∈ us → Rep v t → NsObj oC mC → mC x = some v → Fr h₀ L h m → News h₀ L h ((C, oC) :: rest) → (∀ tk', Q (.ref b) { s with heap := h, toks := tk' }) → wpAny (model prog w) A (eval iter2 (compEnvC scope cl C env)) Q E' { s with heap := h, toks := tk })
    (htest : ∀ v t, t ∈ us → Rep v t → TestsAre prog w A h₀ L m env ifs scope cl s C rest (fun mC => mC x = some v) y us₂ (p t)) (helt : ∀ v t, t ∈ us → Rep v t → EltIs prog w A h₀ L m env elt scope cl s C rest (fun mC => mC x = some v) y us₂ (p t) (g t)) :
    Brings prog w A h₀ L m env (.ListComp elt [⟨.Name x px, iter, [], 0⟩, ⟨.Name y py, iter2, ifs, 0⟩] scope pos) iter2 scope cl x y s I C D rest B (fun t => pick (p t) (g t) us₂) us := by
  intro h tk oI oC mC v t ys ts E' Q ht hr hC hx F N hT hlen hQ
  refine hev h tk oC mC v t _ _ ht hr hC hx F (fun q hq => N q (by simp only [List.mem_cons] at hq ⊢; grind)) fun tk₁ => ?_
  have hbm := N (b, W.listOf vs₂.toArray k) (.tail _ (.tail _ (.tail _ hb)))
  have hl : h.IsList b vs₂.toArray := ⟨_, hbm.1, rfl, k, rfl⟩
  refine wpAny_pyIter_list (s := { s with heap := h, toks := tk₁ }) hl ?_
  have hts : ts.length ≤ B := by omega
  refine second_go (s := s) (h := h) (tk := tk₁) (keep := [(b, W.listOf vs₂.toArray k)]) (mC := mC) (ys := ys) (ts := ts) (oI := oI) (oC := oC) (v := v) hkind hy hxy hx (Walks.list hh h.objs.size b (Nat.ne_of_lt (Heap.lt_size hbm.1)) vs₂.toArray) (fun i h' st => let ⟨o, ho, _⟩ := st.1; ⟨o, ho⟩) (by rw [List.size_toArray]; exact hus.length) (fun i v hP => ?_) (fun q hq => by rw [List.mem_singleton.mp hq]; exact hb)
    ⟨⟨_, Heap.get?_push_size _ rfl, rfl, rfl⟩, hl.push _⟩ rfl F N hC off hIC hID hCD hT (by omega) (htest v t ht hr) (helt v t ht hr) hQ
  have hP' : vs₂[i]? = some v := by simpa using hP
  exact hus.at hP'
/-- the second clause over a text's signs -/
theorem brings_text {scope : Scope} {pos : Pos} {cl : List (Str × Addr)} {elt iter iter2 : PySem.Expr} {x y : Str} {px py : Pos} {ifs : List PySem.Expr} {I C D : Addr} {rest : List (Addr × Obj)} {xt : Str}
    {us : List (List Nat)} {p : List Nat → List Nat → Bool} {g : List Nat → List Nat → List Nat} {B : Nat}
    (hh : A.handled = none) (hkind : scope.kind = .function) (hy : scope.names.lookup y = some .local) (hxy : x ≠ y) (off : Off3 I C D rest) (hIC : I ≠ C) (hID : I ≠ D) (hCD : C ≠ D) (hB : B + xt.cps.size ≤ sizeLine)
    (hev : ∀ h tk oC mC v t (Q E' : Value → Shared → Prop), t ∈ us → Rep v t → NsObj oC mC → mC x = some v → Fr h₀ L h m → News h₀ L h ((C, oC) :: rest) → (∀ tx tk', Q (.str xt tx) { s with heap := h, toks := tk' }) → wpAny (model prog w) A (eval iter2 (compEnvC scope cl C env)) Q E' { s with heap := h, toks := tk })
    (htest : ∀ v t, t ∈ us → Rep v t → TestsAre prog w A h₀ L m env ifs scope cl s C rest (fun mC => mC x = some v) y (signTexts xt) (p t)) (helt : ∀ v t, t ∈ us → Rep v t → EltIs prog w A h₀ L m env elt scope cl s C rest (fun mC => mC x = some v) y (signTexts xt) (p t) (g t)) :
    Brings prog w A h₀ L m env (.ListComp elt [⟨.Name x px, iter, [], 0⟩, ⟨.Name y py, iter2, ifs, 0⟩] scope pos) iter2 scope cl x y s I C D rest B (fun t => pick (p t) (g t) (signTexts xt)) us := by
  intro h tk oI oC mC v t ys ts E' Q ht hr hC hx F N hT hlen hQ
  refine hev h tk oC mC v t _ _ ht hr hC hx F (fun q hq => N q (by simp only [List.mem_cons] at hq ⊢; grind)) fun tx tk₁ => ?_
  have hts : ts.length ≤ B := by omega
  have hP : ∀ i v, SignAt xt i v → ∃ t, (signTexts xt)[i]? = some t ∧ Rep v t := by
    rintro i v ⟨c, u, hn, rfl⟩
    refine ⟨[c], ?_, _, rfl⟩
    have hn' : xt.cps.toList[i]? = some c := by simpa using hn
    simp [signTexts, hn']
  have hn : xt.cps.size = (signTexts xt).length := (signTexts_len xt).symm
  cases ha : xt.cps.all (· < 128)
  · refine wpAny_pyIter_wide (s := { s with heap := h, toks := tk₁ }) ha ?_
    exact second_go (s := s) (h := h) (tk := tk₁) (keep := []) (mC := mC) (ys := ys) (ts := ts) (oI := oI) (oC := oC) (v := v) hkind hy hxy hx (Walks.strWide hh h.objs.size xt tx) (fun i h' st => let ⟨o, ho, _⟩ := st; ⟨o, ho⟩) hn hP (fun q hq => nomatch hq) ⟨_, Heap.get?_push_size _ rfl, rfl, rfl⟩ rfl F N hC off hIC hID hCD hT (by omega) (htest v t ht hr) (helt v t ht hr) hQ
  · refine wpAny_pyIter_ascii (s := { s with heap := h, toks := tk₁ }) ha ?_
    exact second_go (s := s) (h := h) (tk := tk₁) (keep := []) (mC := mC) (ys := ys) (ts := ts) (oI := oI) (oC := oC) (v := v) hkind hy hxy hx (Walks.strAscii hh h.objs.size xt tx) (fun i h' st => let ⟨o, ho, _⟩ := st; ⟨o, ho⟩) hn hP (fun q hq => nomatch hq) ⟨_, Heap.get?_push_size _ rfl, rfl, rfl⟩ rfl F N hC off hIC hID hCD hT (by omega) (htest v t ht hr) (helt v t ht hr) hQ
/-- what is wanted of the first clause's source: a list of the ledger -/
noncomputable def Src2 (prog : Program) (w : World) (A : Around) (h₀ : Heap) (L : Addr) (m : Str → Option Value) (env : Env) (e iter2 : PySem.Expr) (scope : Scope) (cl : List (Str × Addr)) (x y : Str) (Fin : Shared → List (List Nat) → List (Addr × Obj) → Prop) (xv : Value) (s₁ : Shared) : Prop :=
  ∃ b vs k us f rest B, xv = .ref b ∧ A.handled = none ∧ Fr h₀ L s₁.heap m ∧ News h₀ L s₁.heap rest ∧ (b, W.listOf vs.toArray k) ∈ rest ∧ Texts vs us ∧ (us.flatMap f).length ≤ B ∧
    (∀ I C D g tk, Off3 I C D rest → I ≠ C → I ≠ D → C ≠ D → Brings prog w A h₀ L m env e iter2 scope cl x y { s₁ with heap := g, toks := tk } I C D rest B f us) ∧ Fin s₁ (us.flatMap f) rest
/-- the list made, ahead of what stood -/
noncomputable abbrev Fin2 (h₀ : Heap) (L : Addr) (m : Addr → Str → Option Value) (Q : Addr → Shared → Prop) (s₁ : Shared) (us : List (List Nat)) (rest : List (Addr × Obj)) : Prop :=
  ∀ D ys h tk, (∀ q ∈ rest, q.1 < D) → Texts ys us → Fr h₀ L h (m D) → News h₀ L h ((D, lst ys) :: rest) → Q D { s₁ with heap := h, toks := tk }
theorem comp2_go {elt iter iter2 : PySem.Expr} {x y : Str} {px py : Pos} {ifs : List PySem.Expr} {scope : Scope} {cl : List (Str × Addr)} {pos : Pos} {b : Addr} {vs : List Value} {k : Nat} {us : List (List Nat)} {f : List Nat → List (List Nat)} {rest : List (Addr × Obj)} {B : Nat} {RR : Value → Addr → Result → Shared → Prop}
    (hh : A.handled = none) (hs2 : ∀ C v, foldedSetIterable iter2 (compEnvC scope cl C env) v = pure v) (hcell : ∀ y ∈ scope.names, y.2 ≠ .cell) (hkind : scope.kind = .function) (hx : scope.names.lookup x = some .local)
    (F : Fr h₀ L s.heap m) (N : News h₀ L s.heap rest) (hb : (b, W.listOf vs.toArray k) ∈ rest) (hus : Texts vs us) (hB : (us.flatMap f).length ≤ B)
    (br : ∀ I C D g tk, Off3 I C D rest → I ≠ C → I ≠ D → C ≠ D → Brings prog w A h₀ L m env (.ListComp elt [⟨.Name x px, iter, [], 0⟩, ⟨.Name y py, iter2, ifs, 0⟩] scope pos) iter2 scope cl x y { s with heap := g, toks := tk } I C D rest B f us)
    (done : ∀ C D oC mC ys h tk, (∀ q ∈ rest, q.1 < D) → (∀ q ∈ rest, q.1 ≠ C) → C ≠ D → Texts ys (us.flatMap f) → NsObj oC mC → Fr h₀ L h m → News h₀ L h ((C, oC) :: (D, lst ys) :: rest) → RR (.ref D) C (.ok .next) { s with heap := h, toks := tk }) :
    wpAny (model prog w) A (pyIter (.ref b)) (fun it s₂ => wpAny (model prog w) A (newList []) (fun acc s₃ => wpAny (model prog w) A (newFunctionEnv scope env.globals cl [] env.qual none .none (some env)) (fun cenv s₄ =>
      codeAny (model prog w) A (.compStart (.ListComp elt [⟨.Name x px, iter, [], 0⟩, ⟨.Name y py, iter2, ifs, 0⟩] scope pos) 0 it acc { cenv with scope := relabel scope env }) (RR acc cenv.locals) s₄) E s₃) E s₂) E s := by
  have hbm := N _ hb
  have hl : s.heap.IsList b vs.toArray := ⟨_, hbm.1, rfl, k, rfl⟩
  have hlt : b < s.heap.objs.size := Heap.lt_size hbm.1
  refine wpAny_pyIter_list hl ?_
  have hst : (s.heap.push { cls := .type "list_iterator", data := .fields #[.ref b, .int 0 0] }).IsListIter s.heap.objs.size b 0 ∧ (s.heap.push { cls := .type "list_iterator", data := .fields #[.ref b, .int 0 0] }).IsList b vs.toArray := ⟨⟨_, Heap.get?_push_size _ rfl, rfl, rfl⟩, hl.push _⟩
  have Wk := Walks.list (prog := prog) (w := w) hh s.heap.objs.size b (Nat.ne_of_lt hlt) vs.toArray
  have Np : News h₀ L (s.heap.push { cls := .type "list_iterator", data := .fields #[.ref b, .int 0 0] }) ((s.heap.objs.size, { cls := .type "list_iterator", data := .fields #[.ref b, .int 0 0] }) :: rest) := fun q hq => by
    rcases List.mem_cons.mp hq with rfl | hq
    · exact ⟨Heap.get?_push_size _ rfl, fun e => Nat.lt_irrefl _ (e ▸ F.ns.lt), next_is_new F⟩
    · exact ⟨Heap.get?_push_of_some _ (N q hq).1, (N q hq).2⟩
  refine comp_begin (s := { s with heap := s.heap.push { cls := .type "list_iterator", data := .fields #[.ref b, .int 0 0] } }) rfl hcell hkind (F.push _) Np (fun q hq => Nat.ne_of_lt (Heap.lt_size (N q hq).1)) ?_ ?_
  · intro h tk Q E' hk hq
    exact Wk.self 0 { s with heap := h, toks := tk } _ _ (Wk.frame _ _ _ hst fun b' _ o e => hk b' o e) hq
  · intro h tk oC mC C D F' N' hC off hIC hID hCD hlt' hk
    refine first_loop (s := { s with heap := h, toks := tk }) (keep := [(b, W.listOf vs.toArray k)]) (P := fun i v => vs.toArray[i]? = some v) (St := fun i h => h.IsListIter s.heap.objs.size b i ∧ h.IsList b vs.toArray) (n := vs.toArray.size) (us := us) (f := f) (ts := []) (B := B) (hs2 C) hkind hx Wk (fun i h' st => let ⟨o, ho, _⟩ := st.1; ⟨o, ho⟩) (by rw [List.size_toArray]; exact hus.length) (fun i v hP => hus.at (by simpa using hP)) (fun q hq => by rw [List.mem_singleton.mp hq]; exact hb) (Wk.frame _ _ _ hst fun b' _ o e => hk b' o e) F' N' hC off hIC hID hCD .nil (by simpa using hB) (br _ C D h tk off hIC hID hCD) ?_
    intro h' tk' oC' mC' ys' F₁ N₁ hC₁ hT
    exact done C D oC' mC' ys' h' tk' hlt' (fun q hq => (off.mem q hq).2.1) hCD (by simpa using hT) hC₁ F₁ N₁
theorem comp2_eval {elt iter iter2 : PySem.Expr} {x y : Str} {px py : Pos} {ifs : List PySem.Expr} {scope : Scope} {cl : List (Str × Addr)} {pos : Pos} {Q : Value → Shared → Prop} (_F₀ : Fr h₀ L s.heap m)
    (hclos : closureFor scope env = pure cl) (hcell : ∀ y ∈ scope.names, y.2 ≠ .cell) (hkind : scope.kind = .function)
    (hnames : ∀ y ∈ scope.names, y.2 = .local → scope.names.lookup y.1 = some .local) (hx : scope.names.lookup x = some .local)
    (h : wpAny (model prog w) A (eval iter env) (Src2 prog w A h₀ L m env (.ListComp elt [⟨.Name x px, iter, [], 0⟩, ⟨.Name y py, iter2, ifs, 0⟩] scope pos) iter2 scope cl x y (Fin2 h₀ L (fun _ => m) fun D s' => Q (.ref D) s')) E s)
    (hs : ∀ v, foldedSetIterable iter env v = pure v := by intro _; rfl) (hs2 : ∀ C v, foldedSetIterable iter2 (compEnvC scope cl C env) v = pure v := by intro _ _; rfl) :
    wpAny (model prog w) A (eval (.ListComp elt [⟨.Name x px, iter, [], 0⟩, ⟨.Name y py, iter2, ifs, 0⟩] scope pos) env) Q E s := by
  rw [eval_ListComp]
  refine wpAny_comprehension_free (use := none) rfl hs hclos hkind hnames (wpAny_mono h (fun xv s₁ h₁ => ?_) fun _ _ e => e)
  obtain ⟨b, vs, k, us, f, rest, B, rfl, hh, F, N, hb, hus, hB, br, fin⟩ := h₁
  refine comp2_go hh hs2 hcell hkind hx F N hb hus hB br ?_
  intro C D oC mC ys h tk hlt hne hCD hT hC F₁ N₁
  exact fin_none F₁ N₁ hC hCD hne fun h' F₂ N₂ => fin D ys h' tk hlt hT F₂ N₂
theorem comp2_assign {elt iter iter2 : PySem.Expr} {x y z : Str} {px py pz : Pos} {ifs : List PySem.Expr} {scope : Scope} {cl : List (Str × Addr)} {pos spos : Pos} {Q : Flow → Shared → Prop} (_F₀ : Fr h₀ env.locals s.heap m)
    (hsw : swapsWith (.ListComp elt [⟨.Name x px, iter, [], 0⟩, ⟨.Name y py, iter2, ifs, 0⟩] scope pos) (some (.Name z pz)) spos.line env = pure true)
    (hclos : closureFor scope env = pure cl) (hcell : ∀ y ∈ scope.names, y.2 ≠ .cell) (hkind : scope.kind = .function)
    (hnames : ∀ y ∈ scope.names, y.2 = .local → scope.names.lookup y.1 = some .local) (hx : scope.names.lookup x = some .local)
    (hz : env.kindOf z = some .local) (hp : (env.scope.kind == .class || (env.scope.kind == .module && env.locals != env.globals)) = false)
    (h : wpAny (model prog w) A (eval iter env) (Src2 prog w A h₀ env.locals m env (.ListComp elt [⟨.Name x px, iter, [], 0⟩, ⟨.Name y py, iter2, ifs, 0⟩] scope pos) iter2 scope cl x y (Fin2 h₀ env.locals (fun D y => if y = z then some (.ref D) else m y) fun _ s' => Q .next s')) E s)
    (hs : ∀ v, foldedSetIterable iter env v = pure v := by intro _; rfl) (hs2 : ∀ C v, foldedSetIterable iter2 (compEnvC scope cl C env) v = pure v := by intro _ _; rfl) :
    wpAny (model prog w) A (exec (.Assign [.Name z pz] (.ListComp elt [⟨.Name x px, iter, [], 0⟩, ⟨.Name y py, iter2, ifs, 0⟩] scope pos) spos) env) Q E s := by
  rw [exec_Assign_Name_used _ _ _ _ hsw]
  refine wpAny_bind (wpAny_standAt (wpAny_bind ?_))
  show wpAny _ A (do let _ ← comprehension (.ListComp elt [⟨.Name x px, iter, [], 0⟩, ⟨.Name y py, iter2, ifs, 0⟩] scope pos) scope env _ (newList []) false (eval iter env) (some (assign (.Name z pz) env))) _ _ s
  refine wpAny_bind (wpAny_mono (wpAny_comprehension_free (use := some (assign (.Name z pz) env)) (Q := fun _ s' => Q .next s') rfl hs hclos hkind hnames
    (wpAny_mono h (fun xv s₁ h₁ => ?_) fun _ _ e => e)) (fun _ s' hq => wpAny_pure (wpAny_pure hq)) fun _ _ e => e)
  obtain ⟨b, vs, k, us, f, rest, B, rfl, hh, F, N, hb, hus, hB, br, fin⟩ := h₁
  refine comp2_go hh hs2 hcell hkind hx F N hb hus hB br ?_
  intro C D oC mC ys h tk hlt hne hCD hT hC F₁ N₁
  exact fin_name F₁ N₁ hC hCD hne hz hp fun h' tk' F₂ N₂ => fin D ys h' tk' hlt hT F₂ N₂
/-- one clause over a list of the ledger -/
noncomputable def Src1 (prog : Program) (w : World) (A : Around) (h₀ : Heap) (L : Addr) (m : Str → Option Value) (env : Env) (elt : PySem.Expr) (ifs : List PySem.Expr) (scope : Scope) (cl : List (Str × Addr)) (y : Str) (Fin : Shared → List (List Nat) → List (Addr × Obj) → Prop) (xv : Value) (s₁ : Shared) : Prop :=
  ∃ b vs k us p g rest, xv = .ref b ∧ A.handled = none ∧ Fr h₀ L s₁.heap m ∧ News h₀ L s₁.heap rest ∧ (b, W.listOf vs.toArray k) ∈ rest ∧ Texts vs us ∧ us.length ≤ sizeLine ∧
    (∀ C g' tk, TestsAre prog w A h₀ L m env ifs scope cl { s₁ with heap := g', toks := tk } C rest (fun _ => True) y us p) ∧ (∀ C g' tk, EltIs prog w A h₀ L m env elt scope cl { s₁ with heap := g', toks := tk } C rest (fun _ => True) y us p g) ∧ Fin s₁ (pick p g us) rest
theorem comp1_eval {elt iter : PySem.Expr} {y : Str} {py : Pos} {ifs : List PySem.Expr} {scope : Scope} {cl : List (Str × Addr)} {pos : Pos} {Q : Value → Shared → Prop} (_F₀ : Fr h₀ L s.heap m)
    (hclos : closureFor scope env = pure cl) (hcell : ∀ y ∈ scope.names, y.2 ≠ .cell) (hkind : scope.kind = .function)
    (hnames : ∀ y ∈ scope.names, y.2 = .local → scope.names.lookup y.1 = some .local) (hy : scope.names.lookup y = some .local)
    (h : wpAny (model prog w) A (eval iter env) (Src1 prog w A h₀ L m env elt ifs scope cl y (Fin2 h₀ L (fun _ => m) fun D s' => Q (.ref D) s')) E s)
    (hs : ∀ v, foldedSetIterable iter env v = pure v := by intro _; rfl) :
    wpAny (model prog w) A (eval (.ListComp elt [⟨.Name y py, iter, ifs, 0⟩] scope pos) env) Q E s := by
  rw [eval_ListComp]
  refine wpAny_comprehension_free (use := none) rfl hs hclos hkind hnames (wpAny_mono h (fun xv s₁ h₁ => ?_) fun _ _ e => e)
  obtain ⟨b, vs, k, us, p, g, rest, rfl, hh, F, N, hb, hus, hB, htest, helt, fin⟩ := h₁
  have hbm := N _ hb
  have hl : s₁.heap.IsList b vs.toArray := ⟨_, hbm.1, rfl, k, rfl⟩
  have hlt : b < s₁.heap.objs.size := Heap.lt_size hbm.1
  refine wpAny_pyIter_list hl ?_
  have hst : (s₁.heap.push { cls := .type "list_iterator", data := .fields #[.ref b, .int 0 0] }).IsListIter s₁.heap.objs.size b 0 ∧ (s₁.heap.push { cls := .type "list_iterator", data := .fields #[.ref b, .int 0 0] }).IsList b vs.toArray := ⟨⟨_, Heap.get?_push_size _ rfl, rfl, rfl⟩, hl.push _⟩
  have Wk := Walks.list (prog := prog) (w := w) hh s₁.heap.objs.size b (Nat.ne_of_lt hlt) vs.toArray
  have Np : News h₀ L (s₁.heap.push { cls := .type "list_iterator", data := .fields #[.ref b, .int 0 0] }) ((s₁.heap.objs.size, { cls := .type "list_iterator", data := .fields #[.ref b, .int 0 0] }) :: rest) := fun q hq => by
    rcases List.mem_cons.mp hq with rfl | hq
    · exact ⟨Heap.get?_push_size _ rfl, fun e => Nat.lt_irrefl _ (e ▸ F.ns.lt), next_is_new F⟩
    · exact ⟨Heap.get?_push_of_some _ (N q hq).1, (N q hq).2⟩
  refine comp_begin (s := { s₁ with heap := s₁.heap.push { cls := .type "list_iterator", data := .fields #[.ref b, .int 0 0] } }) rfl hcell hkind (F.push _) Np (fun q hq => Nat.ne_of_lt (Heap.lt_size (N q hq).1)) ?_ ?_
  · intro h tk Q E' hk hq
    exact Wk.self 0 { s₁ with heap := h, toks := tk } _ _ (Wk.frame _ _ _ hst fun b' _ o e => hk b' o e) hq
  · intro h tk oC mC C D F' N' hC off hIC hID hCD hlt' hk
    refine last_loop (s := { s₁ with heap := h, toks := tk }) (keep := [(b, W.listOf vs.toArray k)]) (P := fun i v => vs.toArray[i]? = some v) (St := fun i h => h.IsListIter s₁.heap.objs.size b i ∧ h.IsList b vs.toArray) (n := vs.toArray.size) (us := us) (p := p) (g := g) (ts := []) (last_one elt iter y py ifs scope pos) hkind hy Wk (fun i h' st => let ⟨o, ho, _⟩ := st.1; ⟨o, ho⟩) (by rw [List.size_toArray]; exact hus.length) (fun i v hP => hus.at (by simpa using hP)) (fun q hq => by rw [List.mem_singleton.mp hq]; exact hb) (Wk.frame _ _ _ hst fun b' _ o e => hk b' o e) F' N' hC off hIC hID hCD .nil (by simpa using hB) ?_ ?_ ?_
    · intro h' tk' oC' mC' v t Q' E' ht hC' hy' _ hr F₁ N₁ q
      exact htest C h tk h' tk' oC' mC' v t Q' E' ht hC' hy' trivial hr F₁ N₁ q
    · intro h' tk' oC' mC' v t Q' E' ht hp hC' hy' _ hr F₁ N₁ q
      exact helt C h tk h' tk' oC' mC' v t Q' E' ht hp hC' hy' trivial hr F₁ N₁ q
    · intro h' tk' oC' mC' ys' F₁ N₁ hC₁ _ hT
      exact fin_none (s := { s₁ with heap := h', toks := tk' }) F₁ N₁ hC₁ hCD (fun q hq => (off.mem q hq).2.1) fun h'' F₂ N₂ => fin D ys' h'' tk' hlt' (by simpa using hT) F₂ N₂
end
end
end
section
set_option maxHeartbeats 8000000
section
open PySem PySem.W PySem.Calls PyProof.Rows PySem.Spec LCg
inductive All2 {α β : Type} (F : α → β → Prop) : List α → List β → Prop where
  | nil : All2 F [] []
  | cons {a b l₁ l₂} : F a b → All2 F l₁ l₂ → All2 F (a :: l₁) (b :: l₂)
theorem All2.length {α β : Type} {F : α → β → Prop} {l₁ : List α} {l₂ : List β} (h : All2 F l₁ l₂) : l₁.length = l₂.length := by
  induction h with
  | nil => rfl
  | cons _ _ ih => simp [ih]
theorem All2.append {α β : Type} {F : α → β → Prop} {l₁ l₁' : List α} {l₂ l₂' : List β} (h : All2 F l₁ l₂) (h' : All2 F l₁' l₂') : All2 F (l₁ ++ l₁') (l₂ ++ l₂') := by
  induction h with
  | nil => exact h'
  | cons r _ ih => exact .cons r ih
theorem All2.mono {α β : Type} {F G : α → β → Prop} (hFG : ∀ a b, F a b → G a b) {l₁ : List α} {l₂ : List β} (h : All2 F l₁ l₂) : All2 G l₁ l₂ := by
  induction h with
  | nil => exact .nil
  | cons r _ ih => exact .cons (hFG _ _ r) ih
theorem All2.get {α β : Type} {F : α → β → Prop} {l₁ : List α} {l₂ : List β} (h : All2 F l₁ l₂) : ∀ {i : Nat} {b : β}, l₂[i]? = some b → ∃ a, l₁[i]? = some a ∧ F a b := by
  induction h with
  | nil => intro i v e; cases e
  | cons r _ ih =>
    intro i v e
    cases i with
    | zero => cases e; exact ⟨_, rfl, r⟩
    | succ i => exact ih e
noncomputable def CellAt (nx : List (Addr × Obj)) (v : Value) (ts : List (List Nat)) : Prop := ∃ c vs n, v = .ref c ∧ (c, W.listOf vs.toArray n) ∈ nx ∧ Texts vs ts
noncomputable def RowAt (nx : List (Addr × Obj)) (v : Value) (cells : List (List (List Nat))) : Prop := ∃ r vs n, v = .ref r ∧ (r, W.listOf vs.toArray n) ∈ nx ∧ All2 (CellAt nx) vs cells
theorem CellAt.mono {nx nx' : List (Addr × Obj)} {v : Value} {ts : List (List Nat)} (h : CellAt nx v ts) (hs : ∀ q ∈ nx, q ∈ nx') : CellAt nx' v ts := let ⟨c, vs, n, a, b, d⟩ := h; ⟨c, vs, n, a, hs _ b, d⟩
theorem RowAt.mono {nx nx' : List (Addr × Obj)} {v : Value} {cells : List (List (List Nat))} (h : RowAt nx v cells) (hs : ∀ q ∈ nx, q ∈ nx') : RowAt nx' v cells := let ⟨c, vs, n, a, b, d⟩ := h; ⟨c, vs, n, a, hs _ b, d.mono fun _ _ x => x.mono hs⟩
section
variable {prog : Program} {w : World} {A : Around} {E : Value → Shared → Prop} {s : Shared} {h₀ : Heap} {L : Addr} {m : Str → Option Value} {news : List (Addr × Obj)}
theorem item_at {value slice : PySem.Expr} {l : Addr} {vs : List Value} {n : Nat} {k : Int} {u : Tok} {v : Value} {Q : Value → Shared → Prop} (N : News h₀ L s.heap news) (hm : (l, W.listOf vs.toArray n) ∈ news) (h0 : 0 ≤ k) (hhi : k < 2 ^ 63) (hx : vs[k.toNat]? = some v) (h : Q v s)
    (hs : subscripted slice false (.ref l) (.int k u) = operate [.ref l, .int k u] (getItem (.ref l) (.int k u)) := by with_unfolding_all rfl) : wpAny (model prog w) A (subscriptTail value slice (.ref l) (.int k u)) Q E s := by
  have hl : s.heap.IsList l vs.toArray := ⟨_, (N _ hm).1, rfl, n, rfl⟩
  exact tail_any hl.typeIs slot_list_getitem.lookup (wpAny_getItem_list hl h0 hhi (by simpa using hx) h) hs
theorem add_two {a b : Addr} {vs ws : List Value} {n k : Nat} {Q : Value → Shared → Prop} (F : Fr h₀ L s.heap m) (N : News h₀ L s.heap news) (ha : (a, W.listOf vs.toArray n) ∈ news) (hb : (b, W.listOf ws.toArray k) ∈ news) (hsz : vs.length + ws.length ≤ sizeLine)
    (h : ∀ D h', Fr h₀ L h' m → News h₀ L h' ((D, W.listOf (vs ++ ws).toArray 0) :: news) → (∀ q ∈ news, q.1 < D) → Q (.ref D) { s with heap := h' }) : wpAny (model prog w) A (binaryOp .Add (.ref a) (.ref b)) Q E s :=
  add_lists (hsz := hsz) F N ⟨_, (N _ ha).1, rfl, n, rfl⟩ ⟨_, (N _ hb).1, rfl, k, rfl⟩ fun h' F' N' => h _ h' F' N' fun q hq => Heap.lt_size (N q hq).1
end
end
end
local macro_rules | `(tactic| walk_at "own 1") => `(tactic| (k_here; (with_reducible show wpAny _ _ (subscriptTail _ _ (Value.ref _) (Value.int _ _)) _ _ _); k_dflt (refine' item_at ?N ?m ?h0 ?hh ?hx ?_; (case N => k_asm); (case m => walk_at "own mem3"); (case h0 => omega); (case hh => omega); (case hx => first | with_reducible assumption | exact rfl | assumption); k_whole)))
local macro_rules | `(tactic| walk_at "own 4") => `(tactic| (k_here; (with_reducible show wpAny _ _ (subscriptTail _ _ (Value.ref _) (Value.int _ _)) _ _ _); k_dflt (refine' item_at ?N ?m ?h0 ?hh ?hx ?_; (case N => k_asm); (case m => walk_at "own mem3"); (case h0 => first | omega | exact Int.natCast_nonneg _ | (simp <;> done)); (case hh => first | omega | (refine Int.lt_of_le_of_lt (b := ((4 : Nat) : Int)) (Int.ofNat_le.mpr (Nat.le_of_lt_succ ?_)) (by decide) <;> assumption)); (case hx => first | with_reducible assumption | exact rfl | assumption); k_whole)))
section
set_option maxHeartbeats 8000000
section
open PySem PySem.W PySem.Calls PyProof.Rows PySem.Spec LCg
/-- the pieces of _law_words -/
noncomputable def wSc : Scope := scopeOf (st 18)
noncomputable def fBody : Stmt → List Stmt
  | .For _ _ b _ _ => b
  | _ => []
noncomputable def ifBody : Stmt → List Stmt
  | .If _ b _ _ => b
  | _ => []
noncomputable def nth (l : List Stmt) (i : Nat) : Stmt := l.getD i noStmt
noncomputable def wLoop1 : Stmt := nth (bodyOf (st 18)) 1
noncomputable def wLoop2 : Stmt := nth (fBody wLoop1) 1
noncomputable def wLoop3 : Stmt := nth (fBody wLoop2) 1
noncomputable def wLoop4 : Stmt := nth (ifBody (nth (fBody wLoop3) 3)) 0
noncomputable abbrev wCl (c1 c2 c3 c4 c5 : Addr) : List (Str × Addr) := [(Str.ofString "i", c5), (Str.ofString "parts", c4), (Str.ofString "k", c3), (Str.ofString "length", c2), (Str.ofString "table", c1)]
noncomputable abbrev wEnv (sc : Scope) (L c1 c2 c3 c4 c5 : Addr) : Env := envX (Str.ofString "_law_words") sc L 209 (.ref 208) (wCl c1 c2 c3 c4 c5)
/-- what a statement of _law_words does -/
noncomputable abbrev CutS (w : World) (mean : ExcName → Option Value) (mg mb : Str → Option Value) (stm : Stmt) (D U : Nat)
   (R : Addr → Addr → Addr → Addr → Addr → Heap → Addr → (Str → Option Value) → List (Addr × Obj) → Shared → (Flow → Shared → Prop) → Prop) : Prop :=
  Fill PySem.Challenge.rw_wf0060_01 → ∀ (dp un : Nat) (gd : Option (List Code)) (outer : List Env) (A₀ : Around) (base h₀ : Heap) (L c1 c2 c3 c4 c5 : Addr) (m : Str → Option Value) (s : Shared) (Q : Flow → Shared → Prop) (E : Value → Shared → Prop) (news : List (Addr × Obj)),
    Below A₀ base outer h₀ → Fr h₀ L s.heap m → (Mine.hd.heap_1 w.params).In h₀ → News h₀ L s.heap news → Top q60 (looseW q60 loose60) mean mg mb h₀ → Tabs2 w base → dp + D < recursionLimit → un + U < cLine →
    PassesOwn (model pw w) (ktrTop dp un gd (Str.ofString "_law_words") wSc L 209 (.ref 208) (wCl c1 c2 c3 c4 c5) outer) (wEnv wSc L c1 c2 c3 c4 c5) E →
    R c1 c2 c3 c4 c5 h₀ L m news s Q →
      wpAny (model pw w) (ktrTop dp un gd (Str.ofString "_law_words") wSc L 209 (.ref 208) (wCl c1 c2 c3 c4 c5) outer) (exec stm (wEnv wSc L c1 c2 c3 c4 c5)) Q E s
variable (w : World) (mean : ExcName → Option Value) (mg mb : Str → Option Value)
local macro_rules | `(tactic| walk_at "exec For Name Call cons nil") => `(tactic| walk_at "own 0")
/-- five addresses, all apart -/
noncomputable def Five (c1 c2 c3 c4 c5 : Nat) : Prop := c1 ≠ c2 ∧ c1 ≠ c3 ∧ c1 ≠ c4 ∧ c1 ≠ c5 ∧ c2 ≠ c3 ∧ c2 ≠ c4 ∧ c2 ≠ c5 ∧ c3 ≠ c4 ∧ c3 ≠ c5 ∧ c4 ≠ c5
noncomputable def Off5 (c1 c2 c3 c4 c5 : Addr) (tl : List (Addr × Obj)) : Prop := (∀ p ∈ tl, p.1 ≠ c1) ∧ (∀ p ∈ tl, p.1 ≠ c2) ∧ (∀ p ∈ tl, p.1 ≠ c3) ∧ (∀ p ∈ tl, p.1 ≠ c4) ∧ (∀ p ∈ tl, p.1 ≠ c5)
noncomputable def cellOf (rows : List (List (List (List Nat)))) (i p : Nat) : List (List Nat) := (rows.getD i []).getD p []
noncomputable def pairsOf (rows : List (List (List (List Nat)))) (len p q i : Nat) : List (List Nat) := (cellOf rows i p).flatMap fun u => (cellOf rows (len - 1 - i) q).map fun v => u ++ v
/-- a table that is small enough -/
noncomputable def TabOk (rows : List (List (List (List Nat)))) : Prop := ∀ row ∈ rows, row.length = 5 ∧ ∀ c ∈ row, c.length ≤ 1000 ∧ ∀ t ∈ c, t.length ≤ 1000
theorem TabOk.cell {rows : List (List (List (List Nat)))} (h : TabOk rows) (i p : Nat) : (cellOf rows i p).length ≤ 1000 ∧ ∀ t ∈ cellOf rows i p, t.length ≤ 1000 := by
  unfold cellOf
  rw [List.getD_eq_getElem?_getD, List.getD_eq_getElem?_getD]
  cases h1 : rows[i]? with
  | none => simp
  | some row =>
    obtain ⟨_, h2⟩ := h row (List.mem_of_getElem? h1)
    cases h3 : row[p]? with
    | none => simp [h3]
    | some c =>
      have := h2 c (List.mem_of_getElem? h3)
      simpa [h3] using this
theorem cell_get {tl : List (Addr × Obj)} {vsT : List Value} {rows : List (List (List (List Nat)))} (h : All2 (RowAt tl) vsT rows) (hk : TabOk rows) {i p : Nat} (hi : i < rows.length) (hp : p < 5) :
    ∃ (r : Addr) (vsR : List Value) (nR : Nat) (b : Addr) (vs : List Value) (n : Nat), vsT[i]? = some (.ref r) ∧ (r, W.listOf vsR.toArray nR) ∈ tl ∧ vsR[p]? = some (.ref b) ∧ (b, W.listOf vs.toArray n) ∈ tl ∧ Texts vs (cellOf rows i p) := by
  have h1 : rows[i]? = some rows[i] := List.getElem?_eq_getElem hi
  obtain ⟨v, e1, r, vsR, nR, rfl, hm, hr⟩ := h.get h1
  have hl := (hk _ (List.getElem_mem hi)).1
  have h2 : rows[i][p]? = some rows[i][p] := List.getElem?_eq_getElem (by omega)
  obtain ⟨v, e2, b, vs, n, rfl, hb, ht⟩ := hr.get h2
  refine ⟨r, vsR, nR, b, vs, n, e1, hm, e2, hb, ?_⟩
  have e3 : cellOf rows i p = rows[i][p] := by
    unfold cellOf
    rw [List.getD_eq_getElem?_getD, List.getD_eq_getElem?_getD, h1, Option.getD_some, h2, Option.getD_some]
  rw [e3]; exact ht
/-- what the loop over i holds -/
noncomputable def J4 (c1 c2 c3 c4 c5 : Addr) (o1 o2 o3 o4 : Obj) (tl : List (Addr × Obj)) (rows : List (List (List (List Nat)))) (len p q : Nat) (m₀ : Str → Option Value) (i : Nat) (m : Str → Option Value) (nx : List (Addr × Obj)) : Prop :=
  ∃ (o5 : Obj) (a : Addr) (vs : List Value) (n : Nat) (nw : List (Addr × Obj)) (v5 : Option Value), nx = (c1, o1) :: (c2, o2) :: (c3, o3) :: (c4, o4) :: (c5, o5) :: (nw ++ tl) ∧ o5.data = .cell v5 ∧ Off5 c1 c2 c3 c4 c5 (nw ++ tl) ∧ (∀ x ∈ nw, ∀ y ∈ tl, x.1 ≠ y.1) ∧ m (Str.ofString "rest") = some (.ref a) ∧
    (∀ z, z ≠ Str.ofString "rest" → m z = m₀ z) ∧ (a, W.listOf vs.toArray n) ∈ nw ++ tl ∧ Texts vs ((List.range i).flatMap (pairsOf rows len p q))
theorem str_cat (a b : List Nat) : (⟨a.toArray⟩ : Str) ++ ⟨b.toArray⟩ = ⟨(a ++ b).toArray⟩ := by
  refine Str.ext' (Array.toList_inj.mp ?_)
  rw [Str.cps_append, Array.toList_append]
theorem pick_true (g : List Nat → List Nat) (us : List (List Nat)) : pick (fun _ => true) g us = us.map g := by unfold pick; rw [List.filter_eq_self.mpr (fun _ _ => rfl)]
theorem pairs_eq (rows : List (List (List (List Nat)))) (len p q i : Nat) : (cellOf rows i p).flatMap (fun u => pick (fun _ => true) (fun v2 => u ++ v2) (cellOf rows (len - 1 - i) q)) = pairsOf rows len p q i := by
  unfold pairsOf
  congr 1
  funext u
  rw [pick_true]
theorem flat_len {α β : Type} (f : α → List β) (B : Nat) : ∀ (l : List α), (∀ x ∈ l, (f x).length ≤ B) → (l.flatMap f).length ≤ l.length * B
  | [], _ => by simp
  | a :: l, h => by
    have h1 := h a (.head _)
    have h2 := flat_len f B l fun x hx => h x (.tail _ hx)
    rw [List.flatMap_cons, List.length_append, List.length_cons, Nat.succ_mul]
    omega
theorem pairs_len {rows : List (List (List (List Nat)))} (h : TabOk rows) (len p q i : Nat) : (pairsOf rows len p q i).length ≤ 1000000 := by
  have h1 := h.cell i p
  have h2 := h.cell (len - 1 - i) q
  refine Nat.le_trans (flat_len _ 1000 _ fun u _ => by rw [List.length_map]; exact h2.1) ?_
  have := Nat.mul_le_mul_right 1000 h1.1
  omega
theorem small_range : ∀ n : Nat, n < 9 → Builtin.Range.small 0 (n : Int) 1 = true ∧ Builtin.Range.rangeSize 0 (n : Int) 1 = ((n : Nat) : Int) := by decide
theorem over_one {m m₀ : Str → Option Value} (a : Str) (v : Value) (hv : m a = some v) (h : ∀ z, z ≠ a → m z = m₀ z) : (fun y => if y = a then some v else m₀ y) = m := by
  funext y
  by_cases h1 : y = a
  · rw [if_pos h1, h1, hv]
  rw [if_neg h1]
  exact (h y h1).symm
local macro_rules | `(tactic| k_all) => `(tactic| assumption)
local macro_rules | `(tactic| walk_at "subscriptTail") => `(tactic| walk_at "own 1")
theorem cut_loop4 (o1 o2 o3 o4 o5 : Obj) (tl : List (Addr × Obj)) (t : Addr) (vsT : List Value) (nT : Nat) (rows : List (List (List (List Nat)))) (len : Nat) (tln : Tok) (pr : Addr) (prn p q : Nat) (tp tq : Tok) (a : Addr) (n : Nat) (v5 : Option Value) :
    CutS w mean mg mb wLoop4 4 80 (fun c1 c2 c3 c4 c5 h₀ L m news s Q => Five c1 c2 c3 c4 c5 ∧ news = (c1, o1) :: (c2, o2) :: (c3, o3) :: (c4, o4) :: (c5, o5) :: tl ∧ Off5 c1 c2 c3 c4 c5 tl ∧
      o1.data = .cell (some (.ref t)) ∧ o2.data = .cell (some (.int ((len : Nat) : Int) tln)) ∧ o4.data = .cell (some (.ref pr)) ∧ o5.data = .cell v5 ∧ (t, W.listOf vsT.toArray nT) ∈ tl ∧ All2 (RowAt tl) vsT rows ∧ TabOk rows ∧ len ≤ 4 ∧ len ≤ rows.length ∧
      (pr, W.listOf [Value.int ((p : Nat) : Int) tp, .int ((q : Nat) : Int) tq].toArray prn) ∈ tl ∧ p < 5 ∧ q < 5 ∧ m (Str.ofString "rest") = some (.ref a) ∧ (a, W.listOf #[] n) ∈ tl ∧
      ∀ m' nx h' tk', J4 c1 c2 c3 c4 c5 o1 o2 o3 o4 tl rows len p q m len m' nx → Fr h₀ L h' m' → News h₀ L h' nx → Q .next { s with heap := h', toks := tk' }) := by
  unfold CutS; k_fill; w_top off
  intro _ dp un gd outer A₀ base h₀ L c1 c2 c3 c4 c5 m s Q E news B F X N T hb hd hu hE hR
  obtain ⟨hf, rfl, hoff, d1, d2, d4, d5, hT, hrows, hok, hlen, hlr, hpr, hp5, hq5, hma, hal, hret⟩ := hR
  conv in (exec wLoop4 _) => arg 1; whnf
  generalize hsc : wSc = sc at *
  conv at hsc => lhs; whnf
  subst hsc
  dsimp only [wEnv, wCl] at *
  k_steps
  rename_i h9 tk9 t9 u9 v9 R9 F9 N9 K9
  obtain ⟨g1, g2⟩ := small_range len (by omega)
  obtain ⟨f12, f13, f14, f15, f23, f24, f25, f34, f35, f45⟩ := hf
  refine turns_range (J4 c1 c2 c3 c4 c5 o1 o2 o3 o4 tl rows len p q m) rfl F9 N9 R9 g1 g2 ⟨o5, a, [], n, [], v5, rfl, d5, hoff, (fun x hx => nomatch hx), hma, fun _ _ => rfl, hal, by simpa using Texts.nil⟩ ?_ ?_
  · clear F9 N9 R9 K9
    intro I i m₁ nx h tk ti it hi hnI hJ F₁ N₁
    obtain ⟨o5', a', vs', n', nw, v5', rfl, d5', ⟨k1, k2, k3, k4, k5⟩, hnw, hm1, hm2, ha', hT'⟩ := hJ
    have F₂ := (over_one _ _ hm1 hm2).symm ▸ F₁
    clear F₁
    have hI1 : (I : Nat) ≠ c1 := (hnI (c1, o1) (.head _)).symm
    have hI2 : (I : Nat) ≠ c2 := (hnI (c2, o2) (.tail _ (.head _))).symm
    have hI3 : (I : Nat) ≠ c3 := (hnI (c3, o3) (.tail _ (.tail _ (.head _)))).symm
    have hI4 : (I : Nat) ≠ c4 := (hnI (c4, o4) (.tail _ (.tail _ (.tail _ (.head _))))).symm
    have hI5 : (I : Nat) ≠ c5 := (hnI (c5, o5') (.tail _ (.tail _ (.tail _ (.tail _ (.head _)))))).symm
    obtain ⟨r1, vsR1, nR1, b1, us1, nb1, e11, e12, e13, e14, e15⟩ := cell_get hrows hok (i := i) (p := p) (by omega) hp5
    obtain ⟨r2, vsR2, nR2, b2, us2, nb2, e21, e22, e23, e24, e25⟩ := cell_get hrows hok (i := len - 1 - i) (p := q) (by omega) hq5
    have z1 : (0 + (i : Int)).toNat = i := by omega
    have z2 : ((len : Int) - 1 - (0 + (i : Int))).toNat = len - 1 - i := by omega
    have x1 : vsT[(0 + (i : Int)).toNat]? = some (.ref r1) := by rw [z1]; exact e11
    have x2 : vsT[((len : Int) - 1 - (0 + (i : Int))).toNat]? = some (.ref r2) := by rw [z2]; exact e21
    have x3 : vsR1[((p : Nat) : Int).toNat]? = some (.ref b1) := e13
    have x4 : vsR2[((q : Nat) : Int).toNat]? = some (.ref b2) := e23
    have m1 := List.mem_append_right nw hT
    have m2 := List.mem_append_right nw hpr
    have m3 := List.mem_append_right nw e12
    have m4 := List.mem_append_right nw e14
    have m5 := List.mem_append_right nw e22
    have m6 := List.mem_append_right nw e24
    k_steps
    refine comp2_eval (by k_asm) (by with_unfolding_all rfl) (by decide) (by rfl) (by decide) (by rfl) ?_
    k_steps
    have hb1 := hok.cell i p
    have hb2 := hok.cell (len - 1 - i) q
    refine ⟨b1, us1, nb1, cellOf rows i p, fun u => pick (fun _ => true) (fun v2 => u ++ v2) (cellOf rows (len - 1 - i) q), _, 1000000, rfl, rfl, by k_asm, by k_asm, ?_, e15, ?_, ?_, ?_⟩
    · (repeat (first | with_reducible assumption | exact List.Mem.head _ | refine List.mem_cons_of_mem _ ?_))
    · rw [pairs_eq]; exact pairs_len hok len p q i
    · intro I' C D g' tk' off hIC hID hCD
      refine brings_list (b := b2) (vs₂ := us2) (k := nb2) (us₂ := cellOf rows (len - 1 - i) q) (p := fun _ _ => true) (g := fun u v2 => u ++ v2) rfl (by rfl) (by rfl) (by decide) ?_ e25 off hIC hID hCD (by rw [sizeLine_eq]; omega) ?_ ?_ ?_
      · (repeat (first | with_reducible assumption | exact List.Mem.head _ | refine List.mem_cons_of_mem _ ?_))
      · intro h5 tk5 oC mC v0 t0 Q0 E0 ht0 hr0 hC0 hx0 F5 N5 hq0
        k_steps
        exact hq0 _
      · intro v0 t0 ht0 hr0 h5 tk5 oC mC v6 t6 Q0 E0 ht6 hC6 hy6 hx6 hr6 F5 N5 hq0
        exact wpAny_tests_nil (hq0 _)
      · intro v0 t0 ht0 hr0 h5 tk5 oC mC v6 t6 Q0 E0 ht6 _ hC6 hy6 hx6 hr6 F5 N5 hq0
        obtain ⟨tk0, rfl⟩ := hr0
        obtain ⟨tk6, rfl⟩ := hr6
        have l0 := hb1.2 t0 ht0
        have l6 := hb2.2 t6 ht6
        k_steps
        rw [str_cat]
        exact hq0 _ _ ⟨_, rfl⟩
    · intro D ys h5 tk5 hlt hTx F5 N5
      have hln := hT'.length
      have hlx := hTx.length
      refine add_two (vs := vs') (ws := ys) F5 N5 (.tail _ (.tail _ (.tail _ (.tail _ (.tail _ (.tail _ (.tail _ ha'))))))) (.head _) ?_ ?_
      · have y1 := flat_len (pairsOf rows len p q) 1000000 (List.range i) fun x _ => pairs_len hok len p q x
        have y2 := pairs_len hok len p q i
        rw [List.length_range] at y1
        have y3 : ys.length ≤ 1000000 := by rw [hlx, pairs_eq]; exact y2
        rw [sizeLine_eq, hln]; omega
      · intro D2 h6 F6 N6 l6
        k_steps
        have q0 : (D2 : Nat) ≠ I := Nat.ne_of_gt (l6 (I, it) (.tail _ (.head _)))
        have q1 : (D2 : Nat) ≠ c1 := Nat.ne_of_gt (l6 (c1, o1) (.tail _ (.tail _ (.head _))))
        have q2 : (D2 : Nat) ≠ c2 := Nat.ne_of_gt (l6 (c2, o2) (.tail _ (.tail _ (.tail _ (.head _)))))
        have q3 : (D2 : Nat) ≠ c3 := Nat.ne_of_gt (l6 (c3, o3) (.tail _ (.tail _ (.tail _ (.tail _ (.head _))))))
        have q4 : (D2 : Nat) ≠ c4 := Nat.ne_of_gt (l6 (c4, o4) (.tail _ (.tail _ (.tail _ (.tail _ (.tail _ (.head _)))))))
        have q5 : (D2 : Nat) ≠ c5 := Nat.ne_of_gt (l6 (c5, _) (.tail _ (.tail _ (.tail _ (.tail _ (.tail _ (.tail _ (.head _))))))))
        have q6 : ∀ x ∈ nw ++ tl, D2 ≠ x.1 := fun x hx => Nat.ne_of_gt (l6 x (.tail _ (.tail _ (.tail _ (.tail _ (.tail _ (.tail _ (.tail _ hx))))))))
        refine FreeEnd.intro (nx := (c1, o1) :: (c2, o2) :: (c3, o3) :: (c4, o4) :: (c5, _) :: (((D2, W.listOf (vs' ++ ys).toArray 0) :: nw) ++ tl)) (by assumption) (fun x hx => ?_) (fun x hx y hy => ?_) ⟨_, D2, vs' ++ ys, 0, (D2, W.listOf (vs' ++ ys).toArray 0) :: nw, _, rfl, by assumption, ?_, ?_, ?_, ?_, .head _, ?_⟩
        · refine (by assumption : News _ _ _ _) x ?_
          simp only [List.mem_append, List.mem_cons, List.cons_append] at hx ⊢; grind
        · rw [List.mem_singleton.mp hy]
          simp only [List.mem_cons, List.cons_append] at hx
          rcases hx with rfl | rfl | rfl | rfl | rfl | rfl | hx
          · exact hI1.symm
          · exact hI2.symm
          · exact hI3.symm
          · exact hI4.symm
          · exact hI5.symm
          · exact q0
          · exact hnI x (.tail _ (.tail _ (.tail _ (.tail _ (.tail _ hx)))))
        · refine ⟨fun x hx => ?_, fun x hx => ?_, fun x hx => ?_, fun x hx => ?_, fun x hx => ?_⟩
          all_goals rcases List.mem_cons.mp hx with rfl | hx
          · exact q1
          · exact k1 x hx
          · exact q2
          · exact k2 x hx
          · exact q3
          · exact k3 x hx
          · exact q4
          · exact k4 x hx
          · exact q5
          · exact k5 x hx
        · intro x hx y hy
          rcases List.mem_cons.mp hx with rfl | hx
          · exact q6 y (List.mem_append_right _ hy)
          · exact hnw x hx y hy
        · exact if_pos rfl
        · intro z hz
          simp [hz]
        · rw [List.range_succ, List.flatMap_append]
          refine hT'.append ?_
          rw [pairs_eq] at hTx
          simpa using hTx
  · intro m₁ nx h tk hJ F₁ N₁
    k_steps
    exact hret _ _ _ _ hJ F₁ N₁
end
end
section
set_option maxHeartbeats 8000000
section
open PySem PySem.W PySem.Calls PyProof.Rows PySem.Spec LCg
variable (w : World) (mean : ExcName → Option Value) (mg mb : Str → Option Value)
local macro_rules | `(tactic| walk_at "exec For Name Call cons nil") => `(tactic| walk_at "own 0")
local macro_rules | `(tactic| k_all) => `(tactic| assumption)
local macro_rules | `(tactic| walk_at "subscriptTail") => `(tactic| walk_at "own 1")
/-- what the parts lead to -/
noncomputable def restOf (rows : List (List (List (List Nat)))) (len : Nat) : List Int → List (List Nat)
  | [] => if len = 1 then [[]] else []
  | [p] => cellOf rows (len - 1) p.toNat
  | [p, q] => (List.range len).flatMap (pairsOf rows len p.toNat q.toNat)
  | _ => []
noncomputable def figAt (figs : List Int) (i : Nat) : Int := figs.getD i 0
/-- the words of a name by one letter -/
noncomputable def wordsBy (rows : List (List (List (List Nat)))) (len : Nat) (figs : List Int) (nm k : Nat) : List (List Nat) :=
  if figAt figs (2 * nm + k) = 0 then [] else (restOf rows len (partsOf (figAt figs (2 * nm + k)))).map fun t => (97 + k) :: t
noncomputable def J3 (c1 c2 c3 c4 c5 : Addr) (o1 o2 : Obj) (tl : List (Addr × Obj)) (rows : List (List (List (List Nat)))) (len : Nat) (figs : List Int) (nm : Nat) (wd : Addr) (m₀ : Str → Option Value) (i : Nat) (m : Str → Option Value) (nx : List (Addr × Obj)) : Prop :=
  ∃ (o3 o4 o5 : Obj) (wv : List Value) (n : Nat) (nw : List (Addr × Obj)) (v3 v4 v5 : Option Value), nx = (wd, W.listOf wv.toArray n) :: (c1, o1) :: (c2, o2) :: (c3, o3) :: (c4, o4) :: (c5, o5) :: (nw ++ tl) ∧ o3.data = .cell v3 ∧ o4.data = .cell v4 ∧ o5.data = .cell v5 ∧
    Off5 c1 c2 c3 c4 c5 (nw ++ tl) ∧ (∀ x ∈ nw ++ tl, x.1 ≠ wd) ∧ (∀ x ∈ nw, ∀ y ∈ tl, x.1 ≠ y.1) ∧ (∀ z, z ≠ Str.ofString "rest" → m z = m₀ z) ∧ Texts wv ((List.range i).flatMap (wordsBy rows len figs nm))
/-- a frame's map with some names told -/
noncomputable def known : List (Str × Option Value) → (Str → Option Value) → Str → Option Value
  | [], m => m
  | p :: r, m => fun y => if y = p.1 then p.2 else known r m y
theorem known_over {m m₀ : Str → Option Value} : ∀ {ps : List (Str × Option Value)}, (∀ p ∈ ps, m p.1 = p.2) → (∀ z, (∀ p ∈ ps, z ≠ p.1) → m z = m₀ z) → known ps m₀ = m
  | [], _, h => by funext z; exact (h z fun _ hp => nomatch hp).symm
  | p :: r, h1, h2 => by
    funext z
    show (if z = p.1 then p.2 else known r m₀ z) = m z
    by_cases e : z = p.1
    · rw [if_pos e, e]; exact (h1 p (.head _)).symm
    · rw [if_neg e]
      have ih : known r (fun z => if z = p.1 then m z else m₀ z) = m := known_over (fun q hq => h1 q (.tail _ hq)) fun y hy => by
        by_cases e' : y = p.1
        · rw [if_pos e']
        · rw [if_neg e']
          exact h2 y fun q hq => by
            rcases List.mem_cons.mp hq with rfl | hq
            · exact e'
            · exact hy q hq
      have z1 : ∀ (r : List (Str × Option Value)) (a b : Str → Option Value), a z = b z → known r a z = known r b z := by
        intro r a b hab
        induction r with
        | nil => exact hab
        | cons q r ih => show (if z = q.1 then q.2 else known r a z) = (if z = q.1 then q.2 else known r b z); rw [ih]
      rw [z1 r m₀ (fun z => if z = p.1 then m z else m₀ z) (by simp [e]), ih]
theorem known_same {m : Str → Option Value} {ps : List (Str × Option Value)} (h : ∀ p ∈ ps, m p.1 = p.2) : known ps m = m := known_over h fun _ _ => rfl
theorem ints_get {vs : List Value} {ns : List Int} (h : IntsAre vs ns) {i : Nat} (hi : i < ns.length) : ∃ t, vs[i]? = some (.int (figAt ns i) t) := by
  induction h generalizing i with
  | nil => simp at hi
  | cons a t h ih =>
    cases i with
    | zero => exact ⟨t, rfl⟩
    | succ i =>
      obtain ⟨t', e⟩ := ih (i := i) (by simpa using hi)
      exact ⟨t', e⟩
/-- what the list of statements does -/
noncomputable abbrev CutE (w : World) (mean : ExcName → Option Value) (mg mb : Str → Option Value) (stms : List Stmt) (D U : Nat)
   (R : Addr → Addr → Addr → Addr → Addr → Heap → Addr → (Str → Option Value) → List (Addr × Obj) → Shared → (Flow → Shared → Prop) → Prop) : Prop :=
  Fill PySem.Challenge.rw_wf0060_01 → ∀ (dp un : Nat) (gd : Option (List Code)) (outer : List Env) (A₀ : Around) (base h₀ : Heap) (L c1 c2 c3 c4 c5 : Addr) (m : Str → Option Value) (s : Shared) (Q : Flow → Shared → Prop) (E : Value → Shared → Prop) (news : List (Addr × Obj)),
    Below A₀ base outer h₀ → Fr h₀ L s.heap m → (Mine.hd.heap_1 w.params).In h₀ → News h₀ L s.heap news → Top q60 (looseW q60 loose60) mean mg mb h₀ → Tabs2 w base → dp + D < recursionLimit → un + U < cLine →
    PassesOwn (model pw w) (ktrTop dp un gd (Str.ofString "_law_words") wSc L 209 (.ref 208) (wCl c1 c2 c3 c4 c5) outer) (wEnv wSc L c1 c2 c3 c4 c5) E →
    R c1 c2 c3 c4 c5 h₀ L m news s Q →
      wpAny (model pw w) (ktrTop dp un gd (Str.ofString "_law_words") wSc L 209 (.ref 208) (wCl c1 c2 c3 c4 c5) outer) (execs stms (wEnv wSc L c1 c2 c3 c4 c5)) Q E s
theorem extend_two {w : World} {A : Around} {E : Value → Shared → Prop} {s : Shared} {h₀ : Heap} {L : Addr} {m : Str → Option Value} {news rst : List (Addr × Obj)} {a b : Addr} {vs ws : List Value} {n k : Nat} {Q : Value → Shared → Prop} (F : Fr h₀ L s.heap m) (N : News h₀ L s.heap news) (ha : (a, W.listOf vs.toArray n) ∈ news) (hb : (b, W.listOf ws.toArray k) ∈ news) (hab : b ≠ a) (hr : ∀ p ∈ rst, p ∈ news) (hne : ∀ p ∈ rst, p.1 ≠ a) (hsz : vs.length + ws.length ≤ sizeLine)
    (h : ∀ h' n', Fr h₀ L h' m → News h₀ L h' ((a, W.listOf (vs ++ ws).toArray n') :: rst) → Q .none { s with heap := h' }) : wpAny (model pw w) A (call (.builtin "list.extend") [.ref a, .ref b]) Q E s := by
  have N' : News h₀ L s.heap ([] ++ (a, { cls := .type "list", data := .seq vs.toArray n }) :: rst) := fun p hp => by
    rcases List.mem_cons.mp hp with rfl | hp
    · exact N _ ha
    · exact N p (hr p hp)
  exact extend_in (hsz := by simpa using hsz) F N' (fun _ h => nomatch h) hne (N _ hb).1 fun h' n' F' N' => h h' n' F' N'
local macro_rules | `(tactic| walk_at "eval ListComp") => `(tactic| (k_here; k_dflt (refine comp1_eval (by k_asm) (by with_unfolding_all rfl) (by decide) (by rfl) (by decide) (by rfl) ?_)))
theorem item_ab : ∀ i : Nat, i < 2 → Txt.item (Str.ofString "ab") (0 + (i : Int)) = ⟨#[97 + i]⟩ := by
  intro i hi
  have : i = 0 ∨ i = 1 := by omega
  rcases this with rfl | rfl <;> decide +kernel
theorem ab_cons (i : Nat) (t : List Nat) : (⟨#[97 + i]⟩ : Str) ++ ⟨t.toArray⟩ = ⟨((97 + i) :: t).toArray⟩ := by
  have := str_cat [97 + i] t
  simpa using this
/-- the last statement of the loop over k -/
theorem cut_tail3 (wd : Addr) (wv : List Value) (wn : Nat) (o3 : Obj) (i : Nat) (ti : Tok) (fa : Addr) (fv : List Value) (fn : Nat) (nm : Nat) (tn : Tok) (fg : Int) (tf : Tok) (a : Addr) (rv : List Value) (rn : Nat) (rs : List (List Nat)) (rst : List (Addr × Obj)) :
    CutE w mean mg mb [nth (fBody wLoop3) 4] 4 80 (fun c1 c2 c3 c4 c5 h₀ L m news s Q => (wd, W.listOf wv.toArray wn) ∈ news ∧ (c3, o3) ∈ news ∧ o3.data = .cell (some (.int (0 + ((i : Nat) : Int)) ti)) ∧ i < 2 ∧ nm < 3 ∧ (fa, W.listOf fv.toArray fn) ∈ news ∧ (a, W.listOf rv.toArray rn) ∈ news ∧
      m (Str.ofString "figures") = some (.ref fa) ∧ m (Str.ofString "name") = some (.int (0 + ((nm : Nat) : Int)) tn) ∧ m (Str.ofString "words") = some (.ref wd) ∧ m (Str.ofString "rest") = some (.ref a) ∧ fv[(2 * (0 + (nm : Int)) + (0 + (i : Int))).toNat]? = some (.int fg tf) ∧ Texts rv rs ∧ rs.length ≤ 4000000 ∧ (∀ t ∈ rs, t.length ≤ 4000) ∧ wv.length ≤ 4000000 ∧
      (∀ p ∈ rst, p ∈ news) ∧ (∀ p ∈ rst, p.1 ≠ wd) ∧
      ∀ zs n' h' tk', Texts zs (if fg = 0 then [] else rs.map fun t => (97 + i) :: t) → Fr h₀ L h' m → News h₀ L h' ((wd, W.listOf (wv ++ zs).toArray n') :: rst) → Q .next { s with heap := h', toks := tk' }) := by
  unfold CutE; k_fill; w_top off
  intro _ dp un gd outer A₀ base h₀ L c1 c2 c3 c4 c5 m s Q E news B F X N T hb hd hu hE hR
  obtain ⟨hwd, hc3, d3, hi, hnm, hfa, ha, hmf, hmn, hmw, hmr, x1, hrs, hrl, hrt, hwl, hr, hne, hret⟩ := hR
  conv in (nth (fBody wLoop3) 4) => whnf
  generalize hsc : wSc = sc at *
  conv at hsc => lhs; whnf
  subst hsc
  dsimp only [wEnv, wCl] at *
  have hk := known_same (m := m) (ps := [(Str.ofString "rest", some (.ref a)), (Str.ofString "figures", some (.ref fa)), (Str.ofString "name", some (.int (0 + (nm : Int)) tn)), (Str.ofString "words", some (.ref wd))]) (by simp [hmf, hmn, hmw, hmr])
  have F₂ := hk.symm ▸ F
  clear F
  k_steps
  · -- the figure is not nought
    refine ⟨a, rv, rn, rs, fun _ => true, fun t => (97 + i) :: t, _, rfl, rfl, by k_asm, by k_asm, ha, hrs, by rw [sizeLine_eq]; omega, ?_, ?_, ?_⟩
    · intro C g' tk h5 tk5 oC mC v6 t6 Q0 E0 ht6 hC6 hy6 hx6 hr6 F5 N5 hq0
      exact wpAny_tests_nil (hq0 _)
    · intro C g' tk h5 tk5 oC mC v6 t6 Q0 E0 ht6 _ hC6 hy6 hx6 hr6 F5 N5 hq0
      obtain ⟨tk6, rfl⟩ := hr6
      have l6 := hrt t6 ht6
      have hc3' : (c3, o3) ∈ (C, oC) :: news := .tail _ hc3
      k_steps
      rw [item_ab i hi]
      exact hq0 _ _ ⟨_, by rw [ab_cons]⟩
    · intro D ys h5 tk5 hlt hTx F5 N5
      k_steps
      rw [pick_true] at hTx
      have hys : ys.length = rs.length := by rw [hTx.length, List.length_map]
      have hDw : (D : Nat) ≠ wd := fun e => absurd (hlt _ hwd) (by simp [e])
      refine extend_two (vs := wv) (ws := ys) (rst := rst) F5 N5 (.tail _ hwd) (.head _) hDw (fun p hp => .tail _ (hr p hp)) hne (by rw [sizeLine_eq]; omega) ?_
      intro h6 n6 F6 N6
      k_steps
      exact hret ys n6 h6 _ (by rw [if_neg (by assumption)]; exact hTx) (hk ▸ F6) N6
  · have N' : News h₀ L s.heap ((wd, W.listOf (wv ++ []).toArray wn) :: rst) := fun p hp => by
      rcases List.mem_cons.mp hp with rfl | hp
      · rw [List.append_nil]; exact N _ hwd
      · exact N p (hr p hp)
    exact hret [] wn _ _ (by rw [if_pos (by assumption)]; exact .nil) (hk ▸ F₂) N'
end
end
section
set_option maxHeartbeats 8000000
section
local macro_rules | `(tactic| walk_at "idle") => `(tactic| skip)
open PySem PySem.W PySem.Calls PyProof.Rows PySem.Spec LCg
variable (w : World) (mean : ExcName → Option Value) (mg mb : Str → Option Value)
noncomputable def Hold (p : Prop) : Prop := p
theorem hold {p : Prop} (h : Hold p) : p := h
local macro_rules | `(tactic| walk_at "exec For Name Call cons nil") => `(tactic| (k_here; refine hold ?_))
local macro_rules | `(tactic| walk_at "execs cons") => `(tactic| ((with_reducible show wpAny _ _ (execs [Stmt.If _ _ [] _] _) _ _ _); refine hold ?_))
local macro_rules | `(tactic| k_all) => `(tactic| assumption)
local macro_rules | `(tactic| walk_at "subscriptTail") => `(tactic| walk_at "own 4")
theorem rest_len {rows : List (List (List (List Nat)))} (hok : TabOk rows) {len : Nat} (hlen : len ≤ 4) : ∀ ps : List Int, (restOf rows len ps).length ≤ 4000000 ∧ ∀ t ∈ restOf rows len ps, t.length ≤ 4000
  | [] => by
    rw [show restOf rows len [] = if len = 1 then [[]] else [] from rfl]
    split <;> simp
  | [p] => by
    have := hok.cell (len - 1) p.toNat
    rw [show restOf rows len [p] = cellOf rows (len - 1) p.toNat from rfl]
    exact ⟨by omega, fun t ht => by have := this.2 t ht; omega⟩
  | [p, q] => by
    have h1 := flat_len (pairsOf rows len p.toNat q.toNat) 1000000 (List.range len) fun x _ => pairs_len hok len _ _ x
    rw [List.length_range] at h1
    rw [show restOf rows len [p, q] = (List.range len).flatMap (pairsOf rows len p.toNat q.toNat) from rfl]
    refine ⟨by omega, fun t ht => ?_⟩
    obtain ⟨i, _, hi⟩ := List.mem_flatMap.mp ht
    unfold pairsOf at hi
    obtain ⟨u, hu, hv⟩ := List.mem_flatMap.mp hi
    obtain ⟨v, hv', rfl⟩ := List.mem_map.mp hv
    have a1 := (hok.cell _ _).2 u hu
    have a2 := (hok.cell _ _).2 v hv'
    rw [List.length_append]; omega
  | _ :: _ :: _ :: _ => ⟨by show ([] : List (List Nat)).length ≤ _; simp, fun t ht => nomatch (show t ∈ ([] : List (List Nat)) from ht)⟩
theorem by_len {rows : List (List (List (List Nat)))} (hok : TabOk rows) {len : Nat} (hlen : len ≤ 4) (figs : List Int) (nm k : Nat) : (wordsBy rows len figs nm k).length ≤ 4000000 := by
  unfold wordsBy
  split
  · simp
  · rw [List.length_map]; exact (rest_len hok hlen _).1
theorem cut_loop3 (o1 o2 o3 o4 o5 : Obj) (tl : List (Addr × Obj)) (t : Addr) (vsT : List Value) (nT : Nat) (rows : List (List (List (List Nat)))) (len : Nat) (tln : Tok) (fa : Addr) (fv : List Value) (fn : Nat) (figs : List Int) (nm : Nat) (tn : Tok) (wd : Addr) (wn : Nat) (v3 v4 v5 : Option Value) :
    CutS w mean mg mb wLoop3 8 160 (fun c1 c2 c3 c4 c5 h₀ L m news s Q => Five c1 c2 c3 c4 c5 ∧ news = (wd, W.listOf #[] wn) :: (c1, o1) :: (c2, o2) :: (c3, o3) :: (c4, o4) :: (c5, o5) :: tl ∧ Off5 c1 c2 c3 c4 c5 tl ∧ (∀ x ∈ tl, x.1 ≠ wd) ∧ ((wd : Nat) ≠ c1 ∧ (wd : Nat) ≠ c2 ∧ (wd : Nat) ≠ c3 ∧ (wd : Nat) ≠ c4 ∧ (wd : Nat) ≠ c5) ∧
      o1.data = .cell (some (.ref t)) ∧ o2.data = .cell (some (.int ((len : Nat) : Int) tln)) ∧ o3.data = .cell v3 ∧ o4.data = .cell v4 ∧ o5.data = .cell v5 ∧ (t, W.listOf vsT.toArray nT) ∈ tl ∧ All2 (RowAt tl) vsT rows ∧ TabOk rows ∧ 1 ≤ len ∧ len ≤ 4 ∧ len ≤ rows.length ∧
      (fa, W.listOf fv.toArray fn) ∈ tl ∧ IntsAre fv figs ∧ figs.length = 6 ∧ (∀ f ∈ figs, 0 ≤ f ∧ f < 32) ∧ nm < 3 ∧ m (Str.ofString "figures") = some (.ref fa) ∧ m (Str.ofString "name") = some (.int (0 + ((nm : Nat) : Int)) tn) ∧ m (Str.ofString "words") = some (.ref wd) ∧
      ∀ m' nx h' tk', J3 c1 c2 c3 c4 c5 o1 o2 tl rows len figs nm wd m 2 m' nx → Fr h₀ L h' m' → News h₀ L h' nx → Q .next { s with heap := h', toks := tk' }) := by
  unfold CutS; k_fill; w_top off
  intro _ dp un gd outer A₀ base h₀ L c1 c2 c3 c4 c5 m s Q E news B F X N T hb hd hu hE hR
  obtain ⟨hf, rfl, hoff, hwd, ⟨w1, w2, w3, w4, w5⟩, d1, d2, d3, d4, d5, hT, hrows, hok, hl1, hlen, hlr, hfa, hfv, hfl, hfb, hnm, hmf, hmn, hmw, hret⟩ := hR
  conv in (exec wLoop3 _) => arg 1; whnf
  generalize hsc : wSc = sc at *
  conv at hsc => lhs; whnf
  subst hsc
  dsimp only [wEnv, wCl] at *
  k_steps
  (with_unfolding_all refine' For_turns F ?_ ?h1 ?h2; (case h1 => intro _; rfl); (case h2 => first | assumption | passes_own))
  k_steps
  rename_i h9 tk9 t9 u9 v9 R9 F9 N9 K9
  obtain ⟨f12, f13, f14, f15, f23, f24, f25, f34, f35, f45⟩ := hf
  refine turns_range (J3 c1 c2 c3 c4 c5 o1 o2 tl rows len figs nm wd m) rfl F9 N9 R9 (by decide) (n := 2) (by decide) ⟨o3, o4, o5, [], wn, [], v3, v4, v5, rfl, d3, d4, d5, hoff, hwd, (fun x hx => nomatch hx), fun _ _ => rfl, .nil⟩ ?_ ?_
  · clear F9 N9 R9 K9
    intro I i m₁ nx h tk ti it hi hnI hJ F₁ N₁
    obtain ⟨o3', o4', o5', wv, n', nw, v3', v4', v5', rfl, d3', d4', d5', ⟨k1, k2, k3, k4, k5⟩, hw', hnw, hm2, hT'⟩ := hJ
    have F₂ := (known_over (m := m₁) (m₀ := m) (ps := [(Str.ofString "rest", m₁ (Str.ofString "rest")), (Str.ofString "figures", some (.ref fa)), (Str.ofString "name", some (.int (0 + (nm : Int)) tn)), (Str.ofString "words", some (.ref wd))])
      (by simp [hm2 (Str.ofString "figures") (by decide), hm2 (Str.ofString "name") (by decide), hm2 (Str.ofString "words") (by decide), hmf, hmn, hmw]) (fun z hz => hm2 z (hz _ (.head _)))).symm ▸ F₁
    generalize m₁ (Str.ofString "rest") = u1 at F₂
    clear F₁
    have hIw : (I : Nat) ≠ wd := (hnI (wd, W.listOf wv.toArray n') (.head _)).symm
    have hI1 : (I : Nat) ≠ c1 := (hnI (c1, o1) (.tail _ (.head _))).symm
    have hI2 : (I : Nat) ≠ c2 := (hnI (c2, o2) (.tail _ (.tail _ (.head _)))).symm
    have hI3 : (I : Nat) ≠ c3 := (hnI (c3, o3') (.tail _ (.tail _ (.tail _ (.head _))))).symm
    have hI4 : (I : Nat) ≠ c4 := (hnI (c4, o4') (.tail _ (.tail _ (.tail _ (.tail _ (.head _)))))).symm
    have hI5 : (I : Nat) ≠ c5 := (hnI (c5, o5') (.tail _ (.tail _ (.tail _ (.tail _ (.tail _ (.head _))))))).symm
    have hI6 : ∀ x ∈ nw ++ tl, x.1 ≠ I := fun x hx => hnI x (.tail _ (.tail _ (.tail _ (.tail _ (.tail _ (.tail _ hx))))))
    obtain ⟨tf, ef⟩ := ints_get hfv (i := 2 * nm + i) (by omega)
    have hfg := hfb (figAt figs (2 * nm + i)) (by
      have : 2 * nm + i < figs.length := by omega
      unfold figAt
      rw [List.getD_eq_getElem?_getD, List.getElem?_eq_getElem this, Option.getD_some]
      exact List.getElem_mem _)
    generalize hfgd : figAt figs (2 * nm + i) = fg at ef hfg
    have z1 : (2 * (0 + (nm : Int)) + (0 + (i : Int))).toNat = 2 * nm + i := by omega
    have x1 : fv[(2 * (0 + (nm : Int)) + (0 + (i : Int))).toNat]? = some (.int fg tf) := by rw [z1]; exact ef
    have m1 := List.mem_append_right nw hT
    have m2 := List.mem_append_right nw hfa
    have hwl : wv.length ≤ 4000000 := by
      rw [hT'.length]
      have h1 := flat_len (wordsBy rows len figs nm) 4000000 (List.range i) fun x _ => by_len hok hlen figs nm x
      rw [List.length_range] at h1
      omega
    have fin : ∀ (zs : List Value) (n6 : Nat) (h6 : Heap) (tk6 : Nat) (mm : Str → Option Value) (o3n o4n o5n : Obj) (v3n v4n v5n : Option Value), o3n.data = .cell v3n → o4n.data = .cell v4n → o5n.data = .cell v5n → (∀ z, z ≠ Str.ofString "rest" → mm z = m z) → Texts zs (wordsBy rows len figs nm i) → Fr h₀ L h6 mm → News h₀ L h6 ((wd, W.listOf (wv ++ zs).toArray n6) :: (c1, o1) :: (c2, o2) :: (c3, o3n) :: (c4, o4n) :: (c5, o5n) :: (I, it) :: tl) → FreePost h₀ L (J3 c1 c2 c3 c4 c5 o1 o2 tl rows len figs nm wd m (i + 1)) [(I, it)] { s with heap := h, toks := tk } Q .next { s with heap := h6, toks := tk6 } := by
      intro zs n6 h6 tk6 mm o3n o4n o5n v3n v4n v5n d3n d4n d5n hmm hzs F6 N6
      refine FreeEnd.intro (nx := (wd, W.listOf (wv ++ zs).toArray n6) :: (c1, o1) :: (c2, o2) :: (c3, o3n) :: (c4, o4n) :: (c5, o5n) :: ([] ++ tl)) F6 (fun x hx => N6 x (by simp only [List.mem_append, List.mem_cons, List.nil_append, List.not_mem_nil, or_false, false_or] at hx ⊢; grind)) (fun x hx y hy => ?_) ⟨o3n, o4n, o5n, wv ++ zs, n6, [], v3n, v4n, v5n, rfl, d3n, d4n, d5n, hoff, hwd, (fun x hx => nomatch hx), hmm, ?_⟩
      · rw [List.mem_singleton.mp hy]
        simp only [List.mem_cons, List.nil_append] at hx
        rcases hx with rfl | rfl | rfl | rfl | rfl | rfl | hx
        · exact hIw.symm
        · exact hI1.symm
        · exact hI2.symm
        · exact hI3.symm
        · exact hI4.symm
        · exact hI5.symm
        · exact hI6 x (List.mem_append_right _ hx)
      · rw [List.range_succ, List.flatMap_append]
        refine hT'.append ?_
        simpa using hzs
    have m9 : ∀ z, z ≠ Str.ofString "rest" → known [(Str.ofString "rest", u1), (Str.ofString "figures", some (.ref fa)), (Str.ofString "name", some (.int (0 + (nm : Int)) tn)), (Str.ofString "words", some (.ref wd))] m z = m z := by
      intro z hz
      show (if z = _ then _ else if z = _ then _ else if z = _ then _ else if z = _ then _ else _) = _
      rw [if_neg hz]
      split
      · subst_vars; exact hmf.symm
      split
      · subst_vars; exact hmn.symm
      split
      · subst_vars; exact hmw.symm
      rfl
    k_steps
    (try dsimp only [List.nil_append, List.append_nil, List.cons_append]); (k_dflt refine' cut_parts w mean mg mb _ _ trivial _ _ _ _ _ _ _ _ _ _ _ _ _ _ _ _ _ _ ?k1 ?k2 ?k3 ?k4 ?k5 ?k6 ?k7 ?k8 ?k9 ?_); (case k1 => k_asm); (case k2 => k_asm); (case k3 => k_asm); (case k4 => k_asm); (case k5 => k_asm); (case k6 => first | exact rfl | assumption); (case k7 => assumption); (case k8 => first | exact room _ (by with_reducible assumption) rfl | exact room2 _ (by with_reducible assumption) rfl | ktr_room); (case k9 => first | exact room _ (by with_reducible assumption) rfl | exact room2 _ (by with_reducible assumption) rfl | ktr_units)
    intro lp xs h5 tk5 hxs l5 F5 N5
    k_lt l5
    have hp5 : partsOf fg = [] ∧ fg < 2 ∨ (∃ p : Nat, p < 5 ∧ partsOf fg = [(p : Int)]) ∨ ∃ p q : Nat, p < 5 ∧ q < 5 ∧ partsOf fg = [(p : Int), (q : Int)] := by
      unfold partsOf
      by_cases h2 : fg < 2
      · rw [if_pos h2]; exact .inl ⟨rfl, h2⟩
      · by_cases h7 : fg < 7
        · rw [if_neg h2, if_pos h7]
          exact .inr (.inl ⟨(fg - 2).toNat, by omega, by congr 1; omega⟩)
        · rw [if_neg h2, if_neg h7]
          have a1 := Int.fdiv_eq_ediv_of_nonneg (fg - 7) (b := 5) (by omega)
          have a2 := Int.fmod_eq_emod_of_nonneg (fg - 7) (b := 5) (by omega)
          exact .inr (.inr ⟨(Int.fdiv (fg - 7) 5).toNat, (Int.fmod (fg - 7) 5).toNat, by omega, by omega, by congr 1; omega; congr 1; omega⟩)
    have hacc : (List.range (i + 1)).flatMap (wordsBy rows len figs nm) = (List.range i).flatMap (wordsBy rows len figs nm) ++ wordsBy rows len figs nm i := by
      rw [List.range_succ, List.flatMap_append]; simp
    have hby : wordsBy rows len figs nm i = if fg = 0 then [] else (restOf rows len (partsOf fg)).map fun t => (97 + i) :: t := by unfold wordsBy; rw [hfgd]
    obtain ⟨hrl, hrt⟩ := rest_len hok hlen (partsOf fg)
    rcases hp5 with ⟨hp, hf2⟩ | ⟨p, hp0, hp⟩ | ⟨p, q, hp0, hq0, hp⟩
    all_goals rw [hp] at hxs hby hrl hrt
    · cases hxs
      k_steps
      · have e : restOf rows len [] = [[]] := by show (if len = 1 then _ else _) = _; rw [if_pos (by omega)]
        rw [e] at hby hrl hrt
        rename Obj.data _ = Data.cell (some (Value.ref lp)) => d4x
        obtain ⟨o4n, d4n, e4⟩ : ∃ o : Obj, o.data = Data.cell (some (Value.ref lp)) ∧ o = _ := ⟨_, d4x, rfl⟩
        subst e4
        rename Obj.data _ = Data.cell (some (Value.int (0 + (i : Int)) ti)) => d3x
        obtain ⟨o3n, d3n, e3⟩ : ∃ o : Obj, o.data = Data.cell (some (Value.int (0 + (i : Int)) ti)) ∧ o = _ := ⟨_, d3x, rfl⟩
        subst e3
        unfold Hold
        refine cut_tail3 w mean mg mb wd wv n' o3n i ti fa fv fn nm tn fg tf ?a1 ?rv1 ?rn1 _ ((c1, o1) :: (c2, o2) :: (c3, o3n) :: (c4, o4n) :: (c5, o5') :: (I, it) :: tl) (by assumption) _ _ _ _ _ _ _ _ _ _ _ _ _ _ _ _ _ _ B (by assumption) X (by assumption) T hb (by first | exact room _ hd rfl | exact room2 _ hd rfl | omega) (by first | exact room _ hu rfl | exact room2 _ hu rfl | omega) hE ⟨?gw1, ?g31, d3n, hi, hnm, ?gf1, ?ga1, ?e11, ?e21, ?e31, ?e41, x1, ?tx1, hrl, hrt, hwl, ?gr1, ?gn1, ?gk1⟩
        case e41 => exact rfl
        case ga1 => (repeat (first | with_reducible assumption | exact List.Mem.head _ | refine List.mem_cons_of_mem _ ?_))
        case tx1 => exact .cons ⟨_, rfl⟩ .nil
        case gw1 => (repeat (first | with_reducible assumption | exact List.Mem.head _ | refine List.mem_cons_of_mem _ ?_))
        case g31 => (repeat (first | with_reducible assumption | exact List.Mem.head _ | refine List.mem_cons_of_mem _ ?_))
        case gf1 => (repeat (first | with_reducible assumption | exact List.Mem.head _ | refine List.mem_cons_of_mem _ ?_))
        case e11 => exact rfl
        case e21 => exact rfl
        case e31 => exact rfl
        case gr1 => intro x hx; simp only [List.mem_append, List.mem_cons] at hx ⊢; grind
        case gn1 =>
          intro x hx
          simp only [List.mem_cons] at hx
          rcases hx with rfl | rfl | rfl | rfl | rfl | rfl | hx
          · exact w1.symm
          · exact w2.symm
          · exact w3.symm
          · exact w4.symm
          · exact w5.symm
          · exact hIw
          · exact hwd x hx
        case gk1 =>
          intro zs n6 h6 tk6 hzs F6 N6
          exact fin zs n6 h6 tk6 _ _ _ _ _ _ _ d3n d4n d5' (fun z hz => (if_neg hz).trans (m9 z hz)) (by rw [hby]; exact hzs) F6 N6
      · have e : restOf rows len [] = [] := by show (if len = 1 then _ else _) = _; rw [if_neg (by omega)]
        rw [e] at hby hrl hrt
        rename Obj.data _ = Data.cell (some (Value.ref lp)) => d4x
        obtain ⟨o4n, d4n, e4⟩ : ∃ o : Obj, o.data = Data.cell (some (Value.ref lp)) ∧ o = _ := ⟨_, d4x, rfl⟩
        subst e4
        rename Obj.data _ = Data.cell (some (Value.int (0 + (i : Int)) ti)) => d3x
        obtain ⟨o3n, d3n, e3⟩ : ∃ o : Obj, o.data = Data.cell (some (Value.int (0 + (i : Int)) ti)) ∧ o = _ := ⟨_, d3x, rfl⟩
        subst e3
        unfold Hold
        refine cut_tail3 w mean mg mb wd wv n' o3n i ti fa fv fn nm tn fg tf ?a2 ?rv2 ?rn2 _ ((c1, o1) :: (c2, o2) :: (c3, o3n) :: (c4, o4n) :: (c5, o5') :: (I, it) :: tl) (by assumption) _ _ _ _ _ _ _ _ _ _ _ _ _ _ _ _ _ _ B (by assumption) X (by assumption) T hb (by first | exact room _ hd rfl | exact room2 _ hd rfl | omega) (by first | exact room _ hu rfl | exact room2 _ hu rfl | omega) hE ⟨?gw2, ?g32, d3n, hi, hnm, ?gf2, ?ga2, ?e12, ?e22, ?e32, ?e42, x1, ?tx2, hrl, hrt, hwl, ?gr2, ?gn2, ?gk2⟩
        case e42 => exact rfl
        case ga2 => (repeat (first | with_reducible assumption | exact List.Mem.head _ | refine List.mem_cons_of_mem _ ?_))
        case tx2 => exact .nil
        case gw2 => (repeat (first | with_reducible assumption | exact List.Mem.head _ | refine List.mem_cons_of_mem _ ?_))
        case g32 => (repeat (first | with_reducible assumption | exact List.Mem.head _ | refine List.mem_cons_of_mem _ ?_))
        case gf2 => (repeat (first | with_reducible assumption | exact List.Mem.head _ | refine List.mem_cons_of_mem _ ?_))
        case e12 => exact rfl
        case e22 => exact rfl
        case e32 => exact rfl
        case gr2 => intro x hx; simp only [List.mem_append, List.mem_cons] at hx ⊢; grind
        case gn2 =>
          intro x hx
          simp only [List.mem_cons] at hx
          rcases hx with rfl | rfl | rfl | rfl | rfl | rfl | hx
          · exact w1.symm
          · exact w2.symm
          · exact w3.symm
          · exact w4.symm
          · exact w5.symm
          · exact hIw
          · exact hwd x hx
        case gk2 =>
          intro zs n6 h6 tk6 hzs F6 N6
          exact fin zs n6 h6 tk6 _ _ _ _ _ _ _ d3n d4n d5' (fun z hz => (if_neg hz).trans (m9 z hz)) (by rw [hby]; exact hzs) F6 N6
    · cases hxs with
      | cons _ tp hxs =>
        cases hxs
        obtain ⟨r1, vsR1, nR1, b1, us1, nb1, e11, e12, e13, e14, e15⟩ := cell_get hrows hok (i := len - 1) (p := p) (by omega) hp0
        have z2 : ((len : Int) - 1).toNat = len - 1 := by omega
        have x2 : vsT[((len : Int) - 1).toNat]? = some (.ref r1) := by rw [z2]; exact e11
        have x3 : vsR1[([((p : Nat) : Int)].getD (Int.toNat 0) 0).toNat]? = some (.ref b1) := e13
        have m3 := List.mem_append_right nw e12
        have m4 := List.mem_append_right nw e14
        k_steps
        · exact absurd (of_decide_eq_true (by assumption)) (by simp)
        · exact absurd (of_decide_eq_true (by assumption)) (by simp)
        · rename Obj.data _ = Data.cell (some (Value.ref lp)) => d4x
          obtain ⟨o4n, d4n, e4⟩ : ∃ o : Obj, o.data = Data.cell (some (Value.ref lp)) ∧ o = _ := ⟨_, d4x, rfl⟩
          subst e4
          rename Obj.data _ = Data.cell (some (Value.int (0 + (i : Int)) ti)) => d3x
          obtain ⟨o3n, d3n, e3⟩ : ∃ o : Obj, o.data = Data.cell (some (Value.int (0 + (i : Int)) ti)) ∧ o = _ := ⟨_, d3x, rfl⟩
          subst e3
          unfold Hold
          refine cut_tail3 w mean mg mb wd wv n' o3n i ti fa fv fn nm tn fg tf ?a3 ?rv3 ?rn3 _ ((c1, o1) :: (c2, o2) :: (c3, o3n) :: (c4, o4n) :: (c5, o5') :: (I, it) :: tl) (by assumption) _ _ _ _ _ _ _ _ _ _ _ _ _ _ _ _ _ _ B (by assumption) X (by assumption) T hb (by first | exact room _ hd rfl | exact room2 _ hd rfl | omega) (by first | exact room _ hu rfl | exact room2 _ hu rfl | omega) hE ⟨?gw3, ?g33, d3n, hi, hnm, ?gf3, ?ga3, ?e13, ?e23, ?e33, ?e43, x1, ?tx3, hrl, hrt, hwl, ?gr3, ?gn3, ?gk3⟩
          case e43 => exact rfl
          case ga3 => (repeat (first | with_reducible assumption | exact List.Mem.head _ | refine List.mem_cons_of_mem _ ?_))
          case tx3 => exact e15
          case gw3 => (repeat (first | with_reducible assumption | exact List.Mem.head _ | refine List.mem_cons_of_mem _ ?_))
          case g33 => (repeat (first | with_reducible assumption | exact List.Mem.head _ | refine List.mem_cons_of_mem _ ?_))
          case gf3 => (repeat (first | with_reducible assumption | exact List.Mem.head _ | refine List.mem_cons_of_mem _ ?_))
          case e13 => exact rfl
          case e23 => exact rfl
          case e33 => exact rfl
          case gr3 => intro x hx; simp only [List.mem_append, List.mem_cons] at hx ⊢; grind
          case gn3 =>
            intro x hx
            simp only [List.mem_cons] at hx
            rcases hx with rfl | rfl | rfl | rfl | rfl | rfl | hx
            · exact w1.symm
            · exact w2.symm
            · exact w3.symm
            · exact w4.symm
            · exact w5.symm
            · exact hIw
            · exact hwd x hx
          case gk3 =>
            intro zs n6 h6 tk6 hzs F6 N6
            exact fin zs n6 h6 tk6 _ _ _ _ _ _ _ d3n d4n d5' (fun z hz => (if_neg hz).trans ((if_neg hz).trans (m9 z hz))) (by rw [hby]; exact hzs) F6 N6
    · cases hxs with
      | cons _ tp hxs =>
        cases hxs with
        | cons _ tq hxs =>
          cases hxs
          k_steps
          · exact absurd (of_decide_eq_true (by assumption)) (by simp)
          · exact absurd (of_decide_eq_true (by assumption)) (by simp)
          · rename Obj.data _ = Data.cell (some (Value.ref lp)) => d4x
            obtain ⟨o4n, d4n, e4⟩ : ∃ o : Obj, o.data = Data.cell (some (Value.ref lp)) ∧ o = _ := ⟨_, d4x, rfl⟩
            subst e4
            rename Obj.data _ = Data.cell (some (Value.int (0 + (i : Int)) ti)) => d3x
            obtain ⟨o3n, d3n, e3⟩ : ∃ o : Obj, o.data = Data.cell (some (Value.int (0 + (i : Int)) ti)) ∧ o = _ := ⟨_, d3x, rfl⟩
            subst e3
            unfold Hold
            rename News _ _ _ _ => N6
            rename Fr _ _ _ _ => F6
            rename lp < _ ∧ _ => l6
            rename_i al h8 l6' al2 h7 l7 h6 tk7 tk8
            refine cut_loop4 w mean mg mb o1 o2 o3n o4n o5' ((al2, W.listOf #[] 0) :: (lp, W.listOf [Value.int ((p : Nat) : Int) tp, .int ((q : Nat) : Int) tq].toArray 0) :: (wd, W.listOf wv.toArray n') :: (I, it) :: tl) t vsT nT rows len tln lp 0 p q tp tq al2 0 v5' (by assumption) _ _ _ _ _ _ _ _ _ _ _ _ _ _ _ _ _ _ B F6 X ?n9 T hb (by first | exact room _ hd rfl | exact room2 _ hd rfl | omega) (by first | exact room _ hu rfl | exact room2 _ hu rfl | omega) hE ⟨⟨f12, f13, f14, f15, f23, f24, f25, f34, f35, f45⟩, rfl, ?o9, d1, d2, d4n, d5', ?t9, ?r9, hok, hlen, hlr, ?p9, hp0, hq0, ?m19, ?a9, ?k9⟩
            case n9 => exact fun x hx => N6 x (by simp only [List.mem_append, List.mem_cons] at hx ⊢; grind)
            case o9 =>
              obtain ⟨y1, y2, y3, y4, y5⟩ := hoff
              obtain ⟨_, _, _, _, z1, z2, z3, z4, z5, _⟩ := l7
              obtain ⟨_, _, _, u1, u2, u3, u4, u5, _⟩ := l6
              obtain ⟨_, _, t1, t2, t3, t4, t5, _⟩ := l5
              refine ⟨fun x hx => ?_, fun x hx => ?_, fun x hx => ?_, fun x hx => ?_, fun x hx => ?_⟩
              all_goals simp only [List.mem_cons] at hx
              all_goals rcases hx with rfl | rfl | rfl | rfl | hx
              · exact Nat.ne_of_gt z1
              · exact Nat.ne_of_gt t1
              · exact w1
              · exact hI1
              · exact y1 x hx
              · exact Nat.ne_of_gt z2
              · exact Nat.ne_of_gt t2
              · exact w2
              · exact hI2
              · exact y2 x hx
              · exact Nat.ne_of_gt z3
              · exact Nat.ne_of_gt t3
              · exact w3
              · exact hI3
              · exact y3 x hx
              · exact Nat.ne_of_gt z4
              · exact Nat.ne_of_gt t4
              · exact w4
              · exact hI4
              · exact y4 x hx
              · exact Nat.ne_of_gt z5
              · exact Nat.ne_of_gt t5
              · exact w5
              · exact hI5
              · exact y5 x hx
            case t9 => exact .tail _ (.tail _ (.tail _ (.tail _ hT)))
            case r9 => exact hrows.mono fun _ _ x => x.mono fun y hy => .tail _ (.tail _ (.tail _ (.tail _ hy)))
            case p9 => exact .tail _ (.head _)
            case m19 => exact if_pos rfl
            case a9 => exact .head _
            case k9 =>
              intro m9' nx9 h9' tk9' hJ9 F9 N9
              obtain ⟨o5n, a9, vs9, n9, nw9, v59, rfl, d5n, off9, hnw9, hm1, hm8, ha9, hT9⟩ := hJ9
              have e1 : m9' (Str.ofString "figures") = some (.ref fa) := (hm8 _ (by decide)).trans rfl
              have e2 : m9' (Str.ofString "name") = some (.int (0 + (nm : Int)) tn) := (hm8 _ (by decide)).trans rfl
              have e3 : m9' (Str.ofString "words") = some (.ref wd) := (hm8 _ (by decide)).trans rfl
              k_steps
              unfold Hold
              refine cut_tail3 w mean mg mb wd wv n' o3n i ti fa fv fn nm tn fg tf a9 vs9 n9 _ ((c1, o1) :: (c2, o2) :: (c3, o3n) :: (c4, o4n) :: (c5, o5n) :: (I, it) :: tl) (by assumption) _ _ _ _ _ _ _ _ _ _ _ _ _ _ _ _ _ _ B F9 X N9 T hb (by first | exact room _ hd rfl | exact room2 _ hd rfl | omega) (by first | exact room _ hu rfl | exact room2 _ hu rfl | omega) hE ⟨?bw, ?b3, d3n, hi, hnm, ?bf, ?ba, e1, e2, e3, hm1, x1, ?bx, hrl, hrt, hwl, ?br, ?bn, ?bk⟩
              case bw => exact .tail _ (.tail _ (.tail _ (.tail _ (.tail _ (List.mem_append_right _ (.tail _ (.tail _ (.head _))))))))
              case b3 => exact .tail _ (.tail _ (.head _))
              case bf => exact .tail _ (.tail _ (.tail _ (.tail _ (.tail _ (List.mem_append_right _ (.tail _ (.tail _ (.tail _ (.tail _ hfa)))))))))
              case ba => exact .tail _ (.tail _ (.tail _ (.tail _ (.tail _ ha9))))
              case bx => exact hT9
              case br => intro x hx; simp only [List.mem_append, List.mem_cons] at hx ⊢; grind
              case bn =>
                intro x hx
                simp only [List.mem_cons] at hx
                rcases hx with rfl | rfl | rfl | rfl | rfl | rfl | hx
                · exact w1.symm
                · exact w2.symm
                · exact w3.symm
                · exact w4.symm
                · exact w5.symm
                · exact hIw
                · exact hwd x hx
              case bk =>
                intro zs n6 h6 tk6 hzs F6 N6
                exact fin zs n6 h6 tk6 _ _ _ _ _ _ _ d3n d4n d5n (fun z hz => (hm8 z hz).trans ((if_neg hz).trans (m9 z hz))) (by rw [hby]; exact hzs) F6 N6
  · intro m₁ nx h tk hJ F₁ N₁
    k_steps
    exact hret _ _ _ _ hJ F₁ N₁
end
end
local macro_rules | `(tactic| walk_at "own 2") => `(tactic| (k_here; refine hold ?_))
local macro_rules | `(tactic| walk_at "own 3") => `(tactic| ((with_reducible show wpAny _ _ (execs [Stmt.If _ _ [] _] _) _ _ _); refine hold ?_))
local macro_rules | `(tactic| walk_at "own 13") => `(tactic| ((with_reducible show wpAny _ _ (subscriptTail _ _ (Value.str _ _) (Value.int _ _)) _ _ _); refine hold ?_))
section
set_option maxHeartbeats 8000000
section
open PySem PySem.W PySem.Calls PyProof.Rows PySem.Spec LCg
variable (w : World) (mean : ExcName → Option Value) (mg mb : Str → Option Value)
local macro_rules
  | `(tactic| walk_at "exec For Name Call cons nil") => `(tactic| walk_at "own 2")
  | `(tactic| walk_at "execs cons") => `(tactic| walk_at "own 3")
local macro_rules | `(tactic| k_all) => `(tactic| assumption)
local macro_rules
  | `(tactic| walk_at "subscriptTail") => `(tactic| walk_at "own 4")
  | `(tactic| walk_at "call builtin:list.append") => `(tactic| walk_at "own 2")
theorem allLt_get {d : Nat} : ∀ {l : List (Addr × Obj)}, AllLt d l → ∀ p ∈ l, (p.1 : Nat) < d
  | [], _, _, hp => nomatch hp
  | q :: l, h, p, hp => by
    rcases List.mem_cons.mp hp with e | hp
    · rw [e]; exact h.1
    · exact allLt_get (l := l) h.2 p hp
noncomputable def byName (rows : List (List (List (List Nat)))) (len : Nat) (figs : List Int) (nm : Nat) : List (List Nat) := (List.range 2).flatMap (wordsBy rows len figs nm)
noncomputable def J2 (c1 c2 c3 c4 c5 : Addr) (o1 o2 : Obj) (tl : List (Addr × Obj)) (rows : List (List (List (List Nat)))) (len : Nat) (figs : List Int) (rw : Addr) (m₀ : Str → Option Value) (i : Nat) (m : Str → Option Value) (nx : List (Addr × Obj)) : Prop :=
  ∃ (o3 o4 o5 : Obj) (rv : List Value) (n : Nat) (nw : List (Addr × Obj)) (v3 v4 v5 : Option Value), nx = (rw, W.listOf rv.toArray n) :: (c1, o1) :: (c2, o2) :: (c3, o3) :: (c4, o4) :: (c5, o5) :: (nw ++ tl) ∧ o3.data = .cell v3 ∧ o4.data = .cell v4 ∧ o5.data = .cell v5 ∧
    Off5 c1 c2 c3 c4 c5 (nw ++ tl) ∧ (∀ x ∈ nw ++ tl, x.1 ≠ rw) ∧ (∀ x ∈ nw, ∀ y ∈ tl, x.1 ≠ y.1) ∧ (∀ z, z ≠ Str.ofString "rest" → z ≠ Str.ofString "words" → z ≠ Str.ofString "name" → m z = m₀ z) ∧ All2 (CellAt nw) rv ((List.range i).map (byName rows len figs))
theorem cut_loop2 (o1 o2 o3 o4 o5 : Obj) (tl : List (Addr × Obj)) (t : Addr) (vsT : List Value) (nT : Nat) (rows : List (List (List (List Nat)))) (len : Nat) (tln : Tok) (fa : Addr) (fv : List Value) (fn : Nat) (figs : List Int) (rw : Addr) (rn : Nat) (v3 v4 v5 : Option Value) :
    CutS w mean mg mb wLoop2 12 240 (fun c1 c2 c3 c4 c5 h₀ L m news s Q => Five c1 c2 c3 c4 c5 ∧ news = (rw, W.listOf #[] rn) :: (c1, o1) :: (c2, o2) :: (c3, o3) :: (c4, o4) :: (c5, o5) :: tl ∧ Off5 c1 c2 c3 c4 c5 tl ∧ (∀ x ∈ tl, x.1 ≠ rw) ∧ ((rw : Nat) ≠ c1 ∧ (rw : Nat) ≠ c2 ∧ (rw : Nat) ≠ c3 ∧ (rw : Nat) ≠ c4 ∧ (rw : Nat) ≠ c5) ∧
      o1.data = .cell (some (.ref t)) ∧ o2.data = .cell (some (.int ((len : Nat) : Int) tln)) ∧ o3.data = .cell v3 ∧ o4.data = .cell v4 ∧ o5.data = .cell v5 ∧ (t, W.listOf vsT.toArray nT) ∈ tl ∧ All2 (RowAt tl) vsT rows ∧ TabOk rows ∧ 1 ≤ len ∧ len ≤ 4 ∧ len ≤ rows.length ∧
      (fa, W.listOf fv.toArray fn) ∈ tl ∧ IntsAre fv figs ∧ figs.length = 6 ∧ (∀ f ∈ figs, 0 ≤ f ∧ f < 32) ∧ m (Str.ofString "figures") = some (.ref fa) ∧ m (Str.ofString "row") = some (.ref rw) ∧
      ∀ m' nx h' tk', J2 c1 c2 c3 c4 c5 o1 o2 tl rows len figs rw m 3 m' nx → Fr h₀ L h' m' → News h₀ L h' nx → Q .next { s with heap := h', toks := tk' }) := by
  unfold CutS; k_fill; w_top off
  intro _ dp un gd outer A₀ base h₀ L c1 c2 c3 c4 c5 m s Q E news B F X N T hb hd hu hE hR
  obtain ⟨hf, rfl, hoff, hwd, ⟨w1, w2, w3, w4, w5⟩, d1, d2, d3, d4, d5, hT, hrows, hok, hl1, hlen, hlr, hfa, hfv, hfl, hfb, hmf, hmr, hret⟩ := hR
  conv in (exec wLoop2 _) => arg 1; whnf
  generalize hsc : wSc = sc at *
  conv at hsc => lhs; whnf
  subst hsc
  dsimp only [wEnv, wCl] at *
  (with_unfolding_all refine' For_turns F ?_ ?h1 ?h2; (case h1 => intro _; rfl); (case h2 => first | assumption | passes_own))
  k_steps
  rename_i h9 tk9 t9 u9 v9 R9 F9 N9 K9
  refine turns_range (J2 c1 c2 c3 c4 c5 o1 o2 tl rows len figs rw m) rfl F9 N9 R9 (by decide) (n := 3) (by decide) ⟨o3, o4, o5, [], rn, [], v3, v4, v5, rfl, d3, d4, d5, hoff, hwd, (fun x hx => nomatch hx), fun _ _ _ _ => rfl, .nil⟩ ?_ ?_
  · clear F9 N9 R9 K9
    intro I i m₁ nx h tk ti it hi hnI hJ F₁ N₁
    obtain ⟨o3', o4', o5', rv, n', nw, v3', v4', v5', rfl, d3', d4', d5', ⟨k1, k2, k3, k4, k5⟩, hw', hnt, hm2, hT'⟩ := hJ
    have e1 : m₁ (Str.ofString "figures") = some (.ref fa) := (hm2 _ (by decide) (by decide) (by decide)).trans hmf
    have e2 : m₁ (Str.ofString "row") = some (.ref rw) := (hm2 _ (by decide) (by decide) (by decide)).trans hmr
    have F₂ := (known_same (m := m₁) (ps := [(Str.ofString "row", some (.ref rw)), (Str.ofString "figures", some (.ref fa))]) (by simp [e1, e2])).symm ▸ F₁
    clear F₁
    have hIw : (I : Nat) ≠ rw := (hnI (rw, W.listOf rv.toArray n') (.head _)).symm
    have hI1 : (I : Nat) ≠ c1 := (hnI (c1, o1) (.tail _ (.head _))).symm
    have hI2 : (I : Nat) ≠ c2 := (hnI (c2, o2) (.tail _ (.tail _ (.head _)))).symm
    have hI3 : (I : Nat) ≠ c3 := (hnI (c3, o3') (.tail _ (.tail _ (.tail _ (.head _))))).symm
    have hI4 : (I : Nat) ≠ c4 := (hnI (c4, o4') (.tail _ (.tail _ (.tail _ (.tail _ (.head _)))))).symm
    have hI5 : (I : Nat) ≠ c5 := (hnI (c5, o5') (.tail _ (.tail _ (.tail _ (.tail _ (.tail _ (.head _))))))).symm
    have hI6 : ∀ x ∈ nw ++ tl, x.1 ≠ I := fun x hx => hnI x (.tail _ (.tail _ (.tail _ (.tail _ (.tail _ (.tail _ hx))))))
    k_steps
    rename News _ _ _ _ => N6
    rename Fr _ _ _ _ => F6
    rename I < _ ∧ _ => l6
    rename_i hx1 tkx1 wd hx2 hx3
    obtain ⟨l1, l2, l3, l4, l5, l6, l7, l8⟩ := l6
    unfold Hold
    refine cut_loop3 w mean mg mb o1 o2 o3' o4' o5' ((rw, W.listOf rv.toArray n') :: (I, it) :: (nw ++ tl)) t vsT nT rows len tln fa fv fn figs i ti wd 0 v3' v4' v5' (by assumption) _ _ _ _ _ _ _ _ _ _ _ _ _ _ _ _ _ _ B F6 X ?n9 T hb (by first | exact room _ hd rfl | exact room2 _ hd rfl | omega) (by first | exact room _ hu rfl | exact room2 _ hu rfl | omega) hE ⟨hf, rfl, ?o9, ?w9, ⟨Nat.ne_of_gt l3, Nat.ne_of_gt l4, Nat.ne_of_gt l5, Nat.ne_of_gt l6, Nat.ne_of_gt l7⟩, d1, d2, d3', d4', d5', ?t9, ?r9, hok, hl1, hlen, hlr, ?f9, hfv, hfl, hfb, hi, rfl, rfl, rfl, ?k9⟩
    case n9 => exact fun x hx => N6 x (by simp only [List.mem_append, List.mem_cons] at hx ⊢; grind)
    case o9 =>
      refine ⟨fun x hx => ?_, fun x hx => ?_, fun x hx => ?_, fun x hx => ?_, fun x hx => ?_⟩
      all_goals rcases List.mem_cons.mp hx with rfl | hx
      · exact w1
      · rcases List.mem_cons.mp hx with rfl | hx
        · exact hI1
        · exact k1 x hx
      · exact w2
      · rcases List.mem_cons.mp hx with rfl | hx
        · exact hI2
        · exact k2 x hx
      · exact w3
      · rcases List.mem_cons.mp hx with rfl | hx
        · exact hI3
        · exact k3 x hx
      · exact w4
      · rcases List.mem_cons.mp hx with rfl | hx
        · exact hI4
        · exact k4 x hx
      · exact w5
      · rcases List.mem_cons.mp hx with rfl | hx
        · exact hI5
        · exact k5 x hx
    case w9 =>
      intro x hx
      rcases List.mem_cons.mp hx with rfl | hx
      · exact Nat.ne_of_lt l2
      · rcases List.mem_cons.mp hx with rfl | hx
        · exact Nat.ne_of_lt l1
        · exact Nat.ne_of_lt (allLt_get l8 x hx)
    case t9 => exact .tail _ (.tail _ (List.mem_append_right _ hT))
    case r9 => exact hrows.mono fun _ _ x => x.mono fun y hy => .tail _ (.tail _ (List.mem_append_right _ hy))
    case f9 => exact .tail _ (.tail _ (List.mem_append_right _ hfa))
    case k9 =>
      intro m9' nx9 h9' tk9' hJ9 F9 N9
      obtain ⟨o3n, o4n, o5n, wv, n9, nw9, v39, v49, v59, rfl, d3n, d4n, d5n, off9, hw9, hnw9, hm8, hT9⟩ := hJ9
      have q1 : m9' (Str.ofString "row") = some (.ref rw) := (hm8 _ (by decide)).trans rfl
      have q2 : m9' (Str.ofString "words") = some (.ref wd) := (hm8 _ (by decide)).trans rfl
      have F7 := (known_same (m := m9') (ps := [(Str.ofString "row", some (.ref rw)), (Str.ofString "words", some (.ref wd))]) (by simp [q1, q2])).symm ▸ F9
      clear F9
      have N7 : News h₀ L h9' ((rw, W.listOf rv.toArray n') :: (wd, W.listOf wv.toArray n9) :: (c1, o1) :: (c2, o2) :: (c3, o3n) :: (c4, o4n) :: (c5, o5n) :: (I, it) :: (nw ++ tl)) := fun x hx => N9 x (by
        rcases List.mem_cons.mp hx with rfl | hx
        · exact .tail _ (.tail _ (.tail _ (.tail _ (.tail _ (.tail _ (List.mem_append_right _ (.head _)))))))
        rcases List.mem_cons.mp hx with rfl | hx
        · exact .head _
        rcases List.mem_cons.mp hx with rfl | hx
        · exact .tail _ (.head _)
        rcases List.mem_cons.mp hx with rfl | hx
        · exact .tail _ (.tail _ (.head _))
        rcases List.mem_cons.mp hx with rfl | hx
        · exact .tail _ (.tail _ (.tail _ (.head _)))
        rcases List.mem_cons.mp hx with rfl | hx
        · exact .tail _ (.tail _ (.tail _ (.tail _ (.head _))))
        rcases List.mem_cons.mp hx with rfl | hx
        · exact .tail _ (.tail _ (.tail _ (.tail _ (.tail _ (.head _)))))
        exact .tail _ (.tail _ (.tail _ (.tail _ (.tail _ (.tail _ (List.mem_append_right _ (.tail _ hx))))))))
      clear N9
      k_steps
      unfold Hold
      have hrl : rv.length = i := by rw [hT'.length, List.length_map, List.length_range]
      refine append_K (its := rv.toArray) F7 N7 (Upd.head ?_) ?_ (by rw [sizeLine_eq, List.size_toArray]; omega)
      · intro x hx
        rcases List.mem_cons.mp hx with rfl | hx
        · exact Nat.ne_of_gt l2
        rcases List.mem_cons.mp hx with rfl | hx
        · exact w1.symm
        rcases List.mem_cons.mp hx with rfl | hx
        · exact w2.symm
        rcases List.mem_cons.mp hx with rfl | hx
        · exact w3.symm
        rcases List.mem_cons.mp hx with rfl | hx
        · exact w4.symm
        rcases List.mem_cons.mp hx with rfl | hx
        · exact w5.symm
        rcases List.mem_cons.mp hx with rfl | hx
        · exact hIw
        · exact hw' x hx
      intro h6 F8 N8
      rw [List.push_toArray] at N8
      k_steps
      have hm7 : known [(Str.ofString "row", some (.ref rw)), (Str.ofString "words", some (.ref wd))] m9' = m9' := known_same (by simp [q1, q2])
      refine FreeEnd.intro (nx := (rw, W.listOf (rv ++ [Value.ref wd]).toArray (n' + 1)) :: (c1, o1) :: (c2, o2) :: (c3, o3n) :: (c4, o4n) :: (c5, o5n) :: (((wd, W.listOf wv.toArray n9) :: nw) ++ tl)) (hm7 ▸ F8) (fun x hx => N8 x ?_) (fun x hx y hy => ?_) ⟨o3n, o4n, o5n, rv ++ [Value.ref wd], n' + 1, (wd, W.listOf wv.toArray n9) :: nw, v39, v49, v59, rfl, d3n, d4n, d5n, ?_, ?_, ?_, ?_, ?_⟩
      · rcases List.mem_cons.mp hx with rfl | hx
        · exact .tail _ (.tail _ (.tail _ (.tail _ (.tail _ (.tail _ (.tail _ (.head _)))))))
        rcases List.mem_cons.mp hx with rfl | hx
        · exact .head _
        rcases List.mem_cons.mp hx with rfl | hx
        · exact .tail _ (.tail _ (.head _))
        rcases List.mem_cons.mp hx with rfl | hx
        · exact .tail _ (.tail _ (.tail _ (.head _)))
        rcases List.mem_cons.mp hx with rfl | hx
        · exact .tail _ (.tail _ (.tail _ (.tail _ (.head _))))
        rcases List.mem_cons.mp hx with rfl | hx
        · exact .tail _ (.tail _ (.tail _ (.tail _ (.tail _ (.head _)))))
        rcases List.mem_cons.mp hx with rfl | hx
        · exact .tail _ (.tail _ (.tail _ (.tail _ (.tail _ (.tail _ (.head _))))))
        rcases List.mem_cons.mp hx with rfl | hx
        · exact .tail _ (.head _)
        exact .tail _ (.tail _ (.tail _ (.tail _ (.tail _ (.tail _ (.tail _ (.tail _ hx)))))))
      · rw [List.mem_singleton.mp hy]
        rcases List.mem_cons.mp hx with rfl | hx
        · exact hIw.symm
        rcases List.mem_cons.mp hx with rfl | hx
        · exact hI1.symm
        rcases List.mem_cons.mp hx with rfl | hx
        · exact hI2.symm
        rcases List.mem_cons.mp hx with rfl | hx
        · exact hI3.symm
        rcases List.mem_cons.mp hx with rfl | hx
        · exact hI4.symm
        rcases List.mem_cons.mp hx with rfl | hx
        · exact hI5.symm
        rcases List.mem_cons.mp hx with rfl | hx
        · exact Nat.ne_of_gt l1
        · exact hI6 x hx
      · refine ⟨fun x hx => ?_, fun x hx => ?_, fun x hx => ?_, fun x hx => ?_, fun x hx => ?_⟩
        all_goals rcases List.mem_cons.mp hx with rfl | hx
        · exact Nat.ne_of_gt l3
        · exact k1 x hx
        · exact Nat.ne_of_gt l4
        · exact k2 x hx
        · exact Nat.ne_of_gt l5
        · exact k3 x hx
        · exact Nat.ne_of_gt l6
        · exact k4 x hx
        · exact Nat.ne_of_gt l7
        · exact k5 x hx
      · intro x hx
        rcases List.mem_cons.mp hx with rfl | hx
        · exact Nat.ne_of_gt l2
        · exact hw' x hx
      · intro x hx y hy
        rcases List.mem_cons.mp hx with rfl | hx
        · exact Nat.ne_of_gt (allLt_get l8 y (List.mem_append_right _ hy))
        · exact hnt x hx y hy
      · intro z z1 z2 z3
        exact (hm8 z z1).trans ((if_neg z2).trans ((if_neg z3).trans ((congrFun (known_same (by simp [e1, e2])) z).trans (hm2 z z1 z2 z3))))
      · rw [List.range_succ, List.map_append]
        refine (hT'.mono fun _ _ x => x.mono fun y hy => .tail _ hy).append (.cons ⟨wd, wv, n9, rfl, .head _, hT9⟩ .nil)
  · intro m₁ nx h tk hJ F₁ N₁
    k_steps
    exact hret _ _ _ _ hJ F₁ N₁
end
end
section
set_option maxHeartbeats 8000000
section
open PySem PySem.W PySem.Calls PyProof.Rows PySem.Spec LCg
variable (w : World) (mean : ExcName → Option Value) (mg mb : Str → Option Value)
local macro_rules | `(tactic| walk_at "exec For Name Call cons nil") => `(tactic| walk_at "own 2")
local macro_rules | `(tactic| k_all) => `(tactic| assumption)
local macro_rules
  | `(tactic| walk_at "call builtin:list.append") => `(tactic| walk_at "own 2")
  | `(tactic| walk_at "binaryOp Add ref ref") => `(tactic| walk_at "own 2")
/-- the row of one length -/
noncomputable def rowOf (rows : List (List (List (List Nat)))) (len : Nat) (figs : List Int) : List (List (List Nat)) := (List.range 3).map (byName rows len figs) ++ (if len = 1 then [[[97]], [[98]]] else [[], []])
/-- the table behind so many lengths -/
noncomputable def rowsOf (figs : List Int) : Nat → List (List (List (List Nat)))
  | 0 => [[[], [], [], [], []]]
  | i + 1 => rowsOf figs i ++ [rowOf (rowsOf figs i) (i + 1) figs]
noncomputable def bnd : Nat → Nat
  | 1 => 2 | 2 => 4 | 3 => 8 | 4 => 32 | _ => 0
theorem rows_len3 (figs : List Int) : ∀ i, (rowsOf figs i).length = i + 1
  | 0 => rfl
  | i + 1 => by rw [rowsOf, List.length_append, rows_len3 figs i]; rfl
theorem cell_old {rows : List (List (List (List Nat)))} {r : List (List (List Nat))} {j p : Nat} (h : j < rows.length) : cellOf (rows ++ [r]) j p = cellOf rows j p := by
  unfold cellOf
  rw [List.getD_eq_getElem?_getD (l := rows ++ [r]), List.getElem?_append_left h, ← List.getD_eq_getElem?_getD]
theorem cell_new {rows : List (List (List (List Nat)))} {r : List (List (List Nat))} {j p : Nat} (h : j = rows.length) : cellOf (rows ++ [r]) j p = r.getD p [] := by
  unfold cellOf
  rw [List.getD_eq_getElem?_getD (l := rows ++ [r]), h, List.getElem?_concat_length]; rfl
theorem cell_out {rows : List (List (List (List Nat)))} {j p : Nat} (h : rows.length ≤ j) : cellOf rows j p = [] := by
  unfold cellOf
  rw [List.getD_eq_getElem?_getD (l := rows), List.getElem?_eq_none h]; rfl
theorem flat_sum {α β : Type} (f : α → List β) (b : α → Nat) : ∀ (l : List α), (∀ x ∈ l, (f x).length ≤ b x) → (l.flatMap f).length ≤ (l.map b).sum
  | [], _ => by simp
  | a :: l, h => by
    have h1 := h a (.head _)
    have h2 := flat_sum f b l fun x hx => h x (.tail _ hx)
    rw [List.flatMap_cons, List.length_append, List.map_cons, List.sum_cons]
    omega
/-- what the table's cells are bounded by -/
noncomputable def CellsOk (rows : List (List (List (List Nat)))) : Prop := ∀ j p, (cellOf rows j p).length ≤ bnd j ∧ ∀ t ∈ cellOf rows j p, t.length = j
theorem pairs_ok {rows : List (List (List (List Nat)))} (h : CellsOk rows) (len p q i : Nat) (hi : i < len) : (pairsOf rows len p q i).length ≤ bnd i * bnd (len - 1 - i) ∧ ∀ t ∈ pairsOf rows len p q i, t.length = len - 1 := by
  have h1 := h i p
  have h2 := h (len - 1 - i) q
  constructor
  · refine Nat.le_trans (flat_len _ (bnd (len - 1 - i)) _ fun u _ => by rw [List.length_map]; exact h2.1) ?_
    exact Nat.mul_le_mul_right _ h1.1
  · intro t ht
    unfold pairsOf at ht
    obtain ⟨u, hu, hv⟩ := List.mem_flatMap.mp ht
    obtain ⟨v, hv', rfl⟩ := List.mem_map.mp hv
    rw [List.length_append, h1.2 u hu, h2.2 v hv']; omega
theorem rest_ok {rows : List (List (List (List Nat)))} (h : CellsOk rows) (len : Nat) (hl : 1 ≤ len) (hl4 : len ≤ 4) : ∀ ps : List Int, 2 * (restOf rows len ps).length ≤ bnd len ∧ ∀ t ∈ restOf rows len ps, t.length = len - 1
  | [] => by
    rw [show restOf rows len [] = if len = 1 then [[]] else [] from rfl]
    split
    · subst len; decide
    · simp
  | [p] => by
    have := h (len - 1) p.toNat
    rw [show restOf rows len [p] = cellOf rows (len - 1) p.toNat from rfl]
    refine ⟨?_, this.2⟩
    have h1 := this.1
    have hc : len = 1 ∨ len = 2 ∨ len = 3 ∨ len = 4 := by omega
    have hb : 2 * bnd (len - 1) ≤ bnd len := by rcases hc with rfl | rfl | rfl | rfl <;> decide
    omega
  | [p, q] => by
    rw [show restOf rows len [p, q] = (List.range len).flatMap (pairsOf rows len p.toNat q.toNat) from rfl]
    constructor
    · have h1 := flat_sum (pairsOf rows len p.toNat q.toNat) (fun i => bnd i * bnd (len - 1 - i)) (List.range len) fun x hx => (pairs_ok h len _ _ x (List.mem_range.mp hx)).1
      have hc : len = 1 ∨ len = 2 ∨ len = 3 ∨ len = 4 := by omega
      have hb : 2 * ((List.range len).map fun i => bnd i * bnd (len - 1 - i)).sum ≤ bnd len := by rcases hc with rfl | rfl | rfl | rfl <;> decide
      omega
    · intro t ht
      obtain ⟨i, hi, hx⟩ := List.mem_flatMap.mp ht
      exact (pairs_ok h len _ _ i (List.mem_range.mp hi)).2 t hx
  | _ :: _ :: _ :: _ => ⟨by show 2 * ([] : List (List Nat)).length ≤ _; simp, fun t ht => nomatch (show t ∈ ([] : List (List Nat)) from ht)⟩
theorem by_ok {rows : List (List (List (List Nat)))} (h : CellsOk rows) (len : Nat) (hl : 1 ≤ len) (hl4 : len ≤ 4) (figs : List Int) (nm : Nat) : (byName rows len figs nm).length ≤ bnd len ∧ ∀ t ∈ byName rows len figs nm, t.length = len := by
  have one : ∀ k, 2 * (wordsBy rows len figs nm k).length ≤ bnd len ∧ ∀ t ∈ wordsBy rows len figs nm k, t.length = len := by
    intro k
    have := rest_ok h len hl hl4 (partsOf (figAt figs (2 * nm + k)))
    unfold wordsBy
    split
    · simp
    · refine ⟨by rw [List.length_map]; exact this.1, fun t ht => ?_⟩
      obtain ⟨u, hu, rfl⟩ := List.mem_map.mp ht
      rw [List.length_cons, this.2 u hu]; omega
  have e : byName rows len figs nm = wordsBy rows len figs nm 0 ++ wordsBy rows len figs nm 1 := by unfold byName; simp [List.range_succ]
  rw [e]
  refine ⟨by rw [List.length_append]; have a := (one 0).1; have b := (one 1).1; omega, fun t ht => ?_⟩
  rcases List.mem_append.mp ht with ht | ht
  · exact (one 0).2 t ht
  · exact (one 1).2 t ht
theorem row_at {rows : List (List (List (List Nat)))} {len : Nat} {figs : List Int} : ∀ p, (rowOf rows len figs).getD p [] = if p < 3 then byName rows len figs p else if p = 3 then (if len = 1 then [[97]] else []) else if p = 4 then (if len = 1 then [[98]] else []) else []
  | 0 => rfl
  | 1 => rfl
  | 2 => rfl
  | 3 => by unfold rowOf; split <;> rfl
  | 4 => by unfold rowOf; split <;> rfl
  | p + 5 => by
    have h3 : ¬ p + 5 < 3 := by omega
    have h4 : ¬ p + 5 = 3 := by omega
    have h5 : ¬ p + 5 = 4 := by omega
    rw [if_neg h3, if_neg h4, if_neg h5]
    unfold rowOf
    rw [List.getD_eq_getElem?_getD, List.getElem?_eq_none]
    · rfl
    · rw [List.length_append]; split <;> simp
theorem cells_ok (figs : List Int) : ∀ i, i ≤ 4 → CellsOk (rowsOf figs i)
  | 0, _ => by
    intro j p
    have e : cellOf (rowsOf figs 0) j p = [] := by
      unfold cellOf
      match j, p with
      | 0, 0 => rfl
      | 0, 1 => rfl
      | 0, 2 => rfl
      | 0, 3 => rfl
      | 0, 4 => rfl
      | 0, p + 5 => rfl
      | j + 1, p => rfl
    rw [e]; simp
  | i + 1, hi => by
    have ih := cells_ok figs i (by omega)
    intro j p
    rw [rowsOf]
    rcases Nat.lt_trichotomy j (i + 1) with hj | hj | hj
    · rw [cell_old (by rw [rows_len3]; exact hj)]; exact ih j p
    · rw [cell_new (by rw [rows_len3]; exact hj), row_at]
      subst hj
      have hb := by_ok ih (i + 1) (by omega) hi figs p
      split
      · exact hb
      have one : ∀ c, (if i + 1 = 1 then [[c]] else ([] : List (List Nat))).length ≤ bnd (i + 1) ∧ ∀ t ∈ (if i + 1 = 1 then [[c]] else ([] : List (List Nat))), t.length = i + 1 := by
        intro c
        split
        · have : i = 0 := by omega
          subst this; simp [bnd]
        · simp
      split
      · exact one 97
      split
      · exact one 98
      · simp
    · rw [cell_out (by rw [List.length_append, rows_len3]; simp; omega)]; simp
theorem tab_ok (figs : List Int) (i : Nat) (hi : i ≤ 4) : TabOk (rowsOf figs i) := by
  have h := cells_ok figs i hi
  have h5 : ∀ i, ∀ row ∈ rowsOf figs i, row.length = 5 := by
    intro i
    induction i with
    | zero => intro row hr; rw [List.mem_singleton.mp hr]; rfl
    | succ i ih =>
      intro row hr
      rcases List.mem_append.mp hr with hr | hr
      · exact ih row hr
      · rw [List.mem_singleton.mp hr]; unfold rowOf; rw [List.length_append]; split <;> simp
  intro row hr
  refine ⟨h5 i row hr, fun c hc => ?_⟩
  obtain ⟨j, hj, rfl⟩ := List.getElem_of_mem hr
  obtain ⟨p, hp, rfl⟩ := List.getElem_of_mem hc
  have e : cellOf (rowsOf figs i) j p = (rowsOf figs i)[j][p] := by
    unfold cellOf
    rw [List.getD_eq_getElem?_getD, List.getD_eq_getElem?_getD, List.getElem?_eq_getElem hj, Option.getD_some, List.getElem?_eq_getElem hp, Option.getD_some]
  have := h j p
  rw [e] at this
  rw [rows_len3] at hj
  have hb : bnd j ≤ 1000 := by
    have hc : j = 0 ∨ j = 1 ∨ j = 2 ∨ j = 3 ∨ j = 4 := by omega
    rcases hc with rfl | rfl | rfl | rfl | rfl <;> simp [bnd]
  exact ⟨by omega, fun t ht => by have := this.2 t ht; omega⟩
end
end
section
set_option maxHeartbeats 8000000
section
local macro_rules | `(tactic| walk_at "idle") => `(tactic| skip)
open PySem PySem.W PySem.Calls PyProof.Rows PySem.Spec LCg
variable (w : World) (mean : ExcName → Option Value) (mg mb : Str → Option Value)
local macro_rules | `(tactic| walk_at "exec For Name Call cons nil") => `(tactic| walk_at "own 2")
local macro_rules | `(tactic| k_all) => `(tactic| assumption)
local macro_rules
  | `(tactic| walk_at "call builtin:list.append") => `(tactic| walk_at "own 2")
  | `(tactic| walk_at "binaryOp Add ref ref") => `(tactic| walk_at "own 2")
noncomputable def J1 (c1 c2 c3 c4 c5 : Addr) (o1 : Obj) (t : Addr) (tl bs : List (Addr × Obj)) (figs : List Int) (m₀ : Str → Option Value) (i : Nat) (m : Str → Option Value) (nx : List (Addr × Obj)) : Prop :=
  ∃ (o2 o3 o4 o5 : Obj) (vsT : List Value) (n : Nat) (nw : List (Addr × Obj)) (v2 v3 v4 v5 : Option Value), nx = (t, W.listOf vsT.toArray n) :: (c1, o1) :: (c2, o2) :: (c3, o3) :: (c4, o4) :: (c5, o5) :: (nw ++ tl) ∧ o2.data = .cell v2 ∧ o3.data = .cell v3 ∧ o4.data = .cell v4 ∧ o5.data = .cell v5 ∧
    Off5 c1 c2 c3 c4 c5 (nw ++ tl) ∧ (∀ x ∈ nw ++ tl, x.1 ≠ t) ∧ (∀ x ∈ nw, ∀ y ∈ tl, x.1 ≠ y.1) ∧ (∀ z, z ≠ Str.ofString "rest" → z ≠ Str.ofString "words" → z ≠ Str.ofString "name" → z ≠ Str.ofString "row" → m z = m₀ z) ∧ All2 (RowAt (nw ++ bs)) vsT (rowsOf figs i)
theorem append_two {w : World} {A : Around} {E : Value → Shared → Prop} {s : Shared} {h₀ : Heap} {L : Addr} {m : Str → Option Value} {news rst : List (Addr × Obj)} {a : Addr} {vs : List Value} {x : Value} {n : Nat} {Q : Value → Shared → Prop} (F : Fr h₀ L s.heap m) (N : News h₀ L s.heap news) (ha : (a, W.listOf vs.toArray n) ∈ news) (hr : ∀ p ∈ rst, p ∈ news) (hne : ∀ p ∈ rst, p.1 ≠ a) (hsz : vs.length ≤ sizeLine)
    (h : ∀ h', Fr h₀ L h' m → News h₀ L h' ((a, W.listOf (vs ++ [x]).toArray (n + 1)) :: rst) → Q .none { s with heap := h' }) : wpAny (model pw w) A (call (.builtin "list.append") [.ref a, x]) Q E s := by
  have N' : News h₀ L s.heap ((a, W.listOf vs.toArray n) :: rst) := fun p hp => by
    rcases List.mem_cons.mp hp with rfl | hp
    · exact N _ ha
    · exact N p (hr p hp)
  refine append_K (its := vs.toArray) F N' (Upd.head hne) ?_ (by rw [List.size_toArray]; exact hsz)
  intro h' F' N''
  rw [List.push_toArray] at N''
  exact h h' F' N''
theorem append_deep {w : World} {A : Around} {E : Value → Shared → Prop} {s : Shared} {h₀ : Heap} {L : Addr} {m : Str → Option Value} {p1 p2 p3 p4 : Addr × Obj} {rst : List (Addr × Obj)} {a : Addr} {vs : List Value} {x : Value} {n : Nat} {Q : Value → Shared → Prop} (F : Fr h₀ L s.heap m) (N : News h₀ L s.heap (p1 :: p2 :: p3 :: p4 :: (a, W.listOf vs.toArray n) :: rst)) (h1 : p1.1 ≠ a) (h3 : p3.1 ≠ a) (h4 : p4.1 ≠ a) (hne : ∀ p ∈ rst, p.1 ≠ a) (hsz : vs.length ≤ sizeLine)
    (h : ∀ h', Fr h₀ L h' m → News h₀ L h' ((a, W.listOf (vs ++ [x]).toArray (n + 1)) :: p1 :: p3 :: p4 :: rst) → Q .none { s with heap := h' }) : wpAny (model pw w) A (call (.builtin "list.append") [.ref a, x]) Q E s := by
  refine append_two (rst := p1 :: p3 :: p4 :: rst) F N (.tail _ (.tail _ (.tail _ (.tail _ (.head _))))) ?_ ?_ hsz h
  · intro x hx
    rcases List.mem_cons.mp hx with rfl | hx
    · exact .head _
    rcases List.mem_cons.mp hx with rfl | hx
    · exact .tail _ (.tail _ (.head _))
    rcases List.mem_cons.mp hx with rfl | hx
    · exact .tail _ (.tail _ (.tail _ (.head _)))
    · exact .tail _ (.tail _ (.tail _ (.tail _ (.tail _ hx))))
  · intro x hx
    rcases List.mem_cons.mp hx with rfl | hx
    · exact h1
    rcases List.mem_cons.mp hx with rfl | hx
    · exact h3
    rcases List.mem_cons.mp hx with rfl | hx
    · exact h4
    · exact hne x hx
theorem cut_loop1 (o1 o2 o3 o4 o5 : Obj) (tl bs : List (Addr × Obj)) (t : Addr) (vsT : List Value) (nT : Nat) (fa : Addr) (fv : List Value) (fn : Nat) (figs : List Int) (ts : Tok) (v2 v3 v4 v5 : Option Value) :
    CutS w mean mg mb wLoop1 16 320 (fun c1 c2 c3 c4 c5 h₀ L m news s Q => Five c1 c2 c3 c4 c5 ∧ news = (t, W.listOf vsT.toArray nT) :: (c1, o1) :: (c2, o2) :: (c3, o3) :: (c4, o4) :: (c5, o5) :: tl ∧ Off5 c1 c2 c3 c4 c5 tl ∧ (∀ x ∈ tl, x.1 ≠ t) ∧ ((t : Nat) ≠ c1 ∧ (t : Nat) ≠ c2 ∧ (t : Nat) ≠ c3 ∧ (t : Nat) ≠ c4 ∧ (t : Nat) ≠ c5) ∧
      o1.data = .cell (some (.ref t)) ∧ o2.data = .cell v2 ∧ o3.data = .cell v3 ∧ o4.data = .cell v4 ∧ o5.data = .cell v5 ∧ All2 (RowAt bs) vsT (rowsOf figs 0) ∧ (∀ x ∈ bs, x ∈ tl) ∧
      (fa, W.listOf fv.toArray fn) ∈ tl ∧ IntsAre fv figs ∧ figs.length = 6 ∧ (∀ f ∈ figs, 0 ≤ f ∧ f < 32) ∧ m (Str.ofString "figures") = some (.ref fa) ∧ m (Str.ofString "size") = some (.int 4 ts) ∧
      ∀ m' nx h' tk', J1 c1 c2 c3 c4 c5 o1 t tl bs figs m 4 m' nx → Fr h₀ L h' m' → News h₀ L h' nx → Q .next { s with heap := h', toks := tk' }) := by
  unfold CutS; k_fill; w_top off
  intro _ dp un gd outer A₀ base h₀ L c1 c2 c3 c4 c5 m s Q E news B F X N T hb hd hu hE hR
  obtain ⟨hf, rfl, hoff, hwd, ⟨w1, w2, w3, w4, w5⟩, d1, d2, d3, d4, d5, hrows, hbs, hfa, hfv, hfl, hfb, hmf, hms, hret⟩ := hR
  conv in (exec wLoop1 _) => arg 1; whnf
  generalize hsc : wSc = sc at *
  conv at hsc => lhs; whnf
  subst hsc
  dsimp only [wEnv, wCl] at *
  have F₂ := (known_same (m := m) (ps := [(Str.ofString "size", some (.int 4 ts))]) (by simp [hms])).symm ▸ F
  have hkm : known [(Str.ofString "size", some (.int 4 ts))] m = m := known_same (by simp [hms])
  clear F
  (with_unfolding_all refine' For_turns F₂ ?_ ?h1 ?h2; (case h1 => intro _; rfl); (case h2 => first | assumption | passes_own))
  k_steps
  rename Fr _ _ _ _ => F9
  rename News _ _ _ _ => N9
  rename IsRange _ _ _ _ _ _ _ _ => R9
  rw [hkm] at F9
  refine turns_range (J1 c1 c2 c3 c4 c5 o1 t tl bs figs m) rfl F9 N9 R9 (by decide) (n := 4) (by decide) ⟨o2, o3, o4, o5, vsT, nT, [], v2, v3, v4, v5, rfl, d2, d3, d4, d5, hoff, hwd, (fun x hx => nomatch hx), fun _ _ _ _ _ => rfl, hrows⟩ ?_ ?_
  · clear F9 N9 R9
    intro I i m₁ nx h tk ti it hi hnI hJ F₁ N₁
    obtain ⟨o2', o3', o4', o5', vsT', n', nw, v2', v3', v4', v5', rfl, d2', d3', d4', d5', ⟨k1, k2, k3, k4, k5⟩, hw', hnt, hm2, hT'⟩ := hJ
    have e1 : m₁ (Str.ofString "figures") = some (.ref fa) := (hm2 _ (by decide) (by decide) (by decide) (by decide)).trans hmf
    have F₂ := (known_same (m := m₁) (ps := [(Str.ofString "figures", some (.ref fa))]) (by simp [e1])).symm ▸ F₁
    clear F₁
    have hIw : (I : Nat) ≠ t := (hnI (t, W.listOf vsT'.toArray n') (.head _)).symm
    have hI1 : (I : Nat) ≠ c1 := (hnI (c1, o1) (.tail _ (.head _))).symm
    have hI2 : (I : Nat) ≠ c2 := (hnI (c2, o2') (.tail _ (.tail _ (.head _)))).symm
    have hI3 : (I : Nat) ≠ c3 := (hnI (c3, o3') (.tail _ (.tail _ (.tail _ (.head _))))).symm
    have hI4 : (I : Nat) ≠ c4 := (hnI (c4, o4') (.tail _ (.tail _ (.tail _ (.tail _ (.head _)))))).symm
    have hI5 : (I : Nat) ≠ c5 := (hnI (c5, o5') (.tail _ (.tail _ (.tail _ (.tail _ (.tail _ (.head _))))))).symm
    have hI6 : ∀ x ∈ nw ++ tl, x.1 ≠ I := fun x hx => hnI x (.tail _ (.tail _ (.tail _ (.tail _ (.tail _ (.tail _ hx))))))
    have ⟨f12, f13, f14, f15, f23, f24, f25, f34, f35, f45⟩ := hf
    k_steps
    rename News _ _ _ _ => N6
    rename Fr _ _ _ _ => F6
    rename I < _ ∧ _ => l6
    rename Obj.data _ = Data.cell (some (Value.int (1 + (i : Int)) ti)) => d2x
    rename_i o2n rw hx1 hx2
    obtain ⟨l1, l2, l3, l4, l5, l6, l7, l8⟩ := l6
    have d2n : o2n.data = Data.cell (some (Value.int ((i + 1 : Nat) : Int) ti)) := by rw [d2x]; congr 3; omega
    unfold Hold
    refine cut_loop2 w mean mg mb o1 o2n o3' o4' o5' ((t, W.listOf vsT'.toArray n') :: (I, it) :: (nw ++ tl)) t vsT' n' (rowsOf figs i) (i + 1) ti fa fv fn figs rw 0 v3' v4' v5' (by assumption) _ _ _ _ _ _ _ _ _ _ _ _ _ _ _ _ _ _ B F6 X ?n9 T hb (by first | exact room _ hd rfl | exact room2 _ hd rfl | omega) (by first | exact room _ hu rfl | exact room2 _ hu rfl | omega) hE ⟨hf, rfl, ?o9, ?w9, ⟨Nat.ne_of_gt l3, Nat.ne_of_gt l4, Nat.ne_of_gt l5, Nat.ne_of_gt l6, Nat.ne_of_gt l7⟩, d1, d2n, d3', d4', d5', .head _, ?r9, tab_ok figs i (by omega), by omega, by omega, by (rw [rows_len3]; exact Nat.le_refl _), ?f9, hfv, hfl, hfb, rfl, rfl, ?k9⟩
    case n9 => exact fun x hx => N6 x (by simp only [List.mem_append, List.mem_cons] at hx ⊢; grind)
    case o9 =>
      refine ⟨fun x hx => ?_, fun x hx => ?_, fun x hx => ?_, fun x hx => ?_, fun x hx => ?_⟩
      all_goals rcases List.mem_cons.mp hx with rfl | hx
      · exact w1
      · rcases List.mem_cons.mp hx with rfl | hx
        · exact hI1
        · exact k1 x hx
      · exact w2
      · rcases List.mem_cons.mp hx with rfl | hx
        · exact hI2
        · exact k2 x hx
      · exact w3
      · rcases List.mem_cons.mp hx with rfl | hx
        · exact hI3
        · exact k3 x hx
      · exact w4
      · rcases List.mem_cons.mp hx with rfl | hx
        · exact hI4
        · exact k4 x hx
      · exact w5
      · rcases List.mem_cons.mp hx with rfl | hx
        · exact hI5
        · exact k5 x hx
    case w9 =>
      intro x hx
      rcases List.mem_cons.mp hx with rfl | hx
      · exact Nat.ne_of_lt l2
      · rcases List.mem_cons.mp hx with rfl | hx
        · exact Nat.ne_of_lt l1
        · exact Nat.ne_of_lt (allLt_get l8 x hx)
    case r9 => exact hT'.mono fun _ _ x => x.mono fun y hy => .tail _ (.tail _ ((List.mem_append.mp hy).elim (fun h => List.mem_append_left _ h) fun h => List.mem_append_right _ (hbs y h)))
    case f9 => exact .tail _ (.tail _ (List.mem_append_right _ hfa))
    case k9 =>
      intro m9' nx9 h9' tk9' hJ9 F9 N9
      obtain ⟨o3n, o4n, o5n, rv, n9, nw9, v39, v49, v59, rfl, d3n, d4n, d5n, off9, hw9, hnt9, hm8, hT9⟩ := hJ9
      have q1 : m9' (Str.ofString "row") = some (.ref rw) := (hm8 _ (by decide) (by decide) (by decide)).trans rfl
      have F7 := (known_same (m := m9') (ps := [(Str.ofString "row", some (.ref rw))]) (by simp [q1])).symm ▸ F9
      clear F9
      have hsub9 : ∀ x, x ∈ (nw9 ++ nw) ++ tl → x ∈ nw9 ++ ((t, W.listOf vsT'.toArray n') :: (I, it) :: (nw ++ tl)) := fun x hx => by
        rcases List.mem_append.mp hx with hx | hx
        · rcases List.mem_append.mp hx with hx | hx
          · exact List.mem_append_left _ hx
          · exact List.mem_append_right _ (.tail _ (.tail _ (List.mem_append_left _ hx)))
        · exact List.mem_append_right _ (.tail _ (.tail _ (List.mem_append_right _ hx)))
      have N7 : News h₀ L h9' ((t, W.listOf vsT'.toArray n') :: (rw, W.listOf rv.toArray n9) :: (c1, o1) :: (c2, o2n) :: (c3, o3n) :: (c4, o4n) :: (c5, o5n) :: (I, it) :: ((nw9 ++ nw) ++ tl)) := fun x hx => N9 x (by
        rcases List.mem_cons.mp hx with rfl | hx
        · exact .tail _ (.tail _ (.tail _ (.tail _ (.tail _ (.tail _ (List.mem_append_right _ (.head _)))))))
        rcases List.mem_cons.mp hx with rfl | hx
        · exact .head _
        rcases List.mem_cons.mp hx with rfl | hx
        · exact .tail _ (.head _)
        rcases List.mem_cons.mp hx with rfl | hx
        · exact .tail _ (.tail _ (.head _))
        rcases List.mem_cons.mp hx with rfl | hx
        · exact .tail _ (.tail _ (.tail _ (.head _)))
        rcases List.mem_cons.mp hx with rfl | hx
        · exact .tail _ (.tail _ (.tail _ (.tail _ (.head _))))
        rcases List.mem_cons.mp hx with rfl | hx
        · exact .tail _ (.tail _ (.tail _ (.tail _ (.tail _ (.head _)))))
        rcases List.mem_cons.mp hx with rfl | hx
        · exact .tail _ (.tail _ (.tail _ (.tail _ (.tail _ (.tail _ (List.mem_append_right _ (.tail _ (.head _))))))))
        exact .tail _ (.tail _ (.tail _ (.tail _ (.tail _ (.tail _ (hsub9 x hx)))))))
      clear N9
      have hl1 : rv.length = 3 := by rw [hT9.length, List.length_map, List.length_range]
      have hl2 : vsT'.length = i + 1 := by rw [hT'.length, rows_len3]
      have hm7 : known [(Str.ofString "row", some (.ref rw))] m9' = m9' := known_same (by simp [q1])
      have hgo : ∀ y ∈ (nw9 ++ nw) ++ tl, y.1 ≠ I ∧ y.1 ≠ t ∧ y.1 ≠ rw := fun y hy => by
        refine ⟨?_, ?_, hw9 y (hsub9 y hy)⟩
        · rcases List.mem_append.mp hy with hy | hy
          · rcases List.mem_append.mp hy with hy | hy
            · exact hnt9 y hy (I, it) (.tail _ (.head _))
            · exact hI6 y (List.mem_append_left _ hy)
          · exact hI6 y (List.mem_append_right _ hy)
        · rcases List.mem_append.mp hy with hy | hy
          · rcases List.mem_append.mp hy with hy | hy
            · exact hnt9 y hy (t, _) (.head _)
            · exact hw' y (List.mem_append_left _ hy)
          · exact hw' y (List.mem_append_right _ hy)
      have hgc : Off5 c1 c2 c3 c4 c5 ((nw9 ++ nw) ++ tl) := ⟨fun y hy => off9.1 y (hsub9 y hy), fun y hy => off9.2.1 y (hsub9 y hy), fun y hy => off9.2.2.1 y (hsub9 y hy), fun y hy => off9.2.2.2.1 y (hsub9 y hy), fun y hy => off9.2.2.2.2 y (hsub9 y hy)⟩
      have fin : ∀ (la lb D di : Addr) (va vb : List Value) (na nb : Nat) (ta tb : List (List Nat)) (h6 : Heap) (tk6 n6 : Nat), Texts va ta → Texts vb tb → rowOf (rowsOf figs i) (i + 1) figs = (List.range 3).map (byName (rowsOf figs i) (i + 1) figs) ++ [ta, tb] →
          (∀ y ∈ (t, W.listOf vsT'.toArray n') :: (rw, W.listOf rv.toArray n9) :: (c1, o1) :: (c2, o2n) :: (c3, o3n) :: (c4, o4n) :: (c5, o5n) :: (I, it) :: ((nw9 ++ nw) ++ tl), y.1 < la ∧ y.1 < lb ∧ y.1 < D) → Fr h₀ L h6 m9' →
          News h₀ L h6 ((t, W.listOf (vsT' ++ [Value.ref D]).toArray n6) :: (D, W.listOf (rv ++ [Value.ref la, Value.ref lb]).toArray 0) :: (lb, W.listOf vb.toArray nb) :: (la, W.listOf va.toArray na) :: (rw, W.listOf rv.toArray n9) :: (c1, o1) :: (c2, o2n) :: (c3, o3n) :: (c4, o4n) :: (c5, o5n) :: (I, it) :: ((nw9 ++ nw) ++ tl)) →
          FreePost h₀ L (J1 c1 c2 c3 c4 c5 o1 t tl bs figs m (i + 1)) [(I, it)] { s with heap := h, toks := tk } Q .next { s with heap := h6, toks := tk6 } := by
        intro la lb D di va vb na nb ta tb h6 tk6 n6 hta htb hro hgt F6 N6
        have hg3 : ∀ x : Addr × Obj, x = (D, W.listOf (rv ++ [Value.ref la, Value.ref lb]).toArray 0) ∨ x = (lb, W.listOf vb.toArray nb) ∨ x = (la, W.listOf va.toArray na) → ∀ y ∈ (t, W.listOf vsT'.toArray n') :: (rw, W.listOf rv.toArray n9) :: (c1, o1) :: (c2, o2n) :: (c3, o3n) :: (c4, o4n) :: (c5, o5n) :: (I, it) :: ((nw9 ++ nw) ++ tl), x.1 ≠ y.1 := by
          rintro x (rfl | rfl | rfl) y hy
          · exact Nat.ne_of_gt (hgt y hy).2.2
          · exact Nat.ne_of_gt (hgt y hy).2.1
          · exact Nat.ne_of_gt (hgt y hy).1
        have hsp : ∀ x, x ∈ ((D, W.listOf (rv ++ [Value.ref la, Value.ref lb]).toArray 0) :: (lb, W.listOf vb.toArray nb) :: (la, W.listOf va.toArray na) :: (nw9 ++ nw)) ++ tl → (x = (D, W.listOf (rv ++ [Value.ref la, Value.ref lb]).toArray 0) ∨ x = (lb, W.listOf vb.toArray nb) ∨ x = (la, W.listOf va.toArray na)) ∨ x ∈ (nw9 ++ nw) ++ tl := by
          intro x hx
          rcases List.mem_cons.mp hx with hx | hx
          · exact .inl (.inl hx)
          rcases List.mem_cons.mp hx with hx | hx
          · exact .inl (.inr (.inl hx))
          rcases List.mem_cons.mp hx with hx | hx
          · exact .inl (.inr (.inr hx))
          · exact .inr hx
        refine FreeEnd.intro (nx := (t, W.listOf (vsT' ++ [Value.ref D]).toArray n6) :: (c1, o1) :: (c2, o2n) :: (c3, o3n) :: (c4, o4n) :: (c5, o5n) :: (((D, W.listOf (rv ++ [Value.ref la, Value.ref lb]).toArray 0) :: (lb, W.listOf vb.toArray nb) :: (la, W.listOf va.toArray na) :: (nw9 ++ nw)) ++ tl)) F6 (fun x hx => N6 x ?_) (fun x hx y hy => ?_)
          ⟨o2n, o3n, o4n, o5n, vsT' ++ [Value.ref D], n6, (D, W.listOf (rv ++ [Value.ref la, Value.ref lb]).toArray 0) :: (lb, W.listOf vb.toArray nb) :: (la, W.listOf va.toArray na) :: (nw9 ++ nw), _, v39, v49, v59, rfl, d2n, d3n, d4n, d5n, ?_, ?_, ?_, ?_, ?_⟩
        · rcases List.mem_cons.mp hx with rfl | hx
          · exact .tail _ (.tail _ (.tail _ (.tail _ (.tail _ (.tail _ (.tail _ (.tail _ (.tail _ (.tail _ (.head _))))))))))
          rcases List.mem_cons.mp hx with rfl | hx
          · exact .head _
          rcases List.mem_cons.mp hx with rfl | hx
          · exact .tail _ (.tail _ (.tail _ (.tail _ (.tail _ (.head _)))))
          rcases List.mem_cons.mp hx with rfl | hx
          · exact .tail _ (.tail _ (.tail _ (.tail _ (.tail _ (.tail _ (.head _))))))
          rcases List.mem_cons.mp hx with rfl | hx
          · exact .tail _ (.tail _ (.tail _ (.tail _ (.tail _ (.tail _ (.tail _ (.head _)))))))
          rcases List.mem_cons.mp hx with rfl | hx
          · exact .tail _ (.tail _ (.tail _ (.tail _ (.tail _ (.tail _ (.tail _ (.tail _ (.head _))))))))
          rcases List.mem_cons.mp hx with rfl | hx
          · exact .tail _ (.tail _ (.tail _ (.tail _ (.tail _ (.tail _ (.tail _ (.tail _ (.tail _ (.head _)))))))))
          rcases hsp x hx with (rfl | rfl | rfl) | hx
          · exact .tail _ (.head _)
          · exact .tail _ (.tail _ (.head _))
          · exact .tail _ (.tail _ (.tail _ (.head _)))
          · exact .tail _ (.tail _ (.tail _ (.tail _ (.tail _ (.tail _ (.tail _ (.tail _ (.tail _ (.tail _ (.tail _ hx))))))))))
        · rw [List.mem_singleton.mp hy]
          rcases List.mem_cons.mp hx with rfl | hx
          · exact hIw.symm
          rcases List.mem_cons.mp hx with rfl | hx
          · exact hI1.symm
          rcases List.mem_cons.mp hx with rfl | hx
          · exact hI2.symm
          rcases List.mem_cons.mp hx with rfl | hx
          · exact hI3.symm
          rcases List.mem_cons.mp hx with rfl | hx
          · exact hI4.symm
          rcases List.mem_cons.mp hx with rfl | hx
          · exact hI5.symm
          rcases hsp x hx with h3 | hx
          · exact hg3 x h3 (I, it) (.tail _ (.tail _ (.tail _ (.tail _ (.tail _ (.tail _ (.tail _ (.head _))))))))
          · exact (hgo x hx).1
        · refine ⟨fun x hx => ?_, fun x hx => ?_, fun x hx => ?_, fun x hx => ?_, fun x hx => ?_⟩
          all_goals rcases hsp x hx with h3 | hx
          · exact hg3 x h3 (c1, o1) (.tail _ (.tail _ (.head _)))
          · exact hgc.1 x hx
          · exact hg3 x h3 (c2, o2n) (.tail _ (.tail _ (.tail _ (.head _))))
          · exact hgc.2.1 x hx
          · exact hg3 x h3 (c3, o3n) (.tail _ (.tail _ (.tail _ (.tail _ (.head _)))))
          · exact hgc.2.2.1 x hx
          · exact hg3 x h3 (c4, o4n) (.tail _ (.tail _ (.tail _ (.tail _ (.tail _ (.head _))))))
          · exact hgc.2.2.2.1 x hx
          · exact hg3 x h3 (c5, o5n) (.tail _ (.tail _ (.tail _ (.tail _ (.tail _ (.tail _ (.head _)))))))
          · exact hgc.2.2.2.2 x hx
        · intro x hx
          rcases hsp x hx with h3 | hx
          · exact hg3 x h3 (t, _) (.head _)
          · exact (hgo x hx).2.1
        · intro x hx y hy
          have hy' : y ∈ (nw9 ++ nw) ++ tl := List.mem_append_right _ hy
          rcases List.mem_cons.mp hx with hx | hx
          · exact hg3 x (.inl hx) y (.tail _ (.tail _ (.tail _ (.tail _ (.tail _ (.tail _ (.tail _ (.tail _ hy'))))))))
          rcases List.mem_cons.mp hx with hx | hx
          · exact hg3 x (.inr (.inl hx)) y (.tail _ (.tail _ (.tail _ (.tail _ (.tail _ (.tail _ (.tail _ (.tail _ hy'))))))))
          rcases List.mem_cons.mp hx with hx | hx
          · exact hg3 x (.inr (.inr hx)) y (.tail _ (.tail _ (.tail _ (.tail _ (.tail _ (.tail _ (.tail _ (.tail _ hy'))))))))
          rcases List.mem_append.mp hx with hx | hx
          · exact hnt9 x hx y (.tail _ (.tail _ (List.mem_append_right _ hy)))
          · exact hnt x hx y hy
        · intro z z1 z2 z3 z4
          exact (hm8 z z1 z2 z3).trans ((if_neg z4).trans ((congrFun (known_same (by simp [e1])) z).trans (hm2 z z1 z2 z3 z4)))
        · rw [rowsOf]
          refine (hT'.mono fun _ _ x => x.mono fun y hy => ?_).append (.cons ⟨D, _, 0, rfl, .head _, ?_⟩ .nil)
          · rw [hro]
            refine (hT9.mono fun _ _ x => x.mono fun y hy => ?_).append (.cons ⟨la, va, na, rfl, .tail _ (.tail _ (.head _)), hta⟩ (.cons ⟨lb, vb, nb, rfl, .tail _ (.head _), htb⟩ .nil))
            exact List.mem_append_left _ (.tail _ (.tail _ (.tail _ (List.mem_append_left _ hy))))
          · rcases List.mem_append.mp hy with hy | hy
            · exact List.mem_append_left _ (.tail _ (.tail _ (.tail _ (List.mem_append_right _ hy))))
            · exact List.mem_append_right _ hy
      k_steps
      · rename_i la hA lA lb hB lB di hC FC NC lC
        unfold Hold
        refine add_two (vs := rv) (ws := [Value.ref la, Value.ref lb]) FC NC (.tail _ (.tail _ (.tail _ (.tail _ (.head _))))) (.head _) (by rw [sizeLine_eq, hl1]; simp only [List.length_cons, List.length_nil]; omega) ?_
        intro D hD FD ND lD
        k_steps
        unfold Hold
        refine append_deep (vs := vsT') FD ND (Nat.ne_of_gt (lD (t, _) (.tail _ (.tail _ (.tail _ (.head _)))))) (Nat.ne_of_gt lB.2.1) (Nat.ne_of_gt lA.1) ?_ (by rw [sizeLine_eq, hl2]; omega) ?_
        · intro x hx
          rcases List.mem_cons.mp hx with rfl | hx
          · exact Nat.ne_of_gt l2
          rcases List.mem_cons.mp hx with rfl | hx
          · exact w1.symm
          rcases List.mem_cons.mp hx with rfl | hx
          · exact w2.symm
          rcases List.mem_cons.mp hx with rfl | hx
          · exact w3.symm
          rcases List.mem_cons.mp hx with rfl | hx
          · exact w4.symm
          rcases List.mem_cons.mp hx with rfl | hx
          · exact w5.symm
          rcases List.mem_cons.mp hx with rfl | hx
          · exact hIw
          · exact (hgo x hx).2.1
        · intro h6 F6 N6
          k_steps
          refine fin la lb D di _ _ _ _ [[97]] [[98]] h6 _ _ (.cons ⟨_, rfl⟩ .nil) (.cons ⟨_, rfl⟩ .nil) (by unfold rowOf; rw [if_pos (by omega)]) (fun y hy => ⟨allLt_get (l := (t, W.listOf vsT'.toArray n') :: (rw, W.listOf rv.toArray n9) :: (c1, o1) :: (c2, o2n) :: (c3, o3n) :: (c4, o4n) :: (c5, o5n) :: (I, it) :: ((nw9 ++ nw) ++ tl)) lA y hy, allLt_get (l := (t, W.listOf vsT'.toArray n') :: (rw, W.listOf rv.toArray n9) :: (c1, o1) :: (c2, o2n) :: (c3, o3n) :: (c4, o4n) :: (c5, o5n) :: (I, it) :: ((nw9 ++ nw) ++ tl)) lB.2 y hy, lD y (.tail _ (.tail _ (.tail _ hy)))⟩) (hm7 ▸ F6) N6
      · rename_i la hA lA lb hB lB di hC FC NC lC
        unfold Hold
        refine add_two (vs := rv) (ws := [Value.ref la, Value.ref lb]) FC NC (.tail _ (.tail _ (.tail _ (.tail _ (.head _))))) (.head _) (by rw [sizeLine_eq, hl1]; simp only [List.length_cons, List.length_nil]; omega) ?_
        intro D hD FD ND lD
        k_steps
        unfold Hold
        refine append_deep (vs := vsT') FD ND (Nat.ne_of_gt (lD (t, _) (.tail _ (.tail _ (.tail _ (.head _)))))) (Nat.ne_of_gt lB.2.1) (Nat.ne_of_gt lA.1) ?_ (by rw [sizeLine_eq, hl2]; omega) ?_
        · intro x hx
          rcases List.mem_cons.mp hx with rfl | hx
          · exact Nat.ne_of_gt l2
          rcases List.mem_cons.mp hx with rfl | hx
          · exact w1.symm
          rcases List.mem_cons.mp hx with rfl | hx
          · exact w2.symm
          rcases List.mem_cons.mp hx with rfl | hx
          · exact w3.symm
          rcases List.mem_cons.mp hx with rfl | hx
          · exact w4.symm
          rcases List.mem_cons.mp hx with rfl | hx
          · exact w5.symm
          rcases List.mem_cons.mp hx with rfl | hx
          · exact hIw
          · exact (hgo x hx).2.1
        · intro h6 F6 N6
          k_steps
          refine fin la lb D di _ _ _ _ [] [] h6 _ _ .nil .nil (by unfold rowOf; rw [if_neg (by omega)]) (fun y hy => ⟨allLt_get (l := (t, W.listOf vsT'.toArray n') :: (rw, W.listOf rv.toArray n9) :: (c1, o1) :: (c2, o2n) :: (c3, o3n) :: (c4, o4n) :: (c5, o5n) :: (I, it) :: ((nw9 ++ nw) ++ tl)) lA y hy, allLt_get (l := (t, W.listOf vsT'.toArray n') :: (rw, W.listOf rv.toArray n9) :: (c1, o1) :: (c2, o2n) :: (c3, o3n) :: (c4, o4n) :: (c5, o5n) :: (I, it) :: ((nw9 ++ nw) ++ tl)) lB.2 y hy, lD y (.tail _ (.tail _ (.tail _ hy)))⟩) (hm7 ▸ F6) N6
  · intro m₁ nx h tk hJ F₁ N₁
    k_steps
    exact hret _ _ _ _ hJ F₁ N₁
end
end
section
set_option maxHeartbeats 8000000
section
open PySem PySem.W PySem.Calls PyProof.Rows PySem.Spec LCg
variable (w : World) (mean : ExcName → Option Value) (mg mb : Str → Option Value)
local macro_rules | `(tactic| walk_at "exec For Name Call cons nil") => `(tactic| walk_at "own 2")
local macro_rules | `(tactic| k_all) => `(tactic| assumption)
theorem five_of (L : Nat) : Five (L + 1) (L + 1 + 1) (L + 1 + 1 + 1) (L + 1 + 1 + 1 + 1) (L + 1 + 1 + 1 + 1 + 1) := by
  refine ⟨?_, ?_, ?_, ?_, ?_, ?_, ?_, ?_, ?_, ?_⟩ <;> (refine neN ?_; omega)
theorem cut_words (fa : Addr) (fv : List Value) (fn : Nat) (figs : List Int) (ts : Tok) :
    Cut w mean mg mb 209 20 400 [.ref fa, .int 4 ts] (fun h₀ L m news s Q => (fa, W.listOf fv.toArray fn) ∈ news ∧ IntsAre fv figs ∧ figs.length = 6 ∧ (∀ f ∈ figs, 0 ≤ f ∧ f < 32) ∧
      ∀ t vsT n nw h' tk', (∀ x ∈ nw, x.1 ≠ t) → (∀ y ∈ news, y.1 ≠ t) → (∀ x ∈ nw, ∀ y ∈ news, x.1 ≠ y.1) → All2 (RowAt nw) vsT (rowsOf figs 4) → Fr h₀ L h' m → News h₀ L h' ((t, W.listOf vsT.toArray n) :: (nw ++ news)) → Q (.ref t) { s with heap := h', toks := tk' }) := by
  unfold Cut; k_fill; w_top off
  intro _ dp un gd cn cs a ccd cl outer A₀ base h₀ L m s Q E news B F X N T hk hb hdd hu ⟨hm, hfv, hfl, hfb, hret⟩
  refine wpAny_call ?_
  k_dflt (refine' code_defC ?k1 ?k2 ?k3 ?k4 ?k5 ?kA ?kF ?kK ?k6 ?k7 ?k8 ?k9 ?kB ?kD ?_ ?c2 ?c3 ?c4; (case kA => exact rfl); (case kF => exact rfl); (case kK => assumption); (case k1 => k_asm); (case k2 => k_asm); (case k3 => k_asm); (case k4 => k_asm); (case k5 => k_asm); (case k6 => k_is); (case k7 => k_is); (case k8 => ktr_room); (case k9 => exact BindsTo.of_eq rfl); (case kB => exact rfl); (case kD => decide +kernel); (case c2 => exact rfl); (case c3 => exact rfl); (case c4 => exact rfl))
  k_whole
  intro g' L' h' tk' cells' FG' F' N' Y' B' X' T' l1
  have n1 : ∀ p ∈ news, p.1 ≠ L' + 1 := fun p hp => Nat.ne_of_lt (Nat.lt_add_right 1 (l1 p hp))
  have n2 : ∀ p ∈ news, p.1 ≠ L' + 1 + 1 := fun p hp => Nat.ne_of_lt (Nat.lt_add_right 2 (l1 p hp))
  have n3 : ∀ p ∈ news, p.1 ≠ L' + 1 + 1 + 1 := fun p hp => Nat.ne_of_lt (Nat.lt_add_right 3 (l1 p hp))
  have n4 : ∀ p ∈ news, p.1 ≠ L' + 1 + 1 + 1 + 1 := fun p hp => Nat.ne_of_lt (Nat.lt_add_right 4 (l1 p hp))
  have n5 : ∀ p ∈ news, p.1 ≠ L' + 1 + 1 + 1 + 1 + 1 := fun p hp => Nat.ne_of_lt (Nat.lt_add_right 5 (l1 p hp))
  k_cells Y'
  (try simp only [List.cons_append, List.nil_append] at N')
  (try dsimp only)
  (try k_lift B')
  (try k_fold)
  k_steps
  rename_i o5 o4 o3 o2 o1 q5 q4 q3 q2 q1 e1 hA1 lA1 e2 hA2 lA2 e3 hA3 lA3 e4 hA4 lA4 e5 hA5 lA5 r0 hA6 lA6 t hA7 lA7 hA8 o1n F8 N8 d1n
  unfold Hold
  show wpAny (model pw w) (ktrTop (dp + 1) (un + 3) gd (Str.ofString "_law_words") wSc L' 209 (.ref 208) (wCl (L' + 1) (L' + 1 + 1) (L' + 1 + 1 + 1) (L' + 1 + 1 + 1 + 1) (L' + 1 + 1 + 1 + 1 + 1)) (envX cn cs L a ccd cl :: outer)) (exec wLoop1 (wEnv wSc L' (L' + 1) (L' + 1 + 1) (L' + 1 + 1 + 1) (L' + 1 + 1 + 1 + 1) (L' + 1 + 1 + 1 + 1 + 1))) _ _ _
  have b1 : ∀ y ∈ news, @LT.lt Nat _ y.1 L' := l1
  refine cut_loop1 w mean mg mb o1n o2 o3 o4 o5 ((r0, W.listOf [Value.ref e1, Value.ref e2, Value.ref e3, Value.ref e4, Value.ref e5].toArray 0) :: (e5, W.listOf #[] 0) :: (e4, W.listOf #[] 0) :: (e3, W.listOf #[] 0) :: (e2, W.listOf #[] 0) :: (e1, W.listOf #[] 0) :: news) [(r0, W.listOf [Value.ref e1, Value.ref e2, Value.ref e3, Value.ref e4, Value.ref e5].toArray 0), (e5, W.listOf #[] 0), (e4, W.listOf #[] 0), (e3, W.listOf #[] 0), (e2, W.listOf #[] 0), (e1, W.listOf #[] 0)] t [Value.ref r0] 0 fa fv fn figs ts none none none none (by assumption) _ _ _ _ _ _ _ _ (L' + 1) (L' + 1 + 1) (L' + 1 + 1 + 1) (L' + 1 + 1 + 1 + 1) (L' + 1 + 1 + 1 + 1 + 1) _ _ _ _ _ B' F8 X' ?n9 T' hb (by first | exact room _ hd rfl | exact room2 _ hd rfl | omega) (by first | exact room _ hu rfl | exact room2 _ hu rfl | omega) (by passes_own) ⟨?f5, rfl, ?o9, ?w9, ⟨?w1, ?w2, ?w3, ?w4, ?w5⟩, d1n, q2, q3, q4, q5, ?r9, ?s9, ?f9, hfv, hfl, hfb, rfl, rfl, ?k9⟩
  case n9 => exact fun x hx => N8 x (by simp only [List.mem_append, List.mem_cons] at hx ⊢; grind)
  case f5 => exact five_of L'
  case w1 => refine neN ?_; (first | (with_reducible exact Nat.ne_of_gt lA7.1) | (with_reducible exact Nat.ne_of_gt lA7.2.1) | (with_reducible exact Nat.ne_of_gt lA7.2.2.1) | (with_reducible exact Nat.ne_of_gt lA7.2.2.2.1) | (with_reducible exact Nat.ne_of_gt lA7.2.2.2.2.1) | (with_reducible exact Nat.ne_of_gt lA7.2.2.2.2.2.1) | (with_reducible exact Nat.ne_of_gt lA7.2.2.2.2.2.2.1) | (with_reducible exact Nat.ne_of_gt lA7.2.2.2.2.2.2.2.1) | (with_reducible exact Nat.ne_of_gt lA7.2.2.2.2.2.2.2.2.1) | (with_reducible exact Nat.ne_of_gt lA7.2.2.2.2.2.2.2.2.2.1) | (with_reducible exact Nat.ne_of_gt lA7.2.2.2.2.2.2.2.2.2.2.1) | (with_reducible exact Nat.ne_of_gt lA7.2.2.2.2.2.2.2.2.2.2.2.1) | (with_reducible exact Nat.ne_of_gt lA7.2.2.2.2.2.2.2.2.2.2.2.2.1) | (with_reducible exact Nat.ne_of_gt lA6.1) | (with_reducible exact Nat.ne_of_gt lA6.2.1) | (with_reducible exact Nat.ne_of_gt lA6.2.2.1) | (with_reducible exact Nat.ne_of_gt lA6.2.2.2.1) | (with_reducible exact Nat.ne_of_gt lA6.2.2.2.2.1) | (with_reducible exact Nat.ne_of_gt lA6.2.2.2.2.2.1) | (with_reducible exact Nat.ne_of_gt lA6.2.2.2.2.2.2.1) | (with_reducible exact Nat.ne_of_gt lA6.2.2.2.2.2.2.2.1) | (with_reducible exact Nat.ne_of_gt lA6.2.2.2.2.2.2.2.2.1) | (with_reducible exact Nat.ne_of_gt lA6.2.2.2.2.2.2.2.2.2.1) | (with_reducible exact Nat.ne_of_gt lA6.2.2.2.2.2.2.2.2.2.2.1) | (with_reducible exact Nat.ne_of_gt lA6.2.2.2.2.2.2.2.2.2.2.2.1) | (with_reducible exact Nat.ne_of_gt lA6.2.2.2.2.2.2.2.2.2.2.2.2.1) | (with_reducible exact Nat.ne_of_gt lA5.1) | (with_reducible exact Nat.ne_of_gt lA5.2.1) | (with_reducible exact Nat.ne_of_gt lA5.2.2.1) | (with_reducible exact Nat.ne_of_gt lA5.2.2.2.1) | (with_reducible exact Nat.ne_of_gt lA5.2.2.2.2.1) | (with_reducible exact Nat.ne_of_gt lA5.2.2.2.2.2.1) | (with_reducible exact Nat.ne_of_gt lA5.2.2.2.2.2.2.1) | (with_reducible exact Nat.ne_of_gt lA5.2.2.2.2.2.2.2.1) | (with_reducible exact Nat.ne_of_gt lA5.2.2.2.2.2.2.2.2.1) | (with_reducible exact Nat.ne_of_gt lA5.2.2.2.2.2.2.2.2.2.1) | (with_reducible exact Nat.ne_of_gt lA5.2.2.2.2.2.2.2.2.2.2.1) | (with_reducible exact Nat.ne_of_gt lA5.2.2.2.2.2.2.2.2.2.2.2.1) | (with_reducible exact Nat.ne_of_gt lA5.2.2.2.2.2.2.2.2.2.2.2.2.1) | (with_reducible exact Nat.ne_of_gt lA4.1) | (with_reducible exact Nat.ne_of_gt lA4.2.1) | (with_reducible exact Nat.ne_of_gt lA4.2.2.1) | (with_reducible exact Nat.ne_of_gt lA4.2.2.2.1) | (with_reducible exact Nat.ne_of_gt lA4.2.2.2.2.1) | (with_reducible exact Nat.ne_of_gt lA4.2.2.2.2.2.1) | (with_reducible exact Nat.ne_of_gt lA4.2.2.2.2.2.2.1) | (with_reducible exact Nat.ne_of_gt lA4.2.2.2.2.2.2.2.1) | (with_reducible exact Nat.ne_of_gt lA4.2.2.2.2.2.2.2.2.1) | (with_reducible exact Nat.ne_of_gt lA4.2.2.2.2.2.2.2.2.2.1) | (with_reducible exact Nat.ne_of_gt lA4.2.2.2.2.2.2.2.2.2.2.1) | (with_reducible exact Nat.ne_of_gt lA4.2.2.2.2.2.2.2.2.2.2.2.1) | (with_reducible exact Nat.ne_of_gt lA4.2.2.2.2.2.2.2.2.2.2.2.2.1) | (with_reducible exact Nat.ne_of_gt lA3.1) | (with_reducible exact Nat.ne_of_gt lA3.2.1) | (with_reducible exact Nat.ne_of_gt lA3.2.2.1) | (with_reducible exact Nat.ne_of_gt lA3.2.2.2.1) | (with_reducible exact Nat.ne_of_gt lA3.2.2.2.2.1) | (with_reducible exact Nat.ne_of_gt lA3.2.2.2.2.2.1) | (with_reducible exact Nat.ne_of_gt lA3.2.2.2.2.2.2.1) | (with_reducible exact Nat.ne_of_gt lA3.2.2.2.2.2.2.2.1) | (with_reducible exact Nat.ne_of_gt lA3.2.2.2.2.2.2.2.2.1) | (with_reducible exact Nat.ne_of_gt lA3.2.2.2.2.2.2.2.2.2.1) | (with_reducible exact Nat.ne_of_gt lA3.2.2.2.2.2.2.2.2.2.2.1) | (with_reducible exact Nat.ne_of_gt lA3.2.2.2.2.2.2.2.2.2.2.2.1) | (with_reducible exact Nat.ne_of_gt lA3.2.2.2.2.2.2.2.2.2.2.2.2.1) | (with_reducible exact Nat.ne_of_gt lA2.1) | (with_reducible exact Nat.ne_of_gt lA2.2.1) | (with_reducible exact Nat.ne_of_gt lA2.2.2.1) | (with_reducible exact Nat.ne_of_gt lA2.2.2.2.1) | (with_reducible exact Nat.ne_of_gt lA2.2.2.2.2.1) | (with_reducible exact Nat.ne_of_gt lA2.2.2.2.2.2.1) | (with_reducible exact Nat.ne_of_gt lA2.2.2.2.2.2.2.1) | (with_reducible exact Nat.ne_of_gt lA2.2.2.2.2.2.2.2.1) | (with_reducible exact Nat.ne_of_gt lA2.2.2.2.2.2.2.2.2.1) | (with_reducible exact Nat.ne_of_gt lA2.2.2.2.2.2.2.2.2.2.1) | (with_reducible exact Nat.ne_of_gt lA2.2.2.2.2.2.2.2.2.2.2.1) | (with_reducible exact Nat.ne_of_gt lA2.2.2.2.2.2.2.2.2.2.2.2.1) | (with_reducible exact Nat.ne_of_gt lA2.2.2.2.2.2.2.2.2.2.2.2.2.1) | (with_reducible exact Nat.ne_of_gt lA1.1) | (with_reducible exact Nat.ne_of_gt lA1.2.1) | (with_reducible exact Nat.ne_of_gt lA1.2.2.1) | (with_reducible exact Nat.ne_of_gt lA1.2.2.2.1) | (with_reducible exact Nat.ne_of_gt lA1.2.2.2.2.1) | (with_reducible exact Nat.ne_of_gt lA1.2.2.2.2.2.1) | (with_reducible exact Nat.ne_of_gt lA1.2.2.2.2.2.2.1) | (with_reducible exact Nat.ne_of_gt lA1.2.2.2.2.2.2.2.1) | (with_reducible exact Nat.ne_of_gt lA1.2.2.2.2.2.2.2.2.1) | (with_reducible exact Nat.ne_of_gt lA1.2.2.2.2.2.2.2.2.2.1) | (with_reducible exact Nat.ne_of_gt lA1.2.2.2.2.2.2.2.2.2.2.1) | (with_reducible exact Nat.ne_of_gt lA1.2.2.2.2.2.2.2.2.2.2.2.1) | (with_reducible exact Nat.ne_of_gt lA1.2.2.2.2.2.2.2.2.2.2.2.2.1) | (with_reducible exact Nat.ne_of_lt lA7.1) | (with_reducible exact Nat.ne_of_lt lA7.2.1) | (with_reducible exact Nat.ne_of_lt lA7.2.2.1) | (with_reducible exact Nat.ne_of_lt lA7.2.2.2.1) | (with_reducible exact Nat.ne_of_lt lA7.2.2.2.2.1) | (with_reducible exact Nat.ne_of_lt lA7.2.2.2.2.2.1) | (with_reducible exact Nat.ne_of_lt lA7.2.2.2.2.2.2.1) | (with_reducible exact Nat.ne_of_lt lA7.2.2.2.2.2.2.2.1) | (with_reducible exact Nat.ne_of_lt lA7.2.2.2.2.2.2.2.2.1) | (with_reducible exact Nat.ne_of_lt lA7.2.2.2.2.2.2.2.2.2.1) | (with_reducible exact Nat.ne_of_lt lA7.2.2.2.2.2.2.2.2.2.2.1) | (with_reducible exact Nat.ne_of_lt lA7.2.2.2.2.2.2.2.2.2.2.2.1) | (with_reducible exact Nat.ne_of_lt lA7.2.2.2.2.2.2.2.2.2.2.2.2.1) | (with_reducible exact Nat.ne_of_lt lA6.1) | (with_reducible exact Nat.ne_of_lt lA6.2.1) | (with_reducible exact Nat.ne_of_lt lA6.2.2.1) | (with_reducible exact Nat.ne_of_lt lA6.2.2.2.1) | (with_reducible exact Nat.ne_of_lt lA6.2.2.2.2.1) | (with_reducible exact Nat.ne_of_lt lA6.2.2.2.2.2.1) | (with_reducible exact Nat.ne_of_lt lA6.2.2.2.2.2.2.1) | (with_reducible exact Nat.ne_of_lt lA6.2.2.2.2.2.2.2.1) | (with_reducible exact Nat.ne_of_lt lA6.2.2.2.2.2.2.2.2.1) | (with_reducible exact Nat.ne_of_lt lA6.2.2.2.2.2.2.2.2.2.1) | (with_reducible exact Nat.ne_of_lt lA6.2.2.2.2.2.2.2.2.2.2.1) | (with_reducible exact Nat.ne_of_lt lA6.2.2.2.2.2.2.2.2.2.2.2.1) | (with_reducible exact Nat.ne_of_lt lA6.2.2.2.2.2.2.2.2.2.2.2.2.1) | (with_reducible exact Nat.ne_of_lt lA5.1) | (with_reducible exact Nat.ne_of_lt lA5.2.1) | (with_reducible exact Nat.ne_of_lt lA5.2.2.1) | (with_reducible exact Nat.ne_of_lt lA5.2.2.2.1) | (with_reducible exact Nat.ne_of_lt lA5.2.2.2.2.1) | (with_reducible exact Nat.ne_of_lt lA5.2.2.2.2.2.1) | (with_reducible exact Nat.ne_of_lt lA5.2.2.2.2.2.2.1) | (with_reducible exact Nat.ne_of_lt lA5.2.2.2.2.2.2.2.1) | (with_reducible exact Nat.ne_of_lt lA5.2.2.2.2.2.2.2.2.1) | (with_reducible exact Nat.ne_of_lt lA5.2.2.2.2.2.2.2.2.2.1) | (with_reducible exact Nat.ne_of_lt lA5.2.2.2.2.2.2.2.2.2.2.1) | (with_reducible exact Nat.ne_of_lt lA5.2.2.2.2.2.2.2.2.2.2.2.1) | (with_reducible exact Nat.ne_of_lt lA5.2.2.2.2.2.2.2.2.2.2.2.2.1) | (with_reducible exact Nat.ne_of_lt lA4.1) | (with_reducible exact Nat.ne_of_lt lA4.2.1) | (with_reducible exact Nat.ne_of_lt lA4.2.2.1) | (with_reducible exact Nat.ne_of_lt lA4.2.2.2.1) | (with_reducible exact Nat.ne_of_lt lA4.2.2.2.2.1) | (with_reducible exact Nat.ne_of_lt lA4.2.2.2.2.2.1) | (with_reducible exact Nat.ne_of_lt lA4.2.2.2.2.2.2.1) | (with_reducible exact Nat.ne_of_lt lA4.2.2.2.2.2.2.2.1) | (with_reducible exact Nat.ne_of_lt lA4.2.2.2.2.2.2.2.2.1) | (with_reducible exact Nat.ne_of_lt lA4.2.2.2.2.2.2.2.2.2.1) | (with_reducible exact Nat.ne_of_lt lA4.2.2.2.2.2.2.2.2.2.2.1) | (with_reducible exact Nat.ne_of_lt lA4.2.2.2.2.2.2.2.2.2.2.2.1) | (with_reducible exact Nat.ne_of_lt lA4.2.2.2.2.2.2.2.2.2.2.2.2.1) | (with_reducible exact Nat.ne_of_lt lA3.1) | (with_reducible exact Nat.ne_of_lt lA3.2.1) | (with_reducible exact Nat.ne_of_lt lA3.2.2.1) | (with_reducible exact Nat.ne_of_lt lA3.2.2.2.1) | (with_reducible exact Nat.ne_of_lt lA3.2.2.2.2.1) | (with_reducible exact Nat.ne_of_lt lA3.2.2.2.2.2.1) | (with_reducible exact Nat.ne_of_lt lA3.2.2.2.2.2.2.1) | (with_reducible exact Nat.ne_of_lt lA3.2.2.2.2.2.2.2.1) | (with_reducible exact Nat.ne_of_lt lA3.2.2.2.2.2.2.2.2.1) | (with_reducible exact Nat.ne_of_lt lA3.2.2.2.2.2.2.2.2.2.1) | (with_reducible exact Nat.ne_of_lt lA3.2.2.2.2.2.2.2.2.2.2.1) | (with_reducible exact Nat.ne_of_lt lA3.2.2.2.2.2.2.2.2.2.2.2.1) | (with_reducible exact Nat.ne_of_lt lA3.2.2.2.2.2.2.2.2.2.2.2.2.1) | (with_reducible exact Nat.ne_of_lt lA2.1) | (with_reducible exact Nat.ne_of_lt lA2.2.1) | (with_reducible exact Nat.ne_of_lt lA2.2.2.1) | (with_reducible exact Nat.ne_of_lt lA2.2.2.2.1) | (with_reducible exact Nat.ne_of_lt lA2.2.2.2.2.1) | (with_reducible exact Nat.ne_of_lt lA2.2.2.2.2.2.1) | (with_reducible exact Nat.ne_of_lt lA2.2.2.2.2.2.2.1) | (with_reducible exact Nat.ne_of_lt lA2.2.2.2.2.2.2.2.1) | (with_reducible exact Nat.ne_of_lt lA2.2.2.2.2.2.2.2.2.1) | (with_reducible exact Nat.ne_of_lt lA2.2.2.2.2.2.2.2.2.2.1) | (with_reducible exact Nat.ne_of_lt lA2.2.2.2.2.2.2.2.2.2.2.1) | (with_reducible exact Nat.ne_of_lt lA2.2.2.2.2.2.2.2.2.2.2.2.1) | (with_reducible exact Nat.ne_of_lt lA2.2.2.2.2.2.2.2.2.2.2.2.2.1) | (with_reducible exact Nat.ne_of_lt lA1.1) | (with_reducible exact Nat.ne_of_lt lA1.2.1) | (with_reducible exact Nat.ne_of_lt lA1.2.2.1) | (with_reducible exact Nat.ne_of_lt lA1.2.2.2.1) | (with_reducible exact Nat.ne_of_lt lA1.2.2.2.2.1) | (with_reducible exact Nat.ne_of_lt lA1.2.2.2.2.2.1) | (with_reducible exact Nat.ne_of_lt lA1.2.2.2.2.2.2.1) | (with_reducible exact Nat.ne_of_lt lA1.2.2.2.2.2.2.2.1) | (with_reducible exact Nat.ne_of_lt lA1.2.2.2.2.2.2.2.2.1) | (with_reducible exact Nat.ne_of_lt lA1.2.2.2.2.2.2.2.2.2.1) | (with_reducible exact Nat.ne_of_lt lA1.2.2.2.2.2.2.2.2.2.2.1) | (with_reducible exact Nat.ne_of_lt lA1.2.2.2.2.2.2.2.2.2.2.2.1) | (with_reducible exact Nat.ne_of_lt lA1.2.2.2.2.2.2.2.2.2.2.2.2.1) | omega)
  case w2 => refine neN ?_; (first | (with_reducible exact Nat.ne_of_gt lA7.1) | (with_reducible exact Nat.ne_of_gt lA7.2.1) | (with_reducible exact Nat.ne_of_gt lA7.2.2.1) | (with_reducible exact Nat.ne_of_gt lA7.2.2.2.1) | (with_reducible exact Nat.ne_of_gt lA7.2.2.2.2.1) | (with_reducible exact Nat.ne_of_gt lA7.2.2.2.2.2.1) | (with_reducible exact Nat.ne_of_gt lA7.2.2.2.2.2.2.1) | (with_reducible exact Nat.ne_of_gt lA7.2.2.2.2.2.2.2.1) | (with_reducible exact Nat.ne_of_gt lA7.2.2.2.2.2.2.2.2.1) | (with_reducible exact Nat.ne_of_gt lA7.2.2.2.2.2.2.2.2.2.1) | (with_reducible exact Nat.ne_of_gt lA7.2.2.2.2.2.2.2.2.2.2.1) | (with_reducible exact Nat.ne_of_gt lA7.2.2.2.2.2.2.2.2.2.2.2.1) | (with_reducible exact Nat.ne_of_gt lA7.2.2.2.2.2.2.2.2.2.2.2.2.1) | (with_reducible exact Nat.ne_of_gt lA6.1) | (with_reducible exact Nat.ne_of_gt lA6.2.1) | (with_reducible exact Nat.ne_of_gt lA6.2.2.1) | (with_reducible exact Nat.ne_of_gt lA6.2.2.2.1) | (with_reducible exact Nat.ne_of_gt lA6.2.2.2.2.1) | (with_reducible exact Nat.ne_of_gt lA6.2.2.2.2.2.1) | (with_reducible exact Nat.ne_of_gt lA6.2.2.2.2.2.2.1) | (with_reducible exact Nat.ne_of_gt lA6.2.2.2.2.2.2.2.1) | (with_reducible exact Nat.ne_of_gt lA6.2.2.2.2.2.2.2.2.1) | (with_reducible exact Nat.ne_of_gt lA6.2.2.2.2.2.2.2.2.2.1) | (with_reducible exact Nat.ne_of_gt lA6.2.2.2.2.2.2.2.2.2.2.1) | (with_reducible exact Nat.ne_of_gt lA6.2.2.2.2.2.2.2.2.2.2.2.1) | (with_reducible exact Nat.ne_of_gt lA6.2.2.2.2.2.2.2.2.2.2.2.2.1) | (with_reducible exact Nat.ne_of_gt lA5.1) | (with_reducible exact Nat.ne_of_gt lA5.2.1) | (with_reducible exact Nat.ne_of_gt lA5.2.2.1) | (with_reducible exact Nat.ne_of_gt lA5.2.2.2.1) | (with_reducible exact Nat.ne_of_gt lA5.2.2.2.2.1) | (with_reducible exact Nat.ne_of_gt lA5.2.2.2.2.2.1) | (with_reducible exact Nat.ne_of_gt lA5.2.2.2.2.2.2.1) | (with_reducible exact Nat.ne_of_gt lA5.2.2.2.2.2.2.2.1) | (with_reducible exact Nat.ne_of_gt lA5.2.2.2.2.2.2.2.2.1) | (with_reducible exact Nat.ne_of_gt lA5.2.2.2.2.2.2.2.2.2.1) | (with_reducible exact Nat.ne_of_gt lA5.2.2.2.2.2.2.2.2.2.2.1) | (with_reducible exact Nat.ne_of_gt lA5.2.2.2.2.2.2.2.2.2.2.2.1) | (with_reducible exact Nat.ne_of_gt lA5.2.2.2.2.2.2.2.2.2.2.2.2.1) | (with_reducible exact Nat.ne_of_gt lA4.1) | (with_reducible exact Nat.ne_of_gt lA4.2.1) | (with_reducible exact Nat.ne_of_gt lA4.2.2.1) | (with_reducible exact Nat.ne_of_gt lA4.2.2.2.1) | (with_reducible exact Nat.ne_of_gt lA4.2.2.2.2.1) | (with_reducible exact Nat.ne_of_gt lA4.2.2.2.2.2.1) | (with_reducible exact Nat.ne_of_gt lA4.2.2.2.2.2.2.1) | (with_reducible exact Nat.ne_of_gt lA4.2.2.2.2.2.2.2.1) | (with_reducible exact Nat.ne_of_gt lA4.2.2.2.2.2.2.2.2.1) | (with_reducible exact Nat.ne_of_gt lA4.2.2.2.2.2.2.2.2.2.1) | (with_reducible exact Nat.ne_of_gt lA4.2.2.2.2.2.2.2.2.2.2.1) | (with_reducible exact Nat.ne_of_gt lA4.2.2.2.2.2.2.2.2.2.2.2.1) | (with_reducible exact Nat.ne_of_gt lA4.2.2.2.2.2.2.2.2.2.2.2.2.1) | (with_reducible exact Nat.ne_of_gt lA3.1) | (with_reducible exact Nat.ne_of_gt lA3.2.1) | (with_reducible exact Nat.ne_of_gt lA3.2.2.1) | (with_reducible exact Nat.ne_of_gt lA3.2.2.2.1) | (with_reducible exact Nat.ne_of_gt lA3.2.2.2.2.1) | (with_reducible exact Nat.ne_of_gt lA3.2.2.2.2.2.1) | (with_reducible exact Nat.ne_of_gt lA3.2.2.2.2.2.2.1) | (with_reducible exact Nat.ne_of_gt lA3.2.2.2.2.2.2.2.1) | (with_reducible exact Nat.ne_of_gt lA3.2.2.2.2.2.2.2.2.1) | (with_reducible exact Nat.ne_of_gt lA3.2.2.2.2.2.2.2.2.2.1) | (with_reducible exact Nat.ne_of_gt lA3.2.2.2.2.2.2.2.2.2.2.1) | (with_reducible exact Nat.ne_of_gt lA3.2.2.2.2.2.2.2.2.2.2.2.1) | (with_reducible exact Nat.ne_of_gt lA3.2.2.2.2.2.2.2.2.2.2.2.2.1) | (with_reducible exact Nat.ne_of_gt lA2.1) | (with_reducible exact Nat.ne_of_gt lA2.2.1) | (with_reducible exact Nat.ne_of_gt lA2.2.2.1) | (with_reducible exact Nat.ne_of_gt lA2.2.2.2.1) | (with_reducible exact Nat.ne_of_gt lA2.2.2.2.2.1) | (with_reducible exact Nat.ne_of_gt lA2.2.2.2.2.2.1) | (with_reducible exact Nat.ne_of_gt lA2.2.2.2.2.2.2.1) | (with_reducible exact Nat.ne_of_gt lA2.2.2.2.2.2.2.2.1) | (with_reducible exact Nat.ne_of_gt lA2.2.2.2.2.2.2.2.2.1) | (with_reducible exact Nat.ne_of_gt lA2.2.2.2.2.2.2.2.2.2.1) | (with_reducible exact Nat.ne_of_gt lA2.2.2.2.2.2.2.2.2.2.2.1) | (with_reducible exact Nat.ne_of_gt lA2.2.2.2.2.2.2.2.2.2.2.2.1) | (with_reducible exact Nat.ne_of_gt lA2.2.2.2.2.2.2.2.2.2.2.2.2.1) | (with_reducible exact Nat.ne_of_gt lA1.1) | (with_reducible exact Nat.ne_of_gt lA1.2.1) | (with_reducible exact Nat.ne_of_gt lA1.2.2.1) | (with_reducible exact Nat.ne_of_gt lA1.2.2.2.1) | (with_reducible exact Nat.ne_of_gt lA1.2.2.2.2.1) | (with_reducible exact Nat.ne_of_gt lA1.2.2.2.2.2.1) | (with_reducible exact Nat.ne_of_gt lA1.2.2.2.2.2.2.1) | (with_reducible exact Nat.ne_of_gt lA1.2.2.2.2.2.2.2.1) | (with_reducible exact Nat.ne_of_gt lA1.2.2.2.2.2.2.2.2.1) | (with_reducible exact Nat.ne_of_gt lA1.2.2.2.2.2.2.2.2.2.1) | (with_reducible exact Nat.ne_of_gt lA1.2.2.2.2.2.2.2.2.2.2.1) | (with_reducible exact Nat.ne_of_gt lA1.2.2.2.2.2.2.2.2.2.2.2.1) | (with_reducible exact Nat.ne_of_gt lA1.2.2.2.2.2.2.2.2.2.2.2.2.1) | (with_reducible exact Nat.ne_of_lt lA7.1) | (with_reducible exact Nat.ne_of_lt lA7.2.1) | (with_reducible exact Nat.ne_of_lt lA7.2.2.1) | (with_reducible exact Nat.ne_of_lt lA7.2.2.2.1) | (with_reducible exact Nat.ne_of_lt lA7.2.2.2.2.1) | (with_reducible exact Nat.ne_of_lt lA7.2.2.2.2.2.1) | (with_reducible exact Nat.ne_of_lt lA7.2.2.2.2.2.2.1) | (with_reducible exact Nat.ne_of_lt lA7.2.2.2.2.2.2.2.1) | (with_reducible exact Nat.ne_of_lt lA7.2.2.2.2.2.2.2.2.1) | (with_reducible exact Nat.ne_of_lt lA7.2.2.2.2.2.2.2.2.2.1) | (with_reducible exact Nat.ne_of_lt lA7.2.2.2.2.2.2.2.2.2.2.1) | (with_reducible exact Nat.ne_of_lt lA7.2.2.2.2.2.2.2.2.2.2.2.1) | (with_reducible exact Nat.ne_of_lt lA7.2.2.2.2.2.2.2.2.2.2.2.2.1) | (with_reducible exact Nat.ne_of_lt lA6.1) | (with_reducible exact Nat.ne_of_lt lA6.2.1) | (with_reducible exact Nat.ne_of_lt lA6.2.2.1) | (with_reducible exact Nat.ne_of_lt lA6.2.2.2.1) | (with_reducible exact Nat.ne_of_lt lA6.2.2.2.2.1) | (with_reducible exact Nat.ne_of_lt lA6.2.2.2.2.2.1) | (with_reducible exact Nat.ne_of_lt lA6.2.2.2.2.2.2.1) | (with_reducible exact Nat.ne_of_lt lA6.2.2.2.2.2.2.2.1) | (with_reducible exact Nat.ne_of_lt lA6.2.2.2.2.2.2.2.2.1) | (with_reducible exact Nat.ne_of_lt lA6.2.2.2.2.2.2.2.2.2.1) | (with_reducible exact Nat.ne_of_lt lA6.2.2.2.2.2.2.2.2.2.2.1) | (with_reducible exact Nat.ne_of_lt lA6.2.2.2.2.2.2.2.2.2.2.2.1) | (with_reducible exact Nat.ne_of_lt lA6.2.2.2.2.2.2.2.2.2.2.2.2.1) | (with_reducible exact Nat.ne_of_lt lA5.1) | (with_reducible exact Nat.ne_of_lt lA5.2.1) | (with_reducible exact Nat.ne_of_lt lA5.2.2.1) | (with_reducible exact Nat.ne_of_lt lA5.2.2.2.1) | (with_reducible exact Nat.ne_of_lt lA5.2.2.2.2.1) | (with_reducible exact Nat.ne_of_lt lA5.2.2.2.2.2.1) | (with_reducible exact Nat.ne_of_lt lA5.2.2.2.2.2.2.1) | (with_reducible exact Nat.ne_of_lt lA5.2.2.2.2.2.2.2.1) | (with_reducible exact Nat.ne_of_lt lA5.2.2.2.2.2.2.2.2.1) | (with_reducible exact Nat.ne_of_lt lA5.2.2.2.2.2.2.2.2.2.1) | (with_reducible exact Nat.ne_of_lt lA5.2.2.2.2.2.2.2.2.2.2.1) | (with_reducible exact Nat.ne_of_lt lA5.2.2.2.2.2.2.2.2.2.2.2.1) | (with_reducible exact Nat.ne_of_lt lA5.2.2.2.2.2.2.2.2.2.2.2.2.1) | (with_reducible exact Nat.ne_of_lt lA4.1) | (with_reducible exact Nat.ne_of_lt lA4.2.1) | (with_reducible exact Nat.ne_of_lt lA4.2.2.1) | (with_reducible exact Nat.ne_of_lt lA4.2.2.2.1) | (with_reducible exact Nat.ne_of_lt lA4.2.2.2.2.1) | (with_reducible exact Nat.ne_of_lt lA4.2.2.2.2.2.1) | (with_reducible exact Nat.ne_of_lt lA4.2.2.2.2.2.2.1) | (with_reducible exact Nat.ne_of_lt lA4.2.2.2.2.2.2.2.1) | (with_reducible exact Nat.ne_of_lt lA4.2.2.2.2.2.2.2.2.1) | (with_reducible exact Nat.ne_of_lt lA4.2.2.2.2.2.2.2.2.2.1) | (with_reducible exact Nat.ne_of_lt lA4.2.2.2.2.2.2.2.2.2.2.1) | (with_reducible exact Nat.ne_of_lt lA4.2.2.2.2.2.2.2.2.2.2.2.1) | (with_reducible exact Nat.ne_of_lt lA4.2.2.2.2.2.2.2.2.2.2.2.2.1) | (with_reducible exact Nat.ne_of_lt lA3.1) | (with_reducible exact Nat.ne_of_lt lA3.2.1) | (with_reducible exact Nat.ne_of_lt lA3.2.2.1) | (with_reducible exact Nat.ne_of_lt lA3.2.2.2.1) | (with_reducible exact Nat.ne_of_lt lA3.2.2.2.2.1) | (with_reducible exact Nat.ne_of_lt lA3.2.2.2.2.2.1) | (with_reducible exact Nat.ne_of_lt lA3.2.2.2.2.2.2.1) | (with_reducible exact Nat.ne_of_lt lA3.2.2.2.2.2.2.2.1) | (with_reducible exact Nat.ne_of_lt lA3.2.2.2.2.2.2.2.2.1) | (with_reducible exact Nat.ne_of_lt lA3.2.2.2.2.2.2.2.2.2.1) | (with_reducible exact Nat.ne_of_lt lA3.2.2.2.2.2.2.2.2.2.2.1) | (with_reducible exact Nat.ne_of_lt lA3.2.2.2.2.2.2.2.2.2.2.2.1) | (with_reducible exact Nat.ne_of_lt lA3.2.2.2.2.2.2.2.2.2.2.2.2.1) | (with_reducible exact Nat.ne_of_lt lA2.1) | (with_reducible exact Nat.ne_of_lt lA2.2.1) | (with_reducible exact Nat.ne_of_lt lA2.2.2.1) | (with_reducible exact Nat.ne_of_lt lA2.2.2.2.1) | (with_reducible exact Nat.ne_of_lt lA2.2.2.2.2.1) | (with_reducible exact Nat.ne_of_lt lA2.2.2.2.2.2.1) | (with_reducible exact Nat.ne_of_lt lA2.2.2.2.2.2.2.1) | (with_reducible exact Nat.ne_of_lt lA2.2.2.2.2.2.2.2.1) | (with_reducible exact Nat.ne_of_lt lA2.2.2.2.2.2.2.2.2.1) | (with_reducible exact Nat.ne_of_lt lA2.2.2.2.2.2.2.2.2.2.1) | (with_reducible exact Nat.ne_of_lt lA2.2.2.2.2.2.2.2.2.2.2.1) | (with_reducible exact Nat.ne_of_lt lA2.2.2.2.2.2.2.2.2.2.2.2.1) | (with_reducible exact Nat.ne_of_lt lA2.2.2.2.2.2.2.2.2.2.2.2.2.1) | (with_reducible exact Nat.ne_of_lt lA1.1) | (with_reducible exact Nat.ne_of_lt lA1.2.1) | (with_reducible exact Nat.ne_of_lt lA1.2.2.1) | (with_reducible exact Nat.ne_of_lt lA1.2.2.2.1) | (with_reducible exact Nat.ne_of_lt lA1.2.2.2.2.1) | (with_reducible exact Nat.ne_of_lt lA1.2.2.2.2.2.1) | (with_reducible exact Nat.ne_of_lt lA1.2.2.2.2.2.2.1) | (with_reducible exact Nat.ne_of_lt lA1.2.2.2.2.2.2.2.1) | (with_reducible exact Nat.ne_of_lt lA1.2.2.2.2.2.2.2.2.1) | (with_reducible exact Nat.ne_of_lt lA1.2.2.2.2.2.2.2.2.2.1) | (with_reducible exact Nat.ne_of_lt lA1.2.2.2.2.2.2.2.2.2.2.1) | (with_reducible exact Nat.ne_of_lt lA1.2.2.2.2.2.2.2.2.2.2.2.1) | (with_reducible exact Nat.ne_of_lt lA1.2.2.2.2.2.2.2.2.2.2.2.2.1) | omega)
  case w3 => refine neN ?_; (first | (with_reducible exact Nat.ne_of_gt lA7.1) | (with_reducible exact Nat.ne_of_gt lA7.2.1) | (with_reducible exact Nat.ne_of_gt lA7.2.2.1) | (with_reducible exact Nat.ne_of_gt lA7.2.2.2.1) | (with_reducible exact Nat.ne_of_gt lA7.2.2.2.2.1) | (with_reducible exact Nat.ne_of_gt lA7.2.2.2.2.2.1) | (with_reducible exact Nat.ne_of_gt lA7.2.2.2.2.2.2.1) | (with_reducible exact Nat.ne_of_gt lA7.2.2.2.2.2.2.2.1) | (with_reducible exact Nat.ne_of_gt lA7.2.2.2.2.2.2.2.2.1) | (with_reducible exact Nat.ne_of_gt lA7.2.2.2.2.2.2.2.2.2.1) | (with_reducible exact Nat.ne_of_gt lA7.2.2.2.2.2.2.2.2.2.2.1) | (with_reducible exact Nat.ne_of_gt lA7.2.2.2.2.2.2.2.2.2.2.2.1) | (with_reducible exact Nat.ne_of_gt lA7.2.2.2.2.2.2.2.2.2.2.2.2.1) | (with_reducible exact Nat.ne_of_gt lA6.1) | (with_reducible exact Nat.ne_of_gt lA6.2.1) | (with_reducible exact Nat.ne_of_gt lA6.2.2.1) | (with_reducible exact Nat.ne_of_gt lA6.2.2.2.1) | (with_reducible exact Nat.ne_of_gt lA6.2.2.2.2.1) | (with_reducible exact Nat.ne_of_gt lA6.2.2.2.2.2.1) | (with_reducible exact Nat.ne_of_gt lA6.2.2.2.2.2.2.1) | (with_reducible exact Nat.ne_of_gt lA6.2.2.2.2.2.2.2.1) | (with_reducible exact Nat.ne_of_gt lA6.2.2.2.2.2.2.2.2.1) | (with_reducible exact Nat.ne_of_gt lA6.2.2.2.2.2.2.2.2.2.1) | (with_reducible exact Nat.ne_of_gt lA6.2.2.2.2.2.2.2.2.2.2.1) | (with_reducible exact Nat.ne_of_gt lA6.2.2.2.2.2.2.2.2.2.2.2.1) | (with_reducible exact Nat.ne_of_gt lA6.2.2.2.2.2.2.2.2.2.2.2.2.1) | (with_reducible exact Nat.ne_of_gt lA5.1) | (with_reducible exact Nat.ne_of_gt lA5.2.1) | (with_reducible exact Nat.ne_of_gt lA5.2.2.1) | (with_reducible exact Nat.ne_of_gt lA5.2.2.2.1) | (with_reducible exact Nat.ne_of_gt lA5.2.2.2.2.1) | (with_reducible exact Nat.ne_of_gt lA5.2.2.2.2.2.1) | (with_reducible exact Nat.ne_of_gt lA5.2.2.2.2.2.2.1) | (with_reducible exact Nat.ne_of_gt lA5.2.2.2.2.2.2.2.1) | (with_reducible exact Nat.ne_of_gt lA5.2.2.2.2.2.2.2.2.1) | (with_reducible exact Nat.ne_of_gt lA5.2.2.2.2.2.2.2.2.2.1) | (with_reducible exact Nat.ne_of_gt lA5.2.2.2.2.2.2.2.2.2.2.1) | (with_reducible exact Nat.ne_of_gt lA5.2.2.2.2.2.2.2.2.2.2.2.1) | (with_reducible exact Nat.ne_of_gt lA5.2.2.2.2.2.2.2.2.2.2.2.2.1) | (with_reducible exact Nat.ne_of_gt lA4.1) | (with_reducible exact Nat.ne_of_gt lA4.2.1) | (with_reducible exact Nat.ne_of_gt lA4.2.2.1) | (with_reducible exact Nat.ne_of_gt lA4.2.2.2.1) | (with_reducible exact Nat.ne_of_gt lA4.2.2.2.2.1) | (with_reducible exact Nat.ne_of_gt lA4.2.2.2.2.2.1) | (with_reducible exact Nat.ne_of_gt lA4.2.2.2.2.2.2.1) | (with_reducible exact Nat.ne_of_gt lA4.2.2.2.2.2.2.2.1) | (with_reducible exact Nat.ne_of_gt lA4.2.2.2.2.2.2.2.2.1) | (with_reducible exact Nat.ne_of_gt lA4.2.2.2.2.2.2.2.2.2.1) | (with_reducible exact Nat.ne_of_gt lA4.2.2.2.2.2.2.2.2.2.2.1) | (with_reducible exact Nat.ne_of_gt lA4.2.2.2.2.2.2.2.2.2.2.2.1) | (with_reducible exact Nat.ne_of_gt lA4.2.2.2.2.2.2.2.2.2.2.2.2.1) | (with_reducible exact Nat.ne_of_gt lA3.1) | (with_reducible exact Nat.ne_of_gt lA3.2.1) | (with_reducible exact Nat.ne_of_gt lA3.2.2.1) | (with_reducible exact Nat.ne_of_gt lA3.2.2.2.1) | (with_reducible exact Nat.ne_of_gt lA3.2.2.2.2.1) | (with_reducible exact Nat.ne_of_gt lA3.2.2.2.2.2.1) | (with_reducible exact Nat.ne_of_gt lA3.2.2.2.2.2.2.1) | (with_reducible exact Nat.ne_of_gt lA3.2.2.2.2.2.2.2.1) | (with_reducible exact Nat.ne_of_gt lA3.2.2.2.2.2.2.2.2.1) | (with_reducible exact Nat.ne_of_gt lA3.2.2.2.2.2.2.2.2.2.1) | (with_reducible exact Nat.ne_of_gt lA3.2.2.2.2.2.2.2.2.2.2.1) | (with_reducible exact Nat.ne_of_gt lA3.2.2.2.2.2.2.2.2.2.2.2.1) | (with_reducible exact Nat.ne_of_gt lA3.2.2.2.2.2.2.2.2.2.2.2.2.1) | (with_reducible exact Nat.ne_of_gt lA2.1) | (with_reducible exact Nat.ne_of_gt lA2.2.1) | (with_reducible exact Nat.ne_of_gt lA2.2.2.1) | (with_reducible exact Nat.ne_of_gt lA2.2.2.2.1) | (with_reducible exact Nat.ne_of_gt lA2.2.2.2.2.1) | (with_reducible exact Nat.ne_of_gt lA2.2.2.2.2.2.1) | (with_reducible exact Nat.ne_of_gt lA2.2.2.2.2.2.2.1) | (with_reducible exact Nat.ne_of_gt lA2.2.2.2.2.2.2.2.1) | (with_reducible exact Nat.ne_of_gt lA2.2.2.2.2.2.2.2.2.1) | (with_reducible exact Nat.ne_of_gt lA2.2.2.2.2.2.2.2.2.2.1) | (with_reducible exact Nat.ne_of_gt lA2.2.2.2.2.2.2.2.2.2.2.1) | (with_reducible exact Nat.ne_of_gt lA2.2.2.2.2.2.2.2.2.2.2.2.1) | (with_reducible exact Nat.ne_of_gt lA2.2.2.2.2.2.2.2.2.2.2.2.2.1) | (with_reducible exact Nat.ne_of_gt lA1.1) | (with_reducible exact Nat.ne_of_gt lA1.2.1) | (with_reducible exact Nat.ne_of_gt lA1.2.2.1) | (with_reducible exact Nat.ne_of_gt lA1.2.2.2.1) | (with_reducible exact Nat.ne_of_gt lA1.2.2.2.2.1) | (with_reducible exact Nat.ne_of_gt lA1.2.2.2.2.2.1) | (with_reducible exact Nat.ne_of_gt lA1.2.2.2.2.2.2.1) | (with_reducible exact Nat.ne_of_gt lA1.2.2.2.2.2.2.2.1) | (with_reducible exact Nat.ne_of_gt lA1.2.2.2.2.2.2.2.2.1) | (with_reducible exact Nat.ne_of_gt lA1.2.2.2.2.2.2.2.2.2.1) | (with_reducible exact Nat.ne_of_gt lA1.2.2.2.2.2.2.2.2.2.2.1) | (with_reducible exact Nat.ne_of_gt lA1.2.2.2.2.2.2.2.2.2.2.2.1) | (with_reducible exact Nat.ne_of_gt lA1.2.2.2.2.2.2.2.2.2.2.2.2.1) | (with_reducible exact Nat.ne_of_lt lA7.1) | (with_reducible exact Nat.ne_of_lt lA7.2.1) | (with_reducible exact Nat.ne_of_lt lA7.2.2.1) | (with_reducible exact Nat.ne_of_lt lA7.2.2.2.1) | (with_reducible exact Nat.ne_of_lt lA7.2.2.2.2.1) | (with_reducible exact Nat.ne_of_lt lA7.2.2.2.2.2.1) | (with_reducible exact Nat.ne_of_lt lA7.2.2.2.2.2.2.1) | (with_reducible exact Nat.ne_of_lt lA7.2.2.2.2.2.2.2.1) | (with_reducible exact Nat.ne_of_lt lA7.2.2.2.2.2.2.2.2.1) | (with_reducible exact Nat.ne_of_lt lA7.2.2.2.2.2.2.2.2.2.1) | (with_reducible exact Nat.ne_of_lt lA7.2.2.2.2.2.2.2.2.2.2.1) | (with_reducible exact Nat.ne_of_lt lA7.2.2.2.2.2.2.2.2.2.2.2.1) | (with_reducible exact Nat.ne_of_lt lA7.2.2.2.2.2.2.2.2.2.2.2.2.1) | (with_reducible exact Nat.ne_of_lt lA6.1) | (with_reducible exact Nat.ne_of_lt lA6.2.1) | (with_reducible exact Nat.ne_of_lt lA6.2.2.1) | (with_reducible exact Nat.ne_of_lt lA6.2.2.2.1) | (with_reducible exact Nat.ne_of_lt lA6.2.2.2.2.1) | (with_reducible exact Nat.ne_of_lt lA6.2.2.2.2.2.1) | (with_reducible exact Nat.ne_of_lt lA6.2.2.2.2.2.2.1) | (with_reducible exact Nat.ne_of_lt lA6.2.2.2.2.2.2.2.1) | (with_reducible exact Nat.ne_of_lt lA6.2.2.2.2.2.2.2.2.1) | (with_reducible exact Nat.ne_of_lt lA6.2.2.2.2.2.2.2.2.2.1) | (with_reducible exact Nat.ne_of_lt lA6.2.2.2.2.2.2.2.2.2.2.1) | (with_reducible exact Nat.ne_of_lt lA6.2.2.2.2.2.2.2.2.2.2.2.1) | (with_reducible exact Nat.ne_of_lt lA6.2.2.2.2.2.2.2.2.2.2.2.2.1) | (with_reducible exact Nat.ne_of_lt lA5.1) | (with_reducible exact Nat.ne_of_lt lA5.2.1) | (with_reducible exact Nat.ne_of_lt lA5.2.2.1) | (with_reducible exact Nat.ne_of_lt lA5.2.2.2.1) | (with_reducible exact Nat.ne_of_lt lA5.2.2.2.2.1) | (with_reducible exact Nat.ne_of_lt lA5.2.2.2.2.2.1) | (with_reducible exact Nat.ne_of_lt lA5.2.2.2.2.2.2.1) | (with_reducible exact Nat.ne_of_lt lA5.2.2.2.2.2.2.2.1) | (with_reducible exact Nat.ne_of_lt lA5.2.2.2.2.2.2.2.2.1) | (with_reducible exact Nat.ne_of_lt lA5.2.2.2.2.2.2.2.2.2.1) | (with_reducible exact Nat.ne_of_lt lA5.2.2.2.2.2.2.2.2.2.2.1) | (with_reducible exact Nat.ne_of_lt lA5.2.2.2.2.2.2.2.2.2.2.2.1) | (with_reducible exact Nat.ne_of_lt lA5.2.2.2.2.2.2.2.2.2.2.2.2.1) | (with_reducible exact Nat.ne_of_lt lA4.1) | (with_reducible exact Nat.ne_of_lt lA4.2.1) | (with_reducible exact Nat.ne_of_lt lA4.2.2.1) | (with_reducible exact Nat.ne_of_lt lA4.2.2.2.1) | (with_reducible exact Nat.ne_of_lt lA4.2.2.2.2.1) | (with_reducible exact Nat.ne_of_lt lA4.2.2.2.2.2.1) | (with_reducible exact Nat.ne_of_lt lA4.2.2.2.2.2.2.1) | (with_reducible exact Nat.ne_of_lt lA4.2.2.2.2.2.2.2.1) | (with_reducible exact Nat.ne_of_lt lA4.2.2.2.2.2.2.2.2.1) | (with_reducible exact Nat.ne_of_lt lA4.2.2.2.2.2.2.2.2.2.1) | (with_reducible exact Nat.ne_of_lt lA4.2.2.2.2.2.2.2.2.2.2.1) | (with_reducible exact Nat.ne_of_lt lA4.2.2.2.2.2.2.2.2.2.2.2.1) | (with_reducible exact Nat.ne_of_lt lA4.2.2.2.2.2.2.2.2.2.2.2.2.1) | (with_reducible exact Nat.ne_of_lt lA3.1) | (with_reducible exact Nat.ne_of_lt lA3.2.1) | (with_reducible exact Nat.ne_of_lt lA3.2.2.1) | (with_reducible exact Nat.ne_of_lt lA3.2.2.2.1) | (with_reducible exact Nat.ne_of_lt lA3.2.2.2.2.1) | (with_reducible exact Nat.ne_of_lt lA3.2.2.2.2.2.1) | (with_reducible exact Nat.ne_of_lt lA3.2.2.2.2.2.2.1) | (with_reducible exact Nat.ne_of_lt lA3.2.2.2.2.2.2.2.1) | (with_reducible exact Nat.ne_of_lt lA3.2.2.2.2.2.2.2.2.1) | (with_reducible exact Nat.ne_of_lt lA3.2.2.2.2.2.2.2.2.2.1) | (with_reducible exact Nat.ne_of_lt lA3.2.2.2.2.2.2.2.2.2.2.1) | (with_reducible exact Nat.ne_of_lt lA3.2.2.2.2.2.2.2.2.2.2.2.1) | (with_reducible exact Nat.ne_of_lt lA3.2.2.2.2.2.2.2.2.2.2.2.2.1) | (with_reducible exact Nat.ne_of_lt lA2.1) | (with_reducible exact Nat.ne_of_lt lA2.2.1) | (with_reducible exact Nat.ne_of_lt lA2.2.2.1) | (with_reducible exact Nat.ne_of_lt lA2.2.2.2.1) | (with_reducible exact Nat.ne_of_lt lA2.2.2.2.2.1) | (with_reducible exact Nat.ne_of_lt lA2.2.2.2.2.2.1) | (with_reducible exact Nat.ne_of_lt lA2.2.2.2.2.2.2.1) | (with_reducible exact Nat.ne_of_lt lA2.2.2.2.2.2.2.2.1) | (with_reducible exact Nat.ne_of_lt lA2.2.2.2.2.2.2.2.2.1) | (with_reducible exact Nat.ne_of_lt lA2.2.2.2.2.2.2.2.2.2.1) | (with_reducible exact Nat.ne_of_lt lA2.2.2.2.2.2.2.2.2.2.2.1) | (with_reducible exact Nat.ne_of_lt lA2.2.2.2.2.2.2.2.2.2.2.2.1) | (with_reducible exact Nat.ne_of_lt lA2.2.2.2.2.2.2.2.2.2.2.2.2.1) | (with_reducible exact Nat.ne_of_lt lA1.1) | (with_reducible exact Nat.ne_of_lt lA1.2.1) | (with_reducible exact Nat.ne_of_lt lA1.2.2.1) | (with_reducible exact Nat.ne_of_lt lA1.2.2.2.1) | (with_reducible exact Nat.ne_of_lt lA1.2.2.2.2.1) | (with_reducible exact Nat.ne_of_lt lA1.2.2.2.2.2.1) | (with_reducible exact Nat.ne_of_lt lA1.2.2.2.2.2.2.1) | (with_reducible exact Nat.ne_of_lt lA1.2.2.2.2.2.2.2.1) | (with_reducible exact Nat.ne_of_lt lA1.2.2.2.2.2.2.2.2.1) | (with_reducible exact Nat.ne_of_lt lA1.2.2.2.2.2.2.2.2.2.1) | (with_reducible exact Nat.ne_of_lt lA1.2.2.2.2.2.2.2.2.2.2.1) | (with_reducible exact Nat.ne_of_lt lA1.2.2.2.2.2.2.2.2.2.2.2.1) | (with_reducible exact Nat.ne_of_lt lA1.2.2.2.2.2.2.2.2.2.2.2.2.1) | omega)
  case w4 => refine neN ?_; (first | (with_reducible exact Nat.ne_of_gt lA7.1) | (with_reducible exact Nat.ne_of_gt lA7.2.1) | (with_reducible exact Nat.ne_of_gt lA7.2.2.1) | (with_reducible exact Nat.ne_of_gt lA7.2.2.2.1) | (with_reducible exact Nat.ne_of_gt lA7.2.2.2.2.1) | (with_reducible exact Nat.ne_of_gt lA7.2.2.2.2.2.1) | (with_reducible exact Nat.ne_of_gt lA7.2.2.2.2.2.2.1) | (with_reducible exact Nat.ne_of_gt lA7.2.2.2.2.2.2.2.1) | (with_reducible exact Nat.ne_of_gt lA7.2.2.2.2.2.2.2.2.1) | (with_reducible exact Nat.ne_of_gt lA7.2.2.2.2.2.2.2.2.2.1) | (with_reducible exact Nat.ne_of_gt lA7.2.2.2.2.2.2.2.2.2.2.1) | (with_reducible exact Nat.ne_of_gt lA7.2.2.2.2.2.2.2.2.2.2.2.1) | (with_reducible exact Nat.ne_of_gt lA7.2.2.2.2.2.2.2.2.2.2.2.2.1) | (with_reducible exact Nat.ne_of_gt lA6.1) | (with_reducible exact Nat.ne_of_gt lA6.2.1) | (with_reducible exact Nat.ne_of_gt lA6.2.2.1) | (with_reducible exact Nat.ne_of_gt lA6.2.2.2.1) | (with_reducible exact Nat.ne_of_gt lA6.2.2.2.2.1) | (with_reducible exact Nat.ne_of_gt lA6.2.2.2.2.2.1) | (with_reducible exact Nat.ne_of_gt lA6.2.2.2.2.2.2.1) | (with_reducible exact Nat.ne_of_gt lA6.2.2.2.2.2.2.2.1) | (with_reducible exact Nat.ne_of_gt lA6.2.2.2.2.2.2.2.2.1) | (with_reducible exact Nat.ne_of_gt lA6.2.2.2.2.2.2.2.2.2.1) | (with_reducible exact Nat.ne_of_gt lA6.2.2.2.2.2.2.2.2.2.2.1) | (with_reducible exact Nat.ne_of_gt lA6.2.2.2.2.2.2.2.2.2.2.2.1) | (with_reducible exact Nat.ne_of_gt lA6.2.2.2.2.2.2.2.2.2.2.2.2.1) | (with_reducible exact Nat.ne_of_gt lA5.1) | (with_reducible exact Nat.ne_of_gt lA5.2.1) | (with_reducible exact Nat.ne_of_gt lA5.2.2.1) | (with_reducible exact Nat.ne_of_gt lA5.2.2.2.1) | (with_reducible exact Nat.ne_of_gt lA5.2.2.2.2.1) | (with_reducible exact Nat.ne_of_gt lA5.2.2.2.2.2.1) | (with_reducible exact Nat.ne_of_gt lA5.2.2.2.2.2.2.1) | (with_reducible exact Nat.ne_of_gt lA5.2.2.2.2.2.2.2.1) | (with_reducible exact Nat.ne_of_gt lA5.2.2.2.2.2.2.2.2.1) | (with_reducible exact Nat.ne_of_gt lA5.2.2.2.2.2.2.2.2.2.1) | (with_reducible exact Nat.ne_of_gt lA5.2.2.2.2.2.2.2.2.2.2.1) | (with_reducible exact Nat.ne_of_gt lA5.2.2.2.2.2.2.2.2.2.2.2.1) | (with_reducible exact Nat.ne_of_gt lA5.2.2.2.2.2.2.2.2.2.2.2.2.1) | (with_reducible exact Nat.ne_of_gt lA4.1) | (with_reducible exact Nat.ne_of_gt lA4.2.1) | (with_reducible exact Nat.ne_of_gt lA4.2.2.1) | (with_reducible exact Nat.ne_of_gt lA4.2.2.2.1) | (with_reducible exact Nat.ne_of_gt lA4.2.2.2.2.1) | (with_reducible exact Nat.ne_of_gt lA4.2.2.2.2.2.1) | (with_reducible exact Nat.ne_of_gt lA4.2.2.2.2.2.2.1) | (with_reducible exact Nat.ne_of_gt lA4.2.2.2.2.2.2.2.1) | (with_reducible exact Nat.ne_of_gt lA4.2.2.2.2.2.2.2.2.1) | (with_reducible exact Nat.ne_of_gt lA4.2.2.2.2.2.2.2.2.2.1) | (with_reducible exact Nat.ne_of_gt lA4.2.2.2.2.2.2.2.2.2.2.1) | (with_reducible exact Nat.ne_of_gt lA4.2.2.2.2.2.2.2.2.2.2.2.1) | (with_reducible exact Nat.ne_of_gt lA4.2.2.2.2.2.2.2.2.2.2.2.2.1) | (with_reducible exact Nat.ne_of_gt lA3.1) | (with_reducible exact Nat.ne_of_gt lA3.2.1) | (with_reducible exact Nat.ne_of_gt lA3.2.2.1) | (with_reducible exact Nat.ne_of_gt lA3.2.2.2.1) | (with_reducible exact Nat.ne_of_gt lA3.2.2.2.2.1) | (with_reducible exact Nat.ne_of_gt lA3.2.2.2.2.2.1) | (with_reducible exact Nat.ne_of_gt lA3.2.2.2.2.2.2.1) | (with_reducible exact Nat.ne_of_gt lA3.2.2.2.2.2.2.2.1) | (with_reducible exact Nat.ne_of_gt lA3.2.2.2.2.2.2.2.2.1) | (with_reducible exact Nat.ne_of_gt lA3.2.2.2.2.2.2.2.2.2.1) | (with_reducible exact Nat.ne_of_gt lA3.2.2.2.2.2.2.2.2.2.2.1) | (with_reducible exact Nat.ne_of_gt lA3.2.2.2.2.2.2.2.2.2.2.2.1) | (with_reducible exact Nat.ne_of_gt lA3.2.2.2.2.2.2.2.2.2.2.2.2.1) | (with_reducible exact Nat.ne_of_gt lA2.1) | (with_reducible exact Nat.ne_of_gt lA2.2.1) | (with_reducible exact Nat.ne_of_gt lA2.2.2.1) | (with_reducible exact Nat.ne_of_gt lA2.2.2.2.1) | (with_reducible exact Nat.ne_of_gt lA2.2.2.2.2.1) | (with_reducible exact Nat.ne_of_gt lA2.2.2.2.2.2.1) | (with_reducible exact Nat.ne_of_gt lA2.2.2.2.2.2.2.1) | (with_reducible exact Nat.ne_of_gt lA2.2.2.2.2.2.2.2.1) | (with_reducible exact Nat.ne_of_gt lA2.2.2.2.2.2.2.2.2.1) | (with_reducible exact Nat.ne_of_gt lA2.2.2.2.2.2.2.2.2.2.1) | (with_reducible exact Nat.ne_of_gt lA2.2.2.2.2.2.2.2.2.2.2.1) | (with_reducible exact Nat.ne_of_gt lA2.2.2.2.2.2.2.2.2.2.2.2.1) | (with_reducible exact Nat.ne_of_gt lA2.2.2.2.2.2.2.2.2.2.2.2.2.1) | (with_reducible exact Nat.ne_of_gt lA1.1) | (with_reducible exact Nat.ne_of_gt lA1.2.1) | (with_reducible exact Nat.ne_of_gt lA1.2.2.1) | (with_reducible exact Nat.ne_of_gt lA1.2.2.2.1) | (with_reducible exact Nat.ne_of_gt lA1.2.2.2.2.1) | (with_reducible exact Nat.ne_of_gt lA1.2.2.2.2.2.1) | (with_reducible exact Nat.ne_of_gt lA1.2.2.2.2.2.2.1) | (with_reducible exact Nat.ne_of_gt lA1.2.2.2.2.2.2.2.1) | (with_reducible exact Nat.ne_of_gt lA1.2.2.2.2.2.2.2.2.1) | (with_reducible exact Nat.ne_of_gt lA1.2.2.2.2.2.2.2.2.2.1) | (with_reducible exact Nat.ne_of_gt lA1.2.2.2.2.2.2.2.2.2.2.1) | (with_reducible exact Nat.ne_of_gt lA1.2.2.2.2.2.2.2.2.2.2.2.1) | (with_reducible exact Nat.ne_of_gt lA1.2.2.2.2.2.2.2.2.2.2.2.2.1) | (with_reducible exact Nat.ne_of_lt lA7.1) | (with_reducible exact Nat.ne_of_lt lA7.2.1) | (with_reducible exact Nat.ne_of_lt lA7.2.2.1) | (with_reducible exact Nat.ne_of_lt lA7.2.2.2.1) | (with_reducible exact Nat.ne_of_lt lA7.2.2.2.2.1) | (with_reducible exact Nat.ne_of_lt lA7.2.2.2.2.2.1) | (with_reducible exact Nat.ne_of_lt lA7.2.2.2.2.2.2.1) | (with_reducible exact Nat.ne_of_lt lA7.2.2.2.2.2.2.2.1) | (with_reducible exact Nat.ne_of_lt lA7.2.2.2.2.2.2.2.2.1) | (with_reducible exact Nat.ne_of_lt lA7.2.2.2.2.2.2.2.2.2.1) | (with_reducible exact Nat.ne_of_lt lA7.2.2.2.2.2.2.2.2.2.2.1) | (with_reducible exact Nat.ne_of_lt lA7.2.2.2.2.2.2.2.2.2.2.2.1) | (with_reducible exact Nat.ne_of_lt lA7.2.2.2.2.2.2.2.2.2.2.2.2.1) | (with_reducible exact Nat.ne_of_lt lA6.1) | (with_reducible exact Nat.ne_of_lt lA6.2.1) | (with_reducible exact Nat.ne_of_lt lA6.2.2.1) | (with_reducible exact Nat.ne_of_lt lA6.2.2.2.1) | (with_reducible exact Nat.ne_of_lt lA6.2.2.2.2.1) | (with_reducible exact Nat.ne_of_lt lA6.2.2.2.2.2.1) | (with_reducible exact Nat.ne_of_lt lA6.2.2.2.2.2.2.1) | (with_reducible exact Nat.ne_of_lt lA6.2.2.2.2.2.2.2.1) | (with_reducible exact Nat.ne_of_lt lA6.2.2.2.2.2.2.2.2.1) | (with_reducible exact Nat.ne_of_lt lA6.2.2.2.2.2.2.2.2.2.1) | (with_reducible exact Nat.ne_of_lt lA6.2.2.2.2.2.2.2.2.2.2.1) | (with_reducible exact Nat.ne_of_lt lA6.2.2.2.2.2.2.2.2.2.2.2.1) | (with_reducible exact Nat.ne_of_lt lA6.2.2.2.2.2.2.2.2.2.2.2.2.1) | (with_reducible exact Nat.ne_of_lt lA5.1) | (with_reducible exact Nat.ne_of_lt lA5.2.1) | (with_reducible exact Nat.ne_of_lt lA5.2.2.1) | (with_reducible exact Nat.ne_of_lt lA5.2.2.2.1) | (with_reducible exact Nat.ne_of_lt lA5.2.2.2.2.1) | (with_reducible exact Nat.ne_of_lt lA5.2.2.2.2.2.1) | (with_reducible exact Nat.ne_of_lt lA5.2.2.2.2.2.2.1) | (with_reducible exact Nat.ne_of_lt lA5.2.2.2.2.2.2.2.1) | (with_reducible exact Nat.ne_of_lt lA5.2.2.2.2.2.2.2.2.1) | (with_reducible exact Nat.ne_of_lt lA5.2.2.2.2.2.2.2.2.2.1) | (with_reducible exact Nat.ne_of_lt lA5.2.2.2.2.2.2.2.2.2.2.1) | (with_reducible exact Nat.ne_of_lt lA5.2.2.2.2.2.2.2.2.2.2.2.1) | (with_reducible exact Nat.ne_of_lt lA5.2.2.2.2.2.2.2.2.2.2.2.2.1) | (with_reducible exact Nat.ne_of_lt lA4.1) | (with_reducible exact Nat.ne_of_lt lA4.2.1) | (with_reducible exact Nat.ne_of_lt lA4.2.2.1) | (with_reducible exact Nat.ne_of_lt lA4.2.2.2.1) | (with_reducible exact Nat.ne_of_lt lA4.2.2.2.2.1) | (with_reducible exact Nat.ne_of_lt lA4.2.2.2.2.2.1) | (with_reducible exact Nat.ne_of_lt lA4.2.2.2.2.2.2.1) | (with_reducible exact Nat.ne_of_lt lA4.2.2.2.2.2.2.2.1) | (with_reducible exact Nat.ne_of_lt lA4.2.2.2.2.2.2.2.2.1) | (with_reducible exact Nat.ne_of_lt lA4.2.2.2.2.2.2.2.2.2.1) | (with_reducible exact Nat.ne_of_lt lA4.2.2.2.2.2.2.2.2.2.2.1) | (with_reducible exact Nat.ne_of_lt lA4.2.2.2.2.2.2.2.2.2.2.2.1) | (with_reducible exact Nat.ne_of_lt lA4.2.2.2.2.2.2.2.2.2.2.2.2.1) | (with_reducible exact Nat.ne_of_lt lA3.1) | (with_reducible exact Nat.ne_of_lt lA3.2.1) | (with_reducible exact Nat.ne_of_lt lA3.2.2.1) | (with_reducible exact Nat.ne_of_lt lA3.2.2.2.1) | (with_reducible exact Nat.ne_of_lt lA3.2.2.2.2.1) | (with_reducible exact Nat.ne_of_lt lA3.2.2.2.2.2.1) | (with_reducible exact Nat.ne_of_lt lA3.2.2.2.2.2.2.1) | (with_reducible exact Nat.ne_of_lt lA3.2.2.2.2.2.2.2.1) | (with_reducible exact Nat.ne_of_lt lA3.2.2.2.2.2.2.2.2.1) | (with_reducible exact Nat.ne_of_lt lA3.2.2.2.2.2.2.2.2.2.1) | (with_reducible exact Nat.ne_of_lt lA3.2.2.2.2.2.2.2.2.2.2.1) | (with_reducible exact Nat.ne_of_lt lA3.2.2.2.2.2.2.2.2.2.2.2.1) | (with_reducible exact Nat.ne_of_lt lA3.2.2.2.2.2.2.2.2.2.2.2.2.1) | (with_reducible exact Nat.ne_of_lt lA2.1) | (with_reducible exact Nat.ne_of_lt lA2.2.1) | (with_reducible exact Nat.ne_of_lt lA2.2.2.1) | (with_reducible exact Nat.ne_of_lt lA2.2.2.2.1) | (with_reducible exact Nat.ne_of_lt lA2.2.2.2.2.1) | (with_reducible exact Nat.ne_of_lt lA2.2.2.2.2.2.1) | (with_reducible exact Nat.ne_of_lt lA2.2.2.2.2.2.2.1) | (with_reducible exact Nat.ne_of_lt lA2.2.2.2.2.2.2.2.1) | (with_reducible exact Nat.ne_of_lt lA2.2.2.2.2.2.2.2.2.1) | (with_reducible exact Nat.ne_of_lt lA2.2.2.2.2.2.2.2.2.2.1) | (with_reducible exact Nat.ne_of_lt lA2.2.2.2.2.2.2.2.2.2.2.1) | (with_reducible exact Nat.ne_of_lt lA2.2.2.2.2.2.2.2.2.2.2.2.1) | (with_reducible exact Nat.ne_of_lt lA2.2.2.2.2.2.2.2.2.2.2.2.2.1) | (with_reducible exact Nat.ne_of_lt lA1.1) | (with_reducible exact Nat.ne_of_lt lA1.2.1) | (with_reducible exact Nat.ne_of_lt lA1.2.2.1) | (with_reducible exact Nat.ne_of_lt lA1.2.2.2.1) | (with_reducible exact Nat.ne_of_lt lA1.2.2.2.2.1) | (with_reducible exact Nat.ne_of_lt lA1.2.2.2.2.2.1) | (with_reducible exact Nat.ne_of_lt lA1.2.2.2.2.2.2.1) | (with_reducible exact Nat.ne_of_lt lA1.2.2.2.2.2.2.2.1) | (with_reducible exact Nat.ne_of_lt lA1.2.2.2.2.2.2.2.2.1) | (with_reducible exact Nat.ne_of_lt lA1.2.2.2.2.2.2.2.2.2.1) | (with_reducible exact Nat.ne_of_lt lA1.2.2.2.2.2.2.2.2.2.2.1) | (with_reducible exact Nat.ne_of_lt lA1.2.2.2.2.2.2.2.2.2.2.2.1) | (with_reducible exact Nat.ne_of_lt lA1.2.2.2.2.2.2.2.2.2.2.2.2.1) | omega)
  case w5 => refine neN ?_; (first | (with_reducible exact Nat.ne_of_gt lA7.1) | (with_reducible exact Nat.ne_of_gt lA7.2.1) | (with_reducible exact Nat.ne_of_gt lA7.2.2.1) | (with_reducible exact Nat.ne_of_gt lA7.2.2.2.1) | (with_reducible exact Nat.ne_of_gt lA7.2.2.2.2.1) | (with_reducible exact Nat.ne_of_gt lA7.2.2.2.2.2.1) | (with_reducible exact Nat.ne_of_gt lA7.2.2.2.2.2.2.1) | (with_reducible exact Nat.ne_of_gt lA7.2.2.2.2.2.2.2.1) | (with_reducible exact Nat.ne_of_gt lA7.2.2.2.2.2.2.2.2.1) | (with_reducible exact Nat.ne_of_gt lA7.2.2.2.2.2.2.2.2.2.1) | (with_reducible exact Nat.ne_of_gt lA7.2.2.2.2.2.2.2.2.2.2.1) | (with_reducible exact Nat.ne_of_gt lA7.2.2.2.2.2.2.2.2.2.2.2.1) | (with_reducible exact Nat.ne_of_gt lA7.2.2.2.2.2.2.2.2.2.2.2.2.1) | (with_reducible exact Nat.ne_of_gt lA6.1) | (with_reducible exact Nat.ne_of_gt lA6.2.1) | (with_reducible exact Nat.ne_of_gt lA6.2.2.1) | (with_reducible exact Nat.ne_of_gt lA6.2.2.2.1) | (with_reducible exact Nat.ne_of_gt lA6.2.2.2.2.1) | (with_reducible exact Nat.ne_of_gt lA6.2.2.2.2.2.1) | (with_reducible exact Nat.ne_of_gt lA6.2.2.2.2.2.2.1) | (with_reducible exact Nat.ne_of_gt lA6.2.2.2.2.2.2.2.1) | (with_reducible exact Nat.ne_of_gt lA6.2.2.2.2.2.2.2.2.1) | (with_reducible exact Nat.ne_of_gt lA6.2.2.2.2.2.2.2.2.2.1) | (with_reducible exact Nat.ne_of_gt lA6.2.2.2.2.2.2.2.2.2.2.1) | (with_reducible exact Nat.ne_of_gt lA6.2.2.2.2.2.2.2.2.2.2.2.1) | (with_reducible exact Nat.ne_of_gt lA6.2.2.2.2.2.2.2.2.2.2.2.2.1) | (with_reducible exact Nat.ne_of_gt lA5.1) | (with_reducible exact Nat.ne_of_gt lA5.2.1) | (with_reducible exact Nat.ne_of_gt lA5.2.2.1) | (with_reducible exact Nat.ne_of_gt lA5.2.2.2.1) | (with_reducible exact Nat.ne_of_gt lA5.2.2.2.2.1) | (with_reducible exact Nat.ne_of_gt lA5.2.2.2.2.2.1) | (with_reducible exact Nat.ne_of_gt lA5.2.2.2.2.2.2.1) | (with_reducible exact Nat.ne_of_gt lA5.2.2.2.2.2.2.2.1) | (with_reducible exact Nat.ne_of_gt lA5.2.2.2.2.2.2.2.2.1) | (with_reducible exact Nat.ne_of_gt lA5.2.2.2.2.2.2.2.2.2.1) | (with_reducible exact Nat.ne_of_gt lA5.2.2.2.2.2.2.2.2.2.2.1) | (with_reducible exact Nat.ne_of_gt lA5.2.2.2.2.2.2.2.2.2.2.2.1) | (with_reducible exact Nat.ne_of_gt lA5.2.2.2.2.2.2.2.2.2.2.2.2.1) | (with_reducible exact Nat.ne_of_gt lA4.1) | (with_reducible exact Nat.ne_of_gt lA4.2.1) | (with_reducible exact Nat.ne_of_gt lA4.2.2.1) | (with_reducible exact Nat.ne_of_gt lA4.2.2.2.1) | (with_reducible exact Nat.ne_of_gt lA4.2.2.2.2.1) | (with_reducible exact Nat.ne_of_gt lA4.2.2.2.2.2.1) | (with_reducible exact Nat.ne_of_gt lA4.2.2.2.2.2.2.1) | (with_reducible exact Nat.ne_of_gt lA4.2.2.2.2.2.2.2.1) | (with_reducible exact Nat.ne_of_gt lA4.2.2.2.2.2.2.2.2.1) | (with_reducible exact Nat.ne_of_gt lA4.2.2.2.2.2.2.2.2.2.1) | (with_reducible exact Nat.ne_of_gt lA4.2.2.2.2.2.2.2.2.2.2.1) | (with_reducible exact Nat.ne_of_gt lA4.2.2.2.2.2.2.2.2.2.2.2.1) | (with_reducible exact Nat.ne_of_gt lA4.2.2.2.2.2.2.2.2.2.2.2.2.1) | (with_reducible exact Nat.ne_of_gt lA3.1) | (with_reducible exact Nat.ne_of_gt lA3.2.1) | (with_reducible exact Nat.ne_of_gt lA3.2.2.1) | (with_reducible exact Nat.ne_of_gt lA3.2.2.2.1) | (with_reducible exact Nat.ne_of_gt lA3.2.2.2.2.1) | (with_reducible exact Nat.ne_of_gt lA3.2.2.2.2.2.1) | (with_reducible exact Nat.ne_of_gt lA3.2.2.2.2.2.2.1) | (with_reducible exact Nat.ne_of_gt lA3.2.2.2.2.2.2.2.1) | (with_reducible exact Nat.ne_of_gt lA3.2.2.2.2.2.2.2.2.1) | (with_reducible exact Nat.ne_of_gt lA3.2.2.2.2.2.2.2.2.2.1) | (with_reducible exact Nat.ne_of_gt lA3.2.2.2.2.2.2.2.2.2.2.1) | (with_reducible exact Nat.ne_of_gt lA3.2.2.2.2.2.2.2.2.2.2.2.1) | (with_reducible exact Nat.ne_of_gt lA3.2.2.2.2.2.2.2.2.2.2.2.2.1) | (with_reducible exact Nat.ne_of_gt lA2.1) | (with_reducible exact Nat.ne_of_gt lA2.2.1) | (with_reducible exact Nat.ne_of_gt lA2.2.2.1) | (with_reducible exact Nat.ne_of_gt lA2.2.2.2.1) | (with_reducible exact Nat.ne_of_gt lA2.2.2.2.2.1) | (with_reducible exact Nat.ne_of_gt lA2.2.2.2.2.2.1) | (with_reducible exact Nat.ne_of_gt lA2.2.2.2.2.2.2.1) | (with_reducible exact Nat.ne_of_gt lA2.2.2.2.2.2.2.2.1) | (with_reducible exact Nat.ne_of_gt lA2.2.2.2.2.2.2.2.2.1) | (with_reducible exact Nat.ne_of_gt lA2.2.2.2.2.2.2.2.2.2.1) | (with_reducible exact Nat.ne_of_gt lA2.2.2.2.2.2.2.2.2.2.2.1) | (with_reducible exact Nat.ne_of_gt lA2.2.2.2.2.2.2.2.2.2.2.2.1) | (with_reducible exact Nat.ne_of_gt lA2.2.2.2.2.2.2.2.2.2.2.2.2.1) | (with_reducible exact Nat.ne_of_gt lA1.1) | (with_reducible exact Nat.ne_of_gt lA1.2.1) | (with_reducible exact Nat.ne_of_gt lA1.2.2.1) | (with_reducible exact Nat.ne_of_gt lA1.2.2.2.1) | (with_reducible exact Nat.ne_of_gt lA1.2.2.2.2.1) | (with_reducible exact Nat.ne_of_gt lA1.2.2.2.2.2.1) | (with_reducible exact Nat.ne_of_gt lA1.2.2.2.2.2.2.1) | (with_reducible exact Nat.ne_of_gt lA1.2.2.2.2.2.2.2.1) | (with_reducible exact Nat.ne_of_gt lA1.2.2.2.2.2.2.2.2.1) | (with_reducible exact Nat.ne_of_gt lA1.2.2.2.2.2.2.2.2.2.1) | (with_reducible exact Nat.ne_of_gt lA1.2.2.2.2.2.2.2.2.2.2.1) | (with_reducible exact Nat.ne_of_gt lA1.2.2.2.2.2.2.2.2.2.2.2.1) | (with_reducible exact Nat.ne_of_gt lA1.2.2.2.2.2.2.2.2.2.2.2.2.1) | (with_reducible exact Nat.ne_of_lt lA7.1) | (with_reducible exact Nat.ne_of_lt lA7.2.1) | (with_reducible exact Nat.ne_of_lt lA7.2.2.1) | (with_reducible exact Nat.ne_of_lt lA7.2.2.2.1) | (with_reducible exact Nat.ne_of_lt lA7.2.2.2.2.1) | (with_reducible exact Nat.ne_of_lt lA7.2.2.2.2.2.1) | (with_reducible exact Nat.ne_of_lt lA7.2.2.2.2.2.2.1) | (with_reducible exact Nat.ne_of_lt lA7.2.2.2.2.2.2.2.1) | (with_reducible exact Nat.ne_of_lt lA7.2.2.2.2.2.2.2.2.1) | (with_reducible exact Nat.ne_of_lt lA7.2.2.2.2.2.2.2.2.2.1) | (with_reducible exact Nat.ne_of_lt lA7.2.2.2.2.2.2.2.2.2.2.1) | (with_reducible exact Nat.ne_of_lt lA7.2.2.2.2.2.2.2.2.2.2.2.1) | (with_reducible exact Nat.ne_of_lt lA7.2.2.2.2.2.2.2.2.2.2.2.2.1) | (with_reducible exact Nat.ne_of_lt lA6.1) | (with_reducible exact Nat.ne_of_lt lA6.2.1) | (with_reducible exact Nat.ne_of_lt lA6.2.2.1) | (with_reducible exact Nat.ne_of_lt lA6.2.2.2.1) | (with_reducible exact Nat.ne_of_lt lA6.2.2.2.2.1) | (with_reducible exact Nat.ne_of_lt lA6.2.2.2.2.2.1) | (with_reducible exact Nat.ne_of_lt lA6.2.2.2.2.2.2.1) | (with_reducible exact Nat.ne_of_lt lA6.2.2.2.2.2.2.2.1) | (with_reducible exact Nat.ne_of_lt lA6.2.2.2.2.2.2.2.2.1) | (with_reducible exact Nat.ne_of_lt lA6.2.2.2.2.2.2.2.2.2.1) | (with_reducible exact Nat.ne_of_lt lA6.2.2.2.2.2.2.2.2.2.2.1) | (with_reducible exact Nat.ne_of_lt lA6.2.2.2.2.2.2.2.2.2.2.2.1) | (with_reducible exact Nat.ne_of_lt lA6.2.2.2.2.2.2.2.2.2.2.2.2.1) | (with_reducible exact Nat.ne_of_lt lA5.1) | (with_reducible exact Nat.ne_of_lt lA5.2.1) | (with_reducible exact Nat.ne_of_lt lA5.2.2.1) | (with_reducible exact Nat.ne_of_lt lA5.2.2.2.1) | (with_reducible exact Nat.ne_of_lt lA5.2.2.2.2.1) | (with_reducible exact Nat.ne_of_lt lA5.2.2.2.2.2.1) | (with_reducible exact Nat.ne_of_lt lA5.2.2.2.2.2.2.1) | (with_reducible exact Nat.ne_of_lt lA5.2.2.2.2.2.2.2.1) | (with_reducible exact Nat.ne_of_lt lA5.2.2.2.2.2.2.2.2.1) | (with_reducible exact Nat.ne_of_lt lA5.2.2.2.2.2.2.2.2.2.1) | (with_reducible exact Nat.ne_of_lt lA5.2.2.2.2.2.2.2.2.2.2.1) | (with_reducible exact Nat.ne_of_lt lA5.2.2.2.2.2.2.2.2.2.2.2.1) | (with_reducible exact Nat.ne_of_lt lA5.2.2.2.2.2.2.2.2.2.2.2.2.1) | (with_reducible exact Nat.ne_of_lt lA4.1) | (with_reducible exact Nat.ne_of_lt lA4.2.1) | (with_reducible exact Nat.ne_of_lt lA4.2.2.1) | (with_reducible exact Nat.ne_of_lt lA4.2.2.2.1) | (with_reducible exact Nat.ne_of_lt lA4.2.2.2.2.1) | (with_reducible exact Nat.ne_of_lt lA4.2.2.2.2.2.1) | (with_reducible exact Nat.ne_of_lt lA4.2.2.2.2.2.2.1) | (with_reducible exact Nat.ne_of_lt lA4.2.2.2.2.2.2.2.1) | (with_reducible exact Nat.ne_of_lt lA4.2.2.2.2.2.2.2.2.1) | (with_reducible exact Nat.ne_of_lt lA4.2.2.2.2.2.2.2.2.2.1) | (with_reducible exact Nat.ne_of_lt lA4.2.2.2.2.2.2.2.2.2.2.1) | (with_reducible exact Nat.ne_of_lt lA4.2.2.2.2.2.2.2.2.2.2.2.1) | (with_reducible exact Nat.ne_of_lt lA4.2.2.2.2.2.2.2.2.2.2.2.2.1) | (with_reducible exact Nat.ne_of_lt lA3.1) | (with_reducible exact Nat.ne_of_lt lA3.2.1) | (with_reducible exact Nat.ne_of_lt lA3.2.2.1) | (with_reducible exact Nat.ne_of_lt lA3.2.2.2.1) | (with_reducible exact Nat.ne_of_lt lA3.2.2.2.2.1) | (with_reducible exact Nat.ne_of_lt lA3.2.2.2.2.2.1) | (with_reducible exact Nat.ne_of_lt lA3.2.2.2.2.2.2.1) | (with_reducible exact Nat.ne_of_lt lA3.2.2.2.2.2.2.2.1) | (with_reducible exact Nat.ne_of_lt lA3.2.2.2.2.2.2.2.2.1) | (with_reducible exact Nat.ne_of_lt lA3.2.2.2.2.2.2.2.2.2.1) | (with_reducible exact Nat.ne_of_lt lA3.2.2.2.2.2.2.2.2.2.2.1) | (with_reducible exact Nat.ne_of_lt lA3.2.2.2.2.2.2.2.2.2.2.2.1) | (with_reducible exact Nat.ne_of_lt lA3.2.2.2.2.2.2.2.2.2.2.2.2.1) | (with_reducible exact Nat.ne_of_lt lA2.1) | (with_reducible exact Nat.ne_of_lt lA2.2.1) | (with_reducible exact Nat.ne_of_lt lA2.2.2.1) | (with_reducible exact Nat.ne_of_lt lA2.2.2.2.1) | (with_reducible exact Nat.ne_of_lt lA2.2.2.2.2.1) | (with_reducible exact Nat.ne_of_lt lA2.2.2.2.2.2.1) | (with_reducible exact Nat.ne_of_lt lA2.2.2.2.2.2.2.1) | (with_reducible exact Nat.ne_of_lt lA2.2.2.2.2.2.2.2.1) | (with_reducible exact Nat.ne_of_lt lA2.2.2.2.2.2.2.2.2.1) | (with_reducible exact Nat.ne_of_lt lA2.2.2.2.2.2.2.2.2.2.1) | (with_reducible exact Nat.ne_of_lt lA2.2.2.2.2.2.2.2.2.2.2.1) | (with_reducible exact Nat.ne_of_lt lA2.2.2.2.2.2.2.2.2.2.2.2.1) | (with_reducible exact Nat.ne_of_lt lA2.2.2.2.2.2.2.2.2.2.2.2.2.1) | (with_reducible exact Nat.ne_of_lt lA1.1) | (with_reducible exact Nat.ne_of_lt lA1.2.1) | (with_reducible exact Nat.ne_of_lt lA1.2.2.1) | (with_reducible exact Nat.ne_of_lt lA1.2.2.2.1) | (with_reducible exact Nat.ne_of_lt lA1.2.2.2.2.1) | (with_reducible exact Nat.ne_of_lt lA1.2.2.2.2.2.1) | (with_reducible exact Nat.ne_of_lt lA1.2.2.2.2.2.2.1) | (with_reducible exact Nat.ne_of_lt lA1.2.2.2.2.2.2.2.1) | (with_reducible exact Nat.ne_of_lt lA1.2.2.2.2.2.2.2.2.1) | (with_reducible exact Nat.ne_of_lt lA1.2.2.2.2.2.2.2.2.2.1) | (with_reducible exact Nat.ne_of_lt lA1.2.2.2.2.2.2.2.2.2.2.1) | (with_reducible exact Nat.ne_of_lt lA1.2.2.2.2.2.2.2.2.2.2.2.1) | (with_reducible exact Nat.ne_of_lt lA1.2.2.2.2.2.2.2.2.2.2.2.2.1) | omega)
  case o9 =>
    refine ⟨fun x hx => ?_, fun x hx => ?_, fun x hx => ?_, fun x hx => ?_, fun x hx => ?_⟩
    all_goals simp only [List.mem_cons] at hx
    all_goals rcases hx with rfl | rfl | rfl | rfl | rfl | rfl | hx
    all_goals first | (refine neN ?_; dsimp only; (first | (with_reducible exact Nat.ne_of_gt lA7.1) | (with_reducible exact Nat.ne_of_gt lA7.2.1) | (with_reducible exact Nat.ne_of_gt lA7.2.2.1) | (with_reducible exact Nat.ne_of_gt lA7.2.2.2.1) | (with_reducible exact Nat.ne_of_gt lA7.2.2.2.2.1) | (with_reducible exact Nat.ne_of_gt lA7.2.2.2.2.2.1) | (with_reducible exact Nat.ne_of_gt lA7.2.2.2.2.2.2.1) | (with_reducible exact Nat.ne_of_gt lA7.2.2.2.2.2.2.2.1) | (with_reducible exact Nat.ne_of_gt lA7.2.2.2.2.2.2.2.2.1) | (with_reducible exact Nat.ne_of_gt lA7.2.2.2.2.2.2.2.2.2.1) | (with_reducible exact Nat.ne_of_gt lA7.2.2.2.2.2.2.2.2.2.2.1) | (with_reducible exact Nat.ne_of_gt lA7.2.2.2.2.2.2.2.2.2.2.2.1) | (with_reducible exact Nat.ne_of_gt lA7.2.2.2.2.2.2.2.2.2.2.2.2.1) | (with_reducible exact Nat.ne_of_gt lA6.1) | (with_reducible exact Nat.ne_of_gt lA6.2.1) | (with_reducible exact Nat.ne_of_gt lA6.2.2.1) | (with_reducible exact Nat.ne_of_gt lA6.2.2.2.1) | (with_reducible exact Nat.ne_of_gt lA6.2.2.2.2.1) | (with_reducible exact Nat.ne_of_gt lA6.2.2.2.2.2.1) | (with_reducible exact Nat.ne_of_gt lA6.2.2.2.2.2.2.1) | (with_reducible exact Nat.ne_of_gt lA6.2.2.2.2.2.2.2.1) | (with_reducible exact Nat.ne_of_gt lA6.2.2.2.2.2.2.2.2.1) | (with_reducible exact Nat.ne_of_gt lA6.2.2.2.2.2.2.2.2.2.1) | (with_reducible exact Nat.ne_of_gt lA6.2.2.2.2.2.2.2.2.2.2.1) | (with_reducible exact Nat.ne_of_gt lA6.2.2.2.2.2.2.2.2.2.2.2.1) | (with_reducible exact Nat.ne_of_gt lA6.2.2.2.2.2.2.2.2.2.2.2.2.1) | (with_reducible exact Nat.ne_of_gt lA5.1) | (with_reducible exact Nat.ne_of_gt lA5.2.1) | (with_reducible exact Nat.ne_of_gt lA5.2.2.1) | (with_reducible exact Nat.ne_of_gt lA5.2.2.2.1) | (with_reducible exact Nat.ne_of_gt lA5.2.2.2.2.1) | (with_reducible exact Nat.ne_of_gt lA5.2.2.2.2.2.1) | (with_reducible exact Nat.ne_of_gt lA5.2.2.2.2.2.2.1) | (with_reducible exact Nat.ne_of_gt lA5.2.2.2.2.2.2.2.1) | (with_reducible exact Nat.ne_of_gt lA5.2.2.2.2.2.2.2.2.1) | (with_reducible exact Nat.ne_of_gt lA5.2.2.2.2.2.2.2.2.2.1) | (with_reducible exact Nat.ne_of_gt lA5.2.2.2.2.2.2.2.2.2.2.1) | (with_reducible exact Nat.ne_of_gt lA5.2.2.2.2.2.2.2.2.2.2.2.1) | (with_reducible exact Nat.ne_of_gt lA5.2.2.2.2.2.2.2.2.2.2.2.2.1) | (with_reducible exact Nat.ne_of_gt lA4.1) | (with_reducible exact Nat.ne_of_gt lA4.2.1) | (with_reducible exact Nat.ne_of_gt lA4.2.2.1) | (with_reducible exact Nat.ne_of_gt lA4.2.2.2.1) | (with_reducible exact Nat.ne_of_gt lA4.2.2.2.2.1) | (with_reducible exact Nat.ne_of_gt lA4.2.2.2.2.2.1) | (with_reducible exact Nat.ne_of_gt lA4.2.2.2.2.2.2.1) | (with_reducible exact Nat.ne_of_gt lA4.2.2.2.2.2.2.2.1) | (with_reducible exact Nat.ne_of_gt lA4.2.2.2.2.2.2.2.2.1) | (with_reducible exact Nat.ne_of_gt lA4.2.2.2.2.2.2.2.2.2.1) | (with_reducible exact Nat.ne_of_gt lA4.2.2.2.2.2.2.2.2.2.2.1) | (with_reducible exact Nat.ne_of_gt lA4.2.2.2.2.2.2.2.2.2.2.2.1) | (with_reducible exact Nat.ne_of_gt lA4.2.2.2.2.2.2.2.2.2.2.2.2.1) | (with_reducible exact Nat.ne_of_gt lA3.1) | (with_reducible exact Nat.ne_of_gt lA3.2.1) | (with_reducible exact Nat.ne_of_gt lA3.2.2.1) | (with_reducible exact Nat.ne_of_gt lA3.2.2.2.1) | (with_reducible exact Nat.ne_of_gt lA3.2.2.2.2.1) | (with_reducible exact Nat.ne_of_gt lA3.2.2.2.2.2.1) | (with_reducible exact Nat.ne_of_gt lA3.2.2.2.2.2.2.1) | (with_reducible exact Nat.ne_of_gt lA3.2.2.2.2.2.2.2.1) | (with_reducible exact Nat.ne_of_gt lA3.2.2.2.2.2.2.2.2.1) | (with_reducible exact Nat.ne_of_gt lA3.2.2.2.2.2.2.2.2.2.1) | (with_reducible exact Nat.ne_of_gt lA3.2.2.2.2.2.2.2.2.2.2.1) | (with_reducible exact Nat.ne_of_gt lA3.2.2.2.2.2.2.2.2.2.2.2.1) | (with_reducible exact Nat.ne_of_gt lA3.2.2.2.2.2.2.2.2.2.2.2.2.1) | (with_reducible exact Nat.ne_of_gt lA2.1) | (with_reducible exact Nat.ne_of_gt lA2.2.1) | (with_reducible exact Nat.ne_of_gt lA2.2.2.1) | (with_reducible exact Nat.ne_of_gt lA2.2.2.2.1) | (with_reducible exact Nat.ne_of_gt lA2.2.2.2.2.1) | (with_reducible exact Nat.ne_of_gt lA2.2.2.2.2.2.1) | (with_reducible exact Nat.ne_of_gt lA2.2.2.2.2.2.2.1) | (with_reducible exact Nat.ne_of_gt lA2.2.2.2.2.2.2.2.1) | (with_reducible exact Nat.ne_of_gt lA2.2.2.2.2.2.2.2.2.1) | (with_reducible exact Nat.ne_of_gt lA2.2.2.2.2.2.2.2.2.2.1) | (with_reducible exact Nat.ne_of_gt lA2.2.2.2.2.2.2.2.2.2.2.1) | (with_reducible exact Nat.ne_of_gt lA2.2.2.2.2.2.2.2.2.2.2.2.1) | (with_reducible exact Nat.ne_of_gt lA2.2.2.2.2.2.2.2.2.2.2.2.2.1) | (with_reducible exact Nat.ne_of_gt lA1.1) | (with_reducible exact Nat.ne_of_gt lA1.2.1) | (with_reducible exact Nat.ne_of_gt lA1.2.2.1) | (with_reducible exact Nat.ne_of_gt lA1.2.2.2.1) | (with_reducible exact Nat.ne_of_gt lA1.2.2.2.2.1) | (with_reducible exact Nat.ne_of_gt lA1.2.2.2.2.2.1) | (with_reducible exact Nat.ne_of_gt lA1.2.2.2.2.2.2.1) | (with_reducible exact Nat.ne_of_gt lA1.2.2.2.2.2.2.2.1) | (with_reducible exact Nat.ne_of_gt lA1.2.2.2.2.2.2.2.2.1) | (with_reducible exact Nat.ne_of_gt lA1.2.2.2.2.2.2.2.2.2.1) | (with_reducible exact Nat.ne_of_gt lA1.2.2.2.2.2.2.2.2.2.2.1) | (with_reducible exact Nat.ne_of_gt lA1.2.2.2.2.2.2.2.2.2.2.2.1) | (with_reducible exact Nat.ne_of_gt lA1.2.2.2.2.2.2.2.2.2.2.2.2.1) | (with_reducible exact Nat.ne_of_lt lA7.1) | (with_reducible exact Nat.ne_of_lt lA7.2.1) | (with_reducible exact Nat.ne_of_lt lA7.2.2.1) | (with_reducible exact Nat.ne_of_lt lA7.2.2.2.1) | (with_reducible exact Nat.ne_of_lt lA7.2.2.2.2.1) | (with_reducible exact Nat.ne_of_lt lA7.2.2.2.2.2.1) | (with_reducible exact Nat.ne_of_lt lA7.2.2.2.2.2.2.1) | (with_reducible exact Nat.ne_of_lt lA7.2.2.2.2.2.2.2.1) | (with_reducible exact Nat.ne_of_lt lA7.2.2.2.2.2.2.2.2.1) | (with_reducible exact Nat.ne_of_lt lA7.2.2.2.2.2.2.2.2.2.1) | (with_reducible exact Nat.ne_of_lt lA7.2.2.2.2.2.2.2.2.2.2.1) | (with_reducible exact Nat.ne_of_lt lA7.2.2.2.2.2.2.2.2.2.2.2.1) | (with_reducible exact Nat.ne_of_lt lA7.2.2.2.2.2.2.2.2.2.2.2.2.1) | (with_reducible exact Nat.ne_of_lt lA6.1) | (with_reducible exact Nat.ne_of_lt lA6.2.1) | (with_reducible exact Nat.ne_of_lt lA6.2.2.1) | (with_reducible exact Nat.ne_of_lt lA6.2.2.2.1) | (with_reducible exact Nat.ne_of_lt lA6.2.2.2.2.1) | (with_reducible exact Nat.ne_of_lt lA6.2.2.2.2.2.1) | (with_reducible exact Nat.ne_of_lt lA6.2.2.2.2.2.2.1) | (with_reducible exact Nat.ne_of_lt lA6.2.2.2.2.2.2.2.1) | (with_reducible exact Nat.ne_of_lt lA6.2.2.2.2.2.2.2.2.1) | (with_reducible exact Nat.ne_of_lt lA6.2.2.2.2.2.2.2.2.2.1) | (with_reducible exact Nat.ne_of_lt lA6.2.2.2.2.2.2.2.2.2.2.1) | (with_reducible exact Nat.ne_of_lt lA6.2.2.2.2.2.2.2.2.2.2.2.1) | (with_reducible exact Nat.ne_of_lt lA6.2.2.2.2.2.2.2.2.2.2.2.2.1) | (with_reducible exact Nat.ne_of_lt lA5.1) | (with_reducible exact Nat.ne_of_lt lA5.2.1) | (with_reducible exact Nat.ne_of_lt lA5.2.2.1) | (with_reducible exact Nat.ne_of_lt lA5.2.2.2.1) | (with_reducible exact Nat.ne_of_lt lA5.2.2.2.2.1) | (with_reducible exact Nat.ne_of_lt lA5.2.2.2.2.2.1) | (with_reducible exact Nat.ne_of_lt lA5.2.2.2.2.2.2.1) | (with_reducible exact Nat.ne_of_lt lA5.2.2.2.2.2.2.2.1) | (with_reducible exact Nat.ne_of_lt lA5.2.2.2.2.2.2.2.2.1) | (with_reducible exact Nat.ne_of_lt lA5.2.2.2.2.2.2.2.2.2.1) | (with_reducible exact Nat.ne_of_lt lA5.2.2.2.2.2.2.2.2.2.2.1) | (with_reducible exact Nat.ne_of_lt lA5.2.2.2.2.2.2.2.2.2.2.2.1) | (with_reducible exact Nat.ne_of_lt lA5.2.2.2.2.2.2.2.2.2.2.2.2.1) | (with_reducible exact Nat.ne_of_lt lA4.1) | (with_reducible exact Nat.ne_of_lt lA4.2.1) | (with_reducible exact Nat.ne_of_lt lA4.2.2.1) | (with_reducible exact Nat.ne_of_lt lA4.2.2.2.1) | (with_reducible exact Nat.ne_of_lt lA4.2.2.2.2.1) | (with_reducible exact Nat.ne_of_lt lA4.2.2.2.2.2.1) | (with_reducible exact Nat.ne_of_lt lA4.2.2.2.2.2.2.1) | (with_reducible exact Nat.ne_of_lt lA4.2.2.2.2.2.2.2.1) | (with_reducible exact Nat.ne_of_lt lA4.2.2.2.2.2.2.2.2.1) | (with_reducible exact Nat.ne_of_lt lA4.2.2.2.2.2.2.2.2.2.1) | (with_reducible exact Nat.ne_of_lt lA4.2.2.2.2.2.2.2.2.2.2.1) | (with_reducible exact Nat.ne_of_lt lA4.2.2.2.2.2.2.2.2.2.2.2.1) | (with_reducible exact Nat.ne_of_lt lA4.2.2.2.2.2.2.2.2.2.2.2.2.1) | (with_reducible exact Nat.ne_of_lt lA3.1) | (with_reducible exact Nat.ne_of_lt lA3.2.1) | (with_reducible exact Nat.ne_of_lt lA3.2.2.1) | (with_reducible exact Nat.ne_of_lt lA3.2.2.2.1) | (with_reducible exact Nat.ne_of_lt lA3.2.2.2.2.1) | (with_reducible exact Nat.ne_of_lt lA3.2.2.2.2.2.1) | (with_reducible exact Nat.ne_of_lt lA3.2.2.2.2.2.2.1) | (with_reducible exact Nat.ne_of_lt lA3.2.2.2.2.2.2.2.1) | (with_reducible exact Nat.ne_of_lt lA3.2.2.2.2.2.2.2.2.1) | (with_reducible exact Nat.ne_of_lt lA3.2.2.2.2.2.2.2.2.2.1) | (with_reducible exact Nat.ne_of_lt lA3.2.2.2.2.2.2.2.2.2.2.1) | (with_reducible exact Nat.ne_of_lt lA3.2.2.2.2.2.2.2.2.2.2.2.1) | (with_reducible exact Nat.ne_of_lt lA3.2.2.2.2.2.2.2.2.2.2.2.2.1) | (with_reducible exact Nat.ne_of_lt lA2.1) | (with_reducible exact Nat.ne_of_lt lA2.2.1) | (with_reducible exact Nat.ne_of_lt lA2.2.2.1) | (with_reducible exact Nat.ne_of_lt lA2.2.2.2.1) | (with_reducible exact Nat.ne_of_lt lA2.2.2.2.2.1) | (with_reducible exact Nat.ne_of_lt lA2.2.2.2.2.2.1) | (with_reducible exact Nat.ne_of_lt lA2.2.2.2.2.2.2.1) | (with_reducible exact Nat.ne_of_lt lA2.2.2.2.2.2.2.2.1) | (with_reducible exact Nat.ne_of_lt lA2.2.2.2.2.2.2.2.2.1) | (with_reducible exact Nat.ne_of_lt lA2.2.2.2.2.2.2.2.2.2.1) | (with_reducible exact Nat.ne_of_lt lA2.2.2.2.2.2.2.2.2.2.2.1) | (with_reducible exact Nat.ne_of_lt lA2.2.2.2.2.2.2.2.2.2.2.2.1) | (with_reducible exact Nat.ne_of_lt lA2.2.2.2.2.2.2.2.2.2.2.2.2.1) | (with_reducible exact Nat.ne_of_lt lA1.1) | (with_reducible exact Nat.ne_of_lt lA1.2.1) | (with_reducible exact Nat.ne_of_lt lA1.2.2.1) | (with_reducible exact Nat.ne_of_lt lA1.2.2.2.1) | (with_reducible exact Nat.ne_of_lt lA1.2.2.2.2.1) | (with_reducible exact Nat.ne_of_lt lA1.2.2.2.2.2.1) | (with_reducible exact Nat.ne_of_lt lA1.2.2.2.2.2.2.1) | (with_reducible exact Nat.ne_of_lt lA1.2.2.2.2.2.2.2.1) | (with_reducible exact Nat.ne_of_lt lA1.2.2.2.2.2.2.2.2.1) | (with_reducible exact Nat.ne_of_lt lA1.2.2.2.2.2.2.2.2.2.1) | (with_reducible exact Nat.ne_of_lt lA1.2.2.2.2.2.2.2.2.2.2.1) | (with_reducible exact Nat.ne_of_lt lA1.2.2.2.2.2.2.2.2.2.2.2.1) | (with_reducible exact Nat.ne_of_lt lA1.2.2.2.2.2.2.2.2.2.2.2.2.1) | omega)) | (have := b1 x hx; exact Nat.ne_of_lt (Nat.lt_add_right _ this)) | (have := b1 x hx; refine neN ?_; omega)
  case w9 =>
    intro x hx
    simp only [List.mem_cons] at hx
    rcases hx with rfl | rfl | rfl | rfl | rfl | rfl | hx
    all_goals first | (refine neN ?_; dsimp only; (first | (with_reducible exact Nat.ne_of_gt lA7.1) | (with_reducible exact Nat.ne_of_gt lA7.2.1) | (with_reducible exact Nat.ne_of_gt lA7.2.2.1) | (with_reducible exact Nat.ne_of_gt lA7.2.2.2.1) | (with_reducible exact Nat.ne_of_gt lA7.2.2.2.2.1) | (with_reducible exact Nat.ne_of_gt lA7.2.2.2.2.2.1) | (with_reducible exact Nat.ne_of_gt lA7.2.2.2.2.2.2.1) | (with_reducible exact Nat.ne_of_gt lA7.2.2.2.2.2.2.2.1) | (with_reducible exact Nat.ne_of_gt lA7.2.2.2.2.2.2.2.2.1) | (with_reducible exact Nat.ne_of_gt lA7.2.2.2.2.2.2.2.2.2.1) | (with_reducible exact Nat.ne_of_gt lA7.2.2.2.2.2.2.2.2.2.2.1) | (with_reducible exact Nat.ne_of_gt lA7.2.2.2.2.2.2.2.2.2.2.2.1) | (with_reducible exact Nat.ne_of_gt lA7.2.2.2.2.2.2.2.2.2.2.2.2.1) | (with_reducible exact Nat.ne_of_gt lA6.1) | (with_reducible exact Nat.ne_of_gt lA6.2.1) | (with_reducible exact Nat.ne_of_gt lA6.2.2.1) | (with_reducible exact Nat.ne_of_gt lA6.2.2.2.1) | (with_reducible exact Nat.ne_of_gt lA6.2.2.2.2.1) | (with_reducible exact Nat.ne_of_gt lA6.2.2.2.2.2.1) | (with_reducible exact Nat.ne_of_gt lA6.2.2.2.2.2.2.1) | (with_reducible exact Nat.ne_of_gt lA6.2.2.2.2.2.2.2.1) | (with_reducible exact Nat.ne_of_gt lA6.2.2.2.2.2.2.2.2.1) | (with_reducible exact Nat.ne_of_gt lA6.2.2.2.2.2.2.2.2.2.1) | (with_reducible exact Nat.ne_of_gt lA6.2.2.2.2.2.2.2.2.2.2.1) | (with_reducible exact Nat.ne_of_gt lA6.2.2.2.2.2.2.2.2.2.2.2.1) | (with_reducible exact Nat.ne_of_gt lA6.2.2.2.2.2.2.2.2.2.2.2.2.1) | (with_reducible exact Nat.ne_of_gt lA5.1) | (with_reducible exact Nat.ne_of_gt lA5.2.1) | (with_reducible exact Nat.ne_of_gt lA5.2.2.1) | (with_reducible exact Nat.ne_of_gt lA5.2.2.2.1) | (with_reducible exact Nat.ne_of_gt lA5.2.2.2.2.1) | (with_reducible exact Nat.ne_of_gt lA5.2.2.2.2.2.1) | (with_reducible exact Nat.ne_of_gt lA5.2.2.2.2.2.2.1) | (with_reducible exact Nat.ne_of_gt lA5.2.2.2.2.2.2.2.1) | (with_reducible exact Nat.ne_of_gt lA5.2.2.2.2.2.2.2.2.1) | (with_reducible exact Nat.ne_of_gt lA5.2.2.2.2.2.2.2.2.2.1) | (with_reducible exact Nat.ne_of_gt lA5.2.2.2.2.2.2.2.2.2.2.1) | (with_reducible exact Nat.ne_of_gt lA5.2.2.2.2.2.2.2.2.2.2.2.1) | (with_reducible exact Nat.ne_of_gt lA5.2.2.2.2.2.2.2.2.2.2.2.2.1) | (with_reducible exact Nat.ne_of_gt lA4.1) | (with_reducible exact Nat.ne_of_gt lA4.2.1) | (with_reducible exact Nat.ne_of_gt lA4.2.2.1) | (with_reducible exact Nat.ne_of_gt lA4.2.2.2.1) | (with_reducible exact Nat.ne_of_gt lA4.2.2.2.2.1) | (with_reducible exact Nat.ne_of_gt lA4.2.2.2.2.2.1) | (with_reducible exact Nat.ne_of_gt lA4.2.2.2.2.2.2.1) | (with_reducible exact Nat.ne_of_gt lA4.2.2.2.2.2.2.2.1) | (with_reducible exact Nat.ne_of_gt lA4.2.2.2.2.2.2.2.2.1) | (with_reducible exact Nat.ne_of_gt lA4.2.2.2.2.2.2.2.2.2.1) | (with_reducible exact Nat.ne_of_gt lA4.2.2.2.2.2.2.2.2.2.2.1) | (with_reducible exact Nat.ne_of_gt lA4.2.2.2.2.2.2.2.2.2.2.2.1) | (with_reducible exact Nat.ne_of_gt lA4.2.2.2.2.2.2.2.2.2.2.2.2.1) | (with_reducible exact Nat.ne_of_gt lA3.1) | (with_reducible exact Nat.ne_of_gt lA3.2.1) | (with_reducible exact Nat.ne_of_gt lA3.2.2.1) | (with_reducible exact Nat.ne_of_gt lA3.2.2.2.1) | (with_reducible exact Nat.ne_of_gt lA3.2.2.2.2.1) | (with_reducible exact Nat.ne_of_gt lA3.2.2.2.2.2.1) | (with_reducible exact Nat.ne_of_gt lA3.2.2.2.2.2.2.1) | (with_reducible exact Nat.ne_of_gt lA3.2.2.2.2.2.2.2.1) | (with_reducible exact Nat.ne_of_gt lA3.2.2.2.2.2.2.2.2.1) | (with_reducible exact Nat.ne_of_gt lA3.2.2.2.2.2.2.2.2.2.1) | (with_reducible exact Nat.ne_of_gt lA3.2.2.2.2.2.2.2.2.2.2.1) | (with_reducible exact Nat.ne_of_gt lA3.2.2.2.2.2.2.2.2.2.2.2.1) | (with_reducible exact Nat.ne_of_gt lA3.2.2.2.2.2.2.2.2.2.2.2.2.1) | (with_reducible exact Nat.ne_of_gt lA2.1) | (with_reducible exact Nat.ne_of_gt lA2.2.1) | (with_reducible exact Nat.ne_of_gt lA2.2.2.1) | (with_reducible exact Nat.ne_of_gt lA2.2.2.2.1) | (with_reducible exact Nat.ne_of_gt lA2.2.2.2.2.1) | (with_reducible exact Nat.ne_of_gt lA2.2.2.2.2.2.1) | (with_reducible exact Nat.ne_of_gt lA2.2.2.2.2.2.2.1) | (with_reducible exact Nat.ne_of_gt lA2.2.2.2.2.2.2.2.1) | (with_reducible exact Nat.ne_of_gt lA2.2.2.2.2.2.2.2.2.1) | (with_reducible exact Nat.ne_of_gt lA2.2.2.2.2.2.2.2.2.2.1) | (with_reducible exact Nat.ne_of_gt lA2.2.2.2.2.2.2.2.2.2.2.1) | (with_reducible exact Nat.ne_of_gt lA2.2.2.2.2.2.2.2.2.2.2.2.1) | (with_reducible exact Nat.ne_of_gt lA2.2.2.2.2.2.2.2.2.2.2.2.2.1) | (with_reducible exact Nat.ne_of_gt lA1.1) | (with_reducible exact Nat.ne_of_gt lA1.2.1) | (with_reducible exact Nat.ne_of_gt lA1.2.2.1) | (with_reducible exact Nat.ne_of_gt lA1.2.2.2.1) | (with_reducible exact Nat.ne_of_gt lA1.2.2.2.2.1) | (with_reducible exact Nat.ne_of_gt lA1.2.2.2.2.2.1) | (with_reducible exact Nat.ne_of_gt lA1.2.2.2.2.2.2.1) | (with_reducible exact Nat.ne_of_gt lA1.2.2.2.2.2.2.2.1) | (with_reducible exact Nat.ne_of_gt lA1.2.2.2.2.2.2.2.2.1) | (with_reducible exact Nat.ne_of_gt lA1.2.2.2.2.2.2.2.2.2.1) | (with_reducible exact Nat.ne_of_gt lA1.2.2.2.2.2.2.2.2.2.2.1) | (with_reducible exact Nat.ne_of_gt lA1.2.2.2.2.2.2.2.2.2.2.2.1) | (with_reducible exact Nat.ne_of_gt lA1.2.2.2.2.2.2.2.2.2.2.2.2.1) | (with_reducible exact Nat.ne_of_lt lA7.1) | (with_reducible exact Nat.ne_of_lt lA7.2.1) | (with_reducible exact Nat.ne_of_lt lA7.2.2.1) | (with_reducible exact Nat.ne_of_lt lA7.2.2.2.1) | (with_reducible exact Nat.ne_of_lt lA7.2.2.2.2.1) | (with_reducible exact Nat.ne_of_lt lA7.2.2.2.2.2.1) | (with_reducible exact Nat.ne_of_lt lA7.2.2.2.2.2.2.1) | (with_reducible exact Nat.ne_of_lt lA7.2.2.2.2.2.2.2.1) | (with_reducible exact Nat.ne_of_lt lA7.2.2.2.2.2.2.2.2.1) | (with_reducible exact Nat.ne_of_lt lA7.2.2.2.2.2.2.2.2.2.1) | (with_reducible exact Nat.ne_of_lt lA7.2.2.2.2.2.2.2.2.2.2.1) | (with_reducible exact Nat.ne_of_lt lA7.2.2.2.2.2.2.2.2.2.2.2.1) | (with_reducible exact Nat.ne_of_lt lA7.2.2.2.2.2.2.2.2.2.2.2.2.1) | (with_reducible exact Nat.ne_of_lt lA6.1) | (with_reducible exact Nat.ne_of_lt lA6.2.1) | (with_reducible exact Nat.ne_of_lt lA6.2.2.1) | (with_reducible exact Nat.ne_of_lt lA6.2.2.2.1) | (with_reducible exact Nat.ne_of_lt lA6.2.2.2.2.1) | (with_reducible exact Nat.ne_of_lt lA6.2.2.2.2.2.1) | (with_reducible exact Nat.ne_of_lt lA6.2.2.2.2.2.2.1) | (with_reducible exact Nat.ne_of_lt lA6.2.2.2.2.2.2.2.1) | (with_reducible exact Nat.ne_of_lt lA6.2.2.2.2.2.2.2.2.1) | (with_reducible exact Nat.ne_of_lt lA6.2.2.2.2.2.2.2.2.2.1) | (with_reducible exact Nat.ne_of_lt lA6.2.2.2.2.2.2.2.2.2.2.1) | (with_reducible exact Nat.ne_of_lt lA6.2.2.2.2.2.2.2.2.2.2.2.1) | (with_reducible exact Nat.ne_of_lt lA6.2.2.2.2.2.2.2.2.2.2.2.2.1) | (with_reducible exact Nat.ne_of_lt lA5.1) | (with_reducible exact Nat.ne_of_lt lA5.2.1) | (with_reducible exact Nat.ne_of_lt lA5.2.2.1) | (with_reducible exact Nat.ne_of_lt lA5.2.2.2.1) | (with_reducible exact Nat.ne_of_lt lA5.2.2.2.2.1) | (with_reducible exact Nat.ne_of_lt lA5.2.2.2.2.2.1) | (with_reducible exact Nat.ne_of_lt lA5.2.2.2.2.2.2.1) | (with_reducible exact Nat.ne_of_lt lA5.2.2.2.2.2.2.2.1) | (with_reducible exact Nat.ne_of_lt lA5.2.2.2.2.2.2.2.2.1) | (with_reducible exact Nat.ne_of_lt lA5.2.2.2.2.2.2.2.2.2.1) | (with_reducible exact Nat.ne_of_lt lA5.2.2.2.2.2.2.2.2.2.2.1) | (with_reducible exact Nat.ne_of_lt lA5.2.2.2.2.2.2.2.2.2.2.2.1) | (with_reducible exact Nat.ne_of_lt lA5.2.2.2.2.2.2.2.2.2.2.2.2.1) | (with_reducible exact Nat.ne_of_lt lA4.1) | (with_reducible exact Nat.ne_of_lt lA4.2.1) | (with_reducible exact Nat.ne_of_lt lA4.2.2.1) | (with_reducible exact Nat.ne_of_lt lA4.2.2.2.1) | (with_reducible exact Nat.ne_of_lt lA4.2.2.2.2.1) | (with_reducible exact Nat.ne_of_lt lA4.2.2.2.2.2.1) | (with_reducible exact Nat.ne_of_lt lA4.2.2.2.2.2.2.1) | (with_reducible exact Nat.ne_of_lt lA4.2.2.2.2.2.2.2.1) | (with_reducible exact Nat.ne_of_lt lA4.2.2.2.2.2.2.2.2.1) | (with_reducible exact Nat.ne_of_lt lA4.2.2.2.2.2.2.2.2.2.1) | (with_reducible exact Nat.ne_of_lt lA4.2.2.2.2.2.2.2.2.2.2.1) | (with_reducible exact Nat.ne_of_lt lA4.2.2.2.2.2.2.2.2.2.2.2.1) | (with_reducible exact Nat.ne_of_lt lA4.2.2.2.2.2.2.2.2.2.2.2.2.1) | (with_reducible exact Nat.ne_of_lt lA3.1) | (with_reducible exact Nat.ne_of_lt lA3.2.1) | (with_reducible exact Nat.ne_of_lt lA3.2.2.1) | (with_reducible exact Nat.ne_of_lt lA3.2.2.2.1) | (with_reducible exact Nat.ne_of_lt lA3.2.2.2.2.1) | (with_reducible exact Nat.ne_of_lt lA3.2.2.2.2.2.1) | (with_reducible exact Nat.ne_of_lt lA3.2.2.2.2.2.2.1) | (with_reducible exact Nat.ne_of_lt lA3.2.2.2.2.2.2.2.1) | (with_reducible exact Nat.ne_of_lt lA3.2.2.2.2.2.2.2.2.1) | (with_reducible exact Nat.ne_of_lt lA3.2.2.2.2.2.2.2.2.2.1) | (with_reducible exact Nat.ne_of_lt lA3.2.2.2.2.2.2.2.2.2.2.1) | (with_reducible exact Nat.ne_of_lt lA3.2.2.2.2.2.2.2.2.2.2.2.1) | (with_reducible exact Nat.ne_of_lt lA3.2.2.2.2.2.2.2.2.2.2.2.2.1) | (with_reducible exact Nat.ne_of_lt lA2.1) | (with_reducible exact Nat.ne_of_lt lA2.2.1) | (with_reducible exact Nat.ne_of_lt lA2.2.2.1) | (with_reducible exact Nat.ne_of_lt lA2.2.2.2.1) | (with_reducible exact Nat.ne_of_lt lA2.2.2.2.2.1) | (with_reducible exact Nat.ne_of_lt lA2.2.2.2.2.2.1) | (with_reducible exact Nat.ne_of_lt lA2.2.2.2.2.2.2.1) | (with_reducible exact Nat.ne_of_lt lA2.2.2.2.2.2.2.2.1) | (with_reducible exact Nat.ne_of_lt lA2.2.2.2.2.2.2.2.2.1) | (with_reducible exact Nat.ne_of_lt lA2.2.2.2.2.2.2.2.2.2.1) | (with_reducible exact Nat.ne_of_lt lA2.2.2.2.2.2.2.2.2.2.2.1) | (with_reducible exact Nat.ne_of_lt lA2.2.2.2.2.2.2.2.2.2.2.2.1) | (with_reducible exact Nat.ne_of_lt lA2.2.2.2.2.2.2.2.2.2.2.2.2.1) | (with_reducible exact Nat.ne_of_lt lA1.1) | (with_reducible exact Nat.ne_of_lt lA1.2.1) | (with_reducible exact Nat.ne_of_lt lA1.2.2.1) | (with_reducible exact Nat.ne_of_lt lA1.2.2.2.1) | (with_reducible exact Nat.ne_of_lt lA1.2.2.2.2.1) | (with_reducible exact Nat.ne_of_lt lA1.2.2.2.2.2.1) | (with_reducible exact Nat.ne_of_lt lA1.2.2.2.2.2.2.1) | (with_reducible exact Nat.ne_of_lt lA1.2.2.2.2.2.2.2.1) | (with_reducible exact Nat.ne_of_lt lA1.2.2.2.2.2.2.2.2.1) | (with_reducible exact Nat.ne_of_lt lA1.2.2.2.2.2.2.2.2.2.1) | (with_reducible exact Nat.ne_of_lt lA1.2.2.2.2.2.2.2.2.2.2.1) | (with_reducible exact Nat.ne_of_lt lA1.2.2.2.2.2.2.2.2.2.2.2.1) | (with_reducible exact Nat.ne_of_lt lA1.2.2.2.2.2.2.2.2.2.2.2.2.1) | omega)) | (have := b1 x hx; refine neN ?_; omega)
  case r9 =>
    refine .cons ⟨r0, _, 0, rfl, .head _, ?_⟩ .nil
    refine .cons ⟨e1, [], 0, rfl, ?_, .nil⟩ (.cons ⟨e2, [], 0, rfl, ?_, .nil⟩ (.cons ⟨e3, [], 0, rfl, ?_, .nil⟩ (.cons ⟨e4, [], 0, rfl, ?_, .nil⟩ (.cons ⟨e5, [], 0, rfl, ?_, .nil⟩ .nil))))
    all_goals simp
  case s9 =>
    intro x hx
    simp only [List.mem_cons, List.not_mem_nil, or_false] at hx ⊢
    rcases hx with rfl | rfl | rfl | rfl | rfl | rfl <;> simp
  case f9 => exact .tail _ (.tail _ (.tail _ (.tail _ (.tail _ (.tail _ hm)))))
  case k9 =>
    intro m9 nx9 h9 tk9 hJ9 F9 N9
    obtain ⟨o2n, o3n, o4n, o5n, vsT, n9, nw9, v2n, v3n, v4n, v5n, rfl, d2n, d3n, d4n, d5n, off9, hw9, hnt9, hm9, hT9⟩ := hJ9
    have eq9 : nw9 ++ ((r0, W.listOf [Value.ref e1, Value.ref e2, Value.ref e3, Value.ref e4, Value.ref e5].toArray 0) :: (e5, W.listOf #[] 0) :: (e4, W.listOf #[] 0) :: (e3, W.listOf #[] 0) :: (e2, W.listOf #[] 0) :: (e1, W.listOf #[] 0) :: news) = (nw9 ++ [(r0, W.listOf [Value.ref e1, Value.ref e2, Value.ref e3, Value.ref e4, Value.ref e5].toArray 0), (e5, W.listOf #[] 0), (e4, W.listOf #[] 0), (e3, W.listOf #[] 0), (e2, W.listOf #[] 0), (e1, W.listOf #[] 0)]) ++ news := by simp
    rw [eq9] at N9 off9 hw9
    generalize hnn : nw9 ++ [(r0, W.listOf [Value.ref e1, Value.ref e2, Value.ref e3, Value.ref e4, Value.ref e5].toArray 0), (e5, W.listOf #[] 0), (e4, W.listOf #[] 0), (e3, W.listOf #[] 0), (e2, W.listOf #[] 0), (e1, W.listOf #[] 0)] = nn at N9 off9 hw9 hT9
    dsimp only
    k_steps
    refine hret t vsT n9 nn h9 _ (fun x hx => hw9 x (List.mem_append_left _ hx)) (fun y hy => hw9 y (List.mem_append_right _ hy)) (fun x hx y hy => ?_) hT9 (by assumption) (fun x hx => ?_)
    · have hy1 := b1 y hy
      rw [← hnn] at hx
      rcases List.mem_append.mp hx with hx | hx
      · exact hnt9 x hx y (.tail _ (.tail _ (.tail _ (.tail _ (.tail _ (.tail _ hy))))))
      · simp only [List.mem_cons, List.not_mem_nil, or_false] at hx
        rcases hx with rfl | rfl | rfl | rfl | rfl | rfl
        all_goals (refine neN ?_; dsimp only; (first | (with_reducible exact Nat.ne_of_gt (Nat.lt_trans (Nat.lt_trans hy1 (Nat.lt_succ_self _)) lA7.1)) | (with_reducible exact Nat.ne_of_gt (Nat.lt_trans (Nat.lt_trans hy1 (Nat.lt_succ_self _)) lA7.2.1)) | (with_reducible exact Nat.ne_of_gt (Nat.lt_trans (Nat.lt_trans hy1 (Nat.lt_succ_self _)) lA7.2.2.1)) | (with_reducible exact Nat.ne_of_gt (Nat.lt_trans (Nat.lt_trans hy1 (Nat.lt_succ_self _)) lA7.2.2.2.1)) | (with_reducible exact Nat.ne_of_gt (Nat.lt_trans (Nat.lt_trans hy1 (Nat.lt_succ_self _)) lA7.2.2.2.2.1)) | (with_reducible exact Nat.ne_of_gt (Nat.lt_trans (Nat.lt_trans hy1 (Nat.lt_succ_self _)) lA7.2.2.2.2.2.1)) | (with_reducible exact Nat.ne_of_gt (Nat.lt_trans (Nat.lt_trans hy1 (Nat.lt_succ_self _)) lA7.2.2.2.2.2.2.1)) | (with_reducible exact Nat.ne_of_gt (Nat.lt_trans (Nat.lt_trans hy1 (Nat.lt_succ_self _)) lA7.2.2.2.2.2.2.2.1)) | (with_reducible exact Nat.ne_of_gt (Nat.lt_trans (Nat.lt_trans hy1 (Nat.lt_succ_self _)) lA7.2.2.2.2.2.2.2.2.1)) | (with_reducible exact Nat.ne_of_gt (Nat.lt_trans (Nat.lt_trans hy1 (Nat.lt_succ_self _)) lA7.2.2.2.2.2.2.2.2.2.1)) | (with_reducible exact Nat.ne_of_gt (Nat.lt_trans (Nat.lt_trans hy1 (Nat.lt_succ_self _)) lA7.2.2.2.2.2.2.2.2.2.2.1)) | (with_reducible exact Nat.ne_of_gt (Nat.lt_trans (Nat.lt_trans hy1 (Nat.lt_succ_self _)) lA7.2.2.2.2.2.2.2.2.2.2.2.1)) | (with_reducible exact Nat.ne_of_gt (Nat.lt_trans (Nat.lt_trans hy1 (Nat.lt_succ_self _)) lA7.2.2.2.2.2.2.2.2.2.2.2.2.1)) | (with_reducible exact Nat.ne_of_gt (Nat.lt_trans (Nat.lt_trans hy1 (Nat.lt_succ_self _)) lA6.1)) | (with_reducible exact Nat.ne_of_gt (Nat.lt_trans (Nat.lt_trans hy1 (Nat.lt_succ_self _)) lA6.2.1)) | (with_reducible exact Nat.ne_of_gt (Nat.lt_trans (Nat.lt_trans hy1 (Nat.lt_succ_self _)) lA6.2.2.1)) | (with_reducible exact Nat.ne_of_gt (Nat.lt_trans (Nat.lt_trans hy1 (Nat.lt_succ_self _)) lA6.2.2.2.1)) | (with_reducible exact Nat.ne_of_gt (Nat.lt_trans (Nat.lt_trans hy1 (Nat.lt_succ_self _)) lA6.2.2.2.2.1)) | (with_reducible exact Nat.ne_of_gt (Nat.lt_trans (Nat.lt_trans hy1 (Nat.lt_succ_self _)) lA6.2.2.2.2.2.1)) | (with_reducible exact Nat.ne_of_gt (Nat.lt_trans (Nat.lt_trans hy1 (Nat.lt_succ_self _)) lA6.2.2.2.2.2.2.1)) | (with_reducible exact Nat.ne_of_gt (Nat.lt_trans (Nat.lt_trans hy1 (Nat.lt_succ_self _)) lA6.2.2.2.2.2.2.2.1)) | (with_reducible exact Nat.ne_of_gt (Nat.lt_trans (Nat.lt_trans hy1 (Nat.lt_succ_self _)) lA6.2.2.2.2.2.2.2.2.1)) | (with_reducible exact Nat.ne_of_gt (Nat.lt_trans (Nat.lt_trans hy1 (Nat.lt_succ_self _)) lA6.2.2.2.2.2.2.2.2.2.1)) | (with_reducible exact Nat.ne_of_gt (Nat.lt_trans (Nat.lt_trans hy1 (Nat.lt_succ_self _)) lA6.2.2.2.2.2.2.2.2.2.2.1)) | (with_reducible exact Nat.ne_of_gt (Nat.lt_trans (Nat.lt_trans hy1 (Nat.lt_succ_self _)) lA6.2.2.2.2.2.2.2.2.2.2.2.1)) | (with_reducible exact Nat.ne_of_gt (Nat.lt_trans (Nat.lt_trans hy1 (Nat.lt_succ_self _)) lA6.2.2.2.2.2.2.2.2.2.2.2.2.1)) | (with_reducible exact Nat.ne_of_gt (Nat.lt_trans (Nat.lt_trans hy1 (Nat.lt_succ_self _)) lA5.1)) | (with_reducible exact Nat.ne_of_gt (Nat.lt_trans (Nat.lt_trans hy1 (Nat.lt_succ_self _)) lA5.2.1)) | (with_reducible exact Nat.ne_of_gt (Nat.lt_trans (Nat.lt_trans hy1 (Nat.lt_succ_self _)) lA5.2.2.1)) | (with_reducible exact Nat.ne_of_gt (Nat.lt_trans (Nat.lt_trans hy1 (Nat.lt_succ_self _)) lA5.2.2.2.1)) | (with_reducible exact Nat.ne_of_gt (Nat.lt_trans (Nat.lt_trans hy1 (Nat.lt_succ_self _)) lA5.2.2.2.2.1)) | (with_reducible exact Nat.ne_of_gt (Nat.lt_trans (Nat.lt_trans hy1 (Nat.lt_succ_self _)) lA5.2.2.2.2.2.1)) | (with_reducible exact Nat.ne_of_gt (Nat.lt_trans (Nat.lt_trans hy1 (Nat.lt_succ_self _)) lA5.2.2.2.2.2.2.1)) | (with_reducible exact Nat.ne_of_gt (Nat.lt_trans (Nat.lt_trans hy1 (Nat.lt_succ_self _)) lA5.2.2.2.2.2.2.2.1)) | (with_reducible exact Nat.ne_of_gt (Nat.lt_trans (Nat.lt_trans hy1 (Nat.lt_succ_self _)) lA5.2.2.2.2.2.2.2.2.1)) | (with_reducible exact Nat.ne_of_gt (Nat.lt_trans (Nat.lt_trans hy1 (Nat.lt_succ_self _)) lA5.2.2.2.2.2.2.2.2.2.1)) | (with_reducible exact Nat.ne_of_gt (Nat.lt_trans (Nat.lt_trans hy1 (Nat.lt_succ_self _)) lA5.2.2.2.2.2.2.2.2.2.2.1)) | (with_reducible exact Nat.ne_of_gt (Nat.lt_trans (Nat.lt_trans hy1 (Nat.lt_succ_self _)) lA5.2.2.2.2.2.2.2.2.2.2.2.1)) | (with_reducible exact Nat.ne_of_gt (Nat.lt_trans (Nat.lt_trans hy1 (Nat.lt_succ_self _)) lA5.2.2.2.2.2.2.2.2.2.2.2.2.1)) | (with_reducible exact Nat.ne_of_gt (Nat.lt_trans (Nat.lt_trans hy1 (Nat.lt_succ_self _)) lA4.1)) | (with_reducible exact Nat.ne_of_gt (Nat.lt_trans (Nat.lt_trans hy1 (Nat.lt_succ_self _)) lA4.2.1)) | (with_reducible exact Nat.ne_of_gt (Nat.lt_trans (Nat.lt_trans hy1 (Nat.lt_succ_self _)) lA4.2.2.1)) | (with_reducible exact Nat.ne_of_gt (Nat.lt_trans (Nat.lt_trans hy1 (Nat.lt_succ_self _)) lA4.2.2.2.1)) | (with_reducible exact Nat.ne_of_gt (Nat.lt_trans (Nat.lt_trans hy1 (Nat.lt_succ_self _)) lA4.2.2.2.2.1)) | (with_reducible exact Nat.ne_of_gt (Nat.lt_trans (Nat.lt_trans hy1 (Nat.lt_succ_self _)) lA4.2.2.2.2.2.1)) | (with_reducible exact Nat.ne_of_gt (Nat.lt_trans (Nat.lt_trans hy1 (Nat.lt_succ_self _)) lA4.2.2.2.2.2.2.1)) | (with_reducible exact Nat.ne_of_gt (Nat.lt_trans (Nat.lt_trans hy1 (Nat.lt_succ_self _)) lA4.2.2.2.2.2.2.2.1)) | (with_reducible exact Nat.ne_of_gt (Nat.lt_trans (Nat.lt_trans hy1 (Nat.lt_succ_self _)) lA4.2.2.2.2.2.2.2.2.1)) | (with_reducible exact Nat.ne_of_gt (Nat.lt_trans (Nat.lt_trans hy1 (Nat.lt_succ_self _)) lA4.2.2.2.2.2.2.2.2.2.1)) | (with_reducible exact Nat.ne_of_gt (Nat.lt_trans (Nat.lt_trans hy1 (Nat.lt_succ_self _)) lA4.2.2.2.2.2.2.2.2.2.2.1)) | (with_reducible exact Nat.ne_of_gt (Nat.lt_trans (Nat.lt_trans hy1 (Nat.lt_succ_self _)) lA4.2.2.2.2.2.2.2.2.2.2.2.1)) | (with_reducible exact Nat.ne_of_gt (Nat.lt_trans (Nat.lt_trans hy1 (Nat.lt_succ_self _)) lA4.2.2.2.2.2.2.2.2.2.2.2.2.1)) | (with_reducible exact Nat.ne_of_gt (Nat.lt_trans (Nat.lt_trans hy1 (Nat.lt_succ_self _)) lA3.1)) | (with_reducible exact Nat.ne_of_gt (Nat.lt_trans (Nat.lt_trans hy1 (Nat.lt_succ_self _)) lA3.2.1)) | (with_reducible exact Nat.ne_of_gt (Nat.lt_trans (Nat.lt_trans hy1 (Nat.lt_succ_self _)) lA3.2.2.1)) | (with_reducible exact Nat.ne_of_gt (Nat.lt_trans (Nat.lt_trans hy1 (Nat.lt_succ_self _)) lA3.2.2.2.1)) | (with_reducible exact Nat.ne_of_gt (Nat.lt_trans (Nat.lt_trans hy1 (Nat.lt_succ_self _)) lA3.2.2.2.2.1)) | (with_reducible exact Nat.ne_of_gt (Nat.lt_trans (Nat.lt_trans hy1 (Nat.lt_succ_self _)) lA3.2.2.2.2.2.1)) | (with_reducible exact Nat.ne_of_gt (Nat.lt_trans (Nat.lt_trans hy1 (Nat.lt_succ_self _)) lA3.2.2.2.2.2.2.1)) | (with_reducible exact Nat.ne_of_gt (Nat.lt_trans (Nat.lt_trans hy1 (Nat.lt_succ_self _)) lA3.2.2.2.2.2.2.2.1)) | (with_reducible exact Nat.ne_of_gt (Nat.lt_trans (Nat.lt_trans hy1 (Nat.lt_succ_self _)) lA3.2.2.2.2.2.2.2.2.1)) | (with_reducible exact Nat.ne_of_gt (Nat.lt_trans (Nat.lt_trans hy1 (Nat.lt_succ_self _)) lA3.2.2.2.2.2.2.2.2.2.1)) | (with_reducible exact Nat.ne_of_gt (Nat.lt_trans (Nat.lt_trans hy1 (Nat.lt_succ_self _)) lA3.2.2.2.2.2.2.2.2.2.2.1)) | (with_reducible exact Nat.ne_of_gt (Nat.lt_trans (Nat.lt_trans hy1 (Nat.lt_succ_self _)) lA3.2.2.2.2.2.2.2.2.2.2.2.1)) | (with_reducible exact Nat.ne_of_gt (Nat.lt_trans (Nat.lt_trans hy1 (Nat.lt_succ_self _)) lA3.2.2.2.2.2.2.2.2.2.2.2.2.1)) | (with_reducible exact Nat.ne_of_gt (Nat.lt_trans (Nat.lt_trans hy1 (Nat.lt_succ_self _)) lA2.1)) | (with_reducible exact Nat.ne_of_gt (Nat.lt_trans (Nat.lt_trans hy1 (Nat.lt_succ_self _)) lA2.2.1)) | (with_reducible exact Nat.ne_of_gt (Nat.lt_trans (Nat.lt_trans hy1 (Nat.lt_succ_self _)) lA2.2.2.1)) | (with_reducible exact Nat.ne_of_gt (Nat.lt_trans (Nat.lt_trans hy1 (Nat.lt_succ_self _)) lA2.2.2.2.1)) | (with_reducible exact Nat.ne_of_gt (Nat.lt_trans (Nat.lt_trans hy1 (Nat.lt_succ_self _)) lA2.2.2.2.2.1)) | (with_reducible exact Nat.ne_of_gt (Nat.lt_trans (Nat.lt_trans hy1 (Nat.lt_succ_self _)) lA2.2.2.2.2.2.1)) | (with_reducible exact Nat.ne_of_gt (Nat.lt_trans (Nat.lt_trans hy1 (Nat.lt_succ_self _)) lA2.2.2.2.2.2.2.1)) | (with_reducible exact Nat.ne_of_gt (Nat.lt_trans (Nat.lt_trans hy1 (Nat.lt_succ_self _)) lA2.2.2.2.2.2.2.2.1)) | (with_reducible exact Nat.ne_of_gt (Nat.lt_trans (Nat.lt_trans hy1 (Nat.lt_succ_self _)) lA2.2.2.2.2.2.2.2.2.1)) | (with_reducible exact Nat.ne_of_gt (Nat.lt_trans (Nat.lt_trans hy1 (Nat.lt_succ_self _)) lA2.2.2.2.2.2.2.2.2.2.1)) | (with_reducible exact Nat.ne_of_gt (Nat.lt_trans (Nat.lt_trans hy1 (Nat.lt_succ_self _)) lA2.2.2.2.2.2.2.2.2.2.2.1)) | (with_reducible exact Nat.ne_of_gt (Nat.lt_trans (Nat.lt_trans hy1 (Nat.lt_succ_self _)) lA2.2.2.2.2.2.2.2.2.2.2.2.1)) | (with_reducible exact Nat.ne_of_gt (Nat.lt_trans (Nat.lt_trans hy1 (Nat.lt_succ_self _)) lA2.2.2.2.2.2.2.2.2.2.2.2.2.1)) | (with_reducible exact Nat.ne_of_gt (Nat.lt_trans (Nat.lt_trans hy1 (Nat.lt_succ_self _)) lA1.1)) | (with_reducible exact Nat.ne_of_gt (Nat.lt_trans (Nat.lt_trans hy1 (Nat.lt_succ_self _)) lA1.2.1)) | (with_reducible exact Nat.ne_of_gt (Nat.lt_trans (Nat.lt_trans hy1 (Nat.lt_succ_self _)) lA1.2.2.1)) | (with_reducible exact Nat.ne_of_gt (Nat.lt_trans (Nat.lt_trans hy1 (Nat.lt_succ_self _)) lA1.2.2.2.1)) | (with_reducible exact Nat.ne_of_gt (Nat.lt_trans (Nat.lt_trans hy1 (Nat.lt_succ_self _)) lA1.2.2.2.2.1)) | (with_reducible exact Nat.ne_of_gt (Nat.lt_trans (Nat.lt_trans hy1 (Nat.lt_succ_self _)) lA1.2.2.2.2.2.1)) | (with_reducible exact Nat.ne_of_gt (Nat.lt_trans (Nat.lt_trans hy1 (Nat.lt_succ_self _)) lA1.2.2.2.2.2.2.1)) | (with_reducible exact Nat.ne_of_gt (Nat.lt_trans (Nat.lt_trans hy1 (Nat.lt_succ_self _)) lA1.2.2.2.2.2.2.2.1)) | (with_reducible exact Nat.ne_of_gt (Nat.lt_trans (Nat.lt_trans hy1 (Nat.lt_succ_self _)) lA1.2.2.2.2.2.2.2.2.1)) | (with_reducible exact Nat.ne_of_gt (Nat.lt_trans (Nat.lt_trans hy1 (Nat.lt_succ_self _)) lA1.2.2.2.2.2.2.2.2.2.1)) | (with_reducible exact Nat.ne_of_gt (Nat.lt_trans (Nat.lt_trans hy1 (Nat.lt_succ_self _)) lA1.2.2.2.2.2.2.2.2.2.2.1)) | (with_reducible exact Nat.ne_of_gt (Nat.lt_trans (Nat.lt_trans hy1 (Nat.lt_succ_self _)) lA1.2.2.2.2.2.2.2.2.2.2.2.1)) | (with_reducible exact Nat.ne_of_gt (Nat.lt_trans (Nat.lt_trans hy1 (Nat.lt_succ_self _)) lA1.2.2.2.2.2.2.2.2.2.2.2.2.1)) | omega))
    · refine (by assumption : News h₀ L h9 ((t, W.listOf vsT.toArray n9) :: (L' + 1, o1n) :: (L' + 1 + 1, o2n) :: (L' + 1 + 1 + 1, o3n) :: (L' + 1 + 1 + 1 + 1, o4n) :: (L' + 1 + 1 + 1 + 1 + 1, o5n) :: (nn ++ news))) x ?_
      rcases List.mem_cons.mp hx with rfl | hx
      · exact .head _
      · exact .tail _ (.tail _ (.tail _ (.tail _ (.tail _ (.tail _ hx)))))
end
end
section
set_option maxHeartbeats 8000000
section
open PySem PySem.W PySem.Calls PyProof.Rows PySem.Spec
section
variable {prog : Program} {w : World} {A : Around} {E : Value → Shared → Prop} {s : Shared} {env : Env} {h₀ : Heap} {elts : List PySem.Expr} {kk : Nat} {pos : Pos} {body : List Stmt} {Q : Flow → Shared → Prop}
/-- a loop over an enumerate object -/
theorem turns_enum {e it : Addr} {n : Nat} {P : Nat → Value → Prop} {St : Nat → Heap → Prop} {old : Value} {m₀ : Str → Option Value} {news keep : List (Addr × Obj)} (J : Nat → (Str → Option Value) → List (Addr × Obj) → Prop)
    (D : Draws prog w A.in1 it (it :: keep.map (·.1)) n P St) (hei : e ≠ it) (hek : ∀ p ∈ keep, p.1 ≠ e)
    (hLe : env.locals ≠ e) (hLi : env.locals ≠ it) (hLk : ∀ p ∈ keep, env.locals ≠ p.1) (he₀ : h₀.get? e = none) (hi₀ : h₀.get? it = none) (he : IsEnum s.heap e it 0 old) (hst : St 0 s.heap) (F : Fr h₀ env.locals s.heap m₀) (N : News h₀ env.locals s.heap news)
    (hn : ∀ p ∈ news, p.1 ≠ e ∧ p.1 ≠ it) (hj : J 0 m₀ news) (hkeep : ∀ i m nx, J i m nx → ∀ p ∈ keep, p ∈ nx)
    (turn : ∀ i v m₁ news₁ h tk oe oi T t, i < n → P i v → (∀ p ∈ news₁, p.1 ≠ e ∧ p.1 ≠ it) → J i m₁ news₁ → IsTup h T #[.int ((i : Nat) : Int) t, v] → Fr h₀ env.locals h m₁ → News h₀ env.locals h ((e, oe) :: (it, oi) :: news₁) →
      wpAny (model prog w) A (assign (.Tuple elts kk pos) env (.ref T)) (fun _ s₂ => wpAny (model prog w) A (execs body env) (FreePost h₀ env.locals (J (i + 1)) [(e, oe), (it, oi)] { s with heap := h, toks := tk } Q) E s₂) E { s with heap := h, toks := tk })
    (done : ∀ m₁ news₁ h tk, (∀ p ∈ news₁, p.1 ≠ e ∧ p.1 ≠ it) → J n m₁ news₁ → Fr h₀ env.locals h m₁ → News h₀ env.locals h news₁ → Q .next { s with heap := h, toks := tk }) :
    TurnsAt prog w A h₀ env (.Tuple elts kk pos) body Q E (.ref e) s := by
  have hef : e ∉ it :: keep.map (·.1) := fun hm => by
    rcases List.mem_cons.mp hm with q | hm
    · exact hei q
    · obtain ⟨p, hp, q⟩ := List.mem_map.mp hm
      exact hek p hp q
  refine ⟨e, _, _, n, _, _, _, m₀, news, J, rfl, KTurns.ofWalksU (WalksT.enumerateD D e hei hef (by simp)).toU, ?_, ?_, ?_, ⟨⟨old, he⟩, hst⟩, F, N, hj, ?_, ?_⟩
  · intro hm
    rcases List.mem_cons.mp hm with q | hm
    · exact hLe q
    · rcases List.mem_cons.mp hm with q | hm
      · exact hLi q
      · obtain ⟨p, hp, q⟩ := List.mem_map.mp hm
        exact hLk p hp q.symm
  · intro b hb
    rcases List.mem_cons.mp hb with q | hb
    · rw [q]; exact he₀
    · rw [List.mem_singleton.mp hb]; exact hi₀
  · intro p hp hI
    rcases List.mem_cons.mp hI with q | hI
    · exact (hn p hp).1 q
    · exact (hn p hp).2 (List.mem_singleton.mp hI)
  · rintro i v m₁ news₁ h₁ tk₁ own hin ⟨T, vals, rfl, ⟨t, x, hP, rfl⟩, hT⟩ hJ hoff hown hget hall ⟨⟨old₁, he₁⟩, hst₁⟩ F₁ N₁
    obtain ⟨oi, hoi⟩ := D.live _ _ hst₁
    obtain ⟨oe, hoe⟩ : ∃ oe, h₁.get? e = some oe := ⟨_, he₁⟩
    have hn₁ : ∀ p ∈ news₁, p.1 ≠ e ∧ p.1 ≠ it := fun p hp => ⟨fun q => hoff p hp (List.mem_cons.mpr (.inl q)), fun q => hoff p hp (List.mem_cons.mpr (.inr (List.mem_singleton.mpr q)))⟩
    have hme := hall e (.head _) he₀ _ hoe
    have hmi := hall it (.tail _ (.head _)) hi₀ _ hoi
    have N₂ : News h₀ env.locals h₁ ((e, oe) :: (it, oi) :: news₁) := fun p hp => by
      rcases List.mem_cons.mp hp with rfl | hp
      · exact N₁ _ (List.mem_append_left _ hme)
      rcases List.mem_cons.mp hp with rfl | hp
      · exact N₁ _ (List.mem_append_left _ hmi)
      · exact N₁ _ (List.mem_append_right _ hp)
    refine wpAny_mono (turn i x m₁ news₁ h₁ tk₁ oe oi T t hin hP hn₁ hJ hT F₁ N₂) (fun _ s₂ h₂ => wpAny_mono h₂ (fun f s₃ p => ?_) fun _ _ e => e) fun _ _ e => e
    have fin : FreeEnd h₀ env.locals (J (i + 1)) [(e, oe), (it, oi)] { s with heap := h₁, toks := tk₁ } s₃ → LoopStepU h₀ env.locals [e, it] own (J (i + 1)) { s with heap := h₁, toks := tk₁ } .next s₃ := by
      rintro ⟨h', tk, m', nx, q, F', N', ha, hm⟩
      refine ⟨rfl, h', tk, m', nx, q, F', ?_, ?_, hm⟩
      · rintro ⟨pa, po⟩ hp
        rcases List.mem_append.mp hp with hp | hp
        · have h2 : h₁.get? pa = some po := hget _ hp
          rcases List.mem_cons.mp (hown _ hp) with e1 | hk
          · have e1 : pa = e := e1
            subst e1
            have h6 : oe = po := Option.some.inj (hoe.symm.trans h2)
            subst h6
            exact N' _ (List.mem_append_left _ (.head _))
          rcases List.mem_cons.mp hk with e1 | hk
          · have e1 : pa = it := e1
            subst e1
            have h6 : oi = po := Option.some.inj (hoi.symm.trans h2)
            subst h6
            exact N' _ (List.mem_append_left _ (.tail _ (.head _)))
          · obtain ⟨⟨qa, qo⟩, hq, e1⟩ := List.mem_map.mp hk
            have e1 : qa = pa := e1
            subst e1
            have h4 : h₁.get? qa = some qo := (N₁ _ (List.mem_append_right _ (hkeep _ _ _ hJ _ hq))).1
            have h6 : qo = po := Option.some.inj (h4.symm.trans h2)
            subst h6
            exact N' _ (List.mem_append_right _ (hkeep _ _ _ hm _ hq))
        · exact N' _ (List.mem_append_right _ hp)
      · intro p hp hI
        rcases List.mem_cons.mp hI with q | hI
        · exact ha p hp _ (.head _) q
        · exact ha p hp _ (.tail _ (.head _)) (List.mem_singleton.mp hI)
    cases f with
    | ret v => exact .ret p
    | brk => exact .brk p
    | next => exact .next (fin p)
    | cont => exact .cont (fin p)
  · rintro h' tk m' news' F' N' ha hJ
    exact done m' news' h' tk (fun p hp => ⟨fun q => ha p hp (List.mem_cons.mpr (.inl q)), fun q => ha p hp (List.mem_cons.mpr (.inr (List.mem_singleton.mpr q)))⟩) hJ F' N'
/-- over enumerate of a list of the ledger -/
theorem turns_enumL {ax : Addr} {vs : List Value} {k : Nat} {m₀ : Str → Option Value} {news : List (Addr × Obj)} (J : Nat → (Str → Option Value) → List (Addr × Obj) → Prop)
    (hh : A.handled = none) (F : Fr h₀ env.locals s.heap m₀) (N : News h₀ env.locals s.heap news) (hj : J 0 m₀ news) (hkeep : ∀ i m nx, J i m nx → (ax, W.listOf vs.toArray k) ∈ nx)
    (turn : ∀ e it i v m₁ news₁ h tk oe oi T t, vs[i]? = some v → (∀ p ∈ news₁, p.1 ≠ e ∧ p.1 ≠ it) → (∀ p ∈ news, p.1 < it ∧ p.1 < e) → it < e → J i m₁ news₁ → IsTup h T #[.int ((i : Nat) : Int) t, v] → Fr h₀ env.locals h m₁ → News h₀ env.locals h ((e, oe) :: (it, oi) :: news₁) →
      wpAny (model prog w) A (assign (.Tuple elts kk pos) env (.ref T)) (fun _ s₂ => wpAny (model prog w) A (execs body env) (FreePost h₀ env.locals (J (i + 1)) [(e, oe), (it, oi)] { s with heap := h, toks := tk } Q) E s₂) E { s with heap := h, toks := tk })
    (done : ∀ m₁ news₁ h tk, J vs.length m₁ news₁ → Fr h₀ env.locals h m₁ → News h₀ env.locals h news₁ → Q .next { s with heap := h, toks := tk }) :
    wpAny (model prog w) A (call (.type "enumerate") [.ref ax]) (fun xv s₁ => wpAny (model prog w) A (pyIter xv) (fun it s₂ => TurnsAt prog w A h₀ env (.Tuple elts kk pos) body Q E it s₂) E s₁) E s := by
  have hax := N _ (hkeep _ _ _ hj)
  have hl : s.heap.IsList ax vs.toArray := ⟨_, hax.1, rfl, k, rfl⟩
  have hlt : ax < s.heap.objs.size := Heap.lt_size hax.1
  have hLs : env.locals < s.heap.objs.size := F.ns.lt
  have hls : ∀ p ∈ news, p.1 < s.heap.objs.size := fun p hp => Heap.lt_size (N p hp).1
  refine call_enumerate_list hl fun h' hE hI hsz hk => ?_
  refine wpAny_pyIter_enum hE ?_
  refine turns_enum (s := { s with heap := h' }) (keep := [(ax, W.listOf vs.toArray k)]) J (Draws.list (A := A.in1) hh s.heap.objs.size ax (Nat.ne_of_lt hlt) vs.toArray) (Nat.succ_ne_self _) (fun p hp => by rw [List.mem_singleton.mp hp]; exact Nat.ne_of_lt (Nat.lt_succ_of_lt hlt)) (Nat.ne_of_lt (Nat.lt_succ_of_lt hLs)) (Nat.ne_of_lt hLs) (fun p hp => by rw [List.mem_singleton.mp hp]; exact hax.2.1.symm)
    (ktu_new F (Nat.le_add_right _ _)) (ktu_new F (Nat.le_refl _)) hE ⟨hI, hl.at fun o e => hk ax o e⟩ (F.keeps hk) (N.grown hk) (fun p hp => ⟨Nat.ne_of_lt (Nat.lt_succ_of_lt (hls p hp)), Nat.ne_of_lt (hls p hp)⟩) hj (fun i m nx hJ p hp => by rw [List.mem_singleton.mp hp]; exact hkeep _ _ _ hJ) ?_ ?_
  · intro i v m₁ news₁ h tk oe oi T t hi hP hn hJ hT F₁ N₁
    exact turn _ _ i v m₁ news₁ h tk oe oi T t (by simpa using hP) hn (fun p hp => ⟨hls p hp, Nat.lt_succ_of_lt (hls p hp)⟩) (Nat.lt_succ_self _) hJ hT F₁ N₁
  · intro m₁ news₁ h tk _ hJ F₁ N₁
    rw [List.size_toArray] at hJ
    exact done m₁ news₁ h tk hJ F₁ N₁
/-- over enumerate of a text -/
theorem turns_enumS {xt : PySem.Str} {tx : Tok} {m₀ : Str → Option Value} {news : List (Addr × Obj)} (J : Nat → (Str → Option Value) → List (Addr × Obj) → Prop)
    (hh : A.handled = none) (F : Fr h₀ env.locals s.heap m₀) (N : News h₀ env.locals s.heap news) (hj : J 0 m₀ news)
    (turn : ∀ e it i c u m₁ news₁ h tk oe oi T t, xt.cps.toList[i]? = some c → (∀ p ∈ news₁, p.1 ≠ e ∧ p.1 ≠ it) → (∀ p ∈ news, p.1 < it ∧ p.1 < e) → it < e → J i m₁ news₁ → IsTup h T #[.int ((i : Nat) : Int) t, .str ⟨#[c]⟩ u] → Fr h₀ env.locals h m₁ → News h₀ env.locals h ((e, oe) :: (it, oi) :: news₁) →
      wpAny (model prog w) A (assign (.Tuple elts kk pos) env (.ref T)) (fun _ s₂ => wpAny (model prog w) A (execs body env) (FreePost h₀ env.locals (J (i + 1)) [(e, oe), (it, oi)] { s with heap := h, toks := tk } Q) E s₂) E { s with heap := h, toks := tk })
    (done : ∀ m₁ news₁ h tk, J xt.cps.toList.length m₁ news₁ → Fr h₀ env.locals h m₁ → News h₀ env.locals h news₁ → Q .next { s with heap := h, toks := tk }) :
    wpAny (model prog w) A (call (.type "enumerate") [.str xt tx]) (fun xv s₁ => wpAny (model prog w) A (pyIter xv) (fun it s₂ => TurnsAt prog w A h₀ env (.Tuple elts kk pos) body Q E it s₂) E s₁) E s := by
  have hLs : env.locals < s.heap.objs.size := F.ns.lt
  have hls : ∀ p ∈ news, p.1 < s.heap.objs.size := fun p hp => Heap.lt_size (N p hp).1
  refine call_enumerate_str fun h' hE hI hsz hk => ?_
  refine wpAny_pyIter_enum hE ?_
  have main : ∀ (St : Nat → Heap → Prop), Draws prog w A.in1 s.heap.objs.size [s.heap.objs.size] xt.cps.size (fun i v => ∃ c u, xt.cps[i]? = some c ∧ v = .str ⟨#[c]⟩ u) St → St 0 h' →
      TurnsAt prog w A h₀ env (.Tuple elts kk pos) body Q E (.ref (s.heap.objs.size + 1)) { s with heap := h' } := by
    intro St D hst
    refine turns_enum (s := { s with heap := h' }) (keep := []) J D (Nat.succ_ne_self _) (fun _ hp => nomatch hp) (Nat.ne_of_lt (Nat.lt_succ_of_lt hLs)) (Nat.ne_of_lt hLs) (fun _ hp => nomatch hp)
      (ktu_new F (Nat.le_add_right _ _)) (ktu_new F (Nat.le_refl _)) hE hst (F.keeps hk) (N.grown hk) (fun p hp => ⟨Nat.ne_of_lt (Nat.lt_succ_of_lt (hls p hp)), Nat.ne_of_lt (hls p hp)⟩) hj (fun _ _ _ _ _ hp => nomatch hp) ?_ ?_
    · rintro i v m₁ news₁ h tk oe oi T t hi ⟨c, u, hc, rfl⟩ hn hJ hT F₁ N₁
      exact turn _ _ i c u m₁ news₁ h tk oe oi T t (by simpa using hc) hn (fun p hp => ⟨hls p hp, Nat.lt_succ_of_lt (hls p hp)⟩) (Nat.lt_succ_self _) hJ hT F₁ N₁
    · intro m₁ news₁ h tk _ hJ F₁ N₁
      rw [← Array.length_toList] at hJ
      exact done m₁ news₁ h tk hJ F₁ N₁
  cases ha : xt.cps.all (· < 128)
  · have hit' : h'.IsStrIter s.heap.objs.size "str_iterator" xt tx 0 := by simpa [strIterType, ha] using hI
    exact main _ (Draws.strWide (A := A.in1) hh s.heap.objs.size xt tx) hit'
  · have hit' : h'.IsStrIter s.heap.objs.size "str_ascii_iterator" xt tx 0 := by simpa [strIterType, ha] using hI
    exact main _ (Draws.strAscii (A := A.in1) hh s.heap.objs.size xt tx) hit'
end
end
end
section
set_option maxHeartbeats 8000000
section
local macro_rules | `(tactic| walk_at "idle") => `(tactic| skip)
open PySem PySem.W PySem.Calls PyProof.Rows PySem.Spec
/-- the numbers in the set -/
noncomputable def b1L : List Int := [65024, 65025, 65026, 65027, 65028, 65029, 6150, 65030, 65031, 65032, 65033, 6155, 6156, 6157, 8203, 8204, 8205, 65034, 65035, 65036, 65037, 65038, 65039, 173, 847, 8288, 65279]
noncomputable def intPairs (es : List (Int × Value)) : Bool := es.all fun e => match e.2 with
  | .int v _ => v == e.1 && decide (0 ≤ v) && decide (v < 2 ^ 60)
  | _ => false
theorem intPairs_at {es : List (Int × Value)} (h : intPairs es = true) {e : Int × Value} (he : e ∈ es) : 0 ≤ e.1 ∧ e.1 < 2 ^ 60 ∧ ∃ t, e.2 = .int e.1 t := by
  have q := List.all_eq_true.mp h e he
  obtain ⟨k, v⟩ := e
  cases v <;> simp only [Bool.and_eq_true, beq_iff_eq, decide_eq_true_eq, Bool.false_eq_true] at q
  obtain ⟨⟨rfl, h0⟩, h1⟩ := q
  exact ⟨h0, h1, _, rfl⟩
theorem elems_of {p : Program} {w : World} {es : List (Int × Value)} (h : intPairs es = true) : ElemsOf (intKind p w) es := by
  intro e he
  obtain ⟨h0, h1, t, h2⟩ := intPairs_at h he
  refine ⟨⟨e.1, ?_, (hash_small h0 h1).symm⟩, ?_⟩
  · rw [h2]; simp [intKind, Value.isInt]
  · rw [h2]; rfl
theorem mem_pairs {p : Program} {w : World} {es : List (Int × Value)} (h : intPairs es = true) (k : Int) : k ∈ es.map (·.1) ↔ ∃ e ∈ es, (intKind p w).is k e.2 = true := by
  constructor
  · intro hk
    obtain ⟨e, he, rfl⟩ := List.mem_map.mp hk
    obtain ⟨_, _, t, h2⟩ := intPairs_at h he
    exact ⟨e, he, by rw [h2]; simp [intKind, Value.isInt]⟩
  · rintro ⟨e, he, hi⟩
    obtain ⟨_, _, t, h2⟩ := intPairs_at h he
    rw [h2] at hi
    have : e.1 = k := by simpa [intKind, Value.isInt] using hi
    exact List.mem_map.mpr ⟨e, he, this⟩
noncomputable def b1es : List (Int × Value) := match (o127 ({ strHash := fun _ => 0, shareClass := fun _ => 0, mergeTok := id, idOf := fun _ => 0, idOfShared := fun _ _ => 0, followText := fun _ => false, idOfImm := fun _ => 0 } : Params)).data with
  | .set es _ _ => es.toList
  | _ => []
theorem b1es_map : b1es.map (·.1) = b1L := by decide +kernel
theorem b1es_ok : intPairs b1es = true := by decide +kernel
theorem setOf127 {w : World} {h : Heap} (hh : h.get? 127 = some (o127 w.params)) : h.SetOf (intKind pw w) 127 (fun k => decide (k ∈ b1L)) 27 := by
  refine ⟨_, _, _, _, hh, ⟨rfl, rfl, rfl⟩, rfl, ?_, ?_, ?_, ?_, rfl⟩
  · exact elems_of (es := b1es) b1es_ok
  · intro k
    rw [decide_eq_true_eq, ← b1es_map]
    exact mem_pairs (p := pw) (w := w) b1es_ok k
  · show 27 < scanBound; decide
  · rfl
theorem in127 {w : World} {A A' : Around} {g base : Heap} {L : Addr} {m : Str → Option Value} {outer : List Env} {s : Shared} {E : Value → Shared → Prop} {c : Int} {t : Tok} {Q : Value → Shared → Prop} (F : Fr g L s.heap m) (B : Below A' base outer g) (hb : Tabs2 w base)
    (h : Q (.bool (decide (c ∈ b1L))) { s with toks := s.toks + 1 }) : wpAny (model pw w) A (compareOp .In (.int c t) (.ref 127)) Q E s :=
  wpAny_inSet_of (knd := intKind pw w) (by simp [intKind, Value.isInt]) rfl (setOf127 (F.keep _ _ (B.stays _ _ hb.1))) h
local macro_rules | `(tactic| walk_at "compareOp In int ref") => `(tactic| (k_here; (with_reducible show wpAny _ _ (compareOp CmpOp.In (Value.int _ _) (Value.ref _)) _ _ _); k_dflt (refine' in127 ?k1 ?k2 ?k3 ?_; (case k1 => k_asm); (case k2 => k_asm); (case k3 => assumption); k_whole)))
variable (w : World) (mean : ExcName → Option Value) (mg mb : Str → Option Value)
theorem cut_term (x : Int) (tk : Tok) : Cut w mean mg mb 28 1 8 [.int x tk] (Gives fun _ => .bool (decide (x < 256))) := by
  unfold Cut; k_fill; w_top off
  intro _ dp un gd cn cs a ccd cl outer A₀ base h₀ L m s Q E news B F X N T hk hb hd hu hret
  refine wpAny_call ?_
  k_dflt cell_enter
  k_steps
  exact hret 0 _ _ (by assumption) (by assumption)

theorem cut_eof (x : Int) (tk : Tok) : Cut w mean mg mb 35 1 8 [.int x tk] (Gives fun _ => .bool (x == 0)) := by
  unfold Cut; k_fill; w_top off
  intro _ dp un gd cn cs a ccd cl outer A₀ base h₀ L m s Q E news B F X N T hk hb hd hu hret
  refine wpAny_call ?_
  k_dflt cell_enter
  k_steps
  exact hret 0 _ _ (by assumption) (by assumption)

theorem cut_b1 (c : Nat) (tk : Tok) : Cut w mean mg mb 137 1 8 [.str ⟨#[c]⟩ tk] (Gives fun _ => .bool (decide ((c : Int) ∈ b1L))) := by
  unfold Cut; k_fill; w_top off
  intro _ dp un gd cn cs a ccd cl outer A₀ base h₀ L m s Q E news B F X N T hk hb hd hu hret
  refine wpAny_call ?_
  k_dflt cell_enter
  k_steps
  exact hret 0 _ _ (by assumption) (by assumption)
/-- the table's entries -/
noncomputable def entsB3 : List DictEntry := entsFrom 382 3 (pairsB3.take 646) ++ lastB3
/-- what the table tells of a number -/
noncomputable def findB3 (k : Int) : Option Value := findBy Value.isInt entsB3.toArray k
theorem keysOf_b3 : KeysOf (intKind pw w) entsB3.toArray := by
  intro e he
  have he : e ∈ entsB3 := by simpa using he
  have hi : IntEnt e := by
    rcases List.mem_append.mp he with h | h
    · exact entsFrom_int _ _ _ _ h
    · exact entsFrom_int _ _ _ _ h
  obtain ⟨t, ht⟩ := hi
  refine ⟨e.hash, by rw [ht]; simp [intKind, Value.isInt], ?_⟩
  have hm : e.hash ∈ pairsB3.map (·.1) := by
    have h1 : entsB3.map (·.hash) = pairsB3.map (·.1) := by
      unfold entsB3 lastB3
      rw [List.map_append, entsFrom_hash, entsFrom_hash, ← List.map_append, List.take_append_drop]
    rw [← h1]
    exact List.mem_map_of_mem he
  exact (good_pairs.2 _ hm).symm
theorem map138 {h : Heap} (hh : h.get? 138 = some (o138 w.params)) : h.MapOf (intKind pw w) 138 findB3 :=
  ⟨_, _, _, hh, ⟨rfl, rfl, rfl⟩, rfl, keysOf_b3 w, fun _ => rfl⟩
section
variable {w : World} {A A' : Around} {g base : Heap} {L : Addr} {m : Str → Option Value} {outer : List Env} {s : Shared} {E : Value → Shared → Prop}
theorem meth138 {pl : Sem Bool} {Q : Value × List Value → Shared → Prop} (F : Fr g L s.heap m) (B : Below A' base outer g) (hb : Tabs2 w base)
    (h : Q (.builtin "dict.get", [.ref 138]) s) : wpAny (model pw w) A (getMethod (.ref 138) "get" pl) Q E s :=
  have M := map138 w (F.keep _ _ (B.stays _ _ hb.2))
  getMethod_builtin M.typeIs PySem.F.plainAttrs_dict PySem.F.slot_dict_get PySem.F.type_dict_get M.noDict h
theorem get138 {c : Int} {t : Tok} {v : Option Value} {Q : Value → Shared → Prop} (F : Fr g L s.heap m) (B : Below A' base outer g) (hb : Tabs2 w base) (hv : findB3 c = v)
    (h : Q (v.getD .none) { s with toks := s.toks + 1 }) : wpAny (model pw w) A (call (.builtin "dict.get") [.ref 138, .int c t]) Q E s :=
  have M := map138 w (F.keep _ _ (B.stays _ _ hb.2))
  call_meetsIn PySem.F.slot_dict_get M.typeIs PySem.F.entry_dict_get (PySem.F.args_dict_get_2 _ _) (meets_dict_get (intKind pw w) 138 (k := c) (by simp [intKind, Value.isInt]) (by decide)) ⟨_, M, by rw [hv]; exact h⟩
end
local macro_rules | `(tactic| walk_at "getMethod ref") => `(tactic| (k_here; (with_reducible show wpAny _ _ (getMethod (Value.ref _) (PySem.Str.ofString "get") _) _ _ _); k_dflt (refine' meth138 ?k1 ?k2 ?k3 ?_; (case k1 => k_asm); (case k2 => k_asm); (case k3 => assumption); k_whole)))
local macro_rules | `(tactic| walk_at "call builtin:dict.get") => `(tactic| (k_here; (with_reducible show wpAny _ _ (call (Value.builtin _) [Value.ref _, Value.int _ _]) _ _ _); k_dflt (refine' get138 ?k1 ?k2 ?k3 ?k4 ?_; (case k1 => k_asm); (case k2 => k_asm); (case k3 => assumption); (case k4 => assumption); k_whole); (try dsimp only [Option.getD])))
local macro_rules | `(tactic| walk_at "call builtin:str.lower") => `(tactic| (k_here; k_dflt (refine' SC.lower ?k1 ?_; (case k1 => assumption); k_whole)))
theorem cut_b3n (c : Nat) (tk : Tok) (hf : findB3 (c : Int) = none) (hl : Builtin.Str.tooLong (Txt.lower ⟨#[c]⟩).length = false) : Cut w mean mg mb 183 1 8 [.str ⟨#[c]⟩ tk] (Gives fun t => .str (Txt.lower ⟨#[c]⟩) t) := by
  unfold Cut; k_fill; w_top off
  intro _ dp un gd cn cs a ccd cl outer A₀ base h₀ L m s Q E news B F X N T hk hb hd hu hret
  refine wpAny_call ?_
  k_dflt cell_enter
  k_steps
  exact hret _ _ _ (by assumption) (by assumption)
theorem cut_b3s (c : Nat) (tk : Tok) (v : PySem.Str) (tv : Tok) (hf : findB3 (c : Int) = some (.str v tv)) : Cut w mean mg mb 183 1 8 [.str ⟨#[c]⟩ tk] (Gives fun t => .str v t) := by
  unfold Cut; k_fill; w_top off
  intro _ dp un gd cn cs a ccd cl outer A₀ base h₀ L m s Q E news B F X N T hk hb hd hu hret
  refine wpAny_call ?_
  k_dflt cell_enter
  k_steps
  exact hret _ _ _ (by assumption) (by assumption)
/-- the signs that the law writes, and what each is read as -/
noncomputable def lowOf : Nat → Option Nat
  | 257 => some 257 | 256 => some 257 | 259 => some 259 | 258 => some 259 | 261 => some 261 | 260 => some 261
  | 97 => some 97 | 65 => some 97 | 119808 => some 97 | 255 => some 255 | 376 => some 255
  | _ => none
theorem cut_b3m (c d : Nat) (tk : Tok) (hf : findB3 (c : Int) = none) (hl : Builtin.Str.tooLong (Txt.lower ⟨#[c]⟩).length = false) (he : Txt.lower ⟨#[c]⟩ = ⟨#[d]⟩) : Cut w mean mg mb 183 1 8 [.str ⟨#[c]⟩ tk] (Gives fun t => .str ⟨#[d]⟩ t) := by
  rw [← he]; exact cut_b3n w mean mg mb c tk hf hl
theorem bold_a : (match findB3 119808 with | some (.str v _) => decide (v = ⟨#[97]⟩) | _ => false) = true := by decide +kernel
theorem bold_a' : ∃ t, findB3 119808 = some (.str ⟨#[97]⟩ t) := by
  have h := bold_a
  split at h
  · rename_i v t e
    exact ⟨t, by rw [e, of_decide_eq_true h]⟩
  · cases h
theorem no_alpha : ([257, 256, 259, 258, 261, 260, 97, 65, 255, 376].all fun c => !((pairsB3.map (·.1)).contains c)) = true := by decide +kernel
theorem findB3_none {k : Int} (h : (pairsB3.map (·.1)).contains k = false) : findB3 k = none := by
  unfold findB3 findBy
  rw [List.find?_toArray, Option.map_eq_none_iff, List.find?_eq_none]
  intro e he q
  have hi : IntEnt e := by
    rcases List.mem_append.mp he with h | h
    · exact entsFrom_int _ _ _ _ h
    · exact entsFrom_int _ _ _ _ h
  obtain ⟨t, ht⟩ := hi
  rw [ht] at q
  have hk : e.hash = k := by simpa [Value.isInt] using q
  have hm : e.hash ∈ pairsB3.map (·.1) := by
    have h1 : entsB3.map (·.hash) = pairsB3.map (·.1) := by
      unfold entsB3 lastB3
      rw [List.map_append, entsFrom_hash, entsFrom_hash, ← List.map_append, List.take_append_drop]
    rw [← h1]
    exact List.mem_map_of_mem he
  rw [hk, ← List.contains_iff_mem, h] at hm
  cases hm
theorem none_of {k : Int} (h : k ∈ ([257, 256, 259, 258, 261, 260, 97, 65, 255, 376] : List Int)) : findB3 k = none := by
  refine findB3_none ?_
  have := List.all_eq_true.mp no_alpha k h
  simpa using this
theorem cut_b3 (c d : Nat) (tk : Tok) (h : lowOf c = some d) : Cut w mean mg mb 183 1 8 [.str ⟨#[c]⟩ tk] (Gives fun t => .str ⟨#[d]⟩ t) := by
  unfold lowOf at h
  split at h
  all_goals first | (cases h; done) | (injection h with h; subst h)
  all_goals first
    | exact cut_b3m w mean mg mb _ _ tk (none_of (by decide)) (by decide +kernel) (by decide +kernel)
    | (obtain ⟨t, ht⟩ := bold_a'; exact cut_b3s w mean mg mb _ tk _ _ ht)
end
end
section
set_option maxHeartbeats 8000000
section
open PySem PySem.W PySem.Calls PyProof.Rows PySem.Spec
noncomputable abbrev KW (w : World) : Frag := Mine.hd.heap_1 w.params
/-- the pile: an object that is a list as well -/
noncomputable abbrev pileObj (d : Addr) (items : Array Value) (n : Nat) : Obj := { cls := .ref 115, dict := some d, data := .seq items n }
section
variable {w : World} {h : Heap}
theorem lk_made (X : (KW w).In h) : Looks (model pw w) h (Bind.madeBy (.ref 115)) (some "list.__new__") := .of_peek X (by kernel_rfl)
theorem lk_new (X : (KW w).In h) : Looks (model pw w) h (checkBuiltinCall "list.__new__" ⟨[.ref 115], []⟩) () := .of_peek X (by kernel_rfl)
theorem lk_tcall (X : (KW w).In h) : Looks (model pw w) h (checkBuiltinCall "type.__call__" ⟨[.ref 115], []⟩) () := .of_peek X (by kernel_rfl)
theorem lk_dunder (X : (KW w).In h) : Looks (model pw w) h (specialOf (.ref 115) "__call__") (some (.builtin "type.__call__")) := .of_peek X (by kernel_rfl)
theorem lk_init (X : (KW w).In h) : Looks (model pw w) h (typeLookup (.ref 115) "__init__") (some (.ref 52)) := .of_peek X (by kernel_rfl)
theorem lk_sub (X : (KW w).In h) : Looks (model pw w) h (isSubtype (.ref 115) (.type "list")) true := .of_peek X (by kernel_rfl)
theorem lk_self (X : (KW w).In h) : Looks (model pw w) h (isSubtype (.ref 115) (.ref 115)) true := .of_peek X (by kernel_rfl)
theorem lk_type (X : (KW w).In h) : Looks (model pw w) h (isType (.ref 115)) true := .of_peek X (by kernel_rfl)
theorem lk_del (X : (KW w).In h) : Looks (model pw w) h (classHasDel 115) false := .of_peek X (by kernel_rfl)
theorem lk_mro (X : (KW w).In h) : Looks (model pw w) h (mroOf (.ref 115)) [.ref 115, .type "list", .type "object"] := .of_peek X (by kernel_rfl)
theorem new_pile {A : Around} {R : Result → Shared → Prop} {g : Array GenState} {d : Drawn} {t : Nat} {os : OsState} (X : (KW w).In h)
    (hq : R (.ok (.ret (.ref (h.objs.size + 1)))) ⟨(h.push emptyDict).push (pileObj h.objs.size #[] 0), g, d, t, os⟩) :
    codeAny (model pw w) A (.call (.builtin "list.__new__") ⟨[.ref 115], []⟩) R ⟨h, g, d, t, os⟩ := by
  refine codeAny_of_tree ?_
  show wpAny _ A.in1 (do checkBuiltinCall "list.__new__" ⟨[.ref 115], []⟩; again (.builtin "list.__new__" ⟨[.ref 115], []⟩)) _ _ _
  refine wpAny_bind ((lk_new X).here (wpAny_pure ⟨plainId_quiet F.plain_list_new _, codeAny_builtin_stack F.entry_list_new rfl fun p st => ?_⟩))
  rw [Around.under_plainId F.plain_list_new _]
  have hown := owner_list_new
  have h1 := lk_type X
  have h2 := lk_sub X
  simp only [hown]
  have hC := X 115 _ rfl
  have hC' := Heap.get?_push_of_some (pileObj h.objs.size #[] 0) (Heap.get?_push_of_some emptyDict hC)
  repeat (first | simp only [Bool.not_true, Bool.false_eq_true, if_false] | lk)
  show R _ _
  rw [Heap.size_push]
  exact hq
theorem make_pile {A : Around} {R : Result → Shared → Prop} {s : Shared} {h₀ : Heap} {L : Addr} {m : Str → Option Value} {news : List (Addr × Obj)} (F : Fr h₀ L s.heap m) (N : News h₀ L s.heap news) (X : (KW w).In s.heap)
    (h : ∀ x dx h', Fr h₀ L h' m → News h₀ L h' ((x, pileObj dx #[] 0) :: (dx, emptyDict) :: news) → (∀ p ∈ news, p.1 < dx) → dx < x →
      codeAny (model pw w) (A.under (.builtin "type.__call__" ⟨[.ref 115], []⟩)) (.call (.ref 52) ⟨[.ref x], []⟩) (InitBack x R) { s with heap := h' }) :
    codeAny (model pw w) A (.call (.ref 115) ⟨[], []⟩) R s := by
  obtain ⟨hh, g, d, t, os⟩ := s
  have N' := (N.push F emptyDict).push (F.push _) (pileObj hh.objs.size #[] 0)
  rw [Heap.size_push] at N'
  have z := h _ hh.objs.size _ ((F.push _).push _) N' (fun p hp => Heap.lt_size (N p hp).1) (Nat.lt_succ_self _)
  have hC := X 115 _ rfl
  have h1 := lk_dunder X
  have h2 := lk_tcall X
  have h3 := lk_mro X
  have h4 := lk_made X
  refine codeAny_of_tree ?_
  show wpAny _ _ (callAny (.ref 115) _) _ _ _
  refine nd_load hC ?_
  show wpAny _ _ (callAny.viaDunder (.ref 115) _) _ _ _
  unfold callAny.viaDunder
  refine wpAny_bind (h1.at ?_)
  dsimp only
  rw [tc_bind]
  refine wpAny_bind (wpAny_pure (wpAny_bind (wpAny_pure ?_)))
  refine wpAny_pure (a := Fin.again (.call (.builtin "type.__call__") ⟨[.ref 115], []⟩)) (And.intro rfl ?_)
  refine codeAny_of_tree ?_
  show wpAny _ _ (do checkBuiltinCall "type.__call__" ⟨[.ref 115], []⟩; again (.builtin "type.__call__" ⟨[.ref 115], []⟩)) _ _ _
  refine wpAny_bind (h2.here (wpAny_pure ⟨Code.quiet_builtin _ (by decide +kernel), codeAny_builtin entry_typeCall ?_⟩))
  unfold Builtin.«type.__call__»
  repeat (first | simp only [List.isEmpty_cons, Bool.false_eq_true, if_false] | with_reducible refine wpAny_call ?_ | lk)
  refine new_pile X ?_
  have k : ∀ b o, hh.get? b = some o → ((hh.push emptyDict).push (pileObj hh.objs.size #[] 0)).get? b = some o := fun b o e => Heap.get?_push_of_some _ (Heap.get?_push_of_some _ e)
  have hx : ((hh.push emptyDict).push (pileObj hh.objs.size #[] 0)).get? (hh.objs.size + 1) = some (pileObj hh.objs.size #[] 0) := (N' _ (.head _)).1
  have t1 : Looks (model pw w) ((hh.push emptyDict).push (pileObj hh.objs.size #[] 0)) (typeOf (.ref (hh.objs.size + 1))) (.ref 115) := (Looks.ld hx).andThen .now
  have s1 := (lk_self X).keeps k
  have i1 := (lk_init X).keeps k
  have b1 := (bind_fn (M := model pw w) X (f := 52) (.ref (hh.objs.size + 1)) rfl).keeps k
  unfold isInstance callSpecial? specialOf
  repeat (first | with_reducible refine wpAny_call ?_ | lk)
  refine codeAny_mono z fun r s' z => ?_
  rcases r with e | (v | _ | _ | _) <;> first | exact z | exact z.elim | skip
  obtain ⟨rfl, z⟩ := z
  exact wpAny_pure (wpAny_pure z)
end
end
end
section
set_option maxHeartbeats 8000000
section
open PySem PySem.W PySem.Calls PyProof.Rows PySem.Spec
theorem slot_md_get : Slot "method_descriptor" "__get__" "method_descriptor.__get__" := .of (owner := "method_descriptor") (n := "__get__") (by rw [typeLookup_type, builtinLookup_eq_fast]; kernel_rfl) (by decide +kernel) (by decide +kernel) (by decide +kernel)
  (by first | exact .inl (by decide +kernel) | exact .inr (by decide +kernel)) (by rw [isSubtype_type]; kernel_rfl)
theorem entry_md_get : entryFor table "method_descriptor.__get__" = some Builtin.«method_descriptor.__get__» := entryFor_of_tree (by kernel_rfl)
theorem args_md_get (a b c : Value) : argsOk "method_descriptor.__get__" ⟨[a, b, c], []⟩ := by unfold argsOk; kernel_rfl
theorem slot_wd_get : Slot "wrapper_descriptor" "__get__" "wrapper_descriptor.__get__" := .of (owner := "wrapper_descriptor") (n := "__get__") (by rw [typeLookup_type, builtinLookup_eq_fast]; kernel_rfl) (by decide +kernel) (by decide +kernel) (by decide +kernel)
  (by first | exact .inl (by decide +kernel) | exact .inr (by decide +kernel)) (by rw [isSubtype_type]; kernel_rfl)
theorem entry_wd_get : entryFor table "wrapper_descriptor.__get__" = some Builtin.«wrapper_descriptor.__get__» := entryFor_of_tree (by kernel_rfl)
theorem args_wd_get (a b c : Value) : argsOk "wrapper_descriptor.__get__" ⟨[a, b, c], []⟩ := by unfold argsOk; kernel_rfl
theorem ty_pop : typeOf (.builtin "list.pop") = pure (.type "method_descriptor") := by show builtinType _ = _; rw [builtinType_eq_fast]; kernel_rfl
theorem ty_init : typeOf (.builtin "list.__init__") = pure (.type "wrapper_descriptor") := by show builtinType _ = _; rw [builtinType_eq_fast]; kernel_rfl
theorem ty_len : typeOf (.builtin "list.__len__") = pure (.type "wrapper_descriptor") := by show builtinType _ = _; rw [builtinType_eq_fast]; kernel_rfl
section
variable {w : World} {h : Heap} {A : Around} {E : Value → Shared → Prop} {g : Array GenState} {d : Drawn} {t : Nat} {os : OsState}
theorem lk_inst {x : Addr} {dx : Addr} {items : Array Value} {n : Nat} (X : (KW w).In h) (hx : h.get? x = some (pileObj dx items n)) : Looks (model pw w) h (isInstance (.ref x) (.type "list")) true :=
  Looks.andThen ((Looks.ld hx).andThen .now : Looks (model pw w) h (typeOf (.ref x)) (.ref 115)) (lk_sub X)
theorem nm_b {id : String} {n : PySem.Str} {s : Shared} {x : Addr} {A : Around} {w : World} {E : Value → Shared → Prop} {Q : Unit → Shared → Prop} (hn : Builtin.Getset_descriptor.descrNameAndClass (.builtin id) = pure (n, Value.type "list")) (hi : Looks (model pw w) s.heap (isInstance (.ref x) (.type "list")) true) (hq : Q () s) :
    wpAny (model pw w) A (Builtin.Getset_descriptor.descrCheckInstance (.builtin id) (.ref x)) Q E s := by
  unfold Builtin.Getset_descriptor.descrCheckInstance
  rw [hn]
  obtain ⟨h, g, d, t, os⟩ := s
  have h1 := hi
  repeat (first | simp only [Bool.not_true, Bool.false_eq_true, if_false] | lk)
  exact hq
theorem md_get_pop {x dx : Addr} {items : Array Value} {n : Nat} {Q : Fin → Shared → Prop} (X : (KW w).In h) (hx : h.get? x = some (pileObj dx items n))
    (hq : Q (.done (.ret (.ref h.objs.size))) ⟨h.push { cls := .type "builtin_function_or_method", data := .fields #[.builtin "list.pop", .ref x] }, g, d, t, os⟩) :
    wpAny (model pw w) A (Builtin.«method_descriptor.__get__» ⟨[.builtin "list.pop", .ref x, .ref 115], []⟩) Q E ⟨h, g, d, t, os⟩ := by
  have h1 := lk_inst X hx
  have e : Builtin.«method_descriptor.__get__» ⟨[.builtin "list.pop", .ref x, .ref 115], []⟩ = (do
      Builtin.Getset_descriptor.descrCheckInstance (.builtin "list.pop") (.ref x)
      ret (← newFields "builtin_function_or_method" [.builtin "list.pop", .ref x])) := by kernel_rfl
  rw [e]
  refine wpAny_bind (nm_b (n := "pop") (by kernel_rfl) h1 ?_)
  repeat lk
  exact hq
theorem wd_get {x dx : Addr} {items : Array Value} {n : Nat} {id : String} {nm : PySem.Str} {Q : Fin → Shared → Prop} (X : (KW w).In h) (hx : h.get? x = some (pileObj dx items n)) (hn : Builtin.Getset_descriptor.descrNameAndClass (.builtin id) = pure (nm, Value.type "list"))
    (e : Builtin.«wrapper_descriptor.__get__» ⟨[.builtin id, .ref x, .ref 115], []⟩ = (do Builtin.Getset_descriptor.descrCheckInstance (.builtin id) (.ref x); ret (← newFields "method-wrapper" [.builtin id, .ref x])))
    (hq : Q (.done (.ret (.ref h.objs.size))) ⟨h.push { cls := .type "method-wrapper", data := .fields #[.builtin id, .ref x] }, g, d, t, os⟩) :
    wpAny (model pw w) A (Builtin.«wrapper_descriptor.__get__» ⟨[.builtin id, .ref x, .ref 115], []⟩) Q E ⟨h, g, d, t, os⟩ := by
  have h1 := lk_inst X hx
  rw [e]
  refine wpAny_bind (nm_b hn h1 ?_)
  repeat lk
  exact hq
theorem wd_len (x : Addr) : Builtin.«wrapper_descriptor.__get__» ⟨[.builtin "list.__len__", .ref x, .ref 115], []⟩ = (do Builtin.Getset_descriptor.descrCheckInstance (.builtin "list.__len__") (.ref x); ret (← newFields "method-wrapper" [.builtin "list.__len__", .ref x])) := by kernel_rfl
theorem wd_init (x : Addr) : Builtin.«wrapper_descriptor.__get__» ⟨[.builtin "list.__init__", .ref x, .ref 115], []⟩ = (do Builtin.Getset_descriptor.descrCheckInstance (.builtin "list.__init__") (.ref x); ret (← newFields "method-wrapper" [.builtin "list.__init__", .ref x])) := by kernel_rfl
theorem nm_len : Builtin.Getset_descriptor.descrNameAndClass (.builtin "list.__len__") = pure (("__len__" : PySem.Str), Value.type "list") := by kernel_rfl
theorem nm_init : Builtin.Getset_descriptor.descrNameAndClass (.builtin "list.__init__") = pure (("__init__" : PySem.Str), Value.type "list") := by kernel_rfl
theorem lk_opaque (X : (KW w).In h) : Looks (model pw w) h (opaqueClassAbove (.ref 115)) none := .of_peek X (by kernel_rfl)
theorem super_ga_b {so x : Addr} {name : Str} {id T gid bt : String} {tk : Tok} {Q : Fin → Shared → Prop}
    (hso : h.get? so = some { cls := .type "super", dict := none, data := .fields #[.ref 115, .ref x, .ref 115], slots := #[] }) (X : (KW w).In h)
    (hf : alongIn (KW w) name [.type "list", .type "object"] = some (some (.builtin id))) (hty : typeOf (.builtin id) = pure (.type T)) (hlk : typeLookup (.type T) "__get__" = pure (some (.builtin gid)))
    (hxC : x ≠ 115) (hn : (name == ("__class__" : Str)) = false)
    (hget : ∀ {A' : Around} {Q' : Value → Shared → Prop} {E' : Value → Shared → Prop}, Q' (.ref h.objs.size) ⟨h.push { cls := .type bt, data := .fields #[.builtin id, .ref x] }, g, d, t, os⟩ → wpAny (model pw w) A' (call (.builtin gid) [.builtin id, .ref x, .ref 115]) Q' E' ⟨h, g, d, t, os⟩)
    (hq : Q (.done (.ret (.ref h.objs.size))) ⟨h.push { cls := .type bt, data := .fields #[.builtin id, .ref x] }, g, d, t, os⟩) :
    wpAny (model pw w) A (Builtin.«super.__getattribute__» ⟨[.ref so, .str name tk], []⟩) Q E ⟨h, g, d, t, os⟩ := by
  have hne : (Value.ref x == Value.ref 115) = false := by simp [hxC]
  have hC := lk_mro X
  have hno := lk_opaque X
  have hl : ([Value.ref 115, .type "list", .type "object"].dropWhile (· != Value.ref 115)).drop 1 = [.type "list", .type "object"] := by decide +kernel
  have hdt : ({ cls := .type "super", dict := none, data := .fields #[.ref 115, .ref x, .ref 115], slots := #[] } : Obj).data = .fields #[.ref 115, .ref x, .ref 115] := rfl
  have f0 : (#[.ref 115, .ref x, .ref 115] : Array Value)[0]? = some (.ref 115) := rfl
  have f1 : (#[.ref 115, .ref x, .ref 115] : Array Value)[1]? = some (.ref x) := rfl
  have f2 : (#[.ref 115, .ref x, .ref 115] : Array Value)[2]? = some (.ref 115) := rfl
  unfold Builtin.«super.__getattribute__»
  repeat (first
    | (with_reducible refine wpAny_field hso hdt f0 ?_) | (with_reducible refine wpAny_field hso hdt f1 ?_) | (with_reducible refine wpAny_field hso hdt f2 ?_)
    | (with_reducible refine ks_wpAny_notOpaque hno ?_)
    | (with_reducible refine Looks.at hC ?_; rw [hl])
    | (refine ks_forIn_along X (fun _ _ => rfl) rfl ?_ hf)
    | (with_reducible refine hget ?_)
    | (with_reducible refine ⟨_, rfl, ?_⟩)
    | (simp only [hn, hne, hty, hlk, Bool.or_false, Bool.false_eq_true, if_false])
    | wp_step
    | dsimp only)
  all_goals exact hq
end
end
end
section
set_option maxHeartbeats 8000000
section
open PySem PySem.W PySem.Calls PyProof.Rows PySem.Spec
theorem inst_pile {h₀ h : Heap} {L x dx : Addr} {news : List (Addr × Obj)} {od : Obj} {items : Array Value} {n : Nat} (N : News h₀ L h news) (h1 : (x, pileObj dx items n) ∈ news) (h2 : (dx, od) ∈ news) :
    PySem.W.InstAt h x (pileObj dx items n) 115 (some od) := ⟨(N _ h1).1, rfl, rfl, (N _ h2).1⟩
section
variable {w : World} {h : Heap} {A : Around} {E : Value → Shared → Prop} {g : Array GenState} {d : Drawn} {t : Nat} {os : OsState}
/-- a method of list read off super() -/
theorem getMethod_super_b {so x : Addr} {name : Str} {id T gid bt : String} {pl : Sem Bool} {Q : Value × List Value → Shared → Prop}
    (hso : h.get? so = some { cls := .type "super", dict := none, data := .fields #[.ref 115, .ref x, .ref 115], slots := #[] }) (X : (KW w).In h)
    (hf : alongIn (KW w) name [.type "list", .type "object"] = some (some (.builtin id))) (hty : typeOf (.builtin id) = pure (.type T)) (hlk : typeLookup (.type T) "__get__" = pure (some (.builtin gid)))
    (hxC : x ≠ 115) (hn : (name == ("__class__" : Str)) = false)
    (hget : ∀ {A' : Around} {t' : Nat} {Q' : Value → Shared → Prop} {E' : Value → Shared → Prop}, Q' (.ref h.objs.size) ⟨h.push { cls := .type bt, data := .fields #[.builtin id, .ref x] }, g, d, t', os⟩ → wpAny (model pw w) A' (call (.builtin gid) [.builtin id, .ref x, .ref 115]) Q' E' ⟨h, g, d, t', os⟩)
    (hq : Q (.ref h.objs.size, []) ⟨h.push { cls := .type bt, data := .fields #[.builtin id, .ref x] }, g, d, t + 1, os⟩) :
    wpAny (model pw w) A (getMethod (.ref so) name pl) Q E ⟨h, g, d, t, os⟩ := by
  have hlk' := F.ks_slot_super_ga.lookup
  have hcan := F.ks_canon_super_ga
  have hT : ∀ t', (⟨h, g, d, t', os⟩ : Shared).TypeIs (.ref so) "super" := fun _ => ⟨_, hso, rfl⟩
  unfold getMethod
  refine wpAny_bind (wpAny_specialOf (hT _) hlk' ?_)
  show wpAny _ _ (if (Manifest.canonical "super.__getattribute__" != "object.__getattribute__") = true then _ else _) _ _ _
  rw [if_pos hcan]
  unfold getAttr getAttrBy
  refine wpAny_bind (wpAny_bind (wpAny_mkText (wpAny_holding (wpAny_bind (wpAny_typeOf (hT _) (wpAny_bind (wpAny_of_eq hlk' ?_)))))))
  show wpAny _ _ (getAttrByItsOwn (.ref so) (.str name t) (.type "super") (.builtin "super.__getattribute__") true false) _ _ _
  unfold getAttrByItsOwn hookBefore callGetattribute boundAndCalled
  refine wpAny_bind (wpAny_of_eq (show (if onTheHeap (.type "super") then typeLookup (.type "super") "__getattr__" else pure none) = pure none from rfl) ?_)
  refine wpAny_bind (wpAny_attempt (wpAny_holding ?_))
  show wpAny _ _ (bindSpecial (.builtin "super.__getattribute__") (.ref so) >>= _) _ _ _
  refine wpAny_bind (wpAny_of_eq (F.ks_slot_super_ga.bind _) ?_)
  refine wpAny_mono (Q := fun v s' => v = .ref h.objs.size ∧ s' = ⟨h.push { cls := .type bt, data := .fields #[.builtin id, .ref x] }, g, d, t + 1, os⟩) (E := fun _ _ => False)
    (wpAny_call_entry F.ks_slot_super_ga (hT _) F.ks_entry_super_ga (super_ga_b hso X hf hty hlk hxC hn (fun q => hget q) ⟨_, rfl, rfl, rfl⟩) (F.ks_gaArgs_super _ _)) (fun v s' hv => ?_) fun _ _ z => z.elim
  obtain ⟨rfl, rfl⟩ := hv
  exact wpAny_pure (wpAny_pure hq)
theorem get_pop {x dx : Addr} {items : Array Value} {n : Nat} {Q : Value → Shared → Prop} (X : (KW w).In h) (hx : h.get? x = some (pileObj dx items n))
    (hq : Q (.ref h.objs.size) ⟨h.push { cls := .type "builtin_function_or_method", data := .fields #[.builtin "list.pop", .ref x] }, g, d, t, os⟩) :
    wpAny (model pw w) A (call (.builtin "method_descriptor.__get__") [.builtin "list.pop", .ref x, .ref 115]) Q E ⟨h, g, d, t, os⟩ :=
  wpAny_call (codeAny_call_builtin slot_md_get.plain entry_md_get (slot_md_get.check _ _ _ _ _ _ _ _ ty_pop (args_md_get _ _ _) (md_get_pop X hx hq)))
theorem get_len {x dx : Addr} {items : Array Value} {n : Nat} {Q : Value → Shared → Prop} (X : (KW w).In h) (hx : h.get? x = some (pileObj dx items n))
    (hq : Q (.ref h.objs.size) ⟨h.push { cls := .type "method-wrapper", data := .fields #[.builtin "list.__len__", .ref x] }, g, d, t, os⟩) :
    wpAny (model pw w) A (call (.builtin "wrapper_descriptor.__get__") [.builtin "list.__len__", .ref x, .ref 115]) Q E ⟨h, g, d, t, os⟩ :=
  wpAny_call (codeAny_call_builtin slot_wd_get.plain entry_wd_get (slot_wd_get.check _ _ _ _ _ _ _ _ ty_len (args_wd_get _ _ _) (wd_get X hx nm_len (wd_len x) hq)))
theorem get_init {x dx : Addr} {items : Array Value} {n : Nat} {Q : Value → Shared → Prop} (X : (KW w).In h) (hx : h.get? x = some (pileObj dx items n))
    (hq : Q (.ref h.objs.size) ⟨h.push { cls := .type "method-wrapper", data := .fields #[.builtin "list.__init__", .ref x] }, g, d, t, os⟩) :
    wpAny (model pw w) A (call (.builtin "wrapper_descriptor.__get__") [.builtin "list.__init__", .ref x, .ref 115]) Q E ⟨h, g, d, t, os⟩ :=
  wpAny_call (codeAny_call_builtin slot_wd_get.plain entry_wd_get (slot_wd_get.check _ _ _ _ _ _ _ _ ty_init (args_wd_get _ _ _) (wd_get X hx nm_init (wd_init x) hq)))
/-- a bound built-in object -/
noncomputable abbrev boundObj (bt id : String) (x : Addr) : Obj := { cls := .type bt, data := .fields #[.builtin id, .ref x] }
theorem keeper_b {q x : Addr} {bt id : String} (hb : bt = "builtin_function_or_method" ∨ bt = "method-wrapper") (hq : h.get? q = some (boundObj bt id x)) : Looks (model pw w) h (keeperOf (.ref q)) .machine := by
  refine (Looks.ld (part := none) hq).andThen ?_
  rcases hb with rfl | rfl
  · exact .now
  · exact .now
end
section
variable {w : World} {A : Around} {E : Value → Shared → Prop} {s : Shared}
/-- what a built-in's text does -/
noncomputable abbrev BB (w : World) (A : Around) (B : Builtin) (args : Args) (R : Result → Shared → Prop) (s : Shared) : Prop :=
  wpAny (model pw w) A.in1 (B args) (fun fin s' => match fin with | .done f => R (.ok f) s' | .again c' => c'.quiet = true ∧ codeAny (model pw w) A c' R s') (fun e s' => R (.error e) s') s
theorem callWith_b {q x : Addr} {bt id : String} {pos : Pos} {first : List Value} {env : Env} {Q : Value → Shared → Prop} (hb : bt = "builtin_function_or_method" ∨ bt = "method-wrapper") (hq : s.heap.get? q = some (boundObj bt id x))
    (h : wpAny (model pw w) A (call (.ref q) (first ++ [])) Q E s) : wpAny (model pw w) A (callWith pos (.ref q) first (backTo pos (starEach [] env)) []) Q E s :=
  callWith_of (P := fun h => h.get? q = some (boundObj bt id x)) rfl (fun _ e => ⟨_, .inr (.inl rfl), keeper_b hb e⟩) (evalArgs_nil3 ⟨hq, h⟩)
theorem call_b {q x : Addr} {bt id : String} {B : Builtin} {Q : Value → Shared → Prop} (hb : bt = "builtin_function_or_method" ∨ bt = "method-wrapper") (hq : s.heap.get? q = some (boundObj bt id x))
    (hp : plainId id = true) (he : entryFor table id = some B)
    (hc : Looks (model pw w) s.heap (checkBoundCall id ⟨[.ref x], []⟩) ())
    (h : BB w A B ⟨[.ref x], []⟩ (wants Q E) s) :
    wpAny (model pw w) A (call (.ref q) [] []) Q E s := by
  refine wpAny_call (codeAny_of_tree ?_)
  show wpAny _ A.in1 (callAny (.ref q) _) _ _ _
  unfold callAny
  refine wpAny_bind (wpAny_load hq ?_)
  rcases hb with rfl | rfl
  all_goals
    show wpAny _ _ (checkBoundCall id ⟨[.ref x], []⟩ >>= fun _ => again (.builtin id ⟨[.ref x], []⟩)) _ _ _
    refine wpAny_bind (hc.here (wpAny_pure ⟨plainId_quiet hp _, codeAny_builtin he ?_⟩))
    rw [Around.under_plainId hp _]
    exact h
end
section
variable {w : World} {h : Heap}
theorem lk_ty (X : (KW w).In h) {x dx : Addr} {items : Array Value} {n : Nat} (hx : h.get? x = some (pileObj dx items n)) : Looks (model pw w) h (typeOf (.ref x)) (.ref 115) := (Looks.ld hx).andThen .now
theorem chk_len (X : (KW w).In h) (x : Addr) : Looks (model pw w) h (checkBoundCall "list.__len__" ⟨[.ref x], []⟩) () := .of_pure (by kernel_rfl)
theorem chk_init (X : (KW w).In h) (x : Addr) : Looks (model pw w) h (checkBoundCall "list.__init__" ⟨[.ref x], []⟩) () := .of_pure (by kernel_rfl)
theorem lk_notmod (X : (KW w).In h) : Looks (model pw w) h (isSubtype (.ref 115) (.type "module")) false := .of_peek X (by kernel_rfl)
theorem lk_cdata (X : (KW w).In h) : ∃ cd, Looks (model pw w) h (classData 115) cd ∧ cd.qualname.toString = "_Accumulator" := by
  have e : (clsIn (KW w) 115).map (fun cd => decide (cd.qualname.toString = "_Accumulator")) = some true := by kernel_rfl
  obtain ⟨cd, e, q⟩ := Option.map_eq_some_iff.mp e
  exact ⟨cd, looks_clsIn X e, of_decide_eq_true q⟩
theorem sig_pop (x : Value) : (Manifest.signature? "list.pop").map (fun sig => Bind.checkArgs "list.pop" { sig with full := s!"{"_Accumulator"}.{Bind.lastOf "list.pop"}" } ⟨[x], []⟩) = some (pure ()) := by kernel_rfl
theorem lk_meta (X : (KW w).In h) : Looks (model pw w) h (typeOf (.ref 115)) (.type "type") := .of_peek X (by kernel_rfl)
theorem chk_pop (X : (KW w).In h) {x dx : Addr} {items : Array Value} {n : Nat} (hx : h.get? x = some (pileObj dx items n)) : Looks (model pw w) h (checkBoundCall "list.pop" ⟨[.ref x], []⟩) () := by
  intro A Q E s k q
  have X' : (KW w).In s.heap := X.keeps k
  have hx' := k _ _ hx
  obtain ⟨hh, g, d, t, os⟩ := s
  have h1 : Looks (model pw w) hh (isInstance (.ref x) (.type "module")) false := (lk_ty X' hx').andThen (lk_notmod X')
  have h2 := lk_ty X' hx'
  have h3 := lk_meta X'
  obtain ⟨cd, h4, h6⟩ := lk_cdata X'
  have h5 : Looks (model pw w) hh (isType (.ref x)) false := (Looks.ld hx').andThen .now
  have hs := sig_pop (.ref x)
  cases e : Manifest.signature? "list.pop" with
  | none => rw [e] at hs; cases hs
  | some sig =>
    rw [e] at hs
    have hs := Option.some.inj hs
    dsimp only at hs
    have hk : builtinKind "list.pop" = some .method := by decide +kernel
    have hv : Manifest.varargsMethods.contains "list.pop" = false := by decide +kernel
    unfold checkBoundCall
    rw [e]
    simp only [hk, hv]
    repeat (first | simp only [Bool.not_true, Bool.false_eq_true, if_false, Bool.or_false, Bool.false_or, h6, hs] | lk)
    exact q
end
section
variable {w : World} {h : Heap} {A : Around} {R : Result → Shared → Prop} {g : Array GenState} {d : Drawn} {t : Nat} {os : OsState} {x dx : Addr} {items : Array Value} {n : Nat}
theorem bb_len (hx : h.get? x = some (pileObj dx items n)) (hq : ∀ t', R (.ok (.ret (.int items.size t'))) ⟨h, g, d, t + 1, os⟩) : BB w A Builtin.«list.__len__» ⟨[.ref x], []⟩ R ⟨h, g, d, t, os⟩ := by
  unfold BB Builtin.«list.__len__»
  wp_walk using wpAny_loadPart' hx
  exact hq _
theorem bb_init (hx : h.get? x = some (pileObj dx #[] n)) (hq : R (.ok (.ret .none)) ⟨h.update x (Obj.mapSeq fun _ => #[]), g, d, t, os⟩) : BB w A Builtin.«list.__init__» ⟨[.ref x], []⟩ R ⟨h, g, d, t, os⟩ := by
  unfold BB Builtin.«list.__init__»
  wp_walk using wpAny_loadPart' hx
  exact hq
theorem bb_append {v : Value} (hx : h.get? x = some (pileObj dx items n)) (hs1 : items.size ≤ sizeLine) (hq : R (.ok (.ret .none)) ⟨h.update x (Obj.mapSeq fun xs => xs.push v), g, d, t, os⟩) : BB w A Builtin.«list.append» ⟨[.ref x, v], []⟩ R ⟨h, g, d, t, os⟩ := by
  unfold BB Builtin.«list.append»
  wp_walk using (wpAny_updateSeq hx rfl (hz := hs1)), wpAny_loadPart' hx
  exact hq
theorem bb_pop (hx : h.get? x = some (pileObj dx items n)) (y : Value) (hy : items[items.size - 1]? = some y) (hs1 : items.size ≤ sizeLine) (hq : R (.ok (.ret y)) ⟨h.update x (Obj.mapSeq fun xs => xs.eraseIdxIfInBounds (items.size - 1)), g, d, t, os⟩) :
    BB w A Builtin.«list.pop» ⟨[.ref x], []⟩ R ⟨h, g, d, t, os⟩ := by
  unfold BB Builtin.«list.pop»
  have hpos : 0 < items.size := by
    rcases Nat.eq_zero_or_pos items.size with h0 | h0
    · simp [h0] at hy
    · exact h0
  have hne : ¬ items.isEmpty = true := by
    intro he; have : items.size = 0 := by simpa using he
    omega
  have hk : seqIndex? (-1) items.size = some (items.size - 1) := by
    rw [seqIndex_neg (by omega) (by omega)]; congr 1; omega
  wp_walk using wpAny_loadPart' hx
  simp only [hk, hy, Option.bind_some, Option.map_some]
  have hz' : (items.eraseIdxIfInBounds (items.size - 1)).size ≤ sizeLine + 1 := Nat.le_trans (PySem.MeetsSeq.size_erased items _) (Nat.le_succ_of_le hs1)
  wp_walk using (wpAny_updateSeq hx rfl (hz := hs1) (_hz' := hz')), wpAny_loadPart' hx
  exact hq
end
end
end
local macro_rules | `(tactic| walk_at "own 5") => `(tactic| (refine' inst_pile ?N ?h1 ?h2; (case N => k_asm); (case h1 => walk_at "own mem2"); (case h2 => walk_at "own mem2")))
local macro_rules | `(tactic| walk_at "own 10") => `(tactic| (k_here; (rename News _ _ _ _ => nN'); k_dflt (refine callWith_b (bt := _) (id := _) (by first | exact .inl rfl | exact .inr rfl) (News.get nN' (.head _)) ?_)))
section
set_option maxHeartbeats 8000000
section
open PySem PySem.W PySem.Calls PyProof.Rows PySem.Spec
theorem cls115 (w : World) : ∃ cd, clsIn (KW w) 115 = some cd := by
  have e : (clsIn (KW w) 115).isSome = true := by kernel_rfl
  exact Option.isSome_iff_exists.mp e
section
variable {w : World} {A : Around} {E : Value → Shared → Prop} {s : Shared} {h₀ : Heap} {L : Addr} {m : Str → Option Value} {news : List (Addr × Obj)}
theorem ne115 {x dx : Addr} {items : Array Value} {n : Nat} {od : Obj} (F : Fr h₀ L s.heap m) (X : (KW w).In h₀) (N : News h₀ L s.heap news) (h1 : (x, pileObj dx items n) ∈ news) (h2 : (dx, od) ∈ news) : x ≠ 115 := by
  obtain ⟨cd, hc⟩ := cls115 w
  exact ks_ne (X.keeps F.keep) (inst_pile N h1 h2) hc
theorem super_len {so x dx : Addr} {items : Array Value} {n : Nat} {od : Obj} {pl : Sem Bool} {Q : Value × List Value → Shared → Prop} (F : Fr h₀ L s.heap m) (X : (KW w).In h₀) (N : News h₀ L s.heap news) (hso : (so, ks_superObj 115 x 115) ∈ news) (h1 : (x, pileObj dx items n) ∈ news) (h2 : (dx, od) ∈ news)
    (h : ∀ q h', Fr h₀ L h' m → News h₀ L h' ((q, boundObj "method-wrapper" "list.__len__" x) :: news) → (∀ p ∈ news, p.1 < q) → Q (.ref q, []) { s with heap := h', toks := s.toks + 1 }) : wpAny (model pw w) A (getMethod (.ref so) "__len__" pl) Q E s := by
  have hne := ne115 F X N h1 h2
  obtain ⟨hh, g, d, t, os⟩ := s
  have X' : (KW w).In hh := X.keeps F.keep
  refine getMethod_super_b (N _ hso).1 X' (by kernel_rfl) ty_len slot_wd_get.lookup hne (by decide) (fun q => get_len X' (N _ h1).1 q) ?_
  obtain ⟨F', N', l'⟩ := ks_newsPush (s := ⟨hh, g, d, t, os⟩) (o := boundObj "method-wrapper" "list.__len__" x) F N rfl (Heap.get?_push_at rfl rfl) (fun b o e => Heap.get?_push_of_some _ e)
  exact h _ _ F' N' l'
theorem super_init {so x dx : Addr} {items : Array Value} {n : Nat} {od : Obj} {pl : Sem Bool} {Q : Value × List Value → Shared → Prop} (F : Fr h₀ L s.heap m) (X : (KW w).In h₀) (N : News h₀ L s.heap news) (hso : (so, ks_superObj 115 x 115) ∈ news) (h1 : (x, pileObj dx items n) ∈ news) (h2 : (dx, od) ∈ news)
    (h : ∀ q h', Fr h₀ L h' m → News h₀ L h' ((q, boundObj "method-wrapper" "list.__init__" x) :: news) → (∀ p ∈ news, p.1 < q) → Q (.ref q, []) { s with heap := h', toks := s.toks + 1 }) : wpAny (model pw w) A (getMethod (.ref so) "__init__" pl) Q E s := by
  have hne := ne115 F X N h1 h2
  obtain ⟨hh, g, d, t, os⟩ := s
  have X' : (KW w).In hh := X.keeps F.keep
  refine getMethod_super_b (N _ hso).1 X' (by kernel_rfl) ty_init slot_wd_get.lookup hne (by decide) (fun q => get_init X' (N _ h1).1 q) ?_
  obtain ⟨F', N', l'⟩ := ks_newsPush (s := ⟨hh, g, d, t, os⟩) (o := boundObj "method-wrapper" "list.__init__" x) F N rfl (Heap.get?_push_at rfl rfl) (fun b o e => Heap.get?_push_of_some _ e)
  exact h _ _ F' N' l'
theorem super_pop {so x dx : Addr} {items : Array Value} {n : Nat} {od : Obj} {pl : Sem Bool} {Q : Value × List Value → Shared → Prop} (F : Fr h₀ L s.heap m) (X : (KW w).In h₀) (N : News h₀ L s.heap news) (hso : (so, ks_superObj 115 x 115) ∈ news) (h1 : (x, pileObj dx items n) ∈ news) (h2 : (dx, od) ∈ news)
    (h : ∀ q h', Fr h₀ L h' m → News h₀ L h' ((q, boundObj "builtin_function_or_method" "list.pop" x) :: news) → (∀ p ∈ news, p.1 < q) → Q (.ref q, []) { s with heap := h', toks := s.toks + 1 }) : wpAny (model pw w) A (getMethod (.ref so) "pop" pl) Q E s := by
  have hne := ne115 F X N h1 h2
  obtain ⟨hh, g, d, t, os⟩ := s
  have X' : (KW w).In hh := X.keeps F.keep
  refine getMethod_super_b (N _ hso).1 X' (by kernel_rfl) ty_pop slot_md_get.lookup hne (by decide) (fun q => get_pop X' (N _ h1).1 q) ?_
  obtain ⟨F', N', l'⟩ := ks_newsPush (s := ⟨hh, g, d, t, os⟩) (o := boundObj "builtin_function_or_method" "list.pop" x) F N rfl (Heap.get?_push_at rfl rfl) (fun b o e => Heap.get?_push_of_some _ e)
  exact h _ _ F' N' l'
/-- an object of the ledger is changed: the rest stands -/
theorem after_upd {h : Heap} {x : Addr} {o o' : Obj} {f : Obj → Obj} {rest : List (Addr × Obj)} (F : Fr h₀ L h m) (N : News h₀ L h news) (hx : (x, o) ∈ news) (hr : ∀ p ∈ rest, p ∈ news) (hne : ∀ p ∈ rest, p.1 ≠ x) (hf : f o = o') (hfr : o'.isFreed = false) :
    Fr h₀ L (h.update x f) m ∧ News h₀ L (h.update x f) ((x, o') :: rest) := by
  have hs : Heap.SameBut x h (h.update x f) := Heap.SameBut.update ..
  have z := N _ hx
  have ho : (h.update x f).get? x = some o' := by rw [Heap.get?_update_self _ z.1 (by rw [hf]; exact hfr), hf]
  refine ⟨F.change hs z.2.1 z.2.2, fun p hp => ?_⟩
  rcases List.mem_cons.mp hp with rfl | hp
  · exact ⟨ho, z.2⟩
  · have y := N _ (hr _ hp)
    exact ⟨hs.extBut _ _ (hne _ hp) y.1, y.2⟩
theorem call_len {q x dx : Addr} {items : Array Value} {n : Nat} {Q : Value → Shared → Prop} (F : Fr h₀ L s.heap m) (X : (KW w).In h₀) (N : News h₀ L s.heap news) (hq : (q, boundObj "method-wrapper" "list.__len__" x) ∈ news) (h1 : (x, pileObj dx items n) ∈ news)
    (h : ∀ t, Q (.int items.size t) { s with toks := s.toks + 1 }) : wpAny (model pw w) A (call (.ref q) [] []) Q E s := by
  refine call_b (.inr rfl) (N _ hq).1 (by decide +kernel) PySem.F.entry_list_len (chk_len (X.keeps F.keep) x) ?_
  obtain ⟨hh, g, d, t, os⟩ := s
  exact bb_len (R := wants Q E) (N _ h1).1 fun t' => h t'
theorem call_init {q x dx : Addr} {n : Nat} {rest : List (Addr × Obj)} {Q : Value → Shared → Prop} (F : Fr h₀ L s.heap m) (X : (KW w).In h₀) (N : News h₀ L s.heap news) (hq : (q, boundObj "method-wrapper" "list.__init__" x) ∈ news) (h1 : (x, pileObj dx #[] n) ∈ news) (hr : ∀ p ∈ rest, p ∈ news) (hne : ∀ p ∈ rest, p.1 ≠ x)
    (h : ∀ h' n', Fr h₀ L h' m → News h₀ L h' ((x, pileObj dx #[] n') :: rest) → Q .none { s with heap := h' }) : wpAny (model pw w) A (call (.ref q) [] []) Q E s := by
  refine call_b (.inr rfl) (N _ hq).1 (by decide +kernel) PySem.F.entry_list_init (chk_init (X.keeps F.keep) x) ?_
  obtain ⟨hh, g, d, t, os⟩ := s
  refine bb_init (R := wants Q E) (N _ h1).1 ?_
  obtain ⟨F', N'⟩ := after_upd (f := Obj.mapSeq fun _ => #[]) F N h1 hr hne rfl rfl
  exact h _ _ F' N'
theorem call_pop {q x dx : Addr} {l : List Value} {n : Nat} {y : Value} {rest : List (Addr × Obj)} {Q : Value → Shared → Prop} (F : Fr h₀ L s.heap m) (X : (KW w).In h₀) (N : News h₀ L s.heap news) (hq : (q, boundObj "builtin_function_or_method" "list.pop" x) ∈ news) (h1 : (x, pileObj dx (l ++ [y]).toArray n) ∈ news) (hr : ∀ p ∈ rest, p ∈ news) (hne : ∀ p ∈ rest, p.1 ≠ x)
    (hs1 : l.length < sizeLine)
    (h : ∀ h' n', Fr h₀ L h' m → News h₀ L h' ((x, pileObj dx l.toArray n') :: rest) → Q y { s with heap := h' }) : wpAny (model pw w) A (call (.ref q) [] []) Q E s := by
  have hz : (l ++ [y]).toArray.size = l.length + 1 := by simp
  have hy : (l ++ [y]).toArray[(l ++ [y]).toArray.size - 1]? = some y := by rw [hz]; simp
  have e : (l ++ [y]).toArray.eraseIdxIfInBounds ((l ++ [y]).toArray.size - 1) = l.toArray := by
    rw [hz, Array.eraseIdxIfInBounds, dif_pos (by rw [hz]; omega)]
    simp [List.eraseIdx_append_of_length_le]
  refine call_b (.inl rfl) (N _ hq).1 (by decide +kernel) PySem.F.entry_list_pop (chk_pop (X.keeps F.keep) (N _ h1).1) ?_
  obtain ⟨hh, g, d, t, os⟩ := s
  refine bb_pop (R := wants Q E) (N _ h1).1 y hy (by rw [hz]; exact hs1) ?_
  have ef : Obj.mapSeq (fun xs => xs.eraseIdxIfInBounds ((l ++ [y]).toArray.size - 1)) (pileObj dx (l ++ [y]).toArray n) = pileObj dx l.toArray (n + 1) := by
    have hs : (l.toArray.size == (l ++ [y]).toArray.size) = false := by rw [hz]; simp
    simp only [Obj.mapSeq, e, hs, Bool.false_eq_true, if_false]
  obtain ⟨F', N'⟩ := after_upd F N h1 hr hne ef rfl
  exact h _ _ F' N'
theorem lk_append (X : (KW w).In s.heap) {x dx : Addr} {v : Value} {items : Array Value} {n : Nat} (hx : s.heap.get? x = some (pileObj dx items n)) : Looks (model pw w) s.heap (checkBuiltinCall "list.append" ⟨[.ref x, v], []⟩) () := by
  intro A Q E s' k q
  have X' : (KW w).In s'.heap := X.keeps k
  have hx' := k _ _ hx
  obtain ⟨hh, g, d, t, os⟩ := s'
  have h1 := lk_inst X' hx'
  have hk : builtinKind "list.append" = some .method := by decide +kernel
  have hsp : splitId "list.append" = some ("list", "append") := by decide +kernel
  have ha := F.args_list_append_2 (.ref x) v
  unfold argsOk at ha
  unfold checkBuiltinCall
  simp only [hk, hsp]
  cases e : Manifest.signature? "list.append" with
  | none =>
    rw [e] at ha
    repeat (first | simp only [Bool.not_true, Bool.false_eq_true, if_false] | lk)
    exact q
  | some sig =>
    rw [e] at ha
    dsimp only at ha
    repeat (first | simp only [Bool.not_true, Bool.false_eq_true, if_false, ha] | lk)
    exact q
theorem call_append {x dx : Addr} {l : List Value} {n : Nat} {v : Value} {rest : List (Addr × Obj)} {Q : Value → Shared → Prop} (F : Fr h₀ L s.heap m) (X : (KW w).In h₀) (N : News h₀ L s.heap news) (h1 : (x, pileObj dx l.toArray n) ∈ news) (hr : ∀ p ∈ rest, p ∈ news) (hne : ∀ p ∈ rest, p.1 ≠ x)
    (hs1 : l.length ≤ sizeLine)
    (h : ∀ h' n', Fr h₀ L h' m → News h₀ L h' ((x, pileObj dx (l ++ [v]).toArray n') :: rest) → Q .none { s with heap := h' }) : wpAny (model pw w) A (call (.builtin "list.append") [.ref x, v]) Q E s := by
  refine wpAny_call (codeAny_call_builtin PySem.F.slot_list_append.plain PySem.F.entry_list_append ((lk_append (X.keeps F.keep) (N _ h1).1).here ?_))
  obtain ⟨hh, g, d, t, os⟩ := s
  refine bb_append (R := wants Q E) (N _ h1).1 (by simpa using hs1) ?_
  have ef : Obj.mapSeq (fun xs => xs.push v) (pileObj dx l.toArray n) = pileObj dx (l ++ [v]).toArray (n + 1) := by
    have hs : ((l ++ [v]).toArray.size == l.toArray.size) = false := by simp
    have e : l.toArray.push v = (l ++ [v]).toArray := by simp
    simp only [Obj.mapSeq, e, hs, Bool.false_eq_true, if_false]
  obtain ⟨F', N'⟩ := after_upd F N h1 hr hne ef rfl
  exact h _ _ F' N'
end
end
end
local macro_rules | `(tactic| walk_at "own 7") => `(tactic| (refine' super_len ?k1 ?k2 ?k3 ?k4 ?k5 ?k6 ?_; (case k1 | k2 | k3 => k_asm); (case k4 => k_mem); (case k5 | k6 => walk_at "own mem2"); intro q' h' F' N' l1))
local macro_rules | `(tactic| walk_at "own 8") => `(tactic| (refine' super_pop ?k1 ?k2 ?k3 ?k4 ?k5 ?k6 ?_; (case k1 | k2 | k3 => k_asm); (case k4 => k_mem); (case k5 | k6 => walk_at "own mem2"); intro q' h' F' N' l1))
local macro_rules | `(tactic| walk_at "own 9") => `(tactic| (refine' super_init ?k1 ?k2 ?k3 ?k4 ?k5 ?k6 ?_; (case k1 | k2 | k3 => k_asm); (case k4 => k_mem); (case k5 | k6 => walk_at "own mem2"); intro q' h' F' N' l1))
section
set_option maxHeartbeats 8000000
section
open PySem PySem.W PySem.Calls PyProof.Rows PySem.Spec
local macro_rules | `(tactic| k_inst) => `(tactic| walk_at "own 5")
local macro_rules | `(tactic| ks_enter) => `(tactic| walk_at "own 6")
local macro_rules
  | `(tactic| walk_at "b super_len") => `(tactic| walk_at "own 7")
  | `(tactic| walk_at "b super_pop") => `(tactic| walk_at "own 8")
  | `(tactic| walk_at "b super_init") => `(tactic| walk_at "own 9")
local macro_rules | `(tactic| walk_at "getMethod ref") => `(tactic| (k_here; k_dflt (first | walk_at "b super_len" | walk_at "b super_pop" | walk_at "b super_init")))
local macro_rules | `(tactic| walk_at "callWith ref") => `(tactic| walk_at "own 10")
/-- the pile's own dict -/
noncomputable abbrev pileD (w : World) (t1 t2 : Tok) (n : Nat) : Obj := dictOf [⟨PyData.keyHash w.params (PySem.Str.ofString "_initial_size"), .str (PySem.Str.ofString "_initial_size") t1, .int 0 t2⟩] n
theorem method_b {w : World} {A : Around} {E : Value → Shared → Prop} {s : Shared} {K : Frag} {name : PySem.Str} {x C : Addr} {ox : Obj} {od : Option Obj} {pl : Sem Bool} {gid T : String} {f : Value} {Q : Value × List Value → Shared → Prop} (X : K.In s.heap) (I : PySem.W.InstAt s.heap x ox C od) (hga : findIn K (.ref C) "__getattribute__" = some (some (.builtin gid))) (hcan : (Manifest.canonical gid != "object.__getattribute__") = false) (hk : findIn K (.ref C) "__getattr__" = some none)
    (hf : findIn K (.ref C) name = some (some f)) (ht : typeIn K f = some (.type T)) (hT : T = "function" ∨ T = "method_descriptor") (hs : shadowIn od name = some false) (h : Q (f, [.ref x]) s) :
    wpAny (model pw w) A (getMethod (.ref x) name pl) Q E s := by
  unfold getMethod specialOf
  refine wpAny_bind (wpAny_bind (I.type.here ((looks_findIn X hga).here ?_)))
  dsimp only
  rw [hcan, if_neg Bool.false_ne_true]
  refine wpAny_bind (wpAny_bind (I.type.here ((looks_findIn X hk).here ?_)))
  refine wpAny_bind (wpAny_bind (I.type.here ((looks_findIn X hf).here (wpAny_bind ((looks_typeIn X ht).here ?_)))))
  rw [if_neg (by rcases hT with rfl | rfl <;> decide +kernel)]
  refine wpAny_bind (wpAny_loadPart I.at_ ?_)
  have hd := I.dict
  cases e : ox.dict with
  | none => exact wpAny_bind (wpAny_rule (wpAny_pure h))
  | some dx =>
    cases od with
    | none => rw [e] at hd; exact hd.elim
    | some o =>
      rw [e] at hd
      obtain ⟨r, a, b⟩ := Option.map_eq_some_iff.mp hs
      refine wpAny_bind (wpAny_bind (wpAny_loadPart hd ?_))
      rw [nsLook_of a]
      refine wpAny_pure ?_
      rw [b]
      exact wpAny_bind (wpAny_rule (wpAny_pure h))
theorem ga115 (w : World) : findIn (KW w) (.ref 115) "__getattribute__" = some (some (.builtin "list.__getattribute__")) := by kernel_rfl
theorem can115 : (Manifest.canonical "list.__getattribute__" != "object.__getattribute__") = false := by decide +kernel
theorem meth_append {w : World} {A : Around} {E : Value → Shared → Prop} {s : Shared} {h₀ : Heap} {L : Addr} {m : Str → Option Value} {news : List (Addr × Obj)} {x dx : Addr} {items : Array Value} {n k : Nat} {t1 t2 : Tok} {pl : Sem Bool} {Q : Value × List Value → Shared → Prop} (F : Fr h₀ L s.heap m) (X : (KW w).In h₀) (N : News h₀ L s.heap news) (h1 : (x, pileObj dx items n) ∈ news) (h2 : (dx, pileD w t1 t2 k) ∈ news)
    (h : Q (.builtin "list.append", [.ref x]) s) : wpAny (model pw w) A (getMethod (.ref x) "append" pl) Q E s :=
  method_b (X.keeps F.keep) (inst_pile N h1 h2) (ga115 w) can115 (by kernel_rfl) (by kernel_rfl) (by kernel_rfl) (.inr rfl) (by kernel_rfl) h
theorem meth_count {w : World} {A : Around} {E : Value → Shared → Prop} {s : Shared} {h₀ : Heap} {L : Addr} {m : Str → Option Value} {news : List (Addr × Obj)} {x dx : Addr} {items : Array Value} {n k : Nat} {t1 t2 : Tok} {pl : Sem Bool} {Q : Value × List Value → Shared → Prop} (F : Fr h₀ L s.heap m) (X : (KW w).In h₀) (N : News h₀ L s.heap news) (h1 : (x, pileObj dx items n) ∈ news) (h2 : (dx, pileD w t1 t2 k) ∈ news)
    (h : Q (.ref 112, [.ref x]) s) : wpAny (model pw w) A (getMethod (.ref x) "part_count" pl) Q E s :=
  method_b (X.keeps F.keep) (inst_pile N h1 h2) (ga115 w) can115 (by kernel_rfl) (by kernel_rfl) (by kernel_rfl) (.inl rfl) (by kernel_rfl) h
theorem meth_pop {w : World} {A : Around} {E : Value → Shared → Prop} {s : Shared} {h₀ : Heap} {L : Addr} {m : Str → Option Value} {news : List (Addr × Obj)} {x dx : Addr} {items : Array Value} {n k : Nat} {t1 t2 : Tok} {pl : Sem Bool} {Q : Value × List Value → Shared → Prop} (F : Fr h₀ L s.heap m) (X : (KW w).In h₀) (N : News h₀ L s.heap news) (h1 : (x, pileObj dx items n) ∈ news) (h2 : (dx, pileD w t1 t2 k) ∈ news)
    (h : Q (.ref 75, [.ref x]) s) : wpAny (model pw w) A (getMethod (.ref x) "pop" pl) Q E s :=
  method_b (X.keeps F.keep) (inst_pile N h1 h2) (ga115 w) can115 (by kernel_rfl) (by kernel_rfl) (by kernel_rfl) (.inl rfl) (by kernel_rfl) h
theorem meth_push {w : World} {A : Around} {E : Value → Shared → Prop} {s : Shared} {h₀ : Heap} {L : Addr} {m : Str → Option Value} {news : List (Addr × Obj)} {x dx : Addr} {items : Array Value} {n k : Nat} {t1 t2 : Tok} {pl : Sem Bool} {Q : Value × List Value → Shared → Prop} (F : Fr h₀ L s.heap m) (X : (KW w).In h₀) (N : News h₀ L s.heap news) (h1 : (x, pileObj dx items n) ∈ news) (h2 : (dx, pileD w t1 t2 k) ∈ news)
    (h : Q (.ref 59, [.ref x]) s) : wpAny (model pw w) A (getMethod (.ref x) "push" pl) Q E s :=
  method_b (X.keeps F.keep) (inst_pile N h1 h2) (ga115 w) can115 (by kernel_rfl) (by kernel_rfl) (by kernel_rfl) (.inl rfl) (by kernel_rfl) h
variable (w : World) (mean : ExcName → Option Value) (mg mb : Str → Option Value)
theorem cut_count (x dx : Addr) (items : Array Value) (n : Nat) (od : Obj) : Cut w mean mg mb 112 1 8 [.ref x] (fun h₀ L m news s Q => ((x, pileObj dx items n) ∈ news ∧ (dx, od) ∈ news) ∧ Gives (fun t => .int items.size t) h₀ L m news s Q) := by
  unfold Cut; k_fill; w_top off
  intro _ dp un gd cn cs a ccd cl outer A₀ base h₀ L m s Q E news B F X N T hk hb hd hu ⟨⟨hm1, hm2⟩, hret⟩
  refine wpAny_call ?_
  ks_enter
  k_steps
  refine call_len (by k_asm) (by k_asm) (by k_asm) (.head _) (.tail _ (.tail _ hm1)) ?_
  intro t
  k_steps
  rename Fr h₀ L _ m => F9
  rename News h₀ L _ _ => N9
  exact hret _ _ _ F9 (fun p hp => N9 p (.tail _ (.tail _ hp)))
end
end
section
set_option maxHeartbeats 8000000
section
open PySem PySem.W PySem.Calls PyProof.Rows PySem.Spec
theorem refuse_pile (self : Value) : refuseLoop self "__setattr__" [.ref 115, .type "list", .type "object"] = pure () := by rw [refuseLoop_ref]; kernel_rfl
section
variable {w : World} {A : Around} {E : Value → Shared → Prop} {s : Shared} {h₀ : Heap} {L : Addr} {m : Str → Option Value}
/-- the first store into the pile's own dict -/
theorem set_pile {x dx : Addr} {items : Array Value} {k : Nat} {v : Int} {tv : Tok} {rest : List (Addr × Obj)} {Q : Unit → Shared → Prop} (F : Fr h₀ L s.heap m) (X₀ : (KW w).In h₀) (N : News h₀ L s.heap ((x, pileObj dx items k) :: (dx, dictOf [] 0) :: rest))
    (hxd : x ≠ dx) (hrd : ∀ p ∈ rest, p.1 ≠ dx)
    (h : ∀ h' t1 n', Fr h₀ L h' m → News h₀ L h' ((x, pileObj dx items k) :: (dx, dictOf [⟨PyData.keyHash w.params (PySem.Str.ofString "_initial_size"), .str (PySem.Str.ofString "_initial_size") t1, .int v tv⟩] n') :: rest) → Q () { s with heap := h', toks := s.toks + 2 }) :
    wpAny (model pw w) A (setAttr (.ref x) "_initial_size" (.int v tv)) Q E s := by
  obtain ⟨hh, g, d, t, os⟩ := s
  have X : (KW w).In hh := X₀.keeps F.keep
  have I := inst_pile N (.head _) (.tail _ (.head _))
  have hs : findIn (KW w) (.ref 115) "__setattr__" = some (some (.builtin "object.__setattr__")) := by kernel_rfl
  have ha : findIn (KW w) (.ref 115) "_initial_size" = some none := by kernel_rfl
  obtain ⟨cd, hc, hd⟩ : ∃ cd, clsIn (KW w) 115 = some cd ∧ cd.hasDict = true := any_some (p := fun c : ClassData => c.hasDict) (by kernel_rfl)
  refine set_plain X I hs ?_
  have SF := PySem.F.store_object
  have sub : Looks (model pw w) hh (isInstance (.ref x) (.type "object")) true := I.type.andThen (.of_peek X (by kernel_rfl))
  refine codeAny_call_builtin SF.slot.plain SF.entry (@check_slot (model pw w) _ _ ⟨hh, g, d, t + 1, os⟩ "object.__setattr__" "object" "__setattr__" (.ref x) [.str _ _, .int v tv] [] _ SF.kind SF.split sub (SF.args (.ref x) (.str _ _) (.int v tv)) ?_)
  rw [osa_eq, refuse_eq]
  refine wpAny_bind (wpAny_bind (I.type.at (wpAny_bind ((lk_mro X).at ?_))))
  rw [refuse_pile]
  have hN : News h₀ L hh ([(x, pileObj dx items k)] ++ (dx, dictOf [] 0) :: rest) := N
  refine wpAny_pure (wpAny_bind (I.type.at (wpAny_bind ((looks_findIn X ha).at (wpAny_bind (Looks.at .now ?_))))))
  obtain ⟨U1, U2⟩ := news_upd (f := Obj.putName (PySem.Str.ofString "_initial_size") (PyData.keyHash w.params (PySem.Str.ofString "_initial_size")) (.str (PySem.Str.ofString "_initial_size") (t + 1)) (.int v tv)) F hN
    (fun p hp => by rw [List.mem_singleton.mp hp]; exact hxd) hrd (show _ = dictOf [⟨PyData.keyHash w.params (PySem.Str.ofString "_initial_size"), .str (PySem.Str.ofString "_initial_size") (t + 1), .int v tv⟩] 1 from rfl) rfl
  have D := (N (dx, _) (.tail _ (.head _))).1
  have D' := (U2 _ (List.mem_append_right _ (.head _))).1
  refine wpAny_bind (wpAny_pure (wpAny_bind (wpAny_bind (wpAny_loadPart (N _ (.head _)).1 (wpAny_bind ((looks_clsIn X hc).at ?_))))))
  rw [hd]
  refine wpAny_pure (a := some dx) (wpAny_bind (wpAny_pure (wpAny_bind ?_)))
  unfold nsSet
  refine wpAny_bind (wpAny_bind (wpAny_askSetting (wpAny_pure (wpAny_bind (wpAny_mkText (wpAny_bind (wpAny_loadPart D ?_)))))))
  dsimp only
  rw [aRefKeyMayBeTheName_at, show (!(#[] : Array DictEntry).any (·.key.isStr (PySem.Str.ofString "_initial_size")) && (#[] : Array DictEntry).any (·.refKey)) = false by simp]
  refine wpAny_updatePart D ?_
  refine wpAny_bind (wpAny_lookBehind D' (pastItsLine_dict (by rw [sizeLine_eq]; simp)) ?_)
  exact wpAny_pure (h _ _ _ U1 U2)
end
local macro_rules | `(tactic| k_inst) => `(tactic| walk_at "own 5")
local macro_rules | `(tactic| ks_enter) => `(tactic| walk_at "own 6")
local macro_rules
  | `(tactic| walk_at "b super_len") => `(tactic| walk_at "own 7")
  | `(tactic| walk_at "b super_pop") => `(tactic| walk_at "own 8")
  | `(tactic| walk_at "b super_init") => `(tactic| walk_at "own 9")
local macro_rules | `(tactic| walk_at "b meth_append") => `(tactic| (refine' meth_append ?k1 ?k2 ?k3 ?k5 ?k6 ?_; (case k1 | k2 | k3 => k_asm); (case k5 | k6 => walk_at "own mem2"); (try dsimp only)))
local macro_rules | `(tactic| walk_at "b meth_count") => `(tactic| (refine' meth_count ?k1 ?k2 ?k3 ?k5 ?k6 ?_; (case k1 | k2 | k3 => k_asm); (case k5 | k6 => walk_at "own mem2"); (try dsimp only)))
local macro_rules | `(tactic| walk_at "getMethod ref") => `(tactic| (k_here; k_dflt (first | walk_at "b super_len" | walk_at "b super_pop" | walk_at "b super_init" | walk_at "b meth_append" | walk_at "b meth_count")))
local macro_rules | `(tactic| walk_at "callWith ref") => `(tactic| walk_at "own 10")
local macro_rules | `(tactic| walk_at "call ref") => `(tactic| (k_here; (try dsimp only [List.nil_append, List.cons_append]); ((with_reducible show wpAny _ _ (call (Value.ref 112) _) _ _ _); k_dflt refine' Cut.use (cut_count _ _ _ _ _ _ _ _ _) ?k1 ?k2 ?k3 ?k4 ?k5 ?k6 ?k7 ?k8 ?k9 ⟨⟨?k10, ?k11⟩, ?_⟩); (case k1 | k2 | k3 | k4 | k5 => k_asm); (case k6 => first | exact rfl | assumption); (case k7 => assumption); (case k8 | k9 => walk_at "own room"); (case k10 => walk_at "own mem2"); (case k11 => walk_at "own mem2"); intro t9 h9 tk9 F9 N9; (try dsimp only); (try k_fold)))
local macro_rules | `(tactic| walk_at "wpAt") => `(tactic| ((try dsimp only); first
  | (ks_step "execs cons"; refine ks_wpAt_execs_cons ?_)
  | (ks_step "exec Expr"; k_dflt refine ks_wpAt_Expr_any ?_)
  | (ks_step "exec Return"; k_dflt refine ks_wpAt_Return_some ?_)
  | (ks_step "exec If"; k_dflt refine ks_wpAt_If ?_)
  | (ks_step "eval Call"; k_dflt refine ks_wpAt_MethodCall ?_)))
variable (w : World) (mean : ExcName → Option Value) (mg mb : Str → Option Value)
/-- a pair of texts -/
noncomputable abbrev tup2 (f : PySem.Str) (tf : Tok) (s : PySem.Str) (ts : Tok) : Obj := { cls := .type "tuple", data := .seq #[.str f tf, .str s ts] }
theorem cut_push (x dx : Addr) (l : List Value) (n k : Nat) (t1 t2 : Tok) (fw sg : PySem.Str) (tf ts : Tok) (hs1 : l.length ≤ sizeLine) : Cut w mean mg mb 59 1 8 [.ref x, .str fw tf, .str sg ts] (fun h₀ L m news sh Q =>
    ∃ rest, ((x, pileObj dx l.toArray n) ∈ news ∧ (dx, pileD w t1 t2 k) ∈ news) ∧ (∀ p ∈ rest, p ∈ news) ∧ (∀ p ∈ rest, p.1 ≠ x) ∧
      ∀ D h' tk' n', (∀ p ∈ news, p.1 < D) → Fr h₀ L h' m → News h₀ L h' ((x, pileObj dx (l ++ [Value.ref D]).toArray n') :: (D, tup2 fw tf sg ts) :: rest) → Q .none { sh with heap := h', toks := tk' }) := by
  unfold Cut; k_fill; w_top off
  intro _ dp un gd cn cs a ccd cl outer A₀ base h₀ L m s Q E news B F X N T hk hb hd hu ⟨rest, ⟨hm1, hm2⟩, hr, hne, hret⟩
  refine wpAny_call ?_
  k_dflt cell_enter
  k_steps
  rename_i D' h2 F2 N2 l2
  refine call_append (rest := (D', tup2 fw tf sg ts) :: rest) (by k_asm) (by k_asm) (by k_asm) (.tail _ hm1) (fun p hp => ?_) (fun p hp => ?_) hs1 ?_
  · rcases List.mem_cons.mp hp with rfl | hp
    · exact .head _
    · exact .tail _ (hr _ hp)
  · rcases List.mem_cons.mp hp with rfl | hp
    · exact Nat.ne_of_gt (l2 _ hm1)
    · exact hne _ hp
  · intro h3 n3 F3 N3
    k_steps
    exact hret _ _ _ _ l2 (by assumption) (by assumption)
theorem cut_pop0 (x dx : Addr) (n k : Nat) (t1 t2 : Tok) : Cut w mean mg mb 75 2 16 [.ref x] (fun h₀ L m news s Q => ((x, pileObj dx #[] n) ∈ news ∧ (dx, pileD w t1 t2 k) ∈ news) ∧
    ∀ D ta tb h' tk', (∀ p ∈ news, p.1 < D) → Fr h₀ L h' m → News h₀ L h' ((D, tup2 Str.empty ta Str.empty tb) :: news) → Q (.ref D) { s with heap := h', toks := tk' }) := by
  unfold Cut; k_fill; w_top off
  intro _ dp un gd cn cs a ccd cl outer A₀ base h₀ L m s Q E news B F X N T hk hb hd hu ⟨⟨hm1, hm2⟩, hret⟩
  refine wpAny_call ?_
  ks_enter
  k_steps
  rename_i D' h2 F2 N2 l2 F3 N3 _ _
  exact hret _ _ _ _ _ l2 F3 N3
theorem cut_pop (x dx : Addr) (l : List Value) (y : Value) (n k : Nat) (t1 t2 : Tok) (hl : l.length < 1000) : Cut w mean mg mb 75 2 16 [.ref x] (fun h₀ L m news s Q => ∃ rest, ((x, pileObj dx (l ++ [y]).toArray n) ∈ news ∧ (dx, pileD w t1 t2 k) ∈ news) ∧ (∀ p ∈ rest, p ∈ news) ∧ (∀ p ∈ rest, p.1 ≠ x) ∧
    ∀ h' tk' n', Fr h₀ L h' m → News h₀ L h' ((x, pileObj dx l.toArray n') :: rest) → Q y { s with heap := h', toks := tk' }) := by
  unfold Cut; k_fill; w_top off
  intro _ dp un gd cn cs a ccd cl outer A₀ base h₀ L m s Q E news B F X N T hk hb hd hu ⟨rest, ⟨hm1, hm2⟩, hr, hne, hret⟩
  have hz : ¬ ((((l ++ [y]).toArray.size : Nat) : Int) = 0) := by simp; omega
  refine wpAny_call ?_
  ks_enter
  k_steps
  · rename (((((l ++ [y]).toArray.size : Nat) : Int) = 0)) => hz'
    exact absurd hz' hz
  rename_i so h2 F2 N2 l2 q h3 F3 N3 l3 
  refine call_pop (rest := rest) (by k_asm) (by k_asm) N3 (.head _) (.tail _ (.tail _ hm1)) (fun p hp => .tail _ (.tail _ (hr _ hp))) hne (by rw [sizeLine_eq]; omega) ?_
  intro h4 n4 F4 N4
  k_steps
  exact hret _ _ _ (by assumption) (by assumption)
theorem cut_make : Cut w mean mg mb 115 2 16 [] (fun h₀ L m news s Q => ∀ x dx n k t1 t2 h' tk', (∀ p ∈ news, p.1 < dx) → dx < x → Fr h₀ L h' m → News h₀ L h' ((x, pileObj dx #[] n) :: (dx, pileD w t1 t2 k) :: news) → Q (.ref x) { s with heap := h', toks := tk' }) := by
  unfold Cut; k_fill; w_top off
  intro _ dp un gd cn cs a ccd cl outer A₀ base h₀ L m s Q E news B F X N T hk hb hd hu hret
  refine wpAny_call (make_pile F N (X.keeps F.keep) ?_)
  intro x dx h1 F1 N1 l1 l2
  have N1 : News h₀ L h1 ((x, pileObj dx #[] 0) :: (dx, dictOf [] 0) :: news) := N1
  have hm1 : (x, pileObj dx #[] 0) ∈ (x, pileObj dx #[] 0) :: (dx, dictOf [] 0) :: news := .head _
  have hm2 : (dx, dictOf [] 0) ∈ (x, pileObj dx #[] 0) :: (dx, dictOf [] 0) :: news := .tail _ (.head _)
  ks_enter
  k_steps
  refine set_pile (by k_asm) (by k_asm) (by k_asm) (Nat.ne_of_gt l2) (fun p hp => Nat.ne_of_lt (l1 p hp)) ?_
  intro h2 t1 n1 F2 N2
  have hm3 : (x, pileObj dx #[] 0) ∈ (x, pileObj dx #[] 0) :: (dx, pileD w t1 230 n1) :: news := .head _
  have hm4 : (dx, pileD w t1 230 n1) ∈ (x, pileObj dx #[] 0) :: (dx, pileD w t1 230 n1) :: news := .tail _ (.head _)
  k_steps
  rename_i so h3 F3 N3 l3 q h4 F4 N4 l4
  refine call_init (rest := (dx, pileD w t1 230 n1) :: news) (by k_asm) (by k_asm) N4 (.head _) (.tail _ (.tail _ hm3)) (fun p hp => .tail _ (.tail _ (.tail _ hp))) (fun p hp => ?_) ?_
  · rcases List.mem_cons.mp hp with rfl | hp
    · exact Nat.ne_of_lt l2
    · exact Nat.ne_of_lt (Nat.lt_trans (l1 p hp) l2)
  intro h5 n5 F5 N5
  k_steps
  exact hret _ _ _ _ _ _ _ _ l1 l2 (by assumption) (by assumption)
end
end
section
set_option maxHeartbeats 8000000
section
open PySem PySem.W PySem.Calls PyProof.Rows PySem.Spec
/-- one letter at the pile -/
noncomputable def tstep (tab : List Nat → Option (List Nat)) (l : Nat) : List Nat → Option (List Nat)
  | [] => none
  | top :: rest => if top < 256 then (if top = l then some rest else none) else if top - 1 < 256 then none else (tab [top, l]).map (· ++ rest)
/-- one sign -/
noncomputable def sstep (tab : List Nat → Option (List Nat)) (st : Option (List Nat)) (c : Nat) : Option (List Nat) :=
  if (c : Int) ∈ b1L then st else st.bind (tstep tab ((lowOf c).getD 0))
noncomputable def takenRun (tab : List Nat → Option (List Nat)) (cs : List Nat) : Option (List Nat) := cs.foldl (sstep tab) (some [257])
noncomputable def takenB (tab : List Nat → Option (List Nat)) (cs : List Nat) : Bool := takenRun tab cs == some []
/-- what stands on the pile, its foot first -/
inductive PileIs (nx : List (Addr × Obj)) : List Value → List Nat → Prop where
  | nil : PileIs nx [] []
  | snoc {l : List Value} {p : List Nat} {D : Addr} {c : Nat} {f : PySem.Str} {ta tb : Tok} : PileIs nx l p → (D, tup2 f ta ⟨#[c]⟩ tb) ∈ nx → PileIs nx (l ++ [.ref D]) (c :: p)
theorem PileIs.mono {nx nx' : List (Addr × Obj)} {l : List Value} {p : List Nat} (h : PileIs nx l p) (hs : ∀ q ∈ nx, q ∈ nx') : PileIs nx' l p := by
  induction h with
  | nil => exact .nil
  | snoc _ hm ih => exact .snoc ih (hs _ hm)
theorem PileIs.length {nx : List (Addr × Obj)} {l : List Value} {p : List Nat} (h : PileIs nx l p) : l.length = p.length := by
  induction h with
  | nil => rfl
  | snoc _ _ ih => simp [ih]
/-- the rules' table tells what tab tells -/
noncomputable def TabSays (kvs : List (Str × Value)) (tab : List Nat → Option (List Nat)) : Prop :=
  ∀ k : List Nat, match tab k with
    | none => valueAt kvs ⟨k.toArray⟩ = none
    | some v => ∃ t, valueAt kvs ⟨k.toArray⟩ = some (.str ⟨v.toArray⟩ t)
/-- a sign of a written word -/
noncomputable def wordSign (c : Nat) : Bool := decide ((c : Int) ∈ b1L) || (lowOf c).isSome
local macro_rules | `(tactic| walk_at "call ref") => `(tactic| (k_here; (first
  | ((with_reducible show wpAny _ _ (call (Value.ref 28) _) _ _ _); (k_dflt refine' Cut.use (cut_term _ _ _ _ _ _) ?k1 ?k2 ?k3 ?k4 ?k5 ?k6 ?k7 ?k8 ?k9 ?_))
  | ((with_reducible show wpAny _ _ (call (Value.ref 137) _) _ _ _); (k_dflt refine' Cut.use (cut_b1 _ _ _ _ _ _) ?k1 ?k2 ?k3 ?k4 ?k5 ?k6 ?k7 ?k8 ?k9 ?_))
  | ((with_reducible show wpAny _ _ (call (Value.ref 183) _) _ _ _); (k_dflt refine' Cut.use (cut_b3 _ _ _ _ _ _ _ (by assumption)) ?k1 ?k2 ?k3 ?k4 ?k5 ?k6 ?k7 ?k8 ?k9 ?_))); (case k1 | k2 | k3 | k4 | k5 => k_asm); (case k6 => first | exact rfl | assumption); (case k7 => assumption); (case k8 | k9 => walk_at "own room"); intro t9 h9 tk9 F9 N9; (try dsimp only); (try k_fold)))
local macro_rules | `(tactic| walk_at "getMethod ref") => `(tactic| (k_here; k_dflt (first
  | (refine' meth_push ?k1 ?k2 ?k3 ?k5 ?k6 ?_; (case k1 | k2 | k3 => k_asm); (case k5 | k6 => walk_at "own mem1"); (try dsimp only))
  | (refine' meth_pop ?k1 ?k2 ?k3 ?k5 ?k6 ?_; (case k1 | k2 | k3 => k_asm); (case k5 | k6 => walk_at "own mem1"); (try dsimp only))
  | (refine' meth_count ?k1 ?k2 ?k3 ?k5 ?k6 ?_; (case k1 | k2 | k3 => k_asm); (case k5 | k6 => walk_at "own mem1"); (try dsimp only)))))
local macro_rules
  | `(tactic| walk_at "exec For Name Name cons nil") => `(tactic| walk_at "own 11")
  | `(tactic| walk_at "exec For Name Call cons nil") => `(tactic| walk_at "own 11")
variable (w : World) (mean : ExcName → Option Value) (mg mb : Str → Option Value)
/-- what the loop over the word holds -/
structure PileSt (w : World) (news : List (Addr × Obj)) (px pdx : Addr) (pile : List Nat) (l : List Value) (n : Nat) (rest nx : List (Addr × Obj)) : Prop where
  led : nx = (px, pileObj pdx l.toArray n) :: rest
  off : ∀ p ∈ rest, p.1 ≠ px
  dict : ∃ t1 t2 k, (pdx, pileD w t1 t2 k) ∈ rest
  sub : ∀ p ∈ news, p ∈ rest
  is : PileIs rest l pile
noncomputable def TJ (w : World) (tab : List Nat → Option (List Nat)) (news : List (Addr × Obj)) (px pdx : Addr) (m₀ : Str → Option Value) (cs : List Nat) (m : Str → Option Value) (nx : List (Addr × Obj)) : Prop :=
  ∃ pile l n rest, takenRun tab cs = some pile ∧ pile.length ≤ 1 + cs.length ∧ PileSt w news px pdx pile l n rest nx ∧
    ∀ z, z ≠ Str.ofString "sign" → z ≠ Str.ofString "letter" → z ≠ Str.ofString "top" → z ≠ Str.ofString "part" → m z = m₀ z
theorem over4 {m m₀ : Str → Option Value} (a b c d : Str) (h : ∀ z, z ≠ a → z ≠ b → z ≠ c → z ≠ d → m z = m₀ z) : (fun y => if y = a then m a else if y = b then m b else if y = c then m c else if y = d then m d else m₀ y) = m := by
  funext y
  by_cases h1 : y = a
  · simp [h1]
  by_cases h2 : y = b
  · simp only [h1, h2, if_true, if_false, ite_self]; split <;> simp_all
  by_cases h3 : y = c
  · subst h3; simp only [h1, h2, if_true, if_false]
  by_cases h4 : y = d
  · subst h4; simp only [h1, h2, h3, if_true, if_false]
  simp only [h1, h2, h3, h4, if_false]
  exact (h y h1 h2 h3 h4).symm
theorem taken_loop {prog : Program} {w : World} {A : Around} {E : Value → Shared → Prop} {s : Shared} {env : Env} {h₀ : Heap} {target : PySem.Expr} {body : List Stmt} {Q : Flow → Shared → Prop} {xt : Str} {tx : Tok} {m₀ : Str → Option Value} {tab : List Nat → Option (List Nat)} {news rest₀ nx₀ : List (Addr × Obj)} {px pdx : Addr} {l₀ : List Value} {n₀ : Nat}
    (hh : A.handled = none) (F : Fr h₀ env.locals s.heap m₀) (N : News h₀ env.locals s.heap nx₀) (hp : PileSt w news px pdx [257] l₀ n₀ rest₀ nx₀) (hx : xt.cps.toList.all wordSign = true) (hsz : xt.cps.size < 400)
    (turn : ∀ I it pre c post t u1 u2 u3 u4 pile l n rest nx h tk, xt.cps.toList = pre ++ c :: post → wordSign c = true → takenRun tab pre = some pile → pile.length ≤ 1 + pre.length → pre.length < 400 → PileSt w news px pdx pile l n rest nx → (∀ p ∈ nx, p.1 ≠ I) →
      Fr h₀ env.locals h (fun y => if y = Str.ofString "sign" then u1 else if y = Str.ofString "letter" then u2 else if y = Str.ofString "top" then u3 else if y = Str.ofString "part" then u4 else m₀ y) → News h₀ env.locals h ((I, it) :: nx) →
      wpAny (model prog w) A (assign target env (.str ⟨#[c]⟩ t)) (fun _ s₂ => wpAny (model prog w) A (execs body env) (FreePost h₀ env.locals (TJ w tab news px pdx m₀ (pre ++ [c])) [(I, it)] { s with heap := h, toks := tk } Q) E s₂) E { s with heap := h, toks := tk })
    (done : ∀ u1 u2 u3 u4 pile l n rest nx h tk, takenRun tab xt.cps.toList = some pile → PileSt w news px pdx pile l n rest nx →
      Fr h₀ env.locals h (fun y => if y = Str.ofString "sign" then u1 else if y = Str.ofString "letter" then u2 else if y = Str.ofString "top" then u3 else if y = Str.ofString "part" then u4 else m₀ y) → News h₀ env.locals h nx → Q .next { s with heap := h, toks := tk })
    (ht : ∀ it v, letOwnedTupleGo target it v = pure () := by intro _ _; rfl) :
    wpAny (model prog w) A (pyIter (.str xt tx)) (fun it s₂ => TurnsAt prog w A h₀ env target body Q E it s₂) E s := by
  refine turns_text (TJ w tab news px pdx m₀) hh F N ⟨_, _, _, _, rfl, by simp, hp, fun _ _ _ _ _ => rfl⟩ ?_ ?_ ht
  · rintro I pre c post t m₁ nx h tk it e ho ⟨pile, l, n, rest, h1, h2, h3, h4⟩ F₁ N₁
    have hl : xt.cps.size = pre.length + (post.length + 1) := by rw [← Array.length_toList, e]; simp
    exact turn I it pre c post t _ _ _ _ pile l n rest nx h tk e (List.all_eq_true.mp hx c (by rw [e]; simp)) h1 h2 (by omega) h3 ho ((over4 _ _ _ _ h4).symm ▸ F₁) N₁
  · rintro m₁ nx h tk ⟨pile, l, n, rest, h1, h2, h3, h4⟩ F₁ N₁
    exact done _ _ _ _ pile l n rest nx h tk h1 h3 ((over4 _ _ _ _ h4).symm ▸ F₁) N₁
theorem rv_call {prog : Program} {w : World} {A : Around} {E : Value → Shared → Prop} {s : Shared} {h₀ : Heap} {L : Addr} {m : Str → Option Value} {news : List (Addr × Obj)} {x : Str} {t : Tok} {Q : Value → Shared → Prop} (F : Fr h₀ L s.heap m) (N : News h₀ L s.heap news) (hz : x.length < 4096)
    (h : ∀ I h', Fr h₀ L h' m → News h₀ L h' ((I, rvObj x t ((x.length : Int) - 1)) :: news) → (∀ p ∈ news, p.1 < I) → Q (.ref I) { s with heap := h', toks := s.toks + 2 }) : wpAny (model prog w) A (call (.type "reversed") [.str x t]) Q E s :=
  call_reversed_str hz (h _ _ (F.push _) (News.push F N _) fun p hp => Heap.lt_size (N p hp).1)
/-- what the loop that pushes holds -/
structure PushSt (w : World) (news own : List (Addr × Obj)) (px pdx : Addr) (pile : List Nat) (l : List Value) (n : Nat) (rest nx : List (Addr × Obj)) : Prop where
  led : nx = (px, pileObj pdx l.toArray n) :: (own ++ rest)
  off : ∀ p ∈ rest, p.1 ≠ px ∧ ∀ q ∈ own, p.1 ≠ q.1
  offo : ∀ q ∈ own, q.1 ≠ px
  dict : ∃ t1 t2 k, (pdx, pileD w t1 t2 k) ∈ rest
  sub : ∀ p ∈ news, p ∈ rest
  is : PileIs rest l pile
noncomputable def PJ (w : World) (news own : List (Addr × Obj)) (px pdx : Addr) (p : List Nat) (m₀ : Str → Option Value) (cs : List Nat) (m : Str → Option Value) (nx : List (Addr × Obj)) : Prop :=
  ∃ l n rest, PushSt w news own px pdx (cs.reverse ++ p) l n rest nx ∧ ∀ z, z ≠ Str.ofString "part" → m z = m₀ z
theorem over1 {m m₀ : Str → Option Value} (a : Str) (h : ∀ z, z ≠ a → m z = m₀ z) : (fun y => if y = a then m a else m₀ y) = m := by
  funext y
  by_cases h1 : y = a
  · simp [h1]
  simp only [h1, if_false]
  exact (h y h1).symm
theorem push_loop {prog : Program} {w : World} {A : Around} {E : Value → Shared → Prop} {s : Shared} {env : Env} {h₀ : Heap} {target : PySem.Expr} {body : List Stmt} {Q : Flow → Shared → Prop} {xt : Str} {tx : Tok} {m₀ : Str → Option Value} {news own rest₀ nx₀ : List (Addr × Obj)} {px pdx J : Addr} {l₀ : List Value} {n₀ : Nat} {p : List Nat}
    (hh : A.handled = none) (hz : xt.length < 4096) (F : Fr h₀ env.locals s.heap m₀) (N : News h₀ env.locals s.heap ((J, rvObj xt tx ((xt.length : Int) - 1)) :: nx₀)) (hnJ : ∀ q ∈ nx₀, q.1 ≠ J) (hp : PushSt w news own px pdx p l₀ n₀ rest₀ nx₀)
    (turn : ∀ pre c post t u l n rest nx h tk it, xt.cps.toList.reverse = pre ++ c :: post → PushSt w news own px pdx (pre.reverse ++ p) l n rest nx → (∀ q ∈ nx, q.1 ≠ J) →
      Fr h₀ env.locals h (fun y => if y = Str.ofString "part" then u else m₀ y) → News h₀ env.locals h ((J, it) :: nx) →
      wpAny (model prog w) A (assign target env (.str ⟨#[c]⟩ t)) (fun _ s₂ => wpAny (model prog w) A (execs body env) (FreePost h₀ env.locals (PJ w news own px pdx p m₀ (pre ++ [c])) [(J, it)] { s with heap := h, toks := tk } Q) E s₂) E { s with heap := h, toks := tk })
    (done : ∀ u l n rest nx h tk, PushSt w news own px pdx (xt.cps.toList ++ p) l n rest nx → Fr h₀ env.locals h (fun y => if y = Str.ofString "part" then u else m₀ y) → News h₀ env.locals h nx → Q .next { s with heap := h, toks := tk })
    (ht : ∀ it v, letOwnedTupleGo target it v = pure () := by intro _ _; rfl) :
    wpAny (model prog w) A (pyIter (.ref J)) (fun it s₂ => TurnsAt prog w A h₀ env target body Q E it s₂) E s := by
  refine turns_rv (PJ w news own px pdx p m₀) hh hz F N hnJ ⟨_, _, _, hp, fun _ _ => rfl⟩ ?_ ?_ ht
  · rintro pre c post t m₁ nx h tk it e ho ⟨l, n, rest, h1, h2⟩ F₁ N₁
    exact turn pre c post t _ l n rest nx h tk it e h1 ho ((over1 _ h2).symm ▸ F₁) N₁
  · rintro m₁ nx h tk ⟨l, n, rest, h1, h2⟩ F₁ N₁
    rw [List.reverse_reverse] at h1
    exact done _ l n rest nx h tk h1 ((over1 _ h2).symm ▸ F₁) N₁
theorem taken_none {tab : List Nat → Option (List Nat)} {cs pre post : List Nat} {c : Nat} (he : cs = pre ++ c :: post) (h : takenRun tab (pre ++ [c]) = none) : takenB tab cs = false := by
  have z : ∀ ds : List Nat, ds.foldl (sstep tab) none = none := by
    intro ds
    induction ds with
    | nil => rfl
    | cons a r ih => rw [List.foldl_cons, show sstep tab none a = none by unfold sstep; split <;> rfl]; exact ih
  have e : cs = (pre ++ [c]) ++ post := by rw [he]; simp
  unfold takenB takenRun
  rw [e, List.foldl_append]
  unfold takenRun at h
  rw [h, z]; rfl
theorem cut_taken (x : PySem.Str) (tk : Tok) (d : Addr) (o : Obj) (kvs : List (Str × Value)) (tab : List Nat → Option (List Nat)) (hx : x.cps.toList.all wordSign = true) (hsz : x.cps.size < 400) (hd : o.IsDictOf (PySem.strKind pw w) kvs) (hs : TabSays kvs tab) (hB : ∀ k v, tab k = some v → v.length ≤ 2) (hsy : (d == sysModules) = false) :
    Cut w mean mg mb 197 4 80 [.ref d, .str x tk] (fun h₀ L m news s Q => (d, o) ∈ news ∧ Gives (fun _ => .bool (takenB tab x.cps.toList)) h₀ L m news s Q) := by
  unfold Cut; k_fill; w_top off
  intro _ dp un gd cn cs a ccd cl outer A₀ base h₀ L m s Q E news B F X N T hk hb hdd hu ⟨hm, hret⟩
  refine wpAny_call ?_
  k_dflt cell_enter
  k_steps
  (try dsimp only [List.nil_append, List.append_nil, List.cons_append]); (k_dflt refine' cut_make w mean mg mb trivial _ _ _ _ _ _ _ _ _ _ _ _ _ _ _ _ _ _ ?k1 ?k2 ?k3 ?k4 ?k5 ?k6 ?k7 ?k8 ?k9 ?_); (case k1 => k_asm); (case k2 => k_asm); (case k3 => k_asm); (case k4 => k_asm); (case k5 => k_asm); (case k6 => first | exact rfl | assumption); (case k7 => assumption); (case k8 => first | exact room _ (by with_reducible assumption) rfl | exact room2 _ (by with_reducible assumption) rfl | ktr_room); (case k9 => first | exact room _ (by with_reducible assumption) rfl | exact room2 _ (by with_reducible assumption) rfl | ktr_units)
  intro px pdx pn pk pt1 pt2 h1 tk1 l1 l2 F1 N1
  have hm1 : (px, pileObj pdx #[] pn) ∈ (px, pileObj pdx #[] pn) :: (pdx, pileD w pt1 pt2 pk) :: news := .head _
  have hm2 : (pdx, pileD w pt1 pt2 pk) ∈ (px, pileObj pdx #[] pn) :: (pdx, pileD w pt1 pt2 pk) :: news := .tail _ (.head _)
  k_steps
  (try dsimp only [List.nil_append, List.append_nil, List.cons_append]); (k_dflt refine' cut_push w mean mg mb px pdx [] pn pk pt1 pt2 _ _ _ _ (by decide) trivial _ _ _ _ _ _ _ _ _ _ _ _ _ _ _ _ _ _ ?k1 ?k2 ?k3 ?k4 ?k5 ?k6 ?k7 ?k8 ?k9 ?_); (case k1 => k_asm); (case k2 => k_asm); (case k3 => k_asm); (case k4 => k_asm); (case k5 => k_asm); (case k6 => first | exact rfl | assumption); (case k7 => assumption); (case k8 => first | exact room _ (by with_reducible assumption) rfl | exact room2 _ (by with_reducible assumption) rfl | ktr_room); (case k9 => first | exact room _ (by with_reducible assumption) rfl | exact room2 _ (by with_reducible assumption) rfl | ktr_units)
  refine ⟨(pdx, pileD w pt1 pt2 pk) :: news, ⟨hm1, hm2⟩, fun p hp => .tail _ hp, fun p hp => ?_, ?_⟩
  · rcases List.mem_cons.mp hp with rfl | hp
    · exact Nat.ne_of_lt l2
    · exact Nat.ne_of_lt (Nat.lt_trans (l1 p hp) l2)
  intro D1 h2 tk2 n2 l3 F2 N2
  dsimp only
  k_steps
  rename Fr _ _ h2 _ => F3
  refine taken_loop (tab := tab) (news := news) (px := px) (pdx := pdx) rfl F3 N2 ⟨rfl, fun p hp => ?_, ⟨_, _, _, .tail _ (.head _)⟩, fun p hp => .tail _ (.tail _ hp), ?_⟩ hx hsz ?_ ?_
  · rcases List.mem_cons.mp hp with rfl | hp
    · exact Nat.ne_of_gt (l3 _ (.head _))
    · rcases List.mem_cons.mp hp with rfl | hp
      · exact Nat.ne_of_lt l2
      · exact Nat.ne_of_lt (Nat.lt_trans (l1 p hp) l2)
  · exact .snoc (l := []) .nil (.head _)
  · clear F3 N2 hm1 hm2
    intro I it pre c post t u1 u2 u3 u4 pile l n rest nx h tk he hc hrun hpl hprl hP hnI F4 N4
    obtain ⟨rfl, hoff, ⟨t1, t2, k, hdm⟩, hsub, hpi⟩ := hP
    have hdn := hsub _ hm
    k_steps
    · rename ((c : Int) ∈ b1L) => hb1
      refine FreeEnd.intro (nx := (px, pileObj pdx l.toArray n) :: rest) (by assumption) (by assumption) (fun p hp q hq => by rw [List.mem_singleton.mp hq]; exact hnI p hp) ⟨pile, l, n, rest, ?_, by simp; omega, ⟨rfl, hoff, ⟨t1, t2, k, hdm⟩, hsub, hpi⟩, fun z h1 h2 h3 h4 => ?_⟩
      · have e1 : takenRun tab (pre ++ [c]) = sstep tab (takenRun tab pre) c := by simp [takenRun]
        rw [e1, hrun]; unfold sstep; rw [if_pos hb1]
      · simp [h1, h2, h3, h4]
    · rename (¬ (c : Int) ∈ b1L) => hb1
      obtain ⟨e, he'⟩ : ∃ e, lowOf c = some e := by
        simp only [wordSign, Bool.or_eq_true, decide_eq_true_eq] at hc
        exact Option.isSome_iff_exists.mp (hc.resolve_left hb1)
      have e1 : takenRun tab (pre ++ [c]) = (takenRun tab pre).bind (tstep tab e) := by
        have e1 : takenRun tab (pre ++ [c]) = sstep tab (takenRun tab pre) c := by simp [takenRun]
        rw [e1]; unfold sstep; rw [if_neg hb1, he']; rfl
      rw [hrun] at e1
      have e1 : takenRun tab (pre ++ [c]) = tstep tab e pile := e1
      cases hpi with
      | nil =>
        k_steps
        (try dsimp only [List.nil_append, List.append_nil, List.cons_append]); (k_dflt refine' cut_pop0 w mean mg mb px pdx n k t1 t2 trivial _ _ _ _ _ _ _ _ _ _ _ _ _ _ _ _ _ _ ?k1 ?k2 ?k3 ?k4 ?k5 ?k6 ?k7 ?k8 ?k9 ?_); (case k1 => k_asm); (case k2 => k_asm); (case k3 => k_asm); (case k4 => k_asm); (case k5 => k_asm); (case k6 => first | exact rfl | assumption); (case k7 => assumption); (case k8 => first | exact room _ (by with_reducible assumption) rfl | exact room2 _ (by with_reducible assumption) rfl | ktr_room); (case k9 => first | exact room _ (by with_reducible assumption) rfl | exact room2 _ (by with_reducible assumption) rfl | ktr_units)
        refine ⟨⟨.tail _ (.head _), .tail _ (.tail _ hdm)⟩, ?_⟩
        intro D2 ta tb h5 tk5 l5 F5 N5
        have hT : IsTup h5 D2 #[.str Str.empty ta, .str Str.empty tb] := News.isTup N5 (.head _)
        dsimp only
        k_steps
        dsimp only [FreePost]
        have hf := taken_none he e1
        simp only [hf] at hret
        k_steps
        rename Fr h₀ L _ m => F9
        rename News h₀ L _ _ => N9
        exact hret 0 _ _ F9 (fun p hp => N9 p (.tail _ (.tail _ (.tail _ (hsub p hp)))))
      | @snoc l p Dt top ff ta tb hpi hdt =>
        have hll := hpi.length
        k_steps
        (try dsimp only [List.nil_append, List.append_nil, List.cons_append]); (k_dflt refine' cut_pop w mean mg mb px pdx l (.ref Dt) n k t1 t2 (by simp only [List.length_cons] at hpl; omega) trivial _ _ _ _ _ _ _ _ _ _ _ _ _ _ _ _ _ _ ?k1 ?k2 ?k3 ?k4 ?k5 ?k6 ?k7 ?k8 ?k9 ?_); (case k1 => k_asm); (case k2 => k_asm); (case k3 => k_asm); (case k4 => k_asm); (case k5 => k_asm); (case k6 => first | exact rfl | assumption); (case k7 => assumption); (case k8 => first | exact room _ (by with_reducible assumption) rfl | exact room2 _ (by with_reducible assumption) rfl | ktr_room); (case k9 => first | exact room _ (by with_reducible assumption) rfl | exact room2 _ (by with_reducible assumption) rfl | ktr_units)
        refine ⟨(I, it) :: rest, ⟨.tail _ (.head _), .tail _ (.tail _ hdm)⟩, fun q hq => ?_, fun q hq => ?_, ?_⟩
        · rcases List.mem_cons.mp hq with rfl | hq
          · exact .head _
          · exact .tail _ (.tail _ hq)
        · rcases List.mem_cons.mp hq with rfl | hq
          · exact (hnI _ (.head _)).symm
          · exact hoff _ hq
        intro h5 tk5 n5 F5 N5
        have hT : IsTup h5 Dt #[.str ff ta, .str ⟨#[top]⟩ tb] := News.isTup N5 (.tail _ (.tail _ hdt))
        dsimp only
        k_steps
        · -- a letter on top, another one is read
          have hf : takenB tab x.cps.toList = false := by
            refine taken_none he (e1.trans ?_)
            rename ((#[top].getD 0 0 : Nat) : Int) < 256 => q1
            rename (_ != _) = true => q2
            have q1 : top < 256 := by have : (#[top].getD 0 0) = top := rfl; omega
            have q3 : top ≠ e := by rintro rfl; simp at q2
            simp [tstep, q1, q3]
          dsimp only [FreePost]
          simp only [hf] at hret
          k_steps
          rename Fr h₀ L _ m => F9
          rename News h₀ L _ _ => N9
          exact hret 0 _ _ F9 (fun q hq => N9 q (.tail _ (.tail _ (hsub q hq))))
        · -- a letter on top, the same is read
          rename ((#[top].getD 0 0 : Nat) : Int) < 256 => q1
          rename (_ != _) = false => q2
          have q1 : top < 256 := by have : (#[top].getD 0 0) = top := rfl; omega
          have q3 : top = e := by simpa using q2
          refine FreeEnd.intro (nx := (px, pileObj pdx l.toArray n5) :: rest) (by assumption) (fun q hq => ?_) (fun q hq q' hq' => ?_) ⟨p, l, n5, rest, ?_, ?_, ⟨rfl, hoff, ⟨t1, t2, k, hdm⟩, hsub, hpi⟩, fun z h1 h2 h3 h4 => ?_⟩
          · refine (by assumption : News _ _ _ _) q ?_
            simp only [List.mem_append, List.mem_cons] at hq ⊢; grind
          · rw [List.mem_singleton.mp hq']
            rcases List.mem_cons.mp hq with rfl | hq
            · exact hnI (px, pileObj pdx (l ++ [Value.ref Dt]).toArray n) (.head _)
            · exact hnI _ (.tail _ hq)
          · rw [e1]; subst q3; simp [tstep, q1]
          · simp only [List.length_cons, List.length_append, List.length_nil] at hpl ⊢; omega
          · simp [h1, h2, h3, h4]
        · -- no letter and no name
          have hf : takenB tab x.cps.toList = false := by
            refine taken_none he (e1.trans ?_)
            rename ¬ ((#[top].getD 0 0 : Nat) : Int) < 256 => q1
            rename ((#[top].getD 0 0 : Nat) : Int) - 1 < 256 => q2
            have q1 : ¬ top < 256 := by have : (#[top].getD 0 0) = top := rfl; omega
            have q2 : top - 1 < 256 := by have : (#[top].getD 0 0) = top := rfl; omega
            simp [tstep, q1, q2]
          dsimp only [FreePost]
          simp only [hf] at hret
          k_steps
          rename Fr h₀ L _ m => F9
          rename News h₀ L _ _ => N9
          exact hret 0 _ _ F9 (fun q hq => N9 q (.tail _ (.tail _ (hsub q hq))))
        · rename ¬ ((#[top].getD 0 0 : Nat) : Int) < 256 => q1
          rename ¬ ((#[top].getD 0 0 : Nat) : Int) - 1 < 256 => q2
          have q1 : ¬ top < 256 := by have : (#[top].getD 0 0) = top := rfl; omega
          have q2 : ¬ top - 1 < 256 := by have : (#[top].getD 0 0) = top := rfl; omega
          have e2 : tstep tab e (top :: p) = (tab [top, e]).map (· ++ p) := by simp [tstep, q1, q2]
          have hst := hs [top, e]
          have hkey : ∀ t', (PySem.strKind pw w).is (⟨[top, e].toArray⟩ : Str) (.str ((⟨#[top]⟩ : Str) ++ ⟨#[e]⟩) t') = true := fun t' => by
            rw [show ((⟨#[top]⟩ : Str) ++ ⟨#[e]⟩) = ⟨[top, e].toArray⟩ from rfl]
            simp [PySem.strKind, Value.isStrOf]
          cases htab : tab [top, e] with
          | none =>
            rw [htab] at hst
            have hf : takenB tab x.cps.toList = false := by
              refine taken_none he (e1.trans ?_)
              rw [e2, htab]; rfl
            refine kda_in (by k_asm) (.tail _ (.tail _ hdn)) hd hsy (hkey _) false (by rw [hst]; rfl) ?_
            simp only [hf] at hret
            k_steps
            dsimp only [FreePost]
            k_steps
            rename Fr h₀ L _ m => F9
            rename News h₀ L _ _ => N9
            exact hret 0 _ _ F9 (fun q hq => N9 q (.tail _ (.tail _ (hsub q hq))))
          | some v =>
            rw [htab] at hst
            obtain ⟨tv, hst⟩ := hst
            refine kda_in (by k_asm) (.tail _ (.tail _ hdn)) hd hsy (hkey _) true (by rw [hst]; rfl) ?_
            k_steps
            refine kda_item (by k_asm) (.tail _ (.tail _ hdn)) hd (hkey _) hst ?_
            k_steps
            have hv2 := hB _ _ htab
            have hvl : Str.length ⟨v.toArray⟩ < 4096 := by show v.toArray.size < 4096; simp; omega
            refine rv_call (by k_asm) (by k_asm) hvl ?_
            intro J h7 F7 N7 l7
            refine push_loop (news := (pdx, pileD w t1 t2 k) :: rest) (own := [(I, it)]) (px := px) (pdx := pdx) (p := p) (l₀ := l) (n₀ := n5) (rest₀ := rest) (nx₀ := (px, pileObj pdx l.toArray n5) :: ([(I, it)] ++ rest)) rfl hvl F7 (fun q hq => N7 q hq) (fun q hq => Nat.ne_of_lt (l7 q hq)) ⟨rfl, fun q hq => ⟨hoff q hq, fun r hr => by rw [List.mem_singleton.mp hr]; exact hnI _ (.tail _ hq)⟩, fun q hq => by rw [List.mem_singleton.mp hq]; exact (hnI (px, pileObj pdx (l ++ [Value.ref Dt]).toArray n) (.head _)).symm, ⟨t1, t2, k, hdm⟩, fun q hq => ?_, hpi⟩ ?_ ?_
            · rcases List.mem_cons.mp hq with rfl | hq
              · exact hdm
              · exact hq
            · clear F7 N7 l7
              intro pre2 c2 post2 tc2 u5 l2 n2 rest2 nx2 h8 tk8 it2 he2 hP2 hnJ F8 N8
              obtain ⟨rfl, hoff2, hoffo2, ⟨t3, t4, k2, hdm2⟩, hsub2, hpi2⟩ := hP2
              have hl2 := hpi2.length
              have hpre2 : pre2.length < 2 := by
                have := congrArg List.length he2
                simp at this; omega
              simp only [List.length_append, List.length_reverse] at hl2
              have hpl2 : p.length + 1 ≤ 1 + pre.length := hpl
              k_steps
              (try dsimp only [List.nil_append, List.append_nil, List.cons_append]); (k_dflt refine' cut_push w mean mg mb px pdx l2 n2 k2 t3 t4 _ _ _ _ (by rw [sizeLine_eq]; omega) trivial _ _ _ _ _ _ _ _ _ _ _ _ _ _ _ _ _ _ ?k1 ?k2 ?k3 ?k4 ?k5 ?k6 ?k7 ?k8 ?k9 ?_); (case k1 => k_asm); (case k2 => k_asm); (case k3 => k_asm); (case k4 => k_asm); (case k5 => k_asm); (case k6 => first | exact rfl | assumption); (case k7 => assumption); (case k8 => first | exact room _ (by with_reducible assumption) rfl | exact room2 _ (by with_reducible assumption) rfl | ktr_room); (case k9 => first | exact room _ (by with_reducible assumption) rfl | exact room2 _ (by with_reducible assumption) rfl | ktr_units)
              refine ⟨(J, it2) :: (I, it) :: rest2, ⟨.tail _ (.head _), .tail _ (.tail _ (.tail _ hdm2))⟩, fun q hq => ?_, fun q hq => ?_, ?_⟩
              · rcases List.mem_cons.mp hq with rfl | hq
                · exact .head _
                · exact .tail _ (.tail _ hq)
              · rcases List.mem_cons.mp hq with rfl | hq
                · exact (hnJ _ (.head _)).symm
                · rcases List.mem_cons.mp hq with rfl | hq
                  · exact hoffo2 _ (.head _)
                  · exact (hoff2 _ hq).1
              intro D3 h9 tk9 n3 l9 F9 N9
              obtain ⟨tk0, N9⟩ : ∃ tk0, News _ _ h9 ((px, pileObj pdx (l2 ++ [Value.ref D3]).toArray n3) :: (D3, tup2 (Str.ofString "") tk0 ⟨#[c2]⟩ tc2) :: (J, it2) :: (I, it) :: rest2) := ⟨_, N9⟩
              dsimp only
              k_steps
              have hD : ∀ q, q ∈ (J, it2) :: (px, pileObj pdx l2.toArray n2) :: ([(I, it)] ++ rest2) → D3 ≠ q.1 := fun q hq => Nat.ne_of_gt (l9 q hq)
              refine FreeEnd.intro (nx := (px, pileObj pdx (l2 ++ [Value.ref D3]).toArray n3) :: ([(I, it)] ++ (D3, tup2 (Str.ofString "") tk0 ⟨#[c2]⟩ tc2) :: rest2)) (by assumption) (fun q hq => ?_) (fun q hq q' hq' => ?_) ⟨l2 ++ [Value.ref D3], n3, _, ⟨rfl, fun q hq => ?_, hoffo2, ⟨t3, t4, k2, .tail _ hdm2⟩, fun q hq => .tail _ (hsub2 q hq), ?_⟩, fun z h1 => ?_⟩
              · refine (by assumption : News _ _ _ _) q ?_
                simp only [List.mem_append, List.mem_cons, List.not_mem_nil] at hq ⊢; grind
              · rw [List.mem_singleton.mp hq']
                rcases List.mem_cons.mp hq with rfl | hq
                · exact hnJ (px, pileObj pdx l2.toArray n2) (.head _)
                · rcases List.mem_append.mp hq with hq | hq
                  · exact hnJ _ (.tail _ (List.mem_append_left _ hq))
                  · rcases List.mem_cons.mp hq with rfl | hq
                    · exact hD _ (.head _)
                    · exact hnJ _ (.tail _ (List.mem_append_right _ hq))
              · rcases List.mem_cons.mp hq with rfl | hq
                · refine ⟨hD _ (.tail _ (.head _)), fun r hr => ?_⟩
                  rw [List.mem_singleton.mp hr]
                  exact hD _ (.tail _ (.tail _ (.head _)))
                · exact hoff2 _ hq
              · have e4 : (pre2 ++ [c2]).reverse ++ p = c2 :: (pre2.reverse ++ p) := by simp
                rw [e4]
                exact .snoc (hpi2.mono fun q hq => .tail _ hq) (.head _)
              · simp [h1]
            · intro u5 l2 n2 rest2 nx2 h8 tk8 hP2 F8 N8
              obtain ⟨rfl, hoff2, hoffo2, hdm2, hsub2, hpi2⟩ := hP2
              k_steps
              refine FreeEnd.intro (nx := (px, pileObj pdx l2.toArray n2) :: rest2) F8 (fun q hq => ?_) (fun q hq q' hq' => ?_) ⟨v ++ p, l2, n2, rest2, e1.trans ?_, ?_, ⟨rfl, fun q hq => (hoff2 q hq).1, hdm2, fun q hq => hsub2 q (.tail _ (hsub q hq)), hpi2⟩, fun z h1 h2 h3 h4 => ?_⟩
              · refine N8 q ?_
                simp only [List.mem_append, List.mem_cons] at hq ⊢; grind
              · rw [List.mem_singleton.mp hq']
                rcases List.mem_cons.mp hq with rfl | hq
                · exact hnI (px, pileObj pdx (l ++ [Value.ref Dt]).toArray n) (.head _)
                · exact (hoff2 q hq).2 _ (.head _)
              · rw [e2, htab]; simp
              · simp only [List.length_cons, List.length_append, List.length_nil] at hpl ⊢; simp; omega
              · simp [h1, h2, h3, h4]
        · rename ((Str.length ⟨#[top]⟩ : Nat) : Int) = 0 => q
          exact absurd q (by simp [Str.length])
        · rename ((Str.length ⟨#[top]⟩ : Nat) : Int) = 0 => q
          exact absurd q (by simp [Str.length])
  · clear F3 N2 hm1 hm2
    intro u1 u2 u3 u4 pile l n rest nx h tk hrun hP F4 N4
    obtain ⟨rfl, hoff, ⟨t1, t2, k, hdm⟩, hsub, hpi⟩ := hP
    have hll := hpi.length
    k_steps
    (try dsimp only [List.nil_append, List.append_nil, List.cons_append]); (k_dflt refine' cut_count w mean mg mb px pdx l.toArray n (pileD w t1 t2 k) trivial _ _ _ _ _ _ _ _ _ _ _ _ _ _ _ _ _ _ ?k1 ?k2 ?k3 ?k4 ?k5 ?k6 ?k7 ?k8 ?k9 ?_); (case k1 => k_asm); (case k2 => k_asm); (case k3 => k_asm); (case k4 => k_asm); (case k5 => k_asm); (case k6 => first | exact rfl | assumption); (case k7 => assumption); (case k8 => first | exact room _ (by with_reducible assumption) rfl | exact room2 _ (by with_reducible assumption) rfl | ktr_room); (case k9 => first | exact room _ (by with_reducible assumption) rfl | exact room2 _ (by with_reducible assumption) rfl | ktr_units)
    refine ⟨⟨.head _, .tail _ hdm⟩, ?_⟩
    intro t9 h9 tk9 F9 N9
    dsimp only
    k_steps
    have hf : takenB tab x.cps.toList = (((l.toArray.size : Nat) : Int) == 0) := by
      unfold takenB
      rw [hrun, List.size_toArray, hll]
      cases pile with
      | nil => rfl
      | cons a r =>
        have e1 : (some (a :: r) == some []) = false := rfl
        rw [e1, List.length_cons]
        exact (beq_eq_false_iff_ne.mpr (by omega)).symm
    rw [← hf]
    rename Fr h₀ L _ m => F9
    rename News h₀ L _ _ => N9
    exact hret 0 _ _ F9 (fun q hq => N9 q (.tail _ (hsub q hq)))
end
end
section
set_option maxHeartbeats 8000000
section
open PySem PySem.W PySem.Calls PyProof.Rows PySem.Spec PyProof.V
/-- what the text tells: the rules so far and the rule under way -/
noncomputable def ruleStep (st : List (PyData × PyData) × List Nat) (c : Nat) : List (PyData × PyData) × List Nat :=
  if c = 0 then (putD (.str ⟨(st.2.take 2).toArray⟩) (.str ⟨(st.2.drop 2).toArray⟩) st.1, [])
  else if (c : Int) ∈ b1L then st else (st.1, st.2 ++ [(lowOf c).getD 0])
noncomputable def rulesOf (cs : List Nat) : List (PyData × PyData) × List Nat := cs.foldl ruleStep ([], [])
theorem rules_len (cs : List Nat) : (rulesOf cs).2.length ≤ cs.length := by
  have main : ∀ (cs : List Nat) st, (cs.foldl ruleStep st).2.length ≤ st.2.length + cs.length := by
    intro cs
    induction cs with
    | nil => intro st; simp
    | cons c cs ih =>
      intro st
      refine Nat.le_trans (ih _) ?_
      have : (ruleStep st c).2.length ≤ st.2.length + 1 := by
        unfold ruleStep
        split
        · simp
        · split
          · omega
          · simp
      simp only [List.length_cons]; omega
  have := main cs ([], [])
  simp only [List.length_nil, Nat.zero_add] at this
  exact this
theorem putD_le {k v : PyData} : ∀ (D : List (PyData × PyData)), (putD k v D).length ≤ D.length + 1
  | [] => by simp [putD]
  | (a, b) :: r => by
    have := putD_le (k := k) (v := v) r
    simp only [putD]
    split <;> simp <;> omega
theorem rules_len1 (cs : List Nat) : (rulesOf cs).1.length ≤ cs.length := by
  have main : ∀ (cs : List Nat) st, (cs.foldl ruleStep st).1.length ≤ st.1.length + cs.length := by
    intro cs
    induction cs with
    | nil => intro st; simp
    | cons c cs ih =>
      intro st
      refine Nat.le_trans (ih _) ?_
      have : (ruleStep st c).1.length ≤ st.1.length + 1 := by
        unfold ruleStep
        split
        · exact putD_le _
        · split
          · omega
          · simp
      simp only [List.length_cons]; omega
  have := main cs ([], [])
  simp only [List.length_nil, Nat.zero_add] at this
  exact this
theorem min_two (n : Nat) : max (0 : Int) (min 2 (n : Int)) = max 0 (min ((min 2 n : Nat) : Int) (n : Int)) := by
  rw [show ((min 2 n : Nat) : Int) = min 2 (n : Int) by omega, Int.min_assoc, Int.min_self]
open PySem.Builtin.Str in
theorem slice_take2 (l : List Nat) : Txt.slice ⟨l.toArray⟩ none (some 2) = ⟨(l.take 2).toArray⟩ := by
  have hl : Str.length ⟨l.toArray⟩ = l.length := by simp [Str.length]
  have e : strSliceIndices none (some 2) 1 (Str.length ⟨l.toArray⟩) = strSliceIndices (some ((0 : Nat) : Int)) (some ((min 2 l.length : Nat) : Int)) 1 (Str.length ⟨l.toArray⟩) := by
    rw [StrLaws.sliceIdx_none_lo, hl]
    have h1 : ¬ (((min 2 l.length : Nat) : Int) < 0) := by omega
    have h2 : max (0 : Int) (min 2 (l.length : Int)) = max 0 (min ((min 2 l.length : Nat) : Int) (l.length : Int)) := min_two l.length
    simp only [strSliceIndices, h1, show ¬ ((2 : Int) < 0) by decide, if_false, show ((1 : Int) > 0) by decide, if_true, h2]
    rfl
  have h3 := StrLaws.sliceText_nat ⟨l.toArray⟩ (a := 0) (b := min 2 l.length) (by omega) (by rw [hl]; omega)
  show StrLaws.sliceText _ _ _ = _
  unfold StrLaws.sliceText at h3 ⊢
  rw [e, h3]
  congr 2
  simp [List.take_eq_take_iff]
open PySem.Builtin.Str in
theorem slice_drop2 (l : List Nat) : Txt.slice ⟨l.toArray⟩ (some 2) none = ⟨(l.drop 2).toArray⟩ := by
  have hl : Str.length ⟨l.toArray⟩ = l.length := by simp [Str.length]
  have e : strSliceIndices (some 2) none 1 (Str.length ⟨l.toArray⟩) = strSliceIndices (some ((min 2 l.length : Nat) : Int)) (some ((l.length : Nat) : Int)) 1 (Str.length ⟨l.toArray⟩) := by
    rw [StrLaws.sliceIdx_none_hi, hl]
    have h1 : ¬ (((min 2 l.length : Nat) : Int) < 0) := by omega
    have h2 : max (0 : Int) (min 2 (l.length : Int)) = max 0 (min ((min 2 l.length : Nat) : Int) (l.length : Int)) := min_two l.length
    simp only [strSliceIndices, h1, show ¬ ((2 : Int) < 0) by decide, if_false, show ((1 : Int) > 0) by decide, if_true, h2]
  have h3 := StrLaws.sliceText_nat ⟨l.toArray⟩ (a := min 2 l.length) (b := l.length) (by omega) (by rw [hl]; omega)
  show StrLaws.sliceText _ _ _ = _
  unfold StrLaws.sliceText at h3 ⊢
  rw [e, h3]
  congr 2
  rw [List.take_of_length_le (by simp)]
  show l.drop (min 2 l.length) = l.drop 2
  by_cases h : 2 ≤ l.length
  · rw [Nat.min_eq_left h]
  · rw [List.drop_eq_nil_of_le (by omega), List.drop_eq_nil_of_le (by omega)]
theorem snoc_str (l : List Nat) (e : Nat) : (⟨l.toArray⟩ : Str) ++ ⟨#[e]⟩ = ⟨(l ++ [e]).toArray⟩ := by
  refine Str.ext' (Array.toList_inj.mp ?_)
  rw [Str.cps_append, Array.toList_append]
/-- a sign that the law writes -/
noncomputable def signOk (c : Nat) : Bool := decide (c = 0) || decide ((c : Int) ∈ b1L) || (lowOf c).isSome
/-- what the loop over the text holds -/
noncomputable def RJ (prog : Program) (w : World) (news : List (Addr × Obj)) (d : Addr) (m₀ : Str → Option Value) (st : List (PyData × PyData) × List Nat) (m : Str → Option Value) (nx : List (Addr × Obj)) : Prop :=
  (∃ t, m (Str.ofString "rule") = some (.str ⟨st.2.toArray⟩ t)) ∧ (∀ z, z ≠ Str.ofString "sign" → z ≠ Str.ofString "rule" → m z = m₀ z) ∧
    ∃ o kvs, nx = (d, o) :: news ∧ Obj.IsDictOf (PySem.strKind prog w) o kvs ∧ FlatPairs PyData.str kvs st.1
theorem rules_loop {prog : Program} {w : World} {A : Around} {E : Value → Shared → Prop} {s : Shared} {env : Env} {h₀ : Heap} {body : List Stmt} {Q : Flow → Shared → Prop} {xt : Str} {tx t₀ : Tok} {m₀ : Str → Option Value} {news : List (Addr × Obj)} {d : Addr} {o₀ : Obj}
    (hh : A.handled = none) (F : Fr h₀ env.locals s.heap m₀) (N : News h₀ env.locals s.heap ((d, o₀) :: news)) (hr : m₀ (Str.ofString "rule") = some (.str Str.empty t₀)) (hd : Obj.IsDictOf (PySem.strKind prog w) o₀ []) (hsz : xt.cps.size < 4096)
    (turn : ∀ pre c post t tr st o kvs h tk own, xt.cps.toList = pre ++ c :: post → (∀ p ∈ (d, o) :: news, ∀ q ∈ own, p.1 ≠ q.1) → rulesOf pre = st → Str.length ⟨st.2.toArray⟩ ≤ sizeLine → st.2.length < 4096 → st.1.length ≤ sizeLine → Obj.IsDictOf (PySem.strKind prog w) o kvs → FlatPairs PyData.str kvs st.1 →
      Fr h₀ env.locals h (fun y => if y = Str.ofString "sign" then some (.str ⟨#[c]⟩ t) else if y = Str.ofString "rule" then some (.str ⟨st.2.toArray⟩ tr) else m₀ y) → News h₀ env.locals h ((d, o) :: (news ++ own)) →
      wpAny (model prog w) A (execs body env) (FreePost h₀ env.locals (RJ prog w news d m₀ (ruleStep st c)) own { s with heap := h, toks := tk } Q) E { s with heap := h, toks := tk })
    (done : ∀ (u : Option Value) tr st o kvs h tk, rulesOf xt.cps.toList = st → Obj.IsDictOf (PySem.strKind prog w) o kvs → FlatPairs PyData.str kvs st.1 →
      Fr h₀ env.locals h (fun y => if y = Str.ofString "sign" then u else if y = Str.ofString "rule" then some (.str ⟨st.2.toArray⟩ tr) else m₀ y) → News h₀ env.locals h ((d, o) :: news) → Q .next { s with heap := h, toks := tk }) :
    wpAny (model prog w) A (pyIter (.str xt tx)) (fun it s₂ => LoopAtV prog w A h₀ env (Str.ofString "sign") body Q E it s₂) E s := by
  have hne : Str.ofString "rule" ≠ Str.ofString "sign" := by decide
  refine text_loop (fun pre m nx => RJ prog w news d m₀ (rulesOf pre) m nx) hh F N ⟨⟨_, hr⟩, fun _ _ _ => rfl, _, _, rfl, hd, .nil⟩ ?_ ?_
  · rintro pre c post t m₁ news₁ h tk own e hoff ⟨⟨tr, h1⟩, h2, o, kvs, rfl, h3, h4⟩ F₁ N₁
    have e1 : rulesOf (pre ++ [c]) = ruleStep (rulesOf pre) c := by simp [rulesOf]
    rw [e1]
    have hb : (rulesOf pre).2.length < 4096 := by
      have h5 := rules_len pre
      have h6 : xt.cps.size = pre.length + (post.length + 1) := by rw [← Array.length_toList, e]; simp
      omega
    refine turn pre c post t tr _ o kvs h tk own e hoff rfl (by rw [sizeLine_eq]; show (rulesOf pre).2.toArray.size ≤ _; rw [List.size_toArray]; omega) hb (by have h5 := rules_len1 pre; have h6 : xt.cps.size = pre.length + (post.length + 1) := by { rw [← Array.length_toList, e]; simp }; rw [sizeLine_eq]; omega) h3 h4 ?_ (fun p hp => N₁ p (by simp only [List.mem_append, List.mem_cons] at hp ⊢; grind))
    have e2 : (fun y => if y = Str.ofString "sign" then some (Value.str ⟨#[c]⟩ t) else if y = Str.ofString "rule" then some (.str ⟨(rulesOf pre).2.toArray⟩ tr) else m₀ y) = fun y => if y = Str.ofString "sign" then some (Value.str ⟨#[c]⟩ t) else m₁ y := by
      funext z
      by_cases q1 : z = Str.ofString "sign"
      · simp [q1]
      · by_cases q2 : z = Str.ofString "rule"
        · subst q2; simp [hne, h1]
        · simp [q1, q2, h2 z q1 q2]
    rw [e2]; exact F₁
  · rintro m₁ news₁ h tk ⟨⟨tr, h1⟩, h2, o, kvs, rfl, h3, h4⟩ F₁ N₁
    refine done (m₁ (Str.ofString "sign")) tr _ o kvs h tk rfl h3 h4 ?_ N₁
    have e2 : (fun y => if y = Str.ofString "sign" then m₁ (Str.ofString "sign") else if y = Str.ofString "rule" then some (.str ⟨(rulesOf xt.cps.toList).2.toArray⟩ tr) else m₀ y) = m₁ := by
      funext z
      by_cases q1 : z = Str.ofString "sign"
      · simp [q1]
      · by_cases q2 : z = Str.ofString "rule"
        · subst q2; simp [hne, h1]
        · simp [q1, q2, h2 z q1 q2]
    rw [e2]; exact F₁
variable (w : World) (mean : ExcName → Option Value) (mg mb : Str → Option Value)
local macro_rules | `(tactic| walk_at "exec For Name Name cons nil") => `(tactic| (k_here; (rename Fr _ _ _ _ => lF'); (with_unfolding_all refine' For_invVF lF' ?k1 ?k2 ?_; (case k1 => exact rfl); (case k2 => exact rfl); k_whole)))
local macro_rules | `(tactic| walk_at "call ref") => `(tactic| (k_here; (first
  | ((with_reducible show wpAny _ _ (call (Value.ref 35) _) _ _ _); k_dflt refine' Cut.use (cut_eof _ _ _ _ _ _) ?k1 ?k2 ?k3 ?k4 ?k5 ?k6 ?k7 ?k8 ?k9 ?_)
  | ((with_reducible show wpAny _ _ (call (Value.ref 137) _) _ _ _); k_dflt refine' Cut.use (cut_b1 _ _ _ _ _ _) ?k1 ?k2 ?k3 ?k4 ?k5 ?k6 ?k7 ?k8 ?k9 ?_)
  | ((with_reducible show wpAny _ _ (call (Value.ref 183) _) _ _ _); k_dflt refine' Cut.use (cut_b3 _ _ _ _ _ _ _ (by assumption)) ?k1 ?k2 ?k3 ?k4 ?k5 ?k6 ?k7 ?k8 ?k9 ?_)); (case k1 | k2 | k3 | k4 | k5 => k_asm); (case k6 => first | exact rfl | assumption); (case k7 => assumption); (case k8 | k9 => walk_at "own room"); intro t9 h9 tk9 F9 N9; (try dsimp only); (try k_fold)))
local macro_rules | `(tactic| walk_at "subscriptTail") => `(tactic| (k_here; (with_reducible show wpAny _ _ (subscriptTail _ (Expr.Slice (some _) none none _) (Value.str _ _) (Value.ref _)) _ _ _); (with_reducible rename Fr _ _ _ _ => F'); (with_reducible rename News _ _ _ _ => N'); (refine slice_strN_sn (hsz := ?hsz) (s := ⟨_, _, _, _, _⟩) F' N' ?_); (case hsz => assumption); intro _ _ _ _ _))
local macro_rules | `(tactic| walk_at "subscriptTail") => `(tactic| (k_here; (with_reducible show wpAny _ _ (subscriptTail _ (Expr.Slice none (some _) none _) (Value.str _ _) (Value.ref _)) _ _ _); (with_reducible rename Fr _ _ _ _ => F'); (with_reducible rename News _ _ _ _ => N'); (refine slice_strN_ns (hsz := ?hsz) (s := ⟨_, _, _, _, _⟩) F' N' ?_); (case hsz => assumption); intro _ _ _ _ _))
theorem hne_of {d : Addr} {o : Obj} {news own : List (Addr × Obj)} (hlt : ∀ p ∈ news, p.1 < d) (hoff : ∀ p ∈ (d, o) :: news, ∀ q ∈ own, p.1 ≠ q.1) : ∀ p ∈ news ++ own, p.1 ≠ d := fun p hp => by
  rcases List.mem_append.mp hp with h | h
  · exact Nat.ne_of_lt (hlt p h)
  · exact (hoff _ (List.mem_cons_self ..) p h).symm
theorem hap_of {d : Addr} {o : Obj} {news own : List (Addr × Obj)} (hoff : ∀ p ∈ (d, o) :: news, ∀ q ∈ own, p.1 ≠ q.1) : ∀ o', ∀ p ∈ (d, o') :: news, ∀ q ∈ own, p.1 ≠ q.1 := fun o' p hp => by
  rcases List.mem_cons.mp hp with rfl | h
  · exact fun q hq => hoff (d, o) (List.mem_cons_self ..) q hq
  · exact hoff _ (List.mem_cons_of_mem _ h)
/-- the rules come back: a dict, told by its pairs -/
noncomputable abbrev GivesTab (D : List (PyData × PyData)) (h₀ : Heap) (L : Addr) (m : Str → Option Value) (news : List (Addr × Obj)) (s : Shared) (Q : Value → Shared → Prop) : Prop :=
  ∀ (d : Addr) (o : Obj) (kvs : List (Str × Value)) (h' : Heap) (tk' : Nat), (∀ p ∈ news, p.1 < d) → (d == sysModules) = false → o.IsDictOf (PySem.strKind pw w) kvs → FlatPairs PyData.str kvs D → Fr h₀ L h' m → News h₀ L h' ((d, o) :: news) → Q (.ref d) { s with heap := h', toks := tk' }
theorem cut_rules (x : PySem.Str) (tk : Tok) (hx : x.cps.toList.all signOk = true) (hsz : x.cps.size < 4096) : Cut w mean mg mb 190 3 80 [.str x tk] (GivesTab w (rulesOf x.cps.toList).1) := by
  unfold Cut; k_fill; w_top off
  intro _ dp un gd cn cs a ccd cl outer A₀ base h₀ L m s Q E news B F X N T hk hb hd hu hret
  refine wpAny_call ?_
  k_dflt cell_enter
  k_steps
  rename Fr _ _ _ _ => F₀
  rename (Obj.IsDictOf (PySem.strKind pw w) _ []) => hD
  rename News _ _ _ _ => N₀
  rename ∀ p ∈ news, _ => hlt
  rename (_ == sysModules) = false => hsy
  refine rules_loop rfl F₀ N₀ rfl hD hsz ?_ ?_
  · clear F₀ N₀ hD
    intro pre c post t tr st o kvs h tk own he hoff hst hsl hlen hdl hD hf F₁ N₁
    have hc : signOk c = true := List.all_eq_true.mp hx c (by rw [he]; simp)
    have hne := hne_of hlt hoff
    have hap := hap_of hoff
    k_steps
    · rename ((c : Int) = 0) => h0
      have hr : ruleStep st c = (putD (.str ⟨(st.2.take 2).toArray⟩) (.str ⟨(st.2.drop 2).toArray⟩) st.1, []) := by
        unfold ruleStep; rw [if_pos (by omega)]
      refine FreeEnd.intro (by assumption) (fun p hp => ?_) (hap _) ⟨⟨_, Eq.trans (if_pos rfl) (congrArg (fun l => some (Value.str l _)) ?_)⟩, fun z h1 h2 => ?_, _, _, rfl, by assumption, ?_⟩
      · refine (by assumption : News _ _ _ _) p ?_
        simp only [List.mem_append, List.mem_cons] at hp ⊢; grind
      · rw [hr]; rfl
      · simp [h1, h2]
      · rw [hr, ← slice_take2, ← slice_drop2]; assumption
    · rename ((c : Int) ∈ b1L) => h1
      have hr : ruleStep st c = st := by
        unfold ruleStep; rw [if_neg (by omega), if_pos h1]
      refine FreeEnd.intro (by assumption) (fun p hp => ?_) (hap _) ⟨⟨tr, ?_⟩, fun z h1 h2 => ?_, o, _, rfl, by assumption, ?_⟩
      · refine (by assumption : News _ _ _ _) p ?_
        simp only [List.mem_append, List.mem_cons] at hp ⊢; grind
      · rw [hr]; rfl
      · simp [h1, h2]
      · rw [hr]; exact hf
    · rename (¬ (c : Int) ∈ b1L) => h1
      have h0 : ¬ c = 0 := by omega
      obtain ⟨e, he'⟩ : ∃ e, lowOf c = some e := by
        simp only [signOk, Bool.or_eq_true, decide_eq_true_eq] at hc
        rcases hc with (hc | hc) | hc
        · exact absurd hc h0
        · exact absurd hc h1
        · exact Option.isSome_iff_exists.mp hc
      k_steps
      have hr : ruleStep st c = (st.1, st.2 ++ [e]) := by
        unfold ruleStep; rw [if_neg h0, if_neg h1, he']; rfl
      refine FreeEnd.intro (by assumption) (fun p hp => ?_) (hap _) ⟨⟨_, Eq.trans (if_pos rfl) (congrArg (fun l => some (Value.str l _)) ?_)⟩, fun z h1 h2 => ?_, o, _, rfl, by assumption, ?_⟩
      · refine (by assumption : News _ _ _ _) p ?_
        simp only [List.mem_append, List.mem_cons] at hp ⊢; grind
      · rw [hr, ← snoc_str]
      · simp [h1, h2]
      · rw [hr]; exact hf
  · intro u tr st o kvs h tk hst hD hf F₁ N₁
    clear F₀ N₀
    k_steps
    subst hst
    exact hret _ o kvs _ _ hlt hsy (by assumption) (by assumption) (by assumption) (by assumption)
end
end
section
set_option maxHeartbeats 8000000
section
open PySem PySem.W PySem.Calls PyProof.Rows PySem.Spec LCg
/-- the pieces of law -/
noncomputable def lSc : Scope := scopeOf (st 19)
noncomputable def lSt (i : Nat) : Stmt := nth (bodyOf (st 19)) i
noncomputable abbrev lCl (c : Addr) : List (Str × Addr) := [(Str.ofString "taken", c)]
noncomputable abbrev lEnv (sc : Scope) (L c fa : Addr) (cd : Value) : Env := envX (Str.ofString "law") sc L fa cd (lCl c)
/-- what some statements of law do -/
noncomputable abbrev CutL (w : World) (mean : ExcName → Option Value) (mg mb : Str → Option Value) (stms : List Stmt) (D U : Nat)
   (R : Addr → Heap → Addr → (Str → Option Value) → List (Addr × Obj) → Shared → (Flow → Shared → Prop) → Prop) : Prop :=
  Fill PySem.Challenge.rw_wf0060_01 → ∀ (dp un : Nat) (gd : Option (List Code)) (outer : List Env) (A₀ : Around) (base h₀ : Heap) (L c fa : Addr) (cd : Value) (m : Str → Option Value) (s : Shared) (Q : Flow → Shared → Prop) (E : Value → Shared → Prop) (news : List (Addr × Obj)),
    Below A₀ base outer h₀ → Fr h₀ L s.heap m → (Mine.hd.heap_1 w.params).In h₀ → News h₀ L s.heap news → Top q60 (looseW q60 loose60) mean mg mb h₀ → Tabs2 w base → dp + D < recursionLimit → un + U < cLine →
    PassesOwn (model pw w) (ktrTop dp un gd (Str.ofString "law") lSc L fa cd (lCl c) outer) (lEnv lSc L c fa cd) E →
    R c h₀ L m news s Q →
      wpAny (model pw w) (ktrTop dp un gd (Str.ofString "law") lSc L fa cd (lCl c) outer) (execs stms (lEnv lSc L c fa cd)) Q E s
/-- what one statement of law does -/
noncomputable abbrev CutLS (w : World) (mean : ExcName → Option Value) (mg mb : Str → Option Value) (stm : Stmt) (D U : Nat)
   (R : Addr → Heap → Addr → (Str → Option Value) → List (Addr × Obj) → Shared → (Flow → Shared → Prop) → Prop) : Prop :=
  Fill PySem.Challenge.rw_wf0060_01 → ∀ (dp un : Nat) (gd : Option (List Code)) (outer : List Env) (A₀ : Around) (base h₀ : Heap) (L c fa : Addr) (cd : Value) (m : Str → Option Value) (s : Shared) (Q : Flow → Shared → Prop) (E : Value → Shared → Prop) (news : List (Addr × Obj)),
    Below A₀ base outer h₀ → Fr h₀ L s.heap m → (Mine.hd.heap_1 w.params).In h₀ → News h₀ L s.heap news → Top q60 (looseW q60 loose60) mean mg mb h₀ → Tabs2 w base → dp + D < recursionLimit → un + U < cLine →
    PassesOwn (model pw w) (ktrTop dp un gd (Str.ofString "law") lSc L fa cd (lCl c) outer) (lEnv lSc L c fa cd) E →
    R c h₀ L m news s Q →
      wpAny (model pw w) (ktrTop dp un gd (Str.ofString "law") lSc L fa cd (lCl c) outer) (exec stm (lEnv lSc L c fa cd)) Q E s
end
end
section
set_option maxHeartbeats 8000000
section
open PySem PySem.W PySem.Calls PyProof.Rows PySem.Spec LCg
variable (w : World) (mean : ExcName → Option Value) (mg mb : Str → Option Value)
local macro_rules | `(tactic| walk_at "exec For Name Call cons nil") => `(tactic| walk_at "own 2")
local macro_rules | `(tactic| walk_at "subscriptTail") => `(tactic| ((with_reducible show wpAny _ _ (subscriptTail (PySem.Expr.List _ _) (PySem.Expr.Slice _ _ none _) (Value.ref _) (Value.ref _)) _ _ _); refine hold ?_))
/-- the six numbers -/
noncomputable def numsOf (ns : List Int) : List Int := ns.take 6 ++ [48, 4, 33, 68, 5, 97].drop ns.length
/-- the signs that spell the parts -/
noncomputable def spelledT : List (List Nat) := [[257, 256], [259, 258], [261, 260], [97, 65, 119808], [255, 376, 255]]
theorem nums_len (ns : List Int) : (numsOf ns).length = 6 := by
  unfold numsOf
  rw [List.length_append, List.length_take, List.length_drop]
  simp only [List.length_cons, List.length_nil]; omega
theorem cut_head (sa : Addr) (vs : List Value) (ns : List Int) (oc : Obj) :
    CutL w mean mg mb [lSt 0, lSt 1, lSt 2] 16 320 (fun c h₀ L m news s Q => news = [(c, oc)] ∧ oc.data = .cell none ∧ h₀.IsList sa vs.toArray ∧ IntsAre vs ns ∧ ns.length ≤ 63 ∧ m (Str.ofString "script") = some (.ref sa) ∧
      ∀ na nv sp sv nw t h' tk', IntsAre nv (numsOf ns) → Texts sv spelledT → (∀ x ∈ (sp, W.listOf sv.toArray 0) :: (na, W.listOf nv.toArray 0) :: nw, x.1 ≠ c) → Fr h₀ L h' (fun y => if y = Str.ofString "text" then some (.str Str.empty t) else if y = Str.ofString "spelled" then some (.ref sp) else if y = Str.ofString "numbers" then some (.ref na) else m y) → News h₀ L h' ((sp, W.listOf sv.toArray 0) :: (na, W.listOf nv.toArray 0) :: (nw ++ [(c, oc)])) → Q .next { s with heap := h', toks := tk' }) := by
  unfold CutL; k_fill; w_top off
  intro _ dp un gd outer A₀ base h₀ L c fa cd m s Q E news B F X N T hb hd hu hE hR
  obtain ⟨rfl, dc, hS, hI, hl63, hms, hret⟩ := hR
  conv in (lSt 0) => whnf
  conv in (lSt 1) => whnf
  conv in (lSt 2) => whnf
  generalize hsc : lSc = sc at *
  conv at hsc => lhs; whnf
  subst hsc
  dsimp only [lEnv, lCl] at *
  have F₂ := (known_same (m := m) (ps := [(Str.ofString "script", some (.ref sa))]) (by simp [hms])).symm ▸ F
  k_steps
  unfold Hold
  rename News _ _ _ _ => N9
  rename Fr _ _ _ _ => F9
  k_dflt (refine kba_turn (value' := PySem.Expr.Name (PySem.Str.ofString "_") ⟨0, 0, 0, 0⟩) (fun _ => rfl) ?_)
  k_dflt refine' kmk_slice_ints (s := ⟨_, _, _, _, _⟩) (lo := some ((ns.length : Nat) : Int)) (hi := none) (ns := [48, 4, 33, 68, 5, 97]) (ms := [48, 4, 33, 68, 5, 97].drop ns.length) F9 N9 (News.isList N9 (.head _)) (IsPart.int _ _) IsPart.none ?i ?m rfl ?_ ?s ?t ?z
  (case i => exact .cons _ _ (.cons _ _ (.cons _ _ (.cons _ _ (.cons _ _ (.cons _ _ .nil))))))
  (case m => exact kmk_from (x := ((ns.length : Nat) : Int)) (.cons _ _ (.cons _ _ (.cons _ _ (.cons _ _ (.cons _ _ (.cons _ _ .nil)))))) (Int.natCast_nonneg _))
  (case s => with_unfolding_all rfl)
  (case t => kmk_pure)
  (case z => kmk_size)
  intro D2 ws2 h2 F2 N2 l2 hI2 _ _
  k_lt l2
  k_steps
  rename IntsAre _ (List.take 6 ns ++ _) => hI3
  rename _ ∧ _ ∧ _ ∧ _ ∧ c < _ => l9
  rename _ ∧ _ ∧ _ ∧ c < _ => l8
  rename _ < _ ∧ c < _ => l7
  rename c < _ => l6
  have hkm : known [(Str.ofString "script", some (Value.ref sa))] m = m := known_same (by simp [hms])
  rename Fr h₀ L _ _ => F8
  rw [hkm] at F8
  refine hret _ _ _ _ [(D2, W.listOf ws2.toArray 0), _, _] _ _ _ hI3 ?_ ?_ F8 (by assumption)
  · exact .cons ⟨_, rfl⟩ (.cons ⟨_, rfl⟩ (.cons ⟨_, rfl⟩ (.cons ⟨_, rfl⟩ (.cons ⟨_, rfl⟩ .nil))))
  · intro x hx
    simp only [List.mem_cons, List.not_mem_nil, or_false] at hx
    rcases hx with rfl | rfl | rfl | rfl | rfl
    all_goals (refine neN ?_; dsimp only; omega)
end
end
section
set_option maxHeartbeats 8000000
section
open PySem PySem.W PySem.Calls PyProof.Rows PySem.Spec LCg
variable (w : World) (mean : ExcName → Option Value) (mg mb : Str → Option Value)
/-- the sign that a part is read as -/
noncomputable def sym : Nat → Nat
  | 0 => 257 | 1 => 259 | 2 => 261 | 3 => 97 | _ => 255
noncomputable def symI (p : Int) : Nat := sym p.toNat
/-- what signs are read as -/
noncomputable def lowsOf (zs : List Nat) : List Nat := (zs.filter fun (c : Nat) => !decide ((c : Int) ∈ b1L)).map fun c => (lowOf c).getD 0
theorem lows_append (a b : List Nat) : lowsOf (a ++ b) = lowsOf a ++ lowsOf b := by unfold lowsOf; rw [List.filter_append, List.map_append]
noncomputable def lE : Stmt := nth (ifBody (nth (fBody (lSt 3)) 0)) 1
local macro_rules | `(tactic| walk_at "subscriptTail") => `(tactic| walk_at "own 1")
theorem texts_get {vs : List Value} {ts : List (List Nat)} (h : Texts vs ts) : ∀ {i : Nat}, i < ts.length → ∃ t, vs[i]? = some (.str ⟨(ts.getD i []).toArray⟩ t) := by
  induction h with
  | nil => intro i hi; simp at hi
  | cons r _ ih =>
    intro i hi
    cases i with
    | zero => obtain ⟨t, rfl⟩ := r; exact ⟨t, rfl⟩
    | succ i => exact ih (by simpa using hi)
theorem forms_at : ∀ p : Nat, p < 5 → 2 ≤ (spelledT.getD p []).length ∧ (spelledT.getD p []).length ≤ 3 ∧ (spelledT.getD p []).all (fun c => lowOf c == some (sym p)) = true := by decide
theorem low_word {c d : Nat} (h : lowOf c = some d) : wordSign c = true ∧ ¬ (c : Int) ∈ b1L := by
  unfold wordSign
  rw [h]
  refine ⟨by simp, ?_⟩
  unfold lowOf at h
  split at h
  all_goals first | (cases h; done) | decide
local macro_rules
  | `(tactic| walk_at "exec For Tuple Call") => `(tactic| walk_at "own 0")
  | `(tactic| walk_at "call type:enumerate") => `(tactic| walk_at "own 2")
  | `(tactic| walk_at "loadName") => `(tactic| walk_at "own 12")
  | `(tactic| walk_at "subscriptTail") => `(tactic| walk_at "own 13")
  | `(tactic| walk_at "binaryOp Mult str int") => `(tactic| walk_at "own 2")
open Builtin.Str in
theorem item_mem {fl : List Nat} {i : Int} (h0 : 0 ≤ i) (h1 : i < fl.length) : ∃ c ∈ fl, Txt.item ⟨fl.toArray⟩ i = ⟨#[c]⟩ := by
  have hi : i.toNat < fl.length := by omega
  refine ⟨fl[i.toNat], List.getElem_mem _, ?_⟩
  unfold Txt.item Txt.charAt
  have e1 : PySem.seqIndex? i (Str.length ⟨fl.toArray⟩) = some i.toNat := PyProof.Rows.seqIndex_at h0 (by simpa [Str.length] using h1)
  rw [e1]
  simp [hi]
theorem mul_zw {b : Int} (h0 : 0 ≤ b) (h1 : b < 2) : ∃ zz : List Nat, zz.length ≤ 1 ∧ (∀ z ∈ zz, z = 8203) ∧ Txt.mul (Str.ofString "\u200b") b = ⟨zz.toArray⟩ := by
  have : b = 0 ∨ b = 1 := by omega
  rcases this with rfl | rfl
  · exact ⟨[], by decide, by decide, by decide +kernel⟩
  · exact ⟨[8203], by decide, by decide, by decide +kernel⟩
section
variable {prog : Program} {w : World} {A : Around} {E : Value → Shared → Prop} {s : Shared} {Q : Value → Shared → Prop}
theorem item_form {value slice : PySem.Expr} {x : PySem.Str} {fl : List Nat} {t u : Tok} {i : Int} (hx : ⟨fl.toArray⟩ = x) (h0 : 0 ≤ i) (h1 : i < (x.length : Int)) (hz : x.length ≤ 16777216) (h : ∀ c t' k, c ∈ fl → Q (.str ⟨#[c]⟩ t') { s with toks := k })
    (hs : subscripted slice false (.str x t) (.int i u) = operate [.str x t, .int i u] (getItem (.str x t) (.int i u)) := by with_unfolding_all rfl)
    (ht : ∀ r, letTemporaryGo value (.str x t) r = pure () := by intro _; with_unfolding_all rfl) : wpAny (model prog w) A (subscriptTail value slice (.str x t) (.int i u)) Q E s := by
  refine KXi.item (n := x.length) rfl (by omega) h1 hz (fun _ => ?_) hs ht
  subst hx
  obtain ⟨c, hc, e⟩ := item_mem h0 (by simpa [Str.length] using h1)
  rw [e]
  exact h c _ _ hc
theorem mul_form {t u : Tok} {b : Int} (h0 : 0 ≤ b) (h1 : b < 2) (h : ∀ (zz : List Nat) t' k, zz.length ≤ 1 → (∀ z ∈ zz, z = 8203) → Q (.str ⟨zz.toArray⟩ t') { s with toks := k }) : wpAny (model prog w) A (binaryOp .Mult (.str (Str.ofString "\u200b") t) (.int b u)) Q E s := by
  refine KXi.mul (n := 1) (by decide) (by decide) (by omega) (by omega) ?_
  intro tm km _ _
  obtain ⟨zz, hz1, hz2, ez⟩ := mul_zw h0 h1
  rw [ez]
  exact h zz _ _ hz1 hz2
end
theorem str_to {x y : PySem.Str} {t : Tok} (h : x = y) : some (Value.str x t) = some (Value.str y t) := h ▸ rfl
noncomputable def JE (news : List (Addr × Obj)) (ps : List Int) (cs : List Nat) (m : Str → Option Value) (i : Nat) (m' : Str → Option Value) (nx : List (Addr × Obj)) : Prop :=
  nx = news ∧ ∃ zs t, zs.length ≤ 2 * i ∧ zs.all wordSign = true ∧ lowsOf zs = (ps.take i).map symI ∧ m' (Str.ofString "text") = some (.str ⟨(cs ++ zs).toArray⟩ t) ∧ (∀ z, z ≠ Str.ofString "i" → z ≠ Str.ofString "part" → z ≠ Str.ofString "forms" → z ≠ Str.ofString "text" → m' z = m z)
local macro_rules | `(tactic| walk_at "execs nil") => `(tactic| walk_at "own 2")
theorem cut_enum (pa : Addr) (pv : List Value) (pn : Nat) (ps : List Int) (sp : Addr) (sv : List Value) (sn : Nat) (na : Addr) (nv : List Value) (nn : Nat) (nums : List Int) (kk : Int) (tk₀ : Tok) (cs : List Nat) (tt : Tok) :
    CutLS w mean mg mb lE 16 320 (fun c h₀ L m news s Q => (pa, W.listOf pv.toArray pn) ∈ news ∧ IntsAre pv ps ∧ ps.length ≤ 4 ∧ (∀ p ∈ ps, 0 ≤ p ∧ p < 5) ∧ (sp, W.listOf sv.toArray sn) ∈ news ∧ Texts sv spelledT ∧ (na, W.listOf nv.toArray nn) ∈ news ∧ IntsAre nv nums ∧ nums.length = 6 ∧ 0 ≤ kk ∧ kk < 6 ∧ cs.length ≤ 1000 ∧
      m (Str.ofString "parts") = some (.ref pa) ∧ m (Str.ofString "spelled") = some (.ref sp) ∧ m (Str.ofString "numbers") = some (.ref na) ∧ m (Str.ofString "k") = some (.int kk tk₀) ∧ m (Str.ofString "text") = some (.str ⟨cs.toArray⟩ tt) ∧
      ∀ m' h' tk' zs t', zs.length ≤ 2 * ps.length → zs.all wordSign = true → lowsOf zs = ps.map symI → m' (Str.ofString "text") = some (.str ⟨(cs ++ zs).toArray⟩ t') → (∀ z, z ≠ Str.ofString "i" → z ≠ Str.ofString "part" → z ≠ Str.ofString "forms" → z ≠ Str.ofString "text" → m' z = m z) → Fr h₀ L h' m' → News h₀ L h' news → Q .next { s with heap := h', toks := tk' }) := by
  unfold CutLS; k_fill; w_top off
  intro _ dp un gd outer A₀ base h₀ L c fa cd m s Q E news B F X N T hb hd hu hE hR
  obtain ⟨hpa, hpv, hpl, hpb, hsp, hsv, hna, hnv, hnl, hk0, hk6, hcl, e1, e2, e3, e4, e5, hret⟩ := hR
  conv in lE => whnf
  generalize hsc : lSc = sc at *
  conv at hsc => lhs; whnf
  subst hsc
  dsimp only [lEnv, lCl] at *
  have hkm : known [(Str.ofString "parts", some (.ref pa))] m = m := known_same (by simp [e1])
  have F₂ := hkm.symm ▸ F
  clear F
  k_steps
  unfold Hold
  rename Fr _ _ _ _ => F9
  rename_i hEP
  have hlen : pv.length = ps.length := hpv.length
  refine turns_enumL (vs := pv) (k := pn) (JE news ps cs m) rfl (hkm ▸ F9) N ⟨rfl, [], tt, by simp, rfl, rfl, by rw [List.append_nil]; exact e5, fun _ _ _ _ _ => rfl⟩ ?_ ?_ ?_
  · rintro i m' nx ⟨rfl, _⟩; exact hpa
  · rintro e it i v m₁ nx h tk oe oi T t hv hn _ _ ⟨rfl, zs, tz, hzl, hza, hzw, h5, h6⟩ hT F₁ N₁
    clear F9
    have g1 : m₁ (Str.ofString "spelled") = some (.ref sp) := (h6 _ (by decide) (by decide) (by decide) (by decide)).trans e2
    have g2 : m₁ (Str.ofString "numbers") = some (.ref na) := (h6 _ (by decide) (by decide) (by decide) (by decide)).trans e3
    have g3 : m₁ (Str.ofString "k") = some (.int kk tk₀) := (h6 _ (by decide) (by decide) (by decide) (by decide)).trans e4
    have hkm1 : known [(Str.ofString "spelled", some (.ref sp)), (Str.ofString "numbers", some (.ref na)), (Str.ofString "k", some (.int kk tk₀)), (Str.ofString "text", some (.str ⟨(cs ++ zs).toArray⟩ tz))] m₁ = m₁ := known_same (by simp [g1, g2, g3, h5])
    have F₂ := hkm1.symm ▸ F₁
    clear F₁
    have F₃ : Fr h₀ L h (fun y => if y = Str.ofString "spelled" then some (.ref sp) else if y = Str.ofString "numbers" then some (.ref na) else if y = Str.ofString "k" then some (.int kk tk₀) else if y = Str.ofString "text" then some (.str ⟨(cs ++ zs).toArray⟩ tz) else m₁ y) := F₂
    clear F₂
    have hil : i < pv.length := (List.getElem?_eq_some_iff.mp hv).1
    have hips : i < ps.length := by omega
    have hpi : (ps.take (i + 1)) = ps.take i ++ [figAt ps i] := by
      rw [List.take_add_one, List.getElem?_eq_getElem hips, Option.toList_some]
      unfold figAt
      rw [List.getD_eq_getElem?_getD, List.getElem?_eq_getElem hips, Option.getD_some]
    obtain ⟨tp, ep⟩ := ints_get hpv (i := i) (by omega)
    have hpe : figAt ps i ∈ ps := by
      have : i < ps.length := by omega
      unfold figAt
      rw [List.getD_eq_getElem?_getD, List.getElem?_eq_getElem this, Option.getD_some]
      exact List.getElem_mem _
    have hp5 := hpb _ hpe
    generalize hpp : figAt ps i = p at ep hp5 hpi
    rw [ep] at hv
    cases hv
    obtain ⟨tx, ex⟩ := ints_get hnv (i := kk.toNat) (by omega)
    generalize hnk : figAt nums kk.toNat = nk at ex
    obtain ⟨tf, x1⟩ := texts_get hsv (i := p.toNat) (by have : spelledT.length = 5 := rfl; omega)
    obtain ⟨hf2, hf3, hfw⟩ := forms_at p.toNat (by omega)
    generalize spelledT.getD p.toNat [] = fl at x1 hf2 hf3 hfw
    have hFl : Str.length ⟨fl.toArray⟩ = fl.length := by simp [Str.length]
    generalize hFS : (⟨fl.toArray⟩ : Str) = FS at x1 hFl
    have hF2 : 2 ≤ FS.length := by omega
    have hF3 : FS.length ≤ 3 := by omega
    k_steps
    unfold Hold
    refine item_form hFS (Int.fmod_nonneg_of_pos _ (by omega)) (Int.fmod_lt_of_pos _ (by omega)) (by omega) ?_
    intro c0 tc0 kc0 hc0
    have hlow : lowOf c0 = some (symI p) := by
      have := List.all_eq_true.mp hfw c0 hc0
      exact eq_of_beq this
    k_steps
    unfold Hold
    refine mul_form (Int.fmod_nonneg_of_pos _ (by omega)) (Int.fmod_lt_of_pos _ (by omega)) ?_
    intro zz tm km hz1 hz2
    have hzl1 : Str.length ⟨zz.toArray⟩ ≤ 1 := by simpa [Str.length] using hz1
    clear hfw hFl hFS
    have hzl2 : Str.length ⟨(cs ++ zs).toArray⟩ ≤ 1008 := by
      have : i < ps.length := by omega
      simp only [Str.length, List.size_toArray, List.length_append]; omega
    k_steps
    unfold Hold
    rename Str.length _ + Str.length _ ≤ _ ∧ _ => z9; clear z9
    rename Str.length _ + Str.length _ ≤ _ ∧ _ => z9; clear z9
    clear hzl1 hzl2
    refine wpAny_execs_nil ?_
    rename Fr h₀ L _ _ => F7
    rename News h₀ L _ ((e, oe) :: (it, oi) :: nx) => N7
    rename_i t9 k9 h9
    have hcat : (⟨(cs ++ zs).toArray⟩ : Str) ++ ((⟨#[c0]⟩ : Str) ++ ⟨zz.toArray⟩) = ⟨(cs ++ (zs ++ c0 :: zz)).toArray⟩ := by
      rw [show (⟨#[c0]⟩ : Str) ++ ⟨zz.toArray⟩ = ⟨(c0 :: zz).toArray⟩ from str_cat [c0] zz, str_cat, List.append_assoc]
    have hw0 := (low_word hlow).1
    have hb0 := (low_word hlow).2
    refine FreeEnd.intro (nx := nx) F7 N7 (fun q hq r hr => ?_) ⟨rfl, zs ++ c0 :: zz, t9, ?_, ?_, ?_, (if_pos rfl).trans (str_to hcat), fun z z1 z2 z3 z4 => ?_⟩
    · rcases List.mem_cons.mp hr with rfl | hr
      · exact (hn q hq).1
      · rw [List.mem_singleton.mp hr]; exact (hn q hq).2
    · rw [List.length_append, List.length_cons]; clear F7 N7; omega
    · rw [List.all_append, hza, List.all_cons, hw0]
      simp only [Bool.true_and]
      exact List.all_eq_true.mpr fun z hz => by rw [hz2 z hz]; decide
    · rw [lows_append, hzw, hpi, List.map_append]
      congr 1
      have e1 : ∀ zz : List Nat, (∀ z ∈ zz, z = 8203) → lowsOf zz = [] := by
        intro zz hz
        unfold lowsOf
        rw [List.filter_eq_nil_iff.mpr]
        · rfl
        · intro z hz'; rw [hz z hz']; decide
      have e2 : lowsOf (c0 :: zz) = lowsOf [c0] ++ lowsOf zz := lows_append [c0] zz
      rw [e2, e1 zz hz2]
      unfold lowsOf
      simp [hb0, hlow]
    · exact (if_neg z4).trans ((if_neg z3).trans ((if_neg z2).trans ((if_neg z1).trans ((congrFun hkm1 z).trans (h6 z z1 z2 z3 z4)))))
  · rintro m₁ nx h tk ⟨rfl, zs, tz, hzl, hza, hzw, h5, h6⟩ F₁ N₁
    rw [hlen] at hzl hzw
    rw [List.take_length] at hzw
    exact hret m₁ _ _ zs tz hzl hza hzw h5 h6 F₁ N₁
end
end
section
set_option maxHeartbeats 8000000
section
open PySem PySem.W PySem.Calls PyProof.Rows PySem.Spec LCg PyProof.V
variable (w : World) (mean : ExcName → Option Value) (mg mb : Str → Option Value)
/-- the rules behind one more number -/
noncomputable def ruleD (figs : List Int) (k : Nat) (D : List (PyData × PyData)) : List (PyData × PyData) :=
  if figAt figs k = 0 then D else putD (.str ⟨[sym (k / 2), sym (3 + k % 2)].toArray⟩) (.str ⟨((partsOf (figAt figs k)).map symI).toArray⟩) D
noncomputable def rulesTab (figs : List Int) : Nat → List (PyData × PyData)
  | 0 => []
  | k + 1 => ruleD figs k (rulesTab figs k)
theorem rules_word : ∀ (zs : List Nat) (D : List (PyData × PyData)) (r : List Nat), zs.all wordSign = true → zs.foldl ruleStep (D, r) = (D, r ++ lowsOf zs)
  | [], D, r, _ => by simp [lowsOf]
  | z :: zs, D, r, h => by
    rw [List.all_cons, Bool.and_eq_true] at h
    have hz : z ≠ 0 := by
      rintro rfl
      exact absurd h.1 (by decide)
    have e : lowsOf (z :: zs) = lowsOf [z] ++ lowsOf zs := lows_append [z] zs
    rw [List.foldl_cons, e]
    by_cases hb : (z : Int) ∈ b1L
    · have e1 : ruleStep (D, r) z = (D, r) := by unfold ruleStep; rw [if_neg hz, if_pos hb]
      have e2 : lowsOf [z] = [] := by unfold lowsOf; simp [hb]
      rw [e1, e2, rules_word zs D r h.2]; rfl
    · have e1 : ruleStep (D, r) z = (D, r ++ [(lowOf z).getD 0]) := by unfold ruleStep; rw [if_neg hz, if_neg hb]
      have e2 : lowsOf [z] = [(lowOf z).getD 0] := by unfold lowsOf; simp [hb]
      rw [e1, e2, rules_word zs D _ h.2, List.append_assoc]
theorem rules_end (D : List (PyData × PyData)) (r : List Nat) : ruleStep (D, r) 0 = (putD (.str ⟨(r.take 2).toArray⟩) (.str ⟨(r.drop 2).toArray⟩) D, []) := by unfold ruleStep; rw [if_pos rfl]
theorem word_ok {zs : List Nat} (h : zs.all wordSign = true) : zs.all signOk = true := by
  refine List.all_eq_true.mpr fun z hz => ?_
  have := List.all_eq_true.mp h z hz
  unfold wordSign at this
  unfold signOk
  rw [Bool.or_assoc, this, Bool.or_true]
noncomputable def JT (sn : Nat) (news : List (Addr × Obj)) (figs : List Int) (m : Str → Option Value) (i : Nat) (m' : Str → Option Value) (nx : List (Addr × Obj)) : Prop :=
  ∃ cs t nw, nx = nw ++ news ∧ (∀ x ∈ nw, ∀ y ∈ news, x.1 ≠ y.1) ∧ cs.length ≤ 9 * i ∧ cs.all signOk = true ∧ rulesOf cs = (rulesTab figs i, []) ∧ m' (Str.ofString "text") = some (.str ⟨cs.toArray⟩ t) ∧
    (∀ z, z ≠ Str.ofString "k" → z ≠ Str.ofString "parts" → z ≠ Str.ofString "i" → z ≠ Str.ofString "part" → z ≠ Str.ofString "forms" → z ≠ Str.ofString "text" → m' z = m z)
theorem parts_bnd {x : Int} (h0 : 0 ≤ x) (h1 : x < 32) : (partsOf x).length ≤ 2 ∧ ∀ p ∈ partsOf x, 0 ≤ p ∧ p < 5 := by
  unfold partsOf
  split
  · simp
  split
  · simp; omega
  · have a1 := Int.fdiv_eq_ediv_of_nonneg (x - 7) (b := 5) (by omega)
    have a2 := Int.fmod_eq_emod_of_nonneg (x - 7) (b := 5) (by omega)
    simp; omega
theorem head_bnd {i : Nat} (hi : i < 6) : (0 ≤ Int.fdiv (0 + (i : Int)) 2 ∧ Int.fdiv (0 + (i : Int)) 2 < 5) ∧ (0 ≤ 3 + Int.fmod (0 + (i : Int)) 2 ∧ 3 + Int.fmod (0 + (i : Int)) 2 < 5) ∧ symI (Int.fdiv (0 + (i : Int)) 2) = sym (i / 2) ∧ symI (3 + Int.fmod (0 + (i : Int)) 2) = sym (3 + i % 2) := by
  have h : i = 0 ∨ i = 1 ∨ i = 2 ∨ i = 3 ∨ i = 4 ∨ i = 5 := by omega
  rcases h with rfl | rfl | rfl | rfl | rfl | rfl <;> decide
theorem free_three {h₀ : Heap} {L : Addr} {J : (Str → Option Value) → List (Addr × Obj) → Prop} {p1 p2 p3 own : Addr × Obj} {rest : List (Addr × Obj)} {s₁ : Shared} {h' : Heap} {tk : Nat} {m' : Str → Option Value} (F : Fr h₀ L h' m') (N : News h₀ L h' (p1 :: p2 :: p3 :: own :: rest))
    (h1 : p1.1 ≠ own.1) (h2 : p2.1 ≠ own.1) (h3 : p3.1 ≠ own.1) (hr : ∀ x ∈ rest, x.1 ≠ own.1) (hj : J m' (p1 :: p2 :: p3 :: rest)) : FreeEnd h₀ L J [own] s₁ { s₁ with heap := h', toks := tk } := by
  refine FreeEnd.intro (nx := p1 :: p2 :: p3 :: rest) F (fun x hx => N x ?_) (fun x hx y hy => ?_) hj
  · rcases List.mem_cons.mp hx with rfl | hx
    · exact .tail _ (.tail _ (.tail _ (.head _)))
    rcases List.mem_cons.mp hx with rfl | hx
    · exact .head _
    rcases List.mem_cons.mp hx with rfl | hx
    · exact .tail _ (.head _)
    rcases List.mem_cons.mp hx with rfl | hx
    · exact .tail _ (.tail _ (.head _))
    · exact .tail _ (.tail _ (.tail _ (.tail _ hx)))
  · rw [List.mem_singleton.mp hy]
    rcases List.mem_cons.mp hx with rfl | hx
    · exact h1
    rcases List.mem_cons.mp hx with rfl | hx
    · exact h2
    rcases List.mem_cons.mp hx with rfl | hx
    · exact h3
    · exact hr x hx
local macro_rules
  | `(tactic| walk_at "exec For Name Call cons nil") => `(tactic| walk_at "own 0")
  | `(tactic| walk_at "subscriptTail") => `(tactic| walk_at "own 1")
  | `(tactic| walk_at "exec For Tuple Call") => `(tactic| walk_at "own 2")
  | `(tactic| walk_at "binaryOp Add ref ref") => `(tactic| walk_at "own 2")
  | `(tactic| walk_at "loadName") => `(tactic| walk_at "own 12")
  | `(tactic| walk_at "execs nil") => `(tactic| walk_at "own 2")
theorem cut_tloop (sp : Addr) (sv : List Value) (sn : Nat) (na : Addr) (nv : List Value) (nn : Nat) (nums : List Int) (tt : Tok) :
    CutLS w mean mg mb (lSt 3) 24 480 (fun c h₀ L m news s Q => (sp, W.listOf sv.toArray sn) ∈ news ∧ Texts sv spelledT ∧ (na, W.listOf nv.toArray nn) ∈ news ∧ IntsAre nv nums ∧ nums.length = 6 ∧
      m (Str.ofString "spelled") = some (.ref sp) ∧ m (Str.ofString "numbers") = some (.ref na) ∧ m (Str.ofString "text") = some (.str Str.empty tt) ∧
      ∀ m' nx h' tk', JT sn news (nums.map (Int.fmod · 32)) m 6 m' nx → Fr h₀ L h' m' → News h₀ L h' nx → Q .next { s with heap := h', toks := tk' }) := by
  unfold CutLS; k_fill; w_top off
  intro _ dp un gd outer A₀ base h₀ L c fa cd m s Q E news B F X N T hb hd hu hE hR
  obtain ⟨hsp, hsv, hna, hnv, hnl, e1, e2, e3, hret⟩ := hR
  conv in (lSt 3) => whnf
  generalize hsc : lSc = sc at *
  conv at hsc => lhs; whnf
  subst hsc
  dsimp only [lEnv, lCl] at *
  k_steps
  rename IsRange _ _ _ _ _ _ _ _ => R9
  rename News _ _ _ _ => N9
  rename Fr _ _ _ _ => F9
  refine turns_range (JT sn news (nums.map (Int.fmod · 32)) m) rfl F9 N9 R9 (by decide) (n := 6) (by decide) ⟨[], tt, [], rfl, (fun x hx => nomatch hx), by simp, rfl, rfl, e3, fun _ _ _ _ _ _ _ => rfl⟩ ?_ ?_
  · clear F9 N9 R9
    rintro I i m₁ nx h tk ti it hi hnI ⟨cs, tz, nw, rfl, hnw, hcl, hca, hcr, g0, hm2⟩ F₁ N₁
    have g1 : m₁ (Str.ofString "spelled") = some (.ref sp) := (hm2 _ (by decide) (by decide) (by decide) (by decide) (by decide) (by decide)).trans e1
    have g2 : m₁ (Str.ofString "numbers") = some (.ref na) := (hm2 _ (by decide) (by decide) (by decide) (by decide) (by decide) (by decide)).trans e2
    have hkm1 : known [(Str.ofString "spelled", some (.ref sp)), (Str.ofString "numbers", some (.ref na)), (Str.ofString "text", some (.str ⟨cs.toArray⟩ tz))] m₁ = m₁ := known_same (by simp [g0, g1, g2])
    have F₂ := hkm1.symm ▸ F₁
    clear F₁
    have F₃ : Fr h₀ L h (fun y => if y = Str.ofString "spelled" then some (.ref sp) else if y = Str.ofString "numbers" then some (.ref na) else if y = Str.ofString "text" then some (.str ⟨cs.toArray⟩ tz) else m₁ y) := F₂
    clear F₂
    have hna' := List.mem_append_right nw hna
    obtain ⟨tx, ex⟩ := ints_get hnv (i := (0 + (i : Int)).toNat) (by omega)
    have hfg : figAt (nums.map (Int.fmod · 32)) i = Int.fmod (figAt nums (0 + (i : Int)).toNat) 32 := by
      have : i < nums.length := by omega
      unfold figAt
      rw [show (0 + (i : Int)).toNat = i by omega, List.getD_eq_getElem?_getD, List.getD_eq_getElem?_getD, List.getElem?_map, List.getElem?_eq_getElem this]; rfl
    generalize figAt nums (0 + (i : Int)).toNat = nk at ex hfg
    k_steps
    · rename I < _ ∧ _ => l4
      (try dsimp only [List.nil_append, List.append_nil, List.cons_append]); (k_dflt refine' cut_parts w mean mg mb _ _ trivial _ _ _ _ _ _ _ _ _ _ _ _ _ _ _ _ _ _ ?k1 ?k2 ?k3 ?k4 ?k5 ?k6 ?k7 ?k8 ?k9 ?_); (case k1 => k_asm); (case k2 => k_asm); (case k3 => k_asm); (case k4 => k_asm); (case k5 => k_asm); (case k6 => first | exact rfl | assumption); (case k7 => assumption); (case k8 => first | exact room _ (by with_reducible assumption) rfl | exact room2 _ (by with_reducible assumption) rfl | ktr_room); (case k9 => first | exact room _ (by with_reducible assumption) rfl | exact room2 _ (by with_reducible assumption) rfl | ktr_units)
      intro lp xs h5 tk5 hxs l5 F5 N5
      k_steps
      unfold Hold
      have hnk0 := Int.fmod_nonneg_of_pos nk (b := 32) (by decide)
      have hnk1 := Int.fmod_lt_of_pos nk (b := 32) (by decide)
      obtain ⟨hpl, hpb⟩ := parts_bnd hnk0 hnk1
      obtain ⟨hb1, hb2, hs1, hs2⟩ := head_bnd hi
      refine add_two F5 N5 (.tail _ (.head _)) (.head _) (by rw [sizeLine_eq, hxs.length]; simp only [List.length_cons, List.length_nil]; omega) ?_
      intro D h6 F6 N6 l6
      k_steps
      unfold Hold
      rename Fr _ _ _ _ => F7
      refine cut_enum w mean mg mb D (_ :: _ :: xs) 0 (Int.fdiv (0 + (i : Int)) 2 :: (3 + Int.fmod (0 + (i : Int)) 2) :: partsOf (nk.fmod 32)) sp sv sn na nv nn nums (0 + (i : Int)) ti cs tz (by assumption) _ _ _ _ _ _ _ _ _ _ _ _ _ _ _ _ B F7 X (by assumption) T hb (by first | exact room _ hd rfl | exact room2 _ hd rfl | omega) (by first | exact room _ hu rfl | exact room2 _ hu rfl | omega) hE ⟨.head _, .cons _ _ (.cons _ _ hxs), by simp only [List.length_cons]; omega, ?_, .tail _ (.tail _ (.tail _ (.tail _ (List.mem_append_right _ hsp)))), hsv, .tail _ (.tail _ (.tail _ (.tail _ (List.mem_append_right _ hna)))), hnv, hnl, by omega, by omega, by omega, rfl, rfl, rfl, rfl, rfl, ?_⟩
      · intro p hp
        rcases List.mem_cons.mp hp with rfl | hp
        · exact hb1
        rcases List.mem_cons.mp hp with rfl | hp
        · exact hb2
        · exact hpb p hp
      · intro m2 h7 tk7 zs t7 hzl hza hzw k0 hm3 F8 N8
        simp only [List.length_cons] at hzl
        have hzl2 : Str.length ⟨(cs ++ zs).toArray⟩ ≤ 70 := by
          simp only [Str.length, List.size_toArray, List.length_append]; omega
        have hkm2 : known [(Str.ofString "text", some (.str ⟨(cs ++ zs).toArray⟩ t7))] m2 = m2 := known_same (by simp [k0])
        have F8a := hkm2.symm ▸ F8
        have F9 : Fr h₀ L h7 (fun y => if y = Str.ofString "text" then some (.str ⟨(cs ++ zs).toArray⟩ t7) else m2 y) := F8a
        clear F8 F8a
        k_steps
        unfold Hold
        rename Str.length _ + Str.length _ ≤ _ ∧ _ => z9
        clear z9 hzl2
        rename Fr h₀ L _ _ => F10
        rename News h₀ L _ _ => N10
        rename_i t9 k9 h9
        refine wpAny_execs_nil ?_
        refine wpAny_execs_nil ?_
        have hcat : (⟨(cs ++ zs).toArray⟩ : Str) ++ Str.ofString "\x00" = ⟨(cs ++ (zs ++ [0])).toArray⟩ := by
          rw [show Str.ofString "\x00" = ⟨[0].toArray⟩ from rfl, str_cat, List.append_assoc]
        have hfne : ¬ nk.fmod 32 = 0 := by assumption
        have hrule : rulesOf (cs ++ (zs ++ [0])) = (rulesTab (nums.map (Int.fmod · 32)) (i + 1), []) := by
          have e1 : rulesOf (cs ++ (zs ++ [0])) = ruleStep (zs.foldl ruleStep (rulesOf cs)) 0 := by unfold rulesOf; rw [List.foldl_append, List.foldl_append]; rfl
          rw [e1, hcr, rules_word _ _ _ hza, List.nil_append, hzw, rules_end]
          simp only [List.map_cons, List.take_succ_cons, List.take_zero, List.drop_succ_cons, List.drop_zero]
          rw [hs1, hs2, rulesTab, ruleD, hfg, if_neg hfne]
        refine free_three F10 N10 (Nat.ne_of_gt (l6 (I, it) (.tail _ (.tail _ (.head _))))) (Nat.ne_of_gt (l5 (I, it) (.tail _ (.head _)))) (Nat.ne_of_gt l4.1) (fun x hx => hnI x hx) ⟨cs ++ (zs ++ [0]), t9, _ :: _ :: _ :: nw, rfl, ?_, ?_, ?_, hrule, (if_pos rfl).trans (str_to hcat), fun z z1 z2 z3 z4 z5 z6 => ?_⟩
        · intro x hx y hy
          rcases List.mem_cons.mp hx with rfl | hx
          · exact Nat.ne_of_gt (l6 y (.tail _ (.tail _ (.tail _ (List.mem_append_right _ hy)))))
          rcases List.mem_cons.mp hx with rfl | hx
          · exact Nat.ne_of_gt (l5 y (.tail _ (.tail _ (List.mem_append_right _ hy))))
          rcases List.mem_cons.mp hx with rfl | hx
          · exact Nat.ne_of_gt (allLt_get (l := nw ++ news) l4.2 y (List.mem_append_right _ hy))
          · exact hnw x hx y hy
        · rw [List.length_append, List.length_append, List.length_singleton]
          clear F10 N10
          omega
        · rw [List.all_append, List.all_append, hca, word_ok hza]; decide
        · exact (if_neg z6).trans ((congrFun hkm2 z).trans ((hm3 z z3 z4 z5 z6).trans ((if_neg z2).trans ((if_neg z1).trans ((congrFun hkm1 z).trans (hm2 z z1 z2 z3 z4 z5 z6))))))
    · unfold Hold
      rename Fr h₀ L _ _ => F10
      rename News h₀ L _ _ => N10
      refine wpAny_execs_nil ?_
      refine wpAny_execs_nil ?_
      have hf0 : nk.fmod 32 = 0 := by assumption
      refine FreeEnd.intro (nx := nw ++ news) F10 N10 (fun x hx y hy => by rw [List.mem_singleton.mp hy]; exact hnI x hx) ⟨cs, tz, nw, rfl, hnw, by omega, hca, ?_, rfl, fun z z1 z2 z3 z4 z5 z6 => ?_⟩
      · rw [hcr, rulesTab, ruleD, hfg, if_pos hf0]
      · exact (if_neg z1).trans ((congrFun hkm1 z).trans (hm2 z z1 z2 z3 z4 z5 z6))
  · rintro m₁ nx h tk hJ F₁ N₁
    exact hret m₁ nx h _ hJ F₁ N₁
end
end
section
set_option maxHeartbeats 8000000
section
open PySem PySem.W PySem.Calls PyProof.Rows PySem.Spec LCg
variable (w : World) (mean : ExcName → Option Value) (mg mb : Str → Option Value)
noncomputable def lWW : Stmt := nth (fBody (lSt 7)) 1
noncomputable def lWE : Stmt := nth (fBody lWW) 1
/-- what a letter of a word is read as -/
noncomputable def letSym (c : Nat) : Nat := sym (c - 94)
noncomputable def abOk (wd : List Nat) : Prop := ∀ c ∈ wd, c = 97 ∨ c = 98
noncomputable def JL (news : List (Addr × Obj)) (wd cs : List Nat) (m : Str → Option Value) (i : Nat) (m' : Str → Option Value) (nx : List (Addr × Obj)) : Prop :=
  nx = news ∧ ∃ zs t, zs.length ≤ i ∧ zs.all wordSign = true ∧ lowsOf zs = (wd.take i).map letSym ∧ m' (Str.ofString "written") = some (.str ⟨(cs ++ zs).toArray⟩ t) ∧ (∀ z, z ≠ Str.ofString "i" → z ≠ Str.ofString "letter" → z ≠ Str.ofString "written" → m' z = m z)
local macro_rules
  | `(tactic| walk_at "subscriptTail") => `(tactic| walk_at "own 1")
  | `(tactic| walk_at "exec For Tuple Call") => `(tactic| walk_at "own 0")
  | `(tactic| walk_at "call type:enumerate") => `(tactic| walk_at "own 2")
  | `(tactic| walk_at "loadName") => `(tactic| walk_at "own 12")
local macro_rules
  | `(tactic| walk_at "subscriptTail") => `(tactic| walk_at "own 13")
  | `(tactic| walk_at "execs nil") => `(tactic| walk_at "own 2")
  | `(tactic| walk_at "call builtin:str.find") => `(tactic| walk_at "own 2")
  | `(tactic| walk_at "call builtin:sum") => `(tactic| walk_at "own 2")
theorem letter_forms {c : Nat} (hc : c = 97 ∨ c = 98) : (spelledT.getD ((c : Int) - 97 + 3).toNat []).length = 3 ∧ (spelledT.getD ((c : Int) - 97 + 3).toNat []).all (fun d => lowOf d == some (letSym c)) = true := by
  rcases hc with rfl | rfl <;> decide
theorem find_ab {prog : Program} {w : World} {A : Around} {E : Value → Shared → Prop} {s : Shared} {Q : Value → Shared → Prop} {c : Nat} {t u : Tok} (hc : c = 97 ∨ c = 98) (h : ∀ t' k, Q (.int ((c : Int) - 97) t') { s with toks := k }) : wpAny (model prog w) A (call (.builtin "str.find") [.str (Str.ofString "ab") t, .str ⟨#[c]⟩ u]) Q E s := by
  refine SC.find ?_
  have e : Txt.find (Str.ofString "ab") ⟨#[c]⟩ = (c : Int) - 97 := by
    rcases hc with rfl | rfl <;> decide +kernel
  rw [e]
  exact h _ _
theorem cut_wenum (wd : List Nat) (tw : Tok) (sp : Addr) (sv : List Value) (sn : Nat) (na : Addr) (nv : List Value) (nn : Nat) (nums : List Int) (cs : List Nat) (tt : Tok) :
    CutLS w mean mg mb lWE 16 320 (fun c h₀ L m news s Q => abOk wd ∧ wd.length ≤ 4 ∧ (sp, W.listOf sv.toArray sn) ∈ news ∧ Texts sv spelledT ∧ (na, W.listOf nv.toArray nn) ∈ news ∧ IntsAre nv nums ∧ nums.length = 6 ∧ cs.length ≤ 10 ∧
      m (Str.ofString "word") = some (.str ⟨wd.toArray⟩ tw) ∧ m (Str.ofString "spelled") = some (.ref sp) ∧ m (Str.ofString "numbers") = some (.ref na) ∧ m (Str.ofString "written") = some (.str ⟨cs.toArray⟩ tt) ∧
      ∀ m' nx h' tk', JL news wd cs m wd.length m' nx → Fr h₀ L h' m' → News h₀ L h' nx → Q .next { s with heap := h', toks := tk' }) := by
  unfold CutLS; k_fill; w_top off
  intro _ dp un gd outer A₀ base h₀ L c fa cd m s Q E news B F X N T hb hd hu hE hR
  obtain ⟨hab, hwl, hsp, hsv, hna, hnv, hnl, hcl, e1, e2, e3, e4, hret⟩ := hR
  conv in lWE => whnf
  generalize hsc : lSc = sc at *
  conv at hsc => lhs; whnf
  subst hsc
  dsimp only [lEnv, lCl] at *
  have hkm : known [(Str.ofString "word", some (.str ⟨wd.toArray⟩ tw))] m = m := known_same (by simp [e1])
  have F₂ := hkm.symm ▸ F
  clear F
  k_steps
  unfold Hold
  rename Fr _ _ _ _ => F9
  refine turns_enumS (xt := ⟨wd.toArray⟩) (JL news wd cs m) rfl (hkm ▸ F9) N ⟨rfl, [], tt, by simp, rfl, rfl, by rw [List.append_nil]; exact e4, fun _ _ _ _ => rfl⟩ ?_ ?_
  · rintro e it i c1 u1 m₁ nx h tk oe oi T t hv hn _ _ ⟨rfl, zs, tz, hzl, hza, hzw, h5, h6⟩ hT F₁ N₁
    clear F9
    have hv : wd[i]? = some c1 := hv
    have g1 : m₁ (Str.ofString "spelled") = some (.ref sp) := (h6 _ (by decide) (by decide) (by decide)).trans e2
    have g2 : m₁ (Str.ofString "numbers") = some (.ref na) := (h6 _ (by decide) (by decide) (by decide)).trans e3
    have hkm1 : known [(Str.ofString "spelled", some (.ref sp)), (Str.ofString "numbers", some (.ref na)), (Str.ofString "written", some (.str ⟨(cs ++ zs).toArray⟩ tz))] m₁ = m₁ := known_same (by simp [g1, g2, h5])
    have F₂ := hkm1.symm ▸ F₁
    clear F₁
    have F₃ : Fr h₀ L h (fun y => if y = Str.ofString "spelled" then some (.ref sp) else if y = Str.ofString "numbers" then some (.ref na) else if y = Str.ofString "written" then some (.str ⟨(cs ++ zs).toArray⟩ tz) else m₁ y) := F₂
    clear F₂
    have hiw : i < wd.length := (List.getElem?_eq_some_iff.mp hv).1
    have hpi : wd.take (i + 1) = wd.take i ++ [c1] := by rw [List.take_add_one, hv]; rfl
    have hc1 := hab c1 (List.mem_of_getElem? hv)
    have hc97 : 97 ≤ c1 := by omega
    have hc98 : c1 ≤ 98 := by omega
    obtain ⟨tf, x1⟩ := texts_get hsv (i := ((c1 : Int) - 97 + 3).toNat) (by have : spelledT.length = 5 := rfl; omega)
    obtain ⟨hf3, hfw⟩ := letter_forms hc1
    generalize spelledT.getD ((c1 : Int) - 97 + 3).toNat [] = fl at x1 hf3 hfw
    have hFl : Str.length ⟨fl.toArray⟩ = fl.length := by simp [Str.length]
    generalize hFS : (⟨fl.toArray⟩ : PySem.Str) = FS at x1 hFl
    k_steps
    unfold Hold
    refine find_ab hc1 ?_
    intro tq kq
    k_steps
    unfold Hold
    rename Fr _ _ _ _ => F4
    rename News _ _ _ _ => N4
    refine sumK (vs := nv) (ns := nums) rfl F4 N4 (News.isList N4 (.tail _ (.tail _ hna))) hnv ?_
    intro h5' k5 t5 F5 N5
    clear F4 N4
    k_steps
    unfold Hold
    refine item_form hFS (Int.fmod_nonneg_of_pos _ (by decide)) (by rw [hFl, hf3]; exact Int.fmod_lt_of_pos _ (by decide)) (by omega) ?_
    intro c0 tc0 kc0 hc0
    have hlow : lowOf c0 = some (letSym c1) := eq_of_beq (List.all_eq_true.mp hfw c0 hc0)
    have hzl2 : Str.length ⟨(cs ++ zs).toArray⟩ ≤ 14 := by
      simp only [Str.length, List.size_toArray, List.length_append]; omega
    clear hfw hFl hFS
    k_steps
    unfold Hold
    rename Str.length _ + Str.length _ ≤ _ ∧ _ => z9
    clear z9 hzl2
    rename Fr h₀ L _ _ => F7
    rename News h₀ L _ _ => N7
    rename_i t9 k9 h9
    refine wpAny_execs_nil ?_
    have hcat : (⟨(cs ++ zs).toArray⟩ : PySem.Str) ++ ⟨#[c0]⟩ = ⟨(cs ++ (zs ++ [c0])).toArray⟩ := by
      rw [show (⟨#[c0]⟩ : PySem.Str) = ⟨[c0].toArray⟩ from rfl, str_cat, List.append_assoc]
    have hw0 := (low_word hlow).1
    have hb0 := (low_word hlow).2
    refine FreeEnd.intro (nx := nx) F7 N7 (fun q hq r hr => ?_) ⟨rfl, zs ++ [c0], t9, ?_, ?_, ?_, (if_pos rfl).trans (str_to hcat), fun z z1 z2 z3 => ?_⟩
    · rcases List.mem_cons.mp hr with rfl | hr
      · exact (hn q hq).1
      · rw [List.mem_singleton.mp hr]; exact (hn q hq).2
    · rw [List.length_append, List.length_singleton]; clear F7 N7; omega
    · rw [List.all_append, hza, List.all_cons, hw0]; rfl
    · rw [lows_append, hzw, hpi, List.map_append]
      congr 1
      unfold lowsOf
      simp [hb0, hlow]
    · exact (if_neg z3).trans ((if_neg z2).trans ((if_neg z1).trans ((congrFun hkm1 z).trans (h6 z z1 z2 z3))))
  · rintro m₁ nx h tk hJ F₁ N₁
    exact hret m₁ nx h _ hJ F₁ N₁
end
end
section
set_option maxHeartbeats 8000000
section
open PySem PySem.W PySem.Calls PyProof.Rows PySem.Spec LCg
variable (w : World) (mean : ExcName → Option Value) (mg mb : Str → Option Value)
/-- the pile's run over letters as they are read -/
noncomputable def runL (tab : List Nat → Option (List Nat)) (ls : List Nat) : Option (List Nat) := ls.foldl (fun st l => st.bind (tstep tab l)) (some [257])
/-- is the word taken? -/
noncomputable def accW (tab : List Nat → Option (List Nat)) (wd : List Nat) : Bool := runL tab (wd.map letSym) == some []
theorem run_lows (tab : List Nat → Option (List Nat)) (cs : List Nat) : takenRun tab cs = runL tab (lowsOf cs) := by
  have main : ∀ (cs : List Nat) st, cs.foldl (sstep tab) st = (lowsOf cs).foldl (fun st l => st.bind (tstep tab l)) st := by
    intro cs
    induction cs with
    | nil => intro st; rfl
    | cons c cs ih =>
      intro st
      have e : lowsOf (c :: cs) = lowsOf [c] ++ lowsOf cs := lows_append [c] cs
      rw [List.foldl_cons, ih, e, List.foldl_append]
      congr 1
      unfold sstep
      by_cases hb : (c : Int) ∈ b1L
      · have e2 : lowsOf [c] = [] := by unfold lowsOf; simp [hb]
        rw [if_pos hb, e2]; rfl
      · have e2 : lowsOf [c] = [(lowOf c).getD 0] := by unfold lowsOf; simp [hb]
        rw [if_neg hb, e2]; rfl
  exact main cs _
theorem taken_acc {tab : List Nat → Option (List Nat)} {zz zs wd : List Nat} (h0 : ∀ z ∈ zz, z = 173) (h : lowsOf zs = wd.map letSym) : takenB tab (zz ++ zs) = accW tab wd := by
  unfold takenB accW
  rw [run_lows, lows_append, h]
  have e1 : lowsOf zz = [] := by
    unfold lowsOf
    rw [List.filter_eq_nil_iff.mpr]
    · rfl
    · intro z hz'; rw [h0 z hz']; decide
  rw [e1]; rfl
theorem mul_sh {b : Int} (h0 : 0 ≤ b) (h1 : b < 2) : ∃ zz : List Nat, zz.length ≤ 1 ∧ (∀ z ∈ zz, z = 173) ∧ Txt.mul (Str.ofString "\xad") b = ⟨zz.toArray⟩ := by
  have : b = 0 ∨ b = 1 := by omega
  rcases this with rfl | rfl
  · exact ⟨[], by decide, by decide, by decide +kernel⟩
  · exact ⟨[173], by decide, by decide, by decide +kernel⟩
section
variable {prog : Program} {w : World} {A : Around} {E : Value → Shared → Prop} {s : Shared} {Q : Value → Shared → Prop}
theorem mul_soft {t u : Tok} {b : Int} (h0 : 0 ≤ b) (h1 : b < 2) (h : ∀ (zz : List Nat) t' k, zz.length ≤ 1 → (∀ z ∈ zz, z = 173) → Q (.str ⟨zz.toArray⟩ t') { s with toks := k }) : wpAny (model prog w) A (binaryOp .Mult (.str (Str.ofString "\xad") t) (.int b u)) Q E s := by
  refine KXi.mul (n := 1) (by decide) (by decide) (by omega) (by omega) ?_
  intro tm km _ _
  obtain ⟨zz, hz1, hz2, ez⟩ := mul_sh h0 h1
  rw [ez]
  exact h zz _ _ hz1 hz2
end
noncomputable def JW (ta c : Addr) (oc : Obj) (rest : List (Addr × Obj)) (tab : List Nat → Option (List Nat)) (us acc : List (List Nat)) (m : Str → Option Value) (i : Nat) (m' : Str → Option Value) (nx : List (Addr × Obj)) : Prop :=
  ∃ tv tn, nx = (ta, W.listOf tv.toArray tn) :: (c, oc) :: rest ∧ Texts tv (acc ++ (us.take i).filter (accW tab)) ∧ (∀ z, z ≠ Str.ofString "word" → z ≠ Str.ofString "written" → z ≠ Str.ofString "i" → z ≠ Str.ofString "letter" → m' z = m z)
local macro_rules
  | `(tactic| walk_at "exec For Name Name cons nil") => `(tactic| walk_at "own 0")
  | `(tactic| walk_at "pyIter ref") => `(tactic| walk_at "own 2")
  | `(tactic| walk_at "exec For Tuple Call") => `(tactic| walk_at "own 2")
  | `(tactic| walk_at "call builtin:sum") => `(tactic| walk_at "own 2")
  | `(tactic| walk_at "binaryOp Mult str int") => `(tactic| walk_at "own 2")
  | `(tactic| walk_at "call builtin:list.append") => `(tactic| walk_at "own 2")
  | `(tactic| walk_at "execs nil") => `(tactic| walk_at "own 2")
theorem cut_wloop (ta : Addr) (tv : List Value) (tn : Nat) (oc : Obj) (rest : List (Addr × Obj)) (wa : Addr) (wv : List Value) (wn : Nat) (us acc : List (List Nat)) (sp : Addr) (sv : List Value) (sn : Nat) (na : Addr) (nv : List Value) (nn : Nat) (nums : List Int) (rd : Addr) (ro : Obj) (kvs : List (Str × Value)) (tab : List Nat → Option (List Nat)) :
    CutLS w mean mg mb lWW 24 480 (fun c h₀ L m news s Q => news = (ta, W.listOf tv.toArray tn) :: (c, oc) :: rest ∧ oc.data = .cell (some (.ref ta)) ∧ (∀ x ∈ rest, x.1 ≠ ta) ∧ (c : Nat) ≠ ta ∧ (∀ x ∈ rest, x.1 ≠ c) ∧ Texts tv acc ∧ acc.length ≤ 100 ∧ (wa, W.listOf wv.toArray wn) ∈ rest ∧ Texts wv us ∧ us.length ≤ 16 ∧ (∀ u ∈ us, abOk u ∧ u.length ≤ 4) ∧
      (sp, W.listOf sv.toArray sn) ∈ rest ∧ Texts sv spelledT ∧ (na, W.listOf nv.toArray nn) ∈ rest ∧ IntsAre nv nums ∧ nums.length = 6 ∧ (rd, ro) ∈ rest ∧ ro.IsDictOf (PySem.strKind pw w) kvs ∧ TabSays kvs tab ∧ (∀ k v, tab k = some v → v.length ≤ 2) ∧ (rd == sysModules) = false ∧
      m (Str.ofString "words") = some (.ref wa) ∧ m (Str.ofString "spelled") = some (.ref sp) ∧ m (Str.ofString "numbers") = some (.ref na) ∧ m (Str.ofString "rules") = some (.ref rd) ∧
      ∀ m' nx h' tk', JW ta c oc rest tab us acc m us.length m' nx → Fr h₀ L h' m' → News h₀ L h' nx → Q .next { s with heap := h', toks := tk' }) := by
  unfold CutLS; k_fill; w_top off
  intro _ dp un gd outer A₀ base h₀ L c fa cd m s Q E news B F X N T hb hd hu hE hR
  obtain ⟨rfl, dc, hrt, hct, hrc, htv, hal, hwa, hwv, hul, hus, hsp, hsv, hna, hnv, hnl, hrd, hro, hts, hB2, hsy, e1, e2, e3, e4, hret⟩ := hR
  conv in lWW => whnf
  generalize hsc : lSc = sc at *
  conv at hsc => lhs; whnf
  subst hsc
  dsimp only [lEnv, lCl] at *
  have hkm : known [(Str.ofString "words", some (.ref wa))] m = m := known_same (by simp [e1])
  have F₂ := hkm.symm ▸ F
  clear F
  k_steps
  unfold Hold
  rename Fr _ _ _ _ => F9
  have hwl : wv.length = us.length := hwv.length
  refine turns_list (vs := wv) (k := wn) (fun pre => JW ta c oc rest tab us acc m pre.length) rfl (hkm ▸ F9) N ⟨tv, tn, rfl, by simpa using htv, fun _ _ _ _ _ => rfl⟩ ?_ ?_ ?_
  · rintro pre m' nx ⟨tv', tn', rfl, _⟩; exact .tail _ (.tail _ hwa)
  · rintro I pre v post m₁ nx h tk it he hnI ⟨tv', tn', rfl, hT', hm2⟩ F₁ N₁
    clear F9
    have g2 : m₁ (Str.ofString "spelled") = some (.ref sp) := (hm2 _ (by decide) (by decide) (by decide) (by decide)).trans e2
    have g3 : m₁ (Str.ofString "numbers") = some (.ref na) := (hm2 _ (by decide) (by decide) (by decide) (by decide)).trans e3
    have g4 : m₁ (Str.ofString "rules") = some (.ref rd) := (hm2 _ (by decide) (by decide) (by decide) (by decide)).trans e4
    have hkm1 : known [(Str.ofString "spelled", some (.ref sp)), (Str.ofString "numbers", some (.ref na)), (Str.ofString "rules", some (.ref rd))] m₁ = m₁ := known_same (by simp [g2, g3, g4])
    have F₂ := hkm1.symm ▸ F₁
    clear F₁
    have F₃ : Fr h₀ L h (fun y => if y = Str.ofString "spelled" then some (.ref sp) else if y = Str.ofString "numbers" then some (.ref na) else if y = Str.ofString "rules" then some (.ref rd) else m₁ y) := F₂
    clear F₂
    have hv : wv[pre.length]? = some v := by rw [he]; simp
    obtain ⟨wd, hwd, tw, rfl⟩ := hwv.at hv
    obtain ⟨hab, hw4⟩ := hus wd (List.mem_of_getElem? hwd)
    have hIt : (I : Nat) ≠ ta := (hnI (ta, W.listOf tv'.toArray tn') (.head _)).symm
    have hIc : (I : Nat) ≠ c := (hnI (c, oc) (.tail _ (.head _))).symm
    k_steps
    unfold Hold
    rename Fr _ _ _ _ => F4
    rename News _ _ _ _ => N4
    refine sumK (vs := nv) (ns := nums) rfl F4 N4 (News.isList N4 (.tail _ (.tail _ (.tail _ hna)))) hnv ?_
    intro h5 k5 t5 F5 N5
    clear F4 N4
    k_steps
    unfold Hold
    refine mul_soft (Int.fmod_nonneg_of_pos _ (by omega)) (Int.fmod_lt_of_pos _ (by omega)) ?_
    intro zz tm km hz1 hz2
    k_steps
    unfold Hold
    rename Fr _ _ _ _ => F6
    rename News _ _ _ _ => N6
    refine cut_wenum w mean mg mb wd tw sp sv sn na nv nn nums zz tm (by assumption) _ _ _ _ _ _ _ _ _ _ _ _ _ _ _ _ B F6 X N6 T hb (by first | exact room _ hd rfl | exact room2 _ hd rfl | omega) (by first | exact room _ hu rfl | exact room2 _ hu rfl | omega) hE ⟨hab, hw4, .tail _ (.tail _ (.tail _ hsp)), hsv, .tail _ (.tail _ (.tail _ hna)), hnv, hnl, by omega, rfl, rfl, rfl, rfl, ?_⟩
    rintro m7 nx7 h7 tk7 ⟨rfl, zs, tz, hzl, hza, hzw, k5', hm3⟩ F7 N7
    rw [List.take_length] at hzw
    have j1 : m7 (Str.ofString "rules") = some (.ref rd) := (hm3 _ (by decide) (by decide) (by decide)).trans rfl
    have j2 : m7 (Str.ofString "word") = some (.str ⟨wd.toArray⟩ tw) := (hm3 _ (by decide) (by decide) (by decide)).trans rfl
    have hkm2 : known [(Str.ofString "rules", some (.ref rd)), (Str.ofString "word", some (.str ⟨wd.toArray⟩ tw)), (Str.ofString "written", some (.str ⟨(zz ++ zs).toArray⟩ tz))] m7 = m7 := known_same (by simp [j1, j2, k5'])
    have F8 := hkm2.symm ▸ F7
    clear F7
    have hacc := taken_acc (tab := tab) hz2 hzw
    have hx1 : (⟨(zz ++ zs).toArray⟩ : PySem.Str).cps.toList.all wordSign = true := by
      show (zz ++ zs).all wordSign = true
      rw [List.all_append, hza, Bool.and_true]
      exact List.all_eq_true.mpr fun z hz => by rw [hz2 z hz]; decide
    have hx2 : (⟨(zz ++ zs).toArray⟩ : PySem.Str).cps.size < 400 := by
      show (zz ++ zs).toArray.size < 400
      rw [List.size_toArray, List.length_append]; omega
    have hacc2 : takenB tab (⟨(zz ++ zs).toArray⟩ : PySem.Str).cps.toList = accW tab wd := hacc
    k_steps
    (try dsimp only [List.nil_append, List.append_nil, List.cons_append]); (k_dflt refine' cut_taken w mean mg mb _ _ rd ro kvs tab hx1 hx2 hro hts hB2 hsy trivial _ _ _ _ _ _ _ _ _ _ _ _ _ _ _ _ _ _ ?k1 ?k2 ?k3 ?k4 ?k5 ?k6 ?k7 ?k8 ?k9 ?_); (case k1 => k_asm); (case k2 => k_asm); (case k3 => k_asm); (case k4 => k_asm); (case k5 => k_asm); (case k6 => first | exact rfl | assumption); (case k7 => assumption); (case k8 => first | exact room _ (by with_reducible assumption) rfl | exact room2 _ (by with_reducible assumption) rfl | ktr_room); (case k9 => first | exact room _ (by with_reducible assumption) rfl | exact room2 _ (by with_reducible assumption) rfl | ktr_units)
    refine ⟨.tail _ (.tail _ (.tail _ hrd)), ?_⟩
    rw [hacc2]
    have htk : us.take (pre.length + 1) = us.take pre.length ++ [wd] := by rw [List.take_add_one, hwd]; rfl
    cases hq : accW tab wd
    all_goals intro t9 h9 tk9 F9 N9
    all_goals dsimp only
    all_goals k_steps
    all_goals unfold Hold
    all_goals have hpl : (pre ++ [Value.str ⟨wd.toArray⟩ tw]).length = pre.length + 1 := by rw [List.length_append, List.length_singleton]
    all_goals have hmm : ∀ z, z ≠ Str.ofString "word" → z ≠ Str.ofString "written" → z ≠ Str.ofString "i" → z ≠ Str.ofString "letter" → m7 z = m z := fun z z1 z2 z3 z4 => (hm3 z z3 z4 z2).trans ((if_neg z2).trans ((if_neg z1).trans ((congrFun hkm1 z).trans (hm2 z z1 z2 z3 z4))))
    · refine wpAny_execs_nil ?_
      refine wpAny_execs_nil ?_
      rw [hpl]
      refine FreeEnd.intro (nx := (ta, W.listOf tv'.toArray tn') :: (c, oc) :: rest) F9 N9 (fun x hx y hy => ?_) ⟨tv', tn', rfl, ?_, fun z z1 z2 z3 z4 => (congrFun hkm2 z).trans (hmm z z1 z2 z3 z4)⟩
      · rw [List.mem_singleton.mp hy]; exact hnI x hx
      · rw [htk, List.filter_append]
        simpa [hq] using hT'
    · have htl : tv'.length ≤ 116 := by
        rw [hT'.length, List.length_append]
        have h1 := List.length_filter_le (accW tab) (us.take pre.length)
        have h2 : (us.take pre.length).length ≤ us.length := by rw [List.length_take]; exact Nat.min_le_right ..
        omega
      refine append_two (vs := tv') (rst := (I, it) :: (c, oc) :: rest) F9 N9 (.tail _ (.head _)) ?_ ?_ (by rw [sizeLine_eq]; omega) ?_
      · intro x hx
        rcases List.mem_cons.mp hx with rfl | hx
        · exact .head _
        · exact .tail _ (.tail _ hx)
      · intro x hx
        rcases List.mem_cons.mp hx with rfl | hx
        · exact hIt
        rcases List.mem_cons.mp hx with rfl | hx
        · exact hct
        · exact hrt x hx
      · intro h10 F10 N10
        refine wpAny_execs_nil ?_
        refine wpAny_execs_nil ?_
        rw [hpl]
        refine FreeEnd.intro (nx := (ta, W.listOf (tv' ++ [Value.str ⟨wd.toArray⟩ tw]).toArray (tn' + 1)) :: (c, oc) :: rest) F10 (fun x hx => N10 x ?_) (fun x hx y hy => ?_) ⟨tv' ++ [Value.str ⟨wd.toArray⟩ tw], tn' + 1, rfl, ?_, fun z z1 z2 z3 z4 => (congrFun hkm2 z).trans (hmm z z1 z2 z3 z4)⟩
        · rcases List.mem_cons.mp hx with rfl | hx
          · exact .tail _ (.head _)
          rcases List.mem_cons.mp hx with rfl | hx
          · exact .head _
          · exact .tail _ (.tail _ hx)
        · rw [List.mem_singleton.mp hy]
          rcases List.mem_cons.mp hx with rfl | hx
          · exact hIt.symm
          · exact hnI x (.tail _ hx)
        · rw [htk, List.filter_append, ← List.append_assoc]
          refine hT'.append ?_
          simp only [List.filter_cons, hq, if_true, List.filter_nil]
          exact .cons ⟨tw, rfl⟩ .nil
  · rintro m₁ nx h tk hJ F₁ N₁
    rw [hwl] at hJ
    exact hret m₁ nx h _ hJ F₁ N₁
end
end
section
set_option maxHeartbeats 8000000
section
local macro_rules | `(tactic| walk_at "idle") => `(tactic| skip)
open PySem PySem.W PySem.Calls PyProof.Rows PySem.Spec LCg
variable (w : World) (mean : ExcName → Option Value) (mg mb : Str → Option Value)
/-- all words of one length -/
noncomputable def lexw : Nat → List (List Nat)
  | 0 => [[]]
  | n + 1 => (lexw n).flatMap fun wd => [wd ++ [97], wd ++ [98]]
theorem lexw_ok : ∀ n, (∀ u ∈ lexw n, abOk u ∧ u.length = n) ∧ (lexw n).length = 2 ^ n
  | 0 => by
    refine ⟨fun u hu => ?_, rfl⟩
    rw [List.mem_singleton.mp hu]
    constructor
    · intro c hc; cases hc
    · rfl
  | n + 1 => by
    obtain ⟨h1, h2⟩ := lexw_ok n
    constructor
    · intro u hu
      rw [lexw] at hu
      obtain ⟨v, hv, hu⟩ := List.mem_flatMap.mp hu
      obtain ⟨a1, a2⟩ := h1 v hv
      have : ∃ c, (c = 97 ∨ c = 98) ∧ u = v ++ [c] := by
        rcases List.mem_cons.mp hu with rfl | hu
        · exact ⟨97, .inl rfl, rfl⟩
        · exact ⟨98, .inr rfl, List.mem_singleton.mp hu⟩
      obtain ⟨c, hc, rfl⟩ := this
      refine ⟨fun d hd => ?_, by rw [List.length_append, a2]; rfl⟩
      rcases List.mem_append.mp hd with hd | hd
      · exact a1 d hd
      · rw [List.mem_singleton.mp hd]; exact hc
    · rw [lexw, List.length_flatMap]
      have : ∀ l : List (List Nat), (l.map fun wd : List Nat => [wd ++ [97], wd ++ [98]].length).sum = 2 * l.length := by
        intro l
        induction l with
        | nil => rfl
        | cons a l ih => rw [List.map_cons, List.sum_cons, ih, List.length_cons]; simp only [List.length_cons, List.length_nil]; omega
      rw [this, h2, Nat.pow_succ, Nat.mul_comm]
/-- what is taken of the first lengths -/
noncomputable def takenUp (tab : List Nat → Option (List Nat)) (i : Nat) : List (List Nat) := (List.range i).flatMap fun j => (lexw (j + 1)).filter (accW tab)
theorem takenUp_succ (tab : List Nat → Option (List Nat)) (i : Nat) : takenUp tab (i + 1) = takenUp tab i ++ (lexw (i + 1)).filter (accW tab) := by
  unfold takenUp
  rw [List.range_succ, List.flatMap_append]; simp
theorem takenUp_len (tab : List Nat → Option (List Nat)) : ∀ i, i ≤ 4 → (takenUp tab i).length ≤ 2 * 2 ^ i
  | 0, _ => by simp [takenUp]
  | i + 1, h => by
    rw [takenUp_succ, List.length_append]
    have h1 := takenUp_len tab i (by omega)
    have h2 := List.length_filter_le (accW tab) (lexw (i + 1))
    rw [(lexw_ok (i + 1)).2] at h2
    rw [Nat.pow_succ] at h2 ⊢
    omega
noncomputable def JLn (ta c : Addr) (oc : Obj) (rest : List (Addr × Obj)) (tab : List Nat → Option (List Nat)) (m : Str → Option Value) (i : Nat) (m' : Str → Option Value) (nx : List (Addr × Obj)) : Prop :=
  ∃ tv tn wa wv wn nw, nx = (ta, W.listOf tv.toArray tn) :: (c, oc) :: (nw ++ rest) ∧ Texts tv (takenUp tab i) ∧ Texts wv (lexw i) ∧ (wa, W.listOf wv.toArray wn) ∈ nw ++ rest ∧ m' (Str.ofString "words") = some (.ref wa) ∧ (∀ x ∈ nw ++ rest, x.1 ≠ ta) ∧ (∀ x ∈ nw ++ rest, x.1 ≠ c) ∧
    (∀ z, z ≠ Str.ofString "length" → z ≠ Str.ofString "words" → z ≠ Str.ofString "word" → z ≠ Str.ofString "written" → z ≠ Str.ofString "i" → z ≠ Str.ofString "letter" → m' z = m z)
local macro_rules
  | `(tactic| walk_at "exec For Name Name cons nil") => `(tactic| walk_at "own 2")
  | `(tactic| walk_at "exec Assign cons ListComp") => `(tactic| walk_at "own 2")
  | `(tactic| walk_at "execs nil") => `(tactic| walk_at "own 2")
theorem cut_lloop (ta : Addr) (tv : List Value) (tn : Nat) (oc : Obj) (rest : List (Addr × Obj)) (wa : Addr) (wv : List Value) (wn : Nat) (sp : Addr) (sv : List Value) (sn : Nat) (na : Addr) (nv : List Value) (nn : Nat) (nums : List Int) (rd : Addr) (ro : Obj) (kvs : List (Str × Value)) (tab : List Nat → Option (List Nat)) :
    CutLS w mean mg mb (lSt 7) 32 640 (fun c h₀ L m news s Q => news = (ta, W.listOf tv.toArray tn) :: (c, oc) :: rest ∧ oc.data = .cell (some (.ref ta)) ∧ (∀ x ∈ rest, x.1 ≠ ta) ∧ (c : Nat) ≠ ta ∧ (∀ x ∈ rest, x.1 ≠ c) ∧ Texts tv [] ∧ (wa, W.listOf wv.toArray wn) ∈ rest ∧ Texts wv [[]] ∧
      (sp, W.listOf sv.toArray sn) ∈ rest ∧ Texts sv spelledT ∧ (na, W.listOf nv.toArray nn) ∈ rest ∧ IntsAre nv nums ∧ nums.length = 6 ∧ (rd, ro) ∈ rest ∧ ro.IsDictOf (PySem.strKind pw w) kvs ∧ TabSays kvs tab ∧ (∀ k v, tab k = some v → v.length ≤ 2) ∧ (rd == sysModules) = false ∧
      m (Str.ofString "words") = some (.ref wa) ∧ m (Str.ofString "spelled") = some (.ref sp) ∧ m (Str.ofString "numbers") = some (.ref na) ∧ m (Str.ofString "rules") = some (.ref rd) ∧
      ∀ m' nx h' tk', JLn ta c oc rest tab m 4 m' nx → Fr h₀ L h' m' → News h₀ L h' nx → Q .next { s with heap := h', toks := tk' }) := by
  unfold CutLS; k_fill; w_top off
  intro _ dp un gd outer A₀ base h₀ L c fa cd m s Q E news B F X N T hb hd hu hE hR
  obtain ⟨rfl, dc, hrt, hct, hrc, htv, hwa, hwv, hsp, hsv, hna, hnv, hnl, hrd, hro, hts, hB2, hsy, e1, e2, e3, e4, hret⟩ := hR
  conv in (lSt 7) => whnf
  generalize hsc : lSc = sc at *
  conv at hsc => lhs; whnf
  subst hsc
  dsimp only [lEnv, lCl] at *
  (with_unfolding_all refine' For_turns F ?_ ?h1 ?h2; (case h1 => intro _; rfl); (case h2 => first | assumption | passes_own))
  k_steps
  rename IsRange _ _ _ _ _ _ _ _ => R9
  rename News _ _ _ _ => N9
  rename Fr _ _ _ _ => F9
  refine turns_range (JLn ta c oc rest tab m) rfl F9 N9 R9 (by decide) (n := 4) (by decide) ⟨tv, tn, wa, wv, wn, [], rfl, htv, hwv, hwa, e1, hrt, hrc, fun _ _ _ _ _ _ _ => rfl⟩ ?_ ?_
  · clear F9 N9 R9
    rintro I i m₁ nx h tk ti it hi hnI ⟨tv', tn', wa', wv', wn', nw, rfl, hT', hW', hwa', g1, hrt', hrc', hm2⟩ F₁ N₁
    have g2 : m₁ (Str.ofString "spelled") = some (.ref sp) := (hm2 _ (by decide) (by decide) (by decide) (by decide) (by decide) (by decide)).trans e2
    have g3 : m₁ (Str.ofString "numbers") = some (.ref na) := (hm2 _ (by decide) (by decide) (by decide) (by decide) (by decide) (by decide)).trans e3
    have g4 : m₁ (Str.ofString "rules") = some (.ref rd) := (hm2 _ (by decide) (by decide) (by decide) (by decide) (by decide) (by decide)).trans e4
    have hkm1 : known [(Str.ofString "words", some (.ref wa')), (Str.ofString "spelled", some (.ref sp)), (Str.ofString "numbers", some (.ref na)), (Str.ofString "rules", some (.ref rd))] m₁ = m₁ := known_same (by simp [g1, g2, g3, g4])
    have F₂ := hkm1.symm ▸ F₁
    clear F₁
    have F₃ : Fr h₀ L h (fun y => if y = Str.ofString "words" then some (.ref wa') else if y = Str.ofString "spelled" then some (.ref sp) else if y = Str.ofString "numbers" then some (.ref na) else if y = Str.ofString "rules" then some (.ref rd) else m₁ y) := F₂
    clear F₂
    k_steps
    unfold Hold
    rename Fr _ _ _ _ => F4
    rename News _ _ _ _ => N4
    obtain ⟨hlx1, hlx2⟩ := lexw_ok i
    have hp2 : 2 ^ i ≤ 8 := by
      have : i = 0 ∨ i = 1 ∨ i = 2 ∨ i = 3 := by omega
      rcases this with rfl | rfl | rfl | rfl <;> decide
    have hflat : ((lexw i).flatMap fun t => pick (fun _ => true) (fun v => t ++ v) (signTexts (Str.ofString "ab"))) = lexw (i + 1) := rfl
    refine comp2_assign F4 (by with_unfolding_all rfl) (by with_unfolding_all rfl) (by decide) (by rfl) (by decide) (by rfl) (by rfl) (by rfl) ?_
    k_steps
    refine ⟨wa', wv', wn', lexw i, fun t => pick (fun _ => true) (fun v => t ++ v) (signTexts (Str.ofString "ab")), _, 100, rfl, rfl, by k_asm, by k_asm, ?_, hW', ?_, ?_, ?_⟩
    · exact .tail _ (.tail _ (.tail _ hwa'))
    · rw [hflat, (lexw_ok (i + 1)).2, Nat.pow_succ]; omega
    · intro I' C D g' tk' off hIC hID hCD
      refine brings_text (xt := Str.ofString "ab") (p := fun _ _ => true) (g := fun u v => u ++ v) rfl (by rfl) (by rfl) (by decide) off hIC hID hCD (by rw [sizeLine_eq]; decide) ?_ ?_ ?_
      · intro h5 tk5 oC mC v0 t0 Q0 E0 ht0 hr0 hC0 hx0 F5 N5 hq0
        k_steps
        exact hq0 _ _
      · intro v0 t0 ht0 hr0 h5 tk5 oC mC v6 t6 Q0 E0 ht6 hC6 hy6 hx6 hr6 F5 N5 hq0
        exact wpAny_tests_nil (hq0 _)
      · intro v0 t0 ht0 hr0 h5 tk5 oC mC v6 t6 Q0 E0 ht6 _ hC6 hy6 hx6 hr6 F5 N5 hq0
        obtain ⟨tk0, rfl⟩ := hr0
        obtain ⟨tk6, rfl⟩ := hr6
        have l0 := (hlx1 t0 ht0).2
        have l6 : t6.length ≤ 1 := by
          unfold signTexts at ht6
          obtain ⟨c9, _, rfl⟩ := List.mem_map.mp ht6
          simp
        have l0' : Str.length ⟨t0.toArray⟩ ≤ 4 := by simp only [Str.length, List.size_toArray]; omega
        have l6' : Str.length ⟨t6.toArray⟩ ≤ 1 := by simp only [Str.length, List.size_toArray]; omega
        k_steps
        rw [str_cat]
        exact hq0 _ _ ⟨_, rfl⟩
    · intro D ys h5 tk5 hlt hTx F5 N5
      k_steps
      unfold Hold
      have hIt : (I : Nat) ≠ ta := (hnI (ta, W.listOf tv'.toArray tn') (.head _)).symm
      have hIc : (I : Nat) ≠ c := (hnI (c, oc) (.tail _ (.head _))).symm
      have hDt : (D : Nat) ≠ ta := Nat.ne_of_gt (hlt (ta, W.listOf tv'.toArray tn') (.tail _ (.head _)))
      have hDc : (D : Nat) ≠ c := Nat.ne_of_gt (hlt (c, oc) (.tail _ (.tail _ (.head _))))
      have hDI : (D : Nat) ≠ I := Nat.ne_of_gt (hlt (I, it) (.head _))
      have hup : ∀ x, x ∈ rest → x ∈ (D, lst ys) :: (I, it) :: (nw ++ rest) := fun x hx => .tail _ (.tail _ (List.mem_append_right _ hx))
      refine cut_wloop w mean mg mb ta tv' tn' oc ((D, lst ys) :: (I, it) :: (nw ++ rest)) D ys ys.length (lexw (i + 1)) (takenUp tab i) sp sv sn na nv nn nums rd ro kvs tab (by assumption) _ _ _ _ _ _ _ _ _ _ _ _ _ _ _ _ B F5 X (fun x hx => N5 x ?_) T hb (by first | exact room _ hd rfl | exact room2 _ hd rfl | omega) (by first | exact room _ hu rfl | exact room2 _ hu rfl | omega) hE ⟨rfl, dc, ?_, hct, ?_, hT', ?_, .head _, hTx, ?_, ?_, hup _ hsp, hsv, hup _ hna, hnv, hnl, hup _ hrd, hro, hts, hB2, hsy, rfl, rfl, rfl, rfl, ?_⟩
      · rcases List.mem_cons.mp hx with rfl | hx
        · exact .tail _ (.tail _ (.head _))
        rcases List.mem_cons.mp hx with rfl | hx
        · exact .tail _ (.tail _ (.tail _ (.head _)))
        rcases List.mem_cons.mp hx with rfl | hx
        · exact .head _
        rcases List.mem_cons.mp hx with rfl | hx
        · exact .tail _ (.head _)
        · exact .tail _ (.tail _ (.tail _ (.tail _ hx)))
      · intro x hx
        rcases List.mem_cons.mp hx with rfl | hx
        · exact hDt
        rcases List.mem_cons.mp hx with rfl | hx
        · exact hIt
        · exact hrt' x hx
      · intro x hx
        rcases List.mem_cons.mp hx with rfl | hx
        · exact hDc
        rcases List.mem_cons.mp hx with rfl | hx
        · exact hIc
        · exact hrc' x hx
      · have h1 := takenUp_len tab i (by omega)
        omega
      · have h1 := (lexw_ok (i + 1)).2
        rw [h1, Nat.pow_succ]; omega
      · intro u hu
        have h1 := (lexw_ok (i + 1)).1 u hu
        exact ⟨h1.1, by omega⟩
      · rintro m7 nx7 h7 tk7 ⟨tv7, tn7, rfl, hT7, hm7⟩ F7 N7
        rw [List.take_length, ← takenUp_succ] at hT7
        refine wpAny_execs_nil ?_
        refine FreeEnd.intro (nx := (ta, W.listOf tv7.toArray tn7) :: (c, oc) :: (((D, lst ys) :: nw) ++ rest)) F7 (fun x hx => N7 x ?_) (fun x hx y hy => ?_) ⟨tv7, tn7, D, ys, ys.length, (D, lst ys) :: nw, rfl, hT7, hTx, .head _, ?_, ?_, ?_, fun z z1 z2 z3 z4 z5 z6 => ?_⟩
        · rcases List.mem_cons.mp hx with rfl | hx
          · exact .tail _ (.tail _ (.tail _ (.head _)))
          rcases List.mem_cons.mp hx with rfl | hx
          · exact .head _
          rcases List.mem_cons.mp hx with rfl | hx
          · exact .tail _ (.head _)
          rcases List.mem_cons.mp hx with rfl | hx
          · exact .tail _ (.tail _ (.head _))
          · exact .tail _ (.tail _ (.tail _ (.tail _ hx)))
        · rw [List.mem_singleton.mp hy]
          rcases List.mem_cons.mp hx with rfl | hx
          · exact hIt.symm
          rcases List.mem_cons.mp hx with rfl | hx
          · exact hIc.symm
          rcases List.mem_cons.mp hx with rfl | hx
          · exact hDI
          · exact hnI x (.tail _ (.tail _ hx))
        · exact (hm7 _ (by decide) (by decide) (by decide) (by decide)).trans rfl
        · intro x hx
          rcases List.mem_cons.mp hx with rfl | hx
          · exact hDt
          · exact hrt' x hx
        · intro x hx
          rcases List.mem_cons.mp hx with rfl | hx
          · exact hDc
          · exact hrc' x hx
        · exact (hm7 z z3 z4 z5 z6).trans ((if_neg z2).trans ((if_neg z1).trans ((congrFun hkm1 z).trans (hm2 z z1 z2 z3 z4 z5 z6))))
  · rintro m₁ nx h tk hJ F₁ N₁
    exact hret m₁ nx h _ hJ F₁ N₁
end
end
section
section
open PySem PySem.W PySem.Calls PyProof.Rows PySem.Spec
/-- the texts, sorted -/
noncomputable def sortT (l : List (List Nat)) : List (List Nat) := l.mergeSort fun a b => !decide (b < a)
theorem le_tr (a b c : List Nat) (h1 : (!decide (b < a)) = true) (h2 : (!decide (c < b)) = true) : (!decide (c < a)) = true := by
  simp only [Bool.not_eq_true', decide_eq_false_iff_not, List.not_lt] at h1 h2 ⊢
  exact List.le_trans h1 h2
theorem le_tot (a b : List Nat) : ((!decide (b < a)) || (!decide (a < b))) = true := by
  simp only [Bool.or_eq_true, Bool.not_eq_true', decide_eq_false_iff_not, List.not_lt]
  exact List.le_total a b
theorem le_anti (a b : List Nat) (h1 : (!decide (b < a)) = true) (h2 : (!decide (a < b)) = true) : a = b := by
  simp only [Bool.not_eq_true', decide_eq_false_iff_not, List.not_lt] at h1 h2
  exact List.le_antisymm h1 h2
theorem sort_one {l l' : List (List Nat)} (hp : l.Perm l') (h : l.Pairwise fun a b => (!decide (b < a)) = true) : l = sortT l' :=
  List.Perm.eq_of_pairwise (fun a b _ _ => le_anti a b) h (List.pairwise_mergeSort le_tr le_tot l') (hp.trans (List.mergeSort_perm l' _).symm)
theorem texts_strs {vs : List Value} {ts : List (List Nat)} (h : Texts vs ts) : StrsAre vs (ts.map fun t => (⟨t.toArray⟩ : Str)) := by
  induction h with
  | nil => exact .nil
  | cons r _ ih => obtain ⟨t, rfl⟩ := r; exact .cons _ t ih
theorem strs_texts {vs : List Value} {ss : List Str} (h : StrsAre vs ss) : Texts vs (ss.map fun x => x.cps.toList) := by
  induction h with
  | nil => exact .nil
  | cons x t _ ih => exact .cons ⟨t, rfl⟩ ih
theorem rising_all : ∀ (p : Str) (l : List Str), risingS p l = true → ∀ x ∈ l, (!decide (x.cps.toList < p.cps.toList)) = true
  | p, [], _, x, hx => nomatch hx
  | p, y :: r, h, x, hx => by
    have h : (!ltCps y.cps.toList p.cps.toList && risingS y r) = true := h
    rw [Bool.and_eq_true, ltCps_eq] at h
    rcases List.mem_cons.mp hx with rfl | hx
    · exact h.1
    · exact le_tr _ _ _ h.1 (rising_all y r h.2 x hx)
theorem rising_pair : ∀ (p : Str) (l : List Str), risingS p l = true → ((p :: l).map fun x => x.cps.toList).Pairwise fun a b => (!decide (b < a)) = true
  | p, [], _ => by simp
  | p, y :: r, h => by
    have h' : (!ltCps y.cps.toList p.cps.toList && risingS y r) = true := h
    rw [Bool.and_eq_true] at h'
    rw [List.map_cons, List.pairwise_cons]
    refine ⟨fun x hx => ?_, rising_pair y r h'.2⟩
    obtain ⟨z, hz, rfl⟩ := List.mem_map.mp hx
    exact rising_all p (y :: r) h z hz
theorem sorted_pair : ∀ (l : List Str), sortedS l = true → (l.map fun x => x.cps.toList).Pairwise fun a b => (!decide (b < a)) = true
  | [], _ => by simp
  | p :: r, h => rising_pair p r h
theorem sortT_of {ss : List Str} {ts : List (List Nat)} (hp : ss.Perm (ts.map fun t => (⟨t.toArray⟩ : Str))) (h : sortedS ss = true) : (ss.map fun x => x.cps.toList) = sortT ts := by
  refine sort_one ?_ (sorted_pair ss h)
  have := hp.map fun x : Str => x.cps.toList
  rw [List.map_map] at this
  have e : ts.map ((fun x : Str => x.cps.toList) ∘ fun t => (⟨t.toArray⟩ : Str)) = ts := by
    rw [show ((fun x : Str => x.cps.toList) ∘ fun t : List Nat => (⟨t.toArray⟩ : Str)) = id from rfl, List.map_id]
  rwa [e] at this
end
end
section
set_option maxHeartbeats 8000000
section
open PySem PySem.W PySem.Calls PyProof.Rows PySem.Spec LCg
variable (w : World) (mean : ExcName → Option Value) (mg mb : Str → Option Value)
local macro_rules
  | `(tactic| walk_at "exec For Name Call cons nil") => `(tactic| walk_at "own 0")
  | `(tactic| walk_at "execs nil") => `(tactic| walk_at "own 2")
  | `(tactic| walk_at "eval ListComp") => `(tactic| walk_at "own 2")
local macro_rules | `(tactic| walk_at "CompSrc") => `(tactic| (refine hold ?_))
section
variable {prog : Program} {w : World} {A : Around} {s : Shared} {h₀ : Heap} {L : Addr} {m : Str → Option Value} {env : Env} {elt : PySem.Expr} {x : Str} {scope : Scope} {cl : List (Str × Addr)} {S : List (Addr × Obj) → Prop} {Fin : List Value → List (Addr × Obj) → Prop} {news : List (Addr × Obj)}
theorem ints_at {vs : List Value} {ns : List Int} (h : IntsAre vs ns) : ∀ {i : Nat} {v : Value}, vs[i]? = some v → ∃ n t, ns[i]? = some n ∧ v = .int n t := by
  induction h with
  | nil => intro i v e; cases e
  | cons a t _ ih =>
    intro i v e
    cases i with
    | zero => cases e; exact ⟨_, _, rfl, rfl⟩
    | succ i => exact ih e
theorem rest_ints {vs : List Value} {ns : List Int} {f : Int → Int} (hv : IntsAre vs ns) (hS : S news)
    (hel : ∀ C oC m₂ h tk n t (Q E' : Value → Shared → Prop), NsObj oC m₂ → m₂ x = some (.int n t) → Fr h₀ L h m → News h₀ L h ((C, oC) :: news) → (∀ t' tk', Q (.int (f n) t') { s with heap := h, toks := tk' }) → wpAny (model prog w) A (eval elt (compEnvC scope cl C env)) Q E' { s with heap := h, toks := tk })
    (done : ∀ ys, IntsAre ys (ns.map f) → Fin ys news) : ∀ k i ys, i + k = vs.length → IntsAre ys ((ns.take i).map f) → CompRest prog w A h₀ L m env elt x scope cl s S (fun i v => vs.toArray[i]? = some v) Fin k i ys news
  | 0, i, ys, hi, hy => by
    refine CompRest.zero (done ys ?_)
    have : ns.take i = ns := List.take_of_length_le (by rw [← hv.length]; omega)
    rwa [this] at hy
  | k + 1, i, ys, hi, hy => by
    refine CompRest.succ ?_
    intro v I oI C oC D m₂ h tk E' hP hC hx F N off ne
    have hP' : vs[i]? = some v := by simpa using hP
    obtain ⟨n, t, hn, rfl⟩ := ints_at hv hP'
    refine hel C oC m₂ h tk n t _ _ hC hx F (fun q hq => N q ?_) fun t' tk' => ?_
    · rcases List.mem_cons.mp hq with rfl | hq
      · exact .tail _ (.head _)
      · exact .tail _ (.tail _ (.tail _ hq))
    · refine CompEnd.intro F N news (fun p hp => hp) off hS (rest_ints hv hS hel done k (i + 1) _ (by omega) ?_)
      rw [List.take_add_one, hn, List.map_append]
      exact hy.append (.cons _ _ .nil)
end
local macro_rules
  | `(tactic| walk_at "pyIter ref") => `(tactic| walk_at "own 2")
  | `(tactic| walk_at "call builtin:sorted") => `(tactic| walk_at "own 2")
  | `(tactic| walk_at "call builtin:list.extend") => `(tactic| walk_at "own 2")
local macro_rules | `(tactic| walk_at "subscriptTail") => `(tactic| (k_here; (with_reducible show wpAny _ _ (subscriptTail _ _ (Value.ref _) (Value.int _ _)) _ _ _); refine hold ?_))
/-- what is due of the first lengths -/
noncomputable def dueOf (figs : List Int) (i : Nat) : List (List Nat) := (List.range i).flatMap fun j => sortT (cellOf (rowsOf figs 4) j 0)
theorem dueOf_succ (figs : List Int) (i : Nat) : dueOf figs (i + 1) = dueOf figs i ++ sortT (cellOf (rowsOf figs 4) i 0) := by
  unfold dueOf
  rw [List.range_succ, List.flatMap_append]; simp
theorem sortT_len (l : List (List Nat)) : (sortT l).length = l.length := (List.mergeSort_perm l _).length_eq
theorem bnd_le (i : Nat) : bnd i ≤ 32 := by
  unfold bnd
  split <;> decide
theorem dueOf_len (figs : List Int) : ∀ i, (dueOf figs i).length ≤ 32 * i
  | 0 => by simp [dueOf]
  | i + 1 => by
    rw [dueOf_succ, List.length_append, sortT_len]
    have h1 := dueOf_len figs i
    have h2 := (cells_ok figs 4 (by decide) i 0).1
    have h3 := bnd_le i
    omega
noncomputable def JD (da : Addr) (base : List (Addr × Obj)) (figs : List Int) (m : Str → Option Value) (i : Nat) (m' : Str → Option Value) (nx : List (Addr × Obj)) : Prop :=
  ∃ dv dn nw, nx = (da, W.listOf dv.toArray dn) :: (nw ++ base) ∧ Texts dv (dueOf figs i) ∧ (∀ x ∈ nw ++ base, x.1 ≠ da) ∧ (∀ z, z ≠ Str.ofString "row" → m' z = m z)
theorem sorted_two {prog : Program} {w : World} {A : Around} {E : Value → Shared → Prop} {s : Shared} {h₀ : Heap} {L : Addr} {m : Str → Option Value} {news : List (Addr × Obj)} {b : Addr} {cv : List Value} {cn : Nat} {ts : List (List Nat)} {Q : Value → Shared → Prop} (F : Fr h₀ L s.heap m) (N : News h₀ L s.heap news) (hb : (b, W.listOf cv.toArray cn) ∈ news) (hT : Texts cv ts) (h64 : cv.length < 64)
    (h : ∀ S zv en h', (∀ x ∈ news, x.1 < S) → Texts zv (sortT ts) → Fr h₀ L h' m → News h₀ L h' ((S, W.listOf zv.toArray en) :: news) → Q (.ref S) { s with heap := h' }) : wpAny (model prog w) A (call (.builtin "sorted") [.ref b]) Q E s := by
  refine sorted_N_str F N (News.isList N hb) (texts_strs hT) h64 ?_
  intro h6 zv ss en F6 N6 hss hpe hso
  refine h _ zv en h6 (fun x hx => Nat.lt_succ_of_lt (Heap.lt_size (N x hx).1)) ?_ F6 N6
  rw [← sortT_of hpe hso]
  exact strs_texts hss
theorem cut_due (da : Addr) (dn : Nat) (rest : List (Addr × Obj)) (na : Addr) (nv : List Value) (nn : Nat) (nums : List Int) :
    CutLS w mean mg mb (lSt 9) 40 800 (fun c h₀ L m news s Q => news = (da, W.listOf #[] dn) :: (na, W.listOf nv.toArray nn) :: rest ∧ (∀ x ∈ rest, x.1 ≠ da) ∧ (na : Nat) ≠ da ∧ IntsAre nv nums ∧ nums.length = 6 ∧
      m (Str.ofString "numbers") = some (.ref na) ∧ m (Str.ofString "due") = some (.ref da) ∧
      ∀ m' nx h' tk', JD da ((na, W.listOf nv.toArray nn) :: rest) (nums.map (Int.fmod · 32)) m 5 m' nx → Fr h₀ L h' m' → News h₀ L h' nx → Q .next { s with heap := h', toks := tk' }) := by
  unfold CutLS; k_fill; w_top off
  intro _ dp un gd outer A₀ base h₀ L c fa cd m s Q E news B F X N T hb hd hu hE hR
  obtain ⟨rfl, hrt, hnd, hnv, hnl, e1, e2, hret⟩ := hR
  conv in (lSt 9) => whnf
  generalize hsc : lSc = sc at *
  conv at hsc => lhs; whnf
  subst hsc
  dsimp only [lEnv, lCl] at *
  have hkm : known [(Str.ofString "numbers", some (.ref na)), (Str.ofString "due", some (.ref da))] m = m := known_same (by simp [e1, e2])
  have F₂ := hkm.symm ▸ F
  clear F
  k_steps
  unfold Hold
  rename Fr _ _ _ _ => F3
  refine LCg.ListComp_U (F₀ := F3) (by with_unfolding_all rfl) (by decide) (by rfl) (by decide) (by rfl) ?_
  k_steps
  unfold Hold
  have hnl2 : nv.length = 6 := by rw [hnv.length]; exact hnl
  refine CompSrc.ledger (its := nv.toArray) (k := nn) rfl F3 N (.tail _ (.head _)) (by rw [sizeLine_eq, List.size_toArray]; omega) (fun g => rest_ints (vs := nv) (ns := nums) (f := fun n => Int.fmod n 32) hnv (.inr ⟨_, .tail _ (.head _), rfl, _, rfl⟩) ?_ ?_ _ 0 [] (by simp) .nil)
  · intro C oC m₂ h5 tk5 n5 t5 Q5 E5 hC5 hx5 F5 N5 hq5
    k_steps
    exact hq5 _ _
  · intro ys hys
    intro D h5 tk5 F5 N5 o5
    k_steps
    have hfb : ∀ f ∈ nums.map (Int.fmod · 32), 0 ≤ f ∧ f < 32 := by
      intro f hf
      obtain ⟨n, _, rfl⟩ := List.mem_map.mp hf
      exact ⟨Int.fmod_nonneg_of_pos _ (by decide), Int.fmod_lt_of_pos _ (by decide)⟩
    (try dsimp only [List.nil_append, List.append_nil, List.cons_append]); (k_dflt refine' cut_words w mean mg mb D ys ys.length (nums.map (Int.fmod · 32)) _ trivial _ _ _ _ _ _ _ _ _ _ _ _ _ _ _ _ _ _ ?k1 ?k2 ?k3 ?k4 ?k5 ?k6 ?k7 ?k8 ?k9 ?_); (case k1 => k_asm); (case k2 => k_asm); (case k3 => k_asm); (case k4 => k_asm); (case k5 => k_asm); (case k6 => first | exact rfl | assumption); (case k7 => assumption); (case k8 => first | exact room _ (by with_reducible assumption) rfl | exact room2 _ (by with_reducible assumption) rfl | ktr_room); (case k9 => first | exact room _ (by with_reducible assumption) rfl | exact room2 _ (by with_reducible assumption) rfl | ktr_units)
    refine ⟨.head _, hys, by rw [List.length_map]; exact hnl, hfb, ?_⟩
    intro t vsT n nw h9 tk9 a1 a2 a3 hT F9 N9
    generalize hfg : nums.map (Int.fmod · 32) = figs at *
    have hnd2 : (na : Nat) ≠ da := hnd
    have hok := tab_ok figs 4 (by decide)
    have hvl : vsT.length = 5 := by rw [hT.length, rows_len3]
    have hDd : (D : Nat) ≠ da := fun e => o5.1 e.symm
    k_steps
    unfold Hold
    refine turns_list (vs := vsT) (k := n) (fun pre => JD da ((t, W.listOf vsT.toArray n) :: (nw ++ ((D, lst ys) :: (na, W.listOf nv.toArray nn) :: rest))) figs m pre.length) rfl (hkm ▸ F9) (fun x hx => N9 x ?_) ⟨[], dn, [], rfl, .nil, ?_, fun _ _ => rfl⟩ ?_ ?_ ?_
    · rcases List.mem_cons.mp hx with rfl | hx
      · exact .tail _ (List.mem_append_right _ (.tail _ (.head _)))
      rcases List.mem_cons.mp hx with rfl | hx
      · exact .head _
      refine .tail _ ?_
      rcases List.mem_append.mp hx with hx | hx
      · exact List.mem_append_left _ hx
      refine List.mem_append_right _ ?_
      rcases List.mem_cons.mp hx with rfl | hx
      · exact .head _
      · exact .tail _ (.tail _ hx)
    · intro x hx
      rcases List.mem_cons.mp hx with rfl | hx
      · exact (a2 (da, W.listOf #[] dn) (.tail _ (.head _))).symm
      rcases List.mem_append.mp hx with hx | hx
      · exact a3 x hx (da, W.listOf #[] dn) (.tail _ (.head _))
      rcases List.mem_cons.mp hx with rfl | hx
      · exact hDd
      rcases List.mem_cons.mp hx with rfl | hx
      · exact hnd2
      · exact hrt x hx
    · rintro pre m' nx ⟨dv, dn', nw', rfl, _⟩
      exact .tail _ (List.mem_append_right _ (.head _))
    · rintro I pre v post m₁ nx h tk it he hnI ⟨dv, dn', nw', rfl, hT', hap, hm2⟩ F₁ N₁
      clear F9 N9
      have g2 : m₁ (Str.ofString "due") = some (.ref da) := (hm2 _ (by decide)).trans e2
      have hkm1 : known [(Str.ofString "due", some (.ref da))] m₁ = m₁ := known_same (by simp [g2])
      have F₂ := hkm1.symm ▸ F₁
      clear F₁
      have hpl : pre.length < 5 := by
        have := congrArg List.length he
        rw [hvl, List.length_append, List.length_cons] at this; omega
      have hv : vsT[pre.length]? = some v := by rw [he]; simp
      obtain ⟨r, vsR, nR, b, cv, cn, x1, x2, x3, x4, x5⟩ := cell_get hT hok (i := pre.length) (p := 0) (by rw [rows_len3]; exact hpl) (by decide)
      rw [hv] at x1
      cases x1
      have hcl := (cells_ok figs 4 (by decide) pre.length 0).1
      have hb32 := bnd_le pre.length
      have hcv : cv.length ≤ 32 := by rw [x5.length]; omega
      have up : ∀ x, x ∈ nw → x ∈ (I, it) :: (da, W.listOf dv.toArray dn') :: (nw' ++ ((t, W.listOf vsT.toArray n) :: (nw ++ ((D, lst ys) :: (na, W.listOf nv.toArray nn) :: rest)))) := fun x hx => .tail _ (.tail _ (List.mem_append_right _ (.tail _ (List.mem_append_left _ hx))))
      have hIa : (I : Nat) ≠ da := (hnI (da, W.listOf dv.toArray dn') (.head _)).symm
      k_steps
      unfold Hold
      rename News _ _ _ _ => N4
      rename Fr _ _ _ _ => F4
      refine item_at N4 (up _ x2) (by decide) (by decide) x3 ?_
      k_steps
      unfold Hold
      rename News _ _ _ _ => N5
      rename Fr _ _ _ _ => F5
      refine sorted_two F5 N5 (up _ x4) x5 (by omega) ?_
      intro S zv en h6 hS hzv F6 N6
      k_steps
      unfold Hold
      have hdl : dv.length ≤ 160 := by
        rw [hT'.length]
        have := dueOf_len figs pre.length
        omega
      have hzl : zv.length ≤ 32 := by rw [hzv.length, sortT_len]; omega
      refine extend_two (vs := dv) (ws := zv) (rst := (S, W.listOf zv.toArray en) :: (I, it) :: (nw' ++ ((t, W.listOf vsT.toArray n) :: (nw ++ ((D, lst ys) :: (na, W.listOf nv.toArray nn) :: rest))))) F6 N6 (.tail _ (.tail _ (.head _))) (.head _) (Nat.ne_of_gt (hS (da, W.listOf dv.toArray dn') (.tail _ (.head _)))) ?_ ?_ (by rw [sizeLine_eq]; omega) ?_
      · intro x hx
        rcases List.mem_cons.mp hx with rfl | hx
        · exact .head _
        rcases List.mem_cons.mp hx with rfl | hx
        · exact .tail _ (.head _)
        · exact .tail _ (.tail _ (.tail _ hx))
      · intro x hx
        rcases List.mem_cons.mp hx with rfl | hx
        · exact Nat.ne_of_gt (hS (da, W.listOf dv.toArray dn') (.tail _ (.head _)))
        rcases List.mem_cons.mp hx with rfl | hx
        · exact hIa
        · exact hap x hx
      · intro h7 n7 F7 N7
        refine wpAny_execs_nil ?_
        have hpl2 : (pre ++ [Value.ref r]).length = pre.length + 1 := by rw [List.length_append, List.length_singleton]
        rw [hpl2]
        refine FreeEnd.intro (nx := (da, W.listOf (dv ++ zv).toArray n7) :: (((S, W.listOf zv.toArray en) :: nw') ++ ((t, W.listOf vsT.toArray n) :: (nw ++ ((D, lst ys) :: (na, W.listOf nv.toArray nn) :: rest))))) F7 (fun x hx => N7 x ?_) (fun x hx y hy => ?_) ⟨dv ++ zv, n7, (S, W.listOf zv.toArray en) :: nw', rfl, ?_, ?_, fun z z1 => ?_⟩
        · rcases List.mem_cons.mp hx with rfl | hx
          · exact .tail _ (.tail _ (.head _))
          rcases List.mem_cons.mp hx with rfl | hx
          · exact .head _
          rcases List.mem_cons.mp hx with rfl | hx
          · exact .tail _ (.head _)
          · exact .tail _ (.tail _ (.tail _ hx))
        · rw [List.mem_singleton.mp hy]
          rcases List.mem_cons.mp hx with rfl | hx
          · exact hIa.symm
          rcases List.mem_cons.mp hx with rfl | hx
          · exact Nat.ne_of_gt (hS (I, it) (.head _))
          · exact hnI x (.tail _ hx)
        · rw [dueOf_succ]; exact hT'.append hzv
        · intro x hx
          rcases List.mem_cons.mp hx with rfl | hx
          · exact Nat.ne_of_gt (hS (da, W.listOf dv.toArray dn') (.tail _ (.head _)))
          · exact hap x hx
        · exact (if_neg z1).trans ((congrFun hkm1 z).trans (hm2 z z1))
    · rintro m₁ nx h tk ⟨dv, dn', nw', rfl, hT', hap, hm2⟩ F₁ N₁
      rw [hvl] at hT'
      refine hret m₁ _ h _ ⟨dv, dn', nw' ++ ((t, W.listOf vsT.toArray n) :: (nw ++ [(D, lst ys)])), ?_, hT', ?_, hm2⟩ F₁ N₁
      · simp
      · intro x hx
        refine hap x ?_
        simp only [List.append_assoc, List.cons_append, List.nil_append] at hx
        exact hx
end
end
section
set_option maxHeartbeats 1000000
section
open PySem PySem.W PySem.Calls PyProof.Rows PySem.Spec LCg PyProof.V
/-- two lists of the same texts -/
theorem strs_canLay : ∀ us : List (List Nat), (∀ u ∈ us, abOk u) → PyData.canLayAll0 (us.map fun u => PyData.str ⟨u.toArray⟩) = true
  | [], _ => rfl
  | u :: r, h => by
    have h1 := h u (.head _)
    have e : PyData.strOk ⟨u.toArray⟩ = true := by
      unfold PyData.strOk
      simp only [List.all_toArray, List.all_eq_true, decide_eq_true_eq]
      intro c hc
      rcases h1 c hc with rfl | rfl <;> decide
    simp [PyData.canLayAll0, PyData.canLay0, strs_canLay r fun x hx => h x (.tail _ hx), e]
theorem strs_depth : ∀ us : List (List Nat), PyData.depthAll (us.map fun u => PyData.str ⟨u.toArray⟩) = 0
  | [] => rfl
  | _ :: r => by simp [PyData.depthAll, PyData.depth, strs_depth r]
theorem strs_shaped (us : List (List Nat)) (h : ∀ u ∈ us, abOk u) : SeqAt.shaped (.list (us.map fun u => PyData.str ⟨u.toArray⟩)) = true := by
  simp [SeqAt.shaped, PyData.canLay0, PyData.depth, strs_canLay us h, strs_depth]
theorem strs_self : ∀ us : List (List Nat), PyData.eqvAll (us.map fun u => PyData.str ⟨u.toArray⟩) (us.map fun u => PyData.str ⟨u.toArray⟩) = true
  | [] => by simp [PyData.eqvAll]
  | a :: r => by simp only [List.map_cons, PyData.eqvAll, PyData.eqv, strs_self r]; simp
theorem texts_carried {vs : List Value} {us : List (List Nat)} (h : Texts vs us) : CarriedAll vs (us.map fun u => PyData.str ⟨u.toArray⟩) := by
  induction h with
  | nil => exact .nil
  | cons r _ ih => obtain ⟨t, rfl⟩ := r; exact .cons (.str _ t) ih
section
variable {prog : Program} {w : World} {A : Around} {E : Value → Shared → Prop} {s : Shared} {h₀ : Heap} {L a b : Addr} {vs ws : List Value} {n k : Nat} {us : List (List Nat)} {news : List (Addr × Obj)} {Q : Value → Shared → Prop}
theorem eq_texts (N : News h₀ L s.heap news) (ha : (a, W.listOf vs.toArray n) ∈ news) (hb : (b, W.listOf ws.toArray k) ∈ news) (hi : Texts vs us) (hj : Texts ws us) (hab : ∀ u ∈ us, abOk u) (hu : A.units + 64 < cLine) (h : Q (.bool true) s) :
    wpAny (model prog w) A (compareOp .Eq (.ref a) (.ref b)) Q E s := by
  refine eq_dataH (reads_newData (News.isList N ha) (texts_carried hi)) (reads_newData (News.isList N hb) (texts_carried hj)) (strs_shaped _ hab) (strs_shaped _ hab) hu ?_
  have e : PyData.eqv (.list (us.map fun u => PyData.str ⟨u.toArray⟩)) (.list (us.map fun u => PyData.str ⟨u.toArray⟩)) = true := by
    simp only [PyData.eqv]; exact strs_self us
  rw [e]; exact h
theorem ne_texts (N : News h₀ L s.heap news) (ha : (a, W.listOf vs.toArray n) ∈ news) (hb : (b, W.listOf ws.toArray k) ∈ news) (hi : Texts vs us) (hj : Texts ws us) (hab : ∀ u ∈ us, abOk u) (hu : A.units + 64 < cLine) (h : Q (.bool false) s) :
    wpAny (model prog w) A (compareOp .NotEq (.ref a) (.ref b)) Q E s := by
  refine ne_dataH (reads_newData (News.isList N ha) (texts_carried hi)) (reads_newData (News.isList N hb) (texts_carried hj)) (strs_shaped _ hab) (strs_shaped _ hab) hu ?_
  have e : PyData.eqv (.list (us.map fun u => PyData.str ⟨u.toArray⟩)) (.list (us.map fun u => PyData.str ⟨u.toArray⟩)) = true := by
    simp only [PyData.eqv]; exact strs_self us
  rw [e]; exact h
end
theorem starts_pre {u v : List Nat} (h : Txt.startswith ⟨v.toArray⟩ ⟨u.toArray⟩ = true) : u <+: v := by
  unfold Txt.startswith at h
  rw [Bool.and_eq_true, StrLaws.subAt_eq, beq_iff_eq] at h
  have h2 := h.2
  simp only [List.drop_zero, List.toList_toArray] at h2
  rw [← h2]
  exact List.take_prefix ..
variable (w : World) (mean : ExcName → Option Value) (mg mb : Str → Option Value)
local macro_rules
  | `(tactic| walk_at "eval ListComp") => `(tactic| walk_at "own 2")
  | `(tactic| walk_at "compareOp Eq ref ref") => `(tactic| walk_at "own 2")
  | `(tactic| walk_at "compareOp NotEq ref ref") => `(tactic| walk_at "own 2")
  | `(tactic| walk_at "call builtin:str.startswith") => `(tactic| walk_at "own 2")
theorem cut_end (rest : List (Addr × Obj)) (ta : Addr) (tv : List Value) (tn : Nat) (us : List (List Nat)) (oc : Obj) (da : Addr) (dv : List Value) (dn : Nat) :
    CutL w mean mg mb [lSt 10, lSt 11] 16 400 (fun c h₀ L m news s Q => news = (c, oc) :: (ta, W.listOf tv.toArray tn) :: (da, W.listOf dv.toArray dn) :: rest ∧ oc.data = .cell (some (.ref ta)) ∧ Texts tv us ∧ us.length ≤ 100 ∧ (∀ u ∈ us, abOk u ∧ u.length ≤ 4) ∧ (∀ u ∈ us, ∀ v ∈ us, u <+: v → u = v) ∧
      Texts dv us ∧ m (Str.ofString "due") = some (.ref da) ∧ ∀ h' tk', Fr h₀ L h' m → Q (.ret (.bool true)) { s with heap := h', toks := tk' }) := by
  unfold CutL; k_fill; w_top off
  intro _ dp un gd outer A₀ base h₀ L c fa cd m s Q E news B F X N T hb hd hu hE hR
  obtain ⟨rfl, dc, htv, hl1, hl4, hfree, hdv, e1, hret⟩ := hR
  conv in (lSt 10) => whnf
  conv in (lSt 11) => whnf
  generalize hsc : lSc = sc at *
  conv at hsc => lhs; whnf
  subst hsc
  dsimp only [lEnv, lCl] at *
  have hkm : known [(Str.ofString "due", some (.ref da))] m = m := known_same (by simp [e1])
  have F₂ := hkm.symm ▸ F
  clear F
  k_steps
  unfold Hold
  rename Fr _ _ _ _ => F3
  refine comp2_eval (by k_asm) (by with_unfolding_all rfl) (by decide) (by rfl) (by decide) (by rfl) ?_
  k_steps
  have hkn : (us.flatMap fun t => pick (fun _ => false) (fun _ => t) us) = [] := by
    rw [List.flatMap_eq_nil_iff]
    intro t _
    unfold pick
    simp
  refine ⟨ta, tv, tn, us, fun t => pick (fun _ => false) (fun _ => t) us, _, 0, rfl, rfl, F3, N, .tail _ (.head _), htv, ?_, ?_, ?_⟩
  · rw [hkn]; exact Nat.le_refl _
  · intro I' C D g' tk' off hIC hID hCD
    refine brings_list (b := ta) (vs₂ := tv) (k := tn) (us₂ := us) (p := fun _ _ => false) (g := fun u _ => u) rfl (by rfl) (by rfl) (by decide) (.tail _ (.head _)) htv off hIC hID hCD (by rw [sizeLine_eq]; omega) ?_ ?_ ?_
    · intro h5 tk5 oC mC v0 t0 Q0 E0 ht0 hr0 hC0 hx0 F5 N5 hq0
      k_steps
      exact hq0 _
    · intro v0 t0 ht0 hr0 h5 tk5 oC mC v6 t6 Q0 E0 ht6 hC6 hy6 hx6 hr6 F5 N5 hq0
      obtain ⟨tk0, rfl⟩ := hr0
      obtain ⟨tk6, rfl⟩ := hr6
      have l0 := (hl4 t0 ht0).2
      have l6 := (hl4 t6 ht6).2
      have l0' : Str.length ⟨t0.toArray⟩ ≤ 4 := by simp only [Str.length, List.size_toArray]; omega
      have l6' : Str.length ⟨t6.toArray⟩ ≤ 4 := by simp only [Str.length, List.size_toArray]; omega
      have hf := hfree t0 ht0 t6 ht6
      refine wpAny_tests_one ?_
      k_steps
      · unfold Hold
        have hno : Txt.startswith ⟨t6.toArray⟩ ⟨t0.toArray⟩ = false := by
          cases e : Txt.startswith ⟨t6.toArray⟩ ⟨t0.toArray⟩ with
          | false => rfl
          | true =>
            have := hf (starts_pre e)
            subst this
            simp_all
        refine SC.startswith ?_
        rw [hno]
        k_steps

        exact hq0 _
      · exact hq0 _
    · intro v0 t0 ht0 hr0 h5 tk5 oC mC v6 t6 Q0 E0 ht6 hp6
      cases hp6
  · intro D ys h5 tk5 hlt hTx F5 N5
    rw [hkn] at hTx
    cases hTx
    k_steps
    unfold Hold
    rename News _ _ _ _ => N9
    refine ne_texts (vs := []) (ws := []) (us := []) N9 (.tail _ (.head _)) (.head _) .nil .nil (fun _ h => nomatch h) (by ke_room) ?_
    k_steps
    unfold Hold
    rename News _ _ _ _ => N9
    rename Fr _ _ _ _ => F9
    refine eq_texts (vs := tv) (ws := dv) (us := us) N9 (by (repeat (first | with_reducible assumption | exact List.Mem.head _ | refine List.mem_cons_of_mem _ ?_))) (by (repeat (first | with_reducible assumption | exact List.Mem.head _ | refine List.mem_cons_of_mem _ ?_))) htv hdv (fun u hu => (hl4 u hu).1) (by ke_room) ?_
    exact hret _ _ (hkm ▸ F9)
end
end
section
set_option maxHeartbeats 8000000
section
local macro_rules | `(tactic| walk_at "idle") => `(tactic| skip)
open PySem PySem.W PySem.Calls PyProof.Rows PySem.Spec LCg PyProof.V
variable (w : World) (mean : ExcName → Option Value) (mg mb : Str → Option Value)
local macro_rules | `(tactic| k_all) => `(tactic| assumption)
local macro_rules | `(tactic| walk_at "execs nil") => `(tactic| walk_at "own 2")
theorem news_mid {h₀ h : Heap} {L : Addr} {a b c d : Addr × Obj} {rest : List (Addr × Obj)} (N : News h₀ L h (a :: b :: c :: d :: rest)) : News h₀ L h (a :: d :: b :: c :: rest) := fun x hx => N x (by
  rcases List.mem_cons.mp hx with rfl | hx
  · exact .head _
  rcases List.mem_cons.mp hx with rfl | hx
  · exact .tail _ (.tail _ (.tail _ (.head _)))
  rcases List.mem_cons.mp hx with rfl | hx
  · exact .tail _ (.head _)
  rcases List.mem_cons.mp hx with rfl | hx
  · exact .tail _ (.tail _ (.head _))
  · exact .tail _ (.tail _ (.tail _ (.tail _ hx))))
/-- the rules are read, and the lists begun -/
theorem cut_mid (oc : Obj) (rest : List (Addr × Obj)) (cs : List Nat) (tt : Tok) :
    CutL w mean mg mb [lSt 4, lSt 5, lSt 6] 16 320 (fun c h₀ L m news s Q => news = (c, oc) :: rest ∧ oc.data = .cell none ∧ (∀ x ∈ rest, x.1 ≠ c) ∧ cs.all signOk = true ∧ cs.length ≤ 54 ∧ m (Str.ofString "text") = some (.str ⟨cs.toArray⟩ tt) ∧
      ∀ d o kvs wa wv ta oc' h' tk', (∀ p ∈ (c, oc) :: rest, p.1 < d) → d < wa → wa < ta → (d == sysModules) = false → o.IsDictOf (PySem.strKind pw w) kvs → FlatPairs PyData.str kvs (rulesOf cs).1 → Texts wv [[]] → oc'.data = .cell (some (.ref ta)) →
        Fr h₀ L h' (fun y => if y = Str.ofString "words" then some (.ref wa) else if y = Str.ofString "rules" then some (.ref d) else m y) → News h₀ L h' ((ta, W.listOf (([] : List Value)).toArray 0) :: (c, oc') :: (wa, W.listOf wv.toArray 0) :: (d, o) :: rest) → Q .next { s with heap := h', toks := tk' }) := by
  unfold CutL; k_fill; w_top off
  intro _ dp un gd outer A₀ base h₀ L c fa cd m s Q E news B F X N T hb hd hu hE hR
  obtain ⟨rfl, dc, hrc, hca, hcl, e1, hret⟩ := hR
  conv in (lSt 4) => whnf
  conv in (lSt 5) => whnf
  conv in (lSt 6) => whnf
  generalize hsc : lSc = sc at *
  conv at hsc => lhs; whnf
  subst hsc
  dsimp only [lEnv, lCl] at *
  have hkm : known [(Str.ofString "text", some (.str ⟨cs.toArray⟩ tt))] m = m := known_same (by simp [e1])
  have F₂ := hkm.symm ▸ F
  clear F
  have hx1 : (⟨cs.toArray⟩ : PySem.Str).cps.toList.all signOk = true := hca
  have hx2 : (⟨cs.toArray⟩ : PySem.Str).cps.size < 4096 := by
    show cs.toArray.size < 4096
    rw [List.size_toArray]; omega
  k_steps
  (try dsimp only [List.nil_append, List.append_nil, List.cons_append]); (k_dflt refine' cut_rules w mean mg mb _ _ hx1 hx2 trivial _ _ _ _ _ _ _ _ _ _ _ _ _ _ _ _ _ _ ?k1 ?k2 ?k3 ?k4 ?k5 ?k6 ?k7 ?k8 ?k9 ?_); (case k1 => k_asm); (case k2 => k_asm); (case k3 => k_asm); (case k4 => k_asm); (case k5 => k_asm); (case k6 => first | exact rfl | assumption); (case k7 => assumption); (case k8 => first | exact room _ (by with_reducible assumption) rfl | exact room2 _ (by with_reducible assumption) rfl | ktr_room); (case k9 => first | exact room _ (by with_reducible assumption) rfl | exact room2 _ (by with_reducible assumption) rfl | ktr_units)
  intro d o kvs h5 tk5 l5 hsy hdo hfp F5 N5
  have l5a := l5
  k_lt l5
  k_steps
  unfold Hold
  refine wpAny_execs_nil ?_
  rename Fr _ _ _ _ => F9
  rename News _ _ _ _ => N9
  rename _ < _ ∧ _ < _ ∧ _ < _ ∧ AllLt _ rest => lt
  rename d < _ ∧ _ < _ ∧ AllLt _ rest => lw
  rename Obj.data _ = Data.cell (some _) => dc9
  rw [hkm] at F9
  refine hret d o kvs _ [_] _ _ _ _ l5a lw.1 lt.1 hsy hdo hfp ?tx dc9 F9 (news_mid N9)
  exact .cons ⟨_, rfl⟩ .nil
/-- a new list, ahead of the due -/
theorem cut_new (news₀ : List (Addr × Obj)) :
    CutL w mean mg mb [lSt 8] 16 320 (fun c h₀ L m news s Q => news = news₀ ∧ ∀ da h' tk', (∀ p ∈ news₀, p.1 < da) → Fr h₀ L h' (fun y => if y = Str.ofString "due" then some (.ref da) else m y) → News h₀ L h' ((da, W.listOf (([] : List Value)).toArray 0) :: news₀) → Q .next { s with heap := h', toks := tk' }) := by
  unfold CutL; k_fill; w_top off
  intro _ dp un gd outer A₀ base h₀ L c fa cd m s Q E news B F X N T hb hd hu hE hR
  obtain ⟨rfl, hret⟩ := hR
  conv in (lSt 8) => whnf
  generalize hsc : lSc = sc at *
  conv at hsc => lhs; whnf
  subst hsc
  dsimp only [lEnv, lCl] at *
  k_steps
  unfold Hold
  refine wpAny_execs_nil ?_
  rename Fr _ _ _ _ => F9
  rename News _ _ _ _ => N9
  exact hret _ _ _ (by assumption) F9 N9
end
end
section
section
/-- the pile's run from a pile -/
noncomputable def runS (tab : List Nat → Option (List Nat)) (st : Option (List Nat)) (ls : List Nat) : Option (List Nat) := ls.foldl (fun st l => st.bind (tstep tab l)) st
theorem runS_none (tab : List Nat → Option (List Nat)) : ∀ ls : List Nat, runS tab none ls = none
  | [] => rfl
  | _ :: ls => runS_none tab ls
theorem runS_cons (tab : List Nat → Option (List Nat)) (a : List Nat) (l : Nat) (ls : List Nat) : runS tab (some a) (l :: ls) = runS tab (tstep tab l a) ls := rfl
theorem runS_append (tab : List Nat → Option (List Nat)) (st : Option (List Nat)) (u v : List Nat) : runS tab st (u ++ v) = runS tab (runS tab st u) v := List.foldl_append
theorem tstep_app (tab : List Nat → Option (List Nat)) (l t : Nat) (a b : List Nat) : tstep tab l (t :: a ++ b) = (tstep tab l (t :: a)).map (· ++ b) := by
  unfold tstep
  simp only [List.cons_append]
  split
  · split <;> simp
  split
  · rfl
  · cases tab [t, l] <;> simp
theorem runS_nil (tab : List Nat → Option (List Nat)) {ls : List Nat} : runS tab (some []) ls = some [] ↔ ls = [] := by
  cases ls with
  | nil => exact ⟨fun _ => rfl, fun _ => rfl⟩
  | cons l ls => rw [runS_cons]; show runS tab none ls = some [] ↔ _; rw [runS_none]; simp
/-- a pile in two parts is read in two parts -/
theorem runS_split (tab : List Nat → Option (List Nat)) : ∀ (ls a b : List Nat), runS tab (some (a ++ b)) ls = some [] ↔ ∃ u v, ls = u ++ v ∧ runS tab (some a) u = some [] ∧ runS tab (some b) v = some [] := by
  intro ls
  induction ls with
  | nil =>
    intro a b
    constructor
    · intro h
      have h : some (a ++ b) = some [] := h
      have h := Option.some.inj h
      have h1 := List.append_eq_nil_iff.mp h
      exact ⟨[], [], rfl, by rw [h1.1]; rfl, by rw [h1.2]; rfl⟩
    · rintro ⟨u, v, h, h1, h2⟩
      have h3 := List.append_eq_nil_iff.mp h.symm
      rw [h3.1] at h1
      rw [h3.2] at h2
      have h1 : some a = some [] := h1
      have h2 : some b = some [] := h2
      rw [Option.some.inj h1, Option.some.inj h2]; rfl
  | cons l ls ih =>
    intro a b
    cases a with
    | nil =>
      constructor
      · intro h; exact ⟨[], l :: ls, rfl, rfl, h⟩
      · rintro ⟨u, v, h, h1, h2⟩
        have := (runS_nil tab).mp h1
        subst this
        rw [h]; exact h2
    | cons t a =>
      rw [runS_cons, tstep_app]
      cases hs : tstep tab l (t :: a) with
      | none =>
        rw [Option.map_none, runS_none]
        constructor
        · intro h; cases h
        · rintro ⟨u, v, h, h1, h2⟩
          cases u with
          | nil => cases h1
          | cons c u =>
            cases h
            rw [runS_cons, hs, runS_none] at h1; cases h1
      | some x =>
        rw [Option.map_some, ih]
        constructor
        · rintro ⟨u, v, rfl, h1, h2⟩
          exact ⟨l :: u, v, rfl, by rw [runS_cons, hs]; exact h1, h2⟩
        · rintro ⟨u, v, h, h1, h2⟩
          cases u with
          | nil => cases h1
          | cons c u =>
            cases h
            rw [runS_cons, hs] at h1
            exact ⟨u, v, rfl, h1, h2⟩
/-- what the pile takes is no beginning of anything else that it takes -/
theorem runS_prefix {tab : List Nat → Option (List Nat)} {st : Option (List Nat)} {u v : List Nat} (h1 : runS tab st u = some []) (h2 : runS tab st (u ++ v) = some []) : v = [] := by
  rw [runS_append, h1] at h2
  exact (runS_nil tab).mp h2
/-- the rules, by figures -/
noncomputable def TabFor (figs : List Int) (tab : List Nat → Option (List Nat)) : Prop := ∀ p, p < 3 → ∀ k, k < 2 → tab [sym p, sym (3 + k)] = if figAt figs (2 * p + k) = 0 then none else some ((partsOf (figAt figs (2 * p + k))).map symI)
/-- what a part leads to -/
noncomputable def accP (tab : List Nat → Option (List Nat)) (p : Nat) (wd : List Nat) : Prop := runS tab (some [sym p]) (wd.map letSym) = some []
theorem map_split {f : Nat → Nat} {P : List Nat → List Nat → Prop} (wd : List Nat) : (∃ u v, wd.map f = u ++ v ∧ P u v) ↔ ∃ u v, wd = u ++ v ∧ P (u.map f) (v.map f) := by
  constructor
  · rintro ⟨u, v, h, hp⟩
    obtain ⟨u', v', rfl, rfl, rfl⟩ := List.map_eq_append_iff.mp h
    exact ⟨u', v', rfl, hp⟩
  · rintro ⟨u, v, rfl, hp⟩
    exact ⟨_, _, List.map_append, hp⟩
theorem sym_big {p : Nat} (h : p < 3) : ¬ sym p < 256 ∧ ¬ sym p - 1 < 256 := by
  have : p = 0 ∨ p = 1 ∨ p = 2 := by omega
  rcases this with rfl | rfl | rfl <;> decide
theorem accP_nil (tab : List Nat → Option (List Nat)) (p : Nat) : ¬ accP tab p [] := by
  unfold accP
  intro h
  have h : some [sym p] = some [] := h
  cases h
/-- a name's words: the first letter, and what the rule leads to -/
theorem accP_name {figs : List Int} {tab : List Nat → Option (List Nat)} (hT : TabFor figs tab) {p k : Nat} (hp : p < 3) (hk : k < 2) (wd : List Nat) :
    accP tab p ((97 + k) :: wd) ↔ figAt figs (2 * p + k) ≠ 0 ∧ runS tab (some ((partsOf (figAt figs (2 * p + k))).map symI)) (wd.map letSym) = some [] := by
  unfold accP
  have hl : letSym (97 + k) = sym (3 + k) := by unfold letSym; congr 1; omega
  rw [List.map_cons, runS_cons, hl]
  obtain ⟨b1, b2⟩ := sym_big hp
  have e : tstep tab (sym (3 + k)) [sym p] = if figAt figs (2 * p + k) = 0 then none else some ((partsOf (figAt figs (2 * p + k))).map symI) := by
    show (if sym p < 256 then (if sym p = sym (3 + k) then some [] else none) else if sym p - 1 < 256 then none else (tab [sym p, sym (3 + k)]).map (· ++ [])) = _
    rw [if_neg b1, if_neg b2, hT p hp k hk]
    split <;> simp
  rw [e]
  split
  · rw [runS_none]; simp_all
  · simp_all
theorem accP_letter (tab : List Nat → Option (List Nat)) {k c : Nat} (hk : k < 2) (hc : c = 97 ∨ c = 98) (wd : List Nat) : accP tab (3 + k) (c :: wd) ↔ c = 97 + k ∧ wd = [] := by
  unfold accP
  rw [List.map_cons, runS_cons]
  have e : tstep tab (letSym c) [sym (3 + k)] = if c = 97 + k then some [] else none := by
    have hk' : k = 0 ∨ k = 1 := by omega
    rcases hk' with rfl | rfl <;> rcases hc with rfl | rfl <;> rfl
  rw [e]
  split
  · rw [runS_nil]; simp_all
  · rw [runS_none]; simp_all
theorem cell_lev (figs : List Int) {j p : Nat} : ∀ {i}, j ≤ i → cellOf (rowsOf figs i) j p = cellOf (rowsOf figs j) j p := by
  intro i
  induction i with
  | zero => intro h; have : j = 0 := by omega
            subst this; rfl
  | succ i ih =>
    intro h
    rcases Nat.lt_or_eq_of_le h with h | h
    · rw [rowsOf, cell_old (by rw [rows_len3]; exact h)]; exact ih (by omega)
    · subst h; rfl
theorem cell_zero (figs : List Int) : ∀ p, cellOf (rowsOf figs 0) 0 p = []
  | 0 => rfl
  | 1 => rfl
  | 2 => rfl
  | 3 => rfl
  | 4 => rfl
  | p + 5 => rfl
theorem cell_succ (figs : List Int) (j p : Nat) : cellOf (rowsOf figs (j + 1)) (j + 1) p = if p < 3 then byName (rowsOf figs j) (j + 1) figs p else if p = 3 then (if j + 1 = 1 then [[97]] else []) else if p = 4 then (if j + 1 = 1 then [[98]] else []) else [] := by
  rw [rowsOf, cell_new (by rw [rows_len3]), row_at]
theorem parts_shape {x : Int} (h0 : 0 ≤ x) (h1 : x < 32) : partsOf x = [] ∨ (∃ p : Nat, p < 5 ∧ partsOf x = [(p : Int)]) ∨ ∃ p q : Nat, p < 5 ∧ q < 5 ∧ partsOf x = [(p : Int), (q : Int)] := by
  unfold partsOf
  split
  · exact .inl rfl
  split
  · exact .inr (.inl ⟨(x - 2).toNat, by omega, by rw [Int.toNat_of_nonneg (by omega)]⟩)
  · have a1 := Int.fdiv_eq_ediv_of_nonneg (x - 7) (b := 5) (by omega)
    have a2 := Int.fmod_eq_emod_of_nonneg (x - 7) (b := 5) (by omega)
    rw [a1, a2]
    exact .inr (.inr ⟨((x - 7) / 5).toNat, ((x - 7) % 5).toNat, by omega, by omega, by rw [Int.toNat_of_nonneg (by omega), Int.toNat_of_nonneg (by omega)]⟩)
/-- the words of a part: what the table has, is what the pile takes -/
noncomputable def Tells (figs : List Int) (tab : List Nat → Option (List Nat)) (j : Nat) : Prop := ∀ p, p < 5 → ∀ wd : List Nat, wd ∈ cellOf (rowsOf figs j) j p ↔ wd.length = j ∧ abOk wd ∧ accP tab p wd
theorem abOk_cons {c : Nat} {wd : List Nat} : abOk (c :: wd) ↔ (c = 97 ∨ c = 98) ∧ abOk wd := by
  unfold abOk; simp
theorem abOk_app {u v : List Nat} : abOk (u ++ v) ↔ abOk u ∧ abOk v := by
  unfold abOk
  constructor
  · intro h
    exact ⟨fun c hc => h c (List.mem_append_left _ hc), fun c hc => h c (List.mem_append_right _ hc)⟩
  · rintro ⟨h1, h2⟩ c hc
    rcases List.mem_append.mp hc with hc | hc
    · exact h1 c hc
    · exact h2 c hc
theorem rest_tells {figs : List Int} {tab : List Nat → Option (List Nat)} {j : Nat} (ih : ∀ i, i ≤ j → Tells figs tab i) {x : Int} (h0 : 0 ≤ x) (h1 : x < 32) (wd : List Nat) :
    wd ∈ restOf (rowsOf figs j) (j + 1) (partsOf x) ↔ wd.length = j ∧ abOk wd ∧ runS tab (some ((partsOf x).map symI)) (wd.map letSym) = some [] := by
  have hc : ∀ i, i ≤ j → ∀ p, p < 5 → ∀ u : List Nat, u ∈ cellOf (rowsOf figs j) i p ↔ u.length = i ∧ abOk u ∧ accP tab p u := by
    intro i hi p hp u
    rw [cell_lev figs hi]; exact ih i hi p hp u
  rcases parts_shape h0 h1 with e | ⟨p, hp, e⟩ | ⟨p, q, hp, hq, e⟩
  · rw [e]
    show wd ∈ (if j + 1 = 1 then [[]] else []) ↔ _
    rw [List.map_nil, runS_nil]
    constructor
    · intro h
      split at h
      · rw [List.mem_singleton.mp h]
        refine ⟨by simp; omega, (fun c hc => nomatch hc), rfl⟩
      · cases h
    · rintro ⟨g1, g2, g3⟩
      have : wd = [] := List.map_eq_nil_iff.mp g3
      subst this
      rw [if_pos (by simp at g1; omega)]
      exact .head _
  · rw [e]
    show wd ∈ cellOf (rowsOf figs j) (j + 1 - 1) ((p : Int)).toNat ↔ _
    rw [Nat.add_sub_cancel, Int.toNat_natCast, hc j (Nat.le_refl _) p hp]
    rfl
  · rw [e]
    show wd ∈ (List.range (j + 1)).flatMap (pairsOf (rowsOf figs j) (j + 1) ((p : Int)).toNat ((q : Int)).toNat) ↔ _
    rw [Int.toNat_natCast, Int.toNat_natCast]
    have es : ([(p : Int), (q : Int)].map symI) = [sym p] ++ [sym q] := rfl
    rw [es, runS_split, map_split]
    constructor
    · intro h
      obtain ⟨i, hi, h⟩ := List.mem_flatMap.mp h
      unfold pairsOf at h
      obtain ⟨u, hu, h⟩ := List.mem_flatMap.mp h
      obtain ⟨v, hv, rfl⟩ := List.mem_map.mp h
      have hi := List.mem_range.mp hi
      obtain ⟨a1, a2, a3⟩ := (hc i (by omega) p hp u).mp hu
      obtain ⟨b1, b2, b3⟩ := (hc (j + 1 - 1 - i) (by omega) q hq v).mp hv
      exact ⟨by rw [List.length_append]; omega, abOk_app.mpr ⟨a2, b2⟩, u, v, rfl, a3, b3⟩
    · rintro ⟨g1, g2, u, v, rfl, g3, g4⟩
      rw [List.length_append] at g1
      obtain ⟨g2, g5⟩ := abOk_app.mp g2
      refine List.mem_flatMap.mpr ⟨u.length, List.mem_range.mpr (by omega), ?_⟩
      unfold pairsOf
      refine List.mem_flatMap.mpr ⟨u, (hc u.length (by omega) p hp u).mpr ⟨rfl, g2, g3⟩, ?_⟩
      exact List.mem_map.mpr ⟨v, (hc _ (by omega) q hq v).mpr ⟨by omega, g5, g4⟩, rfl⟩
noncomputable def FigsOk (figs : List Int) : Prop := ∀ i, 0 ≤ figAt figs i ∧ figAt figs i < 32
theorem by_two (rows : List (List (List (List Nat)))) (len : Nat) (figs : List Int) (nm : Nat) : byName rows len figs nm = wordsBy rows len figs nm 0 ++ wordsBy rows len figs nm 1 := by unfold byName; simp [List.range_succ]
theorem by_tells {figs : List Int} {tab : List Nat → Option (List Nat)} (hT : TabFor figs tab) (hF : FigsOk figs) {j : Nat} (ih : ∀ i, i ≤ j → Tells figs tab i) {p k : Nat} (hp : p < 3) (hk : k < 2) (wd : List Nat) :
    wd ∈ wordsBy (rowsOf figs j) (j + 1) figs p k ↔ ∃ t, wd = (97 + k) :: t ∧ t.length = j ∧ abOk t ∧ accP tab p wd := by
  obtain ⟨f0, f1⟩ := hF (2 * p + k)
  unfold wordsBy
  constructor
  · intro h
    split at h
    · cases h
    · obtain ⟨t, ht, rfl⟩ := List.mem_map.mp h
      obtain ⟨a1, a2, a3⟩ := (rest_tells ih f0 f1 t).mp ht
      exact ⟨t, rfl, a1, a2, (accP_name hT hp hk t).mpr ⟨by assumption, a3⟩⟩
  · rintro ⟨t, rfl, a1, a2, a3⟩
    obtain ⟨b1, b2⟩ := (accP_name hT hp hk t).mp a3
    rw [if_neg b1]
    exact List.mem_map.mpr ⟨t, (rest_tells ih f0 f1 t).mpr ⟨a1, a2, b2⟩, rfl⟩
theorem tells {figs : List Int} {tab : List Nat → Option (List Nat)} (hT : TabFor figs tab) (hF : FigsOk figs) : ∀ j, Tells figs tab j := by
  intro j
  induction j using Nat.strongRecOn with
  | ind j ih =>
    intro p hp wd
    cases j with
    | zero =>
      rw [cell_zero]
      constructor
      · intro h; cases h
      · rintro ⟨h1, _, h3⟩
        have : wd = [] := List.length_eq_zero_iff.mp h1
        subst this
        exact absurd h3 (accP_nil tab p)
    | succ j =>
      have ih' : ∀ i, i ≤ j → Tells figs tab i := fun i hi => ih i (by omega)
      rw [cell_succ]
      split
      · rename_i hp3
        rw [by_two, List.mem_append, by_tells hT hF ih' hp3 (by decide), by_tells hT hF ih' hp3 (by decide)]
        constructor
        · rintro (⟨t, rfl, a1, a2, a3⟩ | ⟨t, rfl, a1, a2, a3⟩)
          · exact ⟨by rw [List.length_cons, a1], abOk_cons.mpr ⟨.inl rfl, a2⟩, a3⟩
          · exact ⟨by rw [List.length_cons, a1], abOk_cons.mpr ⟨.inr rfl, a2⟩, a3⟩
        · rintro ⟨h1, h2, h3⟩
          cases wd with
          | nil => cases h1
          | cons c t =>
            obtain ⟨hc, h4⟩ := abOk_cons.mp h2
            rw [List.length_cons] at h1
            rcases hc with rfl | rfl
            · exact .inl ⟨t, rfl, by omega, h4, h3⟩
            · exact .inr ⟨t, rfl, by omega, h4, h3⟩
      · have main : ∀ k, k < 2 → p = 3 + k → (wd ∈ (if j + 1 = 1 then [[97 + k]] else ([] : List (List Nat))) ↔ wd.length = j + 1 ∧ abOk wd ∧ accP tab p wd) := by
          rintro k hk rfl
          constructor
          · intro h
            split at h
            · rw [List.mem_singleton.mp h]
              have hc : 97 + k = 97 ∨ 97 + k = 98 := by omega
              exact ⟨by simp; omega, abOk_cons.mpr ⟨hc, fun c hc => nomatch hc⟩, (accP_letter tab hk hc []).mpr ⟨rfl, rfl⟩⟩
            · cases h
          · rintro ⟨h1, h2, h3⟩
            cases wd with
            | nil => cases h1
            | cons c t =>
              obtain ⟨hc, h2⟩ := abOk_cons.mp h2
              obtain ⟨rfl, rfl⟩ := (accP_letter tab hk hc t).mp h3
              rw [List.length_singleton] at h1
              rw [if_pos h1.symm]
              exact .head _
        split
        · exact main 0 (by decide) (by omega)
        split
        · exact main 1 (by decide) (by omega)
        · omega
/-- each word stands once in the table -/
theorem nodup_flat {α β : Type} {f : α → List β} {l : List α} (h1 : ∀ a ∈ l, (f a).Nodup) (h2 : l.Pairwise fun a b => ∀ x ∈ f a, ∀ y ∈ f b, x ≠ y) : (l.flatMap f).Nodup := List.pairwise_flatMap.mpr ⟨h1, h2⟩
theorem nodup_map {α β : Type} {f : α → β} {l : List α} (h : l.Nodup) (hf : ∀ a b, f a = f b → a = b) : (l.map f).Nodup := List.pairwise_map.mpr (h.imp fun hab e => hab (hf _ _ e))
theorem pw_mem {α : Type} {R : α → α → Prop} {l : List α} (h : l.Pairwise (· ≠ ·)) (hR : ∀ a ∈ l, ∀ b ∈ l, a ≠ b → R a b) : l.Pairwise R := h.imp_of_mem fun ha hb hne => hR _ ha _ hb hne
theorem rest_nodup {figs : List Int} {tab : List Nat → Option (List Nat)} (hT : TabFor figs tab) (hF : FigsOk figs) {j : Nat} (ih : ∀ i, i ≤ j → ∀ p, p < 5 → (cellOf (rowsOf figs i) i p).Nodup) {x : Int} (h0 : 0 ≤ x) (h1 : x < 32) : (restOf (rowsOf figs j) (j + 1) (partsOf x)).Nodup := by
  have hc : ∀ i, i ≤ j → ∀ p, p < 5 → ∀ u : List Nat, u ∈ cellOf (rowsOf figs j) i p ↔ u.length = i ∧ abOk u ∧ accP tab p u := by
    intro i hi p hp u
    rw [cell_lev figs hi]; exact tells hT hF i p hp u
  have hn : ∀ i, i ≤ j → ∀ p, p < 5 → (cellOf (rowsOf figs j) i p).Nodup := by
    intro i hi p hp
    rw [cell_lev figs hi]; exact ih i hi p hp
  rcases parts_shape h0 h1 with e | ⟨p, hp, e⟩ | ⟨p, q, hp, hq, e⟩
  · rw [e]
    show (if j + 1 = 1 then [[]] else ([] : List (List Nat))).Nodup
    split
    · exact List.pairwise_singleton _ _
    · exact .nil
  · rw [e]
    show (cellOf (rowsOf figs j) (j + 1 - 1) ((p : Int)).toNat).Nodup
    rw [Nat.add_sub_cancel, Int.toNat_natCast]; exact hn j (Nat.le_refl _) p hp
  · rw [e]
    show ((List.range (j + 1)).flatMap (pairsOf (rowsOf figs j) (j + 1) ((p : Int)).toNat ((q : Int)).toNat)).Nodup
    rw [Int.toNat_natCast, Int.toNat_natCast]
    refine nodup_flat (fun i hi => ?_) ?_
    · have hi := List.mem_range.mp hi
      unfold pairsOf
      refine nodup_flat (fun u hu => ?_) ?_
      · exact nodup_map (hn _ (by omega) q hq) fun a b e => List.append_cancel_left e
      · refine pw_mem (hn i (by omega) p hp) fun a ha b hb hne x hx y hy e => ?_
        obtain ⟨v, _, rfl⟩ := List.mem_map.mp hx
        obtain ⟨v', _, rfl⟩ := List.mem_map.mp hy
        have l1 := ((hc i (by omega) p hp a).mp ha).1
        have l2 := ((hc i (by omega) p hp b).mp hb).1
        exact hne (List.append_inj e (l1.trans l2.symm)).1
    · refine pw_mem List.nodup_range fun i hi i' hi' hne x hx y hy e => ?_
      have hi := List.mem_range.mp hi
      have hi' := List.mem_range.mp hi'
      unfold pairsOf at hx hy
      obtain ⟨u, hu, hx⟩ := List.mem_flatMap.mp hx
      obtain ⟨v, hv, rfl⟩ := List.mem_map.mp hx
      obtain ⟨u', hu', hy⟩ := List.mem_flatMap.mp hy
      obtain ⟨v', hv', rfl⟩ := List.mem_map.mp hy
      obtain ⟨l1, _, a1⟩ := (hc i (by omega) p hp u).mp hu
      obtain ⟨l2, _, a2⟩ := (hc i' (by omega) p hp u').mp hu'
      unfold accP at a1 a2
      rcases List.append_eq_append_iff.mp e with ⟨c, rfl, _⟩ | ⟨c, rfl, _⟩
      · rw [List.map_append] at a2
        have := List.map_eq_nil_iff.mp (runS_prefix a1 a2)
        subst this
        simp at l2; omega
      · rw [List.map_append] at a1
        have := List.map_eq_nil_iff.mp (runS_prefix a2 a1)
        subst this
        simp at l1; omega
theorem cells_nodup {figs : List Int} {tab : List Nat → Option (List Nat)} (hT : TabFor figs tab) (hF : FigsOk figs) : ∀ j, ∀ p, p < 5 → (cellOf (rowsOf figs j) j p).Nodup := by
  intro j
  induction j using Nat.strongRecOn with
  | ind j ih =>
    intro p hp
    cases j with
    | zero => rw [cell_zero]; exact .nil
    | succ j =>
      have ih' : ∀ i, i ≤ j → ∀ p, p < 5 → (cellOf (rowsOf figs i) i p).Nodup := fun i hi => ih i (by omega)
      rw [cell_succ]
      split
      · rename_i hp3
        have one : ∀ k, (wordsBy (rowsOf figs j) (j + 1) figs p k).Nodup := by
          intro k
          unfold wordsBy
          split
          · exact .nil
          · exact nodup_map (rest_nodup hT hF ih' (hF _).1 (hF _).2) fun a b e => (List.cons.inj e).2
        rw [by_two]
        refine List.nodup_append.mpr ⟨one 0, one 1, fun a ha b hb e => ?_⟩
        obtain ⟨t, rfl, _⟩ := (by_tells hT hF (fun i _ => tells hT hF i) hp3 (by decide) a).mp ha
        obtain ⟨t', rfl, _⟩ := (by_tells hT hF (fun i _ => tells hT hF i) hp3 (by decide) b).mp hb
        have := (List.cons.inj e).1
        omega
      · have one : ∀ c, (if j + 1 = 1 then [[c]] else ([] : List (List Nat))).Nodup := by
          intro c
          split
          · exact List.pairwise_singleton _ _
          · exact .nil
        split
        · exact one 97
        split
        · exact one 98
        · exact .nil
/-- the words of one length stand in order, each once -/
theorem lex_app {u v : List Nat} {a b : Nat} (hl : u.length = v.length) (h : u < v) : u ++ [a] < v ++ [b] := by
  induction u generalizing v with
  | nil => cases v with
    | nil => exact absurd h (List.lt_irrefl _)
    | cons y v => simp at hl
  | cons x u ih =>
    cases v with
    | nil => simp at hl
    | cons y v =>
      rw [List.cons_append, List.cons_append, List.cons_lt_cons_iff]
      rcases List.cons_lt_cons_iff.mp h with h | ⟨rfl, h1⟩
      · exact .inl h
      · exact .inr ⟨rfl, ih (by simpa using hl) h1⟩
theorem lex_last (u : List Nat) {a b : Nat} (h : a < b) : u ++ [a] < u ++ [b] := by
  induction u with
  | nil => exact List.cons_lt_cons_iff.mpr (.inl h)
  | cons x u ih => exact List.cons_lt_cons_iff.mpr (.inr ⟨rfl, ih⟩)
theorem lexw_all : ∀ n (wd : List Nat), wd ∈ lexw n ↔ wd.length = n ∧ abOk wd
  | 0, wd => by
    constructor
    · intro h
      rw [List.mem_singleton.mp h]
      exact ⟨rfl, fun c hc => nomatch hc⟩
    · rintro ⟨h, _⟩
      rw [List.length_eq_zero_iff.mp h]; exact .head _
  | n + 1, wd => by
    rw [lexw]
    constructor
    · intro h
      obtain ⟨u, hu, h⟩ := List.mem_flatMap.mp h
      obtain ⟨a1, a2⟩ := (lexw_all n u).mp hu
      have : ∃ c, (c = 97 ∨ c = 98) ∧ wd = u ++ [c] := by
        rcases List.mem_cons.mp h with rfl | h
        · exact ⟨97, .inl rfl, rfl⟩
        · exact ⟨98, .inr rfl, List.mem_singleton.mp h⟩
      obtain ⟨c, hc, rfl⟩ := this
      exact ⟨by rw [List.length_append, a1]; rfl, abOk_app.mpr ⟨a2, abOk_cons.mpr ⟨hc, fun c hc => nomatch hc⟩⟩⟩
    · rintro ⟨h1, h2⟩
      have hne : wd ≠ [] := by intro e; rw [e] at h1; cases h1
      obtain ⟨u, c, rfl⟩ : ∃ u c, wd = u ++ [c] := ⟨wd.dropLast, wd.getLast hne, (List.dropLast_concat_getLast hne).symm⟩
      obtain ⟨a1, a2⟩ := abOk_app.mp h2
      have hc := (abOk_cons.mp a2).1
      refine List.mem_flatMap.mpr ⟨u, (lexw_all n u).mpr ⟨by simpa using h1, a1⟩, ?_⟩
      rcases hc with rfl | rfl
      · exact .head _
      · exact .tail _ (.head _)
theorem lexw_sorted : ∀ n, (lexw n).Pairwise (· < ·)
  | 0 => List.pairwise_singleton _ _
  | n + 1 => by
    rw [lexw]
    refine List.pairwise_flatMap.mpr ⟨fun u _ => ?_, ?_⟩
    · refine .cons (fun x hx => ?_) (List.pairwise_singleton _ _)
      rw [List.mem_singleton.mp hx]; exact lex_last u (by decide)
    · refine (lexw_sorted n).imp_of_mem fun ha hb hab x hx y hy => ?_
      have hl := ((lexw_all n _).mp ha).1.trans ((lexw_all n _).mp hb).1.symm
      have : ∀ {u z : List Nat}, z ∈ [u ++ [97], u ++ [98]] → ∃ c, z = u ++ [c] := by
        intro u z hz
        rcases List.mem_cons.mp hz with rfl | hz
        · exact ⟨_, rfl⟩
        · exact ⟨_, List.mem_singleton.mp hz⟩
      obtain ⟨c, rfl⟩ := this hx
      obtain ⟨d, rfl⟩ := this hy
      exact lex_app hl hab
theorem acc_iff {tab : List Nat → Option (List Nat)} {wd : List Nat} : accW tab wd = true ↔ accP tab 0 wd := by
  unfold accW accP
  rw [beq_iff_eq]; rfl
/-- two lists with the same members, each once: one is the other in another order -/
theorem perm_mem {l l' : List (List Nat)} (h1 : l.Nodup) (h2 : l'.Nodup) (h : ∀ a, a ∈ l ↔ a ∈ l') : l.Perm l' := (List.perm_ext_iff_of_nodup h1 h2).mpr h
theorem level {figs : List Int} {tab : List Nat → Option (List Nat)} (hT : TabFor figs tab) (hF : FigsOk figs) {j : Nat} (hj : j ≤ 4) : (lexw j).filter (accW tab) = sortT (cellOf (rowsOf figs 4) j 0) := by
  have hs : ((lexw j).filter (accW tab)).Pairwise (· < ·) := (lexw_sorted j).filter _
  refine sort_one (perm_mem (hs.imp fun h e => ?_) ?_ fun a => ?_) (hs.imp fun h => ?_)
  · rw [e] at h; exact List.lt_irrefl _ h
  · rw [cell_lev figs hj]; exact cells_nodup hT hF j 0 (by decide)
  · rw [cell_lev figs hj, tells hT hF j 0 (by decide), List.mem_filter, lexw_all, acc_iff, and_assoc]
  · simp only [Bool.not_eq_true', decide_eq_false_iff_not, List.not_lt]
    exact List.le_of_lt h
/-- what is taken is what is due -/
theorem taken_due {figs : List Int} {tab : List Nat → Option (List Nat)} (hT : TabFor figs tab) (hF : FigsOk figs) : takenUp tab 4 = dueOf figs 5 := by
  have h0 : sortT (cellOf (rowsOf figs 4) 0 0) = [] := by
    rw [cell_lev figs (by decide), cell_zero]; unfold sortT; simp
  have e1 : takenUp tab 4 = (lexw 1).filter (accW tab) ++ ((lexw 2).filter (accW tab) ++ ((lexw 3).filter (accW tab) ++ ((lexw 4).filter (accW tab) ++ []))) := rfl
  have e2 : dueOf figs 5 = sortT (cellOf (rowsOf figs 4) 0 0) ++ (sortT (cellOf (rowsOf figs 4) 1 0) ++ (sortT (cellOf (rowsOf figs 4) 2 0) ++ (sortT (cellOf (rowsOf figs 4) 3 0) ++ (sortT (cellOf (rowsOf figs 4) 4 0) ++ [])))) := rfl
  rw [e1, e2, h0, level hT hF (by decide), level hT hF (by decide), level hT hF (by decide), level hT hF (by decide)]; rfl
/-- no word that is taken begins another -/
theorem taken_free {tab : List Nat → Option (List Nat)} {i : Nat} {u v : List Nat} (hu : u ∈ takenUp tab i) (hv : v ∈ takenUp tab i) (h : u <+: v) : u = v := by
  have acc : ∀ {x}, x ∈ takenUp tab i → accP tab 0 x := by
    intro x hx
    obtain ⟨j, _, hx⟩ := List.mem_flatMap.mp hx
    exact acc_iff.mp (List.mem_filter.mp hx).2
  have h1 := acc hu
  have h2 := acc hv
  obtain ⟨c, rfl⟩ := h
  unfold accP at h1 h2
  rw [List.map_append] at h2
  have := List.map_eq_nil_iff.mp (runS_prefix h1 h2)
  rw [this, List.append_nil]
end
end
section
section
open PySem PySem.W PySem.Calls PyProof.Rows PySem.Spec PyProof.V
/-- the rules, looked up by name and letter -/
noncomputable def tabN (figs : List Int) : Nat → List Nat → Option (List Nat)
  | 0, _ => none
  | n + 1, k => if figAt figs n ≠ 0 ∧ k = [sym (n / 2), sym (3 + n % 2)] then some ((partsOf (figAt figs n)).map symI) else tabN figs n k
theorem look_rules (figs : List Int) (k : List Nat) : ∀ n, lookup (.str ⟨k.toArray⟩) (rulesTab figs n) = (tabN figs n k).map fun v => .str ⟨v.toArray⟩
  | 0 => rfl
  | n + 1 => by
    have ih := look_rules figs k n
    rw [rulesTab, ruleD, tabN]
    by_cases h0 : figAt figs n = 0
    · rw [if_pos h0, ih, if_neg (fun h => h.1 h0)]
    · rw [if_neg h0, lookup_putD_str]
      by_cases hk : k = [sym (n / 2), sym (3 + n % 2)]
      · rw [if_pos (by rw [hk]), if_pos ⟨h0, hk⟩]; rfl
      · rw [if_neg (fun e => hk (by simpa using e)), if_neg (fun h => hk h.2)]; exact ih
theorem tab_says {figs : List Int} {kvs : List (Str × Value)} (h : FlatPairs PyData.str kvs (rulesTab figs 6)) : TabSays kvs (tabN figs 6) := by
  intro k
  have hl := look_rules figs k 6
  cases e : tabN figs 6 k with
  | none =>
    rw [e] at hl
    exact h.none_of_lookup PyProof.V.same_str hl
  | some v =>
    rw [e] at hl
    obtain ⟨x, hx, hf⟩ := h.of_lookup PyProof.V.same_str hl
    obtain ⟨t, rfl⟩ := hf.str_inv
    exact ⟨t, hx⟩
theorem parts_two (x : Int) : (partsOf x).length ≤ 2 := by
  unfold partsOf
  split
  · simp
  split <;> simp
theorem tab_two (figs : List Int) : ∀ n k v, tabN figs n k = some v → v.length ≤ 2
  | 0, _, _, h => nomatch h
  | n + 1, k, v, h => by
    rw [tabN] at h
    split at h
    · cases h
      rw [List.length_map]; exact parts_two _
    · exact tab_two figs n k v h
theorem tab_at (figs : List Int) {j : Nat} (hj : j < 6) : ∀ n, n ≤ 6 → tabN figs n [sym (j / 2), sym (3 + j % 2)] = if j < n ∧ figAt figs j ≠ 0 then some ((partsOf (figAt figs j)).map symI) else none
  | 0, _ => by rw [if_neg (fun h => Nat.not_lt_zero _ h.1)]; rfl
  | n + 1, hn => by
    have key : ∀ i : Nat, i < 6 → ∀ j : Nat, j < 6 → ([sym (i / 2), sym (3 + i % 2)] = [sym (j / 2), sym (3 + j % 2)] → i = j) := by decide
    rw [tabN]
    by_cases e : j = n
    · subst e
      by_cases h0 : figAt figs j = 0
      · rw [if_neg (fun h => h.1 h0), tab_at figs hj j (Nat.le_of_succ_le hn), if_neg (fun h => Nat.lt_irrefl _ h.1), if_neg (fun h => h.2 h0)]
      · rw [if_pos ⟨h0, rfl⟩, if_pos ⟨Nat.lt_succ_self j, h0⟩]
    · rw [if_neg (fun h => e (key j hj n hn h.2)), tab_at figs hj n (Nat.le_of_succ_le hn)]
      by_cases h1 : j < n
      · by_cases h0 : figAt figs j = 0
        · rw [if_neg (fun h => h.2 h0), if_neg (fun h => h.2 h0)]
        · rw [if_pos ⟨h1, h0⟩, if_pos ⟨Nat.lt_succ_of_lt h1, h0⟩]
      · rw [if_neg (fun h => h1 h.1), if_neg (fun h => (Nat.lt_succ_iff_lt_or_eq.mp h.1).elim h1 e)]
theorem tab_for (figs : List Int) : TabFor figs (tabN figs 6) := by
  intro p hp k hk
  have h := tab_at figs (j := 2 * p + k) (by omega) 6 (Nat.le_refl _)
  rw [show (2 * p + k) / 2 = p by rw [Nat.mul_add_div (by decide), Nat.div_eq_of_lt hk, Nat.add_zero], show (2 * p + k) % 2 = k by rw [Nat.mul_add_mod, Nat.mod_eq_of_lt hk]] at h
  rw [h]
  by_cases h0 : figAt figs (2 * p + k) = 0
  · rw [if_pos h0, if_neg (fun h => h.2 h0)]
  · rw [if_neg h0, if_pos ⟨by omega, h0⟩]
theorem figs_ok (nums : List Int) : FigsOk (nums.map (Int.fmod · 32)) := by
  intro i
  unfold figAt
  rw [List.getD_eq_getElem?_getD, List.getElem?_map]
  cases nums[i]? with
  | none => decide
  | some n => exact ⟨Int.fmod_nonneg_of_pos _ (by decide), Int.fmod_lt_of_pos _ (by decide)⟩
theorem taken_ok (tab : List Nat → Option (List Nat)) : ∀ u ∈ takenUp tab 4, abOk u ∧ u.length ≤ 4 := by
  intro u hu
  unfold takenUp at hu
  obtain ⟨j, hj, hu⟩ := List.mem_flatMap.mp hu
  have h := (lexw_ok (j + 1)).1 u (List.mem_filter.mp hu).1
  have := List.mem_range.mp hj
  exact ⟨h.1, by omega⟩
end
end
section
set_option maxHeartbeats 8000000
section
open PySem PySem.W PySem.Calls PyProof.Rows PySem.Spec LCg PyProof.V
variable (w : World) (mean : ExcName → Option Value) (mg mb : Str → Option Value)
theorem execs_app (env : Env) (rest : List Stmt) : ∀ l : List Stmt, execs (l ++ rest) env = (execs l env >>= fun f => match f with | .next => execs rest env | f => pure f)
  | [] => rfl
  | st :: l => by
    rw [List.cons_append, execs_cons, execs_cons, execs_app env rest l]
    show Sem.bind _ _ = Sem.bind (Sem.bind _ _) _
    rw [Sem.bind_assoc]
    congr 1
    funext f
    cases f <;> rfl
theorem any_app {prog : Program} {w : World} {A : Around} {E : Value → Shared → Prop} {s : Shared} {env : Env} {l rest : List Stmt} {Q : Flow → Shared → Prop}
    (h : wpAny (model prog w) A (execs l env) (fun f s' => match f with | .next => wpAny (model prog w) A (execs rest env) Q E s' | f => Q f s') E s) : wpAny (model prog w) A (execs (l ++ rest) env) Q E s := by
  rw [execs_app]
  refine wpAny_bind (wpAny_mono h (fun f s' hf => ?_) fun _ _ e => e)
  cases f
  all_goals first | exact hf | exact wpAny_pure hf
/-- the law's body -/
noncomputable def lBody : List Stmt := [lSt 0, lSt 1, lSt 2] ++ (lSt 3 :: ([lSt 4, lSt 5, lSt 6] ++ (lSt 7 :: ([lSt 8] ++ (lSt 9 :: [lSt 10, lSt 11])))))
theorem cut_law (sa : Addr) (vs : List Value) (ns : List Int) (oc : Obj) :
    CutL w mean mg mb lBody 60 1000 (fun c h₀ L m news s Q => news = [(c, oc)] ∧ oc.data = .cell none ∧ h₀.IsList sa vs.toArray ∧ IntsAre vs ns ∧ ns.length ≤ 63 ∧ m (Str.ofString "script") = some (.ref sa) ∧
      ∀ h' tk' m', Fr h₀ L h' m' → Q (.ret (.bool true)) { s with heap := h', toks := tk' }) := by
  intro hF dp un gd outer A₀ base h₀ L c fa cd m s Q E news B F X N T hb hd hu hE hR
  obtain ⟨rfl, dc, hS, hI, hl63, hms, hret⟩ := hR
  unfold lBody
  refine any_app (cut_head w mean mg mb sa vs ns oc hF _ _ _ _ _ _ _ _ _ _ _ _ _ _ _ _ B F X N T hb (by first | exact room _ hd rfl | exact room2 _ hd rfl | omega) (by first | exact room _ hu rfl | exact room2 _ hu rfl | omega) hE ⟨rfl, dc, hS, hI, hl63, hms, ?_⟩)
  intro na nv sp sv nw t1 h1 tk1 hnv hsv hap1 F1 N1
  generalize hnum : numsOf ns = nums at hnv
  have hnl : nums.length = 6 := by rw [← hnum]; exact nums_len ns
  refine wpAny_execs_cons (cut_tloop w mean mg mb sp sv 0 na nv 0 nums t1 hF _ _ _ _ _ _ _ _ _ _ _ _ _ _ _ _ B F1 X N1 T hb (by first | exact room _ hd rfl | exact room2 _ hd rfl | omega) (by first | exact room _ hu rfl | exact room2 _ hu rfl | omega) hE ⟨.head _, hsv, .tail _ (.head _), hnv, hnl, ?_, ?_, ?_, ?_⟩)
  · rfl
  · rfl
  · rfl
  rintro m2 nx2 h2 tk2 ⟨cs, t2, nw2, rfl, hap2, hcl, hca, hcr, e2, hm2⟩ F2 N2
  generalize hfg : nums.map (Int.fmod · 32) = figs at hcr
  have hrest : ∀ x ∈ nw2 ++ ((sp, W.listOf sv.toArray 0) :: (na, W.listOf nv.toArray 0) :: nw), x.1 ≠ c := by
    intro x hx
    rcases List.mem_append.mp hx with hx | hx
    · exact hap2 x hx (c, oc) (.tail _ (.tail _ (List.mem_append_right _ (.head _))))
    · exact hap1 x hx
  generalize hr : nw2 ++ ((sp, W.listOf sv.toArray 0) :: (na, W.listOf nv.toArray 0) :: nw) = rest at hrest
  have hsp : (sp, W.listOf sv.toArray 0) ∈ rest := by rw [← hr]; exact List.mem_append_right _ (.head _)
  have hna : (na, W.listOf nv.toArray 0) ∈ rest := by rw [← hr]; exact List.mem_append_right _ (.tail _ (.head _))
  have N2' : News h₀ L h2 ((c, oc) :: rest) := fun x hx => N2 x (by
    rw [← hr] at hx
    simp only [List.mem_cons, List.mem_append, List.not_mem_nil, or_false] at hx ⊢
    grind)
  refine any_app (cut_mid w mean mg mb oc rest cs t2 hF _ _ _ _ _ _ _ _ _ _ _ _ _ _ _ _ B F2 X N2' T hb (by first | exact room _ hd rfl | exact room2 _ hd rfl | omega) (by first | exact room _ hu rfl | exact room2 _ hu rfl | omega) hE ⟨rfl, dc, hrest, hca, by omega, e2, ?_⟩)
  intro d o kvs wa wv ta oc' h3 tk3 l3 lw lt hsy hdo hfp hwv dc' F3 N3
  rw [hcr] at hfp
  have hdc := l3 (c, oc) (.head _)
  have hdr : ∀ x ∈ rest, x.1 < d := fun x hx => l3 x (.tail _ hx)
  have g2 : m2 (Str.ofString "spelled") = some (.ref sp) := (hm2 _ (by decide) (by decide) (by decide) (by decide) (by decide) (by decide)).trans rfl
  have g3 : m2 (Str.ofString "numbers") = some (.ref na) := (hm2 _ (by decide) (by decide) (by decide) (by decide) (by decide) (by decide)).trans rfl
  refine wpAny_execs_cons (cut_lloop w mean mg mb ta [] 0 oc' ((wa, W.listOf wv.toArray 0) :: (d, o) :: rest) wa wv 0 sp sv 0 na nv 0 nums d o kvs (tabN figs 6) hF _ _ _ _ _ _ _ _ _ _ _ _ _ _ _ _ B F3 X N3 T hb (by first | exact room _ hd rfl | exact room2 _ hd rfl | omega) (by first | exact room _ hu rfl | exact room2 _ hu rfl | omega) hE ⟨rfl, dc', ?_, ?_, ?_, .nil, .head _, hwv, .tail _ (.tail _ hsp), hsv, .tail _ (.tail _ hna), hnv, hnl, .tail _ (.head _), hdo, tab_says hfp, tab_two figs 6, hsy, rfl, ?_, ?_, rfl, ?_⟩)
  · intro x hx
    rcases List.mem_cons.mp hx with rfl | hx
    · exact Nat.ne_of_lt lt
    rcases List.mem_cons.mp hx with rfl | hx
    · exact Nat.ne_of_lt (Nat.lt_trans lw lt)
    · exact Nat.ne_of_lt (Nat.lt_trans (hdr x hx) (Nat.lt_trans lw lt))
  · exact Nat.ne_of_lt (Nat.lt_trans hdc (Nat.lt_trans lw lt))
  · intro x hx
    rcases List.mem_cons.mp hx with rfl | hx
    · exact Nat.ne_of_gt (Nat.lt_trans hdc lw)
    rcases List.mem_cons.mp hx with rfl | hx
    · exact Nat.ne_of_gt hdc
    · exact hrest x hx
  · exact g2
  · exact g3
  rintro m4 nx4 h4 tk4 ⟨tv, tn, wa', wv', wn', nw4, rfl, hTv, hWv, hwa', e4, hap4, hapc4, hm4⟩ F4 N4
  have hn4 : (na, W.listOf nv.toArray 0) ∈ (ta, W.listOf tv.toArray tn) :: (c, oc') :: (nw4 ++ ((wa, W.listOf wv.toArray 0) :: (d, o) :: rest)) := .tail _ (.tail _ (List.mem_append_right _ (.tail _ (.tail _ hna))))
  have g4 : m4 (Str.ofString "numbers") = some (.ref na) := (hm4 _ (by decide) (by decide) (by decide) (by decide) (by decide) (by decide)).trans g3
  generalize hn : (ta, W.listOf tv.toArray tn) :: (c, oc') :: (nw4 ++ ((wa, W.listOf wv.toArray 0) :: (d, o) :: rest)) = news4 at N4 hn4
  have hta : (ta, W.listOf tv.toArray tn) ∈ news4 := by rw [← hn]; exact .head _
  have hc4 : (c, oc') ∈ news4 := by rw [← hn]; exact .tail _ (.head _)
  refine any_app (cut_new w mean mg mb news4 hF _ _ _ _ _ _ _ _ _ _ _ _ _ _ _ _ B F4 X N4 T hb (by first | exact room _ hd rfl | exact room2 _ hd rfl | omega) (by first | exact room _ hu rfl | exact room2 _ hu rfl | omega) hE ⟨rfl, ?_⟩)
  intro da h5 tk5 l5 F5 N5
  refine wpAny_execs_cons (cut_due w mean mg mb da 0 news4 na nv 0 nums hF _ _ _ _ _ _ _ _ _ _ _ _ _ _ _ _ B F5 X (fun x hx => N5 x ?_) T hb (by first | exact room _ hd rfl | exact room2 _ hd rfl | omega) (by first | exact room _ hu rfl | exact room2 _ hu rfl | omega) hE ⟨rfl, fun x hx => Nat.ne_of_lt (l5 x hx), Nat.ne_of_lt (l5 _ hn4), hnv, hnl, g4, rfl, ?_⟩)
  · rcases List.mem_cons.mp hx with rfl | hx
    · exact .head _
    rcases List.mem_cons.mp hx with rfl | hx
    · exact .tail _ hn4
    · exact .tail _ hx
  rintro m6 nx6 h6 tk6 ⟨dv, dn, nw6, rfl, hDv, hap6, hm6⟩ F6 N6
  rw [hfg, ← taken_due (tab_for figs) (by rw [← hfg]; exact figs_ok nums)] at hDv
  have e6 : m6 (Str.ofString "due") = some (.ref da) := (hm6 _ (by decide)).trans rfl
  refine cut_end w mean mg mb [] ta tv tn (takenUp (tabN figs 6) 4) oc' da dv dn hF _ _ _ _ _ _ _ _ _ _ _ _ _ _ _ _ B F6 X (fun x hx => N6 x ?_) T hb (by first | exact room _ hd rfl | exact room2 _ hd rfl | omega) (by first | exact room _ hu rfl | exact room2 _ hu rfl | omega) hE ⟨rfl, dc', hTv, ?_, taken_ok _, fun u hu v hv => taken_free hu hv, hDv, e6, ?_⟩
  · rcases List.mem_cons.mp hx with rfl | hx
    · exact .tail _ (List.mem_append_right _ (.tail _ hc4))
    rcases List.mem_cons.mp hx with rfl | hx
    · exact .tail _ (List.mem_append_right _ (.tail _ hta))
    rcases List.mem_cons.mp hx with rfl | hx
    · exact .head _
    · cases hx
  · exact Nat.le_trans (takenUp_len (tabN figs 6) 4 (Nat.le_refl _)) (by decide)
  · intro h' tk' F9
    exact hret h' tk' _ F9
end
end
section
set_option maxHeartbeats 8000000
section
open PySem PySem.W PySem.Calls PyProof.Rows PySem.Spec LCg
local macro_rules | `(tactic| k_qdec) => `(tactic| decide +kernel)
theorem law_holds : PySem.Challenge.rw_wf0060_01.Holds := Mine.hd (by
  k_fill
  intro w s₀ s₁ mg mb G Y fa o pm cd doc dV kV ho hd hcd hD hmg hg args vals as hpre hlay hrd hwl hlo
  have KX := kIn_of Y.1
  k_behind G ho hd hcd hD hmg hpre hlay hrd hwl hlo cd
  rename Fr _ _ _ _ => F1
  rename News _ _ _ _ => N1
  rename Below _ _ _ _ => B1
  rename Top _ _ _ _ _ _ => T1
  rename Heap.IsList _ _ _ => hS
  rename IntsAre _ _ => hI
  rename ¬ _ < _ => hl63
  rename Obj.data _ = Data.cell _ => dc
  have h63 : (_ : List Int).length ≤ 63 := Nat.le_of_not_lt fun h => hl63 (Int.ofNat_lt.mpr h)
  refine cut_law w _ mg mb _ _ _ _ trivial _ _ _ _ _ _ _ _ _ _ _ _ _ _ _ _ B1 F1 KX N1 T1 Y.2 ?z1 ?z2 ?z3 ⟨rfl, ?z4, hS, hI, h63, ?z5, ?z6⟩
  case z1 => exact Nat.le_of_ble_eq_true rfl
  case z2 => exact Nat.le_of_ble_eq_true rfl
  case z3 => passes_own
  case z4 => exact dc
  case z5 => rfl
  case z6 =>
    intro h' tk' m' F9
    dsimp only
    wrow_close)

end
end
end Mine
open PySem PySem.W PyProof.Rows
set_option maxRecDepth 100000 in
set_option maxHeartbeats 8000000 in
theorem PySem.Challenge.cw_wf0060_01_holds : PySem.Challenge.rw_wf0060_01.Holds := by
  exact Mine.law_holds
