import PyProof.Rows.All
import Wide.All
import OpenK.AllK
import Wide.FinOn
import Lean
import PySem.Challenge.RW_dn0037_01
set_option Elab.async false
set_option genInjectivity false
set_option genSizeOfSpec false
set_option compiler.extract_closed false
section
set_option maxRecDepth 10000
namespace Mine
open PySem PySem.W PyProof.Rows

structure SI (prog : Program) (w : World) (c : Nat → Nat → Bool) (n : Nat) where
  A : Around
  I : Shared → Prop
  kd : SortKind
  it : Nat → Keyed
  lt : ∀ i j, i < n → j < n → ∀ s, I s → wpAny (model prog w) A (keyLt' kd (it i).1 (it j).1) (fun b s' => b = c i j ∧ I s') (fun _ _ => False) s

structure PSt where
  p : Array Nat
  pend : Array (Nat × Nat × Nat)
  mg : Nat

section
variable {prog : Program} {w : World} {c : Nat → Nat → Bool} {n : Nat}

def SI.st (X : SI prog w c n) (ps : PSt) : SortSt := SortSt.mk' X.kd (ps.p.map X.it) ps.pend ps.mg none

def Ex {β : Type} (m : SI prog w c n → StateT SortSt Sem β) (ps : PSt) (Φ : (SI prog w c n → β) → PSt → Prop) : Prop :=
  ∃ r ps', (∀ (X : SI prog w c n) (s : Shared), X.I s → wpAny (model prog w) X.A ((m X).run (X.st ps)) (fun q s' => q = (r X, X.st ps') ∧ X.I s') (fun _ _ => False) s) ∧ Φ r ps'

variable {β γ : Type} {ps : PSt}

theorem Ex_pure {a : SI prog w c n → β} {Φ : (SI prog w c n → β) → PSt → Prop} (h : Φ a ps) : Ex (fun X => pure (a X)) ps Φ :=
  ⟨a, ps, fun X s hs => by rw [StateT.run_pure]; exact wpAny_pure ⟨rfl, hs⟩, h⟩
theorem Ex_pure' {a r : SI prog w c n → β} {Φ : (SI prog w c n → β) → PSt → Prop} (e : ∀ X, a X = r X) (h : Φ r ps) : Ex (fun X => pure (a X)) ps Φ := by
  have : a = r := funext e
  subst this; exact Ex_pure h
theorem Ex_mono {m : SI prog w c n → StateT SortSt Sem β} {Φ Ψ : (SI prog w c n → β) → PSt → Prop} (h : Ex m ps Φ) (hq : ∀ r ps', Φ r ps' → Ψ r ps') : Ex m ps Ψ := by
  obtain ⟨r, ps', h1, h2⟩ := h
  exact ⟨r, ps', h1, hq _ _ h2⟩
theorem Ex_bind {a : SI prog w c n → StateT SortSt Sem β} {f : SI prog w c n → β → StateT SortSt Sem γ} {Φ : (SI prog w c n → γ) → PSt → Prop}
    (h : Ex a ps (fun r ps' => Ex (fun X => f X (r X)) ps' Φ)) : Ex (fun X => a X >>= f X) ps Φ := by
  obtain ⟨r, ps', h1, r2, ps2, h2, h3⟩ := h
  refine ⟨r2, ps2, fun X s hs => ?_, h3⟩
  rw [StateT.run_bind]
  refine wpAny_bind (wpAny_mono (h1 X s hs) ?_ fun _ _ e => e)
  rintro q s' ⟨rfl, hs'⟩
  exact h2 X s' hs'
theorem Ex_get {Φ : (SI prog w c n → SortSt) → PSt → Prop} (h : Φ (fun X => X.st ps) ps) : Ex (fun _ => get) ps Φ :=
  ⟨_, ps, fun X s hs => by rw [StateT.run_get]; exact wpAny_pure ⟨rfl, hs⟩, h⟩
theorem Ex_modify {f : SI prog w c n → SortSt → SortSt} {ps' : PSt} {Φ : (SI prog w c n → PUnit) → PSt → Prop} (e : ∀ X, f X (X.st ps) = X.st ps') (h : Φ (fun _ => ⟨⟩) ps') : Ex (fun X => modify (f X)) ps Φ :=
  ⟨_, ps', fun X s hs => by rw [StateT.run_modify, e X]; exact wpAny_pure ⟨rfl, hs⟩, h⟩
theorem Ex_set {f : SI prog w c n → SortSt} {ps' : PSt} {Φ : (SI prog w c n → PUnit) → PSt → Prop} (e : ∀ X, f X = X.st ps') (h : Φ (fun _ => ⟨⟩) ps') : Ex (fun X => set (f X)) ps Φ :=
  ⟨_, ps', fun X s hs => by rw [StateT.run_set, e X]; exact wpAny_pure ⟨rfl, hs⟩, h⟩
theorem Ex_rule {tag : String} {Φ : (SI prog w c n → Unit) → PSt → Prop} (h : Φ (fun _ => ()) ps) : Ex (fun _ => liftM (rule tag)) ps Φ :=
  ⟨_, ps, fun X s hs => by
    show wpAny _ _ ((StateT.lift (rule tag) : StateT SortSt Sem Unit).run _) _ _ _
    rw [StateT.run_lift]
    exact wpAny_bind (wpAny_rule (wpAny_pure ⟨rfl, hs⟩)), h⟩
theorem Ex_lt {i j : Nat} {Φ : (SI prog w c n → Option Bool) → PSt → Prop} (hi : i < n) (hj : j < n) (h : Φ (fun _ => some (c i j)) ps) : Ex (fun X => lt' (X.it i) (X.it j)) ps Φ :=
  ⟨_, ps, fun X s hs => by
    dsimp only
    rw [lt'_eq, StateT.run_bind, StateT.run_get]
    refine wpAny_bind (wpAny_pure ?_)
    rw [StateT.run_bind]
    show wpAny _ _ (((StateT.lift (keyLt' X.kd (X.it i).1 (X.it j).1).attempt : StateT SortSt Sem _).run _) >>= _) _ _ _
    rw [StateT.run_lift]
    refine wpAny_bind (wpAny_bind (wpAny_attempt (wpAny_mono (X.lt i j hi hj s hs) ?_ fun _ _ e => e.elim)))
    rintro b s' ⟨rfl, hs'⟩
    exact wpAny_pure (wpAny_pure ⟨rfl, hs'⟩), h⟩
theorem Ex_elem {q : Array Nat} {i : Nat} {Φ : (SI prog w c n → Keyed) → PSt → Prop} (hi : i < q.size) (h : Φ (fun X => X.it q[i]) ps) : Ex (fun X => elem' (q.map X.it) i) ps Φ :=
  ⟨_, ps, fun X s hs => by
    dsimp only
    rw [elem'_eq, show (q.map X.it)[i]? = some (X.it q[i]) by simp [hi]]
    show wpAny _ _ ((pure (X.it q[i]) : StateT SortSt Sem Keyed).run _) _ _ _
    rw [StateT.run_pure]; exact wpAny_pure ⟨rfl, hs⟩, h⟩
theorem Ex_ltAt {i j : Nat} {Φ : (SI prog w c n → Option Bool) → PSt → Prop} (hp : ∀ x ∈ ps.p, x < n) (hi : i < ps.p.size) (hj : j < ps.p.size) (h : Φ (fun _ => some (c ps.p[i] ps.p[j])) ps) :
    Ex (fun _ => ltAt' i j) ps Φ := by
  rw [ltAt'_eq]
  refine Ex_bind (Ex_get ?_)
  refine Ex_bind (Ex_elem hi ?_)
  refine Ex_bind (Ex_elem hj ?_)
  exact Ex_lt (hp _ (by simp)) (hp _ (by simp)) h

theorem Ex_forL {l : List Nat} {b : SI prog w c n → β} {f : SI prog w c n → Nat → β → StateT SortSt Sem (ForInStep β)} {Φ : (SI prog w c n → β) → PSt → Prop} (I : Nat → (SI prog w c n → β) → PSt → Prop)
    (step : ∀ k b ps, (hk : k < l.length) → I k b ps → Ex (fun X => f X l[k] (b X)) ps (fun r ps' => (∃ b', (∀ X, r X = .yield (b' X)) ∧ I (k + 1) b' ps') ∨ ∃ b', (∀ X, r X = .done (b' X)) ∧ Φ b' ps'))
    (fin : ∀ b ps, I l.length b ps → Φ b ps) (h0 : I 0 b ps) : Ex (fun X => forIn l (b X) (f X)) ps Φ := by
  induction l generalizing I b ps with
  | nil =>
    simp only [List.forIn_nil]
    exact Ex_pure (fin _ _ h0)
  | cons x l ih =>
    simp only [List.forIn_cons]
    have hs := step 0 b ps (by simp) h0
    obtain ⟨r, ps', h1, h2⟩ := hs
    refine Ex_bind ⟨r, ps', h1, ?_⟩
    rcases h2 with ⟨b', e, hI⟩ | ⟨b', e, hF⟩
    · simp only [e]
      refine ih (fun k => I (k + 1)) (fun k b ps hk hI => ?_) (fun b ps hI => fin b ps (by simpa using hI)) hI
      exact step (k + 1) b ps (by simp; omega) hI
    · simp only [e]
      exact Ex_pure hF
theorem Ex_for {a z : Nat} {b : SI prog w c n → β} {f : SI prog w c n → Nat → β → StateT SortSt Sem (ForInStep β)} {Φ : (SI prog w c n → β) → PSt → Prop} (I : Nat → (SI prog w c n → β) → PSt → Prop)
    (step : ∀ k b ps, a ≤ k → k < z → I k b ps → Ex (fun X => f X k (b X)) ps (fun r ps' => (∃ b', (∀ X, r X = .yield (b' X)) ∧ I (k + 1) b' ps') ∨ ∃ b', (∀ X, r X = .done (b' X)) ∧ Φ b' ps'))
    (fin : ∀ b ps, I (max a z) b ps → Φ b ps) (h0 : I a b ps) : Ex (fun X => forIn [a:z] (b X) (f X)) ps Φ := by
  have e : (fun X : SI prog w c n => forIn [a:z] (b X) (f X)) = fun X => forIn (List.range' a (z - a)) (b X) (f X) := by
    funext X
    rw [Std.Legacy.Range.forIn_eq_forIn_range']
    have hsz : ([a:z] : Std.Legacy.Range).size = z - a := by simp [Std.Legacy.Range.size]
    show forIn (List.range' a ([a:z] : Std.Legacy.Range).size 1) _ _ = _
    rw [hsz]
  rw [e]
  refine Ex_forL (fun k b ps => I (a + k) b ps) (fun k b ps hk hI => ?_) (fun b ps hI => fin b ps ?_) h0
  · simp only [List.length_range'] at hk
    simp only [List.getElem_range', Nat.one_mul]
    exact step (a + k) b ps (by omega) (by omega) hI
  · simp only [List.length_range'] at hI
    rwa [show max a z = a + (z - a) by omega]
end
end Mine
end
section
set_option maxRecDepth 10000
namespace Mine
open PySem PySem.W PyProof.Rows
section
variable {prog : Program} {w : World} {c : Nat → Nat → Bool} {n : Nat} {ps : PSt}

/-- the array lies well: its size, its places -/
structure Good (n : Nat) (ps : PSt) : Prop where
  sz : ps.p.size = n
  lt : ∀ x ∈ ps.p, x < n

theorem Good.at {ps : PSt} (h : Good n ps) {i : Nat} (hi : i < n) : i < ps.p.size := by rw [h.sz]; exact hi

theorem mirror_map (f : Nat → Keyed) (p : Array Nat) (i j k : Nat) : mirror (p.map f) i j k = (mirror p i j k).map f := kas_swaps_map f _ _ _ _
theorem bubble_map (f : Nat → Keyed) (p : Array Nat) (i j : Nat) : bubble (p.map f) i j = (bubble p i j).map f := kas_swaps_map f _ _ _ _

theorem Ex_rev {i j : Nat} {Φ : (SI prog w c n → Unit) → PSt → Prop} (g : Good n ps) (h : ∀ ps', Good n ps' → ps'.pend = ps.pend → Φ (fun _ => ()) ps') : Ex (fun _ => reverseSlice' i j) ps Φ := by
  rw [reverseSlice'_eq]
  refine Ex_modify (ps' := { ps with p := mirror ps.p i j ((j - i) / 2) }) (fun X => ?_) (h _ ⟨?_, fun x hx => g.lt x ?_⟩ rfl)
  · show SortSt.mk' X.kd (mirror (ps.p.map X.it) i j ((j - i) / 2)) ps.pend ps.mg none = _
    rw [mirror_map]; rfl
  · rw [← g.sz]; exact mirror_size _ _ _ _
  · exact (mirror_perm ps.p i j ((j - i) / 2)).mem_iff.mp hx
theorem Ex_move {i j : Nat} {Φ : (SI prog w c n → Unit) → PSt → Prop} (g : Good n ps) (h : ∀ ps', Good n ps' → ps'.pend = ps.pend → Φ (fun _ => ()) ps') : Ex (fun _ => moveDown' i j) ps Φ := by
  rw [moveDown'_eq]
  refine Ex_modify (ps' := { ps with p := bubble ps.p i (i - j) }) (fun X => ?_) (h _ ⟨?_, fun x hx => g.lt x ?_⟩ rfl)
  · show SortSt.mk' X.kd (bubble (ps.p.map X.it) i (i - j)) ps.pend ps.mg none = _
    rw [bubble_map]; rfl
  · rw [← g.sz]; exact (bubble_perm _ _ _).size_eq
  · exact (bubble_perm ps.p i (i - j)).mem_iff.mp hx
theorem Ex_ltG {i j : Nat} {Φ : (SI prog w c n → Option Bool) → PSt → Prop} (g : Good n ps) (hi : i < n) (hj : j < n) (h : ∀ b, Φ (fun _ => some b) ps) : Ex (fun _ => ltAt' i j) ps Φ :=
  Ex_ltAt g.lt (g.at hi) (g.at hj) (h _)

theorem Ex_bfor {β γ : Type} {a z : Nat} {b : SI prog w c n → β} {f : SI prog w c n → Nat → β → StateT SortSt Sem (ForInStep β)} {k : SI prog w c n → β → StateT SortSt Sem γ} {Φ : (SI prog w c n → γ) → PSt → Prop}
    (I : Nat → (SI prog w c n → β) → PSt → Prop) (Ψ : (SI prog w c n → β) → PSt → Prop) (h0 : I a b ps)
    (step : ∀ k b ps, a ≤ k → k < z → I k b ps → Ex (fun X => f X k (b X)) ps (fun r ps' => (∃ b', (∀ X, r X = .yield (b' X)) ∧ I (k + 1) b' ps') ∨ ∃ b', (∀ X, r X = .done (b' X)) ∧ Ψ b' ps'))
    (fin : ∀ b ps, I (max a z) b ps → Ψ b ps) (next : ∀ b ps, Ψ b ps → Ex (fun X => k X (b X)) ps Φ) : Ex (fun X => forIn [a:z] (b X) (f X) >>= k X) ps Φ :=
  Ex_bind (Ex_mono (Ex_for I step fin h0) next)

theorem Ex_countRun {lo nrem : Nat} {Φ : (SI prog w c n → Option Nat) → PSt → Prop} (g : Good n ps) (h1 : 1 ≤ nrem) (hz : lo + nrem ≤ n)
    (h : ∀ k ps', Good n ps' → ps'.pend = ps.pend → 1 ≤ k → k ≤ nrem → Φ (fun _ => some k) ps') : Ex (fun _ => countRun' lo nrem) ps Φ := by
  rw [countRun'_eq]
  refine Ex_bfor (fun k b ps' => ps' = ps ∧ b = fun _ => (none, k)) (fun b ps' => ps' = ps ∧ ∃ k, 1 ≤ k ∧ k ≤ nrem ∧ b = fun _ => (none, k)) ⟨rfl, rfl⟩ ?_ ?_ ?_
  · rintro k b ps' hk1 hk2 ⟨rfl, rfl⟩
    dsimp only
    refine Ex_bind (Ex_ltG g (by omega) (by omega) fun t => ?_)
    cases t with
    | true => exact Ex_pure (.inr ⟨_, fun _ => rfl, rfl, k, hk1, by omega, rfl⟩)
    | false => exact Ex_pure (.inl ⟨_, fun _ => rfl, rfl, rfl⟩)
  · rintro b ps' ⟨rfl, rfl⟩
    exact ⟨rfl, _, by omega, by omega, rfl⟩
  rintro b _ ⟨rfl, k, hk1, hk2, rfl⟩
  rename_i ps
  dsimp only
  by_cases hkn : k = nrem
  · simp only [beq_iff_eq, hkn, if_true]
    exact Ex_pure (h _ ps g rfl (by omega) (by omega))
  simp only [beq_iff_eq, hkn, if_false]
  by_cases hk : k > 1
  case' pos =>
    simp only [if_pos hk]
    refine Ex_bind (Ex_ltG g (by omega) (by omega) fun t => ?_)
    cases t
    case' true => exact Ex_pure (h k ps g rfl hk1 hk2)
    refine Ex_bind (Ex_rev g fun ps0 g0 hp0 => ?_)
  case' neg =>
    simp only [if_neg hk]
    have g0 := g
    have hp0 : ps.pend = ps.pend := rfl
  all_goals
    refine Ex_bind (Ex_rule ?_)
    refine Ex_bfor (fun j b ps' => Good n ps' ∧ ps'.pend = ps.pend ∧ ∃ q, q + 1 ≤ j ∧ b = fun _ => (none, j, q)) (fun b ps' => Good n ps' ∧ ps'.pend = ps.pend ∧ ∃ j q, 1 ≤ j ∧ j ≤ nrem ∧ b = fun _ => (none, j, q)) ⟨g0, hp0, 0, by omega, rfl⟩ ?_ ?_ ?_
    · rintro j b ps1 hj1 hj2 ⟨g1, hp1, q, hq, rfl⟩
      dsimp only
      refine Ex_bind (Ex_ltG g1 (by omega) (by omega) fun t => ?_)
      cases t with
      | true =>
        simp only [if_true]
        by_cases hq0 : q > 0
        · simp only [if_pos hq0]
          refine Ex_bind (Ex_rev g1 fun ps2 g2 hp2 => ?_)
          exact Ex_pure (.inl ⟨_, fun _ => rfl, g2, hp2.trans hp1, 0, by omega, rfl⟩)
        · simp only [if_neg hq0]
          exact Ex_pure (.inl ⟨_, fun _ => rfl, g1, hp1, 0, by omega, rfl⟩)
      | false =>
        simp only [Bool.false_eq_true, if_false]
        refine Ex_bind (Ex_ltG g1 (by omega) (by omega) fun t => ?_)
        cases t with
        | true => exact Ex_pure (.inr ⟨_, fun _ => rfl, g1, hp1, j, q, by omega, by omega, rfl⟩)
        | false => exact Ex_pure (.inl ⟨_, fun _ => rfl, g1, hp1, q + 1, by omega, rfl⟩)
    · rintro b ps1 ⟨g1, hp1, q, hq, rfl⟩
      exact ⟨g1, hp1, _, q, by omega, by omega, rfl⟩
    rintro b ps1 ⟨g1, hp1, j, q, hj1, hj2, rfl⟩
    dsimp only
    by_cases hq0 : q > 0
    case' pos =>
      simp only [if_pos hq0]
      refine Ex_bind (Ex_rev g1 fun ps2 g2 hp2' => ?_)
      have hp2 := hp2'.trans hp1
    case' neg =>
      simp only [if_neg hq0]
      have g2 := g1
      have hp2 := hp1
    all_goals
      refine Ex_bind (Ex_rev g2 fun ps3 g3 hp3 => ?_)
      refine Ex_bfor (fun k b ps' => ps' = ps3 ∧ b = fun _ => (none, k)) (fun b ps' => ps' = ps3 ∧ ∃ k, j ≤ k ∧ k ≤ nrem ∧ b = fun _ => (none, k)) ⟨rfl, rfl⟩ ?_ ?_ ?_
      · rintro k b ps' hk1 hk2 ⟨rfl, rfl⟩
        dsimp only
        refine Ex_bind (Ex_ltG g3 (by omega) (by omega) fun t => ?_)
        cases t with
        | true => exact Ex_pure (.inr ⟨_, fun _ => rfl, rfl, k, hk1, by omega, rfl⟩)
        | false => exact Ex_pure (.inl ⟨_, fun _ => rfl, rfl, rfl⟩)
      · rintro b ps' ⟨rfl, rfl⟩
        exact ⟨rfl, _, by omega, by omega, rfl⟩
      rintro b _ ⟨rfl, k, hk1, hk2, rfl⟩
      exact Ex_pure (h k _ g3 (hp3.trans hp2) (by omega) hk2)

theorem Ex_binarySort {lo m ok : Nat} {Φ : (SI prog w c n → Bool) → PSt → Prop} (g : Good n ps) (hz : lo + m ≤ n)
    (h : ∀ ps', Good n ps' → ps'.pend = ps.pend → Φ (fun _ => true) ps') : Ex (fun _ => binarySort' lo m ok) ps Φ := by
  rw [binarySort'_eq]
  refine Ex_bfor (fun _ b ps' => Good n ps' ∧ ps'.pend = ps.pend ∧ b = fun _ => (none, ())) (fun b ps' => Good n ps' ∧ ps'.pend = ps.pend ∧ b = fun _ => (none, ())) ⟨g, rfl, rfl⟩ ?_ ?_ ?_
  · rintro k b ps1 hk1 hk2 ⟨g1, hp1, rfl⟩
    dsimp only
    refine Ex_bfor (fun _ b ps' => ps' = ps1 ∧ ∃ l r, l ≤ r ∧ r ≤ k ∧ b = fun _ => (none, l, r)) (fun b ps' => ps' = ps1 ∧ ∃ l r, b = fun _ => (none, l, r)) ⟨rfl, 0, k, by omega, by omega, rfl⟩ ?_ ?_ ?_
    · rintro x b ps' _ _ ⟨rfl, l, r, hlr, hrk, rfl⟩
      dsimp only
      by_cases hge : l ≥ r
      · simp only [if_pos hge]
        exact Ex_pure (.inr ⟨_, fun _ => rfl, rfl, l, r, rfl⟩)
      · simp only [if_neg hge]
        refine Ex_bind (Ex_ltG g1 (by omega) (by omega) fun t => ?_)
        cases t with
        | true => exact Ex_pure (.inl ⟨_, fun _ => rfl, rfl, l, (l + r) / 2, by omega, by omega, rfl⟩)
        | false => exact Ex_pure (.inl ⟨_, fun _ => rfl, rfl, (l + r) / 2 + 1, r, by omega, by omega, rfl⟩)
    · rintro b ps' ⟨rfl, l, r, _, _, rfl⟩
      exact ⟨rfl, l, r, rfl⟩
    rintro b _ ⟨rfl, l, r, rfl⟩
    dsimp only
    refine Ex_bind (Ex_move g1 fun ps2 g2 hp2 => ?_)
    exact Ex_pure (.inl ⟨_, fun _ => rfl, g2, hp2.trans hp1, rfl⟩)
  · rintro b ps' hh
    exact hh
  rintro b ps' ⟨g', hp', rfl⟩
  exact Ex_pure (h ps' g' hp')
end
end Mine
end
section
set_option maxRecDepth 10000
namespace Mine
open PySem PySem.W PyProof.Rows

def gallopF : Bool → Keyed → Array Keyed → Nat → Nat → Nat → StateT SortSt Sem (Option Nat) := sortPriv% PySem.Builtin.gallop
def mergeLoF : Array Keyed → Array Keyed → StateT SortSt Sem (Array Keyed) := sortPriv% PySem.Builtin.mergeLo
def mergeHiF : Array Keyed → Array Keyed → StateT SortSt Sem (Array Keyed) := sortPriv% PySem.Builtin.mergeHi

section
variable {prog : Program} {w : World} {c : Nat → Nat → Bool} {n : Nat} {ps : PSt}

theorem Ex_beyond {left : Bool} {key : Nat} {q : Array Nat} {i : Nat} {Φ : (SI prog w c n → Option Bool) → PSt → Prop} (hk : key < n) (hq : ∀ x ∈ q, x < n) (hi : i < q.size)
    (h : ∀ b, Φ (fun _ => some b) ps) :
    Ex (fun X => (do let x ← elem' (q.map X.it) i; if left = true then lt' x (X.it key) else (do let y ← lt' (X.it key) x; pure (Option.map (fun x => !x) y)) : StateT SortSt Sem (Option Bool))) ps Φ := by
  refine Ex_bind (Ex_elem hi ?_)
  have hx : q[i] < n := hq _ (by simp)
  cases left with
  | true => exact Ex_lt hx hk (h _)
  | false => exact Ex_bind (Ex_lt hk hx (Ex_pure (h _)))

theorem Ex_gallop {left : Bool} {key : Nat} {q : Array Nat} {base m hint : Nat} {Φ : (SI prog w c n → Option Nat) → PSt → Prop} (hk : key < n) (hq : ∀ x ∈ q, x < n) (hb : base + m ≤ q.size) (hh : hint < m)
    (h : ∀ k, k ≤ m → Φ (fun _ => some k) ps) : Ex (fun X => gallopF left (X.it key) (q.map X.it) base m hint) ps Φ := by
  refine Ex_bind (Ex_beyond hk hq (by omega) fun t => ?_)
  dsimp only
  cases t
  case' true =>
    simp only [if_true]
    refine Ex_bfor (fun _ b ps' => ps' = ps ∧ ∃ l o, l < o ∧ hint + l < m ∧ b = fun _ => (none, l, o)) (fun b ps' => ps' = ps ∧ ∃ l o, l < o ∧ hint + l < m ∧ b = fun _ => (none, l, o)) ⟨rfl, 0, 1, by omega, by omega, rfl⟩ ?_ (fun _ _ hh => hh) ?_
    · rintro x b _ _ _ ⟨rfl, l, o, hlo, hlm, rfl⟩
      dsimp only
      by_cases hge : o ≥ m - hint
      · simp only [if_pos hge]
        exact Ex_pure (.inr ⟨_, fun _ => rfl, rfl, l, o, hlo, hlm, rfl⟩)
      · simp only [if_neg hge]
        refine Ex_bind (Ex_beyond hk hq (by omega) fun t => ?_)
        cases t with
        | false => exact Ex_pure (.inr ⟨_, fun _ => rfl, rfl, l, o, hlo, hlm, rfl⟩)
        | true => exact Ex_pure (.inl ⟨_, fun _ => rfl, rfl, o, 2 * o + 1, by omega, by omega, rfl⟩)
    rintro b _ ⟨rfl, l, o, hlo, hlm, rfl⟩
    rename_i ps
    dsimp only
    generalize hlo2 : hint + l + 1 = lo
    generalize hhi2 : hint + min o (m - hint) = hi
    have hlh : lo ≤ hi := by omega
    have hhm : hi ≤ m := by omega
  case' false =>
    simp only [Bool.false_eq_true, if_false]
    refine Ex_bfor (fun _ b ps' => ps' = ps ∧ ∃ l o, l < o ∧ l ≤ hint ∧ b = fun _ => (none, l, o)) (fun b ps' => ps' = ps ∧ ∃ l o, l < o ∧ l ≤ hint ∧ b = fun _ => (none, l, o)) ⟨rfl, 0, 1, by omega, by omega, rfl⟩ ?_ (fun _ _ hh => hh) ?_
    · rintro x b _ _ _ ⟨rfl, l, o, hlo, hlm, rfl⟩
      dsimp only
      by_cases hge : o ≥ hint + 1
      · simp only [if_pos hge]
        exact Ex_pure (.inr ⟨_, fun _ => rfl, rfl, l, o, hlo, hlm, rfl⟩)
      · simp only [if_neg hge]
        refine Ex_bind (Ex_beyond hk hq (by omega) fun t => ?_)
        cases t with
        | true => exact Ex_pure (.inr ⟨_, fun _ => rfl, rfl, l, o, hlo, hlm, rfl⟩)
        | false => exact Ex_pure (.inl ⟨_, fun _ => rfl, rfl, o, 2 * o + 1, by omega, by omega, rfl⟩)
    rintro b _ ⟨rfl, l, o, hlo, hlm, rfl⟩
    rename_i ps
    dsimp only
    generalize hlo2 : hint + 1 - min o (hint + 1) = lo
    generalize hhi2 : hint - l = hi
    have hlh : lo ≤ hi := by omega
    have hhm : hi ≤ m := by omega
  all_goals
    refine Ex_bfor (fun _ b ps' => ps' = ps ∧ ∃ l o, l ≤ o ∧ o ≤ m ∧ b = fun _ => (none, l, o)) (fun b ps' => ps' = ps ∧ ∃ l o, l ≤ o ∧ o ≤ m ∧ b = fun _ => (none, l, o)) ⟨rfl, lo, hi, hlh, hhm, rfl⟩ ?_ (fun _ _ hh => hh) ?_
    · rintro x b _ _ _ ⟨rfl, l, o, hlo, hlm, rfl⟩
      dsimp only
      by_cases hge : l ≥ o
      · simp only [if_pos hge]
        exact Ex_pure (.inr ⟨_, fun _ => rfl, rfl, l, o, hlo, hlm, rfl⟩)
      · simp only [if_neg hge]
        refine Ex_bind (Ex_beyond hk hq (by omega) fun t => ?_)
        cases t with
        | true => exact Ex_pure (.inl ⟨_, fun _ => rfl, rfl, l + (o - l) / 2 + 1, o, by omega, by omega, rfl⟩)
        | false => exact Ex_pure (.inl ⟨_, fun _ => rfl, rfl, l, l + (o - l) / 2, by omega, by omega, rfl⟩)
    rintro b _ ⟨rfl, l, o, hlo, hlm, rfl⟩
    exact Ex_pure (h o hlm)
end
end Mine
end
section
set_option maxRecDepth 10000
namespace Mine
open PySem PySem.W PyProof.Rows
section
variable {prog : Program} {w : World} {c : Nat → Nat → Bool} {n : Nat} {ps : PSt}

def AllLt (n : Nat) (q : Array Nat) : Prop := ∀ x ∈ q, x < n
theorem AllLt.push {q : Array Nat} (h : AllLt n q) {x : Nat} (hx : x < n) : AllLt n (q.push x) := by
  intro y hy
  rcases Array.mem_push.mp hy with hy | rfl
  · exact h y hy
  · exact hx
theorem AllLt.append {q r : Array Nat} (h : AllLt n q) (h' : AllLt n r) : AllLt n (q ++ r) := by
  intro y hy
  rcases Array.mem_append.mp hy with hy | hy
  · exact h y hy
  · exact h' y hy
theorem AllLt.extract {q : Array Nat} (h : AllLt n q) (i j : Nat) : AllLt n (q.extract i j) := by
  intro y hy
  rw [Array.mem_extract_iff_getElem] at hy
  obtain ⟨k, hk, rfl⟩ := hy
  exact h _ (by simp)
theorem AllLt.reverse {q : Array Nat} (h : AllLt n q) : AllLt n q.reverse := by
  intro y hy
  exact h y (by simpa using hy)
theorem AllLt.at {q : Array Nat} (h : AllLt n q) {i : Nat} (hi : i < q.size) : q[i] < n := h _ (by simp)

/-- the array and the runs stand as they stood -/
def Like (ps ps' : PSt) : Prop := ps'.p = ps.p ∧ ps'.pend = ps.pend

theorem Ex_mg {g : Nat} {Φ : (SI prog w c n → Unit) → PSt → Prop} (h : Φ (fun _ => ()) { ps with mg := g }) : Ex (fun _ => (sortPriv% PySem.Builtin.setMinGallop) g) ps Φ :=
  Ex_modify (fun _ => rfl) h

theorem Ex_ite {β : Type} {C : Prop} {inst : SI prog w c n → Decidable C} {a b : SI prog w c n → StateT SortSt Sem β} {Φ : (SI prog w c n → β) → PSt → Prop} (h1 : C → Ex a ps Φ) (h2 : ¬ C → Ex b ps Φ) : Ex (fun X => @ite _ C (inst X) (a X) (b X)) ps Φ := by
  by_cases hC : C
  · simp only [if_pos hC]; exact h1 hC
  · simp only [if_neg hC]; exact h2 hC
theorem Like.refl (ps : PSt) : Like ps ps := ⟨rfl, rfl⟩
theorem Like.mg {ps ps' : PSt} (h : Like ps ps') (g : Nat) : Like ps { ps' with mg := g } := h

/-- the same places for each reading -/
def Arr (o : SI prog w c n → Array Keyed) : Prop := ∃ q : Array Nat, AllLt n q ∧ o = fun X => q.map X.it
theorem Arr.of {q : Array Nat} (h : AllLt n q) : Arr (fun X : SI prog w c n => q.map X.it) := ⟨q, h, rfl⟩
theorem Arr.push {o : SI prog w c n → Array Keyed} (h : Arr o) {x : Nat} (hx : x < n) : Arr (fun X => (o X).push (X.it x)) := by
  obtain ⟨q, hq, rfl⟩ := h
  exact ⟨q.push x, hq.push hx, funext fun X => Array.map_push.symm⟩
theorem Arr.app {o o' : SI prog w c n → Array Keyed} (h : Arr o) (h' : Arr o') : Arr (fun X => o X ++ o' X) := by
  obtain ⟨q, hq, rfl⟩ := h
  obtain ⟨r, hr, rfl⟩ := h'
  exact ⟨q ++ r, hq.append hr, funext fun X => Array.map_append.symm⟩
theorem Arr.ext {o : SI prog w c n → Array Keyed} (h : Arr o) (i j : Nat) : Arr (fun X => (o X).extract i j) := by
  obtain ⟨q, hq, rfl⟩ := h
  exact ⟨q.extract i j, hq.extract i j, funext fun X => Array.map_extract.symm⟩
theorem Arr.rev {o : SI prog w c n → Array Keyed} (h : Arr o) : Arr (fun X => (o X).reverse) := by
  obtain ⟨q, hq, rfl⟩ := h
  exact ⟨q.reverse, hq.reverse, funext fun X => Array.map_reverse.symm⟩
theorem Arr.one {x : Nat} (hx : x < n) : Arr (fun X : SI prog w c n => #[X.it x]) :=
  ⟨#[x], fun y hy => by rw [List.mem_singleton.mp (Array.mem_def.mp hy)]; exact hx, funext fun X => by simp⟩

theorem by_key {A B : Prop} (h : A → B) (k : A) : B := h k
theorem Ex_beq {β : Type} {a b : Nat} {inst : SI prog w c n → Decidable ((a == b) = true)} {m1 m2 : SI prog w c n → StateT SortSt Sem β} {Φ : (SI prog w c n → β) → PSt → Prop} (h1 : Ex m1 ps Φ) (h2 : a ≠ b → Ex m2 ps Φ) :
    Ex (fun X => @ite _ ((a == b) = true) (inst X) (m1 X) (m2 X)) ps Φ := Ex_ite (fun _ => h1) (fun hn => h2 fun e => hn (beq_iff_eq.mpr e))
theorem Ex_elGal {γ : Type} {i base m hint : Nat} {left : Bool} {q r : Array Nat} {f : SI prog w c n → Option Nat → StateT SortSt Sem γ} {Φ : (SI prog w c n → γ) → PSt → Prop}
    (hq : AllLt n q) (hi : i < q.size) (hr : AllLt n r) (hb : base + m ≤ r.size) (hh : hint < m) (h : ∀ k, k ≤ m → Ex (fun X => f X (some k)) ps Φ) :
    Ex (fun X => elem' (q.map X.it) i >>= fun x => gallopF left x (r.map X.it) base m hint >>= f X) ps Φ :=
  Ex_bind (Ex_elem hi (Ex_bind (Ex_gallop (hq.at hi) hr hb hh h)))
theorem Ex_mgElGal {γ : Type} {g i base m hint : Nat} {left : Bool} {q r : Array Nat} {f : SI prog w c n → Option Nat → StateT SortSt Sem γ} {Φ : (SI prog w c n → γ) → PSt → Prop}
    (hq : AllLt n q) (hi : i < q.size) (hr : AllLt n r) (hb : base + m ≤ r.size) (hh : hint < m) (h : ∀ k, k ≤ m → Ex (fun X => f X (some k)) { ps with mg := g } Φ) :
    Ex (fun X => (sortPriv% PySem.Builtin.setMinGallop) g >>= fun _ => elem' (q.map X.it) i >>= fun x => gallopF left x (r.map X.it) base m hint >>= f X) ps Φ :=
  Ex_bind (Ex_mg (Ex_elGal hq hi hr hb hh h))
theorem Ex_elElLt {γ : Type} {i j : Nat} {q r : Array Nat} {f : SI prog w c n → Option Bool → StateT SortSt Sem γ} {Φ : (SI prog w c n → γ) → PSt → Prop}
    (hq : AllLt n q) (hi : i < q.size) (hr : AllLt n r) (hj : j < r.size) (h : ∀ t, Ex (fun X => f X (some t)) ps Φ) :
    Ex (fun X => elem' (q.map X.it) i >>= fun x => elem' (r.map X.it) j >>= fun y => lt' x y >>= f X) ps Φ :=
  Ex_bind (Ex_elem hi (Ex_bind (Ex_elem hj (Ex_bind (Ex_lt (hq.at hi) (hr.at hj) (h _))))))

/-- how one turn of a merging loop ends -/
def Out {ρ τ : Type} (R : (SI prog w c n → Array Keyed) → Nat → Nat → τ → SI prog w c n → ρ) (P J : Nat → Nat → Prop) (L : PSt → Prop) (r : SI prog w c n → ForInStep (Option (Array Keyed) × ρ)) (ps' : PSt) : Prop :=
  L ps' ∧ ((∃ o i j t, Arr o ∧ P i j ∧ r = fun X => .yield (none, R o i j t X)) ∨ (∃ o i j t, Arr o ∧ J i j ∧ r = fun X => .done (none, R o i j t X)) ∨ ∃ (o : SI prog w c n → Array Keyed) (rest : SI prog w c n → ρ), Arr o ∧ r = fun X => .done (some (o X), rest X))
section
variable {ρ τ : Type} {R : (SI prog w c n → Array Keyed) → Nat → Nat → τ → SI prog w c n → ρ} {P J : Nat → Nat → Prop} {L : PSt → Prop} {o : SI prog w c n → Array Keyed} {i j : Nat} {t : τ}
theorem Ex_yield {r : SI prog w c n → ForInStep (Option (Array Keyed) × ρ)} (hL : L ps) (ho : Arr o) (h : P i j) (e : r = fun X => .yield (none, R o i j t X)) : Ex (fun X => pure (r X)) ps (Out R P J L) := Ex_pure ⟨hL, .inl ⟨o, i, j, t, ho, h, e⟩⟩
theorem Ex_done {r : SI prog w c n → ForInStep (Option (Array Keyed) × ρ)} (hL : L ps) (ho : Arr o) (h : J i j) (e : r = fun X => .done (none, R o i j t X)) : Ex (fun X => pure (r X)) ps (Out R P J L) := Ex_pure ⟨hL, .inr (.inl ⟨o, i, j, t, ho, h, e⟩)⟩
theorem Ex_ret {rest : SI prog w c n → ρ} (hL : L ps) (ho : Arr o) : Ex (fun X => pure (.done (some (o X), rest X))) ps (Out R P J L) := Ex_pure ⟨hL, .inr (.inr ⟨o, rest, ho, rfl⟩)⟩
theorem Ex_loop {γ : Type} {z : Nat} {f : SI prog w c n → Nat → Option (Array Keyed) × ρ → StateT SortSt Sem (ForInStep (Option (Array Keyed) × ρ))} {k : SI prog w c n → Option (Array Keyed) × ρ → StateT SortSt Sem γ} {Φ : (SI prog w c n → γ) → PSt → Prop}
    (R : (SI prog w c n → Array Keyed) → Nat → Nat → τ → SI prog w c n → ρ) (I : Nat → Nat → Nat → Prop) (J : Nat → Nat → Prop) (L : PSt → Prop) (hL : L ps) (ho : Arr o) (h0 : I 0 i j)
    (step : ∀ x o i j t ps, x < z → L ps → Arr o → I x i j → Ex (fun X => f X x (none, R o i j t X)) ps (Out R (I (x + 1)) J L))
    (fin : ∀ i j, I z i j → J i j)
    (ret : ∀ (o : SI prog w c n → Array Keyed) (rest : SI prog w c n → ρ) ps, L ps → Arr o → Ex (fun X => k X (some (o X), rest X)) ps Φ)
    (next : ∀ o i j t ps, L ps → Arr o → J i j → Ex (fun X => k X (none, R o i j t X)) ps Φ) : Ex (fun X => forIn [0:z] (none, R o i j t X) (f X) >>= k X) ps Φ := by
  refine Ex_bfor (fun x b ps' => L ps' ∧ ∃ o i j t, Arr o ∧ I x i j ∧ b = fun X => (none, R o i j t X)) (fun b ps' => L ps' ∧ ((∃ o i j t, Arr o ∧ J i j ∧ b = fun X => (none, R o i j t X)) ∨ ∃ (o : SI prog w c n → Array Keyed) (rest : SI prog w c n → ρ), Arr o ∧ b = fun X => (some (o X), rest X))) ⟨hL, o, i, j, t, ho, h0, rfl⟩ ?_ ?_ ?_
  · rintro x b ps1 _ hx ⟨l, o, i, j, t, ho, hI, rfl⟩
    refine Ex_mono (step x o i j t ps1 hx l ho hI) ?_
    rintro r ps2 ⟨l2, ⟨o, i, j, t, ho, hP, rfl⟩ | ⟨o, i, j, t, ho, hJ, rfl⟩ | ⟨o, rest, ho, rfl⟩⟩
    · exact .inl ⟨_, fun _ => rfl, l2, o, i, j, t, ho, hP, rfl⟩
    · exact .inr ⟨_, fun _ => rfl, l2, .inl ⟨o, i, j, t, ho, hJ, rfl⟩⟩
    · exact .inr ⟨_, fun _ => rfl, l2, .inr ⟨o, rest, ho, rfl⟩⟩
  · rintro b ps1 ⟨l, o, i, j, t, ho, hI, rfl⟩
    rw [Nat.max_eq_right (Nat.zero_le z)] at hI
    exact ⟨l, .inl ⟨o, i, j, t, ho, fin _ _ hI, rfl⟩⟩
  · rintro b ps1 ⟨l, ⟨o, i, j, t, ho, hJ, rfl⟩ | ⟨o, rest, ho, rfl⟩⟩
    · exact next o i j t ps1 l ho hJ
    · exact ret o rest ps1 l ho
end
theorem Ex_ruleEl {γ : Type} {tag : String} {i : Nat} {q : Array Nat} {f : SI prog w c n → Keyed → StateT SortSt Sem γ} {Φ : (SI prog w c n → γ) → PSt → Prop} (hi : i < q.size) (h : Ex (fun X => f X (X.it q[i])) ps Φ) :
    Ex (fun X => liftM (rule tag) >>= fun _ => elem' (q.map X.it) i >>= f X) ps Φ := Ex_bind (Ex_rule (Ex_bind (Ex_elem hi h)))
theorem Ex_beq2 {γ : Type} {a b a' b' : Nat} {inst : SI prog w c n → Decidable ((a == b) = true)} {inst' : SI prog w c n → Decidable ((a' == b') = true)} {m1 m2 : SI prog w c n → StateT SortSt Sem γ} {f : SI prog w c n → SortSt → StateT SortSt Sem γ} {Φ : (SI prog w c n → γ) → PSt → Prop}
    (h1 : Ex m1 ps Φ) (h2 : Ex m2 ps Φ) (h3 : a ≠ b → a' ≠ b' → Ex (fun X => f X (X.st ps)) ps Φ) :
    Ex (fun X => @ite _ ((a == b) = true) (inst X) (m1 X) (@ite _ ((a' == b') = true) (inst' X) (m2 X) (get >>= f X))) ps Φ := Ex_beq h1 fun e => Ex_beq h2 fun e' => Ex_bind (Ex_get (h3 e e'))

theorem Ex_mergeLo {qa qb : Array Nat} {Φ : (SI prog w c n → Array Keyed) → PSt → Prop} (ha : AllLt n qa) (hb : AllLt n qb) (ha1 : 1 ≤ qa.size) (hb1 : 1 ≤ qb.size)
    (h : ∀ q ps', AllLt n q → Like ps ps' → Φ (fun X => q.map X.it) ps') : Ex (fun X => mergeLoF (qa.map X.it) (qb.map X.it)) ps Φ := by
  have hA : Arr (fun X : SI prog w c n => qa.map X.it) := Arr.of ha
  have hB : Arr (fun X : SI prog w c n => qb.map X.it) := Arr.of hb
  have hR : ∀ (o : SI prog w c n → Array Keyed) ps', Arr o → Like ps ps' → Φ o ps' := by
    rintro _ ps' ⟨q, hq, rfl⟩ l
    exact h q ps' hq l
  clear h
  refine Ex_ruleEl hb1 ?_
  simp (config := {zeta := false}) only [Array.size_map]
  have h0 := Arr.one (prog := prog) (w := w) (c := c) (hb.at hb1)
  refine Ex_beq2 (Ex_pure (hR _ _ ((h0.app (hA.ext _ _)).app (hB.ext _ _)) (Like.refl _))) (Ex_pure (hR _ _ ((h0.app (hB.ext _ _)).app (hA.ext _ _)) (Like.refl _))) fun hc1 hc2 => ?_
  refine Ex_loop (τ := Nat) (fun o i j t X => (o X, i, j, t)) (fun x i j => i + 1 < qa.size ∧ j < qb.size ∧ x + 1 ≤ i + j) (fun _ _ => False) (Like ps) (Like.refl _) h0 ⟨Nat.lt_of_le_of_ne ha1 hc2, Nat.lt_of_le_of_ne hb1 hc1, Nat.le_refl _⟩ ?_ (fun i j hI => by clear h0 hR; omega) (fun o rest ps' l ho => Ex_pure (hR o ps' ho l)) (fun _ _ _ _ _ _ _ hf => hf.elim)
  clear hR h0 ha1 hb1 hc1 hc2
  intro k o ia ib mg ps1 hk l1 ho hI
  dsimp (config := {zeta := false}) only
  refine Ex_loop (τ := Nat × Nat) (t := (0, 0)) (fun o i j t X => (o X, i, j, t.1, t.2)) (fun x i j => i + 1 < qa.size ∧ j < qb.size ∧ ia + ib + x ≤ i + j) (fun i j => i + 1 < qa.size ∧ j < qb.size ∧ ia + ib + 1 ≤ i + j) (Like ps) l1 ho ⟨hI.1, hI.2.1, Nat.le_refl _⟩ ?_ (fun i j h => by omega) (fun o rest ps' l ho => Ex_ret l ho) ?_
  · clear l1 hk hI ho
    intro x o i j t ps2 _ l ho hI
    have hi := Nat.lt_of_succ_lt hI.1
    dsimp (config := {zeta := false}) only
    refine Ex_elElLt hb hI.2.1 ha hi fun b => ?_
    dsimp only
    cases b with
    | true =>
      have ho' := ho.push (hb.at hI.2.1)
      refine Ex_bind (Ex_elem hI.2.1 (Ex_beq (Ex_ret l ((ho'.app (hA.ext _ _)).app (hB.ext _ _))) fun hc => ?_))
      have hj := Nat.lt_of_le_of_ne hI.2.1 hc
      have hp : ia + ib + (x + 1) ≤ i + (j + 1) := Nat.succ_le_succ hI.2.2
      refine Ex_ite (fun _ => ?_) (fun _ => ?_)
      · exact Ex_done (t := (_, _)) l ho' ⟨hI.1, hj, Nat.le_trans (Nat.add_le_add_left (Nat.succ_le_succ (Nat.zero_le _)) _) hp⟩ rfl
      · exact Ex_yield (t := (_, _)) l ho' ⟨hI.1, hj, hp⟩ rfl
    | false =>
      have ho' := ho.push (ha.at hi)
      refine Ex_bind (Ex_elem hi (Ex_beq (Ex_ret l ((ho'.app (hB.ext _ _)).app (hA.ext _ _))) fun hc => ?_))
      have hj := Nat.lt_of_le_of_ne hI.1 hc
      have hp : ia + ib + (x + 1) ≤ i + 1 + j := Nat.le_trans (Nat.succ_le_succ hI.2.2) (Nat.le_of_eq (Nat.succ_add i j).symm)
      refine Ex_ite (fun _ => ?_) (fun _ => ?_)
      · exact Ex_done (t := (_, _)) l ho' ⟨hj, hI.2.1, Nat.le_trans (Nat.add_le_add_left (Nat.succ_le_succ (Nat.zero_le _)) _) hp⟩ rfl
      · exact Ex_yield (t := (_, _)) l ho' ⟨hj, hI.2.1, hp⟩ rfl
  clear l1 ho hk
  intro o ia' ib' t ps2 l2 ho hJ
  dsimp (config := {zeta := false}) only
  refine Ex_bind (Ex_rule ?_)
  refine Ex_loop (τ := Nat × Nat × Nat) (t := (_, _, _)) (fun o i j t X => (o X, i, j, t.1, t.2.1, t.2.2)) (fun x i j => i + 1 < qa.size ∧ j < qb.size ∧ ia' + ib' ≤ i + j) (fun i j => i + 1 < qa.size ∧ j < qb.size ∧ ia' + ib' ≤ i + j) (Like ps) l2 ho ⟨hJ.1, hJ.2.1, Nat.le_refl _⟩ ?_ (fun i j h => h) (fun o rest ps' l ho => Ex_ret l ho) ?_
  · clear l2 ho hI hJ
    intro x o ia2 ib2 t ps3 _ l3 ho hI
    have hia2 := hI.1
    have hib2 := hI.2.1
    have hprog2 := hI.2.2
    clear hI
    dsimp only
    generalize t.1 = mg
    refine by_key (A := ?tyK1) (fun key => ?cont1) ?keyG1
    case' cont1 => refine Ex_ite (fun hc => ?brA1) (fun hc => ?brB1)
    case brB1 => clear hc; generalize mg = m; revert m; exact key
    case brA1 => exact key _
    intro m
    refine Ex_mgElGal hb hib2 ha (Nat.le_of_eq (Nat.add_sub_of_le (Nat.le_of_lt (Nat.lt_of_succ_lt hia2)))) (Nat.sub_pos_of_lt (Nat.lt_of_succ_lt hia2)) fun k hk => ?_
    dsimp only
    have l3' := l3.mg m
    refine by_key (A := ?tyK2) (fun key => ?cont2) ?keyG2
    case' cont2 => refine Ex_ite (fun hk0 => ?brA2) (fun hk0 => ?brB2)
    case brB2 =>
      have hk1 := ho
      have hk2 := hia2
      have hk3 := hprog2
      generalize o = o' at hk1 ⊢
      generalize ia2 = i at hk2 hk3 ⊢
      revert hk3 hk2 i hk1 o'
      exact key
    case brA2 =>
      have ho2 := ho.app (hA.ext ia2 (ia2 + k))
      refine Ex_beq (Ex_ret l3' ((ho2.app (hB.ext _ _)).app (hA.ext _ _))) fun hc2 => Ex_beq (Ex_ret l3' ((ho2.app (hA.ext _ _)).app (hB.ext _ _))) fun hc3 => ?_
      exact key _ ho2 _ (by clear key; omega) (by clear key; omega)
    clear ho hk hia2 hprog2 l3
    intro o ho i hi hle
    have hi2 := Nat.lt_of_succ_lt hi
    have ho4 := ho.push (hb.at hib2)
    refine Ex_bind (Ex_elem hib2 (Ex_beq (Ex_ret l3' ((ho4.app (hA.ext _ _)).app (hB.ext _ _))) fun hcb => ?_))
    have hib3 : ib2 + 1 < qb.size := Nat.lt_of_le_of_ne hib2 hcb
    refine Ex_elGal ha hi2 hb (Nat.le_of_eq (Nat.add_sub_of_le hib2)) (Nat.sub_pos_of_lt hib3) fun k2 hk2 => ?_
    dsimp only
    refine Ex_ite (fun _ => Ex_beq (Ex_ret l3' (((ho4.app (hB.ext _ _)).app (hA.ext _ _)).app (hB.ext _ _))) fun hc2 => ?_) fun _ => ?_
    case' refine_1 =>
      have ho5 := ho4.app (hB.ext (ib2 + 1) (ib2 + 1 + k2))
      have hj : ib2 + 1 + k2 < qb.size := by omega
      have hpr6 : ia' + ib' ≤ i + 1 + (ib2 + 1 + k2) := by omega
    case' refine_2 =>
      have ho5 := ho4
      have hj := hib3
      have hpr6 : ia' + ib' ≤ i + 1 + (ib2 + 1) := by omega
    all_goals
      have ho6 := ho5.push (ha.at hi2)
      refine Ex_bind (Ex_elem hi2 (Ex_beq (Ex_ret l3' ((ho6.app (hB.ext _ _)).app (hA.ext _ _))) fun hc => ?_))
      have hia6 : i + 1 + 1 < qa.size := Nat.lt_of_le_of_ne hi hc
      refine Ex_ite (fun _ => ?_) (fun _ => ?_)
      · exact Ex_done (t := (_, _, _)) l3' ho6 ⟨hia6, hj, hpr6⟩ rfl
      · exact Ex_yield (t := (_, _, _)) l3' ho6 ⟨hia6, hj, hpr6⟩ rfl
  intro o ia2 ib2 t ps3 l3 ho hJ2
  dsimp only
  refine Ex_bind (Ex_mg ?_)
  exact Ex_yield (l3.mg _) ho ⟨hJ2.1, hJ2.2.1, Nat.le_trans (Nat.succ_le_succ hI.2.2) (Nat.le_trans hJ.2.2 hJ2.2.2)⟩ rfl
end
end Mine
end
section
set_option maxRecDepth 10000
set_option linter.unusedSimpArgs false
namespace Mine
open PySem PySem.W PyProof.Rows
section
variable {prog : Program} {w : World} {c : Nat → Nat → Bool} {n : Nat} {ps : PSt}

theorem hi_a {i j x s : Nat} (h : 1 ≤ i) (h' : i + j + x ≤ s) : i - 1 + j + (x + 1) ≤ s := by omega
theorem hi_b {i j x s : Nat} (h : 2 ≤ j) (h' : i + j + x ≤ s) : i + (j - 1) + (x + 1) ≤ s := by omega
theorem hi_c {a x s : Nat} (h : a + (x + 1) ≤ s) : a + 1 ≤ s := by omega
theorem hi_d {j : Nat} (h : 2 ≤ j) (h' : j - 1 ≠ 1) : 2 ≤ j - 1 := by omega
theorem hi_e {j s : Nat} (h : 1 ≤ j) (h' : j ≤ s) : j - 1 < s := by omega
theorem hi_f {i k j s : Nat} (h : k ≤ i) (h' : i + j ≤ s) : k + j ≤ s := by omega
theorem hi_g {i j k s : Nat} (h : i + j ≤ s) (h' : k ≤ j - 1) : i - 1 + k ≤ s := by omega
theorem hi_h {k : Nat} (h : k ≠ 1) (h' : k ≠ 0) : 2 ≤ k := by omega

set_option backward.dsimp.instances true in
theorem Ex_mergeHi {qa qb : Array Nat} {Φ : (SI prog w c n → Array Keyed) → PSt → Prop} (ha : AllLt n qa) (hb : AllLt n qb) (ha1 : 1 ≤ qa.size) (hb1 : 1 ≤ qb.size)
    (h : ∀ q ps', AllLt n q → Like ps ps' → Φ (fun X => q.map X.it) ps') : Ex (fun X => mergeHiF (qa.map X.it) (qb.map X.it)) ps Φ := by
  have hA : Arr (fun X : SI prog w c n => qa.map X.it) := Arr.of ha
  have hB : Arr (fun X : SI prog w c n => qb.map X.it) := Arr.of hb
  have hR : ∀ (o : SI prog w c n → Array Keyed) ps', Arr o → Like ps ps' → Φ o ps' := by
    rintro _ ps' ⟨q, hq, rfl⟩ l
    exact h q ps' hq l
  clear h
  refine Ex_bind (Ex_rule ?_)
  simp (config := {zeta := false}) only [Array.size_map]
  have i0 : qa.size - 1 < qa.size := hi_e ha1 (Nat.le_refl _)
  refine Ex_bind (Ex_elem i0 ?_)
  have h0 := Arr.one (prog := prog) (w := w) (c := c) (ha.at i0)
  refine Ex_beq2 (Ex_pure (hR _ _ (((hA.ext _ _).app (hB.ext _ _)).app h0.rev) (Like.refl _))) (Ex_pure (hR _ _ (((hB.ext _ _).app (hA.ext _ _)).app h0.rev) (Like.refl _))) fun hc1 hc2 => ?_
  refine Ex_loop (τ := Nat) (fun o i j t X => (i, j, o X, t)) (fun x i j => 1 ≤ i ∧ i < qa.size ∧ 2 ≤ j ∧ j ≤ qb.size ∧ i + j + x + 1 ≤ qa.size + qb.size) (fun _ _ => False) (Like ps) (Like.refl _) h0 ⟨by omega, i0, by omega, Nat.le_refl _, by omega⟩ ?_ (fun i j hI => by clear h0 hR; omega) (fun o rest ps' l ho => Ex_pure (hR o ps' ho l)) (fun _ _ _ _ _ _ _ hf => hf.elim)
  clear hR h0 ha1 hb1 hc1 hc2 i0
  intro k o na nb mg ps1 hk l1 ho hI
  dsimp (config := {zeta := false}) only
  refine Ex_loop (τ := Nat × Nat) (t := (0, 0)) (fun o i j t X => (i, j, o X, t.1, t.2)) (fun x i j => 1 ≤ i ∧ i < qa.size ∧ 2 ≤ j ∧ j ≤ qb.size ∧ i + j + x ≤ na + nb) (fun i j => 1 ≤ i ∧ i < qa.size ∧ 2 ≤ j ∧ j ≤ qb.size ∧ i + j + 1 ≤ na + nb) (Like ps) l1 ho ⟨hI.1, hI.2.1, hI.2.2.1, hI.2.2.2.1, Nat.le_refl _⟩ ?_ (fun i j h => by omega) (fun o rest ps' l ho => Ex_ret l ho) ?_
  · clear l1 hk hI ho
    intro x o i j t ps2 _ l ho hI
    have iB : j - 1 < qb.size := hi_e (Nat.le_of_succ_le hI.2.2.1) hI.2.2.2.1
    have iA : i - 1 < qa.size := Nat.lt_of_le_of_lt (Nat.sub_le _ _) hI.2.1
    dsimp (config := {zeta := false}) only
    refine Ex_elElLt hb iB ha iA fun b => ?_
    dsimp only
    cases b with
    | true =>
      have ho' := ho.push (ha.at iA)
      refine Ex_bind (Ex_elem iA (Ex_beq (Ex_ret l (((hA.ext _ _).app (hB.ext _ _)).app ho'.rev)) fun hc => ?_))
      have hj := Nat.pos_of_ne_zero hc
      have hp := hi_a hI.1 hI.2.2.2.2
      refine Ex_ite (fun _ => ?_) (fun _ => ?_)
      · exact Ex_done (t := (_, _)) l ho' ⟨hj, iA, hI.2.2.1, hI.2.2.2.1, hi_c hp⟩ rfl
      · exact Ex_yield (t := (_, _)) l ho' ⟨hj, iA, hI.2.2.1, hI.2.2.2.1, hp⟩ rfl
    | false =>
      have ho' := ho.push (hb.at iB)
      refine Ex_bind (Ex_elem iB (Ex_beq (Ex_ret l (((hB.ext _ _).app (hA.ext _ _)).app ho'.rev)) fun hc => ?_))
      have hj := hi_d hI.2.2.1 hc
      have hp := hi_b hI.2.2.1 hI.2.2.2.2
      refine Ex_ite (fun _ => ?_) (fun _ => ?_)
      · exact Ex_done (t := (_, _)) l ho' ⟨hI.1, hI.2.1, hj, Nat.le_of_lt iB, hi_c hp⟩ rfl
      · exact Ex_yield (t := (_, _)) l ho' ⟨hI.1, hI.2.1, hj, Nat.le_of_lt iB, hp⟩ rfl
  clear l1 ho hk
  intro o na' nb' t ps2 l2 ho hJ
  dsimp (config := {zeta := false}) only
  refine Ex_bind (Ex_rule ?_)
  refine Ex_loop (τ := Nat × Nat × Nat) (t := (_, _, _)) (fun o i j t X => (i, j, o X, t.1, t.2.1, t.2.2)) (fun x i j => 1 ≤ i ∧ i < qa.size ∧ 2 ≤ j ∧ j ≤ qb.size ∧ i + j ≤ na' + nb') (fun i j => 1 ≤ i ∧ i < qa.size ∧ 2 ≤ j ∧ j ≤ qb.size ∧ i + j ≤ na' + nb') (Like ps) l2 ho ⟨hJ.1, hJ.2.1, hJ.2.2.1, hJ.2.2.2.1, Nat.le_refl _⟩ ?_ (fun i j h => h) (fun o rest ps' l ho => Ex_ret l ho) ?_
  · clear l2 ho hI hJ
    intro x o na2 nb2 t ps3 _ l3 ho hI
    have hn1 := hI.1
    have hn2 := hI.2.1
    have hn3 := hI.2.2.1
    have hn4 := hI.2.2.2.1
    have hprog2 := hI.2.2.2.2
    clear hI
    have iB : nb2 - 1 < qb.size := hi_e (Nat.le_of_succ_le hn3) hn4
    dsimp only
    generalize t.1 = mg
    refine by_key (A := ?tyK1) (fun key => ?cont1) ?keyG1
    case' cont1 => refine Ex_ite (fun hc => ?brA1) (fun hc => ?brB1)
    case brB1 => clear hc; generalize mg = m; revert m; exact key
    case brA1 => exact key _
    intro m
    refine Ex_mgElGal hb iB ha (Nat.le_trans (Nat.le_of_eq (Nat.zero_add _)) (Nat.le_of_lt hn2)) (hi_e hn1 (Nat.le_refl _)) fun k hk => ?_
    dsimp only
    have l3' := l3.mg m
    refine by_key (A := ?tyK2) (fun key => ?cont2) ?keyG2
    case' cont2 => refine Ex_ite (fun hk0 => ?brA2) (fun hk0 => ?brB2)
    case brB2 =>
      have hk1 := ho
      have hk2 := hn1
      have hk3 := hn2
      have hk4 := hprog2
      generalize na2 - k = ac
      generalize o = o' at hk1 ⊢
      generalize na2 = i at hk2 hk3 hk4 ⊢
      revert hk4 hk3 hk2 i hk1 o' ac
      exact key
    case brA2 =>
      have ho2 := ho.app (hA.ext k na2).rev
      refine Ex_beq (Ex_ret l3' (((hA.ext _ _).app (hB.ext _ _)).app ho2.rev)) fun hc2 => ?_
      exact key _ _ ho2 _ (Nat.pos_of_ne_zero hc2) (Nat.lt_of_le_of_lt hk hn2) (hi_f hk hprog2)
    clear ho hk hn1 hn2 hprog2 l3
    intro ac o ho i hi1 hi2 hle
    have iA : i - 1 < qa.size := Nat.lt_of_le_of_lt (Nat.sub_le _ _) hi2
    have ho4 := ho.push (hb.at iB)
    refine Ex_bind (Ex_elem iB (Ex_beq (Ex_ret l3' (((hB.ext _ _).app (hA.ext _ _)).app ho4.rev)) fun hcb => ?_))
    have hn5 := hi_d hn3 hcb
    refine Ex_elGal ha iA hb (Nat.le_trans (Nat.le_of_eq (Nat.zero_add _)) (Nat.le_of_lt iB)) (hi_e (Nat.le_of_succ_le hn5) (Nat.le_refl _)) fun k2 hk2 => ?_
    dsimp only
    refine Ex_ite (fun _ => Ex_beq (Ex_ret l3' (((hB.ext _ _).app (hA.ext _ _)).app (ho4.app (hB.ext _ _).rev).rev)) fun hc2 => Ex_beq (Ex_ret l3' (((hA.ext _ _).app (hB.ext _ _)).app (ho4.app (hB.ext _ _).rev).rev)) fun hc3 => ?_) fun _ => ?_
    case' refine_1 =>
      have ho5 := ho4.app (hB.ext k2 (nb2 - 1)).rev
      have hj := hi_h hc2 hc3
      have hj2 : k2 ≤ qb.size := Nat.le_trans hk2 (Nat.le_of_lt iB)
      have hpr6 := hi_g hle hk2
    case' refine_2 =>
      have ho5 := ho4
      have hj := hn5
      have hj2 := Nat.le_of_lt iB
      have hpr6 := hi_g hle (Nat.le_refl _)
    all_goals
      have ho6 := ho5.push (ha.at iA)
      refine Ex_bind (Ex_elem iA (Ex_beq (Ex_ret l3' (((hA.ext _ _).app (hB.ext _ _)).app ho6.rev)) fun hc => ?_))
      have hi6 := Nat.pos_of_ne_zero hc
      refine Ex_ite (fun _ => ?_) (fun _ => ?_)
      · exact Ex_done (t := (_, _, _)) l3' ho6 ⟨hi6, iA, hj, hj2, hpr6⟩ rfl
      · exact Ex_yield (t := (_, _, _)) l3' ho6 ⟨hi6, iA, hj, hj2, hpr6⟩ rfl
  intro o na2 nb2 t ps3 l3 ho hJ2
  dsimp only
  refine Ex_bind (Ex_mg ?_)
  exact Ex_yield (l3.mg _) ho ⟨hJ2.1, hJ2.2.1, hJ2.2.2.1, hJ2.2.2.2.1, by omega⟩ rfl
end
end Mine
end
section
set_option maxRecDepth 10000
set_option linter.unusedSimpArgs false
namespace Mine
open PySem PySem.W PyProof.Rows
section
variable {prog : Program} {w : World} {c : Nat → Nat → Bool} {n : Nat} {ps : PSt}

theorem foldSet_map (f : Nat → Keyed) (s : Nat) : ∀ (l : List (Nat × Nat)) (p : Array Nat),
    (l.map fun x => (f x.1, x.2)).foldl (fun a x => a.setIfInBounds (s + x.2) x.1) (p.map f) = (l.foldl (fun a x => a.setIfInBounds (s + x.2) x.1) p).map f
  | [], _ => rfl
  | x :: l, p => by
    simp only [List.map_cons, List.foldl_cons]
    rw [show (p.map f).setIfInBounds (s + x.2) (f x.1) = (p.setIfInBounds (s + x.2) x.1).map f by rw [Array.map_setIfInBounds]]
    exact foldSet_map f s l _
theorem foldSet_size (s : Nat) : ∀ (l : List (Nat × Nat)) (p : Array Nat), (l.foldl (fun a x => a.setIfInBounds (s + x.2) x.1) p).size = p.size
  | [], _ => rfl
  | x :: l, p => by
    simp only [List.foldl_cons]
    rw [foldSet_size s l, Array.size_setIfInBounds]
theorem foldSet_lt (s : Nat) : ∀ (l : List (Nat × Nat)) (p : Array Nat), (∀ x ∈ l, x.1 < n) → AllLt n p → AllLt n (l.foldl (fun a x => a.setIfInBounds (s + x.2) x.1) p)
  | [], _, _, hp => hp
  | x :: l, p, hl, hp => by
    simp only [List.foldl_cons]
    refine foldSet_lt s l _ (fun y hy => hl y (List.mem_cons_of_mem _ hy)) ?_
    intro y hy
    rcases Array.mem_or_eq_of_mem_setIfInBounds hy with h | h
    · exact hp y h
    · rw [h]; exact hl x (List.mem_cons_self ..)
theorem zipIdx_mapK (f : Nat → Keyed) (q : Array Nat) : (q.map f).toList.zipIdx = q.toList.zipIdx.map fun x => (f x.1, x.2) := by
  rw [Array.toList_map, List.zipIdx_map]
  rfl
theorem zipIdx_lt {q : Array Nat} (h : AllLt n q) : ∀ x ∈ q.toList.zipIdx, x.1 < n := by
  intro x hx
  have := List.fst_mem_of_mem_zipIdx hx
  exact h _ (by simpa using this)

theorem Ex_mergeAt0 {n0 n1 pw y : Nat} {Φ : (SI prog w c n → Bool) → PSt → Prop} (g : Good n ps) (hp : ps.pend = #[(0, n0, pw), (n0, n1, y)]) (h0 : 1 ≤ n0) (h1 : 1 ≤ n1) (hn : n0 + n1 = n)
    (h : ∀ ps', Good n ps' → ps'.pend = #[(0, n0 + n1, pw)] → Φ (fun _ => true) ps') : Ex (fun _ => mergeAt' 0) ps Φ := by
  obtain ⟨p, pend, mg⟩ := ps
  dsimp only at hp
  subst hp
  refine Ex_bind (Ex_get ?_)
  have ep : ((#[(0, n0, pw), (n0, n1, y)] : Array (Nat × Nat × Nat)).setIfInBounds 0 (0, n0 + n1, pw)).eraseIdxIfInBounds (0 + 1) = #[(0, n0 + n1, pw)] := by
    simp [Array.eraseIdxIfInBounds]
  refine Ex_bind (Ex_set (ps' := ⟨p, #[(0, n0 + n1, pw)], mg⟩) (fun X => ?_) ?_)
  · show SortSt.mk' X.kd (p.map X.it) (((#[(0, n0, pw), (n0, n1, y)] : Array (Nat × Nat × Nat)).setIfInBounds 0 (0, n0 + n1, pw)).eraseIdxIfInBounds (0 + 1)) mg none = _
    rw [ep]; rfl
  have gs : p.size = n := g.sz
  refine Ex_bind (Ex_elem (q := p) (by omega) ?_)
  refine Ex_bind (Ex_gallop (q := p) (g.lt _ (by simp)) g.lt (by omega) (by omega) fun k hk => ?_)
  dsimp only
  refine Ex_ite (fun hc => ?_) (fun hc1 => ?_)
  · exact Ex_pure (h _ ⟨g.sz, g.lt⟩ rfl)
  simp only [beq_iff_eq] at hc1
  refine Ex_bind (Ex_elem (q := p) (by omega) ?_)
  refine Ex_bind (Ex_gallop (q := p) (g.lt _ (by simp)) g.lt (by omega) (by omega) fun k2 hk2 => ?_)
  dsimp only
  refine Ex_ite (fun hc => ?_) (fun hc2 => ?_)
  · exact Ex_pure (h _ ⟨g.sz, g.lt⟩ rfl)
  simp only [beq_iff_eq] at hc2
  have fin : ∀ (q : Array Nat) (ps' : PSt), AllLt n q → Like ⟨p, #[(0, n0 + n1, pw)], mg⟩ ps' → Ex (fun (X : SI prog w c n) => (do
      modify fun s => setArr s ((q.map X.it).toList.zipIdx.foldl (fun a x => a.setIfInBounds (0 + k + x.2) x.1) (arrOf s))
      let s ← get
      pure (failedOf s).isNone : StateT SortSt Sem Bool)) ps' Φ := by
    rintro q ⟨p', pend', mg'⟩ hq ⟨e1, e2⟩
    dsimp only at e1 e2
    subst e1 e2
    refine Ex_bind (Ex_modify (ps' := ⟨q.toList.zipIdx.foldl (fun a x => a.setIfInBounds (0 + k + x.2) x.1) p', #[(0, n0 + n1, pw)], mg'⟩) (fun X => ?_) ?_)
    · show SortSt.mk' X.kd ((q.map X.it).toList.zipIdx.foldl (fun a x => a.setIfInBounds (0 + k + x.2) x.1) (p'.map X.it)) _ _ none = _
      rw [zipIdx_mapK, foldSet_map]
      rfl
    · refine Ex_bind (Ex_get ?_)
      exact Ex_pure (h _ ⟨by rw [foldSet_size]; exact g.sz, foldSet_lt _ _ _ (zipIdx_lt hq) g.lt⟩ rfl)
  have hx : AllLt n (p.extract (0 + k) n0) := AllLt.extract g.lt _ _
  have hy : AllLt n (p.extract n0 (n0 + k2)) := AllLt.extract g.lt _ _
  have ex : (p.extract (0 + k) n0).size = n0 - k := by rw [Array.size_extract]; omega
  have ey : (p.extract n0 (n0 + k2)).size = k2 := by rw [Array.size_extract]; omega
  refine Ex_ite (fun hc => ?_) (fun hc => ?_)
  · refine Ex_bind (a := fun X => mergeLoF ((p.map X.it).extract (0 + k) n0) ((p.map X.it).extract n0 (n0 + k2))) ?_
    simp only [← Array.map_extract]
    refine Ex_mergeLo hx hy (by omega) (by omega) fun q ps' hq hl => ?_
    exact fin q ps' hq hl
  · refine Ex_bind (a := fun X => mergeHiF ((p.map X.it).extract (0 + k) n0) ((p.map X.it).extract n0 (n0 + k2))) ?_
    simp only [← Array.map_extract]
    refine Ex_mergeHi hx hy (by omega) (by omega) fun q ps' hq hl => ?_
    exact fin q ps' hq hl
end
end Mine
end
section
set_option maxRecDepth 10000
set_option linter.unusedSimpArgs false
namespace Mine
open PySem PySem.W PyProof.Rows
section
variable {prog : Program} {w : World} {c : Nat → Nat → Bool} {n : Nat} {ps : PSt}

theorem minRun_fits (h2 : 2 ≤ n) (h65 : n ≤ 65) : 1 ≤ minRun' n n 0 ∧ minRun' n n 0 ≤ n ∧ n ≤ 2 * minRun' n n 0 := by
  by_cases h : n < 64
  · obtain ⟨f, rfl⟩ : ∃ f, n = f + 1 := ⟨n - 1, by omega⟩
    rw [minRun'_succ, if_pos h]
    omega
  · have : n = 64 ∨ n = 65 := by omega
    rcases this with rfl | rfl
    · have : minRun' 64 64 0 = 32 := by decide
      omega
    · have : minRun' 65 65 0 = 33 := by decide
      omega

theorem Ex_pend (F : Array (Nat × Nat × Nat) → Array (Nat × Nat × Nat)) {Φ : (SI prog w c n → Unit) → PSt → Prop} (h : Φ (fun _ => ()) { ps with pend := F ps.pend }) :
    Ex (fun _ => modify fun s => setPending s (F (pendingOf s))) ps Φ := Ex_modify (fun _ => rfl) h

theorem Ex_sortRuns {Φ : (SI prog w c n → Unit) → PSt → Prop} (g : Good n ps) (hp : ps.pend = #[]) (h2 : 2 ≤ n) (h65 : n ≤ 65) (h : ∀ ps', Good n ps' → Φ (fun _ => ()) ps') : Ex (fun _ => sortRuns') ps Φ := by
  obtain ⟨hm1, hm2, hm3⟩ := minRun_fits h2 h65
  rw [sortRuns'_eq]
  refine Ex_bind (Ex_get ?_)
  have es : ∀ X : SI prog w c n, (arrOf (X.st ps)).size = n := fun X => by
    show (ps.p.map X.it).size = n
    rw [Array.size_map, g.sz]
  simp (config := {zeta := false}) only [es]
  obtain ⟨mr, hmr⟩ : ∃ mr, mr = minRun' n n 0 := ⟨_, rfl⟩
  rw [← hmr] at hm1 hm2 hm3
  refine Ex_bfor (fun x b ps' => Good n ps' ∧ ∃ lo, (b = fun _ => (none, lo)) ∧
      ((x = 0 ∧ lo = 0 ∧ ps'.pend = #[]) ∨ (1 ≤ x ∧ lo = n ∧ ps'.pend = #[(0, n, 0)]) ∨ (x = 1 ∧ mr ≤ lo ∧ lo < n ∧ ps'.pend = #[(0, lo, 0)]) ∨ (2 ≤ x ∧ lo = n ∧ ∃ n0 n1 pw, 1 ≤ n0 ∧ 1 ≤ n1 ∧ n0 + n1 = n ∧ ps'.pend = #[(0, n0, pw), (n0, n1, 0)])))
    (fun b ps' => Good n ps' ∧ (b = fun _ => (none, n)) ∧ (ps'.pend = #[(0, n, 0)] ∨ ∃ n0 n1 pw, 1 ≤ n0 ∧ 1 ≤ n1 ∧ n0 + n1 = n ∧ ps'.pend = #[(0, n0, pw), (n0, n1, 0)]))
    ⟨g, 0, rfl, .inl ⟨rfl, rfl, hp⟩⟩ ?_ ?_ ?_
  · rintro x b ps1 _ hx ⟨g1, lo, rfl, hcase⟩
    dsimp only
    refine Ex_ite (fun hlo => ?_) (fun hlo => ?_)
    · refine Ex_pure (.inr ⟨_, fun _ => rfl, g1, ?_⟩)
      rcases hcase with ⟨rfl, rfl, hp1⟩ | ⟨hx1, rfl, hp1⟩ | ⟨hx1, hl1, hl2, hp1⟩ | ⟨hx1, rfl, hp1⟩
      · omega
      · exact ⟨rfl, .inl hp1⟩
      · omega
      · exact ⟨rfl, .inr hp1⟩
    have hlo' : lo < n := by omega
    have hcase' : (x = 0 ∧ lo = 0 ∧ ps1.pend = #[]) ∨ (x = 1 ∧ mr ≤ lo ∧ ps1.pend = #[(0, lo, 0)]) := by
      rcases hcase with h' | ⟨_, h', _⟩ | ⟨h1, h2, h3, h4⟩ | ⟨_, h', _⟩
      · exact .inl h'
      · omega
      · exact .inr ⟨h1, h2, h4⟩
      · omega
    refine Ex_bind (Ex_countRun g1 (by omega) (by omega) fun k ps2 g2 hp2 hk1 hk2 => ?_)
    dsimp only
    refine Ex_ite (fun hlt => ?_) (fun hlt => ?_)
    case' refine_1 =>
      refine Ex_bind (Ex_rule ?_)
      refine Ex_bind (Ex_binarySort g2 (by omega) fun ps3 g3 hp3' => ?_)
      simp only [Bool.not_true, Bool.false_eq_true, if_false]
      have hp3 := hp3'.trans hp2
      generalize hr : min (n - lo) (minRun' n n 0) = r
      have hr1 : mr ≤ r ∨ r = n - lo := by omega
      have hr2 : r ≤ n - lo := by omega
      have hr3 : 1 ≤ r := by omega
    case' refine_2 =>
      have hr1 : mr ≤ k ∨ k = n - lo := by omega
      have hr2 := hk2
      have hr3 := hk1
      have g3 := g2
      have hp3 := hp2
      generalize ps2 = ps3 at g3 hp3 ⊢
      generalize k = r at hr1 hr2 hr3 ⊢
    all_goals
      rcases hcase' with ⟨hx0, hl0, hpe⟩ | ⟨hx1, hl1, hpe⟩
      · refine Ex_bind (Ex_get ?_)
        have e1 := hp3.trans hpe
        simp only [show ∀ X : SI prog w c n, (pendingOf (X.st _)).back? = none from fun X => (congrArg Array.back? e1).trans rfl]
        refine Ex_bind (Ex_pend (fun p => p.push (lo, r, 0)) ?_)
        refine Ex_pure (.inl ⟨_, fun _ => rfl, ⟨g3.sz, g3.lt⟩, lo + r, rfl, ?_⟩)
        rw [e1, hl0]
        by_cases hrn : r = n
        · exact .inr (.inl ⟨by omega, by omega, by rw [hrn]; rfl⟩)
        · exact .inr (.inr (.inl ⟨by omega, by omega, by omega, by rw [Nat.zero_add]; rfl⟩))
      · refine Ex_bind (Ex_get ?_)
        have e1 := hp3.trans hpe
        simp only [show ∀ X : SI prog w c n, (pendingOf (X.st _)).back? = some (0, lo, 0) from fun X => (congrArg Array.back? e1).trans rfl]
        refine Ex_bfor (fun _ b ps' => ps' = ps3 ∧ b = fun _ => (none, ())) (fun b ps' => ps' = ps3 ∧ b = fun _ => (none, ())) ⟨rfl, rfl⟩ ?_ (fun _ _ hh => hh) ?_
        · rintro x b _ _ _ ⟨rfl, rfl⟩
          refine Ex_bind (Ex_get ?_)
          simp only [show ∀ X : SI prog w c n, pendingOf (X.st _) = #[(0, lo, 0)] from fun X => e1]
          exact Ex_pure (.inr ⟨_, fun _ => rfl, rfl, rfl⟩)
        rintro b _ ⟨rfl, rfl⟩
        dsimp only
        refine Ex_bind (Ex_pend (fun p => p.modify (p.size - 1) fun x => (x.1, x.2.1, power' n (2 * 0 + lo) (2 * 0 + lo + lo + r) n)) ?_)
        refine Ex_bind (Ex_pend (fun p => p.push (lo, r, 0)) ?_)
        refine Ex_pure (.inl ⟨_, fun _ => rfl, ⟨g3.sz, g3.lt⟩, lo + r, rfl, ?_⟩)
        refine .inr (.inr (.inr ⟨by omega, by omega, lo, r, power' n (2 * 0 + lo) (2 * 0 + lo + lo + r) n, by omega, hr3, by omega, ?_⟩))
        dsimp only
        rw [e1]; rfl
  · rintro b ps1 ⟨g1, lo, rfl, hcase⟩
    refine ⟨g1, ?_⟩
    rcases hcase with ⟨hx, rfl, hp1⟩ | ⟨hx1, rfl, hp1⟩ | ⟨hx1, hl1, hl2, hp1⟩ | ⟨hx1, rfl, hp1⟩
    · omega
    · exact ⟨rfl, .inl hp1⟩
    · omega
    · exact ⟨rfl, .inr hp1⟩
  rintro b ps1 ⟨g1, rfl, hp1⟩
  refine Ex_bfor (fun x b ps' => Good n ps' ∧ (b = fun _ => (none, ())) ∧ (ps'.pend.size = 1 ∨ ∃ n0 n1 pw, 1 ≤ n0 ∧ 1 ≤ n1 ∧ n0 + n1 = n ∧ ps'.pend = #[(0, n0, pw), (n0, n1, 0)]))
    (fun b ps' => Good n ps' ∧ (b = fun _ => (none, ()))) ⟨g1, rfl, ?_⟩ ?_ ?_ ?_
  · rcases hp1 with e | e
    · exact .inl (by rw [e]; rfl)
    · exact .inr e
  · rintro x b ps2 _ _ ⟨g2, rfl, hcase⟩
    refine Ex_bind (Ex_get ?_)
    rcases hcase with hs | ⟨n0, n1, pw, h0, h1, hn, hp2⟩
    · simp only [show ∀ X : SI prog w c n, (pendingOf (X.st ps2)).size = 1 from fun X => hs]
      exact Ex_pure (.inr ⟨_, fun _ => rfl, g2, rfl⟩)
    · simp only [show ∀ X : SI prog w c n, pendingOf (X.st ps2) = #[(0, n0, pw), (n0, n1, 0)] from fun X => hp2]
      refine Ex_bind (Ex_mergeAt0 g2 hp2 h0 h1 hn fun ps3 g3 hp3 => ?_)
      exact Ex_pure (.inl ⟨_, fun _ => rfl, g3, rfl, .inl (by rw [hp3]; rfl)⟩)
  · rintro b ps2 ⟨g2, e, _⟩
    exact ⟨g2, e⟩
  rintro b ps2 ⟨g2, rfl⟩
  exact Ex_pure (h ps2 g2)
end
end Mine
end
section
set_option maxRecDepth 10000
set_option exponentiation.threshold 2100
namespace Mine
open PySem PySem.Float64

theorem rep_exists : ∀ (j a : Nat), a < 2 ^ 53 → ∃ t, V t = a * 2 ^ j
  | 0, a, h => ⟨0 * 2 ^ 52 + a, V_at (by omega) (.inr rfl)⟩
  | j + 1, a, h => by
    by_cases h2 : 2 ^ 52 ≤ a
    · exact ⟨(j + 1) * 2 ^ 52 + a, V_at (by omega) (.inl h2)⟩
    · obtain ⟨t, ht⟩ := rep_exists j (2 * a) (by omega)
      exact ⟨t, by rw [ht, Nat.pow_succ]; ac_rfl⟩

theorem dist_zero {a b : Nat} (h : dist a b ≤ 0) : a = b := by unfold dist at h; omega
theorem dist_self (a : Nat) : dist a a = 0 := by unfold dist; omega

theorem right_is {r : UInt64} {neg : Bool} {W D a j : Nat} (H : Right r neg W D) (hD : 0 < D) (hW : W = D * (a * 2 ^ j)) (ha : a < 2 ^ 53) (hj : j ≤ 1074) :
    ∃ m e, decode r = .fin neg m e ∧ val r = sgn neg (a * 2 ^ j) := by
  obtain ⟨t, rfl, hle, hinf, hn⟩ := H
  obtain ⟨t0, h0⟩ := rep_exists j a ha
  have hb : a * 2 ^ j < 2 ^ 53 * 2 ^ 1074 := Nat.lt_of_lt_of_le (Nat.mul_lt_mul_of_pos_right ha (Nat.two_pow_pos _)) (Nat.mul_le_mul_left _ (Nat.pow_le_pow_right (by decide) hj))
  have hb2 : 2 * (2 ^ 53 * 2 ^ 1074) ≤ (2 ^ 54 - 1) * 2 ^ 2045 := by decide +kernel
  have hlt : t < infMag := by
    refine Nat.lt_of_le_of_ne hle fun e => ?_
    have h1 := hinf.mp e
    rw [hW] at h1
    have h2 : D * ((2 ^ 54 - 1) * 2 ^ 2045) ≤ D * (2 * (a * 2 ^ j)) := by
      rw [show D * (2 * (a * 2 ^ j)) = 2 * (D * (a * 2 ^ j)) by ac_rfl]; exact h1
    have h3 := Nat.le_of_mul_le_mul_left h2 hD
    exact absurd (Nat.le_trans hb2 h3) (by
      intro h4
      have : 2 ^ 53 * 2 ^ 1074 ≤ a * 2 ^ j := Nat.le_of_mul_le_mul_left h4 (by decide)
      exact absurd hb (Nat.not_lt.mpr this))
  have h1 := (hn hlt t0).1
  rw [h0, hW, dist_self] at h1
  have h2 : D * (a * 2 ^ j) = D * V t := dist_zero h1
  have h3 : a * 2 ^ j = V t := Nat.eq_of_mul_eq_mul_left hD h2
  obtain ⟨m, e, hd, hv⟩ := decode_pack neg hlt
  refine ⟨m, e, hd, ?_⟩
  rw [val_eq hd, hv, h3]

/-- the float's value is k / 2^e -/
structure Is (x : UInt64) (k : Int) (e : Nat) : Prop where
  fin : ∃ s m f, decode x = .fin s m f
  val : val x = k * 2 ^ (1074 - e)

theorem pow_cast (j : Nat) : ((2 ^ j : Nat) : Int) = 2 ^ j := by simp
theorem pow_posI (j : Nat) : (0 : Int) < 2 ^ j := by rw [← pow_cast]; exact Int.ofNat_lt.mpr (Nat.two_pow_pos _)

theorem sgn_neg_of {k : Int} : sgn (decide (k < 0)) k.natAbs = k := by
  unfold sgn
  by_cases h : k < 0
  · simp [h]; omega
  · simp [h]; omega
theorem natAbs_mulpow (k : Int) (j : Nat) : (k * 2 ^ j).natAbs = k.natAbs * 2 ^ j := by rw [Int.natAbs_mul, Int.natAbs_pow]; rfl
theorem neg_mulpow (k : Int) (j : Nat) : decide (k * 2 ^ j < 0) = decide (k < 0) := by
  have := pow_posI j
  by_cases h : k < 0
  · simp [h, Int.mul_neg_of_neg_of_pos h this]
  · have : 0 ≤ k * 2 ^ j := Int.mul_nonneg (by omega) (by omega)
    simp [h]; omega
theorem sgn_mulpow (k : Int) (j : Nat) : sgn (decide (k < 0)) (k.natAbs * 2 ^ j) = k * 2 ^ j := by
  rw [sgn_mul, sgn_neg_of, pow_cast]
theorem mulpow_eq_zero {k : Int} {j : Nat} (h : k * 2 ^ j = 0) : k = 0 := by
  rcases Int.mul_eq_zero.mp h with h | h
  · exact h
  · exact absurd h (Int.ne_of_gt (pow_posI j))

theorem Is.zero (b : Bool) (e : Nat) : Is (zero b) 0 e := by
  have h : ∃ m f, decode (Float64.zero b) = .fin b m f ∧ m * 2 ^ (f + 1074).toNat = V 0 := decode_pack b (by decide)
  obtain ⟨m, f, hd, hv⟩ := h
  refine ⟨⟨b, m, f, hd⟩, ?_⟩
  rw [val_eq hd, hv, V_zero, Int.zero_mul]
  cases b <;> rfl

theorem Is.add {x y : UInt64} {a b : Int} {e : Nat} (hx : Is x a e) (hy : Is y b e) (h : (a + b).natAbs < 2 ^ 53) : Is (add x y) (a + b) e := by
  obtain ⟨s, m, f, dx⟩ := hx.fin
  obtain ⟨s', m', f', dy⟩ := hy.fin
  have hs : Float64.val x + Float64.val y = (a + b) * 2 ^ (1074 - e) := by rw [hx.val, hy.val, Int.add_mul]
  obtain ⟨h1, h2⟩ := add_right dx dy
  rw [hs] at h1 h2
  by_cases hz : (a + b) * 2 ^ (1074 - e) = 0
  · rw [h1 hz, mulpow_eq_zero hz]; exact Is.zero _ _
  · have H := h2 hz
    rw [neg_mulpow, natAbs_mulpow] at H
    obtain ⟨m, f, hd, hv⟩ := right_is H (by decide) (by rw [Nat.one_mul]) h (by omega)
    exact ⟨⟨_, m, f, hd⟩, by rw [hv, sgn_mulpow]⟩

theorem Is.neg {x : UInt64} {a : Int} {e : Nat} (hx : Is x a e) : Is (neg x) (-a) e := by
  obtain ⟨s, m, f, dx⟩ := hx.fin
  exact ⟨⟨_, _, _, neg_decode dx⟩, by rw [neg_val dx, hx.val, Int.neg_mul]⟩
theorem Is.sub {x y : UInt64} {a b : Int} {e : Nat} (hx : Is x a e) (hy : Is y b e) (h : (a - b).natAbs < 2 ^ 53) : Is (sub x y) (a - b) e := by
  have := hx.add hy.neg (by rw [← Int.sub_eq_add_neg]; exact h)
  rw [← Int.sub_eq_add_neg] at this
  unfold Float64.sub
  exact this

theorem sgn_bne (a b : Bool) (m k : Nat) : sgn (a != b) (m * k) = sgn a m * sgn b k := by
  unfold sgn
  cases a <;> cases b <;> simp [Int.neg_mul, Int.mul_neg]

theorem Is.mul {x y : UInt64} {a b : Int} {e f : Nat} (hx : Is x a e) (hy : Is y b f) (h : (a * b).natAbs < 2 ^ 53) (hef : e + f ≤ 1074) : Is (mul x y) (a * b) (e + f) := by
  obtain ⟨s, m, g, dx⟩ := hx.fin
  obtain ⟨s', m', g', dy⟩ := hy.fin
  have H := mul_right dx dy
  have hpw : 2 ^ (1074 - e) * 2 ^ (1074 - f) = 2 ^ 1074 * 2 ^ (1074 - (e + f)) := by
    rw [← Nat.pow_add, ← Nat.pow_add]; congr 1; omega
  have hW : (Float64.val x).natAbs * (Float64.val y).natAbs = 2 ^ 1074 * ((a * b).natAbs * 2 ^ (1074 - (e + f))) := by
    rw [hx.val, hy.val, natAbs_mulpow, natAbs_mulpow, Int.natAbs_mul]
    calc a.natAbs * 2 ^ (1074 - e) * (b.natAbs * 2 ^ (1074 - f)) = a.natAbs * b.natAbs * (2 ^ (1074 - e) * 2 ^ (1074 - f)) := by ac_rfl
      _ = _ := by rw [hpw]; ac_rfl
  obtain ⟨m2, f2, hd, hv⟩ := right_is H (Nat.two_pow_pos _) hW h (by omega)
  refine ⟨⟨_, m2, f2, hd⟩, ?_⟩
  rw [hv]
  have e1 : sgn (s != s') ((Float64.val x).natAbs * (Float64.val y).natAbs) = Float64.val x * Float64.val y := by
    rw [sgn_bne]
    congr 1
    · rw [val_natAbs dx, val_eq dx]
    · rw [val_natAbs dy, val_eq dy]
  have e2 : sgn (s != s') (2 ^ 1074 * ((a * b).natAbs * 2 ^ (1074 - (e + f)))) = ((2 ^ 1074 : Nat) : Int) * sgn (s != s') ((a * b).natAbs * 2 ^ (1074 - (e + f))) := by
    rw [Nat.mul_comm (2 ^ 1074), sgn_mul, Int.mul_comm]
  have e3 : ((2 ^ 1074 : Nat) : Int) * sgn (s != s') ((a * b).natAbs * 2 ^ (1074 - (e + f))) = ((2 ^ 1074 : Nat) : Int) * (a * b * 2 ^ (1074 - (e + f))) := by
    rw [← e2, ← hW, e1, hx.val, hy.val, ← pow_cast, ← pow_cast, ← pow_cast]
    have : (a * ((2 ^ (1074 - e) : Nat) : Int)) * (b * ((2 ^ (1074 - f) : Nat) : Int)) = a * b * ((2 ^ (1074 - e) * 2 ^ (1074 - f) : Nat) : Int) := by
      rw [Int.natCast_mul]; ac_rfl
    rw [this, hpw, Int.natCast_mul]; ac_rfl
  exact Int.eq_of_mul_eq_mul_left (Int.ne_of_gt (Int.ofNat_lt.mpr (Nat.two_pow_pos _))) e3

theorem Is.up {x : UInt64} {a : Int} {e : Nat} (hx : Is x a e) (j : Nat) (h : e + j ≤ 1074) : Is x (a * 2 ^ j) (e + j) := by
  refine ⟨hx.fin, ?_⟩
  rw [hx.val, Int.mul_assoc, ← Int.pow_add]
  congr 2; omega

theorem Is.ofFrac {a : Int} {j : Nat} {neg : Bool} (hn : neg = decide (a < 0)) (h : a.natAbs < 2 ^ 53) (hj : j ≤ 1074) : Is (ofFrac neg a.natAbs (2 ^ j)) a j := by
  subst hn
  have H : Right (Float64.ofFrac (decide (a < 0)) a.natAbs (2 ^ j)) (decide (a < 0)) (a.natAbs * 2 ^ 1074) (2 ^ j) := ofFrac_right (Nat.two_pow_pos _) rfl (Nat.two_pow_pos _)
  have hW : a.natAbs * 2 ^ 1074 = 2 ^ j * (a.natAbs * 2 ^ (1074 - j)) := by
    have : 2 ^ 1074 = 2 ^ j * 2 ^ (1074 - j) := by rw [← Nat.pow_add]; congr 1; omega
    rw [this]; ac_rfl
  obtain ⟨m, f, hd, hv⟩ := right_is H (Nat.two_pow_pos _) hW h (by omega)
  exact ⟨⟨_, m, f, hd⟩, by rw [hv, sgn_mulpow]⟩
theorem Is.ofInt {a : Int} (h : a.natAbs < 2 ^ 53) : Is (ofInt a) a 0 := by
  have := Is.ofFrac (a := a) (j := 0) rfl h (by omega)
  unfold Float64.ofInt
  exact this

theorem compare_mul {a b : Int} {j : Nat} : compare (a * 2 ^ j) (b * 2 ^ j) = compare a b := by
  have hp := pow_posI j
  rcases Int.lt_trichotomy a b with h | h | h
  · have : a * 2 ^ j < b * 2 ^ j := Int.mul_lt_mul_of_pos_right h hp
    rw [Int.compare_eq_lt.mpr this, Int.compare_eq_lt.mpr h]
  · subst h; simp
  · have : b * 2 ^ j < a * 2 ^ j := Int.mul_lt_mul_of_pos_right h hp
    rw [Int.compare_eq_gt.mpr this, Int.compare_eq_gt.mpr h]
theorem Is.cmp {x y : UInt64} {a b : Int} {e : Nat} (hx : Is x a e) (hy : Is y b e) : cmp x y = some (compare a b) := by
  obtain ⟨s, m, g, dx⟩ := hx.fin
  obtain ⟨s', m', g', dy⟩ := hy.fin
  rw [cmp_right dx dy, hx.val, hy.val, compare_mul]
theorem Is.cmpInt {x : UInt64} {a : Int} {e : Nat} (hx : Is x a e) (he : e ≤ 1074) (i : Int) : cmpInt x i = some (compare a (i * 2 ^ e)) := by
  obtain ⟨s, m, g, dx⟩ := hx.fin
  rw [cmpInt_right dx, hx.val]
  have : i * 2 ^ 1074 = i * 2 ^ e * 2 ^ (1074 - e) := by
    rw [Int.mul_assoc, ← Int.pow_add]; congr 2; omega
  rw [this, compare_mul]
theorem Is.finite {x : UInt64} {a : Int} {e : Nat} (hx : Is x a e) : isFinite x = true := by
  obtain ⟨s, m, g, dx⟩ := hx.fin
  unfold isFinite; rw [dx]
end Mine
end
section
set_option maxRecDepth 10000
namespace Mine

/-- the unit hexagon's corner walk: the point of hue a (64ths of a turn), times 64 -/
def ux (a : Int) : Int :=
  if a * 6 / 64 = 0 then 128 - a * 6 % 64 else if a * 6 / 64 = 1 then 64 - 2 * (a * 6 % 64) else if a * 6 / 64 = 2 then -(64 + a * 6 % 64)
  else if a * 6 / 64 = 3 then -(128 - a * 6 % 64) else if a * 6 / 64 = 4 then 2 * (a * 6 % 64) - 64 else 64 + a * 6 % 64
def uy (a : Int) : Int :=
  if a * 6 / 64 = 0 then a * 6 % 64 else if a * 6 / 64 = 1 then 64 else if a * 6 / 64 = 2 then 64 - a * 6 % 64
  else if a * 6 / 64 = 3 then -(a * 6 % 64) else if a * 6 / 64 = 4 then -64 else -(64 - a * 6 % 64)
def cr (a b : Int) : Int := ux a * uy b - uy a * ux b
def sideOf (a : Int) : Int := if uy a > 0 ∨ (uy a = 0 ∧ ux a > 0) then 0 else 1

theorem fin64 {P : Int → Prop} (h : ∀ a : Fin 64, P a.val) {a : Int} (h0 : 0 ≤ a) (h1 : a < 64) : P a := by
  have := h ⟨a.toNat, by omega⟩
  rwa [show ((⟨a.toNat, by omega⟩ : Fin 64).val : Int) = a by simp; omega] at this

def allTwo : Bool := (List.range 64).all fun a => (List.range 64).all fun b =>
  (decide (0 < cr a b) == (decide (0 < ((b : Int) - a) % 64) && decide (((b : Int) - a) % 64 < 32))) && (decide (cr a b < 0) == decide (32 < ((b : Int) - a) % 64)) &&
  (!((a : Int) * 6 / 64 == (b : Int) * 6 / 64) || cr a b == 768 * ((b : Int) - a))
theorem allTwo_true : allTwo = true := by decide +kernel
def allOne : Bool := (List.range 64).all fun a => decide (-128 ≤ ux a) && decide (ux a ≤ 128) && decide (-64 ≤ uy a) && decide (uy a ≤ 64) && (sideOf a == (if (a : Int) < 32 then 0 else 1))
theorem allOne_true : allOne = true := by decide +kernel

theorem two_facts {a b : Int} (ha : 0 ≤ a) (ha2 : a < 64) (hb : 0 ≤ b) (hb2 : b < 64) :
    (0 < cr a b ↔ 0 < (b - a) % 64 ∧ (b - a) % 64 < 32) ∧ (cr a b < 0 ↔ 32 < (b - a) % 64) ∧ (a * 6 / 64 = b * 6 / 64 → cr a b = 768 * (b - a)) := by
  have h := allTwo_true
  unfold allTwo at h
  rw [List.all_eq_true] at h
  have h1 := h a.toNat (by simp; omega)
  rw [List.all_eq_true] at h1
  have h2 := h1 b.toNat (by simp; omega)
  rw [show ((a.toNat : Nat) : Int) = a by omega, show ((b.toNat : Nat) : Int) = b by omega] at h2
  simp only [Bool.and_eq_true, beq_iff_eq, Bool.or_eq_true, Bool.not_eq_true', beq_eq_false_iff_ne] at h2
  obtain ⟨⟨h3, h4⟩, h5⟩ := h2
  refine ⟨?_, ?_, ?_⟩
  · rw [Bool.eq_iff_iff] at h3; simpa using h3
  · rw [Bool.eq_iff_iff] at h4; simpa using h4
  · intro h6
    rcases h5 with h5 | h5
    · exact absurd h6 h5
    · exact h5
theorem one_facts {a : Int} (ha : 0 ≤ a) (ha2 : a < 64) : -128 ≤ ux a ∧ ux a ≤ 128 ∧ -64 ≤ uy a ∧ uy a ≤ 64 ∧ sideOf a = (if a < 32 then 0 else 1) := by
  have h := allOne_true
  unfold allOne at h
  rw [List.all_eq_true] at h
  have h1 := h a.toNat (by simp; omega)
  rw [show ((a.toNat : Nat) : Int) = a by omega] at h1
  simp only [Bool.and_eq_true, beq_iff_eq, decide_eq_true_eq] at h1
  obtain ⟨⟨⟨⟨h1, h2⟩, h3⟩, h4⟩, h5⟩ := h1
  exact ⟨h1, h2, h3, h4, h5⟩

/-- what _law_turning tells of two hues, up to a positive factor of its second way -/
theorem turn_facts {a b : Int} (ha : 0 ≤ a) (ha2 : a < 64) (hb : 0 ≤ b) (hb2 : b < 64) :
    (sideOf a ≠ sideOf b → (sideOf a - sideOf b < 0 ↔ a < b) ∧ (sideOf a - sideOf b = 0 ↔ a = b)) ∧ (sideOf a = sideOf b → (cr b a < 0 ↔ a < b) ∧ (cr b a = 0 ↔ a = b)) := by
  obtain ⟨_, _, _, _, e1⟩ := one_facts ha ha2
  obtain ⟨_, _, _, _, e2⟩ := one_facts hb hb2
  obtain ⟨h1, h2, _⟩ := two_facts hb hb2 ha ha2
  rw [e1, e2]
  have hm : (b ≤ a ∧ (a - b) % 64 = a - b) ∨ (a < b ∧ (a - b) % 64 = a - b + 64) := by
    by_cases h : b ≤ a
    · exact .inl ⟨h, Int.emod_eq_of_lt (by omega) (by omega)⟩
    · refine .inr ⟨by omega, ?_⟩
      rw [← Int.add_emod_right]
      exact Int.emod_eq_of_lt (by omega) (by omega)
  refine ⟨fun h => ?_, fun h => ?_⟩
  · by_cases h3 : a < 32 <;> by_cases h4 : b < 32 <;> simp [h3, h4] at h ⊢ <;> omega
  · by_cases h3 : a < 32 <;> by_cases h4 : b < 32 <;> simp [h3, h4] at h ⊢ <;> omega

/-- the colour's parts, times 4096 -/
def cV (v : Int) : Int := 512 * v
def cP (d v : Int) : Int := 512 * v - 64 * d
def cQ (hue d v : Int) : Int := 512 * v - d * (hue * 6 % 64)
def cT (hue d v : Int) : Int := 512 * v - d * (64 - hue * 6 % 64)
def cR (hue d v : Int) : Int := if hue * 6 / 64 % 6 = 0 then cV v else if hue * 6 / 64 % 6 = 1 then cQ hue d v else if hue * 6 / 64 % 6 = 2 then cP d v
  else if hue * 6 / 64 % 6 = 3 then cP d v else if hue * 6 / 64 % 6 = 4 then cT hue d v else cV v
def cG (hue d v : Int) : Int := if hue * 6 / 64 % 6 = 0 then cT hue d v else if hue * 6 / 64 % 6 = 1 then cV v else if hue * 6 / 64 % 6 = 2 then cV v
  else if hue * 6 / 64 % 6 = 3 then cQ hue d v else if hue * 6 / 64 % 6 = 4 then cP d v else cP d v
def cB (hue d v : Int) : Int := if hue * 6 / 64 % 6 = 0 then cP d v else if hue * 6 / 64 % 6 = 1 then cP d v else if hue * 6 / 64 % 6 = 2 then cT hue d v
  else if hue * 6 / 64 % 6 = 3 then cV v else if hue * 6 / 64 % 6 = 4 then cV v else cQ hue d v

theorem hue_sector (hue : Int) : hue % 64 * 6 / 64 = hue * 6 / 64 % 6 ∧ hue % 64 * 6 % 64 = hue * 6 % 64 := by
  obtain ⟨t, r, h0, h1, rfl⟩ : ∃ t r : Int, 0 ≤ r ∧ r < 64 ∧ hue = r + 64 * t := ⟨hue / 64, hue % 64, by omega, by omega, by omega⟩
  have e1 : (r + 64 * t) % 64 = r := by omega
  have e2 : (r + 64 * t) * 6 / 64 = r * 6 / 64 + 6 * t := by omega
  rw [e1, e2]
  refine ⟨?_, by omega⟩
  rw [Int.add_mul_emod_self_left]
  exact (Int.emod_eq_of_lt (by omega) (by omega)).symm

theorem point_x (hue d v : Int) : 2 * cR hue d v - cG hue d v - cB hue d v = d * ux (hue % 64) := by
  obtain ⟨h1, h2⟩ := hue_sector hue
  unfold cR cG cB ux cV cP cQ cT
  rw [h1, h2]
  (repeat' split) <;> grind
theorem point_y (hue d v : Int) : cG hue d v - cB hue d v = d * uy (hue % 64) := by
  obtain ⟨h1, h2⟩ := hue_sector hue
  unfold cG cB uy cV cP cQ cT
  rw [h1, h2]
  (repeat' split) <;> grind

theorem ends {hue d v : Int} (h0 : 0 ≤ d) : (∀ z, z = cR hue d v ∨ z = cG hue d v ∨ z = cB hue d v → cP d v ≤ z ∧ z ≤ cV v) ∧
    (cR hue d v = cV v ∨ cG hue d v = cV v ∨ cB hue d v = cV v) ∧ (cR hue d v = cP d v ∨ cG hue d v = cP d v ∨ cB hue d v = cP d v) := by
  have hf : 0 ≤ hue * 6 % 64 ∧ hue * 6 % 64 < 64 := by omega
  have hQ : cP d v ≤ cQ hue d v ∧ cQ hue d v ≤ cV v := by
    unfold cP cQ cV
    have h1 : 0 ≤ d * (hue * 6 % 64) := Int.mul_nonneg h0 hf.1
    have h2 : d * (hue * 6 % 64) ≤ d * 64 := Int.mul_le_mul_of_nonneg_left (by omega) h0
    omega
  have hT : cP d v ≤ cT hue d v ∧ cT hue d v ≤ cV v := by
    unfold cP cT cV
    have h1 : 0 ≤ d * (64 - hue * 6 % 64) := Int.mul_nonneg h0 (by omega)
    have h2 : d * (64 - hue * 6 % 64) ≤ d * 64 := Int.mul_le_mul_of_nonneg_left (by omega) h0
    omega
  have hP : cP d v ≤ cV v := by unfold cP cV; omega
  have hs : hue * 6 / 64 % 6 = 0 ∨ hue * 6 / 64 % 6 = 1 ∨ hue * 6 / 64 % 6 = 2 ∨ hue * 6 / 64 % 6 = 3 ∨ hue * 6 / 64 % 6 = 4 ∨ hue * 6 / 64 % 6 = 5 := by omega
  unfold cR cG cB
  rcases hs with h | h | h | h | h | h <;> simp only [h] <;> simp <;> omega
theorem bounds {d v : Int} (h0 : 0 ≤ d) (h1 : d ≤ 64) (hv : 0 ≤ v) (hv1 : v ≤ 8) : -4096 ≤ cP d v ∧ cV v ≤ 4096 := by
  unfold cP cV; omega
end Mine
end
section
set_option maxRecDepth 10000
set_option exponentiation.threshold 2100
namespace Mine
open PySem PySem.Float64

theorem is_one : Is 4607182418800017408 1 0 := ⟨⟨false, 2 ^ 52, -52, by kernel_rfl⟩, by decide +kernel⟩
theorem is_six : Is 4618441417868443648 6 0 := ⟨⟨false, 3 * 2 ^ 51, -50, by kernel_rfl⟩, by decide +kernel⟩
theorem is_zero : Is 0 0 0 := ⟨⟨false, 0, -1074, by kernel_rfl⟩, by decide +kernel⟩

theorem Is.cast {x : UInt64} {a b : Int} {e : Nat} (h : Is x a e) (q : a = b) : Is x b e := q ▸ h

theorem toInt_of {x : UInt64} {a : Int} {e : Nat} (h : Is x a e) (he : e ≤ 1074) (h0 : 0 ≤ a) : Flt.toInt Float64.truncOf x = a / 2 ^ e := by
  obtain ⟨s, m, f, hd⟩ := h.fin
  have hv := h.val
  rw [val_eq hd] at hv
  have hf := decode_ge hd
  have key : ∀ (k : Nat) (b : Int), (k : Int) * 2 ^ (f + 1074).toNat = b * 2 ^ (1074 - e) → floorOf false k f = b / 2 ^ e := by
    intro k b hb
    unfold floorOf
    split
    · rename_i hf0
      have e1 : (f + 1074).toNat = f.toNat + e + (1074 - e) := by omega
      rw [e1, Int.pow_add, ← Int.mul_assoc] at hb
      have h1 := Int.eq_of_mul_eq_mul_right (Int.ne_of_gt (pow_posI (1074 - e))) hb
      rw [← h1, Int.pow_add, ← Int.mul_assoc, Int.mul_ediv_cancel _ (Int.ne_of_gt (pow_posI e))]
      rfl
    · rename_i hf0
      show (sgn false k).fdiv (2 ^ (-f).toNat) = _
      have hs : sgn false k = (k : Int) := rfl
      rw [hs, Int.fdiv_eq_ediv_of_nonneg _ (Int.le_of_lt (pow_posI _))]
      -- k * 2^(f+1074) = b * 2^(1074-e)
      by_cases hc : e ≤ (-f).toNat
      · have e1 : (1074 - e : Nat) = ((-f).toNat - e) + (f + 1074).toNat := by omega
        rw [e1, Int.pow_add, ← Int.mul_assoc] at hb
        have h1 := Int.eq_of_mul_eq_mul_right (Int.ne_of_gt (pow_posI _)) hb
        rw [h1]
        obtain ⟨j, hj⟩ : ∃ j, (-f).toNat = e + j := ⟨(-f).toNat - e, by omega⟩
        rw [hj, Int.pow_add, Nat.add_sub_cancel_left]
        exact Int.mul_ediv_mul_of_pos_left _ _ (pow_posI _)
      · have e1 : (f + 1074).toNat = (e - (-f).toNat) + (1074 - e) := by omega
        rw [e1, Int.pow_add, ← Int.mul_assoc] at hb
        have h1 := Int.eq_of_mul_eq_mul_right (Int.ne_of_gt (pow_posI _)) hb
        rw [← h1]
        obtain ⟨j, hj⟩ : ∃ j, e = (-f).toNat + j := ⟨e - (-f).toNat, by omega⟩
        rw [hj, Int.pow_add, Nat.add_sub_cancel_left]
        exact (Int.mul_ediv_mul_of_pos_left _ _ (pow_posI _)).symm
  have ht : Flt.toInt Float64.truncOf x = truncOf s m f := by unfold Flt.toInt; rw [hd]
  rw [ht]
  cases s with
  | false =>
    have : sgn false (m * 2 ^ (f + 1074).toNat) = (m : Int) * 2 ^ (f + 1074).toNat := by
      show ((m * 2 ^ (f + 1074).toNat : Nat) : Int) = _
      rw [Int.natCast_mul, pow_cast]
    rw [this] at hv
    exact key m a hv
  | true =>
    have : sgn true (m * 2 ^ (f + 1074).toNat) = -((m : Int) * 2 ^ (f + 1074).toNat) := by
      show -((m * 2 ^ (f + 1074).toNat : Nat) : Int) = _
      rw [Int.natCast_mul, pow_cast]
    rw [this] at hv
    have h1 : 0 ≤ a * 2 ^ (1074 - e) := Int.mul_nonneg h0 (Int.le_of_lt (pow_posI _))
    have h2 : 0 ≤ (m : Int) * 2 ^ (f + 1074).toNat := Int.mul_nonneg (by omega) (Int.le_of_lt (pow_posI _))
    have hz : a * 2 ^ (1074 - e) = 0 := by omega
    have ha := mulpow_eq_zero hz
    have hm0 : (m : Int) * 2 ^ (f + 1074).toNat = 0 := by omega
    have hm := mulpow_eq_zero hm0
    have := key m 0 (by rw [hm]; simp)
    show ceilOf true m f = _
    unfold ceilOf
    rw [ha]
    show -floorOf false m f = _
    rw [this]; simp

theorem prod_fits {a b A B : Int} (h0 : 0 ≤ a) (h1 : a ≤ A) (h2 : 0 ≤ b) (h3 : b ≤ B) : 0 ≤ a * b ∧ a * b ≤ A * B :=
  ⟨Int.mul_nonneg h0 h2, Int.mul_le_mul h1 h3 h2 (by omega)⟩

structure Ins (hue share value : Int) : Prop where
  h0 : 0 ≤ hue
  h1 : hue < 256
  s0 : 0 ≤ share
  s1 : share ≤ 8
  v0 : 0 ≤ value
  v1 : value ≤ 8

abbrev RGB (hue share value : Int) (r g b : UInt64) : Prop := Is r (cR hue (value * share) value) 12 ∧ Is g (cG hue (value * share) value) 12 ∧ Is b (cB hue (value * share) value) 12

section
variable {hue share value : Int} {hb sb vb : UInt64}

theorem six_is (I : Ins hue share value) (hh : Is hb hue 6) : Is (mul hb 4618441417868443648) (hue * 6) 6 := by
  have := I.h0; have := I.h1
  exact hh.mul is_six (by omega) (by decide)
theorem int_is (I : Ins hue share value) (hh : Is hb hue 6) : Flt.toInt Float64.truncOf (mul hb 4618441417868443648) = hue * 6 / 64 := by
  have := I.h0
  exact toInt_of (six_is I hh) (by decide) (by omega)
theorem frac_is (I : Ins hue share value) (hh : Is hb hue 6) : Is (sub (mul hb 4618441417868443648) (ofInt (hue * 6 / 64))) (hue * 6 % 64) 6 := by
  have := I.h0; have := I.h1
  have h1 := (Is.ofInt (a := hue * 6 / 64) (by omega)).up 6 (by decide)
  exact ((six_is I hh).sub h1 (by omega)).cast (by omega)

theorem v_is (hv : Is vb value 3) : Is vb (cV value) 12 := (hv.up 9 (by decide)).cast (by unfold cV; omega)
theorem p_is (I : Ins hue share value) (hs : Is sb share 3) (hv : Is vb value 3) : Is (mul vb (sub 4607182418800017408 sb)) (cP (value * share) value) 12 := by
  obtain ⟨_, _, _, _, _, _⟩ := I
  have h1 := (is_one.up 3 (by decide)).sub hs (by omega)
  have hb := prod_fits (a := value) (b := 1 * 2 ^ 3 - share) (A := 8) (B := 8) (by omega) (by omega) (by omega) (by omega)
  have h2 := hv.mul h1 (by omega) (by decide)
  exact (h2.up 6 (by decide)).cast (by unfold cP; grind)
theorem q_is {f : UInt64} (I : Ins hue share value) (hs : Is sb share 3) (hv : Is vb value 3) {F : Int} (hf : Is f F 6) (h0 : 0 ≤ F) (h1 : F ≤ 64) :
    Is (mul vb (sub 4607182418800017408 (mul sb f))) (512 * value - value * share * F) 12 := by
  obtain ⟨_, _, _, _, _, _⟩ := I
  have b1 := prod_fits (a := share) (b := F) (A := 8) (B := 64) (by omega) (by omega) (by omega) (by omega)
  have h2 := hs.mul hf (by omega) (by decide)
  have h3 := (is_one.up 9 (by decide)).sub h2 (by omega)
  have b2 := prod_fits (a := value) (b := 1 * 2 ^ 9 - share * F) (A := 8) (B := 512) (by omega) (by omega) (by omega) (by omega)
  have h4 := hv.mul h3 (by omega) (by decide)
  exact h4.cast (by grind)
theorem rest_is {f : UInt64} {F : Int} (hf : Is f F 6) (h0 : 0 ≤ F) (h1 : F ≤ 64) : Is (sub 4607182418800017408 f) (64 - F) 6 :=
  ((is_one.up 6 (by decide)).sub hf (by omega)).cast (by omega)

theorem rgb_grey (hs : Is sb share 3) (hv : Is vb value 3) (hc : (Float64.cmp sb 0 == some Ordering.eq) = true) : RGB hue share value vb vb vb := by
  rw [hs.cmp (is_zero.up 3 (by decide))] at hc
  have h0 : share = 0 := by
    have : compare share (0 * 2 ^ 3) = .eq := by simpa using hc
    have := Int.compare_eq_eq.mp this
    omega
  subst h0
  have e : ∀ z, z = 512 * value → Is vb z 12 := fun z h => (v_is hv).cast (by unfold cV; omega)
  refine ⟨e _ ?_, e _ ?_, e _ ?_⟩
  · unfold cR cV cQ cP cT; (repeat' split) <;> omega
  · unfold cG cV cQ cP cT; (repeat' split) <;> omega
  · unfold cB cV cQ cP cT; (repeat' split) <;> omega

theorem rgb_parts (I : Ins hue share value) (hh : Is hb hue 6) (hs : Is sb share 3) (hv : Is vb value 3) :
    Is vb (cV value) 12 ∧ Is (mul vb (sub 4607182418800017408 sb)) (cP (value * share) value) 12 ∧
    Is (mul vb (sub 4607182418800017408 (mul sb (sub (mul hb 4618441417868443648) (ofInt (hue * 6 / 64)))))) (cQ hue (value * share) value) 12 ∧
    Is (mul vb (sub 4607182418800017408 (mul sb (sub 4607182418800017408 (sub (mul hb 4618441417868443648) (ofInt (hue * 6 / 64))))))) (cT hue (value * share) value) 12 := by
  have hf := frac_is I hh
  exact ⟨v_is hv, p_is I hs hv, q_is I hs hv hf (by omega) (by omega), q_is I hs hv (rest_is hf (by omega) (by omega)) (by omega) (by omega)⟩
end
end Mine
end
section
open PySem PySem.W PyProof.Rows
set_option maxRecDepth 100000
set_option maxHeartbeats 8000000
open_top Mine.hd for PySem.Challenge.rw_dn0037_01
end
section
open PySem PySem.W PyProof.Rows
set_option maxRecDepth 100000
set_option maxHeartbeats 8000000
namespace Mine
abbrev pt (x y : UInt64) (t u : Tok) : Obj := { cls := .type "tuple", data := .seq #[.float x t, .float y u] }

theorem news_front {h₀ h : Heap} {L : Addr} {news : List (Addr × Obj)} {p : Addr × Obj} (N : News h₀ L h news) (hm : p ∈ news) : News h₀ L h (p :: news) := by
  intro q hq
  rcases List.mem_cons.mp hq with rfl | hq
  · exact N _ hm
  · exact N _ hq
theorem news_tail {h₀ h : Heap} {L : Addr} {news : List (Addr × Obj)} {p : Addr × Obj} (N : News h₀ L h (p :: news)) : News h₀ L h news := fun q hq => N q (List.mem_cons_of_mem _ hq)

section
variable {w : World} {p : Program} {loose : List Str} {mean : ExcName → Option Value} {mg mb : Str → Option Value}
    {dp un : Nat} {gd : Option (List Code)} {cn : Str} {cs : Scope} {a : Addr} {ccd : Value} {cl : List (Str × Addr)} {outer : List Env} {A₀ : Around} {base h₀ : Heap} {L : Addr} {m : Str → Option Value} {s : Shared}
    {Q E : Value → Shared → Prop} {rest : List (Addr × Obj)} {pa qa : Addr} {x1 y1 x2 y2 : UInt64} {t1 u1 t2 u2 : Tok}

theorem cross_c0 
    (B : Below A₀ base outer h₀) (F : Fr h₀ L s.heap m) (X : (Mine.hd.heap_39 w.params).In h₀) (N : News h₀ L s.heap ((pa, pt x1 y1 t1 u1) :: (qa, pt x2 y2 t2 u2) :: rest))
    (T : Top p loose mean mg mb h₀) (hk : cs.kind = .function) (hd : dp + 1 < recursionLimit) (hu : un + 8 < cLine)
    (hret : ∀ (t : Tok) (h' : Heap) (tk' : Nat), Fr h₀ L h' m → News h₀ L h' ((pa, pt x1 y1 t1 u1) :: (qa, pt x2 y2 t2 u2) :: rest) → Q (.float (Float64.sub (Float64.mul x1 y2) (Float64.mul y1 x2)) t) { s with heap := h', toks := tk' }) :
    wpAny (model Challenge.rw_dn0037_01.row.prog w) (ktrTop dp un gd cn cs L a ccd cl outer) (call (.ref 35) [.ref pa, .ref qa]) Q E s := by
  w_strict (
    revert X
    k_fill
    intro X
    refine wpAny_call ?_
    (k_dflt cell_enter)
    k_steps
    all_goals exact hret _ _ _ (by assumption) (by assumption))
theorem cross_c {news : List (Addr × Obj)}
    (B : Below A₀ base outer h₀) (F : Fr h₀ L s.heap m) (X : (Mine.hd.heap_39 w.params).In h₀) (N : News h₀ L s.heap news)
    (T : Top p loose mean mg mb h₀) (hk : cs.kind = .function) (hd : dp + 1 < recursionLimit) (hu : un + 8 < cLine) (hp : (pa, pt x1 y1 t1 u1) ∈ news) (hq : (qa, pt x2 y2 t2 u2) ∈ news)
    (hret : ∀ (t : Tok) (h' : Heap) (tk' : Nat), Fr h₀ L h' m → News h₀ L h' news → Q (.float (Float64.sub (Float64.mul x1 y2) (Float64.mul y1 x2)) t) { s with heap := h', toks := tk' }) :
    wpAny (model Challenge.rw_dn0037_01.row.prog w) (ktrTop dp un gd cn cs L a ccd cl outer) (call (.ref 35) [.ref pa, .ref qa]) Q E s :=
  cross_c0 B F X (news_front (news_front N hq) (List.mem_cons_of_mem _ hp)) T hk hd hu fun t h' tk' F' N' => hret t h' tk' F' (news_tail (news_tail N'))

/-- the side, as the bits tell it -/
def sideB (x y : UInt64) : Bool := (Float64.cmpInt y 0 == some .gt) || ((Float64.cmpInt y 0 == some .eq) && (Float64.cmpInt x 0 == some .gt))
def sideV (x y : UInt64) : Int := if sideB x y then 0 else 1
theorem side_c0
    (B : Below A₀ base outer h₀) (F : Fr h₀ L s.heap m) (X : (Mine.hd.heap_39 w.params).In h₀) (N : News h₀ L s.heap ((pa, pt x1 y1 t1 u1) :: rest))
    (T : Top p loose mean mg mb h₀) (hk : cs.kind = .function) (hd : dp + 1 < recursionLimit) (hu : un + 8 < cLine)
    (hret : ∀ (t : Tok) (h' : Heap) (tk' : Nat), Fr h₀ L h' m → News h₀ L h' ((pa, pt x1 y1 t1 u1) :: rest) → Q (.int (sideV x1 y1) t) { s with heap := h', toks := tk' }) :
    wpAny (model Challenge.rw_dn0037_01.row.prog w) (ktrTop dp un gd cn cs L a ccd cl outer) (call (.ref 42) [.ref pa]) Q E s := by
  w_strict (
    revert X
    k_fill
    intro X
    refine wpAny_call ?_
    (k_dflt cell_enter)
    k_steps
    all_goals exact cb_retI hret (by simp [sideV, sideB, *]) (by assumption) (by assumption))
theorem side_c {news : List (Addr × Obj)}
    (B : Below A₀ base outer h₀) (F : Fr h₀ L s.heap m) (X : (Mine.hd.heap_39 w.params).In h₀) (N : News h₀ L s.heap news)
    (T : Top p loose mean mg mb h₀) (hk : cs.kind = .function) (hd : dp + 1 < recursionLimit) (hu : un + 8 < cLine) (hp : (pa, pt x1 y1 t1 u1) ∈ news)
    (hret : ∀ (t : Tok) (h' : Heap) (tk' : Nat), Fr h₀ L h' m → News h₀ L h' news → Q (.int (sideV x1 y1) t) { s with heap := h', toks := tk' }) :
    wpAny (model Challenge.rw_dn0037_01.row.prog w) (ktrTop dp un gd cn cs L a ccd cl outer) (call (.ref 42) [.ref pa]) Q E s :=
  side_c0 B F X (news_front N hp) T hk hd hu fun t h' tk' F' N' => hret t h' tk' F' (news_tail N')
end

local macro_rules | `(tactic| walk_at "call ref") => `(tactic| (k_here; (with_reducible show wpAny _ _ (call (Value.ref 42) [Value.ref _]) _ _ _); (with_unfolding_all refine' side_c ?kB ?kF ?kX ?kN ?kT ?kk ?kd ?ku ?kp ?_; (case kB => k_asm); (case kF => k_asm); (case kX => k_asm); (case kN => k_asm); (case kT => k_asm); (case kk => exact rfl); (case kd => ktr_room); (case ku => ktr_units); (case kp => k_mem); k_whole); intro t9 h9 tk9 F9 N9; (try dsimp only); (try k_fold)))
local macro_rules | `(tactic| walk_at "call ref") => `(tactic| (k_here; (with_reducible show wpAny _ _ (call (Value.ref 35) [Value.ref _, Value.ref _]) _ _ _); (with_unfolding_all refine' cross_c ?kB ?kF ?kX ?kN ?kT ?kk ?kd ?ku ?kp ?kq ?_; (case kB => k_asm); (case kF => k_asm); (case kX => k_asm); (case kN => k_asm); (case kT => k_asm); (case kk => exact rfl); (case kd => ktr_room); (case ku => ktr_units); (case kp => k_mem); (case kq => k_mem); k_whole); intro t9 h9 tk9 F9 N9; (try dsimp only); (try k_fold)))
section
variable {w : World} {p : Program} {loose : List Str} {mean : ExcName → Option Value} {mg mb : Str → Option Value}
    {dp un : Nat} {gd : Option (List Code)} {cn : Str} {cs : Scope} {a : Addr} {ccd : Value} {cl : List (Str × Addr)} {outer : List Env} {A₀ : Around} {base h₀ : Heap} {L : Addr} {m : Str → Option Value} {s : Shared}
    {Q E : Value → Shared → Prop} {rest : List (Addr × Obj)} {pa qa : Addr} {x1 y1 x2 y2 : UInt64} {t1 u1 t2 u2 : Tok}
theorem turning_c0
    (B : Below A₀ base outer h₀) (F : Fr h₀ L s.heap m) (X : (Mine.hd.heap_39 w.params).In h₀) (N : News h₀ L s.heap ((pa, pt x1 y1 t1 u1) :: (qa, pt x2 y2 t2 u2) :: rest))
    (T : Top p loose mean mg mb h₀) (hk : cs.kind = .function) (hd : dp + 2 < recursionLimit) (hu : un + 16 < cLine)
    (hretI : sideV x1 y1 ≠ sideV x2 y2 → ∀ (t : Tok) (h' : Heap) (tk' : Nat), Fr h₀ L h' m → News h₀ L h' ((pa, pt x1 y1 t1 u1) :: (qa, pt x2 y2 t2 u2) :: rest) → Q (.int (sideV x1 y1 - sideV x2 y2) t) { s with heap := h', toks := tk' })
    (hretF : sideV x1 y1 = sideV x2 y2 → ∀ (t : Tok) (h' : Heap) (tk' : Nat), Fr h₀ L h' m → News h₀ L h' ((pa, pt x1 y1 t1 u1) :: (qa, pt x2 y2 t2 u2) :: rest) → Q (.float (Float64.sub (Float64.mul x2 y1) (Float64.mul y2 x1)) t) { s with heap := h', toks := tk' }) :
    wpAny (model Challenge.rw_dn0037_01.row.prog w) (ktrTop dp un gd cn cs L a ccd cl outer) (call (.ref 49) [.ref pa, .ref qa]) Q E s := by
  w_strict (
    revert X
    k_fill
    intro X
    refine wpAny_call ?_
    (k_dflt cell_enter)
    k_steps
    (all_goals first
      | exact hretI (by first | assumption | omega) _ _ _ (by assumption) (by assumption)
      | exact hretF (by first | assumption | omega) _ _ _ (by assumption) (by assumption)))
theorem turning_c {news : List (Addr × Obj)}
    (B : Below A₀ base outer h₀) (F : Fr h₀ L s.heap m) (X : (Mine.hd.heap_39 w.params).In h₀) (N : News h₀ L s.heap news)
    (T : Top p loose mean mg mb h₀) (hk : cs.kind = .function) (hd : dp + 2 < recursionLimit) (hu : un + 16 < cLine) (hp : (pa, pt x1 y1 t1 u1) ∈ news) (hq : (qa, pt x2 y2 t2 u2) ∈ news)
    (hretI : sideV x1 y1 ≠ sideV x2 y2 → ∀ (t : Tok) (h' : Heap) (tk' : Nat), Fr h₀ L h' m → News h₀ L h' news → Q (.int (sideV x1 y1 - sideV x2 y2) t) { s with heap := h', toks := tk' })
    (hretF : sideV x1 y1 = sideV x2 y2 → ∀ (t : Tok) (h' : Heap) (tk' : Nat), Fr h₀ L h' m → News h₀ L h' news → Q (.float (Float64.sub (Float64.mul x2 y1) (Float64.mul y2 x1)) t) { s with heap := h', toks := tk' }) :
    wpAny (model Challenge.rw_dn0037_01.row.prog w) (ktrTop dp un gd cn cs L a ccd cl outer) (call (.ref 49) [.ref pa, .ref qa]) Q E s :=
  turning_c0 B F X (news_front (news_front N hq) (List.mem_cons_of_mem _ hp)) T hk hd hu (fun e t h' tk' F' N' => hretI e t h' tk' F' (news_tail (news_tail N'))) (fun e t h' tk' F' N' => hretF e t h' tk' F' (news_tail (news_tail N')))
end
end Mine
end
section
open PySem PySem.W PyProof.Rows
set_option maxRecDepth 100000
set_option maxHeartbeats 8000000
namespace Mine
section
variable {hue share value : Int} {r g b : UInt64}
theorem fmod6 {z k : Int} (e : z.fmod 6 = k) : z % 6 = k := by rw [← Int.fmod_eq_emod_of_nonneg _ (by decide)]; exact e
theorem six_ways {z : Int} (h0 : z.fmod 6 ≠ 0) (h1 : z.fmod 6 ≠ 1) (h2 : z.fmod 6 ≠ 2) (h3 : z.fmod 6 ≠ 3) (h4 : z.fmod 6 ≠ 4) (h5 : z.fmod 6 ≠ 5) : False := by
  have := Int.fmod_eq_emod_of_nonneg z (b := 6) (by decide)
  omega
theorem rgb_s0 (e : (hue * 6 / 64).fmod 6 = 0) (hr : Is r (cV value) 12) (hg : Is g (cT hue (value * share) value) 12) (hb : Is b (cP (value * share) value) 12) : RGB hue share value r g b := by
  have e' := fmod6 e
  refine ⟨?_, ?_, ?_⟩ <;> simp only [cR, cG, cB, e'] <;> assumption
theorem rgb_s1 (e : (hue * 6 / 64).fmod 6 = 1) (hr : Is r (cQ hue (value * share) value) 12) (hg : Is g (cV value) 12) (hb : Is b (cP (value * share) value) 12) : RGB hue share value r g b := by
  have e' := fmod6 e
  refine ⟨?_, ?_, ?_⟩ <;> simp only [cR, cG, cB, e'] <;> assumption
theorem rgb_s2 (e : (hue * 6 / 64).fmod 6 = 2) (hr : Is r (cP (value * share) value) 12) (hg : Is g (cV value) 12) (hb : Is b (cT hue (value * share) value) 12) : RGB hue share value r g b := by
  have e' := fmod6 e
  refine ⟨?_, ?_, ?_⟩ <;> simp only [cR, cG, cB, e'] <;> assumption
theorem rgb_s3 (e : (hue * 6 / 64).fmod 6 = 3) (hr : Is r (cP (value * share) value) 12) (hg : Is g (cQ hue (value * share) value) 12) (hb : Is b (cV value) 12) : RGB hue share value r g b := by
  have e' := fmod6 e
  refine ⟨?_, ?_, ?_⟩ <;> simp only [cR, cG, cB, e'] <;> assumption
theorem rgb_s4 (e : (hue * 6 / 64).fmod 6 = 4) (hr : Is r (cT hue (value * share) value) 12) (hg : Is g (cP (value * share) value) 12) (hb : Is b (cV value) 12) : RGB hue share value r g b := by
  have e' := fmod6 e
  refine ⟨?_, ?_, ?_⟩ <;> simp only [cR, cG, cB, e'] <;> assumption
theorem rgb_s5 (e : (hue * 6 / 64).fmod 6 = 5) (hr : Is r (cV value) 12) (hg : Is g (cP (value * share) value) 12) (hb : Is b (cQ hue (value * share) value) 12) : RGB hue share value r g b := by
  have e' := fmod6 e
  refine ⟨?_, ?_, ?_⟩ <;> simp only [cR, cG, cB, e'] <;> assumption
end
section
variable {w : World} {p : Program} {loose : List Str} {mean : ExcName → Option Value} {mg mb : Str → Option Value}
    {dp un : Nat} {gd : Option (List Code)} {cn : Str} {cs : Scope} {a : Addr} {ccd : Value} {cl : List (Str × Addr)} {outer : List Env} {A₀ : Around} {base h₀ : Heap} {L : Addr} {m : Str → Option Value} {s : Shared}
    {Q E : Value → Shared → Prop} {news : List (Addr × Obj)}

abbrev tri (r g b : UInt64) (t t' t'' : Tok) : Obj := { cls := .type "tuple", data := .seq #[.float r t, .float g t', .float b t''] }

theorem hsv_c {hue share value : Int} {hb sb vb : UInt64} {t1 t2 t3 : Tok}
    (B : Below A₀ base outer h₀) (F : Fr h₀ L s.heap m) (X : (Mine.hd.heap_39 w.params).In h₀) (N : News h₀ L s.heap news)
    (T : Top p loose mean mg mb h₀) (hk : cs.kind = .function) (hd : dp + 2 < recursionLimit) (hu : un + 16 < cLine)
    (I : Ins hue share value) (hh : Is hb hue 6) (hs : Is sb share 3) (hv : Is vb value 3)
    (hret : ∀ (r g b : UInt64) (t t' t'' : Tok) (D : Addr) (h' : Heap) (tk' : Nat), RGB hue share value r g b → Fr h₀ L h' m → News h₀ L h' ((D, tri r g b t t' t'') :: news) → (∀ q ∈ news, q.1 < D) → Q (.ref D) { s with heap := h', toks := tk' }) :
    wpAny (model Challenge.rw_dn0037_01.row.prog w) (ktrTop dp un gd cn cs L a ccd cl outer) (call (.ref 21) [.float hb t1, .float sb t2, .float vb t3]) Q E s := by
  have hti := int_is I hh
  have hfin := (six_is I hh).finite
  have hnan := Flt.not_nan_of_finite hfin
  have hinf := Flt.not_inf_of_finite hfin
  have hP := rgb_parts I hh hs hv
  have hi0 : 0 ≤ hue * 6 / 64 ∧ hue * 6 / 64 < 24 := by have := I.h0; have := I.h1; omega
  w_strict (
    revert X
    k_fill
    intro X
    refine wpAny_call ?_
    (k_dflt cell_enter)
    k_steps
    (all_goals try simp only [hti] at *)
    (all_goals obtain ⟨pV, pP, pQ, pT⟩ := hP)
    (all_goals first
      | exact hret _ _ _ _ _ _ _ _ _ (rgb_grey hs hv (by assumption)) (by assumption) (by assumption) (by assumption)
      | exact hret _ _ _ _ _ _ _ _ _ (rgb_s0 (by assumption) (by assumption) (by assumption) (by assumption)) (by assumption) (by assumption) (by assumption)
      | exact hret _ _ _ _ _ _ _ _ _ (rgb_s1 (by assumption) (by assumption) (by assumption) (by assumption)) (by assumption) (by assumption) (by assumption)
      | exact hret _ _ _ _ _ _ _ _ _ (rgb_s2 (by assumption) (by assumption) (by assumption) (by assumption)) (by assumption) (by assumption) (by assumption)
      | exact hret _ _ _ _ _ _ _ _ _ (rgb_s3 (by assumption) (by assumption) (by assumption) (by assumption)) (by assumption) (by assumption) (by assumption)
      | exact hret _ _ _ _ _ _ _ _ _ (rgb_s4 (by assumption) (by assumption) (by assumption) (by assumption)) (by assumption) (by assumption) (by assumption)
      | exact hret _ _ _ _ _ _ _ _ _ (rgb_s5 (by assumption) (by assumption) (by assumption) (by assumption)) (by assumption) (by assumption) (by assumption)
      | exact (six_ways (by assumption) (by assumption) (by assumption) (by assumption) (by assumption) (by assumption)).elim))
end
end Mine
end
section
open PySem PySem.W PyProof.Rows
set_option maxRecDepth 100000
set_option maxHeartbeats 8000000
namespace Mine

/-- one number of the script: its hue without whole turns and its value times its share, if it is neither grey nor black -/
def ent (x : Int) : Option (Int × Int) := if 0 < (x.fdiv 256).fmod 9 * (x.fdiv 2304).fmod 9 then some ((x.fmod 256).fmod 64, (x.fdiv 2304).fmod 9 * (x.fdiv 256).fmod 9) else none
theorem ins_of (x : Int) : Ins (x.fmod 256) ((x.fdiv 256).fmod 9) ((x.fdiv 2304).fmod 9) := by
  rw [Int.fmod_eq_emod_of_nonneg x (by decide), Int.fmod_eq_emod_of_nonneg _ (by decide), Int.fmod_eq_emod_of_nonneg _ (by decide)]
  constructor <;> omega
def ents (ns : List Int) : List (Int × Int) := ns.filterMap ent

def PtIs (pts : List (Addr × Obj)) (v : Value) (e : Int × Int) : Prop := ∃ a x y t u, v = .ref a ∧ (a, pt x y t u) ∈ pts ∧ Is x (e.2 * ux e.1) 12 ∧ Is y (e.2 * uy e.1) 12
def DpIs (v : Value) (e : Int × Int) : Prop := ∃ b t, v = .float b t ∧ Is b e.2 6
def HuIs (v : Value) (e : Int × Int) : Prop := ∃ t, v = .int e.1 t
/-- one relation, place by place -/
def Each (R : Value → Int × Int → Prop) (vs : List Value) (es : List (Int × Int)) : Prop := vs.length = es.length ∧ ∀ (k : Nat) (v : Value) (e : Int × Int), vs[k]? = some v → es[k]? = some e → R v e

theorem Each.nil (R : Value → Int × Int → Prop) : Each R [] [] := ⟨rfl, fun k v e h => by simp at h⟩
theorem Each.snoc {R : Value → Int × Int → Prop} {vs : List Value} {es : List (Int × Int)} (h : Each R vs es) {v : Value} {e : Int × Int} (hv : R v e) : Each R (vs ++ [v]) (es ++ [e]) := by
  refine ⟨by simp [h.1], fun k v' e' h1 h2 => ?_⟩
  by_cases hk : k < vs.length
  · rw [List.getElem?_append_left hk] at h1
    rw [List.getElem?_append_left (by rw [← h.1]; exact hk)] at h2
    exact h.2 k v' e' h1 h2
  · rw [List.getElem?_append_right (by omega)] at h1
    rw [List.getElem?_append_right (by rw [← h.1]; omega)] at h2
    rw [← h.1] at h2
    by_cases hk2 : k - vs.length = 0
    · rw [hk2] at h1 h2
      simp at h1 h2
      rw [← h1, ← h2]; exact hv
    · have : ([v] : List Value)[k - vs.length]? = none := by simp; omega
      rw [this] at h1; cases h1
theorem Each.mono {R S : Value → Int × Int → Prop} {vs : List Value} {es : List (Int × Int)} (h : Each R vs es) (hs : ∀ v e, R v e → S v e) : Each S vs es := ⟨h.1, fun k v e h1 h2 => hs _ _ (h.2 k v e h1 h2)⟩
theorem PtIs.mono {pts pts' : List (Addr × Obj)} (h : ∀ p ∈ pts, p ∈ pts') (v : Value) (e : Int × Int) (hp : PtIs pts v e) : PtIs pts' v e := by
  obtain ⟨a, x, y, t, u, h1, h2, h3⟩ := hp
  exact ⟨a, x, y, t, u, h1, h _ h2, h3⟩

structure Inv (es : List (Int × Int)) (hv pv dv : List Value) (pts : List (Addr × Obj)) : Prop where
  h : Each HuIs hv es
  p : Each (PtIs pts) pv es
  d : Each DpIs dv es

theorem ent_fits {x : Int} {e : Int × Int} (h : ent x = some e) : 0 ≤ e.1 ∧ e.1 < 64 ∧ 0 < e.2 ∧ e.2 ≤ 64 := by
  unfold ent at h
  split at h
  · rename_i hp
    cases h
    have I := ins_of x
    have h1 := prod_fits (a := (x.fdiv 2304).fmod 9) (b := (x.fdiv 256).fmod 9) (A := 8) (B := 8) I.v0 I.v1 I.s0 I.s1
    rw [Int.mul_comm] at hp
    rw [Int.fmod_eq_emod_of_nonneg (x.fmod 256) (b := 64) (by decide)]
    dsimp only
    omega
  · cases h
theorem ents_fit {ns : List Int} {e : Int × Int} (h : e ∈ ents ns) : 0 ≤ e.1 ∧ e.1 < 64 ∧ 0 < e.2 ∧ e.2 ≤ 64 := by
  obtain ⟨x, _, hx⟩ := List.mem_filterMap.mp h
  exact ent_fits hx
theorem ents_length (ns : List Int) : (ents ns).length ≤ ns.length := List.length_filterMap_le _ _
theorem ents_snoc (ns : List Int) (x : Int) : ents (ns ++ [x]) = ents ns ++ (ent x).toList := by
  unfold ents
  rw [List.filterMap_append]
  cases h : ent x <;> simp [h]
theorem ents_end (ns : List Int) : ents (ns ++ [20735, 20480, 9223]) = ents ns ++ [(63, 64), (0, 64)] := by
  unfold ents
  rw [List.filterMap_append]
  rfl

section
variable {prog : Program} {w : World} {A : Around} {E : Value → Shared → Prop} {s : Shared} {env : Env} {h₀ : Heap} {body : List Stmt} {Q : Flow → Shared → Prop}

/-- the state between two turns of the first loop -/
def J1 (depths : Str) (ns : List Int) (D lD lP lH : Addr) (fixd : List (Addr × Obj)) (i : Nat) (m : Str → Option Value) (news : List (Addr × Obj)) : Prop :=
  m depths = some (.ref lD) ∧ ∃ hv pv dv nh np nd pts, Inv (ents (ns.take i)) hv pv dv pts ∧ (∀ p ∈ pts, p.1 ≠ D ∧ p.1 ≠ lD ∧ p.1 ≠ lP ∧ p.1 ≠ lH) ∧
    news = (lD, W.listOf dv.toArray nd) :: (lP, W.listOf pv.toArray np) :: (lH, W.listOf hv.toArray nh) :: (fixd ++ pts)

theorem loop1 {x depths : Str} {D lD lP lH : Addr} {ws : List Value} {ns : List Int} {c : Nat} {m₀ : Str → Option Value} {news fixd : List (Addr × Obj)}
    (hh : A.handled = none) (F : Fr h₀ env.locals s.heap m₀) (N : News h₀ env.locals s.heap news) (hI : IntsAre ws ns)
    (hD : (D, W.listOf ws.toArray c) ∈ news) (hsub : ∀ p ∈ (lD, W.listOf #[] 0) :: (lP, W.listOf #[] 0) :: (lH, W.listOf #[] 0) :: fixd, p ∈ news)
    (hne : lD ≠ D ∧ lP ≠ D ∧ lH ≠ D) (hm : m₀ depths = some (.ref lD)) (hxd : depths ≠ x)
    (turn : ∀ (i : Nat) (n : Int) (t : Tok) (u : Str → Option Value) (hv pv dv : List Value) (nh np nd : Nat) (pts own : List (Addr × Obj)) (s₁ : Shared) (I : Addr), ns[i]? = some n → Inv (ents (ns.take i)) hv pv dv pts → (∀ p ∈ pts, p.1 ≠ D ∧ p.1 ≠ lD ∧ p.1 ≠ lP ∧ p.1 ≠ lH) →
      (∀ q ∈ pts ++ own, q.1 ≠ lD) → (∀ q ∈ pts ++ own, q.1 ≠ lP) → (∀ q ∈ pts ++ own, q.1 ≠ lH) → (∀ q ∈ fixd ++ pts, q.1 ≠ I) → lD ≠ I → lP ≠ I → lH ≠ I → (∃ o, (I, o) ∈ own) → (∃ o, (D, o) ∈ own) →
      Fr h₀ env.locals s₁.heap (fun y => if y = x then some (.int n t) else if y = depths then some (.ref lD) else u y) →
      News h₀ env.locals s₁.heap ((lD, W.listOf dv.toArray nd) :: (lP, W.listOf pv.toArray np) :: (lH, W.listOf hv.toArray nh) :: (fixd ++ (pts ++ own))) →
      wpAny (model prog w) A (execs body env) (LoopStepU h₀ env.locals [I] own (J1 depths ns D lD lP lH fixd (i + 1)) s₁) E s₁)
    (done : ∀ (u : Str → Option Value) hv pv dv nh np nd pts h tk, Inv (ents ns) hv pv dv pts → (∀ p ∈ pts, p.1 ≠ D ∧ p.1 ≠ lD ∧ p.1 ≠ lP ∧ p.1 ≠ lH) →
      Fr h₀ env.locals h (fun y => if y = depths then some (.ref lD) else u y) →
      News h₀ env.locals h ((lD, W.listOf dv.toArray nd) :: (lP, W.listOf pv.toArray np) :: (lH, W.listOf hv.toArray nh) :: (fixd ++ pts)) → Q .next { s with heap := h, toks := tk }) :
    wpAny (model prog w) A (pyIter (.ref D)) (fun it s₂ => LoopAtU prog w A h₀ env x body Q E it s₂) E s := by
  have hDo := (N _ hD)
  have hls : s.heap.IsList D ws.toArray := ⟨_, hDo.1, rfl, _, rfl⟩
  have hDne : D ≠ s.heap.objs.size := Nat.ne_of_lt (Heap.lt_size hDo.1)
  have mapEq : ∀ m : Str → Option Value, m depths = some (.ref lD) → m = fun y => if y = depths then some (.ref lD) else m y := by
    intro m h
    funext y
    by_cases hy : y = depths
    · rw [if_pos hy, hy, h]
    · rw [if_neg hy]
  refine wpAny_pyIter_list hls ?_
  have Wk := Walks.list (prog := prog) (w := w) hh s.heap.objs.size D hDne ws.toArray
  refine ⟨_, _, _, _, _, _, m₀, _, J1 depths ns D lD lP lH fixd, rfl, Wk, ?_, ?_, ?_, ⟨⟨_, Heap.get?_push_size _ rfl, rfl, rfl⟩, hls.at fun o e => Heap.get?_push_of_some _ e⟩, F.push _, (fun p hp => ⟨Heap.get?_push_of_some _ (N p (hsub p hp)).1, (N p (hsub p hp)).2⟩),
    ⟨hm, [], [], [], 0, 0, 0, [], ⟨by simpa [ents] using Each.nil _, by simpa [ents] using Each.nil _, by simpa [ents] using Each.nil _⟩, fun p hp => (nomatch hp), by simp⟩, ?_, ?_⟩
  · intro hm
    rcases List.mem_cons.mp hm with e | hm
    · exact absurd F.ns.lt (e ▸ Nat.lt_irrefl _)
    · exact hDo.2.1 (List.mem_singleton.mp hm).symm
  · intro b hb
    rw [List.mem_singleton.mp hb]
    exact next_is_new F
  · intro p hp hI
    exact absurd (Heap.lt_size (N p (hsub p hp)).1) ((List.mem_singleton.mp hI) ▸ Nat.lt_irrefl _)
  · rintro i v m₁ news₁ s₁ own hi hP ⟨hm₁, hv, pv, dv, nh, np, nd, pts, hinv, hpts, rfl⟩ hoff hown hown2 hown3 hSt F₁ N₁
    have hi' : i < ns.length := by simpa [hI.length] using hi
    obtain ⟨t, hx⟩ := hI.get i ns[i] (by simp [hi'])
    have hveq : v = .int ns[i] t := by
      have hP' : ws[i]? = some v := by simpa using hP
      rw [hx] at hP'; exact (Option.some.inj hP').symm
    subst hveq
    rw [mapEq m₁ hm₁] at F₁
    have hoI : ∀ q ∈ own, q.1 = s.heap.objs.size ∨ q.1 = D := fun q hq => by
      rcases List.mem_cons.mp (hown q hq) with e | e
      · exact .inl e
      · exact .inr (List.mem_singleton.mp e)
    have hlI : ∀ p ∈ (lD, W.listOf dv.toArray nd) :: (lP, W.listOf pv.toArray np) :: (lH, W.listOf hv.toArray nh) :: (fixd ++ pts), p.1 ≠ s.heap.objs.size := fun p hp e => hoff p hp (List.mem_singleton.mpr e)
    have hD1 := hlI (lD, W.listOf dv.toArray nd) (by simp)
    have hP1 := hlI (lP, W.listOf pv.toArray np) (by simp)
    have hH1 := hlI (lH, W.listOf hv.toArray nh) (by simp)
    have apart : ∀ l, l ≠ s.heap.objs.size → l ≠ D → (∀ p ∈ pts, p.1 ≠ l) → ∀ q ∈ pts ++ own, q.1 ≠ l := by
      intro l h1 h2 h3 q hq e
      rcases List.mem_append.mp hq with hq | hq
      · exact h3 q hq e
      · rcases hoI q hq with h | h
        · exact h1 (e.symm.trans h)
        · exact h2 (e.symm.trans h)
    have hIo : ∃ o, s₁.heap.get? s.heap.objs.size = some o := hSt.1.imp fun o h => h.1
    have hDo' : ∃ o, s₁.heap.get? D = some o := hSt.2.imp fun o h => h.1
    obtain ⟨oI, hoI'⟩ := hIo
    obtain ⟨oD, hoD'⟩ := hDo'
    refine turn i ns[i] t m₁ hv pv dv nh np nd pts own s₁ s.heap.objs.size (by simp [hi']) hinv hpts (apart _ hD1 hne.1 fun p hp => (hpts p hp).2.1) (apart _ hP1 hne.2.1 fun p hp => (hpts p hp).2.2.1) (apart _ hH1 hne.2.2 fun p hp => (hpts p hp).2.2.2)
      (fun q hq => hlI q (List.mem_cons_of_mem _ (List.mem_cons_of_mem _ (List.mem_cons_of_mem _ hq)))) hD1 hP1 hH1
      ⟨oI, hown3 _ (by simp) (next_is_new F) oI hoI'⟩ ⟨oD, hown3 _ (by simp) hDo.2.2 oD hoD'⟩ F₁ ?_
    intro p hp
    refine N₁ p ?_
    simp only [List.mem_cons, List.mem_append] at hp ⊢
    rcases hp with h | h | h | h | h | h
    · exact .inr (.inl h)
    · exact .inr (.inr (.inl h))
    · exact .inr (.inr (.inr (.inl h)))
    · exact .inr (.inr (.inr (.inr (.inl h))))
    · exact .inr (.inr (.inr (.inr (.inr h))))
    · exact .inl h
  · rintro h' tk m' news' F' N' _ ⟨hm', hv, pv, dv, nh, np, nd, pts, hinv, hpts, rfl⟩
    rw [show ws.toArray.size = ns.length by simp [hI.length], List.take_length] at hinv
    rw [mapEq m' hm'] at F'
    exact done m' hv pv dv nh np nd pts h' tk hinv hpts F' N'
theorem loop1' {a2 a3 a4 : Addr × Obj} {x depths : Str} {D lD lP lH : Addr} {ws : List Value} {ns : List Int} {c : Nat} {m₀ : Str → Option Value} {fixd : List (Addr × Obj)}
    (hh : A.handled = none) (F : Fr h₀ env.locals s.heap m₀) (N : News h₀ env.locals s.heap ((D, W.listOf ws.toArray c) :: a2 :: a3 :: a4 :: (lD, W.listOf #[] 0) :: (lP, W.listOf #[] 0) :: (lH, W.listOf #[] 0) :: fixd)) (hI : IntsAre ws ns)
    (hne : lD ≠ D ∧ lP ≠ D ∧ lH ≠ D) (hm : m₀ depths = some (.ref lD)) (hxd : depths ≠ x)
    (turn : ∀ (i : Nat) (n : Int) (t : Tok) (u : Str → Option Value) (hv pv dv : List Value) (nh np nd : Nat) (pts own : List (Addr × Obj)) (s₁ : Shared) (I : Addr), ns[i]? = some n → Inv (ents (ns.take i)) hv pv dv pts → (∀ p ∈ pts, p.1 ≠ D ∧ p.1 ≠ lD ∧ p.1 ≠ lP ∧ p.1 ≠ lH) →
      (∀ q ∈ pts ++ own, q.1 ≠ lD) → (∀ q ∈ pts ++ own, q.1 ≠ lP) → (∀ q ∈ pts ++ own, q.1 ≠ lH) → (∀ q ∈ fixd ++ pts, q.1 ≠ I) → lD ≠ I → lP ≠ I → lH ≠ I → (∃ o, (I, o) ∈ own) → (∃ o, (D, o) ∈ own) →
      Fr h₀ env.locals s₁.heap (fun y => if y = x then some (.int n t) else if y = depths then some (.ref lD) else u y) →
      News h₀ env.locals s₁.heap ((lD, W.listOf dv.toArray nd) :: (lP, W.listOf pv.toArray np) :: (lH, W.listOf hv.toArray nh) :: (fixd ++ (pts ++ own))) →
      wpAny (model prog w) A (execs body env) (LoopStepU h₀ env.locals [I] own (J1 depths ns D lD lP lH fixd (i + 1)) s₁) E s₁)
    (done : ∀ (u : Str → Option Value) hv pv dv nh np nd pts h tk, Inv (ents ns) hv pv dv pts → (∀ p ∈ pts, p.1 ≠ D ∧ p.1 ≠ lD ∧ p.1 ≠ lP ∧ p.1 ≠ lH) →
      Fr h₀ env.locals h (fun y => if y = depths then some (.ref lD) else u y) →
      News h₀ env.locals h ((lD, W.listOf dv.toArray nd) :: (lP, W.listOf pv.toArray np) :: (lH, W.listOf hv.toArray nh) :: (fixd ++ pts)) → Q .next { s with heap := h, toks := tk }) :
    wpAny (model prog w) A (pyIter (.ref D)) (fun it s₂ => LoopAtU prog w A h₀ env x body Q E it s₂) E s :=
  loop1 hh F N hI (List.mem_cons_self ..) (fun _ hp => List.mem_cons_of_mem _ (List.mem_cons_of_mem _ (List.mem_cons_of_mem _ (List.mem_cons_of_mem _ hp)))) hne hm hxd turn done
end
end Mine
end
section
open PySem PySem.W PyProof.Rows
set_option maxRecDepth 100000
set_option maxHeartbeats 8000000
set_option exponentiation.threshold 2100
namespace Mine
open Flt in
section
variable {prog : Program} {w : World} {A : Around} {E : Value → Shared → Prop} {s : Shared} {Q : Value → Shared → Prop} {h₀ : Heap} {L : Addr} {m : Str → Option Value} {news : List (Addr × Obj)}

theorem is_lt {x y : UInt64} {a b : Int} {e : Nat} (hx : Is x a e) (hy : Is y b e) : (Float64.cmp x y == some Ordering.lt) = decide (a < b) := by
  rw [hx.cmp hy]
  rw [Bool.eq_iff_iff]
  simp [Int.compare_eq_lt]
theorem is_eq {x y : UInt64} {a b : Int} {e : Nat} (hx : Is x a e) (hy : Is y b e) : (Float64.cmp x y == some Ordering.eq) = decide (a = b) := by
  rw [hx.cmp hy]
  rw [Bool.eq_iff_iff]
  simp
theorem is_gt {x y : UInt64} {a b : Int} {e : Nat} (hx : Is x a e) (hy : Is y b e) : (Float64.cmp x y == some Ordering.gt) = decide (b < a) := by
  rw [hx.cmp hy]
  rw [Bool.eq_iff_iff]
  simp [Int.compare_eq_gt]

theorem max3 {x y z : UInt64} {a b c : Int} {t u v : Tok} (hh : A.handled = none) (F : Fr h₀ L s.heap m) (N : News h₀ L s.heap news) (hx : Is x a 12) (hy : Is y b 12) (hz : Is z c 12)
    (h : ∀ (r : UInt64) (d : Int) (t' : Tok) (h' : Heap) (tk : Nat), Is r d 12 → (d = a ∨ d = b ∨ d = c) → a ≤ d → b ≤ d → c ≤ d → Fr h₀ L h' m → News h₀ L h' news → Q (.float r t') { s with heap := h', toks := tk }) :
    wpAny (model prog w) A (call (.builtin "max") [.float x t, .float y u, .float z v]) Q E s := by
  have hT : (s.heap.push { cls := .type "tuple", data := .seq #[.float x t, .float y u, .float z v] }).IsTuple s.heap.objs.size #[.float x t, .float y u, .float z v] := ⟨_, Heap.get?_push_size _ rfl, rfl, 0, rfl⟩
  refine call_max_three (wpAny_pyIter_tuple hT ?_)
  have hsz : (s.heap.push { cls := .type "tuple", data := .seq #[.float x t, .float y u, .float z v] }).objs.size = s.heap.objs.size + 1 := Heap.size_push ..
  refine ⟨_, [_, s.heap.objs.size], [_], _, _, _, _, rfl, Walks.tuple (A := A.in1) hh _ s.heap.objs.size (by rw [hsz]; exact Nat.ne_of_lt (Nat.lt_succ_self _)) #[.float x t, .float y u, .float z v],
    ⟨⟨_, Heap.get?_push_size _ rfl, rfl, rfl⟩, hT.push _⟩, fun d hd => ?_, by simp, cmpOf_gt #[.float x t, .float y u, .float z v] (by simp [NumV.float]), fun r h' tk hP hk => ?_⟩
  · show d < ((s.heap.push _).push _).objs.size
    rw [Heap.size_push, hsz]
    rcases List.mem_cons.mp hd with rfl | hd
    · rw [hsz]; exact Nat.lt_succ_self _
    · rcases List.mem_cons.mp hd with rfl | hd
      · exact Nat.lt_succ_of_lt (Nat.lt_succ_self _)
      · cases hd
  · have hold : ∀ d o, s.heap.get? d = some o → h'.get? d = some o := fun d o e => by
      refine hk d o (fun hm => ?_) (Heap.get?_push_of_some _ (Heap.get?_push_of_some _ e))
      rcases List.mem_cons.mp hm with e1 | hm
      · have := Heap.lt_size e; rw [e1, hsz] at this; exact Nat.lt_irrefl _ (Nat.lt_of_succ_lt this)
      · cases hm
    have F' := F.grownK hold
    have N' := N.grown hold
    have e1 := is_lt hx hy
    have e2 := is_lt hx hz
    have e3 := is_lt hy hz
    have hP' : (#[Value.float x t, .float y u, .float z v] : Array Value)[argBest (fun i j => ltV ((#[Value.float x t, .float y u, .float z v] : Array Value).getD j .none) ((#[Value.float x t, .float y u, .float z v] : Array Value).getD i .none)) 2]? = some r := hP
    by_cases h1 : a < b
    · by_cases h2 : b < c
      · have hr : r = .float z v := by simpa [argBest, ltV, e1, e2, e3, h1, h2] using hP'.symm
        rw [hr]; exact h z c v h' tk hz (by omega) (by omega) (by omega) (by omega) F' N'
      · have hr : r = .float y u := by simpa [argBest, ltV, e1, e2, e3, h1, h2] using hP'.symm
        rw [hr]; exact h y b u h' tk hy (by omega) (by omega) (by omega) (by omega) F' N'
    · by_cases h2 : a < c
      · have hr : r = .float z v := by simpa [argBest, ltV, e1, e2, e3, h1, h2] using hP'.symm
        rw [hr]; exact h z c v h' tk hz (by omega) (by omega) (by omega) (by omega) F' N'
      · have hr : r = .float x t := by simpa [argBest, ltV, e1, e2, e3, h1, h2] using hP'.symm
        rw [hr]; exact h x a t h' tk hx (by omega) (by omega) (by omega) (by omega) F' N'

theorem min3 {x y z : UInt64} {a b c : Int} {t u v : Tok} (hh : A.handled = none) (F : Fr h₀ L s.heap m) (N : News h₀ L s.heap news) (hx : Is x a 12) (hy : Is y b 12) (hz : Is z c 12)
    (h : ∀ (r : UInt64) (d : Int) (t' : Tok) (h' : Heap) (tk : Nat), Is r d 12 → (d = a ∨ d = b ∨ d = c) → d ≤ a → d ≤ b → d ≤ c → Fr h₀ L h' m → News h₀ L h' news → Q (.float r t') { s with heap := h', toks := tk }) :
    wpAny (model prog w) A (call (.builtin "min") [.float x t, .float y u, .float z v]) Q E s := by
  have hT : (s.heap.push { cls := .type "tuple", data := .seq #[.float x t, .float y u, .float z v] }).IsTuple s.heap.objs.size #[.float x t, .float y u, .float z v] := ⟨_, Heap.get?_push_size _ rfl, rfl, 0, rfl⟩
  refine call_min_three (wpAny_pyIter_tuple hT ?_)
  have hsz : (s.heap.push { cls := .type "tuple", data := .seq #[.float x t, .float y u, .float z v] }).objs.size = s.heap.objs.size + 1 := Heap.size_push ..
  refine ⟨_, [_, s.heap.objs.size], [_], _, _, _, _, rfl, Walks.tuple (A := A.in1) hh _ s.heap.objs.size (by rw [hsz]; exact Nat.ne_of_lt (Nat.lt_succ_self _)) #[.float x t, .float y u, .float z v],
    ⟨⟨_, Heap.get?_push_size _ rfl, rfl, rfl⟩, hT.push _⟩, fun d hd => ?_, by simp, cmpOf_lt #[.float x t, .float y u, .float z v] (by simp [NumV.float]), fun r h' tk hP hk => ?_⟩
  · show d < ((s.heap.push _).push _).objs.size
    rw [Heap.size_push, hsz]
    rcases List.mem_cons.mp hd with rfl | hd
    · rw [hsz]; exact Nat.lt_succ_self _
    · rcases List.mem_cons.mp hd with rfl | hd
      · exact Nat.lt_succ_of_lt (Nat.lt_succ_self _)
      · cases hd
  · have hold : ∀ d o, s.heap.get? d = some o → h'.get? d = some o := fun d o e => by
      refine hk d o (fun hm => ?_) (Heap.get?_push_of_some _ (Heap.get?_push_of_some _ e))
      rcases List.mem_cons.mp hm with e1 | hm
      · have := Heap.lt_size e; rw [e1, hsz] at this; exact Nat.lt_irrefl _ (Nat.lt_of_succ_lt this)
      · cases hm
    have F' := F.grownK hold
    have N' := N.grown hold
    have e1 := is_lt hy hx
    have e2 := is_lt hz hx
    have e3 := is_lt hz hy
    have hP' : (#[Value.float x t, .float y u, .float z v] : Array Value)[argBest (fun i j => ltV ((#[Value.float x t, .float y u, .float z v] : Array Value).getD i .none) ((#[Value.float x t, .float y u, .float z v] : Array Value).getD j .none)) 2]? = some r := hP
    by_cases h1 : b < a
    · by_cases h2 : c < b
      · have hr : r = .float z v := by simpa [argBest, ltV, e1, e2, e3, h1, h2] using hP'.symm
        rw [hr]; exact h z c v h' tk hz (by omega) (by omega) (by omega) (by omega) F' N'
      · have hr : r = .float y u := by simpa [argBest, ltV, e1, e2, e3, h1, h2] using hP'.symm
        rw [hr]; exact h y b u h' tk hy (by omega) (by omega) (by omega) (by omega) F' N'
    · by_cases h2 : c < a
      · have hr : r = .float z v := by simpa [argBest, ltV, e1, e2, e3, h1, h2] using hP'.symm
        rw [hr]; exact h z c v h' tk hz (by omega) (by omega) (by omega) (by omega) F' N'
      · have hr : r = .float x t := by simpa [argBest, ltV, e1, e2, e3, h1, h2] using hP'.symm
        rw [hr]; exact h x a t h' tk hx (by omega) (by omega) (by omega) (by omega) F' N'

theorem div_pow {a : Int} {j : Nat} {t u : Tok} (hh : A.handled = none) (ha : a.natAbs < 2 ^ 53) (hj : j ≤ 1074) (h : ∀ x, Is x a j → Q (.float x s.toks) { s with toks := s.toks + 1 }) :
    wpAny (model prog w) A (binaryOp .Div (.int a t) (.int (((2 ^ j : Nat) : Int)) u)) Q E s := by
  refine div_ii_fits hh (Nat.lt_of_lt_of_le ha (Nat.pow_le_pow_right (by decide) (by decide))) (fun h0 => absurd h0 (Int.ne_of_gt (Int.ofNat_lt.mpr (Nat.two_pow_pos j)))) fun _ _ => h _ ?_
  have e1 : decide ((((2 ^ j : Nat) : Int)) < 0) = false := decide_eq_false (Int.not_lt.mpr (Int.natCast_nonneg _))
  rw [e1, Int.natAbs_natCast]
  exact Is.ofFrac (by simp) ha hj
theorem div64 {a : Int} {t u : Tok} (hh : A.handled = none) (ha : a.natAbs < 2 ^ 53) (h : ∀ x, Is x a 6 → Q (.float x s.toks) { s with toks := s.toks + 1 }) :
    wpAny (model prog w) A (binaryOp .Div (.int a t) (.int 64 u)) Q E s := div_pow (j := 6) hh ha (by decide) h
theorem div8 {a : Int} {t u : Tok} (hh : A.handled = none) (ha : a.natAbs < 2 ^ 53) (h : ∀ x, Is x a 3 → Q (.float x s.toks) { s with toks := s.toks + 1 }) :
    wpAny (model prog w) A (binaryOp .Div (.int a t) (.int 8 u)) Q E s := div_pow (j := 3) hh ha (by decide) h

theorem max_rgb {hue share value : Int} {x y z : UInt64} {t u v : Tok} (I : Ins hue share value) (hx : Is x (cR hue (value * share) value) 12) (hy : Is y (cG hue (value * share) value) 12) (hz : Is z (cB hue (value * share) value) 12)
    (hh : A.handled = none) (F : Fr h₀ L s.heap m) (N : News h₀ L s.heap news)
    (h : ∀ (r : UInt64) (t' : Tok) (h' : Heap) (tk : Nat), Is r (cV value) 12 → Fr h₀ L h' m → News h₀ L h' news → Q (.float r t') { s with heap := h', toks := tk }) :
    wpAny (model prog w) A (call (.builtin "max") [.float x t, .float y u, .float z v]) Q E s := by
  obtain ⟨e1, e2, e3⟩ := ends (hue := hue) (d := value * share) (v := value) (Int.mul_nonneg I.v0 I.s0)
  refine max3 hh F N hx hy hz fun r d t' h' tk hr hd h1 h2 h3 F' N' => h r t' h' tk (hr.cast ?_) F' N'
  have := (e1 d hd).2
  omega
theorem min_rgb {hue share value : Int} {x y z : UInt64} {t u v : Tok} (I : Ins hue share value) (hx : Is x (cR hue (value * share) value) 12) (hy : Is y (cG hue (value * share) value) 12) (hz : Is z (cB hue (value * share) value) 12)
    (hh : A.handled = none) (F : Fr h₀ L s.heap m) (N : News h₀ L s.heap news)
    (h : ∀ (r : UInt64) (t' : Tok) (h' : Heap) (tk : Nat), Is r (cP (value * share) value) 12 → Fr h₀ L h' m → News h₀ L h' news → Q (.float r t') { s with heap := h', toks := tk }) :
    wpAny (model prog w) A (call (.builtin "min") [.float x t, .float y u, .float z v]) Q E s := by
  obtain ⟨e1, e2, e3⟩ := ends (hue := hue) (d := value * share) (v := value) (Int.mul_nonneg I.v0 I.s0)
  refine min3 hh F N hx hy hz fun r d t' h' tk hr hd h1 h2 h3 F' N' => h r t' h' tk (hr.cast ?_) F' N'
  have := (e1 d hd).1
  omega

theorem sub_is {x y : UInt64} {a b : Int} {e : Nat} {t u : Tok} (hx : Is x a e) (hy : Is y b e) (hb : (a - b).natAbs < 2 ^ 53) (h : ∀ z, Is z (a - b) e → Q (.float z s.toks) { s with toks := s.toks + 1 }) :
    wpAny (model prog w) A (binaryOp .Sub (.float x t) (.float y u)) Q E s := AutoFloatOps.sub_0 (h _ (hx.sub hy hb))
theorem mul_is {x y : UInt64} {a b : Int} {e f : Nat} {t u : Tok} (hx : Is x a e) (hy : Is y b f) (hb : (a * b).natAbs < 2 ^ 53) (hef : e + f ≤ 1074) (h : ∀ z, Is z (a * b) (e + f) → Q (.float z s.toks) { s with toks := s.toks + 1 }) :
    wpAny (model prog w) A (binaryOp .Mult (.float x t) (.float y u)) Q E s := AutoFloatOps.mul_0 (h _ (hx.mul hy hb hef))
theorem mulif_is {n : Int} {x : UInt64} {a : Int} {e : Nat} {t u : Tok} (hn : n.natAbs < 2 ^ 53) (hx : Is x a e) (hb : (n * a).natAbs < 2 ^ 53) (he : e ≤ 1074) (h : ∀ z, Is z (n * a) e → Q (.float z s.toks) { s with toks := s.toks + 1 }) :
    wpAny (model prog w) A (binaryOp .Mult (.int n u) (.float x t)) Q E s := by
  refine mul_if_fits (Nat.lt_of_lt_of_le hn (Nat.pow_le_pow_right (by decide) (by decide))) (h _ ?_)
  have := (Is.ofInt hn).mul hx hb (by omega)
  rwa [Nat.zero_add] at this
theorem ne_same {x y : UInt64} {a b : Int} {e f : Nat} {t u : Tok} (hx : Is x a e) (hy : Is y b f) (hef : e + f ≤ 1074) (he : a * 2 ^ f = b * 2 ^ e) (h : Q (.bool false) s) :
    wpAny (model prog w) A (compareOp .NotEq (.float x t) (.float y u)) Q E s := by
  have h1 := hx.up f hef
  have h2 := (hy.up e (by omega))
  rw [Nat.add_comm f e] at h2
  refine AutoFloatOps.ne_0 ?_
  have := is_eq h1 h2
  rw [show (Float64.cmp x y != some Ordering.eq) = !(Float64.cmp x y == some Ordering.eq) from rfl, this, decide_eq_true he]
  exact h

theorem rgb_bounds {hue share value : Int} (I : Ins hue share value) : (-4096 ≤ cR hue (value * share) value ∧ cR hue (value * share) value ≤ 4096) ∧ (-4096 ≤ cG hue (value * share) value ∧ cG hue (value * share) value ≤ 4096) ∧
    (-4096 ≤ cB hue (value * share) value ∧ cB hue (value * share) value ≤ 4096) ∧ (-4096 ≤ cP (value * share) value ∧ cP (value * share) value ≤ 4096) ∧ (0 ≤ cV value ∧ cV value ≤ 4096) ∧ (0 ≤ value * share ∧ value * share ≤ 64) := by
  have h1 := prod_fits I.v0 I.v1 I.s0 I.s1
  have h2 := bounds (d := value * share) (v := value) h1.1 (by omega) I.v0 I.v1
  obtain ⟨e1, _, _⟩ := ends (hue := hue) (d := value * share) (v := value) h1.1
  have r := e1 _ (.inl rfl)
  have g := e1 _ (.inr (.inl rfl))
  have b := e1 _ (.inr (.inr rfl))
  have := I.v0
  have e : cV value = 512 * value := rfl
  omega
end
end Mine
end
section
open PySem PySem.W PyProof.Rows
set_option maxRecDepth 100000
set_option maxHeartbeats 8000000
namespace Mine
section
variable {h₀ h' : Heap} {L : Addr} {m' : Str → Option Value} {s1 : Shared} {tk : Nat} {depths : Str} {ns : List Int} {D lD lP lH I : Addr} {fixd pts own : List (Addr × Obj)} {i : Nat} {n : Int} {hv pv dv : List Value} {nh np nd : Nat}

theorem take_ents_some {e : Int × Int} (hn : ns[i]? = some n) (he : ent n = some e) : ents (ns.take (i + 1)) = ents (ns.take i) ++ [e] := by
  rw [List.take_add_one, hn]
  show ents (ns.take i ++ [n]) = _
  rw [ents_snoc, he]; rfl
theorem take_ents_none (hn : ns[i]? = some n) (he : ent n = none) : ents (ns.take (i + 1)) = ents (ns.take i) := by
  rw [List.take_add_one, hn]
  show ents (ns.take i ++ [n]) = _
  rw [ents_snoc, he]; simp

theorem ends_facts {w : List Int} (h63 : ¬ ((63 : Nat) : Int) < (w.length : Int)) : 2 ≤ (ents (w ++ [20735, 20480, 9223])).length ∧ (ents (w ++ [20735, 20480, 9223])).length ≤ 65 := by
  rw [ents_end]
  have := ents_length w
  simp only [List.length_append, List.length_cons, List.length_nil]
  omega
theorem last_pt {w : List Int} {hv pv dv : List Value} {pts : List (Addr × Obj)} (h : Inv (ents (w ++ [20735, 20480, 9223])) hv pv dv pts) :
    ∃ a x y t u, pv[pv.length - 1]? = some (.ref a) ∧ (a, pt x y t u) ∈ pts ∧ Is x 8192 12 ∧ Is y 0 12 := by
  obtain ⟨hl, hp⟩ := h.p
  rw [ents_end] at hl hp
  have hl2 : pv.length = (ents w).length + 2 := by simpa using hl
  have hk : pv.length - 1 < pv.length := by omega
  have hpv : pv[pv.length - 1]? = some pv[pv.length - 1] := by simp [hk]
  have he : (ents w ++ [(63, 64), (0, 64)])[pv.length - 1]? = some (0, 64) := by
    rw [List.getElem?_append_right (by omega)]
    rw [show pv.length - 1 - (ents w).length = 1 by omega]
    rfl
  obtain ⟨a, x, y, t, u, e, hm, hx, hy⟩ := hp _ _ _ hpv he
  exact ⟨a, x, y, t, u, by rw [hpv, e], hm, hx, hy⟩

theorem turn_add {b1 b2 : Addr × Obj} {a : Addr} {x y db : UInt64} {t u td th : Tok} {dA pA hA : Array Value} {nd' np' nh' : Nat}
    (F : Fr h₀ L h' m') (N : News h₀ L h' ((a, pt x y t u) :: b1 :: b2 :: (lD, W.listOf dA nd') :: (lP, W.listOf pA np') :: (lH, W.listOf hA nh') :: (fixd ++ (pts ++ own))))
    (eD : dA = dv.toArray.push (.float db td)) (eP : pA = pv.toArray.push (.ref a)) (eH : hA = hv.toArray.push (.int ((n.fmod 256).fmod 64) th)) (hm : m' depths = some (.ref lD))
    (hn : ns[i]? = some n) (hpos : 0 < (n.fdiv 256).fmod 9 * (n.fdiv 2304).fmod 9)
    (hx : Is x (2 * cR (n.fmod 256) ((n.fdiv 2304).fmod 9 * (n.fdiv 256).fmod 9) ((n.fdiv 2304).fmod 9) - cG (n.fmod 256) ((n.fdiv 2304).fmod 9 * (n.fdiv 256).fmod 9) ((n.fdiv 2304).fmod 9) - cB (n.fmod 256) ((n.fdiv 2304).fmod 9 * (n.fdiv 256).fmod 9) ((n.fdiv 2304).fmod 9)) 12)
    (hy : Is y (cG (n.fmod 256) ((n.fdiv 2304).fmod 9 * (n.fdiv 256).fmod 9) ((n.fdiv 2304).fmod 9) - cB (n.fmod 256) ((n.fdiv 2304).fmod 9 * (n.fdiv 256).fmod 9) ((n.fdiv 2304).fmod 9)) 12)
    (hd : Is db ((n.fdiv 2304).fmod 9 * (n.fdiv 256).fmod 9) 6)
    (hinv : Inv (ents (ns.take i)) hv pv dv pts) (hpts : ∀ p ∈ pts, p.1 ≠ D ∧ p.1 ≠ lD ∧ p.1 ≠ lP ∧ p.1 ≠ lH)
    (ha : a ≠ lD ∧ a ≠ lP ∧ a ≠ lH) (hall : ∀ p ∈ pts ++ own, p.1 < a) (hIo : ∃ o, (I, o) ∈ own) (hDo : ∃ o, (D, o) ∈ own)
    (hfI : ∀ q ∈ fixd ++ pts, q.1 ≠ I) (hDI : lD ≠ I) (hPI : lP ≠ I) (hHI : lH ≠ I) :
    LoopStepU h₀ L [I] own (J1 depths ns D lD lP lH fixd (i + 1)) s1 .next { s1 with heap := h', toks := tk } := by
  subst eD eP eH
  obtain ⟨oI, hoI⟩ := hIo
  obtain ⟨oD, hoD⟩ := hDo
  have haI : a ≠ I := Nat.ne_of_gt (hall (I, oI) (List.mem_append_right _ hoI))
  have haD : a ≠ D := Nat.ne_of_gt (hall (D, oD) (List.mem_append_right _ hoD))
  have he : ent n = some ((n.fmod 256).fmod 64, (n.fdiv 2304).fmod 9 * (n.fdiv 256).fmod 9) := by unfold ent; rw [if_pos hpos]
  rw [point_x] at hx
  rw [point_y] at hy
  rw [← Int.fmod_eq_emod_of_nonneg (n.fmod 256) (b := 64) (by decide)] at hx hy
  refine LoopStepU.intro (news₂ := (lD, W.listOf (dv ++ [Value.float db td]).toArray nd') :: (lP, W.listOf (pv ++ [Value.ref a]).toArray np') :: (lH, W.listOf (hv ++ [Value.int ((n.fmod 256).fmod 64) th]).toArray nh') :: (fixd ++ ((a, pt x y t u) :: pts))) F ?_ ?_ ?_
  · intro p hp
    simp only [List.mem_append, List.mem_cons] at hp
    refine N p ?_
    simp only [List.mem_append, List.mem_cons]
    rcases hp with h | h | h | h | h | h | h
    · exact .inr (.inr (.inr (.inr (.inr (.inr (.inr (.inr h)))))))
    · refine .inr (.inr (.inr (.inl ?_))); rw [h]; simp
    · refine .inr (.inr (.inr (.inr (.inl ?_)))); rw [h]; simp
    · refine .inr (.inr (.inr (.inr (.inr (.inl ?_))))); rw [h]; simp
    · exact .inr (.inr (.inr (.inr (.inr (.inr (.inl h))))))
    · exact .inl h
    · exact .inr (.inr (.inr (.inr (.inr (.inr (.inr (.inl h)))))))
  · intro p hp hpI
    have hpI' := List.mem_singleton.mp hpI
    simp only [List.mem_append, List.mem_cons] at hp
    rcases hp with h | h | h | h | h | h
    · rw [h] at hpI'; exact hDI hpI'
    · rw [h] at hpI'; exact hPI hpI'
    · rw [h] at hpI'; exact hHI hpI'
    · exact hfI p (List.mem_append_left _ h) hpI'
    · rw [h] at hpI'; exact haI hpI'
    · exact hfI p (List.mem_append_right _ h) hpI'
  · refine ⟨hm, _, _, _, _, _, _, (a, pt x y t u) :: pts, ?_, ?_, rfl⟩
    · rw [take_ents_some hn he]
      exact ⟨hinv.h.snoc ⟨th, rfl⟩, (hinv.p.mono (PtIs.mono fun p hp => List.mem_cons_of_mem _ hp)).snoc ⟨a, x, y, t, u, rfl, List.mem_cons_self .., hx, hy⟩, hinv.d.snoc ⟨db, td, rfl, hd⟩⟩
    · intro p hp
      rcases List.mem_cons.mp hp with rfl | hp
      · exact ⟨haD, ha.1, ha.2.1, ha.2.2⟩
      · exact hpts p hp

theorem turn_skip {b1 b2 : Addr × Obj}
    (F : Fr h₀ L h' m') (N : News h₀ L h' (b1 :: b2 :: (lD, W.listOf dv.toArray nd) :: (lP, W.listOf pv.toArray np) :: (lH, W.listOf hv.toArray nh) :: (fixd ++ (pts ++ own)))) (hm : m' depths = some (.ref lD))
    (hn : ns[i]? = some n) (hpos : ¬ 0 < (n.fdiv 256).fmod 9 * (n.fdiv 2304).fmod 9)
    (hinv : Inv (ents (ns.take i)) hv pv dv pts) (hpts : ∀ p ∈ pts, p.1 ≠ D ∧ p.1 ≠ lD ∧ p.1 ≠ lP ∧ p.1 ≠ lH)
    (hfI : ∀ q ∈ fixd ++ pts, q.1 ≠ I) (hDI : lD ≠ I) (hPI : lP ≠ I) (hHI : lH ≠ I) :
    LoopStepU h₀ L [I] own (J1 depths ns D lD lP lH fixd (i + 1)) s1 .next { s1 with heap := h', toks := tk } := by
  have he : ent n = none := by unfold ent; rw [if_neg hpos]
  refine LoopStepU.intro (news₂ := (lD, W.listOf dv.toArray nd) :: (lP, W.listOf pv.toArray np) :: (lH, W.listOf hv.toArray nh) :: (fixd ++ pts)) F ?_ ?_ ?_
  · intro p hp
    simp only [List.mem_append, List.mem_cons] at hp
    refine N p ?_
    simp only [List.mem_append, List.mem_cons]
    rcases hp with h | h | h | h | h | h
    · exact .inr (.inr (.inr (.inr (.inr (.inr (.inr h))))))
    · exact .inr (.inr (.inl h))
    · exact .inr (.inr (.inr (.inl h)))
    · exact .inr (.inr (.inr (.inr (.inl h))))
    · exact .inr (.inr (.inr (.inr (.inr (.inl h)))))
    · exact .inr (.inr (.inr (.inr (.inr (.inr (.inl h))))))
  · intro p hp hpI
    have hpI' := List.mem_singleton.mp hpI
    simp only [List.mem_append, List.mem_cons] at hp
    rcases hp with h | h | h | h | h
    · rw [h] at hpI'; exact hDI hpI'
    · rw [h] at hpI'; exact hPI hpI'
    · rw [h] at hpI'; exact hHI hpI'
    · exact hfI p (List.mem_append_left _ h) hpI'
    · exact hfI p (List.mem_append_right _ h) hpI'
  · exact ⟨hm, _, _, _, _, _, _, pts, by rw [take_ents_none hn he]; exact hinv, hpts, rfl⟩
end
end Mine
end
section
open PySem PySem.W PyProof.Rows
set_option maxRecDepth 100000
set_option maxHeartbeats 8000000
namespace Mine
section
variable {prog : Program} {w : World} {A : Around} {E : Value → Shared → Prop} {s : Shared} {Q : Value → Shared → Prop}

theorem for_inv {env : Env} {h₀ : Heap} {m : Str → Option Value} {x : Str} {px pos : Pos} {iter : PySem.Expr} {body : List Stmt} {Q : Flow → Shared → Prop} (F : Fr h₀ env.locals s.heap m) (hx : env.kindOf x = some .local)
    (hp : (env.scope.kind == .class || (env.scope.kind == .module && env.locals != env.globals)) = false)
    (h : wpAny (model prog w) A (eval iter env) (fun xv s₁ => wpAny (model prog w) A (pyIter xv) (fun it s₂ => LoopAtU prog w A h₀ env x body Q E it s₂) E s₁) E s)
    (hs : ∀ x, foldedSetIterable iter env x = pure x := by intro _; rfl)
    (hE : PassesOwn (model prog w) A env E := by passes_own) :
    wpAny (model prog w) A (exec (.For (.Name x px) iter body [] pos) env) Q E s := For_invU h₀ hx hp h hs hE

theorem item_at {value slice : PySem.Expr} {l : Addr} {vs : List Value} {c : Nat} {k : Int} {u : Tok} {v : Value}
    (hl : s.heap.get? l = some (W.listOf vs.toArray c)) (h0 : 0 ≤ k) (hhi : k < 2 ^ 63) (hx : vs[k.toNat]? = some v) (h : Q v s)
    (hs : subscripted slice false (.ref l) (.int k u) = operate [.ref l, .int k u] (getItem (.ref l) (.int k u)) := by with_unfolding_all rfl) :
    wpAny (model prog w) A (subscriptTail value slice (.ref l) (.int k u)) Q E s := by
  have hL : s.heap.IsList l vs.toArray := ⟨_, hl, rfl, _, rfl⟩
  exact tail_any hL.typeIs slot_list_getitem.lookup (wpAny_getItem_list hL h0 hhi (by simpa using hx) h) hs
theorem item_last {value slice : PySem.Expr} {l : Addr} {vs : List Value} {c : Nat} {u : Tok} {v : Value}
    (hl : s.heap.get? l = some (W.listOf vs.toArray c)) (hne : 1 ≤ vs.length) (hx : vs[vs.length - 1]? = some v) (h : Q v s)
    (hs : subscripted slice false (.ref l) (.int (-1) u) = operate [.ref l, .int (-1) u] (getItem (.ref l) (.int (-1) u)) := by with_unfolding_all rfl) :
    wpAny (model prog w) A (subscriptTail value slice (.ref l) (.int (-1) u)) Q E s := by
  have hL : s.heap.IsList l vs.toArray := ⟨_, hl, rfl, _, rfl⟩
  refine tail_any hL.typeIs slot_list_getitem.lookup (wpAny_getItem_list_neg hL (by decide) (by simp; omega) (by decide) ?_ h) hs
  have e : ((-1 : Int) + (vs.toArray.size : Int)).toNat = vs.length - 1 := by simp; omega
  rw [e]; simpa using hx

theorem eqBool_fi {x : UInt64} {n : Int} {t u : Tok} {Q : Bool → Shared → Prop} (h : Q (Float64.cmpInt x n == some Ordering.eq) s) : wpAny (model prog w) A (eqBool (.float x t) (.int n u)) Q E s := by
  unfold eqBool
  refine wpAny_holding ?_
  rw [if_neg (by simp)]
  exact wpAny_bind (eq_fi (wpAny_truthy_bool h))

theorem ne_pt {a b : Addr} {x y : UInt64} {t u t' u' : Tok} (hx : Is x 8192 12) (hy : Is y 0 12) (ha : s.heap.get? a = some (pt x y t u)) (hb : s.heap.get? b = some { cls := .type "tuple", data := .seq #[.int 2 t', .int 0 u'] })
    (hu : A.units < cLine) (h : Q (.bool false) s) : wpAny (model prog w) A (compareOp .NotEq (.ref a) (.ref b)) Q E s := by
  have hTa : s.TypeIs (.ref a) "tuple" := ⟨_, ha, rfl⟩
  have hTb : s.TypeIs (.ref b) "tuple" := ⟨_, hb, rfl⟩
  show wpAny _ A (richCompare .NotEq _ _) Q E s
  refine wpAny_richCompare_same_room (op := .NotEq) hTa hTb F.slot_tuple_ne (wpAny_call_entry F.slot_tuple_ne hTa F.entry_tuple_ne ?_ (F.args_tuple_ne_2 _ _)) hu
  have e1 : (Float64.cmpInt x 2 == some Ordering.eq) = true := by rw [hx.cmpInt (by decide)]; rfl
  have e2 : (Float64.cmpInt y 0 == some Ordering.eq) = true := by rw [hy.cmpInt (by decide)]; rfl
  refine X.x_load hb ?_
  refine X.x_load ha ?_
  refine X.x_load hb ?_
  refine wpAny_bind (m := forIn [(Value.float x t, Value.int 2 t'), (Value.float y u, Value.int 0 u')] (none, ()) _) ?_
  rw [List.forIn_cons]
  refine wpAny_bind (wpAny_bind (eqBool_fi ?_))
  rw [e1]
  refine wpAny_pure ?_
  dsimp only
  rw [List.forIn_cons]
  refine wpAny_bind (wpAny_bind (eqBool_fi ?_))
  rw [e2]
  refine wpAny_pure ?_
  dsimp only
  rw [List.forIn_nil]
  refine wpAny_pure ?_
  exact wpAny_pure ⟨_, rfl, (fun e => nomatch e), h⟩
end
end Mine
end
section
open PySem PySem.W PyProof.Rows
set_option maxRecDepth 100000
set_option maxHeartbeats 8000000
namespace Mine

/-- the frame's map: a few names that are known, the rest forgotten -/
noncomputable def kmap : List (Str × Value) → (Str → Option Value) → Str → Option Value
  | [], u => u
  | (k, v) :: r, u => fun y => if y = k then some v else kmap r u y
def Keeps0 (keep : List (Str × Value)) (m : Str → Option Value) : Prop := ∀ p ∈ keep, m p.1 = some p.2
theorem kmap_eq : ∀ {keep : List (Str × Value)} {m : Str → Option Value}, Keeps0 keep m → m = kmap keep m
  | [], _, _ => rfl
  | (k, v) :: r, m, h => by
    have ih := kmap_eq (keep := r) (m := m) fun p hp => h p (List.mem_cons_of_mem _ hp)
    funext y
    show m y = if y = k then some v else kmap r m y
    by_cases hy : y = k
    · rw [if_pos hy, hy]; exact h (k, v) (List.mem_cons_self ..)
    · rw [if_neg hy, ← ih]
theorem keeps_nil (m : Str → Option Value) : Keeps0 [] m := fun _ h => nomatch h
theorem keeps_cons {k : Str} {v : Value} {r : List (Str × Value)} {m : Str → Option Value} (h : m k = some v) (hr : Keeps0 r m) : Keeps0 ((k, v) :: r) m := by
  intro p hp
  rcases List.mem_cons.mp hp with rfl | hp
  · exact h
  · exact hr p hp

section
variable {prog : Program} {w : World} {A : Around} {E : Value → Shared → Prop} {s : Shared}

theorem len_my {l : Addr} {vs : List Value} {c : Nat} {Q : Value → Shared → Prop} (hl : s.heap.get? l = some (W.listOf vs.toArray c)) (hz : vs.length ≤ 1000) (h : Q (.int (vs.length : Int) (s.toks + 1)) { s with toks := s.toks + 1 + 1 }) :
    wpAny (model prog w) A (call (.builtin "len") [.ref l]) Q E s := by
  have hL : s.heap.IsList l vs.toArray := ⟨_, hl, rfl, _, rfl⟩
  refine len_list hL (by simp; omega) ?_
  simpa using h

variable {env : Env} {h₀ : Heap} {body : List Stmt} {Q : Flow → Shared → Prop}
theorem small_range {n : Nat} (h : n ≤ 1000) : Builtin.Range.small 0 (n : Int) 1 = true := by
  have e := rangeSize_nat 0 (n : Int)
  unfold Builtin.Range.small
  rw [e]
  simp [Builtin.Range.rangeFitsLong]
  omega

theorem loop_range {x : Str} {r : Addr} {n : Nat} {t₀ u₀ v₀ : Tok} {m₀ : Str → Option Value} {news : List (Addr × Obj)} (keep : List (Str × Value))
    (hh : A.handled = none) (hR : IsRange s.heap r 0 (n : Int) 1 t₀ u₀ v₀) (hn : n ≤ 1000) (F : Fr h₀ env.locals s.heap m₀) (N : News h₀ env.locals s.heap news) (hk : Keeps0 keep m₀)
    (turn : ∀ (i : Nat) (t : Tok) (u : Str → Option Value) (own : List (Addr × Obj)) (s₁ : Shared) (I : Addr), i < n → (∀ q ∈ news, q.1 ≠ I) →
      Fr h₀ env.locals s₁.heap (fun y => if y = x then some (.int (i : Int) t) else kmap keep u y) → News h₀ env.locals s₁.heap (news ++ own) →
      wpAny (model prog w) A (execs body env) (LoopStepU h₀ env.locals [I] own (fun m news' => Keeps0 keep m ∧ news' = news) s₁) E s₁)
    (done : ∀ (u : Str → Option Value) h tk, Fr h₀ env.locals h (kmap keep u) → News h₀ env.locals h news → Q .next { s with heap := h, toks := tk }) :
    wpAny (model prog w) A (pyIter (.ref r)) (fun it s₂ => LoopAtU prog w A h₀ env x body Q E it s₂) E s := by
  refine wpAny_pyIter_range hR (small_range hn) ?_
  have hsz : Builtin.Range.rangeSize 0 (n : Int) 1 = (n : Int) := by rw [rangeSize_nat]; simp
  have Wk := Walks.range (prog := prog) (w := w) hh s.heap.objs.size 0 1 n
  refine ⟨_, _, _, n, _, _, m₀, news, fun _ m news' => Keeps0 keep m ∧ news' = news, rfl, Wk, ?_, ?_, ?_, (by show IsRangeIter _ _ _ _ _; rw [hsz]; simpa using Heap.get?_push_size _ rfl), F.push _, (fun p hp => ⟨Heap.get?_push_of_some _ (N p hp).1, (N p hp).2⟩), ⟨hk, rfl⟩, ?_, ?_⟩
  · intro hm
    exact absurd F.ns.lt ((List.mem_singleton.mp hm) ▸ Nat.lt_irrefl _)
  · intro b hb
    rw [List.mem_singleton.mp hb]
    exact next_is_new F
  · intro p hp hI
    exact absurd (Heap.lt_size (N p hp).1) ((List.mem_singleton.mp hI) ▸ Nat.lt_irrefl _)
  · rintro i v m₁ news₁ s₁ own hi ⟨t, rfl⟩ ⟨hk₁, rfl⟩ hoff _ _ _ _ F₁ N₁
    rw [kmap_eq hk₁, show (0 : Int) + (i : Int) * 1 = (i : Int) by omega] at F₁
    refine turn i t m₁ own s₁ s.heap.objs.size hi (fun q hq e => hoff q hq (List.mem_singleton.mpr e)) F₁ ?_
    intro p hp
    rcases List.mem_append.mp hp with h | h
    · exact N₁ p (List.mem_append_right _ h)
    · exact N₁ p (List.mem_append_left _ h)
  · rintro h' tk m' news' F' N' _ ⟨hk', rfl⟩
    rw [kmap_eq hk'] at F'
    exact done m' h' tk F' N'

theorem turn_same {h' : Heap} {L : Addr} {m' : Str → Option Value} {s₁ : Shared} {tk : Nat} {I : Addr} {news news' own : List (Addr × Obj)} {keep : List (Str × Value)} (F : Fr h₀ L h' m') (N : News h₀ L h' news') (hs : ∀ p ∈ news ++ own, p ∈ news') (hI : ∀ q ∈ news, q.1 ≠ I) (hk : Keeps0 keep m') :
    LoopStepU h₀ L [I] own (fun m news' => Keeps0 keep m ∧ news' = news) s₁ .next { s₁ with heap := h', toks := tk } := by
  refine LoopStepU.intro (news₂ := news) F (fun p hp => N p (hs p ?_)) (fun p hp h => hI p hp (List.mem_singleton.mp h)) ⟨hk, rfl⟩
  rcases List.mem_append.mp hp with h | h
  · exact List.mem_append_right _ h
  · exact List.mem_append_left _ h
end
end Mine
end
section
open PySem PySem.W PyProof.Rows
set_option maxRecDepth 100000
set_option maxHeartbeats 8000000
set_option exponentiation.threshold 2100
namespace Mine

structure At (es : List (Int × Int)) (hv pv dv : List Value) (pts : List (Addr × Obj)) (i : Nat) (h d : Int) (a : Addr) (x y b : UInt64) (t u th tb : Tok) : Prop where
  e : es[i]? = some (h, d)
  h0 : 0 ≤ h
  h1 : h < 64
  d0 : 0 < d
  d1 : d ≤ 64
  hv : hv[i]? = some (.int h th)
  pv : pv[i]? = some (.ref a)
  mem : (a, pt x y t u) ∈ pts
  ix : Is x (d * ux h) 12
  iy : Is y (d * uy h) 12
  dv : dv[i]? = some (.float b tb)
  ib : Is b d 6

theorem at_ {ns : List Int} {hv pv dv : List Value} {pts : List (Addr × Obj)} (I : Inv (ents ns) hv pv dv pts) {i : Nat} (hi : i < (ents ns).length) :
    ∃ h d a x y b t u th tb, At (ents ns) hv pv dv pts i h d a x y b t u th tb := by
  have he : (ents ns)[i]? = some (ents ns)[i] := by simp [hi]
  obtain ⟨h0, h1, d0, d1⟩ := ents_fit (List.getElem_mem hi)
  have i1 : i < hv.length := by rw [I.h.1]; exact hi
  have i2 : i < pv.length := by rw [I.p.1]; exact hi
  have i3 : i < dv.length := by rw [I.d.1]; exact hi
  have hh : hv[i]? = some hv[i] := List.getElem?_eq_getElem i1
  have hp : pv[i]? = some pv[i] := List.getElem?_eq_getElem i2
  have hd : dv[i]? = some dv[i] := List.getElem?_eq_getElem i3
  obtain ⟨th, eh⟩ := I.h.2 i _ _ hh he
  obtain ⟨a, x, y, t, u, ep, hm, hx, hy⟩ := I.p.2 i _ _ hp he
  obtain ⟨b, tb, ed, hb⟩ := I.d.2 i _ _ hd he
  exact ⟨(ents ns)[i].1, (ents ns)[i].2, a, x, y, b, t, u, th, tb, ⟨he, h0, h1, d0, d1, by rw [hh, eh], by rw [hp, ep], hm, hx, hy, by rw [hd, ed], hb⟩⟩

theorem pos_mul_iff {p k : Int} (hp : 0 < p) : (0 < p * k ↔ 0 < k) ∧ (p * k < 0 ↔ k < 0) ∧ (p * k = 0 ↔ k = 0) := by
  refine ⟨⟨fun h => ?_, fun h => Int.mul_pos hp h⟩, ⟨fun h => ?_, fun h => Int.mul_neg_of_pos_of_neg hp h⟩, ⟨fun h => ?_, fun h => by rw [h, Int.mul_zero]⟩⟩
  · exact Int.pos_of_mul_pos_right h hp
  · rcases Int.lt_trichotomy k 0 with h1 | h1 | h1
    · exact h1
    · rw [h1, Int.mul_zero] at h; omega
    · have := Int.mul_pos hp h1; omega
  · rcases Int.mul_eq_zero.mp h with h1 | h1
    · omega
    · exact h1

theorem cross_is {x1 y1 x2 y2 : UInt64} {h1 d1 h2 d2 : Int} (hx1 : Is x1 (d1 * ux h1) 12) (hy1 : Is y1 (d1 * uy h1) 12) (hx2 : Is x2 (d2 * ux h2) 12) (hy2 : Is y2 (d2 * uy h2) 12)
    (a0 : 0 ≤ h1) (a1 : h1 < 64) (b0 : 0 ≤ h2) (b1 : h2 < 64) (c0 : 0 < d1) (c1 : d1 ≤ 64) (e0 : 0 < d2) (e1 : d2 ≤ 64) :
    Is (Float64.sub (Float64.mul x1 y2) (Float64.mul y1 x2)) (d1 * d2 * cr h1 h2) 24 := by
  obtain ⟨u1, u2, u3, u4, _⟩ := one_facts a0 a1
  obtain ⟨v1, v2, v3, v4, _⟩ := one_facts b0 b1
  have bd : ∀ {d k : Int}, 0 < d → d ≤ 64 → -128 ≤ k → k ≤ 128 → -8192 ≤ d * k ∧ d * k ≤ 8192 := by
    intro d k h h' h2 h3
    have := Int.mul_le_mul_of_nonneg_left h3 (show 0 ≤ d by omega)
    have := Int.mul_le_mul_of_nonneg_left h2 (show 0 ≤ d by omega)
    omega
  have p1 := bd c0 c1 u1 u2
  have p2 := bd c0 c1 (show -128 ≤ uy h1 by omega) (show uy h1 ≤ 128 by omega)
  have p3 := bd e0 e1 v1 v2
  have p4 := bd e0 e1 (show -128 ≤ uy h2 by omega) (show uy h2 ≤ 128 by omega)
  have pb : ∀ {p q : Int}, -8192 ≤ p ∧ p ≤ 8192 → -8192 ≤ q ∧ q ≤ 8192 → (p * q).natAbs ≤ 67108864 := by
    intro p q hp hq
    rw [Int.natAbs_mul]
    have : p.natAbs ≤ 8192 := by omega
    have : q.natAbs ≤ 8192 := by omega
    exact Nat.le_trans (Nat.mul_le_mul ‹p.natAbs ≤ 8192› ‹q.natAbs ≤ 8192›) (by decide)
  have q1 := pb p1 p4
  have q2 := pb p2 p3
  have m1 := hx1.mul hy2 (by omega) (by decide)
  have m2 := hy1.mul hx2 (by omega) (by decide)
  exact (m1.sub m2 (by omega)).cast (by unfold cr; grind)

section
variable {prog : Program} {w : World} {A : Around} {E : Value → Shared → Prop} {s : Shared} {Q : Value → Shared → Prop}

theorem item_nat {value slice : PySem.Expr} {l : Addr} {vs : List Value} {c i : Nat} {u : Tok} {v : Value}
    (hl : s.heap.get? l = some (W.listOf vs.toArray c)) (hi : i ≤ 1000) (hx : vs[i]? = some v) (h : Q v s)
    (hs : subscripted slice false (.ref l) (.int (i : Int) u) = operate [.ref l, .int (i : Int) u] (getItem (.ref l) (.int (i : Int) u)) := by with_unfolding_all rfl) :
    wpAny (model prog w) A (subscriptTail value slice (.ref l) (.int (i : Int) u)) Q E s :=
  item_at hl (by omega) (by omega) (by simpa using hx) h hs

theorem gt_cross {z : UInt64} {h1 d1 h2 d2 : Int} {t u : Tok} (hz : Is z (d1 * d2 * cr h1 h2) 24) (a0 : 0 ≤ h1) (a1 : h1 < 64) (b0 : 0 ≤ h2) (b1 : h2 < 64) (c0 : 0 < d1) (e0 : 0 < d2)
    (h : Q (.bool (decide (0 < (h2 - h1).fmod 64 ∧ (h2 - h1).fmod 64 < 32))) s) : wpAny (model prog w) A (compareOp .Gt (.float z t) (.int 0 u)) Q E s := by
  refine gt_fi ?_
  have e : (Float64.cmpInt z 0 == some Ordering.gt) = decide (0 < (h2 - h1).fmod 64 ∧ (h2 - h1).fmod 64 < 32) := by
    rw [hz.cmpInt (by decide), Int.fmod_eq_emod_of_nonneg _ (by decide), Bool.eq_iff_iff]
    have q1 := (two_facts a0 a1 b0 b1).1
    have q2 := (pos_mul_iff (k := cr h1 h2) (Int.mul_pos c0 e0)).1
    simp only [Int.zero_mul, beq_iff_eq, Option.some.injEq, Int.compare_eq_gt, decide_eq_true_eq]
    rw [← q1]; exact q2
  rw [e]; exact h
theorem lt_cross {z : UInt64} {h1 d1 h2 d2 : Int} {t u : Tok} (hz : Is z (d1 * d2 * cr h1 h2) 24) (a0 : 0 ≤ h1) (a1 : h1 < 64) (b0 : 0 ≤ h2) (b1 : h2 < 64) (c0 : 0 < d1) (e0 : 0 < d2)
    (h : Q (.bool (decide (32 < (h2 - h1).fmod 64))) s) : wpAny (model prog w) A (compareOp .Lt (.float z t) (.int 0 u)) Q E s := by
  refine lt_fi ?_
  have e : (Float64.cmpInt z 0 == some Ordering.lt) = decide (32 < (h2 - h1).fmod 64) := by
    rw [hz.cmpInt (by decide), Int.fmod_eq_emod_of_nonneg _ (by decide), Bool.eq_iff_iff]
    have q1 := (two_facts a0 a1 b0 b1).2.1
    have q2 := (pos_mul_iff (k := cr h1 h2) (Int.mul_pos c0 e0)).2.1
    simp only [Int.zero_mul, beq_iff_eq, Option.some.injEq, Int.compare_eq_lt, decide_eq_true_eq]
    rw [← q1]; exact q2
  rw [e]; exact h
theorem ne_cross {z y : UInt64} {h1 d1 h2 d2 : Int} {t u : Tok} (hz : Is z (d1 * d2 * cr h1 h2) 24) (hy : Is y (12 * (h2 - h1) * d1 * d2) 18) (a0 : 0 ≤ h1) (a1 : h1 < 64) (b0 : 0 ≤ h2) (b1 : h2 < 64)
    (hs : (h1 * 6).fdiv 64 = (h2 * 6).fdiv 64) (h : Q (.bool false) s) : wpAny (model prog w) A (compareOp .NotEq (.float z t) (.float y u)) Q E s := by
  refine ne_same hz hy (by decide) ?_ h
  rw [Int.fdiv_eq_ediv_of_nonneg _ (by decide), Int.fdiv_eq_ediv_of_nonneg _ (by decide)] at hs
  rw [(two_facts a0 a1 b0 b1).2.2 hs]
  grind
end
end Mine
namespace Mine
section
variable {w : World} {p : Program} {loose : List Str} {mean : ExcName → Option Value} {mg mb : Str → Option Value}
    {dp un : Nat} {gd : Option (List Code)} {cn : Str} {cs : Scope} {a : Addr} {ccd : Value} {cl : List (Str × Addr)} {outer : List Env} {A₀ : Around} {base h₀ : Heap} {L : Addr} {m : Str → Option Value} {s : Shared}
    {Q E : Value → Shared → Prop} {news pts : List (Addr × Obj)} {es : List (Int × Int)} {hv pv dv : List Value} {i j : Nat} {h1 d1 h2 d2 : Int} {a1 a2 : Addr} {x1 y1 b1 x2 y2 b2 : UInt64} {t1 u1 th1 tb1 t2 u2 th2 tb2 : Tok}
theorem cross_z (hA : At es hv pv dv pts i h1 d1 a1 x1 y1 b1 t1 u1 th1 tb1) (hB : At es hv pv dv pts j h2 d2 a2 x2 y2 b2 t2 u2 th2 tb2)
    (B : Below A₀ base outer h₀) (F : Fr h₀ L s.heap m) (X : (Mine.hd.heap_39 w.params).In h₀) (N : News h₀ L s.heap news)
    (T : Top p loose mean mg mb h₀) (hk : cs.kind = .function) (hd : dp + 1 < recursionLimit) (hu : un + 8 < cLine) (hs : ∀ q ∈ pts, q ∈ news)
    (hret : ∀ (z : UInt64) (t : Tok) (h' : Heap) (tk' : Nat), Is z (d1 * d2 * cr h1 h2) 24 → Fr h₀ L h' m → News h₀ L h' news → Q (.float z t) { s with heap := h', toks := tk' }) :
    wpAny (model Challenge.rw_dn0037_01.row.prog w) (ktrTop dp un gd cn cs L a ccd cl outer) (call (.ref 35) [.ref a1, .ref a2]) Q E s :=
  cross_c B F X N T hk hd hu (hs _ hA.mem) (hs _ hB.mem) fun t h' tk' F' N' => hret _ t h' tk' (cross_is hA.ix hA.iy hB.ix hB.iy hA.h0 hA.h1 hB.h0 hB.h1 hA.d0 hA.d1 hB.d0 hB.d1) F' N'
theorem mult_fits (hA : At es hv pv dv pts i h1 d1 a1 x1 y1 b1 t1 u1 th1 tb1) (hB : At es hv pv dv pts j h2 d2 a2 x2 y2 b2 t2 u2 th2 tb2) :
    (12 * (h2 - h1) * d1).natAbs < 2 ^ 53 ∧ (12 * (h2 - h1) * d1 * d2).natAbs < 2 ^ 53 := by
  have k1 := hA.h0; have k2 := hA.h1; have k3 := hB.h0; have k4 := hB.h1; have k5 := hA.d0; have k6 := hA.d1; have k7 := hB.d0; have k8 := hB.d1
  have e1 : (12 * (h2 - h1)).natAbs ≤ 756 := by omega
  have e2 : (12 * (h2 - h1) * d1).natAbs ≤ 756 * 64 := by rw [Int.natAbs_mul]; exact Nat.mul_le_mul e1 (by omega)
  have e3 : (12 * (h2 - h1) * d1 * d2).natAbs ≤ 756 * 64 * 64 := by rw [Int.natAbs_mul]; exact Nat.mul_le_mul e2 (by omega)
  omega
end
end Mine
end
section
open PySem PySem.W PyProof.Rows
set_option maxRecDepth 100000
set_option maxHeartbeats 4000000
namespace Mine
/-- the sort of n items asked by c ends with the places of ps' -/
def RunsTo (prog : Program) (w : World) (c : Nat → Nat → Bool) (n : Nat) (ps' : PSt) : Prop :=
  ∃ r : SI prog w c n → Unit, ∀ (X : SI prog w c n) (s : Shared), X.I s → wpAny (model prog w) X.A (sortRuns'.run (X.st ⟨Array.range n, #[], 7⟩)) (fun q s' => q = (r X, X.st ps') ∧ X.I s') (fun _ _ => False) s
theorem runs_exist (prog : Program) (w : World) (c : Nat → Nat → Bool) {n : Nat} (h2 : 2 ≤ n) (h65 : n ≤ 65) : ∃ ps', Good n ps' ∧ RunsTo prog w c n ps' := by
  have g : Good n ⟨Array.range n, #[], 7⟩ := ⟨by simp, fun x hx => by simpa using hx⟩
  obtain ⟨r, ps', h1, h3⟩ := Ex_sortRuns (prog := prog) (w := w) (c := c) (Φ := fun _ ps' => Good n ps') g rfl h2 h65 fun _ g' => g'
  exact ⟨ps', h3, r, h1⟩
abbrev Led (news kown : List (Addr × Obj)) (kS a : Addr) (kA : Array Value) (e e1 : Nat) : List (Addr × Obj) := kown ++ (news ++ [(kS, seqObj "list" kA e), (a, seqObj "list" #[] e1)])
section
variable {prog : Program} {w : World} {A : Around} {E : Value → Shared → Prop} {s : Shared} {h₀ : Heap} {L : Addr} {m : Str → Option Value} {news kown : List (Addr × Obj)} {a kS : Addr} {vs : List Value} {keys : Array Value} {e e1 : Nat} {P : PySem.Fin → Shared → Prop}
theorem led_k {kA : Array Value} : (kS, seqObj "list" kA e) ∈ Led news kown kS a kA e e1 := List.mem_append_right _ (List.mem_append_right _ (.head _))
theorem led_a {kA : Array Value} : (a, seqObj "list" #[] e1) ∈ Led news kown kS a kA e e1 := List.mem_append_right _ (List.mem_append_right _ (.tail _ (.head _)))
theorem led_n {kA : Array Value} {p : Addr × Obj} (hp : p ∈ kown ++ news) : p ∈ Led news kown kS a kA e e1 := by
  rcases List.mem_append.mp hp with hp | hp
  · exact List.mem_append_left _ hp
  · exact List.mem_append_right _ (List.mem_append_left _ hp)
theorem my_tail {st : SortSt} (F : Fr h₀ L s.heap m) (N : News h₀ L s.heap (Led news kown kS a keys e e1)) (hka : kS ≠ a) (hn : ∀ p ∈ kown ++ news, p.1 ≠ kS ∧ p.1 ≠ a)
    (hsz : keys.size ≤ 1000) (hsz2 : (arrOf st).size ≤ 1000) (hfl : failedOf st = none)
    (h : ∀ h' c, Fr h₀ L h' m → News h₀ L h' ((a, seqObj "list" ((arrOf st).map (·.2)) c) :: (kown ++ news)) → P (.done (.ret .none)) { s with heap := h' }) :
    wpAny (model prog w) A (ksk_tail a false e1 (.ref kS) st) P E s := by
  have nk := N _ led_k
  have na := N _ led_a
  have Nn : News h₀ L s.heap (kown ++ news) := fun p hp => N p (led_n hp)
  have hout : ((arrOf st).map (·.2)).size ≤ 1000 := by rw [Array.size_map]; exact hsz2
  have s1 := Heap.SameBut.update s.heap kS (Obj.mapSeq fun _ => (#[] : Array Value))
  have na1 : (s.heap.update kS (Obj.mapSeq fun _ => (#[] : Array Value))).get? a = some (seqObj "list" #[] e1) := (s1.2 a hka.symm).trans na.1
  have s2 := Heap.SameBut.update (s.heap.update kS (Obj.mapSeq fun _ => (#[] : Array Value))) a (Obj.mapSeq fun _ => (arrOf st).map (·.2))
  obtain ⟨c2, hc2⟩ : ∃ c2, ((s.heap.update kS (Obj.mapSeq fun _ => (#[] : Array Value))).update a (Obj.mapSeq fun _ => (arrOf st).map (·.2))).get? a = some (seqObj "list" ((arrOf st).map (·.2)) c2) := ⟨_, get?_update_seq na1 fun _ => (arrOf st).map (·.2)⟩
  have N2 := ksk_news (ksk_news Nn s1 fun p hp => (hn p hp).1) s2 fun p hp => (hn p hp).2
  unfold ksk_tail
  try dsimp only
  refine wpAny_bind (listUpdate_at nk.1 rfl ?_ (by rw [sizeLine_eq]; omega) (Nat.zero_le _))
  refine wpAny_bind (wpAny_letGo ?_)
  refine wpAny_bind (seqEpoch_at na1 rfl ?_)
  simp only [Bool.false_eq_true, if_false]
  refine wpAny_bind (listUpdate_at na1 rfl ?_ (Nat.zero_le _) (Nat.le_trans hout (by rw [sizeLine_eq]; omega)))
  rw [hfl]
  simp only [bne_self_eq_false, Bool.false_eq_true, if_false]
  refine wpAny_pure (h _ c2 (ksk_fr (ksk_fr F s1 nk.2.1 nk.2.2) s2 na.2.1 na.2.2) fun p hp => ?_)
  rcases List.mem_cons.mp hp with rfl | hp
  · exact ⟨hc2, na.2⟩
  · exact N2 p hp
theorem zip_range {n : Nat} (hk : keys.size = n) (hv : vs.length = n) : keys.zip vs.toArray = (Array.range n).map fun i => (keys.getD i .none, vs.getD i .none) := by
  apply Array.ext
  · simp [hk, hv]
  · intro i h1 h2
    have hi : i < n := by simpa using h2
    simp [hk, hv, hi, Array.getD]
/-- the state of the sort: the ledger stands -/
def StOk (h₀ : Heap) (L : Addr) (m : Str → Option Value) (led : List (Addr × Obj)) (s s' : Shared) : Prop := ∃ h' tk, s' = { s with heap := h', toks := tk } ∧ Fr h₀ L h' m ∧ News h₀ L h' led
theorem my_end {c : Nat → Nat → Bool} {n : Nat} {ps' : PSt} (hv : vs.length = n) (hk : keys.size = n) (h2 : 2 ≤ n) (h65 : n ≤ 65) (G : Good n ps') (R : RunsTo prog w c n ps')
    (F : Fr h₀ L s.heap m) (N : News h₀ L s.heap (Led news kown kS a keys e e1)) (hka : kS ≠ a) (hn : ∀ p ∈ kown ++ news, p.1 ≠ kS ∧ p.1 ≠ a)
    (hkd : wpAny (model prog w) A (keyKind' keys) (fun k s' => k = oneType' ∧ s' = s) (fun _ _ => False) s)
    (hlt : ∀ i j, i < n → j < n → ∀ s', StOk h₀ L m (Led news kown kS a keys e e1) s s' → wpAny (model prog w) A (keyLt' oneType' (keys.getD i .none) (keys.getD j .none)) (fun b s'' => b = c i j ∧ StOk h₀ L m (Led news kown kS a keys e e1) s s'') (fun _ _ => False) s')
    (h : ∀ h' tk c', Fr h₀ L h' m → News h₀ L h' ((a, seqObj "list" (ps'.p.map fun i => vs.getD i .none) c') :: (kown ++ news)) → P (.done (.ret .none)) { s with heap := h', toks := tk }) :
    wpAny (model prog w) A (ksk_end a false vs.toArray e1 (.ref kS) keys) P E s := by
  unfold ksk_end
  dsimp only
  have h2' : ¬ vs.toArray.size < 2 := by rw [List.size_toArray]; omega
  rw [if_neg Bool.false_ne_true, if_neg h2', if_neg h2']
  refine wpAny_bind (wpAny_mono hkd (fun k s' hk' => ?_) fun _ _ hf => hf.elim)
  obtain ⟨rfl, rfl⟩ := hk'
  obtain ⟨r, hr⟩ := R
  let X : SI prog w c n := ⟨A, StOk h₀ L m (Led news kown kS a keys e e1) s', oneType', fun i => (keys.getD i .none, vs.getD i .none), hlt⟩
  have e0 : SortSt.mk' oneType' (keys.zip vs.toArray) #[] 7 none = X.st ⟨Array.range n, #[], 7⟩ := by rw [zip_range hk hv]; rfl
  simp only [Bool.false_eq_true, if_false]
  rw [e0]
  refine wpAny_bind (wpAny_mono (hr X s' ⟨s'.heap, s'.toks, rfl, F, N⟩) (fun q s'' hq => ?_) fun _ _ hf => hf.elim)
  obtain ⟨rfl, h', tk, rfl, F', N'⟩ := hq
  dsimp only
  have e1' : (arrOf (X.st ps')).map (·.2) = ps'.p.map fun i => vs.getD i .none := by
    show ((ps'.p.map X.it).map (·.2)) = _
    rw [Array.map_map]; rfl
  refine my_tail (s := { s' with heap := h', toks := tk }) F' N' hka hn (by omega) ?_ rfl fun h3 c3 F3 N3 => ?_
  · show (ps'.p.map X.it).size ≤ 1000
    rw [Array.size_map, G.sz]; omega
  · rw [e1'] at N3
    exact h h3 tk c3 F3 N3
end
end Mine
end
section
open PySem PySem.W PyProof.Rows
set_option maxRecDepth 100000
set_option maxHeartbeats 4000000
namespace Mine
/-- a call of the key: the i-th key, and what it has made -/
def KeyEnd (h₀ : Heap) (L : Addr) (m : Str → Option Value) (KP : Nat → Value → List (Addr × Obj) → Prop) (i : Nat) (led : List (Addr × Obj)) (s : Shared) (r : Value) (s' : Shared) : Prop :=
  ∃ g tk own, s' = { s with heap := g, toks := tk } ∧ Fr h₀ L g m ∧ News h₀ L g (own ++ led) ∧ (∀ p ∈ own, ∀ q ∈ led, p.1 ≠ q.1) ∧ KP i r own
section
variable {prog : Program} {w : World} {A : Around} {E : Value → Shared → Prop} {s : Shared} {h₀ : Heap} {L : Addr} {m : Str → Option Value} {news kown : List (Addr × Obj)} {a kS : Addr} {vs : List Value} {e e1 : Nat} {P : PySem.Fin → Shared → Prop}
    {c : Nat → Nat → Bool} {n : Nat} {ps' : PSt} {KP : Nat → Value → List (Addr × Obj) → Prop}
theorem my_rest {f : Value} (hv : vs.length = n) (h2 : 2 ≤ n) (h65 : n ≤ 65) (G : Good n ps') (R : RunsTo prog w c n ps')
    (F : Fr h₀ L s.heap m) (N : News h₀ L s.heap (news ++ [(kS, seqObj "list" #[] 0), (a, seqObj "list" #[] e1)])) (hka : kS ≠ a) (hn : ∀ p ∈ news, p.1 ≠ kS ∧ p.1 ≠ a)
    (hmono : ∀ i r own own', (∀ p ∈ own, p ∈ own') → KP i r own → KP i r own')
    (turn : ∀ (i : Nat) (v : Value), vs[i]? = some v → ∀ (h : Heap) (tk : Nat) (led : List (Addr × Obj)), (∀ p ∈ news, p ∈ led) → Fr h₀ L h m → News h₀ L h led →
      wpAny (model prog w) A (call f [v]) (KeyEnd h₀ L m KP i led { s with heap := h, toks := tk }) (fun _ _ => False) { s with heap := h, toks := tk })
    (hkd : ∀ (keys : Array Value) (kown : List (Addr × Obj)) (e : Nat) (s₁ : Shared), keys.size = n → (∀ i, i < n → KP i (keys.getD i .none) kown) → StOk h₀ L m (Led news kown kS a keys e e1) s s₁ →
      wpAny (model prog w) A (keyKind' keys) (fun k s' => k = oneType' ∧ s' = s₁) (fun _ _ => False) s₁)
    (hlt : ∀ (keys : Array Value) (kown led : List (Addr × Obj)) (i j : Nat), i < n → j < n → KP i (keys.getD i .none) kown → KP j (keys.getD j .none) kown → (∀ p ∈ kown ++ news, p ∈ led) → ∀ s', StOk h₀ L m led s s' →
      wpAny (model prog w) A (keyLt' oneType' (keys.getD i .none) (keys.getD j .none)) (fun b s'' => b = c i j ∧ StOk h₀ L m led s s'') (fun _ _ => False) s')
    (h : ∀ h' tk c' kown, Fr h₀ L h' m → News h₀ L h' ((a, seqObj "list" (ps'.p.map fun i => vs.getD i .none) c') :: (kown ++ news)) → P (.done (.ret .none)) { s with heap := h', toks := tk }) :
    wpAny (model prog w) A (ksk_rest a f false vs.toArray e1 (.ref kS)) P E s := by
  unfold ksk_rest
  refine wpAny_bind (wpAny_rule ?_)
  first
    | rw [List.forIn_toArray]
    | (rw [← Array.forIn_toList]; simp only [List.toList_toArray])
    | rw [← Array.forIn_toList]
  refine wpAny_bind (ksk_fold (fun i s' => ∃ h' tk kA e kown, s' = { s with heap := h', toks := tk } ∧ Fr h₀ L h' m ∧ News h₀ L h' (Led news kown kS a kA e e1) ∧ (∀ p ∈ kown, p.1 ≠ kS ∧ p.1 ≠ a) ∧ kA.size = i ∧ ∀ j, j < i → KP j (kA.getD j .none) kown) vs 0 s
    ⟨s.heap, s.toks, #[], 0, [], rfl, F, N, fun _ hp => (nomatch hp), rfl, fun j hj => absurd hj (Nat.not_lt_zero _)⟩ ?step ?done)
  case step =>
    rintro j x s' hx ⟨h', tk, kA, e, kown, rfl, F', N', hk, hsz, hkp⟩
    simp only [Nat.zero_add] at hsz hkp ⊢
    have hj : j < vs.length := (List.getElem?_eq_some_iff.mp hx).1
    refine wpAny_bind (wpAny_attempt (wpAny_mono (turn j x hx h' tk _ (fun p hp => led_n (List.mem_append_right _ hp)) F' N') (fun v s'' he => ?_) fun _ _ hF => hF.elim))
    obtain ⟨g, tk2, own, rfl, F2, N2, hsep, hKP⟩ := he
    try dsimp only
    have nk := N2 _ (List.mem_append_right own (led_k (news := news) (kown := kown) (a := a) (e1 := e1)))
    have s1 := Heap.SameBut.update g kS (Obj.mapSeq (·.push v))
    obtain ⟨c2, hc2⟩ : ∃ c2, (g.update kS (Obj.mapSeq (·.push v))).get? kS = some (seqObj "list" (kA.push v) c2) := ⟨_, get?_update_seq nk.1 (·.push v)⟩
    refine wpAny_bind (listUpdate_at nk.1 rfl ?_ (by rw [sizeLine_eq]; omega) (Nat.le_trans (Nat.le_of_eq (Array.size_push ..)) (by rw [sizeLine_eq]; omega)))
    have hown : ∀ p ∈ own ++ kown, p.1 ≠ kS ∧ p.1 ≠ a := fun p hp => by
      rcases List.mem_append.mp hp with hp | hp
      · exact ⟨hsep p hp _ led_k, hsep p hp _ led_a⟩
      · exact hk p hp
    refine wpAny_pure ⟨rfl, _, _, kA.push v, c2, own ++ kown, rfl, ksk_fr F2 s1 nk.2.1 nk.2.2, fun p hp => ?_, hown, by rw [Array.size_push, hsz], fun i hi => ?_⟩
    · rcases List.mem_append.mp hp with hp | hp
      · refine ksk_news (news := own ++ kown) (fun q hq => N2 q ?_) s1 (fun q hq => (hown q hq).1) p hp
        rcases List.mem_append.mp hq with hq | hq
        · exact List.mem_append_left _ hq
        · exact List.mem_append_right _ (List.mem_append_left _ hq)
      · rcases List.mem_append.mp hp with hp | hp
        · exact ksk_news (news := news) (fun q hq => N2 q (List.mem_append_right _ (led_n (List.mem_append_right _ hq)))) s1 (fun q hq => (hn q hq).1) p hp
        · rcases List.mem_cons.mp hp with rfl | hp
          · exact ⟨hc2, nk.2⟩
          · rw [List.mem_singleton.mp hp]
            have na := N2 _ (List.mem_append_right own (led_a (news := news) (kown := kown) (kS := kS) (kA := kA) (e := e)))
            exact ⟨(s1.2 a hka.symm).trans na.1, na.2⟩
    · rcases Nat.lt_or_ge i j with hij | hij
      · have e5 : (kA.push v).getD i .none = kA.getD i .none := by
          have h1 : i < kA.size := by omega
          simp [Array.getD, h1, Array.getElem_push, Nat.lt_succ_of_lt h1]
        rw [e5]
        exact hmono _ _ _ _ (fun p hp => List.mem_append_right _ hp) (hkp i hij)
      · have e6 : i = j := by omega
        subst e6
        have e5 : (kA.push v).getD i .none = v := by simp [Array.getD, ← hsz]
        rw [e5]
        exact hmono _ _ _ _ (fun p hp => List.mem_append_left _ hp) hKP
  case done =>
    rintro s' ⟨h', tk, kA, e, kown, rfl, F', N', hk, hsz, hkp⟩
    rw [Nat.zero_add] at hsz hkp
    have nk := N' _ (led_k (news := news) (kown := kown) (a := a) (e1 := e1))
    try dsimp only
    refine wpAny_bind (listItems_at nk.1 rfl ?_)
    have hno : ∀ p ∈ kown ++ news, p.1 ≠ kS ∧ p.1 ≠ a := fun p hp => by
      rcases List.mem_append.mp hp with hp | hp
      · exact hk p hp
      · exact hn p hp
    have up : ∀ led s₁, StOk h₀ L m led { s with heap := h', toks := tk } s₁ → StOk h₀ L m led s s₁ := fun led s₁ ⟨h1, t1, e1, f1, n1⟩ => ⟨h1, t1, e1, f1, n1⟩
    refine my_end (s := { s with heap := h', toks := tk }) hv (hsz.trans hv) h2 h65 G R F' N' hka hno (hkd kA kown e _ (hsz.trans hv) (fun i hi => hkp i (by omega)) ⟨h', tk, rfl, F', N'⟩) ?_ fun h3 tk3 c3 F3 N3 => h h3 tk3 c3 kown F3 N3
    intro i j hi hj s₁ hs₁
    exact wpAny_mono (hlt kA kown _ i j hi hj (hkp i (by omega)) (hkp j (by omega)) (fun p hp => led_n hp) s₁ (up _ _ hs₁)) (fun b s₂ hb => ⟨hb.1, by obtain ⟨h1, t1, e1, f1, n1⟩ := hb.2; exact ⟨h1, t1, e1, f1, n1⟩⟩) fun _ _ hf => hf
theorem my_sort {f : Value} {k0 : Nat} (hv : vs.length = n) (h2 : 2 ≤ n) (h65 : n ≤ 65) (G : Good n ps') (R : RunsTo prog w c n ps')
    (F : Fr h₀ L s.heap m) (N : News h₀ L s.heap news) (ho : s.heap.get? a = some (seqObj "list" vs.toArray k0)) (haL : a ≠ L) (ha0 : h₀.get? a = none) (hna : ∀ p ∈ news, p.1 ≠ a)
    (hmono : ∀ i r own own', (∀ p ∈ own, p ∈ own') → KP i r own → KP i r own')
    (turn : ∀ (i : Nat) (v : Value), vs[i]? = some v → ∀ (h : Heap) (tk : Nat) (led : List (Addr × Obj)), (∀ p ∈ news, p ∈ led) → Fr h₀ L h m → News h₀ L h led →
      wpAny (model prog w) A (call f [v]) (KeyEnd h₀ L m KP i led { s with heap := h, toks := tk }) (fun _ _ => False) { s with heap := h, toks := tk })
    (hkd : ∀ (keys : Array Value) (kown led : List (Addr × Obj)) (s₁ : Shared), keys.size = n → (∀ i, i < n → KP i (keys.getD i .none) kown) → (∀ p ∈ kown ++ news, p ∈ led) → StOk h₀ L m led s s₁ →
      wpAny (model prog w) A (keyKind' keys) (fun k s' => k = oneType' ∧ s' = s₁) (fun _ _ => False) s₁)
    (hlt : ∀ (keys : Array Value) (kown led : List (Addr × Obj)) (i j : Nat), i < n → j < n → KP i (keys.getD i .none) kown → KP j (keys.getD j .none) kown → (∀ p ∈ kown ++ news, p ∈ led) → ∀ s', StOk h₀ L m led s s' →
      wpAny (model prog w) A (keyLt' oneType' (keys.getD i .none) (keys.getD j .none)) (fun b s'' => b = c i j ∧ StOk h₀ L m led s s'') (fun _ _ => False) s')
    (h : ∀ h' tk c' kown, Fr h₀ L h' m → News h₀ L h' ((a, seqObj "list" (ps'.p.map fun i => vs.getD i .none) c') :: (kown ++ news)) → P (.done (.ret .none)) { s with heap := h', toks := tk }) :
    wpAny (model prog w) A (ksk_tree a f false) P E s := by
  have ha : a < s.heap.objs.size := Heap.lt_size ho
  have s1 := Heap.SameBut.update s.heap a (Obj.mapSeq fun _ => (#[] : Array Value))
  obtain ⟨e1, ho1⟩ : ∃ e1, (s.heap.update a (Obj.mapSeq fun _ => (#[] : Array Value))).get? a = some (seqObj "list" #[] e1) := ⟨_, get?_update_seq ho fun _ => #[]⟩
  have F1 := ksk_fr F s1 haL ha0
  have N1 := ksk_news N s1 hna
  have hkS : ((s.heap.update a (Obj.mapSeq fun _ => (#[] : Array Value))).push (seqObj "tuple" vs.toArray 0)).objs.size = s.heap.objs.size + 1 := by rw [size_push', Heap.size_update]
  have hLk : L < ((s.heap.update a (Obj.mapSeq fun _ => (#[] : Array Value))).push (seqObj "tuple" vs.toArray 0)).objs.size := (F1.push _).ns.lt
  unfold ksk_tree
  refine wpAny_bind (listItems_at ho rfl ?_)
  refine wpAny_bind (listUpdate_at ho rfl ?_ (by rw [List.size_toArray, sizeLine_eq]; omega) (Nat.zero_le _))
  refine wpAny_bind (seqEpoch_at ho1 rfl ?_)
  refine wpAny_bind (wpAny_newTuple ?_ (by show vs.length ≤ _; rw [sizeLine_eq]; omega))
  refine wpAny_bind (wpAny_newList ?_ (Nat.zero_le _))
  refine wpAny_holding ?_
  refine my_rest (s := { s with heap := ((s.heap.update a (Obj.mapSeq fun _ => (#[] : Array Value))).push (seqObj "tuple" vs.toArray 0)).push (seqObj "list" #[] 0) }) (kS := ((s.heap.update a (Obj.mapSeq fun _ => (#[] : Array Value))).push (seqObj "tuple" vs.toArray 0)).objs.size)
    hv h2 h65 G R ((F1.push _).push _) (fun p hp => ?_) (by rw [hkS]; exact Nat.ne_of_gt (Nat.lt_succ_of_lt ha)) (fun p hp => ⟨by rw [hkS]; exact Nat.ne_of_lt (Nat.lt_succ_of_lt (Heap.lt_size (N p hp).1)), hna p hp⟩) hmono turn
    (fun keys kown e s₁ a1 a2 a3 => hkd keys kown _ s₁ a1 a2 (fun p hp => led_n hp) (by obtain ⟨h1, t1, q1, f1, n1⟩ := a3; exact ⟨h1, t1, q1, f1, n1⟩))
    (fun keys kown led i j hi hj a1 a2 a3 s₁ a4 => wpAny_mono (hlt keys kown led i j hi hj a1 a2 a3 s₁ (by obtain ⟨h1, t1, q1, f1, n1⟩ := a4; exact ⟨h1, t1, q1, f1, n1⟩)) (fun b s₂ hb => ⟨hb.1, by obtain ⟨h1, t1, q1, f1, n1⟩ := hb.2; exact ⟨h1, t1, q1, f1, n1⟩⟩) fun _ _ hf => hf) h
  rcases List.mem_append.mp hp with hp | hp
  · exact ⟨Heap.get?_push_of_some _ (Heap.get?_push_of_some _ (N1 p hp).1), (N1 p hp).2⟩
  · rcases List.mem_cons.mp hp with rfl | hp
    · exact ⟨Heap.get?_push_size _ rfl, Nat.ne_of_gt hLk, Heap.get?_none_of_le (Nat.le_trans F.above (Nat.le_of_lt hLk))⟩
    · rw [List.mem_singleton.mp hp]
      exact ⟨Heap.get?_push_of_some _ (Heap.get?_push_of_some _ ho1), haL, ha0⟩
end
end Mine
end
section
open PySem PySem.W PyProof.Rows
set_option maxRecDepth 100000
set_option maxHeartbeats 4000000
namespace Mine
section
variable {prog : Program} {w : World} {A : Around} {E : Value → Shared → Prop} {s : Shared}
theorem collect_range {r : Addr} {t u v : Tok} {n : Nat} {Q : List Value → Shared → Prop} (hh : A.handled = none) (hr : IsRange s.heap r 0 (n : Int) 1 t u v) (hlen : n ≤ 1000)
    (hQ : ∀ h' tk (acc : Array Value), (∀ b o, s.heap.get? b = some o → h'.get? b = some o) → s.heap.objs.size < h'.objs.size → acc.size = n → (∀ (i : Nat) (x : Value), acc[i]? = some x → ∃ t, x = Value.int (i : Int) t) → Q acc.toList { s with heap := h', toks := tk }) :
    wpAny (model prog w) A (collect (.ref r)) Q E s := by
  have hS₁ : (s.heap.push { cls := .type "list", data := .seq ([] : List Value).toArray }).get? s.heap.objs.size = some { cls := .type "list", data := .seq ([] : List Value).toArray } := Heap.get?_push_size _ rfl
  have hsz : Builtin.Range.rangeSize 0 (n : Int) 1 = (n : Int) := by
    have e := rangeSize_nat 0 (n : Int)
    rw [e]; omega
  have hsm := small_range hlen
  have key : ∀ R : Result → Shared → Prop, (∀ h' tk acc' c', (∀ b o, b ≠ s.heap.objs.size → (s.heap.push { cls := .type "list", data := .seq ([] : List Value).toArray }).get? b = some o → h'.get? b = some o) → h'.get? s.heap.objs.size = some { cls := .type "list", dict := none, data := .seq acc' c', slots := #[] } →
      ItemsOf (fun i v => ∃ t, v = .int (0 + i * 1) t) acc' n → R (.ok (.ret (.ref s.heap.objs.size))) { s with heap := h', toks := tk }) →
      codeAny (model prog w) A (.builtin "list.__iadd__" ⟨[.ref s.heap.objs.size, .ref r], []⟩) R { s with heap := s.heap.push { cls := .type "list", data := .seq ([] : List Value).toArray } } := fun R hR => by
    refine codeAny_builtin F.entry_list_iadd ?_
    rw [Around.under_plainId F.plain_list_iadd _]
    show wpAny _ A.in1 (Builtin.List.listExtendWith (.ref s.heap.objs.size) (.ref r) (.ref s.heap.objs.size)) _ _ _
    exact wpAny_extend_range (A := A) (s := { s with heap := s.heap.push { cls := .type "list", data := .seq ([] : List Value).toArray } }) hh (Heap.get?_push_of_some _ hr) hsm hsz (by omega) _ _ _ hS₁ hR
  unfold collect
  refine wpAny_bind (wpAny_runValue (codeAny_builtin F.entry_proto_collect ?_))
  rw [Around.under_plainId F.plain_proto_collect _]
  show wpAny _ A.in1 (newList [] >>= fun l => again (.builtin "list.__iadd__" ⟨[l, .ref r], []⟩)) _ _ s
  refine wpAny_bind (wpAny_newObj_type ?_)
  refine wpAny_pure ⟨plainId_quiet F.plain_list_iadd _, key _ fun h' tk acc' c' hk hS' hacc => ?_⟩
  show wpAny _ A (load s.heap.objs.size >>= _) _ _ _
  refine wpAny_bind (wpAny_load (s := { s with heap := h', toks := tk }) hS' ?_)
  refine wpAny_pure (hQ h' tk acc' (fun b o e => hk b o (Nat.ne_of_lt (Heap.lt_size e)) (Heap.get?_push_of_some _ e)) (Heap.lt_size hS') hacc.1 fun i x hx => ?_)
  obtain ⟨t', e'⟩ := hacc.2 i x hx
  exact ⟨t', by rw [e']; simp⟩
end
section
variable {prog : Program} {w : World} {A : Around} {E : Value → Shared → Prop} {s : Shared} {h₀ : Heap} {L : Addr} {m : Str → Option Value} {news : List (Addr × Obj)} {Q : Value → Shared → Prop}
    {c : Nat → Nat → Bool} {n : Nat} {ps' : PSt} {KP : Nat → Value → List (Addr × Obj) → Prop}
theorem ints_perm {acc : Array Value} {p : Array Nat} (hs : acc.size = n) (hi : ∀ (i : Nat) (x : Value), acc[i]? = some x → ∃ t, x = Value.int (i : Int) t) (hp : ∀ x ∈ p, x < n) :
    IntsAre (p.map fun i => acc.toList.getD i .none).toList (p.toList.map fun (i : Nat) => (i : Int)) := by
  rw [Array.toList_map]
  have hp' : ∀ x ∈ p.toList, x < n := fun x hx => hp x (by simpa using hx)
  generalize p.toList = l at hp'
  induction l with
  | nil => exact .nil
  | cons x l ih =>
    have hx := hp' x (List.mem_cons_self ..)
    obtain ⟨t, e⟩ := hi x (acc[x]'(by omega)) (by simp [hs, hx])
    have e2 : acc.toList.getD x .none = Value.int (x : Int) t := by
      rw [← e]
      simp [hs, hx]
    rw [List.map_cons, List.map_cons, e2]
    exact .cons _ _ (ih fun y hy => hp' y (List.mem_cons_of_mem _ hy))
theorem my_sorted {r q : Addr} {t u v : Tok} (hh : A.handled = none) (hr : IsRange s.heap r 0 (n : Int) 1 t u v) (h2 : 2 ≤ n) (h65 : n ≤ 65) (G : Good n ps') (R : RunsTo prog w c n ps')
    (F : Fr h₀ L s.heap m) (N : News h₀ L s.heap news)
    (hmono : ∀ i r own own', (∀ p ∈ own, p ∈ own') → KP i r own → KP i r own')
    (turn : ∀ (i : Nat) (tv : Tok), i < n → ∀ (h : Heap) (tk : Nat) (led : List (Addr × Obj)), (∀ p ∈ news, p ∈ led) → Fr h₀ L h m → News h₀ L h led →
      wpAny (model prog w) A.in1.in1 (call (.ref q) [.int (i : Int) tv]) (KeyEnd h₀ L m KP i led { s with heap := h, toks := tk }) (fun _ _ => False) { s with heap := h, toks := tk })
    (hkd : ∀ (keys : Array Value) (kown led : List (Addr × Obj)) (s₁ : Shared), keys.size = n → (∀ i, i < n → KP i (keys.getD i .none) kown) → (∀ p ∈ kown ++ news, p ∈ led) → StOk h₀ L m led s s₁ →
      wpAny (model prog w) A.in1.in1 (keyKind' keys) (fun k s' => k = oneType' ∧ s' = s₁) (fun _ _ => False) s₁)
    (hlt : ∀ (keys : Array Value) (kown led : List (Addr × Obj)) (i j : Nat), i < n → j < n → KP i (keys.getD i .none) kown → KP j (keys.getD j .none) kown → (∀ p ∈ kown ++ news, p ∈ led) → ∀ s', StOk h₀ L m led s s' →
      wpAny (model prog w) A.in1.in1 (keyLt' oneType' (keys.getD i .none) (keys.getD j .none)) (fun b s'' => b = c i j ∧ StOk h₀ L m led s s'') (fun _ _ => False) s')
    (h : ∀ D h' tk c' out kown, Fr h₀ L h' m → News h₀ L h' ((D, seqObj "list" out c') :: (kown ++ news)) → (∀ q ∈ news, q.1 < D) → IntsAre out.toList (ps'.p.toList.map fun (i : Nat) => (i : Int)) → Q (.ref D) { s with heap := h', toks := tk }) :
    wpAny (model prog w) A (call (.builtin "sorted") [.ref r] [(Str.ofString "key", .ref q)]) Q E s := by
  refine call_function_entry_kw kind_sorted plain_sorted entry_sorted (ksk_s1 _ _) ?_
  unfold Builtin.«sorted»
  refine wpAny_bind (m := checkCount "sorted" 1 1 _) (wpAny_pure ?_)
  refine wpAny_bind (collect_range (A := A.in1) hh hr (by omega) fun h1 tk1 acc hk1 hz1 hs1 hi1 => ?_)
  refine wpAny_bind (wpAny_newList ?_ (by rw [Array.length_toList, sizeLine_eq]; omega))
  have hL : L < h1.objs.size := Nat.lt_trans F.ns.lt hz1
  have hoL : (h1.push (seqObj "list" acc.toList.toArray 0)).get? h1.objs.size = some (seqObj "list" acc.toList.toArray 0) := Heap.get?_push_size _ rfl
  have keep : ∀ b o, s.heap.get? b = some o → (h1.push (seqObj "list" acc.toList.toArray 0)).get? b = some o := fun b o q => Heap.get?_push_of_some _ (hk1 b o q)
  have hlt1 : ∀ p ∈ news, p.1 < h1.objs.size := fun p hp => Heap.lt_size (hk1 _ _ (N p hp).1)
  refine wpAny_bind (wpAny_holding (wpAny_call_entry_kw slot_list_sort ⟨_, hoL, rfl⟩ entry_list_sort ?body (ksk_l1 _ _)))
  case body =>
    show wpAny (model prog w) A.in1.in1 (Builtin.«list.sort» ⟨[.ref h1.objs.size], [(Str.ofString "key", .ref q)]⟩) _ _ _
    rw [ksk_t1]
    refine my_sort (s := { s with heap := h1.push (seqObj "list" acc.toList.toArray 0), toks := tk1 }) (vs := acc.toList) (by rw [Array.length_toList]; exact hs1) h2 h65 G R (F.kept keep) (N.grown keep) hoL (Nat.ne_of_gt hL) (Heap.get?_none_of_le (Nat.le_trans F.above (Nat.le_of_lt hL)))
      (fun p hp => Nat.ne_of_lt (hlt1 p hp)) hmono (fun i x hx h' tk led hl F' N' => ?_) (fun keys kown led s₁ a1 a2 a3 a4 => hkd keys kown led s₁ a1 a2 a3 (by obtain ⟨h1, t1, q1, f1, n1⟩ := a4; exact ⟨h1, t1, q1, f1, n1⟩))
      (fun keys kown led i j hi hj a1 a2 a3 s₁ a4 => wpAny_mono (hlt keys kown led i j hi hj a1 a2 a3 s₁ (by obtain ⟨h1, t1, q1, f1, n1⟩ := a4; exact ⟨h1, t1, q1, f1, n1⟩)) (fun b s₂ hb => ⟨hb.1, by obtain ⟨h1, t1, q1, f1, n1⟩ := hb.2; exact ⟨h1, t1, q1, f1, n1⟩⟩) fun _ _ hf => hf)
      fun h' tk c' kown F' N' => ⟨_, rfl, ?_⟩
    · have hx' : acc[i]? = some x := by simpa using hx
      have hin : i < n := by
        have := (Array.getElem?_eq_some_iff.mp hx').1
        omega
      obtain ⟨tv, rfl⟩ := hi1 i x hx'
      exact turn i tv hin h' tk led hl F' N'
    · exact wpAny_pure ⟨_, rfl, h _ h' tk c' _ kown F' N' hlt1 (ints_perm hs1 hi1 fun x hx => G.lt x hx)⟩
end
end Mine
end
section
open PySem PySem.W PyProof.Rows PySem.W.X
set_option maxRecDepth 100000
set_option maxHeartbeats 8000000
namespace Mine
/-- the state of a walk by single steps: the frame, the caller's ledger, one's own ledger (newest first) -/
structure St (g : Heap) (L : Addr) (m : Str → Option Value) (rest : List (Addr × Obj)) (h : Heap) (news : List (Addr × Obj)) : Prop where
  fr : Fr g L h m
  nw : News g L h news
  nd : (news.map (·.1)).Nodup
  rs : News g L h rest
  sep : ∀ p ∈ rest, ∀ q ∈ news, p.1 ≠ q.1
section
variable {g h h' : Heap} {L : Addr} {m : Str → Option Value} {rest news : List (Addr × Obj)}
theorem St.push (D : St g L m rest h news) (o : Obj) (hf : o.isFreed = false) : St g L m rest (h.push o) ((h.objs.size, o) :: news) := by
  refine ⟨D.fr.push o, D.nw.push D.fr o hf, ?_, D.rs.pushKeep o, ?_⟩
  · refine List.nodup_cons.mpr ⟨fun hb => ?_, D.nd⟩
    obtain ⟨⟨b', ob⟩, hp, e⟩ := List.mem_map.mp hb
    exact absurd (Heap.lt_size (D.nw.get hp)) (by simp only at e; rw [e]; exact Nat.lt_irrefl _)
  · intro p hp q hq
    rcases List.mem_cons.mp hq with rfl | hq
    · exact Nat.ne_of_lt (Heap.lt_size (D.rs p hp).1)
    · exact D.sep p hp q hq
theorem set_cases : ∀ {news : List (Addr × Obj)} {i : Nat} {a : Addr} {o o' : Obj}, (news.map (·.1)).Nodup → news[i]? = some (a, o) → ∀ p ∈ news.set i (a, o'), p = (a, o') ∨ (p ∈ news ∧ p.1 ≠ a)
  | [], _, _, _, _, _, hi => by simp at hi
  | x :: xs, 0, a, o, o', hp, hi => by
    intro p hm
    simp only [List.length_cons, Nat.zero_lt_succ, List.getElem?_eq_getElem, List.getElem_cons_zero, Option.some.injEq] at hi
    subst hi
    rw [List.set_cons_zero] at hm
    rcases List.mem_cons.mp hm with rfl | hm
    · exact .inl rfl
    · exact .inr ⟨List.mem_cons_of_mem _ hm, fun e => (List.nodup_cons.mp hp).1 (by simp only at e ⊢; rw [← e]; exact List.mem_map_of_mem hm)⟩
  | x :: xs, i + 1, a, o, o', hp, hi => by
    intro p hm
    rw [List.getElem?_cons_succ] at hi
    rw [List.set_cons_succ] at hm
    rcases List.mem_cons.mp hm with rfl | hm
    · exact .inr ⟨List.mem_cons_self .., fun e => (List.nodup_cons.mp hp).1 (by simp only; rw [e]; exact List.mem_map_of_mem (f := (·.1)) (List.mem_of_getElem? hi))⟩
    · rcases set_cases (List.nodup_cons.mp hp).2 hi p hm with h | ⟨h, h'⟩
      · exact .inl h
      · exact .inr ⟨List.mem_cons_of_mem _ h, h'⟩
theorem set_keys {news : List (Addr × Obj)} {i : Nat} {a : Addr} {o o' : Obj} (hi : news[i]? = some (a, o)) : (news.set i (a, o')).map (·.1) = news.map (·.1) := by
  rw [List.map_set]
  obtain ⟨hl, he⟩ := List.getElem?_eq_some_iff.mp hi
  refine List.ext_getElem (by simp) fun j h1 h2 => ?_
  rw [List.getElem_set]
  split
  · next e => subst e; simp [he]
  · rfl
/-- one object of one's own changed, the others kept -/
theorem St.change (D : St g L m rest h news) {i : Nat} {a : Addr} {o o' : Obj} (hi : news[i]? = some (a, o)) (hs : ∀ b x, b ≠ a → h.get? b = some x → h'.get? b = some x) (ge : h'.get? a = some o') : St g L m rest h' (news.set i (a, o')) := by
  have hm := List.mem_of_getElem? hi
  have z := D.nw (a, o) hm
  refine ⟨⟨?_, ?_, D.fr.above⟩, ?_, ?_, ?_, ?_⟩
  · obtain ⟨oL, a1, a2, hoL, a3⟩ := D.fr.ns
    exact ⟨oL, a1, a2, hs L oL z.2.1.symm hoL, a3⟩
  · intro b x e
    refine hs b x ?_ (D.fr.keep b x e)
    rintro rfl
    exact absurd (z.2.2.symm.trans e) (by simp)
  · intro p hp
    rcases set_cases D.nd hi p hp with rfl | ⟨h1, h2⟩
    · exact ⟨ge, z.2.1, z.2.2⟩
    · exact ⟨hs _ _ h2 (D.nw p h1).1, (D.nw p h1).2.1, (D.nw p h1).2.2⟩
  · rw [set_keys hi]; exact D.nd
  · intro p hp
    exact ⟨hs _ _ (D.sep p hp _ hm) (D.rs p hp).1, (D.rs p hp).2.1, (D.rs p hp).2.2⟩
  · intro p hp x hx
    rcases set_cases D.nd hi x hx with rfl | ⟨h1, _⟩
    · exact D.sep p hp (a, o) hm
    · exact D.sep p hp x h1
/-- what `x_run` leaves, joined to the ledger -/
theorem St.mem (D : St g L m rest h news) {new' : List (Addr × Obj)} (M : Mem h h' [] new') : St g L m rest h' (new' ++ news) := by
  have k : ∀ b o, h.get? b = some o → h'.get? b = some o := fun b o e => M.keep b o e (by simp [away])
  have ne : ∀ p ∈ new', ∀ b o, h.get? b = some o → p.1 ≠ b := fun p hp b o e he => by
    have := (M.nw p hp).2
    rw [he, e] at this
    exact absurd this (by simp)
  obtain ⟨oL, a1, a2, hoL, a3⟩ := D.fr.ns
  refine ⟨⟨⟨oL, a1, a2, k _ _ hoL, a3⟩, fun b o e => k _ _ (D.fr.keep b o e), D.fr.above⟩, ?_, ?_, fun p hp => ⟨k _ _ (D.rs p hp).1, (D.rs p hp).2⟩, ?_⟩
  · intro p hp
    rcases List.mem_append.mp hp with hp | hp
    · refine ⟨(M.nw p hp).1, ne p hp _ _ hoL, ?_⟩
      cases e : g.get? p.1 with
      | none => rfl
      | some o => exact absurd rfl (ne p hp _ _ (D.fr.keep _ _ e))
    · exact ⟨k _ _ (D.nw p hp).1, (D.nw p hp).2⟩
  · rw [List.map_append]
    refine List.nodup_append.mpr ⟨M.ord.imp (fun h => Nat.ne_of_gt h), D.nd, ?_⟩
    intro x hx y hy
    obtain ⟨p, hp, rfl⟩ := List.mem_map.mp hx
    obtain ⟨q, hq, rfl⟩ := List.mem_map.mp hy
    exact ne p hp _ _ (D.nw q hq).1
  · intro p hp q hq
    rcases List.mem_append.mp hq with hq | hq
    · exact (ne q hq _ _ (D.rs p hp).1).symm
    · exact D.sep p hp q hq
end
section
variable {α : Type} {prog : Program} {w : World} {A : Around} {E : Value → Shared → Prop} {Q : α → Shared → Prop} {g : Heap} {L : Addr} {m : Str → Option Value} {rest news : List (Addr × Obj)}
    {h : Heap} {gs : Array GenState} {d : Drawn} {t : Nat} {os : OsState}
theorem t_load {a : Addr} {q : Option Value} {k : Obj → Sem α} {o : Obj} (D : St g L m rest h news) (hm : (a, o) ∈ news) (x : wpAny (model prog w) A (k o) Q E ⟨h, gs, d, t, os⟩) : wpAny (model prog w) A (.load a q k) Q E ⟨h, gs, d, t, os⟩ :=
  x_load (s := ⟨h, gs, d, t, os⟩) (D.nw.get hm) x
theorem t_loadH {a : Addr} {q : Option Value} {k : Obj → Sem α} {o : Obj} (hm : h.get? a = some o) (x : wpAny (model prog w) A (k o) Q E ⟨h, gs, d, t, os⟩) : wpAny (model prog w) A (.load a q k) Q E ⟨h, gs, d, t, os⟩ :=
  x_load (s := ⟨h, gs, d, t, os⟩) hm x
theorem t_alloc {o : Obj} {k : Addr → Sem α} (D : St g L m rest h news) (hf : o.isFreed = false)
    (x : ∀ a h', L < a → St g L m rest h' ((a, o) :: news) → wpAny (model prog w) A (k a) Q E ⟨h', gs, d, t, os⟩) :
    wpAny (model prog w) A (.alloc o k) Q E ⟨h, gs, d, t, os⟩ := by
  have hL : L < h.objs.size := D.fr.ns.lt
  exact wpAny_bind (m := alloc o) (f := k) (wpAny_alloc (x _ _ hL (D.push o hf)))
theorem t_update {a : Addr} {q : Option Value} {f : Obj → Obj} {k : Unit → Sem α} {o : Obj} (i : Nat) (D : St g L m rest h news) (hi : news[i]? = some (a, o)) (hf : (f o).isFreed = false)
    (x : ∀ h', St g L m rest h' (news.set i (a, f o)) → wpAny (model prog w) A (k ()) Q E ⟨h', gs, d, t, os⟩) : wpAny (model prog w) A (.update a q f k) Q E ⟨h, gs, d, t, os⟩ := by
  have ho := D.nw.get (List.mem_of_getElem? hi)
  have hs : Heap.SameBut a h (h.update a f) := Heap.SameBut.update ..
  have ge : (h.update a f).get? a = some (f o) := by first | exact Heap.get?_update_self f ho hf | exact Heap.get?_update_self _ ho hf
  exact wpAny_bind (m := updatePart a q f) (f := k) (wpAny_updatePart (s := ⟨h, gs, d, t, os⟩) ho (x _ (D.change hi (fun b x hb e => (hs.2 b hb).trans e) ge)))
theorem t_fresh {k : Tok → Sem α} (x : wpAny (model prog w) A (k t) Q E ⟨h, gs, d, t + 1, os⟩) : wpAny (model prog w) A (.fresh k) Q E ⟨h, gs, d, t, os⟩ := x_fresh (s := ⟨h, gs, d, t, os⟩) x
theorem t_text {x : Str} {Q : Value → Shared → Prop} (y : Q (.str x t) ⟨h, gs, d, t + 1, os⟩) : wpAny (model prog w) A (mkText x) Q E ⟨h, gs, d, t, os⟩ := wpAny_mkText (s := ⟨h, gs, d, t, os⟩) y
theorem t_nsGet {a : Addr} {mm : Str → Option Value} {name : Str} {Q : Option Value → Shared → Prop} (hn : h.Ns a mm) (y : Q (mm name) ⟨h, gs, d, t, os⟩) : wpAny (model prog w) A (nsGet a name) Q E ⟨h, gs, d, t, os⟩ := wpAny_nsGet (s := ⟨h, gs, d, t, os⟩) hn y
variable {s : Shared}
theorem s_decF {p : Prop} {d : Decidable p} {f : ¬ p → Sem α} {g : p → Sem α} (hp : ¬ p) (h : wpAny (model prog w) A (f hp) Q E s) : wpAny (model prog w) A (@Decidable.rec p (fun _ => Sem α) f g d) Q E s := by
  cases d with
  | isTrue h' => exact absurd h' hp
  | isFalse _ => exact h
theorem s_decT {p : Prop} {d : Decidable p} {f : ¬ p → Sem α} {g : p → Sem α} (hp : p) (h : wpAny (model prog w) A (g hp) Q E s) : wpAny (model prog w) A (@Decidable.rec p (fun _ => Sem α) f g d) Q E s := by
  cases d with
  | isTrue _ => exact h
  | isFalse h' => exact absurd hp h'
theorem big_ne {a b c : Addr} (h : c < a) (hc : 23 < c) (hb : Nat.ble b 23 = true) : ¬ ((a == b) = true) := fun e => by
  have e := eq_of_beq e
  have := Nat.le_of_ble_eq_true hb
  rw [e] at h
  exact absurd (Nat.le_trans this (Nat.le_of_lt hc)) (Nat.not_le.mpr h)
end
end Mine
end
section
open PySem PySem.W PyProof.Rows PySem.W.X PySem.W.XRun
set_option maxRecDepth 100000
set_option maxHeartbeats 8000000
namespace Mine
theorem eqk {α : Type} {M : Model} {A : Around} {E : Value → Shared → Prop} {s : Shared} {Q : α → Shared → Prop} {t t' : Sem α} (e : t = t') (h : wpAny M A t' Q E s) : wpAny M A t Q E s := e ▸ h
abbrev bmPrep : Obj := ⟨.type "builtin_function_or_method", none, .fields #[.builtin "type.__prepare__", .type "type"], #[]⟩
theorem entry_prep : entryFor table "type.__prepare__" = some Builtin.«type.__prepare__» := entryFor_of_tree (by kernel_rfl)
theorem mem_obj {h0 h : Heap} {a : Addr} {o o' : Obj} (D : Mem h0 h [] [(a, o)]) (e : o = o') : Mem h0 h [] [(a, o')] := e ▸ D
section
local macro_rules | `(tactic| x_close) => `(tactic| (apply_assumption; refine mem_obj (by assumption) ?_; kernel_rfl))
theorem prep1 {w : World} {A : Around} {h0 : Heap} {g : Array GenState} {d : Drawn} {t t1 : Nat} {os : OsState} {Q : Option Value → Shared → Prop} {E : Value → Shared → Prop}
   (hQ : ∀ a h, Mem h0 h [] [(a, bmPrep)] → Q (some (.ref a)) ⟨h, g, d, t, os⟩) :
   wpAny (model Challenge.rw_dn0037_01.row.prog w) A (getAttrBy? (.type "type") (.str (Str.ofString "__prepare__") t1)) Q E ⟨h0, g, d, t, os⟩ := by
  x_run
end
theorem prep_c {w : World} {A : Around} {h : Heap} {gs : Array GenState} {d : Drawn} {t t1 : Nat} {os : OsState} {v : Str} {b f : Addr} {g : Heap} {L : Addr} {m : Str → Option Value} {rest news : List (Addr × Obj)} {Q E : Value → Shared → Prop} 
   (D : St g L m rest h news) (hf : h.get? f = some bmPrep)
   (hQ : ∀ a h', L < a → St g L m rest h' ((a, ⟨.type "dict", none, .dict #[] 0, #[]⟩) :: news) → Q (.ref a) ⟨h', gs, d, t, os⟩) :
   wpAny (model Challenge.rw_dn0037_01.row.prog w) A (call (.ref f) [.str v t1, .ref b]) Q E ⟨h, gs, d, t, os⟩ := by
  refine wpAny_call (codeAny_of_tree ?_)
  refine t_loadH hf ?_
  refine x_pure ⟨Code.quiet_builtin _ (by decide +kernel), codeAny_builtin entry_prep ?_⟩
  refine t_alloc D rfl ?_
  intro a h' l1 D'
  exact x_pure (hQ a h' l1 D')
end Mine
end
section
open PySem PySem.W PyProof.Rows PySem.W.X
set_option maxRecDepth 100000
set_option maxHeartbeats 8000000
namespace Mine
section
variable {g h h' : Heap} {L : Addr} {m : Str → Option Value} {rest news : List (Addr × Obj)}
/-- new objects beside the old ones -/
theorem St.ext (D : St g L m rest h news) {new' : List (Addr × Obj)} (k : ∀ b o, h.get? b = some o → h'.get? b = some o) (hn : ∀ p ∈ new', h'.get? p.1 = some p.2 ∧ h.objs.size ≤ p.1) (hd : (new'.map (·.1)).Nodup) : St g L m rest h' (new' ++ news) := by
  have ne : ∀ p ∈ new', ∀ b o, h.get? b = some o → p.1 ≠ b := fun p hp b o e he => absurd (Heap.lt_size e) (Nat.not_lt.mpr (he ▸ (hn p hp).2))
  obtain ⟨oL, a1, a2, hoL, a3⟩ := D.fr.ns
  refine ⟨⟨⟨oL, a1, a2, k _ _ hoL, a3⟩, fun b o e => k _ _ (D.fr.keep b o e), D.fr.above⟩, ?_, ?_, fun p hp => ⟨k _ _ (D.rs p hp).1, (D.rs p hp).2⟩, ?_⟩
  · intro p hp
    rcases List.mem_append.mp hp with hp | hp
    · refine ⟨(hn p hp).1, ne p hp _ _ hoL, ?_⟩
      cases e : g.get? p.1 with
      | none => rfl
      | some o => exact absurd rfl (ne p hp _ _ (D.fr.keep _ _ e))
    · exact ⟨k _ _ (D.nw p hp).1, (D.nw p hp).2⟩
  · rw [List.map_append]
    refine List.nodup_append.mpr ⟨hd, D.nd, ?_⟩
    intro x hx y hy
    obtain ⟨p, hp, rfl⟩ := List.mem_map.mp hx
    obtain ⟨q, hq, rfl⟩ := List.mem_map.mp hy
    exact ne p hp _ _ (D.nw q hq).1
  · intro p hp q hq
    rcases List.mem_append.mp hq with hq | hq
    · exact (ne q hq _ _ (D.rs p hp).1).symm
    · exact D.sep p hp q hq
theorem St.add (D : St g L m rest h news) {a : Addr} {o : Obj} (ho : h.get? a = some o) (hL : a ≠ L) (hg : g.get? a = none) (hn : ∀ q ∈ news, a ≠ q.1) (hr : ∀ q ∈ rest, a ≠ q.1) : St g L m rest h ((a, o) :: news) := by
  refine ⟨D.fr, fun p hp => ?_, ?_, D.rs, fun p hp q hq => ?_⟩
  · rcases List.mem_cons.mp hp with rfl | hp
    · exact ⟨ho, hL, hg⟩
    · exact D.nw p hp
  · refine List.nodup_cons.mpr ⟨fun hb => ?_, D.nd⟩
    obtain ⟨q, hq, e⟩ := List.mem_map.mp hb
    exact hn q hq e.symm
  · rcases List.mem_cons.mp hq with rfl | hq
    · exact (hr p hp).symm
    · exact D.sep p hp q hq
theorem St.size (D : St g L m rest h news) : g.objs.size < h.objs.size := Nat.lt_of_le_of_lt D.fr.above D.fr.ns.lt
theorem St.cast {news' : List (Addr × Obj)} (D : St g L m rest h news) (e : news = news') : St g L m rest h news' := e ▸ D
/-- what a code object of its own tells -/
def CodeOb (P : Addr) (o : Obj) : Prop := ∃ vs file tf flags tg inF text tt, o.cls = .type "code" ∧ o.data = .fields vs ∧ vs[11]? = some (.ref P) ∧ vs.getD 11 .none = .ref P ∧ vs.getD 18 .none = .str file tf ∧
    vs.getD 7 .none = .int flags tg ∧ vs.getD 9 .none = .bool inF ∧ vs.getD 10 .none = .int text tt
theorem CodeOb.hd {c P : Addr} {o : Obj} (x : CodeOb P o) (e : h.get? c = some o) (n : c ≠ P) : CodeHd h c P :=
  let ⟨vs, file, tf, flags, tg, inF, text, tt, a1, a2, a3, a4, a5, a6, a7, a8⟩ := x
  ⟨o, vs, file, tf, flags, tg, inF, text, tt, e, a1, a2, a3, a4, a5, a6, a7, a8, n⟩
theorem CodeOb.of {c P : Addr} (x : CodeHd h c P) : ∃ o, h.get? c = some o ∧ CodeOb P o ∧ c ≠ P :=
  let ⟨o, vs, file, tf, flags, tg, inF, text, tt, e, a1, a2, a3, a4, a5, a6, a7, a8, n⟩ := x
  ⟨o, e, ⟨vs, file, tf, flags, tg, inF, text, tt, a1, a2, a3, a4, a5, a6, a7, a8⟩, n⟩
theorem putName_new {name : Str} {hv : Int} {key v c : Value} {d : Option Addr} {es : List DictEntry} {n : Nat} {s : Array (Option Value)} (hno : es.any (·.key.isStr name) = false) :
    Obj.putName name hv key v ⟨c, d, .dict ⟨es⟩ n, s⟩ = ⟨c, d, .dict ⟨es ++ [⟨hv, key, v⟩]⟩ (n + 1), s⟩ := by
  rw [Obj.putName_eq]
  have e : (Array.mk es).findIdx? (·.key.isStr name) = none := by
    rw [Array.findIdx?_eq_none_iff]
    intro x hx
    have := List.any_eq_false.mp hno x (by simpa using hx)
    simpa using this
  simp only [Obj.putNameByArray, e]
  simp
theorem noRef_new {name : Str} {es : List DictEntry} (hr : es.any (·.refKey) = false) : aRefKeyMayBeTheName name ⟨es⟩ = false := by
  rw [aRefKeyMayBeTheName_at]
  have : (Array.mk es).any (·.refKey) = false := by simpa using hr
  rw [this, Bool.and_false]
end
section
variable {prog : Program} {w : World} {A : Around} {E : Value → Shared → Prop} {g : Heap} {L : Addr} {m : Str → Option Value} {rest news : List (Addr × Obj)}
    {h : Heap} {gs : Array GenState} {d : Drawn} {t : Nat} {os : OsState}
theorem s_ifN {α : Type} {Q : α → Shared → Prop} {s : Shared} {c : Prop} [Decidable c] {a b : Sem α} (hc : ¬ c) (x : wpAny (model prog w) A b Q E s) : wpAny (model prog w) A (if c then a else b) Q E s := by rw [if_neg hc]; exact x
theorem s_ifP {α : Type} {Q : α → Shared → Prop} {s : Shared} {c : Prop} [Decidable c] {a b : Sem α} (hc : c) (x : wpAny (model prog w) A a Q E s) : wpAny (model prog w) A (if c then a else b) Q E s := by rw [if_pos hc]; exact x
abbrev dictO (es : List DictEntry) (n : Nat) : Obj := ⟨.type "dict", none, .dict ⟨es⟩ n, #[]⟩
theorem ns_put {ns : Addr} {es : List DictEntry} {n : Nat} {name : Str} {v : Value} {Q : Unit → Shared → Prop} (i : Nat) (D : St g L m rest h news) (hi : news[i]? = some (ns, dictO es n)) (hno : es.any (·.key.isStr name) = false) (hr : es.any (·.refKey) = false)
    (x : ∀ hv h', St g L m rest h' (news.set i (ns, dictO (es ++ [⟨hv, .str name t, v⟩]) (n + 1))) → Q () ⟨h', gs, d, t + 1, os⟩) : wpAny (model prog w) A (nsSet ns name v) Q E ⟨h, gs, d, t, os⟩ := by
  unfold nsSet strHash
  refine wpAny_bind (wpAny_bind (wpAny_askSetting (wpAny_pure ?_)))
  refine wpAny_bind (t_text ?_)
  refine wpAny_bind (wpAny_loadPart (s := ⟨h, gs, d, t + 1, os⟩) (D.nw.get (List.mem_of_getElem? hi)) ?_)
  simp only [noRef_new hr, Bool.false_eq_true, if_false]
  exact t_update i D hi (by rw [putName_new hno]; rfl) fun h' D' => wpAny_pure (x _ _ (by rw [putName_new hno] at D'; exact D'))
theorem t_int {i : Int} {Q : Value → Shared → Prop} (y : Q (.int i t) ⟨h, gs, d, t + 1, os⟩) : wpAny (model prog w) A (mkInt i) Q E ⟨h, gs, d, t, os⟩ := wpAny_mkInt (s := ⟨h, gs, d, t, os⟩) y
theorem store_c {ns : Addr} {es : List DictEntry} {n : Nat} {name : Str} {v : Value} {cenv : Env} {Q : Unit → Shared → Prop} (i : Nat) (D : St g L m rest h news) (hi : news[i]? = some (ns, dictO es n)) (hs : storeName cenv name v = localSet cenv name v) (hl : cenv.locals = ns) (hno : es.any (·.key.isStr name) = false) (hr : es.any (·.refKey) = false)
    (x : ∀ hv h', St g L m rest h' (news.set i (ns, dictO (es ++ [⟨hv, .str name t, v⟩]) (n + 1))) → Q () ⟨h', gs, d, t + 1, os⟩) : wpAny (model prog w) A (storeName cenv name v) Q E ⟨h, gs, d, t, os⟩ := by
  rw [hs]
  unfold localSet
  rw [hl]
  refine wpAny_bind (wpAny_load (s := ⟨h, gs, d, t, os⟩) (D.nw.get (List.mem_of_getElem? hi)) ?_)
  exact s_ifP rfl (ns_put i D hi hno hr x)
theorem putName_over {name : Str} {hv : Int} {key v c : Value} {d : Option Addr} {e0 : DictEntry} {es : List DictEntry} {n : Nat} {s : Array (Option Value)} (h0 : e0.key.isStr name = true) :
    Obj.putName name hv key v ⟨c, d, .dict ⟨e0 :: es⟩ n, s⟩ = ⟨c, d, .dict ⟨{ e0 with val := v } :: es⟩ n, s⟩ := by
  rw [Obj.putName_eq]
  have e : (Array.mk (e0 :: es)).findIdx? (·.key.isStr name) = some 0 := by
    rw [show (Array.mk (e0 :: es)) = (e0 :: es).toArray from rfl, List.findIdx?_toArray, List.findIdx?_cons]
    simp [h0]
  simp only [Obj.putNameByArray, e]
  simp [Array.modify, Array.modifyM]
theorem store_over {ns : Addr} {e0 : DictEntry} {es : List DictEntry} {n : Nat} {name : Str} {v : Value} {cenv : Env} {Q : Unit → Shared → Prop} (i : Nat) (D : St g L m rest h news) (hi : news[i]? = some (ns, dictO (e0 :: es) n)) (hs : storeName cenv name v = localSet cenv name v) (hl : cenv.locals = ns) (h0 : e0.key.isStr name = true) (hr : (e0 :: es).any (·.refKey) = false)
    (x : ∀ h', St g L m rest h' (news.set i (ns, dictO ({ e0 with val := v } :: es) n)) → Q () ⟨h', gs, d, t + 1, os⟩) : wpAny (model prog w) A (storeName cenv name v) Q E ⟨h, gs, d, t, os⟩ := by
  rw [hs]
  unfold localSet
  rw [hl]
  refine wpAny_bind (wpAny_load (s := ⟨h, gs, d, t, os⟩) (D.nw.get (List.mem_of_getElem? hi)) ?_)
  refine s_ifP rfl ?_
  unfold nsSet strHash
  refine wpAny_bind (wpAny_bind (wpAny_askSetting (wpAny_pure ?_)))
  refine wpAny_bind (t_text ?_)
  refine wpAny_bind (wpAny_loadPart (s := ⟨h, gs, d, t + 1, os⟩) (D.nw.get (List.mem_of_getElem? hi)) ?_)
  simp only [noRef_new hr, Bool.false_eq_true, if_false]
  exact t_update i D hi (by rw [putName_over h0]; rfl) fun h' D' => wpAny_pure (x _ (by rw [putName_over h0] at D'; exact D'))
theorem look_none {name : Str} {es : List DictEntry} {n : Nat} (hno : es.any (·.key.isStr name) = false) (hr : es.any (·.refKey) = false) : nsLook name (dictO es n) = pure none := by
  rw [nsLook_eq]
  have e : (Array.mk es).find? (·.key.isStr name) = none := by
    rw [Array.find?_eq_none]
    intro x hx
    have := List.any_eq_false.mp hno x (by simpa using hx)
    simpa using this
  have e2 : (Array.mk es).any (·.refKey) = false := by simpa using hr
  simp only [nsLookByArray, e, e2]
  rfl
theorem load_c {ns : Addr} {es : List DictEntry} {n : Nat} {name : Str} {v : Value} {cenv : Env} {mg : Str → Option Value} {Q : Value → Shared → Prop} (D : St g L m rest h news) (hi : (ns, dictO es n) ∈ news) (hs : loadName cenv name = (localGet cenv name >>= fun r => match r with | some v => pure v | _ => loadGlobal cenv name)) (hl : cenv.locals = ns) (hno : es.any (·.key.isStr name) = false) (hr : es.any (·.refKey) = false)
    (hg : h.Ns cenv.globals mg) (hv : mg name = some v) (x : Q v ⟨h, gs, d, t, os⟩) : wpAny (model prog w) A (loadName cenv name) Q E ⟨h, gs, d, t, os⟩ := by
  rw [hs]
  unfold localGet
  rw [hl]
  refine wpAny_bind (wpAny_bind (wpAny_load (s := ⟨h, gs, d, t, os⟩) (D.nw.get hi) ?_))
  refine s_ifP rfl ?_
  unfold nsGet
  refine wpAny_bind (wpAny_bind (wpAny_loadPart (s := ⟨h, gs, d, t, os⟩) (D.nw.get hi) (wpAny_pure ?_)))
  rw [look_none hno hr]
  refine wpAny_pure ?_
  show wpAny _ _ (loadGlobal cenv name) _ _ _
  unfold loadGlobal
  refine wpAny_bind (t_nsGet hg ?_)
  rw [hv]
  exact wpAny_pure x
theorem class_code {env : Env} {pos : Pos} {fl : Nat} {name qual : Str} {scope : Scope} {c P : Addr} {Q : Value → Shared → Prop} (i : Nat) (D : St g L m rest h news) (hi : news[i]? = some (P, tabObj #[])) (hc : env.code = .ref c) (C : CodeHd h c P)
    (x : ∀ c' P' oc h' tk, L < P' → CodeOb P' oc → c' ≠ P' → St g L m rest h' ((c', oc) :: (P', tabObj #[]) :: news.set i (P, tabObj #[rawInt pos.line, rawInt pos.col, .ref c'])) → Q (.ref c') ⟨h', gs, d, tk, os⟩) :
    wpAny (model prog w) A (classCode env pos fl name qual scope) Q E ⟨h, gs, d, t, os⟩ := by
  obtain ⟨o, vs, file, tf, flags, tg, inF, text, tt, ho, _, hd, _, h11, h18, h7, h9, h10, hne⟩ := C
  have hP := D.nw.get (List.mem_of_getElem? hi)
  unfold classCode codeAt
  rw [hc, if_neg (show ¬ ((Value.ref c == Value.none) = true) from Bool.false_ne_true)]
  refine wpAny_bind (wpAny_fieldsOf (s := ⟨h, gs, d, t, os⟩) ho hd ?_)
  rw [h11]
  refine wpAny_bind (wpAny_fieldsOf (s := ⟨h, gs, d, t, os⟩) (vs := #[]) hP rfl ?_)
  rw [h18, h7, h9, h10]
  refine wpAny_bind (wpAny_newCodeX (s := ⟨h, gs, d, t, os⟩) fun c' P' h' tk hk hc' hP' hcode' htab' _ => ?_)
  obtain ⟨oc, hoc, hob, hcp⟩ := CodeOb.of (CodeHd.of hcode' htab')
  have D1 : St g L m rest h' ([(c', oc), (P', tabObj #[])] ++ news) := D.ext hk (by
      intro p hp
      rcases List.mem_cons.mp hp with rfl | hp
      · exact ⟨hoc, hc'⟩
      · rcases List.mem_cons.mp hp with rfl | hp
        · exact ⟨htab'.2, hP'⟩
        · nomatch hp) (by simp [hcp])
  have hi1 : ([(c', oc), (P', tabObj #[])] ++ news)[i + 2]? = some (P, tabObj #[]) := by simpa using hi
  refine wpAny_bind (wpAny_updateFieldsOfTheText (s := ⟨h', gs, d, tk, os⟩) (hk _ _ hP) rfl ?_)
  have hs : Heap.SameBut P h' (h'.update P (Obj.mapFields fun vs => if (codeAmong pos vs.toList).isSome = true then vs else vs ++ #[rawInt pos.line, rawInt pos.col, .ref c'])) := Heap.SameBut.update ..
  have hget := Heap.get?_update_self (h := h') (Obj.mapFields fun vs => if (codeAmong pos vs.toList).isSome = true then vs else vs ++ #[rawInt pos.line, rawInt pos.col, .ref c']) (hk _ _ hP) rfl
  have D2 := D1.change hi1 (fun b x hb e => (hs.2 b hb).trans e) hget
  refine wpAny_bind (wpAny_fieldsOf hget rfl ?_)
  have e2 : codeAmong pos (#[] ++ #[rawInt pos.line, rawInt pos.col, Value.ref c']).toList = some (.ref c') := by simp [codeAmong, rawInt]
  (show wpAny _ _ (match codeAmong pos (#[] ++ #[rawInt pos.line, rawInt pos.col, Value.ref c']).toList with | some c => pure c | none => unsupported "internal:code-record") _ _ _)
  rw [e2]
  exact wpAny_pure (x c' P' oc _ tk (Nat.lt_of_lt_of_le D.fr.ns.lt hP') hob hcp (D2.cast rfl))
theorem T_builtins {p : Program} {loose : List Str} {mean : ExcName → Option Value} {mg mb : Str → Option Value} {P : Addr} {ps : Array Value} (T : Top p loose mean mg mb g) (k : ∀ b o, g.get? b = some o → h.get? b = some o) (hP : h.get? P = some (tabObj ps)) :
    h.Ns mainGlobals mg ∧ mainGlobals ≠ P ∧ h.BuiltinsAt mg P := by
  have hgs := T.g.keeps k
  obtain ⟨bm, ob, b1, b2, b3, b4, b5, b6⟩ := T.bmain
  refine ⟨hgs, fun q => ?_, bm, ob, b1, b2, fun q => ?_, fun q => ?_, k _ _ b3, b4, b5, b6⟩
  · obtain ⟨o, es, ep, e, hd, _⟩ := hgs
    rw [q, hP] at e; cases e; cases hd
  · obtain ⟨o, es, ep, e, hd, _⟩ := T.g
    rw [q, e] at b3; cases b3; rw [hd] at b6; cases b6
  · have e := k _ _ b3
    rw [q, hP] at e; cases e; cases b4
theorem mk_c {p : Program} {loose : List Str} {mean : ExcName → Option Value} {mg mb : Str → Option Value} {env : Env} {pos : Pos} {fl : Nat} {name qual : Str} {params : Arguments} {body : List Stmt} {scope : Scope} {clos : List (Str × Addr)} {c P : Addr} {ps : Array Value} {Q : Value → Shared → Prop}
    (j : Nat) (D : St g L m rest h news) (hj : news[j]? = some (P, tabObj ps)) (T : Top p loose mean mg mb g) (C : CodeHd h c P) (hcl : closureFor scope env = pure clos) (hge : env.globals = mainGlobals) (hcode : env.code = .ref c) (ht : TriplesOk ps.toList) (hnf : codeAmong pos ps.toList = none)
    (x : ∀ f c' oc vs tq ctv doc h' tk, oc.data = .fields vs → vs[1]? = some (.str qual tq) → L < f → St g L m rest h' ((f, fnMade name qual params body scope clos doc ((mg "__name__").getD .none) c' ctv) :: (c', oc) :: news.set j (P, tabObj (ps ++ #[rawInt pos.line, rawInt pos.col, .ref c']))) → Q (.ref f) ⟨h', gs, d, tk, os⟩) :
    wpAny (model prog w) A (makeFunction name qual params (.stmts body) scope env [] [] [] pos fl) Q E ⟨h, gs, d, t, os⟩ := by
  have hP := D.nw.get (List.mem_of_getElem? hj)
  obtain ⟨t1, t2, t3⟩ := T_builtins T D.fr.keep hP
  refine makeFunction_K (s := ⟨h, gs, d, t, os⟩) (mg := mg) hcl hge t1 hcode C hP ht hnf t2 t3 fun c' ctv doc h' tk hx hge hlt hrec htb => ?_
  obtain ⟨c₂, oc, vs, tq, e2, hoc, hd, hv⟩ := hrec
  cases e2
  have D1 := D.change hj hx htb
  have D2 : St g L m rest h' ((c', oc) :: news.set j (P, tabObj (ps ++ #[rawInt pos.line, rawInt pos.col, .ref c']))) := D1.add hoc (Nat.ne_of_gt (Nat.lt_of_lt_of_le D.fr.ns.lt hge)) (Heap.get?_none_of_le (Nat.le_trans (Nat.le_of_lt D.size) hge)) (fun q hq => by
      have hlt' : q.1 < h.objs.size := by
        rcases set_cases D.nd hj q hq with rfl | ⟨h1, _⟩
        · exact Heap.lt_size hP
        · exact Heap.lt_size (D.nw q h1).1
      exact Nat.ne_of_gt (Nat.lt_of_lt_of_le hlt' hge)) (fun q hq => Nat.ne_of_gt (Nat.lt_of_lt_of_le (Heap.lt_size (D.rs q hq).1) hge))
  exact x _ c' oc vs tq ctv doc _ tk hd hv D1.fr.ns.lt (D2.push _ rfl)
end
end Mine
end
section
open PySem PySem.W PyProof.Rows PySem.W.X
set_option maxRecDepth 100000
set_option maxHeartbeats 8000000
namespace Mine
/-- the heap since `h0`: all old objects kept, the new ones written out -/
structure Nw (h0 h : Heap) (news : List (Addr × Obj)) : Prop where
  keep : ∀ b o, h0.get? b = some o → h.get? b = some o
  nw : ∀ p ∈ news, h.get? p.1 = some p.2 ∧ h0.get? p.1 = none
  nd : (news.map (·.1)).Nodup
section
variable {h0 h h' : Heap} {news : List (Addr × Obj)}
theorem Nw.start (h : Heap) : Nw h h [] := ⟨fun _ _ e => e, fun _ hp => (nomatch hp), List.nodup_nil⟩
theorem Nw.get (D : Nw h0 h news) {a : Addr} {o : Obj} (hm : (a, o) ∈ news) : h.get? a = some o := (D.nw _ hm).1
theorem Nw.push (D : Nw h0 h news) (o : Obj) (hf : o.isFreed = false) : Nw h0 (h.push o) ((h.objs.size, o) :: news) := by
  refine ⟨fun b x e => Heap.get?_push_of_some _ (D.keep b x e), fun p hp => ?_, ?_⟩
  · rcases List.mem_cons.mp hp with rfl | hp
    · refine ⟨Heap.get?_push_size _ hf, ?_⟩
      cases e : h0.get? h.objs.size with
      | none => rfl
      | some x => exact absurd (Heap.lt_size (D.keep _ _ e)) (Nat.lt_irrefl _)
    · exact ⟨Heap.get?_push_of_some _ (D.nw p hp).1, (D.nw p hp).2⟩
  · refine List.nodup_cons.mpr ⟨fun hb => ?_, D.nd⟩
    obtain ⟨⟨b', ob⟩, hp, e⟩ := List.mem_map.mp hb
    exact absurd (Heap.lt_size (D.get hp)) (by simp only at e; rw [e]; exact Nat.lt_irrefl _)
theorem Nw.change (D : Nw h0 h news) {i : Nat} {a : Addr} {o o' : Obj} (hi : news[i]? = some (a, o)) (hs : ∀ b x, b ≠ a → h.get? b = some x → h'.get? b = some x) (ge : h'.get? a = some o') : Nw h0 h' (news.set i (a, o')) := by
  have z := D.nw (a, o) (List.mem_of_getElem? hi)
  refine ⟨fun b x e => hs b x ?_ (D.keep b x e), fun p hp => ?_, ?_⟩
  · rintro rfl
    exact absurd (z.2.symm.trans e) (by simp)
  · rcases set_cases D.nd hi p hp with rfl | ⟨h1, h2⟩
    · exact ⟨ge, z.2⟩
    · exact ⟨hs _ _ h2 (D.nw p h1).1, (D.nw p h1).2⟩
  · rw [set_keys hi]; exact D.nd
theorem Nw.mem (D : Nw h0 h news) {new' : List (Addr × Obj)} (M : Mem h h' [] new') : Nw h0 h' (new' ++ news) := by
  have k : ∀ b o, h.get? b = some o → h'.get? b = some o := fun b o e => M.keep b o e (by simp [away])
  have ne : ∀ p ∈ new', ∀ b o, h.get? b = some o → p.1 ≠ b := fun p hp b o e he => by
    have := (M.nw p hp).2
    rw [he, e] at this
    exact absurd this (by simp)
  refine ⟨fun b o e => k _ _ (D.keep b o e), fun p hp => ?_, ?_⟩
  · rcases List.mem_append.mp hp with hp | hp
    · refine ⟨(M.nw p hp).1, ?_⟩
      cases e : h0.get? p.1 with
      | none => rfl
      | some o => exact absurd rfl (ne p hp _ _ (D.keep _ _ e))
    · exact ⟨k _ _ (D.nw p hp).1, (D.nw p hp).2⟩
  · rw [List.map_append]
    refine List.nodup_append.mpr ⟨M.ord.imp (fun h => Nat.ne_of_gt h), D.nd, ?_⟩
    intro x hx y hy
    obtain ⟨p, hp, rfl⟩ := List.mem_map.mp hx
    obtain ⟨q, hq, rfl⟩ := List.mem_map.mp hy
    exact ne p hp _ _ (D.nw q hq).1
theorem Nw.cast {news' : List (Addr × Obj)} (D : Nw h0 h news) (e : news = news') : Nw h0 h news' := e ▸ D
theorem St.nw' {g : Heap} {L : Addr} {m : Str → Option Value} {rest old : List (Addr × Obj)} (D : St g L m rest h0 old) (M : Nw h0 h news) : St g L m rest h (news ++ old) := by
  have ne : ∀ p ∈ news, ∀ b o, h0.get? b = some o → p.1 ≠ b := fun p hp b o e he => by
    have := (M.nw p hp).2
    rw [he, e] at this
    exact absurd this (by simp)
  obtain ⟨oL, a1, a2, hoL, a3⟩ := D.fr.ns
  refine ⟨⟨⟨oL, a1, a2, M.keep _ _ hoL, a3⟩, fun b o e => M.keep _ _ (D.fr.keep b o e), D.fr.above⟩, ?_, ?_, fun p hp => ⟨M.keep _ _ (D.rs p hp).1, (D.rs p hp).2⟩, ?_⟩
  · intro p hp
    rcases List.mem_append.mp hp with hp | hp
    · refine ⟨(M.nw p hp).1, ne p hp _ _ hoL, ?_⟩
      cases e : g.get? p.1 with
      | none => rfl
      | some o => exact absurd rfl (ne p hp _ _ (D.fr.keep _ _ e))
    · exact ⟨M.keep _ _ (D.nw p hp).1, (D.nw p hp).2⟩
  · rw [List.map_append]
    refine List.nodup_append.mpr ⟨M.nd, D.nd, ?_⟩
    intro x hx y hy
    obtain ⟨p, hp, rfl⟩ := List.mem_map.mp hx
    obtain ⟨q, hq, rfl⟩ := List.mem_map.mp hy
    exact ne p hp _ _ (D.nw q hq).1
  · intro p hp q hq
    rcases List.mem_append.mp hq with hq | hq
    · exact (ne q hq _ _ (D.rs p hp).1).symm
    · exact D.sep p hp q hq
end
section
variable {α : Type} {prog : Program} {w : World} {A : Around} {E : Value → Shared → Prop} {Q : α → Shared → Prop} {h0 h : Heap} {news : List (Addr × Obj)} {gs : Array GenState} {d : Drawn} {t : Nat} {os : OsState}
theorem n_load {a : Addr} {q : Option Value} {k : Obj → Sem α} {o : Obj} (D : Nw h0 h news) (hm : (a, o) ∈ news) (x : wpAny (model prog w) A (k o) Q E ⟨h, gs, d, t, os⟩) : wpAny (model prog w) A (.load a q k) Q E ⟨h, gs, d, t, os⟩ := t_loadH (D.get hm) x
theorem n_old {a : Addr} {q : Option Value} {k : Obj → Sem α} {o : Obj} (D : Nw h0 h news) (hm : h0.get? a = some o) (x : wpAny (model prog w) A (k o) Q E ⟨h, gs, d, t, os⟩) : wpAny (model prog w) A (.load a q k) Q E ⟨h, gs, d, t, os⟩ := t_loadH (D.keep _ _ hm) x
theorem n_alloc {o : Obj} {k : Addr → Sem α} (D : Nw h0 h news) (hf : o.isFreed = false)
    (x : ∀ a h', (∀ b o, h.get? b = some o → b < a) → Nw h0 h' ((a, o) :: news) → wpAny (model prog w) A (k a) Q E ⟨h', gs, d, t, os⟩) : wpAny (model prog w) A (.alloc o k) Q E ⟨h, gs, d, t, os⟩ :=
  wpAny_bind (m := alloc o) (f := k) (wpAny_alloc (x _ _ (fun _ _ e => Heap.lt_size e) (D.push o hf)))
theorem n_allocE {o : Obj} (o' : Obj) {k : Addr → Sem α} (D : Nw h0 h news) (e : o = o') (hf : o'.isFreed = false)
    (x : ∀ a h', (∀ b o, h.get? b = some o → b < a) → Nw h0 h' ((a, o') :: news) → wpAny (model prog w) A (k a) Q E ⟨h', gs, d, t, os⟩) : wpAny (model prog w) A (.alloc o k) Q E ⟨h, gs, d, t, os⟩ := by
  subst e
  exact n_alloc D hf x
theorem n_update {a : Addr} {q : Option Value} {f : Obj → Obj} {k : Unit → Sem α} {o : Obj} (i : Nat) (D : Nw h0 h news) (hi : news[i]? = some (a, o)) (hf : (f o).isFreed = false)
    (x : ∀ h', Nw h0 h' (news.set i (a, f o)) → wpAny (model prog w) A (k ()) Q E ⟨h', gs, d, t, os⟩) : wpAny (model prog w) A (.update a q f k) Q E ⟨h, gs, d, t, os⟩ := by
  have ho := D.get (List.mem_of_getElem? hi)
  have hs : Heap.SameBut a h (h.update a f) := Heap.SameBut.update ..
  have ge : (h.update a f).get? a = some (f o) := by first | exact Heap.get?_update_self f ho hf | exact Heap.get?_update_self _ ho hf
  exact wpAny_bind (m := updatePart a q f) (f := k) (wpAny_updatePart (s := ⟨h, gs, d, t, os⟩) ho (x _ (D.change hi (fun b x hb e => (hs.2 b hb).trans e) ge)))
theorem n_updateE {a : Addr} {q : Option Value} {f : Obj → Obj} {k : Unit → Sem α} {o : Obj} (o' : Obj) (i : Nat) (D : Nw h0 h news) (hi : news[i]? = some (a, o)) (e : f o = o') (hf : o'.isFreed = false)
    (x : ∀ h', Nw h0 h' (news.set i (a, o')) → wpAny (model prog w) A (k ()) Q E ⟨h', gs, d, t, os⟩) : wpAny (model prog w) A (.update a q f k) Q E ⟨h, gs, d, t, os⟩ := by
  subst e
  exact n_update i D hi hf x
end
end Mine
end
section
open PySem PySem.W PyProof.Rows PySem.W.X
set_option maxRecDepth 100000
set_option maxHeartbeats 8000000
set_option linter.unusedSimpArgs false
namespace Mine
theorem not_of {b : Bool} (e : b = false) : ¬ (b = true) := by rw [e]; exact Bool.false_ne_true
abbrev en (k : String) (hv : Int) (t : Tok) (v : Value) : DictEntry := ⟨hv, .str (Str.ofString k) t, v⟩
abbrev fnO (fd : FuncData) : Obj := ⟨.type "function", none, .func fd, #[]⟩
theorem Nw.trans {h0 h h' : Heap} {news new' : List (Addr × Obj)} (D : Nw h0 h news) (M : Nw h h' new') : Nw h0 h' (new' ++ news) := by
  have ne : ∀ p ∈ new', ∀ b o, h.get? b = some o → p.1 ≠ b := fun p hp b o e he => by
    have := (M.nw p hp).2
    rw [he, e] at this
    exact absurd this (by simp)
  refine ⟨fun b o e => M.keep _ _ (D.keep b o e), fun p hp => ?_, ?_⟩
  · rcases List.mem_append.mp hp with hp | hp
    · refine ⟨(M.nw p hp).1, ?_⟩
      cases e : h0.get? p.1 with
      | none => rfl
      | some o => exact absurd rfl (ne p hp _ _ (D.keep _ _ e))
    · exact ⟨M.keep _ _ (D.nw p hp).1, (D.nw p hp).2⟩
  · rw [List.map_append]
    refine List.nodup_append.mpr ⟨M.nd, D.nd, ?_⟩
    intro x hx y hy
    obtain ⟨p, hp, rfl⟩ := List.mem_map.mp hx
    obtain ⟨q, hq, rfl⟩ := List.mem_map.mp hy
    exact ne p hp _ _ (D.nw q hq).1
theorem Nw.sub {h0 h : Heap} {news news' : List (Addr × Obj)} (D : Nw h0 h news) (s : List.Sublist news' news) : Nw h0 h news' := ⟨D.keep, fun p hp => D.nw p (s.subset hp), D.nd.sublist (s.map _)⟩
theorem s_bind {α β : Type} {M : Model} {A : Around} {E : Value → Shared → Prop} {s : Shared} {m : Sem α} {f : α → Sem β} {Q : β → Shared → Prop} (h : wpAny M A m (fun a s' => wpAny M A (f a) Q E s') E s) : wpAny M A (Sem.bind m f) Q E s := wpAny_bind h
theorem n_put {α : Type} {prog : Program} {w : World} {A : Around} {E : Value → Shared → Prop} {Q : α → Shared → Prop} {h0 h : Heap} {news : List (Addr × Obj)} {gs : Array GenState} {d : Drawn} {t : Nat} {os : OsState} {ns : Addr} {q : Option Value} {name : Str} {hv : Int} {key v : Value} {es : List DictEntry} {n : Nat} {k : Unit → Sem α}
    (i : Nat) (D : Nw h0 h news) (hi : news[i]? = some (ns, dictO es n)) (hno : es.any (·.key.isStr name) = false)
    (x : ∀ hv h', Nw h0 h' (news.set i (ns, dictO (es ++ [⟨hv, key, v⟩]) (n + 1))) → wpAny (model prog w) A (k ()) Q E ⟨h', gs, d, t, os⟩) : wpAny (model prog w) A (.update ns q (Obj.putName name hv key v) k) Q E ⟨h, gs, d, t, os⟩ :=
  n_updateE _ i D hi (putName_new hno) rfl (x _)
theorem forIn_skip {α : Type} {M : Model} {A : Around} {E : Value → Shared → Prop} {s : Shared} {xs : List α} {f : α → PUnit → Sem (ForInStep PUnit)} {Q : PUnit → Shared → Prop} (h : ∀ x ∈ xs, wpAny M A (f x ⟨⟩) (fun r s' => r = .yield ⟨⟩ ∧ s' = s) E s) (q : Q ⟨⟩ s) : wpAny M A (forIn (Array.mk xs) ⟨⟩ f) Q E s := by
  refine wpAny_forIn_array' f (fun l _ s' => (∀ x ∈ l, x ∈ xs) ∧ s' = s) Q ?_ (fun _ s' h' => h'.2 ▸ q) _ _ ⟨fun _ h' => h', rfl⟩
  rintro x rest ⟨⟩ s' ⟨h1, rfl⟩
  refine wpAny_mono (h x (h1 x (List.mem_cons_self ..))) (fun r s'' hr => ?_) fun _ _ h' => h'
  obtain ⟨rfl, rfl⟩ := hr
  exact ⟨fun y hy => h1 y (List.mem_cons_of_mem _ hy), rfl⟩
theorem all_cons {α : Type} {P : α → Prop} {x : α} {xs : List α} (h : P x) (hs : ∀ y ∈ xs, P y) : ∀ y ∈ x :: xs, P y := List.forall_mem_cons.mpr ⟨h, hs⟩
end Mine
end
section
open PySem PySem.W PyProof.Rows PySem.W.X
set_option maxRecDepth 100000
set_option maxHeartbeats 8000000
set_option linter.unusedSimpArgs false

namespace Mine
local macro_rules | `(tactic| k_mem) => `(tactic| (repeat (first | exact List.mem_cons_self .. | refine List.mem_cons_of_mem _ ?_)))
local macro_rules | `(tactic| x_close) => `(tactic| first
  | (refine n_load (q := none) (by assumption) (by k_mem) ?_)
  | (refine n_load (by assumption) (by k_mem) ?_)
  | (refine n_old (q := none) (by assumption) (by assumption) ?_)
  | (refine n_old (by assumption) (by assumption) ?_)
  | (refine' s_decF ?dp ?_; (case dp => (first | exact big_ne (by assumption) (by decide) rfl)))
  | (refine x_rule ?_)
  | (refine x_at ?_)
  | (refine x_point ?_)
  | (refine x_ask ?_)
  | (refine t_fresh ?_))
abbrev clsK (C N : Addr) (v2 : Str) (sl : Array (Option Value)) : Obj := ⟨.type "type", none, .cls { name := Str.ofString "K", bases := [.type "object"], mro := [.ref C, .type "object"], ns := N, qualname := v2, hasDict := false, slotNames := [Str.ofString "obj"] }, sl⟩
abbrev supO (C : Addr) : Obj := ⟨.type "super", none, .fields #[.ref C, .ref C, .ref C], #[]⟩
theorem entry_tcall : entryFor table "type.__call__" = some Builtin.«type.__call__» := entryFor_of_tree (by kernel_rfl)
theorem entry_snew : entryFor table "super.__new__" = some Builtin.«super.__new__» := entryFor_of_tree (by kernel_rfl)
theorem entry_sinit : entryFor table "super.__init__" = some Builtin.«super.__init__» := entryFor_of_tree (by kernel_rfl)
theorem super_c {w : World} {A : Around} {Q E : Value → Shared → Prop} {h0 : Heap} {gs : Array GenState} {d : Drawn} {t : Nat} {os : OsState} {C N : Addr} {v2 : Str} {sl : Array (Option Value)}
    (hC : h0.get? C = some (clsK C N v2 sl))
    (hQ : ∀ so h', Nw h0 h' [(so, supO C)] → Q (.ref so) ⟨h', gs, d, t, os⟩) :
    wpAny (model Challenge.rw_dn0037_01.row.prog w) A (call (.type "super") [.ref C, .ref C]) Q E ⟨h0, gs, d, t, os⟩ := by
  have D := Nw.start h0
  refine wpAny_call (codeAny_of_tree ?_)
  refine x_pure ⟨Code.quiet_builtin _ (by decide +kernel), codeAny_builtin entry_tcall ?_⟩
  repeat x_close
  refine wpAny_bind (m := Bind.madeBy _) (eqk (t' := pure (some "super.__new__")) (by kernel_rfl) (wpAny_pure ?_))
  refine wpAny_bind (m := pure _) (wpAny_pure ?_)
  refine wpAny_bind (m := holding _ _) (wpAny_holding ?_)
  refine wpAny_call (codeAny_call_builtin_code (Code.quiet_builtin _ (by decide +kernel)) (eqk (t' := pure ()) (by kernel_rfl) (wpAny_pure (codeAny_builtin entry_snew ?_))))
  refine n_allocE ⟨.type "super", none, .fields #[.none, .none, .none], #[]⟩ D (by kernel_rfl) rfl ?_
  clear D
  intro so h1 lso D
  refine x_pure ?_
  refine wpAny_bind (m := isInstance _ _) ?_
  refine n_load (q := none) D (List.mem_cons_self ..) ?_
  refine eqk (t' := pure true) (by kernel_rfl) (wpAny_pure ?_)
  refine wpAny_bind (m := holding _ _) (wpAny_holding ?_)
  refine wpAny_bind (m := specialOf _ _) ?_
  refine n_load (q := none) D (List.mem_cons_self ..) ?_
  refine eqk (t' := pure (some (.builtin "super.__init__"))) (by kernel_rfl) (wpAny_pure ?_)
  refine wpAny_holding ?_
  refine wpAny_bind (m := bindSpecial _ _) (eqk (t' := pure (.builtin "super.__init__", [.ref so])) (by kernel_rfl) (wpAny_pure ?_))
  refine wpAny_bind (m := call _ _ _) (wpAny_call (codeAny_call_builtin_code (id := "super.__init__") (Code.quiet_builtin _ (by decide +kernel)) ?_))
  refine n_load (q := some headPart) D (List.mem_cons_self ..) ?_
  refine eqk (t' := pure ()) (by kernel_rfl) (wpAny_pure (codeAny_builtin entry_sinit ?_))
  refine wpAny_bind (m := isType _) (n_old (q := some headPart) D hC (eqk (t' := pure true) (by kernel_rfl) (wpAny_pure ?_)))
  refine n_old (q := some headPart) D hC ?_
  refine n_old (q := none) D hC ?_
  refine s_bind (α := Value) (eqk (t' := pure (.ref C)) ?e (wpAny_pure ?_))
  (case e =>
    (show (if ([Value.ref C, .type "object"].contains (.ref C)) = true then pure (Value.ref C) else _) = _)
    rw [if_pos (by simp)])
  refine n_load (q := none) D (List.mem_cons_self ..) ?_
  refine n_updateE ⟨.type "super", none, .fields #[.ref C, .none, .none], #[]⟩ 0 D rfl (by kernel_rfl) rfl ?_
  clear D
  intro h2 D
  (simp only [List.set_cons_zero] at D)
  refine n_load (q := none) D (List.mem_cons_self ..) ?_
  refine n_updateE ⟨.type "super", none, .fields #[.ref C, .ref C, .none], #[]⟩ 0 D rfl (by kernel_rfl) rfl ?_
  clear D
  intro h3 D
  (simp only [List.set_cons_zero] at D)
  refine n_load (q := none) D (List.mem_cons_self ..) ?_
  refine n_updateE (supO C) 0 D rfl (by kernel_rfl) rfl ?_
  clear D
  intro h4 D
  (simp only [List.set_cons_zero] at D)
  refine x_pure ?_
  refine x_pure ?_
  exact x_pure (hQ so h4 D)
end Mine
end
section
open PySem PySem.W PyProof.Rows PySem.W.X
set_option maxRecDepth 100000
set_option maxHeartbeats 400000
set_option linter.unusedSimpArgs false
namespace Mine
local macro_rules | `(tactic| k_mem) => `(tactic| (repeat (first | exact List.mem_cons_self .. | refine List.mem_cons_of_mem _ ?_)))
local macro_rules | `(tactic| x_close) => `(tactic| first
  | (refine n_load (q := none) (by assumption) (by k_mem) ?_)
  | (refine n_load (by assumption) (by k_mem) ?_)
  | (refine n_old (q := none) (by assumption) (by assumption) ?_)
  | (refine n_old (by assumption) (by assumption) ?_)
  | (refine' s_decF ?dp ?_; (case dp => (first | exact big_ne (by assumption) (by decide) rfl)))
  | (refine x_rule ?_)
  | (refine x_at ?_)
  | (refine x_point ?_)
  | (refine x_ask ?_)
  | (refine t_fresh ?_))
abbrev qK : Str := Str.ofString "cmp_to_key.<locals>.K"
theorem s_forEq {α β γ : Type} {M : Model} {A : Around} {E : Value → Shared → Prop} {s : Shared} {l l' : List α} {b : β} {f : α → β → Sem (ForInStep β)} {g : β → Sem γ} {Q : γ → Shared → Prop} (e : l = l') (h : wpAny M A (forIn l' b f >>= g) Q E s) : wpAny M A (forIn l b f >>= g) Q E s := e ▸ h
abbrev bmO (C : Addr) : Obj := ⟨.type "builtin_function_or_method", none, .fields #[.builtin "object.__init_subclass__", .ref C], #[]⟩
theorem entry_cmget : entryFor table "classmethod_descriptor.__get__" = some Builtin.«classmethod_descriptor.__get__» := entryFor_of_tree (by kernel_rfl)
theorem entry_sga : entryFor table "super.__getattribute__" = some Builtin.«super.__getattribute__» := entryFor_of_tree (by kernel_rfl)
theorem supget_c {w : World} {A : Around} {Q E : Value → Shared → Prop} {h0 : Heap} {gs : Array GenState} {d : Drawn} {t : Nat} {os : OsState} {C N so : Addr} {v2 : Str} {sl : Array (Option Value)}
    (hC : h0.get? C = some (clsK C N v2 sl)) (hs : h0.get? so = some (supO C)) {hb : Heap} (hop : Looks (model Challenge.rw_dn0037_01.row.prog w) hb (opaqueClassAbove (.ref C)) none) (hkb : ∀ b o, hb.get? b = some o → h0.get? b = some o)
    (hQ : ∀ bm h', Nw h0 h' [(bm, bmO C)] → Q (.ref bm) ⟨h', gs, d, t + 1, os⟩) :
    wpAny (model Challenge.rw_dn0037_01.row.prog w) A (getAttr (.ref so) (Str.ofString "__init_subclass__")) Q E ⟨h0, gs, d, t, os⟩ := by
  have D := Nw.start h0
  refine wpAny_bind (t_text ?_)
  refine wpAny_holding ?_
  refine wpAny_bind (m := typeOf _) (n_old (q := some headPart) D hs (wpAny_pure ?_))
  (show wpAny _ _ (typeLookup (.type "super") (Str.ofString "__getattribute__") >>= _) _ _ _)
  refine wpAny_bind ?_
  rw [show typeLookup (.type "super") (Str.ofString "__getattribute__") = pure (some (.builtin "super.__getattribute__")) by kernel_rfl]
  refine wpAny_pure ?_
  (show wpAny _ _ (if (onTheHeap (.type "super") && ((Value.builtin "super.__getattribute__") == .builtin "object.__getattribute__")) = true then _ else getAttrByItsOwn (.ref so) (.str (Str.ofString "__init_subclass__") t) (.type "super") (.builtin "super.__getattribute__") true false) _ _ _)
  rw [if_neg (by decide)]
  (unfold getAttrByItsOwn)
  refine wpAny_bind (m := hookBefore _) (wpAny_pure ?_)
  refine wpAny_bind (m := Sem.attempt _) ?_
  refine wpAny_attempt (wpAny_holding ?_)
  (show wpAny _ _ (boundAndCalled (.builtin "super.__getattribute__") (.ref so) (.str (Str.ofString "__init_subclass__") t)) _ _ _)
  (unfold boundAndCalled)
  rw [show bindSpecial (.builtin "super.__getattribute__") (.ref so) = pure (.builtin "super.__getattribute__", [.ref so]) by kernel_rfl]
  refine wpAny_bind (wpAny_pure ?_)
  refine wpAny_call (codeAny_call_builtin_code (id := "super.__getattribute__") (Code.quiet_builtin _ (by decide +kernel)) ?_)
  refine n_old (q := some headPart) D hs ?_
  refine eqk (t' := pure ()) (by kernel_rfl) (wpAny_pure (codeAny_builtin entry_sga ?_))
  refine n_old (q := none) D hs ?_
  refine n_old (q := none) D hs ?_
  refine n_old (q := none) D hs ?_
  refine wpAny_bind (m := notOfAnOpaqueClass _ _ _) (wpAny_bind (m := opaqueClassAbove _) (hop _ _ _ ⟨h0, gs, d, t + 1, os⟩ hkb (wpAny_pure ?_)))
  refine wpAny_bind (m := mroOf _) (n_old (q := none) D hC (wpAny_pure ?_))
  dsimp only
  refine s_forEq (l' := [.type "object"]) ?e ?_
  (case e => (show List.drop 1 (List.dropWhile (fun x => x != Value.ref C) [Value.ref C, Value.type "object"]) = _); simp [List.dropWhile])
  refine wpAny_bind (m := forIn _ _ _) ?_
  rw [List.forIn_cons]
  refine wpAny_bind ?_
  rw [show classOwn (Value.type "object") (Str.ofString "__init_subclass__") = pure (some (.builtin "object.__init_subclass__")) by kernel_rfl]
  refine wpAny_bind (wpAny_pure ?_)
  dsimp only
  rw [show typeOf (.builtin "object.__init_subclass__") = pure (.type "classmethod_descriptor") by kernel_rfl]
  refine wpAny_bind (wpAny_pure ?_)
  rw [show typeLookup (Value.type "classmethod_descriptor") (Str.ofString "__get__") = pure (some (.builtin "classmethod_descriptor.__get__")) by kernel_rfl]
  refine wpAny_bind (wpAny_pure ?_)
  dsimp only
  refine wpAny_bind (wpAny_holding ?_)
  refine eqk (t' := call (.builtin "classmethod_descriptor.__get__") [.builtin "object.__init_subclass__", .none, .ref C]) ?e2 ?_
  (case e2 => (show call (.builtin "classmethod_descriptor.__get__") [.builtin "object.__init_subclass__", if (Value.ref C == Value.ref C) = true then .none else .ref C, .ref C] = _); rw [if_pos (by simp)])
  refine wpAny_call (codeAny_call_builtin_code (id := "classmethod_descriptor.__get__") (Code.quiet_builtin _ (by decide +kernel)) (eqk (t' := pure ()) (by kernel_rfl) (wpAny_pure (codeAny_builtin entry_cmget ?_))))
  repeat x_close
  refine n_allocE (bmO C) D (by kernel_rfl) rfl ?_
  clear D
  intro bm h1 _ D
  refine x_pure ?_
  refine wpAny_bind (wpAny_pure ?_)
  refine wpAny_pure ?_
  refine wpAny_pure ?_
  refine wpAny_pure ?_
  exact wpAny_pure (hQ bm h1 D)
theorem entry_ois : entryFor table "object.__init_subclass__" = some Builtin.«object.__init_subclass__» := entryFor_of_tree (by kernel_rfl)
theorem bmcall_c {w : World} {A : Around} {Q E : Value → Shared → Prop} {h0 : Heap} {gs : Array GenState} {d : Drawn} {t : Nat} {os : OsState} {C N bm : Addr} {sl : Array (Option Value)}
    (hb : h0.get? bm = some (bmO C)) (hC : h0.get? C = some (clsK C N (qK) sl)) (hQ : Q .none ⟨h0, gs, d, t, os⟩) : 
    wpAny (model Challenge.rw_dn0037_01.row.prog w) A (call (.ref bm) []) Q E ⟨h0, gs, d, t, os⟩ := by
  refine wpAny_call (codeAny_of_tree ?_)
  refine t_loadH hb ?_
  have D := Nw.start h0
  repeat x_close
  refine s_bind (α := Unit) (eqk (t' := pure ()) (by kernel_rfl) (wpAny_pure ?_))
  refine x_pure ⟨Code.quiet_builtin _ (by decide +kernel), codeAny_builtin entry_ois ?_⟩
  exact x_pure hQ
end Mine
end
section
open PySem PySem.W PyProof.Rows PySem.W.X
set_option maxRecDepth 100000
set_option maxHeartbeats 8000000
set_option linter.unusedSimpArgs false

namespace Mine
local macro_rules | `(tactic| k_mem) => `(tactic| (repeat (first | exact List.mem_cons_self .. | refine List.mem_cons_of_mem _ ?_)))
local macro_rules | `(tactic| x_close) => `(tactic| first
  | (refine n_load (q := none) (by assumption) (by k_mem) ?_)
  | (refine n_load (by assumption) (by k_mem) ?_)
  | (refine n_old (q := none) (by assumption) (by assumption) ?_)
  | (refine n_old (by assumption) (by assumption) ?_)
  | (refine' s_decF ?dp ?_; (case dp => (first | exact big_ne (by assumption) (by decide) rfl)))
  | (refine x_rule ?_)
  | (refine x_at ?_)
  | (refine x_point ?_)
  | (refine x_ask ?_)
  | (refine t_fresh ?_))
abbrev mdO (C : Addr) (t : Tok) : Obj := ⟨.type "member_descriptor", none, .fields #[.str (Str.ofString "obj") t, .ref C, .builtin "proto.slot", .builtin "proto.slot#set", rawInt 0], #[]⟩
theorem tnew {w : World} {A : Around} {Q : PySem.Fin → Shared → Prop} {E : Value → Shared → Prop} {h0 : Heap} {gs : Array GenState} {d : Drawn} {t t0 : Nat} {os : OsState} {bt ns sl sa f1 f2 f3 f4 f5 f6 : Addr} {fd1 fd2 fd3 fd4 fd5 fd6 : FuncData}
    {v1 : Str} {i3 : Int} {u1 u2 u3 u4 u5 : Tok} {k1 k2 k3 k4 k5 k6 k7 k8 k9 k10 k11 k12 : Int} {t1 t2 t3 t4 t5 t6 t7 t8 t9 t10 t11 t12 : Tok}
    (hbt : h0.get? bt = some ⟨.type "tuple", none, .seq #[.type "object"] 0, #[]⟩) (hsl : h0.get? sl = some ⟨.type "list", none, .seq #[.str (Str.ofString "obj") u4] 0, #[]⟩) (hsa : h0.get? sa = some ⟨.type "tuple", none, .seq #[.str (Str.ofString "obj") u5] 0, #[]⟩)
    (hns : h0.get? ns = some (dictO [en "__module__" k1 t1 (.str v1 u1), en "__qualname__" k2 t2 (.str qK u2), en "__firstlineno__" k3 t3 (.int i3 u3), en "__slots__" k4 t4 (.ref sl), en "__init__" k5 t5 (.ref f1), en "__lt__" k6 t6 (.ref f2), en "__gt__" k7 t7 (.ref f3), en "__eq__" k8 t8 (.ref f4), en "__le__" k9 t9 (.ref f5), en "__ge__" k10 t10 (.ref f6), en "__hash__" k11 t11 .none, en "__static_attributes__" k12 t12 (.ref sa)] 12))
    (g1 : h0.get? f1 = some (fnO fd1)) (g2 : h0.get? f2 = some (fnO fd2)) (g3 : h0.get? f3 = some (fnO fd3)) (g4 : h0.get? f4 = some (fnO fd4)) (g5 : h0.get? f5 = some (fnO fd5)) (g6 : h0.get? f6 = some (fnO fd6)) (hbig : 24 < ns)
    {hb : Heap} (hop : ∀ C, Looks (model Challenge.rw_dn0037_01.row.prog w) hb (opaqueClassAbove (.ref C)) none) (hkb : ∀ b o, hb.get? b = some o → h0.get? b = some o)
    (hQ : ∀ C N md h' k13 t13 k14 t14 tk, Nw h0 h' [(md, mdO C t), (C, clsK C N qK #[some (.ref bt), none, some (.str (Str.ofString "K") t0), some (.str qK u2), some (.builtin "object.__new__"), some (.bool false)]),
        (N, dictO [en "__module__" k1 t1 (.str v1 u1), en "__firstlineno__" k3 t3 (.int i3 u3), en "__slots__" k4 t4 (.ref sl), en "__init__" k5 t5 (.ref f1), en "__lt__" k6 t6 (.ref f2), en "__gt__" k7 t7 (.ref f3), en "__eq__" k8 t8 (.ref f4), en "__le__" k9 t9 (.ref f5), en "__ge__" k10 t10 (.ref f6), en "__hash__" k11 t11 .none, en "__static_attributes__" k12 t12 (.ref sa), en "obj" k13 t13 (.ref md), en "__doc__" k14 t14 .none] 3)] →
      Q (.done (.ret (.ref C))) ⟨h', gs, d, tk, os⟩) :
    wpAny (model Challenge.rw_dn0037_01.row.prog w) A (Builtin.«type.__new__» ⟨[.type "type", .str (Str.ofString "K") t0, .ref bt, .ref ns], []⟩) Q E ⟨h0, gs, d, t, os⟩ := by
  have D := Nw.start h0
  repeat x_close
  refine x_call (codeAny_builtin entry_proto_collect' ?_) (by intro h; cases h)
  refine n_alloc D rfl ?_
  clear D
  intro cl h1 lt1 D
  refine x_pure ⟨Code.quiet_builtin _ (by decide +kernel), codeAny_builtin entry_list_iadd' ?_⟩
  repeat x_close
  refine' s_decT ?dp ?_
  (case dp => (show ((_ || true) || _) = true); simp only [Bool.or_true, Bool.true_or])
  repeat x_close
  refine n_update 0 D rfl rfl ?_
  clear D
  intro h2 D
  (simp only [List.set_cons_zero] at D)
  repeat x_close
  refine x_pure ?_
  x_close
  refine wpAny_bind (eqk (t' := pure (⟨[Str.ofString "obj"], false, false, []⟩ : Builtin.Slots.Plan)) (by kernel_rfl) (wpAny_pure ?_))
  refine n_alloc D rfl ?_
  clear D
  intro N h3 lN D
  refine' s_decF (not_of ?dp) ?_
  (case dp => kernel_rfl)
  refine wpAny_bind (eqk (t' := pure ()) (by kernel_rfl) (wpAny_pure ?_))
  refine s_ifN (not_of (by kernel_rfl)) ?_
  repeat x_close
  refine n_allocE ⟨.type "type", none, .cls { name := Str.ofString "K", bases := [.type "object"], mro := [], ns := N, qualname := qK }, #[]⟩ D (by kernel_rfl) rfl ?_
  clear D
  intro C h4 lC D
  repeat x_close
  refine n_updateE ⟨.type "type", none, .cls { name := Str.ofString "K", bases := [.type "object"], mro := [], ns := N, qualname := qK }, #[some (.ref bt)]⟩ 0 D rfl (by kernel_rfl) rfl ?_
  clear D
  intro h5 D
  (simp only [List.set_cons_zero] at D)
  refine n_updateE ⟨.type "type", none, .cls { name := Str.ofString "K", bases := [.type "object"], mro := [], ns := N, qualname := qK }, #[some (.ref bt), none, some (.str (Str.ofString "K") t0)]⟩ 0 D rfl (by kernel_rfl) rfl ?_
  clear D
  intro h6 D
  (simp only [List.set_cons_zero] at D)
  refine n_updateE ⟨.type "type", none, .cls { name := Str.ofString "K", bases := [.type "object"], mro := [], ns := N, qualname := qK }, #[some (.ref bt), none, some (.str (Str.ofString "K") t0), some (.str qK u2)]⟩ 0 D rfl (by kernel_rfl) rfl ?_
  clear D
  intro h7 D
  (simp only [List.set_cons_zero] at D)
  repeat x_close
  refine n_updateE (dictO [en "__module__" k1 t1 (.str v1 u1), en "__firstlineno__" k3 t3 (.int i3 u3), en "__slots__" k4 t4 (.ref sl), en "__init__" k5 t5 (.ref f1), en "__lt__" k6 t6 (.ref f2), en "__gt__" k7 t7 (.ref f3), en "__eq__" k8 t8 (.ref f4), en "__le__" k9 t9 (.ref f5), en "__ge__" k10 t10 (.ref f6), en "__hash__" k11 t11 .none, en "__static_attributes__" k12 t12 (.ref sa)] 1) 1 D rfl (by kernel_rfl) rfl ?_
  clear D
  intro h8 D
  (simp only [List.set_cons_zero, List.set_cons_succ] at D)
  repeat x_close
  refine wpAny_bind (m := List.anyM _ (List.filter _ _)) (eqk (t' := pure false) ?ea (wpAny_pure ?_))
  (case ea =>
    (show List.anyM _ (List.filter (fun x => x != Value.ref C) (Value.ref C :: [Value.type "object"])) = _)
    rw [List.filter_cons_of_neg (by simp)]
    kernel_rfl)
  repeat x_close
  refine n_updateE ⟨.type "type", none, .cls { name := Str.ofString "K", bases := [.type "object"], mro := [.ref C, .type "object"], ns := N, qualname := qK }, #[some (.ref bt), none, some (.str (Str.ofString "K") t0), some (.str qK u2)]⟩ 0 D rfl (by kernel_rfl) rfl ?_
  clear D
  intro h9 D
  (simp only [List.set_cons_zero, List.set_cons_succ] at D)
  repeat x_close
  refine wpAny_bind (m := Bind.madeBy _) (eqk (t' := pure (some "object.__new__")) (by kernel_rfl) (wpAny_pure ?_))
  refine n_updateE ⟨.type "type", none, .cls { name := Str.ofString "K", bases := [.type "object"], mro := [.ref C, .type "object"], ns := N, qualname := qK }, #[some (.ref bt), none, some (.str (Str.ofString "K") t0), some (.str qK u2), some (.builtin "object.__new__")]⟩ 0 D rfl (by kernel_rfl) rfl ?_
  clear D
  intro h10 D
  (simp only [List.set_cons_zero, List.set_cons_succ] at D)
  repeat x_close
  refine s_bind (α := Unit) (eqk (t' := pure ()) (by kernel_rfl) (wpAny_pure ?_))
  repeat x_close
  refine n_allocE ⟨.type "member_descriptor", none, .fields #[.str (Str.ofString "obj") t, .ref C, .builtin "proto.slot", .builtin "proto.slot#set", rawInt 0], #[]⟩ D (by kernel_rfl) rfl ?_
  clear D
  intro md h11 lmd D
  repeat x_close
  refine n_put (t := t + 1 + 1) 2 D rfl (by kernel_rfl) ?_
  clear D
  intro k13 h12 D
  (simp only [List.set_cons_zero, List.set_cons_succ, List.cons_append, List.nil_append] at D)
  repeat x_close
  refine n_updateE (gs := gs) (d := d) (os := os) ⟨.type "type", none, .cls { name := Str.ofString "K", bases := [.type "object"], mro := [.ref C, .type "object"], ns := N, qualname := qK, hasDict := false, slotNames := [Str.ofString "obj"] }, #[some (.ref bt), none, some (.str (Str.ofString "K") t0), some (.str qK u2), some (.builtin "object.__new__")]⟩ 1 D rfl (by kernel_rfl) rfl ?_
  clear D
  intro h13 D
  (simp only [List.set_cons_zero, List.set_cons_succ] at D)
  repeat x_close
  refine n_updateE ⟨.type "type", none, .cls { name := Str.ofString "K", bases := [.type "object"], mro := [.ref C, .type "object"], ns := N, qualname := qK, hasDict := false, slotNames := [Str.ofString "obj"] }, #[some (.ref bt), none, some (.str (Str.ofString "K") t0), some (.str qK u2), some (.builtin "object.__new__"), some (.bool false)]⟩ 1 D rfl (by kernel_rfl) rfl ?_
  clear D
  intro h14 D
  (simp only [List.set_cons_zero, List.set_cons_succ] at D)
  repeat x_close
  refine n_put (gs := gs) (d := d) (os := os) (t := t + 1 + 1 + 1) 2 D rfl (by kernel_rfl) ?_
  clear D
  intro k14 h15 D
  (simp only [List.set_cons_zero, List.set_cons_succ, List.cons_append, List.nil_append] at D)
  (show wpAny _ _ (nsGet N (Str.ofString "__eq__") >>= _) _ _ _)
  refine wpAny_bind (m := nsGet _ _) ?_
  repeat x_close
  refine x_pure ?_
  refine wpAny_bind (m := nsGet _ _) ?_
  repeat x_close
  refine x_pure ?_
  refine s_bind (m := Sem.tryCatch (holding _ _) _) (wpAny_tryCatch (wpAny_holding ?_))
  refine wpAny_bind (m := dictEntries _ _) ?_
  repeat x_close
  refine x_pure ?_
  refine wpAny_bind (m := dictEntries _ _) ?_
  repeat x_close
  refine x_pure ?_
  refine wpAny_bind (m := forIn _ _ _) ?_
  refine forIn_skip ?fs ?_
  (case fs =>
    (refine all_cons (eqk (t' := pure (ForInStep.yield PUnit.unit)) (by kernel_rfl) (wpAny_pure ⟨rfl, rfl⟩)) ?_)
    (refine all_cons (eqk (t' := pure (ForInStep.yield PUnit.unit)) (by kernel_rfl) (wpAny_pure ⟨rfl, rfl⟩)) ?_)
    (refine all_cons (n_old (q := none) D hsl (eqk (t' := pure (ForInStep.yield PUnit.unit)) (by kernel_rfl) (wpAny_pure ⟨rfl, rfl⟩))) ?_)
    (refine all_cons (n_old (q := none) D g1 (eqk (t' := pure (ForInStep.yield PUnit.unit)) (by kernel_rfl) (wpAny_pure ⟨rfl, rfl⟩))) ?_)
    (refine all_cons (n_old (q := none) D g2 (eqk (t' := pure (ForInStep.yield PUnit.unit)) (by kernel_rfl) (wpAny_pure ⟨rfl, rfl⟩))) ?_)
    (refine all_cons (n_old (q := none) D g3 (eqk (t' := pure (ForInStep.yield PUnit.unit)) (by kernel_rfl) (wpAny_pure ⟨rfl, rfl⟩))) ?_)
    (refine all_cons (n_old (q := none) D g4 (eqk (t' := pure (ForInStep.yield PUnit.unit)) (by kernel_rfl) (wpAny_pure ⟨rfl, rfl⟩))) ?_)
    (refine all_cons (n_old (q := none) D g5 (eqk (t' := pure (ForInStep.yield PUnit.unit)) (by kernel_rfl) (wpAny_pure ⟨rfl, rfl⟩))) ?_)
    (refine all_cons (n_old (q := none) D g6 (eqk (t' := pure (ForInStep.yield PUnit.unit)) (by kernel_rfl) (wpAny_pure ⟨rfl, rfl⟩))) ?_)
    (refine all_cons (eqk (t' := pure (ForInStep.yield PUnit.unit)) (by kernel_rfl) (wpAny_pure ⟨rfl, rfl⟩)) ?_)
    (refine all_cons (n_old (q := none) D hsa (eqk (t' := pure (ForInStep.yield PUnit.unit)) (by kernel_rfl) (wpAny_pure ⟨rfl, rfl⟩))) ?_)
    (refine all_cons (n_load (q := none) D (List.mem_cons_self ..) (eqk (t' := pure (ForInStep.yield PUnit.unit)) (by kernel_rfl) (wpAny_pure ⟨rfl, rfl⟩))) ?_)
    (refine all_cons (eqk (t' := pure (ForInStep.yield PUnit.unit)) (by kernel_rfl) (wpAny_pure ⟨rfl, rfl⟩)) ?_)
    (intro y hy; nomatch hy))
  refine wpAny_bind (m := call _ _ _) (super_c (D.get (by k_mem)) ?_)
  intro so h16 S1
  have D := D.trans S1
  clear S1
  (simp only [List.cons_append, List.nil_append] at D)
  refine wpAny_bind (m := holding _ _) (wpAny_holding (supget_c (D.get (by k_mem)) (D.get (List.mem_cons_self ..)) (hop C) (fun b o e => D.keep _ _ (hkb b o e)) ?_))
  intro bm h17 S2
  have D := D.trans S2
  clear S2
  (simp only [List.cons_append, List.nil_append] at D)
  refine wpAny_bind (m := call _ _ _) (bmcall_c (D.get (List.mem_cons_self ..)) (D.get (by k_mem)) ?_)
  refine wpAny_pure ?_
  refine wpAny_pure ?_
  exact hQ C N md h17 k13 _ k14 _ _ (D.sub (List.Sublist.cons _ (List.Sublist.cons _ (List.Sublist.cons₂ _ (List.Sublist.cons₂ _ (List.Sublist.cons₂ _ (List.nil_sublist _)))))))
end Mine
end
section
open PySem PySem.W PyProof.Rows PySem.W.X
set_option maxRecDepth 100000
set_option maxHeartbeats 8000000
set_option linter.unusedSimpArgs false

namespace Mine
theorem entry_tnew : entryFor table "type.__new__" = some Builtin.«type.__new__» := entryFor_of_tree (by kernel_rfl)
theorem entry_tinit : entryFor table "type.__init__" = some Builtin.«type.__init__» := entryFor_of_tree (by kernel_rfl)
theorem tcall {w : World} {A : Around} {Q E : Value → Shared → Prop} {h0 : Heap} {gs : Array GenState} {d : Drawn} {t t0 : Nat} {os : OsState} {bt ns sl sa f1 f2 f3 f4 f5 f6 : Addr} {fd1 fd2 fd3 fd4 fd5 fd6 : FuncData}
    {v1 : Str} {i3 : Int} {u1 u2 u3 u4 u5 : Tok} {k1 k2 k3 k4 k5 k6 k7 k8 k9 k10 k11 k12 : Int} {t1 t2 t3 t4 t5 t6 t7 t8 t9 t10 t11 t12 : Tok}
    (hbt : h0.get? bt = some ⟨.type "tuple", none, .seq #[.type "object"] 0, #[]⟩) (hsl : h0.get? sl = some ⟨.type "list", none, .seq #[.str (Str.ofString "obj") u4] 0, #[]⟩) (hsa : h0.get? sa = some ⟨.type "tuple", none, .seq #[.str (Str.ofString "obj") u5] 0, #[]⟩)
    (hns : h0.get? ns = some (dictO [en "__module__" k1 t1 (.str v1 u1), en "__qualname__" k2 t2 (.str qK u2), en "__firstlineno__" k3 t3 (.int i3 u3), en "__slots__" k4 t4 (.ref sl), en "__init__" k5 t5 (.ref f1), en "__lt__" k6 t6 (.ref f2), en "__gt__" k7 t7 (.ref f3), en "__eq__" k8 t8 (.ref f4), en "__le__" k9 t9 (.ref f5), en "__ge__" k10 t10 (.ref f6), en "__hash__" k11 t11 .none, en "__static_attributes__" k12 t12 (.ref sa)] 12))
    (g1 : h0.get? f1 = some (fnO fd1)) (g2 : h0.get? f2 = some (fnO fd2)) (g3 : h0.get? f3 = some (fnO fd3)) (g4 : h0.get? f4 = some (fnO fd4)) (g5 : h0.get? f5 = some (fnO fd5)) (g6 : h0.get? f6 = some (fnO fd6)) (hbig : 24 < ns)
    {hb : Heap} (hop : ∀ C, Looks (model Challenge.rw_dn0037_01.row.prog w) hb (opaqueClassAbove (.ref C)) none) (hkb : ∀ b o, hb.get? b = some o → h0.get? b = some o)
    (hQ : ∀ C N md h' k13 t13 k14 t14 tk, Nw h0 h' [(md, mdO C t), (C, clsK C N qK #[some (.ref bt), none, some (.str (Str.ofString "K") t0), some (.str qK u2), some (.builtin "object.__new__"), some (.bool false)]),
        (N, dictO [en "__module__" k1 t1 (.str v1 u1), en "__firstlineno__" k3 t3 (.int i3 u3), en "__slots__" k4 t4 (.ref sl), en "__init__" k5 t5 (.ref f1), en "__lt__" k6 t6 (.ref f2), en "__gt__" k7 t7 (.ref f3), en "__eq__" k8 t8 (.ref f4), en "__le__" k9 t9 (.ref f5), en "__ge__" k10 t10 (.ref f6), en "__hash__" k11 t11 .none, en "__static_attributes__" k12 t12 (.ref sa), en "obj" k13 t13 (.ref md), en "__doc__" k14 t14 .none] 3)] →
      Q (.ref C) ⟨h', gs, d, tk, os⟩) :
    wpAny (model Challenge.rw_dn0037_01.row.prog w) A (call (.type "type") [.str (Str.ofString "K") t0, .ref bt, .ref ns]) Q E ⟨h0, gs, d, t, os⟩ := by
  refine wpAny_call (codeAny_of_tree ?_)
  refine x_pure ⟨Code.quiet_builtin _ (by decide +kernel), codeAny_builtin entry_tcall ?_⟩
  refine wpAny_bind (m := Bind.madeBy _) (eqk (t' := pure (some "type.__new__")) (by kernel_rfl) (wpAny_pure ?_))
  refine wpAny_bind (m := pure _) (wpAny_pure ?_)
  refine wpAny_bind (m := holding _ _) (wpAny_holding ?_)
  refine wpAny_call (codeAny_call_builtin_code (id := "type.__new__") (Code.quiet_builtin _ (by decide +kernel)) (eqk (t' := pure ()) (by kernel_rfl) (wpAny_pure (codeAny_builtin entry_tnew ?_))))
  refine tnew hbt hsl hsa hns g1 g2 g3 g4 g5 g6 hbig hop hkb ?_
  intro C N md h1 k13 t13 k14 t14 tk D
  have hC := D.get (List.mem_cons_of_mem _ (List.mem_cons_self ..))
  refine wpAny_bind (m := isInstance _ _) (t_loadH (q := some headPart) hC (eqk (t' := pure true) (by kernel_rfl) (wpAny_pure ?_)))
  refine wpAny_bind (m := holding _ _) (wpAny_holding ?_)
  refine wpAny_bind (m := specialOf _ _) (t_loadH (q := some headPart) hC (eqk (t' := pure (some (.builtin "type.__init__"))) (by kernel_rfl) (wpAny_pure ?_)))
  refine wpAny_holding ?_
  refine wpAny_bind (m := bindSpecial _ _) (eqk (t' := pure (.builtin "type.__init__", [.ref C])) (by kernel_rfl) (wpAny_pure ?_))
  refine wpAny_bind (m := call _ _ _) (wpAny_call (codeAny_call_builtin_code (id := "type.__init__") (Code.quiet_builtin _ (by decide +kernel)) ?_))
  refine t_loadH (q := some headPart) hC ?_
  refine eqk (t' := pure ()) (by kernel_rfl) (wpAny_pure (codeAny_builtin entry_tinit ?_))
  refine x_pure ?_
  refine x_pure ?_
  exact x_pure (hQ _ _ _ _ _ _ _ _ _ D)
end Mine
end
section
open PySem PySem.W PyProof.Rows PySem.W.X
set_option maxRecDepth 100000
set_option maxHeartbeats 8000000
set_option linter.unusedSimpArgs false
set_option linter.unusedVariables false
namespace Mine
theorem tO : typeOf (Value.type "object") = pure (Value.type "type") := by kernel_rfl
theorem st_start {g h : Heap} {L : Addr} {m : Str → Option Value} {o1 : Obj} {rest : List (Addr × Obj)} (F : Fr g L h m) (N : News g L h ((L + 1, o1) :: (23, tabObj #[]) :: rest)) (hsep : ∀ p ∈ rest, p.1 ≠ 23) (l1 : ∀ p ∈ (23, tabObj #[]) :: rest, p.1 < L) : St g L m rest h [(L + 1, o1), (23, tabObj #[])] := by
  have h23 := l1 _ (List.mem_cons_self ..)
  refine ⟨F, fun p hp => N p ?_, ?_, fun p hp => N p (List.mem_cons_of_mem _ (List.mem_cons_of_mem _ hp)), ?_⟩
  · rcases List.mem_cons.mp hp with rfl | hp
    · exact List.mem_cons_self ..
    · rcases List.mem_cons.mp hp with rfl | hp
      · exact List.mem_cons_of_mem _ (List.mem_cons_self ..)
      · nomatch hp
  · show [L + 1, 23].Nodup
    have : L + 1 ≠ 23 := Nat.ne_of_gt (Nat.lt_succ_of_lt h23)
    simp [this]
  · intro p hp q hq
    have := l1 p (List.mem_cons_of_mem _ hp)
    rcases List.mem_cons.mp hq with rfl | hq
    · exact Nat.ne_of_lt (Nat.lt_succ_of_lt this)
    · rcases List.mem_cons.mp hq with rfl | hq
      · exact hsep p hp
      · nomatch hq
local macro_rules | `(tactic| k_mem) => `(tactic| (repeat (first | exact List.mem_cons_self .. | refine List.mem_cons_of_mem _ ?_)))
theorem news_pack {g h : Heap} {L : Addr} {news rest : List (Addr × Obj)} {p : Addr × Obj} (N : News g L h news) (R : News g L h rest) (hp : p ∈ news) : News g L h (p :: (news ++ rest)) := by
  intro q hq
  rcases List.mem_cons.mp hq with rfl | hq
  · exact N _ hp
  · rcases List.mem_append.mp hq with hq | hq
    · exact N _ hq
    · exact R _ hq
/-- the body of the class that `cmp_to_key` makes, and its defs -/
def clsBody : List Stmt := match Challenge.pw_dn0037_01.main.body with | _ :: _ :: _ :: .FunctionDef _ _ (.ClassDef _ _ _ b .. :: _) .. :: _ => b | _ => []
def defAt (i : Nat) : Option (Str × Arguments × List Stmt × Scope) := match clsBody[i]? with | some (.FunctionDef n a b _ _ _ sc _ _ _) => some (n, a, b, sc) | _ => none
structure KV where
  N : Addr
  md : Addr
  ce : Addr
  f1 : Addr
  f2 : Addr
  f3 : Addr
  f4 : Addr
  f5 : Addr
  f6 : Addr
  sl : Addr
  sa : Addr
  bt : Addr
  v1 : Str
  i3 : Int
  k1 : Int
  t1 : Tok
  k3 : Int
  t3 : Tok
  k4 : Int
  t4 : Tok
  k5 : Int
  t5 : Tok
  k6 : Int
  t6 : Tok
  k7 : Int
  t7 : Tok
  k8 : Int
  t8 : Tok
  k9 : Int
  t9 : Tok
  k10 : Int
  t10 : Tok
  k11 : Int
  t11 : Tok
  k12 : Int
  t12 : Tok
  k13 : Int
  t13 : Tok
  k14 : Int
  t14 : Tok
  u1 : Tok
  u2 : Tok
  u3 : Tok
  t0 : Tok
  tm : Tok
def KV.es : KV → List DictEntry
  | ⟨N, md, ce, f1, f2, f3, f4, f5, f6, sl, sa, bt, v1, i3, k1, t1, k3, t3, k4, t4, k5, t5, k6, t6, k7, t7, k8, t8, k9, t9, k10, t10, k11, t11, k12, t12, k13, t13, k14, t14, u1, u2, u3, t0, tm⟩ => [en "__module__" k1 t1 (.str v1 u1), en "__firstlineno__" k3 t3 (.int i3 u3), en "__slots__" k4 t4 (.ref sl), en "__init__" k5 t5 (.ref f1), en "__lt__" k6 t6 (.ref f2), en "__gt__" k7 t7 (.ref f3), en "__eq__" k8 t8 (.ref f4), en "__le__" k9 t9 (.ref f5), en "__ge__" k10 t10 (.ref f6), en "__hash__" k11 t11 (.none), en "__static_attributes__" k12 t12 (.ref sa), en "obj" k13 t13 (.ref md), en "__doc__" k14 t14 (.none)]
def FnIn (i : Nat) (clos : List (Str × Addr)) (f : Addr) (news : List (Addr × Obj)) : Prop :=
  ∃ name qual params body scope doc pm c oc vs tq ctv, defAt i = some (name, params, body, scope) ∧ (f, fnMade name qual params body scope clos doc pm c ctv) ∈ news ∧ (c, oc) ∈ news ∧ oc.data = .fields vs ∧ vs[1]? = some (.str qual tq)
/-- the class K and what it leans on, in the ledger -/
structure KIn (C : Addr) (v : KV) (news : List (Addr × Obj)) : Prop where
  cls : (C, clsK C v.N qK #[some (.ref v.bt), none, some (.str (Str.ofString "K") v.t0), some (.str qK v.u2), some (.builtin "object.__new__"), some (.bool false)]) ∈ news
  ns : (v.N, dictO v.es 3) ∈ news
  md : (v.md, mdO C v.tm) ∈ news
  init : FnIn 2 [] v.f1 news
  lt : FnIn 3 [(Str.ofString "mycmp", v.ce)] v.f2 news
  eq : FnIn 5 [(Str.ofString "mycmp", v.ce)] v.f4 news
  ce : ∃ o, (v.ce, o) ∈ news ∧ o.data = .cell (some (.ref 49))
theorem kin_pack {g h : Heap} {L : Addr} {full rest : List (Addr × Obj)} {p23 : Addr × Obj} {C N md ce f1 f2 f3 f4 f5 f6 sl sa bt : Addr} {v1 : Str} {i3 : Int} {k1 k3 k4 k5 k6 k7 k8 k9 k10 k11 k12 k13 k14 : Int} {t1 t3 t4 t5 t6 t7 t8 t9 t10 t11 t12 t13 t14 u1 u2 u3 t0 tm : Tok} {i1 i2 i3' i8 : Nat}
    (D : News g L h full) (R : News g L h rest) (S : ∀ p ∈ rest, ∀ q ∈ full, p.1 ≠ q.1)
    (h1 : full[i1]? = some (C, clsK C N qK #[some (.ref bt), none, some (.str (Str.ofString "K") t0), some (.str qK u2), some (.builtin "object.__new__"), some (.bool false)]))
    (h2 : full[i2]? = some (N, dictO [en "__module__" k1 t1 (.str v1 u1), en "__firstlineno__" k3 t3 (.int i3 u3), en "__slots__" k4 t4 (.ref sl), en "__init__" k5 t5 (.ref f1), en "__lt__" k6 t6 (.ref f2), en "__gt__" k7 t7 (.ref f3), en "__eq__" k8 t8 (.ref f4), en "__le__" k9 t9 (.ref f5), en "__ge__" k10 t10 (.ref f6), en "__hash__" k11 t11 (.none), en "__static_attributes__" k12 t12 (.ref sa), en "obj" k13 t13 (.ref md), en "__doc__" k14 t14 (.none)] 3))
    (h3 : full[i3']? = some (md, mdO C tm))
    (h4 : FnIn 2 [] f1 full) (h5 : FnIn 3 [(Str.ofString "mycmp", ce)] f2 full) (h6 : FnIn 5 [(Str.ofString "mycmp", ce)] f4 full) (h7 : ∃ o, (ce, o) ∈ full ∧ o.data = .cell (some (.ref 49))) (h8 : full[i8]? = some p23) :
    ∃ v own, KIn C v own ∧ News g L h (p23 :: (own ++ rest)) ∧ ∀ p ∈ rest, ∀ q ∈ own, p.1 ≠ q.1 :=
  ⟨⟨N, md, ce, f1, f2, f3, f4, f5, f6, sl, sa, bt, v1, i3, k1, t1, k3, t3, k4, t4, k5, t5, k6, t6, k7, t7, k8, t8, k9, t9, k10, t10, k11, t11, k12, t12, k13, t13, k14, t14, u1, u2, u3, t0, tm⟩, full, ⟨List.mem_of_getElem? h1, List.mem_of_getElem? h2, List.mem_of_getElem? h3, h4, h5, h6, h7⟩, news_pack D R (List.mem_of_getElem? h8), S⟩
section
variable {w : World} {p : Program} {loose : List Str} {mean : ExcName → Option Value} {mg mb : Str → Option Value}
    {dp un : Nat} {gd : Option (List Code)} {cn : Str} {nm : List (Str × NameKind)} {a : Addr} {ccd : Value} {cl : List (Str × Addr)} {outer : List Env} {A₀ : Around} {base h₀ : Heap} {L : Addr} {m : Str → Option Value} {s : Shared}
    {Q E : Value → Shared → Prop} {rest : List (Addr × Obj)}
theorem cmp_c0
    (B : Below A₀ base outer h₀) (F : Fr h₀ L s.heap m) (X : (Mine.hd.heap_39 w.params).In h₀) (N : News h₀ L s.heap ((23, tabObj #[]) :: rest)) (hsep : ∀ p ∈ rest, p.1 ≠ 23) (CH : CodeHd h₀ 27 23) {nv : Value} (hnv : mg (Str.ofString "__name__") = some nv)
    (T : Top p loose mean mg mb h₀) (hd : dp + 2 < recursionLimit) (hu : un + 16 < cLine)
    (hret : ∀ C v own ps h' tk', KIn C v own → Fr h₀ L h' m → News h₀ L h' ((23, tabObj ps) :: (own ++ rest)) → (∀ p ∈ rest, ∀ q ∈ own, p.1 ≠ q.1) → Q (.ref C) { s with heap := h', toks := tk' }) :
    wpAny (model Challenge.rw_dn0037_01.row.prog w) (ktrTop dp un gd cn { kind := .function, names := nm, isGenerator := false, isCoroutine := false } L a ccd cl outer) (call (.ref 28) [.ref 49]) Q E s := by
  w_strict (
    revert X
    k_fill
    intro X
    refine wpAny_call ?_
    (k_dflt (refine' code_defC ?k1 ?k2 ?k3 ?k4 ?k5 ?kA ?kF ?kK ?k6 ?k7 ?k8 ?k9 ?kB ?kD ?_ ?c2 ?c3 ?c4; (case kA => exact rfl); (case kF => exact rfl); (case kK => exact rfl); (case k1 => k_asm); (case k2 => k_asm); (case k3 => k_asm); (case k4 => k_asm); (case k5 => k_asm); (case k6 => k_is); (case k7 => k_is); (case k8 => ktr_room); (case k9 => exact BindsTo.of_eq rfl); (case kB => exact rfl); (case kD => decide +kernel); (case c2 => exact rfl); (case c3 => exact rfl); (case c4 => exact rfl); k_whole))
    intro g' L' h' tk' cells' FG' F' N' Y' B' X' T' l1
    (k_cells Y')
    (try simp only [List.cons_append, List.nil_append] at N')
    (try dsimp only)
    (try k_fold)
    k_steps
    (k_dflt (
      rw [arm_exec_ClassDef]
      refine wpAny_bind ?_
      refine wpAny_pure ?_
      refine wpAny_bind (wpAny_standAt ?_)
      refine wpAny_bind ?_
      (unfold buildClassGuard)
      refine wpAny_bind (t_nsGet (T'.b.keeps F'.keep) ?_)
      rw [T'.builtins _ (by decide), PyProof.Rows.Boot.«__build_class__»]
      refine wpAny_pure ?_
      refine wpAny_bind ?_
      refine wpAny_holding ?_
      refine wpAny_bind ?_
      (unfold evalArgs)
      refine wpAny_bind ?_
      refine wpAny_bind ?_
      rw [if_neg Bool.false_ne_true]))
    k_steps
    (k_dflt (
      (try rw [if_neg Bool.false_ne_true])
      refine wpAny_bind (wpAny_pure ?_)
      refine wpAny_bind (wpAny_holding (wpAny_pure ?_))
      refine wpAny_pure ?_
      refine wpAny_bind (wpAny_pure ?_)
      refine wpAny_holding ?_
      refine wpAny_bind (wpAny_pure ?_)
      refine wpAny_bind (wpAny_pure ?_)
      refine wpAny_pure ?_
      refine wpAny_bind (wpAny_standAt ?_)
      refine wpAny_holding ?_
      rename_i o1 d1
      have D : St g' L' _ rest h' [(L' + 1, o1), (23, tabObj #[])] := st_start F' N' hsep l1
      clear F' N'
      (unfold buildClass)
      refine wpAny_bind ?_
      refine t_alloc D rfl ?_
      clear D
      intro bt h1 lbt D
      refine wpAny_pure ?_
      refine wpAny_bind (wpAny_pure (a := ([Value.type "object"], false)) ?_)
      (show wpAny _ _ (typeOf (Value.type "object") >>= _) _ _ _)
      rw [tO]
      refine wpAny_bind (wpAny_pure ?_)
      refine wpAny_bind (wpAny_pure (a := true) ?_)
      rw [if_pos rfl]
      refine wpAny_bind (eqk (t' := pure (Value.type "type")) (by kernel_rfl) (wpAny_pure ?_))
      refine wpAny_bind (t_text ?_)
      rw [if_neg Bool.false_ne_true]
      refine wpAny_bind (wpAny_pure ?_)
      refine wpAny_holding ?_
      refine wpAny_bind ?_
      (unfold getAttr?)
      refine wpAny_bind (t_text ?_)
      refine prep1 ?_
      intro pm h2 M2
      have D := D.mem M2
      refine wpAny_bind ?_
      refine prep_c D (D.nw.get (List.mem_cons_self ..)) ?_
      clear M2 D
      intro ns h3 lns D
      have h23 := l1 _ (List.mem_cons_self ..)
      refine wpAny_bind (eqk (t' := if ns == sysModules then unsupported _ else pure ()) rfl ?_)
      rw [if_neg (big_ne lns h23 rfl)]
      refine wpAny_pure ?_
      refine wpAny_bind ?_
      refine t_load D (List.mem_cons_self ..) ?_
      refine eqk (t' := pure (some (Value.builtin "dict.__getitem__"))) (by kernel_rfl) (wpAny_pure ?_)
      refine s_ifN (by decide) ?_
      refine wpAny_holding ?_
      refine s_ifN (by decide +kernel) ?_
      refine wpAny_bind (wpAny_pure ?_)
      refine s_ifN (by decide +kernel) ?_
      refine wpAny_bind (wpAny_pure ?_)
      refine wpAny_bind (class_code 4 D rfl rfl ((CH.keeps FG'.keep).keeps D.fr.keep) ?_)
      clear D
      intro kc kP koc h4 tk4 lkP kob kne D
      (simp only [List.set_cons_succ, List.set_cons_zero] at D)
      (obtain ⟨ta, tb, bm, ob, b1, b2, _, _, b3, b4, b5, b6⟩ := T_builtins T' D.fr.keep (D.nw.get (List.mem_cons_of_mem _ (List.mem_cons_self ..))))
      refine wpAny_bind (wpAny_builtinsFor (s := ⟨h4, s.gens, s.drawn, tk4, s.os⟩) ta b1 b2 b3 b4 b5 b6 ?_)
      refine wpAny_bind ?_
      (unfold newBodyFrame)
      refine wpAny_bind (t_nsGet ta ?_)
      refine t_alloc D rfl ?_
      clear D ta tb b3
      intro fr h5 lfr D
      refine wpAny_pure ?_
      refine wpAny_bind (eqk (t' := pure [(Str.ofString "mycmp", L' + 1)]) (by kernel_rfl) (wpAny_pure ?_))
      refine wpAny_holding ?_
      refine wpAny_bind (wpAny_enterFrame (T'.nolimit.keeps D.fr.keep) (by ktr_room) ?_)
      refine wpAny_bind (wpAny_onRaise ?_)
      refine wpAny_bind (load_c D (by k_mem) (by kernel_rfl) rfl rfl rfl (T'.g.keeps D.fr.keep) hnv ?_)
      refine wpAny_bind (store_c 3 D rfl (by kernel_rfl) rfl rfl rfl ?_)
      clear D
      intro hv1 h6 D
      (simp only [List.set_cons_succ, List.set_cons_zero, List.nil_append, List.cons_append] at D)
      refine wpAny_bind (t_text ?_)
      refine wpAny_bind (store_c 3 D rfl (by kernel_rfl) rfl rfl rfl ?_)
      clear D
      intro hv2 h7 D
      (simp only [List.set_cons_succ, List.set_cons_zero, List.nil_append, List.cons_append] at D)
      refine wpAny_bind (t_int ?_)
      refine wpAny_bind (store_c 3 D rfl (by kernel_rfl) rfl rfl rfl ?_)
      clear D
      intro hv3 h8 D
      (simp only [List.set_cons_succ, List.set_cons_zero, List.nil_append, List.cons_append] at D)
      refine wpAny_pure ?_
      refine wpAny_bind ?_
      refine wpAny_run (codeAny_body (by decide +kernel) (by decide +kernel) ?_)
      refine wpAny_execs_cons (wpAny_Assign_Name ?_)
      refine t_text ?_
      refine store_over 3 D rfl (by kernel_rfl) rfl rfl rfl ?_
      clear D
      intro h9 D
      (simp only [List.set_cons_succ, List.set_cons_zero, List.nil_append, List.cons_append] at D)
      refine wpAny_execs_cons (wpAny_Assign_Name ?_)
      refine x_at ?_
      refine t_fresh ?_
      refine t_alloc D rfl ?_
      clear D
      intro sl h10 lsl D
      refine x_pure ?_
      refine store_c 4 D rfl (by kernel_rfl) rfl rfl rfl ?_
      clear D
      intro hv4 h11 D
      (simp only [List.set_cons_succ, List.set_cons_zero, List.nil_append, List.cons_append] at D)
      refine wpAny_execs_cons (nestDef_K rfl rfl rfl ?_)
      refine mk_c (clos := []) 3 D rfl T' (kob.hd (D.nw.get (List.mem_of_getElem? (i := 2) rfl)) kne) (by kernel_rfl) rfl rfl (by simp [TriplesOk, rawInt]) (by simp [codeAmong, rawInt]) ?_
      clear D
      intro f1 c1 oc1 vs1 tq1 ctv1 doc1 hf1 tk1 hd1 hv1 lf1 D
      (simp only [List.set_cons_succ, List.set_cons_zero, List.nil_append, List.cons_append] at D)
      refine store_c 6 D rfl (by kernel_rfl) rfl rfl rfl ?_
      clear D
      intro hvf1 hg1 D
      (simp only [List.set_cons_succ, List.set_cons_zero, List.nil_append, List.cons_append] at D)
      refine wpAny_execs_cons (nestDef_K rfl rfl rfl ?_)
      refine mk_c (clos := [(Str.ofString "mycmp", L' + 1)]) 5 D rfl T' (kob.hd (D.nw.get (List.mem_of_getElem? (i := 4) rfl)) kne) (by kernel_rfl) rfl rfl (by simp [TriplesOk, rawInt]) (by simp [codeAmong, rawInt]) ?_
      clear D
      intro f2 c2 oc2 vs2 tq2 ctv2 doc2 hf2 tk2 hd2 hv2 lf2 D
      (simp only [List.set_cons_succ, List.set_cons_zero, List.nil_append, List.cons_append] at D)
      refine store_c 8 D rfl (by kernel_rfl) rfl rfl rfl ?_
      clear D
      intro hvf2 hg2 D
      (simp only [List.set_cons_succ, List.set_cons_zero, List.nil_append, List.cons_append] at D)
      refine wpAny_execs_cons (nestDef_K rfl rfl rfl ?_)
      refine mk_c (clos := [(Str.ofString "mycmp", L' + 1)]) 7 D rfl T' (kob.hd (D.nw.get (List.mem_of_getElem? (i := 6) rfl)) kne) (by kernel_rfl) rfl rfl (by simp [TriplesOk, rawInt]) (by simp [codeAmong, rawInt]) ?_
      clear D
      intro f3 c3 oc3 vs3 tq3 ctv3 doc3 hf3 tk3 hd3 hv3 lf3 D
      (simp only [List.set_cons_succ, List.set_cons_zero, List.nil_append, List.cons_append] at D)
      refine store_c 10 D rfl (by kernel_rfl) rfl rfl rfl ?_
      clear D
      intro hvf3 hg3 D
      (simp only [List.set_cons_succ, List.set_cons_zero, List.nil_append, List.cons_append] at D)
      refine wpAny_execs_cons (nestDef_K rfl rfl rfl ?_)
      refine mk_c (clos := [(Str.ofString "mycmp", L' + 1)]) 9 D rfl T' (kob.hd (D.nw.get (List.mem_of_getElem? (i := 8) rfl)) kne) (by kernel_rfl) rfl rfl (by simp [TriplesOk, rawInt]) (by simp [codeAmong, rawInt]) ?_
      clear D
      intro f4 c4 oc4 vs4 tq4 ctv4 doc4 hf4 tk4 hd4 hv4 lf4 D
      (simp only [List.set_cons_succ, List.set_cons_zero, List.nil_append, List.cons_append] at D)
      refine store_c 12 D rfl (by kernel_rfl) rfl rfl rfl ?_
      clear D
      intro hvf4 hg4 D
      (simp only [List.set_cons_succ, List.set_cons_zero, List.nil_append, List.cons_append] at D)
      refine wpAny_execs_cons (nestDef_K rfl rfl rfl ?_)
      refine mk_c (clos := [(Str.ofString "mycmp", L' + 1)]) 11 D rfl T' (kob.hd (D.nw.get (List.mem_of_getElem? (i := 10) rfl)) kne) (by kernel_rfl) rfl rfl (by simp [TriplesOk, rawInt]) (by simp [codeAmong, rawInt]) ?_
      clear D
      intro f5 c5 oc5 vs5 tq5 ctv5 doc5 hf5 tk5 hd5 hv5 lf5 D
      (simp only [List.set_cons_succ, List.set_cons_zero, List.nil_append, List.cons_append] at D)
      refine store_c 14 D rfl (by kernel_rfl) rfl rfl rfl ?_
      clear D
      intro hvf5 hg5 D
      (simp only [List.set_cons_succ, List.set_cons_zero, List.nil_append, List.cons_append] at D)
      refine wpAny_execs_cons (nestDef_K rfl rfl rfl ?_)
      refine mk_c (clos := [(Str.ofString "mycmp", L' + 1)]) 13 D rfl T' (kob.hd (D.nw.get (List.mem_of_getElem? (i := 12) rfl)) kne) (by kernel_rfl) rfl rfl (by simp [TriplesOk, rawInt]) (by simp [codeAmong, rawInt]) ?_
      clear D
      intro f6 c6 oc6 vs6 tq6 ctv6 doc6 hf6 tk6 hd6 hv6 lf6 D
      (simp only [List.set_cons_succ, List.set_cons_zero, List.nil_append, List.cons_append] at D)
      refine store_c 16 D rfl (by kernel_rfl) rfl rfl rfl ?_
      clear D
      intro hvf6 hg6 D
      (simp only [List.set_cons_succ, List.set_cons_zero, List.nil_append, List.cons_append] at D)
      refine wpAny_execs_cons (wpAny_Assign_Name ?_)
      refine x_pure ?_
      refine store_c 16 D rfl (by kernel_rfl) rfl rfl rfl ?_
      clear D
      intro hv5 h12 D
      (simp only [List.set_cons_succ, List.set_cons_zero, List.nil_append, List.cons_append] at D)
      refine wpAny_execs_nil ?_
      refine wpAny_bind (wpAny_onRaise ?_)
      refine wpAny_bind ?_
      refine t_fresh ?_
      refine x_pure ?_
      refine wpAny_bind ?_
      refine t_alloc D rfl ?_
      clear D
      intro sa h13 lsa D
      refine x_pure ?_
      refine wpAny_bind (store_c 17 D rfl (by kernel_rfl) rfl rfl rfl ?_)
      clear D
      intro hv6 h14 D
      (simp only [List.set_cons_succ, List.set_cons_zero, List.nil_append, List.cons_append] at D)
      refine wpAny_pure ?_
      refine s_ifN Bool.false_ne_true ?_
      refine wpAny_bind (eqk (t' := call (.type "type") [.str (Str.ofString "K") tk', .ref bt, .ref ns]) (by kernel_rfl) ?_)
      refine tcall (hb := g') (D.nw.get (List.mem_of_getElem? (i := 19) rfl)) (D.nw.get (List.mem_of_getElem? (i := 13) rfl)) (D.nw.get (List.mem_of_getElem? (i := 0) rfl)) (D.nw.get (List.mem_of_getElem? (i := 17) rfl))
        (D.nw.get (List.mem_of_getElem? (i := 11) rfl)) (D.nw.get (List.mem_of_getElem? (i := 9) rfl)) (D.nw.get (List.mem_of_getElem? (i := 7) rfl)) (D.nw.get (List.mem_of_getElem? (i := 5) rfl)) (D.nw.get (List.mem_of_getElem? (i := 3) rfl)) (D.nw.get (List.mem_of_getElem? (i := 1) rfl))
        (Nat.lt_of_le_of_lt h23 lns) (fun C => looks_opaque X' (by k_is)) D.fr.keep ?_
      intro C N md h15 k13 t13 k14 t14 tk15 NW
      have D := D.nw' NW
      clear NW
      (simp only [List.cons_append, List.nil_append] at D)
      refine wpAny_pure ?_
      refine wpAny_bind (wpAny_pure ?_)
      refine wpAny_bind (wpAny_standAt ?_)
      refine wpAny_bind (wpAny_bindName ?_)
      have F' := D.fr
      obtain ⟨v, own, hK, N', hSp⟩ : ∃ v own, KIn C v own ∧ News g' L' h15 ((23, tabObj #[rawInt 26, rawInt 4, .ref kc]) :: (own ++ rest)) ∧ ∀ p ∈ rest, ∀ q ∈ own, p.1 ≠ q.1 := by
        exact kin_pack D.nw D.rs D.sep (i1 := 1) rfl (i2 := 2) rfl (i3' := 0) rfl ⟨_, _, _, _, _, _, _, c1, oc1, vs1, tq1, _, (by kernel_rfl), List.mem_of_getElem? (i := 14) rfl, List.mem_of_getElem? (i := 15) rfl, hd1, hv1⟩
          ⟨_, _, _, _, _, _, _, c2, oc2, vs2, tq2, _, (by kernel_rfl), List.mem_of_getElem? (i := 12) rfl, List.mem_of_getElem? (i := 13) rfl, hd2, hv2⟩
          ⟨_, _, _, _, _, _, _, c4, oc4, vs4, tq4, _, (by kernel_rfl), List.mem_of_getElem? (i := 8) rfl, List.mem_of_getElem? (i := 9) rfl, hd4, hv4⟩
          ⟨o1, List.mem_of_getElem? (i := 23) rfl, d1.trans (by kernel_rfl)⟩ (i8 := 24) rfl
      clear D
      (clear hd1 hv1 hd2 hv2 hd4 hv4 d1)))
    k_steps
    (k_dflt (refine wpAny_pure ?_))
    dsimp only
    k_steps
    all_goals exact hret _ _ _ _ _ _ hK (by assumption) (by assumption) hSp)
theorem cmp_c {nv : Value} {news : List (Addr × Obj)} (rest : List (Addr × Obj))
    (B : Below A₀ base outer h₀) (F : Fr h₀ L s.heap m) (X : (Mine.hd.heap_39 w.params).In h₀) (N : News h₀ L s.heap news) (T : Top p loose mean mg mb h₀) (h23 : (23, tabObj #[]) ∈ news) (hrest : ∀ p ∈ rest, p ∈ news) (hsep : ∀ p ∈ rest, p.1 ≠ 23) (CH : CodeHd h₀ 27 23) (hnv : mg (Str.ofString "__name__") = some nv)
    (hd : dp + 2 < recursionLimit) (hu : un + 16 < cLine)
    (hret : ∀ C v own ps h' tk', KIn C v own → Fr h₀ L h' m → News h₀ L h' ((23, tabObj ps) :: (own ++ rest)) → (∀ p ∈ rest, ∀ q ∈ own, p.1 ≠ q.1) → Q (.ref C) { s with heap := h', toks := tk' }) :
    wpAny (model Challenge.rw_dn0037_01.row.prog w) (ktrTop dp un gd cn { kind := .function, names := nm, isGenerator := false, isCoroutine := false } L a ccd cl outer) (call (.ref 28) [.ref 49]) Q E s :=
  cmp_c0 B F X (fun p hp => by rcases List.mem_cons.mp hp with rfl | hp; exact N _ h23; exact N _ (hrest p hp)) hsep CH hnv T hd hu hret
end
end Mine
end
section
open PySem PySem.W PyProof.Rows PySem.W.X
set_option maxRecDepth 100000
set_option maxHeartbeats 8000000
set_option linter.unusedSimpArgs false
namespace Mine
abbrev insO (C dk : Addr) (sl : Array (Option Value)) : Obj := ⟨.ref C, some dk, .plain, sl⟩
theorem entry_osa : entryFor table "object.__setattr__" = some Builtin.«object.__setattr__» := entryFor_of_tree (by kernel_rfl)
theorem entry_mds : entryFor table "member_descriptor.__set__" = some Builtin.«member_descriptor.__set__» := entryFor_of_tree (by kernel_rfl)
theorem entry_pss : entryFor table "proto.slot#set" = some Builtin.«proto.slot#set» := entryFor_of_tree (by kernel_rfl)
theorem entry_psg : entryFor table "proto.slot" = some Builtin.«proto.slot» := entryFor_of_tree (by kernel_rfl)
section
variable {w : World} {A : Around} {E : Value → Shared → Prop} {h0 : Heap} {gs : Array GenState} {d : Drawn} {t : Nat} {os : OsState} {C ka dk : Addr} {v : KV} {x : Value} {news : List (Addr × Obj)}
theorem t_updateH {α : Type} {prog : Program} {Q : α → Shared → Prop} {a : Addr} {q : Option Value} {f : Obj → Obj} {k : Unit → Sem α} {o : Obj} (o' : Obj) (ho : h0.get? a = some o) (e : f o = o') (hf : o'.isFreed = false)
    (x : ∀ h', (∀ b y, b ≠ a → h0.get? b = some y → h'.get? b = some y) → h'.get? a = some o' → wpAny (model prog w) A (k ()) Q E ⟨h', gs, d, t, os⟩) : wpAny (model prog w) A (.update a q f k) Q E ⟨h0, gs, d, t, os⟩ := by
  subst e
  have hs : Heap.SameBut a h0 (h0.update a f) := Heap.SameBut.update ..
  have ge : (h0.update a f).get? a = some (f o) := by first | exact Heap.get?_update_self f ho hf | exact Heap.get?_update_self _ ho hf
  exact wpAny_bind (m := updatePart a q f) (f := k) (wpAny_updatePart (s := ⟨h0, gs, d, t, os⟩) ho (x _ (fun b y hb e => (hs.2 b hb).trans e) ge))
/-- what a heap shows of the class -/
structure KAt (C : Addr) (v : KV) (h : Heap) : Prop where
  cls : h.get? C = some (clsK C v.N qK #[some (.ref v.bt), none, some (.str (Str.ofString "K") v.t0), some (.str qK v.u2), some (.builtin "object.__new__"), some (.bool false)])
  ns : h.get? v.N = some (dictO v.es 3)
  md : h.get? v.md = some (mdO C v.tm)
theorem KIn.at {g h : Heap} {L : Addr} (K : KIn C v news) (N : News g L h news) : KAt C v h := ⟨N.get K.cls, N.get K.ns, N.get K.md⟩
theorem setobj_c {Q : Unit → Shared → Prop} (K : KAt C v h0) (hka : h0.get? ka = some (insO C dk #[]))
    (hQ : ∀ h' tk, (∀ b o, b ≠ ka → h0.get? b = some o → h'.get? b = some o) → h'.get? ka = some (insO C dk #[some x]) → Q () ⟨h', gs, d, tk, os⟩) :
    wpAny (model Challenge.rw_dn0037_01.row.prog w) A (setAttr (.ref ka) (Str.ofString "obj") x) Q E ⟨h0, gs, d, t, os⟩ := by
  obtain ⟨N0, md, ce, f1, f2, f3, f4, f5, f6, sl, sa, bt, v1, i3, k1, t1, k3, t3, k4, t4, k5, t5, k6, t6, k7, t7, k8, t8, k9, t9, k10, t10, k11, t11, k12, t12, k13, t13, k14, t14, u1, u2, u3, t0, tm⟩ := v
  obtain ⟨hC, hN, hmd⟩ := K
  dsimp only [KV.es] at hC hN hmd
  (unfold setAttr)
  refine wpAny_bind (t_text ?_)
  refine wpAny_bind (m := callSpecial? _ _ _ _) ?_
  refine wpAny_bind (m := specialOf _ _) ?_
  refine t_loadH (q := some headPart) hka ?_
  refine t_loadH (q := none) hC ?_
  refine t_loadH (q := none) hC ?_
  refine t_loadH (q := some (.str (Str.ofString "__setattr__") 0)) hN ?_
  refine eqk (t' := pure (some (.builtin "object.__setattr__"))) (by kernel_rfl) (wpAny_pure ?_)
  refine wpAny_holding ?_
  refine wpAny_bind (m := bindSpecial _ _) (eqk (t' := pure (.builtin "object.__setattr__", [.ref ka])) (by kernel_rfl) (wpAny_pure ?_))
  refine wpAny_bind (m := call _ _ _) (wpAny_call (codeAny_call_builtin_code (id := "object.__setattr__") (Code.quiet_builtin _ (by decide +kernel)) ?_))
  refine t_loadH (q := some headPart) hka ?_
  refine t_loadH (q := none) hC ?_
  refine eqk (t' := pure ()) (by kernel_rfl) (wpAny_pure (codeAny_builtin entry_osa ?_))
  refine wpAny_bind (m := Builtin.ObjectAttr.refuseIfOverridden _ _) ?_
  refine t_loadH (q := some headPart) hka ?_
  refine t_loadH (q := none) hC ?_
  refine eqk (t' := pure ()) (by kernel_rfl) (wpAny_pure ?_)
  refine wpAny_bind (m := Builtin.ObjectAttr.attrName _) (wpAny_pure ?_)
  refine wpAny_bind (m := typeOf _) (t_loadH (q := some headPart) hka (wpAny_pure ?_))
  refine wpAny_bind (m := typeLookup _ _) ?_
  refine t_loadH (q := none) hC ?_
  refine t_loadH (q := none) hC ?_
  refine t_loadH (q := some (.str (Str.ofString "obj") 0)) hN ?_
  refine eqk (t' := pure (some (.ref md))) (by kernel_rfl) (wpAny_pure ?_)
  refine wpAny_bind (m := Builtin.ObjectAttr.storeTaker? _) ?_
  refine t_loadH (q := some headPart) hmd ?_
  refine eqk (t' := pure (some (.ref md))) (by kernel_rfl) (wpAny_pure ?_)
  refine x_rule ?_
  refine wpAny_bind (m := holding _ _) (wpAny_holding ?_)
  refine wpAny_bind (m := specialOf _ _) ?_
  refine t_loadH (q := some headPart) hmd ?_
  refine eqk (t' := pure (some (.builtin "member_descriptor.__set__"))) (by kernel_rfl) (wpAny_pure ?_)
  refine wpAny_holding ?_
  refine wpAny_bind (m := bindSpecial _ _) (eqk (t' := pure (.builtin "member_descriptor.__set__", [.ref md])) (by kernel_rfl) (wpAny_pure ?_))
  refine wpAny_bind (m := call _ _ _) (wpAny_call (codeAny_call_builtin_code (id := "member_descriptor.__set__") (Code.quiet_builtin _ (by decide +kernel)) ?_))
  refine t_loadH (q := some headPart) hmd ?_
  refine eqk (t' := pure ()) (by kernel_rfl) (wpAny_pure (codeAny_builtin entry_mds ?_))
  refine wpAny_bind (m := Builtin.Getset_descriptor.descrCheckInstance _ _) ?_
  refine t_loadH (q := none) hmd ?_
  refine t_loadH (q := none) hmd ?_
  refine t_loadH (q := some headPart) hka ?_
  refine t_loadH (q := none) hC ?_
  refine eqk (t' := pure ()) ?ec (wpAny_pure ?_)
  (case ec => (show (if (!([Value.ref C, .type "object"].contains (.ref C))) = true then _ else pure ()) = _); rw [if_neg (by simp)])
  refine wpAny_bind (m := Builtin.Getset_descriptor.descrItself _) (t_loadH (q := none) hmd (eqk (t' := pure [.ref md]) (by kernel_rfl) (wpAny_pure ?_)))
  refine wpAny_bind (m := field _ _) (t_loadH (q := none) hmd (eqk (t' := pure (.builtin "proto.slot#set")) (by kernel_rfl) (wpAny_pure ?_)))
  refine x_rule ?_
  refine x_pure ⟨Code.quiet_builtin _ (by decide +kernel), codeAny_builtin entry_pss ?_⟩
  refine wpAny_bind (m := Builtin.Slots.target _ _) ?_
  refine t_loadH (q := none) hmd ?_
  refine t_loadH (q := none) hmd ?_
  refine t_loadH (q := some headPart) hka ?_
  refine t_loadH (q := none) hC ?_
  refine eqk (t' := pure (ka, 0, Str.ofString "obj")) (by kernel_rfl) (wpAny_pure ?_)
  refine t_updateH (insO C dk #[some x]) hka (by kernel_rfl) rfl ?_
  intro h1 hs1 hg1
  refine x_pure ?_
  refine x_pure ?_
  refine x_pure ?_
  refine x_pure ?_
  exact x_pure (hQ _ _ hs1 hg1)
end
end Mine
end
section
open PySem PySem.W PyProof.Rows PySem.W.X
set_option maxRecDepth 100000
set_option maxHeartbeats 8000000
set_option linter.unusedSimpArgs false
namespace Mine
section
variable {w : World} {p : Program} {loose : List Str} {mean : ExcName → Option Value} {mg mb : Str → Option Value}
    {dp un : Nat} {gd : Option (List Code)} {cn : Str} {cs : Scope} {a : Addr} {ccd : Value} {cl : List (Str × Addr)} {outer : List Env} {A₀ : Around} {base h₀ : Heap} {L : Addr} {m : Str → Option Value} {s : Shared}
    {Q E : Value → Shared → Prop} {news : List (Addr × Obj)} {C pa : Addr} {v : KV}
theorem St.all {g h : Heap} {L : Addr} {m : Str → Option Value} {news : List (Addr × Obj)} (F : Fr g L h m) (N : News g L h news) : St g L m news h [] := ⟨F, fun _ hp => (nomatch hp), List.nodup_nil, N, fun _ _ _ hq => (nomatch hq)⟩
theorem upd_head {g h h' : Heap} {L : Addr} {m : Str → Option Value} {a : Addr} {o o' : Obj} {news : List (Addr × Obj)} (F : Fr g L h m) (N : News g L h ((a, o) :: news)) (hne : ∀ p ∈ news, p.1 ≠ a)
    (hs : ∀ b y, b ≠ a → h.get? b = some y → h'.get? b = some y) (ge : h'.get? a = some o') : Fr g L h' m ∧ News g L h' ((a, o') :: news) := by
  have z := N _ (List.mem_cons_self ..)
  obtain ⟨oL, a1, a2, hoL, a3⟩ := F.ns
  refine ⟨⟨⟨oL, a1, a2, hs L oL z.2.1.symm hoL, a3⟩, fun b x e => hs b x ?_ (F.keep b x e), F.above⟩, fun p hp => ?_⟩
  · rintro rfl
    exact absurd (z.2.2.symm.trans e) (by simp)
  · rcases List.mem_cons.mp hp with rfl | hp
    · exact ⟨ge, z.2⟩
    · have zp := N p (List.mem_cons_of_mem _ hp)
      exact ⟨hs _ _ (hne p hp) zp.1, zp.2⟩
theorem init_c {ka dk : Addr}
    (B : Below A₀ base outer h₀) (F : Fr h₀ L s.heap m) (X : (Mine.hd.heap_39 w.params).In h₀) (N : News h₀ L s.heap ((ka, insO C dk #[]) :: (dk, dictO [] 0) :: news)) (K : KIn C v news) (hne : ∀ p ∈ (dk, dictO [] 0) :: news, p.1 ≠ ka)
    (T : Top p loose mean mg mb h₀) (hk : cs.kind = .function) (hd : dp + 2 < recursionLimit) (hu : un + 16 < cLine)
    (hret : ∀ h' tk', Fr h₀ L h' m → News h₀ L h' ((ka, insO C dk #[some (.ref pa)]) :: (dk, dictO [] 0) :: news) → Q .none { s with heap := h', toks := tk' }) :
    wpAny (model Challenge.rw_dn0037_01.row.prog w) (ktrTop dp un gd cn cs L a ccd cl outer) (call (.ref v.f1) [.ref ka, .ref pa]) Q E s := by
  obtain ⟨nm1, q1, pr1, bd1, sc1, doc1, pm1, c1, oc1, vs1, tq1, ctv1, hdef, hm1, hmc1, hd1, hv1⟩ := K.init
  cases hdef
  refine wpAny_call ?_
  w_strict (
    revert X
    k_fill
    intro X
    (k_dflt (refine' code_nest ?k1 ?k2 ?k3 ?k4 ?k5 ?kA ?kF ?kK ?k6 ?k7 ?k8 ?k9 ?kB ?_ ?c2 ?c3 ?c4 ?c5; (case kA => exact rfl); (case kF => exact rfl); (case kK => exact hk); (case k1 => k_asm); (case k2 => k_asm); (case k3 => k_asm); (case k4 => k_asm); (case k5 => k_asm); (case k6 => exact List.mem_cons_of_mem _ (List.mem_cons_of_mem _ hm1)); (case k7 => exact codeRec_news N (List.mem_cons_of_mem _ (List.mem_cons_of_mem _ hmc1)) hd1 hv1); (case k8 => ktr_room); (case k9 => exact BindsTo.of_eq rfl); (case c5 => decide); (case kB => exact locs rfl); (case c2 => exact rfl); (case c3 => exact rfl); (case c4 => exact rfl); k_whole))
    intro g' L' h' FG' F' N' B' X' T'
    (try dsimp only)
    (try k_fold)
    k_steps
    (k_dflt (
      refine setobj_c ((K.at (news_tail (news_tail N')))) (N'.get (List.mem_cons_self ..)) ?_
      intro h1 tk1 hs1 hg1
      have F1 := F'
      obtain ⟨F', N'⟩ := upd_head F' N' hne hs1 hg1
      (clear F1 hs1 hg1)))
    (try dsimp only)
    k_steps
    all_goals exact hret _ _ (by assumption) (by assumption))
end
end Mine
end
section
open PySem PySem.W PyProof.Rows PySem.W.X
set_option maxRecDepth 100000
set_option maxHeartbeats 8000000
set_option linter.unusedSimpArgs false
namespace Mine
local macro_rules | `(tactic| k_mem) => `(tactic| (repeat (first | exact List.mem_cons_self .. | refine List.mem_cons_of_mem _ ?_)))
local macro_rules | `(tactic| x_close) => `(tactic| first
  | (refine n_load (q := none) (by assumption) (by k_mem) ?_)
  | (refine n_load (by assumption) (by k_mem) ?_)
  | (refine n_old (q := none) (by assumption) (by assumption) ?_)
  | (refine n_old (by assumption) (by assumption) ?_)
  | (refine' s_decF ?dp ?_; (case dp => (first | exact big_ne (by assumption) (by decide) rfl)))
  | (refine x_rule ?_)
  | (refine x_at ?_)
  | (refine x_point ?_)
  | (refine x_ask ?_)
  | (refine t_fresh ?_))
section
variable {w : World} {p : Program} {loose : List Str} {mean : ExcName → Option Value} {mg mb : Str → Option Value}
    {dp un : Nat} {gd : Option (List Code)} {cn : Str} {cs : Scope} {a : Addr} {ccd : Value} {cl : List (Str × Addr)} {outer : List Env} {A₀ : Around} {base h₀ : Heap} {L : Addr} {m : Str → Option Value} {s : Shared}
    {Q E : Value → Shared → Prop} {news : List (Addr × Obj)} {C pa : Addr} {v : KV}
theorem entry_onew : entryFor table "object.__new__" = some Builtin.«object.__new__» := entryFor_of_tree (by kernel_rfl)
theorem key_c
    (B : Below A₀ base outer h₀) (F : Fr h₀ L s.heap m) (X : (Mine.hd.heap_39 w.params).In h₀) (N : News h₀ L s.heap news) (K : KIn C v news)
    (T : Top p loose mean mg mb h₀) (hk : cs.kind = .function) (hd : dp + 3 < recursionLimit) (hu : un + 24 < cLine)
    (hret : ∀ ka dk h' tk', Fr h₀ L h' m → News h₀ L h' ((ka, insO C dk #[some (.ref pa)]) :: (dk, dictO [] 0) :: news) → (∀ p ∈ news, p.1 < ka) → Q (.ref ka) { s with heap := h', toks := tk' }) :
    wpAny (model Challenge.rw_dn0037_01.row.prog w) (ktrTop dp un gd cn cs L a ccd cl outer) (call (.ref C) [.ref pa]) Q E s := by
  obtain ⟨h0, gs, d, t, os⟩ := s
  obtain ⟨N0, md, ce, f1, f2, f3, f4, f5, f6, sl, sa, bt, v1, i3, k1, t1, k3, t3, k4, t4, k5, t5, k6, t6, k7, t7, k8, t8, k9, t9, k10, t10, k11, t11, k12, t12, k13, t13, k14, t14, u1, u2, u3, t0, tm⟩ := v
  have hC := N.get K.cls
  have hN := N.get K.ns
  dsimp only [KV.es] at hC hN
  have D := Nw.start h0
  refine wpAny_call (codeAny_of_tree ?_)
  refine n_old (q := none) D hC ?_
  refine wpAny_bind (m := specialOf _ _) (n_old (q := some headPart) D hC (eqk (t' := pure (some (.builtin "type.__call__"))) (by kernel_rfl) (wpAny_pure ?_)))
  refine wpAny_bind (m := bindSpecial _ _) (eqk (t' := pure (.builtin "type.__call__", [.ref C])) (by kernel_rfl) (wpAny_pure ?_))
  refine wpAny_bind (m := callAny.plainCallee _) (wpAny_pure ?_)
  refine s_ifP (by decide) ?_
  refine x_pure ⟨rfl, ?_⟩
  refine codeAny_call_builtin_code (id := "type.__call__") (Code.quiet_builtin _ (by decide +kernel)) ?_
  refine n_old (q := some headPart) D hC ?_
  refine eqk (t' := pure ()) (by kernel_rfl) (wpAny_pure (codeAny_builtin entry_tcall ?_))
  refine wpAny_bind (m := mroOf _) (n_old (q := none) D hC (wpAny_pure ?_))
  refine wpAny_bind (m := Bind.madeBy _) ?_
  refine n_old (q := none) D hC ?_
  refine n_old (q := some (slotPart 4)) D hC ?_
  refine eqk (t' := pure (some "object.__new__")) (by kernel_rfl) (wpAny_pure ?_)
  refine wpAny_bind (m := pure _) (wpAny_pure ?_)
  refine wpAny_bind (m := holding _ _) (wpAny_holding ?_)
  refine wpAny_call (codeAny_call_builtin_code (id := "object.__new__") (Code.quiet_builtin _ (by decide +kernel)) ?_)
  repeat x_close
  refine x_pure (codeAny_builtin entry_onew ?_)
  refine wpAny_bind (m := isType _) (n_old (q := some headPart) D hC (eqk (t' := pure true) (by kernel_rfl) (wpAny_pure ?_)))
  refine wpAny_bind (m := Bind.madeHere _ _) ?_
  repeat x_close
  refine x_pure ?_
  refine wpAny_bind (m := Bind.madeBy _) ?_
  refine n_old (q := none) D hC ?_
  refine n_old (q := some (slotPart 4)) D hC ?_
  refine eqk (t' := pure (some "object.__new__")) (by kernel_rfl) (wpAny_pure ?_)
  refine wpAny_bind (m := typeLookup _ _) ?_
  refine n_old (q := none) D hC ?_
  refine n_old (q := none) D hC ?_
  refine n_old (q := some (.str (Str.ofString "__init__") 0)) D hN ?_
  refine eqk (t' := pure (some (.ref f1))) (by kernel_rfl) (wpAny_pure ?_)
  refine n_old (q := none) D hC ?_
  refine n_allocE (dictO [] 0) D (by kernel_rfl) rfl ?_
  clear D
  intro dk h1' ldk D0
  refine n_allocE (insO C dk #[]) D0 (by kernel_rfl) rfl ?_
  intro ka h1 lka D
  refine t_loadH (q := none) (D.keep _ _ hC) ?_
  refine x_pure ?_
  have hC := D.keep _ _ hC
  have hN := D.keep _ _ hN
  have hka := D.get (List.mem_cons_self ..)
  refine wpAny_bind (m := isInstance _ _) ?_
  refine t_loadH (q := some headPart) hka ?_
  refine t_loadH (q := none) hC ?_
  refine eqk (t' := pure true) ?ec (wpAny_pure ?_)
  (case ec => (show (pure ([Value.ref C, .type "object"].contains (.ref C)) : Sem Bool) = _); simp)
  refine wpAny_bind (m := holding _ _) (wpAny_holding ?_)
  refine wpAny_bind (m := specialOf _ _) ?_
  refine t_loadH (q := some headPart) hka ?_
  refine t_loadH (q := none) hC ?_
  refine t_loadH (q := none) hC ?_
  refine t_loadH (q := some (.str (Str.ofString "__init__") 0)) hN ?_
  refine eqk (t' := pure (some (.ref f1))) (by kernel_rfl) (wpAny_pure ?_)
  refine wpAny_holding ?_
  obtain ⟨_, _, _, _, _, _, _, _, _, _, _, _, _, hm1, _⟩ := K.init
  have hf1 := D.keep _ _ (N.get hm1)
  refine wpAny_bind (m := bindSpecial _ _) (t_loadH (q := some headPart) hf1 (eqk (t' := pure (.ref f1, [.ref ka])) (by kernel_rfl) (wpAny_pure ?_)))
  refine wpAny_bind (m := call _ _ _) ?_
  (show wpAny _ _ (call (.ref f1) [.ref ka, .ref pa]) _ _ _)
  have DS := (St.all F N).nw' D
  have N1 : News h₀ L h1 ((ka, insO C dk #[]) :: (dk, dictO [] 0) :: news) := fun p hp => by
    rcases List.mem_cons.mp hp with rfl | hp
    · exact DS.nw _ (List.mem_cons_self ..)
    · rcases List.mem_cons.mp hp with rfl | hp
      · exact DS.nw _ (List.mem_cons_of_mem _ (List.mem_cons_self ..))
      · exact DS.rs _ hp
  have hlt : ∀ p ∈ news, p.1 < ka := fun p hp => lka _ _ (D0.keep _ _ (N p hp).1)
  have hdk : dk < ka := lka _ _ (D0.get (List.mem_cons_self ..))
  (show wpAny _ (ktrTop (dp + 1) (un + 1) gd cn cs L a ccd cl outer) (call (.ref f1) [.ref ka, .ref pa]) _ _ _)
  refine init_c B DS.fr X N1 K (fun p hp => ?_) T hk (by omega) (by omega) ?_
  · rcases List.mem_cons.mp hp with rfl | hp
    · exact Nat.ne_of_lt hdk
    · exact Nat.ne_of_lt (hlt p hp)
  · intro h2 tk2 F2 N2
    refine x_pure ?_
    refine x_pure ?_
    exact hret _ _ _ _ F2 N2 hlt
end
end Mine
end
section
open PySem PySem.W PyProof.Rows PySem.W.X
set_option maxRecDepth 100000
set_option maxHeartbeats 800000
set_option linter.unusedSimpArgs false
namespace Mine
theorem entry_hook : entryFor table "proto.getattr_hooked" = some Builtin.«proto.getattr_hooked» := entryFor_of_tree (by kernel_rfl)
theorem entry_mdg : entryFor table "member_descriptor.__get__" = some Builtin.«member_descriptor.__get__» := entryFor_of_tree (by kernel_rfl)
section
variable {w : World} {A : Around} {E : Value → Shared → Prop} {h0 : Heap} {gs : Array GenState} {d : Drawn} {t : Nat} {os : OsState} {C ka dk : Addr} {v : KV} {x : Value} {news : List (Addr × Obj)}
theorem getobj_c {ex : Bool} {Q : Value → Shared → Prop} (K : KAt C v h0) (hka : h0.get? ka = some (insO C dk #[some x])) (hx : handedOut x = pure x)
    (hQ : Q x ⟨h0, gs, d, t + 1, os⟩) :
    wpAny (model Challenge.rw_dn0037_01.row.prog w) A (getAttr (.ref ka) (Str.ofString "obj") ex) Q E ⟨h0, gs, d, t, os⟩ := by
  obtain ⟨N0, md, ce, f1, f2, f3, f4, f5, f6, sl, sa, bt, v1, i3, k1, t1, k3, t3, k4, t4, k5, t5, k6, t6, k7, t7, k8, t8, k9, t9, k10, t10, k11, t11, k12, t12, k13, t13, k14, t14, u1, u2, u3, t0, tm⟩ := v
  obtain ⟨hC, hN, hmd⟩ := K
  dsimp only [KV.es] at hC hN hmd
  (unfold getAttr)
  refine wpAny_bind (t_text ?_)
  (unfold getAttrBy)
  refine wpAny_holding ?_
  refine wpAny_bind (m := typeOf _) (t_loadH (q := some headPart) hka (wpAny_pure ?_))
  (show wpAny _ _ (typeLookup (.ref C) (Str.ofString "__getattribute__") >>= _) _ _ _)
  refine wpAny_bind ?_
  refine t_loadH (q := none) hC ?_
  refine t_loadH (q := none) hC ?_
  refine t_loadH (q := some (.str (Str.ofString "__getattribute__") 0)) hN ?_
  refine eqk (t' := pure (some (.builtin "object.__getattribute__"))) (by kernel_rfl) (wpAny_pure ?_)
  (show wpAny _ _ (if (onTheHeap (.ref C) && ((Value.builtin "object.__getattribute__") == .builtin "object.__getattribute__")) = true then getAttrEveryday (.ref ka) (.str (Str.ofString "obj") t) true else _) _ _ _)
  refine s_ifP (by kernel_rfl) ?_
  (unfold getAttrEveryday)
  refine wpAny_bind (wpAny_onRaise (wpAny_runValue (codeAny_builtin entry_hook ?_)))
  refine wpAny_bind (m := Builtin.ObjectAttr.attrName _) (wpAny_pure ?_)
  refine wpAny_bind (m := typeOf _) (t_loadH (q := some headPart) hka (wpAny_pure ?_))
  refine wpAny_bind (m := Builtin.ObjectAttr.find _ _ _) ?_
  refine wpAny_bind (m := typeLookup _ _) ?_
  refine t_loadH (q := none) hC ?_
  refine t_loadH (q := none) hC ?_
  refine t_loadH (q := some (.str (Str.ofString "obj") 0)) hN ?_
  refine eqk (t' := pure (some (.ref md))) (by kernel_rfl) (wpAny_pure ?_)
  refine wpAny_bind (m := Builtin.ObjectAttr.getOf _) ?_
  refine t_loadH (q := some headPart) hmd ?_
  refine eqk (t' := pure (some (.builtin "member_descriptor.__get__"))) (by kernel_rfl) (wpAny_pure ?_)
  refine wpAny_bind (m := Builtin.ObjectAttr.dataDescriptor? _ _) ?_
  refine t_loadH (q := some headPart) hmd ?_
  refine eqk (t' := pure (some (.builtin "member_descriptor.__get__", .ref md))) (by kernel_rfl) (wpAny_pure ?_)
  refine x_rule ?_
  refine x_pure ?_
  refine wpAny_bind (m := typeLookup _ _) ?_
  refine t_loadH (q := none) hC ?_
  refine t_loadH (q := none) hC ?_
  refine t_loadH (q := some (.str (Str.ofString "__getattr__") 0)) hN ?_
  refine eqk (t' := pure none) (by kernel_rfl) (wpAny_pure ?_)
  refine wpAny_bind (m := holding _ _) (wpAny_holding (wpAny_call (codeAny_call_builtin_code (id := "member_descriptor.__get__") (Code.quiet_builtin _ (by decide +kernel)) ?_)))
  refine t_loadH (q := some headPart) hmd ?_
  refine eqk (t' := pure ()) (by kernel_rfl) (wpAny_pure (codeAny_builtin entry_mdg ?_))
  refine wpAny_bind (m := Builtin.Getset_descriptor.descrGetArgs _) (eqk (t' := pure (.ref md, some (.ref ka), some (.ref C))) (by kernel_rfl) (wpAny_pure ?_))
  refine wpAny_bind (m := Builtin.Getset_descriptor.descrCheckInstance _ _) ?_
  refine t_loadH (q := none) hmd ?_
  refine t_loadH (q := none) hmd ?_
  refine t_loadH (q := some headPart) hka ?_
  refine t_loadH (q := none) hC ?_
  refine eqk (t' := pure ()) ?ec (wpAny_pure ?_)
  (case ec => (show (if (!([Value.ref C, .type "object"].contains (.ref C))) = true then _ else pure ()) = _); rw [if_neg (by simp)])
  refine wpAny_bind (m := field _ _) (t_loadH (q := none) hmd (eqk (t' := pure (.builtin "proto.slot")) (by kernel_rfl) (wpAny_pure ?_)))
  refine x_rule ?_
  refine wpAny_bind (m := Builtin.Getset_descriptor.descrItself _) (t_loadH (q := none) hmd (eqk (t' := pure [.ref md]) (by kernel_rfl) (wpAny_pure ?_)))
  refine x_pure ⟨Code.quiet_builtin _ (by decide +kernel), codeAny_builtin entry_psg ?_⟩
  refine wpAny_bind (m := Builtin.Slots.target _ _) ?_
  refine t_loadH (q := none) hmd ?_
  refine t_loadH (q := none) hmd ?_
  refine t_loadH (q := some headPart) hka ?_
  refine t_loadH (q := none) hC ?_
  refine eqk (t' := pure (ka, 0, Str.ofString "obj")) (by kernel_rfl) (wpAny_pure ?_)
  refine wpAny_bind (m := slotAt _ _) (t_loadH (q := some (slotPart 0)) hka (eqk (t' := pure (some x)) (by kernel_rfl) (wpAny_pure ?_)))
  refine x_pure ?_
  refine x_pure ?_
  (show wpAny _ _ (handedOut x) _ _ _)
  rw [hx]
  exact wpAny_pure hQ
end
end Mine
end
section
open PySem PySem.W PyProof.Rows PySem.W.X
set_option maxRecDepth 100000
set_option maxHeartbeats 8000000
set_option linter.unusedSimpArgs false
namespace Mine
section
variable {w : World} {p : Program} {loose : List Str} {mean : ExcName → Option Value} {mg mb : Str → Option Value}
    {dp un : Nat} {gd : Option (List Code)} {cn : Str} {cs : Scope} {a : Addr} {ccd : Value} {cl : List (Str × Addr)} {outer : List Env} {A₀ : Around} {base h₀ : Heap} {L : Addr} {m : Str → Option Value} {s : Shared}
    {Q E : Value → Shared → Prop} {news : List (Addr × Obj)} {C pa : Addr} {v : KV}
theorem name_freeC {M : Model} {A : Around} {E : Value → Shared → Prop} {s : Shared} {env : Env} {x : Str} {pos : Pos} {c : Addr} {v : Value} {Q : Value → Shared → Prop} (hk : env.scope.kind = .function) (hl : env.kindOf x = some .free)
    (hc : env.cells.lookup x = some c) (hv : s.heap.IsCell c (some v)) (hdb : (x == ("__debug__" : Str)) = false) (hn : (x == ("__classdict__" : Str)) = false) (h : Q v s) : wpAny M A (eval (.Name x pos) env) Q E s := by
  rw [arm_eval_Name, hdb]
  exact wpAny_bind (wpAny_standAt (wpAny_loadName_free hk hl hc hv h hn))
theorem isCell_of {g h : Heap} {L c : Addr} {o : Obj} {v : Option Value} {news : List (Addr × Obj)} (N : News g L h news) (hm : (c, o) ∈ news) (hd : o.data = .cell v) : h.IsCell c v := ⟨o, N.get hm, hd⟩
local macro_rules | `(tactic| walk_at "eval Call") => `(tactic| (k_here; refine Call_ ?_))
local macro_rules | `(tactic| walk_at "eval Name") => `(tactic| (k_here; (with_reducible show wpAny _ _ (eval (PySem.Expr.Name (Str.ofString "mycmp") _) (envX _ _ _ _ _ _)) _ _ _); k_dflt (refine' name_freeC ?k1 ?k2 ?k3 ?k4 ?k6 ?k5 ?_; (case k1 => exact rfl); (case k2 => exact rfl); (case k3 => exact rfl); (case k4 => exact isCell_of (by k_asm) (by assumption) (by assumption)); (case k5 => exact rfl); (case k6 => exact rfl); k_whole)))
local macro_rules | `(tactic| walk_at "call ref") => `(tactic| (k_here; (with_reducible show wpAny _ _ (call (Value.ref 49) [Value.ref _, Value.ref _]) _ _ _); (with_unfolding_all refine' turning_c ?kB ?kF ?kX ?kN ?kT ?kk ?kd ?ku ?kp ?kq ?_ ?_; (case kB => k_asm); (case kF => k_asm); (case kX => k_asm); (case kN => k_asm); (case kT => k_asm); (case kk => exact rfl); (case kd => ktr_room); (case ku => ktr_units); (case kp => assumption); (case kq => assumption); k_whole); (all_goals (intro e9 t9 h9 tk9 F9 N9; (try dsimp only); (try k_fold)))))
/-- what the comparing of two points gives, as the bits tell it -/
def ltV (x1 y1 x2 y2 : UInt64) : Bool := if sideV x1 y1 = sideV x2 y2 then (Float64.cmpInt (Float64.sub (Float64.mul x2 y1) (Float64.mul y2 x1)) 0 == some .lt) else decide (sideV x1 y1 - sideV x2 y2 < 0)
def eqV (x1 y1 x2 y2 : UInt64) : Bool := if sideV x1 y1 = sideV x2 y2 then (Float64.cmpInt (Float64.sub (Float64.mul x2 y1) (Float64.mul y2 x1)) 0 == some .eq) else decide (sideV x1 y1 - sideV x2 y2 = 0)
theorem ret_b {g : Heap} {L : Addr} {m : Str → Option Value} {s : Shared} {news : List (Addr × Obj)} {Q : Value → Shared → Prop} {b b' : Bool} {h' : Heap} {tk' : Nat} (hret : ∀ h' tk', Fr g L h' m → News g L h' news → Q (.bool b) { s with heap := h', toks := tk' }) (e : b' = b) (F : Fr g L h' m) (N : News g L h' news) : Q (.bool b') { s with heap := h', toks := tk' } := e ▸ hret h' tk' F N
theorem lt_c0 {ka kb dka dkb pb : Addr} {x1 y1 x2 y2 : UInt64} {t1 u1 t2 u2 : Tok}
    (B : Below A₀ base outer h₀) (F : Fr h₀ L s.heap m) (X : (Mine.hd.heap_39 w.params).In h₀) (N : News h₀ L s.heap news) (K : KIn C v news)
    (ha : (ka, insO C dka #[some (.ref pa)]) ∈ news) (hb : (kb, insO C dkb #[some (.ref pb)]) ∈ news) (hp : (pa, pt x1 y1 t1 u1) ∈ news) (hq : (pb, pt x2 y2 t2 u2) ∈ news)
    (T : Top p loose mean mg mb h₀) (hk : cs.kind = .function) (hd : dp + 4 < recursionLimit) (hu : un + 32 < cLine)
    (hret : ∀ h' tk', Fr h₀ L h' m → News h₀ L h' news → Q (.bool (ltV x1 y1 x2 y2)) { s with heap := h', toks := tk' }) :
    wpAny (model Challenge.rw_dn0037_01.row.prog w) (ktrTop dp un gd cn cs L a ccd cl outer) (call (.ref v.f2) [.ref ka, .ref kb]) Q E s := by
  obtain ⟨nm1, q1, pr1, bd1, sc1, doc1, pm1, c1, oc1, vs1, tq1, ctv1, hdef, hm1, hmc1, hd1, hv1⟩ := K.lt
  cases hdef
  obtain ⟨oce, hce, hcd⟩ := K.ce
  refine wpAny_call ?_
  w_strict (
    revert X
    k_fill
    intro X
    (k_dflt (refine' code_nest ?k1 ?k2 ?k3 ?k4 ?k5 ?kA ?kF ?kK ?k6 ?k7 ?k8 ?k9 ?kB ?_ ?c2 ?c3 ?c4 ?c5; (case kA => exact rfl); (case kF => exact rfl); (case kK => exact hk); (case k1 => k_asm); (case k2 => k_asm); (case k3 => k_asm); (case k4 => k_asm); (case k5 => k_asm); (case k6 => exact hm1); (case k7 => exact codeRec_news N hmc1 hd1 hv1); (case k8 => ktr_room); (case k9 => exact BindsTo.of_eq rfl); (case c5 => decide); (case kB => exact locs rfl); (case c2 => exact rfl); (case c3 => exact rfl); (case c4 => exact rfl); k_whole))
    intro g' L' h' FG' F' N' B' X' T'
    (try dsimp only)
    (try k_fold)
    k_steps
    (k_dflt (refine getobj_c (K.at N') (N'.get ha) rfl ?_))
    k_steps
    (k_dflt (refine getobj_c (K.at N') (N'.get hb) rfl ?_))
    k_steps
    all_goals first
      | exact ret_b hret (if_pos (by assumption)).symm (by assumption) (by assumption)
      | exact ret_b hret (if_neg (by assumption)).symm (by assumption) (by assumption))
theorem eq_c0 {ka kb dka dkb pb : Addr} {x1 y1 x2 y2 : UInt64} {t1 u1 t2 u2 : Tok}
    (B : Below A₀ base outer h₀) (F : Fr h₀ L s.heap m) (X : (Mine.hd.heap_39 w.params).In h₀) (N : News h₀ L s.heap news) (K : KIn C v news)
    (ha : (ka, insO C dka #[some (.ref pa)]) ∈ news) (hb : (kb, insO C dkb #[some (.ref pb)]) ∈ news) (hp : (pa, pt x1 y1 t1 u1) ∈ news) (hq : (pb, pt x2 y2 t2 u2) ∈ news)
    (T : Top p loose mean mg mb h₀) (hk : cs.kind = .function) (hd : dp + 4 < recursionLimit) (hu : un + 32 < cLine)
    (hret : ∀ h' tk', Fr h₀ L h' m → News h₀ L h' news → Q (.bool (eqV x1 y1 x2 y2)) { s with heap := h', toks := tk' }) :
    wpAny (model Challenge.rw_dn0037_01.row.prog w) (ktrTop dp un gd cn cs L a ccd cl outer) (call (.ref v.f4) [.ref ka, .ref kb]) Q E s := by
  obtain ⟨nm1, q1, pr1, bd1, sc1, doc1, pm1, c1, oc1, vs1, tq1, ctv1, hdef, hm1, hmc1, hd1, hv1⟩ := K.eq
  cases hdef
  obtain ⟨oce, hce, hcd⟩ := K.ce
  refine wpAny_call ?_
  w_strict (
    revert X
    k_fill
    intro X
    (k_dflt (refine' code_nest ?k1 ?k2 ?k3 ?k4 ?k5 ?kA ?kF ?kK ?k6 ?k7 ?k8 ?k9 ?kB ?_ ?c2 ?c3 ?c4 ?c5; (case kA => exact rfl); (case kF => exact rfl); (case kK => exact hk); (case k1 => k_asm); (case k2 => k_asm); (case k3 => k_asm); (case k4 => k_asm); (case k5 => k_asm); (case k6 => exact hm1); (case k7 => exact codeRec_news N hmc1 hd1 hv1); (case k8 => ktr_room); (case k9 => exact BindsTo.of_eq rfl); (case c5 => decide); (case kB => exact locs rfl); (case c2 => exact rfl); (case c3 => exact rfl); (case c4 => exact rfl); k_whole))
    intro g' L' h' FG' F' N' B' X' T'
    (try dsimp only)
    (try k_fold)
    k_steps
    (k_dflt (refine getobj_c (K.at N') (N'.get ha) rfl ?_))
    k_steps
    (k_dflt (refine getobj_c (K.at N') (N'.get hb) rfl ?_))
    k_steps
    all_goals first
      | exact ret_b hret (if_pos (by assumption)).symm (by assumption) (by assumption)
      | exact ret_b hret (if_neg (by assumption)).symm (by assumption) (by assumption))
end
end Mine
end
section
open PySem PySem.W PyProof.Rows
set_option maxRecDepth 100000
set_option maxHeartbeats 8000000
set_option exponentiation.threshold 2100
namespace Mine
theorem side_is {x y : UInt64} {h d : Int} (hx : Is x (d * ux h) 12) (hy : Is y (d * uy h) 12) (d0 : 0 < d) : sideV x y = sideOf h := by
  have q1 := pos_mul_iff (k := uy h) d0
  have q2 := pos_mul_iff (k := ux h) d0
  have e1 : (Float64.cmpInt y 0 == some Ordering.gt) = decide (0 < uy h) := by
    rw [hy.cmpInt (by decide), Bool.eq_iff_iff]
    simp only [Int.zero_mul, beq_iff_eq, Option.some.injEq, Int.compare_eq_gt, decide_eq_true_eq]
    exact q1.1
  have e2 : (Float64.cmpInt y 0 == some Ordering.eq) = decide (uy h = 0) := by
    rw [hy.cmpInt (by decide), Bool.eq_iff_iff]
    simp only [Int.zero_mul, beq_iff_eq, Option.some.injEq, Int.compare_eq_eq, decide_eq_true_eq]
    exact q1.2.2
  have e3 : (Float64.cmpInt x 0 == some Ordering.gt) = decide (0 < ux h) := by
    rw [hx.cmpInt (by decide), Bool.eq_iff_iff]
    simp only [Int.zero_mul, beq_iff_eq, Option.some.injEq, Int.compare_eq_gt, decide_eq_true_eq]
    exact q2.1
  unfold sideV sideB sideOf
  rw [e1, e2, e3]
  by_cases h1 : 0 < uy h <;> by_cases h2 : uy h = 0 <;> by_cases h3 : 0 < ux h <;> simp [h1, h2, h3]
section
variable {x1 y1 x2 y2 : UInt64} {h1 d1 h2 d2 : Int}
theorem ltV_is (hx1 : Is x1 (d1 * ux h1) 12) (hy1 : Is y1 (d1 * uy h1) 12) (hx2 : Is x2 (d2 * ux h2) 12) (hy2 : Is y2 (d2 * uy h2) 12)
    (a0 : 0 ≤ h1) (a1 : h1 < 64) (b0 : 0 ≤ h2) (b1 : h2 < 64) (c0 : 0 < d1) (c1 : d1 ≤ 64) (e0 : 0 < d2) (e1 : d2 ≤ 64) : ltV x1 y1 x2 y2 = decide (h1 < h2) := by
  have hz := cross_is hx2 hy2 hx1 hy1 b0 b1 a0 a1 e0 e1 c0 c1
  obtain ⟨t1, t2⟩ := turn_facts a0 a1 b0 b1
  unfold ltV
  rw [side_is hx1 hy1 c0, side_is hx2 hy2 e0]
  by_cases hs : sideOf h1 = sideOf h2
  · rw [if_pos hs, hz.cmpInt (by decide), Bool.eq_iff_iff]
    have q2 := (pos_mul_iff (k := cr h2 h1) (Int.mul_pos e0 c0)).2.1
    simp only [Int.zero_mul, beq_iff_eq, Option.some.injEq, Int.compare_eq_lt, decide_eq_true_eq]
    exact q2.trans (t2 hs).1
  · rw [if_neg hs, Bool.eq_iff_iff, decide_eq_true_eq, decide_eq_true_eq]
    exact (t1 hs).1
theorem eqV_is (hx1 : Is x1 (d1 * ux h1) 12) (hy1 : Is y1 (d1 * uy h1) 12) (hx2 : Is x2 (d2 * ux h2) 12) (hy2 : Is y2 (d2 * uy h2) 12)
    (a0 : 0 ≤ h1) (a1 : h1 < 64) (b0 : 0 ≤ h2) (b1 : h2 < 64) (c0 : 0 < d1) (c1 : d1 ≤ 64) (e0 : 0 < d2) (e1 : d2 ≤ 64) : eqV x1 y1 x2 y2 = decide (h1 = h2) := by
  have hz := cross_is hx2 hy2 hx1 hy1 b0 b1 a0 a1 e0 e1 c0 c1
  obtain ⟨t1, t2⟩ := turn_facts a0 a1 b0 b1
  unfold eqV
  rw [side_is hx1 hy1 c0, side_is hx2 hy2 e0]
  by_cases hs : sideOf h1 = sideOf h2
  · rw [if_pos hs, hz.cmpInt (by decide), Bool.eq_iff_iff]
    have q2 := (pos_mul_iff (k := cr h2 h1) (Int.mul_pos e0 c0)).2.2
    simp only [Int.zero_mul, beq_iff_eq, Option.some.injEq, Int.compare_eq_eq, decide_eq_true_eq]
    exact q2.trans (t2 hs).2
  · rw [if_neg hs, Bool.eq_iff_iff, decide_eq_true_eq, decide_eq_true_eq]
    exact (t1 hs).2
end
end Mine
end
section
open PySem PySem.W PyProof.Rows PySem.W.X
set_option maxRecDepth 100000
set_option maxHeartbeats 800000
set_option linter.unusedSimpArgs false
namespace Mine
section
variable {w : World} {p : Program} {loose : List Str} {mean : ExcName → Option Value} {mg mb : Str → Option Value}
    {dp un : Nat} {gd : Option (List Code)} {cn : Str} {cs : Scope} {a : Addr} {ccd : Value} {cl : List (Str × Addr)} {outer : List Env} {A₀ : Around} {base h₀ : Heap} {L : Addr} {m : Str → Option Value} {s : Shared}
    {Q E : Value → Shared → Prop} {news : List (Addr × Obj)} {C pa : Addr} {v : KV}
theorem s_iteT {α : Type} {M : Model} {A : Around} {E : Value → Shared → Prop} {s : Shared} {Q : α → Shared → Prop} {c : Prop} [Decidable c] {m : Sem α} {k : Value → Sem α} (x : wpAny M A m Q (fun _ _ => False) s) : wpAny M A (if c then m else m.tryCatch k) Q E s := by
  split
  · exact wpAny_mono x (fun _ _ h => h) fun _ _ h => h.elim
  · exact wpAny_tryCatch (wpAny_mono x (fun _ _ h => h) fun _ _ h => h.elim)
theorem rich_lt {ka kb dka dkb pb : Addr} {x1 y1 x2 y2 : UInt64} {t1 u1 t2 u2 : Tok}
    (B : Below A₀ base outer h₀) (F : Fr h₀ L s.heap m) (X : (Mine.hd.heap_39 w.params).In h₀) (N : News h₀ L s.heap news) (K : KIn C v news)
    (ha : (ka, insO C dka #[some (.ref pa)]) ∈ news) (hb : (kb, insO C dkb #[some (.ref pb)]) ∈ news) (hp : (pa, pt x1 y1 t1 u1) ∈ news) (hq : (pb, pt x2 y2 t2 u2) ∈ news)
    (T : Top p loose mean mg mb h₀) (hk : cs.kind = .function) (hd : dp + 4 < recursionLimit) (hu : un + 32 < cLine)
    (hret : ∀ h' tk', Fr h₀ L h' m → News h₀ L h' news → Q (.bool (ltV x1 y1 x2 y2)) { s with heap := h', toks := tk' }) :
    wpAny (model Challenge.rw_dn0037_01.row.prog w) (ktrTop dp un gd cn cs L a ccd cl outer) (richCompare .Lt (.ref ka) (.ref kb)) Q E s := by
  obtain ⟨h0, gs, d, t, os⟩ := s
  have hka := N.get ha
  have hkb := N.get hb
  have KA := K.at N
  have hlt := K.lt
  obtain ⟨N0, md, ce, f1, f2, f3, f4, f5, f6, sl, sa, bt, v1, i3, k1, t1', k3, t3, k4, t4, k5, t5, k6, t6, k7, t7, k8, t8, k9, t9, k10, t10, k11, t11, k12, t12, k13, t13, k14, t14, u1', u2', u3, t0, tm⟩ := v
  obtain ⟨hC, hN, hmd⟩ := KA
  dsimp only [KV.es] at hC hN hmd hlt
  obtain ⟨_, _, _, _, _, _, _, _, _, _, _, _, _, hm2, _⟩ := hlt
  have hf2 := N.get hm2
  (unfold richCompare)
  refine wpAny_holding ?_
  refine wpAny_bind (wpAny_cRoomFor (show un < cLine by omega) ?_)
  refine wpAny_bind (m := typeOf _) (t_loadH (q := some headPart) hka (wpAny_pure ?_))
  refine wpAny_bind (m := typeOf _) (t_loadH (q := some headPart) hkb (wpAny_pure ?_))
  refine s_ifN (c := (Value.ref C != Value.ref C) = true) (by simp) ?_
  refine wpAny_bind (m := pure _) (wpAny_pure ?_)
  refine wpAny_bind (m := tryCompare _ _ _) ?_
  refine wpAny_bind (m := callSpecialIfBound? _ _ _) (wpAny_holding ?_)
  refine wpAny_bind (m := bindSpecialIfBound? _ _) ?_
  refine wpAny_bind (m := specialOf _ _) ?_
  refine t_loadH (q := some headPart) hka ?_
  refine t_loadH (q := none) hC ?_
  refine t_loadH (q := none) hC ?_
  refine t_loadH (q := some (.str (Str.ofString "__lt__") 0)) hN ?_
  refine eqk (t' := pure (some (.ref f2))) (by kernel_rfl) (wpAny_pure ?_)
  refine x_ask ?_
  have hbd : ∀ {Q' : Option (Value × List Value) → Shared → Prop} {E' : Value → Shared → Prop}, Q' (some (.ref f2, [.ref ka])) ⟨h0, gs, d, t, os⟩ → wpAny (model Challenge.rw_dn0037_01.row.prog w) (ktrTop dp un gd cn cs L a ccd cl outer) (do return some (← bindSpecial (.ref f2) (.ref ka))) Q' E' ⟨h0, gs, d, t, os⟩ := fun q =>
    wpAny_bind (m := bindSpecial _ _) (t_loadH (q := some headPart) hf2 (eqk (t' := pure (.ref f2, [.ref ka])) (by kernel_rfl) (wpAny_pure (wpAny_pure q))))
  refine s_iteT (m := (do return some (← bindSpecial (.ref f2) (.ref ka)))) (hbd ?_)
  refine wpAny_bind (m := call _ _ _) ?_
  (show wpAny _ _ (call (.ref f2) [.ref ka, .ref kb]) _ _ _)
  refine lt_c0 (v := ⟨N0, md, ce, f1, f2, f3, f4, f5, f6, sl, sa, bt, v1, i3, k1, t1', k3, t3, k4, t4, k5, t5, k6, t6, k7, t7, k8, t8, k9, t9, k10, t10, k11, t11, k12, t12, k13, t13, k14, t14, u1', u2', u3, t0, tm⟩) B F X N K ha hb hp hq T hk hd hu ?_
  intro h' tk' F' N'
  refine wpAny_pure ?_
  refine x_pure ?_
  exact x_pure (hret h' tk' F' N')
theorem rich_eq {ka kb dka dkb pb : Addr} {x1 y1 x2 y2 : UInt64} {t1 u1 t2 u2 : Tok}
    (B : Below A₀ base outer h₀) (F : Fr h₀ L s.heap m) (X : (Mine.hd.heap_39 w.params).In h₀) (N : News h₀ L s.heap news) (K : KIn C v news)
    (ha : (ka, insO C dka #[some (.ref pa)]) ∈ news) (hb : (kb, insO C dkb #[some (.ref pb)]) ∈ news) (hp : (pa, pt x1 y1 t1 u1) ∈ news) (hq : (pb, pt x2 y2 t2 u2) ∈ news)
    (T : Top p loose mean mg mb h₀) (hk : cs.kind = .function) (hd : dp + 4 < recursionLimit) (hu : un + 32 < cLine)
    (hret : ∀ h' tk', Fr h₀ L h' m → News h₀ L h' news → Q (.bool (eqV x1 y1 x2 y2)) { s with heap := h', toks := tk' }) :
    wpAny (model Challenge.rw_dn0037_01.row.prog w) (ktrTop dp un gd cn cs L a ccd cl outer) (richCompare .Eq (.ref ka) (.ref kb)) Q E s := by
  obtain ⟨h0, gs, d, t, os⟩ := s
  have hka := N.get ha
  have hkb := N.get hb
  have KA := K.at N
  have hlt := K.eq
  obtain ⟨N0, md, ce, f1, f2, f3, f4, f5, f6, sl, sa, bt, v1, i3, k1, t1', k3, t3, k4, t4, k5, t5, k6, t6, k7, t7, k8, t8, k9, t9, k10, t10, k11, t11, k12, t12, k13, t13, k14, t14, u1', u2', u3, t0, tm⟩ := v
  obtain ⟨hC, hN, hmd⟩ := KA
  dsimp only [KV.es] at hC hN hmd hlt
  obtain ⟨_, _, _, _, _, _, _, _, _, _, _, _, _, hm4, _⟩ := hlt
  have hf4 := N.get hm4
  (unfold richCompare)
  refine wpAny_holding ?_
  refine wpAny_bind (wpAny_cRoomFor (show un < cLine by omega) ?_)
  refine wpAny_bind (m := typeOf _) (t_loadH (q := some headPart) hka (wpAny_pure ?_))
  refine wpAny_bind (m := typeOf _) (t_loadH (q := some headPart) hkb (wpAny_pure ?_))
  refine s_ifN (c := (Value.ref C != Value.ref C) = true) (by simp) ?_
  refine wpAny_bind (m := pure _) (wpAny_pure ?_)
  refine wpAny_bind (m := tryCompare _ _ _) ?_
  refine wpAny_bind (m := callSpecialIfBound? _ _ _) (wpAny_holding ?_)
  refine wpAny_bind (m := bindSpecialIfBound? _ _) ?_
  refine wpAny_bind (m := specialOf _ _) ?_
  refine t_loadH (q := some headPart) hka ?_
  refine t_loadH (q := none) hC ?_
  refine t_loadH (q := none) hC ?_
  refine t_loadH (q := some (.str (Str.ofString "__eq__") 0)) hN ?_
  refine eqk (t' := pure (some (.ref f4))) (by kernel_rfl) (wpAny_pure ?_)
  refine x_ask ?_
  have hbd : ∀ {Q' : Option (Value × List Value) → Shared → Prop} {E' : Value → Shared → Prop}, Q' (some (.ref f4, [.ref ka])) ⟨h0, gs, d, t, os⟩ → wpAny (model Challenge.rw_dn0037_01.row.prog w) (ktrTop dp un gd cn cs L a ccd cl outer) (do return some (← bindSpecial (.ref f4) (.ref ka))) Q' E' ⟨h0, gs, d, t, os⟩ := fun q =>
    wpAny_bind (m := bindSpecial _ _) (t_loadH (q := some headPart) hf4 (eqk (t' := pure (.ref f4, [.ref ka])) (by kernel_rfl) (wpAny_pure (wpAny_pure q))))
  refine s_iteT (m := (do return some (← bindSpecial (.ref f4) (.ref ka)))) (hbd ?_)
  refine wpAny_bind (m := call _ _ _) ?_
  (show wpAny _ _ (call (.ref f4) [.ref ka, .ref kb]) _ _ _)
  refine eq_c0 (v := ⟨N0, md, ce, f1, f2, f3, f4, f5, f6, sl, sa, bt, v1, i3, k1, t1', k3, t3, k4, t4, k5, t5, k6, t6, k7, t7, k8, t8, k9, t9, k10, t10, k11, t11, k12, t12, k13, t13, k14, t14, u1', u2', u3, t0, tm⟩) B F X N K ha hb hp hq T hk hd hu ?_
  intro h' tk' F' N'
  refine wpAny_pure ?_
  refine x_pure ?_
  exact x_pure (hret h' tk' F' N')
end
end Mine
end
section
open PySem PySem.W PyProof.Rows PySem.W.X
set_option maxRecDepth 100000
set_option maxHeartbeats 800000
set_option linter.unusedSimpArgs false
namespace Mine
section
variable {w : World} {p : Program} {loose : List Str} {mean : ExcName → Option Value} {mg mb : Str → Option Value}
    {dp un : Nat} {gd : Option (List Code)} {cn : Str} {cs : Scope} {a : Addr} {ccd : Value} {cl : List (Str × Addr)} {outer : List Env} {A₀ : Around} {base h₀ : Heap} {L : Addr} {m : Str → Option Value} {s : Shared}
    {Q E : Value → Shared → Prop} {news : List (Addr × Obj)} {C pa : Addr} {v : KV}
theorem csb_lt {Q : Option Value → Shared → Prop} {ka kb dka dkb pb : Addr} {x1 y1 x2 y2 : UInt64} {t1 u1 t2 u2 : Tok}
    (B : Below A₀ base outer h₀) (F : Fr h₀ L s.heap m) (X : (Mine.hd.heap_39 w.params).In h₀) (N : News h₀ L s.heap news) (K : KIn C v news)
    (ha : (ka, insO C dka #[some (.ref pa)]) ∈ news) (hb : (kb, insO C dkb #[some (.ref pb)]) ∈ news) (hp : (pa, pt x1 y1 t1 u1) ∈ news) (hq : (pb, pt x2 y2 t2 u2) ∈ news)
    (T : Top p loose mean mg mb h₀) (hk : cs.kind = .function) (hd : dp + 4 < recursionLimit) (hu : un + 32 < cLine)
    (hret : ∀ h' tk', Fr h₀ L h' m → News h₀ L h' news → Q (some (.bool (ltV x1 y1 x2 y2))) { s with heap := h', toks := tk' }) :
    wpAny (model Challenge.rw_dn0037_01.row.prog w) (ktrTop dp un gd cn cs L a ccd cl outer) (callSpecialIfBound? (.ref ka) (Str.ofString "__lt__") [.ref kb]) Q E s := by
  obtain ⟨h0, gs, d, t, os⟩ := s
  have hka := N.get ha
  have hkb := N.get hb
  have KA := K.at N
  have hlt := K.lt
  obtain ⟨N0, md, ce, f1, f2, f3, f4, f5, f6, sl, sa, bt, v1, i3, k1, t1', k3, t3, k4, t4, k5, t5, k6, t6, k7, t7, k8, t8, k9, t9, k10, t10, k11, t11, k12, t12, k13, t13, k14, t14, u1', u2', u3, t0, tm⟩ := v
  obtain ⟨hC, hN, hmd⟩ := KA
  dsimp only [KV.es] at hC hN hmd hlt
  obtain ⟨_, _, _, _, _, _, _, _, _, _, _, _, _, hm2, _⟩ := hlt
  have hf2 := N.get hm2
  refine wpAny_holding ?_
  refine wpAny_bind (m := bindSpecialIfBound? _ _) ?_
  refine wpAny_bind (m := specialOf _ _) ?_
  refine t_loadH (q := some headPart) hka ?_
  refine t_loadH (q := none) hC ?_
  refine t_loadH (q := none) hC ?_
  refine t_loadH (q := some (.str (Str.ofString "__lt__") 0)) hN ?_
  refine eqk (t' := pure (some (.ref f2))) (by kernel_rfl) (wpAny_pure ?_)
  refine x_ask ?_
  have hbd : ∀ {Q' : Option (Value × List Value) → Shared → Prop} {E' : Value → Shared → Prop}, Q' (some (.ref f2, [.ref ka])) ⟨h0, gs, d, t, os⟩ → wpAny (model Challenge.rw_dn0037_01.row.prog w) (ktrTop dp un gd cn cs L a ccd cl outer) (do return some (← bindSpecial (.ref f2) (.ref ka))) Q' E' ⟨h0, gs, d, t, os⟩ := fun q =>
    wpAny_bind (m := bindSpecial _ _) (t_loadH (q := some headPart) hf2 (eqk (t' := pure (.ref f2, [.ref ka])) (by kernel_rfl) (wpAny_pure (wpAny_pure q))))
  refine s_iteT (m := (do return some (← bindSpecial (.ref f2) (.ref ka)))) (hbd ?_)
  refine wpAny_bind (m := call _ _ _) ?_
  (show wpAny _ _ (call (.ref f2) [.ref ka, .ref kb]) _ _ _)
  refine lt_c0 (v := ⟨N0, md, ce, f1, f2, f3, f4, f5, f6, sl, sa, bt, v1, i3, k1, t1', k3, t3, k4, t4, k5, t5, k6, t6, k7, t7, k8, t8, k9, t9, k10, t10, k11, t11, k12, t12, k13, t13, k14, t14, u1', u2', u3, t0, tm⟩) B F X N K ha hb hp hq T hk hd hu ?_
  intro h' tk' F' N'
  exact wpAny_pure (hret h' tk' F' N')

theorem keylt_K {Q : Bool → Shared → Prop} {ka kb dka dkb pb : Addr} {x1 y1 x2 y2 : UInt64} {t1 u1 t2 u2 : Tok}
    (B : Below A₀ base outer h₀) (F : Fr h₀ L s.heap m) (X : (Mine.hd.heap_39 w.params).In h₀) (N : News h₀ L s.heap news) (K : KIn C v news)
    (ha : (ka, insO C dka #[some (.ref pa)]) ∈ news) (hb : (kb, insO C dkb #[some (.ref pb)]) ∈ news) (hp : (pa, pt x1 y1 t1 u1) ∈ news) (hq : (pb, pt x2 y2 t2 u2) ∈ news)
    (T : Top p loose mean mg mb h₀) (hk : cs.kind = .function) (hd : dp + 4 < recursionLimit) (hu : un + 32 < cLine)
    (hret : ∀ h' tk', Fr h₀ L h' m → News h₀ L h' news → Q (ltV x1 y1 x2 y2) { s with heap := h', toks := tk' }) :
    wpAny (model Challenge.rw_dn0037_01.row.prog w) (ktrTop dp un gd cn cs L a ccd cl outer) (keyLt' oneType' (.ref ka) (.ref kb)) Q E s := by
  rw [keyLt'_oneType, oneLt'_eq, if_pos rfl]
  refine wpAny_bind (wpAny_cRoomFor (show un < cLine by omega) ?_)
  refine wpAny_bind (csb_lt B F X N K ha hb hp hq T hk hd hu fun h' tk' F' N' => ?_)
  exact wpAny_pure (hret h' tk' F' N')
end
section
variable {M : Model} {A : Around} {E : Value → Shared → Prop} {s : Shared}
theorem mapM_same {α β : Type} {f : α → Sem β} {g : β} : ∀ (l : List α) {Q : List β → Shared → Prop}, (∀ x ∈ l, ∀ Q' : β → Shared → Prop, Q' g s → wpAny M A (f x) Q' E s) → Q (l.map fun _ => g) s → wpAny M A (l.mapM f) Q E s
  | [], Q, _, hq => by rw [List.mapM_nil]; exact wpAny_pure hq
  | x :: l, Q, h, hq => by
    rw [List.mapM_cons]
    refine wpAny_bind (h x (List.mem_cons_self ..) _ ?_)
    refine wpAny_bind (mapM_same l (fun y hy => h y (List.mem_cons_of_mem _ hy)) ?_)
    exact wpAny_pure hq
theorem firstOfTuple'_eq (v : Value) : firstOfTuple' v = (do
    if (← typeOf v) != .type "tuple" then return none
    return (← Builtin.List.listItems v)[0]?) := rfl
theorem kind_K {keys : Array Value} {C : Addr} (h2 : 2 ≤ keys.size) (hk : ∀ x ∈ keys.toList, ∃ ka o, x = .ref ka ∧ s.heap.get? ka = some o ∧ o.cls = .ref C) :
    wpAny M A (keyKind' keys) (fun k s' => k = oneType' ∧ s' = s) E s := by
  have ht : ∀ x ∈ keys.toList, ∀ Q' : Value → Shared → Prop, Q' (.ref C) s → wpAny M A (typeOf x) Q' E s := by
    intro x hx Q' hq
    obtain ⟨ka, o, rfl, ho, hc⟩ := hk x hx
    show wpAny M A (loadPart ka (some headPart) >>= fun o => pure o.cls) Q' E s
    exact wpAny_bind (wpAny_loadPart ho (wpAny_pure (by rw [hc]; exact hq)))
  rw [keyKind'_eq, ← Array.toArray_toList (xs := keys), List.mapM_toArray]
  refine wpAny_bind (wpAny_map ?_)
  refine mapM_same (g := none) keys.toList (fun x hx Q' hq => ?_) ?_
  · rw [firstOfTuple'_eq]
    refine wpAny_bind (ht x hx _ ?_)
    rw [if_pos (by rfl)]
    exact wpAny_pure hq
  generalize hl : keys.toList = l
  have hl2 : 2 ≤ l.length := by rw [← hl, Array.length_toList]; exact h2
  obtain ⟨a, l', rfl⟩ : ∃ a l', l = a :: l' := by
    cases l with
    | nil => simp at hl2
    | cons a l' => exact ⟨a, l', rfl⟩
  rw [if_neg (by simp), if_neg (by simp)]
  rw [oneTypeOnly'_eq, List.mapM_toArray]
  refine wpAny_bind (wpAny_bind (wpAny_map ?_))
  rw [← hl]
  refine mapM_same (g := Value.ref C) keys.toList ht ?_
  rw [hl]
  have h0 : (List.map (fun _ => Value.ref C) (a :: l')).toArray[0]? = some (Value.ref C) := by simp
  have hall : ((List.map (fun _ => Value.ref C) (a :: l')).toArray.all fun x => x == Value.ref C) = true := by
    simp only [List.all_toArray, List.all_map, List.all_eq_true]
    intro _ _
    simp
  rw [h0]
  dsimp only
  rw [hall]
  refine wpAny_pure ?_
  exact wpAny_pure ⟨rfl, rfl⟩
end
end Mine
end
section
open PySem PySem.W PyProof.Rows
set_option maxRecDepth 100000
set_option maxHeartbeats 8000000
namespace Mine
theorem ns_some_of {K : Frag} {h : Heap} {N : Addr} {mg : Str → Option Value} {n : Str} {v : Value} (X : K.In h) (G : h.Ns N mg) (e : nsIn K N n = some (some v)) : mg n = some v := by
  obtain ⟨o, es, ep, ho, hd, _, hf⟩ := G
  unfold nsIn at e
  split at e
  · rename_i c d es' n' sl q
    have := X _ _ q
    rw [ho] at this
    cases this
    cases hd
    split at e
    · rename_i he
      rw [← hf]
      unfold nsFind findBy
      rw [← Array.find?_toList, he]
      cases e
      rfl
    · split at e <;> cases e
  · cases e
def isPt (p : Addr × Obj) : Bool := match p with
  | (_, ⟨.type "tuple", none, .seq ⟨[.float _ _, .float _ _]⟩ 0, ⟨[]⟩⟩) => true
  | _ => false
theorem Inv.filt {es : List (Int × Int)} {hv pv dv : List Value} {pts : List (Addr × Obj)} (I : Inv es hv pv dv pts) : Inv es hv pv dv (pts.filter isPt) := by
  refine ⟨I.h, ⟨I.p.1, fun k v e h1 h2 => ?_⟩, I.d⟩
  obtain ⟨a, x, y, t, u, ev, hm, hx, hy⟩ := I.p.2 k v e h1 h2
  exact ⟨a, x, y, t, u, ev, List.mem_filter.mpr ⟨hm, rfl⟩, hx, hy⟩
theorem pt_ne {g h : Heap} {L : Addr} {news pts : List (Addr × Obj)} {d : Addr} {o : Obj} (N : News g L h news) (hs : ∀ p ∈ pts, p ∈ news) (hd : (d, o) ∈ news) (ho : isPt (d, o) = false) : ∀ p ∈ pts.filter isPt, p.1 ≠ d := by
  rintro ⟨a, o'⟩ hp rfl
  obtain ⟨h1, h2⟩ := List.mem_filter.mp hp
  have e1 := (N _ (hs _ h1)).1
  have e2 := (N _ hd).1
  rw [e1] at e2
  cases e2
  rw [h2] at ho
  cases ho
theorem after_key {g h h' : Heap} {L : Addr} {m : Str → Option Value} {cK cP cH lP lH C : Addr} {oK oP oH oLP oLH : Obj} {pts own : List (Addr × Obj)} {ps : Array Value}
    (F : Fr g L h m) (N : News g L h ((23, tabObj ps) :: (own ++ ((cK, oK) :: (51, tabObj #[]) :: (lP, oLP) :: (lH, oLH) :: (cP, oP) :: (cH, oH) :: pts))))
    (hSp : ∀ p ∈ (cK, oK) :: (51, tabObj #[]) :: (lP, oLP) :: (lH, oLH) :: (cP, oP) :: (cH, oH) :: pts, ∀ q ∈ own, p.1 ≠ q.1)
    (hp1 : ∀ p ∈ pts, p.1 ≠ cK) (hp2 : ∀ p ∈ pts, p.1 ≠ 51) (n0 : 23 ≠ cK) (n1 : 51 ≠ cK) (n2 : lP ≠ cK) (n3 : lH ≠ cK) (n4 : cP ≠ cK) (n5 : cH ≠ cK) (k2 : lP ≠ 51) (k3 : lH ≠ 51) (k4 : cP ≠ 51) (k5 : cH ≠ 51)
    (hs : Heap.SameBut cK h h') (hc : h'.IsCell cK (some (.ref C))) :
    ∃ oK' tl, oK'.data = .cell (some (.ref C)) ∧ Fr g L h' m ∧ News g L h' ((51, tabObj #[]) :: tl) ∧ (∀ p ∈ tl, p.1 ≠ 51) ∧ (cK, oK') ∈ tl ∧ (23, tabObj ps) ∈ tl ∧ (lP, oLP) ∈ tl ∧ (lH, oLH) ∈ tl ∧ (cP, oP) ∈ tl ∧ (cH, oH) ∈ tl ∧ (∀ p ∈ pts, p ∈ tl) ∧ (∀ p ∈ own, p ∈ tl) := by
  obtain ⟨oK', e1, e2⟩ := hc
  have hK := N (cK, oK) (List.mem_cons_of_mem _ (List.mem_append_right _ (List.mem_cons_self ..)))
  refine ⟨oK', (cK, oK') :: (23, tabObj ps) :: (lP, oLP) :: (lH, oLH) :: (cP, oP) :: (cH, oH) :: (pts ++ own), e2, ksk_fr F hs hK.2.1 hK.2.2, ?_, ?_, ?_⟩
  · have old : News g L h' ((23, tabObj ps) :: (51, tabObj #[]) :: (lP, oLP) :: (lH, oLH) :: (cP, oP) :: (cH, oH) :: (pts ++ own)) := by
      refine ksk_news (fun p hp => N p ?_) hs ?_
      · simp only [List.mem_cons, List.mem_append] at hp ⊢
        rcases hp with hp | hp | hp | hp | hp | hp | hp | hp <;> simp [hp]
      · intro p hp
        simp only [List.mem_cons, List.mem_append] at hp
        rcases hp with rfl | rfl | rfl | rfl | rfl | rfl | hp | hp
        · exact n0
        · exact n1
        · exact n2
        · exact n3
        · exact n4
        · exact n5
        · exact hp1 p hp
        · exact (hSp _ (List.mem_cons_self ..) p hp).symm
    intro p hp
    simp only [List.mem_cons, List.mem_append] at hp
    rcases hp with rfl | rfl | hp
    · exact old _ (List.mem_cons_of_mem _ (List.mem_cons_self ..))
    · exact ⟨e1, hK.2⟩
    · refine old p ?_
      simp only [List.mem_cons, List.mem_append]
      rcases hp with hp | hp | hp | hp | hp | hp | hp <;> simp [hp]
  · intro p hp
    simp only [List.mem_cons, List.mem_append] at hp
    rcases hp with rfl | rfl | rfl | rfl | rfl | rfl | hp | hp
    · exact n1.symm
    · exact (by decide : (23 : Nat) ≠ 51)
    · exact k2
    · exact k3
    · exact k4
    · exact k5
    · exact hp2 p hp
    · exact (hSp _ (List.mem_cons_of_mem _ (List.mem_cons_self ..)) p hp).symm
  · simp only [List.mem_cons, List.mem_append]
    refine ⟨by simp, by simp, by simp, by simp, by simp, by simp, fun p hp => by simp [hp], fun p hp => by simp [hp]⟩
theorem KIn.mono {C : Addr} {v : KV} {news news' : List (Addr × Obj)} (K : KIn C v news) (h : ∀ p ∈ news, p ∈ news') : KIn C v news' := by
  have f : ∀ {i clos f}, FnIn i clos f news → FnIn i clos f news' := fun ⟨a1, a2, a3, a4, a5, a6, a7, a8, a9, a10, a11, a12, b1, b2, b3, b4⟩ => ⟨a1, a2, a3, a4, a5, a6, a7, a8, a9, a10, a11, a12, b1, h _ b2, h _ b3, b4⟩
  obtain ⟨o, h1, h2⟩ := K.ce
  exact ⟨h _ K.cls, h _ K.ns, h _ K.md, f K.init, f K.lt, f K.eq, o, h _ h1, h2⟩
section
variable {w : World} {p : Program} {loose : List Str} {mean : ExcName → Option Value} {mg mb : Str → Option Value}
    {dp un : Nat} {gd : Option (List Code)} {cn : Str} {nm : List (Str × NameKind)} {a : Addr} {ccd : Value} {cl : List (Str × Addr)} {outer : List Env} {A₀ : Around} {base h₀ : Heap} {L : Addr} {m : Str → Option Value} {s : Shared}
/-- what stands once the key is made and stored: the class, the lists, the cells -/
structure Stage (es : List (Int × Int)) (hv pv dv : List Value) (lP lH cP cH cK C : Addr) (v : KV) (tl : List (Addr × Obj)) : Prop where
  inv : Inv es hv pv dv tl
  K : KIn C v tl
  tab : ∃ ps, (23, tabObj ps) ∈ tl
  mP : ∃ np, (lP, W.listOf pv.toArray np) ∈ tl
  mH : ∃ nh, (lH, W.listOf hv.toArray nh) ∈ tl
  cP : ∃ o, (cP, o) ∈ tl ∧ o.data = .cell (some (.ref lP))
  cH : ∃ o, (cH, o) ∈ tl ∧ o.data = .cell (some (.ref lH))
  cK : ∃ o, (cK, o) ∈ tl ∧ o.data = .cell (some (.ref C))
  ne : ∀ p ∈ tl, p.1 ≠ 51
theorem key_stage {Q : Unit → Shared → Prop} {E E' : Value → Shared → Prop} {nv : Value} {D lD lP lH cP cK cH : Addr} {oD oLD oP oK oH : Obj} {es : List (Int × Int)} {hv pv dv : List Value} {np nh : Nat} {pts : List (Addr × Obj)}
    (B : Below A₀ base outer h₀) (F : Fr h₀ L s.heap m) (X : (Mine.hd.heap_39 w.params).In h₀)
    (N : News h₀ L s.heap ((D, oD) :: (lD, oLD) :: (lP, W.listOf pv.toArray np) :: (lH, W.listOf hv.toArray nh) :: (cP, oP) :: (cK, oK) :: (cH, oH) :: (23, tabObj #[]) :: (51, tabObj #[]) :: pts))
    (T : Top p loose mean mg mb h₀) (I : Inv es hv pv dv pts) (hP : oP.data = .cell (some (.ref lP))) (hH : oH.data = .cell (some (.ref lH))) (hK : oK.data = .cell none)
    (n0 : 23 ≠ cK) (n1 : 51 ≠ cK) (n2 : lP ≠ cK) (n3 : lH ≠ cK) (n4 : cP ≠ cK) (n5 : cH ≠ cK) (k2 : lP ≠ 51) (k3 : lH ≠ 51) (k4 : cP ≠ 51) (k5 : cH ≠ 51) (m2 : lP ≠ 23) (m3 : lH ≠ 23) (m4 : cP ≠ 23) (m5 : cH ≠ 23)
    (CH : CodeHd h₀ 27 23) (hnv : mg (Str.ofString "__name__") = some nv) (hd : dp + 2 < recursionLimit) (hu : un + 16 < cLine)
    (hl : (envX cn { kind := .function, names := nm, isGenerator := false, isCoroutine := false } L a ccd cl).kindOf (Str.ofString "key") = some .cell) (hc : cl.lookup (Str.ofString "key") = some cK)
    (hret : ∀ C v tl h' tk', Stage es hv pv dv lP lH cP cH cK C v tl → Fr h₀ L h' m → News h₀ L h' ((51, tabObj #[]) :: tl) → Q () { s with heap := h', toks := tk' }) :
    wpAny (model Challenge.rw_dn0037_01.row.prog w) (ktrTop dp un gd cn { kind := .function, names := nm, isGenerator := false, isCoroutine := false } L a ccd cl outer) (call (.ref 28) [.ref 49])
      (fun r s₁ => wpAny (model Challenge.rw_dn0037_01.row.prog w) (ktrTop dp un gd cn { kind := .function, names := nm, isGenerator := false, isCoroutine := false } L a ccd cl outer) (storeName (envX cn { kind := .function, names := nm, isGenerator := false, isCoroutine := false } L a ccd cl) (Str.ofString "key") r) Q E' s₁) E s := by
  have hin : ∀ q ∈ pts.filter isPt, q ∈ (D, oD) :: (lD, oLD) :: (lP, W.listOf pv.toArray np) :: (lH, W.listOf hv.toArray nh) :: (cP, oP) :: (cK, oK) :: (cH, oH) :: (23, tabObj #[]) :: (51, tabObj #[]) :: pts := fun q hq => by
    have := (List.mem_filter.mp hq).1
    simp [this]
  have hsub : ∀ q ∈ pts, q ∈ (D, oD) :: (lD, oLD) :: (lP, W.listOf pv.toArray np) :: (lH, W.listOf hv.toArray nh) :: (cP, oP) :: (cK, oK) :: (cH, oH) :: (23, tabObj #[]) :: (51, tabObj #[]) :: pts := fun q hq => by simp [hq]
  have p23 := pt_ne N hsub (d := 23) (o := tabObj #[]) (by simp) rfl
  have p51 := pt_ne N hsub (d := 51) (o := tabObj #[]) (by simp) rfl
  have pcK := pt_ne N hsub (d := cK) (o := oK) (by simp) (by
    obtain ⟨c1, c2, c3, c4⟩ := oK
    dsimp only at hK
    subst hK
    unfold isPt
    split
    · next e => cases e
    · rfl)
  refine cmp_c ((cK, oK) :: (51, tabObj #[]) :: (lP, W.listOf pv.toArray np) :: (lH, W.listOf hv.toArray nh) :: (cP, oP) :: (cH, oH) :: pts.filter isPt) B F X N T (by simp) ?_ ?_ CH hnv hd hu ?_
  · intro q hq
    simp only [List.mem_cons] at hq
    rcases hq with rfl | rfl | rfl | rfl | rfl | rfl | hq
    all_goals first
      | exact hin q hq
      | simp
  · intro q hq
    simp only [List.mem_cons] at hq
    rcases hq with rfl | rfl | rfl | rfl | rfl | rfl | hq
    · exact n0.symm
    · exact (by decide : (51 : Nat) ≠ 23)
    · exact m2
    · exact m3
    · exact m4
    · exact m5
    · exact p23 q hq
  · intro C v own ps h' tk' K F' N' hSp
    refine wpAny_storeName_cell rfl hl hc (isCell_of N' (List.mem_cons_of_mem _ (List.mem_append_right _ (List.mem_cons_self ..))) hK) fun h'' hcell hsame => ?_
    obtain ⟨oK', tl, e1, F2, N2, a1, a2, a3, a4, a5, a6, a7, a8, a9⟩ := after_key F' N' hSp pcK p51 n0 n1 n2 n3 n4 n5 k2 k3 k4 k5 hsame hcell
    refine hret C v tl h'' tk' ⟨⟨I.h, ?_, I.d⟩, K.mono a9, ⟨ps, a3⟩, ⟨np, a4⟩, ⟨nh, a5⟩, ⟨oP, a6, hP⟩, ⟨oH, a7, hH⟩, ⟨oK', a2, e1⟩, a1⟩ F2 N2
    exact I.filt.p.mono fun v e h => PtIs.mono a8 v e h
end
end Mine
end
section
open PySem PySem.W PyProof.Rows
set_option maxRecDepth 100000
set_option maxHeartbeats 8000000
namespace Mine
def hueAt (es : List (Int × Int)) (i : Nat) : Int := (es.getD i (0, 0)).1
def cOf (es : List (Int × Int)) (i j : Nat) : Bool := decide (hueAt es i < hueAt es j)
theorem hueAt_of {es : List (Int × Int)} {i : Nat} {h d : Int} (e : es[i]? = some (h, d)) : hueAt es i = h := by
  unfold hueAt
  rw [List.getD_eq_getElem?_getD, e]
  rfl
def KPk (C : Addr) (pv : List Value) (i : Nat) (r : Value) (own : List (Addr × Obj)) : Prop := ∃ ka dk a, r = .ref ka ∧ (ka, insO C dk #[some (.ref a)]) ∈ own ∧ pv[i]? = some (.ref a)
def KPh (es : List (Int × Int)) (i : Nat) (r : Value) (_own : List (Addr × Obj)) : Prop := ∃ t, r = .int (hueAt es i) t
theorem Stage.up {es : List (Int × Int)} {hv pv dv : List Value} {lP lH cP cH cK C : Addr} {v : KV} {tl led : List (Addr × Obj)} (S : Stage es hv pv dv lP lH cP cH cK C v tl) (h : ∀ p ∈ tl, p ∈ led) :
    Inv es hv pv dv led ∧ KIn C v led ∧ (∃ ps, (23, tabObj ps) ∈ led) ∧ (∃ np, (lP, W.listOf pv.toArray np) ∈ led) ∧ (∃ nh, (lH, W.listOf hv.toArray nh) ∈ led) ∧ (∃ o, (cP, o) ∈ led ∧ o.data = .cell (some (.ref lP))) ∧
      (∃ o, (cH, o) ∈ led ∧ o.data = .cell (some (.ref lH))) ∧ (∃ o, (cK, o) ∈ led ∧ o.data = .cell (some (.ref C))) := by
  obtain ⟨a1, a2, ⟨ps, a3⟩, ⟨np, a4⟩, ⟨nh, a5⟩, ⟨o1, a6, b6⟩, ⟨o2, a7, b7⟩, ⟨o3, a8, b8⟩, _⟩ := S
  exact ⟨⟨a1.h, a1.p.mono fun v e q => PtIs.mono h v e q, a1.d⟩, a2.mono h, ⟨ps, h _ a3⟩, ⟨np, h _ a4⟩, ⟨nh, h _ a5⟩, ⟨o1, h _ a6, b6⟩, ⟨o2, h _ a7, b7⟩, ⟨o3, h _ a8, b8⟩⟩
section
variable {w : World} {p : Program} {loose : List Str} {mean : ExcName → Option Value} {mg mb : Str → Option Value}
    {dp un : Nat} {gd : Option (List Code)} {cn : Str} {cs : Scope} {a : Addr} {ccd : Value} {cl : List (Str × Addr)} {outer : List Env} {A₀ : Around} {base h₀ : Heap} {L : Addr} {m : Str → Option Value} {s : Shared}
    {Q E : Value → Shared → Prop} {news tl : List (Addr × Obj)} {ns : List Int} {hv pv dv : List Value} {lP lH cP cH cK C r q : Addr} {v : KV} {t u v' : Tok} {ps' : PSt} {n : Nat}
theorem sortedK (B : Below A₀ base outer h₀) (F : Fr h₀ L s.heap m) (X : (Mine.hd.heap_39 w.params).In h₀) (N : News h₀ L s.heap news) (T : Top p loose mean mg mb h₀) (hk : cs.kind = .function) (hd : dp + 4 < recursionLimit) (hu : un + 40 < cLine)
    (S : Stage (ents ns) hv pv dv lP lH cP cH cK C v tl) (htl : ∀ p ∈ tl, p ∈ news) (hr : IsRange s.heap r 0 (n : Int) 1 t u v') (hn : (ents ns).length = n) (h2 : 2 ≤ n) (h65 : n ≤ 65) (G : Good n ps') (R : RunsTo Challenge.rw_dn0037_01.row.prog w (cOf (ents ns)) n ps')
    (turn : ∀ (i : Nat) (tv : Tok), i < n → ∀ (h : Heap) (tk : Nat) (led : List (Addr × Obj)), (∀ p ∈ news, p ∈ led) → Fr h₀ L h m → News h₀ L h led →
      wpAny (model Challenge.rw_dn0037_01.row.prog w) (ktrTop dp (un + 1 + 1) gd cn cs L a ccd cl outer) (call (.ref q) [.int (i : Int) tv]) (KeyEnd h₀ L m (KPk C pv) i led { s with heap := h, toks := tk }) (fun _ _ => False) { s with heap := h, toks := tk })
    (h : ∀ D h' tk c' out kown, Fr h₀ L h' m → News h₀ L h' ((D, seqObj "list" out c') :: (kown ++ news)) → (∀ q ∈ news, q.1 < D) → IntsAre out.toList (ps'.p.toList.map fun (i : Nat) => (i : Int)) → Q (.ref D) { s with heap := h', toks := tk }) :
    wpAny (model Challenge.rw_dn0037_01.row.prog w) (ktrTop dp un gd cn cs L a ccd cl outer) (call (.builtin "sorted") [.ref r] [(Str.ofString "key", .ref q)]) Q E s := by
  refine my_sorted (KP := KPk C pv) rfl hr h2 h65 G R F N (fun i r own own' hs ⟨ka, dk, a, e1, e2, e3⟩ => ⟨ka, dk, a, e1, hs _ e2, e3⟩) turn ?_ ?_ h
  · intro keys kown led s₁ hsz hkp hled hst
    obtain ⟨h', tk, rfl, F', N'⟩ := hst
    refine kind_K (C := C) (by omega) fun x hx => ?_
    obtain ⟨i, hi, e⟩ := List.getElem_of_mem hx
    have hi' : i < n := by rw [Array.length_toList] at hi; omega
    obtain ⟨ka, dk, a, e1, e2, e3⟩ := hkp i hi'
    have e4 : keys.getD i .none = x := by
      have h1 : i < keys.size := by omega
      simp [Array.getD, h1, ← e]
    exact ⟨ka, _, e4.symm.trans e1, N'.get (hled _ (List.mem_append_left _ e2)), rfl⟩
  · intro keys kown led i j hi hj hki hkj hled s' hst
    obtain ⟨h', tk, rfl, F', N'⟩ := hst
    obtain ⟨ka, dka, aa, e1, e2, e3⟩ := hki
    obtain ⟨kb, dkb, ab, f1, f2, f3⟩ := hkj
    obtain ⟨I', K', _⟩ := S.up (led := led) fun p hp => hled _ (List.mem_append_right _ (htl p hp))
    obtain ⟨h1, d1, a1, x1, y1, b1, t1, u1, th1, tb1, A1⟩ := at_ I' (i := i) (by omega)
    obtain ⟨h2', d2, a2, x2, y2, b2, t2, u2, th2, tb2, A2⟩ := at_ I' (i := j) (by omega)
    have ea : aa = a1 := by have := e3.symm.trans A1.pv; simpa using this
    have eb : ab = a2 := by have := f3.symm.trans A2.pv; simpa using this
    subst ea eb
    rw [e1, f1]
    refine keylt_K (dp := dp) (un := un + 1 + 1) (s := { s with heap := h', toks := tk }) B F' X N' K' (hled _ (List.mem_append_left _ e2)) (hled _ (List.mem_append_left _ f2)) A1.mem A2.mem T hk hd (by omega) fun h3 tk3 F3 N3 => ?_
    refine ⟨?_, h3, tk3, rfl, F3, N3⟩
    rw [ltV_is A1.ix A1.iy A2.ix A2.iy A1.h0 A1.h1 A2.h0 A2.h1 A1.d0 A1.d1 A2.d0 A2.d1]
    unfold cOf
    rw [hueAt_of A1.e, hueAt_of A2.e]
theorem sortedH (F : Fr h₀ L s.heap m) (N : News h₀ L s.heap news) (hr : IsRange s.heap r 0 (n : Int) 1 t u v') (h2 : 2 ≤ n) (h65 : n ≤ 65) (G : Good n ps') (R : RunsTo Challenge.rw_dn0037_01.row.prog w (cOf (ents ns)) n ps')
    (turn : ∀ (i : Nat) (tv : Tok), i < n → ∀ (h : Heap) (tk : Nat) (led : List (Addr × Obj)), (∀ p ∈ news, p ∈ led) → Fr h₀ L h m → News h₀ L h led →
      wpAny (model Challenge.rw_dn0037_01.row.prog w) (ktrTop dp (un + 1 + 1) gd cn cs L a ccd cl outer) (call (.ref q) [.int (i : Int) tv]) (KeyEnd h₀ L m (KPh (ents ns)) i led { s with heap := h, toks := tk }) (fun _ _ => False) { s with heap := h, toks := tk })
    (h : ∀ D h' tk c' out kown, Fr h₀ L h' m → News h₀ L h' ((D, seqObj "list" out c') :: (kown ++ news)) → (∀ q ∈ news, q.1 < D) → IntsAre out.toList (ps'.p.toList.map fun (i : Nat) => (i : Int)) → Q (.ref D) { s with heap := h', toks := tk }) :
    wpAny (model Challenge.rw_dn0037_01.row.prog w) (ktrTop dp un gd cn cs L a ccd cl outer) (call (.builtin "sorted") [.ref r] [(Str.ofString "key", .ref q)]) Q E s := by
  refine my_sorted (KP := KPh (ents ns)) rfl hr h2 h65 G R F N (fun i r own own' _ e => e) turn ?_ ?_ h
  · intro keys kown led s₁ hsz hkp hled hst
    have hI : IntsAre keys.toList ((List.range n).map fun i => hueAt (ents ns) i) := by
      have key : ∀ (l : List Value) (k : Nat), (∀ (i : Nat) (x : Value), l[i]? = some x → ∃ t, x = Value.int (hueAt (ents ns) (k + i)) t) → IntsAre l ((List.range l.length).map fun i => hueAt (ents ns) (k + i)) := by
        intro l
        induction l with
        | nil => intro k _; exact .nil
        | cons x l ih =>
          intro k hx
          obtain ⟨t, e⟩ := hx 0 x rfl
          have := ih (k + 1) fun i y hy => by
            obtain ⟨t', e'⟩ := hx (i + 1) y (by simpa using hy)
            exact ⟨t', by rw [e', show k + (i + 1) = k + 1 + i by omega]⟩
          rw [e, List.length_cons, List.range_succ_eq_map, List.map_cons, List.map_map]
          refine .cons _ _ ?_
          have e3 : ((fun i => hueAt (ents ns) (k + i)) ∘ Nat.succ) = fun i => hueAt (ents ns) (k + 1 + i) := by
            funext i
            show hueAt _ (k + (i + 1)) = _
            rw [show k + (i + 1) = k + 1 + i by omega]
          rw [e3]; exact this
      have := key keys.toList 0 fun i x hx => by
        have hi : i < keys.size := by
          have := (List.getElem?_eq_some_iff.mp hx).1
          simpa using this
        obtain ⟨t, e⟩ := hkp i (by omega)
        refine ⟨t, ?_⟩
        rw [Nat.zero_add, ← e]
        have e5 : keys[i]? = some x := by simpa using hx
        simp [Array.getD, hi]
        have := (Array.getElem?_eq_some_iff.mp e5).2
        exact this.symm
      rw [Array.length_toList, hsz] at this
      simpa using this
    rw [ksk_kind hI (by omega)]
    exact wpAny_pure ⟨rfl, rfl⟩
  · intro keys kown led i j hi hj hki hkj hled s' hst
    obtain ⟨t1, e1⟩ := hki
    obtain ⟨t2, e2⟩ := hkj
    rw [e1, e2, keyLt'_oneType]
    exact oneLt_int ⟨rfl, hst⟩
end
theorem keyEnd_K {h₀ g : Heap} {L ka dk a C : Addr} {m : Str → Option Value} {o : Obj} {pv : List Value} {i : Nat} {led : List (Addr × Obj)} {s : Shared} {tk : Nat} (F : Fr h₀ L g m) (N : News h₀ L g ((ka, insO C dk #[some (.ref a)]) :: (dk, o) :: led)) (h1 : ∀ p ∈ led, p.1 < ka) (hp : pv[i]? = some (.ref a)) :
    KeyEnd h₀ L m (KPk C pv) i led s (.ref ka) { s with heap := g, toks := tk } := by
  refine ⟨g, tk, [(ka, insO C dk #[some (.ref a)])], rfl, F, fun p hp => N p ?_, fun p hp q hq => ?_, ka, dk, a, rfl, List.mem_cons_self .., hp⟩
  · rcases List.mem_append.mp hp with hp | hp
    · rw [List.mem_singleton.mp hp]; exact List.mem_cons_self ..
    · exact List.mem_cons_of_mem _ (List.mem_cons_of_mem _ hp)
  · rw [List.mem_singleton.mp hp]
    exact Nat.ne_of_gt (h1 q hq)
theorem keyEnd_H {h₀ g : Heap} {L : Addr} {m : Str → Option Value} {es : List (Int × Int)} {h d : Int} {t : Tok} {i : Nat} {led : List (Addr × Obj)} {s : Shared} {tk : Nat} (F : Fr h₀ L g m) (N : News h₀ L g led) (he : es[i]? = some (h, d)) :
    KeyEnd h₀ L m (KPh es) i led s (.int h t) { s with heap := g, toks := tk } :=
  ⟨g, tk, [], rfl, F, N, fun _ hp => (nomatch hp), t, by rw [hueAt_of he]⟩
theorem runs_of {w : World} {h : Heap} {ns : List Int} {hv pv dv : List Value} {tl : List (Addr × Obj)} (X : (Mine.hd.heap_39 w.params).In h) (I : Inv (ents ns) hv pv dv tl) (hE : 2 ≤ (ents ns).length ∧ (ents ns).length ≤ 65) :
    ∃ ps', Good pv.length ps' ∧ RunsTo Challenge.rw_dn0037_01.row.prog w (cOf (ents ns)) pv.length ps' := by
  have e := I.p.1
  exact runs_exist _ _ _ (by omega) (by omega)
abbrev rgO (n : Int) (t u v : Tok) : Obj := { cls := .type "range", dict := none, data := .fields #[.int 0 t, .int n u, .int 1 v], slots := #[] }
theorem range1_N {prog : Program} {w : World} {A : Around} {E : Value → Shared → Prop} {s : Shared} {h₀ : Heap} {L : Addr} {m : Str → Option Value} {Q : Value → Shared → Prop} {n : Int} {t : Tok} {ps : Array Value} {news : List (Addr × Obj)} (F : Fr h₀ L s.heap m) (N : News h₀ L s.heap ((51, tabObj ps) :: news))
    (h : ∀ r h' tk t₁ u₁ v₁, Fr h₀ L h' m → News h₀ L h' ((r, rgO n t₁ u₁ v₁) :: (51, tabObj ps) :: news) → 51 < r → Q (.ref r) { s with heap := h', toks := tk }) :
    wpAny (model prog w) A (call (.type "range") [.int n t]) Q E s := by
  refine range1_rows F N fun h' tk t₁ u₁ v₁ hR F' N' hk => ?_
  have hL := F.ns.lt
  exact h _ h' tk t₁ u₁ v₁ F' (fun p hp => by
    rcases List.mem_cons.mp hp with rfl | hp
    · exact ⟨hR, Nat.ne_of_gt hL, Heap.get?_none_of_le (Nat.le_trans F.above (Nat.le_of_lt hL))⟩
    · exact N' p hp) (Heap.lt_size (N _ (List.mem_cons_self ..)).1)
theorem after_sort {g h : Heap} {L D : Addr} {x1 x2 x3 x51 : Addr × Obj} {o : Obj} {kown tl : List (Addr × Obj)} (N : News g L h ((D, o) :: (kown ++ (x1 :: x2 :: x3 :: x51 :: tl)))) (hl : ∀ q ∈ x1 :: x2 :: x3 :: x51 :: tl, q.1 < D) (hx : ∀ p ∈ tl, p.1 ≠ x51.1) :
    News g L h (x51 :: (D, o) :: tl) ∧ (∀ p ∈ (D, o) :: tl, p.1 ≠ x51.1) ∧ x51.1 < D := by
  have h51 := hl x51 (by simp)
  refine ⟨fun p hp => N p ?_, fun p hp => ?_, h51⟩
  · simp only [List.mem_cons, List.mem_append] at hp ⊢
    rcases hp with hp | hp | hp <;> simp [hp]
  · rcases List.mem_cons.mp hp with rfl | hp
    · exact Nat.ne_of_gt h51
    · exact hx p hp
end Mine
end
section
open PySem PySem.W PyProof.Rows PySem.W.X PySem.Calls
set_option maxRecDepth 100000
set_option maxHeartbeats 2000000
namespace Mine
def ClsHere (C : Addr) (h : Heap) : Prop := ∃ N sl, h.get? C = some (clsK C N qK sl)
theorem clsHere_of {g h : Heap} {L C : Addr} {v : KV} {news : List (Addr × Obj)} (N : News g L h news) (K : KIn C v news) : ClsHere C h := ⟨_, _, N.get K.cls⟩
section
variable {w : World} {A : Around} {E : Value → Shared → Prop} {s : Shared} {C : Addr} {v : KV} {news : List (Addr × Obj)}
theorem keeps_K (h : Heap) (X : ClsHere C h) : ∃ k, (k = Keeper.frame ∨ k = Keeper.machine ∨ k = Keeper.boundFrame) ∧ Looks (model Challenge.rw_dn0037_01.row.prog w) h (keeperOf (.ref C)) k := by
  obtain ⟨N, sl, e⟩ := X
  refine ⟨.machine, .inr (.inl rfl), fun A Q E s hk hq => ?_⟩
  obtain ⟨h', gs, d, t, os⟩ := s
  have e' := hk _ _ e
  refine t_loadH (q := none) e' ?_
  refine t_loadH (q := some headPart) e' ?_
  exact eqk (t' := pure .machine) (by kernel_rfl) (wpAny_pure hq)
theorem callWith_K {env : Env} {pos : Pos} {e : PySem.Expr} {rest : List PySem.Expr} {first : List Value} {Q : Value → Shared → Prop} (_K : KIn C v news)
    (h : wpAny (model Challenge.rw_dn0037_01.row.prog w) A (spliced (backTo pos (starEach (e :: rest) env))) (fun vs s₁ => ClsHere C s₁.heap ∧ wpAny (model Challenge.rw_dn0037_01.row.prog w) A (call (.ref C) (first ++ vs)) Q E s₁) E s)
    (he : starEach (e :: rest) env = (false, eval e env) :: starEach rest env := by rfl) (hplain : (backTo pos (starEach rest env)).any (·.1) = false := by rfl) :
    wpAny (model Challenge.rw_dn0037_01.row.prog w) A (callWith pos (.ref C) first (backTo pos (starEach (e :: rest) env)) []) Q E s := by
  rw [he] at h ⊢
  exact callWith_of (by show ((false || (backTo pos (starEach rest env)).any (·.1)) || false) = false; rw [hplain]; rfl) keeps_K (evalArgs_plain h)
end
end Mine
end
section
open PySem PySem.W PyProof.Rows PySem.W.X PySem.Calls
set_option maxRecDepth 100000
set_option maxHeartbeats 2000000
namespace Mine
theorem allObj_mono : ∀ {ws : List (Addr × String)} {k k' : List (Addr × Obj) → Prop}, (∀ its, k its → k' its) → AllObj ws k → AllObj ws k'
  | [], _, _, h, x => h _ x
  | _ :: _, _, _, h, x => fun o ho => allObj_mono (fun its => h _) (x o ho)
theorem unrPost_mono {h₀ : Heap} {L : Addr} {s₁ : Shared} {its : List (Addr × Obj)} {r r' : (Str → Option Value) → List (Addr × Obj) → Prop} {Q : Flow → Shared → Prop} (h : ∀ m n, r m n → r' m n) {f : Flow} {s₂ : Shared} (x : UnrPostW h₀ L s₁ its r Q f s₂) : UnrPostW h₀ L s₁ its r' Q f s₂ := by
  cases f with
  | ret v => exact x
  | brk => exact x
  | next => obtain ⟨h', tk, m', n', a, b, c, d, e⟩ := x; exact ⟨h', tk, m', n', a, b, c, d, h _ _ e⟩
  | cont => obtain ⟨h', tk, m', n', a, b, c, d, e⟩ := x; exact ⟨h', tk, m', n', a, b, c, d, h _ _ e⟩
def Small (n : Nat) (x : Value) : Prop := ∃ (i : Nat) (t : Tok), x = .int (i : Int) t ∧ i < n
theorem zip_rest {prog : Program} {w : World} {A : Around} {E : Value → Shared → Prop} {s : Shared} {env : Env} {h₀ : Heap} {target : PySem.Expr} {body : List Stmt} {Q : Flow → Shared → Prop} {ws : List (Addr × String)} {keepL news : List (Addr × Obj)} {n : Nat} (hkeep : SubL keepL news)
    (turn : ∀ (i j : Nat) (t1 t2 : Tok) (T : Addr) (h : Heap) (tk : Nat) (u : Str → Option Value), i < n → j < n → IsTup h T #[.int (i : Int) t1, .int (j : Int) t2] → Fr h₀ env.locals h u → AllObj ws (fun its => News h₀ env.locals h (its ++ news) →
      wpAny (model prog w) A (assign target env (.ref T)) (fun _ s₂ => wpAny (model prog w) A (execs body env) (UnrPostW h₀ env.locals { s with heap := h, toks := tk } its (fun _ n' => n' = news) Q) E s₂) E { s with heap := h, toks := tk }))
    (done : ∀ u h tk, Fr h₀ env.locals h u → News h₀ env.locals h news → Q .next { s with heap := h, toks := tk }) :
    ∀ (xs ys : List Value) (m : Str → Option Value), (∀ x ∈ xs, Small n x) → (∀ y ∈ ys, Small n y) → ItemsRest prog w A E h₀ env target body Q s ws keepL (zipItems xs ys) m news
  | [], ys, m, _, _ => by
    have e : zipItems [] ys = [] := by cases ys <;> rfl
    rw [e]
    exact fun h tk F N => done m h tk F N
  | x :: xs, [], m, _, _ => fun h tk F N => done m h tk F N
  | x :: xs, y :: ys, m, hx, hy => by
    obtain ⟨i, t1, rfl, hi⟩ := hx x (List.mem_cons_self ..)
    obtain ⟨j, t2, rfl, hj⟩ := hy y (List.mem_cons_self ..)
    show ItemsRest prog w A E h₀ env target body Q s ws keepL (.pair (fun _ => .int (i : Int) t1) (.int (j : Int) t2) :: zipItems xs ys) m news
    refine ItemsRest.pair fun T t h tk hT F => ?_
    refine allObj_mono (fun its hk N => ?_) (turn i j t1 t2 T h tk m hi hj hT F)
    refine wpAny_mono (hk N) (fun _ s₂ h2 => wpAny_mono h2 (fun f s₃ h3 => unrPost_mono ?_ h3) fun _ _ e => e) fun _ _ e => e
    rintro m' n' rfl
    exact ⟨hkeep, zip_rest hkeep turn done xs ys m' (fun z hz => hx z (List.mem_cons_of_mem _ hz)) fun z hz => hy z (List.mem_cons_of_mem _ hz)⟩
theorem small_of {out : Array Value} {p : Array Nat} {n : Nat} (h : IntsAre out.toList (p.toList.map fun (i : Nat) => (i : Int))) (hp : ∀ x ∈ p, x < n) : ∀ x ∈ out.toList, Small n x := by
  have hp' : ∀ x ∈ p.toList, x < n := fun x hx => hp x (by simpa using hx)
  generalize out.toList = l at h
  generalize p.toList = q at h hp'
  clear hp
  induction l generalizing q with
  | nil => intro x hx; nomatch hx
  | cons a l ih =>
    cases q with
    | nil => cases h
    | cons b q =>
      rw [List.map_cons] at h
      cases h with
      | cons n' t' h' =>
        intro x hx
        rcases List.mem_cons.mp hx with rfl | hx
        · exact ⟨b, t', rfl, hp' b (List.mem_cons_self ..)⟩
        · exact ih q h' (fun z hz => hp' z (List.mem_cons_of_mem _ hz)) x hx
theorem small_pick {out : Array Value} {n : Nat} {lo hi st : Option Int} (h : ∀ x ∈ out.toList, Small n x) : ∀ x ∈ (slicePick out lo hi st).toList, Small n x := by
  intro x hx
  unfold slicePick at hx
  simp only [List.toList_toArray, List.mem_filterMap] at hx
  obtain ⟨k, _, hk⟩ := hx
  exact h x (by have := Array.mem_of_getElem? hk; simpa using this)
theorem out_size {out : Array Value} {p : Array Nat} {n : Nat} (h : IntsAre out.toList (p.toList.map fun (i : Nat) => (i : Int))) (hp : p.size = n) (hn : n ≤ 65) : out.size ≤ sizeLine := by
  have := h.length
  rw [Array.length_toList, List.length_map, Array.length_toList] at this
  rw [sizeLine_eq]; omega
end Mine
end
section
open PySem PySem.W PyProof.Rows PySem.W.X PySem.Calls
set_option maxRecDepth 100000
set_option maxHeartbeats 2000000
namespace Mine
theorem seq_tl (a : Array Value) (n : Nat) : Data.seq a n = .seq a.toList.toArray n := by rw [Array.toArray_toList]
theorem unr_end {h₀ h' : Heap} {L : Addr} {m' : Str → Option Value} {s₁ : Shared} {tk : Nat} {its news all : List (Addr × Obj)} (F : Fr h₀ L h' m') (N : News h₀ L h' all) (hs : ∀ p ∈ its ++ news, p ∈ all) (ho : ∀ p ∈ news, ∀ q ∈ its, p.1 ≠ q.1) :
    UnrEndW h₀ L s₁ its (fun _ n' => n' = news) { s₁ with heap := h', toks := tk } :=
  ⟨h', tk, m', news, rfl, F, fun p hp => N p (hs p hp), ho, rfl⟩
theorem its_off {I : Addr} {news : List (Addr × Obj)} {o1 o2 o3 o4 o5 : Obj} (h : ∀ p ∈ news, p.1 < I) : ∀ p ∈ news, ∀ q ∈ [(I + 4, o1), (I + 2, o2), (I + 3, o3), (I, o4), (I + 1, o5)], p.1 ≠ q.1 := by
  intro p hp q hq
  have := h p hp
  simp only [List.mem_cons, List.not_mem_nil, or_false] at hq
  rcases hq with rfl | rfl | rfl | rfl | rfl
  · exact ktu_ne 4 this
  · exact ktu_ne 2 this
  · exact ktu_ne 3 this
  · exact Nat.ne_of_lt this
  · exact ktu_ne 1 this
section
variable {w : World} {p : Program} {loose : List Str} {mean : ExcName → Option Value} {mg mb : Str → Option Value}
    {dp un : Nat} {gd : Option (List Code)} {cn : Str} {cs : Scope} {a : Addr} {ccd : Value} {cl : List (Str × Addr)} {outer : List Env} {A₀ : Around} {base h₀ : Heap} {L : Addr} {m : Str → Option Value} {s : Shared}
    {Q E : Value → Shared → Prop} {news : List (Addr × Obj)} {C : Addr} {v : KV}
theorem rich_eq_z {es : List (Int × Int)} {hv pv dv : List Value} {pts : List (Addr × Obj)} {i j : Nat} {h1 d1 h2 d2 : Int} {a1 a2 : Addr} {x1 y1 b1 x2 y2 b2 : UInt64} {t1 u1 th1 tb1 t2 u2 th2 tb2 : Tok} {ka kb dka dkb : Addr}
    (hA : At es hv pv dv pts i h1 d1 a1 x1 y1 b1 t1 u1 th1 tb1) (hB : At es hv pv dv pts j h2 d2 a2 x2 y2 b2 t2 u2 th2 tb2)
    (B : Below A₀ base outer h₀) (F : Fr h₀ L s.heap m) (X : (Mine.hd.heap_39 w.params).In h₀) (N : News h₀ L s.heap news) (K : KIn C v news)
    (ha : (ka, insO C dka #[some (.ref a1)]) ∈ news) (hb : (kb, insO C dkb #[some (.ref a2)]) ∈ news) (hp : ∀ p ∈ pts, p ∈ news)
    (T : Top p loose mean mg mb h₀) (hk : cs.kind = .function) (hd : dp + 4 < recursionLimit) (hu : un + 32 < cLine)
    (hret : ∀ h' tk', Fr h₀ L h' m → News h₀ L h' news → Q (.bool (decide (h1 = h2))) { s with heap := h', toks := tk' }) :
    wpAny (model Challenge.rw_dn0037_01.row.prog w) (ktrTop dp un gd cn cs L a ccd cl outer) (compareOp .Eq (.ref ka) (.ref kb)) Q E s := by
  refine cmp_ofEq (rich_eq B F X N K ha hb (hp _ hA.mem) (hp _ hB.mem) T hk hd hu ?_)
  rw [eqV_is hA.ix hA.iy hB.ix hB.iy hA.h0 hA.h1 hB.h0 hB.h1 hA.d0 hA.d1 hB.d0 hB.d1]
  exact hret
end
theorem bne_no {b : Bool} (h : (b != b) = true) : False := by simp at h
end Mine
end
section
open PySem PySem.W PyProof.Rows
set_option maxRecDepth 100000
set_option maxHeartbeats 8000000
set_option exponentiation.threshold 2100
namespace Mine
structure Hold (k : Nat) (P : Prop) : Prop where
  out : P
theorem hold_ {P : Prop} (k : Nat) (h : Hold k P) : P := h.out
local macro_rules | `(tactic| k_all) => `(tactic| assumption)
local macro_rules | `(tactic| k_mem) => `(tactic| assumption)
local macro_rules | `(tactic| k_mem) => `(tactic| ((repeat (first | assumption | exact List.mem_cons_self .. | refine List.mem_cons_of_mem _ ?_)); done))
local macro_rules | `(tactic| k_updF) => `(tactic| ((repeat (first | exact UpdF.head (by assumption) | refine UpdF.tail (Nat.ne_of_gt (by first | assumption | (dsimp only; omega))) ?_)); done))
local macro_rules | `(tactic| walk_at "eval Call") => `(tactic| (k_here; (with_reducible show wpAny _ _ (eval (PySem.Expr.Call (PySem.Expr.Name (Str.ofString "key") _) _ _ _) _) _ _ _); refine Call_ ?_))
local macro_rules | `(tactic| walk_at "binaryOp Div int int") => `(tactic| (k_here; refine hold_ 0 ?_))
local macro_rules | `(tactic| walk_at "call ref") => `(tactic| (k_here; refine hold_ 1 ?_))
local macro_rules | `(tactic| walk_at "call builtin:max") => `(tactic| (k_here; refine hold_ 2 ?_))
local macro_rules | `(tactic| walk_at "call builtin:min") => `(tactic| (k_here; refine hold_ 3 ?_))
local macro_rules | `(tactic| walk_at "binaryOp Sub float float") => `(tactic| (k_here; refine hold_ 4 ?_))
local macro_rules | `(tactic| walk_at "binaryOp Mult int float") => `(tactic| (k_here; refine hold_ 5 ?_))
local macro_rules | `(tactic| walk_at "compareOp NotEq float float") => `(tactic| (k_here; refine hold_ 6 ?_))
local macro_rules | `(tactic| walk_at "subscriptTail Name UnaryOp ref int") => `(tactic| (k_here; refine hold_ 7 ?_))
local macro_rules | `(tactic| walk_at "exec For Name Call cons nil") => `(tactic| (k_here; refine hold_ 8 ?_))
local macro_rules | `(tactic| walk_at "pyIter ref") => `(tactic| (k_here; refine hold_ 9 ?_))
local macro_rules | `(tactic| walk_at "call builtin:len") => `(tactic| (k_here; refine hold_ 10 ?_))
local macro_rules | `(tactic| walk_at "call type:range") => `(tactic| (k_here; refine hold_ 11 ?_))
local macro_rules | `(tactic| walk_at "subscriptTail Name Name ref int") => `(tactic| (k_here; refine hold_ 12 ?_))
local macro_rules | `(tactic| walk_at "compareOp Gt float int") => `(tactic| (k_here; refine hold_ 13 ?_))
local macro_rules | `(tactic| walk_at "compareOp Lt float int") => `(tactic| (k_here; refine hold_ 14 ?_))
local macro_rules | `(tactic| walk_at "binaryOp Mult float float") => `(tactic| (k_here; refine hold_ 15 ?_))
local macro_rules | `(tactic| walk_at "call builtin:sorted") => `(tactic| (k_here; refine hold_ 16 ?_))
local macro_rules | `(tactic| walk_at "subscriptTail Name Slice ref ref") => `(tactic| (k_here; refine hold_ 17 ?_))
local macro_rules | `(tactic| walk_at "call type:zip") => `(tactic| (k_here; refine hold_ 18 ?_))
local macro_rules | `(tactic| walk_at "compareOp Eq ref ref") => `(tactic| (k_here; refine hold_ 19 ?_))
local macro_rules | `(tactic| walk_at "exec For Tuple Call") => `(tactic| (k_here; refine hold_ 20 ?_))
local macro_rules | `(tactic| walk_at "And") => `(tactic| (k_here; (with_reducible show ClsHere _ _ ∧ _); refine hold_ 21 ?_))
local macro_rules | `(tactic| walk_at "compareOp NotEq ref ref") => `(tactic| (k_here; k_dflt (refine' ne_pt ?kx ?ky ?ka ?kb ?ku ?_; (case ka => exact News.get (by k_asm) (by k_mem)); (case kb => exact News.get (by k_asm) (by k_mem)); (case kx => assumption); (case ky => assumption); (case ku => k_units))))
local macro_rules | `(tactic| walk_at "callWith ref") => `(tactic| (k_here; k_dflt (refine' callWith_K ?kK ?_ ?k1 ?k2; (case kK => assumption); (case k1 => exact rfl); (case k2 => exact rfl); k_whole)))
theorem bne_dec {P Q : Prop} [Decidable P] [Decidable Q] (h : (decide P != decide Q) = true) (e : P ↔ Q) : False := by
  have : decide P = decide Q := decide_eq_decide.mpr e
  rw [this] at h
  simp at h
theorem main : PySem.Challenge.rw_dn0037_01.Holds := Mine.hd (by
  w_strict (
    k_go0; (all_goals try k_fold); k_steps
    repeat' ((first
        | (refine Hold.mk (k := 19) ?_; (with_unfolding_all refine' rich_eq_z ?hA ?hB ?kB ?kF ?kX ?kN ?kK ?ka ?kb ?kp ?kT ?kk ?kd ?ku ?_); k_dflt ((case kN => k_asm); (case ka => k_mem); (case kb => k_mem); (case hA => assumption); (case hB => assumption); (case kB => k_asm); (case kF => k_asm); (case kX => k_asm); (case kK => (refine KIn.mono (by assumption) ?_; intro p hp; (repeat (first | exact hp | refine List.mem_cons_of_mem _ ?_)))); (case kp => (intro p hp; (repeat (first | exact hp | refine List.mem_cons_of_mem _ ?_)))); (case kT => k_asm); (case kk => exact rfl); (case kd => ktr_room); (case ku => ktr_units)); intro h9 tk9 F9 N9; (try dsimp only); (try k_fold))
        | (refine Hold.mk (k := 17) ?_; k_dflt (refine' kmk_slice ?wF ?wN ?wl ?wp ?wq ?_ ?ws ?wt ?wz; (case wF => k_asm); (case wN => k_asm); (case wl => exact ⟨_, News.get (by k_asm) (by k_mem), rfl, _, rfl⟩); (case wp => exact IsPart.int _ _); (case wq => exact IsPart.none); (case ws => with_unfolding_all rfl); (case wt => kmk_pure); (case wz => exact out_size (by assumption) (Good.sz (by assumption)) (by omega))); intro D9 h9 F9 N9 l9)
        | (refine Hold.mk (k := 21) ?_; (with_reducible show ClsHere _ _ ∧ _); refine ⟨clsHere_of (by k_asm) (KIn.mono (by assumption) (by (intro p hp; (repeat (first | exact hp | refine List.mem_cons_of_mem _ ?_))))), ?_⟩)
        | (refine Hold.mk (k := 11) ?_; (with_reducible rename KIn _ _ _ => hK9); (k_dflt (refine' range1_N ?kF ?kN ?_; (case kF => k_asm); (case kN => k_asm))); intro r9 h9 tk9 t9 u9 v9 F9 N9 l9)
        | (refine Hold.mk (k := 1) ?_; (with_reducible show wpAny _ _ (call (Value.ref _) [Value.ref _]) _ _ _); (with_unfolding_all refine' key_c ?kB ?kF ?kX ?kN ?kK ?kT ?kk ?kd ?ku ?_; (case kN => k_asm); (case kK => (refine KIn.mono (by assumption) ?_; intro p hp; (repeat (first | exact hp | refine List.mem_cons_of_mem _ ?_)))); (case kB => k_asm); (case kF => k_asm); (case kX => k_asm); (case kT => k_asm); (case kk => exact rfl); (case kd => ktr_room); (case ku => ktr_units); k_whole); intro ka9 dk9 h9 tk9 F9 N9 l9; (try dsimp only); (try k_fold))
        | (refine Hold.mk (k := 6) ?_; k_dflt (refine' ne_cross ?kz ?ky ?k1 ?k2 ?k3 ?k4 ?ks ?_; (case kz => assumption); (case ky => assumption); (case k1 => assumption); (case k2 => assumption); (case k3 => assumption); (case k4 => assumption); (case ks => assumption)))
        | (refine Hold.mk (k := 15) ?_; k_dflt (refine' mul_is ?kx ?ky ?kb ?ke ?_; (case kx => assumption); (case ky => assumption); (case kb => assumption); (case ke => decide)); intro x9 hx9)
        | (refine Hold.mk (k := 14) ?_; k_dflt (refine' lt_cross ?kz ?k1 ?k2 ?k3 ?k4 ?k5 ?k6 ?_; (case kz => assumption); (case k1 => assumption); (case k2 => assumption); (case k3 => assumption); (case k4 => assumption); (case k5 => assumption); (case k6 => assumption)))
        | (refine Hold.mk (k := 13) ?_; k_dflt (refine' gt_cross ?kz ?k1 ?k2 ?k3 ?k4 ?k5 ?k6 ?_; (case kz => assumption); (case k1 => assumption); (case k2 => assumption); (case k3 => assumption); (case k4 => assumption); (case k5 => assumption); (case k6 => assumption)))
        | (refine Hold.mk (k := 1) ?_; (with_reducible show wpAny _ _ (call (Value.ref 35) [Value.ref _, Value.ref _]) _ _ _); (with_unfolding_all refine' cross_z ?hA ?hB ?kB ?kF ?kX ?kN ?kT ?kk ?kd ?ku ?ks ?_); k_dflt ((case hA => assumption); (case hB => assumption); (case kB => k_asm); (case kF => k_asm); (case kX => k_asm); (case kN => k_asm); (case kT => k_asm); (case kk => exact rfl); (case kd => ktr_room); (case ku => ktr_units); (case ks => (intro q9 hq9; (repeat (first | exact hq9 | exact List.mem_append_left _ hq9 | refine List.mem_cons_of_mem _ ?_))))); intro z9 t9 h9 tk9 hz9 F9 N9; (try dsimp only); (try k_fold))
        | (refine Hold.mk (k := 12) ?_; k_dflt (refine' item_nat ?kl ?ki ?kx ?_ ?ks; (case kl => exact News.get (by k_asm) (by k_mem)); (case kx => assumption); (case ki => omega); (case ks => with_unfolding_all rfl)))
        | (refine Hold.mk (k := 11) ?_; (k_dflt (refine' range1_rows ?kF ?kN ?_; (case kF => k_asm); (case kN => k_asm))); intro h9 tk9 t9 u9 v9 hR9 F9 N9 hk9; clear hk9)
        | (refine Hold.mk (k := 10) ?_; k_dflt (refine' len_my ?kl ?kz ?_; (case kl => exact News.get (by k_asm) (by k_mem)); (case kz => omega)))
        | (refine Hold.mk (k := 7) ?_; k_dflt (refine' item_last ?kl ?kn ?kx ?_ ?ks; (case kl => exact News.get (by k_asm) (by k_mem)); (case kn => omega); (case kx => assumption); (case ks => with_unfolding_all rfl)))
        | (refine Hold.mk (k := 6) ?_; k_dflt (refine' ne_same ?kx ?ky ?ke ?kq ?_; (case kx => assumption); (case ky => assumption); (case ke => decide); (case kq => ((try unfold cV); (try unfold cP); omega))))
        | (refine Hold.mk (k := 5) ?_; k_dflt (refine' mulif_is (e := 12) ?kn ?kx ?kb ?ke ?_; (case kn => decide); (case kx => assumption); (case kb => omega); (case ke => decide)); intro x9 hx9)
        | (refine Hold.mk (k := 4) ?_; k_dflt (refine' sub_is (e := 12) ?kx ?ky ?kb ?_; (case kx => assumption); (case ky => assumption); (case kb => omega)); intro x9 hx9)
        | (refine Hold.mk (k := 3) ?_; (with_reducible show wpAny _ _ (call (Value.builtin "min") [Value.float _ _, Value.float _ _, Value.float _ _]) _ _ _); k_dflt (refine' min_rgb ?kI ?kx ?ky ?kz ?hh ?kF ?kN ?_; (case kI => assumption); (case kx => assumption); (case ky => assumption); (case kz => assumption); (case hh => exact rfl); (case kF => k_asm); (case kN => k_asm)); intro r9 t9 h9 tk9 hm9 F9 N9; (try dsimp only))
        | (refine Hold.mk (k := 2) ?_; (with_reducible show wpAny _ _ (call (Value.builtin "max") [Value.float _ _, Value.float _ _, Value.float _ _]) _ _ _); k_dflt (refine' max_rgb ?kI ?kx ?ky ?kz ?hh ?kF ?kN ?_; (case kI => assumption); (case kx => assumption); (case ky => assumption); (case kz => assumption); (case hh => exact rfl); (case kF => k_asm); (case kN => k_asm)); intro r9 t9 h9 tk9 hm9 F9 N9; (try dsimp only))
        | (refine Hold.mk (k := 1) ?_; (with_reducible show wpAny _ _ (call (Value.ref 21) [Value.float _ _, Value.float _ _, Value.float _ _]) _ _ _); (with_unfolding_all refine' hsv_c ?kB ?kF ?kX ?kN ?kT ?kk ?kd ?ku ?kI ?kh ?ks ?kv ?_); k_dflt ((case kh => assumption); (case ks => assumption); (case kv => assumption); (case kB => k_asm); (case kF => k_asm); (case kX => k_asm); (case kN => k_asm); (case kT => k_asm); (case kk => exact rfl); (case kd => ktr_room); (case ku => ktr_units); (case kI => assumption)); intro r9 g9 b9 t9 u9 v9 D9 h9 tk9 hR9 F9 N9 l1; (obtain ⟨hr9, hg9, hb9⟩ := hR9); (try k_lt l1); (try dsimp only); (try k_fold))
        | (refine Hold.mk (k := 0) ?_; (with_reducible show wpAny _ _ (binaryOp Operator.Div (Value.int _ _) (Value.int 8 _)) _ _ _); k_dflt (refine' div8 ?hh ?ha ?_; (case hh => exact rfl); (case ha => omega)); intro x9 hx9)
        | (refine Hold.mk (k := 0) ?_; (with_reducible show wpAny _ _ (binaryOp Operator.Div (Value.int _ _) (Value.int 64 _)) _ _ _); k_dflt (refine' div64 ?hh ?ha ?_; (case hh => exact rfl); (case ha => omega)); intro x9 hx9)); k_steps)
    refine Hold.mk ?_
    refine' loop1' (depths := Str.ofString "depths") ?hh ?F ?N ?I ?hne ?hm ?hxd ?turn ?done
    (case hh => exact rfl)
    (case F => k_asm)
    (case N => k_asm)
    (case I => assumption)
    (case hne => exact ⟨Nat.ne_of_lt (by omega), Nat.ne_of_lt (by omega), Nat.ne_of_lt (by omega)⟩)
    (case hm => exact rfl)
    (case hxd => decide)
    (case turn =>
      intro i n t u hv pv dv nh np nd pts own s1 I hn hinv hpts hoD hoP hoH hfI hDI hPI hHI hIo hDo F1 N1
      have hIns := ins_of n
      have hBd := rgb_bounds hIns
      have hI0 := hIns.h0
      have hI1 := hIns.h1
      have hI2 := hIns.s0
      have hI3 := hIns.s1
      have hI4 := hIns.v0
      have hI5 := hIns.v1
      have hL1 : hv.length ≤ 66 := by rw [hinv.h.1]; exact Nat.le_trans (ents_length _) (by simp; omega)
      have hL2 : pv.length ≤ 66 := by rw [hinv.p.1]; exact Nat.le_trans (ents_length _) (by simp; omega)
      have hL3 : dv.length ≤ 66 := by rw [hinv.d.1]; exact Nat.le_trans (ents_length _) (by simp; omega)
      simp only [List.cons_append, List.nil_append] at N1
      k_steps
      repeat' ((first
          | (refine Hold.mk (k := 19) ?_; (with_unfolding_all refine' rich_eq_z ?hA ?hB ?kB ?kF ?kX ?kN ?kK ?ka ?kb ?kp ?kT ?kk ?kd ?ku ?_); k_dflt ((case kN => k_asm); (case ka => k_mem); (case kb => k_mem); (case hA => assumption); (case hB => assumption); (case kB => k_asm); (case kF => k_asm); (case kX => k_asm); (case kK => (refine KIn.mono (by assumption) ?_; intro p hp; (repeat (first | exact hp | refine List.mem_cons_of_mem _ ?_)))); (case kp => (intro p hp; (repeat (first | exact hp | refine List.mem_cons_of_mem _ ?_)))); (case kT => k_asm); (case kk => exact rfl); (case kd => ktr_room); (case ku => ktr_units)); intro h9 tk9 F9 N9; (try dsimp only); (try k_fold))
          | (refine Hold.mk (k := 17) ?_; k_dflt (refine' kmk_slice ?wF ?wN ?wl ?wp ?wq ?_ ?ws ?wt ?wz; (case wF => k_asm); (case wN => k_asm); (case wl => exact ⟨_, News.get (by k_asm) (by k_mem), rfl, _, rfl⟩); (case wp => exact IsPart.int _ _); (case wq => exact IsPart.none); (case ws => with_unfolding_all rfl); (case wt => kmk_pure); (case wz => exact out_size (by assumption) (Good.sz (by assumption)) (by omega))); intro D9 h9 F9 N9 l9)
          | (refine Hold.mk (k := 21) ?_; (with_reducible show ClsHere _ _ ∧ _); refine ⟨clsHere_of (by k_asm) (KIn.mono (by assumption) (by (intro p hp; (repeat (first | exact hp | refine List.mem_cons_of_mem _ ?_))))), ?_⟩)
          | (refine Hold.mk (k := 11) ?_; (with_reducible rename KIn _ _ _ => hK9); (k_dflt (refine' range1_N ?kF ?kN ?_; (case kF => k_asm); (case kN => k_asm))); intro r9 h9 tk9 t9 u9 v9 F9 N9 l9)
          | (refine Hold.mk (k := 1) ?_; (with_reducible show wpAny _ _ (call (Value.ref _) [Value.ref _]) _ _ _); (with_unfolding_all refine' key_c ?kB ?kF ?kX ?kN ?kK ?kT ?kk ?kd ?ku ?_; (case kN => k_asm); (case kK => (refine KIn.mono (by assumption) ?_; intro p hp; (repeat (first | exact hp | refine List.mem_cons_of_mem _ ?_)))); (case kB => k_asm); (case kF => k_asm); (case kX => k_asm); (case kT => k_asm); (case kk => exact rfl); (case kd => ktr_room); (case ku => ktr_units); k_whole); intro ka9 dk9 h9 tk9 F9 N9 l9; (try dsimp only); (try k_fold))
          | (refine Hold.mk (k := 6) ?_; k_dflt (refine' ne_cross ?kz ?ky ?k1 ?k2 ?k3 ?k4 ?ks ?_; (case kz => assumption); (case ky => assumption); (case k1 => assumption); (case k2 => assumption); (case k3 => assumption); (case k4 => assumption); (case ks => assumption)))
          | (refine Hold.mk (k := 15) ?_; k_dflt (refine' mul_is ?kx ?ky ?kb ?ke ?_; (case kx => assumption); (case ky => assumption); (case kb => assumption); (case ke => decide)); intro x9 hx9)
          | (refine Hold.mk (k := 14) ?_; k_dflt (refine' lt_cross ?kz ?k1 ?k2 ?k3 ?k4 ?k5 ?k6 ?_; (case kz => assumption); (case k1 => assumption); (case k2 => assumption); (case k3 => assumption); (case k4 => assumption); (case k5 => assumption); (case k6 => assumption)))
          | (refine Hold.mk (k := 13) ?_; k_dflt (refine' gt_cross ?kz ?k1 ?k2 ?k3 ?k4 ?k5 ?k6 ?_; (case kz => assumption); (case k1 => assumption); (case k2 => assumption); (case k3 => assumption); (case k4 => assumption); (case k5 => assumption); (case k6 => assumption)))
          | (refine Hold.mk (k := 1) ?_; (with_reducible show wpAny _ _ (call (Value.ref 35) [Value.ref _, Value.ref _]) _ _ _); (with_unfolding_all refine' cross_z ?hA ?hB ?kB ?kF ?kX ?kN ?kT ?kk ?kd ?ku ?ks ?_); k_dflt ((case hA => assumption); (case hB => assumption); (case kB => k_asm); (case kF => k_asm); (case kX => k_asm); (case kN => k_asm); (case kT => k_asm); (case kk => exact rfl); (case kd => ktr_room); (case ku => ktr_units); (case ks => (intro q9 hq9; (repeat (first | exact hq9 | exact List.mem_append_left _ hq9 | refine List.mem_cons_of_mem _ ?_))))); intro z9 t9 h9 tk9 hz9 F9 N9; (try dsimp only); (try k_fold))
          | (refine Hold.mk (k := 12) ?_; k_dflt (refine' item_nat ?kl ?ki ?kx ?_ ?ks; (case kl => exact News.get (by k_asm) (by k_mem)); (case kx => assumption); (case ki => omega); (case ks => with_unfolding_all rfl)))
          | (refine Hold.mk (k := 11) ?_; (k_dflt (refine' range1_rows ?kF ?kN ?_; (case kF => k_asm); (case kN => k_asm))); intro h9 tk9 t9 u9 v9 hR9 F9 N9 hk9; clear hk9)
          | (refine Hold.mk (k := 10) ?_; k_dflt (refine' len_my ?kl ?kz ?_; (case kl => exact News.get (by k_asm) (by k_mem)); (case kz => omega)))
          | (refine Hold.mk (k := 7) ?_; k_dflt (refine' item_last ?kl ?kn ?kx ?_ ?ks; (case kl => exact News.get (by k_asm) (by k_mem)); (case kn => omega); (case kx => assumption); (case ks => with_unfolding_all rfl)))
          | (refine Hold.mk (k := 6) ?_; k_dflt (refine' ne_same ?kx ?ky ?ke ?kq ?_; (case kx => assumption); (case ky => assumption); (case ke => decide); (case kq => ((try unfold cV); (try unfold cP); omega))))
          | (refine Hold.mk (k := 5) ?_; k_dflt (refine' mulif_is (e := 12) ?kn ?kx ?kb ?ke ?_; (case kn => decide); (case kx => assumption); (case kb => omega); (case ke => decide)); intro x9 hx9)
          | (refine Hold.mk (k := 4) ?_; k_dflt (refine' sub_is (e := 12) ?kx ?ky ?kb ?_; (case kx => assumption); (case ky => assumption); (case kb => omega)); intro x9 hx9)
          | (refine Hold.mk (k := 3) ?_; (with_reducible show wpAny _ _ (call (Value.builtin "min") [Value.float _ _, Value.float _ _, Value.float _ _]) _ _ _); k_dflt (refine' min_rgb ?kI ?kx ?ky ?kz ?hh ?kF ?kN ?_; (case kI => assumption); (case kx => assumption); (case ky => assumption); (case kz => assumption); (case hh => exact rfl); (case kF => k_asm); (case kN => k_asm)); intro r9 t9 h9 tk9 hm9 F9 N9; (try dsimp only))
          | (refine Hold.mk (k := 2) ?_; (with_reducible show wpAny _ _ (call (Value.builtin "max") [Value.float _ _, Value.float _ _, Value.float _ _]) _ _ _); k_dflt (refine' max_rgb ?kI ?kx ?ky ?kz ?hh ?kF ?kN ?_; (case kI => assumption); (case kx => assumption); (case ky => assumption); (case kz => assumption); (case hh => exact rfl); (case kF => k_asm); (case kN => k_asm)); intro r9 t9 h9 tk9 hm9 F9 N9; (try dsimp only))
          | (refine Hold.mk (k := 1) ?_; (with_reducible show wpAny _ _ (call (Value.ref 21) [Value.float _ _, Value.float _ _, Value.float _ _]) _ _ _); (with_unfolding_all refine' hsv_c ?kB ?kF ?kX ?kN ?kT ?kk ?kd ?ku ?kI ?kh ?ks ?kv ?_); k_dflt ((case kh => assumption); (case ks => assumption); (case kv => assumption); (case kB => k_asm); (case kF => k_asm); (case kX => k_asm); (case kN => k_asm); (case kT => k_asm); (case kk => exact rfl); (case kd => ktr_room); (case ku => ktr_units); (case kI => assumption)); intro r9 g9 b9 t9 u9 v9 D9 h9 tk9 hR9 F9 N9 l1; (obtain ⟨hr9, hg9, hb9⟩ := hR9); (try k_lt l1); (try dsimp only); (try k_fold))
          | (refine Hold.mk (k := 0) ?_; (with_reducible show wpAny _ _ (binaryOp Operator.Div (Value.int _ _) (Value.int 8 _)) _ _ _); k_dflt (refine' div8 ?hh ?ha ?_; (case hh => exact rfl); (case ha => omega)); intro x9 hx9)
          | (refine Hold.mk (k := 0) ?_; (with_reducible show wpAny _ _ (binaryOp Operator.Div (Value.int _ _) (Value.int 64 _)) _ _ _); k_dflt (refine' div64 ?hh ?ha ?_; (case hh => exact rfl); (case ha => omega)); intro x9 hx9)); k_steps)
      · rename_i D7 h7 hlt7 h8 tk8 h9 F9 N9
        exact turn_add F9 N9 rfl rfl rfl rfl hn (by assumption) (by assumption) (by assumption) (by assumption) hinv hpts ⟨Nat.ne_of_gt (by omega), Nat.ne_of_gt (by omega), Nat.ne_of_gt (by omega)⟩ (ktn_ltOf hlt7.2.2.2.2.2.2.2.2.2.2) hIo hDo hfI hDI hPI hHI
      · exact turn_skip (by assumption) (by assumption) rfl hn (by first | assumption | omega) hinv hpts hfI hDI hPI hHI)
    (case done =>
      rename_i lH _ _ lP _ _ lD _ _ _ _ _ _ _ _ _ _ _ _ _ _ _ _ _ _ _ _ _ _ _ _ _ _ _ _
      intro u hv pv dv nh np nd pts h1 tk1 hinv hpts F1 N1
      simp only [List.cons_append, List.nil_append] at N1
      have hE := ends_facts (by assumption)
      obtain ⟨aL, xL, yL, tL, uL, hlast, hmL, hxL, hyL⟩ := last_pt hinv
      have hl1 := hinv.h.1
      have hl2 := hinv.p.1
      have hl3 := hinv.d.1
      k_steps
      repeat' ((first
          | (refine Hold.mk (k := 19) ?_; (with_unfolding_all refine' rich_eq_z ?hA ?hB ?kB ?kF ?kX ?kN ?kK ?ka ?kb ?kp ?kT ?kk ?kd ?ku ?_); k_dflt ((case kN => k_asm); (case ka => k_mem); (case kb => k_mem); (case hA => assumption); (case hB => assumption); (case kB => k_asm); (case kF => k_asm); (case kX => k_asm); (case kK => (refine KIn.mono (by assumption) ?_; intro p hp; (repeat (first | exact hp | refine List.mem_cons_of_mem _ ?_)))); (case kp => (intro p hp; (repeat (first | exact hp | refine List.mem_cons_of_mem _ ?_)))); (case kT => k_asm); (case kk => exact rfl); (case kd => ktr_room); (case ku => ktr_units)); intro h9 tk9 F9 N9; (try dsimp only); (try k_fold))
          | (refine Hold.mk (k := 17) ?_; k_dflt (refine' kmk_slice ?wF ?wN ?wl ?wp ?wq ?_ ?ws ?wt ?wz; (case wF => k_asm); (case wN => k_asm); (case wl => exact ⟨_, News.get (by k_asm) (by k_mem), rfl, _, rfl⟩); (case wp => exact IsPart.int _ _); (case wq => exact IsPart.none); (case ws => with_unfolding_all rfl); (case wt => kmk_pure); (case wz => exact out_size (by assumption) (Good.sz (by assumption)) (by omega))); intro D9 h9 F9 N9 l9)
          | (refine Hold.mk (k := 21) ?_; (with_reducible show ClsHere _ _ ∧ _); refine ⟨clsHere_of (by k_asm) (KIn.mono (by assumption) (by (intro p hp; (repeat (first | exact hp | refine List.mem_cons_of_mem _ ?_))))), ?_⟩)
          | (refine Hold.mk (k := 11) ?_; (with_reducible rename KIn _ _ _ => hK9); (k_dflt (refine' range1_N ?kF ?kN ?_; (case kF => k_asm); (case kN => k_asm))); intro r9 h9 tk9 t9 u9 v9 F9 N9 l9)
          | (refine Hold.mk (k := 1) ?_; (with_reducible show wpAny _ _ (call (Value.ref _) [Value.ref _]) _ _ _); (with_unfolding_all refine' key_c ?kB ?kF ?kX ?kN ?kK ?kT ?kk ?kd ?ku ?_; (case kN => k_asm); (case kK => (refine KIn.mono (by assumption) ?_; intro p hp; (repeat (first | exact hp | refine List.mem_cons_of_mem _ ?_)))); (case kB => k_asm); (case kF => k_asm); (case kX => k_asm); (case kT => k_asm); (case kk => exact rfl); (case kd => ktr_room); (case ku => ktr_units); k_whole); intro ka9 dk9 h9 tk9 F9 N9 l9; (try dsimp only); (try k_fold))
          | (refine Hold.mk (k := 6) ?_; k_dflt (refine' ne_cross ?kz ?ky ?k1 ?k2 ?k3 ?k4 ?ks ?_; (case kz => assumption); (case ky => assumption); (case k1 => assumption); (case k2 => assumption); (case k3 => assumption); (case k4 => assumption); (case ks => assumption)))
          | (refine Hold.mk (k := 15) ?_; k_dflt (refine' mul_is ?kx ?ky ?kb ?ke ?_; (case kx => assumption); (case ky => assumption); (case kb => assumption); (case ke => decide)); intro x9 hx9)
          | (refine Hold.mk (k := 14) ?_; k_dflt (refine' lt_cross ?kz ?k1 ?k2 ?k3 ?k4 ?k5 ?k6 ?_; (case kz => assumption); (case k1 => assumption); (case k2 => assumption); (case k3 => assumption); (case k4 => assumption); (case k5 => assumption); (case k6 => assumption)))
          | (refine Hold.mk (k := 13) ?_; k_dflt (refine' gt_cross ?kz ?k1 ?k2 ?k3 ?k4 ?k5 ?k6 ?_; (case kz => assumption); (case k1 => assumption); (case k2 => assumption); (case k3 => assumption); (case k4 => assumption); (case k5 => assumption); (case k6 => assumption)))
          | (refine Hold.mk (k := 1) ?_; (with_reducible show wpAny _ _ (call (Value.ref 35) [Value.ref _, Value.ref _]) _ _ _); (with_unfolding_all refine' cross_z ?hA ?hB ?kB ?kF ?kX ?kN ?kT ?kk ?kd ?ku ?ks ?_); k_dflt ((case hA => assumption); (case hB => assumption); (case kB => k_asm); (case kF => k_asm); (case kX => k_asm); (case kN => k_asm); (case kT => k_asm); (case kk => exact rfl); (case kd => ktr_room); (case ku => ktr_units); (case ks => (intro q9 hq9; (repeat (first | exact hq9 | exact List.mem_append_left _ hq9 | refine List.mem_cons_of_mem _ ?_))))); intro z9 t9 h9 tk9 hz9 F9 N9; (try dsimp only); (try k_fold))
          | (refine Hold.mk (k := 12) ?_; k_dflt (refine' item_nat ?kl ?ki ?kx ?_ ?ks; (case kl => exact News.get (by k_asm) (by k_mem)); (case kx => assumption); (case ki => omega); (case ks => with_unfolding_all rfl)))
          | (refine Hold.mk (k := 11) ?_; (k_dflt (refine' range1_rows ?kF ?kN ?_; (case kF => k_asm); (case kN => k_asm))); intro h9 tk9 t9 u9 v9 hR9 F9 N9 hk9; clear hk9)
          | (refine Hold.mk (k := 10) ?_; k_dflt (refine' len_my ?kl ?kz ?_; (case kl => exact News.get (by k_asm) (by k_mem)); (case kz => omega)))
          | (refine Hold.mk (k := 7) ?_; k_dflt (refine' item_last ?kl ?kn ?kx ?_ ?ks; (case kl => exact News.get (by k_asm) (by k_mem)); (case kn => omega); (case kx => assumption); (case ks => with_unfolding_all rfl)))
          | (refine Hold.mk (k := 6) ?_; k_dflt (refine' ne_same ?kx ?ky ?ke ?kq ?_; (case kx => assumption); (case ky => assumption); (case ke => decide); (case kq => ((try unfold cV); (try unfold cP); omega))))
          | (refine Hold.mk (k := 5) ?_; k_dflt (refine' mulif_is (e := 12) ?kn ?kx ?kb ?ke ?_; (case kn => decide); (case kx => assumption); (case kb => omega); (case ke => decide)); intro x9 hx9)
          | (refine Hold.mk (k := 4) ?_; k_dflt (refine' sub_is (e := 12) ?kx ?ky ?kb ?_; (case kx => assumption); (case ky => assumption); (case kb => omega)); intro x9 hx9)
          | (refine Hold.mk (k := 3) ?_; (with_reducible show wpAny _ _ (call (Value.builtin "min") [Value.float _ _, Value.float _ _, Value.float _ _]) _ _ _); k_dflt (refine' min_rgb ?kI ?kx ?ky ?kz ?hh ?kF ?kN ?_; (case kI => assumption); (case kx => assumption); (case ky => assumption); (case kz => assumption); (case hh => exact rfl); (case kF => k_asm); (case kN => k_asm)); intro r9 t9 h9 tk9 hm9 F9 N9; (try dsimp only))
          | (refine Hold.mk (k := 2) ?_; (with_reducible show wpAny _ _ (call (Value.builtin "max") [Value.float _ _, Value.float _ _, Value.float _ _]) _ _ _); k_dflt (refine' max_rgb ?kI ?kx ?ky ?kz ?hh ?kF ?kN ?_; (case kI => assumption); (case kx => assumption); (case ky => assumption); (case kz => assumption); (case hh => exact rfl); (case kF => k_asm); (case kN => k_asm)); intro r9 t9 h9 tk9 hm9 F9 N9; (try dsimp only))
          | (refine Hold.mk (k := 1) ?_; (with_reducible show wpAny _ _ (call (Value.ref 21) [Value.float _ _, Value.float _ _, Value.float _ _]) _ _ _); (with_unfolding_all refine' hsv_c ?kB ?kF ?kX ?kN ?kT ?kk ?kd ?ku ?kI ?kh ?ks ?kv ?_); k_dflt ((case kh => assumption); (case ks => assumption); (case kv => assumption); (case kB => k_asm); (case kF => k_asm); (case kX => k_asm); (case kN => k_asm); (case kT => k_asm); (case kk => exact rfl); (case kd => ktr_room); (case ku => ktr_units); (case kI => assumption)); intro r9 g9 b9 t9 u9 v9 D9 h9 tk9 hR9 F9 N9 l1; (obtain ⟨hr9, hg9, hb9⟩ := hR9); (try k_lt l1); (try dsimp only); (try k_fold))
          | (refine Hold.mk (k := 0) ?_; (with_reducible show wpAny _ _ (binaryOp Operator.Div (Value.int _ _) (Value.int 8 _)) _ _ _); k_dflt (refine' div8 ?hh ?ha ?_; (case hh => exact rfl); (case ha => omega)); intro x9 hx9)
          | (refine Hold.mk (k := 0) ?_; (with_reducible show wpAny _ _ (binaryOp Operator.Div (Value.int _ _) (Value.int 64 _)) _ _ _); k_dflt (refine' div64 ?hh ?ha ?_; (case hh => exact rfl); (case ha => omega)); intro x9 hx9)); k_steps)
      refine Hold.mk ?_
      refine' for_inv ?kF ?k1 ?k2 ?_ ?k3 ?k4
      (case kF => k_asm)
      (case k1 => rfl)
      (case k2 => rfl)
      (case k3 => (intro _; rfl))
      (case k4 => passes_own)
      k_steps
      repeat' ((first
          | (refine Hold.mk (k := 19) ?_; (with_unfolding_all refine' rich_eq_z ?hA ?hB ?kB ?kF ?kX ?kN ?kK ?ka ?kb ?kp ?kT ?kk ?kd ?ku ?_); k_dflt ((case kN => k_asm); (case ka => k_mem); (case kb => k_mem); (case hA => assumption); (case hB => assumption); (case kB => k_asm); (case kF => k_asm); (case kX => k_asm); (case kK => (refine KIn.mono (by assumption) ?_; intro p hp; (repeat (first | exact hp | refine List.mem_cons_of_mem _ ?_)))); (case kp => (intro p hp; (repeat (first | exact hp | refine List.mem_cons_of_mem _ ?_)))); (case kT => k_asm); (case kk => exact rfl); (case kd => ktr_room); (case ku => ktr_units)); intro h9 tk9 F9 N9; (try dsimp only); (try k_fold))
          | (refine Hold.mk (k := 17) ?_; k_dflt (refine' kmk_slice ?wF ?wN ?wl ?wp ?wq ?_ ?ws ?wt ?wz; (case wF => k_asm); (case wN => k_asm); (case wl => exact ⟨_, News.get (by k_asm) (by k_mem), rfl, _, rfl⟩); (case wp => exact IsPart.int _ _); (case wq => exact IsPart.none); (case ws => with_unfolding_all rfl); (case wt => kmk_pure); (case wz => exact out_size (by assumption) (Good.sz (by assumption)) (by omega))); intro D9 h9 F9 N9 l9)
          | (refine Hold.mk (k := 21) ?_; (with_reducible show ClsHere _ _ ∧ _); refine ⟨clsHere_of (by k_asm) (KIn.mono (by assumption) (by (intro p hp; (repeat (first | exact hp | refine List.mem_cons_of_mem _ ?_))))), ?_⟩)
          | (refine Hold.mk (k := 11) ?_; (with_reducible rename KIn _ _ _ => hK9); (k_dflt (refine' range1_N ?kF ?kN ?_; (case kF => k_asm); (case kN => k_asm))); intro r9 h9 tk9 t9 u9 v9 F9 N9 l9)
          | (refine Hold.mk (k := 1) ?_; (with_reducible show wpAny _ _ (call (Value.ref _) [Value.ref _]) _ _ _); (with_unfolding_all refine' key_c ?kB ?kF ?kX ?kN ?kK ?kT ?kk ?kd ?ku ?_; (case kN => k_asm); (case kK => (refine KIn.mono (by assumption) ?_; intro p hp; (repeat (first | exact hp | refine List.mem_cons_of_mem _ ?_)))); (case kB => k_asm); (case kF => k_asm); (case kX => k_asm); (case kT => k_asm); (case kk => exact rfl); (case kd => ktr_room); (case ku => ktr_units); k_whole); intro ka9 dk9 h9 tk9 F9 N9 l9; (try dsimp only); (try k_fold))
          | (refine Hold.mk (k := 6) ?_; k_dflt (refine' ne_cross ?kz ?ky ?k1 ?k2 ?k3 ?k4 ?ks ?_; (case kz => assumption); (case ky => assumption); (case k1 => assumption); (case k2 => assumption); (case k3 => assumption); (case k4 => assumption); (case ks => assumption)))
          | (refine Hold.mk (k := 15) ?_; k_dflt (refine' mul_is ?kx ?ky ?kb ?ke ?_; (case kx => assumption); (case ky => assumption); (case kb => assumption); (case ke => decide)); intro x9 hx9)
          | (refine Hold.mk (k := 14) ?_; k_dflt (refine' lt_cross ?kz ?k1 ?k2 ?k3 ?k4 ?k5 ?k6 ?_; (case kz => assumption); (case k1 => assumption); (case k2 => assumption); (case k3 => assumption); (case k4 => assumption); (case k5 => assumption); (case k6 => assumption)))
          | (refine Hold.mk (k := 13) ?_; k_dflt (refine' gt_cross ?kz ?k1 ?k2 ?k3 ?k4 ?k5 ?k6 ?_; (case kz => assumption); (case k1 => assumption); (case k2 => assumption); (case k3 => assumption); (case k4 => assumption); (case k5 => assumption); (case k6 => assumption)))
          | (refine Hold.mk (k := 1) ?_; (with_reducible show wpAny _ _ (call (Value.ref 35) [Value.ref _, Value.ref _]) _ _ _); (with_unfolding_all refine' cross_z ?hA ?hB ?kB ?kF ?kX ?kN ?kT ?kk ?kd ?ku ?ks ?_); k_dflt ((case hA => assumption); (case hB => assumption); (case kB => k_asm); (case kF => k_asm); (case kX => k_asm); (case kN => k_asm); (case kT => k_asm); (case kk => exact rfl); (case kd => ktr_room); (case ku => ktr_units); (case ks => (intro q9 hq9; (repeat (first | exact hq9 | exact List.mem_append_left _ hq9 | refine List.mem_cons_of_mem _ ?_))))); intro z9 t9 h9 tk9 hz9 F9 N9; (try dsimp only); (try k_fold))
          | (refine Hold.mk (k := 12) ?_; k_dflt (refine' item_nat ?kl ?ki ?kx ?_ ?ks; (case kl => exact News.get (by k_asm) (by k_mem)); (case kx => assumption); (case ki => omega); (case ks => with_unfolding_all rfl)))
          | (refine Hold.mk (k := 11) ?_; (k_dflt (refine' range1_rows ?kF ?kN ?_; (case kF => k_asm); (case kN => k_asm))); intro h9 tk9 t9 u9 v9 hR9 F9 N9 hk9; clear hk9)
          | (refine Hold.mk (k := 10) ?_; k_dflt (refine' len_my ?kl ?kz ?_; (case kl => exact News.get (by k_asm) (by k_mem)); (case kz => omega)))
          | (refine Hold.mk (k := 7) ?_; k_dflt (refine' item_last ?kl ?kn ?kx ?_ ?ks; (case kl => exact News.get (by k_asm) (by k_mem)); (case kn => omega); (case kx => assumption); (case ks => with_unfolding_all rfl)))
          | (refine Hold.mk (k := 6) ?_; k_dflt (refine' ne_same ?kx ?ky ?ke ?kq ?_; (case kx => assumption); (case ky => assumption); (case ke => decide); (case kq => ((try unfold cV); (try unfold cP); omega))))
          | (refine Hold.mk (k := 5) ?_; k_dflt (refine' mulif_is (e := 12) ?kn ?kx ?kb ?ke ?_; (case kn => decide); (case kx => assumption); (case kb => omega); (case ke => decide)); intro x9 hx9)
          | (refine Hold.mk (k := 4) ?_; k_dflt (refine' sub_is (e := 12) ?kx ?ky ?kb ?_; (case kx => assumption); (case ky => assumption); (case kb => omega)); intro x9 hx9)
          | (refine Hold.mk (k := 3) ?_; (with_reducible show wpAny _ _ (call (Value.builtin "min") [Value.float _ _, Value.float _ _, Value.float _ _]) _ _ _); k_dflt (refine' min_rgb ?kI ?kx ?ky ?kz ?hh ?kF ?kN ?_; (case kI => assumption); (case kx => assumption); (case ky => assumption); (case kz => assumption); (case hh => exact rfl); (case kF => k_asm); (case kN => k_asm)); intro r9 t9 h9 tk9 hm9 F9 N9; (try dsimp only))
          | (refine Hold.mk (k := 2) ?_; (with_reducible show wpAny _ _ (call (Value.builtin "max") [Value.float _ _, Value.float _ _, Value.float _ _]) _ _ _); k_dflt (refine' max_rgb ?kI ?kx ?ky ?kz ?hh ?kF ?kN ?_; (case kI => assumption); (case kx => assumption); (case ky => assumption); (case kz => assumption); (case hh => exact rfl); (case kF => k_asm); (case kN => k_asm)); intro r9 t9 h9 tk9 hm9 F9 N9; (try dsimp only))
          | (refine Hold.mk (k := 1) ?_; (with_reducible show wpAny _ _ (call (Value.ref 21) [Value.float _ _, Value.float _ _, Value.float _ _]) _ _ _); (with_unfolding_all refine' hsv_c ?kB ?kF ?kX ?kN ?kT ?kk ?kd ?ku ?kI ?kh ?ks ?kv ?_); k_dflt ((case kh => assumption); (case ks => assumption); (case kv => assumption); (case kB => k_asm); (case kF => k_asm); (case kX => k_asm); (case kN => k_asm); (case kT => k_asm); (case kk => exact rfl); (case kd => ktr_room); (case ku => ktr_units); (case kI => assumption)); intro r9 g9 b9 t9 u9 v9 D9 h9 tk9 hR9 F9 N9 l1; (obtain ⟨hr9, hg9, hb9⟩ := hR9); (try k_lt l1); (try dsimp only); (try k_fold))
          | (refine Hold.mk (k := 0) ?_; (with_reducible show wpAny _ _ (binaryOp Operator.Div (Value.int _ _) (Value.int 8 _)) _ _ _); k_dflt (refine' div8 ?hh ?ha ?_; (case hh => exact rfl); (case ha => omega)); intro x9 hx9)
          | (refine Hold.mk (k := 0) ?_; (with_reducible show wpAny _ _ (binaryOp Operator.Div (Value.int _ _) (Value.int 64 _)) _ _ _); k_dflt (refine' div64 ?hh ?ha ?_; (case hh => exact rfl); (case ha => omega)); intro x9 hx9)); k_steps)
      refine Hold.mk ?_
      refine' loop_range [(Str.ofString "depths", Value.ref lD)] ?hh ?hR ?hn ?F ?N ?hk ?turn ?done
      (case hh => exact rfl)
      (case hR => assumption)
      (case hn => omega)
      (case F => k_asm)
      (case N => k_asm)
      (case hk => exact keeps_cons (if_pos rfl) (keeps_nil _))
      (case done =>
        intro u2 h2 tk2 F2 N2
        simp only [kmap] at F2
        k_steps
        repeat' ((first
            | (refine Hold.mk (k := 19) ?_; (with_unfolding_all refine' rich_eq_z ?hA ?hB ?kB ?kF ?kX ?kN ?kK ?ka ?kb ?kp ?kT ?kk ?kd ?ku ?_); k_dflt ((case kN => k_asm); (case ka => k_mem); (case kb => k_mem); (case hA => assumption); (case hB => assumption); (case kB => k_asm); (case kF => k_asm); (case kX => k_asm); (case kK => (refine KIn.mono (by assumption) ?_; intro p hp; (repeat (first | exact hp | refine List.mem_cons_of_mem _ ?_)))); (case kp => (intro p hp; (repeat (first | exact hp | refine List.mem_cons_of_mem _ ?_)))); (case kT => k_asm); (case kk => exact rfl); (case kd => ktr_room); (case ku => ktr_units)); intro h9 tk9 F9 N9; (try dsimp only); (try k_fold))
            | (refine Hold.mk (k := 17) ?_; k_dflt (refine' kmk_slice ?wF ?wN ?wl ?wp ?wq ?_ ?ws ?wt ?wz; (case wF => k_asm); (case wN => k_asm); (case wl => exact ⟨_, News.get (by k_asm) (by k_mem), rfl, _, rfl⟩); (case wp => exact IsPart.int _ _); (case wq => exact IsPart.none); (case ws => with_unfolding_all rfl); (case wt => kmk_pure); (case wz => exact out_size (by assumption) (Good.sz (by assumption)) (by omega))); intro D9 h9 F9 N9 l9)
            | (refine Hold.mk (k := 21) ?_; (with_reducible show ClsHere _ _ ∧ _); refine ⟨clsHere_of (by k_asm) (KIn.mono (by assumption) (by (intro p hp; (repeat (first | exact hp | refine List.mem_cons_of_mem _ ?_))))), ?_⟩)
            | (refine Hold.mk (k := 11) ?_; (with_reducible rename KIn _ _ _ => hK9); (k_dflt (refine' range1_N ?kF ?kN ?_; (case kF => k_asm); (case kN => k_asm))); intro r9 h9 tk9 t9 u9 v9 F9 N9 l9)
            | (refine Hold.mk (k := 1) ?_; (with_reducible show wpAny _ _ (call (Value.ref _) [Value.ref _]) _ _ _); (with_unfolding_all refine' key_c ?kB ?kF ?kX ?kN ?kK ?kT ?kk ?kd ?ku ?_; (case kN => k_asm); (case kK => (refine KIn.mono (by assumption) ?_; intro p hp; (repeat (first | exact hp | refine List.mem_cons_of_mem _ ?_)))); (case kB => k_asm); (case kF => k_asm); (case kX => k_asm); (case kT => k_asm); (case kk => exact rfl); (case kd => ktr_room); (case ku => ktr_units); k_whole); intro ka9 dk9 h9 tk9 F9 N9 l9; (try dsimp only); (try k_fold))
            | (refine Hold.mk (k := 6) ?_; k_dflt (refine' ne_cross ?kz ?ky ?k1 ?k2 ?k3 ?k4 ?ks ?_; (case kz => assumption); (case ky => assumption); (case k1 => assumption); (case k2 => assumption); (case k3 => assumption); (case k4 => assumption); (case ks => assumption)))
            | (refine Hold.mk (k := 15) ?_; k_dflt (refine' mul_is ?kx ?ky ?kb ?ke ?_; (case kx => assumption); (case ky => assumption); (case kb => assumption); (case ke => decide)); intro x9 hx9)
            | (refine Hold.mk (k := 14) ?_; k_dflt (refine' lt_cross ?kz ?k1 ?k2 ?k3 ?k4 ?k5 ?k6 ?_; (case kz => assumption); (case k1 => assumption); (case k2 => assumption); (case k3 => assumption); (case k4 => assumption); (case k5 => assumption); (case k6 => assumption)))
            | (refine Hold.mk (k := 13) ?_; k_dflt (refine' gt_cross ?kz ?k1 ?k2 ?k3 ?k4 ?k5 ?k6 ?_; (case kz => assumption); (case k1 => assumption); (case k2 => assumption); (case k3 => assumption); (case k4 => assumption); (case k5 => assumption); (case k6 => assumption)))
            | (refine Hold.mk (k := 1) ?_; (with_reducible show wpAny _ _ (call (Value.ref 35) [Value.ref _, Value.ref _]) _ _ _); (with_unfolding_all refine' cross_z ?hA ?hB ?kB ?kF ?kX ?kN ?kT ?kk ?kd ?ku ?ks ?_); k_dflt ((case hA => assumption); (case hB => assumption); (case kB => k_asm); (case kF => k_asm); (case kX => k_asm); (case kN => k_asm); (case kT => k_asm); (case kk => exact rfl); (case kd => ktr_room); (case ku => ktr_units); (case ks => (intro q9 hq9; (repeat (first | exact hq9 | exact List.mem_append_left _ hq9 | refine List.mem_cons_of_mem _ ?_))))); intro z9 t9 h9 tk9 hz9 F9 N9; (try dsimp only); (try k_fold))
            | (refine Hold.mk (k := 12) ?_; k_dflt (refine' item_nat ?kl ?ki ?kx ?_ ?ks; (case kl => exact News.get (by k_asm) (by k_mem)); (case kx => assumption); (case ki => omega); (case ks => with_unfolding_all rfl)))
            | (refine Hold.mk (k := 11) ?_; (k_dflt (refine' range1_rows ?kF ?kN ?_; (case kF => k_asm); (case kN => k_asm))); intro h9 tk9 t9 u9 v9 hR9 F9 N9 hk9; clear hk9)
            | (refine Hold.mk (k := 10) ?_; k_dflt (refine' len_my ?kl ?kz ?_; (case kl => exact News.get (by k_asm) (by k_mem)); (case kz => omega)))
            | (refine Hold.mk (k := 7) ?_; k_dflt (refine' item_last ?kl ?kn ?kx ?_ ?ks; (case kl => exact News.get (by k_asm) (by k_mem)); (case kn => omega); (case kx => assumption); (case ks => with_unfolding_all rfl)))
            | (refine Hold.mk (k := 6) ?_; k_dflt (refine' ne_same ?kx ?ky ?ke ?kq ?_; (case kx => assumption); (case ky => assumption); (case ke => decide); (case kq => ((try unfold cV); (try unfold cP); omega))))
            | (refine Hold.mk (k := 5) ?_; k_dflt (refine' mulif_is (e := 12) ?kn ?kx ?kb ?ke ?_; (case kn => decide); (case kx => assumption); (case kb => omega); (case ke => decide)); intro x9 hx9)
            | (refine Hold.mk (k := 4) ?_; k_dflt (refine' sub_is (e := 12) ?kx ?ky ?kb ?_; (case kx => assumption); (case ky => assumption); (case kb => omega)); intro x9 hx9)
            | (refine Hold.mk (k := 3) ?_; (with_reducible show wpAny _ _ (call (Value.builtin "min") [Value.float _ _, Value.float _ _, Value.float _ _]) _ _ _); k_dflt (refine' min_rgb ?kI ?kx ?ky ?kz ?hh ?kF ?kN ?_; (case kI => assumption); (case kx => assumption); (case ky => assumption); (case kz => assumption); (case hh => exact rfl); (case kF => k_asm); (case kN => k_asm)); intro r9 t9 h9 tk9 hm9 F9 N9; (try dsimp only))
            | (refine Hold.mk (k := 2) ?_; (with_reducible show wpAny _ _ (call (Value.builtin "max") [Value.float _ _, Value.float _ _, Value.float _ _]) _ _ _); k_dflt (refine' max_rgb ?kI ?kx ?ky ?kz ?hh ?kF ?kN ?_; (case kI => assumption); (case kx => assumption); (case ky => assumption); (case kz => assumption); (case hh => exact rfl); (case kF => k_asm); (case kN => k_asm)); intro r9 t9 h9 tk9 hm9 F9 N9; (try dsimp only))
            | (refine Hold.mk (k := 1) ?_; (with_reducible show wpAny _ _ (call (Value.ref 21) [Value.float _ _, Value.float _ _, Value.float _ _]) _ _ _); (with_unfolding_all refine' hsv_c ?kB ?kF ?kX ?kN ?kT ?kk ?kd ?ku ?kI ?kh ?ks ?kv ?_); k_dflt ((case kh => assumption); (case ks => assumption); (case kv => assumption); (case kB => k_asm); (case kF => k_asm); (case kX => k_asm); (case kN => k_asm); (case kT => k_asm); (case kk => exact rfl); (case kd => ktr_room); (case ku => ktr_units); (case kI => assumption)); intro r9 g9 b9 t9 u9 v9 D9 h9 tk9 hR9 F9 N9 l1; (obtain ⟨hr9, hg9, hb9⟩ := hR9); (try k_lt l1); (try dsimp only); (try k_fold))
            | (refine Hold.mk (k := 0) ?_; (with_reducible show wpAny _ _ (binaryOp Operator.Div (Value.int _ _) (Value.int 8 _)) _ _ _); k_dflt (refine' div8 ?hh ?ha ?_; (case hh => exact rfl); (case ha => omega)); intro x9 hx9)
            | (refine Hold.mk (k := 0) ?_; (with_reducible show wpAny _ _ (binaryOp Operator.Div (Value.int _ _) (Value.int 64 _)) _ _ _); k_dflt (refine' div64 ?hh ?ha ?_; (case hh => exact rfl); (case ha => omega)); intro x9 hx9)); k_steps)
        refine Hold.mk ?_
        (with_unfolding_all refine' key_stage ?kB ?kF ?kX ?kN ?kT ?kI ?kP ?kH ?kK ?n0 ?n1 ?n2 ?n3 ?n4 ?n5 ?k2 ?k3 ?k4 ?k5 ?m2 ?m3 ?m4 ?m5 ?CH ?nv ?hd ?hu ?hl ?hc ?_)
        (k_dflt (
          (case kF => exact F2)
          (case kN => exact N2)
          (case kX => k_asm)
          (case kB => k_asm)
          (case kT => k_asm)
          (case kI => exact hinv)
          (case kP => assumption)
          (case kH => assumption)
          (case kK => exact Eq.trans (by assumption) (by kernel_rfl))
          (case n0 => (first | exact Nat.ne_of_lt (by omega) | exact Nat.ne_of_gt (by omega)))
          (case n1 => (first | exact Nat.ne_of_lt (by omega) | exact Nat.ne_of_gt (by omega)))
          (case n2 => (first | exact Nat.ne_of_lt (by omega) | exact Nat.ne_of_gt (by omega)))
          (case n3 => (first | exact Nat.ne_of_lt (by omega) | exact Nat.ne_of_gt (by omega)))
          (case n4 => (first | exact Nat.ne_of_lt (by omega) | exact Nat.ne_of_gt (by omega)))
          (case n5 => (first | exact Nat.ne_of_lt (by omega) | exact Nat.ne_of_gt (by omega)))
          (case k2 => (first | exact Nat.ne_of_lt (by omega) | exact Nat.ne_of_gt (by omega)))
          (case k3 => (first | exact Nat.ne_of_lt (by omega) | exact Nat.ne_of_gt (by omega)))
          (case k4 => (first | exact Nat.ne_of_lt (by omega) | exact Nat.ne_of_gt (by omega)))
          (case k5 => (first | exact Nat.ne_of_lt (by omega) | exact Nat.ne_of_gt (by omega)))
          (case m2 => (first | exact Nat.ne_of_lt (by omega) | exact Nat.ne_of_gt (by omega)))
          (case m3 => (first | exact Nat.ne_of_lt (by omega) | exact Nat.ne_of_gt (by omega)))
          (case m4 => (first | exact Nat.ne_of_lt (by omega) | exact Nat.ne_of_gt (by omega)))
          (case m5 => (first | exact Nat.ne_of_lt (by omega) | exact Nat.ne_of_gt (by omega)))
          (case CH => assumption)
          (case nv => exact ns_some_of (by assumption) (Top.g (by assumption)) (by k_is))
          (case hd => ktr_room)
          (case hu => ktr_units)
          (case hl => rfl)
          (case hc => rfl)))
        intro C v tl h3 tk3 hS F3 N3
        clear F2 N2
        have hS0 := hS
        obtain ⟨hI3, hK3, ⟨ps3, hm23⟩, ⟨np3, hmP⟩, ⟨nh3, hmH⟩, ⟨oP3, hcP, hdP⟩, ⟨oH3, hcH, hdH⟩, ⟨oK3, hcK, hdK⟩, hne51⟩ := hS
        obtain ⟨ps', hG, hR⟩ := runs_of (by assumption) hI3 hE
        k_steps
        repeat' ((first
            | (refine Hold.mk (k := 19) ?_; (with_unfolding_all refine' rich_eq_z ?hA ?hB ?kB ?kF ?kX ?kN ?kK ?ka ?kb ?kp ?kT ?kk ?kd ?ku ?_); k_dflt ((case kN => k_asm); (case ka => k_mem); (case kb => k_mem); (case hA => assumption); (case hB => assumption); (case kB => k_asm); (case kF => k_asm); (case kX => k_asm); (case kK => (refine KIn.mono (by assumption) ?_; intro p hp; (repeat (first | exact hp | refine List.mem_cons_of_mem _ ?_)))); (case kp => (intro p hp; (repeat (first | exact hp | refine List.mem_cons_of_mem _ ?_)))); (case kT => k_asm); (case kk => exact rfl); (case kd => ktr_room); (case ku => ktr_units)); intro h9 tk9 F9 N9; (try dsimp only); (try k_fold))
            | (refine Hold.mk (k := 17) ?_; k_dflt (refine' kmk_slice ?wF ?wN ?wl ?wp ?wq ?_ ?ws ?wt ?wz; (case wF => k_asm); (case wN => k_asm); (case wl => exact ⟨_, News.get (by k_asm) (by k_mem), rfl, _, rfl⟩); (case wp => exact IsPart.int _ _); (case wq => exact IsPart.none); (case ws => with_unfolding_all rfl); (case wt => kmk_pure); (case wz => exact out_size (by assumption) (Good.sz (by assumption)) (by omega))); intro D9 h9 F9 N9 l9)
            | (refine Hold.mk (k := 21) ?_; (with_reducible show ClsHere _ _ ∧ _); refine ⟨clsHere_of (by k_asm) (KIn.mono (by assumption) (by (intro p hp; (repeat (first | exact hp | refine List.mem_cons_of_mem _ ?_))))), ?_⟩)
            | (refine Hold.mk (k := 11) ?_; (with_reducible rename KIn _ _ _ => hK9); (k_dflt (refine' range1_N ?kF ?kN ?_; (case kF => k_asm); (case kN => k_asm))); intro r9 h9 tk9 t9 u9 v9 F9 N9 l9)
            | (refine Hold.mk (k := 1) ?_; (with_reducible show wpAny _ _ (call (Value.ref _) [Value.ref _]) _ _ _); (with_unfolding_all refine' key_c ?kB ?kF ?kX ?kN ?kK ?kT ?kk ?kd ?ku ?_; (case kN => k_asm); (case kK => (refine KIn.mono (by assumption) ?_; intro p hp; (repeat (first | exact hp | refine List.mem_cons_of_mem _ ?_)))); (case kB => k_asm); (case kF => k_asm); (case kX => k_asm); (case kT => k_asm); (case kk => exact rfl); (case kd => ktr_room); (case ku => ktr_units); k_whole); intro ka9 dk9 h9 tk9 F9 N9 l9; (try dsimp only); (try k_fold))
            | (refine Hold.mk (k := 6) ?_; k_dflt (refine' ne_cross ?kz ?ky ?k1 ?k2 ?k3 ?k4 ?ks ?_; (case kz => assumption); (case ky => assumption); (case k1 => assumption); (case k2 => assumption); (case k3 => assumption); (case k4 => assumption); (case ks => assumption)))
            | (refine Hold.mk (k := 15) ?_; k_dflt (refine' mul_is ?kx ?ky ?kb ?ke ?_; (case kx => assumption); (case ky => assumption); (case kb => assumption); (case ke => decide)); intro x9 hx9)
            | (refine Hold.mk (k := 14) ?_; k_dflt (refine' lt_cross ?kz ?k1 ?k2 ?k3 ?k4 ?k5 ?k6 ?_; (case kz => assumption); (case k1 => assumption); (case k2 => assumption); (case k3 => assumption); (case k4 => assumption); (case k5 => assumption); (case k6 => assumption)))
            | (refine Hold.mk (k := 13) ?_; k_dflt (refine' gt_cross ?kz ?k1 ?k2 ?k3 ?k4 ?k5 ?k6 ?_; (case kz => assumption); (case k1 => assumption); (case k2 => assumption); (case k3 => assumption); (case k4 => assumption); (case k5 => assumption); (case k6 => assumption)))
            | (refine Hold.mk (k := 1) ?_; (with_reducible show wpAny _ _ (call (Value.ref 35) [Value.ref _, Value.ref _]) _ _ _); (with_unfolding_all refine' cross_z ?hA ?hB ?kB ?kF ?kX ?kN ?kT ?kk ?kd ?ku ?ks ?_); k_dflt ((case hA => assumption); (case hB => assumption); (case kB => k_asm); (case kF => k_asm); (case kX => k_asm); (case kN => k_asm); (case kT => k_asm); (case kk => exact rfl); (case kd => ktr_room); (case ku => ktr_units); (case ks => (intro q9 hq9; (repeat (first | exact hq9 | exact List.mem_append_left _ hq9 | refine List.mem_cons_of_mem _ ?_))))); intro z9 t9 h9 tk9 hz9 F9 N9; (try dsimp only); (try k_fold))
            | (refine Hold.mk (k := 12) ?_; k_dflt (refine' item_nat ?kl ?ki ?kx ?_ ?ks; (case kl => exact News.get (by k_asm) (by k_mem)); (case kx => assumption); (case ki => omega); (case ks => with_unfolding_all rfl)))
            | (refine Hold.mk (k := 11) ?_; (k_dflt (refine' range1_rows ?kF ?kN ?_; (case kF => k_asm); (case kN => k_asm))); intro h9 tk9 t9 u9 v9 hR9 F9 N9 hk9; clear hk9)
            | (refine Hold.mk (k := 10) ?_; k_dflt (refine' len_my ?kl ?kz ?_; (case kl => exact News.get (by k_asm) (by k_mem)); (case kz => omega)))
            | (refine Hold.mk (k := 7) ?_; k_dflt (refine' item_last ?kl ?kn ?kx ?_ ?ks; (case kl => exact News.get (by k_asm) (by k_mem)); (case kn => omega); (case kx => assumption); (case ks => with_unfolding_all rfl)))
            | (refine Hold.mk (k := 6) ?_; k_dflt (refine' ne_same ?kx ?ky ?ke ?kq ?_; (case kx => assumption); (case ky => assumption); (case ke => decide); (case kq => ((try unfold cV); (try unfold cP); omega))))
            | (refine Hold.mk (k := 5) ?_; k_dflt (refine' mulif_is (e := 12) ?kn ?kx ?kb ?ke ?_; (case kn => decide); (case kx => assumption); (case kb => omega); (case ke => decide)); intro x9 hx9)
            | (refine Hold.mk (k := 4) ?_; k_dflt (refine' sub_is (e := 12) ?kx ?ky ?kb ?_; (case kx => assumption); (case ky => assumption); (case kb => omega)); intro x9 hx9)
            | (refine Hold.mk (k := 3) ?_; (with_reducible show wpAny _ _ (call (Value.builtin "min") [Value.float _ _, Value.float _ _, Value.float _ _]) _ _ _); k_dflt (refine' min_rgb ?kI ?kx ?ky ?kz ?hh ?kF ?kN ?_; (case kI => assumption); (case kx => assumption); (case ky => assumption); (case kz => assumption); (case hh => exact rfl); (case kF => k_asm); (case kN => k_asm)); intro r9 t9 h9 tk9 hm9 F9 N9; (try dsimp only))
            | (refine Hold.mk (k := 2) ?_; (with_reducible show wpAny _ _ (call (Value.builtin "max") [Value.float _ _, Value.float _ _, Value.float _ _]) _ _ _); k_dflt (refine' max_rgb ?kI ?kx ?ky ?kz ?hh ?kF ?kN ?_; (case kI => assumption); (case kx => assumption); (case ky => assumption); (case kz => assumption); (case hh => exact rfl); (case kF => k_asm); (case kN => k_asm)); intro r9 t9 h9 tk9 hm9 F9 N9; (try dsimp only))
            | (refine Hold.mk (k := 1) ?_; (with_reducible show wpAny _ _ (call (Value.ref 21) [Value.float _ _, Value.float _ _, Value.float _ _]) _ _ _); (with_unfolding_all refine' hsv_c ?kB ?kF ?kX ?kN ?kT ?kk ?kd ?ku ?kI ?kh ?ks ?kv ?_); k_dflt ((case kh => assumption); (case ks => assumption); (case kv => assumption); (case kB => k_asm); (case kF => k_asm); (case kX => k_asm); (case kN => k_asm); (case kT => k_asm); (case kk => exact rfl); (case kd => ktr_room); (case ku => ktr_units); (case kI => assumption)); intro r9 g9 b9 t9 u9 v9 D9 h9 tk9 hR9 F9 N9 l1; (obtain ⟨hr9, hg9, hb9⟩ := hR9); (try k_lt l1); (try dsimp only); (try k_fold))
            | (refine Hold.mk (k := 0) ?_; (with_reducible show wpAny _ _ (binaryOp Operator.Div (Value.int _ _) (Value.int 8 _)) _ _ _); k_dflt (refine' div8 ?hh ?ha ?_; (case hh => exact rfl); (case ha => omega)); intro x9 hx9)
            | (refine Hold.mk (k := 0) ?_; (with_reducible show wpAny _ _ (binaryOp Operator.Div (Value.int _ _) (Value.int 64 _)) _ _ _); k_dflt (refine' div64 ?hh ?ha ?_; (case hh => exact rfl); (case ha => omega)); intro x9 hx9)); k_steps)
        (k_dflt (refine' kla_eval ?d0 ?_; (case d0 => exact rfl)))
        (k_dflt (refine' kla_nest ?F ?N ?T ?C ?cd ?U ?t ?n ?cl ?_; (case F => k_asm); (case N => k_asm); (case T => k_asm); (case cd => exact rfl); (case C => kn_code); (case U => exact UpdF.tail (Nat.ne_of_gt (by assumption)) (UpdF.head (by assumption))); (case t => kn_triples); (case n => kn_among); (case cl => exact rfl); k_whole))
        intro f5 c5 oc5 vs5 tq5 ct5 h5 tk5 F5 N5 d15 d25 l15 l25
        (try dsimp only at N5)
        k_steps
        repeat' ((first
            | (refine Hold.mk (k := 19) ?_; (with_unfolding_all refine' rich_eq_z ?hA ?hB ?kB ?kF ?kX ?kN ?kK ?ka ?kb ?kp ?kT ?kk ?kd ?ku ?_); k_dflt ((case kN => k_asm); (case ka => k_mem); (case kb => k_mem); (case hA => assumption); (case hB => assumption); (case kB => k_asm); (case kF => k_asm); (case kX => k_asm); (case kK => (refine KIn.mono (by assumption) ?_; intro p hp; (repeat (first | exact hp | refine List.mem_cons_of_mem _ ?_)))); (case kp => (intro p hp; (repeat (first | exact hp | refine List.mem_cons_of_mem _ ?_)))); (case kT => k_asm); (case kk => exact rfl); (case kd => ktr_room); (case ku => ktr_units)); intro h9 tk9 F9 N9; (try dsimp only); (try k_fold))
            | (refine Hold.mk (k := 17) ?_; k_dflt (refine' kmk_slice ?wF ?wN ?wl ?wp ?wq ?_ ?ws ?wt ?wz; (case wF => k_asm); (case wN => k_asm); (case wl => exact ⟨_, News.get (by k_asm) (by k_mem), rfl, _, rfl⟩); (case wp => exact IsPart.int _ _); (case wq => exact IsPart.none); (case ws => with_unfolding_all rfl); (case wt => kmk_pure); (case wz => exact out_size (by assumption) (Good.sz (by assumption)) (by omega))); intro D9 h9 F9 N9 l9)
            | (refine Hold.mk (k := 21) ?_; (with_reducible show ClsHere _ _ ∧ _); refine ⟨clsHere_of (by k_asm) (KIn.mono (by assumption) (by (intro p hp; (repeat (first | exact hp | refine List.mem_cons_of_mem _ ?_))))), ?_⟩)
            | (refine Hold.mk (k := 11) ?_; (with_reducible rename KIn _ _ _ => hK9); (k_dflt (refine' range1_N ?kF ?kN ?_; (case kF => k_asm); (case kN => k_asm))); intro r9 h9 tk9 t9 u9 v9 F9 N9 l9)
            | (refine Hold.mk (k := 1) ?_; (with_reducible show wpAny _ _ (call (Value.ref _) [Value.ref _]) _ _ _); (with_unfolding_all refine' key_c ?kB ?kF ?kX ?kN ?kK ?kT ?kk ?kd ?ku ?_; (case kN => k_asm); (case kK => (refine KIn.mono (by assumption) ?_; intro p hp; (repeat (first | exact hp | refine List.mem_cons_of_mem _ ?_)))); (case kB => k_asm); (case kF => k_asm); (case kX => k_asm); (case kT => k_asm); (case kk => exact rfl); (case kd => ktr_room); (case ku => ktr_units); k_whole); intro ka9 dk9 h9 tk9 F9 N9 l9; (try dsimp only); (try k_fold))
            | (refine Hold.mk (k := 6) ?_; k_dflt (refine' ne_cross ?kz ?ky ?k1 ?k2 ?k3 ?k4 ?ks ?_; (case kz => assumption); (case ky => assumption); (case k1 => assumption); (case k2 => assumption); (case k3 => assumption); (case k4 => assumption); (case ks => assumption)))
            | (refine Hold.mk (k := 15) ?_; k_dflt (refine' mul_is ?kx ?ky ?kb ?ke ?_; (case kx => assumption); (case ky => assumption); (case kb => assumption); (case ke => decide)); intro x9 hx9)
            | (refine Hold.mk (k := 14) ?_; k_dflt (refine' lt_cross ?kz ?k1 ?k2 ?k3 ?k4 ?k5 ?k6 ?_; (case kz => assumption); (case k1 => assumption); (case k2 => assumption); (case k3 => assumption); (case k4 => assumption); (case k5 => assumption); (case k6 => assumption)))
            | (refine Hold.mk (k := 13) ?_; k_dflt (refine' gt_cross ?kz ?k1 ?k2 ?k3 ?k4 ?k5 ?k6 ?_; (case kz => assumption); (case k1 => assumption); (case k2 => assumption); (case k3 => assumption); (case k4 => assumption); (case k5 => assumption); (case k6 => assumption)))
            | (refine Hold.mk (k := 1) ?_; (with_reducible show wpAny _ _ (call (Value.ref 35) [Value.ref _, Value.ref _]) _ _ _); (with_unfolding_all refine' cross_z ?hA ?hB ?kB ?kF ?kX ?kN ?kT ?kk ?kd ?ku ?ks ?_); k_dflt ((case hA => assumption); (case hB => assumption); (case kB => k_asm); (case kF => k_asm); (case kX => k_asm); (case kN => k_asm); (case kT => k_asm); (case kk => exact rfl); (case kd => ktr_room); (case ku => ktr_units); (case ks => (intro q9 hq9; (repeat (first | exact hq9 | exact List.mem_append_left _ hq9 | refine List.mem_cons_of_mem _ ?_))))); intro z9 t9 h9 tk9 hz9 F9 N9; (try dsimp only); (try k_fold))
            | (refine Hold.mk (k := 12) ?_; k_dflt (refine' item_nat ?kl ?ki ?kx ?_ ?ks; (case kl => exact News.get (by k_asm) (by k_mem)); (case kx => assumption); (case ki => omega); (case ks => with_unfolding_all rfl)))
            | (refine Hold.mk (k := 11) ?_; (k_dflt (refine' range1_rows ?kF ?kN ?_; (case kF => k_asm); (case kN => k_asm))); intro h9 tk9 t9 u9 v9 hR9 F9 N9 hk9; clear hk9)
            | (refine Hold.mk (k := 10) ?_; k_dflt (refine' len_my ?kl ?kz ?_; (case kl => exact News.get (by k_asm) (by k_mem)); (case kz => omega)))
            | (refine Hold.mk (k := 7) ?_; k_dflt (refine' item_last ?kl ?kn ?kx ?_ ?ks; (case kl => exact News.get (by k_asm) (by k_mem)); (case kn => omega); (case kx => assumption); (case ks => with_unfolding_all rfl)))
            | (refine Hold.mk (k := 6) ?_; k_dflt (refine' ne_same ?kx ?ky ?ke ?kq ?_; (case kx => assumption); (case ky => assumption); (case ke => decide); (case kq => ((try unfold cV); (try unfold cP); omega))))
            | (refine Hold.mk (k := 5) ?_; k_dflt (refine' mulif_is (e := 12) ?kn ?kx ?kb ?ke ?_; (case kn => decide); (case kx => assumption); (case kb => omega); (case ke => decide)); intro x9 hx9)
            | (refine Hold.mk (k := 4) ?_; k_dflt (refine' sub_is (e := 12) ?kx ?ky ?kb ?_; (case kx => assumption); (case ky => assumption); (case kb => omega)); intro x9 hx9)
            | (refine Hold.mk (k := 3) ?_; (with_reducible show wpAny _ _ (call (Value.builtin "min") [Value.float _ _, Value.float _ _, Value.float _ _]) _ _ _); k_dflt (refine' min_rgb ?kI ?kx ?ky ?kz ?hh ?kF ?kN ?_; (case kI => assumption); (case kx => assumption); (case ky => assumption); (case kz => assumption); (case hh => exact rfl); (case kF => k_asm); (case kN => k_asm)); intro r9 t9 h9 tk9 hm9 F9 N9; (try dsimp only))
            | (refine Hold.mk (k := 2) ?_; (with_reducible show wpAny _ _ (call (Value.builtin "max") [Value.float _ _, Value.float _ _, Value.float _ _]) _ _ _); k_dflt (refine' max_rgb ?kI ?kx ?ky ?kz ?hh ?kF ?kN ?_; (case kI => assumption); (case kx => assumption); (case ky => assumption); (case kz => assumption); (case hh => exact rfl); (case kF => k_asm); (case kN => k_asm)); intro r9 t9 h9 tk9 hm9 F9 N9; (try dsimp only))
            | (refine Hold.mk (k := 1) ?_; (with_reducible show wpAny _ _ (call (Value.ref 21) [Value.float _ _, Value.float _ _, Value.float _ _]) _ _ _); (with_unfolding_all refine' hsv_c ?kB ?kF ?kX ?kN ?kT ?kk ?kd ?ku ?kI ?kh ?ks ?kv ?_); k_dflt ((case kh => assumption); (case ks => assumption); (case kv => assumption); (case kB => k_asm); (case kF => k_asm); (case kX => k_asm); (case kN => k_asm); (case kT => k_asm); (case kk => exact rfl); (case kd => ktr_room); (case ku => ktr_units); (case kI => assumption)); intro r9 g9 b9 t9 u9 v9 D9 h9 tk9 hR9 F9 N9 l1; (obtain ⟨hr9, hg9, hb9⟩ := hR9); (try k_lt l1); (try dsimp only); (try k_fold))
            | (refine Hold.mk (k := 0) ?_; (with_reducible show wpAny _ _ (binaryOp Operator.Div (Value.int _ _) (Value.int 8 _)) _ _ _); k_dflt (refine' div8 ?hh ?ha ?_; (case hh => exact rfl); (case ha => omega)); intro x9 hx9)
            | (refine Hold.mk (k := 0) ?_; (with_reducible show wpAny _ _ (binaryOp Operator.Div (Value.int _ _) (Value.int 64 _)) _ _ _); k_dflt (refine' div64 ?hh ?ha ?_; (case hh => exact rfl); (case ha => omega)); intro x9 hx9)); k_steps)
        refine Hold.mk ?_
        (show wpAny _ _ (call (Value.builtin "sorted") [Value.ref _] [(Str.ofString "key", Value.ref _)]) _ _ _)
        (with_unfolding_all refine' sortedK (ps' := ps') ?kB ?kF ?kX ?kN ?kT ?kk ?hd ?hu hS0 ?htl ?hr ?hn ?h2 ?h65 hG hR ?tK ?_)
        (k_dflt (
          (case kF => exact F5)
          (case kN => exact N5)
          (case kX => k_asm)
          (case kB => k_asm)
          (case kT => k_asm)
          (case kk => exact rfl)
          (case hd => ktr_room)
          (case hu => ktr_units)
          (case htl => (intro p hp; (repeat (first | exact hp | refine List.mem_cons_of_mem _ ?_))))
          (case hr => exact News.get N5 (by k_mem))
          (case hn => exact hl2.symm)
          (case h2 => omega)
          (case h65 => omega)))
        (case tK =>
          intro i tv hi h4 tk4 led hled F4 N4
          have qf := hled _ (List.mem_cons_self ..)
          have qc := hled _ (List.mem_cons_of_mem _ (List.mem_cons_self ..))
          obtain ⟨hI4, hK4, ⟨ps4, hm4⟩, ⟨np4, hmP4⟩, ⟨nh4, hmH4⟩, ⟨oP4, hcP4, hdP4⟩, ⟨oH4, hcH4, hdH4⟩, ⟨oK4, hcK4, hdK4⟩⟩ := hS0.up (led := led) (fun p hp => hled _ (by (repeat (first | exact hp | refine List.mem_cons_of_mem _ ?_))))
          obtain ⟨hi1, di1, ai1, xi1, yi1, bi1, ti1, ui1, thi1, tbi1, hA⟩ := at_ hI4 (i := i) (by omega)
          have hA2 := hA.pv
          refine wpAny_call ?_
          (k_dflt (refine' kla_code ?k1 ?k2 ?k3 ?k4 ?k5 ?kA ?kF ?kK ?k6 ?k7 ?k8 ?k9 ?kB ?_ ?c2 ?c3 ?c4 ?c5; (case kA => exact rfl); (case kF => exact rfl); (case kK => exact rfl); (case k1 => k_asm); (case k2 => exact F4); (case k3 => k_asm); (case k4 => exact N4); (case k5 => k_asm); (case k6 => exact qf); (case k7 => exact codeRec_news N4 qc (by assumption) (by assumption)); (case k8 => ktr_room); (case k9 => exact rfl); (case c5 => decide); (case kB => exact locs rfl); (case c2 => exact rfl); (case c3 => exact rfl); (case c4 => exact rfl); k_whole))
          intro g' L' h' FG' F' N' B' X' T'
          (try dsimp only)
          (try k_fold)
          k_steps
          repeat' ((first
              | (refine Hold.mk (k := 19) ?_; (with_unfolding_all refine' rich_eq_z ?hA ?hB ?kB ?kF ?kX ?kN ?kK ?ka ?kb ?kp ?kT ?kk ?kd ?ku ?_); k_dflt ((case kN => k_asm); (case ka => k_mem); (case kb => k_mem); (case hA => assumption); (case hB => assumption); (case kB => k_asm); (case kF => k_asm); (case kX => k_asm); (case kK => (refine KIn.mono (by assumption) ?_; intro p hp; (repeat (first | exact hp | refine List.mem_cons_of_mem _ ?_)))); (case kp => (intro p hp; (repeat (first | exact hp | refine List.mem_cons_of_mem _ ?_)))); (case kT => k_asm); (case kk => exact rfl); (case kd => ktr_room); (case ku => ktr_units)); intro h9 tk9 F9 N9; (try dsimp only); (try k_fold))
              | (refine Hold.mk (k := 17) ?_; k_dflt (refine' kmk_slice ?wF ?wN ?wl ?wp ?wq ?_ ?ws ?wt ?wz; (case wF => k_asm); (case wN => k_asm); (case wl => exact ⟨_, News.get (by k_asm) (by k_mem), rfl, _, rfl⟩); (case wp => exact IsPart.int _ _); (case wq => exact IsPart.none); (case ws => with_unfolding_all rfl); (case wt => kmk_pure); (case wz => exact out_size (by assumption) (Good.sz (by assumption)) (by omega))); intro D9 h9 F9 N9 l9)
              | (refine Hold.mk (k := 21) ?_; (with_reducible show ClsHere _ _ ∧ _); refine ⟨clsHere_of (by k_asm) (KIn.mono (by assumption) (by (intro p hp; (repeat (first | exact hp | refine List.mem_cons_of_mem _ ?_))))), ?_⟩)
              | (refine Hold.mk (k := 11) ?_; (with_reducible rename KIn _ _ _ => hK9); (k_dflt (refine' range1_N ?kF ?kN ?_; (case kF => k_asm); (case kN => k_asm))); intro r9 h9 tk9 t9 u9 v9 F9 N9 l9)
              | (refine Hold.mk (k := 1) ?_; (with_reducible show wpAny _ _ (call (Value.ref _) [Value.ref _]) _ _ _); (with_unfolding_all refine' key_c ?kB ?kF ?kX ?kN ?kK ?kT ?kk ?kd ?ku ?_; (case kN => k_asm); (case kK => (refine KIn.mono (by assumption) ?_; intro p hp; (repeat (first | exact hp | refine List.mem_cons_of_mem _ ?_)))); (case kB => k_asm); (case kF => k_asm); (case kX => k_asm); (case kT => k_asm); (case kk => exact rfl); (case kd => ktr_room); (case ku => ktr_units); k_whole); intro ka9 dk9 h9 tk9 F9 N9 l9; (try dsimp only); (try k_fold))
              | (refine Hold.mk (k := 6) ?_; k_dflt (refine' ne_cross ?kz ?ky ?k1 ?k2 ?k3 ?k4 ?ks ?_; (case kz => assumption); (case ky => assumption); (case k1 => assumption); (case k2 => assumption); (case k3 => assumption); (case k4 => assumption); (case ks => assumption)))
              | (refine Hold.mk (k := 15) ?_; k_dflt (refine' mul_is ?kx ?ky ?kb ?ke ?_; (case kx => assumption); (case ky => assumption); (case kb => assumption); (case ke => decide)); intro x9 hx9)
              | (refine Hold.mk (k := 14) ?_; k_dflt (refine' lt_cross ?kz ?k1 ?k2 ?k3 ?k4 ?k5 ?k6 ?_; (case kz => assumption); (case k1 => assumption); (case k2 => assumption); (case k3 => assumption); (case k4 => assumption); (case k5 => assumption); (case k6 => assumption)))
              | (refine Hold.mk (k := 13) ?_; k_dflt (refine' gt_cross ?kz ?k1 ?k2 ?k3 ?k4 ?k5 ?k6 ?_; (case kz => assumption); (case k1 => assumption); (case k2 => assumption); (case k3 => assumption); (case k4 => assumption); (case k5 => assumption); (case k6 => assumption)))
              | (refine Hold.mk (k := 1) ?_; (with_reducible show wpAny _ _ (call (Value.ref 35) [Value.ref _, Value.ref _]) _ _ _); (with_unfolding_all refine' cross_z ?hA ?hB ?kB ?kF ?kX ?kN ?kT ?kk ?kd ?ku ?ks ?_); k_dflt ((case hA => assumption); (case hB => assumption); (case kB => k_asm); (case kF => k_asm); (case kX => k_asm); (case kN => k_asm); (case kT => k_asm); (case kk => exact rfl); (case kd => ktr_room); (case ku => ktr_units); (case ks => (intro q9 hq9; (repeat (first | exact hq9 | exact List.mem_append_left _ hq9 | refine List.mem_cons_of_mem _ ?_))))); intro z9 t9 h9 tk9 hz9 F9 N9; (try dsimp only); (try k_fold))
              | (refine Hold.mk (k := 12) ?_; k_dflt (refine' item_nat ?kl ?ki ?kx ?_ ?ks; (case kl => exact News.get (by k_asm) (by k_mem)); (case kx => assumption); (case ki => omega); (case ks => with_unfolding_all rfl)))
              | (refine Hold.mk (k := 11) ?_; (k_dflt (refine' range1_rows ?kF ?kN ?_; (case kF => k_asm); (case kN => k_asm))); intro h9 tk9 t9 u9 v9 hR9 F9 N9 hk9; clear hk9)
              | (refine Hold.mk (k := 10) ?_; k_dflt (refine' len_my ?kl ?kz ?_; (case kl => exact News.get (by k_asm) (by k_mem)); (case kz => omega)))
              | (refine Hold.mk (k := 7) ?_; k_dflt (refine' item_last ?kl ?kn ?kx ?_ ?ks; (case kl => exact News.get (by k_asm) (by k_mem)); (case kn => omega); (case kx => assumption); (case ks => with_unfolding_all rfl)))
              | (refine Hold.mk (k := 6) ?_; k_dflt (refine' ne_same ?kx ?ky ?ke ?kq ?_; (case kx => assumption); (case ky => assumption); (case ke => decide); (case kq => ((try unfold cV); (try unfold cP); omega))))
              | (refine Hold.mk (k := 5) ?_; k_dflt (refine' mulif_is (e := 12) ?kn ?kx ?kb ?ke ?_; (case kn => decide); (case kx => assumption); (case kb => omega); (case ke => decide)); intro x9 hx9)
              | (refine Hold.mk (k := 4) ?_; k_dflt (refine' sub_is (e := 12) ?kx ?ky ?kb ?_; (case kx => assumption); (case ky => assumption); (case kb => omega)); intro x9 hx9)
              | (refine Hold.mk (k := 3) ?_; (with_reducible show wpAny _ _ (call (Value.builtin "min") [Value.float _ _, Value.float _ _, Value.float _ _]) _ _ _); k_dflt (refine' min_rgb ?kI ?kx ?ky ?kz ?hh ?kF ?kN ?_; (case kI => assumption); (case kx => assumption); (case ky => assumption); (case kz => assumption); (case hh => exact rfl); (case kF => k_asm); (case kN => k_asm)); intro r9 t9 h9 tk9 hm9 F9 N9; (try dsimp only))
              | (refine Hold.mk (k := 2) ?_; (with_reducible show wpAny _ _ (call (Value.builtin "max") [Value.float _ _, Value.float _ _, Value.float _ _]) _ _ _); k_dflt (refine' max_rgb ?kI ?kx ?ky ?kz ?hh ?kF ?kN ?_; (case kI => assumption); (case kx => assumption); (case ky => assumption); (case kz => assumption); (case hh => exact rfl); (case kF => k_asm); (case kN => k_asm)); intro r9 t9 h9 tk9 hm9 F9 N9; (try dsimp only))
              | (refine Hold.mk (k := 1) ?_; (with_reducible show wpAny _ _ (call (Value.ref 21) [Value.float _ _, Value.float _ _, Value.float _ _]) _ _ _); (with_unfolding_all refine' hsv_c ?kB ?kF ?kX ?kN ?kT ?kk ?kd ?ku ?kI ?kh ?ks ?kv ?_); k_dflt ((case kh => assumption); (case ks => assumption); (case kv => assumption); (case kB => k_asm); (case kF => k_asm); (case kX => k_asm); (case kN => k_asm); (case kT => k_asm); (case kk => exact rfl); (case kd => ktr_room); (case ku => ktr_units); (case kI => assumption)); intro r9 g9 b9 t9 u9 v9 D9 h9 tk9 hR9 F9 N9 l1; (obtain ⟨hr9, hg9, hb9⟩ := hR9); (try k_lt l1); (try dsimp only); (try k_fold))
              | (refine Hold.mk (k := 0) ?_; (with_reducible show wpAny _ _ (binaryOp Operator.Div (Value.int _ _) (Value.int 8 _)) _ _ _); k_dflt (refine' div8 ?hh ?ha ?_; (case hh => exact rfl); (case ha => omega)); intro x9 hx9)
              | (refine Hold.mk (k := 0) ?_; (with_reducible show wpAny _ _ (binaryOp Operator.Div (Value.int _ _) (Value.int 64 _)) _ _ _); k_dflt (refine' div64 ?hh ?ha ?_; (case hh => exact rfl); (case ha => omega)); intro x9 hx9)); k_steps)
          all_goals exact keyEnd_K (by assumption) (by assumption) (by assumption) hA2)
        intro D6 h6 tk6 c6 out6 kown6 F6 N6 l6 hI6
        obtain ⟨N7, hne7, l7⟩ := after_sort N6 l6 hne51
        (dsimp only at hne7 l7)
        clear N6 l6 F5 N5 N3 F3 d15 d25 l15 l25
        k_steps
        repeat' ((first
            | (refine Hold.mk (k := 19) ?_; (with_unfolding_all refine' rich_eq_z ?hA ?hB ?kB ?kF ?kX ?kN ?kK ?ka ?kb ?kp ?kT ?kk ?kd ?ku ?_); k_dflt ((case kN => k_asm); (case ka => k_mem); (case kb => k_mem); (case hA => assumption); (case hB => assumption); (case kB => k_asm); (case kF => k_asm); (case kX => k_asm); (case kK => (refine KIn.mono (by assumption) ?_; intro p hp; (repeat (first | exact hp | refine List.mem_cons_of_mem _ ?_)))); (case kp => (intro p hp; (repeat (first | exact hp | refine List.mem_cons_of_mem _ ?_)))); (case kT => k_asm); (case kk => exact rfl); (case kd => ktr_room); (case ku => ktr_units)); intro h9 tk9 F9 N9; (try dsimp only); (try k_fold))
            | (refine Hold.mk (k := 17) ?_; k_dflt (refine' kmk_slice ?wF ?wN ?wl ?wp ?wq ?_ ?ws ?wt ?wz; (case wF => k_asm); (case wN => k_asm); (case wl => exact ⟨_, News.get (by k_asm) (by k_mem), rfl, _, rfl⟩); (case wp => exact IsPart.int _ _); (case wq => exact IsPart.none); (case ws => with_unfolding_all rfl); (case wt => kmk_pure); (case wz => exact out_size (by assumption) (Good.sz (by assumption)) (by omega))); intro D9 h9 F9 N9 l9)
            | (refine Hold.mk (k := 21) ?_; (with_reducible show ClsHere _ _ ∧ _); refine ⟨clsHere_of (by k_asm) (KIn.mono (by assumption) (by (intro p hp; (repeat (first | exact hp | refine List.mem_cons_of_mem _ ?_))))), ?_⟩)
            | (refine Hold.mk (k := 11) ?_; (with_reducible rename KIn _ _ _ => hK9); (k_dflt (refine' range1_N ?kF ?kN ?_; (case kF => k_asm); (case kN => k_asm))); intro r9 h9 tk9 t9 u9 v9 F9 N9 l9)
            | (refine Hold.mk (k := 1) ?_; (with_reducible show wpAny _ _ (call (Value.ref _) [Value.ref _]) _ _ _); (with_unfolding_all refine' key_c ?kB ?kF ?kX ?kN ?kK ?kT ?kk ?kd ?ku ?_; (case kN => k_asm); (case kK => (refine KIn.mono (by assumption) ?_; intro p hp; (repeat (first | exact hp | refine List.mem_cons_of_mem _ ?_)))); (case kB => k_asm); (case kF => k_asm); (case kX => k_asm); (case kT => k_asm); (case kk => exact rfl); (case kd => ktr_room); (case ku => ktr_units); k_whole); intro ka9 dk9 h9 tk9 F9 N9 l9; (try dsimp only); (try k_fold))
            | (refine Hold.mk (k := 6) ?_; k_dflt (refine' ne_cross ?kz ?ky ?k1 ?k2 ?k3 ?k4 ?ks ?_; (case kz => assumption); (case ky => assumption); (case k1 => assumption); (case k2 => assumption); (case k3 => assumption); (case k4 => assumption); (case ks => assumption)))
            | (refine Hold.mk (k := 15) ?_; k_dflt (refine' mul_is ?kx ?ky ?kb ?ke ?_; (case kx => assumption); (case ky => assumption); (case kb => assumption); (case ke => decide)); intro x9 hx9)
            | (refine Hold.mk (k := 14) ?_; k_dflt (refine' lt_cross ?kz ?k1 ?k2 ?k3 ?k4 ?k5 ?k6 ?_; (case kz => assumption); (case k1 => assumption); (case k2 => assumption); (case k3 => assumption); (case k4 => assumption); (case k5 => assumption); (case k6 => assumption)))
            | (refine Hold.mk (k := 13) ?_; k_dflt (refine' gt_cross ?kz ?k1 ?k2 ?k3 ?k4 ?k5 ?k6 ?_; (case kz => assumption); (case k1 => assumption); (case k2 => assumption); (case k3 => assumption); (case k4 => assumption); (case k5 => assumption); (case k6 => assumption)))
            | (refine Hold.mk (k := 1) ?_; (with_reducible show wpAny _ _ (call (Value.ref 35) [Value.ref _, Value.ref _]) _ _ _); (with_unfolding_all refine' cross_z ?hA ?hB ?kB ?kF ?kX ?kN ?kT ?kk ?kd ?ku ?ks ?_); k_dflt ((case hA => assumption); (case hB => assumption); (case kB => k_asm); (case kF => k_asm); (case kX => k_asm); (case kN => k_asm); (case kT => k_asm); (case kk => exact rfl); (case kd => ktr_room); (case ku => ktr_units); (case ks => (intro q9 hq9; (repeat (first | exact hq9 | exact List.mem_append_left _ hq9 | refine List.mem_cons_of_mem _ ?_))))); intro z9 t9 h9 tk9 hz9 F9 N9; (try dsimp only); (try k_fold))
            | (refine Hold.mk (k := 12) ?_; k_dflt (refine' item_nat ?kl ?ki ?kx ?_ ?ks; (case kl => exact News.get (by k_asm) (by k_mem)); (case kx => assumption); (case ki => omega); (case ks => with_unfolding_all rfl)))
            | (refine Hold.mk (k := 11) ?_; (k_dflt (refine' range1_rows ?kF ?kN ?_; (case kF => k_asm); (case kN => k_asm))); intro h9 tk9 t9 u9 v9 hR9 F9 N9 hk9; clear hk9)
            | (refine Hold.mk (k := 10) ?_; k_dflt (refine' len_my ?kl ?kz ?_; (case kl => exact News.get (by k_asm) (by k_mem)); (case kz => omega)))
            | (refine Hold.mk (k := 7) ?_; k_dflt (refine' item_last ?kl ?kn ?kx ?_ ?ks; (case kl => exact News.get (by k_asm) (by k_mem)); (case kn => omega); (case kx => assumption); (case ks => with_unfolding_all rfl)))
            | (refine Hold.mk (k := 6) ?_; k_dflt (refine' ne_same ?kx ?ky ?ke ?kq ?_; (case kx => assumption); (case ky => assumption); (case ke => decide); (case kq => ((try unfold cV); (try unfold cP); omega))))
            | (refine Hold.mk (k := 5) ?_; k_dflt (refine' mulif_is (e := 12) ?kn ?kx ?kb ?ke ?_; (case kn => decide); (case kx => assumption); (case kb => omega); (case ke => decide)); intro x9 hx9)
            | (refine Hold.mk (k := 4) ?_; k_dflt (refine' sub_is (e := 12) ?kx ?ky ?kb ?_; (case kx => assumption); (case ky => assumption); (case kb => omega)); intro x9 hx9)
            | (refine Hold.mk (k := 3) ?_; (with_reducible show wpAny _ _ (call (Value.builtin "min") [Value.float _ _, Value.float _ _, Value.float _ _]) _ _ _); k_dflt (refine' min_rgb ?kI ?kx ?ky ?kz ?hh ?kF ?kN ?_; (case kI => assumption); (case kx => assumption); (case ky => assumption); (case kz => assumption); (case hh => exact rfl); (case kF => k_asm); (case kN => k_asm)); intro r9 t9 h9 tk9 hm9 F9 N9; (try dsimp only))
            | (refine Hold.mk (k := 2) ?_; (with_reducible show wpAny _ _ (call (Value.builtin "max") [Value.float _ _, Value.float _ _, Value.float _ _]) _ _ _); k_dflt (refine' max_rgb ?kI ?kx ?ky ?kz ?hh ?kF ?kN ?_; (case kI => assumption); (case kx => assumption); (case ky => assumption); (case kz => assumption); (case hh => exact rfl); (case kF => k_asm); (case kN => k_asm)); intro r9 t9 h9 tk9 hm9 F9 N9; (try dsimp only))
            | (refine Hold.mk (k := 1) ?_; (with_reducible show wpAny _ _ (call (Value.ref 21) [Value.float _ _, Value.float _ _, Value.float _ _]) _ _ _); (with_unfolding_all refine' hsv_c ?kB ?kF ?kX ?kN ?kT ?kk ?kd ?ku ?kI ?kh ?ks ?kv ?_); k_dflt ((case kh => assumption); (case ks => assumption); (case kv => assumption); (case kB => k_asm); (case kF => k_asm); (case kX => k_asm); (case kN => k_asm); (case kT => k_asm); (case kk => exact rfl); (case kd => ktr_room); (case ku => ktr_units); (case kI => assumption)); intro r9 g9 b9 t9 u9 v9 D9 h9 tk9 hR9 F9 N9 l1; (obtain ⟨hr9, hg9, hb9⟩ := hR9); (try k_lt l1); (try dsimp only); (try k_fold))
            | (refine Hold.mk (k := 0) ?_; (with_reducible show wpAny _ _ (binaryOp Operator.Div (Value.int _ _) (Value.int 8 _)) _ _ _); k_dflt (refine' div8 ?hh ?ha ?_; (case hh => exact rfl); (case ha => omega)); intro x9 hx9)
            | (refine Hold.mk (k := 0) ?_; (with_reducible show wpAny _ _ (binaryOp Operator.Div (Value.int _ _) (Value.int 64 _)) _ _ _); k_dflt (refine' div64 ?hh ?ha ?_; (case hh => exact rfl); (case ha => omega)); intro x9 hx9)); k_steps)
        (k_dflt (refine' kla_eval ?d0 ?_; (case d0 => exact rfl)))
        (k_dflt (refine' kla_nest ?F ?N ?T ?C ?cd ?U ?t ?n ?cl ?_; (case F => k_asm); (case N => k_asm); (case T => k_asm); (case cd => exact rfl); (case C => kn_code); (case U => exact UpdF.tail (Nat.ne_of_gt (by assumption)) (UpdF.head (by assumption))); (case t => kn_triples); (case n => kn_among); (case cl => exact rfl); k_whole))
        intro f8 c8 oc8 vs8 tq8 ct8 h8 tk8 F8 N8 d18 d28 l18 l28
        (try dsimp only at N8)
        k_steps
        repeat' ((first
            | (refine Hold.mk (k := 19) ?_; (with_unfolding_all refine' rich_eq_z ?hA ?hB ?kB ?kF ?kX ?kN ?kK ?ka ?kb ?kp ?kT ?kk ?kd ?ku ?_); k_dflt ((case kN => k_asm); (case ka => k_mem); (case kb => k_mem); (case hA => assumption); (case hB => assumption); (case kB => k_asm); (case kF => k_asm); (case kX => k_asm); (case kK => (refine KIn.mono (by assumption) ?_; intro p hp; (repeat (first | exact hp | refine List.mem_cons_of_mem _ ?_)))); (case kp => (intro p hp; (repeat (first | exact hp | refine List.mem_cons_of_mem _ ?_)))); (case kT => k_asm); (case kk => exact rfl); (case kd => ktr_room); (case ku => ktr_units)); intro h9 tk9 F9 N9; (try dsimp only); (try k_fold))
            | (refine Hold.mk (k := 17) ?_; k_dflt (refine' kmk_slice ?wF ?wN ?wl ?wp ?wq ?_ ?ws ?wt ?wz; (case wF => k_asm); (case wN => k_asm); (case wl => exact ⟨_, News.get (by k_asm) (by k_mem), rfl, _, rfl⟩); (case wp => exact IsPart.int _ _); (case wq => exact IsPart.none); (case ws => with_unfolding_all rfl); (case wt => kmk_pure); (case wz => exact out_size (by assumption) (Good.sz (by assumption)) (by omega))); intro D9 h9 F9 N9 l9)
            | (refine Hold.mk (k := 21) ?_; (with_reducible show ClsHere _ _ ∧ _); refine ⟨clsHere_of (by k_asm) (KIn.mono (by assumption) (by (intro p hp; (repeat (first | exact hp | refine List.mem_cons_of_mem _ ?_))))), ?_⟩)
            | (refine Hold.mk (k := 11) ?_; (with_reducible rename KIn _ _ _ => hK9); (k_dflt (refine' range1_N ?kF ?kN ?_; (case kF => k_asm); (case kN => k_asm))); intro r9 h9 tk9 t9 u9 v9 F9 N9 l9)
            | (refine Hold.mk (k := 1) ?_; (with_reducible show wpAny _ _ (call (Value.ref _) [Value.ref _]) _ _ _); (with_unfolding_all refine' key_c ?kB ?kF ?kX ?kN ?kK ?kT ?kk ?kd ?ku ?_; (case kN => k_asm); (case kK => (refine KIn.mono (by assumption) ?_; intro p hp; (repeat (first | exact hp | refine List.mem_cons_of_mem _ ?_)))); (case kB => k_asm); (case kF => k_asm); (case kX => k_asm); (case kT => k_asm); (case kk => exact rfl); (case kd => ktr_room); (case ku => ktr_units); k_whole); intro ka9 dk9 h9 tk9 F9 N9 l9; (try dsimp only); (try k_fold))
            | (refine Hold.mk (k := 6) ?_; k_dflt (refine' ne_cross ?kz ?ky ?k1 ?k2 ?k3 ?k4 ?ks ?_; (case kz => assumption); (case ky => assumption); (case k1 => assumption); (case k2 => assumption); (case k3 => assumption); (case k4 => assumption); (case ks => assumption)))
            | (refine Hold.mk (k := 15) ?_; k_dflt (refine' mul_is ?kx ?ky ?kb ?ke ?_; (case kx => assumption); (case ky => assumption); (case kb => assumption); (case ke => decide)); intro x9 hx9)
            | (refine Hold.mk (k := 14) ?_; k_dflt (refine' lt_cross ?kz ?k1 ?k2 ?k3 ?k4 ?k5 ?k6 ?_; (case kz => assumption); (case k1 => assumption); (case k2 => assumption); (case k3 => assumption); (case k4 => assumption); (case k5 => assumption); (case k6 => assumption)))
            | (refine Hold.mk (k := 13) ?_; k_dflt (refine' gt_cross ?kz ?k1 ?k2 ?k3 ?k4 ?k5 ?k6 ?_; (case kz => assumption); (case k1 => assumption); (case k2 => assumption); (case k3 => assumption); (case k4 => assumption); (case k5 => assumption); (case k6 => assumption)))
            | (refine Hold.mk (k := 1) ?_; (with_reducible show wpAny _ _ (call (Value.ref 35) [Value.ref _, Value.ref _]) _ _ _); (with_unfolding_all refine' cross_z ?hA ?hB ?kB ?kF ?kX ?kN ?kT ?kk ?kd ?ku ?ks ?_); k_dflt ((case hA => assumption); (case hB => assumption); (case kB => k_asm); (case kF => k_asm); (case kX => k_asm); (case kN => k_asm); (case kT => k_asm); (case kk => exact rfl); (case kd => ktr_room); (case ku => ktr_units); (case ks => (intro q9 hq9; (repeat (first | exact hq9 | exact List.mem_append_left _ hq9 | refine List.mem_cons_of_mem _ ?_))))); intro z9 t9 h9 tk9 hz9 F9 N9; (try dsimp only); (try k_fold))
            | (refine Hold.mk (k := 12) ?_; k_dflt (refine' item_nat ?kl ?ki ?kx ?_ ?ks; (case kl => exact News.get (by k_asm) (by k_mem)); (case kx => assumption); (case ki => omega); (case ks => with_unfolding_all rfl)))
            | (refine Hold.mk (k := 11) ?_; (k_dflt (refine' range1_rows ?kF ?kN ?_; (case kF => k_asm); (case kN => k_asm))); intro h9 tk9 t9 u9 v9 hR9 F9 N9 hk9; clear hk9)
            | (refine Hold.mk (k := 10) ?_; k_dflt (refine' len_my ?kl ?kz ?_; (case kl => exact News.get (by k_asm) (by k_mem)); (case kz => omega)))
            | (refine Hold.mk (k := 7) ?_; k_dflt (refine' item_last ?kl ?kn ?kx ?_ ?ks; (case kl => exact News.get (by k_asm) (by k_mem)); (case kn => omega); (case kx => assumption); (case ks => with_unfolding_all rfl)))
            | (refine Hold.mk (k := 6) ?_; k_dflt (refine' ne_same ?kx ?ky ?ke ?kq ?_; (case kx => assumption); (case ky => assumption); (case ke => decide); (case kq => ((try unfold cV); (try unfold cP); omega))))
            | (refine Hold.mk (k := 5) ?_; k_dflt (refine' mulif_is (e := 12) ?kn ?kx ?kb ?ke ?_; (case kn => decide); (case kx => assumption); (case kb => omega); (case ke => decide)); intro x9 hx9)
            | (refine Hold.mk (k := 4) ?_; k_dflt (refine' sub_is (e := 12) ?kx ?ky ?kb ?_; (case kx => assumption); (case ky => assumption); (case kb => omega)); intro x9 hx9)
            | (refine Hold.mk (k := 3) ?_; (with_reducible show wpAny _ _ (call (Value.builtin "min") [Value.float _ _, Value.float _ _, Value.float _ _]) _ _ _); k_dflt (refine' min_rgb ?kI ?kx ?ky ?kz ?hh ?kF ?kN ?_; (case kI => assumption); (case kx => assumption); (case ky => assumption); (case kz => assumption); (case hh => exact rfl); (case kF => k_asm); (case kN => k_asm)); intro r9 t9 h9 tk9 hm9 F9 N9; (try dsimp only))
            | (refine Hold.mk (k := 2) ?_; (with_reducible show wpAny _ _ (call (Value.builtin "max") [Value.float _ _, Value.float _ _, Value.float _ _]) _ _ _); k_dflt (refine' max_rgb ?kI ?kx ?ky ?kz ?hh ?kF ?kN ?_; (case kI => assumption); (case kx => assumption); (case ky => assumption); (case kz => assumption); (case hh => exact rfl); (case kF => k_asm); (case kN => k_asm)); intro r9 t9 h9 tk9 hm9 F9 N9; (try dsimp only))
            | (refine Hold.mk (k := 1) ?_; (with_reducible show wpAny _ _ (call (Value.ref 21) [Value.float _ _, Value.float _ _, Value.float _ _]) _ _ _); (with_unfolding_all refine' hsv_c ?kB ?kF ?kX ?kN ?kT ?kk ?kd ?ku ?kI ?kh ?ks ?kv ?_); k_dflt ((case kh => assumption); (case ks => assumption); (case kv => assumption); (case kB => k_asm); (case kF => k_asm); (case kX => k_asm); (case kN => k_asm); (case kT => k_asm); (case kk => exact rfl); (case kd => ktr_room); (case ku => ktr_units); (case kI => assumption)); intro r9 g9 b9 t9 u9 v9 D9 h9 tk9 hR9 F9 N9 l1; (obtain ⟨hr9, hg9, hb9⟩ := hR9); (try k_lt l1); (try dsimp only); (try k_fold))
            | (refine Hold.mk (k := 0) ?_; (with_reducible show wpAny _ _ (binaryOp Operator.Div (Value.int _ _) (Value.int 8 _)) _ _ _); k_dflt (refine' div8 ?hh ?ha ?_; (case hh => exact rfl); (case ha => omega)); intro x9 hx9)
            | (refine Hold.mk (k := 0) ?_; (with_reducible show wpAny _ _ (binaryOp Operator.Div (Value.int _ _) (Value.int 64 _)) _ _ _); k_dflt (refine' div64 ?hh ?ha ?_; (case hh => exact rfl); (case ha => omega)); intro x9 hx9)); k_steps)
        refine Hold.mk ?_
        (show wpAny _ _ (call (Value.builtin "sorted") [Value.ref _] [(Str.ofString "key", Value.ref _)]) _ _ _)
        (with_unfolding_all refine' sortedH (ps' := ps') ?kF ?kN ?hr ?h2 ?h65 hG hR ?tH ?_)
        (k_dflt (
          (case kF => exact F8)
          (case kN => exact N8)
          (case hr => exact News.get N8 (by k_mem))
          (case h2 => omega)
          (case h65 => omega)))
        (case tH =>
          intro i tv hi h4 tk4 led hled F4 N4
          have qf := hled _ (List.mem_cons_self ..)
          have qc := hled _ (List.mem_cons_of_mem _ (List.mem_cons_self ..))
          obtain ⟨hI4, hK4, ⟨ps4, hm4⟩, ⟨np4, hmP4⟩, ⟨nh4, hmH4⟩, ⟨oP4, hcP4, hdP4⟩, ⟨oH4, hcH4, hdH4⟩, ⟨oK4, hcK4, hdK4⟩⟩ := hS0.up (led := led) (fun p hp => hled _ (by (repeat (first | exact hp | refine List.mem_cons_of_mem _ ?_))))
          obtain ⟨hi1, di1, ai1, xi1, yi1, bi1, ti1, ui1, thi1, tbi1, hA⟩ := at_ hI4 (i := i) (by omega)
          have hA1 := hA.hv
          refine wpAny_call ?_
          (k_dflt (refine' kla_code ?k1 ?k2 ?k3 ?k4 ?k5 ?kA ?kF ?kK ?k6 ?k7 ?k8 ?k9 ?kB ?_ ?c2 ?c3 ?c4 ?c5; (case kA => exact rfl); (case kF => exact rfl); (case kK => exact rfl); (case k1 => k_asm); (case k2 => exact F4); (case k3 => k_asm); (case k4 => exact N4); (case k5 => k_asm); (case k6 => exact qf); (case k7 => exact codeRec_news N4 qc (by assumption) (by assumption)); (case k8 => ktr_room); (case k9 => exact rfl); (case c5 => decide); (case kB => exact locs rfl); (case c2 => exact rfl); (case c3 => exact rfl); (case c4 => exact rfl); k_whole))
          intro g' L' h' FG' F' N' B' X' T'
          (try dsimp only)
          (try k_fold)
          k_steps
          repeat' ((first
              | (refine Hold.mk (k := 19) ?_; (with_unfolding_all refine' rich_eq_z ?hA ?hB ?kB ?kF ?kX ?kN ?kK ?ka ?kb ?kp ?kT ?kk ?kd ?ku ?_); k_dflt ((case kN => k_asm); (case ka => k_mem); (case kb => k_mem); (case hA => assumption); (case hB => assumption); (case kB => k_asm); (case kF => k_asm); (case kX => k_asm); (case kK => (refine KIn.mono (by assumption) ?_; intro p hp; (repeat (first | exact hp | refine List.mem_cons_of_mem _ ?_)))); (case kp => (intro p hp; (repeat (first | exact hp | refine List.mem_cons_of_mem _ ?_)))); (case kT => k_asm); (case kk => exact rfl); (case kd => ktr_room); (case ku => ktr_units)); intro h9 tk9 F9 N9; (try dsimp only); (try k_fold))
              | (refine Hold.mk (k := 17) ?_; k_dflt (refine' kmk_slice ?wF ?wN ?wl ?wp ?wq ?_ ?ws ?wt ?wz; (case wF => k_asm); (case wN => k_asm); (case wl => exact ⟨_, News.get (by k_asm) (by k_mem), rfl, _, rfl⟩); (case wp => exact IsPart.int _ _); (case wq => exact IsPart.none); (case ws => with_unfolding_all rfl); (case wt => kmk_pure); (case wz => exact out_size (by assumption) (Good.sz (by assumption)) (by omega))); intro D9 h9 F9 N9 l9)
              | (refine Hold.mk (k := 21) ?_; (with_reducible show ClsHere _ _ ∧ _); refine ⟨clsHere_of (by k_asm) (KIn.mono (by assumption) (by (intro p hp; (repeat (first | exact hp | refine List.mem_cons_of_mem _ ?_))))), ?_⟩)
              | (refine Hold.mk (k := 11) ?_; (with_reducible rename KIn _ _ _ => hK9); (k_dflt (refine' range1_N ?kF ?kN ?_; (case kF => k_asm); (case kN => k_asm))); intro r9 h9 tk9 t9 u9 v9 F9 N9 l9)
              | (refine Hold.mk (k := 1) ?_; (with_reducible show wpAny _ _ (call (Value.ref _) [Value.ref _]) _ _ _); (with_unfolding_all refine' key_c ?kB ?kF ?kX ?kN ?kK ?kT ?kk ?kd ?ku ?_; (case kN => k_asm); (case kK => (refine KIn.mono (by assumption) ?_; intro p hp; (repeat (first | exact hp | refine List.mem_cons_of_mem _ ?_)))); (case kB => k_asm); (case kF => k_asm); (case kX => k_asm); (case kT => k_asm); (case kk => exact rfl); (case kd => ktr_room); (case ku => ktr_units); k_whole); intro ka9 dk9 h9 tk9 F9 N9 l9; (try dsimp only); (try k_fold))
              | (refine Hold.mk (k := 6) ?_; k_dflt (refine' ne_cross ?kz ?ky ?k1 ?k2 ?k3 ?k4 ?ks ?_; (case kz => assumption); (case ky => assumption); (case k1 => assumption); (case k2 => assumption); (case k3 => assumption); (case k4 => assumption); (case ks => assumption)))
              | (refine Hold.mk (k := 15) ?_; k_dflt (refine' mul_is ?kx ?ky ?kb ?ke ?_; (case kx => assumption); (case ky => assumption); (case kb => assumption); (case ke => decide)); intro x9 hx9)
              | (refine Hold.mk (k := 14) ?_; k_dflt (refine' lt_cross ?kz ?k1 ?k2 ?k3 ?k4 ?k5 ?k6 ?_; (case kz => assumption); (case k1 => assumption); (case k2 => assumption); (case k3 => assumption); (case k4 => assumption); (case k5 => assumption); (case k6 => assumption)))
              | (refine Hold.mk (k := 13) ?_; k_dflt (refine' gt_cross ?kz ?k1 ?k2 ?k3 ?k4 ?k5 ?k6 ?_; (case kz => assumption); (case k1 => assumption); (case k2 => assumption); (case k3 => assumption); (case k4 => assumption); (case k5 => assumption); (case k6 => assumption)))
              | (refine Hold.mk (k := 1) ?_; (with_reducible show wpAny _ _ (call (Value.ref 35) [Value.ref _, Value.ref _]) _ _ _); (with_unfolding_all refine' cross_z ?hA ?hB ?kB ?kF ?kX ?kN ?kT ?kk ?kd ?ku ?ks ?_); k_dflt ((case hA => assumption); (case hB => assumption); (case kB => k_asm); (case kF => k_asm); (case kX => k_asm); (case kN => k_asm); (case kT => k_asm); (case kk => exact rfl); (case kd => ktr_room); (case ku => ktr_units); (case ks => (intro q9 hq9; (repeat (first | exact hq9 | exact List.mem_append_left _ hq9 | refine List.mem_cons_of_mem _ ?_))))); intro z9 t9 h9 tk9 hz9 F9 N9; (try dsimp only); (try k_fold))
              | (refine Hold.mk (k := 12) ?_; k_dflt (refine' item_nat ?kl ?ki ?kx ?_ ?ks; (case kl => exact News.get (by k_asm) (by k_mem)); (case kx => assumption); (case ki => omega); (case ks => with_unfolding_all rfl)))
              | (refine Hold.mk (k := 11) ?_; (k_dflt (refine' range1_rows ?kF ?kN ?_; (case kF => k_asm); (case kN => k_asm))); intro h9 tk9 t9 u9 v9 hR9 F9 N9 hk9; clear hk9)
              | (refine Hold.mk (k := 10) ?_; k_dflt (refine' len_my ?kl ?kz ?_; (case kl => exact News.get (by k_asm) (by k_mem)); (case kz => omega)))
              | (refine Hold.mk (k := 7) ?_; k_dflt (refine' item_last ?kl ?kn ?kx ?_ ?ks; (case kl => exact News.get (by k_asm) (by k_mem)); (case kn => omega); (case kx => assumption); (case ks => with_unfolding_all rfl)))
              | (refine Hold.mk (k := 6) ?_; k_dflt (refine' ne_same ?kx ?ky ?ke ?kq ?_; (case kx => assumption); (case ky => assumption); (case ke => decide); (case kq => ((try unfold cV); (try unfold cP); omega))))
              | (refine Hold.mk (k := 5) ?_; k_dflt (refine' mulif_is (e := 12) ?kn ?kx ?kb ?ke ?_; (case kn => decide); (case kx => assumption); (case kb => omega); (case ke => decide)); intro x9 hx9)
              | (refine Hold.mk (k := 4) ?_; k_dflt (refine' sub_is (e := 12) ?kx ?ky ?kb ?_; (case kx => assumption); (case ky => assumption); (case kb => omega)); intro x9 hx9)
              | (refine Hold.mk (k := 3) ?_; (with_reducible show wpAny _ _ (call (Value.builtin "min") [Value.float _ _, Value.float _ _, Value.float _ _]) _ _ _); k_dflt (refine' min_rgb ?kI ?kx ?ky ?kz ?hh ?kF ?kN ?_; (case kI => assumption); (case kx => assumption); (case ky => assumption); (case kz => assumption); (case hh => exact rfl); (case kF => k_asm); (case kN => k_asm)); intro r9 t9 h9 tk9 hm9 F9 N9; (try dsimp only))
              | (refine Hold.mk (k := 2) ?_; (with_reducible show wpAny _ _ (call (Value.builtin "max") [Value.float _ _, Value.float _ _, Value.float _ _]) _ _ _); k_dflt (refine' max_rgb ?kI ?kx ?ky ?kz ?hh ?kF ?kN ?_; (case kI => assumption); (case kx => assumption); (case ky => assumption); (case kz => assumption); (case hh => exact rfl); (case kF => k_asm); (case kN => k_asm)); intro r9 t9 h9 tk9 hm9 F9 N9; (try dsimp only))
              | (refine Hold.mk (k := 1) ?_; (with_reducible show wpAny _ _ (call (Value.ref 21) [Value.float _ _, Value.float _ _, Value.float _ _]) _ _ _); (with_unfolding_all refine' hsv_c ?kB ?kF ?kX ?kN ?kT ?kk ?kd ?ku ?kI ?kh ?ks ?kv ?_); k_dflt ((case kh => assumption); (case ks => assumption); (case kv => assumption); (case kB => k_asm); (case kF => k_asm); (case kX => k_asm); (case kN => k_asm); (case kT => k_asm); (case kk => exact rfl); (case kd => ktr_room); (case ku => ktr_units); (case kI => assumption)); intro r9 g9 b9 t9 u9 v9 D9 h9 tk9 hR9 F9 N9 l1; (obtain ⟨hr9, hg9, hb9⟩ := hR9); (try k_lt l1); (try dsimp only); (try k_fold))
              | (refine Hold.mk (k := 0) ?_; (with_reducible show wpAny _ _ (binaryOp Operator.Div (Value.int _ _) (Value.int 8 _)) _ _ _); k_dflt (refine' div8 ?hh ?ha ?_; (case hh => exact rfl); (case ha => omega)); intro x9 hx9)
              | (refine Hold.mk (k := 0) ?_; (with_reducible show wpAny _ _ (binaryOp Operator.Div (Value.int _ _) (Value.int 64 _)) _ _ _); k_dflt (refine' div64 ?hh ?ha ?_; (case hh => exact rfl); (case ha => omega)); intro x9 hx9)); k_steps)
          all_goals exact keyEnd_H (by assumption) (by assumption) hA.e)
        intro D9 h9 tk9 c9 out9 kown9 F9 N9 l9 hI9
        obtain ⟨N10, hne10, l10⟩ := after_sort N9 l9 hne7
        (dsimp only at hne10 l10)
        clear N9 l9 F8 N8 d18 d28 l18 l28
        k_steps
        repeat' ((first
            | (refine Hold.mk (k := 19) ?_; (with_unfolding_all refine' rich_eq_z ?hA ?hB ?kB ?kF ?kX ?kN ?kK ?ka ?kb ?kp ?kT ?kk ?kd ?ku ?_); k_dflt ((case kN => k_asm); (case ka => k_mem); (case kb => k_mem); (case hA => assumption); (case hB => assumption); (case kB => k_asm); (case kF => k_asm); (case kX => k_asm); (case kK => (refine KIn.mono (by assumption) ?_; intro p hp; (repeat (first | exact hp | refine List.mem_cons_of_mem _ ?_)))); (case kp => (intro p hp; (repeat (first | exact hp | refine List.mem_cons_of_mem _ ?_)))); (case kT => k_asm); (case kk => exact rfl); (case kd => ktr_room); (case ku => ktr_units)); intro h9 tk9 F9 N9; (try dsimp only); (try k_fold))
            | (refine Hold.mk (k := 17) ?_; k_dflt (refine' kmk_slice ?wF ?wN ?wl ?wp ?wq ?_ ?ws ?wt ?wz; (case wF => k_asm); (case wN => k_asm); (case wl => exact ⟨_, News.get (by k_asm) (by k_mem), rfl, _, rfl⟩); (case wp => exact IsPart.int _ _); (case wq => exact IsPart.none); (case ws => with_unfolding_all rfl); (case wt => kmk_pure); (case wz => exact out_size (by assumption) (Good.sz (by assumption)) (by omega))); intro D9 h9 F9 N9 l9)
            | (refine Hold.mk (k := 21) ?_; (with_reducible show ClsHere _ _ ∧ _); refine ⟨clsHere_of (by k_asm) (KIn.mono (by assumption) (by (intro p hp; (repeat (first | exact hp | refine List.mem_cons_of_mem _ ?_))))), ?_⟩)
            | (refine Hold.mk (k := 11) ?_; (with_reducible rename KIn _ _ _ => hK9); (k_dflt (refine' range1_N ?kF ?kN ?_; (case kF => k_asm); (case kN => k_asm))); intro r9 h9 tk9 t9 u9 v9 F9 N9 l9)
            | (refine Hold.mk (k := 1) ?_; (with_reducible show wpAny _ _ (call (Value.ref _) [Value.ref _]) _ _ _); (with_unfolding_all refine' key_c ?kB ?kF ?kX ?kN ?kK ?kT ?kk ?kd ?ku ?_; (case kN => k_asm); (case kK => (refine KIn.mono (by assumption) ?_; intro p hp; (repeat (first | exact hp | refine List.mem_cons_of_mem _ ?_)))); (case kB => k_asm); (case kF => k_asm); (case kX => k_asm); (case kT => k_asm); (case kk => exact rfl); (case kd => ktr_room); (case ku => ktr_units); k_whole); intro ka9 dk9 h9 tk9 F9 N9 l9; (try dsimp only); (try k_fold))
            | (refine Hold.mk (k := 6) ?_; k_dflt (refine' ne_cross ?kz ?ky ?k1 ?k2 ?k3 ?k4 ?ks ?_; (case kz => assumption); (case ky => assumption); (case k1 => assumption); (case k2 => assumption); (case k3 => assumption); (case k4 => assumption); (case ks => assumption)))
            | (refine Hold.mk (k := 15) ?_; k_dflt (refine' mul_is ?kx ?ky ?kb ?ke ?_; (case kx => assumption); (case ky => assumption); (case kb => assumption); (case ke => decide)); intro x9 hx9)
            | (refine Hold.mk (k := 14) ?_; k_dflt (refine' lt_cross ?kz ?k1 ?k2 ?k3 ?k4 ?k5 ?k6 ?_; (case kz => assumption); (case k1 => assumption); (case k2 => assumption); (case k3 => assumption); (case k4 => assumption); (case k5 => assumption); (case k6 => assumption)))
            | (refine Hold.mk (k := 13) ?_; k_dflt (refine' gt_cross ?kz ?k1 ?k2 ?k3 ?k4 ?k5 ?k6 ?_; (case kz => assumption); (case k1 => assumption); (case k2 => assumption); (case k3 => assumption); (case k4 => assumption); (case k5 => assumption); (case k6 => assumption)))
            | (refine Hold.mk (k := 1) ?_; (with_reducible show wpAny _ _ (call (Value.ref 35) [Value.ref _, Value.ref _]) _ _ _); (with_unfolding_all refine' cross_z ?hA ?hB ?kB ?kF ?kX ?kN ?kT ?kk ?kd ?ku ?ks ?_); k_dflt ((case hA => assumption); (case hB => assumption); (case kB => k_asm); (case kF => k_asm); (case kX => k_asm); (case kN => k_asm); (case kT => k_asm); (case kk => exact rfl); (case kd => ktr_room); (case ku => ktr_units); (case ks => (intro q9 hq9; (repeat (first | exact hq9 | exact List.mem_append_left _ hq9 | refine List.mem_cons_of_mem _ ?_))))); intro z9 t9 h9 tk9 hz9 F9 N9; (try dsimp only); (try k_fold))
            | (refine Hold.mk (k := 12) ?_; k_dflt (refine' item_nat ?kl ?ki ?kx ?_ ?ks; (case kl => exact News.get (by k_asm) (by k_mem)); (case kx => assumption); (case ki => omega); (case ks => with_unfolding_all rfl)))
            | (refine Hold.mk (k := 11) ?_; (k_dflt (refine' range1_rows ?kF ?kN ?_; (case kF => k_asm); (case kN => k_asm))); intro h9 tk9 t9 u9 v9 hR9 F9 N9 hk9; clear hk9)
            | (refine Hold.mk (k := 10) ?_; k_dflt (refine' len_my ?kl ?kz ?_; (case kl => exact News.get (by k_asm) (by k_mem)); (case kz => omega)))
            | (refine Hold.mk (k := 7) ?_; k_dflt (refine' item_last ?kl ?kn ?kx ?_ ?ks; (case kl => exact News.get (by k_asm) (by k_mem)); (case kn => omega); (case kx => assumption); (case ks => with_unfolding_all rfl)))
            | (refine Hold.mk (k := 6) ?_; k_dflt (refine' ne_same ?kx ?ky ?ke ?kq ?_; (case kx => assumption); (case ky => assumption); (case ke => decide); (case kq => ((try unfold cV); (try unfold cP); omega))))
            | (refine Hold.mk (k := 5) ?_; k_dflt (refine' mulif_is (e := 12) ?kn ?kx ?kb ?ke ?_; (case kn => decide); (case kx => assumption); (case kb => omega); (case ke => decide)); intro x9 hx9)
            | (refine Hold.mk (k := 4) ?_; k_dflt (refine' sub_is (e := 12) ?kx ?ky ?kb ?_; (case kx => assumption); (case ky => assumption); (case kb => omega)); intro x9 hx9)
            | (refine Hold.mk (k := 3) ?_; (with_reducible show wpAny _ _ (call (Value.builtin "min") [Value.float _ _, Value.float _ _, Value.float _ _]) _ _ _); k_dflt (refine' min_rgb ?kI ?kx ?ky ?kz ?hh ?kF ?kN ?_; (case kI => assumption); (case kx => assumption); (case ky => assumption); (case kz => assumption); (case hh => exact rfl); (case kF => k_asm); (case kN => k_asm)); intro r9 t9 h9 tk9 hm9 F9 N9; (try dsimp only))
            | (refine Hold.mk (k := 2) ?_; (with_reducible show wpAny _ _ (call (Value.builtin "max") [Value.float _ _, Value.float _ _, Value.float _ _]) _ _ _); k_dflt (refine' max_rgb ?kI ?kx ?ky ?kz ?hh ?kF ?kN ?_; (case kI => assumption); (case kx => assumption); (case ky => assumption); (case kz => assumption); (case hh => exact rfl); (case kF => k_asm); (case kN => k_asm)); intro r9 t9 h9 tk9 hm9 F9 N9; (try dsimp only))
            | (refine Hold.mk (k := 1) ?_; (with_reducible show wpAny _ _ (call (Value.ref 21) [Value.float _ _, Value.float _ _, Value.float _ _]) _ _ _); (with_unfolding_all refine' hsv_c ?kB ?kF ?kX ?kN ?kT ?kk ?kd ?ku ?kI ?kh ?ks ?kv ?_); k_dflt ((case kh => assumption); (case ks => assumption); (case kv => assumption); (case kB => k_asm); (case kF => k_asm); (case kX => k_asm); (case kN => k_asm); (case kT => k_asm); (case kk => exact rfl); (case kd => ktr_room); (case ku => ktr_units); (case kI => assumption)); intro r9 g9 b9 t9 u9 v9 D9 h9 tk9 hR9 F9 N9 l1; (obtain ⟨hr9, hg9, hb9⟩ := hR9); (try k_lt l1); (try dsimp only); (try k_fold))
            | (refine Hold.mk (k := 0) ?_; (with_reducible show wpAny _ _ (binaryOp Operator.Div (Value.int _ _) (Value.int 8 _)) _ _ _); k_dflt (refine' div8 ?hh ?ha ?_; (case hh => exact rfl); (case ha => omega)); intro x9 hx9)
            | (refine Hold.mk (k := 0) ?_; (with_reducible show wpAny _ _ (binaryOp Operator.Div (Value.int _ _) (Value.int 64 _)) _ _ _); k_dflt (refine' div64 ?hh ?ha ?_; (case hh => exact rfl); (case ha => omega)); intro x9 hx9)); k_steps)
        refine Hold.mk ?_
        refine' For_turns ?kF ?_ ?k3 ?k4
        (case kF => k_asm)
        (case k3 => (intro _; rfl))
        (case k4 => passes_own)
        k_steps
        repeat' ((first
            | (refine Hold.mk (k := 19) ?_; (with_unfolding_all refine' rich_eq_z ?hA ?hB ?kB ?kF ?kX ?kN ?kK ?ka ?kb ?kp ?kT ?kk ?kd ?ku ?_); k_dflt ((case kN => k_asm); (case ka => k_mem); (case kb => k_mem); (case hA => assumption); (case hB => assumption); (case kB => k_asm); (case kF => k_asm); (case kX => k_asm); (case kK => (refine KIn.mono (by assumption) ?_; intro p hp; (repeat (first | exact hp | refine List.mem_cons_of_mem _ ?_)))); (case kp => (intro p hp; (repeat (first | exact hp | refine List.mem_cons_of_mem _ ?_)))); (case kT => k_asm); (case kk => exact rfl); (case kd => ktr_room); (case ku => ktr_units)); intro h9 tk9 F9 N9; (try dsimp only); (try k_fold))
            | (refine Hold.mk (k := 17) ?_; k_dflt (refine' kmk_slice ?wF ?wN ?wl ?wp ?wq ?_ ?ws ?wt ?wz; (case wF => k_asm); (case wN => k_asm); (case wl => exact ⟨_, News.get (by k_asm) (by k_mem), rfl, _, rfl⟩); (case wp => exact IsPart.int _ _); (case wq => exact IsPart.none); (case ws => with_unfolding_all rfl); (case wt => kmk_pure); (case wz => exact out_size (by assumption) (Good.sz (by assumption)) (by omega))); intro D9 h9 F9 N9 l9)
            | (refine Hold.mk (k := 21) ?_; (with_reducible show ClsHere _ _ ∧ _); refine ⟨clsHere_of (by k_asm) (KIn.mono (by assumption) (by (intro p hp; (repeat (first | exact hp | refine List.mem_cons_of_mem _ ?_))))), ?_⟩)
            | (refine Hold.mk (k := 11) ?_; (with_reducible rename KIn _ _ _ => hK9); (k_dflt (refine' range1_N ?kF ?kN ?_; (case kF => k_asm); (case kN => k_asm))); intro r9 h9 tk9 t9 u9 v9 F9 N9 l9)
            | (refine Hold.mk (k := 1) ?_; (with_reducible show wpAny _ _ (call (Value.ref _) [Value.ref _]) _ _ _); (with_unfolding_all refine' key_c ?kB ?kF ?kX ?kN ?kK ?kT ?kk ?kd ?ku ?_; (case kN => k_asm); (case kK => (refine KIn.mono (by assumption) ?_; intro p hp; (repeat (first | exact hp | refine List.mem_cons_of_mem _ ?_)))); (case kB => k_asm); (case kF => k_asm); (case kX => k_asm); (case kT => k_asm); (case kk => exact rfl); (case kd => ktr_room); (case ku => ktr_units); k_whole); intro ka9 dk9 h9 tk9 F9 N9 l9; (try dsimp only); (try k_fold))
            | (refine Hold.mk (k := 6) ?_; k_dflt (refine' ne_cross ?kz ?ky ?k1 ?k2 ?k3 ?k4 ?ks ?_; (case kz => assumption); (case ky => assumption); (case k1 => assumption); (case k2 => assumption); (case k3 => assumption); (case k4 => assumption); (case ks => assumption)))
            | (refine Hold.mk (k := 15) ?_; k_dflt (refine' mul_is ?kx ?ky ?kb ?ke ?_; (case kx => assumption); (case ky => assumption); (case kb => assumption); (case ke => decide)); intro x9 hx9)
            | (refine Hold.mk (k := 14) ?_; k_dflt (refine' lt_cross ?kz ?k1 ?k2 ?k3 ?k4 ?k5 ?k6 ?_; (case kz => assumption); (case k1 => assumption); (case k2 => assumption); (case k3 => assumption); (case k4 => assumption); (case k5 => assumption); (case k6 => assumption)))
            | (refine Hold.mk (k := 13) ?_; k_dflt (refine' gt_cross ?kz ?k1 ?k2 ?k3 ?k4 ?k5 ?k6 ?_; (case kz => assumption); (case k1 => assumption); (case k2 => assumption); (case k3 => assumption); (case k4 => assumption); (case k5 => assumption); (case k6 => assumption)))
            | (refine Hold.mk (k := 1) ?_; (with_reducible show wpAny _ _ (call (Value.ref 35) [Value.ref _, Value.ref _]) _ _ _); (with_unfolding_all refine' cross_z ?hA ?hB ?kB ?kF ?kX ?kN ?kT ?kk ?kd ?ku ?ks ?_); k_dflt ((case hA => assumption); (case hB => assumption); (case kB => k_asm); (case kF => k_asm); (case kX => k_asm); (case kN => k_asm); (case kT => k_asm); (case kk => exact rfl); (case kd => ktr_room); (case ku => ktr_units); (case ks => (intro q9 hq9; (repeat (first | exact hq9 | exact List.mem_append_left _ hq9 | refine List.mem_cons_of_mem _ ?_))))); intro z9 t9 h9 tk9 hz9 F9 N9; (try dsimp only); (try k_fold))
            | (refine Hold.mk (k := 12) ?_; k_dflt (refine' item_nat ?kl ?ki ?kx ?_ ?ks; (case kl => exact News.get (by k_asm) (by k_mem)); (case kx => assumption); (case ki => omega); (case ks => with_unfolding_all rfl)))
            | (refine Hold.mk (k := 11) ?_; (k_dflt (refine' range1_rows ?kF ?kN ?_; (case kF => k_asm); (case kN => k_asm))); intro h9 tk9 t9 u9 v9 hR9 F9 N9 hk9; clear hk9)
            | (refine Hold.mk (k := 10) ?_; k_dflt (refine' len_my ?kl ?kz ?_; (case kl => exact News.get (by k_asm) (by k_mem)); (case kz => omega)))
            | (refine Hold.mk (k := 7) ?_; k_dflt (refine' item_last ?kl ?kn ?kx ?_ ?ks; (case kl => exact News.get (by k_asm) (by k_mem)); (case kn => omega); (case kx => assumption); (case ks => with_unfolding_all rfl)))
            | (refine Hold.mk (k := 6) ?_; k_dflt (refine' ne_same ?kx ?ky ?ke ?kq ?_; (case kx => assumption); (case ky => assumption); (case ke => decide); (case kq => ((try unfold cV); (try unfold cP); omega))))
            | (refine Hold.mk (k := 5) ?_; k_dflt (refine' mulif_is (e := 12) ?kn ?kx ?kb ?ke ?_; (case kn => decide); (case kx => assumption); (case kb => omega); (case ke => decide)); intro x9 hx9)
            | (refine Hold.mk (k := 4) ?_; k_dflt (refine' sub_is (e := 12) ?kx ?ky ?kb ?_; (case kx => assumption); (case ky => assumption); (case kb => omega)); intro x9 hx9)
            | (refine Hold.mk (k := 3) ?_; (with_reducible show wpAny _ _ (call (Value.builtin "min") [Value.float _ _, Value.float _ _, Value.float _ _]) _ _ _); k_dflt (refine' min_rgb ?kI ?kx ?ky ?kz ?hh ?kF ?kN ?_; (case kI => assumption); (case kx => assumption); (case ky => assumption); (case kz => assumption); (case hh => exact rfl); (case kF => k_asm); (case kN => k_asm)); intro r9 t9 h9 tk9 hm9 F9 N9; (try dsimp only))
            | (refine Hold.mk (k := 2) ?_; (with_reducible show wpAny _ _ (call (Value.builtin "max") [Value.float _ _, Value.float _ _, Value.float _ _]) _ _ _); k_dflt (refine' max_rgb ?kI ?kx ?ky ?kz ?hh ?kF ?kN ?_; (case kI => assumption); (case kx => assumption); (case ky => assumption); (case kz => assumption); (case hh => exact rfl); (case kF => k_asm); (case kN => k_asm)); intro r9 t9 h9 tk9 hm9 F9 N9; (try dsimp only))
            | (refine Hold.mk (k := 1) ?_; (with_reducible show wpAny _ _ (call (Value.ref 21) [Value.float _ _, Value.float _ _, Value.float _ _]) _ _ _); (with_unfolding_all refine' hsv_c ?kB ?kF ?kX ?kN ?kT ?kk ?kd ?ku ?kI ?kh ?ks ?kv ?_); k_dflt ((case kh => assumption); (case ks => assumption); (case kv => assumption); (case kB => k_asm); (case kF => k_asm); (case kX => k_asm); (case kN => k_asm); (case kT => k_asm); (case kk => exact rfl); (case kd => ktr_room); (case ku => ktr_units); (case kI => assumption)); intro r9 g9 b9 t9 u9 v9 D9 h9 tk9 hR9 F9 N9 l1; (obtain ⟨hr9, hg9, hb9⟩ := hR9); (try k_lt l1); (try dsimp only); (try k_fold))
            | (refine Hold.mk (k := 0) ?_; (with_reducible show wpAny _ _ (binaryOp Operator.Div (Value.int _ _) (Value.int 8 _)) _ _ _); k_dflt (refine' div8 ?hh ?ha ?_; (case hh => exact rfl); (case ha => omega)); intro x9 hx9)
            | (refine Hold.mk (k := 0) ?_; (with_reducible show wpAny _ _ (binaryOp Operator.Div (Value.int _ _) (Value.int 64 _)) _ _ _); k_dflt (refine' div64 ?hh ?ha ?_; (case hh => exact rfl); (case ha => omega)); intro x9 hx9)); k_steps)
        refine Hold.mk ?_
        (with_unfolding_all refine' ktu_zip (xs := out6.toList) (ys := (slicePick out6 _ _ none).toList) ?hh ?F ?N ?m1 ?c1 ?d1 ?m2 ?c2 ?d2 ?rest)
        (k_dflt (
          (case hh => exact rfl)
          (case F => k_asm)
          (case N => k_asm)
          (case m1 => k_mem)
          (case m2 => k_mem)
          (case c1 => exact rfl)
          (case c2 => exact rfl)
          (case d1 => exact seq_tl _ _)
          (case d2 => exact seq_tl _ _)))
        (case rest =>
          intro I11 hI11
          refine zip_rest (n := pv.length) ?zk ?zt ?zd _ _ _ (small_of hI6 hG.lt) (small_pick (small_of hI6 hG.lt))
          (case zk => exact ⟨by k_mem, by k_mem, trivial⟩)
          (case zd =>
            intro u12 h12 tk12 F12 N12
            k_steps
            repeat' ((first
                | (refine Hold.mk (k := 19) ?_; (with_unfolding_all refine' rich_eq_z ?hA ?hB ?kB ?kF ?kX ?kN ?kK ?ka ?kb ?kp ?kT ?kk ?kd ?ku ?_); k_dflt ((case kN => k_asm); (case ka => k_mem); (case kb => k_mem); (case hA => assumption); (case hB => assumption); (case kB => k_asm); (case kF => k_asm); (case kX => k_asm); (case kK => (refine KIn.mono (by assumption) ?_; intro p hp; (repeat (first | exact hp | refine List.mem_cons_of_mem _ ?_)))); (case kp => (intro p hp; (repeat (first | exact hp | refine List.mem_cons_of_mem _ ?_)))); (case kT => k_asm); (case kk => exact rfl); (case kd => ktr_room); (case ku => ktr_units)); intro h9 tk9 F9 N9; (try dsimp only); (try k_fold))
                | (refine Hold.mk (k := 17) ?_; k_dflt (refine' kmk_slice ?wF ?wN ?wl ?wp ?wq ?_ ?ws ?wt ?wz; (case wF => k_asm); (case wN => k_asm); (case wl => exact ⟨_, News.get (by k_asm) (by k_mem), rfl, _, rfl⟩); (case wp => exact IsPart.int _ _); (case wq => exact IsPart.none); (case ws => with_unfolding_all rfl); (case wt => kmk_pure); (case wz => exact out_size (by assumption) (Good.sz (by assumption)) (by omega))); intro D9 h9 F9 N9 l9)
                | (refine Hold.mk (k := 21) ?_; (with_reducible show ClsHere _ _ ∧ _); refine ⟨clsHere_of (by k_asm) (KIn.mono (by assumption) (by (intro p hp; (repeat (first | exact hp | refine List.mem_cons_of_mem _ ?_))))), ?_⟩)
                | (refine Hold.mk (k := 11) ?_; (with_reducible rename KIn _ _ _ => hK9); (k_dflt (refine' range1_N ?kF ?kN ?_; (case kF => k_asm); (case kN => k_asm))); intro r9 h9 tk9 t9 u9 v9 F9 N9 l9)
                | (refine Hold.mk (k := 1) ?_; (with_reducible show wpAny _ _ (call (Value.ref _) [Value.ref _]) _ _ _); (with_unfolding_all refine' key_c ?kB ?kF ?kX ?kN ?kK ?kT ?kk ?kd ?ku ?_; (case kN => k_asm); (case kK => (refine KIn.mono (by assumption) ?_; intro p hp; (repeat (first | exact hp | refine List.mem_cons_of_mem _ ?_)))); (case kB => k_asm); (case kF => k_asm); (case kX => k_asm); (case kT => k_asm); (case kk => exact rfl); (case kd => ktr_room); (case ku => ktr_units); k_whole); intro ka9 dk9 h9 tk9 F9 N9 l9; (try dsimp only); (try k_fold))
                | (refine Hold.mk (k := 6) ?_; k_dflt (refine' ne_cross ?kz ?ky ?k1 ?k2 ?k3 ?k4 ?ks ?_; (case kz => assumption); (case ky => assumption); (case k1 => assumption); (case k2 => assumption); (case k3 => assumption); (case k4 => assumption); (case ks => assumption)))
                | (refine Hold.mk (k := 15) ?_; k_dflt (refine' mul_is ?kx ?ky ?kb ?ke ?_; (case kx => assumption); (case ky => assumption); (case kb => assumption); (case ke => decide)); intro x9 hx9)
                | (refine Hold.mk (k := 14) ?_; k_dflt (refine' lt_cross ?kz ?k1 ?k2 ?k3 ?k4 ?k5 ?k6 ?_; (case kz => assumption); (case k1 => assumption); (case k2 => assumption); (case k3 => assumption); (case k4 => assumption); (case k5 => assumption); (case k6 => assumption)))
                | (refine Hold.mk (k := 13) ?_; k_dflt (refine' gt_cross ?kz ?k1 ?k2 ?k3 ?k4 ?k5 ?k6 ?_; (case kz => assumption); (case k1 => assumption); (case k2 => assumption); (case k3 => assumption); (case k4 => assumption); (case k5 => assumption); (case k6 => assumption)))
                | (refine Hold.mk (k := 1) ?_; (with_reducible show wpAny _ _ (call (Value.ref 35) [Value.ref _, Value.ref _]) _ _ _); (with_unfolding_all refine' cross_z ?hA ?hB ?kB ?kF ?kX ?kN ?kT ?kk ?kd ?ku ?ks ?_); k_dflt ((case hA => assumption); (case hB => assumption); (case kB => k_asm); (case kF => k_asm); (case kX => k_asm); (case kN => k_asm); (case kT => k_asm); (case kk => exact rfl); (case kd => ktr_room); (case ku => ktr_units); (case ks => (intro q9 hq9; (repeat (first | exact hq9 | exact List.mem_append_left _ hq9 | refine List.mem_cons_of_mem _ ?_))))); intro z9 t9 h9 tk9 hz9 F9 N9; (try dsimp only); (try k_fold))
                | (refine Hold.mk (k := 12) ?_; k_dflt (refine' item_nat ?kl ?ki ?kx ?_ ?ks; (case kl => exact News.get (by k_asm) (by k_mem)); (case kx => assumption); (case ki => omega); (case ks => with_unfolding_all rfl)))
                | (refine Hold.mk (k := 11) ?_; (k_dflt (refine' range1_rows ?kF ?kN ?_; (case kF => k_asm); (case kN => k_asm))); intro h9 tk9 t9 u9 v9 hR9 F9 N9 hk9; clear hk9)
                | (refine Hold.mk (k := 10) ?_; k_dflt (refine' len_my ?kl ?kz ?_; (case kl => exact News.get (by k_asm) (by k_mem)); (case kz => omega)))
                | (refine Hold.mk (k := 7) ?_; k_dflt (refine' item_last ?kl ?kn ?kx ?_ ?ks; (case kl => exact News.get (by k_asm) (by k_mem)); (case kn => omega); (case kx => assumption); (case ks => with_unfolding_all rfl)))
                | (refine Hold.mk (k := 6) ?_; k_dflt (refine' ne_same ?kx ?ky ?ke ?kq ?_; (case kx => assumption); (case ky => assumption); (case ke => decide); (case kq => ((try unfold cV); (try unfold cP); omega))))
                | (refine Hold.mk (k := 5) ?_; k_dflt (refine' mulif_is (e := 12) ?kn ?kx ?kb ?ke ?_; (case kn => decide); (case kx => assumption); (case kb => omega); (case ke => decide)); intro x9 hx9)
                | (refine Hold.mk (k := 4) ?_; k_dflt (refine' sub_is (e := 12) ?kx ?ky ?kb ?_; (case kx => assumption); (case ky => assumption); (case kb => omega)); intro x9 hx9)
                | (refine Hold.mk (k := 3) ?_; (with_reducible show wpAny _ _ (call (Value.builtin "min") [Value.float _ _, Value.float _ _, Value.float _ _]) _ _ _); k_dflt (refine' min_rgb ?kI ?kx ?ky ?kz ?hh ?kF ?kN ?_; (case kI => assumption); (case kx => assumption); (case ky => assumption); (case kz => assumption); (case hh => exact rfl); (case kF => k_asm); (case kN => k_asm)); intro r9 t9 h9 tk9 hm9 F9 N9; (try dsimp only))
                | (refine Hold.mk (k := 2) ?_; (with_reducible show wpAny _ _ (call (Value.builtin "max") [Value.float _ _, Value.float _ _, Value.float _ _]) _ _ _); k_dflt (refine' max_rgb ?kI ?kx ?ky ?kz ?hh ?kF ?kN ?_; (case kI => assumption); (case kx => assumption); (case ky => assumption); (case kz => assumption); (case hh => exact rfl); (case kF => k_asm); (case kN => k_asm)); intro r9 t9 h9 tk9 hm9 F9 N9; (try dsimp only))
                | (refine Hold.mk (k := 1) ?_; (with_reducible show wpAny _ _ (call (Value.ref 21) [Value.float _ _, Value.float _ _, Value.float _ _]) _ _ _); (with_unfolding_all refine' hsv_c ?kB ?kF ?kX ?kN ?kT ?kk ?kd ?ku ?kI ?kh ?ks ?kv ?_); k_dflt ((case kh => assumption); (case ks => assumption); (case kv => assumption); (case kB => k_asm); (case kF => k_asm); (case kX => k_asm); (case kN => k_asm); (case kT => k_asm); (case kk => exact rfl); (case kd => ktr_room); (case ku => ktr_units); (case kI => assumption)); intro r9 g9 b9 t9 u9 v9 D9 h9 tk9 hR9 F9 N9 l1; (obtain ⟨hr9, hg9, hb9⟩ := hR9); (try k_lt l1); (try dsimp only); (try k_fold))
                | (refine Hold.mk (k := 0) ?_; (with_reducible show wpAny _ _ (binaryOp Operator.Div (Value.int _ _) (Value.int 8 _)) _ _ _); k_dflt (refine' div8 ?hh ?ha ?_; (case hh => exact rfl); (case ha => omega)); intro x9 hx9)
                | (refine Hold.mk (k := 0) ?_; (with_reducible show wpAny _ _ (binaryOp Operator.Div (Value.int _ _) (Value.int 64 _)) _ _ _); k_dflt (refine' div64 ?hh ?ha ?_; (case hh => exact rfl); (case ha => omega)); intro x9 hx9)); k_steps))
          (case zt =>
            intro i j t11 t12 T11 h11 tk11 u11 hi hj hT11 F11
            refine AllObj.cons fun q1 hq1 => AllObj.cons fun q2 hq2 => AllObj.cons fun q3 hq3 => AllObj.cons fun q4 hq4 => AllObj.cons fun q5 hq5 => AllObj.nil fun N11 => ?_
            simp only [List.cons_append, List.nil_append] at N11
            obtain ⟨hi1, di1, ai1, xi1, yi1, bi1, ti1, ui1, thi1, tbi1, hA⟩ := at_ hI3 (i := i) (by omega)
            obtain ⟨hj1, dj1, aj1, xj1, yj1, bj1, tj1, uj1, thj1, tbj1, hB⟩ := at_ hI3 (i := j) (by omega)
            have hA1 := hA.hv
            have hA2 := hA.pv
            have hB1 := hB.hv
            have hB2 := hB.pv
            k_steps
            repeat' ((first
                | (refine Hold.mk (k := 19) ?_; (with_unfolding_all refine' rich_eq_z ?hA ?hB ?kB ?kF ?kX ?kN ?kK ?ka ?kb ?kp ?kT ?kk ?kd ?ku ?_); k_dflt ((case kN => k_asm); (case ka => k_mem); (case kb => k_mem); (case hA => assumption); (case hB => assumption); (case kB => k_asm); (case kF => k_asm); (case kX => k_asm); (case kK => (refine KIn.mono (by assumption) ?_; intro p hp; (repeat (first | exact hp | refine List.mem_cons_of_mem _ ?_)))); (case kp => (intro p hp; (repeat (first | exact hp | refine List.mem_cons_of_mem _ ?_)))); (case kT => k_asm); (case kk => exact rfl); (case kd => ktr_room); (case ku => ktr_units)); intro h9 tk9 F9 N9; (try dsimp only); (try k_fold))
                | (refine Hold.mk (k := 17) ?_; k_dflt (refine' kmk_slice ?wF ?wN ?wl ?wp ?wq ?_ ?ws ?wt ?wz; (case wF => k_asm); (case wN => k_asm); (case wl => exact ⟨_, News.get (by k_asm) (by k_mem), rfl, _, rfl⟩); (case wp => exact IsPart.int _ _); (case wq => exact IsPart.none); (case ws => with_unfolding_all rfl); (case wt => kmk_pure); (case wz => exact out_size (by assumption) (Good.sz (by assumption)) (by omega))); intro D9 h9 F9 N9 l9)
                | (refine Hold.mk (k := 21) ?_; (with_reducible show ClsHere _ _ ∧ _); refine ⟨clsHere_of (by k_asm) (KIn.mono (by assumption) (by (intro p hp; (repeat (first | exact hp | refine List.mem_cons_of_mem _ ?_))))), ?_⟩)
                | (refine Hold.mk (k := 11) ?_; (with_reducible rename KIn _ _ _ => hK9); (k_dflt (refine' range1_N ?kF ?kN ?_; (case kF => k_asm); (case kN => k_asm))); intro r9 h9 tk9 t9 u9 v9 F9 N9 l9)
                | (refine Hold.mk (k := 1) ?_; (with_reducible show wpAny _ _ (call (Value.ref _) [Value.ref _]) _ _ _); (with_unfolding_all refine' key_c ?kB ?kF ?kX ?kN ?kK ?kT ?kk ?kd ?ku ?_; (case kN => k_asm); (case kK => (refine KIn.mono (by assumption) ?_; intro p hp; (repeat (first | exact hp | refine List.mem_cons_of_mem _ ?_)))); (case kB => k_asm); (case kF => k_asm); (case kX => k_asm); (case kT => k_asm); (case kk => exact rfl); (case kd => ktr_room); (case ku => ktr_units); k_whole); intro ka9 dk9 h9 tk9 F9 N9 l9; (try dsimp only); (try k_fold))
                | (refine Hold.mk (k := 6) ?_; k_dflt (refine' ne_cross ?kz ?ky ?k1 ?k2 ?k3 ?k4 ?ks ?_; (case kz => assumption); (case ky => assumption); (case k1 => assumption); (case k2 => assumption); (case k3 => assumption); (case k4 => assumption); (case ks => assumption)))
                | (refine Hold.mk (k := 15) ?_; k_dflt (refine' mul_is ?kx ?ky ?kb ?ke ?_; (case kx => assumption); (case ky => assumption); (case kb => assumption); (case ke => decide)); intro x9 hx9)
                | (refine Hold.mk (k := 14) ?_; k_dflt (refine' lt_cross ?kz ?k1 ?k2 ?k3 ?k4 ?k5 ?k6 ?_; (case kz => assumption); (case k1 => assumption); (case k2 => assumption); (case k3 => assumption); (case k4 => assumption); (case k5 => assumption); (case k6 => assumption)))
                | (refine Hold.mk (k := 13) ?_; k_dflt (refine' gt_cross ?kz ?k1 ?k2 ?k3 ?k4 ?k5 ?k6 ?_; (case kz => assumption); (case k1 => assumption); (case k2 => assumption); (case k3 => assumption); (case k4 => assumption); (case k5 => assumption); (case k6 => assumption)))
                | (refine Hold.mk (k := 1) ?_; (with_reducible show wpAny _ _ (call (Value.ref 35) [Value.ref _, Value.ref _]) _ _ _); (with_unfolding_all refine' cross_z ?hA ?hB ?kB ?kF ?kX ?kN ?kT ?kk ?kd ?ku ?ks ?_); k_dflt ((case hA => assumption); (case hB => assumption); (case kB => k_asm); (case kF => k_asm); (case kX => k_asm); (case kN => k_asm); (case kT => k_asm); (case kk => exact rfl); (case kd => ktr_room); (case ku => ktr_units); (case ks => (intro q9 hq9; (repeat (first | exact hq9 | exact List.mem_append_left _ hq9 | refine List.mem_cons_of_mem _ ?_))))); intro z9 t9 h9 tk9 hz9 F9 N9; (try dsimp only); (try k_fold))
                | (refine Hold.mk (k := 12) ?_; k_dflt (refine' item_nat ?kl ?ki ?kx ?_ ?ks; (case kl => exact News.get (by k_asm) (by k_mem)); (case kx => assumption); (case ki => omega); (case ks => with_unfolding_all rfl)))
                | (refine Hold.mk (k := 11) ?_; (k_dflt (refine' range1_rows ?kF ?kN ?_; (case kF => k_asm); (case kN => k_asm))); intro h9 tk9 t9 u9 v9 hR9 F9 N9 hk9; clear hk9)
                | (refine Hold.mk (k := 10) ?_; k_dflt (refine' len_my ?kl ?kz ?_; (case kl => exact News.get (by k_asm) (by k_mem)); (case kz => omega)))
                | (refine Hold.mk (k := 7) ?_; k_dflt (refine' item_last ?kl ?kn ?kx ?_ ?ks; (case kl => exact News.get (by k_asm) (by k_mem)); (case kn => omega); (case kx => assumption); (case ks => with_unfolding_all rfl)))
                | (refine Hold.mk (k := 6) ?_; k_dflt (refine' ne_same ?kx ?ky ?ke ?kq ?_; (case kx => assumption); (case ky => assumption); (case ke => decide); (case kq => ((try unfold cV); (try unfold cP); omega))))
                | (refine Hold.mk (k := 5) ?_; k_dflt (refine' mulif_is (e := 12) ?kn ?kx ?kb ?ke ?_; (case kn => decide); (case kx => assumption); (case kb => omega); (case ke => decide)); intro x9 hx9)
                | (refine Hold.mk (k := 4) ?_; k_dflt (refine' sub_is (e := 12) ?kx ?ky ?kb ?_; (case kx => assumption); (case ky => assumption); (case kb => omega)); intro x9 hx9)
                | (refine Hold.mk (k := 3) ?_; (with_reducible show wpAny _ _ (call (Value.builtin "min") [Value.float _ _, Value.float _ _, Value.float _ _]) _ _ _); k_dflt (refine' min_rgb ?kI ?kx ?ky ?kz ?hh ?kF ?kN ?_; (case kI => assumption); (case kx => assumption); (case ky => assumption); (case kz => assumption); (case hh => exact rfl); (case kF => k_asm); (case kN => k_asm)); intro r9 t9 h9 tk9 hm9 F9 N9; (try dsimp only))
                | (refine Hold.mk (k := 2) ?_; (with_reducible show wpAny _ _ (call (Value.builtin "max") [Value.float _ _, Value.float _ _, Value.float _ _]) _ _ _); k_dflt (refine' max_rgb ?kI ?kx ?ky ?kz ?hh ?kF ?kN ?_; (case kI => assumption); (case kx => assumption); (case ky => assumption); (case kz => assumption); (case hh => exact rfl); (case kF => k_asm); (case kN => k_asm)); intro r9 t9 h9 tk9 hm9 F9 N9; (try dsimp only))
                | (refine Hold.mk (k := 1) ?_; (with_reducible show wpAny _ _ (call (Value.ref 21) [Value.float _ _, Value.float _ _, Value.float _ _]) _ _ _); (with_unfolding_all refine' hsv_c ?kB ?kF ?kX ?kN ?kT ?kk ?kd ?ku ?kI ?kh ?ks ?kv ?_); k_dflt ((case kh => assumption); (case ks => assumption); (case kv => assumption); (case kB => k_asm); (case kF => k_asm); (case kX => k_asm); (case kN => k_asm); (case kT => k_asm); (case kk => exact rfl); (case kd => ktr_room); (case ku => ktr_units); (case kI => assumption)); intro r9 g9 b9 t9 u9 v9 D9 h9 tk9 hR9 F9 N9 l1; (obtain ⟨hr9, hg9, hb9⟩ := hR9); (try k_lt l1); (try dsimp only); (try k_fold))
                | (refine Hold.mk (k := 0) ?_; (with_reducible show wpAny _ _ (binaryOp Operator.Div (Value.int _ _) (Value.int 8 _)) _ _ _); k_dflt (refine' div8 ?hh ?ha ?_; (case hh => exact rfl); (case ha => omega)); intro x9 hx9)
                | (refine Hold.mk (k := 0) ?_; (with_reducible show wpAny _ _ (binaryOp Operator.Div (Value.int _ _) (Value.int 64 _)) _ _ _); k_dflt (refine' div64 ?hh ?ha ?_; (case hh => exact rfl); (case ha => omega)); intro x9 hx9)); k_steps)
            all_goals (
              (refine' unr_end ?tF ?tN ?ts (its_off hI11))
              (case tF => k_asm)
              (case tN => k_asm)
              (case ts => (intro p hp; (simp only [List.cons_append, List.nil_append] at hp); (repeat (first | exact hp | refine List.mem_cons_of_mem _ ?_))))))))
      (case turn =>
        intro i t u own s1 I hi hI F2 N2
        simp only [kmap] at F2
        simp only [List.cons_append, List.nil_append] at N2
        obtain ⟨hi1, di1, ai1, xi1, yi1, bi1, ti1, ui1, thi1, tbi1, hA⟩ := at_ hinv (i := i) (by omega)
        k_steps
        repeat' ((first
            | (refine Hold.mk (k := 19) ?_; (with_unfolding_all refine' rich_eq_z ?hA ?hB ?kB ?kF ?kX ?kN ?kK ?ka ?kb ?kp ?kT ?kk ?kd ?ku ?_); k_dflt ((case kN => k_asm); (case ka => k_mem); (case kb => k_mem); (case hA => assumption); (case hB => assumption); (case kB => k_asm); (case kF => k_asm); (case kX => k_asm); (case kK => (refine KIn.mono (by assumption) ?_; intro p hp; (repeat (first | exact hp | refine List.mem_cons_of_mem _ ?_)))); (case kp => (intro p hp; (repeat (first | exact hp | refine List.mem_cons_of_mem _ ?_)))); (case kT => k_asm); (case kk => exact rfl); (case kd => ktr_room); (case ku => ktr_units)); intro h9 tk9 F9 N9; (try dsimp only); (try k_fold))
            | (refine Hold.mk (k := 17) ?_; k_dflt (refine' kmk_slice ?wF ?wN ?wl ?wp ?wq ?_ ?ws ?wt ?wz; (case wF => k_asm); (case wN => k_asm); (case wl => exact ⟨_, News.get (by k_asm) (by k_mem), rfl, _, rfl⟩); (case wp => exact IsPart.int _ _); (case wq => exact IsPart.none); (case ws => with_unfolding_all rfl); (case wt => kmk_pure); (case wz => exact out_size (by assumption) (Good.sz (by assumption)) (by omega))); intro D9 h9 F9 N9 l9)
            | (refine Hold.mk (k := 21) ?_; (with_reducible show ClsHere _ _ ∧ _); refine ⟨clsHere_of (by k_asm) (KIn.mono (by assumption) (by (intro p hp; (repeat (first | exact hp | refine List.mem_cons_of_mem _ ?_))))), ?_⟩)
            | (refine Hold.mk (k := 11) ?_; (with_reducible rename KIn _ _ _ => hK9); (k_dflt (refine' range1_N ?kF ?kN ?_; (case kF => k_asm); (case kN => k_asm))); intro r9 h9 tk9 t9 u9 v9 F9 N9 l9)
            | (refine Hold.mk (k := 1) ?_; (with_reducible show wpAny _ _ (call (Value.ref _) [Value.ref _]) _ _ _); (with_unfolding_all refine' key_c ?kB ?kF ?kX ?kN ?kK ?kT ?kk ?kd ?ku ?_; (case kN => k_asm); (case kK => (refine KIn.mono (by assumption) ?_; intro p hp; (repeat (first | exact hp | refine List.mem_cons_of_mem _ ?_)))); (case kB => k_asm); (case kF => k_asm); (case kX => k_asm); (case kT => k_asm); (case kk => exact rfl); (case kd => ktr_room); (case ku => ktr_units); k_whole); intro ka9 dk9 h9 tk9 F9 N9 l9; (try dsimp only); (try k_fold))
            | (refine Hold.mk (k := 6) ?_; k_dflt (refine' ne_cross ?kz ?ky ?k1 ?k2 ?k3 ?k4 ?ks ?_; (case kz => assumption); (case ky => assumption); (case k1 => assumption); (case k2 => assumption); (case k3 => assumption); (case k4 => assumption); (case ks => assumption)))
            | (refine Hold.mk (k := 15) ?_; k_dflt (refine' mul_is ?kx ?ky ?kb ?ke ?_; (case kx => assumption); (case ky => assumption); (case kb => assumption); (case ke => decide)); intro x9 hx9)
            | (refine Hold.mk (k := 14) ?_; k_dflt (refine' lt_cross ?kz ?k1 ?k2 ?k3 ?k4 ?k5 ?k6 ?_; (case kz => assumption); (case k1 => assumption); (case k2 => assumption); (case k3 => assumption); (case k4 => assumption); (case k5 => assumption); (case k6 => assumption)))
            | (refine Hold.mk (k := 13) ?_; k_dflt (refine' gt_cross ?kz ?k1 ?k2 ?k3 ?k4 ?k5 ?k6 ?_; (case kz => assumption); (case k1 => assumption); (case k2 => assumption); (case k3 => assumption); (case k4 => assumption); (case k5 => assumption); (case k6 => assumption)))
            | (refine Hold.mk (k := 1) ?_; (with_reducible show wpAny _ _ (call (Value.ref 35) [Value.ref _, Value.ref _]) _ _ _); (with_unfolding_all refine' cross_z ?hA ?hB ?kB ?kF ?kX ?kN ?kT ?kk ?kd ?ku ?ks ?_); k_dflt ((case hA => assumption); (case hB => assumption); (case kB => k_asm); (case kF => k_asm); (case kX => k_asm); (case kN => k_asm); (case kT => k_asm); (case kk => exact rfl); (case kd => ktr_room); (case ku => ktr_units); (case ks => (intro q9 hq9; (repeat (first | exact hq9 | exact List.mem_append_left _ hq9 | refine List.mem_cons_of_mem _ ?_))))); intro z9 t9 h9 tk9 hz9 F9 N9; (try dsimp only); (try k_fold))
            | (refine Hold.mk (k := 12) ?_; k_dflt (refine' item_nat ?kl ?ki ?kx ?_ ?ks; (case kl => exact News.get (by k_asm) (by k_mem)); (case kx => assumption); (case ki => omega); (case ks => with_unfolding_all rfl)))
            | (refine Hold.mk (k := 11) ?_; (k_dflt (refine' range1_rows ?kF ?kN ?_; (case kF => k_asm); (case kN => k_asm))); intro h9 tk9 t9 u9 v9 hR9 F9 N9 hk9; clear hk9)
            | (refine Hold.mk (k := 10) ?_; k_dflt (refine' len_my ?kl ?kz ?_; (case kl => exact News.get (by k_asm) (by k_mem)); (case kz => omega)))
            | (refine Hold.mk (k := 7) ?_; k_dflt (refine' item_last ?kl ?kn ?kx ?_ ?ks; (case kl => exact News.get (by k_asm) (by k_mem)); (case kn => omega); (case kx => assumption); (case ks => with_unfolding_all rfl)))
            | (refine Hold.mk (k := 6) ?_; k_dflt (refine' ne_same ?kx ?ky ?ke ?kq ?_; (case kx => assumption); (case ky => assumption); (case ke => decide); (case kq => ((try unfold cV); (try unfold cP); omega))))
            | (refine Hold.mk (k := 5) ?_; k_dflt (refine' mulif_is (e := 12) ?kn ?kx ?kb ?ke ?_; (case kn => decide); (case kx => assumption); (case kb => omega); (case ke => decide)); intro x9 hx9)
            | (refine Hold.mk (k := 4) ?_; k_dflt (refine' sub_is (e := 12) ?kx ?ky ?kb ?_; (case kx => assumption); (case ky => assumption); (case kb => omega)); intro x9 hx9)
            | (refine Hold.mk (k := 3) ?_; (with_reducible show wpAny _ _ (call (Value.builtin "min") [Value.float _ _, Value.float _ _, Value.float _ _]) _ _ _); k_dflt (refine' min_rgb ?kI ?kx ?ky ?kz ?hh ?kF ?kN ?_; (case kI => assumption); (case kx => assumption); (case ky => assumption); (case kz => assumption); (case hh => exact rfl); (case kF => k_asm); (case kN => k_asm)); intro r9 t9 h9 tk9 hm9 F9 N9; (try dsimp only))
            | (refine Hold.mk (k := 2) ?_; (with_reducible show wpAny _ _ (call (Value.builtin "max") [Value.float _ _, Value.float _ _, Value.float _ _]) _ _ _); k_dflt (refine' max_rgb ?kI ?kx ?ky ?kz ?hh ?kF ?kN ?_; (case kI => assumption); (case kx => assumption); (case ky => assumption); (case kz => assumption); (case hh => exact rfl); (case kF => k_asm); (case kN => k_asm)); intro r9 t9 h9 tk9 hm9 F9 N9; (try dsimp only))
            | (refine Hold.mk (k := 1) ?_; (with_reducible show wpAny _ _ (call (Value.ref 21) [Value.float _ _, Value.float _ _, Value.float _ _]) _ _ _); (with_unfolding_all refine' hsv_c ?kB ?kF ?kX ?kN ?kT ?kk ?kd ?ku ?kI ?kh ?ks ?kv ?_); k_dflt ((case kh => assumption); (case ks => assumption); (case kv => assumption); (case kB => k_asm); (case kF => k_asm); (case kX => k_asm); (case kN => k_asm); (case kT => k_asm); (case kk => exact rfl); (case kd => ktr_room); (case ku => ktr_units); (case kI => assumption)); intro r9 g9 b9 t9 u9 v9 D9 h9 tk9 hR9 F9 N9 l1; (obtain ⟨hr9, hg9, hb9⟩ := hR9); (try k_lt l1); (try dsimp only); (try k_fold))
            | (refine Hold.mk (k := 0) ?_; (with_reducible show wpAny _ _ (binaryOp Operator.Div (Value.int _ _) (Value.int 8 _)) _ _ _); k_dflt (refine' div8 ?hh ?ha ?_; (case hh => exact rfl); (case ha => omega)); intro x9 hx9)
            | (refine Hold.mk (k := 0) ?_; (with_reducible show wpAny _ _ (binaryOp Operator.Div (Value.int _ _) (Value.int 64 _)) _ _ _); k_dflt (refine' div64 ?hh ?ha ?_; (case hh => exact rfl); (case ha => omega)); intro x9 hx9)); k_steps)
        refine Hold.mk ?_
        refine' for_inv ?kF ?k1 ?k2 ?_ ?k3 ?k4
        (case kF => k_asm)
        (case k1 => rfl)
        (case k2 => rfl)
        (case k3 => (intro _; rfl))
        (case k4 => passes_own)
        k_steps
        repeat' ((first
            | (refine Hold.mk (k := 19) ?_; (with_unfolding_all refine' rich_eq_z ?hA ?hB ?kB ?kF ?kX ?kN ?kK ?ka ?kb ?kp ?kT ?kk ?kd ?ku ?_); k_dflt ((case kN => k_asm); (case ka => k_mem); (case kb => k_mem); (case hA => assumption); (case hB => assumption); (case kB => k_asm); (case kF => k_asm); (case kX => k_asm); (case kK => (refine KIn.mono (by assumption) ?_; intro p hp; (repeat (first | exact hp | refine List.mem_cons_of_mem _ ?_)))); (case kp => (intro p hp; (repeat (first | exact hp | refine List.mem_cons_of_mem _ ?_)))); (case kT => k_asm); (case kk => exact rfl); (case kd => ktr_room); (case ku => ktr_units)); intro h9 tk9 F9 N9; (try dsimp only); (try k_fold))
            | (refine Hold.mk (k := 17) ?_; k_dflt (refine' kmk_slice ?wF ?wN ?wl ?wp ?wq ?_ ?ws ?wt ?wz; (case wF => k_asm); (case wN => k_asm); (case wl => exact ⟨_, News.get (by k_asm) (by k_mem), rfl, _, rfl⟩); (case wp => exact IsPart.int _ _); (case wq => exact IsPart.none); (case ws => with_unfolding_all rfl); (case wt => kmk_pure); (case wz => exact out_size (by assumption) (Good.sz (by assumption)) (by omega))); intro D9 h9 F9 N9 l9)
            | (refine Hold.mk (k := 21) ?_; (with_reducible show ClsHere _ _ ∧ _); refine ⟨clsHere_of (by k_asm) (KIn.mono (by assumption) (by (intro p hp; (repeat (first | exact hp | refine List.mem_cons_of_mem _ ?_))))), ?_⟩)
            | (refine Hold.mk (k := 11) ?_; (with_reducible rename KIn _ _ _ => hK9); (k_dflt (refine' range1_N ?kF ?kN ?_; (case kF => k_asm); (case kN => k_asm))); intro r9 h9 tk9 t9 u9 v9 F9 N9 l9)
            | (refine Hold.mk (k := 1) ?_; (with_reducible show wpAny _ _ (call (Value.ref _) [Value.ref _]) _ _ _); (with_unfolding_all refine' key_c ?kB ?kF ?kX ?kN ?kK ?kT ?kk ?kd ?ku ?_; (case kN => k_asm); (case kK => (refine KIn.mono (by assumption) ?_; intro p hp; (repeat (first | exact hp | refine List.mem_cons_of_mem _ ?_)))); (case kB => k_asm); (case kF => k_asm); (case kX => k_asm); (case kT => k_asm); (case kk => exact rfl); (case kd => ktr_room); (case ku => ktr_units); k_whole); intro ka9 dk9 h9 tk9 F9 N9 l9; (try dsimp only); (try k_fold))
            | (refine Hold.mk (k := 6) ?_; k_dflt (refine' ne_cross ?kz ?ky ?k1 ?k2 ?k3 ?k4 ?ks ?_; (case kz => assumption); (case ky => assumption); (case k1 => assumption); (case k2 => assumption); (case k3 => assumption); (case k4 => assumption); (case ks => assumption)))
            | (refine Hold.mk (k := 15) ?_; k_dflt (refine' mul_is ?kx ?ky ?kb ?ke ?_; (case kx => assumption); (case ky => assumption); (case kb => assumption); (case ke => decide)); intro x9 hx9)
            | (refine Hold.mk (k := 14) ?_; k_dflt (refine' lt_cross ?kz ?k1 ?k2 ?k3 ?k4 ?k5 ?k6 ?_; (case kz => assumption); (case k1 => assumption); (case k2 => assumption); (case k3 => assumption); (case k4 => assumption); (case k5 => assumption); (case k6 => assumption)))
            | (refine Hold.mk (k := 13) ?_; k_dflt (refine' gt_cross ?kz ?k1 ?k2 ?k3 ?k4 ?k5 ?k6 ?_; (case kz => assumption); (case k1 => assumption); (case k2 => assumption); (case k3 => assumption); (case k4 => assumption); (case k5 => assumption); (case k6 => assumption)))
            | (refine Hold.mk (k := 1) ?_; (with_reducible show wpAny _ _ (call (Value.ref 35) [Value.ref _, Value.ref _]) _ _ _); (with_unfolding_all refine' cross_z ?hA ?hB ?kB ?kF ?kX ?kN ?kT ?kk ?kd ?ku ?ks ?_); k_dflt ((case hA => assumption); (case hB => assumption); (case kB => k_asm); (case kF => k_asm); (case kX => k_asm); (case kN => k_asm); (case kT => k_asm); (case kk => exact rfl); (case kd => ktr_room); (case ku => ktr_units); (case ks => (intro q9 hq9; (repeat (first | exact hq9 | exact List.mem_append_left _ hq9 | refine List.mem_cons_of_mem _ ?_))))); intro z9 t9 h9 tk9 hz9 F9 N9; (try dsimp only); (try k_fold))
            | (refine Hold.mk (k := 12) ?_; k_dflt (refine' item_nat ?kl ?ki ?kx ?_ ?ks; (case kl => exact News.get (by k_asm) (by k_mem)); (case kx => assumption); (case ki => omega); (case ks => with_unfolding_all rfl)))
            | (refine Hold.mk (k := 11) ?_; (k_dflt (refine' range1_rows ?kF ?kN ?_; (case kF => k_asm); (case kN => k_asm))); intro h9 tk9 t9 u9 v9 hR9 F9 N9 hk9; clear hk9)
            | (refine Hold.mk (k := 10) ?_; k_dflt (refine' len_my ?kl ?kz ?_; (case kl => exact News.get (by k_asm) (by k_mem)); (case kz => omega)))
            | (refine Hold.mk (k := 7) ?_; k_dflt (refine' item_last ?kl ?kn ?kx ?_ ?ks; (case kl => exact News.get (by k_asm) (by k_mem)); (case kn => omega); (case kx => assumption); (case ks => with_unfolding_all rfl)))
            | (refine Hold.mk (k := 6) ?_; k_dflt (refine' ne_same ?kx ?ky ?ke ?kq ?_; (case kx => assumption); (case ky => assumption); (case ke => decide); (case kq => ((try unfold cV); (try unfold cP); omega))))
            | (refine Hold.mk (k := 5) ?_; k_dflt (refine' mulif_is (e := 12) ?kn ?kx ?kb ?ke ?_; (case kn => decide); (case kx => assumption); (case kb => omega); (case ke => decide)); intro x9 hx9)
            | (refine Hold.mk (k := 4) ?_; k_dflt (refine' sub_is (e := 12) ?kx ?ky ?kb ?_; (case kx => assumption); (case ky => assumption); (case kb => omega)); intro x9 hx9)
            | (refine Hold.mk (k := 3) ?_; (with_reducible show wpAny _ _ (call (Value.builtin "min") [Value.float _ _, Value.float _ _, Value.float _ _]) _ _ _); k_dflt (refine' min_rgb ?kI ?kx ?ky ?kz ?hh ?kF ?kN ?_; (case kI => assumption); (case kx => assumption); (case ky => assumption); (case kz => assumption); (case hh => exact rfl); (case kF => k_asm); (case kN => k_asm)); intro r9 t9 h9 tk9 hm9 F9 N9; (try dsimp only))
            | (refine Hold.mk (k := 2) ?_; (with_reducible show wpAny _ _ (call (Value.builtin "max") [Value.float _ _, Value.float _ _, Value.float _ _]) _ _ _); k_dflt (refine' max_rgb ?kI ?kx ?ky ?kz ?hh ?kF ?kN ?_; (case kI => assumption); (case kx => assumption); (case ky => assumption); (case kz => assumption); (case hh => exact rfl); (case kF => k_asm); (case kN => k_asm)); intro r9 t9 h9 tk9 hm9 F9 N9; (try dsimp only))
            | (refine Hold.mk (k := 1) ?_; (with_reducible show wpAny _ _ (call (Value.ref 21) [Value.float _ _, Value.float _ _, Value.float _ _]) _ _ _); (with_unfolding_all refine' hsv_c ?kB ?kF ?kX ?kN ?kT ?kk ?kd ?ku ?kI ?kh ?ks ?kv ?_); k_dflt ((case kh => assumption); (case ks => assumption); (case kv => assumption); (case kB => k_asm); (case kF => k_asm); (case kX => k_asm); (case kN => k_asm); (case kT => k_asm); (case kk => exact rfl); (case kd => ktr_room); (case ku => ktr_units); (case kI => assumption)); intro r9 g9 b9 t9 u9 v9 D9 h9 tk9 hR9 F9 N9 l1; (obtain ⟨hr9, hg9, hb9⟩ := hR9); (try k_lt l1); (try dsimp only); (try k_fold))
            | (refine Hold.mk (k := 0) ?_; (with_reducible show wpAny _ _ (binaryOp Operator.Div (Value.int _ _) (Value.int 8 _)) _ _ _); k_dflt (refine' div8 ?hh ?ha ?_; (case hh => exact rfl); (case ha => omega)); intro x9 hx9)
            | (refine Hold.mk (k := 0) ?_; (with_reducible show wpAny _ _ (binaryOp Operator.Div (Value.int _ _) (Value.int 64 _)) _ _ _); k_dflt (refine' div64 ?hh ?ha ?_; (case hh => exact rfl); (case ha => omega)); intro x9 hx9)); k_steps)
        refine Hold.mk ?_
        refine' loop_range [(Str.ofString "i", Value.int (i : Int) t), (Str.ofString "depths", Value.ref lD)] ?hh ?hR ?hn ?F ?N ?hk ?turn ?done
        (case hh => exact rfl)
        (case hR => assumption)
        (case hn => omega)
        (case F => k_asm)
        (case N => k_asm)
        (case hk => exact keeps_cons (if_pos rfl) (keeps_cons ((if_neg (by decide)).trans (if_pos rfl)) (keeps_nil _)))
        (case done =>
          intro u3 h3 tk3 F3 N3
          simp only [kmap] at F3
          k_steps
          repeat' ((first
              | (refine Hold.mk (k := 19) ?_; (with_unfolding_all refine' rich_eq_z ?hA ?hB ?kB ?kF ?kX ?kN ?kK ?ka ?kb ?kp ?kT ?kk ?kd ?ku ?_); k_dflt ((case kN => k_asm); (case ka => k_mem); (case kb => k_mem); (case hA => assumption); (case hB => assumption); (case kB => k_asm); (case kF => k_asm); (case kX => k_asm); (case kK => (refine KIn.mono (by assumption) ?_; intro p hp; (repeat (first | exact hp | refine List.mem_cons_of_mem _ ?_)))); (case kp => (intro p hp; (repeat (first | exact hp | refine List.mem_cons_of_mem _ ?_)))); (case kT => k_asm); (case kk => exact rfl); (case kd => ktr_room); (case ku => ktr_units)); intro h9 tk9 F9 N9; (try dsimp only); (try k_fold))
              | (refine Hold.mk (k := 17) ?_; k_dflt (refine' kmk_slice ?wF ?wN ?wl ?wp ?wq ?_ ?ws ?wt ?wz; (case wF => k_asm); (case wN => k_asm); (case wl => exact ⟨_, News.get (by k_asm) (by k_mem), rfl, _, rfl⟩); (case wp => exact IsPart.int _ _); (case wq => exact IsPart.none); (case ws => with_unfolding_all rfl); (case wt => kmk_pure); (case wz => exact out_size (by assumption) (Good.sz (by assumption)) (by omega))); intro D9 h9 F9 N9 l9)
              | (refine Hold.mk (k := 21) ?_; (with_reducible show ClsHere _ _ ∧ _); refine ⟨clsHere_of (by k_asm) (KIn.mono (by assumption) (by (intro p hp; (repeat (first | exact hp | refine List.mem_cons_of_mem _ ?_))))), ?_⟩)
              | (refine Hold.mk (k := 11) ?_; (with_reducible rename KIn _ _ _ => hK9); (k_dflt (refine' range1_N ?kF ?kN ?_; (case kF => k_asm); (case kN => k_asm))); intro r9 h9 tk9 t9 u9 v9 F9 N9 l9)
              | (refine Hold.mk (k := 1) ?_; (with_reducible show wpAny _ _ (call (Value.ref _) [Value.ref _]) _ _ _); (with_unfolding_all refine' key_c ?kB ?kF ?kX ?kN ?kK ?kT ?kk ?kd ?ku ?_; (case kN => k_asm); (case kK => (refine KIn.mono (by assumption) ?_; intro p hp; (repeat (first | exact hp | refine List.mem_cons_of_mem _ ?_)))); (case kB => k_asm); (case kF => k_asm); (case kX => k_asm); (case kT => k_asm); (case kk => exact rfl); (case kd => ktr_room); (case ku => ktr_units); k_whole); intro ka9 dk9 h9 tk9 F9 N9 l9; (try dsimp only); (try k_fold))
              | (refine Hold.mk (k := 6) ?_; k_dflt (refine' ne_cross ?kz ?ky ?k1 ?k2 ?k3 ?k4 ?ks ?_; (case kz => assumption); (case ky => assumption); (case k1 => assumption); (case k2 => assumption); (case k3 => assumption); (case k4 => assumption); (case ks => assumption)))
              | (refine Hold.mk (k := 15) ?_; k_dflt (refine' mul_is ?kx ?ky ?kb ?ke ?_; (case kx => assumption); (case ky => assumption); (case kb => assumption); (case ke => decide)); intro x9 hx9)
              | (refine Hold.mk (k := 14) ?_; k_dflt (refine' lt_cross ?kz ?k1 ?k2 ?k3 ?k4 ?k5 ?k6 ?_; (case kz => assumption); (case k1 => assumption); (case k2 => assumption); (case k3 => assumption); (case k4 => assumption); (case k5 => assumption); (case k6 => assumption)))
              | (refine Hold.mk (k := 13) ?_; k_dflt (refine' gt_cross ?kz ?k1 ?k2 ?k3 ?k4 ?k5 ?k6 ?_; (case kz => assumption); (case k1 => assumption); (case k2 => assumption); (case k3 => assumption); (case k4 => assumption); (case k5 => assumption); (case k6 => assumption)))
              | (refine Hold.mk (k := 1) ?_; (with_reducible show wpAny _ _ (call (Value.ref 35) [Value.ref _, Value.ref _]) _ _ _); (with_unfolding_all refine' cross_z ?hA ?hB ?kB ?kF ?kX ?kN ?kT ?kk ?kd ?ku ?ks ?_); k_dflt ((case hA => assumption); (case hB => assumption); (case kB => k_asm); (case kF => k_asm); (case kX => k_asm); (case kN => k_asm); (case kT => k_asm); (case kk => exact rfl); (case kd => ktr_room); (case ku => ktr_units); (case ks => (intro q9 hq9; (repeat (first | exact hq9 | exact List.mem_append_left _ hq9 | refine List.mem_cons_of_mem _ ?_))))); intro z9 t9 h9 tk9 hz9 F9 N9; (try dsimp only); (try k_fold))
              | (refine Hold.mk (k := 12) ?_; k_dflt (refine' item_nat ?kl ?ki ?kx ?_ ?ks; (case kl => exact News.get (by k_asm) (by k_mem)); (case kx => assumption); (case ki => omega); (case ks => with_unfolding_all rfl)))
              | (refine Hold.mk (k := 11) ?_; (k_dflt (refine' range1_rows ?kF ?kN ?_; (case kF => k_asm); (case kN => k_asm))); intro h9 tk9 t9 u9 v9 hR9 F9 N9 hk9; clear hk9)
              | (refine Hold.mk (k := 10) ?_; k_dflt (refine' len_my ?kl ?kz ?_; (case kl => exact News.get (by k_asm) (by k_mem)); (case kz => omega)))
              | (refine Hold.mk (k := 7) ?_; k_dflt (refine' item_last ?kl ?kn ?kx ?_ ?ks; (case kl => exact News.get (by k_asm) (by k_mem)); (case kn => omega); (case kx => assumption); (case ks => with_unfolding_all rfl)))
              | (refine Hold.mk (k := 6) ?_; k_dflt (refine' ne_same ?kx ?ky ?ke ?kq ?_; (case kx => assumption); (case ky => assumption); (case ke => decide); (case kq => ((try unfold cV); (try unfold cP); omega))))
              | (refine Hold.mk (k := 5) ?_; k_dflt (refine' mulif_is (e := 12) ?kn ?kx ?kb ?ke ?_; (case kn => decide); (case kx => assumption); (case kb => omega); (case ke => decide)); intro x9 hx9)
              | (refine Hold.mk (k := 4) ?_; k_dflt (refine' sub_is (e := 12) ?kx ?ky ?kb ?_; (case kx => assumption); (case ky => assumption); (case kb => omega)); intro x9 hx9)
              | (refine Hold.mk (k := 3) ?_; (with_reducible show wpAny _ _ (call (Value.builtin "min") [Value.float _ _, Value.float _ _, Value.float _ _]) _ _ _); k_dflt (refine' min_rgb ?kI ?kx ?ky ?kz ?hh ?kF ?kN ?_; (case kI => assumption); (case kx => assumption); (case ky => assumption); (case kz => assumption); (case hh => exact rfl); (case kF => k_asm); (case kN => k_asm)); intro r9 t9 h9 tk9 hm9 F9 N9; (try dsimp only))
              | (refine Hold.mk (k := 2) ?_; (with_reducible show wpAny _ _ (call (Value.builtin "max") [Value.float _ _, Value.float _ _, Value.float _ _]) _ _ _); k_dflt (refine' max_rgb ?kI ?kx ?ky ?kz ?hh ?kF ?kN ?_; (case kI => assumption); (case kx => assumption); (case ky => assumption); (case kz => assumption); (case hh => exact rfl); (case kF => k_asm); (case kN => k_asm)); intro r9 t9 h9 tk9 hm9 F9 N9; (try dsimp only))
              | (refine Hold.mk (k := 1) ?_; (with_reducible show wpAny _ _ (call (Value.ref 21) [Value.float _ _, Value.float _ _, Value.float _ _]) _ _ _); (with_unfolding_all refine' hsv_c ?kB ?kF ?kX ?kN ?kT ?kk ?kd ?ku ?kI ?kh ?ks ?kv ?_); k_dflt ((case kh => assumption); (case ks => assumption); (case kv => assumption); (case kB => k_asm); (case kF => k_asm); (case kX => k_asm); (case kN => k_asm); (case kT => k_asm); (case kk => exact rfl); (case kd => ktr_room); (case ku => ktr_units); (case kI => assumption)); intro r9 g9 b9 t9 u9 v9 D9 h9 tk9 hR9 F9 N9 l1; (obtain ⟨hr9, hg9, hb9⟩ := hR9); (try k_lt l1); (try dsimp only); (try k_fold))
              | (refine Hold.mk (k := 0) ?_; (with_reducible show wpAny _ _ (binaryOp Operator.Div (Value.int _ _) (Value.int 8 _)) _ _ _); k_dflt (refine' div8 ?hh ?ha ?_; (case hh => exact rfl); (case ha => omega)); intro x9 hx9)
              | (refine Hold.mk (k := 0) ?_; (with_reducible show wpAny _ _ (binaryOp Operator.Div (Value.int _ _) (Value.int 64 _)) _ _ _); k_dflt (refine' div64 ?hh ?ha ?_; (case hh => exact rfl); (case ha => omega)); intro x9 hx9)); k_steps)
          (refine' turn_same ?tF ?tN ?ts hI ?tk)
          (case tF => k_asm)
          (case tN => k_asm)
          (case ts => (intro p hp; (simp only [List.cons_append, List.nil_append, List.append_assoc] at hp); (repeat (first | exact hp | refine List.mem_cons_of_mem _ ?_))))
          (case tk => exact keeps_cons (by with_unfolding_all rfl) (keeps_nil _)))
        (case turn =>
          intro j t' u' own' s2 I' hj hI' F3 N3
          simp only [kmap] at F3
          simp only [List.cons_append, List.nil_append, List.append_assoc] at N3
          obtain ⟨hj1, dj1, aj1, xj1, yj1, bj1, tj1, uj1, thj1, tbj1, hB⟩ := at_ hinv (i := j) (by omega)
          have hA1 := hA.hv
          have hA2 := hA.pv
          have hA3 := hA.dv
          have hA4 := hA.ib
          have hA5 := hA.h0
          have hA6 := hA.h1
          have hA7 := hA.d0
          have hA8 := hA.d1
          have hB1 := hB.hv
          have hB2 := hB.pv
          have hB3 := hB.dv
          have hB4 := hB.ib
          have hB5 := hB.h0
          have hB6 := hB.h1
          have hB7 := hB.d0
          have hB8 := hB.d1
          obtain ⟨hM1, hM2⟩ := mult_fits hA hB
          k_steps
          repeat' ((first
              | (refine Hold.mk (k := 19) ?_; (with_unfolding_all refine' rich_eq_z ?hA ?hB ?kB ?kF ?kX ?kN ?kK ?ka ?kb ?kp ?kT ?kk ?kd ?ku ?_); k_dflt ((case kN => k_asm); (case ka => k_mem); (case kb => k_mem); (case hA => assumption); (case hB => assumption); (case kB => k_asm); (case kF => k_asm); (case kX => k_asm); (case kK => (refine KIn.mono (by assumption) ?_; intro p hp; (repeat (first | exact hp | refine List.mem_cons_of_mem _ ?_)))); (case kp => (intro p hp; (repeat (first | exact hp | refine List.mem_cons_of_mem _ ?_)))); (case kT => k_asm); (case kk => exact rfl); (case kd => ktr_room); (case ku => ktr_units)); intro h9 tk9 F9 N9; (try dsimp only); (try k_fold))
              | (refine Hold.mk (k := 17) ?_; k_dflt (refine' kmk_slice ?wF ?wN ?wl ?wp ?wq ?_ ?ws ?wt ?wz; (case wF => k_asm); (case wN => k_asm); (case wl => exact ⟨_, News.get (by k_asm) (by k_mem), rfl, _, rfl⟩); (case wp => exact IsPart.int _ _); (case wq => exact IsPart.none); (case ws => with_unfolding_all rfl); (case wt => kmk_pure); (case wz => exact out_size (by assumption) (Good.sz (by assumption)) (by omega))); intro D9 h9 F9 N9 l9)
              | (refine Hold.mk (k := 21) ?_; (with_reducible show ClsHere _ _ ∧ _); refine ⟨clsHere_of (by k_asm) (KIn.mono (by assumption) (by (intro p hp; (repeat (first | exact hp | refine List.mem_cons_of_mem _ ?_))))), ?_⟩)
              | (refine Hold.mk (k := 11) ?_; (with_reducible rename KIn _ _ _ => hK9); (k_dflt (refine' range1_N ?kF ?kN ?_; (case kF => k_asm); (case kN => k_asm))); intro r9 h9 tk9 t9 u9 v9 F9 N9 l9)
              | (refine Hold.mk (k := 1) ?_; (with_reducible show wpAny _ _ (call (Value.ref _) [Value.ref _]) _ _ _); (with_unfolding_all refine' key_c ?kB ?kF ?kX ?kN ?kK ?kT ?kk ?kd ?ku ?_; (case kN => k_asm); (case kK => (refine KIn.mono (by assumption) ?_; intro p hp; (repeat (first | exact hp | refine List.mem_cons_of_mem _ ?_)))); (case kB => k_asm); (case kF => k_asm); (case kX => k_asm); (case kT => k_asm); (case kk => exact rfl); (case kd => ktr_room); (case ku => ktr_units); k_whole); intro ka9 dk9 h9 tk9 F9 N9 l9; (try dsimp only); (try k_fold))
              | (refine Hold.mk (k := 6) ?_; k_dflt (refine' ne_cross ?kz ?ky ?k1 ?k2 ?k3 ?k4 ?ks ?_; (case kz => assumption); (case ky => assumption); (case k1 => assumption); (case k2 => assumption); (case k3 => assumption); (case k4 => assumption); (case ks => assumption)))
              | (refine Hold.mk (k := 15) ?_; k_dflt (refine' mul_is ?kx ?ky ?kb ?ke ?_; (case kx => assumption); (case ky => assumption); (case kb => assumption); (case ke => decide)); intro x9 hx9)
              | (refine Hold.mk (k := 14) ?_; k_dflt (refine' lt_cross ?kz ?k1 ?k2 ?k3 ?k4 ?k5 ?k6 ?_; (case kz => assumption); (case k1 => assumption); (case k2 => assumption); (case k3 => assumption); (case k4 => assumption); (case k5 => assumption); (case k6 => assumption)))
              | (refine Hold.mk (k := 13) ?_; k_dflt (refine' gt_cross ?kz ?k1 ?k2 ?k3 ?k4 ?k5 ?k6 ?_; (case kz => assumption); (case k1 => assumption); (case k2 => assumption); (case k3 => assumption); (case k4 => assumption); (case k5 => assumption); (case k6 => assumption)))
              | (refine Hold.mk (k := 1) ?_; (with_reducible show wpAny _ _ (call (Value.ref 35) [Value.ref _, Value.ref _]) _ _ _); (with_unfolding_all refine' cross_z ?hA ?hB ?kB ?kF ?kX ?kN ?kT ?kk ?kd ?ku ?ks ?_); k_dflt ((case hA => assumption); (case hB => assumption); (case kB => k_asm); (case kF => k_asm); (case kX => k_asm); (case kN => k_asm); (case kT => k_asm); (case kk => exact rfl); (case kd => ktr_room); (case ku => ktr_units); (case ks => (intro q9 hq9; (repeat (first | exact hq9 | exact List.mem_append_left _ hq9 | refine List.mem_cons_of_mem _ ?_))))); intro z9 t9 h9 tk9 hz9 F9 N9; (try dsimp only); (try k_fold))
              | (refine Hold.mk (k := 12) ?_; k_dflt (refine' item_nat ?kl ?ki ?kx ?_ ?ks; (case kl => exact News.get (by k_asm) (by k_mem)); (case kx => assumption); (case ki => omega); (case ks => with_unfolding_all rfl)))
              | (refine Hold.mk (k := 11) ?_; (k_dflt (refine' range1_rows ?kF ?kN ?_; (case kF => k_asm); (case kN => k_asm))); intro h9 tk9 t9 u9 v9 hR9 F9 N9 hk9; clear hk9)
              | (refine Hold.mk (k := 10) ?_; k_dflt (refine' len_my ?kl ?kz ?_; (case kl => exact News.get (by k_asm) (by k_mem)); (case kz => omega)))
              | (refine Hold.mk (k := 7) ?_; k_dflt (refine' item_last ?kl ?kn ?kx ?_ ?ks; (case kl => exact News.get (by k_asm) (by k_mem)); (case kn => omega); (case kx => assumption); (case ks => with_unfolding_all rfl)))
              | (refine Hold.mk (k := 6) ?_; k_dflt (refine' ne_same ?kx ?ky ?ke ?kq ?_; (case kx => assumption); (case ky => assumption); (case ke => decide); (case kq => ((try unfold cV); (try unfold cP); omega))))
              | (refine Hold.mk (k := 5) ?_; k_dflt (refine' mulif_is (e := 12) ?kn ?kx ?kb ?ke ?_; (case kn => decide); (case kx => assumption); (case kb => omega); (case ke => decide)); intro x9 hx9)
              | (refine Hold.mk (k := 4) ?_; k_dflt (refine' sub_is (e := 12) ?kx ?ky ?kb ?_; (case kx => assumption); (case ky => assumption); (case kb => omega)); intro x9 hx9)
              | (refine Hold.mk (k := 3) ?_; (with_reducible show wpAny _ _ (call (Value.builtin "min") [Value.float _ _, Value.float _ _, Value.float _ _]) _ _ _); k_dflt (refine' min_rgb ?kI ?kx ?ky ?kz ?hh ?kF ?kN ?_; (case kI => assumption); (case kx => assumption); (case ky => assumption); (case kz => assumption); (case hh => exact rfl); (case kF => k_asm); (case kN => k_asm)); intro r9 t9 h9 tk9 hm9 F9 N9; (try dsimp only))
              | (refine Hold.mk (k := 2) ?_; (with_reducible show wpAny _ _ (call (Value.builtin "max") [Value.float _ _, Value.float _ _, Value.float _ _]) _ _ _); k_dflt (refine' max_rgb ?kI ?kx ?ky ?kz ?hh ?kF ?kN ?_; (case kI => assumption); (case kx => assumption); (case ky => assumption); (case kz => assumption); (case hh => exact rfl); (case kF => k_asm); (case kN => k_asm)); intro r9 t9 h9 tk9 hm9 F9 N9; (try dsimp only))
              | (refine Hold.mk (k := 1) ?_; (with_reducible show wpAny _ _ (call (Value.ref 21) [Value.float _ _, Value.float _ _, Value.float _ _]) _ _ _); (with_unfolding_all refine' hsv_c ?kB ?kF ?kX ?kN ?kT ?kk ?kd ?ku ?kI ?kh ?ks ?kv ?_); k_dflt ((case kh => assumption); (case ks => assumption); (case kv => assumption); (case kB => k_asm); (case kF => k_asm); (case kX => k_asm); (case kN => k_asm); (case kT => k_asm); (case kk => exact rfl); (case kd => ktr_room); (case ku => ktr_units); (case kI => assumption)); intro r9 g9 b9 t9 u9 v9 D9 h9 tk9 hR9 F9 N9 l1; (obtain ⟨hr9, hg9, hb9⟩ := hR9); (try k_lt l1); (try dsimp only); (try k_fold))
              | (refine Hold.mk (k := 0) ?_; (with_reducible show wpAny _ _ (binaryOp Operator.Div (Value.int _ _) (Value.int 8 _)) _ _ _); k_dflt (refine' div8 ?hh ?ha ?_; (case hh => exact rfl); (case ha => omega)); intro x9 hx9)
              | (refine Hold.mk (k := 0) ?_; (with_reducible show wpAny _ _ (binaryOp Operator.Div (Value.int _ _) (Value.int 64 _)) _ _ _); k_dflt (refine' div64 ?hh ?ha ?_; (case hh => exact rfl); (case ha => omega)); intro x9 hx9)); k_steps)
          all_goals first
            | exact (bne_dec ‹(decide _ != decide _) = true› (by omega)).elim
            | ((refine' turn_same ?tF ?tN ?ts hI' ?tk)
               (case tF => k_asm)
               (case tN => k_asm)
               (case ts => (intro p hp; (simp only [List.cons_append, List.nil_append, List.append_assoc] at hp); (repeat (first | exact hp | refine List.mem_cons_of_mem _ ?_))))
               (case tk => exact keeps_cons (by with_unfolding_all rfl) (keeps_cons (by with_unfolding_all rfl) (keeps_nil _)))))))))
end Mine
end
set_option maxRecDepth 100000 in
set_option maxHeartbeats 8000000 in
theorem PySem.Challenge.cw_dn0037_01_holds : PySem.Challenge.rw_dn0037_01.Holds := by
  exact Mine.main
