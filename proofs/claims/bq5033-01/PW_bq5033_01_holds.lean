import PyProof.Rows.All
import Wide.All
import OpenK.AllK
import Wide.FinOn
import Lean
import PySem.Challenge.RW_bq5033_01

set_option Elab.async false
set_option maxRecDepth 100000
set_option maxHeartbeats 16000000
set_option linter.unusedVariables false
open PySem PySem.W PyProof.Rows PySem.Calls
namespace Mine

/-! Hd -/
section
open PySem PySem.W PyProof.Rows
open_top hd for PySem.Challenge.rw_bq5033_01

end
/-! Bs -/
section
open PySem PySem.W PyProof.Rows

abbrev PR : Program := PySem.Challenge.pw_bq5033_01

theorem in_le {Γ : Ctx} {A A' : Around} (h : Γ.In A') (h1 : A'.handled = A.handled) (h2 : A'.depth ≤ A.depth) (h3 : ∀ l, A.frames = some l → A'.frames = some l) (h4 : ∀ g, A.guards = some g → A'.guards = some g) (h5 : A'.units ≤ A.units) : Γ.In A :=
  ⟨h.1.trans h1, Nat.le_trans h.2.1 h2, fun l hl => h.2.2.1 l (h3 l hl), fun g hg => h.2.2.2.1 g (h4 g hg), Nat.le_trans h.2.2.2.2 h5⟩
theorem below_le {Γ : Ctx} {A A' : Around} (h : Γ.Below A') (h1 : A'.handled = A.handled) (h2 : A'.depth ≤ A.depth) (h3 : ∀ l, A.frames = some l → A'.frames = some l) (h4 : ∀ g, A.guards = some g → A'.guards = some g) (h5 : A'.units ≤ A.units) : Γ.Below A :=
  ⟨h.1.trans h1, Nat.le_trans h.2.1 h2, fun l hl => h.2.2.1 l (h3 l hl), fun g hg => h.2.2.2.1 g (h4 g hg), Nat.le_trans h.2.2.2.2 h5⟩
theorem wpAny_le {α : Type} {M : Model} {A A' : Around} {t : Sem α} {Q : α → Shared → Prop} {E : Value → Shared → Prop} {s : Shared} (h : wpAny M A t Q E s)
    (h1 : A'.handled = A.handled) (h2 : A'.depth ≤ A.depth) (h3 : ∀ l, A.frames = some l → A'.frames = some l) (h4 : ∀ g, A.guards = some g → A'.guards = some g) (h5 : A'.units ≤ A.units) : wpAny M A' t Q E s :=
  fun Γ p hΓ => h Γ p (in_le hΓ h1 h2 h3 h4 h5)
theorem codeAny_le {M : Model} {A A' : Around} {c : Code} {R : Result → Shared → Prop} {s : Shared} (h : codeAny M A c R s)
    (h1 : A'.handled = A.handled) (h2 : A'.depth ≤ A.depth) (h3 : ∀ l, A.frames = some l → A'.frames = some l) (h4 : ∀ g, A.guards = some g → A'.guards = some g) (h5 : A'.units ≤ A.units) : codeAny M A' c R s :=
  fun Γ p hc hΓ => h Γ p hc (below_le hΓ h1 h2 h3 h4 h5)

/-- all that stood but at the places S stands as it stood -/
def Mod (S : List Addr) (h h' : Heap) : Prop := ∀ b o, h.get? b = some o → b ∉ S → h'.get? b = some o

theorem Mod.refl (S : List Addr) (h : Heap) : Mod S h h := fun _ _ e _ => e
theorem Mod.trans {S : List Addr} {a b c : Heap} (x : Mod S a b) (y : Mod S b c) : Mod S a c := fun p o e n => y p o (x p o e n) n
theorem Mod.mono {S S' : List Addr} {a b : Heap} (x : Mod S a b) (h : ∀ p ∈ S, p ∈ S') : Mod S' a b := fun p o e n => x p o e fun q => n (h p q)

/-- the written part of the top, and its names -/
structure Base (w : World) (mg mb : Str → Option Value) (g : Heap) : Prop where
  K : (hd.heap_39 w.params).In g
  T : TopRead hd.view_39 (looseW hd.view_39 [Str.ofString "OrderedSet", Str.ofString "_law_pool"]) mg mb g
theorem Base.keeps {w mg mb g h} (B : Base w mg mb g) (k : g.StaysIn h) : Base w mg mb h := ⟨B.K.keeps k, B.T.keeps k⟩

/-- what of the call's own objects is known, new against g -/
def Has (g h : Heap) (news : List (Addr × Obj)) : Prop := ∀ p ∈ news, h.get? p.1 = some p.2 ∧ g.get? p.1 = none

theorem enter_def {w : World} {A : Around} {s : Shared} {mg mb : Str → Option Value} {g : Heap} {news : List (Addr × Obj)} {R : Result → Shared → Prop} {name qual : Str} {params : Arguments} {body : List Stmt} {scope : Scope} {dV kV doc pm cdv ct oc : Value} {an od : Option Addr} {osl : Array (Option Value)} {f : Addr} {args : Args} {binds : List (Str × Value)}
    (B : Base w mg mb g) (st : g.StaysIn s.heap) (N : Has g s.heap news)
    (ho : (hd.heap_39 w.params).lookup f = some ⟨oc, od, .func (fnOf name qual params body scope dV kV doc pm an cdv ct), osl⟩) (hcd : codeIn (hd.heap_39 w.params) cdv qual = true) (hroom : A.depth < recursionLimit)
    (hbind : BindsTo s (fnOf name qual params body scope dV kV doc pm an cdv ct) args binds) (hloc : ∀ y ∈ binds, scope.names.lookup y.1 = some .local)
    (h : ∀ g' L h₁, Base w mg mb g' → Fr g' L h₁ (fun y => binds.reverse.lookup y) → News g' L h₁ news → (∀ h', g'.StaysIn h' → Mod (news.map (·.1)) s.heap h') → g.StaysIn g' → (∀ b, g'.get? b = none → b ∉ news.map (·.1) → s.heap.get? b = none) →
      wpAny (model PR w) (A.deeper (envOf qual scope L f cdv)) (execs body (envOf qual scope L f cdv))
        (fun fl s' => R (.ok (.ret (match fl with | .ret v => v | _ => .none))) s')
        (fun e s' => wpAny (model PR w) (A.deeper (envOf qual scope L f cdv)) (leaving (envOf qual scope L f cdv) e) (fun _ s'' => R (.error e) s'') (fun e' s'' => R (.error e') s'') s')
        { s with heap := h₁, toks := s.toks + binds.length })
    (hco : scope.isCoroutine = false) (hgen : scope.isGenerator = false) (hk : scope.kind = .function)
    (hcell : ∀ x ∈ scope.names, x.2 ≠ .cell) : codeAny (model PR w) A (.call (.ref f) args) R s := by
  have X : (hd.heap_39 w.params).In s.heap := B.K.keeps st
  refine codeAny_call_def (fd := fnOf name qual params body scope dV kV doc pm an cdv ct) (body := body) (binds := binds) hroom (X _ _ ho) rfl (B.T.nolimit.keeps st) (codeRec_of X hcd) rfl hbind hcell hloc (fun h₁ hns hk₁ => ?_) hco hgen hk
  have nm : ∀ b o, g.get? b = some o → b ∉ news.map (·.1) := fun b o e q => by
    obtain ⟨p, hp, rfl⟩ := List.mem_map.mp q
    rw [(N p hp).2] at e; cases e
  have sg : g.StaysIn (hideAll s.heap (news.map (·.1))) := fun b o e => hideAll_get _ (st b o e) (nm b o e)
  exact h _ s.heap.objs.size h₁ (B.keeps sg) ⟨hns, fun b o e => hk₁ b o (of_hideAll _ e), Nat.le_of_eq (hideAll_size _ _)⟩
    (fun p hp => ⟨hk₁ _ _ (N p hp).1, Nat.ne_of_lt (Heap.lt_size (N p hp).1), hideAll_none _ (List.mem_map_of_mem hp)⟩)
    (fun h' k b o e n => k b o (hideAll_get _ e n)) sg (fun b e n => by
      cases q : s.heap.get? b with
      | none => rfl
      | some o => rw [hideAll_get _ q n] at e; cases e)


end
/-! St -/
section
open PySem PySem.SetTable
set_option autoImplicit false

/-! binary search -/
def Rising (xs : Array Nat) : Prop := ∀ i j x y : Nat, i < j → xs[i]? = some x → xs[j]? = some y → x < y

theorem Rising.idx {xs : Array Nat} (h : Rising xs) {i j x : Nat} (hi : xs[i]? = some x) (hj : xs[j]? = some x) : i = j := by
  rcases Nat.lt_trichotomy i j with q | q | q
  · have := h i j x x q hi hj; omega
  · exact q
  · have := h j i x x q hj hi; omega

theorem below_go_spec (xs : Array Nat) (j : Nat) (hr : Rising xs) : ∀ (fuel lo hi : Nat), hi - lo ≤ fuel → lo ≤ hi → hi ≤ xs.size →
    (∀ i x, i < lo → xs[i]? = some x → x < j) → (∀ i x, hi ≤ i → xs[i]? = some x → j ≤ x) →
    lo ≤ below.go xs j fuel lo hi ∧ below.go xs j fuel lo hi ≤ hi ∧ (∀ i x, i < below.go xs j fuel lo hi → xs[i]? = some x → x < j) ∧ (∀ i x, below.go xs j fuel lo hi ≤ i → xs[i]? = some x → j ≤ x)
  | 0, lo, hi, hf, hl, hs, h1, h2 => by
    have : lo = hi := by omega
    subst this
    unfold below.go
    exact ⟨Nat.le_refl _, Nat.le_refl _, h1, h2⟩
  | fuel + 1, lo, hi, hf, hl, hs, h1, h2 => by
    unfold below.go
    by_cases hlt : lo < hi
    · rw [if_pos hlt]
      dsimp only
      have hm : (lo + hi) / 2 < hi := by omega
      have hm' : lo ≤ (lo + hi) / 2 := by omega
      have hms : (lo + hi) / 2 < xs.size := by omega
      have hgd : xs.getD ((lo + hi) / 2) j = xs[(lo + hi) / 2] := by simp [Array.getD, hms]
      have hg : xs[(lo + hi) / 2]? = some xs[(lo + hi) / 2] := by simp [hms]
      by_cases hc : xs.getD ((lo + hi) / 2) j < j
      · rw [if_pos hc]
        rw [hgd] at hc
        have ih := below_go_spec xs j hr fuel ((lo + hi) / 2 + 1) hi (by omega) (by omega) hs (fun i x hi' hx => by
          rcases Nat.lt_or_ge i ((lo + hi) / 2) with q | q
          · exact Nat.lt_trans (hr _ _ _ _ q hx hg) hc
          · have : i = (lo + hi) / 2 := by omega
            subst this
            rw [hg] at hx; cases hx; exact hc) h2
        exact ⟨by omega, ih.2.1, ih.2.2⟩
      · rw [if_neg hc]
        rw [hgd] at hc
        have ih := below_go_spec xs j hr fuel lo ((lo + hi) / 2) (by omega) (by omega) (by omega) h1 (fun i x hi' hx => by
          rcases Nat.lt_or_ge ((lo + hi) / 2) i with q | q
          · have := hr _ _ _ _ q hg hx; omega
          · have : i = (lo + hi) / 2 := by omega
            subst this
            rw [hg] at hx; cases hx; omega)
        exact ⟨ih.1, by omega, ih.2.2⟩
    · rw [if_neg hlt]
      have : lo = hi := by omega
      subst this
      exact ⟨Nat.le_refl _, Nat.le_refl _, h1, h2⟩

theorem below_spec {xs : Array Nat} (hr : Rising xs) (j : Nat) :
    below xs j ≤ xs.size ∧ (∀ i x, i < below xs j → xs[i]? = some x → x < j) ∧ (∀ i x, below xs j ≤ i → xs[i]? = some x → j ≤ x) := by
  have := below_go_spec xs j hr xs.size 0 xs.size (by omega) (by omega) (by omega) (fun i x hi => by omega) (fun i x hi hx => by
    have := (Array.getElem?_eq_some_iff.mp hx).1; omega)
  exact this.2

theorem below_at {xs : Array Nat} (hr : Rising xs) {i j : Nat} (h : xs[i]? = some j) : below xs j = i := by
  obtain ⟨_, h1, h2⟩ := below_spec hr j
  rcases Nat.lt_trichotomy (below xs j) i with q | q | q
  · have hlt : below xs j < xs.size := Nat.lt_trans q (Array.getElem?_eq_some_iff.mp h).1
    have hg : xs[below xs j]? = some xs[below xs j] := by simp [hlt]
    have a := h2 _ _ (Nat.le_refl _) hg
    have b := hr _ _ _ _ q hg h
    omega
  · exact q
  · have := h1 _ _ q h; omega

theorem below_hit {xs : Array Nat} (hr : Rising xs) (j : Nat) : xs[below xs j]? = some j ↔ j ∈ xs := by
  constructor
  · intro h; exact Array.mem_of_getElem? h
  · intro h
    obtain ⟨i, hi⟩ := Array.mem_iff_getElem?.mp h
    rw [below_at hr hi]; exact hi

/-! places in an array with one more, one less -/
theorem insertAt_size {α : Type} (xs : Array α) (p : Nat) (x : α) (hp : p ≤ xs.size) : (insertAt xs p x).size = xs.size + 1 := by
  simp [insertAt]; omega
theorem insertAt_get {α : Type} (xs : Array α) (p : Nat) (x : α) (hp : p ≤ xs.size) (i : Nat) :
    (insertAt xs p x)[i]? = if i < p then xs[i]? else if i = p then some x else xs[i - 1]? := by
  unfold insertAt
  have hs : (xs.extract 0 p).size = p := by simp; omega
  rw [Array.getElem?_append]
  simp only [Array.size_push, hs]
  by_cases h1 : i < p
  · rw [if_pos (by omega), if_pos h1]
    rw [Array.getElem?_push]
    rw [if_neg (by omega)]
    simp [Array.getElem?_extract]; omega
  · by_cases h2 : i = p
    · subst h2
      rw [if_pos (by omega), if_neg h1, if_pos rfl, Array.getElem?_push, if_pos hs.symm]
    · rw [if_neg (by omega), if_neg h1, if_neg h2, Array.getElem?_extract]
      by_cases h3 : i - 1 < xs.size
      · rw [if_pos (by omega)]
        congr 1; omega
      · rw [if_neg (by omega)]
        simp; omega
theorem eraseAt_size {α : Type} (xs : Array α) (p : Nat) (hp : p < xs.size) : (eraseAt xs p).size = xs.size - 1 := by
  simp [eraseAt]; omega
theorem eraseAt_get {α : Type} (xs : Array α) (p : Nat) (hp : p < xs.size) (i : Nat) :
    (eraseAt xs p)[i]? = if i < p then xs[i]? else xs[i + 1]? := by
  unfold eraseAt
  have hs : (xs.extract 0 p).size = p := by simp; omega
  rw [Array.getElem?_append]
  simp only [hs]
  by_cases h1 : i < p
  · rw [if_pos h1, if_pos h1]
    simp [Array.getElem?_extract]; omega
  · rw [if_neg h1, if_neg h1, Array.getElem?_extract]
    by_cases h3 : i + 1 < xs.size
    · rw [if_pos (by omega)]; congr 1; omega
    · rw [if_neg (by omega)]; simp; omega

theorem insertAt_rising {xs : Array Nat} (hr : Rising xs) {j : Nat} (hj : j ∉ xs) : Rising (insertAt xs (below xs j) j) := by
  obtain ⟨hp, h1, h2⟩ := below_spec hr j
  intro a b x y hab ha hb
  rw [insertAt_get _ _ _ hp] at ha hb
  have ne : ∀ i x, xs[i]? = some x → x ≠ j := fun i x h e => hj (e ▸ Array.mem_of_getElem? h)
  by_cases a1 : a < below xs j
  · rw [if_pos a1] at ha
    by_cases b1 : b < below xs j
    · rw [if_pos b1] at hb; exact hr _ _ _ _ hab ha hb
    · rw [if_neg b1] at hb
      by_cases b2 : b = below xs j
      · rw [if_pos b2] at hb; cases hb; exact h1 _ _ a1 ha
      · rw [if_neg b2] at hb
        have := h1 _ _ a1 ha
        have := h2 _ _ (by omega) hb
        omega
  · rw [if_neg a1] at ha
    rw [if_neg (by omega)] at hb
    by_cases a2 : a = below xs j
    · rw [if_pos a2] at ha; cases ha
      rw [if_neg (by omega)] at hb
      have q := h2 _ _ (by omega) hb
      have := ne _ _ hb
      omega
    · rw [if_neg a2] at ha
      rw [if_neg (by omega)] at hb
      exact hr _ _ _ _ (by omega) ha hb
theorem eraseAt_rising {xs : Array Nat} (hr : Rising xs) {p : Nat} (hp : p < xs.size) : Rising (eraseAt xs p) := by
  intro a b x y hab ha hb
  rw [eraseAt_get _ _ hp] at ha hb
  by_cases a1 : a < p
  · rw [if_pos a1] at ha
    by_cases b1 : b < p
    · rw [if_pos b1] at hb; exact hr _ _ _ _ hab ha hb
    · rw [if_neg b1] at hb; exact hr _ _ _ _ (by omega) ha hb
  · rw [if_neg a1] at ha; rw [if_neg (by omega)] at hb; exact hr _ _ _ _ (by omega) ha hb
theorem mem_insertAt {α : Type} {xs : Array α} {p : Nat} {x y : α} (hp : p ≤ xs.size) : y ∈ insertAt xs p x ↔ y = x ∨ y ∈ xs := by
  rw [Array.mem_iff_getElem?, Array.mem_iff_getElem?]
  constructor
  · rintro ⟨i, hi⟩
    rw [insertAt_get _ _ _ hp] at hi
    split at hi
    · exact .inr ⟨_, hi⟩
    · split at hi
      · cases hi; exact .inl rfl
      · exact .inr ⟨_, hi⟩
  · rintro (rfl | ⟨i, hi⟩)
    · exact ⟨p, by rw [insertAt_get _ _ _ hp, if_neg (by omega), if_pos rfl]⟩
    · by_cases h : i < p
      · exact ⟨i, by rw [insertAt_get _ _ _ hp, if_pos h]; exact hi⟩
      · exact ⟨i + 1, by rw [insertAt_get _ _ _ hp, if_neg (by omega), if_neg (by omega)]; exact hi⟩


end
/-! St2 -/
section
open PySem PySem.SetTable
set_option autoImplicit false

/-! slots -/
def TOk (t : SetTable) : Prop :=
  Rising t.place ∧ Rising t.dummies ∧ (∀ j ∈ t.place, j ≤ t.mask) ∧ (∀ j ∈ t.dummies, j ≤ t.mask) ∧ (∀ j ∈ t.place, j ∉ t.dummies) ∧ t.fill ≤ t.mask ∧ (t.mask = 7 ∨ t.mask = 15 ∨ t.mask = 31)

def Roomy (t : SetTable) : Prop := t.fill * 5 < t.mask * 3

theorem has_iff {xs : Array Nat} (hr : Rising xs) (j : Nat) : has xs j = true ↔ j ∈ xs := by
  unfold has
  rw [beq_iff_eq]
  exact below_hit hr j

theorem slot_live {t : SetTable} (h : TOk t) {i j : Nat} : t.slot j = .live i ↔ t.place[i]? = some j := by
  unfold slot
  dsimp only
  constructor
  · intro e
    split at e
    · rename_i q; cases e; exact beq_iff_eq.mp q
    · split at e <;> cases e
  · intro e
    rw [below_at h.1 e, if_pos (beq_iff_eq.mpr e)]
theorem slot_dummy {t : SetTable} (h : TOk t) {j : Nat} : t.slot j = .dummy ↔ j ∈ t.dummies := by
  unfold slot
  dsimp only
  constructor
  · intro e
    split at e
    · cases e
    · split at e
      · rename_i q; exact (has_iff h.2.1 j).mp q
      · cases e
  · intro e
    have hn : j ∉ t.place := fun q => h.2.2.2.2.1 j q e
    rw [if_neg (by rw [beq_iff_eq, below_hit h.1]; exact hn), if_pos ((has_iff h.2.1 j).mpr e)]
theorem slot_empty {t : SetTable} (h : TOk t) {j : Nat} : t.slot j = .empty ↔ j ∉ t.place ∧ j ∉ t.dummies := by
  unfold slot
  dsimp only
  constructor
  · intro e
    split at e
    · cases e
    · rename_i q
      rw [beq_iff_eq, below_hit h.1] at q
      split at e
      · cases e
      · rename_i q'
        rw [has_iff h.2.1] at q'
        exact ⟨q, q'⟩
  · rintro ⟨a, b⟩
    rw [if_neg (by rw [beq_iff_eq, below_hit h.1]; exact a), if_neg (by rw [has_iff h.2.1]; exact b)]

/-- of m + 1 numbers m at most stand in a list of m -/
theorem one_free : ∀ (l : List Nat) (m : Nat), l.length ≤ m → ∃ j, j ≤ m ∧ j ∉ l := by
  intro l m h
  by_cases q : ∃ j, j ≤ m ∧ j ∉ l
  · exact q
  · exfalso
    have hs : ∀ j ∈ List.range (m + 1), j ∈ l := fun j hj => by
      by_cases z : j ∈ l
      · exact z
      · exact absurd ⟨j, by have := List.mem_range.mp hj; omega, z⟩ q
    have := List.Nodup.length_le_of_subset (List.nodup_range (n := m + 1)) hs
    rw [List.length_range] at this
    omega

theorem some_empty {t : SetTable} (h : TOk t) : ∃ j, j ≤ t.mask ∧ t.slot j = .empty := by
  have hf : (t.place.toList ++ t.dummies.toList).length ≤ t.mask := by
    have := h.2.2.2.2.2.1
    unfold SetTable.fill at this
    simp only [List.length_append, Array.length_toList]; omega
  obtain ⟨j, hj, hn⟩ := one_free _ _ hf
  refine ⟨j, hj, (slot_empty h).mpr ?_⟩
  simp only [List.mem_append, not_or, Array.mem_toList_iff] at hn
  exact hn

/-! the road of a hash through the table -/
def adv (m : Nat) (p : Probe) : Probe :=
  if p.more > 0 then { p with j := p.j + 1, more := p.more - 1 } else
  let (i, perturb) := leap m p.i p.perturb
  { p with j := i, more := runEnd m i - i, i, perturb }
theorem advance_eq (t : SetTable) (p : Probe) : t.advance p = adv t.mask p := rfl
def startAt (m : Nat) (h : Int) : Probe :=
  let i := bits h % (m + 1)
  { j := i, more := runEnd m i - i, i, perturb := bits h, dummy := none }
def at_ (m : Nat) (h : Int) : Nat → Probe
  | 0 => startAt m h
  | k + 1 => adv m (at_ m h k)
def pj (m : Nat) (h : Int) (k : Nat) : Nat := (at_ m h k).j
theorem probeStart_eq (t : SetTable) (h : Int) : t.probeStart h = startAt t.mask h := rfl
theorem at_dummy (m : Nat) (h : Int) : ∀ k, (at_ m h k).dummy = none
  | 0 => rfl
  | k + 1 => by
    show (adv m (at_ m h k)).dummy = none
    unfold adv
    split
    · exact at_dummy m h k
    · exact at_dummy m h k
theorem adv_dummy (m : Nat) (p : Probe) (d : Option Nat) : adv m { p with dummy := d } = { adv m p with dummy := d } := by
  unfold adv
  dsimp only
  split <;> rfl

def Stops (t : SetTable) (hashAt : Nat → Int) (h : Int) (k : Nat) : Prop :=
  t.slot (pj t.mask h k) = .empty ∨ ∃ i, t.slot (pj t.mask h k) = .live i ∧ hashAt i = h

theorem go_ok (t : SetTable) (hashAt : Nat → Int) (h : Int) : ∀ (n fuel k : Nat) (d : Option Nat), n < fuel → Stops t hashAt h (k + n) → (∀ m, m < n → ¬ Stops t hashAt h (k + m)) →
    ∃ d', (d' = d ∨ ∃ k', k ≤ k' ∧ k' < k + n ∧ t.slot (pj t.mask h k') = .dummy ∧ d' = some (pj t.mask h k')) ∧
      probe.go t hashAt h fuel { at_ t.mask h k with dummy := d } =
        match t.slot (pj t.mask h (k + n)) with
        | .empty => some (.empty (pj t.mask h (k + n)) d')
        | .dummy => none
        | .live i => some (.candidate (pj t.mask h (k + n)) i { at_ t.mask h (k + n + 1) with dummy := d' })
  | 0, 0, _, _, hf, _, _ => absurd hf (Nat.lt_irrefl _)
  | n + 1, 0, _, _, hf, _, _ => absurd hf (Nat.not_lt_zero _)
  | 0, fuel + 1, k, d, _, hs, _ => by
    refine ⟨d, .inl rfl, ?_⟩
    unfold probe.go
    dsimp only
    rw [Nat.add_zero] at hs ⊢
    rcases hs with e | ⟨i, e, hi⟩
    · show (match t.slot (pj t.mask h k) with | .empty => _ | .dummy => _ | .live i => _) = _
      rw [e]; rfl
    · show (match t.slot (pj t.mask h k) with | .empty => _ | .dummy => _ | .live i => _) = _
      rw [e]
      dsimp only
      rw [if_pos (beq_iff_eq.mpr hi), advance_eq, adv_dummy]; rfl
  | n + 1, fuel + 1, k, d, hf, hs, hn => by
    have h0 := hn 0 (Nat.succ_pos _)
    rw [Nat.add_zero] at h0
    have hs' : Stops t hashAt h (k + 1 + n) := by rw [show k + 1 + n = k + (n + 1) by omega]; exact hs
    have hn' : ∀ m, m < n → ¬ Stops t hashAt h (k + 1 + m) := fun m hm => by
      have := hn (m + 1) (by omega)
      rw [show k + 1 + m = k + (m + 1) by omega]; exact this
    unfold probe.go
    dsimp only
    cases e : t.slot (at_ t.mask h k).j with
    | empty => exact absurd (.inl e) h0
    | dummy =>
      dsimp only
      obtain ⟨d', hd, hg⟩ := go_ok t hashAt h n fuel (k + 1) (some (pj t.mask h k)) (by omega) hs' hn'
      rw [show k + 1 + n = k + (n + 1) by omega] at hg
      refine ⟨d', ?_, ?_⟩
      · rcases hd with hd | ⟨k', a, b, c, e'⟩
        · exact .inr ⟨k, Nat.le_refl _, by omega, e, hd⟩
        · exact .inr ⟨k', by omega, by omega, c, e'⟩
      · rw [advance_eq, adv_dummy]; exact hg
    | live i =>
      dsimp only
      have hi : ¬ hashAt i = h := fun q => h0 (.inr ⟨i, e, q⟩)
      rw [if_neg (by rw [beq_iff_eq]; exact hi)]
      obtain ⟨d', hd, hg⟩ := go_ok t hashAt h n fuel (k + 1) d (by omega) hs' hn'
      rw [show k + 1 + n = k + (n + 1) by omega] at hg
      refine ⟨d', ?_, ?_⟩
      · rcases hd with hd | ⟨k', a, b, c, e'⟩
        · exact .inl hd
        · exact .inr ⟨k', by omega, by omega, c, e'⟩
      · rw [advance_eq, adv_dummy]; exact hg

/-! every place is met -/
/-- the place and the perturbation behind q leaps -/
def lp (m : Nat) (h : Int) : Nat → Nat × Nat
  | 0 => (bits h % (m + 1), bits h)
  | q + 1 => leap m (lp m h q).1 (lp m h q).2
def runAt (m : Nat) (h : Int) (q : Nat) : Probe := { j := (lp m h q).1, more := runEnd m (lp m h q).1 - (lp m h q).1, i := (lp m h q).1, perturb := (lp m h q).2, dummy := none }

theorem adv_more (m : Nat) (p : Probe) : ∀ n, n ≤ p.more → (Nat.repeat (adv m) n p) = { p with j := p.j + n, more := p.more - n }
  | 0, _ => rfl
  | n + 1, h => by
    rw [Nat.repeat, adv_more m p n (by omega)]
    unfold adv
    rw [if_pos (show p.more - n > 0 by omega)]
    simp only [Probe.mk.injEq, and_true]
    omega
theorem at_repeat (m : Nat) (h : Int) (k : Nat) : ∀ n, at_ m h (k + n) = Nat.repeat (adv m) n (at_ m h k)
  | 0 => rfl
  | n + 1 => by
    show adv m (at_ m h (k + n)) = adv m (Nat.repeat (adv m) n (at_ m h k))
    rw [at_repeat m h k n]
theorem runEnd_le (m i : Nat) : runEnd m i - i ≤ 9 := by unfold runEnd; split <;> omega
theorem run_met (m : Nat) (h : Int) : ∀ q, ∃ k, k ≤ 10 * q ∧ at_ m h k = runAt m h q
  | 0 => ⟨0, Nat.le_refl _, rfl⟩
  | q + 1 => by
    obtain ⟨k, hk, e⟩ := run_met m h q
    refine ⟨k + ((runAt m h q).more + 1), ?_, ?_⟩
    · have : (runAt m h q).more ≤ 9 := runEnd_le _ _
      omega
    · rw [at_repeat, e, Nat.repeat, adv_more m _ _ (Nat.le_refl _)]
      unfold adv
      rw [if_neg (show ¬ (runAt m h q).more - (runAt m h q).more > 0 by omega)]
      rfl
theorem bits_lt (h : Int) : bits h < 2 ^ 64 := by
  unfold bits
  have h1 := Int.emod_nonneg h (show (2 ^ 64 : Int) ≠ 0 by decide)
  have h2 := Int.emod_lt_of_pos h (show (0 : Int) < 2 ^ 64 by decide)
  have : ((h % 2 ^ 64).toNat : Int) < 2 ^ 64 := by rw [Int.toNat_of_nonneg h1]; exact h2
  exact_mod_cast this
theorem lp_perturb (m : Nat) (h : Int) : ∀ q, (lp m h q).2 = bits h / 32 ^ q
  | 0 => by simp [lp]
  | q + 1 => by
    show (lp m h q).2 / 32 = _
    rw [lp_perturb m h q, Nat.div_div_eq_div_mul, Nat.pow_succ]
theorem lp_zero (m : Nat) (h : Int) (q : Nat) (hq : 13 ≤ q) : (lp m h q).2 = 0 := by
  rw [lp_perturb, Nat.div_eq_of_lt]
  refine Nat.lt_of_lt_of_le (bits_lt h) ?_
  calc 2 ^ 64 ≤ 32 ^ 13 := by decide
    _ ≤ 32 ^ q := Nat.pow_le_pow_right (by decide) hq
theorem lp_le (m : Nat) (h : Int) : ∀ q, (lp m h q).1 ≤ m
  | 0 => by
    show bits h % (m + 1) ≤ m
    have : bits h % (m + 1) < m + 1 := Nat.mod_lt (bits h) (Nat.succ_pos m)
    omega
  | q + 1 => by
    show ((lp m h q).1 * 5 + 1 + (lp m h q).2 / 32) % (m + 1) ≤ m
    have : ((lp m h q).1 * 5 + 1 + (lp m h q).2 / 32) % (m + 1) < m + 1 := Nat.mod_lt _ (Nat.succ_pos m)
    omega

def cyc (m : Nat) : Nat → Nat → Nat
  | 0, i => i
  | q + 1, i => (cyc m q i * 5 + 1) % (m + 1)
theorem lp_cyc (m : Nat) (h : Int) : ∀ q, (lp m h (13 + q)).1 = cyc m q (lp m h 13).1
  | 0 => rfl
  | q + 1 => by
    show ((lp m h (13 + q)).1 * 5 + 1 + (lp m h (13 + q)).2 / 32) % (m + 1) = (cyc m q (lp m h 13).1 * 5 + 1) % (m + 1)
    rw [lp_zero m h (13 + q) (by omega), lp_cyc m h q]
def cycOk (m : Nat) : Bool := (List.range (m + 1)).all fun i => (List.range (m + 1)).all fun j => (List.range (m + 1)).any fun q => cyc m q i == j
theorem cyc7 : cycOk 7 = true := by decide +kernel
theorem cyc15 : cycOk 15 = true := by decide +kernel
theorem cyc31 : cycOk 31 = true := by decide +kernel
theorem cyc_ok {m : Nat} (hm : m = 7 ∨ m = 15 ∨ m = 31) : cycOk m = true := by
  rcases hm with rfl | rfl | rfl
  · exact cyc7
  · exact cyc15
  · exact cyc31
theorem cover {m : Nat} (hm : m = 7 ∨ m = 15 ∨ m = 31) (h : Int) {j : Nat} (hj : j ≤ m) : ∃ k, k < 10 * turns m ∧ pj m h k = j := by
  have hc := cyc_ok hm
  unfold cycOk at hc
  have h1 := List.all_eq_true.mp hc _ (List.mem_range.mpr (Nat.lt_succ_of_le (lp_le m h 13)))
  have h2 := List.all_eq_true.mp h1 _ (List.mem_range.mpr (Nat.lt_succ_of_le hj))
  obtain ⟨q, hq, e⟩ := List.any_eq_true.mp h2
  have e := beq_iff_eq.mp e
  have hq := List.mem_range.mp hq
  obtain ⟨k, hk, ek⟩ := run_met m h (13 + q)
  refine ⟨k, ?_, ?_⟩
  · unfold turns; omega
  · unfold pj
    rw [ek]
    show (lp m h (13 + q)).1 = j
    rw [lp_cyc, e]

/-- the first place that stops a search -/
theorem first_of {P : Nat → Prop} [DecidablePred P] : ∀ {n : Nat}, P n → ∃ m, m ≤ n ∧ P m ∧ ∀ i, i < m → ¬ P i
  | 0, h => ⟨0, Nat.le_refl _, h, fun _ hi => absurd hi (Nat.not_lt_zero _)⟩
  | n + 1, h => by
    by_cases q : ∃ i, i ≤ n ∧ P i
    · obtain ⟨i, hi, hp⟩ := q
      obtain ⟨m, a, b, c⟩ := first_of (n := i) hp
      exact ⟨m, by omega, b, c⟩
    · exact ⟨n + 1, Nat.le_refl _, h, fun i hi hp => q ⟨i, by omega, hp⟩⟩
termination_by n => n


end
/-! St3 -/
section
open PySem PySem.SetTable
set_option autoImplicit false

def Rch (t : SetTable) (h : Int) (j : Nat) : Prop := ∃ k, pj t.mask h k = j ∧ ∀ k', k' < k → t.slot (pj t.mask h k') ≠ .empty
def SOk {α : Type} (t : SetTable) (es : Array (Int × α)) : Prop :=
  TOk t ∧ t.place.size = es.size ∧ ∀ (i j : Nat) (e : Int × α), t.place[i]? = some j → es[i]? = some e → Rch t e.1 j

theorem Rch.mono {t t' : SetTable} {h : Int} {j : Nat} (hm : t'.mask = t.mask) (hs : ∀ j, t.slot j ≠ .empty → t'.slot j ≠ .empty) (r : Rch t h j) : Rch t' h j := by
  obtain ⟨k, e, f⟩ := r
  exact ⟨k, by rw [hm]; exact e, fun k' hk => by rw [hm]; exact hs _ (f k' hk)⟩

theorem slot_full {t : SetTable} (h : TOk t) {j : Nat} : t.slot j ≠ .empty ↔ j ∈ t.place ∨ j ∈ t.dummies := by
  rw [Ne, slot_empty h]
  by_cases a : j ∈ t.place <;> by_cases b : j ∈ t.dummies <;> simp [a, b]

theorem mem_eraseAt {xs : Array Nat} (hr : Rising xs) {p : Nat} (hp : p < xs.size) {j : Nat} (hj : xs[p]? = some j) (y : Nat) : y ∈ eraseAt xs p ↔ y ∈ xs ∧ y ≠ j := by
  rw [Array.mem_iff_getElem?, Array.mem_iff_getElem?]
  constructor
  · rintro ⟨i, hi⟩
    rw [eraseAt_get _ _ hp] at hi
    split at hi
    · rename_i q
      exact ⟨⟨i, hi⟩, fun e => by subst e; have := hr.idx hi hj; omega⟩
    · rename_i q
      exact ⟨⟨i + 1, hi⟩, fun e => by subst e; have := hr.idx hi hj; omega⟩
  · rintro ⟨⟨i, hi⟩, ne⟩
    have hne : i ≠ p := fun e => ne (by subst e; rw [hj] at hi; cases hi; rfl)
    by_cases q : i < p
    · exact ⟨i, by rw [eraseAt_get _ _ hp, if_pos q]; exact hi⟩
    · refine ⟨i - 1, ?_⟩
      rw [eraseAt_get _ _ hp, if_neg (by omega), show i - 1 + 1 = i by omega]
      exact hi

theorem put_eq (t : SetTable) (j : Nat) : t.put j = ({ t with place := insertAt t.place (below t.place j) j, dummies := if has t.dummies j then eraseAt t.dummies (below t.dummies j) else t.dummies }, below t.place j) := rfl

theorem put_ok {t : SetTable} (H : TOk t) {j : Nat} (hj : j ≤ t.mask) (hn : j ∉ t.place) (hf : t.fill + 1 ≤ t.mask) :
    TOk (t.put j).1 ∧ (∀ k, t.slot k ≠ .empty → (t.put j).1.slot k ≠ .empty) ∧ ((t.put j).1.fill = if has t.dummies j then t.fill else t.fill + 1) := by
  have hb := (below_spec H.1 j).1
  obtain ⟨h1, h2, h3, h4, h5, h6, h7⟩ := H
  have hd : ∀ y, y ∈ (if has t.dummies j then eraseAt t.dummies (below t.dummies j) else t.dummies) ↔ y ∈ t.dummies ∧ y ≠ j := by
    intro y
    by_cases q : has t.dummies j = true
    · rw [if_pos q]
      have hm := (has_iff h2 j).mp q
      have hat := (below_hit h2 j).mpr hm
      exact mem_eraseAt h2 (Array.getElem?_eq_some_iff.mp hat).1 hat y
    · rw [if_neg q]
      rw [has_iff h2] at q
      exact ⟨fun a => ⟨a, fun e => q (e ▸ a)⟩, fun a => a.1⟩
  have hsz : ((t.put j).1.fill = if has t.dummies j then t.fill else t.fill + 1) := by
    rw [put_eq]
    unfold SetTable.fill
    dsimp only
    rw [insertAt_size _ _ _ hb]
    by_cases q : has t.dummies j = true
    · rw [if_pos q, if_pos q]
      have hm := (has_iff h2 j).mp q
      have hat := (below_hit h2 j).mpr hm
      have hl := (Array.getElem?_eq_some_iff.mp hat).1
      rw [eraseAt_size _ _ hl]; omega
    · rw [if_neg q, if_neg q]; omega
  have T : TOk (t.put j).1 := by
    refine ⟨insertAt_rising h1 hn, ?_, ?_, ?_, ?_, ?_, h7⟩
    · show Rising (if has t.dummies j then eraseAt t.dummies (below t.dummies j) else t.dummies)
      split
      · rename_i q
        have hat := (below_hit h2 j).mpr ((has_iff h2 j).mp q)
        exact eraseAt_rising h2 (Array.getElem?_eq_some_iff.mp hat).1
      · exact h2
    · intro y hy
      rcases (mem_insertAt hb).mp hy with rfl | q
      · exact hj
      · exact h3 y q
    · intro y hy
      exact h4 y ((hd y).mp hy).1
    · intro y hy hy'
      have := (hd y).mp hy'
      rcases (mem_insertAt hb).mp hy with rfl | q
      · exact this.2 rfl
      · exact h5 y q this.1
    · show (t.put j).1.fill ≤ t.mask
      rw [hsz]; split <;> omega
  refine ⟨T, fun k hk => ?_, hsz⟩
  rw [slot_full T]
  rw [slot_full ⟨h1, h2, h3, h4, h5, h6, h7⟩] at hk
  rcases hk with a | a
  · exact .inl ((mem_insertAt hb).mpr (.inr a))
  · by_cases e : k = j
    · exact .inl ((mem_insertAt hb).mpr (.inl e))
    · exact .inr ((hd k).mpr ⟨a, e⟩)

theorem put_sok {α : Type} {t : SetTable} {es : Array (Int × α)} (H : SOk t es) {j : Nat} (hj : j ≤ t.mask) (hn : j ∉ t.place) (hf : t.fill + 1 ≤ t.mask) {h : Int} {x : α} (r : Rch t h j) :
    SOk (t.put j).1 (insertAt es (t.put j).2 (h, x)) := by
  obtain ⟨T, hs, hr⟩ := H
  obtain ⟨T', mono, _⟩ := put_ok T hj hn hf
  have hb := (below_spec T.1 j).1
  refine ⟨T', ?_, ?_⟩
  · rw [put_eq]
    dsimp only
    rw [insertAt_size _ _ _ hb, insertAt_size _ _ _ (by omega), hs]
  · intro i k e hi he
    rw [put_eq] at hi he
    dsimp only at hi he
    rw [insertAt_get _ _ _ hb] at hi
    rw [insertAt_get _ _ _ (by omega)] at he
    by_cases q : i < below t.place j
    · rw [if_pos q] at hi he
      exact Rch.mono (t := t) rfl mono (hr _ _ _ hi he)
    · rw [if_neg q] at hi he
      by_cases q' : i = below t.place j
      · rw [if_pos q'] at hi he
        cases hi; cases he
        exact Rch.mono (t := t) rfl mono r
      · rw [if_neg q'] at hi he
        exact Rch.mono (t := t) rfl mono (hr _ _ _ hi he)

theorem drop_sok {α : Type} {t : SetTable} {es : Array (Int × α)} (H : SOk t es) {i : Nat} (hi : i < es.size) :
    SOk (t.drop i) (eraseAt es i) ∧ (t.drop i).fill = t.fill ∧ (t.drop i).mask = t.mask := by
  obtain ⟨T, hs, hr⟩ := H
  have hip : i < t.place.size := by omega
  have hg : t.place[i]? = some t.place[i] := by simp [hip]
  obtain ⟨h1, h2, h3, h4, h5, h6, h7⟩ := T
  have hnd : t.place[i] ∉ t.dummies := h5 _ (Array.mem_of_getElem? hg)
  have hb := (below_spec h2 t.place[i]).1
  have e : t.drop i = { t with place := eraseAt t.place i, dummies := insertAt t.dummies (below t.dummies t.place[i]) t.place[i] } := by
    unfold SetTable.drop
    rw [hg]
  have hfill : (t.drop i).fill = t.fill := by
    rw [e]
    unfold SetTable.fill
    dsimp only
    rw [eraseAt_size _ _ hip, insertAt_size _ _ _ hb]; omega
  have T' : TOk (t.drop i) := by
    rw [e]
    refine ⟨eraseAt_rising h1 hip, insertAt_rising h2 hnd, ?_, ?_, ?_, ?_, h7⟩
    · intro y hy; exact h3 y ((mem_eraseAt h1 hip hg y).mp hy).1
    · intro y hy
      rcases (mem_insertAt hb).mp hy with rfl | q
      · exact h3 _ (Array.mem_of_getElem? hg)
      · exact h4 y q
    · intro y hy hy'
      have a := (mem_eraseAt h1 hip hg y).mp hy
      rcases (mem_insertAt hb).mp hy' with q | q
      · exact a.2 q
      · exact h5 y a.1 q
    · show SetTable.fill { t with place := eraseAt t.place i, dummies := insertAt t.dummies (below t.dummies t.place[i]) t.place[i] } ≤ t.mask
      rw [← e, hfill]; exact h6
  have mono : ∀ k, t.slot k ≠ .empty → (t.drop i).slot k ≠ .empty := by
    intro k hk
    rw [slot_full T', e]
    rw [slot_full ⟨h1, h2, h3, h4, h5, h6, h7⟩] at hk
    rcases hk with a | a
    · by_cases q : k = t.place[i]
      · exact .inr ((mem_insertAt hb).mpr (.inl q))
      · exact .inl ((mem_eraseAt h1 hip hg k).mpr ⟨a, q⟩)
    · exact .inr ((mem_insertAt hb).mpr (.inr a))
  have hm : (t.drop i).mask = t.mask := by rw [e]
  refine ⟨⟨T', ?_, ?_⟩, hfill, hm⟩
  · rw [e]
    dsimp only
    rw [eraseAt_size _ _ hip, eraseAt_size _ _ hi, hs]
  · intro a k x ha hx
    rw [e] at ha
    dsimp only at ha
    rw [eraseAt_get _ _ hip] at ha
    rw [eraseAt_get _ _ hi] at hx
    by_cases q : a < i
    · rw [if_pos q] at ha hx; exact Rch.mono (t := t) hm mono (hr _ _ _ ha hx)
    · rw [if_neg q] at ha hx; exact Rch.mono (t := t) hm mono (hr _ _ _ ha hx)

theorem fresh_sok {α : Type} (f m : Nat) (l : Bool) : SOk (SetTable.fresh f m l) (#[] : Array (Int × α)) := by
  refine ⟨⟨?_, ?_, ?_, ?_, ?_, ?_, .inl rfl⟩, rfl, ?_⟩
  · intro i j x y _ h _; simp [SetTable.fresh] at h
  · intro i j x y _ h _; simp [SetTable.fresh] at h
  · intro j h; simp [SetTable.fresh] at h
  · intro j h; simp [SetTable.fresh] at h
  · intro j h; simp [SetTable.fresh] at h
  · simp [SetTable.fresh, SetTable.fill]
  · intro i j e h; simp [SetTable.fresh] at h
/-- the same places under other marks -/
theorem SOk.marks {α : Type} {t t' : SetTable} {es : Array (Int × α)} (H : SOk t es) (hp : t'.place = t.place) (hd : t'.dummies = t.dummies) (hm : t'.mask = t.mask) : SOk t' es := by
  obtain ⟨⟨h1, h2, h3, h4, h5, h6, h7⟩, hs, hr⟩ := H
  have T' : TOk t' := ⟨hp ▸ h1, hd ▸ h2, by rw [hp, hm]; exact h3, by rw [hd, hm]; exact h4, by rw [hp, hd]; exact h5, by unfold SetTable.fill at h6 ⊢; rw [hp, hd, hm]; exact h6, by rw [hm]; exact h7⟩
  refine ⟨T', by rw [hp]; exact hs, fun i j e hi he => ?_⟩
  refine Rch.mono (t := t) hm (fun k hk => ?_) (hr i j e (by rw [← hp]; exact hi) he)
  rw [slot_full T', hp, hd]
  rwa [slot_full ⟨h1, h2, h3, h4, h5, h6, h7⟩] at hk
theorem Roomy.grow {t : SetTable} (h : Roomy t) : t.fill + 1 ≤ t.mask := by
  unfold Roomy at h; omega


end
/-! St4 -/
section
open PySem PySem.SetTable
set_option autoImplicit false

def occ (owner : Array (Option Nat)) (j : Nat) : Prop := (owner.getD j (some 0)).isNone = false
def ORch (m : Nat) (owner : Array (Option Nat)) (h : Int) (j : Nat) : Prop := ∃ k, pj m h k = j ∧ ∀ k', k' < k → occ owner (pj m h k')

theorem lp_cover {m : Nat} (hm : m = 7 ∨ m = 15 ∨ m = 31) (h : Int) {j : Nat} (hj : j ≤ m) : ∃ q, q < turns m ∧ (lp m h q).1 = j := by
  have hc := cyc_ok hm
  unfold cycOk at hc
  have h1 := List.all_eq_true.mp hc _ (List.mem_range.mpr (Nat.lt_succ_of_le (lp_le m h 13)))
  have h2 := List.all_eq_true.mp h1 _ (List.mem_range.mpr (Nat.lt_succ_of_le hj))
  obtain ⟨q, hq, e⟩ := List.any_eq_true.mp h2
  have e := beq_iff_eq.mp e
  have hq := List.mem_range.mp hq
  exact ⟨13 + q, by unfold turns; omega, by rw [lp_cyc, e]⟩

theorem runEnd_ge (m i : Nat) : i ≤ runEnd m i := by unfold runEnd; split <;> omega
theorem runEnd_le_mask {m i : Nat} (h : i ≤ m) : runEnd m i ≤ m := by unfold runEnd; split <;> omega

theorem at_le (m : Nat) (h : Int) : ∀ k, (at_ m h k).j + (at_ m h k).more ≤ m
  | 0 => by
    show bits h % (m + 1) + (runEnd m (bits h % (m + 1)) - bits h % (m + 1)) ≤ m
    have a : bits h % (m + 1) < m + 1 := Nat.mod_lt _ (Nat.succ_pos m)
    have b := runEnd_ge m (bits h % (m + 1))
    have c := runEnd_le_mask (m := m) (i := bits h % (m + 1)) (by omega)
    omega
  | k + 1 => by
    have ih := at_le m h k
    show (adv m (at_ m h k)).j + (adv m (at_ m h k)).more ≤ m
    unfold adv
    split
    · dsimp only; omega
    · show (leap m (at_ m h k).i (at_ m h k).perturb).1 + (runEnd m (leap m (at_ m h k).i (at_ m h k).perturb).1 - (leap m (at_ m h k).i (at_ m h k).perturb).1) ≤ m
      have a : (leap m (at_ m h k).i (at_ m h k).perturb).1 < m + 1 := Nat.mod_lt _ (Nat.succ_pos m)
      have b := runEnd_ge m (leap m (at_ m h k).i (at_ m h k).perturb).1
      have c := runEnd_le_mask (m := m) (i := (leap m (at_ m h k).i (at_ m h k).perturb).1) (by omega)
      omega
theorem pj_le (m : Nat) (h : Int) (k : Nat) : pj m h k ≤ m := by
  have := at_le m h k
  unfold pj; omega

theorem pj_run {m : Nat} {h : Int} {q kq : Nat} (e : at_ m h kq = runAt m h q) {n : Nat} (hn : n ≤ runEnd m (lp m h q).1 - (lp m h q).1) : pj m h (kq + n) = (lp m h q).1 + n := by
  unfold pj
  rw [at_repeat, e, adv_more m _ n hn]; rfl
theorem next_run {m : Nat} {h : Int} {q kq : Nat} (e : at_ m h kq = runAt m h q) : at_ m h (kq + (runEnd m (lp m h q).1 - (lp m h q).1) + 1) = runAt m h (q + 1) := by
  show adv m (at_ m h (kq + (runEnd m (lp m h q).1 - (lp m h q).1))) = _
  rw [at_repeat, e, adv_more m (runAt m h q) (runEnd m (lp m h q).1 - (lp m h q).1) (Nat.le_refl (runEnd m (lp m h q).1 - (lp m h q).1))]
  unfold adv
  rw [if_neg (show ¬ (runAt m h q).more - (runEnd m (lp m h q).1 - (lp m h q).1) > 0 by show ¬ (runEnd m (lp m h q).1 - (lp m h q).1) - (runEnd m (lp m h q).1 - (lp m h q).1) > 0; omega)]
  rfl

theorem free_ok {m : Nat} (hm : m = 7 ∨ m = 15 ∨ m = 31) (h : Int) {owner : Array (Option Nat)} {j0 : Nat} (hj0 : j0 ≤ m) (hfree : ¬ occ owner j0) :
    ∀ (fuel q kq : Nat), q + fuel = turns m → at_ m h kq = runAt m h q → (∀ k', k' < kq → occ owner (pj m h k')) → (∀ q', q' < q → occ owner (lp m h q').1) →
      ∃ j, layClean.free m owner fuel (lp m h q).1 (lp m h q).2 = some j ∧ ¬ occ owner j ∧ ORch m owner h j
  | 0, q, kq, hq, _, _, hl => by
    obtain ⟨q', hq', e⟩ := lp_cover hm h hj0
    have := hl q' (by omega)
    rw [e] at this
    exact absurd this hfree
  | fuel + 1, q, kq, hq, e, hk, hl => by
    unfold layClean.free
    have hge := runEnd_ge m (lp m h q).1
    cases hf : (List.range (runEnd m (lp m h q).1 + 1 - (lp m h q).1)).find? fun k => (owner.getD ((lp m h q).1 + k) (some 0)).isNone with
    | some k =>
      dsimp only
      obtain ⟨hp, hr, hmin⟩ := List.find?_range_eq_some.mp hf
      have hr := List.mem_range.mp hr
      have hkk := pj_run e (n := k) (by omega)
      refine ⟨(lp m h q).1 + k, rfl, ?_, kq + k, hkk, ?_⟩
      · unfold occ; rw [hp]; exact fun x => by cases x
      · intro k' hk'
        by_cases c : k' < kq
        · exact hk k' c
        · have := pj_run e (n := k' - kq) (by omega)
          rw [show kq + (k' - kq) = k' by omega] at this
          rw [this]
          have := hmin (k' - kq) (by omega)
          simpa [occ] using this
    | none =>
      dsimp only
      have hall : ∀ n, n ≤ runEnd m (lp m h q).1 - (lp m h q).1 → occ owner ((lp m h q).1 + n) := by
        intro n hn
        have := List.find?_eq_none.mp hf n (List.mem_range.mpr (by omega))
        unfold occ
        exact Bool.eq_false_iff.mpr this
      have ih := free_ok hm h hj0 hfree fuel (q + 1) (kq + (runEnd m (lp m h q).1 - (lp m h q).1) + 1) (by omega) (next_run e) (fun k' hk' => by
        by_cases c : k' < kq
        · exact hk k' c
        · have := pj_run e (n := k' - kq) (by omega)
          rw [show kq + (k' - kq) = k' by omega] at this
          rw [this]
          exact hall _ (by omega)) (fun q' hq' => by
        by_cases c : q' < q
        · exact hl q' c
        · have : q' = q := by omega
          subst this
          have := hall 0 (by omega)
          simpa using this)
      exact ih

structure OInv (m : Nat) (hs : List Int) (owner : Array (Option Nat)) (n : Nat) : Prop where
  size : owner.size = m + 1
  reach : ∀ j i : Nat, owner[j]? = some (some i) → i < n ∧ ∃ h, hs[i]? = some h ∧ ORch m owner h j
  inj : ∀ j j' i : Nat, owner[j]? = some (some i) → owner[j']? = some (some i) → j = j'
  surj : ∀ i : Nat, i < n → ∃ j : Nat, owner[j]? = some (some i)

theorem occ_iff {owner : Array (Option Nat)} {j : Nat} (hj : j < owner.size) : occ owner j ↔ ∃ i, owner[j]? = some (some i) := by
  unfold occ
  rw [show owner.getD j (some 0) = owner[j] by simp [Array.getD, hj], show owner[j]? = some owner[j] by simp [hj]]
  cases owner[j] <;> simp
theorem OInv.free {m : Nat} {hs : List Int} {owner : Array (Option Nat)} {n : Nat} (O : OInv m hs owner n) (hn : n ≤ m) : ∃ j, j ≤ m ∧ ¬ occ owner j := by
  by_cases q : ∃ j, j ≤ m ∧ ¬ occ owner j
  · exact q
  · exfalso
    have all : ∀ j : Nat, j ≤ m → ∃ i : Nat, owner[j]? = some (some i) := fun j hj => by
      by_cases z : occ owner j
      · exact (occ_iff (by rw [O.size]; omega)).mp z
      · exact absurd ⟨j, hj, z⟩ q
    let f : Nat → Nat := fun j => ((owner[j]?).getD none).getD 0
    have hf : ∀ j : Nat, j ≤ m → owner[j]? = some (some (f j)) := fun j hj => by
      obtain ⟨i, hi⟩ := all j hj
      show owner[j]? = some (some (((owner[j]?).getD none).getD 0))
      rw [hi]; rfl
    have hnd : ((List.range (m + 1)).map f).Nodup := by
      rw [List.nodup_iff_pairwise_ne, List.pairwise_map]
      refine List.Pairwise.imp_of_mem ?_ (List.pairwise_lt_range (n := m + 1))
      intro a b ha hb hab e
      have := O.inj a b (f a) (hf a (by have := List.mem_range.mp ha; omega)) (by rw [e]; exact hf b (by have := List.mem_range.mp hb; omega))
      omega
    have hsub : ∀ x ∈ (List.range (m + 1)).map f, x ∈ List.range n := by
      intro x hx
      obtain ⟨j, hj, rfl⟩ := List.mem_map.mp hx
      have := (O.reach j (f j) (hf j (by have := List.mem_range.mp hj; omega))).1
      exact List.mem_range.mpr this
    have := List.Nodup.length_le_of_subset hnd hsub
    simp only [List.length_map, List.length_range] at this
    omega

def layStep (m : Nat) (acc : Option (Array (Option Nat) × Nat)) (h : Int) : Option (Array (Option Nat) × Nat) := do
  let (owner, k) ← acc
  let j ← layClean.free m owner (turns m) (bits h % (m + 1)) (bits h)
  pure (owner.setIfInBounds j (some k), k + 1)
theorem layClean_eq (m : Nat) (hs : Array Int) : layClean m hs = (hs.toList.foldl (layStep m) (some (Array.replicate (m + 1) none, 0))).map (·.1) := by
  unfold layClean
  rw [← Array.foldl_toList]; rfl

theorem ORch.mono {m : Nat} {o o' : Array (Option Nat)} {h : Int} {j : Nat} (hs : ∀ j, occ o j → occ o' j) (r : ORch m o h j) : ORch m o' h j := by
  obtain ⟨k, e, f⟩ := r
  exact ⟨k, e, fun k' hk => hs _ (f k' hk)⟩

theorem lay_fold {m : Nat} (hm : m = 7 ∨ m = 15 ∨ m = 31) (hs : List Int) (hlen : hs.length ≤ m) : ∀ (l don : List Int) (owner : Array (Option Nat)), don ++ l = hs → OInv m hs owner don.length →
    ∃ owner', l.foldl (layStep m) (some (owner, don.length)) = some (owner', hs.length) ∧ OInv m hs owner' hs.length
  | [], don, owner, e, O => by
    rw [List.append_nil] at e
    subst e
    exact ⟨owner, rfl, O⟩
  | h :: l, don, owner, e, O => by
    have hdl : don.length < hs.length := by rw [← e]; simp
    obtain ⟨j0, hj0, hf0⟩ := O.free (by omega)
    obtain ⟨j, hj, hn, hr⟩ := free_ok hm h hj0 hf0 (turns m) 0 0 (by omega) rfl (fun _ hk => absurd hk (Nat.not_lt_zero _)) (fun _ hk => absurd hk (Nat.not_lt_zero _))
    have hjm : j ≤ m := by obtain ⟨k, e, _⟩ := hr; rw [← e]; exact pj_le m h k
    have hjs : j < owner.size := by rw [O.size]; omega
    have hget : ∀ b : Nat, (owner.setIfInBounds j (some don.length))[b]? = if j = b then some (some don.length) else owner[b]? := by
      intro b
      rw [Array.getElem?_setIfInBounds]
      by_cases q : j = b
      · subst q; simp [hjs]
      · simp [q]
    have hocc : ∀ b, occ owner b → occ (owner.setIfInBounds j (some don.length)) b := by
      intro b hb
      by_cases q : b < owner.size
      · obtain ⟨i, hi⟩ := (occ_iff q).mp hb
        refine (occ_iff (by simpa using q)).mpr ?_
        rw [hget]
        split
        · exact ⟨_, rfl⟩
        · exact ⟨i, hi⟩
      · unfold occ
        simp [Array.getD, q]
    have hhd : hs[don.length]? = some h := by rw [← e]; simp
    have O' : OInv m hs (owner.setIfInBounds j (some don.length)) (don ++ [h]).length := by
      rw [List.length_append, List.length_singleton]
      refine ⟨by simpa using O.size, ?_, ?_, ?_⟩
      · intro b i hb
        rw [hget] at hb
        split at hb
        · rename_i q
          cases hb
          exact ⟨by omega, h, hhd, q ▸ hr.mono hocc⟩
        · obtain ⟨a, h', b', c⟩ := O.reach b i hb
          exact ⟨by omega, h', b', c.mono hocc⟩
      · intro a b i ha hb
        rw [hget] at ha hb
        split at ha
        · rename_i qa
          cases ha
          split at hb
          · rename_i qb; omega
          · have := (O.reach b _ hb).1; omega
        · split at hb
          · cases hb
            have := (O.reach a _ ha).1; omega
          · exact O.inj a b i ha hb
      · intro i hi
        by_cases q : i = don.length
        · exact ⟨j, by rw [hget, if_pos rfl, q]⟩
        · obtain ⟨b, hb⟩ := O.surj i (by omega)
          refine ⟨b, ?_⟩
          rw [hget, if_neg]
          · exact hb
          · intro e'
            subst e'
            exact hn ((occ_iff hjs).mpr ⟨i, hb⟩)
    have ih := lay_fold hm hs hlen l (don ++ [h]) _ (by simpa using e) O'
    rw [List.foldl_cons]
    have : layStep m (some (owner, don.length)) h = some (owner.setIfInBounds j (some don.length), (don ++ [h]).length) := by
      unfold layStep
      have hj' : layClean.free m owner (turns m) (bits h % (m + 1)) (bits h) = some j := hj
      simp only [Option.bind_eq_bind, Option.bind_some, hj']
      simp
    rw [this]
    exact ih

theorem OInv.start (m : Nat) (hs : List Int) : OInv m hs (Array.replicate (m + 1) none) ([] : List Int).length := by
  have e : ∀ (j i : Nat), (Array.replicate (m + 1) (none : Option Nat))[j]? ≠ some (some i) := by
    intro j i h
    rw [Array.getElem?_replicate] at h
    split at h <;> cases h
  exact ⟨by simp, fun j i h => absurd h (e j i), fun j _ i h => absurd h (e j i), fun i h => absurd h (Nat.not_lt_zero _)⟩


end
/-! St5 -/
section
open PySem PySem.SetTable
set_option autoImplicit false

def lives (m : Nat) (owner : Array (Option Nat)) : List (Nat × Nat) := (List.range (m + 1)).filterMap fun j => (owner.getD j none).map (j, ·)

theorem mem_lives {m : Nat} {owner : Array (Option Nat)} (hs : owner.size = m + 1) {j i : Nat} : (j, i) ∈ lives m owner ↔ owner[j]? = some (some i) := by
  unfold lives
  rw [List.mem_filterMap]
  constructor
  · rintro ⟨a, ha, e⟩
    have ha := List.mem_range.mp ha
    have hd : owner.getD a none = owner[a] := by simp [Array.getD, hs, ha]
    rw [hd] at e
    cases q : owner[a] with
    | none => rw [q] at e; cases e
    | some b =>
      rw [q] at e; cases e
      rw [show owner[j]? = some owner[j] by simp [hs, ha], q]
  · intro e
    have hlt := (Array.getElem?_eq_some_iff.mp e).1
    refine ⟨j, List.mem_range.mpr (by omega), ?_⟩
    have hd : owner.getD j none = owner[j] := by simp [Array.getD, hlt]
    have : owner[j] = some i := (Array.getElem?_eq_some_iff.mp e).2
    rw [hd, this]; rfl
theorem lives_rising (m : Nat) (owner : Array (Option Nat)) : (lives m owner).Pairwise fun a b => a.1 < b.1 := by
  unfold lives
  rw [List.pairwise_filterMap]
  refine List.Pairwise.imp ?_ (List.pairwise_lt_range (n := m + 1))
  intro a b hab x hx y hy
  cases qa : owner.getD a none with
  | none => rw [qa] at hx; cases hx
  | some i =>
    rw [qa] at hx; cases hx
    cases qb : owner.getD b none with
    | none => rw [qb] at hy; cases hy
    | some i' => rw [qb] at hy; cases hy; exact hab

theorem laid_ok {α : Type} {m : Nat} (hm : m = 7 ∨ m = 15 ∨ m = 31) (es : Array (Int × α)) (hn : es.size ≤ m) (f mv : Nat) (led plain : Bool) :
    ∃ t' order, laid m f mv led plain (es.map (·.1)) = some (t', order) ∧ coversAll order es.size = true ∧ t'.mask = m ∧ t'.fill = es.size ∧ SOk t' (order.filterMap (es[·]?)) ∧
      (order.filterMap (es[·]?)).size = es.size ∧ (∀ e, e ∈ order.filterMap (es[·]?) ↔ e ∈ es) ∧ (order.filterMap (es[·]?)).toList.Perm es.toList ∧ t'.led = led ∧ t'.plain = plain ∧ t'.finger = f ∧ t'.moves = mv := by
  have hlen : (es.map (·.1)).toList.length = es.size := by simp
  obtain ⟨owner, e, O⟩ := lay_fold hm (es.map (·.1)).toList (by rw [hlen]; exact hn) (es.map (·.1)).toList [] _ (by simp) (OInv.start m _)
  have hclean : layClean m (es.map (·.1)) = some owner := by
    rw [layClean_eq]
    show ((es.map (·.1)).toList.foldl (layStep m) (some (Array.replicate (m + 1) none, ([] : List Int).length))).map (·.1) = some owner
    rw [e]; rfl
  rw [hlen] at O
  have L := lives_rising m owner
  have hnd : ((lives m owner).map (·.2)).Nodup := by
    rw [List.nodup_iff_pairwise_ne, List.pairwise_map]
    refine List.Pairwise.imp_of_mem ?_ L
    rintro ⟨a, i⟩ ⟨b, i'⟩ ha hb hab q
    dsimp only at q hab
    subst q
    have := O.inj a b i ((mem_lives O.size).mp ha) ((mem_lives O.size).mp hb)
    omega
  have hperm : ((lives m owner).map (·.2)).Perm (List.range es.size) := by
    rw [List.perm_ext_iff_of_nodup hnd List.nodup_range]
    intro i
    rw [List.mem_map, List.mem_range]
    constructor
    · rintro ⟨⟨j, i'⟩, hx, rfl⟩
      exact (O.reach j i' ((mem_lives O.size).mp hx)).1
    · intro hi
      obtain ⟨j, hj⟩ := O.surj i hi
      exact ⟨(j, i), (mem_lives O.size).mpr hj, rfl⟩
  have hll : (lives m owner).length = es.size := by
    have := hperm.length_eq
    simpa using this
  have hfm : (((lives m owner).map (·.2)).toArray.filterMap (es[·]?)).toList = ((lives m owner).map (·.2)).filterMap (es[·]?) := by simp
  have hidx : ∀ p ∈ lives m owner, p.2 < es.size := fun p hp => (O.reach p.1 p.2 ((mem_lives O.size).mp hp)).1
  -- the kept entries, place by place
  have hget : ∀ (l : List (Nat × Nat)), (∀ p ∈ l, p.2 < es.size) → ∀ r : Nat, ((l.map (·.2)).filterMap (es[·]?))[r]? = (l[r]?).bind fun (p : Nat × Nat) => es[p.2]? := by
    intro l
    induction l with
    | nil => intro _ r; simp
    | cons p l ih =>
      intro hp r
      have h0 := hp p (.head _)
      have hr : es[p.2]? = some es[p.2] := by simp [h0]
      rw [List.map_cons, List.filterMap_cons, hr]
      dsimp only
      cases r with
      | zero => rw [List.getElem?_cons_zero, List.getElem?_cons_zero, Option.bind_some, hr]
      | succ r => rw [List.getElem?_cons_succ, List.getElem?_cons_succ]; exact ih (fun q hq => hp q (.tail _ hq)) r
  have hlenf : ∀ (l : List (Nat × Nat)), (∀ p ∈ l, p.2 < es.size) → ((l.map (·.2)).filterMap (es[·]?)).length = l.length := by
    intro l
    induction l with
    | nil => intro _; rfl
    | cons p l ih =>
      intro hp
      have h0 := hp p (.head _)
      rw [List.map_cons, List.filterMap_cons, show es[p.2]? = some es[p.2] by simp [h0]]
      simp only [List.length_cons, ih fun q hq => hp q (.tail _ hq)]
  let t' : SetTable := { mask := m, place := ((lives m owner).map (·.1)).toArray, dummies := #[], finger := f, led, moves := mv, plain }
  have hplace : ∀ r j : Nat, t'.place[r]? = some j → ∃ i : Nat, (lives m owner)[r]? = some (j, i) := by
    intro r j h
    have h : ((lives m owner).map (·.1))[r]? = some j := by simpa [t'] using h
    rw [List.getElem?_map] at h
    cases q : (lives m owner)[r]? with
    | none => rw [q] at h; cases h
    | some p => rw [q] at h; cases h; exact ⟨p.2, rfl⟩
  have hmemp : ∀ j : Nat, j ∈ t'.place ↔ ∃ i : Nat, owner[j]? = some (some i) := by
    intro j
    show j ∈ ((lives m owner).map (·.1)).toArray ↔ _
    rw [List.mem_toArray, List.mem_map]
    constructor
    · rintro ⟨⟨a, i⟩, h, rfl⟩; exact ⟨i, (mem_lives O.size).mp h⟩
    · rintro ⟨i, h⟩; exact ⟨(j, i), (mem_lives O.size).mpr h, rfl⟩
  have hfill : t'.fill = es.size := by
    show ((lives m owner).map (·.1)).toArray.size + (#[] : Array Nat).size = es.size
    simp [hll]
  have T : TOk t' := by
    refine ⟨?_, ?_, ?_, ?_, ?_, ?_, hm⟩
    · intro a b x y hab ha hb
      have ha : ((lives m owner).map (·.1))[a]? = some x := by simpa [t'] using ha
      have hb : ((lives m owner).map (·.1))[b]? = some y := by simpa [t'] using hb
      have P : ((lives m owner).map (·.1)).Pairwise (· < ·) := by rw [List.pairwise_map]; exact L
      obtain ⟨ha1, rfl⟩ := List.getElem?_eq_some_iff.mp ha
      obtain ⟨hb1, rfl⟩ := List.getElem?_eq_some_iff.mp hb
      exact List.pairwise_iff_getElem.mp P a b ha1 hb1 hab
    · intro i j x y _ h _; simp [t'] at h
    · intro j hj
      obtain ⟨i, hi⟩ := (hmemp j).mp hj
      have := (Array.getElem?_eq_some_iff.mp hi).1
      have := O.size
      show j ≤ m
      omega
    · intro j hj; simp [t'] at hj
    · intro j _ hj; simp [t'] at hj
    · rw [hfill]; exact hn
  have hslot : ∀ j, j ≤ m → occ owner j → t'.slot j ≠ .empty := by
    intro j hj ho
    rw [slot_full T]
    exact .inl ((hmemp j).mpr ((occ_iff (by rw [O.size]; omega)).mp ho))
  have hes : (((lives m owner).map (·.2)).toArray.filterMap (es[·]?)).size = es.size := by
    rw [← Array.length_toList, hfm, hlenf _ hidx, hll]
  have hpm : (((lives m owner).map (·.2)).toArray.filterMap (es[·]?)).toList.Perm es.toList := by
    rw [hfm]
    have a := List.Perm.filterMap (fun i => es[i]?) hperm
    have b : (List.range es.size).filterMap (fun i => es[i]?) = es.toList := by
      apply List.ext_getElem?
      intro r
      have h1 := hget ((List.range es.size).map fun i => (i, i)) (by intro p hp; obtain ⟨i, hi, rfl⟩ := List.mem_map.mp hp; exact List.mem_range.mp hi) r
      rw [List.map_map] at h1
      have h2 : (List.range es.size).map ((fun x : Nat × Nat => x.2) ∘ fun i => (i, i)) = List.range es.size := by
        rw [show ((fun x : Nat × Nat => x.2) ∘ fun i => (i, i)) = id from rfl, List.map_id]
      rw [h2] at h1
      rw [h1, List.getElem?_map]
      by_cases q : r < es.size
      · rw [List.getElem?_range q]; simp
      · rw [List.getElem?_eq_none (by simpa using q)]; simp; omega
    rw [b] at a; exact a
  refine ⟨t', ((lives m owner).map (·.2)).toArray, ?_, ?_, rfl, hfill, ⟨T, ?_, ?_⟩, hes, ?_, hpm, rfl, rfl, rfl, rfl⟩
  · unfold laid
    rw [hclean]; rfl
  · unfold coversAll
    rw [List.isPerm_iff]
    exact hperm
  · rw [hes]
    show ((lives m owner).map (·.1)).toArray.size = es.size
    simp [hll]
  · intro r j x hr hx
    obtain ⟨i, hi⟩ := hplace r j hr
    rw [← Array.getElem?_toList, hfm, hget _ hidx, hi, Option.bind_some] at hx
    have hmem : (j, i) ∈ lives m owner := List.mem_of_getElem? hi
    obtain ⟨_, h, hh, k, e1, e2⟩ := O.reach j i ((mem_lives O.size).mp hmem)
    have : h = x.1 := by
      simp only [Array.getElem?_toList, Array.getElem?_map] at hh
      have hx' : es[i]? = some x := hx
      rw [hx'] at hh
      simpa using hh.symm
    subst this
    exact ⟨k, e1, fun k' hk => hslot _ (pj_le m _ k') (e2 k' hk)⟩
  · intro e'
    rw [← Array.mem_toList_iff, ← Array.mem_toList_iff]
    exact hpm.mem_iff

theorem size_above : ∀ n, n ≤ 20 → sizeAbove n - 1 = 7 ∨ sizeAbove n - 1 = 15 ∨ sizeAbove n - 1 = 31 := by
  intro n hn
  have : (List.range 21).all (fun n => decide (sizeAbove n - 1 = 7 ∨ sizeAbove n - 1 = 15 ∨ sizeAbove n - 1 = 31)) = true := by decide +kernel
  exact of_decide_eq_true (List.all_eq_true.mp this n (List.mem_range.mpr (by omega)))
theorem size_roomy : ∀ n, n ≤ 5 → n * 5 < (sizeAbove (n * 4) - 1) * 3 ∧ n ≤ sizeAbove (n * 4) - 1 := by
  intro n hn
  have : (List.range 6).all (fun n => decide (n * 5 < (sizeAbove (n * 4) - 1) * 3 ∧ n ≤ sizeAbove (n * 4) - 1)) = true := by decide +kernel
  exact of_decide_eq_true (List.all_eq_true.mp this n (List.mem_range.mpr (by omega)))
theorem size_room2 : ∀ n, n ≤ 5 → 21 ≤ n * 5 → n * 5 < (sizeAbove (n * 2) - 1) * 3 ∧ n ≤ sizeAbove (n * 2) - 1 := by
  intro n hn
  have : (List.range 6).all (fun n => decide (21 ≤ n * 5 → n * 5 < (sizeAbove (n * 2) - 1) * 3 ∧ n ≤ sizeAbove (n * 2) - 1)) = true := by decide +kernel
  exact of_decide_eq_true (List.all_eq_true.mp this n (List.mem_range.mpr (by omega)))


end
/-! Pool -/
section
open PySem PySem.W PyProof.Rows

def poolL : List Value := [.int 1 459, .bool true, .int 0 460, .bool false, .ref 243, .ref 244, .str (Str.ofString "a") 462, .ref 245, .ref 246]
def Pv (v : Value) : Prop := v ∈ poolL
def cl : Value → Nat
  | .int i _ => if i = 1 then 0 else 1
  | .bool b => if b then 0 else 1
  | .ref a => if a = 243 ∨ a = 244 then 2 else 4
  | .str _ _ => 3
  | _ => 5
def pd : Value → PyData
  | .int i _ => .int i
  | .bool b => .bool b
  | .ref a => if a = 243 then .tuple [.int 1] else if a = 244 then .tuple [.bool true] else if a = 245 then .tuple [.int 0, .int 1] else .tuple [.bool false, .bool true]
  | .str x _ => .str x
  | _ => .none
def wd : Value → WData
  | .int i _ => .int i
  | .bool b => .bool b
  | .ref a => if a = 243 then .tuple [.int 1] else if a = 244 then .tuple [.bool true] else if a = 245 then .tuple [.int 0, .int 1] else .tuple [.bool false, .bool true]
  | .str x _ => .str x
  | _ => .none
noncomputable def Hh (w : World) (v : Value) : Int := hashW w.params (wd v)

theorem Pv.cases {P : Value → Prop} (h0 : P (.int 1 459)) (h1 : P (.bool true)) (h2 : P (.int 0 460)) (h3 : P (.bool false)) (h4 : P (.ref 243)) (h5 : P (.ref 244)) (h6 : P (.str (Str.ofString "a") 462)) (h7 : P (.ref 245)) (h8 : P (.ref 246)) {v : Value} (h : Pv v) : P v := by
  simp only [Pv, poolL, List.mem_cons, List.not_mem_nil, or_false] at h
  rcases h with rfl | rfl | rfl | rfl | rfl | rfl | rfl | rfl | rfl <;> assumption

theorem cl_lt {v : Value} (h : Pv v) : cl v < 5 := by
  refine Pv.cases (P := fun v => cl v < 5) ?_ ?_ ?_ ?_ ?_ ?_ ?_ ?_ ?_ h <;> decide

theorem hr1 : reduceHash (intHash 1) = 1 := by decide +kernel
theorem hr0 : reduceHash (intHash 0) = 0 := by decide +kernel
def hkey (w : World) : Nat → Int
  | 0 => 1
  | 1 => 0
  | 2 => reduceHash (Builtin.Tuple.tupleHashOf [1])
  | 3 => PyData.keyHash w.params (Str.ofString "a")
  | _ => reduceHash (Builtin.Tuple.tupleHashOf [0, 1])
theorem hash_key {w : World} {x : Value} (hx : Pv x) : Hh w x = hkey w (cl x) := by
  refine Pv.cases (P := fun x => Hh w x = hkey w (cl x)) ?_ ?_ ?_ ?_ ?_ ?_ ?_ ?_ ?_ hx
  · exact hr1
  · rfl
  · exact hr0
  · rfl
  · show reduceHash (Builtin.Tuple.tupleHashOf [reduceHash (intHash 1)]) = _
    rw [hr1]; rfl
  · rfl
  · rfl
  · show reduceHash (Builtin.Tuple.tupleHashOf [reduceHash (intHash 0), reduceHash (intHash 1)]) = _
    rw [hr0, hr1]; rfl
  · rfl

theorem hash_same {w : World} {x y : Value} (hx : Pv x) (hy : Pv y) (h : cl x = cl y) : Hh w x = Hh w y := by
  rw [hash_key hx, hash_key hy, h]

theorem eqv_pool : (poolL.all fun x => poolL.all fun y => PyData.eqv (pd x) (pd y) == decide (cl x = cl y)) = true := by decide +kernel
theorem eqv_of {x y : Value} (hx : Pv x) (hy : Pv y) : PyData.eqv (pd x) (pd y) = decide (cl x = cl y) :=
  beq_iff_eq.mp (List.all_eq_true.mp (List.all_eq_true.mp eqv_pool x hx) y hy)
theorem canLay_pool : (poolL.all fun x => PyData.canLay0 (pd x) && PyData.layable0 (pd x) && decide ((pd x).depth ≤ 1)) = true := by decide +kernel
theorem canLay_of {x : Value} (hx : Pv x) : PyData.canLay0 (pd x) = true ∧ PyData.layable0 (pd x) = true ∧ (pd x).depth ≤ 1 := by
  have := List.all_eq_true.mp canLay_pool x hx
  simp only [Bool.and_eq_true, decide_eq_true_eq] at this
  exact ⟨this.1.1, this.1.2, this.2⟩

section
variable {w : World} {h : Heap} {A : Around} {E : Value → Shared → Prop} {s : Shared}
theorem at243 (X : (hd.heap_39 w.params).In h) : h.get? 243 = some { cls := .type "tuple", data := .seq #[.int 1 461] } := X _ _ rfl
theorem at244 (X : (hd.heap_39 w.params).In h) : h.get? 244 = some { cls := .type "tuple", data := .seq #[.bool true] } := X _ _ rfl
theorem at245 (X : (hd.heap_39 w.params).In h) : h.get? 245 = some { cls := .type "tuple", data := .seq #[.int 0 463, .int 1 464] } := X _ _ rfl
theorem at246 (X : (hd.heap_39 w.params).In h) : h.get? 246 = some { cls := .type "tuple", data := .seq #[.bool false, .bool true] } := X _ _ rfl

theorem reads_pool (X : (hd.heap_39 w.params).In h) {v : Value} (hv : Pv v) : Reads h v (pd v) [] := by
  refine Pv.cases (P := fun v => Reads h v (pd v) []) ?_ ?_ ?_ ?_ ?_ ?_ ?_ ?_ ?_ hv
  · exact .int 1 _
  · exact .bool true
  · exact .int 0 _
  · exact .bool false
  · exact .tuple (at243 X) rfl rfl (.cons (as := []) (bs := []) (.int 1 _) .nil)
  · exact .tuple (at244 X) rfl rfl (.cons (as := []) (bs := []) (.bool true) .nil)
  · exact .str _ _
  · exact .tuple (at245 X) rfl rfl (.cons (as := []) (bs := []) (.int 0 _) (.cons (as := []) (bs := []) (.int 1 _) .nil))
  · exact .tuple (at246 X) rfl rfl (.cons (as := []) (bs := []) (.bool false) (.cons (as := []) (bs := []) (.bool true) .nil))
theorem well_pool (X : (hd.heap_39 w.params).In h) {v : Value} (hv : Pv v) : Well w.params h v (wd v) := by
  refine Pv.cases (P := fun v => Well w.params h v (wd v)) ?_ ?_ ?_ ?_ ?_ ?_ ?_ ?_ ?_ hv
  · exact .int 1 _
  · exact .bool true
  · exact .int 0 _
  · exact .bool false
  · exact .tuple (vs := [.int 1 461]) (at243 X) (.cons (.int 1 _) .nil)
  · exact .tuple (vs := [.bool true]) (at244 X) (.cons (.bool true) .nil)
  · exact .str _ _
  · exact .tuple (vs := [.int 0 463, .int 1 464]) (at245 X) (.cons (.int 0 _) (.cons (.int 1 _) .nil))
  · exact .tuple (vs := [.bool false, .bool true]) (at246 X) (.cons (.bool false) (.cons (.bool true) .nil))

theorem eq_pool {x y : Value} {Q : Bool → Shared → Prop} (X : (hd.heap_39 w.params).In s.heap) (hx : Pv x) (hy : Pv y) (hu : A.units + 2 < cLine) (h : Q (decide (cl x = cl y)) s) :
    wpAny (model PR w) A (eqBool x y) Q E s := by
  have a := canLay_of hx
  have b := canLay_of hy
  refine PySem.SeqAt.eqBoolOverData PR w A E s x y (pd x) (pd y) [] [] Q (reads_pool X hx) (reads_pool X hy) a.1 b.1 (by omega) ?_
  rw [eqv_of hx hy]; exact h

theorem wd_pool : (poolL.all fun x => (wd x).isDKey && decide ((wd x).depth ≤ 2)) = true := by decide +kernel
theorem hash_pool {x : Value} {Q : Int → Shared → Prop} (X : (hd.heap_39 w.params).In s.heap) (hx : Pv x) (hu : A.units + 3 < cLine) (h : ∀ tk, Q (Hh w x) { s with toks := tk }) :
    wpAny (model PR w) A (pyHash x) Q E s := by
  have := List.all_eq_true.mp wd_pool x hx
  simp only [Bool.and_eq_true, decide_eq_true_eq] at this
  exact pyHash_laid (wd x) x A s Q this.1 (well_pool X hx) (by omega) h
end

theorem peekOn {w : World} {h : Heap} {α : Type} {t : Sem α} {r : α} (X : (hd.heap_39 w.params).In h) (e : peek (hd.heap_39 w.params) ⟨PR, w.params⟩ t = some r) : Looks (model PR w) h t r := Looks.of_peek X e
def plainP (v : Value) : Bool := match v with | .str _ _ => false | _ => true
theorem hbv_243 (w : World) : peek (hd.heap_39 w.params) ⟨PR, w.params⟩ (hashByValue 8 (.ref 243)) = some true := by kernel_rfl
theorem hbv_244 (w : World) : peek (hd.heap_39 w.params) ⟨PR, w.params⟩ (hashByValue 8 (.ref 244)) = some true := by kernel_rfl
theorem hbv_245 (w : World) : peek (hd.heap_39 w.params) ⟨PR, w.params⟩ (hashByValue 8 (.ref 245)) = some true := by kernel_rfl
theorem hbv_246 (w : World) : peek (hd.heap_39 w.params) ⟨PR, w.params⟩ (hashByValue 8 (.ref 246)) = some true := by kernel_rfl
theorem hbv_pool {w : World} {h : Heap} (X : (hd.heap_39 w.params).In h) {x : Value} (hx : Pv x) : Looks (model PR w) h (hashByValue 8 x) (plainP x) := by
  refine Pv.cases (P := fun x => Looks (model PR w) h (hashByValue 8 x) (plainP x)) ?_ ?_ ?_ ?_ ?_ ?_ ?_ ?_ ?_ hx
  · exact .now
  · exact .now
  · exact .now
  · exact .now
  · exact peekOn X (hbv_243 w)
  · exact peekOn X (hbv_244 w)
  · exact .now
  · exact peekOn X (hbv_245 w)
  · exact peekOn X (hbv_246 w)

theorem quiet_243 (w : World) : peek (hd.heap_39 w.params) ⟨PR, w.params⟩ (eqIsQuiet 8 (.ref 243)) = some true := by kernel_rfl
theorem quiet_244 (w : World) : peek (hd.heap_39 w.params) ⟨PR, w.params⟩ (eqIsQuiet 8 (.ref 244)) = some true := by kernel_rfl
theorem quiet_245 (w : World) : peek (hd.heap_39 w.params) ⟨PR, w.params⟩ (eqIsQuiet 8 (.ref 245)) = some true := by kernel_rfl
theorem quiet_246 (w : World) : peek (hd.heap_39 w.params) ⟨PR, w.params⟩ (eqIsQuiet 8 (.ref 246)) = some true := by kernel_rfl
theorem quiet_pool {w : World} {h : Heap} (X : (hd.heap_39 w.params).In h) {x : Value} (hx : Pv x) : Looks (model PR w) h (eqIsQuiet 8 x) true := by
  refine Pv.cases (P := fun x => Looks (model PR w) h (eqIsQuiet 8 x) true) ?_ ?_ ?_ ?_ ?_ ?_ ?_ ?_ ?_ hx
  · exact .now
  · exact .now
  · exact .now
  · exact .now
  · exact peekOn X (quiet_243 w)
  · exact peekOn X (quiet_244 w)
  · exact .now
  · exact peekOn X (quiet_245 w)
  · exact peekOn X (quiet_246 w)
theorem stat_243 (w : World) : peek (hd.heap_39 w.params) ⟨PR, w.params⟩ (ofAClassStatement 8 (.ref 243)) = some false := by kernel_rfl
theorem stat_244 (w : World) : peek (hd.heap_39 w.params) ⟨PR, w.params⟩ (ofAClassStatement 8 (.ref 244)) = some false := by kernel_rfl
theorem stat_245 (w : World) : peek (hd.heap_39 w.params) ⟨PR, w.params⟩ (ofAClassStatement 8 (.ref 245)) = some false := by kernel_rfl
theorem stat_246 (w : World) : peek (hd.heap_39 w.params) ⟨PR, w.params⟩ (ofAClassStatement 8 (.ref 246)) = some false := by kernel_rfl
theorem stat_pool {w : World} {h : Heap} (X : (hd.heap_39 w.params).In h) {x : Value} (hx : Pv x) : Looks (model PR w) h (ofAClassStatement 8 x) false := by
  refine Pv.cases (P := fun x => Looks (model PR w) h (ofAClassStatement 8 x) false) ?_ ?_ ?_ ?_ ?_ ?_ ?_ ?_ ?_ hx
  · exact .now
  · exact .now
  · exact .now
  · exact .now
  · exact peekOn X (stat_243 w)
  · exact peekOn X (stat_244 w)
  · exact .now
  · exact peekOn X (stat_245 w)
  · exact peekOn X (stat_246 w)
theorem same_pool {w : World} {h : Heap} {x : Value} (hx : Pv x) : Looks (model PR w) h (isSame x x) true := by
  have X0 : (hd.heap_39 w.params).In h → True := fun _ => trivial
  refine Pv.cases (P := fun x => Looks (model PR w) h (isSame x x) true) ?_ ?_ ?_ ?_ ?_ ?_ ?_ ?_ ?_ hx
  · exact Looks.of_peek (K := []) (fun _ _ e => nomatch e) (show peek [] ⟨PR, w.params⟩ (isSame (.int 1 459) (.int 1 459)) = some true by kernel_rfl)
  · exact .now
  · exact Looks.of_peek (K := []) (fun _ _ e => nomatch e) (show peek [] ⟨PR, w.params⟩ (isSame (.int 0 460) (.int 0 460)) = some true by kernel_rfl)
  · exact .now
  · exact .now
  · exact .now
  · exact Looks.of_peek (K := []) (fun _ _ e => nomatch e) (show peek [] ⟨PR, w.params⟩ (isSame (.str (Str.ofString "a") 462) (.str (Str.ofString "a") 462)) = some true by kernel_rfl)
  · exact .now
  · exact .now
theorem forIn_looks {M : Model} {h : Heap} {β γ : Type} {body : γ → β → Sem (ForInStep β)} {r : β} : ∀ (ys : List γ), (∀ y ∈ ys, Looks M h (body y r) (.yield r)) → Looks M h (forIn ys r body) r
  | [], _ => Looks.of_pure rfl
  | y :: ys, hb => by
    rw [List.forIn_cons]
    exact (hb y (.head _)).andThen (forIn_looks ys fun z hz => hb z (.tail _ hz))
theorem looks_ite {M : Model} {h : Heap} {α : Type} {c : Prop} [Decidable c] {a b : Sem α} {r : α} (ha : c → Looks M h a r) (hb : ¬ c → Looks M h b r) : Looks M h (if c then a else b) r := by
  by_cases q : c
  · rw [if_pos q]; exact ha q
  · rw [if_neg q]; exact hb q
theorem seen_pool {w : World} {h : Heap} (X : (hd.heap_39 w.params).In h) {x : Value} (hx : Pv x) (ys : List Value) (hy : ∀ y ∈ ys, Pv y) : Looks (model PR w) h (searchCouldBeSeen x ys) false := by
  unfold searchCouldBeSeen
  refine Looks.andThen (forIn_looks ys fun y hm => ?_) (Looks.of_pure rfl)
  have hy := hy y hm
  refine looks_ite (fun _ => Looks.of_pure rfl) fun _ => ?_
  refine Looks.andThen (quiet_pool X hx) ?_
  rw [if_neg (by decide)]
  refine Looks.andThen (quiet_pool X hy) ?_
  rw [if_neg (by decide)]
  refine Looks.andThen (stat_pool X hx) ?_
  rw [if_neg (by decide)]
  refine Looks.andThen (stat_pool X hy) ?_
  rw [if_neg (by decide)]
  exact Looks.of_pure rfl


end
/-! SetW -/
section
open PySem PySem.W PyProof.Rows

structure SetOK (w : World) (es : Array (Int × Value)) (t : SetTable) : Prop where
  sok : SOk t es
  room : Roomy t
  ent : ∀ e ∈ es, Pv e.2 ∧ e.1 = Hh w e.2
  uniq : (es.toList.map fun e => cl e.2).Nodup
  led : w.params.followText "set-order" = false → t.led = true

def memS (es : Array (Int × Value)) (x : Value) : Prop := ∃ e ∈ es, cl e.2 = cl x

theorem SetOK.size {w : World} {es : Array (Int × Value)} {t : SetTable} (S : SetOK w es t) : es.size ≤ 5 := by
  have hs : ∀ x ∈ es.toList.map (fun e => cl e.2), x ∈ List.range 5 := by
    intro x hx
    obtain ⟨e, he, rfl⟩ := List.mem_map.mp hx
    exact List.mem_range.mpr (cl_lt (S.ent e (Array.mem_toList_iff.mp he)).1)
  have := List.Nodup.length_le_of_subset S.uniq hs
  simpa using this
theorem SetOK.fits {w : World} {es : Array (Int × Value)} {t : SetTable} (S : SetOK w es t) : t.fits es.size = true := by
  unfold SetTable.fits
  have := S.sok.1.2.2.2.2.2.1
  simp [S.sok.2.1, this]
theorem SetOK.line {w : World} {es : Array (Int × Value)} {t : SetTable} (S : SetOK w es t) : es.size ≤ sizeLine := by
  have := S.size
  rw [sizeLine_eq]; omega
theorem SetOK.notGave {w : World} {es : Array (Int × Value)} {t : SetTable} (S : SetOK w es t) : t.gaveWay = false := by
  unfold SetTable.gaveWay
  rcases S.sok.1.2.2.2.2.2.2 with h | h | h <;> rw [h] <;> rfl

def stH (es : Array (Int × Value)) (i : Nat) : Int := (es[i]?.map (·.1)).getD 0
theorem stH_at {es : Array (Int × Value)} {i : Nat} {e : Int × Value} (h : es[i]? = some e) : stH es i = e.1 := by
  unfold stH; rw [h]; rfl

section
variable {w : World} {A : Around} {E : Value → Shared → Prop} {s : Shared} {a : Addr} {o : Obj} {es : Array (Int × Value)} {ep : Nat} {t : SetTable} {x : Value}

theorem search_from (X : (hd.heap_39 w.params).In s.heap) (ho : s.heap.get? a = some o) (hd : o.data = .set es ep t) (S : SetOK w es t) (hx : Pv x) (hu : A.units + 2 < cLine) (adding : Bool) {Ke : Nat}
    (hKe : t.slot (pj t.mask (Hh w x) Ke) = .empty) (hmin : ∀ k, k < Ke → t.slot (pj t.mask (Hh w x) k) ≠ .empty) (hKb : Ke < 10 * SetTable.turns t.mask) {Q : SetFound → Shared → Prop}
    (h1 : ∀ (i : Nat) (e : Int × Value), es[i]? = some e → cl e.2 = cl x → Q (.there (if adding then none else some i)) s)
    (h2 : (∀ e ∈ es, cl e.2 ≠ cl x) → ∀ (j : Nat) (b : Bool), (t.slot j = .empty ∧ b = false ∨ t.slot j = .dummy ∧ b = true) → Rch t (Hh w x) j → j ≤ t.mask → Q (.free j b) s) :
    ∀ (n fuel k : Nat) (d : Option Nat) (stand : Option SetTable.Probe), k + n = Ke → n < fuel → stand.getD (t.probeStart (Hh w x)) = { at_ t.mask (Hh w x) k with dummy := d } →
      (d = none ∨ ∃ k', k' < k ∧ t.slot (pj t.mask (Hh w x) k') = .dummy ∧ d = some (pj t.mask (Hh w x) k')) →
      (∀ (i : Nat) (e : Int × Value), es[i]? = some e → cl e.2 = cl x → ∃ k1, k ≤ k1 ∧ k1 < Ke ∧ t.place[i]? = some (pj t.mask (Hh w x) k1)) →
      wpAny (model PR w) A (setSearchFrom a x (Hh w x) adding fuel stand) Q E s := by
  intro n
  induction n using Nat.strongRecOn with
  | ind n ih =>
  intro fuel k d stand hk hfu hst hd' hahead
  obtain ⟨fuel, rfl⟩ : ∃ f, fuel = f + 1 := ⟨fuel - 1, by omega⟩
  have T := S.sok.1
  have hstop : Stops t (stH es) (Hh w x) (k + n) := .inl (by rw [hk]; exact hKe)
  obtain ⟨m, hm, hsm, hml⟩ := @first_of (fun m => Stops t (stH es) (Hh w x) (k + m)) (fun _ => Classical.propDecidable _) n hstop
  obtain ⟨d', hdd, hgo⟩ := go_ok t (stH es) (Hh w x) m (10 * SetTable.turns t.mask) k d (by omega) hsm hml
  unfold setSearchFrom
  refine wpAny_bind (wpAny_setState_of ho hd S.fits ?_)
  dsimp only
  rw [S.notGave]
  simp only [Bool.false_eq_true, ↓reduceIte]
  rw [hst]
  split
  case h_2 hq =>
    exfalso
    rcases hsm with q | ⟨i, q, _⟩
    · rw [q] at hgo; exact hq _ hgo
    · rw [q] at hgo; exact hq _ hgo
  case h_1 met hq =>
  have e := hgo.symm.trans hq
  rcases hsm with q | ⟨i, q, hi⟩
  · -- an empty place
    rw [q] at e
    cases e
    have hkm : k + m = Ke := by
      rcases Nat.lt_trichotomy (k + m) Ke with c | c | c
      · exact absurd q (hmin _ c)
      · exact c
      · omega
    have habs : ∀ e ∈ es, cl e.2 ≠ cl x := by
      intro e he hc
      obtain ⟨i, hi⟩ := Array.mem_iff_getElem?.mp he
      obtain ⟨k1, hk1, hk2, hp⟩ := hahead i e hi hc
      have hlive := (slot_live T).mpr hp
      have hS : Stops t (stH es) (Hh w x) (k + (k1 - k)) := by
        rw [show k + (k1 - k) = k1 by omega]
        have ⟨pe, he'⟩ := S.ent e he
        exact .inr ⟨i, hlive, by rw [stH_at hi, he', hash_same pe hx hc]⟩
      exact hml (k1 - k) (by omega) hS
    have hR : Rch t (Hh w x) (pj t.mask (Hh w x) (k + m)) := ⟨k + m, rfl, fun k' hk' => hmin k' (by omega)⟩
    dsimp only
    cases d' with
    | none => exact wpAny_pure (h2 habs _ _ (.inl ⟨q, rfl⟩) hR (pj_le _ _ _))
    | some dd =>
      have hdm : ∃ k', k' < k + m ∧ t.slot (pj t.mask (Hh w x) k') = .dummy ∧ dd = pj t.mask (Hh w x) k' := by
        rcases hdd with c | ⟨k', _, c2, c3, c4⟩
        · rcases hd' with c' | ⟨k', c1, c2, c3⟩
          · rw [c'] at c; cases c
          · rw [c3] at c; cases c; exact ⟨k', by omega, c2, rfl⟩
        · cases c4; exact ⟨k', c2, c3, rfl⟩
      obtain ⟨k', hk', hds, rfl⟩ := hdm
      dsimp only
      rw [if_neg (by rw [hds]; simp)]
      exact wpAny_pure (h2 habs _ _ (.inr ⟨hds, rfl⟩) ⟨k', rfl, fun k'' hk'' => hmin k'' (by omega)⟩ (pj_le _ _ _))
  · -- a candidate
    rw [q] at e
    cases e
    have hpl := (slot_live T).mp q
    have hil : i < es.size := by
      have := (Array.getElem?_eq_some_iff.mp hpl).1
      have := S.sok.2.1
      omega
    have hei : es[i]? = some es[i] := by simp [hil]
    have ⟨py, hy⟩ := S.ent _ (Array.mem_of_getElem? hei)
    have hseen : Looks (model PR w) s.heap (searchCouldBeSeen x ((es.filter (·.1 == Hh w x)).toList.map (·.2))) false := by
      refine seen_pool X hx _ fun y hy => ?_
      obtain ⟨e, he, rfl⟩ := List.mem_map.mp hy
      have he := (Array.mem_filter.mp (Array.mem_toList_iff.mp he)).1
      exact (S.ent e he).1
    have rest : wpAny (model PR w) A (do
        let some (_, y) := es[i]? | unsupported "internal:set-entry"
        let equal ← holding [y] (eqBool y x)
        let (es', _, t') ← setState a
        if adding && equal then return .there none
        let some same := t'.sameMemory t.moves t.mask | unsupported "set.changed-during-lookup:is-the-new-block-at-the-old-address"
        let still ← match (if same then t'.slot (pj t.mask (Hh w x) (k + m)) else .empty) with
          | .live i' => match es'[i']? with
            | some (_, y') => do pure (if ← isSame y' y then some i' else none)
            | none => pure none
          | _ => pure none
        match still with
        | none => rule "set.search.anew"; setSearchFrom a x (Hh w x) adding fuel none
        | some i' => if equal then return .there (some i') else setSearchFrom a x (Hh w x) adding fuel (some { at_ t.mask (Hh w x) (k + m + 1) with dummy := d' })) Q E s := by
      rw [hei]
      dsimp only
      refine wpAny_bind (wpAny_holding (eq_pool X py hx hu ?_))
      refine wpAny_bind (wpAny_setState_of ho hd S.fits ?_)
      dsimp only
      by_cases hc : cl es[i].2 = cl x
      · rw [decide_eq_true hc]
        cases adding with
        | true =>
          simp only [Bool.and_self, ↓reduceIte]
          exact wpAny_pure (h1 i _ hei hc)
        | false =>
          simp only [Bool.false_and, Bool.false_eq_true, ↓reduceIte]
          have hsm : t.sameMemory t.moves t.mask = some true := by simp [SetTable.sameMemory]
          rw [hsm]
          dsimp only
          rw [if_pos rfl, q]
          dsimp only
          rw [hei]
          dsimp only
          refine wpAny_bind ((same_pool py).here ?_)
          simp only [↓reduceIte]
          refine wpAny_bind (wpAny_pure ?_)
          exact wpAny_pure (h1 i _ hei hc)
      · rw [decide_eq_false hc]
        simp only [Bool.and_false, Bool.false_eq_true, ↓reduceIte]
        have hsm : t.sameMemory t.moves t.mask = some true := by simp [SetTable.sameMemory]
        rw [hsm]
        dsimp only
        rw [if_pos rfl, q]
        dsimp only
        rw [hei]
        dsimp only
        refine wpAny_bind ((same_pool py).here ?_)
        simp only [↓reduceIte]
        refine wpAny_bind (wpAny_pure ?_)
        dsimp only
        have hmn : m < n := by
          rcases Nat.lt_or_ge m n with c | c
          · exact c
          · exfalso
            have : k + m = Ke := by omega
            rw [← this] at hKe
            rw [q] at hKe; cases hKe
        refine ih (n - m - 1) (by omega) fuel (k + m + 1) d' _ (by omega) (by omega) rfl ?_ ?_
        · rcases hdd with c | ⟨k', _, c2, c3, c4⟩
          · rcases hd' with c' | ⟨k', c1, c2, c3⟩
            · exact .inl (c.trans c')
            · exact .inr ⟨k', by omega, c2, c.trans c3⟩
          · exact .inr ⟨k', by omega, c3, c4⟩
        · intro i' e' hi' hc'
          obtain ⟨k1, hk1, hk2, hp⟩ := hahead i' e' hi' hc'
          refine ⟨k1, ?_, hk2, hp⟩
          have hlive := (slot_live T).mpr hp
          rcases Nat.lt_trichotomy k1 (k + m) with c | c | c
          · exfalso
            have hS : Stops t (stH es) (Hh w x) (k + (k1 - k)) := by
              rw [show k + (k1 - k) = k1 by omega]
              have ⟨pe, he'⟩ := S.ent e' (Array.mem_of_getElem? hi')
              exact .inr ⟨i', hlive, by rw [stH_at hi', he', hash_same pe hx hc']⟩
            exact hml (k1 - k) (by omega) hS
          · exfalso
            subst c
            rw [q] at hlive
            cases hlive
            rw [hei] at hi'
            cases hi'
            exact hc hc'
          · omega
    dsimp only
    cases hl : t.led with
    | true =>
      simp only [Bool.not_true, Bool.false_eq_true, ↓reduceIte]
      exact rest
    | false =>
      simp only [Bool.not_false, ↓reduceIte]
      refine wpAny_bind (hseen.here ?_)
      simp only [Bool.false_eq_true, ↓reduceIte]
      exact rest

/-- the search in a set in order -/
theorem search_ok (X : (hd.heap_39 w.params).In s.heap) (ho : s.heap.get? a = some o) (hd : o.data = .set es ep t) (S : SetOK w es t) (hx : Pv x) (hu : A.units + 2 < cLine) (adding : Bool) {Q : SetFound → Shared → Prop}
    (h1 : ∀ (i : Nat) (e : Int × Value), es[i]? = some e → cl e.2 = cl x → Q (.there (if adding then none else some i)) s)
    (h2 : (∀ e ∈ es, cl e.2 ≠ cl x) → ∀ (j : Nat) (b : Bool), (t.slot j = .empty ∧ b = false ∨ t.slot j = .dummy ∧ b = true) → Rch t (Hh w x) j → j ≤ t.mask → Q (.free j b) s) :
    wpAny (model PR w) A (setSearch a x (Hh w x) adding) Q E s := by
  have T := S.sok.1
  obtain ⟨j0, hj0, he0⟩ := some_empty T
  obtain ⟨k0, hk0, hp0⟩ := cover T.2.2.2.2.2.2 (Hh w x) hj0
  obtain ⟨Ke, hK, hKe, hmin⟩ := @first_of (fun k => t.slot (pj t.mask (Hh w x) k) = .empty) (fun _ => Classical.propDecidable _) k0 (by rw [hp0]; exact he0)
  have hb : 10 * SetTable.turns t.mask ≤ 460 := by
    rcases T.2.2.2.2.2.2 with q | q | q <;> rw [q] <;> decide
  refine search_from X ho hd S hx hu adding hKe hmin (by omega) h1 h2 Ke 100000 0 none none (by omega) (by omega) ?_ (.inl rfl) ?_
  · rfl
  · intro i e hi hc
    have hil : i < t.place.size := by
      have := (Array.getElem?_eq_some_iff.mp hi).1
      have := S.sok.2.1
      omega
    have hpl : t.place[i]? = some t.place[i] := by simp [hil]
    obtain ⟨k1, e1, f1⟩ := S.sok.2.2 i _ e hpl hi
    have ⟨pe, he'⟩ := S.ent e (Array.mem_of_getElem? hi)
    have hh : e.1 = Hh w x := by rw [he', hash_same pe hx hc]
    rw [hh] at e1 f1
    refine ⟨k1, Nat.zero_le _, ?_, by rw [e1]; exact hpl⟩
    rcases Nat.lt_or_ge k1 Ke with c | c
    · exact c
    · exfalso
      rcases Nat.lt_or_ge Ke k1 with c' | c'
      · exact f1 Ke c' hKe
      · have : k1 = Ke := by omega
        subst this
        rw [e1] at hKe
        have := (slot_live T).mpr hpl
        rw [this] at hKe; cases hKe
end

end
/-! SetW2 -/
section
open PySem PySem.W PyProof.Rows

theorem insertAt_perm {α : Type} (xs : Array α) (p : Nat) (x : α) : (SetTable.insertAt xs p x).toList.Perm (x :: xs.toList) := by
  unfold SetTable.insertAt
  simp only [Array.toList_append, Array.toList_push, Array.toList_extract, List.extract_eq_take_drop]
  rw [List.append_assoc, List.singleton_append]
  refine List.perm_middle.trans (List.Perm.cons _ ?_)
  simp only [List.drop_zero, Nat.sub_zero]
  have : (xs.toList.drop p).take (xs.size - p) = xs.toList.drop p := by
    apply List.take_of_length_le
    simp
  rw [this, List.take_append_drop]
theorem eraseAt_perm {α : Type} (xs : Array α) (p : Nat) (hp : p < xs.size) : xs.toList.Perm (xs[p] :: (SetTable.eraseAt xs p).toList) := by
  unfold SetTable.eraseAt
  simp only [Array.toList_append, Array.toList_extract, List.extract_eq_take_drop, List.drop_zero, Nat.sub_zero]
  have h1 : (xs.toList.drop (p + 1)).take (xs.size - (p + 1)) = xs.toList.drop (p + 1) := by
    apply List.take_of_length_le
    simp
  rw [h1]
  have h2 : xs.toList = xs.toList.take p ++ xs[p] :: xs.toList.drop (p + 1) := by
    have hl : p < xs.toList.length := by simpa using hp
    have : xs[p] = xs.toList[p] := by simp
    rw [this, ← List.drop_eq_getElem_cons hl, List.take_append_drop]
  exact (List.Perm.of_eq h2).trans List.perm_middle

theorem memS_perm {es es' : Array (Int × Value)} (h : es'.toList.Perm es.toList) (x : Value) : memS es' x ↔ memS es x := by
  unfold memS
  constructor
  · rintro ⟨e, he, c⟩; exact ⟨e, Array.mem_toList_iff.mp (h.mem_iff.mp (Array.mem_toList_iff.mpr he)), c⟩
  · rintro ⟨e, he, c⟩; exact ⟨e, Array.mem_toList_iff.mp (h.mem_iff.mpr (Array.mem_toList_iff.mpr he)), c⟩
theorem memS_cons {es es' : Array (Int × Value)} {e : Int × Value} (h : es'.toList.Perm (e :: es.toList)) (x : Value) : memS es' x ↔ (cl e.2 = cl x ∨ memS es x) := by
  unfold memS
  constructor
  · rintro ⟨f, hf, c⟩
    rcases List.mem_cons.mp (h.mem_iff.mp (Array.mem_toList_iff.mpr hf)) with rfl | q
    · exact .inl c
    · exact .inr ⟨f, Array.mem_toList_iff.mp q, c⟩
  · rintro (c | ⟨f, hf, c⟩)
    · exact ⟨e, Array.mem_toList_iff.mp (h.mem_iff.mpr (.head _)), c⟩
    · exact ⟨f, Array.mem_toList_iff.mp (h.mem_iff.mpr (.tail _ (Array.mem_toList_iff.mpr hf))), c⟩

/-- all of SetOK but the room -/
structure SetPre (w : World) (es : Array (Int × Value)) (t : SetTable) : Prop where
  sok : SOk t es
  ent : ∀ e ∈ es, Pv e.2 ∧ e.1 = Hh w e.2
  uniq : (es.toList.map fun e => cl e.2).Nodup
  led : w.params.followText "set-order" = false → t.led = true
theorem SetOK.pre {w es t} (S : SetOK w es t) : SetPre w es t := ⟨S.sok, S.ent, S.uniq, S.led⟩
theorem SetPre.ok {w es t} (S : SetPre w es t) (r : Roomy t) : SetOK w es t := ⟨S.sok, r, S.ent, S.uniq, S.led⟩
theorem SetPre.size {w es t} (S : SetPre w es t) : es.size ≤ 5 := by
  have hs : ∀ x ∈ es.toList.map (fun e => cl e.2), x ∈ List.range 5 := by
    intro x hx
    obtain ⟨e, he, rfl⟩ := List.mem_map.mp hx
    exact List.mem_range.mpr (cl_lt (S.ent e (Array.mem_toList_iff.mp he)).1)
  have := List.Nodup.length_le_of_subset S.uniq hs
  simpa using this
theorem SetPre.fits {w es t} (S : SetPre w es t) : t.fits es.size = true := by
  unfold SetTable.fits
  have := S.sok.1.2.2.2.2.2.1
  simp [S.sok.2.1, this]
theorem SetPre.marks {w es t t'} (S : SetPre w es t) (hp : t'.place = t.place) (hd : t'.dummies = t.dummies) (hm : t'.mask = t.mask) (hl : w.params.followText "set-order" = false → t'.led = true) : SetPre w es t' :=
  ⟨S.sok.marks hp hd hm, S.ent, S.uniq, hl⟩
theorem Roomy.marks {t t' : SetTable} (h : Roomy t) (hp : t'.place = t.place) (hd : t'.dummies = t.dummies) (hm : t'.mask = t.mask) : Roomy t' := by
  unfold Roomy SetTable.fill at *; rw [hp, hd, hm]; exact h

/-- what a free place gives -/
theorem put_pre {w : World} {es : Array (Int × Value)} {t : SetTable} {x : Value} {j : Nat} {b : Bool} (S : SetOK w es t) (hx : Pv x) (hn : ∀ e ∈ es, cl e.2 ≠ cl x) (hj : t.slot j = .empty ∧ b = false ∨ t.slot j = .dummy ∧ b = true)
    (hr : Rch t (Hh w x) j) (hm : j ≤ t.mask) (pl : Bool) :
    SetPre w (SetTable.insertAt es (t.put j).2 (Hh w x, x)) { (t.put j).1 with plain := pl } ∧ (SetTable.insertAt es (t.put j).2 (Hh w x, x)).toList.Perm ((Hh w x, x) :: es.toList) ∧
      (b = true → Roomy { (t.put j).1 with plain := pl }) := by
  have T := S.sok.1
  have hnp : j ∉ t.place := by
    intro h
    obtain ⟨i, hi⟩ := Array.mem_iff_getElem?.mp h
    have := (slot_live T).mpr hi
    rcases hj with ⟨e, _⟩ | ⟨e, _⟩ <;> rw [this] at e <;> cases e
  have P := insertAt_perm es (t.put j).2 (Hh w x, x)
  have hput := put_ok T hm hnp S.room.grow
  refine ⟨⟨(put_sok S.sok hm hnp S.room.grow hr).marks rfl rfl rfl, ?_, ?_, S.led⟩, P, ?_⟩
  · intro e he
    rcases List.mem_cons.mp (P.mem_iff.mp (Array.mem_toList_iff.mpr he)) with rfl | q
    · exact ⟨hx, rfl⟩
    · exact S.ent e (Array.mem_toList_iff.mp q)
  · rw [(P.map fun e => cl e.2).nodup_iff, List.map_cons, List.nodup_cons]
    refine ⟨fun q => ?_, S.uniq⟩
    obtain ⟨e, he, c⟩ := List.mem_map.mp q
    exact hn e (Array.mem_toList_iff.mp he) c
  · intro hb
    refine Roomy.marks (t := (t.put j).1) ?_ rfl rfl rfl
    subst hb
    rcases hj with ⟨_, e⟩ | ⟨e, _⟩
    · cases e
    · have hd := (slot_dummy T).mp e
      unfold Roomy
      rw [hput.2.2, if_pos ((has_iff T.2.1 j).mpr hd)]
      exact S.room

theorem not_full {t : SetTable} (h : t.tooFull = false) : Roomy t := by
  unfold SetTable.tooFull at h
  unfold Roomy
  have := of_decide_eq_false h
  omega

/-- laid anew -/
theorem relaid_ok {w : World} {es : Array (Int × Value)} {t : SetTable} (S : SetPre w es t) {k : Nat} (hk : k = 4 ∨ (k = 2 ∧ 21 ≤ es.size * 5)) :
    ∃ t' order, t.relaid (es.map (·.1)) (es.size * k) = some (t', order) ∧ coversAll order es.size = true ∧ (order.filterMap (es[·]?)).size = es.size ∧ (order.filterMap (es[·]?)).toList.Perm es.toList ∧
      SetOK w (order.filterMap (es[·]?)) t' ∧ t'.fill = es.size ∧ t'.dummies = #[] := by
  have h5 := S.size
  have hm : SetTable.sizeAbove (es.size * k) - 1 = 7 ∨ SetTable.sizeAbove (es.size * k) - 1 = 15 ∨ SetTable.sizeAbove (es.size * k) - 1 = 31 := by
    refine size_above _ ?_
    rcases hk with rfl | ⟨rfl, _⟩ <;> omega
  have hr : es.size * 5 < (SetTable.sizeAbove (es.size * k) - 1) * 3 ∧ es.size ≤ SetTable.sizeAbove (es.size * k) - 1 := by
    rcases hk with rfl | ⟨rfl, hh⟩
    · exact size_roomy _ h5
    · exact size_room2 _ h5 hh
  obtain ⟨t', order, e, hc, hmk, hf, hs, hsz, hme, hp, hl, hpl, _, _⟩ := laid_ok hm es hr.2 t.finger (t.movedTo (SetTable.sizeAbove (es.size * k) - 1)) t.led t.plain
  have hdum : t'.dummies = #[] := by
    have h1 : t'.place.size = es.size := by rw [hs.2.1, hsz]
    have h2 : t'.place.size + t'.dummies.size = es.size := hf
    have : t'.dummies.size = 0 := by omega
    exact Array.eq_empty_of_size_eq_zero this
  refine ⟨t', order, e, hc, hsz, hp, ⟨hs, ?_, ?_, ?_, ?_⟩, hf, hdum⟩
  · unfold Roomy; rw [hf, hmk]; exact hr.1
  · intro x hx; exact S.ent x ((hme x).mp hx)
  · rw [(hp.map fun e => cl e.2).nodup_iff]; exact S.uniq
  · rw [hl]; exact S.led

section
variable {w : World} {A : Around} {E : Value → Shared → Prop} {s : Shared} {a : Addr} {o : Obj} {es : Array (Int × Value)} {ep : Nat} {t : SetTable} {x : Value}

theorem scan_from (X : (hd.heap_39 w.params).In s.heap) (ho : s.heap.get? a = some o) (hd : o.data = .set es ep t) (hf : t.fits es.size = true) (hx : Pv x) (hu : A.units + 2 < cLine) {adding : Bool} :
    ∀ (l : List (Int × Value)) (i : Nat) {Q : ScanMet → Shared → Prop}, (∀ e ∈ l, Pv e.2 ∧ e.1 = Hh w e.2) →
      Q (match l.findIdx? (fun e => decide (cl e.2 = cl x)) with | some j => .found (i + j) | none => .absent) s →
      wpAny (model PR w) A (setScanFrom a x (Hh w x) adding l i) Q E s := by
  intro l
  induction l with
  | nil => intro i Q _ h; unfold setScanFrom; exact wpAny_pure h
  | cons e rest ih =>
    intro i Q hl h
    obtain ⟨pe, hh⟩ := hl e (.head _)
    have hl' := fun e' he' => hl e' (.tail _ he')
    obtain ⟨h', y⟩ := e
    dsimp only at pe hh
    subst hh
    unfold setScanFrom
    have hnext : ¬ cl y = cl x → wpAny (model PR w) A (setScanFrom a x (Hh w x) adding rest (i + 1)) Q E s := by
      intro hc
      refine ih (i + 1) hl' ?_
      rw [List.findIdx?_cons, decide_eq_false hc] at h
      simp only [Bool.false_eq_true, ↓reduceIte] at h
      cases hr : List.findIdx? (fun e => decide (cl e.2 = cl x)) rest with
      | none => rw [hr] at h; simpa using h
      | some j => rw [hr] at h; simpa [Nat.add_assoc, Nat.add_comm 1 j] using h
    by_cases hq : Hh w y == Hh w x
    · rw [if_pos hq]
      refine wpAny_bind (wpAny_setEpoch_of ho hd hf ?_)
      refine wpAny_bind (eq_pool X pe hx hu ?_)
      by_cases hc : cl y = cl x
      · rw [List.findIdx?_cons, decide_eq_true hc] at h
        simp only [↓reduceIte, Nat.add_zero] at h
        rw [decide_eq_true hc]
        cases adding
        · simp only [Bool.false_and, Bool.false_eq_true, ↓reduceIte]
          refine wpAny_bind (wpAny_setEpoch_of ho hd hf ?_)
          simp only [bne_self_eq_false, Bool.false_eq_true, ↓reduceIte]
          exact wpAny_pure h
        · simp only [Bool.and_self, ↓reduceIte]
          exact wpAny_pure h
      · rw [decide_eq_false hc]
        simp only [Bool.and_false, Bool.false_eq_true, ↓reduceIte]
        refine wpAny_bind (wpAny_setEpoch_of ho hd hf ?_)
        simp only [bne_self_eq_false, Bool.false_eq_true, ↓reduceIte]
        exact hnext hc
    · rw [if_neg hq]
      exact hnext fun hc => hq (beq_iff_eq.mpr (hash_same pe hx hc))

theorem isStr_pool {y : Value} (hy : Pv y) : y.isStr (Str.ofString "a") = decide (cl y = 3) := by
  refine Pv.cases (P := fun y => y.isStr (Str.ofString "a") = decide (cl y = 3)) ?_ ?_ ?_ ?_ ?_ ?_ ?_ ?_ ?_ hy <;> decide +kernel

theorem scan_ok (X : (hd.heap_39 w.params).In s.heap) (ho : s.heap.get? a = some o) (hd : o.data = .set es ep t) (S : SetOK w es t) (hx : Pv x) (hu : A.units + 2 < cLine) {adding : Bool} {Q : ScanMet → Shared → Prop}
    (h1 : ∀ (i : Nat) (e : Int × Value), es[i]? = some e → cl e.2 = cl x → Q (.found i) s)
    (h2 : (∀ e ∈ es, cl e.2 ≠ cl x) → Q .absent s) :
    wpAny (model PR w) A (setScan a x (Hh w x) adding es) Q E s := by
  have hQ : Q (match es.toList.findIdx? (fun e => decide (cl e.2 = cl x)) with | some j => .found (0 + j) | none => .absent) s := by
    cases hr : es.toList.findIdx? (fun e => decide (cl e.2 = cl x)) with
    | none =>
      refine h2 fun e he hc => ?_
      have := List.findIdx?_eq_none_iff.mp hr e (Array.mem_toList_iff.mpr he)
      rw [decide_eq_true hc] at this; cases this
    | some j =>
      obtain ⟨hj, hpj, _⟩ := List.findIdx?_eq_some_iff_getElem.mp hr
      dsimp only
      rw [Nat.zero_add]
      refine h1 j es.toList[j] ?_ (of_decide_eq_true hpj)
      rw [← Array.getElem?_toList]; exact List.getElem?_eq_getElem hj
  have old : wpAny (model PR w) A (setScanFrom a x (Hh w x) adding es.toList 0) Q E s := scan_from X ho hd S.fits hx hu es.toList 0 (fun e he => S.ent e (Array.mem_toList_iff.mp he)) hQ
  unfold setScan
  split
  · rename_i s' tk
    split
    · have hs : s' = Str.ofString "a" := by
        simp only [Pv, poolL, List.mem_cons, List.not_mem_nil, or_false] at hx
        rcases hx with e | e | e | e | e | e | e | e | e <;> cases e
        rfl
      subst hs
      unfold setScanStrs
      have hall : ∀ e ∈ es, e.2.isStr (Str.ofString "a") = decide (cl e.2 = 3) := fun e he => isStr_pool (S.ent e he).1
      cases hr : es.findIdx? (fun e => e.2.isStr (Str.ofString "a")) with
      | none =>
        refine wpAny_pure (h2 fun e he hc => ?_)
        have := Array.findIdx?_eq_none_iff.mp hr e he
        rw [hall e he, decide_eq_true (show cl e.2 = 3 from hc)] at this; cases this
      | some j =>
        have hj : j < es.size := Array.findIdx?_eq_some_iff_getElem.mp hr |>.1
        have hp := (Array.findIdx?_eq_some_iff_getElem.mp hr).2.1
        have hg : es[j]? = some (es[j].1, es[j].2) := by simp [hj]
        have hmem : es[j] ∈ es := Array.getElem_mem hj
        have hc : cl es[j].2 = 3 := by
          rw [hall _ hmem] at hp; exact of_decide_eq_true hp
        have hq := h1 j es[j] hg hc
        dsimp only
        rw [hg]
        dsimp only
        refine wpAny_bind (wpAny_setEpoch_of ho hd S.fits ?_)
        refine wpAny_bind (eq_pool X (S.ent _ hmem).1 hx hu ?_)
        rw [decide_eq_true (show cl es[j].2 = cl (.str (Str.ofString "a") tk) from hc)]
        cases adding
        · simp only [Bool.false_and, Bool.false_eq_true, ↓reduceIte]
          refine wpAny_bind (wpAny_setEpoch_of ho hd S.fits ?_)
          simp only [bne_self_eq_false, Bool.false_eq_true, ↓reduceIte]
          exact wpAny_pure hq
        · simp only [Bool.and_self, ↓reduceIte]
          exact wpAny_pure hq
    · exact old
  · exact old
end

end
/-! SetW3 -/
section
open PySem PySem.W PyProof.Rows

section
variable {w : World} {A : Around} {E : Value → Shared → Prop} {s : Shared} {a : Addr} {o : Obj} {es : Array (Int × Value)} {ep : Nat} {t : SetTable} {x : Value}

theorem find_ok (X : (hd.heap_39 w.params).In s.heap) (ho : s.heap.get? a = some o) (hd : o.data = .set es ep t) (S : SetOK w es t) (hx : Pv x) (hu : A.units + 2 < cLine) {Q : Option Nat → Shared → Prop}
    (h1 : ∀ (i : Nat) (e : Int × Value), es[i]? = some e → cl e.2 = cl x → Q (some i) s) (h2 : (∀ e ∈ es, cl e.2 ≠ cl x) → Q none s) : wpAny (model PR w) A (setFind a x (Hh w x)) Q E s := by
  unfold setFind setFindIn
  refine wpAny_bind (wpAny_setState_of ho hd S.fits ?_)
  dsimp only
  split
  · refine wpAny_bind (wpAny_rule ?_)
    refine wpAny_bind (scan_ok X ho hd S hx hu (fun i e hi hc => ?_) fun hn => ?_)
    · exact wpAny_pure (h1 i e hi hc)
    · exact wpAny_pure (h2 hn)
  · refine wpAny_bind (search_ok X ho hd S hx hu false (fun i e hi hc => ?_) fun hn j b hj hr hm => ?_)
    · exact wpAny_pure (h1 i e hi hc)
    · exact wpAny_pure (h2 hn)

theorem mem_cases (es : Array (Int × Value)) (x : Value) : memS es x ∨ ∀ e ∈ es, cl e.2 ≠ cl x := by
  by_cases q : memS es x
  · exact .inl q
  · exact .inr fun e he hc => q ⟨e, he, hc⟩

/-- is it there -/
theorem find_bool (X : (hd.heap_39 w.params).In s.heap) (ho : s.heap.get? a = some o) (hd : o.data = .set es ep t) (S : SetOK w es t) (hx : Pv x) (hu : A.units + 2 < cLine) {Q : Option Nat → Shared → Prop}
    (h : ∀ r : Option Nat, (r.isSome = true ↔ memS es x) → Q r s) : wpAny (model PR w) A (setFind a x (Hh w x)) Q E s :=
  find_ok X ho hd S hx hu (fun i e hi hc => h _ ⟨fun _ => ⟨e, Array.mem_of_getElem? hi, hc⟩, fun _ => rfl⟩) fun hn => h _ ⟨fun q => (nomatch q), fun ⟨e, he, hc⟩ => absurd hc (hn e he)⟩

theorem freeSlot_ok (S : SetOK w es t) : ∃ j b, t.freeSlot (Hh w x) = some (j, b) ∧ (t.slot j = .empty ∧ b = false ∨ t.slot j = .dummy ∧ b = true) ∧ Rch t (Hh w x) j ∧ j ≤ t.mask := by
  have T := S.sok.1
  obtain ⟨j0, hj0, he0⟩ := some_empty T
  obtain ⟨k0, hk0, hp0⟩ := cover T.2.2.2.2.2.2 (Hh w x) hj0
  obtain ⟨Ke, hK, hKe, hmin⟩ := @first_of (fun k => t.slot (pj t.mask (Hh w x) k) = .empty) (fun _ => Classical.propDecidable _) k0 (by rw [hp0]; exact he0)
  have hno : ∀ m, m < Ke → ¬ Stops t (fun _ => Hh w x + 1) (Hh w x) (0 + m) := by
    intro m hm q
    rw [Nat.zero_add] at q
    rcases q with q | ⟨i, _, q⟩
    · exact hmin m hm q
    · have q : Hh w x + 1 = Hh w x := q
      omega
  obtain ⟨d', hd, hgo⟩ := go_ok t (fun _ => Hh w x + 1) (Hh w x) Ke (10 * SetTable.turns t.mask) 0 none (by omega) (by rw [Nat.zero_add]; exact .inl hKe) hno
  have hgo' : t.probe (fun _ => Hh w x + 1) (Hh w x) (t.probeStart (Hh w x)) = some (.empty (pj t.mask (Hh w x) Ke) d') := by
    rw [Nat.zero_add, hKe] at hgo
    exact hgo
  refine ⟨d'.getD (pj t.mask (Hh w x) Ke), d'.isSome, ?_, ?_⟩
  · unfold SetTable.freeSlot
    rw [hgo']
  · rcases hd with rfl | ⟨k', _, h2, h3, rfl⟩
    · exact ⟨.inl ⟨hKe, rfl⟩, ⟨Ke, rfl, hmin⟩, pj_le _ _ _⟩
    · exact ⟨.inr ⟨h3, rfl⟩, ⟨k', rfl, fun k'' hk'' => hmin k'' (by omega)⟩, pj_le _ _ _⟩

theorem setPut (o : Obj) (es es' : Array (Int × Value)) (ep : Nat) (t t' : SetTable) (hd : o.data = .set es ep t) : Obj.putSet es' t' o = { o with data := .set es' (ep + 1) t' } := putSet_of es' t' hd

theorem upd_get {h : Heap} {a : Addr} {o : Obj} {es es' : Array (Int × Value)} {ep : Nat} {t t' : SetTable} (ho : h.get? a = some o) (hd : o.data = .set es ep t) :
    (h.update a (Obj.putSet es' t')).get? a = some { o with data := .set es' (ep + 1) t' } := by
  rw [← putSet_of es' t' hd]
  refine Heap.get?_update_self _ ho ?_
  rw [putSet_of es' t' hd]; rfl

/-- what a store of an added thing gives -/
def Added (w : World) (a : Addr) (o : Obj) (es : Array (Int × Value)) (x : Value) (h h' : Heap) : Prop :=
  ∃ es' ep' t', Heap.SameBut a h h' ∧ h'.get? a = some { o with data := .set es' ep' t' } ∧ SetOK w es' t' ∧ es'.toList.Perm ((Hh w x, x) :: es.toList)

theorem Added.of_two {h h1 : Heap} {es1 es2 : Array (Int × Value)} {ep1 : Nat} {t1 t2 : SetTable} (hs : Heap.SameBut a h h1) (h1g : h1.get? a = some { o with data := .set es1 ep1 t1 }) (S2 : SetOK w es2 t2)
    (hp : es2.toList.Perm ((Hh w x, x) :: es.toList)) : Added w a o es x h (h1.update a (Obj.putSet es2 t2)) :=
  ⟨es2, ep1 + 1, t2, hs.trans (Heap.SameBut.update ..), upd_get (o := { o with data := .set es1 ep1 t1 }) h1g rfl, S2, hp⟩

theorem reord_of {f : Array (Int × Value) → Option (SetTable × Array Nat) → Sem (Array (Int × Value) × SetTable)}
    (hf : f = fun es laid => do
      let some (t, order) := laid | unsupported "internal:set-table-without-room"
      let es' := order.filterMap (es[·]?)
      if es'.size != es.size then unsupported "internal:set-table-lost-an-element"
      pure (es', t)) {es : Array (Int × Value)} {t' : SetTable} {order : Array Nat} (h : (order.filterMap (es[·]?)).size = es.size) : f es (some (t', order)) = pure (order.filterMap (es[·]?), t') := by
  subst hf
  dsimp only
  rw [if_neg (by simp [h])]
theorem grown_is {n : Nat} (h : n ≤ 5) : SetTable.grown n = n * 4 := by
  unfold SetTable.grown
  rw [if_neg (by omega)]

theorem add_tail {g : Bool → Sem Unit} (hg : g false = pure ()) {es1 : Array (Int × Value)} {t2 : SetTable} {b : Bool} {Q : Option Bool → Shared → Prop} (ho : s.heap.get? a = some o) (hd : o.data = .set es ep t)
    (P : SetPre w es1 t2) (hb : b = true → Roomy t2) (hp : es1.toList.Perm ((Hh w x, x) :: es.toList)) (h : ∀ h', Added w a o es x s.heap h' → Q (some true) { s with heap := h' }) :
    wpAny (model PR w) A (do
      storeSet a es1 t2
      if !b && t2.tooFull then
        let (es, t, gave) := relayAll t2 es1 (SetTable.grown es1.size)
        g gave
        storeSet a es t
      return some true) Q E s := by
  have hl : es1.size ≤ sizeLine := by have := P.size; rw [sizeLine_eq]; omega
  refine wpAny_bind (wpAny_storeSet_of ho hd ?_ hl)
  have hg1 : (s.heap.update a (Obj.putSet es1 t2)).get? a = some { o with data := .set es1 (ep + 1) t2 } := upd_get ho hd
  by_cases hf : (!b && t2.tooFull) = true
  · rw [if_pos hf]
    obtain ⟨t', order, e1, e2, e3, e4, S', _⟩ := relaid_ok P (k := 4) (.inl rfl)
    have hr : relayAll t2 es1 (SetTable.grown es1.size) = (order.filterMap (es1[·]?), t', false) := by
      unfold relayAll
      rw [grown_is P.size, e1]
      dsimp only
      rw [if_pos]
      rw [e2, S'.fits]; rfl
    rw [hr]
    dsimp only
    rw [hg]
    refine wpAny_bind (wpAny_pure ?_)
    refine wpAny_bind (wpAny_storeSet_of (o := { o with data := .set es1 (ep + 1) t2 }) hg1 rfl ?_ (by have := S'.line; exact this))
    exact wpAny_pure (h _ (Added.of_two (Heap.SameBut.update ..) hg1 S' (e4.trans hp)))
  · rw [if_neg hf]
    have hr : Roomy t2 := by
      cases b with
      | true => exact hb rfl
      | false =>
        refine not_full ?_
        simpa using hf
    exact wpAny_pure (h _ ⟨es1, ep + 1, t2, Heap.SameBut.update .., hg1, P.ok hr, hp⟩)

theorem add_tail2 {es1 : Array (Int × Value)} {t2 : SetTable} {b : Bool} {n : Nat} {Q : Bool → Shared → Prop} (ho : s.heap.get? a = some o) (hd : o.data = .set es ep t)
    (P : SetPre w es1 t2) (hb : b = true → Roomy t2) (hp : es1.toList.Perm ((Hh w x, x) :: es.toList)) (hn : n = es1.size) (h : ∀ h', Added w a o es x s.heap h' → Q true { s with heap := h' }) :
    wpAny (model PR w) A (do
      storeSet a es1 t2
      if !b && t2.tooFull then setRelay a (SetTable.grown n)
      return true) Q E s := by
  subst hn
  have hl : es1.size ≤ sizeLine := by have := P.size; rw [sizeLine_eq]; omega
  refine wpAny_bind (wpAny_storeSet_of ho hd ?_ hl)
  have hg1 : (s.heap.update a (Obj.putSet es1 t2)).get? a = some { o with data := .set es1 (ep + 1) t2 } := upd_get ho hd
  by_cases hf : (!b && t2.tooFull) = true
  · rw [if_pos hf]
    obtain ⟨t', order, e1, e2, e3, e4, S', _⟩ := relaid_ok P (k := 4) (.inl rfl)
    refine wpAny_bind ?_
    unfold setRelay
    refine wpAny_bind (wpAny_setState_of (o := { o with data := .set es1 (ep + 1) t2 }) hg1 rfl P.fits ?_)
    dsimp only
    have hsz : SetTable.sizeAbove (SetTable.grown es1.size) ≤ sizeLine := by
      rw [grown_is P.size]
      have := size_above (es1.size * 4) (by have := P.size; omega)
      rw [sizeLine_eq]; omega
    rw [if_neg (by omega)]
    rw [grown_is P.size, e1]
    refine wpAny_bind (wpAny_of_eq (reord_of rfl e3) ?_)
    refine wpAny_storeSet_of (o := { o with data := .set es1 (ep + 1) t2 }) hg1 rfl ?_ (by have := S'.line; exact this)
    exact wpAny_pure (h _ (Added.of_two (Heap.SameBut.update ..) hg1 S' (e4.trans hp)))
  · rw [if_neg hf]
    have hr : Roomy t2 := by
      cases b with
      | true => exact hb rfl
      | false =>
        refine not_full ?_
        simpa using hf
    exact wpAny_pure (h _ ⟨es1, ep + 1, t2, Heap.SameBut.update .., hg1, P.ok hr, hp⟩)

theorem add_ok (X : (hd.heap_39 w.params).In s.heap) (ho : s.heap.get? a = some o) (hd : o.data = .set es ep t) (S : SetOK w es t) (hx : Pv x) (hu : A.units + 2 < cLine) {Q : Bool → Shared → Prop}
    (h1 : memS es x → Q false s) (h2 : (∀ e ∈ es, cl e.2 ≠ cl x) → ∀ h', Added w a o es x s.heap h' → Q true { s with heap := h' }) : wpAny (model PR w) A (setAddHashed a x (Hh w x)) Q E s := by
  unfold setAddHashed
  refine wpAny_holding ?_
  unfold setAddHashedIn
  refine wpAny_bind (wpAny_setState_of ho hd S.fits ?_)
  dsimp only
  split
  · -- by scan
    refine wpAny_bind ?_
    unfold setAddByScan
    refine wpAny_bind (wpAny_rule ?_)
    refine wpAny_bind (scan_ok X ho hd S hx hu (fun i e hi hc => ?_) fun hn => ?_)
    · exact wpAny_pure (wpAny_pure (h1 ⟨e, Array.mem_of_getElem? hi, hc⟩))
    · dsimp only
      obtain ⟨j, b, hfs, hj, hr, hm⟩ := freeSlot_ok (x := x) S
      have P := fun pl => put_pre S hx hn hj hr hm pl
      have hlay : layNew t es (Hh w x) x = (SetTable.insertAt es (t.put j).2 (Hh w x, x), (t.put j).1, b, false) := by
        unfold layNew
        rw [hfs]
        have P := (put_pre S hx hn hj hr hm (t.put j).1.plain).1
        have hfit : (t.put j).1.fits (SetTable.insertAt es (t.put j).2 (Hh w x, x)).size = true := P.fits
        simp only [SetTable.orStandIn, hfit, if_true, Bool.not_true]
      rw [hlay]
      dsimp only
      refine wpAny_bind (wpAny_pure ?_)
      have fin : ∀ h', Added w a o es x s.heap h' → wpAny (model PR w) A (match (some true : Option Bool) with
        | some added => pure added
        | none => setAddHashedIn a x (Hh w x) 99999) Q E { s with heap := h' } := fun h' hA => wpAny_pure (h2 hn h' hA)
      split
      · refine wpAny_bind ((hbv_pool X hx).here ?_)
        refine add_tail (g := _) ?_ ho hd (b := b) ?_ ?_ (P true).2.1 fin
        · rfl
        · split
          · exact (P (t.put j).1.plain).1
          · exact (P false).1
        · intro hb
          split
          · exact (P (t.put j).1.plain).2.2 hb
          · exact (P false).2.2 hb
      · refine add_tail (g := _) ?_ ho hd (b := b) ?_ ?_ (P true).2.1 fin
        · rfl
        · exact (P (t.put j).1.plain).1
        · exact fun hb => (P (t.put j).1.plain).2.2 hb
  · refine wpAny_bind (search_ok X ho hd S hx hu true (fun i e hi hc => ?_) fun hn j b hj hr hm => ?_)
    · exact wpAny_pure (h1 ⟨e, Array.mem_of_getElem? hi, hc⟩)
    · dsimp only
      have P := fun pl => put_pre S hx hn hj hr hm pl
      refine wpAny_bind (wpAny_setState_of ho hd S.fits ?_)
      dsimp only
      split
      · refine wpAny_bind ((hbv_pool X hx).here ?_)
        refine add_tail2 (b := b) ho hd ?_ ?_ (P true).2.1 (insertAt_size _ _ _ ?_).symm (h2 hn)
        · split
          · exact (P (t.put j).1.plain).1
          · exact (P false).1
        · intro hb
          split
          · exact (P (t.put j).1.plain).2.2 hb
          · exact (P false).2.2 hb
        · have := (below_spec S.sok.1.1 j).1
          have := S.sok.2.1
          rw [put_eq]; dsimp only; omega
      · refine add_tail2 (b := b) ho hd ?_ ?_ (P true).2.1 (insertAt_size _ _ _ ?_).symm (h2 hn)
        · exact (P (t.put j).1.plain).1
        · exact fun hb => (P (t.put j).1.plain).2.2 hb
        · have := (below_spec S.sok.1.1 j).1
          have := S.sok.2.1
          rw [put_eq]; dsimp only; omega
end

end
/-! SetB -/
section
open PySem PySem.W PyProof.Rows

structure SCall (id : String) : Prop where
  plain : plainId id = true
  kind : ∃ n, splitId id = some ("set", n) ∧ ((Manifest.find? "set").bind (·.attrs.lookup n) = some .slot ∨ (Manifest.find? "set").bind (·.attrs.lookup n) = some .method)
structure SSlot (name : Str) (id : String) : Prop where
  slot : Slot "set" name id
  own : ∀ w : World, findIn (hd.heap_39 w.params) (.ref 232) name = some (some (.builtin id))
  kind : ∃ n, splitId id = some ("set", n) ∧ ((Manifest.find? "set").bind (·.attrs.lookup n) = some .slot ∨ (Manifest.find? "set").bind (·.attrs.lookup n) = some .method)

structure SetLike (w : World) (h : Heap) (S : Addr) (o : Obj) : Prop where
  get : h.get? S = some o
  cls : o.cls = .type "set" ∨ o.cls = .ref 232
  K : (hd.heap_39 w.params).In h
  new : (hd.heap_39 w.params).lookup S = none

theorem K_but {w : World} {h h' : Heap} {S : Addr} (K : (hd.heap_39 w.params).In h) (n : (hd.heap_39 w.params).lookup S = none) (hs : Heap.SameBut S h h') : (hd.heap_39 w.params).In h' := by
  intro b o e
  by_cases q : b = S
  · subst q; rw [n] at e; cases e
  · exact (hs.2 b q).trans (K b o e)

section
variable {w : World} {A : Around} {E : Value → Shared → Prop} {s : Shared} {S : Addr} {o : Obj} {name : Str} {id : String}

theorem sub_set_set : isSubtype (.type "set") (.type "set") = pure true := by rw [isSubtype_type]; kernel_rfl
theorem SetLike.type (L : SetLike w s.heap S o) : Looks (model PR w) s.heap (typeOf (.ref S)) o.cls := (Looks.ld L.get).andThen .now
theorem SetLike.look (L : SetLike w s.heap S o) (k : SSlot name id) : Looks (model PR w) s.heap (typeLookup o.cls name) (some (.builtin id)) := by
  rcases L.cls with e | e
  · rw [e]; exact Looks.of_pure k.slot.lookup
  · rw [e]; exact looks_findIn L.K (k.own w)
theorem SetLike.special (L : SetLike w s.heap S o) (k : SSlot name id) : Looks (model PR w) s.heap (specialOf (.ref S) name) (some (.builtin id)) := L.type.andThen (L.look k)
theorem mro232 (w : World) : mroIn (hd.heap_39 w.params) 232 (.type "set") = some true := by kernel_rfl
theorem SetLike.isSet (L : SetLike w s.heap S o) : Looks (model PR w) s.heap (isInstance (.ref S) (.type "set")) true := by
  refine L.type.andThen ?_
  rcases L.cls with e | e
  · rw [e]; exact Looks.of_pure sub_set_set
  · rw [e]; exact looks_mroIn L.K (mro232 w)
theorem SSlot.toCall (k : SSlot name id) : SCall id := ⟨k.slot.plain, k.kind⟩
theorem SetLike.check (L : SetLike w s.heap S o) (k : SCall id) {rest : List Value} {kw : List (Str × Value)} {Q : Unit → Shared → Prop} (ha : argsOk id ⟨.ref S :: rest, kw⟩) (hQ : Q () s) :
    wpAny (model PR w) A (checkBuiltinCall id ⟨.ref S :: rest, kw⟩) Q E s := by
  obtain ⟨n, hsplit, hkind⟩ := k.kind
  have hk : builtinKind id = (Manifest.find? "set").bind (·.attrs.lookup n) := by simp only [builtinKind, hsplit]
  rcases hkind with h | h <;>
  · simp only [checkBuiltinCall, hk, h, hsplit]
    refine wpAny_bind (L.isSet.here ?_)
    simp only [Bool.not_true, Bool.false_eq_true, if_false]
    cases hsig : Manifest.signature? id with
    | none => exact wpAny_pure hQ
    | some sig =>
      simp only [argsOk, hsig] at ha
      have h2 : Bind.checkArgs id sig ⟨.ref S :: rest, kw⟩ = pure () := ha
      show wpAny _ A (Bind.checkArgs id sig ⟨.ref S :: rest, kw⟩) Q E s
      rw [h2]; exact wpAny_pure hQ
/-- a call of a set's built-in -/
theorem SetLike.call (L : SetLike w s.heap S o) (k : SCall id) {rest : List Value} {b : Builtin} {Q : Value → Shared → Prop} (ha : argsOk id ⟨.ref S :: rest, []⟩) (hb : entryFor table id = some b)
    (hc : wpAny (model PR w) A.in1 (b ⟨.ref S :: rest, []⟩) (fun fin s' => ∃ v, fin = .done (.ret v) ∧ Q v s') E s) : wpAny (model PR w) A (PySem.call (.builtin id) (.ref S :: rest)) Q E s := by
  refine wpAny_call (codeAny_call_builtin k.plain hb (L.check k ha (wpAny_mono hc (fun fin s' h' => ?_) fun _ _ h' => h')))
  obtain ⟨v, rfl, hv⟩ := h'; exact hv
theorem SetLike.unlessNone (L : SetLike w s.heap S o) (k : SSlot name id) {args : List Value} {refuse : Sem Value} {Q : Option Value → Shared → Prop}
    (hc : wpAny (model PR w) A (PySem.call (.builtin id) (.ref S :: args)) (fun v => Q (some v)) E s) : wpAny (model PR w) A (callSpecialUnlessNone? (.ref S) name args refuse) Q E s := by
  simp only [callSpecialUnlessNone?]
  refine wpAny_bind ((L.special k).here ?_)
  simp only [k.slot.bind]
  refine wpAny_holding (wpAny_bind (wpAny_pure ?_))
  simp only [builtin_beq_none, Bool.false_eq_true, if_false]
  exact wpAny_bind (wpAny_mono hc (fun v s' h' => wpAny_pure h') fun _ _ h' => h')
theorem SetLike.callSpec (L : SetLike w s.heap S o) (k : SSlot name id) {args : List Value} {kw : List (Str × Value)} {Q : Option Value → Shared → Prop}
    (hc : wpAny (model PR w) A (PySem.call (.builtin id) (.ref S :: args) kw) (fun v => Q (some v)) E s) : wpAny (model PR w) A (callSpecial? (.ref S) name args kw) Q E s := by
  simp only [callSpecial?]
  refine wpAny_bind ((L.special k).here ?_)
  simp only [k.slot.bind]
  exact wpAny_holding (wpAny_bind (wpAny_pure (wpAny_bind (wpAny_mono hc (fun v s' h' => wpAny_pure h') fun _ _ h' => h'))))

theorem sslot_contains : SSlot "__contains__" "set.__contains__" := ⟨F.slot_set_contains, fun w => by kernel_rfl, "__contains__", by decide +kernel, by first | exact .inl (by decide +kernel) | exact .inr (by decide +kernel)⟩
theorem sslot_len : SSlot "__len__" "set.__len__" := ⟨F.slot_set_len, fun w => by kernel_rfl, "__len__", by decide +kernel, by first | exact .inl (by decide +kernel) | exact .inr (by decide +kernel)⟩
end

/-- the set-like object at S: its parts -/
structure SetAt (w : World) (h : Heap) (S : Addr) (o : Obj) (es : Array (Int × Value)) (ep : Nat) (t : SetTable) : Prop where
  like : SetLike w h S o
  data : o.data = .set es ep t
  ok : SetOK w es t

section
variable {w : World} {A : Around} {E : Value → Shared → Prop} {s : Shared} {S : Addr} {o : Obj} {es : Array (Int × Value)} {ep : Nat} {t : SetTable} {x : Value}

theorem withTok (L : SetAt w s.heap S o es ep t) (hx : Pv x) (hu : A.units + 3 < cLine) {Q : Bool → Shared → Prop} (h : ∀ (b : Bool) tk, (b = true ↔ memS es x) → Q b { s with toks := tk }) : wpAny (model PR w) A (setContains S x) Q E s := by
  unfold setContains
  refine wpAny_holding (wpAny_bind (hash_pool L.like.K hx hu fun tk => ?_))
  exact wpAny_bind (find_bool (s := { s with toks := tk }) L.like.K L.like.get L.data L.ok hx (by omega) fun r hr => wpAny_pure (h _ tk hr))

theorem contains_set (L : SetAt w s.heap S o es ep t) (hx : Pv x) (hu : A.units + 5 < cLine) {Q : Bool → Shared → Prop} (h : ∀ (b : Bool) tk, (b = true ↔ memS es x) → Q b { s with toks := tk }) : wpAny (model PR w) A (contains (.ref S) x) Q E s := by
  unfold contains
  try with_reducible refine wpAny_holding ?_
  refine wpAny_bind ((L.like.special sslot_contains).here ?_)
  show wpAny _ _ (if (some (Value.builtin "set.__contains__") == some Value.none) = true then _ else _) _ E s
  rw [if_neg (by rw [beq_builtin_none]; exact Bool.false_ne_true)]
  refine wpAny_bind (L.like.unlessNone sslot_contains (L.like.call sslot_contains.toCall (F.args_set_contains_2 _ _) entry_set_contains ?_))
  unfold Builtin.«frozenset.__contains__» Builtin.Frozenset.oneOther
  simp only [List.isEmpty_nil, bind_assoc]
  unfold Builtin.Frozenset.addrOf Builtin.Frozenset.withSetAsKey
  refine wpAny_bind (wpAny_pure ?_)
  try dsimp only
  refine wpAny_bind (wpAny_pure ?_)
  try dsimp only
  refine wpAny_bind (wpAny_tryCatch ?_)
  refine withTok L hx (by simp only [Around.in1_units]; omega) fun b tk hb => ?_
  exact wpAny_pure ⟨_, rfl, wpAny_truthy_bool (h b tk hb)⟩

theorem in_set (L : SetAt w s.heap S o es ep t) (hx : Pv x) (hu : A.units + 5 < cLine) {Q : Value → Shared → Prop} (h : ∀ (b : Bool) tk, (b = true ↔ memS es x) → Q (.bool b) { s with toks := tk }) : wpAny (model PR w) A (compareOp .In x (.ref S)) Q E s := by
  show wpAny _ _ (do return .bool (← contains (.ref S) x)) Q E s
  exact wpAny_bind (contains_set L hx hu fun b tk hb => wpAny_pure (h b tk hb))
theorem notin_set (L : SetAt w s.heap S o es ep t) (hx : Pv x) (hu : A.units + 5 < cLine) {Q : Value → Shared → Prop} (h : ∀ (b : Bool) tk, (b = true ↔ memS es x) → Q (.bool (!b)) { s with toks := tk }) : wpAny (model PR w) A (compareOp .NotIn x (.ref S)) Q E s := by
  show wpAny _ _ (do return .bool (!(← contains (.ref S) x))) Q E s
  exact wpAny_bind (contains_set L hx hu fun b tk hb => wpAny_pure (h b tk hb))
end

end
/-! SetK0 -/
section
open PySem PySem.W PyProof.Rows

theorem scall_update : SCall "set.update" := ⟨by decide +kernel, "update", by decide +kernel, by first | exact .inl (by decide +kernel) | exact .inr (by decide +kernel)⟩
theorem scall_inter : SCall "set.intersection" := ⟨by decide +kernel, "intersection", by decide +kernel, by first | exact .inl (by decide +kernel) | exact .inr (by decide +kernel)⟩
theorem scall_diff : SCall "set.difference" := ⟨by decide +kernel, "difference", by decide +kernel, by first | exact .inl (by decide +kernel) | exact .inr (by decide +kernel)⟩
theorem scall_interU : SCall "set.intersection_update" := ⟨by decide +kernel, "intersection_update", by decide +kernel, by first | exact .inl (by decide +kernel) | exact .inr (by decide +kernel)⟩
theorem scall_diffU : SCall "set.difference_update" := ⟨by decide +kernel, "difference_update", by decide +kernel, by first | exact .inl (by decide +kernel) | exact .inr (by decide +kernel)⟩
theorem scall_symmU : SCall "set.symmetric_difference_update" := ⟨by decide +kernel, "symmetric_difference_update", by decide +kernel, by first | exact .inl (by decide +kernel) | exact .inr (by decide +kernel)⟩
theorem entry_inter : entryFor table "set.intersection" = some Builtin.«frozenset.intersection» :=
  entryFor_alias (id' := "frozenset.intersection") (by kernel_rfl) rfl (by decide +kernel) (by kernel_rfl)
theorem entry_diff : entryFor table "set.difference" = some Builtin.«frozenset.difference» :=
  entryFor_alias (id' := "frozenset.difference") (by kernel_rfl) rfl (by decide +kernel) (by kernel_rfl)



end
/-! SetC -/
section
open PySem PySem.W PyProof.Rows

section
variable {w : World} {A : Around} {E : Value → Shared → Prop} {s : Shared} {S : Addr} {o : Obj} {es : Array (Int × Value)} {ep : Nat} {t : SetTable} {x : Value}

/-- the set at S stands with other entries -/
def SetNow (w : World) (S : Addr) (o : Obj) (es' : Array (Int × Value)) (h h' : Heap) : Prop :=
  ∃ ep' t', Heap.SameBut S h h' ∧ SetAt w h' S { o with data := .set es' ep' t' } es' ep' t'

theorem SetAt.now (L : SetAt w s.heap S o es ep t) : SetNow w S o es s.heap s.heap := by
  obtain ⟨⟨a, b, c, n⟩, d, e⟩ := L
  have ho : o = { o with data := .set es ep t } := by obtain ⟨x, y, z, u⟩ := o; simp only at d; subst d; rfl
  exact ⟨ep, t, Heap.SameBut.refl .., ⟨by rw [← ho]; exact a, b, c, n⟩, rfl, e⟩

theorem SetAt.store {h h' : Heap} {es' : Array (Int × Value)} {ep' : Nat} {t' : SetTable} (L : SetAt w h S o es ep t) (hs : Heap.SameBut S h h') (hg : h'.get? S = some { o with data := .set es' ep' t' }) (ok : SetOK w es' t') :
    SetNow w S o es' h h' := ⟨ep', t', hs, ⟨hg, L.like.cls, K_but L.like.K L.like.new hs, L.like.new⟩, rfl, ok⟩

theorem SetNow.trans {h h1 h2 : Heap} {es1 es2 : Array (Int × Value)} {o : Obj} {d : Data} (a : Heap.SameBut S h h1) (b : SetNow w S { o with data := d } es2 h1 h2) : SetNow w S o es2 h h2 := by
  obtain ⟨ep', t', hs, r⟩ := b
  exact ⟨ep', t', a.trans hs, r⟩

/-- one more, if it is not there -/
def insS (es es' : Array (Int × Value)) (x : Value) : Prop := (∀ y, memS es' y ↔ (cl x = cl y ∨ memS es y))
/-- one less -/
def delS (es es' : Array (Int × Value)) (x : Value) : Prop := (∀ y, memS es' y ↔ (cl x ≠ cl y ∧ memS es y))

theorem insS_there {es : Array (Int × Value)} {x : Value} (h : memS es x) : insS es es x := by
  intro y
  constructor
  · exact .inr
  · rintro (e | e)
    · obtain ⟨z, hz, c⟩ := h; exact ⟨z, hz, c.trans e⟩
    · exact e
theorem delS_none {es : Array (Int × Value)} {x : Value} (h : ∀ e ∈ es, cl e.2 ≠ cl x) : delS es es x := by
  intro y
  constructor
  · intro m
    refine ⟨fun c => ?_, m⟩
    obtain ⟨z, hz, e⟩ := m
    exact h z hz (e.trans c.symm)
  · exact fun m => m.2

theorem added_now {h h' : Heap} (L : SetAt w h S o es ep t) (a : Added w S o es x h h') : ∃ es', SetNow w S o es' h h' ∧ insS es es' x := by
  obtain ⟨es', ep', t', hs, hg, ok, hp⟩ := a
  exact ⟨es', L.store hs hg ok, fun y => memS_cons hp y⟩

theorem addH_set (L : SetAt w s.heap S o es ep t) (hx : Pv x) (hu : A.units + 2 < cLine) {Q : Bool → Shared → Prop}
    (h : ∀ b es' h', SetNow w S o es' s.heap h' → insS es es' x → Q b { s with heap := h' }) : wpAny (model PR w) A (setAddHashed S x (Hh w x)) Q E s :=
  add_ok L.like.K L.like.get L.data L.ok hx hu (fun hm => h false es s.heap L.now (insS_there hm)) fun _ h' hA => by
    obtain ⟨es', a, b⟩ := added_now L hA
    exact h true es' h' a b

theorem add_set (L : SetAt w s.heap S o es ep t) (hx : Pv x) (hu : A.units + 3 < cLine) {Q : Bool → Shared → Prop}
    (h : ∀ b es' h' tk, SetNow w S o es' s.heap h' → insS es es' x → Q b { s with heap := h', toks := tk }) : wpAny (model PR w) A (setAdd S x) Q E s := by
  unfold setAdd
  refine wpAny_holding (wpAny_bind (hash_pool L.like.K hx hu fun tk => ?_))
  exact addH_set (s := { s with toks := tk }) L hx (by omega) fun b es' h' a c => h b es' h' tk a c

theorem discardH_set (L : SetAt w s.heap S o es ep t) (hx : Pv x) (hu : A.units + 2 < cLine) {Q : Bool → Shared → Prop}
    (h : ∀ (b : Bool) es' h', (b = true ↔ memS es x) → SetNow w S o es' s.heap h' → delS es es' x → Q b { s with heap := h' }) : wpAny (model PR w) A (setDiscardHashed S x (Hh w x)) Q E s := by
  unfold setDiscardHashed
  refine wpAny_bind (find_ok L.like.K L.like.get L.data L.ok hx hu (fun i e hi hc => ?_) fun hn => ?_)
  · dsimp only
    refine wpAny_bind (wpAny_setState_of L.like.get L.data L.ok.fits ?_)
    dsimp only
    have hil : i < es.size := (Array.getElem?_eq_some_iff.mp hi).1
    have hei : es[i] = e := (Array.getElem?_eq_some_iff.mp hi).2
    have P := eraseAt_perm es i hil
    rw [hei] at P
    obtain ⟨sk, hf, hmk⟩ := drop_sok L.ok.sok hil
    have hz : (SetTable.eraseAt es i).size ≤ sizeLine := by
      have := L.ok.line
      rw [eraseAt_size _ _ hil]; omega
    have U := (P.map fun e => cl e.2).nodup_iff.mp L.ok.uniq
    rw [List.map_cons, List.nodup_cons] at U
    have hmem : ∀ e', e' ∈ SetTable.eraseAt es i → e' ∈ es := fun e' he => Array.mem_toList_iff.mp (P.mem_iff.mpr (.tail _ (Array.mem_toList_iff.mpr he)))
    have ok : SetOK w (SetTable.eraseAt es i) (t.drop i) := by
      refine ⟨sk, ?_, fun e' he => L.ok.ent e' (hmem e' he), U.2, ?_⟩
      · unfold Roomy; rw [hf, hmk]; exact L.ok.room
      · intro hb
        have := L.ok.led hb
        unfold SetTable.drop
        split <;> exact this
    refine wpAny_bind (wpAny_storeSet_of L.like.get L.data ?_ hz)
    refine wpAny_bind (wpAny_point ?_)
    refine wpAny_pure (h true _ _ ⟨fun _ => ⟨e, Array.mem_of_getElem? hi, hc⟩, fun _ => rfl⟩ (L.store (Heap.SameBut.update ..) (upd_get L.like.get L.data) ok) ?_)
    intro y
    constructor
    · rintro ⟨e', he, c⟩
      refine ⟨fun q => U.1 ?_, e', hmem e' he, c⟩
      exact List.mem_map.mpr ⟨e', Array.mem_toList_iff.mpr he, by rw [c, ← q, hc]⟩
    · rintro ⟨q, e', he, c⟩
      rcases List.mem_cons.mp (P.mem_iff.mp (Array.mem_toList_iff.mpr he)) with rfl | z
      · exact absurd (hc.symm.trans c) q
      · exact ⟨e', Array.mem_toList_iff.mp z, c⟩
  · exact wpAny_pure (h false es s.heap ⟨fun q => (nomatch q), fun ⟨e, he, hc⟩ => absurd hc (hn e he)⟩ L.now (delS_none hn))

theorem discard_set (L : SetAt w s.heap S o es ep t) (hx : Pv x) (hu : A.units + 3 < cLine) {Q : Bool → Shared → Prop}
    (h : ∀ (b : Bool) es' h' tk, (b = true ↔ memS es x) → SetNow w S o es' s.heap h' → delS es es' x → Q b { s with heap := h', toks := tk }) : wpAny (model PR w) A (setDiscard S x) Q E s := by
  unfold setDiscard
  refine wpAny_holding (wpAny_bind (hash_pool L.like.K hx hu fun tk => ?_))
  exact discardH_set (s := { s with toks := tk }) L hx (by omega) fun b es' h' hb a c => h b es' h' tk hb a c

theorem scall_add : SCall "set.add" := ⟨by decide +kernel, "add", by decide +kernel, by first | exact .inl (by decide +kernel) | exact .inr (by decide +kernel)⟩

theorem scall_remove : SCall "set.remove" := ⟨by decide +kernel, "remove", by decide +kernel, by first | exact .inl (by decide +kernel) | exact .inr (by decide +kernel)⟩

/-- set.add(S, x) -/
theorem call_add (L : SetAt w s.heap S o es ep t) (hx : Pv x) (hu : A.units + 4 < cLine) {Q : Value → Shared → Prop}
    (h : ∀ es' h' tk, SetNow w S o es' s.heap h' → insS es es' x → Q .none { s with heap := h', toks := tk }) : wpAny (model PR w) A (call (.builtin "set.add") [.ref S, x]) Q E s := by
  refine L.like.call scall_add (F.args_set_add_2 _ _) F.entry_set_add ?_
  unfold Builtin.«set.add» Builtin.Frozenset.oneOther
  simp only [List.isEmpty_nil, bind_assoc]
  unfold Builtin.Frozenset.addrOf
  refine wpAny_bind (wpAny_pure ?_)
  try dsimp only
  refine wpAny_bind (wpAny_pure ?_)
  try dsimp only
  refine wpAny_bind (add_set L hx (by simp only [Around.in1_units]; omega) fun b es' h' tk a c => ?_)
  exact wpAny_pure ⟨_, rfl, h es' h' tk a c⟩

theorem entry_remove : entryFor table "set.remove" = some Builtin.«set.remove» := entryFor_of_tree (by kernel_rfl)
theorem args_remove (a b : Value) : argsOk "set.remove" ⟨[a, b], []⟩ := F.args_set_remove_2 a b

/-- set.remove(S, x), where it is there -/
theorem call_remove (L : SetAt w s.heap S o es ep t) (hx : Pv x) (hu : A.units + 4 < cLine) {Q : Value → Shared → Prop} (hm : memS es x)
    (h : ∀ es' h' tk, SetNow w S o es' s.heap h' → delS es es' x → Q .none { s with heap := h', toks := tk }) : wpAny (model PR w) A (call (.builtin "set.remove") [.ref S, x]) Q E s := by
  refine L.like.call scall_remove (args_remove _ _) entry_remove ?_
  unfold Builtin.«set.remove» Builtin.Frozenset.oneOther
  simp only [List.isEmpty_nil, bind_assoc]
  unfold Builtin.Frozenset.addrOf Builtin.Frozenset.withSetAsKey
  refine wpAny_bind (wpAny_pure ?_)
  try dsimp only
  refine wpAny_bind (wpAny_pure ?_)
  try dsimp only
  refine wpAny_bind (wpAny_tryCatch ?_)
  refine discard_set L hx (by simp only [Around.in1_units]; omega) fun b es' h' tk hb a c => ?_
  rw [hb.mpr hm]
  simp only [Bool.not_true, Bool.false_eq_true, if_false]
  exact wpAny_pure ⟨_, rfl, h es' h' tk a c⟩

end

end
/-! SetD -/
section
open PySem PySem.W PyProof.Rows

theorem get_lt {h : Heap} {a : Nat} {o : Obj} (e : h.get? a = some o) : @LT.lt Nat _ a h.objs.size := Heap.lt_size e
theorem neNat {a b : Nat} (h : @LT.lt Nat _ a b) : a ≠ b := Nat.ne_of_lt h
def newK (w : World) (a : Addr) : Prop := (hd.heap_39 w.params).lookup a = none

theorem K_mod {w : World} {h h' : Heap} {F : List Addr} (K : (hd.heap_39 w.params).In h) (hm : Mod F h h') (hf : ∀ a ∈ F, newK w a) : (hd.heap_39 w.params).In h' := by
  intro b o e
  refine hm b o (K b o e) fun q => ?_
  have := hf b q
  unfold newK at this
  rw [this] at e; cases e
theorem SetLike.mod {w : World} {h h' : Heap} {S : Addr} {o : Obj} {F : List Addr} (L : SetLike w h S o) (hm : Mod F h h') (hS : S ∉ F) (hf : ∀ a ∈ F, newK w a) : SetLike w h' S o :=
  ⟨hm _ _ L.get hS, L.cls, K_mod L.K hm hf, L.new⟩
theorem SetAt.mod {w : World} {h h' : Heap} {S : Addr} {o : Obj} {es : Array (Int × Value)} {ep : Nat} {t : SetTable} {F : List Addr} (L : SetAt w h S o es ep t) (hm : Mod F h h') (hS : S ∉ F) (hf : ∀ a ∈ F, newK w a) : SetAt w h' S o es ep t :=
  ⟨L.like.mod hm hS hf, L.data, L.ok⟩
theorem mod_same {h h' : Heap} {a : Addr} (hs : Heap.SameBut a h h') : Mod [a] h h' := fun b o e n => (hs.2 b fun q => n (by rw [q]; exact .head _)).trans e
theorem mod_ext {h h' : Heap} {a : Addr} (hs : Heap.ExtBut a h h') : Mod [a] h h' := fun b o e n => hs b o (fun q => n (by rw [q]; exact .head _)) e
theorem mod_push (h : Heap) (o : Obj) : Mod [] h (h.push o) := fun b _ e _ => Heap.get?_push_of_some o e
theorem newK_size {w : World} {h : Heap} (K : (hd.heap_39 w.params).In h) {a : Addr} (ha : h.objs.size ≤ a) : newK w a := by
  unfold newK
  cases q : (hd.heap_39 w.params).lookup a with
  | none => rfl
  | some o => exact absurd (get_lt (K a o q)) (Nat.not_lt.mpr ha)
theorem isList_mod {h h' : Heap} {l : Addr} {items : Array Value} {F : List Addr} (x : h.IsList l items) (hm : Mod F h h') (hl : l ∉ F) : h'.IsList l items :=
  let ⟨o, ho, r⟩ := x; ⟨o, hm _ _ ho hl, r⟩
theorem isIter_mod {h h' : Heap} {it l : Addr} {i : Nat} {F : List Addr} (x : h.IsListIter it l i) (hm : Mod F h h') (hl : it ∉ F) : h'.IsListIter it l i :=
  let ⟨o, ho, r⟩ := x; ⟨o, hm _ _ ho hl, r⟩

/-- the set at S with the entries es', whatever its table -/
def SetIs (w : World) (S : Addr) (o : Obj) (es' : Array (Int × Value)) (h' : Heap) : Prop := ∃ ep' t', SetAt w h' S { o with data := .set es' ep' t' } es' ep' t'
theorem SetIs.mod {w : World} {h h' : Heap} {S : Addr} {o : Obj} {es : Array (Int × Value)} {F : List Addr} (L : SetIs w S o es h) (hm : Mod F h h') (hS : S ∉ F) (hf : ∀ a ∈ F, newK w a) : SetIs w S o es h' :=
  let ⟨ep, t, l⟩ := L; ⟨ep, t, l.mod hm hS hf⟩
theorem SetNow.is {w : World} {S : Addr} {o : Obj} {es : Array (Int × Value)} {h h' : Heap} (n : SetNow w S o es h h') : SetIs w S o es h' := let ⟨a, b, _, c⟩ := n; ⟨a, b, c⟩
theorem SetNow.mod {w : World} {S : Addr} {o : Obj} {es : Array (Int × Value)} {h h' : Heap} (n : SetNow w S o es h h') : Mod [S] h h' := let ⟨_, _, hs, _⟩ := n; mod_same hs
theorem SetAt.is {w : World} {h : Heap} {S : Addr} {o : Obj} {es : Array (Int × Value)} {ep : Nat} {t : SetTable} (L : SetAt w h S o es ep t) : SetIs w S o es h := by
  obtain ⟨⟨a, b, c, n⟩, d, e⟩ := L
  have ho : o = { o with data := .set es ep t } := by obtain ⟨x, y, z, u⟩ := o; simp only at d; subst d; rfl
  exact ⟨ep, t, ⟨by rw [← ho]; exact a, b, c, n⟩, rfl, e⟩

/-- the things of a list from the place i on -/
def inFrom (items : Array Value) (i : Nat) (y : Value) : Prop := ∃ (j : Nat) (v : Value), i ≤ j ∧ items[j]? = some v ∧ cl v = cl y
theorem inFrom_end {items : Array Value} {i : Nat} (h : items.size ≤ i) (y : Value) : ¬ inFrom items i y := by
  rintro ⟨j, v, hj, e, _⟩
  have := (Array.getElem?_eq_some_iff.mp e).1
  omega
theorem inFrom_step {items : Array Value} {i : Nat} {v : Value} (h : items[i]? = some v) (y : Value) : inFrom items i y ↔ (cl v = cl y ∨ inFrom items (i + 1) y) := by
  constructor
  · rintro ⟨j, u, hj, e, c⟩
    by_cases q : j = i
    · subst q; rw [h] at e; cases e; exact .inl c
    · exact .inr ⟨j, u, by omega, e, c⟩
  · rintro (c | ⟨j, u, hj, e, c⟩)
    · exact ⟨i, v, Nat.le_refl _, h, c⟩
    · exact ⟨j, u, by omega, e, c⟩

section
variable {w : World} {A : Around} {E : Value → Shared → Prop} {s : Shared} {S : Addr} {o : Obj} {es : Array (Int × Value)} {ep : Nat} {t : SetTable} {x : Value}

theorem update_loop {l it : Addr} {items : Array Value} {R : Result → Shared → Prop} (hP : ∀ v ∈ items, Pv v) (hh : A.handled = none) (hu : A.units + 5 < cLine) (n1 : it ≠ S) (n2 : l ≠ S) (n3 : l ≠ it) (hni : newK w it) :
    ∀ (k i : Nat) (s : Shared) (o : Obj) (es : Array (Int × Value)) (ep : Nat) (t : SetTable), items.size - i = k → s.heap.IsListIter it l i → s.heap.IsList l items → SetAt w s.heap S o es ep t →
      (∀ es' h' tk, Mod [S, it] s.heap h' → SetIs w S o es' h' → (∀ y, memS es' y ↔ (memS es y ∨ inFrom items i y)) → R (.ok (.ret .none)) { s with heap := h', toks := tk }) →
      codeAny (model PR w) A (.builtin "set.update.loop" ⟨[.ref S, .ref it], []⟩) R s := by
  intro k
  induction k with
  | zero =>
    intro i s o es ep t hk hit hl L hR
    refine codeAny_builtin F.entry_set_update_loop ?_
    rw [Around.under_plainId F.plain_set_update_loop _]
    show wpAny _ A.in1 (pyNext (.ref it) >>= _) _ _ s
    refine wpAny_bind (wpAny_pyNext_list_end (by exact hh) hit hl (by simp; omega) fun h' hx => ?_)
    show wpAny _ A.in1 (ret Value.none) _ _ _
    have m := mod_ext hx
    refine wpAny_pure (hR es h' s.toks (m.mono (by intro p hp; simp at hp; simp [hp])) (L.is.mod m (by simpa using fun q => n1 q.symm) (by simpa using hni)) fun y => ?_)
    exact ⟨.inl, fun q => q.elim id fun z => absurd z (inFrom_end (by omega) y)⟩
  | succ k ih =>
    intro i s o es ep t hk hit hl L hR
    have hlt : i < items.size := by omega
    have hx : items[i]? = some items[i] := by simp [hlt]
    have hp := hP _ (Array.getElem_mem hlt)
    refine codeAny_builtin F.entry_set_update_loop ?_
    rw [Around.under_plainId F.plain_set_update_loop _]
    show wpAny _ A.in1 (pyNext (.ref it) >>= _) _ _ s
    refine wpAny_bind (wpAny_pyNext_list_item hit hl hx fun h1 hit1 hs1 => ?_)
    have m1 := mod_same hs1
    have nS : S ∉ [it] := by simpa using fun q => n1 q.symm
    have L1 := L.mod m1 nS (by simpa using hni)
    show wpAny _ A.in1 (holding [items[i]] (setAdd S items[i]) >>= _) _ _ _
    refine wpAny_bind (wpAny_holding ?_)
    refine add_set (s := { s with heap := h1 }) L1 hp (by simp only [Around.in1_units]; omega) fun b es2 h2 tk2 hnow hins => ?_
    have m2 := hnow.mod
    obtain ⟨ep2, t2, hs2, L2⟩ := hnow
    refine wpAny_pure ⟨plainId_quiet F.plain_set_update_loop _, ih (i + 1) _ _ es2 ep2 t2 (by omega) (isIter_mod hit1 m2 (by simpa using n1)) ?_ L2 fun es' h' tk m' hI hy => ?_⟩
    · exact isList_mod (isList_mod hl m1 (by simpa using n3)) m2 (by simpa using n2)
    · refine hR es' h' tk ?_ hI fun y => ?_
      · exact ((m1.mono (by simp)).trans (m2.mono (by simp))).trans m'
      · rw [hy y, hins y, inFrom_step hx y]
        constructor
        · rintro ((a | a) | a)
          · exact .inr (.inl a)
          · exact .inl a
          · exact .inr (.inr a)
        · rintro (a | a | a)
          · exact .inl (.inr a)
          · exact .inl (.inl a)
          · exact .inr a

theorem list_not_set (U : String) (hU : isSubtype (.type "list") (.type U) = pure false) {l : Addr} {items : Array Value} {Q : Bool → Shared → Prop} (hl : s.heap.IsList l items) (h : Q false s) : wpAny (model PR w) A (isInstance (.ref l) (.type U)) Q E s :=
  wpAny_isInstance hl.typeIs hU h

/-- updateFrom with a list -/
theorem updateFrom_list {id : String} {l : Addr} {items : Array Value} {Q : Unit → Shared → Prop} (L : SetAt w s.heap S o es ep t) (hl : s.heap.IsList l items) (hP : ∀ v ∈ items, Pv v) (hh : A.handled = none) (hu : A.units + 6 < cLine) (n2 : l ≠ S)
    (h : ∀ es' h' tk, Mod [S] s.heap h' → SetIs w S o es' h' → (∀ y, memS es' y ↔ (memS es y ∨ inFrom items 0 y)) → Q () { s with heap := h', toks := tk }) :
    wpAny (model PR w) A (Builtin.Frozenset.updateFrom id S (.ref l)) Q E s := by
  unfold Builtin.Frozenset.updateFrom Builtin.Frozenset.isAnySet
  refine wpAny_bind ?_
  refine wpAny_bind (list_not_set "set" F.sub_list_set hl ?_)
  refine list_not_set "frozenset" F.sub_list_frozenset hl ?_
  simp only [Bool.false_eq_true, ↓reduceIte]
  refine wpAny_bind (wpAny_typeOf hl.typeIs ?_)
  rw [if_neg (by decide)]
  refine wpAny_bind (wpAny_pyIter_list hl ?_)
  have m0 := mod_push s.heap { cls := .type "list_iterator", data := .fields #[.ref l, .int 0 0] }
  have hlt := get_lt L.like.get
  have hll : @LT.lt Nat _ l s.heap.objs.size := by obtain ⟨ol, hol, _⟩ := hl; exact get_lt hol
  refine wpAny_bind (wpAny_runValue (codeAny_le (A := A) (update_loop (items := items) (o := o) (es := es) (ep := ep) (t := t) (l := l) (it := s.heap.objs.size) (S := S) hP hh (by omega) (neNat hlt).symm n2 (neNat hll) (newK_size L.like.K (Nat.le_refl _)) items.size 0 _ (by omega)
    ⟨_, Heap.get?_push_size _ rfl, rfl, rfl⟩ (isList_mod hl m0 (by simp)) (L.mod m0 (by simp) (by simp)) fun es' h' tk m' hI hy => ?_) rfl (Nat.le_refl _) (fun _ q => q) (fun _ q => q) (Nat.le_refl _)))
  refine wpAny_pure (h es' h' tk ?_ hI hy)
  intro b ob e nb
  refine m' b ob (m0 b ob e (by simp)) ?_
  have := get_lt e
  simp only [List.mem_cons, List.not_mem_nil, or_false, not_or] at nb ⊢
  exact ⟨nb, neNat this⟩
end

end
/-! SetE -/
section
open PySem PySem.W PyProof.Rows

theorem eraseIdx_perm {α : Type} : ∀ (l : List α) (i : Nat) (h : i < l.length), l.Perm (l[i] :: l.eraseIdx i)
  | [], i, h => absurd h (Nat.not_lt_zero _)
  | a :: l, 0, _ => List.Perm.refl _
  | a :: l, i + 1, h => by
    rw [List.getElem_cons_succ, List.eraseIdx_cons_succ]
    exact ((eraseIdx_perm l i (by simpa using h)).cons a).trans (List.Perm.swap _ _ _)

theorem pick_go {α : Type} (next : Nat → Nat) : ∀ (fuel k : Nat) (left : List α) (out : Array α), left.length = fuel → (pickOrder.go next fuel k left out).toList.Perm (out.toList ++ left)
  | 0, k, left, out, h => by
    have : left = [] := List.length_eq_zero_iff.mp h
    subst this
    unfold pickOrder.go
    simp
  | fuel + 1, k, left, out, h => by
    unfold pickOrder.go
    have hlt : next k % left.length < left.length := Nat.mod_lt _ (by omega)
    rw [show left[next k % left.length]? = some left[next k % left.length] from List.getElem?_eq_getElem hlt]
    dsimp only
    have ih := pick_go next fuel (k + 1) (left.eraseIdx (next k % left.length)) (out.push left[next k % left.length]) (by rw [List.length_eraseIdx_of_lt hlt]; omega)
    refine ih.trans ?_
    rw [Array.toList_push, List.append_assoc, List.singleton_append]
    exact List.Perm.append_left _ (eraseIdx_perm left _ hlt).symm
theorem pick_perm {α : Type} (next : Nat → Nat) (xs : Array α) : (pickOrder next xs).toList.Perm xs.toList := by
  have := pick_go next xs.size 0 xs.toList #[] (by simp)
  unfold pickOrder
  simpa using this

section
variable {w : World} {A : Around} {E : Value → Shared → Prop} {s : Shared} {S : Addr} {o : Obj} {es : Array (Int × Value)} {ep : Nat} {t : SetTable} {x : Value}

theorem wpAny_chooseIt {src : Source} {n : Nat} {Q : Nat → Shared → Prop} (hn : 0 < n) (h : ∀ i, i < n → Q i { s with drawn := s.drawn.bump src }) : wpAny (model PR w) A (choose src n) Q E s := by
  intro Γ p _
  show Sem.wp _ Γ (Sem.choose src n .pure) _ _ p s
  rw [Sem.wp_choose]
  exact ⟨by omega, h _ (Nat.mod_lt _ hn)⟩

theorem draw_ok {α : Type} : ∀ (n : Nat) (xs : List α) (s : Shared) (Q : List α → Shared → Prop), xs.length = n → (∀ ys d, ys.Perm xs → Q ys { s with drawn := d }) → wpAny (model PR w) A (drawOrder n xs) Q E s
  | 0, xs, s, Q, hn, h => by
    have : xs = [] := List.length_eq_zero_iff.mp hn
    subst this
    unfold drawOrder
    exact wpAny_pure (h [] s.drawn (List.Perm.refl _))
  | n + 1, [], s, Q, hn, h => by simp at hn
  | n + 1, a :: l, s, Q, hn, h => by
    unfold drawOrder
    refine wpAny_bind (wpAny_chooseIt (by simp) fun i hi => ?_)
    rw [List.getElem?_eq_getElem hi]
    dsimp only
    refine wpAny_bind (draw_ok n _ _ _ (by rw [List.length_eraseIdx_of_lt hi]; omega) fun ys d hp => ?_)
    exact wpAny_pure (h _ d ((hp.cons _).trans (eraseIdx_perm _ i hi).symm))

theorem byText_ok {Q : Bool → Shared → Prop} (h : Q (w.params.followText "set-order") s) : wpAny (model PR w) A setsByText Q E s := by
  unfold setsByText
  exact wpAny_bind (wpAny_askSetting (wpAny_pure h))

theorem walk_ok (L : SetAt w s.heap S o es ep t) {Q : Array (Int × Value) → Shared → Prop} (h : ∀ ws d, ws.toList.Perm es.toList → Q ws { s with drawn := d }) : wpAny (model PR w) A (setWalk S) Q E s := by
  unfold setWalk
  refine wpAny_bind (wpAny_setState_of L.like.get L.data L.ok.fits ?_)
  dsimp only
  refine wpAny_bind (byText_ok ?_)
  by_cases hb : w.params.followText "set-order" = true
  · rw [if_pos hb]
    exact wpAny_bind (wpAny_askSetting (wpAny_pure (h _ s.drawn (pick_perm _ _))))
  · rw [if_neg hb]
    have hl := L.ok.led (by simpa using hb)
    split
    · refine wpAny_bind (draw_ok es.size es.toList s _ (by simp) fun ys d hp => ?_)
      exact wpAny_pure (h _ d (by simpa using hp))
    · refine wpAny_bind (m := _) (wpAny_of_eq (a := ()) ?_ ?_)
      · show (if (!t.led && decide (es.size > 1)) = true then _ else _) = _
        rw [hl]; rfl
      · exact wpAny_pure (h es s.drawn (List.Perm.refl _))

/-- a loop that may leave with an answer of its own -/
theorem forIn_some {M : Model} {h : Heap} {β γ : Type} {body : γ → β → Sem (ForInStep β)} {r : β} : ∀ (ys : List γ), (∀ y ∈ ys, Looks M h (body y r) (.yield r) ∨ ∃ d, Looks M h (body y r) (.done d)) → ∃ d, Looks M h (forIn ys r body) d
  | [], _ => ⟨r, Looks.of_pure rfl⟩
  | y :: ys, hb => by
    rcases hb y (.head _) with a | ⟨d, a⟩
    · obtain ⟨d, b⟩ := forIn_some ys fun z hz => hb z (.tail _ hz)
      exact ⟨d, by rw [List.forIn_cons]; exact a.andThen b⟩
    · exact ⟨d, by rw [List.forIn_cons]; exact a.andThen (Looks.of_pure rfl)⟩
theorem forIn_some' {M : Model} {h : Heap} {β γ : Type} {body : γ → β → Sem (ForInStep β)} {r : β} (P : β → Prop) : ∀ (ys : List γ), (∀ y ∈ ys, Looks M h (body y r) (.yield r) ∨ ∃ d, P d ∧ Looks M h (body y r) (.done d)) → ∃ d, (d = r ∨ P d) ∧ Looks M h (forIn ys r body) d
  | [], _ => ⟨r, .inl rfl, Looks.of_pure rfl⟩
  | y :: ys, hb => by
    rcases hb y (.head _) with a | ⟨d, p, a⟩
    · obtain ⟨d, p, b⟩ := forIn_some' P ys fun z hz => hb z (.tail _ hz)
      exact ⟨d, p, by rw [List.forIn_cons]; exact a.andThen b⟩
    · exact ⟨d, .inr p, by rw [List.forIn_cons]; exact a.andThen (Looks.of_pure rfl)⟩

theorem SetAt.entries (L : SetAt w s.heap S o es ep t) : Looks (model PR w) s.heap (setEntries S) es := by
  intro A Q E s' k q
  unfold setEntries
  exact wpAny_bind (wpAny_setState_of (k _ _ L.like.get) L.data L.ok.fits (wpAny_pure q))

theorem eqSp_243 (w : World) : peek (hd.heap_39 w.params) ⟨PR, w.params⟩ (specialOf (.ref 243) "__eq__") = some (some (.builtin "tuple.__eq__")) := by kernel_rfl
theorem eqSp_244 (w : World) : peek (hd.heap_39 w.params) ⟨PR, w.params⟩ (specialOf (.ref 244) "__eq__") = some (some (.builtin "tuple.__eq__")) := by kernel_rfl
theorem eqSp_245 (w : World) : peek (hd.heap_39 w.params) ⟨PR, w.params⟩ (specialOf (.ref 245) "__eq__") = some (some (.builtin "tuple.__eq__")) := by kernel_rfl
theorem eqSp_246 (w : World) : peek (hd.heap_39 w.params) ⟨PR, w.params⟩ (specialOf (.ref 246) "__eq__") = some (some (.builtin "tuple.__eq__")) := by kernel_rfl
theorem eqSp_pool {h : Heap} (X : (hd.heap_39 w.params).In h) {a : Addr} (hx : Pv (.ref a)) : Looks (model PR w) h (specialOf (.ref a) "__eq__") (some (.builtin "tuple.__eq__")) := by
  simp only [Pv, poolL, List.mem_cons, List.not_mem_nil, or_false] at hx
  rcases hx with e | e | e | e | e | e | e | e | e <;> cases e
  · exact peekOn X (eqSp_243 w)
  · exact peekOn X (eqSp_244 w)
  · exact peekOn X (eqSp_245 w)
  · exact peekOn X (eqSp_246 w)

theorem forIn_then {M : Model} {h : Heap} {α β γ : Type} {body : γ → β → Sem (ForInStep β)} {r : β} {cont : β → Sem α} (P : β → Prop) (ys : List γ) (hb : ∀ y ∈ ys, Looks M h (body y r) (.yield r) ∨ ∃ d, P d ∧ Looks M h (body y r) (.done d))
    (hc : ∀ d, (d = r ∨ P d) → ∃ b, Looks M h (cont d) b) : ∃ b, Looks M h (forIn ys r body >>= cont) b := by
  obtain ⟨d, p, a⟩ := forIn_some' P ys hb
  obtain ⟨b, c⟩ := hc d p
  exact ⟨b, a.andThen c⟩
theorem forInA_then {M : Model} {h : Heap} {α β γ : Type} {body : γ → β → Sem (ForInStep β)} {r : β} {cont : β → Sem α} (P : β → Prop) (ys : Array γ) (hb : ∀ y ∈ ys, Looks M h (body y r) (.yield r) ∨ ∃ d, P d ∧ Looks M h (body y r) (.done d))
    (hc : ∀ d, (d = r ∨ P d) → ∃ b, Looks M h (cont d) b) : ∃ b, Looks M h (forIn ys r body >>= cont) b := by
  rw [← Array.forIn_toList]
  exact forIn_then P ys.toList (fun y hy => hb y (Array.mem_toList_iff.mp hy)) hc
theorem quiet_ok (l : List Addr) (hl : ∀ c ∈ l, ∃ o es ep t, SetAt w s.heap c o es ep t) : ∃ b, Looks (model PR w) s.heap (setsQuiet l) b := by
  unfold setsQuiet
  refine forIn_then (fun d => ∃ b, d = (some b, ())) l (fun a ha => ?_) (fun d hd => ?_)
  · obtain ⟨o, es, ep, t, L⟩ := hl a ha
    have inner : ∃ d : Option Bool × Unit, (d = (none, ()) ∨ ∃ b, d = (some b, ())) ∧ Looks (model PR w) s.heap (forIn es ((none, ()) : Option Bool × Unit) fun x __s =>
              match x with
              | (fst, x) =>
                match x with
                | Value.ref a => do
                  let __do_lift ← specialOf x (Str.ofString "__eq__")
                  if (__do_lift != some (Value.builtin "object.__eq__")) = true then
                      pure (ForInStep.done (some false, ()))
                    else pure (ForInStep.yield (none, ()))
                | x => pure (ForInStep.yield (none, ()))) d := by
      rw [← Array.forIn_toList]
      refine forIn_some' (fun d => ∃ b, d = (some b, ())) es.toList fun e he => ?_
      have pe := (L.ok.ent e (Array.mem_toList_iff.mp he)).1
      obtain ⟨h, v⟩ := e
      dsimp only at pe ⊢
      cases v <;> first | exact .inl (Looks.of_pure rfl) | skip
      refine .inr ⟨_, ⟨false, rfl⟩, (eqSp_pool L.like.K pe).andThen ?_⟩
      rw [if_pos (by simp)]
      exact Looks.of_pure rfl
    obtain ⟨d, hd, hL⟩ := inner
    rcases hd with rfl | ⟨b, rfl⟩
    · exact .inl (L.entries.andThen (hL.andThen (Looks.of_pure rfl)))
    · exact .inr ⟨_, ⟨b, rfl⟩, L.entries.andThen (hL.andThen (Looks.of_pure rfl))⟩
  · rcases hd with rfl | ⟨b, rfl⟩
    · exact ⟨true, Looks.of_pure rfl⟩
    · exact ⟨b, Looks.of_pure rfl⟩

/-- the walk of a set that nobody sees, nothing filled -/
theorem unseen_none (L : SetAt w s.heap S o es ep t) (l : List Addr) (hl : ∀ c ∈ l, ∃ o es ep t, SetAt w s.heap c o es ep t) {Q : Array (Int × Value) → Shared → Prop} (h : ∀ ws d, ws.toList.Perm es.toList → Q ws { s with drawn := d }) :
    wpAny (model PR w) A (setWalkUnseen S l none) Q E s := by
  unfold setWalkUnseen
  refine wpAny_bind (wpAny_setState_of L.like.get L.data L.ok.fits ?_)
  dsimp only
  refine wpAny_bind (byText_ok ?_)
  split
  · exact walk_ok L h
  · obtain ⟨b, hb⟩ := quiet_ok (S :: l) (w := w) (s := s) (by
      intro c hc
      rcases List.mem_cons.mp hc with rfl | q
      · exact ⟨_, _, _, _, L⟩
      · exact hl c q)
    refine wpAny_bind (hb.here ?_)
    cases b with
    | false =>
      simp only [Bool.not_false, ↓reduceIte]
      exact walk_ok L h
    | true =>
      simp only [Bool.not_true, Bool.false_eq_true, ↓reduceIte]
      refine wpAny_bind (wpAny_rule ?_)
      exact wpAny_pure (h es s.drawn (List.Perm.refl _))

/-- the same, with a set that it fills: that set's marks may fall -/
theorem unseen_some {f : Addr} {of : Obj} {ef : Array (Int × Value)} {epf : Nat} {tf : SetTable} (L : SetAt w s.heap S o es ep t) (Lf : SetAt w s.heap f of ef epf tf) (l : List Addr) (hl : ∀ c ∈ l, ∃ o es ep t, SetAt w s.heap c o es ep t) {Q : Array (Int × Value) → Shared → Prop}
    (h : ∀ ws d h', ws.toList.Perm es.toList → SetNow w f of ef s.heap h' → Q ws { s with heap := h', drawn := d }) :
    wpAny (model PR w) A (setWalkUnseen S l (some f)) Q E s := by
  unfold setWalkUnseen
  refine wpAny_bind (wpAny_setState_of L.like.get L.data L.ok.fits ?_)
  dsimp only
  refine wpAny_bind (byText_ok ?_)
  have plain : ∀ ws d, ws.toList.Perm es.toList → Q ws { s with drawn := d } := fun ws d hp => h ws d s.heap hp Lf.now
  split
  · exact walk_ok L plain
  · rename_i hc
    obtain ⟨b, hb⟩ := quiet_ok (S :: l) (w := w) (s := s) (by
      intro c hc
      rcases List.mem_cons.mp hc with rfl | q
      · exact ⟨_, _, _, _, L⟩
      · exact hl c q)
    refine wpAny_bind (hb.here ?_)
    cases b with
    | false =>
      simp only [Bool.not_false, ↓reduceIte]
      exact walk_ok L plain
    | true =>
      simp only [Bool.not_true, Bool.false_eq_true, ↓reduceIte]
      refine wpAny_bind (wpAny_rule ?_)
      refine wpAny_bind (wpAny_setState_of Lf.like.get Lf.data Lf.ok.fits ?_)
      dsimp only
      split
      · refine wpAny_bind (wpAny_storeSet_of Lf.like.get Lf.data ?_ Lf.ok.line)
        refine wpAny_pure (h es s.drawn _ (List.Perm.refl _) (Lf.store (Heap.SameBut.update ..) (upd_get Lf.like.get Lf.data) ?_))
        refine SetPre.ok (Lf.ok.pre.marks rfl rfl rfl fun hb => ?_) (Lf.ok.room.marks rfl rfl rfl)
        show (tf.led && t.led) = true
        rw [Lf.ok.led hb, L.ok.led hb]; rfl
      · exact wpAny_pure (plain es s.drawn (List.Perm.refl _))
end

end
/-! SetF -/
section
open PySem PySem.W PyProof.Rows

theorem wpAny_forIn {M : Model} {A : Around} {E : Value → Shared → Prop} {β γ : Type} {body : γ → β → Sem (ForInStep β)} {r : β} {Q : β → Shared → Prop} (I : List γ → Shared → Prop) (l : List γ)
    (hb : ∀ don x rest s, don ++ x :: rest = l → I don s → wpAny M A (body x r) (fun st s' => st = .yield r ∧ I (don ++ [x]) s') E s) (hq : ∀ s, I l s → Q r s) :
    ∀ (rest don : List γ) (s : Shared), don ++ rest = l → I don s → wpAny M A (forIn rest r body) Q E s
  | [], don, s, e, h => by
    rw [List.append_nil] at e
    subst e
    rw [List.forIn_nil]
    exact wpAny_pure (hq s h)
  | x :: rest, don, s, e, h => by
    rw [List.forIn_cons]
    refine wpAny_bind (wpAny_mono (hb don x rest s e h) (fun st s' hs => ?_) fun _ _ q => q)
    obtain ⟨rfl, hs⟩ := hs
    exact wpAny_forIn I l hb hq rest (don ++ [x]) s' (by simpa using e) hs
theorem wpAny_forInA {M : Model} {A : Around} {E : Value → Shared → Prop} {β γ : Type} {body : γ → β → Sem (ForInStep β)} {r : β} {Q : β → Shared → Prop} {s : Shared} (I : List γ → Shared → Prop) (xs : Array γ)
    (hb : ∀ don x s, x ∈ xs → (∃ rest, don ++ x :: rest = xs.toList) → I don s → wpAny M A (body x r) (fun st s' => st = .yield r ∧ I (don ++ [x]) s') E s) (hs : I [] s) (hq : ∀ s, I xs.toList s → Q r s) :
    wpAny M A (forIn xs r body) Q E s := by
  rw [← Array.forIn_toList]
  refine wpAny_forIn I xs.toList (fun don x rest s e h => hb don x s ?_ ⟨rest, e⟩ h) hq xs.toList [] s rfl hs
  rw [← Array.mem_toList_iff, ← e]; simp

theorem new1 {w : World} {r : Addr} (h : newK w r) : ∀ a ∈ [r], newK w a := fun a ha => by rw [List.mem_singleton.mp ha]; exact h

def setObj (es : Array (Int × Value)) (ep : Nat) (t : SetTable) : Obj := { cls := .type "set", data := .set es ep t }

section
variable {w : World} {A : Around} {E : Value → Shared → Prop} {s : Shared} {S : Addr} {o : Obj} {es : Array (Int × Value)} {ep : Nat} {t : SetTable} {x : Value}

theorem SetOK.empty (w : World) (f m : Nat) : SetOK w #[] (SetTable.fresh f m (!w.params.followText "set-order")) := by
  refine ⟨fresh_sok f m _, ?_, fun e he => by simp at he, by simp, fun h => ?_⟩
  · unfold Roomy SetTable.fill; simp [SetTable.fresh]
  · show (!w.params.followText "set-order") = true
    rw [h]; rfl

theorem newSet_ok {Q : Value → Shared → Prop} (h : Q (.ref s.heap.objs.size) { s with heap := s.heap.push (setObj #[] 0 (.fresh 0 0 (!w.params.followText "set-order"))) }) : wpAny (model PR w) A (newSet (.type "set")) Q E s := by
  unfold newSet
  refine wpAny_bind (byText_ok ?_)
  exact wpAny_newObj_type h (by show (#[] : Array (Int × Value)).size ≤ sizeLine; rw [sizeLine_eq]; simp)

theorem new_at (K : (hd.heap_39 w.params).In s.heap) : SetAt w (s.heap.push (setObj #[] 0 (.fresh 0 0 (!w.params.followText "set-order")))) s.heap.objs.size (setObj #[] 0 (.fresh 0 0 (!w.params.followText "set-order"))) #[] 0 (.fresh 0 0 (!w.params.followText "set-order")) :=
  ⟨⟨Heap.get?_push_size _ rfl, .inl rfl, K.keeps fun b o e => Heap.get?_push_of_some _ e, newK_size K (Nat.le_refl _)⟩, rfl, SetOK.empty w 0 0⟩

theorem baseOf_ok (L : SetLike w s.heap S o) {Q : Value → Shared → Prop} (h : Q (.type "set") s) : wpAny (model PR w) A (Builtin.Frozenset.baseOf S) Q E s := by
  unfold Builtin.Frozenset.baseOf
  refine wpAny_bind (L.isSet.here ?_)
  rw [if_pos rfl]
  exact wpAny_pure h
theorem anySet_ok (L : SetLike w s.heap S o) {Q : Bool → Shared → Prop} (h : Q true s) : wpAny (model PR w) A (Builtin.Frozenset.isAnySet (.ref S)) Q E s := by
  unfold Builtin.Frozenset.isAnySet
  refine wpAny_bind (L.isSet.here ?_)
  exact wpAny_pure h
theorem sizeOf_ok (L : SetAt w s.heap S o es ep t) {Q : Nat → Shared → Prop} (h : Q es.size s) : wpAny (model PR w) A (Builtin.Frozenset.sizeOf S) Q E s := by
  unfold Builtin.Frozenset.sizeOf
  exact wpAny_bind (L.entries.here (wpAny_pure h))
theorem epoch_ok (L : SetAt w s.heap S o es ep t) {Q : Nat → Shared → Prop} (h : Q ep s) : wpAny (model PR w) A (setEpoch S) Q E s :=
  wpAny_setEpoch_of L.like.get L.data L.ok.fits h
theorem unchanged_ok {id : String} (L : SetAt w s.heap S o es ep t) {Q : Unit → Shared → Prop} (h : Q () s) : wpAny (model PR w) A (Builtin.Frozenset.unchanged id S ep) Q E s := by
  unfold Builtin.Frozenset.unchanged
  refine wpAny_bind (epoch_ok L ?_)
  rw [if_neg (by simp)]
  exact wpAny_pure h

theorem perm_mem {ws es : Array (Int × Value)} (hp : ws.toList.Perm es.toList) {e : Int × Value} : e ∈ ws ↔ e ∈ es := by
  rw [← Array.mem_toList_iff, ← Array.mem_toList_iff]; exact hp.mem_iff

/-- the loop of an intersection: what stands in asked goes into r -/
theorem inter_loop {id : String} {asked walked r : Addr} {oa ow orr : Obj} {ea ew er ws : Array (Int × Value)} {pa pw pr : Nat} {ta tw tr : SetTable} {Q : PUnit → Shared → Prop}
    (La : SetAt w s.heap asked oa ea pa ta) (Lw : SetAt w s.heap walked ow ew pw tw) (Lr : SetAt w s.heap r orr er pr tr) (hp : ws.toList.Perm ew.toList) (na : asked ≠ r) (nw : walked ≠ r) (hu : A.units + 2 < cLine) (he : er = #[])
    (h : ∀ es' h', Mod [r] s.heap h' → SetIs w r orr es' h' → (∀ y, memS es' y ↔ (memS ew y ∧ memS ea y)) → Q PUnit.unit { s with heap := h' }) :
    wpAny (model PR w) A (forIn ws PUnit.unit fun (x : Int × Value) __s => match x with
      | (h, x) => do
        holding [x] do
          if (← setFind asked x h).isSome then
            let _ ← setAddHashed r x h
        Builtin.Frozenset.unchanged id walked pw
        pure (.yield PUnit.unit)) Q E s := by
  refine wpAny_forInA (fun don s' => ∃ h' es', s' = { s with heap := h' } ∧ Mod [r] s.heap h' ∧ SetIs w r orr es' h' ∧ ∀ y, memS es' y ↔ ((∃ e ∈ don, cl e.2 = cl y) ∧ memS ea y)) ws ?_ ?_ ?_
  · rintro don e s' hew - ⟨h', es', rfl, hm, ⟨ep', t', Lr'⟩, hy⟩
    have nr : ∀ a ∈ [r], newK w a := new1 Lr.like.new
    have La' := La.mod hm (by simpa using na) nr
    have Lw' := Lw.mod hm (by simpa using nw) nr
    have he := Lw.ok.ent e ((perm_mem hp).mp hew)
    obtain ⟨hh, v⟩ := e
    obtain ⟨pv, hhe⟩ := he
    dsimp only at pv hhe
    subst hhe
    dsimp only
    have step : ∀ h2 es2, Mod [r] h' h2 → SetIs w r orr es2 h2 → (∀ y, memS es2 y ↔ ((cl v = cl y ∧ memS ea y) ∨ memS es' y)) →
        wpAny (model PR w) A (Builtin.Frozenset.unchanged id walked pw >>= fun _ => (pure (ForInStep.yield PUnit.unit) : Sem (ForInStep PUnit))) (fun st s' => st = ForInStep.yield PUnit.unit ∧ ∃ h' es', s' = { s with heap := h' } ∧ Mod [r] s.heap h' ∧ SetIs w r orr es' h' ∧ ∀ y, memS es' y ↔ ((∃ e ∈ don ++ [(Hh w v, v)], cl e.2 = cl y) ∧ memS ea y)) E { s with heap := h2 } := by
      intro h2 es2 hm2 hI hy2
      have Lw2 := Lw'.mod hm2 (by simpa using nw) nr
      refine wpAny_bind (unchanged_ok Lw2 (wpAny_pure ⟨rfl, h2, es2, rfl, hm.trans hm2, hI, fun y => ?_⟩))
      rw [hy2 y, hy y]
      constructor
      · rintro (⟨a, b⟩ | ⟨⟨e, a, b⟩, c⟩)
        · exact ⟨⟨(Hh w v, v), by simp, a⟩, b⟩
        · exact ⟨⟨e, by simp [a], b⟩, c⟩
      · rintro ⟨⟨e, a, b⟩, c⟩
        rcases List.mem_append.mp a with q | q
        · exact .inr ⟨⟨e, q, b⟩, c⟩
        · obtain rfl := List.mem_singleton.mp q
          exact .inl ⟨b, c⟩
    refine wpAny_bind (wpAny_holding ?_)
    refine wpAny_bind (find_bool (s := { s with heap := h' }) La'.like.K La'.like.get La'.data La'.ok pv hu fun rr hr => ?_)
    by_cases hc : memS ea v
    · rw [if_pos (hr.mpr hc)]
      refine wpAny_bind (addH_set (s := { s with heap := h' }) Lr' pv hu fun b es2 h2 hnow hins => wpAny_pure ?_)
      refine step h2 es2 hnow.mod hnow.is fun y => ?_
      rw [hins y]
      constructor
      · rintro (a | a)
        · exact .inl ⟨a, by obtain ⟨z, hz, c⟩ := hc; exact ⟨z, hz, c.trans a⟩⟩
        · exact .inr a
      · rintro (⟨a, _⟩ | a)
        · exact .inl a
        · exact .inr a
    · rw [if_neg (fun q => hc (hr.mp q))]
      refine wpAny_pure (step h' es' (Mod.refl _ _) ⟨ep', t', Lr'⟩ fun y => ?_)
      constructor
      · exact .inr
      · rintro (⟨a, b⟩ | a)
        · exact absurd (by obtain ⟨z, hz, c⟩ := b; exact ⟨z, hz, c.trans a.symm⟩) hc
        · exact a
  · refine ⟨s.heap, er, rfl, Mod.refl _ _, Lr.is, fun y => ?_⟩
    subst he
    constructor
    · rintro ⟨e, he, _⟩; simp at he
    · rintro ⟨⟨e, he, _⟩, _⟩; simp at he
  · rintro s' ⟨h', es', rfl, hm, hI, hy⟩
    refine h es' h' hm hI fun y => ?_
    rw [hy y]
    constructor
    · rintro ⟨⟨e, a, b⟩, c⟩; exact ⟨⟨e, (perm_mem hp).mp (Array.mem_toList_iff.mp a), b⟩, c⟩
    · rintro ⟨⟨e, a, b⟩, c⟩; exact ⟨⟨e, Array.mem_toList_iff.mpr ((perm_mem hp).mpr a), b⟩, c⟩

/-- fresh and kept: a new set beside all that stood -/
theorem mod_new {h h' : Heap} {r : Nat} (hr : @LE.le Nat _ h.objs.size r) (m : Mod [r] h h') : Mod [] h h' := fun b o e _ => m b o e (by
  have := get_lt e
  simp only [List.mem_singleton]
  exact fun q => by subst q; exact absurd this (Nat.not_lt.mpr hr))

theorem inter_set {id : String} {S' : Addr} {o' : Obj} {es' : Array (Int × Value)} {ep' : Nat} {t' : SetTable} {Q : Value → Shared → Prop} (L : SetAt w s.heap S o es ep t) (L' : SetAt w s.heap S' o' es' ep' t') (ne : S' ≠ S) (hu : A.units + 2 < cLine)
    (h : ∀ r er h' d, s.heap.get? r = none → newK w r → Mod [] s.heap h' → SetIs w r (setObj #[] 0 (.fresh 0 0 (!w.params.followText "set-order"))) er h' → (∀ y, memS er y ↔ (memS es y ∧ memS es' y)) → Q (.ref r) { s with heap := h', drawn := d }) :
    wpAny (model PR w) A (Builtin.Frozenset.intersection id S (.ref S')) Q E s := by
  unfold Builtin.Frozenset.intersection
  rw [if_neg (by simp only [beq_iff_eq, Value.ref.injEq]; exact ne)]
  refine wpAny_bind (baseOf_ok L.like ?_)
  refine wpAny_bind (newSet_ok ?_)
  have m0 := mod_push s.heap (setObj #[] 0 (.fresh 0 0 (!w.params.followText "set-order")))
  have L1 := L.mod m0 (by simp) (by simp)
  have L1' := L'.mod m0 (by simp) (by simp)
  have Lr := new_at (s := s) L.like.K
  have hS := neNat (get_lt L.like.get)
  have hS' := neNat (get_lt L'.like.get)
  have nr : newK w s.heap.objs.size := newK_size L.like.K (Nat.le_refl _)
  refine wpAny_bind (wpAny_pure ?_)
  refine wpAny_bind (wpAny_holding ?_)
  refine wpAny_bind (anySet_ok L1'.like ?_)
  rw [if_pos rfl]
  refine wpAny_bind (wpAny_pure ?_)
  refine wpAny_bind (sizeOf_ok L1' ?_)
  refine wpAny_bind (sizeOf_ok L1 ?_)
  have go : ∀ (a₁ a₂ : Addr) (o₁ o₂ : Obj) (e₁ e₂ : Array (Int × Value)) (p₁ p₂ : Nat) (t₁ t₂ : SetTable), SetAt w (s.heap.push (setObj #[] 0 (SetTable.fresh 0 0 !w.params.followText "set-order"))) a₁ o₁ e₁ p₁ t₁ →
      SetAt w (s.heap.push (setObj #[] 0 (SetTable.fresh 0 0 !w.params.followText "set-order"))) a₂ o₂ e₂ p₂ t₂ → a₁ ≠ s.heap.objs.size → a₂ ≠ s.heap.objs.size → (∀ y, (memS e₂ y ∧ memS e₁ y) ↔ (memS es y ∧ memS es' y)) →
      wpAny (model PR w) A (do
        let was ← setEpoch a₂
        for (h, x) in ← setWalkUnseen a₂ [a₁, s.heap.objs.size] (some s.heap.objs.size) do
          holding [x] do
            if (← setFind a₁ x h).isSome then
              let _ ← setAddHashed s.heap.objs.size x h
          Builtin.Frozenset.unchanged id a₂ was) (fun _ s' => wpAny (model PR w) A (pure (Value.ref s.heap.objs.size)) Q E s') E { s with heap := s.heap.push (setObj #[] 0 (SetTable.fresh 0 0 !w.params.followText "set-order")) } := by
    intro a₁ a₂ o₁ o₂ e₁ e₂ p₁ p₂ t₁ t₂ La Lw na nw hiff
    refine wpAny_bind (epoch_ok (s := { s with heap := s.heap.push _ }) Lw ?_)
    refine wpAny_bind (unseen_some (s := { s with heap := s.heap.push _ }) Lw Lr [a₁, s.heap.objs.size] ?_ fun ws d h1 hp hnow => ?_)
    · intro c hc
      simp only [List.mem_cons, List.not_mem_nil, or_false] at hc
      rcases hc with rfl | rfl
      · exact ⟨_, _, _, _, La⟩
      · exact ⟨_, _, _, _, Lr⟩
    · have m1 := hnow.mod
      obtain ⟨pr, tr, hs1, Lr1⟩ := hnow
      refine wpAny_bind (inter_loop (s := { s with heap := h1, drawn := d }) (La.mod m1 (by simpa using na) (new1 nr)) (Lw.mod m1 (by simpa using nw) (new1 nr)) Lr1 hp na nw hu rfl fun es3 h3 m3 hI hy => ?_)
      have hsz : ∀ b o, s.heap.get? b = some o → b ∉ [s.heap.objs.size] := fun b o e q => absurd (get_lt e) (by rw [List.mem_singleton.mp q]; exact Nat.lt_irrefl _)
      refine wpAny_pure (wpAny_pure (h s.heap.objs.size es3 h3 d (Heap.get?_none_of_le (Nat.le_refl _)) nr (fun b o e _ => m3 b o (m1 b o (m0 b o e (by simp)) (hsz b o e)) (hsz b o e)) hI fun y => ?_))
      rw [hy y]; exact hiff y
  split
  rename_i x a₁ a₂ hx
  by_cases hc : es'.size > es.size
  · rw [if_pos hc] at hx
    cases hx
    exact go S' S _ _ _ _ _ _ _ _ L1' L1 hS' hS fun y => Iff.rfl
  · rw [if_neg hc] at hx
    cases hx
    exact go S S' _ _ _ _ _ _ _ _ L1 L1' hS hS' fun y => And.comm
end

end
/-! SetG -/
section
open PySem PySem.W PyProof.Rows

theorem full_sub {l1 l2 : List Nat} (hn : l1.Nodup) (hs : ∀ x ∈ l1, x ∈ l2) (hl : l2.length ≤ l1.length) : ∀ x ∈ l2, x ∈ l1 := by
  intro x hx
  by_cases q : x ∈ l1
  · exact q
  · exfalso
    have hnd : (x :: l1).Nodup := List.nodup_cons.mpr ⟨q, hn⟩
    have := List.Nodup.length_le_of_subset hnd (l₂ := l2) (by
      intro y hy
      rcases List.mem_cons.mp hy with rfl | z
      · exact hx
      · exact hs y z)
    simp only [List.length_cons] at this
    omega
theorem memS_cls {es : Array (Int × Value)} {y : Value} : memS es y ↔ cl y ∈ es.toList.map (fun e => cl e.2) := by
  unfold memS
  rw [List.mem_map]
  constructor
  · rintro ⟨e, he, c⟩; exact ⟨e, Array.mem_toList_iff.mpr he, c⟩
  · rintro ⟨e, he, c⟩; exact ⟨e, Array.mem_toList_iff.mp he, c⟩
theorem full_mem {w : World} {e1 e2 : Array (Int × Value)} {t1 : SetTable} (S1 : SetOK w e1 t1) (hs : ∀ y, memS e1 y → memS e2 y) (hl : e2.size ≤ e1.size) (y : Value) : memS e2 y → memS e1 y := by
  rw [memS_cls, memS_cls]
  refine full_sub S1.uniq ?_ (by simpa using hl) (cl y)
  intro x hx
  obtain ⟨e, he, rfl⟩ := List.mem_map.mp hx
  exact memS_cls.mp (hs e.2 ⟨e, Array.mem_toList_iff.mp he, rfl⟩)

section
variable {w : World} {A : Around} {E : Value → Shared → Prop} {s : Shared} {S : Addr} {o : Obj} {es : Array (Int × Value)} {ep : Nat} {t : SetTable} {x : Value}

theorem entry_inter_loop : entryFor table "frozenset.intersection.loop" = some Builtin.«frozenset.intersection.loop» := entryFor_of_tree (by kernel_rfl)
theorem plain_inter_loop : plainId "frozenset.intersection.loop" = true := by decide +kernel

theorem inter_list_loop {l it r : Addr} {items : Array Value} {R : Result → Shared → Prop} (hP : ∀ v ∈ items, Pv v) (hh : A.handled = none) (hu : A.units + 5 < cLine) (n1 : it ≠ S) (n2 : l ≠ r) (n3 : l ≠ it) (n4 : it ≠ r) (n5 : S ≠ r) (hni : newK w it) (hnr : newK w r) :
    ∀ (k i : Nat) (s : Shared) (oR : Obj) (er : Array (Int × Value)) (pr : Nat) (tr : SetTable), items.size - i = k → s.heap.IsListIter it l i → s.heap.IsList l items → SetAt w s.heap S o es ep t → SetAt w s.heap r oR er pr tr → (∀ y, memS er y → memS es y) →
      (∀ er' h' tk, Mod [r, it] s.heap h' → SetIs w r oR er' h' → (∀ y, memS er' y ↔ (memS er y ∨ (memS es y ∧ inFrom items i y))) → R (.ok (.ret .none)) { s with heap := h', toks := tk }) →
      codeAny (model PR w) A (.builtin "frozenset.intersection.loop" ⟨[.ref S, .ref it, .ref r], []⟩) R s := by
  intro k
  induction k with
  | zero =>
    intro i s oR er pr tr hk hit hl L Lr hsub hR
    refine codeAny_builtin entry_inter_loop ?_
    rw [Around.under_plainId plain_inter_loop _]
    show wpAny _ A.in1 (pyNext (.ref it) >>= _) _ _ s
    refine wpAny_bind (wpAny_pyNext_list_end (by exact hh) hit hl (by simp; omega) fun h' hx => ?_)
    show wpAny _ A.in1 (ret Value.none) _ _ _
    have m := mod_ext hx
    refine wpAny_pure (hR er h' s.toks (m.mono (by intro p hp; simp at hp; simp [hp])) (Lr.is.mod m (by simpa using fun q => n4 q.symm) (new1 hni)) fun y => ?_)
    exact ⟨.inl, fun q => q.elim id fun z => absurd z.2 (inFrom_end (by omega) y)⟩
  | succ k ih =>
    intro i s oR er pr tr hk hit hl L Lr hsub hR
    have hlt : i < items.size := by omega
    have hx : items[i]? = some items[i] := by simp [hlt]
    have hp := hP _ (Array.getElem_mem hlt)
    refine codeAny_builtin entry_inter_loop ?_
    rw [Around.under_plainId plain_inter_loop _]
    show wpAny _ A.in1 (pyNext (.ref it) >>= _) _ _ s
    refine wpAny_bind (wpAny_pyNext_list_item hit hl hx fun h1 hit1 hs1 => ?_)
    have m1 := mod_same hs1
    have L1 := L.mod m1 (by simpa using fun q => n1 q.symm) (new1 hni)
    have Lr1 := Lr.mod m1 (by simpa using fun q => n4 q.symm) (new1 hni)
    have hl1 := isList_mod hl m1 (by simpa using n3)
    have hu' : A.in1.units + 2 < cLine := by simp only [Around.in1_units]; omega
    show wpAny _ A.in1 (holding [items[i]] (pyHash items[i]) >>= _) _ _ _
    refine wpAny_bind (wpAny_holding (hash_pool (s := { s with heap := h1 }) L1.like.K hp (by simp only [Around.in1_units]; omega) fun tk1 => ?_))
    refine wpAny_bind (wpAny_holding (find_bool (s := { s with heap := h1, toks := tk1 }) L1.like.K L1.like.get L1.data L1.ok hp hu' fun rr hr => ?_))
    have again : ∀ h2 er2, Mod [r] h1 h2 → SetIs w r oR er2 h2 → (∀ y, memS er2 y ↔ ((cl items[i] = cl y ∧ memS es y) ∨ memS er y)) →
        (Code.builtin "frozenset.intersection.loop" ⟨[.ref S, .ref it, .ref r], []⟩).quiet = true ∧ codeAny (model PR w) A (.builtin "frozenset.intersection.loop" ⟨[.ref S, .ref it, .ref r], []⟩) R { s with heap := h2, toks := tk1 } := by
      intro h2 er2 m2 hI hy2
      obtain ⟨pr2, tr2, Lr2⟩ := hI
      refine ⟨plainId_quiet plain_inter_loop _, ih (i + 1) _ _ er2 pr2 tr2 (by omega) (isIter_mod hit1 m2 (by simpa using n4)) (isList_mod hl1 m2 (by simpa using n2)) (L1.mod m2 (by simpa using n5) (new1 hnr)) Lr2 ?_ fun er' h' tk m' hI hy => ?_⟩
      · intro y hy
        rcases (hy2 y).mp hy with a | a
        · exact a.2
        · exact hsub y a
      · refine hR er' h' tk ?_ hI fun y => ?_
        · exact ((m1.mono (by simp)).trans (m2.mono (by simp))).trans m'
        · rw [hy y, hy2 y, inFrom_step hx y]
          constructor
          · rintro ((⟨a, b⟩ | a) | ⟨a, b⟩)
            · exact .inr ⟨b, .inl a⟩
            · exact .inl a
            · exact .inr ⟨a, .inr b⟩
          · rintro (a | ⟨a, b | b⟩)
            · exact .inl (.inr a)
            · exact .inl (.inl ⟨b, a⟩)
            · exact .inr ⟨a, b⟩
    by_cases hc : memS es items[i]
    · rw [if_pos (hr.mpr hc)]
      refine wpAny_bind (wpAny_holding (addH_set (s := { s with heap := h1, toks := tk1 }) Lr1 hp hu' fun b er2 h2 hnow hins => ?_))
      have m2 := hnow.mod
      have hy2 : ∀ y, memS er2 y ↔ ((cl items[i] = cl y ∧ memS es y) ∨ memS er y) := by
        intro y
        rw [hins y]
        constructor
        · rintro (a | a)
          · exact .inl ⟨a, by obtain ⟨z, hz, c⟩ := hc; exact ⟨z, hz, c.trans a⟩⟩
          · exact .inr a
        · rintro (⟨a, _⟩ | a)
          · exact .inl a
          · exact .inr a
      have hI := hnow.is
      obtain ⟨pr2, tr2, Lr2⟩ := id hI
      refine wpAny_bind (sizeOf_ok (s := { s with heap := h2, toks := tk1 }) Lr2 ?_)
      refine wpAny_bind (sizeOf_ok (s := { s with heap := h2, toks := tk1 }) (L1.mod m2 (by simpa using n5) (new1 hnr)) ?_)
      by_cases hsz : er2.size ≥ es.size
      · rw [if_pos hsz]
        refine wpAny_bind (wpAny_rule ?_)
        show wpAny _ A.in1 (ret Value.none) _ _ _
        have hsub2 : ∀ y, memS er2 y → memS es y := by
          intro y hy
          rcases (hy2 y).mp hy with a | a
          · exact a.2
          · exact hsub y a
        refine wpAny_pure (hR er2 h2 tk1 ((m1.mono (by simp)).trans (m2.mono (by simp))) hI fun y => ?_)
        constructor
        · intro hy
          rcases (hy2 y).mp hy with a | a
          · exact .inr ⟨a.2, (inFrom_step hx y).mpr (.inl a.1)⟩
          · exact .inl a
        · rintro (a | ⟨a, _⟩)
          · exact (hy2 y).mpr (.inr a)
          · exact full_mem Lr2.ok hsub2 hsz y a
      · rw [if_neg hsz]
        exact wpAny_pure (again h2 er2 m2 hI hy2)
    · rw [if_neg (fun q => hc (hr.mp q))]
      refine wpAny_pure (again h1 er (Mod.refl _ _) Lr1.is fun y => ?_)
      constructor
      · exact .inr
      · rintro (⟨a, b⟩ | a)
        · exact absurd (by obtain ⟨z, hz, c⟩ := b; exact ⟨z, hz, c.trans a.symm⟩) hc
        · exact a

def setNew (w : World) : Obj := setObj #[] 0 (.fresh 0 0 (!w.params.followText "set-order"))

theorem inter_list {id : String} {l : Addr} {items : Array Value} {Q : Value → Shared → Prop} (L : SetAt w s.heap S o es ep t) (hl : s.heap.IsList l items) (hP : ∀ v ∈ items, Pv v) (hh : A.handled = none) (hu : A.units + 6 < cLine) (ne : l ≠ S)
    (h : ∀ r er h' d tk, s.heap.get? r = none → newK w r → Mod [] s.heap h' → SetIs w r (setNew w) er h' → (∀ y, memS er y ↔ (memS es y ∧ inFrom items 0 y)) → Q (.ref r) { s with heap := h', drawn := d, toks := tk }) :
    wpAny (model PR w) A (Builtin.Frozenset.intersection id S (.ref l)) Q E s := by
  unfold Builtin.Frozenset.intersection
  rw [if_neg (by simp only [beq_iff_eq, Value.ref.injEq]; exact ne)]
  refine wpAny_bind (baseOf_ok L.like ?_)
  refine wpAny_bind (newSet_ok ?_)
  have m0 := mod_push s.heap (setNew w)
  have L1 := L.mod m0 (by simp) (by simp)
  have hl1 := isList_mod hl m0 (by simp)
  have Lr := new_at (s := s) L.like.K
  have hS := neNat (get_lt L.like.get)
  have hll : @LT.lt Nat _ l s.heap.objs.size := by obtain ⟨ol, hol, _⟩ := hl; exact get_lt hol
  have nr : newK w s.heap.objs.size := newK_size L.like.K (Nat.le_refl _)
  refine wpAny_bind (wpAny_pure ?_)
  refine wpAny_bind (wpAny_holding ?_)
  refine wpAny_bind ?_
  unfold Builtin.Frozenset.isAnySet
  refine wpAny_bind (list_not_set (s := { s with heap := s.heap.push _ }) "set" F.sub_list_set hl1 ?_)
  refine list_not_set (s := { s with heap := s.heap.push _ }) "frozenset" F.sub_list_frozenset hl1 ?_
  simp only [Bool.false_eq_true, ↓reduceIte]
  refine wpAny_bind (wpAny_pyIter_list (s := { s with heap := s.heap.push _ }) hl1 ?_)
  have m1 := mod_push (s.heap.push (setNew w)) { cls := .type "list_iterator", data := .fields #[.ref l, .int 0 0] }
  have hsz : (s.heap.push (setNew w)).objs.size = s.heap.objs.size + 1 := Heap.size_push ..
  have hI0 : (s.heap.push (setNew w)).objs.size ≠ s.heap.objs.size := by rw [hsz]; exact Nat.succ_ne_self _
  have K1 := L1.like.K
  refine wpAny_bind (wpAny_runValue (codeAny_le (A := A) (inter_list_loop (items := items) (o := o) (es := es) (ep := ep) (t := t) (l := l) (it := (s.heap.push (setNew w)).objs.size) (S := S) (r := s.heap.objs.size) hP hh (by omega) ?_ (neNat hll) ?_ hI0 hS (newK_size K1 (Nat.le_refl _)) nr items.size 0 _ _ #[] _ _ (by omega)
    ⟨_, Heap.get?_push_size _ rfl, rfl, rfl⟩ (isList_mod hl1 m1 (by simp)) (L1.mod m1 (by simp) (by simp)) (Lr.mod m1 (by simp) (by simp)) (fun y hy => by obtain ⟨e, he, _⟩ := hy; simp at he) fun er' h' tk m' hI hy => ?_) rfl (Nat.le_refl _) (fun _ q => q) (fun _ q => q) (Nat.le_refl _)))
  · rw [hsz]; exact (neNat (Nat.lt_succ_of_lt (get_lt L.like.get))).symm
  · rw [hsz]; exact neNat (Nat.lt_succ_of_lt hll)
  · refine wpAny_pure (wpAny_pure (h s.heap.objs.size er' h' s.drawn tk (Heap.get?_none_of_le (Nat.le_refl _)) nr ?_ hI fun y => ?_))
    · intro b ob e _
      have hb := get_lt e
      refine m' b ob (m1 b ob (m0 b ob e (by simp)) (by simp)) ?_
      simp only [List.mem_cons, List.not_mem_nil, or_false, not_or]
      exact ⟨neNat hb, by rw [hsz]; exact neNat (Nat.lt_succ_of_lt hb)⟩
    · rw [hy y]
      constructor
      · rintro (a | a)
        · obtain ⟨e, he, _⟩ := a; simp at he
        · exact a
      · exact .inr
end

end
/-! SetH -/
section
open PySem PySem.W PyProof.Rows

section
variable {w : World} {A : Around} {E : Value → Shared → Prop} {s : Shared} {S : Addr} {o : Obj} {es : Array (Int × Value)} {ep : Nat} {t : SetTable} {x : Value}

theorem relay_ok (L : SetAt w s.heap S o es ep t) {k : Nat} (hk : k = 4 ∨ (k = 2 ∧ 21 ≤ es.size * 5)) {n : Nat} (hn : n = es.size * k) {Q : Unit → Shared → Prop}
    (h : ∀ es' h', SetNow w S o es' s.heap h' → es'.toList.Perm es.toList → Q () { s with heap := h' }) : wpAny (model PR w) A (setRelay S n) Q E s := by
  subst hn
  obtain ⟨t', order, e1, e2, e3, e4, S', _⟩ := relaid_ok L.ok.pre hk
  unfold setRelay
  refine wpAny_bind (wpAny_setState_of L.like.get L.data L.ok.fits ?_)
  dsimp only
  have h5 := L.ok.size
  have hsz : SetTable.sizeAbove (es.size * k) ≤ sizeLine := by
    have := size_above (es.size * k) (by rcases hk with rfl | ⟨rfl, _⟩ <;> omega)
    rw [sizeLine_eq]; omega
  rw [if_neg (by omega), e1]
  refine wpAny_bind (wpAny_of_eq (reord_of rfl e3) ?_)
  refine wpAny_storeSet_of L.like.get L.data ?_ S'.line
  exact h _ _ (L.store (Heap.SameBut.update ..) (upd_get L.like.get L.data) S') e4

theorem tidy_ok (L : SetAt w s.heap S o es ep t) {Q : Unit → Shared → Prop} (h : ∀ es' h', SetNow w S o es' s.heap h' → (∀ y, memS es' y ↔ memS es y) → Q () { s with heap := h' }) : wpAny (model PR w) A (setTidy S) Q E s := by
  unfold setTidy
  refine wpAny_bind (wpAny_setState_of L.like.get L.data L.ok.fits ?_)
  dsimp only
  split
  · exact relay_ok L (.inl rfl) (grown_is L.ok.size) fun es' h' hn hp => h es' h' hn fun y => memS_perm hp y
  · exact wpAny_pure (h es s.heap L.now fun y => Iff.rfl)

theorem deaths_ok (L : SetAt w s.heap S o es ep t) : ∃ b, Looks (model PR w) s.heap (setDeathsKnown S) b := by
  refine ⟨(w.params.followText "set-order" || (t.led && t.plain) || decide (es.size ≤ 1)), ?_⟩
  intro A Q E s' k q
  unfold setDeathsKnown
  refine wpAny_bind (wpAny_setState_of (k _ _ L.like.get) L.data L.ok.fits ?_)
  dsimp only
  refine wpAny_bind (byText_ok ?_)
  exact wpAny_pure q
theorem items_ok (L : SetAt w s.heap S o es ep t) {Q : List Value → Shared → Prop} (h : ∀ l d, Q l { s with drawn := d }) : wpAny (model PR w) A (setItems S) Q E s := by
  unfold setItems
  exact wpAny_bind (walk_ok L fun ws d _ => wpAny_pure (h _ d))

theorem swap_ok {r : Addr} {oR : Obj} {er : Array (Int × Value)} {pr : Nat} {tr : SetTable} (L : SetAt w s.heap S o es ep t) (Lr : SetAt w s.heap r oR er pr tr) {Q : Option (List Value) → Shared → Prop}
    (h : ∀ x h' d, SetNow w S o er s.heap h' → Q x { s with heap := h', drawn := d }) : wpAny (model PR w) A (setSwap S r) Q E s := by
  unfold setSwap
  obtain ⟨b, hb⟩ := deaths_ok L
  refine wpAny_bind (hb.here ?_)
  have rest : ∀ (old : Option (List Value)) (d : Drawn), wpAny (model PR w) A (do
      let (er, _, tr) ← setState r
      let ts := (← setState S).2.2
      storeSet S er { tr with finger := ts.finger, moves := ts.movedTo tr.mask, plain := tr.plain && (ts.plain || ts.finger == 0), led := tr.led && (ts.led || ts.finger == 0) }
      return old) Q E { s with drawn := d } := by
    intro old d
    refine wpAny_bind (wpAny_setState_of (s := { s with drawn := d }) Lr.like.get Lr.data Lr.ok.fits ?_)
    dsimp only
    refine wpAny_bind (wpAny_setState_of (s := { s with drawn := d }) L.like.get L.data L.ok.fits ?_)
    dsimp only
    refine wpAny_bind (wpAny_storeSet_of (s := { s with drawn := d }) L.like.get L.data ?_ Lr.ok.line)
    refine wpAny_pure (h old _ d (L.store (Heap.SameBut.update ..) (upd_get L.like.get L.data) ?_))
    refine SetPre.ok (Lr.ok.pre.marks rfl rfl rfl fun hb => ?_) (Lr.ok.room.marks rfl rfl rfl)
    show (tr.led && (t.led || t.finger == 0)) = true
    rw [Lr.ok.led hb, L.ok.led hb]; rfl
  cases b with
  | true =>
    rw [if_pos rfl]
    exact wpAny_bind (items_ok L fun l d => wpAny_bind (wpAny_pure (rest _ d)))
  | false =>
    rw [if_neg (by decide)]
    exact wpAny_bind (wpAny_pure (rest _ s.drawn))

theorem letGo_ok {l k : List Value} {Q : Unit → Shared → Prop} (h : Q () s) : wpAny (model PR w) A (letGo l k) Q E s := wpAny_letGo h

theorem takeOver_ok {r : Addr} {oR : Obj} {er : Array (Int × Value)} {pr : Nat} {tr : SetTable} (L : SetAt w s.heap S o es ep t) (Lr : SetAt w s.heap r oR er pr tr) {Q : Unit → Shared → Prop}
    (h : ∀ h' d, SetNow w S o er s.heap h' → Q () { s with heap := h', drawn := d }) : wpAny (model PR w) A (Builtin.Frozenset.takeOver S r) Q E s := by
  unfold Builtin.Frozenset.takeOver
  refine wpAny_bind (swap_ok L Lr fun x h' d hn => ?_)
  cases x with
  | none => exact wpAny_point (h h' d hn)
  | some l => exact wpAny_letGo (h h' d hn)

/-- difference_update with a set -/
theorem diffUpdate_set {id : String} {S' : Addr} {o' : Obj} {es' : Array (Int × Value)} {ep' : Nat} {t' : SetTable} {Q : Unit → Shared → Prop} (L : SetAt w s.heap S o es ep t) (L' : SetAt w s.heap S' o' es' ep' t') (ne : S' ≠ S) (hu : A.units + 2 < cLine)
    (h : ∀ es2 h' d, Mod [S] s.heap h' → SetIs w S o es2 h' → (∀ y, memS es2 y ↔ (memS es y ∧ ¬ memS es' y)) → Q () { s with heap := h', drawn := d }) :
    wpAny (model PR w) A (Builtin.Frozenset.differenceUpdate id S (.ref S')) Q E s := by
  unfold Builtin.Frozenset.differenceUpdate
  rw [if_neg (by simp only [beq_iff_eq, Value.ref.injEq]; exact ne)]
  refine wpAny_bind (anySet_ok L'.like ?_)
  rw [if_pos rfl]
  refine wpAny_bind (wpAny_pure ?_)
  refine wpAny_bind (sizeOf_ok L' ?_)
  refine wpAny_bind (sizeOf_ok L ?_)
  have h5 := L'.ok.size
  rw [if_neg (by omega)]
  refine wpAny_bind (epoch_ok L' ?_)
  refine wpAny_bind (wpAny_holding ?_)
  refine wpAny_bind (unseen_none L' [S] (fun c hc => by rw [List.mem_singleton.mp hc]; exact ⟨_, _, _, _, L⟩) fun ws d hp => ?_)
  have nS : ∀ a ∈ [S], newK w a := new1 L.like.new
  refine wpAny_bind ?_
  refine wpAny_forInA (s := { s with drawn := d }) (fun don s' => ∃ h' es2, s' = { s with heap := h', drawn := d } ∧ Mod [S] s.heap h' ∧ SetIs w S o es2 h' ∧ ∀ y, memS es2 y ↔ (memS es y ∧ ¬ ∃ e ∈ don, cl e.2 = cl y)) ws ?_ ?_ ?_
  · rintro don e s' hew - ⟨h1, es2, rfl, hm, ⟨p2, t2, L2⟩, hy⟩
    have he := L'.ok.ent e ((perm_mem hp).mp hew)
    obtain ⟨hh, v⟩ := e
    obtain ⟨pv, hhe⟩ := he
    dsimp only at pv hhe
    subst hhe
    dsimp only
    refine wpAny_bind (wpAny_holding (discardH_set (s := { s with heap := h1, drawn := d }) L2 pv hu fun b es3 h3 hb hnow hdel => ?_))
    have m3 := hm.trans hnow.mod
    refine wpAny_bind (unchanged_ok (s := { s with heap := h3, drawn := d }) (L'.mod m3 (by simpa using ne) nS) (wpAny_pure ⟨rfl, h3, es3, rfl, m3, hnow.is, fun y => ?_⟩))
    rw [hdel y, hy y]
    constructor
    · rintro ⟨a, b, c⟩
      refine ⟨b, ?_⟩
      rintro ⟨e, he, ce⟩
      rcases List.mem_append.mp he with q | q
      · exact c ⟨e, q, ce⟩
      · obtain rfl := List.mem_singleton.mp q
        exact a ce
    · rintro ⟨b, c⟩
      exact ⟨fun a => c ⟨(Hh w v, v), by simp, a⟩, b, fun ⟨e, he, ce⟩ => c ⟨e, by simp [he], ce⟩⟩
  · exact ⟨s.heap, es, rfl, Mod.refl _ _, L.is, fun y => by simp⟩
  · rintro s' ⟨h1, es2, rfl, hm, ⟨p2, t2, L2⟩, hy⟩
    refine wpAny_pure ?_
    refine tidy_ok (s := { s with heap := h1, drawn := d }) L2 fun es3 h3 hnow hy3 => ?_
    refine h es3 h3 d (hm.trans hnow.mod) hnow.is fun y => ?_
    rw [hy3 y, hy y]
    have : (∃ e ∈ ws.toList, cl e.2 = cl y) ↔ memS es' y := by
      constructor
      · rintro ⟨e, he, c⟩; exact ⟨e, (perm_mem hp).mp (Array.mem_toList_iff.mp he), c⟩
      · rintro ⟨e, he, c⟩; exact ⟨e, Array.mem_toList_iff.mpr ((perm_mem hp).mpr he), c⟩
    rw [this]
end

end
/-! SetI -/
section
open PySem PySem.W PyProof.Rows

section
variable {w : World} {A : Around} {E : Value → Shared → Prop} {s : Shared} {S : Addr} {o : Obj} {es : Array (Int × Value)} {ep : Nat} {t : SetTable} {x : Value}

/-- a relay of an empty set -/
theorem relay_empty (L : SetAt w s.heap S o #[] ep t) {n : Nat} (hn : n ≤ 20) {Q : Unit → Shared → Prop}
    (h : ∀ h' ep' t', Heap.SameBut S s.heap h' → SetAt w h' S { o with data := .set #[] ep' t' } #[] ep' t' → t'.mask = SetTable.sizeAbove n - 1 → t'.fill = 0 → Q () { s with heap := h' }) : wpAny (model PR w) A (setRelay S n) Q E s := by
  have hm := size_above n hn
  obtain ⟨t', order, e, hc, hmk, hf, hs, hsz, hme, hp, hl, hpl, _, _⟩ := laid_ok hm (#[] : Array (Int × Value)) (by simp) t.finger (t.movedTo (SetTable.sizeAbove n - 1)) t.led t.plain
  have hnil : order.filterMap (fun i => (#[] : Array (Int × Value))[i]?) = #[] := Array.eq_empty_of_size_eq_zero hsz
  have ok : SetOK w #[] t' := by
    refine ⟨by rw [← hnil]; exact hs, ?_, fun e he => by simp at he, by simp, fun hb => by rw [hl]; exact L.ok.led hb⟩
    unfold Roomy
    rw [hf, hmk]
    rcases hm with q | q | q <;> rw [q] <;> simp
  unfold setRelay
  refine wpAny_bind (wpAny_setState_of L.like.get L.data L.ok.fits ?_)
  dsimp only
  have hsz2 : SetTable.sizeAbove n ≤ sizeLine := by rw [sizeLine_eq]; omega
  rw [if_neg (by omega)]
  have e' : t.relaid ((#[] : Array (Int × Value)).map (·.1)) n = some (t', order) := e
  rw [e']
  refine wpAny_bind (wpAny_of_eq (reord_of rfl hsz) ?_)
  dsimp only
  rw [hnil]
  refine wpAny_storeSet_of L.like.get L.data ?_ (by rw [sizeLine_eq]; simp)
  obtain ⟨p2, t2, hs2, L2⟩ := L.store (Heap.SameBut.update ..) (upd_get L.like.get L.data) ok
  exact h _ _ _ (Heap.SameBut.update ..) ⟨⟨upd_get L.like.get L.data, L.like.cls, L2.like.K, L.like.new⟩, rfl, ok⟩ hmk hf

theorem road_tail {f : Array (Int × Value) → Option (SetTable × Array Nat) → Sem (Array (Int × Value) × SetTable)}
    (hf : f = fun es laid => do
      let some (t, order) := laid | unsupported "internal:set-table-without-room"
      let es' := order.filterMap (es[·]?)
      if es'.size != es.size then unsupported "internal:set-table-lost-an-element"
      pure (es', t)) {X : Sem Unit} {r : Addr} {oR : Obj} {p1 : Nat} {t1 : SetTable} {Q : Unit → Shared → Prop} (ok : SetOK w es t) (Lr : SetAt w s.heap r oR #[] p1 t1) (hfill : t1.fill = 0) (h1 : es.size * 5 < t1.mask * 3) (h2 : es.size ≤ t1.mask)
    (h : ∀ er h', Mod [r] s.heap h' → SetIs w r oR er h' → (∀ y, memS er y ↔ memS es y) → Q () { s with heap := h' }) :
    wpAny (model PR w) A (do
          let __x ← setState r
          match __x.2.snd.road t with
            | SetTable.Road.slotForSlot =>
              storeSet r es
                { mask := t.mask, place := t.place, dummies := t.dummies, finger := __x.2.snd.finger,
                  led := __x.2.snd.led && t.led, moves := __x.2.snd.moves, plain := __x.2.snd.plain && t.plain }
            | SetTable.Road.clean => do
              let __x ← f es
                    (SetTable.laid __x.2.snd.mask __x.2.snd.finger __x.2.snd.moves (__x.2.snd.led && t.led)
                      (__x.2.snd.plain && t.plain) (Array.map (fun x => x.fst) es))
              storeSet r __x.fst __x.snd
            | SetTable.Road.oneByOne => X) Q E s := by
  refine wpAny_bind (wpAny_setState_of Lr.like.get Lr.data Lr.ok.fits ?_)
  dsimp only
  have hroad : t1.road t = if t1.mask == t.mask && t.dummies.isEmpty then .slotForSlot else .clean := by
    unfold SetTable.road
    rw [if_neg (by simp [hfill])]
  rw [hroad]
  by_cases hcc : (t1.mask == t.mask && t.dummies.isEmpty) = true
  · rw [if_pos hcc]
    refine wpAny_storeSet_of Lr.like.get Lr.data ?_ ok.line
    have ok' : SetOK w es { mask := t.mask, place := t.place, dummies := t.dummies, finger := t1.finger, led := t1.led && t.led, moves := t1.moves, plain := t1.plain && t.plain } := by
      refine SetPre.ok (ok.pre.marks rfl rfl rfl fun hb => ?_) (ok.room.marks rfl rfl rfl)
      show (t1.led && t.led) = true
      rw [Lr.ok.led hb, ok.led hb]; rfl
    have hn := Lr.store (Heap.SameBut.update ..) (upd_get Lr.like.get Lr.data) ok'
    exact h _ _ hn.mod hn.is fun y => Iff.rfl
  · rw [if_neg hcc]
    obtain ⟨t', order, e, hc, hmk, hfl, hs, hsz, hme, hp, hl, hpl, _, _⟩ := laid_ok Lr.ok.sok.1.2.2.2.2.2.2 es h2 t1.finger t1.moves (t1.led && t.led) (t1.plain && t.plain)
    rw [e]
    refine wpAny_bind (wpAny_of_eq (reord_of hf hsz) ?_)
    have ok' : SetOK w (order.filterMap (es[·]?)) t' := by
      refine ⟨hs, ?_, fun e he => ok.ent e ((hme e).mp he), ?_, fun hb => ?_⟩
      · unfold Roomy; rw [hfl, hmk]; exact h1
      · rw [(hp.map fun e => cl e.2).nodup_iff]; exact ok.uniq
      · rw [hl, Lr.ok.led hb, ok.led hb]; rfl
    refine wpAny_storeSet_of Lr.like.get Lr.data ?_ ok'.line
    have hn := Lr.store (Heap.SameBut.update ..) (upd_get Lr.like.get Lr.data) ok'
    exact h _ _ hn.mod hn.is fun y => memS_perm hp y

theorem copyOf_ok (L : SetAt w s.heap S o es ep t) {Q : Value → Shared → Prop}
    (h : ∀ r er h', s.heap.get? r = none → r = s.heap.objs.size → newK w r → Mod [] s.heap h' → SetIs w r (setNew w) er h' → (∀ y, memS er y ↔ memS es y) → Q (.ref r) { s with heap := h' }) : wpAny (model PR w) A (Builtin.Frozenset.copyOf S) Q E s := by
  unfold Builtin.Frozenset.copyOf
  refine wpAny_bind (baseOf_ok L.like ?_)
  refine wpAny_bind (newSet_ok ?_)
  have m0 := mod_push s.heap (setNew w)
  have L1 := L.mod m0 (by simp) (by simp)
  have Lr := new_at (s := s) L.like.K
  have hS := neNat (get_lt L.like.get)
  have nr : newK w s.heap.objs.size := newK_size L.like.K (Nat.le_refl _)
  have hsz : ∀ b o, s.heap.get? b = some o → b ∉ [s.heap.objs.size] := fun b o e q => absurd (get_lt e) (by rw [List.mem_singleton.mp q]; exact Nat.lt_irrefl _)
  have fin : ∀ (er : Array (Int × Value)) h', Mod [s.heap.objs.size] (s.heap.push (setNew w)) h' → SetIs w s.heap.objs.size (setNew w) er h' → (∀ y, memS er y ↔ memS es y) → wpAny (model PR w) A (pure (Value.ref s.heap.objs.size)) Q E { s with heap := h' } :=
    fun er h' m hI hy => wpAny_pure (h _ er h' (Heap.get?_none_of_le (Nat.le_refl _)) rfl nr (fun b o e _ => m b o (m0 b o e (by simp)) (hsz b o e)) hI hy)
  refine wpAny_bind (wpAny_pure ?_)
  refine wpAny_bind ?_
  unfold setMerge
  rw [if_neg (by simp only [beq_iff_eq]; exact fun q => hS q.symm)]
  refine wpAny_bind (wpAny_setState_of (s := { s with heap := s.heap.push _ }) L1.like.get L1.data L1.ok.fits ?_)
  dsimp only
  by_cases hem : es.isEmpty = true
  · rw [if_pos hem]
    refine wpAny_pure (fin #[] _ (Mod.refl _ _) Lr.is fun y => ?_)
    have : es = #[] := by simpa using hem
    rw [this]
  · rw [if_neg hem]
    refine wpAny_bind ?_
    have h5 := L.ok.size
    unfold setRoomFor
    refine wpAny_bind (wpAny_setState_of (s := { s with heap := s.heap.push _ }) Lr.like.get Lr.data Lr.ok.fits ?_)
    dsimp only
    have hroom : (SetTable.fresh 0 0 !w.params.followText "set-order").roomFor es.size = if es.size * 5 ≥ 21 then some (es.size * 2) else none := by
      unfold SetTable.roomFor SetTable.fill
      simp [SetTable.fresh]
    rw [hroom]
    by_cases hc : es.size * 5 ≥ 21
    · rw [if_pos hc]
      refine relay_empty (s := { s with heap := s.heap.push _ }) Lr (by omega) fun h1 p1 t1 hs1 L1r hmk hfl => ?_
      have m1 := mod_same hs1
      have hr := size_room2 es.size h5 hc
      refine road_tail (s := { s with heap := h1 }) rfl L.ok L1r hfl (by rw [hmk]; exact hr.1) (by rw [hmk]; exact hr.2) fun er h2 m2 hI hy => ?_
      exact fin er h2 (m1.trans m2) hI hy
    · rw [if_neg hc]
      refine wpAny_pure ?_
      refine road_tail (s := { s with heap := s.heap.push _ }) rfl L.ok Lr (by simp [SetTable.fill, SetTable.fresh]) ?_ ?_ fun er h2 m2 hI hy => ?_
      · show es.size * 5 < 7 * 3; omega
      · show es.size ≤ 7; omega
      · exact fin er h2 m2 hI hy

/-- difference with a set: a new one -/
theorem diff_set {id : String} {S' : Addr} {o' : Obj} {es' : Array (Int × Value)} {ep' : Nat} {t' : SetTable} {Q : Value → Shared → Prop} (L : SetAt w s.heap S o es ep t) (L' : SetAt w s.heap S' o' es' ep' t') (hu : A.units + 2 < cLine)
    (h : ∀ r er h' d, s.heap.get? r = none → newK w r → Mod [] s.heap h' → SetIs w r (setNew w) er h' → (∀ y, memS er y ↔ (memS es y ∧ ¬ memS es' y)) → Q (.ref r) { s with heap := h', drawn := d }) :
    wpAny (model PR w) A (Builtin.Frozenset.difference id S (.ref S')) Q E s := by
  unfold Builtin.Frozenset.difference
  refine wpAny_bind (anySet_ok L'.like ?_)
  have hsz : ∀ b o, s.heap.get? b = some o → b ∉ [s.heap.objs.size] := fun b o e q => absurd (get_lt e) (by rw [List.mem_singleton.mp q]; exact Nat.lt_irrefl _)
  simp only [Bool.not_true, Bool.false_eq_true, ↓reduceIte]
  refine wpAny_bind (wpAny_pure ?_)
  simp only [Bool.false_and, Bool.false_eq_true, ↓reduceIte]
  refine wpAny_bind (sizeOf_ok L' ?_)
  refine wpAny_bind (sizeOf_ok L ?_)
  split
  · refine wpAny_bind (wpAny_rule ?_)
    refine wpAny_bind (copyOf_ok L fun r er h1 hr0 hre hnr m1 hI hy => ?_)
    obtain ⟨p1, t1, Lr⟩ := hI
    have hS' : S' ≠ r := fun q => by rw [← q, L'.like.get] at hr0; cases hr0
    refine wpAny_bind (wpAny_pure ?_)
    refine wpAny_bind (wpAny_holding ?_)
    refine diffUpdate_set (s := { s with heap := h1 }) Lr (L'.mod m1 (by simp) (by simp)) hS' hu fun es2 h2 d m2 hI2 hy2 => ?_
    refine wpAny_pure (h r es2 h2 d hr0 hnr ?_ hI2 fun y => ?_)
    · subst hre
      exact fun b o e _ => m2 b o (m1 b o e (by simp)) (hsz b o e)
    · rw [hy2 y, hy y]
  · refine wpAny_bind (baseOf_ok L.like ?_)
    refine wpAny_bind (newSet_ok ?_)
    have m0 := mod_push s.heap (setNew w)
    have L1 := L.mod m0 (by simp) (by simp)
    have L1' := L'.mod m0 (by simp) (by simp)
    have Lr := new_at (s := s) L.like.K
    have hS := neNat (get_lt L.like.get)
    have hS' := neNat (get_lt L'.like.get)
    have nr : newK w s.heap.objs.size := newK_size L.like.K (Nat.le_refl _)
    refine wpAny_bind (wpAny_pure ?_)
    refine wpAny_bind (epoch_ok (s := { s with heap := s.heap.push _ }) L1 ?_)
    refine wpAny_bind (wpAny_holding ?_)
    refine wpAny_bind (unseen_some (s := { s with heap := s.heap.push _ }) L1 Lr [S', s.heap.objs.size] ?_ fun ws d h1 hp hnow => ?_)
    · intro c hc
      simp only [List.mem_cons, List.not_mem_nil, or_false] at hc
      rcases hc with rfl | rfl
      · exact ⟨_, _, _, _, L1'⟩
      · exact ⟨_, _, _, _, Lr⟩
    · have m1 := hnow.mod
      have hI1 := hnow.is
      refine wpAny_bind ?_
      refine wpAny_forInA (s := { s with heap := h1, drawn := d }) (fun don s' => ∃ h' es2, s' = { s with heap := h', drawn := d } ∧ Mod [s.heap.objs.size] (s.heap.push (setNew w)) h' ∧ SetIs w s.heap.objs.size (setNew w) es2 h' ∧ ∀ y, memS es2 y ↔ ((∃ e ∈ don, cl e.2 = cl y) ∧ ¬ memS es' y)) ws ?_ ?_ ?_
      · rintro don e s' hew - ⟨h2, es2, rfl, hm, ⟨p2, t2, L2⟩, hy⟩
        have he := L.ok.ent e ((perm_mem hp).mp hew)
        obtain ⟨hh, v⟩ := e
        obtain ⟨pv, hhe⟩ := he
        dsimp only at pv hhe
        subst hhe
        dsimp only
        have La := L1'.mod hm (by simpa using hS') (new1 nr)
        have Lw := L1.mod hm (by simpa using hS) (new1 nr)
        have step : ∀ h3 es3, Mod [s.heap.objs.size] h2 h3 → SetIs w s.heap.objs.size (setNew w) es3 h3 → (∀ y, memS es3 y ↔ ((cl v = cl y ∧ ¬ memS es' y) ∨ memS es2 y)) →
            wpAny (model PR w) A (Builtin.Frozenset.unchanged id S ep >>= fun _ => (pure (ForInStep.yield PUnit.unit) : Sem (ForInStep PUnit))) (fun st s' => st = ForInStep.yield PUnit.unit ∧ ∃ h' es2, s' = { s with heap := h', drawn := d } ∧ Mod [s.heap.objs.size] (s.heap.push (setNew w)) h' ∧ SetIs w s.heap.objs.size (setNew w) es2 h' ∧ ∀ y, memS es2 y ↔ ((∃ e ∈ don ++ [(Hh w v, v)], cl e.2 = cl y) ∧ ¬ memS es' y)) E { s with heap := h3, drawn := d } := by
          intro h3 es3 m3 hI hy3
          refine wpAny_bind (unchanged_ok (s := { s with heap := h3, drawn := d }) (Lw.mod m3 (by simpa using hS) (new1 nr)) (wpAny_pure ⟨rfl, h3, es3, rfl, hm.trans m3, hI, fun y => ?_⟩))
          rw [hy3 y, hy y]
          constructor
          · rintro (⟨a, b⟩ | ⟨⟨e, a, b⟩, c⟩)
            · exact ⟨⟨(Hh w v, v), by simp, a⟩, b⟩
            · exact ⟨⟨e, by simp [a], b⟩, c⟩
          · rintro ⟨⟨e, a, b⟩, c⟩
            rcases List.mem_append.mp a with q | q
            · exact .inr ⟨⟨e, q, b⟩, c⟩
            · obtain rfl := List.mem_singleton.mp q
              exact .inl ⟨b, c⟩
        refine wpAny_bind (wpAny_holding ?_)
        refine wpAny_bind (find_bool (s := { s with heap := h2, drawn := d }) La.like.K La.like.get La.data La.ok pv hu fun rr hr => ?_)
        refine wpAny_bind (wpAny_pure ?_)
        by_cases hc : memS es' v
        · rw [hr.mpr hc]
          simp only [Bool.not_true, Bool.false_eq_true, ↓reduceIte]
          refine wpAny_pure (step h2 es2 (Mod.refl _ _) ⟨p2, t2, L2⟩ fun y => ?_)
          constructor
          · exact .inr
          · rintro (⟨a, b⟩ | a)
            · exact absurd (by obtain ⟨z, hz, c⟩ := hc; exact ⟨z, hz, c.trans a⟩) b
            · exact a
        · have hf : rr.isSome = false := by
            cases q : rr.isSome with
            | false => rfl
            | true => exact absurd (hr.mp q) hc
          rw [hf]
          simp only [Bool.not_false, ↓reduceIte]
          refine wpAny_bind (addH_set (s := { s with heap := h2, drawn := d }) L2 pv hu fun b es3 h3 hnow3 hins => wpAny_pure ?_)
          refine step h3 es3 hnow3.mod hnow3.is fun y => ?_
          rw [hins y]
          constructor
          · rintro (a | a)
            · exact .inl ⟨a, fun b => hc (by obtain ⟨z, hz, c⟩ := b; exact ⟨z, hz, c.trans a.symm⟩)⟩
            · exact .inr a
          · rintro (⟨a, _⟩ | a)
            · exact .inl a
            · exact .inr a
      · exact ⟨h1, #[], rfl, m1, hI1, fun y => ⟨fun ⟨e, he, _⟩ => by simp at he, fun ⟨⟨e, he, _⟩, _⟩ => by simp at he⟩⟩
      · rintro s' ⟨h2, es2, rfl, hm, hI, hy⟩
        refine wpAny_pure (wpAny_pure (h s.heap.objs.size es2 h2 d (Heap.get?_none_of_le (Nat.le_refl _)) nr (fun b o e _ => hm b o (m0 b o e (by simp)) (hsz b o e)) hI fun y => ?_))
        rw [hy y]
        constructor
        · rintro ⟨⟨e, he, c⟩, b⟩; exact ⟨⟨e, (perm_mem hp).mp (Array.mem_toList_iff.mp he), c⟩, b⟩
        · rintro ⟨⟨e, he, c⟩, b⟩; exact ⟨⟨e, Array.mem_toList_iff.mpr ((perm_mem hp).mpr he), c⟩, b⟩
end

end
/-! SetJ -/
section
open PySem PySem.W PyProof.Rows

section
variable {w : World} {A : Around} {E : Value → Shared → Prop} {s : Shared} {S : Addr} {o : Obj} {es : Array (Int × Value)} {ep : Nat} {t : SetTable} {x : Value}

/-- the flips of a symmetric difference -/
theorem flip_loop {id : String} {S' : Addr} {o' : Obj} {es' ws : Array (Int × Value)} {ep' : Nat} {t' : SetTable} {Q : PUnit → Shared → Prop} (L : SetAt w s.heap S o es ep t) (L' : SetAt w s.heap S' o' es' ep' t') (ne : S' ≠ S) (hu : A.units + 2 < cLine) (hp : ws.toList.Perm es'.toList)
    (h : ∀ es2 h', Mod [S] s.heap h' → SetIs w S o es2 h' → (∀ y, memS es2 y ↔ (memS es y ∧ ¬ memS es' y ∨ ¬ memS es y ∧ memS es' y)) → Q PUnit.unit { s with heap := h' }) :
    wpAny (model PR w) A (forIn ws PUnit.unit fun (x : Int × Value) __s => match x with
      | (h, x) => do
        holding [x] do
          if !(← setDiscardHashed S x h) then
            let _ ← setAddHashed S x h
        Builtin.Frozenset.unchanged id S' ep'
        pure (.yield PUnit.unit)) Q E s := by
  have nS : ∀ a ∈ [S], newK w a := new1 L.like.new
  have hnd : (ws.toList.map fun e => cl e.2).Nodup := (hp.map fun e => cl e.2).nodup_iff.mpr L'.ok.uniq
  refine wpAny_forInA (fun don s' => ∃ h' es2, s' = { s with heap := h' } ∧ Mod [S] s.heap h' ∧ SetIs w S o es2 h' ∧ ∀ y, memS es2 y ↔ (memS es y ∧ ¬ (∃ e ∈ don, cl e.2 = cl y) ∨ ¬ memS es y ∧ ∃ e ∈ don, cl e.2 = cl y)) ws ?_ ?_ ?_
  · rintro don e s' hew ⟨rest, hrest⟩ ⟨h1, es2, rfl, hm, ⟨p2, t2, L2⟩, hy⟩
    have he := L'.ok.ent e ((perm_mem hp).mp hew)
    obtain ⟨hh, v⟩ := e
    obtain ⟨pv, hhe⟩ := he
    dsimp only at pv hhe
    subst hhe
    dsimp only
    have hnew : ¬ ∃ e ∈ don, cl e.2 = cl v := by
      rintro ⟨e, he, c⟩
      rw [← hrest, List.map_append, List.nodup_append] at hnd
      exact hnd.2.2 (cl e.2) (List.mem_map.mpr ⟨e, he, rfl⟩) (cl v) (by simp) c
    have hv : memS es2 v ↔ memS es v := by
      rw [hy v]
      constructor
      · rintro (a | a)
        · exact a.1
        · exact absurd a.2 hnew
      · exact fun a => .inl ⟨a, hnew⟩
    have key : ∀ es3, (∀ y, memS es3 y ↔ ((cl v = cl y ∧ ¬ memS es v) ∨ (cl v ≠ cl y ∧ memS es2 y))) →
        ∀ y, memS es3 y ↔ (memS es y ∧ ¬ (∃ e ∈ don ++ [(Hh w v, v)], cl e.2 = cl y) ∨ ¬ memS es y ∧ ∃ e ∈ don ++ [(Hh w v, v)], cl e.2 = cl y) := by
      intro es3 h3 y
      have hd : (∃ e ∈ don ++ [(Hh w v, v)], cl e.2 = cl y) ↔ ((∃ e ∈ don, cl e.2 = cl y) ∨ cl v = cl y) := by
        constructor
        · rintro ⟨e, he, c⟩
          rcases List.mem_append.mp he with q | q
          · exact .inl ⟨e, q, c⟩
          · obtain rfl := List.mem_singleton.mp q
            exact .inr c
        · rintro (⟨e, he, c⟩ | c)
          · exact ⟨e, by simp [he], c⟩
          · exact ⟨(Hh w v, v), by simp, c⟩
      rw [h3 y, hd, hy y]
      by_cases c : cl v = cl y
      · have hm : memS es y ↔ memS es v := ⟨fun ⟨e, he, k⟩ => ⟨e, he, k.trans c.symm⟩, fun ⟨e, he, k⟩ => ⟨e, he, k.trans c⟩⟩
        rw [hm]
        by_cases q : memS es v <;> simp [c, q]
      · simp [c]
    have step : ∀ h3 es3, Mod [S] h1 h3 → SetIs w S o es3 h3 → (∀ y, memS es3 y ↔ ((cl v = cl y ∧ ¬ memS es v) ∨ (cl v ≠ cl y ∧ memS es2 y))) →
        wpAny (model PR w) A (Builtin.Frozenset.unchanged id S' ep' >>= fun _ => (pure (ForInStep.yield PUnit.unit) : Sem (ForInStep PUnit))) (fun st s' => st = ForInStep.yield PUnit.unit ∧ ∃ h' es2, s' = { s with heap := h' } ∧ Mod [S] s.heap h' ∧ SetIs w S o es2 h' ∧ ∀ y, memS es2 y ↔ (memS es y ∧ ¬ (∃ e ∈ don ++ [(Hh w v, v)], cl e.2 = cl y) ∨ ¬ memS es y ∧ ∃ e ∈ don ++ [(Hh w v, v)], cl e.2 = cl y)) E { s with heap := h3 } := by
      intro h3 es3 m3 hI h3y
      exact wpAny_bind (unchanged_ok (s := { s with heap := h3 }) (L'.mod (hm.trans m3) (by simpa using ne) nS) (wpAny_pure ⟨rfl, h3, es3, rfl, hm.trans m3, hI, key es3 h3y⟩))
    refine wpAny_bind (wpAny_holding ?_)
    refine wpAny_bind (discardH_set (s := { s with heap := h1 }) L2 pv hu fun b es3 h3 hb hnow hdel => ?_)
    by_cases hc : memS es v
    · rw [hb.mpr (hv.mpr hc)]
      simp only [Bool.not_true, Bool.false_eq_true, ↓reduceIte]
      refine wpAny_pure (step h3 es3 hnow.mod hnow.is fun y => ?_)
      rw [hdel y]
      constructor
      · exact .inr
      · rintro (a | a)
        · exact absurd hc a.2
        · exact a
    · have hf : b = false := by
        cases b with
        | false => rfl
        | true => exact absurd (hv.mp (hb.mp rfl)) hc
      rw [hf]
      simp only [Bool.not_false, ↓reduceIte]
      have m3 := hnow.mod
      obtain ⟨p3, t3, _, L3⟩ := hnow
      refine wpAny_bind (addH_set (s := { s with heap := h3 }) L3 pv hu fun b es4 h4 hnow4 hins => wpAny_pure ?_)
      refine step h4 es4 (m3.trans hnow4.mod) hnow4.is fun y => ?_
      rw [hins y, hdel y]
      constructor
      · rintro (a | a)
        · exact .inl ⟨a, hc⟩
        · exact .inr a
      · rintro (⟨a, _⟩ | a)
        · exact .inl a
        · exact .inr a
  · exact ⟨s.heap, es, rfl, Mod.refl _ _, L.is, fun y => by simp⟩
  · rintro s' ⟨h2, es2, rfl, hm, hI, hy⟩
    refine h es2 h2 hm hI fun y => ?_
    rw [hy y]
    have : (∃ e ∈ ws.toList, cl e.2 = cl y) ↔ memS es' y := by
      constructor
      · rintro ⟨e, he, c⟩; exact ⟨e, (perm_mem hp).mp (Array.mem_toList_iff.mp he), c⟩
      · rintro ⟨e, he, c⟩; exact ⟨e, Array.mem_toList_iff.mpr ((perm_mem hp).mpr he), c⟩
    rw [this]

theorem not_dict (L : SetLike w s.heap S o) {Q : Value → Shared → Prop} (h : ∀ v, (v == Value.type "dict") = false → Q v s) : wpAny (model PR w) A (typeOf (.ref S)) Q E s := by
  refine L.type.here (h _ ?_)
  rcases L.cls with e | e <;> rw [e] <;> simp

theorem symm_set {id : String} {S' : Addr} {o' : Obj} {es' : Array (Int × Value)} {ep' : Nat} {t' : SetTable} {Q : Unit → Shared → Prop} (L : SetAt w s.heap S o es ep t) (L' : SetAt w s.heap S' o' es' ep' t') (ne : S' ≠ S) (hu : A.units + 2 < cLine)
    (h : ∀ es2 h' d, Mod [S] s.heap h' → SetIs w S o es2 h' → (∀ y, memS es2 y ↔ (memS es y ∧ ¬ memS es' y ∨ ¬ memS es y ∧ memS es' y)) → Q () { s with heap := h', drawn := d }) :
    wpAny (model PR w) A (Builtin.Frozenset.symmetricDifferenceUpdate id S (.ref S')) Q E s := by
  unfold Builtin.Frozenset.symmetricDifferenceUpdate
  rw [if_neg (by simp only [beq_iff_eq, Value.ref.injEq]; exact ne)]
  refine wpAny_bind (not_dict L'.like fun v hv => ?_)
  rw [if_neg (by rw [hv]; decide)]
  refine wpAny_bind (anySet_ok L'.like ?_)
  rw [if_pos rfl]
  refine wpAny_bind (wpAny_pure ?_)
  refine wpAny_bind (wpAny_pure ?_)
  refine wpAny_bind (epoch_ok L' ?_)
  refine wpAny_holding ?_
  refine wpAny_bind (unseen_some L' L [S] (fun c hc => by rw [List.mem_singleton.mp hc]; exact ⟨_, _, _, _, L⟩) fun ws d h1 hp hnow => ?_)
  have m1 := hnow.mod
  obtain ⟨p1, t1, _, L1⟩ := hnow
  refine wpAny_bind (flip_loop (s := { s with heap := h1, drawn := d }) L1 (L'.mod m1 (by simpa using ne) (new1 L.like.new)) ne hu hp fun es2 h2 m2 hI hy => ?_)
  exact wpAny_pure (h es2 h2 d (m1.trans m2) hI hy)

theorem newFrom_list {id : String} {l : Addr} {items : Array Value} {Q : Value → Shared → Prop} (K : (hd.heap_39 w.params).In s.heap) (hl : s.heap.IsList l items) (hP : ∀ v ∈ items, Pv v) (hh : A.handled = none) (hu : A.units + 6 < cLine)
    (h : ∀ r er h' tk, s.heap.get? r = none → newK w r → Mod [] s.heap h' → SetIs w r (setNew w) er h' → (∀ y, memS er y ↔ inFrom items 0 y) → Q (.ref r) { s with heap := h', toks := tk }) :
    wpAny (model PR w) A (Builtin.Frozenset.newFrom id (.type "set") (.ref l)) Q E s := by
  unfold Builtin.Frozenset.newFrom
  refine wpAny_bind (newSet_ok ?_)
  have m0 := mod_push s.heap (setNew w)
  have hl1 := isList_mod hl m0 (by simp)
  have Lr := new_at (s := s) K
  have hll : @LT.lt Nat _ l s.heap.objs.size := by obtain ⟨ol, hol, _⟩ := hl; exact get_lt hol
  have hsz : ∀ b o, s.heap.get? b = some o → b ∉ [s.heap.objs.size] := fun b o e q => absurd (get_lt e) (by rw [List.mem_singleton.mp q]; exact Nat.lt_irrefl _)
  refine wpAny_bind (wpAny_pure ?_)
  refine wpAny_bind (wpAny_holding ?_)
  refine updateFrom_list (s := { s with heap := s.heap.push _ }) Lr hl1 hP hh hu (neNat hll) fun er h' tk m hI hy => ?_
  refine wpAny_pure (h _ er h' tk (Heap.get?_none_of_le (Nat.le_refl _)) (newK_size K (Nat.le_refl _)) (fun b o e _ => m b o (m0 b o e (by simp)) (hsz b o e)) hI fun y => ?_)
  rw [hy y]
  constructor
  · rintro (a | a)
    · obtain ⟨e, he, _⟩ := a; simp at he
    · exact a
  · exact .inr

theorem symm_list {id : String} {l : Addr} {items : Array Value} {Q : Unit → Shared → Prop} (L : SetAt w s.heap S o es ep t) (hl : s.heap.IsList l items) (hP : ∀ v ∈ items, Pv v) (hh : A.handled = none) (ne : l ≠ S) (hu : A.units + 6 < cLine)
    (h : ∀ es2 h' d tk, Mod [S] s.heap h' → SetIs w S o es2 h' → (∀ y, memS es2 y ↔ (memS es y ∧ ¬ inFrom items 0 y ∨ ¬ memS es y ∧ inFrom items 0 y)) → Q () { s with heap := h', drawn := d, toks := tk }) :
    wpAny (model PR w) A (Builtin.Frozenset.symmetricDifferenceUpdate id S (.ref l)) Q E s := by
  unfold Builtin.Frozenset.symmetricDifferenceUpdate
  rw [if_neg (by simp only [beq_iff_eq, Value.ref.injEq]; exact ne)]
  refine wpAny_bind (wpAny_typeOf hl.typeIs ?_)
  rw [if_neg (by decide)]
  refine wpAny_bind ?_
  unfold Builtin.Frozenset.isAnySet
  refine wpAny_bind (list_not_set "set" F.sub_list_set hl ?_)
  refine list_not_set "frozenset" F.sub_list_frozenset hl ?_
  simp only [Bool.false_eq_true, ↓reduceIte]
  refine wpAny_bind (baseOf_ok L.like ?_)
  refine wpAny_bind (newFrom_list L.like.K hl hP hh hu fun r er h1 tk hr0 hnr m1 hI hy => ?_)
  obtain ⟨pr, tr, Lr⟩ := hI
  have ne' : r ≠ S := fun q => by rw [q, L.like.get] at hr0; cases hr0
  have L1 := L.mod m1 (by simp) (by simp)
  refine wpAny_bind (wpAny_pure ?_)
  refine wpAny_bind (epoch_ok (s := { s with heap := h1, toks := tk }) Lr ?_)
  refine wpAny_holding ?_
  refine wpAny_bind (unseen_some (s := { s with heap := h1, toks := tk }) Lr L1 [S] (fun c hc => by rw [List.mem_singleton.mp hc]; exact ⟨_, _, _, _, L1⟩) fun ws d h2 hp hnow => ?_)
  have m2 := hnow.mod
  obtain ⟨p2, t2, _, L2⟩ := hnow
  refine wpAny_bind (flip_loop (s := { s with heap := h2, drawn := d, toks := tk }) L2 (Lr.mod m2 (by simpa using ne') (new1 L.like.new)) ne' (by omega) hp fun es2 h3 m3 hI hy3 => ?_)
  refine wpAny_pure (h es2 h3 d tk ((m1.mono (by simp)).trans (m2.trans m3)) hI fun y => ?_)
  rw [hy3 y, hy y]
end

end
/-! SetK -/
section
open PySem PySem.W PyProof.Rows

section
variable {w : World} {A : Around} {E : Value → Shared → Prop} {s : Shared} {S : Addr} {o : Obj} {es : Array (Int × Value)} {ep : Nat} {t : SetTable} {x : Value}

/-- set.update(S, list) -/
theorem call_update {l : Addr} {items : Array Value} {Q : Value → Shared → Prop} (L : SetAt w s.heap S o es ep t) (hl : s.heap.IsList l items) (hP : ∀ v ∈ items, Pv v) (hh : A.handled = none) (hu : A.units + 8 < cLine) (ne : l ≠ S)
    (h : ∀ es' h' tk, Mod [S] s.heap h' → SetIs w S o es' h' → (∀ y, memS es' y ↔ (memS es y ∨ inFrom items 0 y)) → Q .none { s with heap := h', toks := tk }) :
    wpAny (model PR w) A (call (.builtin "set.update") [.ref S, .ref l]) Q E s := by
  refine L.like.call scall_update (F.args_set_update_2 _ _) F.entry_set_update ?_
  unfold Builtin.«set.update» Builtin.Frozenset.manyOthers
  simp only [List.isEmpty_nil]
  simp only [Bool.not_true, Bool.false_eq_true, ↓reduceIte]
  refine wpAny_bind (wpAny_bind (wpAny_pure (wpAny_pure ?_)))
  dsimp only
  rw [List.forIn_cons]
  refine wpAny_bind (wpAny_bind (wpAny_bind (updateFrom_list L hl hP (by exact hh) (by simp only [Around.in1_units]; omega) ne fun es' h' tk m hI hy => ?_)))
  exact wpAny_pure (wpAny_pure (wpAny_pure ⟨_, rfl, h es' h' tk m hI hy⟩))

theorem inter_body {a b : Addr} {Q : Value → Shared → Prop} (h : wpAny (model PR w) A (Builtin.Frozenset.intersection "frozenset.intersection" a (.ref b)) Q E s) :
    wpAny (model PR w) A (Builtin.«frozenset.intersection» ⟨[.ref a, .ref b], []⟩) (fun fin s' => ∃ v, fin = .done (.ret v) ∧ Q v s') E s := by
  unfold Builtin.«frozenset.intersection» Builtin.Frozenset.manyOthers
  simp only [List.isEmpty_nil]
  simp only [Bool.not_true, Bool.false_eq_true, ↓reduceIte]
  refine wpAny_bind (wpAny_bind (wpAny_pure (wpAny_pure ?_)))
  dsimp only
  rw [if_neg (show ¬ (List.isEmpty [Value.ref b] = true) from Bool.false_ne_true), List.forIn_cons]
  refine wpAny_bind (wpAny_bind (wpAny_bind (wpAny_holding (wpAny_bind (wpAny_pure ?_)))))
  exact wpAny_mono h (fun v s' hv => wpAny_pure (wpAny_pure (wpAny_pure ⟨_, rfl, hv⟩))) fun _ _ q => q

/-- set.intersection(S, set) -/
theorem call_inter_set {S' : Addr} {o' : Obj} {es' : Array (Int × Value)} {ep' : Nat} {t' : SetTable} {Q : Value → Shared → Prop} (L : SetAt w s.heap S o es ep t) (L' : SetAt w s.heap S' o' es' ep' t') (ne : S' ≠ S) (hu : A.units + 4 < cLine)
    (h : ∀ r er h' d, s.heap.get? r = none → newK w r → Mod [] s.heap h' → SetIs w r (setNew w) er h' → (∀ y, memS er y ↔ (memS es y ∧ memS es' y)) → Q (.ref r) { s with heap := h', drawn := d }) :
    wpAny (model PR w) A (call (.builtin "set.intersection") [.ref S, .ref S']) Q E s :=
  L.like.call scall_inter (F.args_set_intersection_2 _ _) entry_inter (inter_body (inter_set L L' ne (by simp only [Around.in1_units]; omega) h))
/-- set.intersection(S, list) -/
theorem call_inter_list {l : Addr} {items : Array Value} {Q : Value → Shared → Prop} (L : SetAt w s.heap S o es ep t) (hl : s.heap.IsList l items) (hP : ∀ v ∈ items, Pv v) (hh : A.handled = none) (hu : A.units + 8 < cLine) (ne : l ≠ S)
    (h : ∀ r er h' d tk, s.heap.get? r = none → newK w r → Mod [] s.heap h' → SetIs w r (setNew w) er h' → (∀ y, memS er y ↔ (memS es y ∧ inFrom items 0 y)) → Q (.ref r) { s with heap := h', drawn := d, toks := tk }) :
    wpAny (model PR w) A (call (.builtin "set.intersection") [.ref S, .ref l]) Q E s :=
  L.like.call scall_inter (F.args_set_intersection_2 _ _) entry_inter (inter_body (inter_list L hl hP (by exact hh) (by simp only [Around.in1_units]; omega) ne h))

/-- set.difference(S, set) -/
theorem call_diff_set {S' : Addr} {o' : Obj} {es' : Array (Int × Value)} {ep' : Nat} {t' : SetTable} {Q : Value → Shared → Prop} (L : SetAt w s.heap S o es ep t) (L' : SetAt w s.heap S' o' es' ep' t') (hu : A.units + 4 < cLine)
    (h : ∀ r er h' d, s.heap.get? r = none → newK w r → Mod [] s.heap h' → SetIs w r (setNew w) er h' → (∀ y, memS er y ↔ (memS es y ∧ ¬ memS es' y)) → Q (.ref r) { s with heap := h', drawn := d }) :
    wpAny (model PR w) A (call (.builtin "set.difference") [.ref S, .ref S']) Q E s := by
  refine L.like.call scall_diff (F.args_set_difference_2 _ _) entry_diff ?_
  unfold Builtin.«frozenset.difference» Builtin.Frozenset.manyOthers
  simp only [List.isEmpty_nil]
  simp only [Bool.not_true, Bool.false_eq_true, ↓reduceIte]
  refine wpAny_bind (wpAny_bind (wpAny_pure (wpAny_pure ?_)))
  dsimp only
  refine wpAny_bind (diff_set L L' (by simp only [Around.in1_units]; omega) fun r er h' d a b c e f => ?_)
  refine wpAny_bind (wpAny_holding ?_)
  rw [List.forIn_nil]
  exact wpAny_bind (wpAny_pure (wpAny_pure (wpAny_pure ⟨_, rfl, h r er h' d a b c e f⟩)))

/-- set.intersection_update(S, set) -/
theorem call_interU_set {S' : Addr} {o' : Obj} {es' : Array (Int × Value)} {ep' : Nat} {t' : SetTable} {Q : Value → Shared → Prop} (L : SetAt w s.heap S o es ep t) (L' : SetAt w s.heap S' o' es' ep' t') (ne : S' ≠ S) (hu : A.units + 4 < cLine)
    (h : ∀ er h' d, Mod [S] s.heap h' → SetIs w S o er h' → (∀ y, memS er y ↔ (memS es y ∧ memS es' y)) → Q .none { s with heap := h', drawn := d }) :
    wpAny (model PR w) A (call (.builtin "set.intersection_update") [.ref S, .ref S']) Q E s := by
  refine L.like.call scall_interU (F.args_set_intersection_update_2 _ _) F.entry_set_intersection_update ?_
  unfold Builtin.«set.intersection_update» Builtin.Frozenset.manyOthers
  simp only [List.isEmpty_nil]
  simp only [Bool.not_true, Bool.false_eq_true, ↓reduceIte]
  refine wpAny_bind (wpAny_bind (wpAny_pure (wpAny_pure ?_)))
  dsimp only
  rw [if_neg (show ¬ (List.isEmpty [Value.ref S'] = true) from Bool.false_ne_true)]
  refine wpAny_bind (wpAny_pure ?_)
  rw [List.forIn_cons]
  refine wpAny_bind (wpAny_bind (wpAny_bind (wpAny_holding (wpAny_bind (wpAny_pure ?_)))))
  refine inter_set L L' ne (by simp only [Around.in1_units]; omega) fun r er h' d hr0 hnr m hI hy => ?_
  refine wpAny_pure (wpAny_pure ?_)
  obtain ⟨pr, tr, Lr⟩ := hI
  refine wpAny_bind (wpAny_pure ?_)
  refine wpAny_bind (wpAny_holding ?_)
  refine takeOver_ok (s := { s with heap := h', drawn := d }) (L.mod m (by simp) (by simp)) Lr fun h2 d2 hn => ?_
  exact wpAny_pure ⟨_, rfl, h er h2 d2 ((m.mono (by simp)).trans hn.mod) hn.is hy⟩

/-- set.difference_update(S, set) -/
theorem call_diffU_set {S' : Addr} {o' : Obj} {es' : Array (Int × Value)} {ep' : Nat} {t' : SetTable} {Q : Value → Shared → Prop} (L : SetAt w s.heap S o es ep t) (L' : SetAt w s.heap S' o' es' ep' t') (ne : S' ≠ S) (hu : A.units + 4 < cLine)
    (h : ∀ er h' d, Mod [S] s.heap h' → SetIs w S o er h' → (∀ y, memS er y ↔ (memS es y ∧ ¬ memS es' y)) → Q .none { s with heap := h', drawn := d }) :
    wpAny (model PR w) A (call (.builtin "set.difference_update") [.ref S, .ref S']) Q E s := by
  refine L.like.call scall_diffU (F.args_set_difference_update_2 _ _) F.entry_set_difference_update ?_
  unfold Builtin.«set.difference_update» Builtin.Frozenset.manyOthers
  simp only [List.isEmpty_nil]
  simp only [Bool.not_true, Bool.false_eq_true, ↓reduceIte]
  refine wpAny_bind (wpAny_bind (wpAny_pure (wpAny_pure ?_)))
  dsimp only
  rw [List.forIn_cons]
  refine wpAny_bind (wpAny_bind (wpAny_bind (diffUpdate_set L L' ne (by simp only [Around.in1_units]; omega) fun er h' d m hI hy => ?_)))
  exact wpAny_pure (wpAny_pure (wpAny_pure ⟨_, rfl, h er h' d m hI hy⟩))

/-- set.symmetric_difference_update(S, set) -/
theorem call_symmU_set {S' : Addr} {o' : Obj} {es' : Array (Int × Value)} {ep' : Nat} {t' : SetTable} {Q : Value → Shared → Prop} (L : SetAt w s.heap S o es ep t) (L' : SetAt w s.heap S' o' es' ep' t') (ne : S' ≠ S) (hu : A.units + 4 < cLine)
    (h : ∀ er h' d, Mod [S] s.heap h' → SetIs w S o er h' → (∀ y, memS er y ↔ (memS es y ∧ ¬ memS es' y ∨ ¬ memS es y ∧ memS es' y)) → Q .none { s with heap := h', drawn := d }) :
    wpAny (model PR w) A (call (.builtin "set.symmetric_difference_update") [.ref S, .ref S']) Q E s := by
  refine L.like.call scall_symmU (F.args_set_symmetric_difference_update_2 _ _) F.entry_set_symmetric_difference_update ?_
  unfold Builtin.«set.symmetric_difference_update» Builtin.Frozenset.oneOther
  simp only [List.isEmpty_nil]
  refine wpAny_bind (wpAny_bind (wpAny_pure (wpAny_pure ?_)))
  dsimp only
  refine wpAny_bind (symm_set L L' ne (by simp only [Around.in1_units]; omega) fun er h' d m hI hy => ?_)
  exact wpAny_pure ⟨_, rfl, h er h' d m hI hy⟩
/-- set.symmetric_difference_update(S, list) -/
theorem call_symmU_list {l : Addr} {items : Array Value} {Q : Value → Shared → Prop} (L : SetAt w s.heap S o es ep t) (hl : s.heap.IsList l items) (hP : ∀ v ∈ items, Pv v) (hh : A.handled = none) (hu : A.units + 8 < cLine) (ne : l ≠ S)
    (h : ∀ er h' d tk, Mod [S] s.heap h' → SetIs w S o er h' → (∀ y, memS er y ↔ (memS es y ∧ ¬ inFrom items 0 y ∨ ¬ memS es y ∧ inFrom items 0 y)) → Q .none { s with heap := h', drawn := d, toks := tk }) :
    wpAny (model PR w) A (call (.builtin "set.symmetric_difference_update") [.ref S, .ref l]) Q E s := by
  refine L.like.call scall_symmU (F.args_set_symmetric_difference_update_2 _ _) F.entry_set_symmetric_difference_update ?_
  unfold Builtin.«set.symmetric_difference_update» Builtin.Frozenset.oneOther
  simp only [List.isEmpty_nil]
  refine wpAny_bind (wpAny_bind (wpAny_pure (wpAny_pure ?_)))
  dsimp only
  refine wpAny_bind (symm_list L hl hP (by exact hh) ne (by simp only [Around.in1_units]; omega) fun er h' d tk m hI hy => ?_)
  exact wpAny_pure ⟨_, rfl, h er h' d tk m hI hy⟩
end

end
/-! SetL -/
section
open PySem PySem.W PyProof.Rows

section
variable {w : World} {A : Around} {E : Value → Shared → Prop} {s : Shared} {S : Addr} {o : Obj} {es : Array (Int × Value)} {ep : Nat} {t : SetTable} {x : Value}

theorem nameW_set : typeNameWhole (.type "set") = pure "set" := by kernel_rfl
theorem nameW_own (w : World) : peek (hd.heap_39 w.params) ⟨PR, w.params⟩ (typeNameWhole (.ref 232)) = some "OrderedSet" := by kernel_rfl
theorem nameC_set : typeNameCut 200 (.type "set") = pure "set" := by kernel_rfl
theorem nameC_own (w : World) : peek (hd.heap_39 w.params) ⟨PR, w.params⟩ (typeNameCut 200 (.ref 232)) = some "OrderedSet" := by kernel_rfl
theorem nameW_ok (L : SetLike w s.heap S o) : ∃ n, Looks (model PR w) s.heap (typeNameWhole o.cls) n := by
  rcases L.cls with e | e
  · exact ⟨_, by rw [e]; exact Looks.of_pure nameW_set⟩
  · exact ⟨_, by rw [e]; exact peekOn L.K (nameW_own w)⟩
theorem shown_ok (L : SetLike w s.heap S o) : Looks (model PR w) s.heap (shownTypeOf (.ref S)) o.cls := by
  unfold shownTypeOf
  refine L.type.andThen ?_
  rw [if_neg]
  · exact Looks.of_pure rfl
  · rcases L.cls with e | e <;> rw [e] <;> decide
theorem nameC_ok (L : SetLike w s.heap S o) : ∃ n, Looks (model PR w) s.heap (typeNameOfCut 200 (.ref S)) n := by
  unfold typeNameOfCut
  rcases L.cls with e | e
  · exact ⟨_, (shown_ok L).andThen (by rw [e]; exact Looks.of_pure nameC_set)⟩
  · exact ⟨_, (shown_ok L).andThen (by rw [e]; exact peekOn L.K (nameC_own w))⟩

theorem check_init_own (L : SetLike w s.heap S o) {a : Value} {Q : Unit → Shared → Prop} (hQ : Q () s) : wpAny (model PR w) A (checkBuiltinCall "set.__init__" ⟨[.ref S, a], []⟩) Q E s := by
  simp only [checkBuiltinCall, kind_set_init, split_set_init, sig_set_init]
  refine wpAny_bind (L.isSet.here ?_)
  simp only [Bool.not_true, Bool.false_eq_true, if_false]
  unfold Bind.checkArgs
  dsimp only
  refine wpAny_bind (m := Bind.printed "set" true _ _) (PyProof.Rows.printed_name (by decide) ?_)
  obtain ⟨n, hn⟩ := nameW_ok L
  have hpr : ∀ {sig : Manifest.Signature} {Q : String → Shared → Prop}, sig.receiver = .self → (∀ x, Q x s) → wpAny (model PR w) A (Bind.printed "*" false sig (some (.ref S))) Q E s := by
    intro sig Q hs h
    unfold Bind.printed Bind.receiverType
    rw [if_neg (by decide), hs]
    refine wpAny_bind (m := (if (Manifest.Receiver.self == Manifest.Receiver.cls) = true then pure (.ref S) else typeOf (.ref S))) ?_
    rw [if_neg (by decide)]
    exact L.type.here (wpAny_bind (hn.here (wpAny_pure (h _))))
  refine wpAny_bind (m := Bind.printed "*" false _ _) (hpr rfl fun short => ?_)
  have hrn : (Manifest.Receiver.self == Manifest.Receiver.none) = false := by decide
  have hn : (if (Manifest.Receiver.self == Manifest.Receiver.none) = true then [Value.ref S, a].length else [Value.ref S, a].length - 1) = 1 := by simp [hrn]
  rw [hn]
  simp only [List.map_nil]
  have hk1 : (Manifest.ParamKind.posOnly == Manifest.ParamKind.posOnly) = true := by decide
  have hk2 : (Manifest.ParamKind.posOnly == Manifest.ParamKind.posOrKw) = false := by decide
  have hk3 : (Manifest.ParamKind.posOnly == Manifest.ParamKind.varPos) = false := by decide
  have hc : Bind.check ⟨.positional, "set", "*", .self, [⟨"iterable", .posOnly, false⟩]⟩ "set" short 1 [] = pure () := by
    simp [Bind.check, Bind.checkCount, Bind.isPositional, hk1, hk2, hk3]
  rw [hc]
  exact wpAny_pure hQ

/-- set.__init__(S, list) where S is empty and unused -/
theorem init_body {l : Addr} {items : Array Value} {Q : Value → Shared → Prop} (L : SetAt w s.heap S o es ep t) (h0 : t.fill = 0) (hl : s.heap.IsList l items) (hP : ∀ v ∈ items, Pv v) (hh : A.handled = none) (hu : A.units + 7 < cLine) (ne : l ≠ S)
    (h : ∀ es' h' tk, Mod [S] s.heap h' → SetIs w S o es' h' → (∀ y, memS es' y ↔ (memS es y ∨ inFrom items 0 y)) → Q .none { s with heap := h', toks := tk }) :
    wpAny (model PR w) A (Builtin.«set.__init__» ⟨[.ref S, .ref l], []⟩) (fun fin s' => ∃ v, fin = .done (.ret v) ∧ Q v s') E s := by
  unfold Builtin.«set.__init__»
  refine wpAny_bind (m := noKeywords "set" _) (wpAny_pure ?_)
  obtain ⟨n, hn⟩ := nameC_ok L.like
  dsimp only
  refine wpAny_bind (hn.here ?_)
  refine wpAny_bind (m := checkCount _ _ _ _) (wpAny_pure ?_)
  refine wpAny_bind (wpAny_pure ?_)
  refine wpAny_bind ?_
  unfold setUsed
  refine wpAny_bind (wpAny_setState_of L.like.get L.data L.ok.fits (wpAny_pure ?_))
  dsimp only
  rw [if_neg (by simp [h0])]
  refine wpAny_bind (updateFrom_list L hl hP hh (by omega) ne fun es' h' tk m hI hy => ?_)
  exact wpAny_pure ⟨_, rfl, h es' h' tk m hI hy⟩
theorem call_init_list {l : Addr} {items : Array Value} {Q : Value → Shared → Prop} (L : SetAt w s.heap S o es ep t) (h0 : t.fill = 0) (hl : s.heap.IsList l items) (hP : ∀ v ∈ items, Pv v) (hh : A.handled = none) (hu : A.units + 8 < cLine) (ne : l ≠ S)
    (h : ∀ es' h' tk, Mod [S] s.heap h' → SetIs w S o es' h' → (∀ y, memS es' y ↔ (memS es y ∨ inFrom items 0 y)) → Q .none { s with heap := h', toks := tk }) :
    wpAny (model PR w) A (call (.builtin "set.__init__") [.ref S, .ref l]) Q E s := by
  refine wpAny_call (codeAny_call_builtin F.called_set.init.plain F.entry_set_init (check_init_own L.like (wpAny_mono (init_body L h0 hl hP (by exact hh) (by simp only [Around.in1_units]; omega) ne h) (fun fin s' h' => ?_) fun _ _ h' => h')))
  obtain ⟨v, rfl, hv⟩ := h'; exact hv

/-- set.remove(S, x) where it is not there: KeyError -/
theorem call_remove_missing (L : SetAt w s.heap S o es ep t) (hx : Pv x) (hh : A.handled = none) (hu : A.units + 4 < cLine) {Q : Value → Shared → Prop} (hm : ¬ memS es x)
    (h : ∀ h1 h' e tk, SetNow w S o es s.heap h1 → Heap.MadeExc h1 h' e "KeyError" [x] → E (.ref e) { s with heap := h', toks := tk }) : wpAny (model PR w) A (call (.builtin "set.remove") [.ref S, x]) Q E s := by
  refine L.like.call scall_remove (args_remove _ _) entry_remove ?_
  unfold Builtin.«set.remove» Builtin.Frozenset.oneOther
  simp only [List.isEmpty_nil, bind_assoc]
  unfold Builtin.Frozenset.addrOf Builtin.Frozenset.withSetAsKey
  refine wpAny_bind (wpAny_pure ?_)
  try dsimp only
  refine wpAny_bind (wpAny_pure ?_)
  try dsimp only
  refine wpAny_bind (wpAny_tryCatch ?_)
  unfold setDiscard
  refine wpAny_holding (wpAny_bind (hash_pool L.like.K hx (by simp only [Around.in1_units]; omega) fun tk => ?_))
  unfold setDiscardHashed
  refine wpAny_bind (find_ok (s := { s with toks := tk }) L.like.K L.like.get L.data L.ok hx (by simp only [Around.in1_units]; omega) (fun i e hi hc => absurd ⟨e, Array.mem_of_getElem? hi, hc⟩ hm) fun hn => ?_)
  refine wpAny_pure ?_
  simp only [Bool.not_false, if_true]
  refine wpAny_bind (wpAny_rule ?_)
  refine wpAny_bind (wpAny_newExc_plain plainExc_KeyError (fun h' e hx => ?_) (by rw [sizeLine_eq]; simp))
  exact wpAny_bind (wpAny_raiseNew_none hh (h s.heap h' e tk L.now hx))
end

end
/-! Os -/
section
open PySem PySem.W PyProof.Rows

abbrev A0 : Around := { depth := 950, units := 9000 }
abbrev A1 : Around := { depth := 900, units := 8000 }
abbrev A2 : Around := { depth := 800, units := 6000 }
abbrev A3 : Around := { depth := 700, units := 4000 }
abbrev A4 : Around := { depth := 600, units := 3000 }
/-- a contract used from a shallower place -/
theorem use_at {A A' : Around} {f : Value} {args : List Value} {w : World} {Q : Value → Shared → Prop} {E : Value → Shared → Prop} {s : Shared} (h : codeAny (model PR w) A (.call f ⟨args, []⟩) (wants Q E) s)
    (h1 : A'.handled = A.handled) (h2 : A'.depth ≤ A.depth) (h3 : A.frames = none) (h4 : A.guards = none) (h5 : A'.units ≤ A.units) : wpAny (model PR w) A' (call f args) Q E s :=
  wpAny_call (codeAny_le h h1 h2 (fun l q => by rw [h3] at q; cases q) (fun l q => by rw [h4] at q; cases q) h5)
abbrev dictE : Obj := { cls := .type "dict", data := .dict #[] }
abbrev setO (c : Value) (d : Option Addr) (es : Array (Int × Value)) (ep : Nat) (t : SetTable) (sl : Array (Option Value)) : Obj := { cls := c, dict := d, data := .set es ep t, slots := sl }

/-- the class of y is among ms -/
def inL (ms : List Value) (y : Value) : Prop := ∃ v ∈ ms, cl v = cl y
instance (ms : List Value) (y : Value) : Decidable (inL ms y) := inferInstanceAs (Decidable (∃ v ∈ ms, cl v = cl y))

structure SFact (w : World) (es : Array (Int × Value)) (t : SetTable) (P : Value → Prop) : Prop where
  ok : SetOK w es t
  mem : ∀ y, memS es y ↔ P y
theorem SFact.iff {w : World} {es : Array (Int × Value)} {t : SetTable} {P P' : Value → Prop} (f : SFact w es t P) (h : ∀ y, P y ↔ P' y) : SFact w es t P' := ⟨f.ok, fun y => (f.mem y).trans (h y)⟩

section
variable {w : World} {A : Around} {E : Value → Shared → Prop} {s : Shared} {g h h' : Heap} {L S : Addr} {m : Str → Option Value} {news news' : List (Addr × Obj)} {o o' : Obj}

theorem newK_of (X : (hd.heap_39 w.params).In g) {a : Addr} (n : g.get? a = none) : newK w a := by
  unfold newK
  cases q : (hd.heap_39 w.params).lookup a with
  | none => rfl
  | some o => rw [X a o q] at n; cases n

theorem fr_mod {Ss : List Addr} (F : Fr g L h m) (md : Mod Ss h h') (hL : L ∉ Ss) (hg : ∀ a ∈ Ss, g.get? a = none) : Fr g L h' m :=
  ⟨F.ns.at' fun o e => md L o e hL, fun b o e => md b o (F.keep b o e) fun q => (by rw [hg b q] at e; cases e), F.above⟩

/-- one object of the ledger changed -/
theorem led (F : Fr g L h m) (N : News g L h news) (md : Mod [S] h h') (U : Upd S o o' news news') (hS : h'.get? S = some o') : Fr g L h' m ∧ News g L h' news' := by
  obtain ⟨pre, post, rfl, rfl, a, b⟩ := U.split
  have z := N (S, o) (List.mem_append.mpr (.inr (.head _)))
  refine ⟨fr_mod F md (by simpa using fun q => z.2.1 q.symm) (by simpa using z.2.2), fun p hp => ?_⟩
  rcases List.mem_append.mp hp with q | q
  · have P := N p (List.mem_append_left _ q); exact ⟨md _ _ P.1 (by simpa using a p q), P.2⟩
  · rcases List.mem_cons.mp q with rfl | q
    · exact ⟨hS, z.2⟩
    · have P := N p (List.mem_append_right _ (.tail _ q)); exact ⟨md _ _ P.1 (by simpa using b p q), P.2⟩

/-- a new object on the ledger, nothing else changed -/
theorem led_new (F : Fr g L h m) (N : News g L h news) (md : Mod [] h h') {r : Addr} (hr : h.get? r = none) (hS : h'.get? r = some o') : Fr g L h' m ∧ News g L h' ((r, o') :: news) := by
  refine ⟨fr_mod F md (by simp) (by simp), fun p hp => ?_⟩
  rcases List.mem_cons.mp hp with rfl | q
  · refine ⟨hS, fun e => ?_, ?_⟩
    · obtain ⟨o, _, _, hL, _⟩ := F.ns
      dsimp only at e; rw [← e, hr] at hL; cases hL
    · dsimp only
      cases q : g.get? r with
      | none => rfl
      | some o => rw [F.keep _ _ q] at hr; cases hr
  · have P := N p q; exact ⟨md _ _ P.1 (by simp), P.2⟩

theorem setAt_news {c : Value} {d : Option Addr} {es : Array (Int × Value)} {ep : Nat} {t : SetTable} {sl : Array (Option Value)} {P : Value → Prop} (F : Fr g L h m) (X : (hd.heap_39 w.params).In g) (N : News g L h news) (hm : (S, setO c d es ep t sl) ∈ news) (hc : c = .type "set" ∨ c = .ref 232)
    (f : SFact w es t P) : SetAt w h S (setO c d es ep t sl) es ep t :=
  ⟨⟨(N _ hm).1, hc, X.keeps F.keep, newK_of X (N _ hm).2.2⟩, rfl, f.ok⟩
theorem setIs_get {c : Value} {d : Option Addr} {es es' : Array (Int × Value)} {ep : Nat} {t : SetTable} {sl : Array (Option Value)} (n : SetIs w S (setO c d es ep t sl) es' h') :
    ∃ ep' t', h'.get? S = some (setO c d es' ep' t' sl) ∧ SetOK w es' t' := let ⟨ep', t', l⟩ := n; ⟨ep', t', l.like.get, l.ok⟩

theorem inst_set {x C dx : Addr} {od : Obj} {es : Array (Int × Value)} {ep : Nat} {t : SetTable} {sl : Array (Option Value)} (N : News g L h news) (h1 : (x, (⟨.ref C, some dx, .set es ep t, sl⟩ : Obj)) ∈ news) (h2 : (dx, od) ∈ news) :
    PySem.W.InstAt h x ⟨.ref C, some dx, .set es ep t, sl⟩ C (some od) := ⟨(N _ h1).1, rfl, rfl, (N _ h2).1⟩

variable {c : Value} {d : Option Addr} {es : Array (Int × Value)} {ep : Nat} {t : SetTable} {sl : Array (Option Value)} {P : Value → Prop} {x : Value}

theorem k_in_set {Q : Value → Shared → Prop} (F : Fr g L s.heap m) (X : (hd.heap_39 w.params).In g) (N : News g L s.heap news) (hm : (S, setO c d es ep t sl) ∈ news) (hc : c = .type "set" ∨ c = .ref 232) (f : SFact w es t P) (hx : Pv x) (hu : A.units + 5 < cLine)
    (h : ∀ (b : Bool) tk, (b = true ↔ P x) → Q (.bool b) { s with toks := tk }) : wpAny (model PR w) A (compareOp .In x (.ref S)) Q E s :=
  in_set (setAt_news F X N hm hc f) hx hu fun b tk hb => h b tk (hb.trans (f.mem x))
theorem k_notin_set {Q : Value → Shared → Prop} (F : Fr g L s.heap m) (X : (hd.heap_39 w.params).In g) (N : News g L s.heap news) (hm : (S, setO c d es ep t sl) ∈ news) (hc : c = .type "set" ∨ c = .ref 232) (f : SFact w es t P) (hx : Pv x) (hu : A.units + 5 < cLine)
    (h : ∀ (b : Bool) tk, (b = true ↔ P x) → Q (.bool (!b)) { s with toks := tk }) : wpAny (model PR w) A (compareOp .NotIn x (.ref S)) Q E s :=
  notin_set (setAt_news F X N hm hc f) hx hu fun b tk hb => h b tk (hb.trans (f.mem x))
theorem k_add {Q : Value → Shared → Prop} {news' : Array (Int × Value) → Nat → SetTable → List (Addr × Obj)} (F : Fr g L s.heap m) (X : (hd.heap_39 w.params).In g) (N : News g L s.heap news) (hm : (S, setO c d es ep t sl) ∈ news) (hc : c = .type "set" ∨ c = .ref 232) (f : SFact w es t P) (hx : Pv x) (hu : A.units + 4 < cLine)
    (U : ∀ es' ep' t', Upd S (setO c d es ep t sl) (setO c d es' ep' t' sl) news (news' es' ep' t'))
    (h : ∀ es' ep' t' h' tk, SFact w es' t' (fun y => cl x = cl y ∨ P y) → Fr g L h' m → News g L h' (news' es' ep' t') → Q .none { s with heap := h', toks := tk }) : wpAny (model PR w) A (call (.builtin "set.add") [.ref S, x]) Q E s :=
  call_add (setAt_news F X N hm hc f) hx hu fun es' h' tk hn hi => by
    have md := hn.mod
    obtain ⟨ep', t', hg, ok⟩ := setIs_get hn.is
    obtain ⟨F', N'⟩ := led F N md (U es' ep' t') hg
    exact h es' ep' t' h' tk ⟨ok, fun y => (hi y).trans (or_congr_right (f.mem y))⟩ F' N'
end

end
local macro_rules | `(tactic| k_inst) => `(tactic| (refine' inst_set ?N ?h1 ?h2; (case N => k_asm); (case h1 => k_mem); (case h2 => k_mem)))
local macro_rules | `(tactic| k_ne) => `(tactic| (refine neN ?_; (try dsimp only); first | assumption | exact Ne.symm (by assumption) | exact Nat.ne_of_lt (by assumption) | exact Nat.ne_of_gt (by assumption)))
/-! Own -/
section
open PySem PySem.W PyProof.Rows Builtin Builtin.ObjectAttr

theorem f_ga (w : World) : findIn (hd.heap_39 w.params) (.ref 232) "__getattribute__" = some (some (.builtin "set.__getattribute__")) := by kernel_rfl
theorem f_gattr (w : World) : findIn (hd.heap_39 w.params) (.ref 232) "__getattr__" = some none := by kernel_rfl
theorem canon_sga : (Manifest.canonical "set.__getattribute__" != "object.__getattribute__") = false := by decide +kernel
theorem obj_list (w : World) (od : Option Obj) : findObj (hd.heap_39 w.params) 232 od "_list" = some (.bind (.builtin "member_descriptor.__get__") (.ref 233)) := by kernel_rfl
theorem obj_class (w : World) (od : Option Obj) : findObj (hd.heap_39 w.params) 232 od "__class__" = some (.bind (.builtin "getset_descriptor.__get__") (.builtin "object.__class__")) := by kernel_rfl
theorem slot_list (w : World) : PySem.W.slotIn (hd.heap_39 w.params) 233 232 = some 0 := by kernel_rfl
theorem oga_eq (self : Value) (name : Str) (tk : Tok) : Builtin.«object.__getattribute__» ⟨[self, .str name tk], []⟩ = (typeOf self >>= fun tp => find self tp name >>= fun r => match r with
  | .value v => ret v
  | .bind g a => bindTo g a self tp
  | .missing => do
    if tp == .type "module" then
      if ← isOpaqueModuleObj self then
        let byTheModulesOwnEntry := match (← stack).drop 1 with
          | (.builtin "module.__getattribute__" ⟨m :: _, _⟩, _) :: _ => m == self
          | _ => false
        if !byTheModulesOwnEntry then unsupported "thirdparty:object.__getattribute__:a-miss-on-an-opaque-module"
    if tp == .type "type" then
      if let some key ← opaqueClassAbove self then unsupported s!"thirdparty:{key.toString}.{name.toString}:object.__getattribute__-misses-on-an-opaque-class"
    noSuchAttribute self name) := by kernel_rfl

section
variable {w : World} {A : Around} {E : Value → Shared → Prop} {s : Shared} {x : Addr} {ox : Obj} {od : Option Obj} {name : Str} {expr : Bool}

/-- an attribute of an ordered set that the class binds -/
theorem own_bind {a : Value} {g : String} {Q : Value → Shared → Prop} (X : (hd.heap_39 w.params).In s.heap) (I : PySem.W.InstAt s.heap x ox 232 od) (hf : findObj (hd.heap_39 w.params) 232 od name = some (.bind (.builtin g) a))
    (h : wpAny (model PR w) A.in1 (call (.builtin g) [a, .ref x, .ref 232]) (fun v s' => wpAny (model PR w) A (handedOut v) Q E s') (fun _ _ => False) { s with toks := s.toks + 1 }) :
    wpAny (model PR w) A (getAttr (.ref x) name expr) Q E s := by
  obtain ⟨hh, gg, d, t, os⟩ := s
  have L0 := I.type (M := model PR w)
  have L1 := looks_findIn (M := model PR w) X (f_ga w)
  have L2 := looks_findIn (M := model PR w) X (f_gattr w)
  have L3 := looks_find (M := model PR w) X I hf
  have L4 : Looks (model PR w) hh (isInstance (.ref x) (.type "set")) true := L0.andThen (looks_mroIn X (mro232 w))
  unfold getAttr getAttrBy
  refine wpAny_bind (wpAny_mkText (wpAny_holding (wpAny_bind (L0.at (wpAny_bind (L1.at ?_))))))
  dsimp only
  rw [show (onTheHeap (.ref 232) && Value.builtin "set.__getattribute__" == Value.builtin "object.__getattribute__") = false from by rw [show (Value.builtin "set.__getattribute__" == Value.builtin "object.__getattribute__") = false from by decide +kernel, Bool.and_false], if_neg (by decide)]
  unfold getAttrByItsOwn hookBefore
  rw [if_pos (show onTheHeap (Value.ref 232) = true from rfl)]
  refine wpAny_bind (L2.at (wpAny_bind (wpAny_attempt (wpAny_holding ?_))))
  unfold callGetattribute
  rw [show (expr && onTheHeap (Value.builtin "set.__getattribute__")) = false from Bool.and_false _, if_neg (by decide)]
  unfold boundAndCalled
  rw [F.slot_set_getattribute.bind]
  refine wpAny_bind (wpAny_pure ?_)
  show wpAny _ _ (call (.builtin "set.__getattribute__") [.ref x, .str name t]) _ _ _
  refine wpAny_call ?_
  refine codeAny_call_builtin F.slot_set_getattribute.plain F.entry_set_ga ?_
  refine @check_slot (model PR w) _ _ ⟨hh, gg, d, t + 1, os⟩ "set.__getattribute__" "set" "__getattribute__" (.ref x) [.str name t] [] _ (by decide +kernel) (by decide +kernel) L4 (F.args_set_getattribute_2 (.ref x) (.str name t)) ?_
  rw [oga_eq]
  refine wpAny_bind (L0.at (wpAny_bind (L3.at ?_)))
  dsimp only
  unfold bindTo
  show wpAny _ _ (holding [a] (call (.builtin g) [a, .ref x, .ref 232]) >>= ret) _ _ _
  exact wpAny_bind (wpAny_holding (wpAny_mono h (fun v s' z => wpAny_pure z) fun _ _ z => z.elim))

/-- self._list -/
theorem own_list {v : Value} {Q : Value → Shared → Prop} (X : (hd.heap_39 w.params).In s.heap) (I : PySem.W.InstAt s.heap x ox 232 od) (hv : (ox.slots[0]?).join = some v) (hh : handedIn v = true) (h : Q v { s with toks := s.toks + 1 }) :
    wpAny (model PR w) A (getAttr (.ref x) "_list" expr) Q E s :=
  own_bind X I (obj_list w od) (wpAny_call (slot_get (s := { s with toks := s.toks + 1 }) X I (slot_list w) hv (handed_on hh h)))

/-- a method of one's own -/
theorem own_method {f : Addr} {pl : Sem Bool} {Q : Value × List Value → Shared → Prop} (X : (hd.heap_39 w.params).In s.heap) (I : PySem.W.InstAt s.heap x ox 232 od)
    (hf : findIn (hd.heap_39 w.params) (.ref 232) name = some (some (.ref f))) (ht : typeIn (hd.heap_39 w.params) (.ref f) = some (.type "function")) (hs : shadowIn od name = some false) (h : Q (.ref f, [.ref x]) s) :
    wpAny (model PR w) A (getMethod (.ref x) name pl) Q E s := by
  unfold getMethod specialOf
  refine wpAny_bind (wpAny_bind (I.type.here ((looks_findIn X (f_ga w)).here ?_)))
  dsimp only
  rw [canon_sga, if_neg (by decide)]
  refine wpAny_bind (wpAny_bind (I.type.here ((looks_findIn X (f_gattr w)).here ?_)))
  refine wpAny_bind (wpAny_bind (I.type.here ((looks_findIn X hf).here (wpAny_bind ((looks_typeIn X ht).here ?_)))))
  rw [if_neg (by decide +kernel)]
  refine wpAny_bind (wpAny_loadPart I.at_ ?_)
  have hd := I.dict
  cases e : ox.dict with
  | none => exact wpAny_bind (wpAny_rule (wpAny_pure h))
  | some dx =>
    cases od with
    | none => rw [e] at hd; exact hd.elim
    | some o =>
      rw [e] at hd
      obtain ⟨r, a, b⟩ := Option.map_eq_some_iff.mp hs
      refine wpAny_bind (wpAny_bind (wpAny_loadPart hd ?_))
      rw [nsLook_of a]
      refine wpAny_pure ?_
      rw [b]
      exact wpAny_bind (wpAny_rule (wpAny_pure h))

theorem refuse_own (self : Value) : refuseLoop self "__setattr__" [.ref 232, .type "set", .type "object"] = pure () := by
  rw [refuseLoop_ref]
  kernel_rfl
theorem cls232 (w : World) : ∃ cd, clsIn (hd.heap_39 w.params) 232 = some cd ∧ cd.mro = [.ref 232, .type "set", .type "object"] := ⟨_, rfl, rfl⟩
theorem taker_list (w : World) : takerIn (hd.heap_39 w.params) 232 "_list" = some (some (.ref 233)) := by kernel_rfl
theorem ty233 (w : World) : typeIn (hd.heap_39 w.params) (.ref 233) = some (.type "member_descriptor") := by kernel_rfl
theorem f_setattr (w : World) : findIn (hd.heap_39 w.params) (.ref 232) "__setattr__" = some (some (.builtin "object.__setattr__")) := by kernel_rfl

theorem own_osa {r : Option Value} {v : Value} {tk : Tok} {R : Result → Shared → Prop} (X : (hd.heap_39 w.params).In s.heap) (I : PySem.W.InstAt s.heap x ox 232 od) (ht : takerIn (hd.heap_39 w.params) 232 name = some r)
    (h : ∀ b, wpAny (model PR w) A.in1 (match r with | some a => setByDescriptor a (.ref x) v | none => storeInOwnDict (.ref x) (.ref 232) (.str name tk) name v b)
      (fun fin s' => match fin with | .done f => R (.ok f) s' | .again c' => c'.quiet = true ∧ codeAny (model PR w) A c' R s') (fun e s' => R (.error e) s') s) :
    codeAny (model PR w) A (.call (.builtin "object.__setattr__") ⟨[.ref x, .str name tk, v], []⟩) R s := by
  have SF := PySem.F.store_object
  obtain ⟨cd, hc, ho⟩ := cls232 w
  have sub : Looks (model PR w) s.heap (isInstance (.ref x) (.type "object")) true := I.type.andThen (looks_mroIn X (by unfold mroIn; rw [hc, Option.bind_some, ho]; rfl))
  refine codeAny_call_builtin SF.slot.plain SF.entry (@check_slot (model PR w) _ _ s "object.__setattr__" "object" "__setattr__" (.ref x) [.str name tk, v] [] _ SF.kind SF.split sub (SF.args (.ref x) (.str name tk) v) ?_)
  obtain ⟨attr, ha, hr⟩ := Option.bind_eq_some_iff.mp ht
  have hm : Looks (model PR w) s.heap (mroOf (.ref 232)) cd.mro := (looks_clsIn X hc).andThen .now
  have L3 : Looks (model PR w) s.heap (storeTaker? attr) r := by
    cases attr with
    | none => cases hr; exact .now
    | some a =>
      obtain ⟨b, hb, rfl⟩ := Option.map_eq_some_iff.mp hr
      refine (looks_takesIn X hb).andThen ?_
      cases b <;> exact .now
  rw [osa_eq, refuse_eq]
  refine wpAny_bind (wpAny_bind (I.type.here (wpAny_bind (hm.here ?_))))
  rw [ho, refuse_own]
  refine wpAny_pure (wpAny_bind (I.type.here (wpAny_bind ((looks_findIn X ha).here (wpAny_bind (L3.here ?_))))))
  exact h _
theorem own_osa_descr {v : Value} {p : Addr} {T i : String} {tk : Tok} {R : Result → Shared → Prop} (S : Slot T "__set__" i) (X : (hd.heap_39 w.params).In s.heap) (I : PySem.W.InstAt s.heap x ox 232 od) (ht : takerIn (hd.heap_39 w.params) 232 name = some (some (.ref p)))
    (hT : typeIn (hd.heap_39 w.params) (.ref p) = some (.type T)) (h : codeAny (model PR w) A.in1 (.call (.builtin i) ⟨[.ref p, .ref x, v], []⟩) (fun r s' => match r with | .ok (.ret _) => R (.ok (.ret .none)) s' | .ok _ => False | .error e => R (.error e) s') s) :
    codeAny (model PR w) A (.call (.builtin "object.__setattr__") ⟨[.ref x, .str name tk, v], []⟩) R s := by
  refine own_osa X I ht fun _ => ?_
  refine wpAny_bind (wpAny_rule (wpAny_bind (wpAny_holding (wpAny_bind (wpAny_bind ((looks_typeIn X hT).here ((Looks.of_pure S.lookup).here (wpAny_holding ?_))))))))
  rw [S.bind]
  refine wpAny_bind (wpAny_pure (wpAny_bind (wpAny_call (codeAny_mono h fun r s' z => ?_))))
  rcases r with e | (v | _ | _ | _) <;> first | exact z | exact wpAny_pure (wpAny_pure z)
theorem own_store {g : Heap} {L : Addr} {m : Str → Option Value} {news news' : List (Addr × Obj)} {ox' : Obj} {v : Value} {Q : Unit → Shared → Prop} (F : Fr g L s.heap m) (X₀ : (hd.heap_39 w.params).In g) (N : News g L s.heap news) (I : PySem.W.InstAt s.heap x ox 232 od)
    (e : { ox with slots := (ox.slots ++ Array.replicate (0 + 1 - ox.slots.size) none).setIfInBounds 0 (some v) } = ox') (hf : ox'.isFreed = false) (U : Upd x ox ox' news news')
    (h : ∀ h', Fr g L h' m → News g L h' news' → Q () { s with heap := h', toks := s.toks + 1 }) : wpAny (model PR w) A (setAttr (.ref x) "_list" v) Q E s := by
  obtain ⟨pre, post, rfl, rfl, a, b⟩ := U.split
  exact set_plain (X₀.keeps F.keep) I (f_setattr w) (own_osa_descr (s := { s with toks := s.toks + 1 }) KF.slot_mset (X₀.keeps F.keep) I (taker_list w) (ty233 w) (slot_set (s := { s with toks := s.toks + 1 }) F N (X₀.keeps F.keep) I (slot_list w) (by decide) a b e hf fun h' F' N' => h h' F' N'))
end

end
local macro_rules | `(tactic| walk_at "getAttr ref") => `(tactic| (k_here; (with_reducible show wpAny _ _ (getAttr (Value.ref _) (PySem.Str.ofString "_list") _) _ _ _); k_dflt (refine' own_list ?k1 ?k2 ?k3 ?k4 ?_; (case k1 => k_in); (case k2 => k_inst); (case k3 => k_slotget); (case k4 => k_handed); k_whole)))
local macro_rules | `(tactic| walk_at "getMethod ref") => `(tactic| (k_here; k_dflt (refine' own_method ?k1 ?k2 ?k3 ?k4 ?k5 ?_; (case k1 => k_in); (case k2 => k_inst); (case k3 => k_is); (case k4 => k_is); (case k5 => rfl); k_whole)))
local macro_rules | `(tactic| walk_at "setAttr ref") => `(tactic| (k_here; (with_reducible show wpAny _ _ (setAttr (Value.ref _) (PySem.Str.ofString "_list") _) _ _ _); k_dflt (refine' own_store ?k1 ?k2 ?k3 ?k4 ?k5 ?k6 ?k7 ?_; (case k1 => k_asm); (case k2 => k_asm); (case k3 => k_asm); (case k4 => k_inst); (case k5 => k_slotset); (case k6 => exact rfl); (case k7 => k_upd); k_whole); intro h' F' N'; (try k_sweep)))
local macro_rules | `(tactic| walk_at "compareOp In") => `(tactic| (k_here; (with_reducible show wpAny _ _ (compareOp CmpOp.In _ (Value.ref _)) _ _ _); k_dflt (refine' k_in_set ?k1 ?k2 ?k3 ?k4 ?k5 ?k6 ?k7 ?k8 ?_; (case k1 => k_asm); (case k2 => k_asm); (case k3 => k_asm); (case k4 => k_mem); (case k5 => first | exact .inl rfl | exact .inr rfl); (case k6 => k_asm); (case k7 => k_asm); (case k8 => k_units); k_whole); intro b tk hb; cases b))
local macro_rules | `(tactic| walk_at "compareOp NotIn") => `(tactic| (k_here; (with_reducible show wpAny _ _ (compareOp CmpOp.NotIn _ (Value.ref _)) _ _ _); k_dflt (refine' k_notin_set ?k1 ?k2 ?k3 ?k4 ?k5 ?k6 ?k7 ?k8 ?_; (case k1 => k_asm); (case k2 => k_asm); (case k3 => k_asm); (case k4 => k_mem); (case k5 => first | exact .inl rfl | exact .inr rfl); (case k6 => k_asm); (case k7 => k_asm); (case k8 => k_units); k_whole); intro b tk hb; cases b))
local macro_rules | `(tactic| walk_at "call builtin:set.add") => `(tactic| (k_here; (with_reducible show wpAny _ _ (call (Value.builtin "set.add") [Value.ref _, _]) _ _ _); k_dflt (refine' k_add ?k1 ?k2 ?k3 ?k4 ?k5 ?k6 ?k7 ?k8 ?k9 ?_; (case k1 => k_asm); (case k2 => k_asm); (case k3 => k_asm); (case k4 => k_mem); (case k5 => first | exact .inl rfl | exact .inr rfl); (case k6 => k_asm); (case k7 => k_asm); (case k8 => k_units); (case k9 => intro _ _ _; k_upd); k_whole); intro es' ep' t' h' tk f' F' N'; (try k_sweep)))
section
open PySem PySem.W PyProof.Rows Builtin Builtin.ObjectAttr
/-- the walk stands still here -/
def Halt (p : Prop) : Prop := p
theorem halt {p : Prop} (h : Halt p) : p := h

theorem halt_out {p : Prop} (h : p) : Halt p := h
end
local macro_rules | `(tactic| walk_at "call ref") => `(tactic| (k_here; (first | (with_reducible show wpAny _ _ (call (Value.ref 28) _) _ _ _) | (with_reducible show wpAny _ _ (call (Value.ref 44) _) _ _ _) | (with_reducible show wpAny _ _ (call (Value.ref 51) _) _ _ _) | (with_reducible show wpAny _ _ (call (Value.ref 58) _) _ _ _) | (with_reducible show wpAny _ _ (call (Value.ref 65) _) _ _ _) | (with_reducible show wpAny _ _ (call (Value.ref 72) _) _ _ _) | (with_reducible show wpAny _ _ (call (Value.ref 79) _) _ _ _) | (with_reducible show wpAny _ _ (call (Value.ref 86) _) _ _ _) | (with_reducible show wpAny _ _ (call (Value.ref 93) _) _ _ _) | (with_reducible show wpAny _ _ (call (Value.ref 107) _) _ _ _) | (with_reducible show wpAny _ _ (call (Value.ref 114) _) _ _ _) | (with_reducible show wpAny _ _ (call (Value.ref 128) _) _ _ _) | (with_reducible show wpAny _ _ (call (Value.ref 135) _) _ _ _) | (with_reducible show wpAny _ _ (call (Value.ref 142) _) _ _ _) | (with_reducible show wpAny _ _ (call (Value.ref 149) _) _ _ _) | (with_reducible show wpAny _ _ (call (Value.ref 156) _) _ _ _) | (with_reducible show wpAny _ _ (call (Value.ref 161) _) _ _ _) | (with_reducible show wpAny _ _ (call (Value.ref 168) _) _ _ _) | (with_reducible show wpAny _ _ (call (Value.ref 173) _) _ _ _) | (with_reducible show wpAny _ _ (call (Value.ref 180) _) _ _ _) | (with_reducible show wpAny _ _ (call (Value.ref 185) _) _ _ _) | (with_reducible show wpAny _ _ (call (Value.ref 192) _) _ _ _) | (with_reducible show wpAny _ _ (call (Value.ref 197) _) _ _ _) | (with_reducible show wpAny _ _ (call (Value.ref 204) _) _ _ _) | (with_reducible show wpAny _ _ (call (Value.ref 209) _) _ _ _) | (with_reducible show wpAny _ _ (call (Value.ref 216) _) _ _ _) | (with_reducible show wpAny _ _ (call (Value.ref 221) _) _ _ _) | (with_reducible show wpAny _ _ (call (Value.ref 228) _) _ _ _)); refine halt ?_))
/-! C0 -/
section
open PySem PySem.W PyProof.Rows

theorem meta_set : typeOf (.type "set") = pure (.type "type") := by kernel_rfl
end
local macro_rules | `(tactic| walk_at "getMethod type:set") => `(tactic| (k_here; refine' method_type ?F ?X ?m (by decide +kernel) ?e ?h ?_; (case F => k_asm); (case X => k_asm); (case m => exact meta_set); (case e => k_dflt k_is); (case h => k_handed)))
section
open PySem PySem.W PyProof.Rows

/-- an ordered set: its set at S, its dict at dx, its list at l -/
structure OSet (w : World) (h : Heap) (S dx l : Addr) (ms : List Value) : Prop where
  ex : ∃ es ep t e, h.get? S = some (setO (.ref 232) (some dx) es ep t #[some (.ref l)]) ∧ h.get? dx = some dictE ∧ h.get? l = some (PySem.W.listOf ms.toArray e) ∧ SFact w es t (inL ms)
  pv : ∀ v ∈ ms, Pv v
  nd : (ms.map cl).Nodup

theorem nodup_range : ∀ (n : Nat) (l : List Nat), l.Nodup → (∀ x ∈ l, x < n) → l.length ≤ n := by
  intro n
  induction n with
  | zero => intro l _ h; cases l with | nil => simp | cons a r => exact absurd (h a (.head _)) (by omega)
  | succ n ih =>
    intro l hn h
    have := ih (l.erase n) (hn.erase n) fun x hx => by
      have h1 := h x (List.mem_of_mem_erase hx)
      have h2 : x ≠ n := fun e => by subst e; exact (List.Nodup.not_mem_erase hn) hx
      omega
    have h3 := List.le_length_erase (l := l) (a := n)
    omega
theorem len5 {ms : List Value} (pv : ∀ v ∈ ms, Pv v) (nd : (ms.map cl).Nodup) : ms.length ≤ 5 := by
  have := nodup_range 5 (ms.map cl) nd fun x hx => by obtain ⟨v, hv, rfl⟩ := List.mem_map.mp hx; exact cl_lt (pv v hv)
  simpa using this

/-- one more at the end, unless it is there -/
def addL (ms : List Value) (x : Value) : List Value := if inL ms x then ms else ms ++ [x]
theorem inL_map {ms : List Value} {x : Value} : inL ms x ↔ cl x ∈ ms.map cl := by
  unfold inL; rw [List.mem_map]
theorem inL_append {a b : List Value} {y : Value} : inL (a ++ b) y ↔ inL a y ∨ inL b y := by
  simp only [inL_map, List.map_append, List.mem_append]
theorem inL_one {x y : Value} : inL [x] y ↔ cl x = cl y := by
  simp [inL]
theorem inL_same {ms : List Value} {x y : Value} (h : cl x = cl y) : inL ms x ↔ inL ms y := by simp only [inL_map, h]
theorem inL_addL {ms : List Value} {x y : Value} : inL (addL ms x) y ↔ (cl x = cl y ∨ inL ms y) := by
  unfold addL
  by_cases h : inL ms x
  · rw [if_pos h]
    refine ⟨.inr, ?_⟩
    rintro (e | e)
    · exact (inL_same e).mp h
    · exact e
  · rw [if_neg h, inL_append, inL_one, or_comm]
theorem pv_addL {ms : List Value} {x : Value} (h : ∀ v ∈ ms, Pv v) (hx : Pv x) : ∀ v ∈ addL ms x, Pv v := by
  unfold addL
  split
  · exact h
  · intro v hv
    rcases List.mem_append.mp hv with q | q
    · exact h v q
    · rw [List.mem_singleton.mp q]; exact hx
theorem nd_snoc {ms : List Value} {x : Value} (h : (ms.map cl).Nodup) (hx : ¬ inL ms x) : ((ms ++ [x]).map cl).Nodup := by
  rw [List.map_append, List.nodup_append]
  refine ⟨h, by simp, ?_⟩
  rintro a ha b hb rfl
  simp only [List.map_cons, List.map_nil, List.mem_singleton] at hb
  exact hx (inL_map.mpr (hb ▸ ha))
theorem nd_addL {ms : List Value} {x : Value} (h : (ms.map cl).Nodup) : ((addL ms x).map cl).Nodup := by
  unfold addL
  split
  · exact h
  · rename_i q; exact nd_snoc h q

theorem neObj {h : Heap} {a b : Addr} {o o' : Obj} (ha : h.get? a = some o) (hb : h.get? b = some o') (hc : o ≠ o') : a ≠ b := fun e => by subst e; rw [ha] at hb; exact hc (Option.some.inj hb)
theorem set_ne_list {c : Value} {d : Option Addr} {es : Array (Int × Value)} {ep : Nat} {t : SetTable} {sl : Array (Option Value)} {its : Array Value} {e : Nat} : setO c d es ep t sl ≠ PySem.W.listOf its e := fun h => nomatch congrArg Obj.data h
theorem set_ne_dict {c : Value} {d : Option Addr} {es : Array (Int × Value)} {ep : Nat} {t : SetTable} {sl : Array (Option Value)} : setO c d es ep t sl ≠ dictE := fun h => nomatch congrArg Obj.data h
theorem dict_ne_list {its : Array Value} {e : Nat} : dictE ≠ PySem.W.listOf its e := fun h => nomatch congrArg Obj.data h
theorem sz5 {ms : List Value} (pv : ∀ v ∈ ms, Pv v) (nd : (ms.map cl).Nodup) : ms.toArray.size ≤ sizeLine := by
  have := len5 pv nd
  rw [List.size_toArray, sizeLine_eq]; omega
theorem szL {ms : List Value} (h : ms.length ≤ 1000) : ms.toArray.size ≤ sizeLine := by rw [List.size_toArray, sizeLine_eq]; omega
end
local macro_rules | `(tactic| size_fits) => `(tactic| assumption)
/-! Ls1 -/
section
open PySem PySem.W PyProof.Rows

/-- what is left when the first thing equal to x is taken out -/
def remL (ms : List Value) (x : Value) : List Value := ms.eraseP (fun v => decide (cl v = cl x))

theorem listAt {h : Heap} {l : Addr} {its : Array Value} {e : Nat} (hl : h.get? l = some (PySem.W.listOf its e)) : (h.IsList l its) := ⟨_, hl, rfl, e, rfl⟩

section
variable {w : World} {A : Around} {E : Value → Shared → Prop} {s : Shared} {l : Addr} {items : Array Value} {e : Nat} {x : Value} {R : Result → Shared → Prop}

theorem remove_loop' (hP : ∀ v ∈ items, Pv v) (hx : Pv x) (hu : A.units + 3 < cLine) (hs1 : items.size ≤ sizeLine) (X : (hd.heap_39 w.params).In s.heap) (hl : s.heap.get? l = some (PySem.W.listOf items e)) (j : Nat) (hj : j < items.size) (hit : cl items[j] = cl x) :
    ∀ k i : Nat, j - i = k → i ≤ j → (∀ m (hm : m < items.size), i ≤ m → m < j → cl items[m] ≠ cl x) →
      R (.ok (.ret .none)) { s with heap := s.heap.update l (Obj.mapSeq fun xs => xs.eraseIdxIfInBounds j) } →
      codeAny (model PR w) A (.builtin "list.remove.loop" ⟨[.ref l, x, rawInt i], []⟩) R s := by
  intro k
  induction k with
  | zero =>
    intro i hk hij hno h
    have hij' : i = j := by omega
    subst hij'
    refine codeAny_builtin PySem.MeetsSeq.entry_remove_loop ?_
    rw [Around.under_plainId PySem.MeetsSeq.plain_remove_loop _]
    have hi : items[((i : Nat) : Int).toNat]? = some items[i] := by simp [hj]
    have he := eq_pool (w := w) (A := A.in1) (E := fun e s' => R (.error e) s') (s := s) (Q := fun b s' => b = true ∧ s' = s) X (hP _ (Array.getElem_mem hj)) hx (by simp only [Around.in1_units]; omega) ⟨by simp [hit], rfl⟩
    have hz' : (items.eraseIdxIfInBounds i).size ≤ sizeLine + 1 := Nat.le_trans (PySem.MeetsSeq.size_erased items _) (Nat.le_succ_of_le hs1)
    obtain ⟨hp, g, d, tk, os⟩ := s
    dsimp only at hl X
    wp_walk using wpAny_loadPart' hl
    rw [hi]
    refine wpAny_bind (wpAny_mono he (fun b s' q => ?_) fun _ _ q => q)
    obtain ⟨rfl, rfl⟩ := q
    wp_walk using (wpAny_updateSeq hl rfl (hz := hs1) (_hz' := hz')), wpAny_loadPart' hl
    simpa using h
  | succ k ih =>
    intro i hk hij hno h
    have hlt : i < items.size := by omega
    have IH := ih (i + 1) (by omega) (by omega) (fun m hm h1 h2 => hno m hm (by omega) h2) h
    refine codeAny_builtin PySem.MeetsSeq.entry_remove_loop ?_
    rw [Around.under_plainId PySem.MeetsSeq.plain_remove_loop _]
    have hi : items[((i : Nat) : Int).toNat]? = some items[i] := by simp [hlt]
    have hc : ((i : Int) + 1) = ((i + 1 : Nat) : Int) := by push_cast; rfl
    have he := eq_pool (w := w) (A := A.in1) (E := fun e s' => R (.error e) s') (s := s) (Q := fun b s' => b = false ∧ s' = s) X (hP _ (Array.getElem_mem hlt)) hx (by simp only [Around.in1_units]; omega) ⟨by simp [hno i hlt (Nat.le_refl _) (by omega)], rfl⟩
    obtain ⟨hp, g, d, tk, os⟩ := s
    dsimp only at hl X IH
    wp_walk using wpAny_loadPart' hl
    rw [hi]
    refine wpAny_bind (wpAny_mono he (fun b s' q => ?_) fun _ _ q => q)
    obtain ⟨rfl, rfl⟩ := q
    wp_walk
    rw [hc]
    exact ⟨plainId_quiet PySem.MeetsSeq.plain_remove_loop _, IH⟩

theorem eqAt_pool (X : (hd.heap_39 w.params).In s.heap) {y : Value} (hy : Pv y) (hx : Pv x) (hu : A.units + 2 < cLine) : PySem.SeqAt.EqAt A s y x (decide (cl y = cl x)) := fun prog w' E Q h => by
  have a := canLay_of hy
  have b := canLay_of hx
  refine PySem.SeqAt.eqBoolOverData prog w' A E s y x (pd y) (pd x) [] [] Q (reads_pool X hy) (reads_pool X hx) a.1 b.1 (by omega) ?_
  rw [eqv_of hy hx]; exact h
theorem any_inL (ms : List Value) (x : Value) : (ms.toArray.any fun y => decide (cl y = cl x)) = decide (inL ms x) := by
  rw [List.any_toArray]
  by_cases h : inL ms x
  · rw [decide_eq_true h]
    obtain ⟨v, hv, e⟩ := h
    exact List.any_eq_true.mpr ⟨v, hv, by simp [e]⟩
  · rw [decide_eq_false h]
    refine List.any_eq_false.mpr fun v hv => ?_
    simp only [decide_eq_true_eq]
    exact fun e => h ⟨v, hv, e⟩
theorem in_plist {ms : List Value} {Q : Value → Shared → Prop} (X : (hd.heap_39 w.params).In s.heap) (hl : s.heap.IsList l ms.toArray) (hP : ∀ v ∈ ms, Pv v) (hx : Pv x) (hu : A.units + 3 < cLine) (h : Q (.bool (decide (inL ms x))) s) :
    wpAny (model PR w) A (compareOp .In x (.ref l)) Q E s := by
  refine PySem.SeqAt.in_listAt (fun y => decide (cl y = cl x)) hl (fun y hy => eqAt_pool X (hP y (by simpa using hy)) hx (by simp only [Around.in1_units]; omega)) ?_
  rw [any_inL]; exact h
theorem notin_plist {ms : List Value} {Q : Value → Shared → Prop} (X : (hd.heap_39 w.params).In s.heap) (hl : s.heap.IsList l ms.toArray) (hP : ∀ v ∈ ms, Pv v) (hx : Pv x) (hu : A.units + 3 < cLine) (h : Q (.bool (!decide (inL ms x))) s) :
    wpAny (model PR w) A (compareOp .NotIn x (.ref l)) Q E s := by
  refine PySem.SeqAt.notIn_listAt (fun y => decide (cl y = cl x)) hl (fun y hy => eqAt_pool X (hP y (by simpa using hy)) hx (by simp only [Around.in1_units]; omega)) ?_
  rw [any_inL]; exact h

theorem eraseP_idx : ∀ (ms : List Value) (p : Value → Bool) (j : Nat), ms.findIdx? p = some j → ms.eraseP p = ms.eraseIdx j
  | [], _, _, h => by simp at h
  | a :: r, p, j, h => by
    rw [List.findIdx?_cons] at h
    by_cases q : p a = true
    · rw [if_pos q] at h; cases h; simp [q]
    · rw [if_neg q] at h
      obtain ⟨k, hk, rfl⟩ := Option.map_eq_some_iff.mp h
      rw [List.eraseP_cons_of_neg q, eraseP_idx r p k hk]; rfl

/-- list.remove(l, x), where it is there -/
theorem remove_list {ms : List Value} {Q : Value → Shared → Prop} (X : (hd.heap_39 w.params).In s.heap) (hl : s.heap.get? l = some (PySem.W.listOf ms.toArray e)) (hP : ∀ v ∈ ms, Pv v) (hx : Pv x) (hm : inL ms x) (hs1 : ms.toArray.size ≤ sizeLine) (hu : A.units + 3 < cLine)
    (h : ∀ h', Heap.SameBut l s.heap h' → h'.get? l = some (PySem.W.listOf (remL ms x).toArray (e + 1)) → Q .none { s with heap := h' }) : wpAny (model PR w) A (call (.builtin "list.remove") [.ref l, x]) Q E s := by
  obtain ⟨j, hj⟩ : ∃ j, ms.findIdx? (fun v => decide (cl v = cl x)) = some j := by
    cases q : ms.findIdx? (fun v => decide (cl v = cl x)) with
    | some j => exact ⟨j, rfl⟩
    | none =>
      rw [List.findIdx?_eq_none_iff] at q
      obtain ⟨v, hv, e⟩ := hm
      have := q v hv
      simp [e] at this
  obtain ⟨hlt, hit, hno⟩ := List.findIdx?_eq_some_iff_getElem.mp hj
  have er := eraseP_idx ms _ j hj
  refine wpAny_call (codeAny_call_builtin F.slot_list_remove.plain F.entry_list_remove (F.slot_list_remove.check _ _ _ _ _ _ _ _ ⟨_, hl, rfl⟩ (F.args_list_remove_2 _ _) ?_))
  have fin : Q .none { s with heap := s.heap.update l (Obj.mapSeq fun xs => xs.eraseIdxIfInBounds j) } := by
    refine h _ (Heap.SameBut.update ..) ?_
    have em : Obj.mapSeq (fun xs => xs.eraseIdxIfInBounds j) (PySem.W.listOf ms.toArray e) = PySem.W.listOf (remL ms x).toArray (e + 1) := by
      unfold remL
      rw [er]
      have hq := List.length_eraseIdx_of_lt hlt
      simp [Obj.mapSeq, Array.eraseIdxIfInBounds, hlt]
      omega
    rw [Heap.get?_update_self _ hl (by rw [em]; rfl), em]
  have lp := remove_loop' (w := w) (A := A) (s := s) (l := l) (items := ms.toArray) (e := e) (x := x) (R := wants Q E) (fun v hv => hP v (by simpa using hv)) hx (by omega) hs1 X hl j (by simpa using hlt) (by simpa using hit) _ 0 rfl (Nat.zero_le _) (fun m hm _ h2 => by have := hno m h2; simpa using this) fin
  obtain ⟨hp, g, d, tk, os⟩ := s
  dsimp only at hl
  wp_walk using wpAny_loadPart' hl
  exact ⟨plainId_quiet PySem.MeetsSeq.plain_remove_loop _, lp⟩

/-- the list with x put at a place -/
def insL (ms : List Value) (i : Int) (x : Value) : List Value :=
  let k := if i < 0 then (i + (ms.length : Int)).toNat else min i.toNat ms.length
  ms.take k ++ x :: ms.drop k
theorem insert_list {ms : List Value} {i : Int} {u : Tok} {Q : Value → Shared → Prop} (hl : s.heap.get? l = some (PySem.W.listOf ms.toArray e)) (hi : -1000 ≤ i ∧ i ≤ 1000) (hs1 : ms.toArray.size ≤ sizeLine)
    (h : ∀ h', Heap.SameBut l s.heap h' → h'.get? l = some (PySem.W.listOf (insL ms i x).toArray (e + 1)) → Q .none { s with heap := h' }) : wpAny (model PR w) A (call (.builtin "list.insert") [.ref l, .int i u, x]) Q E s := by
  have hc : ¬ (!Builtin.List.listFitsIndex i) = true := by unfold Builtin.List.listFitsIndex; simp; omega
  refine call_meets F.slot_list_insert ⟨_, hl, rfl⟩ F.entry_list_insert (F.args_list_insert_3 _ _ _) (PySem.AutoSeq1.list_insert_list_int_val_1 l ms.toArray e i u x hc hs1) ⟨hl, ?_⟩
  refine h _ (Heap.SameBut.update ..) ?_
  rw [Heap.get?_update_self _ hl rfl]
  have hk : (if i < 0 then (i + (ms.length : Int)).toNat else min i.toNat ms.length) ≤ ms.length := by split <;> omega
  simp [Obj.mapSeq, insL, List.extract_eq_take_drop]
  generalize (if i < 0 then (i + (ms.length : Int)).toNat else min i.toNat ms.length) = k at hk ⊢
  exact ⟨List.take_of_length_le (by simp), by omega⟩
/-- list.pop() -/
theorem pop_list {ms : List Value} {v : Value} {Q : Value → Shared → Prop} (hl : s.heap.get? l = some (PySem.W.listOf (ms ++ [v]).toArray e)) (hs1 : (ms ++ [v]).toArray.size ≤ sizeLine)
    (h : ∀ h', Heap.SameBut l s.heap h' → h'.get? l = some (PySem.W.listOf ms.toArray (e + 1)) → Q v { s with heap := h' }) : wpAny (model PR w) A (call (.builtin "list.pop") [.ref l]) Q E s := by
  refine call_meets F.slot_list_pop ⟨_, hl, rfl⟩ F.entry_list_pop (F.args_list_pop_1 _) (PySem.MeetsSeq.list_pop_last l (ms ++ [v]).toArray e v (by simp) hs1) ⟨hl, ?_⟩
  refine h _ (Heap.SameBut.update ..) ?_
  rw [Heap.get?_update_self _ hl rfl]
  have q : (ms ++ [v]).eraseIdx ms.length = ms := by rw [List.eraseIdx_append_of_length_le (Nat.le_refl _)]; simp
  simp [Obj.mapSeq, Array.eraseIdxIfInBounds, q]
end

end
/-! Fs -/
section
section
variable {w : World} {A : Around} {E : Value → Shared → Prop} {s : Shared} {g : Heap} {L l : Addr} {news : List (Addr × Obj)} {Q : Value → Shared → Prop}
theorem fs_list {value slice : PySem.Expr} {e : Nat} {vs : List Value} {k : Int} {u : Tok} {v : Value} (N : News g L s.heap news)
    (hl : (l, PySem.W.listOf vs.toArray e) ∈ news) (h0 : 0 ≤ k) (hhi : k < 2 ^ 63) (hx : vs[k.toNat]? = some v)
    (hs : subscripted slice false (.ref l) (.int k u) = operate [.ref l, .int k u] (getItem (.ref l) (.int k u))) (h : Q v s) :
    wpAny (model PR w) A (subscriptTail value slice (.ref l) (.int k u)) Q E s :=
  tail_any (listAt (N _ hl).1).typeIs slot_list_getitem.lookup (wpAny_getItem_list (listAt (N _ hl).1) h0 hhi (by simpa using hx) h) hs
theorem fs_tup {value slice : PySem.Expr} {vs : List Value} {k : Int} {j : Nat} {u : Tok} {v : Value} (N : News g L s.heap news)
    (hl : (l, (⟨.type "tuple", none, .seq vs.toArray 0, #[]⟩ : Obj)) ∈ news) (h0 : -(2 ^ 63) ≤ k) (hhi : k < 2 ^ 63) (hj : seqIndex? k vs.length = some j) (hx : vs[j]? = some v)
    (hs : subscripted slice false (.ref l) (.int k u) = operate [.ref l, .int k u] (getItem (.ref l) (.int k u))) (h : Q v s) :
    wpAny (model PR w) A (subscriptTail value slice (.ref l) (.int k u)) Q E s :=
  item_tupleT (l := vs) ⟨_, (N _ hl).1, rfl, 0, rfl⟩ h0 hhi hj hx h hs
theorem ld3 {env : Env} {x : Str} {px : Pos} {m : Str → Option Value} {v : Value} (F : Fr g env.locals s.heap m) (hv : m x = some v) (hl : env.kindOf x = some .local) (hd : (x == ("__debug__" : Str)) = false) (hk : env.scope.kind = .function) (h : Q v s) :
    wpAny (model PR w) A (eval (.Name x px) env) Q E s := wpAny_Name (wpAny_loadName_local hk hl F.ns hv h) hd
theorem add_kind {x : Str} {env : Env} {body : List Stmt} {Q : Flow → Shared → Prop} (h1 : env.kindOf x = some .local) (h2 : (x == ("__debug__" : Str)) = false)
    (h : env.kindOf x = some .local → (x == ("__debug__" : Str)) = false → wpAny (model PR w) A (execs body env) Q E s) : wpAny (model PR w) A (execs body env) Q E s := h h1 h2
theorem add_val {x : Str} {v : Value} {h₁ : Heap} {m : Str → Option Value} {p : Prop} (_ : Fr g L h₁ m) (e : m x = some v) (h : m x = some v → p) : p := h e
theorem ite_no {c : Bool} {P Q : Prop} (e : c = false) (h : Q) : if c = true then P else Q := by subst e; exact h
theorem ite_yes {c : Bool} {P Q : Prop} (e : c = true) (h : P) : if c = true then P else Q := by subst e; exact h
end
end
local macro_rules | `(tactic| walk_at "subscriptTail Name Name ref int") => `(tactic| (k_here; (with_reducible show wpAny _ _ (subscriptTail _ _ (Value.ref _) (Value.int _ _)) _ _ _); k_dflt (first | (refine' fs_list ?N ?l ?a ?b ?x ?s ?_; (case N => k_asm); (case l => k_mem); (case a => decide); (case b => decide); (case x => exact rfl); (case s => exact rfl); k_whole) | (refine' fs_tup ?N ?l ?a ?b ?j ?x ?s ?_; (case N => k_asm); (case l => k_mem); (case a => decide); (case b => decide); (case j => exact rfl); (case x => exact rfl); (case s => exact rfl); k_whole))))
local macro_rules | `(tactic| walk_at "subscriptTail Name Constant ref int") => `(tactic| (k_here; (with_reducible show wpAny _ _ (subscriptTail _ _ (Value.ref _) (Value.int _ _)) _ _ _); k_dflt (first | (refine' fs_list ?N ?l ?a ?b ?x ?s ?_; (case N => k_asm); (case l => k_mem); (case a => decide); (case b => decide); (case x => exact rfl); (case s => exact rfl); k_whole) | (refine' fs_tup ?N ?l ?a ?b ?j ?x ?s ?_; (case N => k_asm); (case l => k_mem); (case a => decide); (case b => decide); (case j => exact rfl); (case x => exact rfl); (case s => exact rfl); k_whole))))
local macro_rules | `(tactic| walk_at "subscriptTail Name BinOp ref int") => `(tactic| (k_here; (with_reducible show wpAny _ _ (subscriptTail _ _ (Value.ref _) (Value.int _ _)) _ _ _); k_dflt (first | (refine' fs_list ?N ?l ?a ?b ?x ?s ?_; (case N => k_asm); (case l => k_mem); (case a => decide); (case b => decide); (case x => exact rfl); (case s => exact rfl); k_whole) | (refine' fs_tup ?N ?l ?a ?b ?j ?x ?s ?_; (case N => k_asm); (case l => k_mem); (case a => decide); (case b => decide); (case j => exact rfl); (case x => exact rfl); (case s => exact rfl); k_whole))))
local macro_rules | `(tactic| walk_at "subscriptTail Subscript Constant ref int") => `(tactic| (k_here; (with_reducible show wpAny _ _ (subscriptTail _ _ (Value.ref _) (Value.int _ _)) _ _ _); k_dflt (first | (refine' fs_list ?N ?l ?a ?b ?x ?s ?_; (case N => k_asm); (case l => k_mem); (case a => decide); (case b => decide); (case x => exact rfl); (case s => exact rfl); k_whole) | (refine' fs_tup ?N ?l ?a ?b ?j ?x ?s ?_; (case N => k_asm); (case l => k_mem); (case a => decide); (case b => decide); (case j => exact rfl); (case x => exact rfl); (case s => exact rfl); k_whole))))
local macro_rules | `(tactic| walk_at "ite") => `(tactic| (k_here; first | (with_reducible refine PyProof.Rows.ite_tt ?_) | (with_reducible refine PyProof.Rows.ite_ff ?_) | ((with_reducible show if (_ == _) = true then _ else _); first | (refine ite_no (by decide) ?_) | (refine ite_yes (by decide) ?_))))
local macro_rules | `(tactic| walk_at "eval Name") => `(tactic| (k_here; k_dflt (refine' ld3 ?F ?v ?l ?d ?k ?_; (case l => with_reducible assumption); (case d => with_reducible assumption); (case F => k_asm); (case v => first | with_reducible assumption | exact rfl); (case k => exact rfl); k_whole)))
/-! Ls2 -/
section
open PySem PySem.W PyProof.Rows

section
variable {w : World} {A : Around} {E : Value → Shared → Prop} {s : Shared} {g h h' : Heap} {L S l : Addr} {m : Str → Option Value} {news news' : List (Addr × Obj)} {o o' : Obj} {ms : List Value} {e : Nat} {x : Value}
variable {c : Value} {d : Option Addr} {es : Array (Int × Value)} {ep : Nat} {t : SetTable} {sl : Array (Option Value)} {P : Value → Prop}

theorem led_same (F : Fr g L h m) (N : News g L h news) (hs : Heap.SameBut S h h') (U : Upd S o o' news news') (hS : h'.get? S = some o') : Fr g L h' m ∧ News g L h' news' := led F N (mod_same hs) U hS
theorem Upd.mem {d : Addr} {o o' : Obj} {l l' : List (Addr × Obj)} (U : Upd d o o' l l') : (d, o) ∈ l := by
  obtain ⟨pre, post, rfl, -, -, -⟩ := U.split
  exact List.mem_append.mpr (.inr (.head _))

theorem k_append {Q : Value → Shared → Prop} (F : Fr g L s.heap m) (N : News g L s.heap news) (U : Upd l (PySem.W.listOf ms.toArray e) (PySem.W.listOf (ms ++ [x]).toArray (e + 1)) news news') (hsz : ms.toArray.size ≤ sizeLine)
    (h : ∀ h', Fr g L h' m → News g L h' news' → Q .none { s with heap := h' }) : wpAny (model PR w) A (call (.builtin "list.append") [.ref l, x]) Q E s :=
  append_at (hsz := hsz) (N _ (Upd.mem U)).1 fun h' hs ho' => by
    rw [List.push_toArray] at ho'
    obtain ⟨F', N'⟩ := led_same F N hs U ho'
    exact h h' F' N'
theorem k_lremove {Q : Value → Shared → Prop} (F : Fr g L s.heap m) (X : (hd.heap_39 w.params).In g) (N : News g L s.heap news) (U : Upd l (PySem.W.listOf ms.toArray e) (PySem.W.listOf (remL ms x).toArray (e + 1)) news news') (hsz : ms.toArray.size ≤ sizeLine)
    (hP : ∀ v ∈ ms, Pv v) (hx : Pv x) (hm : inL ms x) (hu : A.units + 3 < cLine) (h : ∀ h', Fr g L h' m → News g L h' news' → Q .none { s with heap := h' }) : wpAny (model PR w) A (call (.builtin "list.remove") [.ref l, x]) Q E s :=
  remove_list (X.keeps F.keep) (N _ (Upd.mem U)).1 hP hx hm hsz hu fun h' hs ho' => by
    obtain ⟨F', N'⟩ := led_same F N hs U ho'
    exact h h' F' N'
theorem k_linsert {i : Int} {u : Tok} {Q : Value → Shared → Prop} (F : Fr g L s.heap m) (N : News g L s.heap news) (U : Upd l (PySem.W.listOf ms.toArray e) (PySem.W.listOf (insL ms i x).toArray (e + 1)) news news') (hsz : ms.toArray.size ≤ sizeLine)
    (hi : -1000 ≤ i ∧ i ≤ 1000) (h : ∀ h', Fr g L h' m → News g L h' news' → Q .none { s with heap := h' }) : wpAny (model PR w) A (call (.builtin "list.insert") [.ref l, .int i u, x]) Q E s :=
  insert_list (N _ (Upd.mem U)).1 hi hsz fun h' hs ho' => by
    obtain ⟨F', N'⟩ := led_same F N hs U ho'
    exact h h' F' N'
theorem k_lpop {v : Value} {Q : Value → Shared → Prop} (F : Fr g L s.heap m) (N : News g L s.heap news) (U : Upd l (PySem.W.listOf (ms ++ [v]).toArray e) (PySem.W.listOf ms.toArray (e + 1)) news news') (hsz : (ms ++ [v]).toArray.size ≤ sizeLine)
    (h : ∀ h', Fr g L h' m → News g L h' news' → Q v { s with heap := h' }) : wpAny (model PR w) A (call (.builtin "list.pop") [.ref l]) Q E s :=
  pop_list (N _ (Upd.mem U)).1 hsz fun h' hs ho' => by
    obtain ⟨F', N'⟩ := led_same F N hs U ho'
    exact h h' F' N'
theorem k_in_list {Q : Value → Shared → Prop} (F : Fr g L s.heap m) (X : (hd.heap_39 w.params).In g) (N : News g L s.heap news) (hm : (l, PySem.W.listOf ms.toArray e) ∈ news) (hP : ∀ v ∈ ms, Pv v) (hx : Pv x) (hu : A.units + 3 < cLine)
    (h : ∀ b : Bool, (b = true ↔ inL ms x) → Q (.bool b) s) : wpAny (model PR w) A (compareOp .In x (.ref l)) Q E s :=
  in_plist (X.keeps F.keep) (listAt (N _ hm).1) hP hx hu (h _ decide_eq_true_iff)
theorem k_notin_list {Q : Value → Shared → Prop} (F : Fr g L s.heap m) (X : (hd.heap_39 w.params).In g) (N : News g L s.heap news) (hm : (l, PySem.W.listOf ms.toArray e) ∈ news) (hP : ∀ v ∈ ms, Pv v) (hx : Pv x) (hu : A.units + 3 < cLine)
    (h : ∀ b : Bool, (b = true ↔ inL ms x) → Q (.bool (!b)) s) : wpAny (model PR w) A (compareOp .NotIn x (.ref l)) Q E s :=
  notin_plist (X.keeps F.keep) (listAt (N _ hm).1) hP hx hu (h _ decide_eq_true_iff)
theorem k_sremove {Q : Value → Shared → Prop} {news' : Array (Int × Value) → Nat → SetTable → List (Addr × Obj)} (F : Fr g L s.heap m) (X : (hd.heap_39 w.params).In g) (N : News g L s.heap news) (hm : (S, setO c d es ep t sl) ∈ news) (hc : c = .type "set" ∨ c = .ref 232) (f : SFact w es t P) (hx : Pv x) (hp : P x) (hu : A.units + 4 < cLine)
    (U : ∀ es' ep' t', Upd S (setO c d es ep t sl) (setO c d es' ep' t' sl) news (news' es' ep' t'))
    (h : ∀ es' ep' t' h' tk, SFact w es' t' (fun y => cl x ≠ cl y ∧ P y) → Fr g L h' m → News g L h' (news' es' ep' t') → Q .none { s with heap := h', toks := tk }) : wpAny (model PR w) A (call (.builtin "set.remove") [.ref S, x]) Q E s :=
  call_remove (setAt_news F X N hm hc f) hx hu ((f.mem x).mpr hp) fun es' h' tk hn hi => by
    have md := hn.mod
    obtain ⟨ep', t', hg, ok⟩ := setIs_get hn.is
    obtain ⟨F', N'⟩ := led F N md (U es' ep' t') hg
    exact h es' ep' t' h' tk ⟨ok, fun y => (hi y).trans (and_congr_right fun _ => f.mem y)⟩ F' N'
end
theorem inL_of_true {b : Bool} {P : Prop} (hb : b = true ↔ P) (e : b = true) : P := hb.mp e

end
local macro_rules | `(tactic| walk_at "getMethod ref") => `(tactic| (k_here; (with_reducible show wpAny _ _ (getMethod (Value.ref _) (PySem.Str.ofString "remove") _) _ _ _); k_dflt (refine' listMethod_K ?N ?m PySem.F.slot_list_remove PySem.F.type_list_remove ?_; (case N => k_asm); (case m => k_mem))))
local macro_rules | `(tactic| walk_at "getMethod ref") => `(tactic| (k_here; (with_reducible show wpAny _ _ (getMethod (Value.ref _) (PySem.Str.ofString "insert") _) _ _ _); k_dflt (refine' listMethod_K ?N ?m PySem.F.slot_list_insert PySem.F.type_list_insert ?_; (case N => k_asm); (case m => k_mem))))
local macro_rules | `(tactic| walk_at "getMethod ref") => `(tactic| (k_here; (with_reducible show wpAny _ _ (getMethod (Value.ref _) (PySem.Str.ofString "pop") _) _ _ _); k_dflt (refine' listMethod_K ?N ?m PySem.F.slot_list_pop PySem.F.type_list_pop ?_; (case N => k_asm); (case m => k_mem))))
local macro_rules | `(tactic| walk_at "call builtin:list.append") => `(tactic| (k_here; (with_reducible show wpAny _ _ (call (Value.builtin _) [Value.ref _, _]) _ _ _); k_dflt (refine' k_append ?k1 ?k2 ?k3 ?z ?_; (case k1 => k_asm); (case k2 => k_asm); (case k3 => k_upd); (case z => assumption); k_whole); intro h' F' N'; (try k_sweep)))
local macro_rules | `(tactic| walk_at "call builtin:list.remove") => `(tactic| (k_here; (with_reducible show wpAny _ _ (call (Value.builtin _) [Value.ref _, _]) _ _ _); k_dflt (refine' k_lremove ?k1 ?k2 ?k3 ?k4 ?k5 ?k6 ?k7 ?k8 ?k9 ?_; (case k1 => k_asm); (case k2 => k_asm); (case k3 => k_asm); (case k4 => k_upd); (case k5 => assumption); (case k6 => assumption); (case k7 => assumption); (case k8 => first | assumption | exact inL_of_true (by assumption) rfl); (case k9 => k_units); k_whole); intro h' F' N'; (try k_sweep)))
local macro_rules | `(tactic| walk_at "call builtin:list.insert") => `(tactic| (k_here; (with_reducible show wpAny _ _ (call (Value.builtin _) [Value.ref _, _, _]) _ _ _); k_dflt (refine' k_linsert ?k1 ?k2 ?k3 ?z ?y ?_; (case k1 => k_asm); (case k2 => k_asm); (case k3 => k_upd); (case z => assumption); (case y => assumption); k_whole); intro h' F' N'; (try k_sweep)))
local macro_rules | `(tactic| walk_at "call builtin:list.pop") => `(tactic| (k_here; (with_reducible show wpAny _ _ (call (Value.builtin _) [Value.ref _]) _ _ _); k_dflt (refine' k_lpop ?k1 ?k2 ?k3 ?z ?_; (case k1 => k_asm); (case k2 => k_asm); (case k3 => k_upd); (case z => assumption); k_whole); intro h' F' N'; (try k_sweep)))
local macro_rules | `(tactic| walk_at "compareOp In") => `(tactic| (k_here; (with_reducible show wpAny _ _ (compareOp CmpOp.In _ (Value.ref _)) _ _ _); k_dflt (refine' k_in_list ?k1 ?k2 ?k3 ?k4 ?k5 ?k6 ?k7 ?_; (case k1 => k_asm); (case k2 => k_asm); (case k3 => k_asm); (case k4 => k_mem); (case k5 => k_asm); (case k6 => k_asm); (case k7 => k_units); k_whole); intro b hb; cases b))
local macro_rules | `(tactic| walk_at "compareOp NotIn") => `(tactic| (k_here; (with_reducible show wpAny _ _ (compareOp CmpOp.NotIn _ (Value.ref _)) _ _ _); k_dflt (refine' k_notin_list ?k1 ?k2 ?k3 ?k4 ?k5 ?k6 ?k7 ?_; (case k1 => k_asm); (case k2 => k_asm); (case k3 => k_asm); (case k4 => k_mem); (case k5 => k_asm); (case k6 => k_asm); (case k7 => k_units); k_whole); intro b hb; cases b))
local macro_rules | `(tactic| walk_at "call builtin:set.remove") => `(tactic| (k_here; (with_reducible show wpAny _ _ (call (Value.builtin "set.remove") [Value.ref _, _]) _ _ _); k_dflt (refine' k_sremove ?k1 ?k2 ?k3 ?k4 ?k5 ?k6 ?k7 ?ka ?k8 ?k9 ?_; (case k1 => k_asm); (case k2 => k_asm); (case k3 => k_asm); (case k4 => k_mem); (case k5 => first | exact .inl rfl | exact .inr rfl); (case k6 => k_asm); (case k7 => k_asm); (case ka => first | assumption | exact inL_of_true (by assumption) rfl); (case k8 => k_units); (case k9 => intro _ _ _; k_upd); k_whole); intro es' ep' t' h' tk f' F' N'; (try k_sweep)))
/-! C1 -/
section
open PySem PySem.W PyProof.Rows
def Both (_ : OpenLaw) (_ : Params → Frag) : Prop := True
example : Both PySem.Challenge.rw_bq5033_01 hd.heap_39 := by k_fill; trivial

section
variable {w : World} {s : Shared} {mg mb : Str → Option Value} {g : Heap} {R : Result → Shared → Prop} {S dx l : Addr} {ms : List Value} {x : Value}

theorem pv_rem {ms : List Value} {x : Value} (h : ∀ v ∈ ms, Pv v) : ∀ v ∈ remL ms x, Pv v := fun v hv => h v (List.mem_of_mem_eraseP hv)
theorem nd_rem {ms : List Value} {x : Value} (h : (ms.map cl).Nodup) : ((remL ms x).map cl).Nodup := h.sublist (List.eraseP_sublist.map cl)
theorem rem_cons {a : Value} {r : List Value} {x : Value} : remL (a :: r) x = if cl a = cl x then r else a :: remL r x := by
  unfold remL; rw [List.eraseP_cons]; simp
theorem inL_cons {a : Value} {r : List Value} {y : Value} : inL (a :: r) y ↔ cl a = cl y ∨ inL r y := by simp [inL]
theorem inL_rem {x y : Value} : ∀ {ms : List Value}, (ms.map cl).Nodup → (inL (remL ms x) y ↔ (cl x ≠ cl y ∧ inL ms y))
  | [], _ => by simp [remL, inL]
  | a :: r, h => by
    rw [List.map_cons, List.nodup_cons] at h
    rw [rem_cons]
    by_cases q : cl a = cl x
    · rw [if_pos q, inL_cons]
      constructor
      · intro hy
        refine ⟨fun e => h.1 ?_, .inr hy⟩
        rw [q, e]; exact inL_map.mp hy
      · rintro ⟨n, e | e⟩
        · exact absurd (q.symm.trans e) n
        · exact e
    · rw [if_neg q, inL_cons, inL_cons, inL_rem h.2]
      constructor
      · rintro (e | ⟨n, e⟩)
        · exact ⟨fun z => q (e.trans z.symm), .inl e⟩
        · exact ⟨n, .inr e⟩
      · rintro ⟨n, e | e⟩
        · exact .inl e
        · exact .inr ⟨n, e⟩
theorem inL_ins {ms : List Value} {i : Int} {x y : Value} : inL (insL ms i x) y ↔ (cl x = cl y ∨ inL ms y) := by
  unfold insL
  dsimp only
  generalize (if i < 0 then (i + (ms.length : Int)).toNat else min i.toNat ms.length) = k
  rw [inL_append, inL_cons]
  have e : inL ms y ↔ inL (ms.take k) y ∨ inL (ms.drop k) y := by rw [← inL_append, List.take_append_drop]
  rw [e]
  constructor
  · rintro (a | a | a)
    · exact .inr (.inl a)
    · exact .inl a
    · exact .inr (.inr a)
  · rintro (a | a | a)
    · exact .inr (.inl a)
    · exact .inl a
    · exact .inr (.inr a)
theorem pv_ins {ms : List Value} {i : Int} {x : Value} (h : ∀ v ∈ ms, Pv v) (hx : Pv x) : ∀ v ∈ insL ms i x, Pv v := by
  intro v hv
  unfold insL at hv
  dsimp only at hv
  rcases List.mem_append.mp hv with q | q
  · exact h v (List.mem_of_mem_take q)
  · rcases List.mem_cons.mp q with rfl | q
    · exact hx
    · exact h v (List.mem_of_mem_drop q)
theorem nd_ins {ms : List Value} {i : Int} {x : Value} (h : (ms.map cl).Nodup) (hx : ¬ inL ms x) : ((insL ms i x).map cl).Nodup := by
  unfold insL
  dsimp only
  generalize (if i < 0 then (i + (ms.length : Int)).toNat else min i.toNat ms.length) = k
  have p : (ms.take k ++ x :: ms.drop k).Perm (x :: ms) := by
    refine List.perm_middle.trans ?_
    rw [List.take_append_drop]
  rw [(p.map cl).nodup_iff, List.map_cons, List.nodup_cons]
  exact ⟨fun q => hx (inL_map.mpr q), h⟩
/-- put at a place, unless it is there -/
def putL' (ms : List Value) (i : Int) (x : Value) : List Value := if inL ms x then ms else insL ms i x

theorem os_at {L : Addr} {h : Heap} {news : List (Addr × Obj)} {es : Array (Int × Value)} {ep : Nat} {t : SetTable} {e : Nat} (N : News g L h news) (h1 : (S, setO (.ref 232) (some dx) es ep t #[some (.ref l)]) ∈ news) (h2 : (dx, dictE) ∈ news) (h3 : (l, PySem.W.listOf ms.toArray e) ∈ news)
    (f : SFact w es t (inL ms)) (pv : ∀ v ∈ ms, Pv v) (nd : (ms.map cl).Nodup) : OSet w h S dx l ms := ⟨⟨_, _, _, _, (N _ h1).1, (N _ h2).1, (N _ h3).1, f⟩, pv, nd⟩
theorem addL_in {ms : List Value} {x : Value} (h : inL ms x) : addL ms x = ms := if_pos h
theorem addL_new {ms : List Value} {x : Value} (h : ¬ inL ms x) : addL ms x = ms ++ [x] := if_neg h

theorem add_spec (B : Base w mg mb g) (stg : g.StaysIn s.heap) (I : OSet w s.heap S dx l ms) (gS : g.get? S = none) (gd : g.get? dx = none) (gl : g.get? l = none) (hx : Pv x)
    (hR : ∀ h' tk, Mod [S, dx, l] s.heap h' → OSet w h' S dx l (addL ms x) → R (.ok (.ret .none)) ⟨h', s.gens, s.drawn, tk, s.os⟩) :
    codeAny (model PR w) A1 (.call (.ref 65) ⟨[.ref S, x], []⟩) R s := by
  obtain ⟨⟨es, ep, t, e, oS, od, ol, f⟩, pv, nd⟩ := I
  have z := sz5 pv nd
  have n1 := neN (neObj oS od set_ne_dict)
  have n2 := neN (neObj oS ol set_ne_list)
  have n3 := neN (neObj od ol dict_ne_list)
  have N : Has g s.heap [(S, setO (.ref 232) (some dx) es ep t #[some (.ref l)]), (dx, dictE), (l, PySem.W.listOf ms.toArray e)] :=
    List.forall_mem_cons.mpr ⟨⟨oS, gS⟩, List.forall_mem_cons.mpr ⟨⟨od, gd⟩, List.forall_mem_cons.mpr ⟨⟨ol, gl⟩, List.forall_mem_nil _⟩⟩⟩
  refine enter_def B stg N (by k_is) (by k_is) (by decide) (BindsTo.of_eq rfl) (locs rfl) ?_ rfl rfl rfl (by decide)
  intro g' L h₁ B' F' N' kM sg hid
  have X' := B'.K
  have T' := B'.T
  dsimp only [List.map] at kM hid
  try dsimp only
  k_steps
  · have q : ¬ inL ms x := fun q => Bool.noConfusion ((‹false = true ↔ inL ms x›).mpr q)
    refine hR _ _ (kM _ (Fr.keep (by assumption))) ?_
    rw [addL_new q]
    exact os_at (by assumption) (by k_mem) (by k_mem) (by k_mem) (SFact.iff (by assumption) fun y => by rw [inL_append, inL_one, or_comm]) (addL_new q ▸ pv_addL pv hx) (nd_snoc nd q)
  · refine hR _ _ (kM _ (Fr.keep (by assumption))) ?_
    rw [addL_in ((‹true = true ↔ inL ms x›).mp rfl)]
    exact os_at (by assumption) (by k_mem) (by k_mem) (by k_mem) f pv nd

theorem insert_spec (B : Base w mg mb g) (stg : g.StaysIn s.heap) (I : OSet w s.heap S dx l ms) (gS : g.get? S = none) (gd : g.get? dx = none) (gl : g.get? l = none) {i : Int} {u : Tok} (hx : Pv x) (hi : -1000 ≤ i ∧ i ≤ 1000)
    (hR : ∀ h' tk, Mod [S, dx, l] s.heap h' → OSet w h' S dx l (putL' ms i x) → R (.ok (.ret .none)) ⟨h', s.gens, s.drawn, tk, s.os⟩) :
    codeAny (model PR w) A1 (.call (.ref 86) ⟨[.ref S, .int i u, x], []⟩) R s := by
  obtain ⟨⟨es, ep, t, e, oS, od, ol, f⟩, pv, nd⟩ := I
  have z := sz5 pv nd
  have n1 := neN (neObj oS od set_ne_dict)
  have n2 := neN (neObj oS ol set_ne_list)
  have n3 := neN (neObj od ol dict_ne_list)
  have N : Has g s.heap [(S, setO (.ref 232) (some dx) es ep t #[some (.ref l)]), (dx, dictE), (l, PySem.W.listOf ms.toArray e)] :=
    List.forall_mem_cons.mpr ⟨⟨oS, gS⟩, List.forall_mem_cons.mpr ⟨⟨od, gd⟩, List.forall_mem_cons.mpr ⟨⟨ol, gl⟩, List.forall_mem_nil _⟩⟩⟩
  refine enter_def B stg N (by k_is) (by k_is) (by decide) (BindsTo.of_eq rfl) (locs rfl) ?_ rfl rfl rfl (by decide)
  intro g' L h₁ B' F' N' kM sg hid
  have X' := B'.K
  have T' := B'.T
  dsimp only [List.map] at kM hid
  try dsimp only
  k_steps
  · have q : ¬ inL ms x := fun q => Bool.noConfusion ((‹false = true ↔ inL ms x›).mpr q)
    refine hR _ _ (kM _ (Fr.keep (by assumption))) ?_
    rw [putL', if_neg q]
    exact os_at (by assumption) (by k_mem) (by k_mem) (by k_mem) (SFact.iff (by assumption) fun y => inL_ins.symm) (pv_ins pv hx) (nd_ins nd q)
  · refine hR _ _ (kM _ (Fr.keep (by assumption))) ?_
    rw [putL', if_pos ((‹true = true ↔ inL ms x›).mp rfl)]
    exact os_at (by assumption) (by k_mem) (by k_mem) (by k_mem) f pv nd

theorem remL_not {x : Value} : ∀ {ms : List Value}, ¬ inL ms x → remL ms x = ms
  | [], _ => rfl
  | a :: r, h => by
    rw [rem_cons, if_neg fun e => h (inL_cons.mpr (.inl e)), remL_not fun e => h (inL_cons.mpr (.inr e))]

theorem discard_spec (B : Base w mg mb g) (stg : g.StaysIn s.heap) (I : OSet w s.heap S dx l ms) (gS : g.get? S = none) (gd : g.get? dx = none) (gl : g.get? l = none) (hx : Pv x)
    (hR : ∀ h' tk, Mod [S, dx, l] s.heap h' → OSet w h' S dx l (remL ms x) → R (.ok (.ret .none)) ⟨h', s.gens, s.drawn, tk, s.os⟩) :
    codeAny (model PR w) A1 (.call (.ref 93) ⟨[.ref S, x], []⟩) R s := by
  obtain ⟨⟨es, ep, t, e, oS, od, ol, f⟩, pv, nd⟩ := I
  have z := sz5 pv nd
  have n1 := neN (neObj oS od set_ne_dict)
  have n2 := neN (neObj oS ol set_ne_list)
  have n3 := neN (neObj od ol dict_ne_list)
  have N : Has g s.heap [(S, setO (.ref 232) (some dx) es ep t #[some (.ref l)]), (dx, dictE), (l, PySem.W.listOf ms.toArray e)] :=
    List.forall_mem_cons.mpr ⟨⟨oS, gS⟩, List.forall_mem_cons.mpr ⟨⟨od, gd⟩, List.forall_mem_cons.mpr ⟨⟨ol, gl⟩, List.forall_mem_nil _⟩⟩⟩
  refine enter_def B stg N (by k_is) (by k_is) (by decide) (BindsTo.of_eq rfl) (locs rfl) ?_ rfl rfl rfl (by decide)
  intro g' L h₁ B' F' N' kM sg hid
  have X' := B'.K
  have T' := B'.T
  dsimp only [List.map] at kM hid
  try dsimp only
  k_steps
  · refine hR _ _ (kM _ (Fr.keep (by assumption))) ?_
    rw [remL_not fun q => Bool.noConfusion ((‹false = true ↔ inL ms x›).mpr q)]
    exact os_at (by assumption) (by k_mem) (by k_mem) (by k_mem) f pv nd
  · exact hR _ _ (kM _ (Fr.keep (by assumption))) (os_at (by assumption) (by k_mem) (by k_mem) (by k_mem) (SFact.iff (by assumption) fun y => (inL_rem nd).symm) (pv_rem pv) (nd_rem nd))

theorem remove_spec (B : Base w mg mb g) (stg : g.StaysIn s.heap) (I : OSet w s.heap S dx l ms) (gS : g.get? S = none) (gd : g.get? dx = none) (gl : g.get? l = none) (hx : Pv x) (hm : inL ms x)
    (hR : ∀ h' tk, Mod [S, dx, l] s.heap h' → OSet w h' S dx l (remL ms x) → R (.ok (.ret .none)) ⟨h', s.gens, s.drawn, tk, s.os⟩) :
    codeAny (model PR w) A1 (.call (.ref 72) ⟨[.ref S, x], []⟩) R s := by
  obtain ⟨⟨es, ep, t, e, oS, od, ol, f⟩, pv, nd⟩ := I
  have z := sz5 pv nd
  have n1 := neN (neObj oS od set_ne_dict)
  have n2 := neN (neObj oS ol set_ne_list)
  have n3 := neN (neObj od ol dict_ne_list)
  have N : Has g s.heap [(S, setO (.ref 232) (some dx) es ep t #[some (.ref l)]), (dx, dictE), (l, PySem.W.listOf ms.toArray e)] :=
    List.forall_mem_cons.mpr ⟨⟨oS, gS⟩, List.forall_mem_cons.mpr ⟨⟨od, gd⟩, List.forall_mem_cons.mpr ⟨⟨ol, gl⟩, List.forall_mem_nil _⟩⟩⟩
  refine enter_def B stg N (by k_is) (by k_is) (by decide) (BindsTo.of_eq rfl) (locs rfl) ?_ rfl rfl rfl (by decide)
  intro g' L h₁ B' F' N' kM sg hid
  have X' := B'.K
  have T' := B'.T
  dsimp only [List.map] at kM hid
  try dsimp only
  k_steps
  exact hR _ _ (kM _ (Fr.keep (by assumption))) (os_at (by assumption) (by k_mem) (by k_mem) (by k_mem) (SFact.iff (by assumption) fun y => (inL_rem nd).symm) (pv_rem pv) (nd_rem nd))
end

end
/-! Di -/
section
open PySem PySem.W PyProof.Rows

noncomputable def entsOf (w : World) (ms : List Value) : Array DictEntry := (ms.map fun v => (⟨Hh w v, v, .none⟩ : DictEntry)).toArray
theorem ents_size (w : World) (ms : List Value) : (entsOf w ms).size = ms.length := by unfold entsOf; simp
theorem ents_at (w : World) (ms : List Value) (i : Nat) : (entsOf w ms)[i]? = ms[i]?.map fun v => (⟨Hh w v, v, .none⟩ : DictEntry) := by unfold entsOf; simp
theorem ents_mem {w : World} {ms : List Value} {e : DictEntry} (h : e ∈ entsOf w ms) : ∃ v ∈ ms, e = ⟨Hh w v, v, .none⟩ := by
  unfold entsOf at h
  simp only [List.mem_toArray, List.mem_map] at h
  obtain ⟨v, hv, e⟩ := h
  exact ⟨v, hv, e.symm⟩

theorem cl_inj {ms : List Value} (nd : (ms.map cl).Nodup) {i j : Nat} {u v : Value} (hi : ms[i]? = some u) (hj : ms[j]? = some v) (h : cl u = cl v) : i = j := by
  have a : (ms.map cl)[i]? = some (cl u) := by rw [List.getElem?_map, hi]; rfl
  have b : (ms.map cl)[j]? = some (cl u) := by rw [List.getElem?_map, hj, h]; rfl
  obtain ⟨li, ei⟩ := List.getElem?_eq_some_iff.mp a
  obtain ⟨lj, ej⟩ := List.getElem?_eq_some_iff.mp b
  have pw := List.pairwise_iff_getElem.mp nd
  rcases Nat.lt_trichotomy i j with q | q | q
  · exact absurd (ei.trans ej.symm) (pw i j li lj q)
  · exact q
  · exact absurd (ej.trans ei.symm) (pw j i lj li q)

section
variable {w : World} {A : Around} {E : Value → Shared → Prop} {s : Shared} {d : Addr} {o : Obj} {ms : List Value} {ep : Nat} {x : Value}

theorem tell_pool (X : (hd.heap_39 w.params).In s.heap) (hx : Pv x) {ys : List Value} (hy : ∀ y ∈ ys, Pv y) {Q : Bool → Shared → Prop} (h : Q false s) : wpAny (model PR w) A (tableMayTell x ys) Q E s := by
  unfold tableMayTell
  split
  · exact wpAny_pure h
  · refine wpAny_bind ((quiet_pool X hx).here ?_)
    simp only [Bool.not_true, Bool.false_eq_true, if_false]
    refine wpAny_bind ?_
    refine wpAny_forIn_list _ (fun rest r s' => s' = s ∧ r = (none, ()) ∧ ∀ v ∈ rest, Pv v) _ ?_ ?_ _ _ ⟨rfl, rfl, hy⟩
    · rintro y rest r s' ⟨rfl, rfl, hr⟩
      refine wpAny_bind ((quiet_pool X (hr y (.head _))).here ?_)
      simp only [Bool.not_true, Bool.false_eq_true, if_false]
      exact wpAny_pure ⟨rfl, rfl, fun v hv => hr v (.tail _ hv)⟩
    · rintro r s' ⟨rfl, rfl, _⟩
      exact wpAny_pure h

theorem str_val {u : Str} {t : Tok} (h : Pv (.str u t)) : u = Str.ofString "a" ∧ t = 462 := by
  simp only [Pv, poolL, List.mem_cons, List.not_mem_nil, or_false] at h
  rcases h with h | h | h | h | h | h | h | h | h <;> cases h
  exact ⟨rfl, rfl⟩

/-- where the key stands -/
theorem dictFind_pool (X : (hd.heap_39 w.params).In s.heap) (ho : s.heap.get? d = some o) (hd' : o.data = .dict (entsOf w ms) ep) (hP : ∀ v ∈ ms, Pv v) (nd : (ms.map cl).Nodup) (hx : Pv x) (hu : A.units + 2 < cLine) {Q : Option Nat → Shared → Prop}
    (h1 : ∀ (j : Nat) (v : Value), ms[j]? = some v → cl v = cl x → Q (some j) s) (h2 : ¬ inL ms x → Q none s) : wpAny (model PR w) A (dictFind d x (Hh w x)) Q E s := by
  have hpl : ∀ i, i ∈ placesWithHash (entsOf w ms).size (fun i => (entsOf w ms)[i]?.map (·.hash)) (Hh w x) → ∃ v, ms[i]? = some v ∧ Pv v ∧ Hh w v = Hh w x := by
    intro i hi
    unfold placesWithHash at hi
    obtain ⟨a, b⟩ := List.mem_filter.mp hi
    dsimp only at b
    rw [ents_at] at b
    cases q : ms[i]? with
    | none => rw [q] at b; simp at b
    | some v => rw [q] at b; exact ⟨v, rfl, hP v (List.mem_of_getElem? q), by simpa using b⟩
  have hin : ∀ j v, ms[j]? = some v → cl v = cl x → j ∈ placesWithHash (entsOf w ms).size (fun i => (entsOf w ms)[i]?.map (·.hash)) (Hh w x) := by
    intro j v hj hc
    unfold placesWithHash
    refine List.mem_filter.mpr ⟨List.mem_range.mpr ?_, ?_⟩
    · rw [ents_size]; exact (List.getElem?_eq_some_iff.mp hj).1
    · dsimp only
      rw [ents_at, hj]
      simp [hash_same (hP v (List.mem_of_getElem? hj)) hx hc]
  have hnd : (placesWithHash (entsOf w ms).size (fun i => (entsOf w ms)[i]?.map (·.hash)) (Hh w x)).Nodup := by
    unfold placesWithHash; exact List.nodup_range.filter _
  have hany : ¬ ((entsOf w ms).any fun e => e.key == x && e.hash != Hh w x) = true := by
    rw [Array.any_eq_true']
    rintro ⟨e, he, hc⟩
    obtain ⟨v, hv, rfl⟩ := ents_mem he
    simp only [Bool.and_eq_true, beq_iff_eq, bne_iff_ne, ne_eq] at hc
    exact hc.2 (by rw [hc.1])
  have hst : ∀ v ∈ (placesWithHash (entsOf w ms).size (fun i => (entsOf w ms)[i]?.map (·.hash)) (Hh w x)).filterMap (fun i => (entsOf w ms)[i]?.map (·.key)), Pv v := by
    intro v hv
    obtain ⟨i, hi, e⟩ := List.mem_filterMap.mp hv
    obtain ⟨u, hu', pu, _⟩ := hpl i hi
    rw [ents_at, hu'] at e
    cases e; exact pu
  generalize hPL : placesWithHash (entsOf w ms).size (fun i => (entsOf w ms)[i]?.map (·.hash)) (Hh w x) = pl at hpl hin hnd hst
  have h2' : (∀ (j : Nat) (v : Value), ms[j]? = some v → cl v ≠ cl x) → Q none s := fun hn => h2 fun ⟨v, hv, c⟩ => by
    obtain ⟨j, hj⟩ := List.mem_iff_getElem?.mp hv
    exact hn j v hj c
  unfold dictFind
  try with_reducible refine wpAny_holding ?_
  refine wpAny_bind (wpAny_dictEntries ho hd' ?_)
  dsimp only
  rw [hPL]
  have eqx : ∀ {v : Value} {Q : Bool → Shared → Prop}, Pv v → Q (decide (cl v = cl x)) s → wpAny (model PR w) A (eqBool v x) Q E s := fun hv h => eq_pool X hv hx hu h
  have plain : wpAny (model PR w) A (dictWalkPlain d x (Hh w x) (entsOf w ms) pl) Q E s := by
    unfold dictWalkPlain
    refine wpAny_bind ?_
    refine wpAny_forIn_list _ (fun rest b s' => s' = s ∧ b = (none, ()) ∧ (∀ i ∈ rest, i ∈ pl) ∧ ∀ j v, ms[j]? = some v → cl v = cl x → j ∈ rest) _ ?_ ?_ _ _ ⟨rfl, rfl, fun _ q => q, hin⟩
    · rintro i rest b s' ⟨rfl, rfl, hr, hj⟩
      obtain ⟨v, hv, pv, hh⟩ := hpl i (hr i (.head _))
      rw [ents_at, hv]
      dsimp only [Option.map_some]
      rw [if_pos (by simp [hh])]
      refine wpAny_bind (wpAny_dictEpoch ho hd' (wpAny_bind (eqx pv (wpAny_bind (wpAny_dictEpoch ho hd' ?_)))))
      rw [if_neg (by simp)]
      by_cases hc : cl v = cl x
      · rw [decide_eq_true hc]
        exact wpAny_bind (wpAny_rule (wpAny_pure (wpAny_pure (h1 i v hv hc))))
      · rw [decide_eq_false hc]
        refine wpAny_bind (wpAny_rule (wpAny_pure ⟨rfl, rfl, fun k hk => hr k (.tail _ hk), fun j u hu' hc' => ?_⟩))
        rcases List.mem_cons.mp (hj j u hu' hc') with rfl | q
        · rw [hv] at hu'; cases hu'; exact absurd hc' hc
        · exact q
    · rintro b s' ⟨rfl, rfl, -, hj⟩
      exact wpAny_pure (h2' fun j v hv hc => nomatch hj j v hv hc)
  have rest : wpAny (model PR w) A (do
      if (x :: pl.filterMap fun i => (entsOf w ms)[i]?.map (·.key)).all carriedByValue then return ← dictWalkPlain d x (Hh w x) (entsOf w ms) pl
      if let .ref _ := x then
        if (entsOf w ms).any fun e => e.key == x && e.hash != Hh w x then unsupported "dict.find:a-stored-key-whose-hash-has-changed"
      let tells ← if (pl.filterMap fun i => (entsOf w ms)[i]?.map (·.key)) == [x] then pure false else tableMayTell x (pl.filterMap fun i => (entsOf w ms)[i]?.map (·.key))
      if tells && (pl.filterMap fun i => (entsOf w ms)[i]?.map (·.key)).length ≥ 2 then unsupported "dict.find:order-among-keys-of-one-hash"
      let mut hit : Option Nat := none
      for i in pl do
        if let some e := (entsOf w ms)[i]? then
          if e.hash == Hh w x then
            let before ← dictEpoch d (keyPart x)
            let same ← eqBool e.key x
            if (← dictEpoch d (keyPart x)) != before then unsupported "dict.changed-during-lookup"
            if same then
              if hit.isSome then unsupported "dict.find:order-among-keys-of-one-hash"
              rule "dict.find.hit"
              if (pl.filterMap fun i => (entsOf w ms)[i]?.map (·.key)).length < 2 then return some i
              hit := some i
            else
              rule "dict.find.same-hash-other-key"
              if tells && !(0 ≤ Hh w x && Hh w x < 32) then unsupported "dict.find:asked-again-or-not-hangs-on-the-table"
      return hit) Q E s := by
    generalize hstd : (pl.filterMap fun i => (entsOf w ms)[i]?.map (·.key)) = stored at hst
    by_cases hall : ((x :: stored).all carriedByValue) = true
    · rw [if_pos hall]
      exact plain
    · rw [if_neg hall]
      have go : wpAny (model PR w) A (do
          let tells ← if stored == [x] then pure false else tableMayTell x stored
          if tells && stored.length ≥ 2 then unsupported "dict.find:order-among-keys-of-one-hash"
          let mut hit : Option Nat := none
          for i in pl do
            if let some e := (entsOf w ms)[i]? then
              if e.hash == Hh w x then
                let before ← dictEpoch d (keyPart x)
                let same ← eqBool e.key x
                if (← dictEpoch d (keyPart x)) != before then unsupported "dict.changed-during-lookup"
                if same then
                  if hit.isSome then unsupported "dict.find:order-among-keys-of-one-hash"
                  rule "dict.find.hit"
                  if stored.length < 2 then return some i
                  hit := some i
                else
                  rule "dict.find.same-hash-other-key"
                  if tells && !(0 ≤ Hh w x && Hh w x < 32) then unsupported "dict.find:asked-again-or-not-hangs-on-the-table"
          return hit) Q E s := by
        by_cases hone : (stored == [x]) = true <;> (first | rw [if_pos hone] | rw [if_neg hone]) <;> (first | refine wpAny_bind (wpAny_pure ?_) | refine wpAny_bind (tell_pool X hx hst ?_)) <;> (
        dsimp only
        rw [if_neg (by simp)]
        refine wpAny_bind ?_
        refine wpAny_forIn_list _ (fun rest b s' => s' = s ∧ (∀ i ∈ rest, i ∈ pl) ∧ rest.Nodup ∧ ((b = (none, none) ∧ ∀ j v, ms[j]? = some v → cl v = cl x → j ∈ rest) ∨ ∃ j v, b = (none, some j) ∧ ms[j]? = some v ∧ cl v = cl x ∧ j ∉ rest)) _ ?_ ?_ _ _ ⟨rfl, fun _ q => q, hnd, .inl ⟨rfl, hin⟩⟩
        · rintro i rest b s' ⟨rfl, hr, hn, hb⟩
          rw [List.nodup_cons] at hn
          obtain ⟨v, hv, pv, hh⟩ := hpl i (hr i (.head _))
          rw [ents_at, hv]
          dsimp only [Option.map_some]
          rw [if_pos (by simp [hh])]
          refine wpAny_bind (wpAny_dictEpoch ho hd' (wpAny_bind (eqx pv (wpAny_bind (wpAny_dictEpoch ho hd' ?_)))))
          rw [if_neg (by simp)]
          by_cases hc : cl v = cl x
          · rw [decide_eq_true hc]
            rcases hb with ⟨rfl, hj⟩ | ⟨j, u, rfl, hu', hc', hnr⟩
            · rw [if_pos rfl, if_neg (by simp)]
              refine wpAny_bind (wpAny_rule ?_)
              split
              · exact wpAny_pure (wpAny_pure (h1 i v hv hc))
              · exact wpAny_pure ⟨rfl, fun k hk => hr k (.tail _ hk), hn.2, .inr ⟨i, v, rfl, hv, hc, hn.1⟩⟩
            · have := cl_inj nd hu' hv (hc'.trans hc.symm)
              exact absurd (by rw [this]; exact .head _) hnr
          · rw [decide_eq_false hc, if_neg (by simp)]
            refine wpAny_bind (wpAny_rule ?_)
            rw [if_neg (by simp)]
            refine wpAny_pure ⟨rfl, fun k hk => hr k (.tail _ hk), hn.2, ?_⟩
            rcases hb with ⟨rfl, hj⟩ | ⟨j, u, rfl, hu', hc', hnr⟩
            · refine .inl ⟨rfl, fun j u hu' hc' => ?_⟩
              rcases List.mem_cons.mp (hj j u hu' hc') with rfl | q
              · rw [hv] at hu'; cases hu'; exact absurd hc' hc
              · exact q
            · exact .inr ⟨j, u, rfl, hu', hc', fun q => hnr (.tail _ q)⟩
        · rintro b s' ⟨rfl, -, -, hb⟩
          rcases hb with ⟨rfl, hj⟩ | ⟨j, u, rfl, hu', hc', -⟩
          · exact wpAny_pure (h2' fun j v hv hc => nomatch hj j v hv hc)
          · exact wpAny_pure (h1 j u hu' hc'))
      cases x with
      | ref a => dsimp only; rw [if_neg hany]; exact go
      | _ => exact go
  split
  next u t =>
    obtain ⟨rfl, rfl⟩ := str_val hx
    by_cases hstrs : ((entsOf w ms).all fun e => isExactStrKey e.key) = true
    · rw [if_pos hstrs]
      unfold foundByValue
      cases hf : (entsOf w ms).findIdx? (fun e => e.key.isStr (Str.ofString "a")) with
      | none =>
        refine wpAny_pure (h2' fun j v hv hc => ?_)
        rw [Array.findIdx?_eq_none_iff] at hf
        have he : (entsOf w ms)[j]? = some ⟨Hh w v, v, .none⟩ := by rw [ents_at, hv]; rfl
        have := hf _ (Array.mem_of_getElem? he)
        dsimp only at this
        rw [isStr_pool (hP v (List.mem_of_getElem? hv)), hc] at this
        exact absurd this (by decide)
      | some i =>
        obtain ⟨hlt, hi, _⟩ := Array.findIdx?_eq_some_iff_getElem.mp hf
        have hl : i < ms.length := by rw [← ents_size w]; exact hlt
        have hv : ms[i]? = some ms[i] := List.getElem?_eq_getElem hl
        have he : (entsOf w ms)[i]? = some ⟨Hh w ms[i], ms[i], .none⟩ := by rw [ents_at, hv]; rfl
        have hei : (entsOf w ms)[i] = ⟨Hh w ms[i], ms[i], .none⟩ := (Array.getElem?_eq_some_iff.mp he).2
        rw [hei] at hi
        have pv := hP _ (List.getElem_mem hl)
        dsimp only at hi
        rw [isStr_pool pv] at hi
        have hc : cl ms[i] = cl (.str (Str.ofString "a") 462) := of_decide_eq_true hi
        dsimp only
        rw [he]
        dsimp only
        refine wpAny_bind (wpAny_dictEpoch ho hd' (wpAny_bind (eqx pv (wpAny_bind (wpAny_dictEpoch ho hd' ?_)))))
        show wpAny _ _ (if (ep != ep) = true then _ else _) _ E _
        rw [if_neg (by simp), decide_eq_true hc]
        exact wpAny_bind (wpAny_rule (wpAny_pure (h1 i _ hv hc)))
    · rw [if_neg hstrs]; exact rest
  next => exact rest
end

end
/-! Di2 -/
section
open PySem PySem.W PyProof.Rows

/-- the dict of the keys ms, each with None -/
noncomputable abbrev dictP (w : World) (ms : List Value) (ep : Nat) : Obj := { cls := .type "dict", data := .dict (entsOf w ms) ep }
theorem dictP_nil (w : World) : dictP w [] 0 = { cls := .type "dict", data := .dict #[] } := by unfold dictP entsOf; rfl
theorem ents_push (w : World) (ms : List Value) (x : Value) : (entsOf w ms).push ⟨Hh w x, x, .none⟩ = entsOf w (ms ++ [x]) := by unfold entsOf; simp
theorem ents_modify (w : World) (ms : List Value) (i : Nat) : ((entsOf w ms).modify i fun e => { e with val := .none }) = entsOf w ms := by
  apply Array.ext_getElem?
  intro j
  rw [Array.getElem?_modify]
  split
  · rename_i h
    subst h
    rw [ents_at]
    cases ms[i]? <;> rfl
  · rfl

section
variable {w : World} {A : Around} {E : Value → Shared → Prop} {s : Shared} {d : Addr} {o : Obj} {ms : List Value} {ep : Nat} {x : Value}

theorem dictSet_pool (X : (hd.heap_39 w.params).In s.heap) (ho : s.heap.get? d = some (dictP w ms ep)) (hP : ∀ v ∈ ms, Pv v) (nd : (ms.map cl).Nodup) (hx : Pv x) (hu : A.units + 3 < cLine) {Q : Unit → Shared → Prop}
    (h : ∀ h' ep' tk, Heap.SameBut d s.heap h' → h'.get? d = some (dictP w (addL ms x) ep') → Q () { s with heap := h', toks := tk }) : wpAny (model PR w) A (dictSet d x .none) Q E s := by
  unfold dictSet
  try with_reducible refine wpAny_holding ?_
  refine wpAny_bind (hash_pool X hx hu fun tk => ?_)
  unfold dictSetHashed
  try with_reducible refine wpAny_holding ?_
  have hd' : (dictP w ms ep).data = .dict (entsOf w ms) ep := rfl
  refine wpAny_bind (dictFind_pool (s := { s with toks := tk }) X ho hd' hP nd hx (by omega) (fun j v hj hc => ?_) fun hn => ?_)
  · refine wpAny_bind (wpAny_rule (wpAny_bind (wpAny_updateDict (s := { s with toks := tk }) ho hd' (wpAny_point (h _ ep tk (Heap.SameBut.update ..) ?_)))))
    rw [Heap.get?_update_self _ ho rfl]
    unfold Obj.mapDict addL
    rw [if_pos ⟨v, List.mem_of_getElem? hj, hc⟩]
    dsimp only
    rw [ents_modify]
  · refine wpAny_bind (wpAny_rule (wpAny_updateDictKeys (hz := by rw [ents_size, sizeLine_eq]; have := len5 hP nd; omega) (s := { s with toks := tk }) ho hd' (h _ (ep + 1) tk (Heap.SameBut.update ..) ?_)))
    rw [Heap.get?_update_self _ ho rfl]
    unfold Obj.mapDictKeys addL
    rw [if_neg hn]
    dsimp only
    rw [ents_push]

/-- all of l one by one -/
def addAll (ms : List Value) : List Value → List Value
  | [] => ms
  | x :: r => addAll (addL ms x) r
theorem addAll_snoc (x : Value) : ∀ (l ms : List Value), addAll ms (l ++ [x]) = addL (addAll ms l) x
  | [], _ => rfl
  | a :: r, ms => by rw [List.cons_append]; exact addAll_snoc x r (addL ms a)
theorem pv_addAll : ∀ {l ms : List Value}, (∀ v ∈ ms, Pv v) → (∀ v ∈ l, Pv v) → ∀ v ∈ addAll ms l, Pv v
  | [], _, h, _ => h
  | a :: r, ms, h, hl => show ∀ v ∈ addAll (addL ms a) r, Pv v from pv_addAll (pv_addL h (hl a (.head _))) fun v hv => hl v (.tail _ hv)
theorem nd_addAll : ∀ {l ms : List Value}, (ms.map cl).Nodup → ((addAll ms l).map cl).Nodup
  | [], _, h => h
  | a :: r, ms, h => show ((addAll (addL ms a) r).map cl).Nodup from nd_addAll (nd_addL h)
theorem inL_addAll {y : Value} : ∀ {l ms : List Value}, inL (addAll ms l) y ↔ (inL ms y ∨ inL l y)
  | [], ms => by simp [addAll, inL]
  | a :: r, ms => by
    have hc : inL (a :: r) y ↔ cl a = cl y ∨ inL r y := by simp [inL]
    show inL (addAll (addL ms a) r) y ↔ _
    rw [inL_addAll, inL_addL, hc]
    constructor
    · rintro ((h | h) | h)
      · exact .inr (.inl h)
      · exact .inl h
      · exact .inr (.inr h)
    · rintro (h | h | h)
      · exact .inl (.inr h)
      · exact .inl (.inl h)
      · exact .inr h

theorem entry_fk : entryFor table "dict.fromkeys" = some Builtin.«dict.fromkeys» := entryFor_of_tree (by kernel_rfl)
theorem entry_fk_loop : entryFor table "dict.fromkeys.loop" = some Builtin.«dict.fromkeys.loop» := entryFor_of_tree (by kernel_rfl)
theorem plain_fk_loop : plainId "dict.fromkeys.loop" = true := by decide +kernel

theorem fk_loop {I : Addr} {fp wr : List Addr} {n : Nat} {St : Nat → Heap → Prop} {R : Result → Shared → Prop} {l : List Value} (W : Walks PR w A.in1 I fp wr n (fun i v => l[i]? = some v) St) (hn : n = l.length) (hP : ∀ v ∈ l, Pv v) (hdf : d ∉ fp) (hnd : newK w d) (hnw : ∀ a ∈ wr, newK w a) (hu : A.units + 4 < cLine) :
    ∀ (k i : Nat) (s : Shared) (ep : Nat), n - i = k → i ≤ n → (hd.heap_39 w.params).In s.heap → St i s.heap → s.heap.get? d = some (dictP w (addAll [] (l.take i)) ep) →
      (∀ h' ep' tk, Mod (d :: wr) s.heap h' → h'.get? d = some (dictP w (addAll [] l) ep') → R (.ok (.ret (.ref d))) { s with heap := h', toks := tk }) →
      codeAny (model PR w) A (.builtin "dict.fromkeys.loop" ⟨[.ref d, .ref I, .none], []⟩) R s := by
  have hdw : d ∉ wr := fun q => hdf (W.sub _ q)
  intro k
  induction k with
  | zero =>
    intro i s ep hk hi X st hD hR
    have e : i = n := by omega
    subst e
    refine codeAny_builtin entry_fk_loop ?_
    rw [Around.under_plainId plain_fk_loop _]
    show wpAny _ A.in1 (pyNext (.ref I) >>= _) _ _ s
    refine wpAny_bind (W.done s _ _ st fun h' tk m => ?_)
    show wpAny _ _ (ret (.ref d)) _ _ _
    rw [List.take_of_length_le (by omega)] at hD
    exact wpAny_pure (hR h' ep tk (fun b o e nb => m b o (fun q => nb (.tail _ q)) e) (m _ _ hdw hD))
  | succ k ih =>
    intro i s ep hk hi X st hD hR
    refine codeAny_builtin entry_fk_loop ?_
    rw [Around.under_plainId plain_fk_loop _]
    show wpAny _ A.in1 (pyNext (.ref I) >>= _) _ _ s
    refine wpAny_bind (W.item i s _ _ (by omega) st fun v h1 tk1 hv st1 m1 => ?_)
    have pv := hP v (List.mem_of_getElem? hv)
    have X1 : (hd.heap_39 w.params).In h1 := fun b o e => m1 b o (fun q => by have := hnw b q; unfold newK at this; rw [this] at e; cases e) (X b o e)
    have hD1 := m1 _ _ hdw hD
    show wpAny _ _ (typeOf (.ref d) >>= _) _ _ _
    refine wpAny_bind (wpAny_typeOf (s := { s with heap := h1, toks := tk1 }) ⟨_, hD1, rfl⟩ ?_)
    rw [if_pos (by decide)]
    have pl : ∀ v ∈ addAll [] (l.take i), Pv v := pv_addAll (by simp) fun v hv => hP v (List.mem_of_mem_take hv)
    refine wpAny_bind (m := Builtin.Dict.addrOf (.ref d)) (wpAny_pure ?_)
    refine wpAny_bind (wpAny_holding ?_)
    refine dictSet_pool (s := { s with heap := h1, toks := tk1 }) X1 hD1 pl (nd_addAll (by simp)) pv (by simp only [Around.in1_units]; omega) fun h2 ep2 tk2 hs2 hD2 => ?_
    have hne : ∀ b ∈ fp, b ≠ d := fun b hb q => hdf (q ▸ hb)
    refine wpAny_pure ⟨plainId_quiet plain_fk_loop _, ih (i + 1) _ ep2 (by omega) (by omega) (fun b o e => (hs2.2 b (fun q => by subst q; unfold newK at hnd; rw [hnd] at e; cases e)).trans (X1 b o e)) (W.frame _ _ _ st1 fun b hb o e => (hs2.2 b (hne b hb)).trans e) ?_ fun h' ep' tk m hD' => ?_⟩
    · have : l.take (i + 1) = l.take i ++ [v] := by rw [List.take_add_one, hv]; rfl
      rw [this, addAll_snoc]; exact hD2
    · refine hR h' ep' tk (fun b o e nb => m b o ?_ nb) hD'
      have nb1 : b ≠ d := fun q => nb (q ▸ .head _)
      exact (hs2.2 b nb1).trans (m1 b o (fun q => nb (.tail _ q)) e)
end

end
/-! Di3 -/
section
open PySem PySem.W PyProof.Rows

theorem typeCall_dict_0 : checkTypeCall "dict" ⟨[], []⟩ = pure () := by kernel_rfl
theorem newCall_dict_0 : checkBuiltinCall "dict.__new__" ⟨[.type "dict"], []⟩ = pure () := by kernel_rfl
theorem args_dict_init_1 (a : Value) : argsOk "dict.__init__" ⟨[a], []⟩ := by unfold argsOk; kernel_rfl
theorem dict_of_dict : isSubtype (.type "dict") (.type "dict") = pure true := by rw [isSubtype_type]; kernel_rfl
theorem isType_dict : isType (.type "dict") = pure true := by first | rfl | kernel_rfl
def boundFk : Obj := { cls := .type "builtin_function_or_method", data := .fields #[.builtin "dict.fromkeys", .type "dict"] }
theorem owner_fk : (kfb_private% "ownerAndName") "dict.fromkeys" = ("dict", "fromkeys") := by first | decide +kernel | kernel_rfl
theorem type_fk : typeOf (.builtin "dict.fromkeys") = pure (.type "classmethod_descriptor") := by show builtinType _ = _; rw [builtinType_eq_fast]; kernel_rfl
theorem quiet_fk {as : Args} : (Code.builtin "dict.fromkeys" as).quiet = true := Code.quiet_builtin _ (by decide +kernel)
theorem check_fk (a : Addr) : checkBoundCall "dict.fromkeys" ⟨[.type "dict", .ref a], []⟩ = pure () := by first | kernel_rfl | rfl

section
variable {w : World} {A : Around} {E : Value → Shared → Prop} {s : Shared} {d : Addr} {o : Obj} {ms : List Value} {ep : Nat} {x : Value}

theorem code_dict_new_0 {Q₁ : Value → Shared → Prop} (h : Q₁ (.ref s.heap.objs.size) { s with heap := s.heap.push { cls := .type "dict", data := .dict #[] } }) :
    codeAny (model PR w) A (.call (.builtin "dict.__new__") ⟨[.type "dict"], []⟩) (wants Q₁ E) s := by
  refine codeAny_call_builtin PySem.F.kt_plain_dict_new PySem.F.kt_entry_dict_new (wpAny_of_eq newCall_dict_0 ?_)
  have hsub := PySem.F.kt_sub_dict
  have hmro := PySem.F.kt_mro_dict
  obtain ⟨hp, g, d, tk, os⟩ := s
  unfold Builtin.«dict.__new__»
  wp_walk
  exact h

theorem call_dict_0 {Q : Value → Shared → Prop} (h : Q (.ref s.heap.objs.size) { s with heap := s.heap.push { cls := .type "dict", data := .dict #[] } }) : wpAny (model PR w) A (call (.type "dict") []) Q E s := by
  refine callType_codes (Q₁ := fun obj s₁ => obj = .ref s.heap.objs.size ∧ s₁ = { s with heap := s.heap.push { cls := .type "dict", data := .dict #[] } }) PySem.F.kt_called_dict typeCall_dict_0 PySem.F.entry_dict_init (code_dict_new_0 ⟨rfl, rfl⟩) ?_
  rintro obj s₁ ⟨rfl, rfl⟩
  have hT : Shared.TypeIs { s with heap := s.heap.push { cls := .type "dict", data := .dict #[] } } (.ref s.heap.objs.size) "dict" := ⟨_, Heap.get?_push_size _ rfl, rfl⟩
  refine ⟨hT, args_dict_init_1 _, ?_⟩
  unfold Builtin.«dict.__init__»
  refine wpAny_bind ?_
  unfold Builtin.Dict.selfAndRest
  refine wpAny_bind (wpAny_notOrdered_dict hT ?_)
  show wpAny _ _ (pure (s.heap.objs.size, ([] : List Value))) _ _ _
  refine wpAny_pure ?_
  show wpAny _ _ (Builtin.Dict.updateCommon "dict.__init__" "dict" s.heap.objs.size [] []) _ _ _
  unfold Builtin.Dict.updateCommon
  exact wpAny_bind (wpAny_pure (wpAny_pure ⟨rfl, h⟩))

/-- what dict.fromkeys and list need to know of a row: its type, that iter answers with a walk -/
structure RowSrc (w : World) (T : String) (r : Addr) (l : List Value) (OK : Heap → Prop) : Prop where
  type : ∀ s : Shared, OK s.heap → s.TypeIs (.ref r) T
  keep : ∀ h h' : Heap, OK h → (∀ b, b = r → ∀ o, h.get? b = some o → h'.get? b = some o) → OK h'
  there : ∀ h : Heap, OK h → @LT.lt Nat _ r h.objs.size
  t1 : (Value.type T == Value.type "dict") = false
  t2 : (Value.type T == Value.type "set") = false
  t3 : (Value.type T == Value.type "frozenset") = false
  isiS : ∀ (A : Around) (E : Value → Shared → Prop) (s : Shared) (Q : Value → Shared → Prop), OK s.heap → Q (.bool false) { s with toks := s.toks + 1 } → wpAny (model PR w) A (call (.builtin "isinstance") [.ref r, .type "set"]) Q E s
  isiD : ∀ (A : Around) (E : Value → Shared → Prop) (s : Shared) (Q : Value → Shared → Prop), OK s.heap → Q (.bool false) { s with toks := s.toks + 1 } → wpAny (model PR w) A (call (.builtin "isinstance") [.ref r, .type "dict"]) Q E s
  iter : ∀ (A : Around) (s : Shared), A.handled = none → OK s.heap → ∃ (oI : Obj) (St : Nat → Heap → Prop),
    (∀ (E : Value → Shared → Prop) (Q : Value → Shared → Prop), Q (.ref s.heap.objs.size) { s with heap := s.heap.push oI } → wpAny (model PR w) A (pyIter (.ref r)) Q E s) ∧
    Walks PR w A s.heap.objs.size [s.heap.objs.size, r] [s.heap.objs.size] l.length (fun i v => l[i]? = some v) St ∧ St 0 (s.heap.push oI)

theorem rowList (w : World) (r : Addr) (l : List Value) : RowSrc w "list" r l (fun h => h.IsList r l.toArray) where
  type := fun _ hm => hm.typeIs
  keep := fun _ _ hm hk => let ⟨o, ho, x⟩ := hm; ⟨o, hk r rfl o ho, x⟩
  there := fun _ hm => let ⟨_, ho, _⟩ := hm; get_lt ho
  t1 := by decide
  t2 := by decide
  t3 := by decide
  isiS := fun A E s Q hm hq => call_isinstance (isinstance_false_list (by decide) (by kernel_rfl) (by rw [isSubtype_type]; kernel_rfl)) ⟨let ⟨o, ho, hc, _⟩ := hm; ⟨o, ho, hc⟩, hq⟩
  isiD := fun A E s Q hm hq => call_isinstance (isinstance_false_list (by decide) (by kernel_rfl) (by rw [isSubtype_type]; kernel_rfl)) ⟨let ⟨o, ho, hc, _⟩ := hm; ⟨o, ho, hc⟩, hq⟩
  iter := fun A s hh hm => ⟨_, (fun i h => h.IsListIter s.heap.objs.size r i ∧ h.IsList r l.toArray), (fun _ _ hq => wpAny_pyIter_list hm hq), by
    have W := Walks.list (prog := PR) (w := w) (A := A) hh s.heap.objs.size r (let ⟨_, ho, _⟩ := hm; Nat.ne_of_lt (get_lt ho)) l.toArray
    simpa using W, ⟨⟨_, Heap.get?_push_size _ rfl, rfl, rfl⟩, isList_mod hm (mod_push _ _) (by simp)⟩⟩
theorem rowTuple (w : World) (r : Addr) (l : List Value) : RowSrc w "tuple" r l (fun h => h.IsTuple r l.toArray) where
  type := fun _ hm => hm.typeIs
  keep := fun _ _ hm hk => let ⟨o, ho, x⟩ := hm; ⟨o, hk r rfl o ho, x⟩
  there := fun _ hm => let ⟨_, ho, _⟩ := hm; get_lt ho
  t1 := by decide
  t2 := by decide
  t3 := by decide
  isiS := fun A E s Q hm hq => call_isinstance (isinstance_false_tuple (by decide) (by kernel_rfl) (by rw [isSubtype_type]; kernel_rfl)) ⟨let ⟨o, ho, hc, _⟩ := hm; ⟨o, ho, hc⟩, hq⟩
  isiD := fun A E s Q hm hq => call_isinstance (isinstance_false_tuple (by decide) (by kernel_rfl) (by rw [isSubtype_type]; kernel_rfl)) ⟨let ⟨o, ho, hc, _⟩ := hm; ⟨o, ho, hc⟩, hq⟩
  iter := fun A s hh hm => ⟨_, (fun i h => h.IsTupleIter s.heap.objs.size r i ∧ h.IsTuple r l.toArray), (fun _ _ hq => wpAny_pyIter_tuple hm hq), by
    have W := Walks.tuple (prog := PR) (w := w) (A := A) hh s.heap.objs.size r (let ⟨_, ho, _⟩ := hm; Nat.ne_of_lt (get_lt ho)) l.toArray
    simpa using W, ⟨⟨_, Heap.get?_push_size _ rfl, rfl, rfl⟩, let ⟨o, ho, x⟩ := hm; ⟨o, Heap.get?_push_of_some _ ho, x⟩⟩⟩

theorem run_fk {T : String} {r : Addr} {l : List Value} {OK : Heap → Prop} {R : Result → Shared → Prop} (K : RowSrc w T r l OK) (X : (hd.heap_39 w.params).In s.heap) (hok : OK s.heap) (hP : ∀ v ∈ l, Pv v) (hh : A.handled = none) (hu : A.units + 5 < cLine)
    (h : ∀ h' ep' tk d, d = s.heap.objs.size → newK w d → Mod [] s.heap h' → h'.get? d = some (dictP w (addAll [] l) ep') → R (.ok (.ret (.ref d))) { s with heap := h', toks := tk }) :
    wpAny (model PR w) A.in1 (Builtin.«dict.fromkeys» ⟨[.type "dict", .ref r], []⟩)
      (fun fin s' => match fin with | .done f => R (.ok f) s' | .again c' => c'.quiet = true ∧ codeAny (model PR w) A c' R s') (fun e s' => R (.error e) s') s := by
  unfold Builtin.«dict.fromkeys»
  refine wpAny_bind (wpAny_of_eq (a := true) isType_dict ?_)
  rw [if_neg (by decide)]
  refine wpAny_bind (wpAny_of_eq (a := true) dict_of_dict ?_)
  rw [if_neg (by decide), if_neg (by simp)]
  refine wpAny_bind (wpAny_rule (wpAny_bind (wpAny_pure ?_)))
  dsimp only
  refine wpAny_bind (call_dict_0 ?_)
  refine wpAny_holding ?_
  have hok1 : OK (s.heap.push { cls := .type "dict", data := .dict #[] }) := K.keep _ _ hok fun b _ o e => Heap.get?_push_of_some _ e
  have hd0 : (s.heap.push { cls := .type "dict", data := .dict #[] }).get? s.heap.objs.size = some (dictP w [] 0) := by rw [dictP_nil]; exact Heap.get?_push_size _ rfl
  refine wpAny_bind (wpAny_typeOf (s := { s with heap := s.heap.push _ }) (K.type _ hok1) ?_)
  refine wpAny_bind (wpAny_typeOf (s := { s with heap := s.heap.push _ }) ⟨_, hd0, rfl⟩ ?_)
  rw [K.t1, Bool.and_false, if_neg (by decide)]
  refine wpAny_bind (wpAny_typeOf (s := { s with heap := s.heap.push _ }) ⟨_, hd0, rfl⟩ ?_)
  rw [K.t2, K.t3, Bool.or_false, Bool.and_false, if_neg (by decide)]
  obtain ⟨oI, St, hit, W, st⟩ := K.iter A.in1 { s with heap := s.heap.push { cls := .type "dict", data := .dict #[] } } (by exact hh) hok1
  refine wpAny_bind (hit _ _ ?_)
  have hlt := K.there _ hok
  have hsz : (s.heap.push { cls := .type "dict", data := .dict #[] }).objs.size = s.heap.objs.size + 1 := Heap.size_push ..
  have hdn : newK w s.heap.objs.size := newK_size X (Nat.le_refl _)
  refine wpAny_pure ⟨plainId_quiet plain_fk_loop _, fk_loop (d := s.heap.objs.size) W rfl hP ?_ hdn ?_ (by omega) _ 0 _ 0 rfl (Nat.zero_le _) ?_ st ?_ fun h' ep' tk m hD => ?_⟩
  · simp only [List.mem_cons, List.not_mem_nil, or_false, not_or]
    exact ⟨neNat (by rw [hsz]; exact Nat.lt_succ_self _), (neNat hlt).symm⟩
  · intro a ha
    rw [List.mem_singleton.mp ha]
    exact newK_size X (by rw [hsz]; exact Nat.le_succ _)
  · exact (X.keeps fun b o e => Heap.get?_push_of_some _ e).keeps fun b o e => Heap.get?_push_of_some _ e
  · exact Heap.get?_push_of_some _ hd0
  · refine h h' ep' tk s.heap.objs.size rfl hdn (fun b o e _ => m b o (Heap.get?_push_of_some _ (Heap.get?_push_of_some _ e)) ?_) hD
    have := get_lt e
    simp only [List.mem_cons, List.not_mem_nil, or_false, not_or]
    exact ⟨neNat this, neNat (by rw [hsz]; exact Nat.lt_succ_of_lt this)⟩

theorem call_fk {T : String} {u r : Addr} {l : List Value} {OK : Heap → Prop} {Q : Value → Shared → Prop} (K : RowSrc w T r l OK) (X : (hd.heap_39 w.params).In s.heap) (hok : OK s.heap) (hP : ∀ v ∈ l, Pv v) (hh : A.handled = none) (hu : A.units + 5 < cLine) (ho : s.heap.get? u = some boundFk)
    (h : ∀ h' ep' tk d, d = s.heap.objs.size → newK w d → Mod [] s.heap h' → h'.get? d = some (dictP w (addAll [] l) ep') → Q (.ref d) { s with heap := h', toks := tk }) :
    wpAny (model PR w) A (call (.ref u) [.ref r]) Q E s := by
  refine wpAny_call (codeAny_of_tree ?_)
  show wpAny _ A.in1 (callAny (.ref u) ⟨[.ref r], []⟩) _ _ s
  simp only [callAny]
  refine wpAny_bind (wpAny_load ho ?_)
  simp only [boundFk, show (Value.type "builtin_function_or_method" == Value.type "method" || Value.type "builtin_function_or_method" == Value.type "builtin_function_or_method" || Value.type "builtin_function_or_method" == Value.type "method-wrapper") = true by decide, if_true]
  refine PySem.W.KFB.if_so (by decide) ?_
  refine wpAny_bind (wpAny_of_eq (a := ()) (check_fk r) ?_)
  refine wpAny_bind (wpAny_pure (wpAny_pure ?_))
  exact ⟨quiet_fk, codeAny_builtin entry_fk (run_fk (R := wants Q E) K X hok hP (by exact hh) hu h)⟩
end

end
/-! Di4 -/
section
open PySem PySem.W PyProof.Rows

def DictIs (w : World) (ms : List Value) (ep : Nat) (d : Addr) (h : Heap) : Prop := h.get? d = some (dictP w ms ep)

section
variable {w : World} {A : Around} {E : Value → Shared → Prop} {s : Shared} {d it : Addr} {ms : List Value} {ep : Nat} {x : Value}

theorem pyIter_dictP {Q : Value → Shared → Prop} (hd : (d == sysModules) = false) (hm : s.heap.get? d = some (dictP w ms ep))
    (hQ : Q (.ref s.heap.objs.size) { s with heap := s.heap.push { cls := .type "dict_keyiterator", data := .fields #[.ref d, .int 0 0, .int ms.length 0, .int ep 0] } }) :
    wpAny (model PR w) A (pyIter (.ref d)) Q E s := by
  have hdat : (dictP w ms ep).data = .dict (entsOf w ms) ep := rfl
  have hT : s.TypeIs (.ref d) "dict" := ⟨_, hm, rfl⟩
  refine wpAny_pyIter_slot hT PySem.F.slot_dict_iter (wpAny_call_entry PySem.F.slot_dict_iter hT PySem.F.entry_dict_iter ?_ (PySem.F.args_dict_iter_1 _))
  unfold Builtin.«dict.__iter__»
  refine wpAny_bind ?_
  unfold Builtin.Dict.dictSlotNone
  refine wpAny_bind (wpAny_notOrdered_dict hT ?_)
  show wpAny _ _ (pure (Value.ref d)) _ _ s
  refine wpAny_pure ?_
  show wpAny _ _ (Builtin.Dict.showsAll d >>= _) _ _ s
  unfold Builtin.Dict.showsAll
  rw [if_neg (by rw [hd]; exact Bool.false_ne_true)]
  refine wpAny_bind (wpAny_pure ?_)
  refine wpAny_bind (wpAny_dictEntries hm hdat ?_)
  refine wpAny_bind (wpAny_dictEpoch hm hdat ?_)
  refine wpAny_bind (wpAny_newObj_type (wpAny_pure ⟨_, rfl, "dict_keyiterator", _, ⟨_, Heap.get?_push_size _ rfl, rfl⟩, PySem.F.slot_dict_keyiterator_next.lookup, ?_⟩))
  simpa [rawInt, ents_size] using hQ

theorem pyNext_dict_item {i : Nat} {v : Value} {Q : Option Value → Shared → Prop} (hit : s.heap.IsKeyIter it d i ms.length ep) (hm : s.heap.get? d = some (dictP w ms ep)) (hx : ms[i]? = some v)
    (hQ : ∀ h', h'.IsKeyIter it d (i + 1) ms.length ep → Heap.SameBut it s.heap h' → Q (some v) { s with heap := h' }) :
    wpAny (model PR w) A (pyNext (.ref it)) Q E s := by
  obtain ⟨o, ho, hc, hd⟩ := id hit
  have hdd : (dictP w ms ep).data = .dict (entsOf w ms) ep := rfl
  unfold pyNext
  refine wpAny_bind (wpAny_attempt (wpAny_callSpecial?_slot (name := Str.ofString "__next__") hit.typeIs PySem.F.slot_dict_keyiterator_next
    (wpAny_call_entry PySem.F.slot_dict_keyiterator_next hit.typeIs PySem.F.entry_dict_keyiterator_next ?_ (PySem.F.args_dict_keyiterator_next_1 _))))
  refine wpAny_bind (wpAny_pure ?_)
  refine wpAny_bind ?_
  refine wpAny_bind ?_
  first | refine wpAny_bind (wpAny_typeNameOfWhole_keyiter hit.typeIs (wpAny_pure ?_)) | refine wpAny_bind (wpAny_typeNameOf_keyiter hit.typeIs (wpAny_pure ?_))
  refine wpAny_bind (wpAny_fieldsOf ho hd ?_)
  have hown : Builtin.Dict_items.ownsTuple "dict_keyiterator" = false := by decide
  simp only [hown, Bool.false_eq_true, if_false]
  show wpAny _ _ (if (Value.ref d == Value.none) = true then _ else _) _ _ s
  rw [if_neg (show ¬ ((Value.ref d == Value.none) = true) from Bool.false_ne_true)]
  refine wpAny_bind (wpAny_pure ?_)
  refine wpAny_bind (wpAny_dictEntries hm hdd ?_)
  rw [if_neg (by rw [ents_size]; simp)]
  refine wpAny_bind (wpAny_pure ?_)
  refine wpAny_bind (wpAny_dictEpoch hm hdd ?_)
  rw [if_neg (by simp)]
  refine wpAny_pure ?_
  have he : (entsOf w ms)[i]? = some ⟨Hh w v, v, .none⟩ := by rw [ents_at, hx]; rfl
  simp only [show ¬ ((i : Int) < 0) from by omega, if_false, Int.toNat_natCast, he]
  refine wpAny_bind ?_
  first | refine wpAny_bind (wpAny_typeNameOfWhole_keyiter hit.typeIs (wpAny_pure ?_)) | refine wpAny_bind (wpAny_typeNameOf_keyiter hit.typeIs (wpAny_pure ?_))
  refine wpAny_bind (wpAny_isOneOf_keyiter hit.typeIs ?_)
  show wpAny _ _ (setField (.ref it) 1 (rawInt ((i : Int) + 1)) >>= _) _ _ s
  refine wpAny_bind (wpAny_setField ho hd (by simp) ?_)
  have hit' : (s.heap.update it (Obj.mapFields (·.setIfInBounds 1 (rawInt ((i : Int) + 1))))).IsKeyIter it d (i + 1) ms.length ep :=
    ⟨_, Heap.get?_update_self _ ho (Obj.isFreed_of_fields (Obj.data_mapFields hd _)), (Obj.cls_mapFields ..).trans hc, by rw [Obj.data_mapFields hd]; simp [rawInt]⟩
  refine wpAny_bind (wpAny_holding ?_)
  refine wpAny_bind (wpAny_isOneOf_keyiter (s := { s with heap := s.heap.update it (Obj.mapFields (·.setIfInBounds 1 (rawInt ((i : Int) + 1)))) }) hit'.typeIs ?_)
  show wpAny _ _ (pure v) _ _ _
  exact wpAny_pure (wpAny_pure ⟨_, rfl, wpAny_pure (hQ _ hit' (Heap.SameBut.update ..))⟩)

theorem pyNext_dict_end {i : Nat} {Q : Option Value → Shared → Prop} (hh : A.handled = none) (hit : s.heap.IsKeyIter it d i ms.length ep) (hm : s.heap.get? d = some (dictP w ms ep)) (hx : ms.length ≤ i)
    (hQ : ∀ h', Heap.ExtBut it s.heap h' → Q none { s with heap := h' }) : wpAny (model PR w) A (pyNext (.ref it)) Q E s := by
  obtain ⟨o, ho, hc, hd⟩ := id hit
  have hdd : (dictP w ms ep).data = .dict (entsOf w ms) ep := rfl
  unfold pyNext
  refine wpAny_bind (wpAny_attempt (wpAny_callSpecial?_slot (name := Str.ofString "__next__") hit.typeIs PySem.F.slot_dict_keyiterator_next
    (wpAny_call_entry PySem.F.slot_dict_keyiterator_next hit.typeIs PySem.F.entry_dict_keyiterator_next ?_ (PySem.F.args_dict_keyiterator_next_1 _))))
  refine wpAny_bind (wpAny_pure ?_)
  refine wpAny_bind ?_
  refine wpAny_bind ?_
  first | refine wpAny_bind (wpAny_typeNameOfWhole_keyiter hit.typeIs (wpAny_pure ?_)) | refine wpAny_bind (wpAny_typeNameOf_keyiter hit.typeIs (wpAny_pure ?_))
  refine wpAny_bind (wpAny_fieldsOf ho hd ?_)
  have hown : Builtin.Dict_items.ownsTuple "dict_keyiterator" = false := by decide
  simp only [hown, Bool.false_eq_true, if_false]
  show wpAny _ _ (if (Value.ref d == Value.none) = true then _ else _) _ _ s
  rw [if_neg (show ¬ ((Value.ref d == Value.none) = true) from Bool.false_ne_true)]
  refine wpAny_bind (wpAny_pure ?_)
  refine wpAny_bind (wpAny_dictEntries hm hdd ?_)
  rw [if_neg (by rw [ents_size]; simp)]
  refine wpAny_bind (wpAny_pure ?_)
  refine wpAny_bind (wpAny_dictEpoch hm hdd ?_)
  rw [if_neg (by simp)]
  refine wpAny_pure ?_
  have hge : (entsOf w ms).size ≤ i := by rw [ents_size]; exact hx
  simp only [show ¬ ((i : Int) < 0) from by omega, if_false, Int.toNat_natCast, Array.getElem?_eq_none hge]
  refine wpAny_bind ?_
  first | refine wpAny_bind (wpAny_typeNameOfWhole_keyiter hit.typeIs (wpAny_pure ?_)) | refine wpAny_bind (wpAny_typeNameOf_keyiter hit.typeIs (wpAny_pure ?_))
  show wpAny _ _ (setField (.ref it) 0 .none >>= _) _ _ s
  refine wpAny_bind (wpAny_setField ho hd (by simp) ?_)
  show wpAny _ _ (newExc (.type "StopIteration") [] >>= _) _ _ _
  refine wpAny_bind ?_
  simp only [newExc, newTuple]
  refine wpAny_bind (wpAny_newObj_type ?_ (by size_fits))
  refine wpAny_bind (m := firstArgMember _ _) (wpAny_of_eq (a := Value.none) (by first | rfl | (simp only [firstArgMember]; rfl)) ?_)
  refine wpAny_newObj_type ?_ (by size_fits)
  simp only [raiseNew]
  refine wpAny_bind (wpAny_handled ?_)
  rw [show A.in1.handled = none from hh]
  refine wpAny_bind (wpAny_pure (wpAny_throw ?_))
  refine wpAny_bind (wpAny_isInstance (T := "StopIteration") (b := true) ⟨_, Heap.get?_push_size _ rfl, rfl⟩ isSubtype_stop ?_)
  exact wpAny_pure (hQ _ (((Heap.SameBut.update ..).extBut.push _).push _))

theorem walksDict (hh : A.handled = none) (I d : Addr) (hne : d ≠ I) (ms : List Value) (ep : Nat) :
    Walks PR w A I [I, d] [I] ms.length (fun i v => ms[i]? = some v) (fun i h => h.IsKeyIter I d i ms.length ep ∧ h.get? d = some (dictP w ms ep)) where
  sub := fun b hb => by simp at hb; simp [hb]
  frame := fun _ _ _ st hk => ⟨st.1.at fun o e => hk I (by simp) o e, hk d (by simp) _ st.2⟩
  item := fun i s Q E hi st hQ => by
    have hx : ms[i]? = some ms[i] := List.getElem?_eq_getElem hi
    refine pyNext_dict_item st.1 st.2 hx fun h' hit' hs' => ?_
    exact hQ _ h' s.toks hx ⟨hit', (hs'.2 d hne).trans st.2⟩ fun b o hb e => hs'.extBut b o (fun h => hb (by simp [h])) e
  done := fun s Q E st hQ => pyNext_dict_end hh st.1 st.2 (Nat.le_refl _) fun h' he' => hQ h' s.toks fun b o hb e => he' b o (fun h => hb (by simp [h])) e
  self := fun _ _ _ _ st hQ => wpAny_pyIter_keyiter st.1 hQ

theorem kdlP (lo : (d == sysModules) = false) (ms : List Value) (ep : Nat) : KdlSrc PR w "dict" d d ms.length (fun i v => ms[i]? = some v) (fun h => h.get? d = some (dictP w ms ep)) where
  type := fun _ hm => ⟨_, hm, rfl⟩
  there := fun _ hm => ⟨Heap.lt_size hm, Heap.lt_size hm⟩
  keep := fun _ _ hm hk => hk d (.inl rfl) _ hm
  notList := by decide
  notTuple := by decide
  hint := fun _ _ _ _ hm hq => kdl_hint_dict ⟨_, hm, rfl⟩ hq
  iter := fun _ s hh hm => ⟨_, (fun i h => h.IsKeyIter s.heap.objs.size d i ms.length ep ∧ h.get? d = some (dictP w ms ep)), (fun _ _ hq => pyIter_dictP lo hm hq), walksDict hh _ d (Nat.ne_of_lt (get_lt hm)) ms ep, ⟨⟨_, Heap.get?_push_size _ rfl, rfl, rfl⟩, Heap.get?_push_of_some _ hm⟩⟩

/-- list(d) -/
theorem list_dictP {Q : Value → Shared → Prop} (lo : (d == sysModules) = false) (hm : s.heap.get? d = some (dictP w ms ep)) (hz : ms.length ≤ sizeLine) (hh : A.handled = none)
    (h : ∀ h' tk e l, s.heap.get? l = none → Mod [] s.heap h' → h'.get? l = some (PySem.W.listOf ms.toArray e) → Q (.ref l) { s with heap := h', toks := tk }) : wpAny (model PR w) A (call (.type "list") [.ref d]) Q E s := by
  refine kdl_call (kdlP lo ms ep) hh hm hz fun h' tk acc' c' hk hD hacc => ?_
  have e : acc' = ms.toArray := by
    apply Array.ext_getElem?
    intro i
    have hm' : ms.toArray[i]? = ms[i]? := by simp
    rw [hm']
    by_cases q : i < ms.length
    · have hi : acc'[i]? = some (acc'[i]'(by rw [hacc.1]; exact q)) := Array.getElem?_eq_getElem _
      rw [hi]; exact (hacc.2 i _ hi).symm
    · rw [Array.getElem?_eq_none (by rw [hacc.1]; omega), List.getElem?_eq_none (by omega)]
  subst e
  exact h h' tk c' s.heap.objs.size (Heap.get?_none_of_le (Nat.le_refl _)) (fun b o e _ => hk b o e) hD
end

end
/-! Di5 -/
section

section
variable {w : World} {A : Around} {E : Value → Shared → Prop} {s : Shared} {d it : Addr} {ms : List Value} {ep : Nat} {x : Value} {g : Heap} {L : Addr} {m : Str → Option Value} {news : List (Addr × Obj)}

theorem run_fkget {P : Fin → Shared → Prop} (h : P (.done (.ret (.ref s.heap.objs.size))) { s with heap := s.heap.push boundFk }) :
    wpAny (model PR w) A (Builtin.«classmethod_descriptor.__get__» ⟨[.builtin "dict.fromkeys", .none, .type "dict"], []⟩) P E s := by
  unfold Builtin.«classmethod_descriptor.__get__»
  refine wpAny_bind (wpAny_of_eq (a := (.builtin "dict.fromkeys", none, some (.type "dict"))) (by first | rfl | kernel_rfl) ?_)
  simp only [owner_fk]
  refine wpAny_bind (wpAny_of_eq (a := .type "dict") rfl ?_)
  refine wpAny_bind (wpAny_of_eq (a := true) isType_dict ?_)
  refine PySem.W.KFB.if_not rfl ?_
  refine wpAny_bind (wpAny_of_eq (a := true) dict_of_dict ?_)
  refine PySem.W.KFB.if_not rfl ?_
  exact wpAny_bind (wpAny_newObj_type (wpAny_pure h))

theorem find_fk (w : World) : findCls (hd.heap_39 w.params) (.type "dict") (.type "type") (Str.ofString "fromkeys") = some (.get (.builtin "classmethod_descriptor.__get__") (.builtin "dict.fromkeys") .none (.type "dict")) := by kernel_rfl

theorem getm_fk {pl : Sem Bool} {Q : Value × List Value → Shared → Prop} (F : Fr g L s.heap m) (N : News g L s.heap news) (X₀ : (hd.heap_39 w.params).In g)
    (h : ∀ x h', Fr g L h' m → News g L h' ((x, boundFk) :: news) → (∀ p ∈ news, p.1 < x) → Q (.ref x, []) { s with heap := h', toks := s.toks + 1 }) :
    wpAny (model PR w) A (getMethod (.type "dict") (Str.ofString "fromkeys") pl) Q E s := by
  have X := X₀.keeps F.keep
  have hstub : opaqueClassAbove (.type "dict") = pure none := by unfold opaqueClassAbove; dsimp only; rw [show Manifest.isStub "dict" = false by decide +kernel]; rfl
  have ht : typeOf (.type "dict") = pure (.type "type") := by first | rfl | kernel_rfl
  have L0 : Looks (model PR w) s.heap (typeOf (.type "dict")) (.type "type") := Looks.of_pure ht
  have hg : findIn (hd.heap_39 w.params) (.type "type") "__getattribute__" = some (some (.builtin "type.__getattribute__")) := type_tga
  unfold getMethod specialOf
  refine wpAny_bind (wpAny_bind (L0.here ((looks_findIn X hg).here ?_)))
  dsimp only
  rw [if_pos canon_tga]
  refine wpAny_bind (wpAny_mono (Q := fun v => Q (v, [])) (E := E) ?_ (fun _ _ z => wpAny_pure z) fun _ _ z => z)
  have LO : Looks (model PR w) s.heap (opaqueClassAbove (.type "dict")) none := Looks.of_pure hstub
  refine cls_open X LO L0 hg (looks_hook X (r := none) (by rfl)) (by show subIn (hd.heap_39 w.params) _ _ = _; rfl) (find_fk w) ?_
  show wpAny _ _ (holding [.builtin "dict.fromkeys"] (call (.builtin "classmethod_descriptor.__get__") [.builtin "dict.fromkeys", .none, .type "dict"]) >>= fun v => ret v) _ _ _
  refine wpAny_bind (wpAny_holding (wpAny_call_entry PySem.W.KFB.slot_get type_fk PySem.W.KFB.entry_get (run_fkget ⟨_, rfl, wpAny_pure (wpAny_pure (h _ _ (F.push _) (News.push F N _) fun p hp => Heap.lt_size (N p hp).1))⟩) (PySem.W.KFB.args_get _ _ _)))

def FkAt (x : Addr) (h : Heap) : Prop := h.get? x = some boundFk
theorem fk_at {x : Addr} {h : Heap} (N : News g L h news) (hm : (x, boundFk) ∈ news) : FkAt x h := (N _ hm).1
theorem callWith_fkF {pos : Pos} {u : Addr} {first : List Value} {args : List (Bool × Sem Value)} {Q : Value → Shared → Prop} (hplain : args.any (·.1) = false)
    (h : wpAny (model PR w) A (evalArgs (.ref u) true args []) (fun x s₁ => FkAt u s₁.heap ∧ wpAny (model PR w) A (call (.ref u) (first ++ x.pos) x.kw) Q E s₁) E s) : wpAny (model PR w) A (callWith pos (.ref u) first args []) Q E s := by
  unfold callWith
  refine wpAny_bind (wpAny_holding (wpAny_mono h (fun x s₁ h₁ => wpAny_bind (wpAny_standAt ?_)) fun _ _ x => x))
  obtain ⟨ho, hcall⟩ := h₁
  simp only [hplain, List.any_nil, Bool.or_false]
  refine wpAny_bind (m := keeperOf (.ref u)) ?_
  unfold keeperOf
  refine wpAny_bind (wpAny_load ho ?_)
  simp only [boundFk, show (Value.type "builtin_function_or_method" != Value.type "method") = true by decide, show (Value.type "builtin_function_or_method" == Value.type "builtin_function_or_method" || Value.type "builtin_function_or_method" == Value.type "method-wrapper") = true by decide, if_true]
  refine wpAny_pure ?_
  exact wpAny_bind (wpAny_mono hcall (fun r s₂ hr => wpAny_bind (wpAny_holding (wpAny_point (wpAny_pure hr)))) fun _ _ x => x)
theorem callWith_fk {pos : Pos} {u : Addr} {first : List Value} {env : Env} {e : Expr} {rest : List Expr} {Q : Value → Shared → Prop} (_N : News g L s.heap news) (_hm : (u, boundFk) ∈ news)
    (h : wpAny (model PR w) A (spliced (backTo pos (starEach (e :: rest) env))) (fun vs s₁ => FkAt u s₁.heap ∧ wpAny (model PR w) A (call (.ref u) (first ++ vs)) Q E s₁) E s)
    (he : starEach (e :: rest) env = (false, eval e env) :: starEach rest env := by rfl) (hplain : (backTo pos (starEach rest env)).any (·.1) = false := by rfl) :
    wpAny (model PR w) A (callWith pos (.ref u) first (backTo pos (starEach (e :: rest) env)) []) Q E s := by
  rw [he] at h ⊢
  refine callWith_fkF (by show (false || (backTo pos (starEach rest env)).any (·.1)) = false; rw [hplain]; rfl) ?_
  exact evalArgs_plain h

theorem notSys (X : (hd.heap_39 w.params).In s.heap) (h : d = s.heap.objs.size) : (d == sysModules) = false := by
  refine beq_eq_false_iff_ne.mpr fun e => ?_
  have := get_lt (X 243 _ rfl)
  rw [h] at e
  rw [show s.heap.objs.size = 1 from e] at this
  exact absurd this (by decide)

theorem k_call_fk {T : String} {u r : Addr} {l : List Value} {OK : Heap → Prop} {Q : Value → Shared → Prop} (K : RowSrc w T r l OK) (F : Fr g L s.heap m) (X₀ : (hd.heap_39 w.params).In g) (N : News g L s.heap news) (hm : (u, boundFk) ∈ news) (hok : OK s.heap) (hP : ∀ v ∈ l, Pv v) (hh : A.handled = none) (hu : A.units + 5 < cLine)
    (h : ∀ h' ep' tk d, (d == sysModules) = false → Fr g L h' m → News g L h' ((d, dictP w (addAll [] l) ep') :: news) → (∀ p ∈ news, p.1 ≠ d) → Q (.ref d) { s with heap := h', toks := tk }) :
    wpAny (model PR w) A (call (.ref u) [.ref r]) Q E s :=
  call_fk K (X₀.keeps F.keep) hok hP hh hu (N _ hm).1 fun h' ep' tk d e0 hn md hD => by
    have h0 : s.heap.get? d = none := e0 ▸ Heap.get?_none_of_le (Nat.le_refl _)
    obtain ⟨F', N'⟩ := led_new F N md h0 hD
    exact h h' ep' tk d (notSys (X₀.keeps F.keep) e0) F' N' fun p hp e => by rw [← e, (N p hp).1] at h0; cases h0

theorem k_list_dict {Q : Value → Shared → Prop} (F : Fr g L s.heap m) (N : News g L s.heap news) (hm : (d, dictP w ms ep) ∈ news) (lo : (d == sysModules) = false) (hz : ms.length ≤ sizeLine) (hh : A.handled = none)
    (h : ∀ h' tk e l, Fr g L h' m → News g L h' ((l, PySem.W.listOf ms.toArray e) :: news) → (∀ p ∈ news, p.1 ≠ l) → Q (.ref l) { s with heap := h', toks := tk }) : wpAny (model PR w) A (call (.type "list") [.ref d]) Q E s :=
  list_dictP lo (N _ hm).1 hz hh fun h' tk e l h0 md hD => by
    obtain ⟨F', N'⟩ := led_new F N md h0 hD
    exact h h' tk e l F' N' fun p hp e => by rw [← e, (N p hp).1] at h0; cases h0
end

end
local macro_rules | `(tactic| walk_at "getMethod type:dict") => `(tactic| (k_here; (with_reducible show wpAny _ _ (getMethod (Value.type "dict") (PySem.Str.ofString "fromkeys") _) _ _ _); k_dflt (refine' getm_fk ?F ?N ?X ?_; (case F => k_asm); (case N => k_asm); (case X => k_asm); k_whole; intro x' h' F' N' l1; (try k_lt l1); (try k_sweep))))
local macro_rules | `(tactic| walk_at "callWith ref") => `(tactic| (k_here; (with_reducible show wpAny _ _ (callWith _ (Value.ref _) _ (backTo _ (starEach (_ :: _) _)) []) _ _ _); k_dflt (refine' callWith_fk ?N ?M ?_; (case N => k_asm); (case M => k_mem); k_whole)))
local macro_rules | `(tactic| walk_at "And") => `(tactic| ((with_reducible show FkAt _ _ ∧ _); k_dflt (refine ⟨fk_at (by k_asm) (by k_mem), ?_⟩); (try dsimp only [List.nil_append, List.cons_append])))
/-! C2 -/
section
open PySem PySem.W PyProof.Rows

theorem mod_drop {h h' : Heap} {a : Addr} {o : Obj} {S : List Addr} (m : Mod (a :: S) h h') (e : h.get? a = some o) (e' : h'.get? a = some o) : Mod S h h' := fun b x q n => by
  by_cases z : b = a
  · subst z; rw [e] at q; cases q; exact e'
  · exact m b x q fun y => by rcases List.mem_cons.mp y with y | y; exact z y; exact n y
theorem inFrom_inL (ms : List Value) (y : Value) : inFrom ms.toArray 0 y ↔ inL ms y := by
  unfold inFrom inL
  constructor
  · rintro ⟨j, v, _, e, c⟩
    exact ⟨v, List.mem_of_getElem? (by simpa using e), c⟩
  · rintro ⟨v, hv, c⟩
    obtain ⟨j, hj⟩ := List.mem_iff_getElem?.mp hv
    exact ⟨j, v, Nat.zero_le _, by simpa using hj, c⟩
theorem not_mem1 {a b : Addr} (h : b ≠ a) : a ∉ [b] := fun q => h (List.mem_singleton.mp q).symm

section
variable {w : World} {s : Shared} {mg mb : Str → Option Value} {g : Heap} {R : Result → Shared → Prop} {S dx l : Addr} {ms : List Value} {x : Value}
theorem fresh_ne {L : Addr} {h : Heap} {news : List (Addr × Obj)} {a r : Addr} {o : Obj} (N : News g L h news) (hm : (a, o) ∈ news) (h0 : h.get? r = none) : a ≠ r := fun e => by
  rw [← e, (N _ hm).1] at h0; cases h0
theorem k_init {A : Around} {E : Value → Shared → Prop} {L : Addr} {m : Str → Option Value} {news : List (Addr × Obj)} {c : Value} {d : Option Addr} {es : Array (Int × Value)} {ep e : Nat} {t : SetTable} {sl : Array (Option Value)} {P : Value → Prop} {Q : Value → Shared → Prop} {news' : Array (Int × Value) → Nat → SetTable → List (Addr × Obj)}
    (F : Fr g L s.heap m) (X : (hd.heap_39 w.params).In g) (N : News g L s.heap news) (hm : (S, setO c d es ep t sl) ∈ news) (hc : c = .type "set" ∨ c = .ref 232) (h0 : t.fill = 0) (hl : (l, PySem.W.listOf ms.toArray e) ∈ news) (hP : ∀ v ∈ ms, Pv v) (hh : A.handled = none) (hu : A.units + 8 < cLine) (ne : l ≠ S)
    (U : ∀ es' ep' t', Upd S (setO c d es ep t sl) (setO c d es' ep' t' sl) news (news' es' ep' t')) (f : SFact w es t P)
    (h : ∀ es' ep' t' h' tk, SFact w es' t' (fun y => P y ∨ inL ms y) → Fr g L h' m → News g L h' (news' es' ep' t') → Q .none { s with heap := h', toks := tk }) : wpAny (model PR w) A (call (.builtin "set.__init__") [.ref S, .ref l]) Q E s :=
  call_init_list (setAt_news F X N hm hc f) h0 (listAt (N _ hl).1) (fun v hv => hP v (by simpa using hv)) hh hu ne fun es' h' tk md hI hy => by
    obtain ⟨ep', t', hg, ok⟩ := setIs_get hI
    obtain ⟨F', N'⟩ := led F N md (U es' ep' t') hg
    exact h es' ep' t' h' tk ⟨ok, fun y => (hy y).trans (or_congr (f.mem y) (inFrom_inL ms y))⟩ F' N'
local macro_rules | `(tactic| walk_at "call builtin:isinstance") => `(tactic| (k_here; refine halt ?_))
local macro_rules | `(tactic| walk_at "call type:list") => `(tactic| (k_here; refine halt ?_))
theorem unique_spec {T : String} {o : Obj} {OK : Heap → Prop} (K : RowSrc w T l ms OK) (hok : ∀ h : Heap, h.get? l = some o → OK h) (B : Base w mg mb g) (stg : g.StaysIn s.heap) (ol : s.heap.get? l = some o) (gl : g.get? l = none) (hP : ∀ v ∈ ms, Pv v)
   (hR : ∀ h' tk e l', Mod [] s.heap h' → s.heap.get? l' = none → h'.get? l' = some (PySem.W.listOf (addAll [] ms).toArray e) → R (.ok (.ret (.ref l'))) ⟨h', s.gens, s.drawn, tk, s.os⟩) :
    codeAny (model PR w) A1 (.call (.ref 28) ⟨[.ref l], []⟩) R s := by
  have N : Has g s.heap [(l, o)] := List.forall_mem_cons.mpr ⟨⟨ol, gl⟩, List.forall_mem_nil _⟩
  refine enter_def B stg N (by k_is) (by k_is) (by decide) (BindsTo.of_eq rfl) (locs rfl) ?_ rfl rfl rfl (by decide)
  intro g' L h₁ B' F' N' kM sg hid
  have X' := B'.K
  have T' := B'.T
  dsimp only [List.map] at kM hid
  try dsimp only
  k_steps
  refine k_call_fk K (by k_asm) X' (by k_asm) (by k_mem) (hok _ (‹News g' L _ _› (l, o) (by k_mem)).1) hP (by rfl) (by k_units) fun h2 ep2 tk2 d lo F2 N2 n2 => ?_
  try k_sweep
  k_steps
  refine k_list_dict F2 N2 (by k_mem) lo ?_ rfl fun h3 tk3 e3 l3 F3 N3 n3 => ?_
  · have := len5 (ms := addAll [] ms) (pv_addAll (by simp) hP) (nd_addAll (by simp))
    rw [sizeLine_eq]; omega
  k_steps
  exact hR _ _ e3 l3 (mod_drop (kM _ (Fr.keep F3)) ol (N3 (l, o) (by k_mem)).1) (hid l3 (N3 _ (by k_mem)).2.2 (not_mem1 (n3 (l, o) (by k_mem)))) (N3 (l3, _) (by k_mem)).1

theorem init_spec {T : String} {o : Obj} {OK : Heap → Prop} {ep : Nat} {t : SetTable} (K : RowSrc w T l ms OK) (hok : ∀ h : Heap, h.get? l = some o → OK h) (B : Base w mg mb g) (stg : g.StaysIn s.heap) (ol : s.heap.get? l = some o) (gl : g.get? l = none) (hP : ∀ v ∈ ms, Pv v)
  (oS : s.heap.get? S = some (setO (.ref 232) (some dx) #[] ep t #[])) (od : s.heap.get? dx = some dictE) (gS : g.get? S = none) (gd : g.get? dx = none) (h0 : t.fill = 0) (ft : SFact w #[] t (fun _ => False)) (hos : ∀ c d es ep t sl, setO c d es ep t sl ≠ o)
   (hR : ∀ h' tk l', Mod [S, dx] s.heap h' → s.heap.get? l' = none → OSet w h' S dx l' (addAll [] ms) → R (.ok (.ret .none)) ⟨h', s.gens, s.drawn, tk, s.os⟩) :
    codeAny (model PR w) A2 (.call (.ref 44) ⟨[.ref S, .ref l], []⟩) R s := by
  have N : Has g s.heap [(l, o), (S, setO (.ref 232) (some dx) #[] ep t #[]), (dx, dictE)] := List.forall_mem_cons.mpr ⟨⟨ol, gl⟩, List.forall_mem_cons.mpr ⟨⟨oS, gS⟩, List.forall_mem_cons.mpr ⟨⟨od, gd⟩, List.forall_mem_nil _⟩⟩⟩
  have XB := B.K.keeps stg
  refine enter_def B stg N (by k_is) (by k_is) (by decide) (binds_K XB rfl (by k_is) rfl rfl rfl) (locs rfl) ?_ rfl rfl rfl (by decide)
  intro g' L h₁ B' F' N' kM sg hid
  have X' := B'.K
  have T' := B'.T
  dsimp only [List.map] at kM hid
  try dsimp only
  k_steps
  refine K.isiS _ _ _ _ (hok _ (N' (l, o) (by k_mem)).1) ?_
  k_steps
  refine K.isiD _ _ _ _ (hok _ (N' (l, o) (by k_mem)).1) ?_
  k_steps
  refine use_at (A := A1) (unique_spec K hok B' F'.keep (N' (l, o) (by k_mem)).1 (N' (l, o) (by k_mem)).2.2 hP fun h2 tk2 e2 l2 m2 n2 o2 => ?_) rfl (Nat.le_of_ble_eq_true rfl) rfl rfl (Nat.le_of_ble_eq_true rfl)
  obtain ⟨F2, N2⟩ := led_new F' N' m2 n2 o2
  have q1 := neN (fresh_ne N' (a := S) (by k_mem) n2)
  have q2 := neN (fresh_ne N' (a := dx) (by k_mem) n2)
  have q3 := neN (fresh_ne N' (a := l) (by k_mem) n2)
  have e1 := neN (neObj oS od set_ne_dict)
  have e2 := neN (neObj oS ol (hos _ _ _ _ _ _))
  have pv : ∀ v ∈ addAll [] ms, Pv v := pv_addAll (by simp) hP
  k_steps
  refine k_init (by k_asm) X' (by k_asm) (by k_mem) (.inr rfl) h0 (by k_mem) pv rfl (by k_units) q1.symm (fun _ _ _ => by k_upd) ft fun es4 ep4 t4 h4 tk4 f4 F4 N4 => ?_
  k_steps
  refine hR _ _ l2 (mod_drop (kM _ (Fr.keep F4)) ol (N4 (l, o) (by k_mem)).1) (hid l2 (N4 (l2, _) (by k_mem)).2.2 (by simpa using ⟨q3.symm, q1.symm, q2.symm⟩)) (os_at N4 (by k_mem) (by k_mem) (by k_mem) (f4.iff fun y => by simp) pv (nd_addAll (by simp)))
end

end
/-! C3 -/
section
open PySem PySem.W PyProof.Rows Builtin

theorem new_check1 (w : World) : peek (hd.heap_39 w.params) ⟨PR, w.params⟩ (checkBuiltinCall "set.__new__" ⟨[.ref 232], []⟩) = some () := by kernel_rfl
theorem new_check2 (w : World) (l : Addr) : peek (hd.heap_39 w.params) ⟨PR, w.params⟩ (checkBuiltinCall "set.__new__" ⟨[.ref 232, .ref l], []⟩) = some () := by kernel_rfl
theorem made232 (w : World) : peek (hd.heap_39 w.params) ⟨PR, w.params⟩ (Bind.madeBy (.ref 232)) = some (some "set.__new__") := by kernel_rfl
theorem sub232 (w : World) : subIn (hd.heap_39 w.params) (.ref 232) (.type "set") = some true := by kernel_rfl
theorem self232 (w : World) : subIn (hd.heap_39 w.params) (.ref 232) (.ref 232) = some true := by kernel_rfl
theorem isType232 (w : World) : peek (hd.heap_39 w.params) ⟨PR, w.params⟩ (isType (.ref 232)) = some true := by kernel_rfl
theorem call232 (w : World) : specialIn (hd.heap_39 w.params) (.ref 232) "__call__" = some (some (.builtin "type.__call__")) := by kernel_rfl
theorem typ232 (w : World) : instIn (hd.heap_39 w.params) (.ref 232) (.type "type") = some true := by kernel_rfl
theorem init232 (w : World) : findIn (hd.heap_39 w.params) (.ref 232) "__init__" = some (some (.ref 44)) := by kernel_rfl
theorem fn44 (w : World) : typeIn (hd.heap_39 w.params) (.ref 44) = some (.type "function") := by kernel_rfl
theorem del232 (w : World) : peek (hd.heap_39 w.params) ⟨PR, w.params⟩ (classHasDel 232) = some false := by kernel_rfl

abbrev freshT (w : World) : SetTable := .fresh 0 0 (!w.params.followText "set-order")
theorem fresh_fill (w : World) : (freshT w).fill = 0 := rfl
theorem fresh_fact (w : World) : SFact w #[] (freshT w) (fun _ => False) := ⟨SetOK.empty w 0 0, fun y => ⟨fun ⟨e, h, _⟩ => by simp at h, fun h => h.elim⟩⟩
abbrev newO (w : World) (dx : Addr) : Obj := setO (.ref 232) (some dx) #[] 0 (freshT w) #[]

section
variable {w : World} {A : Around} {E : Value → Shared → Prop} {s : Shared} {h : Heap} {R : Result → Shared → Prop}

theorem newSet_own {Q : Value → Shared → Prop} (X : (hd.heap_39 w.params).In s.heap) (hq : Q (.ref (s.heap.objs.size + 1)) { s with heap := (s.heap.push dictE).push (newO w s.heap.objs.size) }) : wpAny (model PR w) A (newSet (.ref 232)) Q E s := by
  unfold newSet
  refine wpAny_bind (byText_ok ?_)
  dsimp only
  refine wpAny_bind (wpAny_alloc ?_)
  unfold newObj
  dsimp only
  rw [if_neg (by rw [sizeLine_eq]; simp)]
  unfold newObjAsIs
  refine wpAny_bind (wpAny_alloc ?_)
  have X2 : (hd.heap_39 w.params).In ((s.heap.push dictE).push (newO w s.heap.objs.size)) := (X.keeps fun b o e => Heap.get?_push_of_some _ e).keeps fun b o e => Heap.get?_push_of_some _ e
  refine wpAny_bind ((peekOn X2 (del232 w)).here ?_)
  rw [if_neg (by decide)]
  rw [Heap.size_push]
  exact wpAny_pure hq

theorem run_new {rest : List Value} {P : Fin → Shared → Prop} (X : (hd.heap_39 w.params).In s.heap) (hq : P (.done (.ret (.ref (s.heap.objs.size + 1)))) { s with heap := (s.heap.push dictE).push (newO w s.heap.objs.size) }) :
    wpAny (model PR w) A (Builtin.«set.__new__» ⟨.ref 232 :: rest, []⟩) P E s := by
  unfold Builtin.«set.__new__» Builtin.Frozenset.newClass
  refine wpAny_bind (wpAny_bind ((peekOn X (isType232 w)).here ?_))
  rw [if_neg (by decide)]
  refine wpAny_bind ((looks_subIn X (sub232 w)).here ?_)
  rw [if_neg (by decide)]
  refine wpAny_pure (wpAny_bind (newSet_own X (wpAny_pure hq)))

theorem own_new {args : Args} (hc : peek (hd.heap_39 w.params) ⟨PR, w.params⟩ (checkBuiltinCall "set.__new__" args) = some ()) {rest : List Value} (ha : args = ⟨.ref 232 :: rest, []⟩) (X : (hd.heap_39 w.params).In s.heap)
    (hq : R (.ok (.ret (.ref (s.heap.objs.size + 1)))) { s with heap := (s.heap.push dictE).push (newO w s.heap.objs.size) }) : codeAny (model PR w) A (.call (.builtin "set.__new__") args) R s := by
  refine codeAny_of_tree ?_
  show wpAny _ A.in1 (do checkBuiltinCall "set.__new__" args; again (.builtin "set.__new__" args)) _ _ s
  refine wpAny_bind ((peekOn X hc).here ?_)
  refine wpAny_pure ⟨plainId_quiet PySem.F.plain_set_new _, codeAny_builtin PySem.F.entry_set_new ?_⟩
  rw [Around.under_plainId PySem.F.plain_set_new _, ha]
  exact run_new X hq

/-- OrderedSet(x): a new object, then its __init__ -/
theorem own_make {l : Addr} (X : (hd.heap_39 w.params).In s.heap)
    (hq : codeAny (model PR w) (A.under (.builtin "type.__call__" ⟨[.ref 232, .ref l], []⟩)) (.call (.ref 44) ⟨[.ref (s.heap.objs.size + 1), .ref l], []⟩) (InitBack (s.heap.objs.size + 1) R) { s with heap := (s.heap.push dictE).push (newO w s.heap.objs.size) }) :
    codeAny (model PR w) A (.call (.ref 232) ⟨[.ref l], []⟩) R s := by
  obtain ⟨hh, g, d, t, os⟩ := s
  obtain ⟨cd, hc, hm⟩ := cls232 w
  have hC := X 232 _ rfl
  refine codeAny_of_tree ?_
  show wpAny _ _ (callAny (.ref 232) _) _ _ _
  refine nd_load hC ?_
  show wpAny _ _ (callAny.viaDunder (.ref 232) _) _ _ _
  unfold callAny.viaDunder
  refine wpAny_bind ((looks_specialIn X (call232 w)).at ?_)
  dsimp only
  rw [tc_bind]
  refine wpAny_bind (wpAny_pure (wpAny_bind (wpAny_pure ?_)))
  refine wpAny_pure (a := Fin.again (.call (.builtin "type.__call__") ⟨[.ref 232, .ref l], []⟩)) (And.intro rfl ?_)
  refine codeAny_call_builtin_at (Code.quiet_builtin _ (by decide +kernel)) entry_typeCall (check_slot tc_kind tc_split (looks_instIn X (typ232 w)) (tc_args _ _ _) ?_)
  unfold Builtin.«type.__call__»
  have hm' : Looks (model PR w) hh (mroOf (.ref 232)) cd.mro := (looks_clsIn X hc).andThen .now
  have made := peekOn X (made232 w)
  repeat (first | simp only [hm, List.isEmpty_cons, Bool.false_eq_true, if_false] | with_reducible refine wpAny_call ?_ | lk)
  refine own_new (s := ⟨hh, g, d, t, os⟩) (new_check2 w l) rfl X ?_
  have k : ∀ b o, hh.get? b = some o → ((hh.push dictE).push (newO w hh.objs.size)).get? b = some o := fun b o e => Heap.get?_push_of_some _ (Heap.get?_push_of_some _ e)
  have hx : ((hh.push dictE).push (newO w hh.objs.size)).get? (hh.objs.size + 1) = some (newO w hh.objs.size) := by
    have := Heap.get?_push_size (hh.push dictE) (o := newO w hh.objs.size) rfl
    rwa [Heap.size_push] at this
  have X2 := X.keeps k
  have t1 : Looks (model PR w) ((hh.push dictE).push (newO w hh.objs.size)) (typeOf (.ref (hh.objs.size + 1))) (.ref 232) := (Looks.ld hx).andThen .now
  have s1 := looks_subIn (M := model PR w) X2 (self232 w)
  have i1 := looks_findIn (M := model PR w) X2 (init232 w)
  have b1 := bind_fn (M := model PR w) X2 (.ref (hh.objs.size + 1)) (fn44 w)
  unfold isInstance callSpecial? specialOf
  repeat (first | with_reducible refine wpAny_call ?_ | lk)
  refine codeAny_mono hq fun r s' z => ?_
  rcases r with e | (v | _ | _ | _) <;> first | exact z | exact z.elim | skip
  obtain ⟨rfl, z⟩ := z
  exact wpAny_pure (wpAny_pure z)
end

end
/-! C4 -/
section
open PySem PySem.W PyProof.Rows

section
variable {w : World} {s : Shared} {mg mb : Str → Option Value} {g : Heap} {R : Result → Shared → Prop} {S dx l : Addr} {ms : List Value} {x : Value}

theorem none_of {g h : Heap} {a : Addr} (st : g.StaysIn h) (e : h.get? a = none) : g.get? a = none := by
  cases q : g.get? a with
  | none => rfl
  | some o => rw [st a o q] at e; cases e

/-- OrderedSet(row) -/
theorem make_spec {A : Around} {E : Value → Shared → Prop} {Q : Value → Shared → Prop} {T : String} {o : Obj} {OK : Heap → Prop} (K : RowSrc w T l ms OK) (hok : ∀ h : Heap, h.get? l = some o → OK h) (B : Base w mg mb g) (stg : g.StaysIn s.heap) (ol : s.heap.get? l = some o) (gl : g.get? l = none) (hP : ∀ v ∈ ms, Pv v)
   (hos : ∀ c d es ep t sl, setO c d es ep t sl ≠ o) (h1 : A.handled = none) (h2 : A.depth + 1 ≤ 800) (h5 : A.units + 200 ≤ 6000)
   (hQ : ∀ h' tk S dx l', Mod [] s.heap h' → s.heap.get? S = none → s.heap.get? dx = none → s.heap.get? l' = none → OSet w h' S dx l' (addAll [] ms) → Q (.ref S) ⟨h', s.gens, s.drawn, tk, s.os⟩) :
   wpAny (model PR w) A (call (.ref 232) [.ref l]) Q E s := by
  have X := B.K.keeps stg
  refine wpAny_call (own_make X ?_)
  have k : ∀ b o, s.heap.get? b = some o → ((s.heap.push dictE).push (newO w s.heap.objs.size)).get? b = some o := fun b o e => Heap.get?_push_of_some _ (Heap.get?_push_of_some _ e)
  have n1 : s.heap.get? (s.heap.objs.size + 1) = none := Heap.get?_none_of_le (Nat.le_succ _)
  have n2 : s.heap.get? s.heap.objs.size = none := Heap.get?_none_of_le (Nat.le_refl _)
  have hx : ((s.heap.push dictE).push (newO w s.heap.objs.size)).get? (s.heap.objs.size + 1) = some (newO w s.heap.objs.size) := by
    have := Heap.get?_push_size (s.heap.push dictE) (o := newO w s.heap.objs.size) rfl
    rwa [Heap.size_push] at this
  have hd' : ((s.heap.push dictE).push (newO w s.heap.objs.size)).get? s.heap.objs.size = some dictE := Heap.get?_push_of_some _ (Heap.get?_push_size _ rfl)
  refine codeAny_le (A := A2) (init_spec (s := { s with heap := (s.heap.push dictE).push (newO w s.heap.objs.size) }) K hok B (fun b o e => k b o (stg b o e)) (k _ _ ol) gl hP hx hd' (none_of stg n1) (none_of stg n2) rfl (fresh_fact w) hos fun h' tk l' md nl I => ?_) ?_ ?_ ?_ ?_ ?_
  · refine ⟨rfl, hQ h' tk _ _ l' (fun b o e _ => md b o (k b o e) ?_) n1 n2 ?_ I⟩
    · have := get_lt e
      simp only [List.mem_cons, List.not_mem_nil, or_false, not_or]
      exact ⟨neNat (Nat.lt_succ_of_lt this), neNat this⟩
    · exact none_of (fun b o e => k b o e) nl
  · exact h1
  · show A.depth + 1 ≤ 800; exact h2
  · intro l q; cases q
  · intro l q; cases q
  · show A.units + _ ≤ 6000
    refine Nat.le_trans ?_ h5
    exact Nat.add_le_add_left (Nat.le_of_ble_eq_true rfl) _

theorem new_rule {A : Around} {E : Value → Shared → Prop} {L : Addr} {m : Str → Option Value} {news : List (Addr × Obj)} {Q : Value → Shared → Prop} (F : Fr g L s.heap m) (X : (hd.heap_39 w.params).In g) (N : News g L s.heap news)
    (h : ∀ S dx h', Fr g L h' m → News g L h' ((S, newO w dx) :: (dx, dictE) :: news) → (∀ p ∈ news, p.1 < dx) → dx < S → Q (.ref S) { s with heap := h' }) : wpAny (model PR w) A (call (.builtin "set.__new__") [.ref 232]) Q E s := by
  refine wpAny_call (own_new (new_check1 w) rfl (X.keeps F.keep) ?_)
  have N' := (N.push F dictE).push (F.push _) (newO w s.heap.objs.size)
  rw [Heap.size_push] at N'
  exact h _ _ _ ((F.push _).push _) N' (fun p hp => Heap.lt_size (N p hp).1) (Nat.lt_succ_self _)

theorem k_supdate {A : Around} {E : Value → Shared → Prop} {L : Addr} {m : Str → Option Value} {news : List (Addr × Obj)} {c : Value} {d : Option Addr} {es : Array (Int × Value)} {ep e : Nat} {t : SetTable} {sl : Array (Option Value)} {P : Value → Prop} {Q : Value → Shared → Prop} {news' : Array (Int × Value) → Nat → SetTable → List (Addr × Obj)}
    (F : Fr g L s.heap m) (X : (hd.heap_39 w.params).In g) (N : News g L s.heap news) (hm : (S, setO c d es ep t sl) ∈ news) (hc : c = .type "set" ∨ c = .ref 232) (hl : (l, PySem.W.listOf ms.toArray e) ∈ news) (hP : ∀ v ∈ ms, Pv v) (hh : A.handled = none) (hu : A.units + 8 < cLine) (ne : l ≠ S)
    (U : ∀ es' ep' t', Upd S (setO c d es ep t sl) (setO c d es' ep' t' sl) news (news' es' ep' t')) (f : SFact w es t P)
    (h : ∀ es' ep' t' h' tk, SFact w es' t' (fun y => P y ∨ inL ms y) → Fr g L h' m → News g L h' (news' es' ep' t') → Q .none { s with heap := h', toks := tk }) : wpAny (model PR w) A (call (.builtin "set.update") [.ref S, .ref l]) Q E s :=
  call_update (setAt_news F X N hm hc f) (listAt (N _ hl).1) (fun v hv => hP v (by simpa using hv)) hh hu ne fun es' h' tk md hI hy => by
    obtain ⟨ep', t', hg, ok⟩ := setIs_get hI
    obtain ⟨F', N'⟩ := led F N md (U es' ep' t') hg
    exact h es' ep' t' h' tk ⟨ok, fun y => (hy y).trans (or_congr (f.mem y) (inFrom_inL ms y))⟩ F' N'

/-- _from_list(self, new_list): the new list is the new set's own -/
theorem from_spec {e : Nat} {self : Value} (B : Base w mg mb g) (stg : g.StaysIn s.heap) (ol : s.heap.get? l = some (PySem.W.listOf ms.toArray e)) (gl : g.get? l = none) (pv : ∀ v ∈ ms, Pv v) (nd : (ms.map cl).Nodup)
   (hR : ∀ h' tk S dx, Mod [] s.heap h' → s.heap.get? S = none → s.heap.get? dx = none → OSet w h' S dx l ms → R (.ok (.ret (.ref S))) ⟨h', s.gens, s.drawn, tk, s.os⟩) :
    codeAny (model PR w) A1 (.call (.ref 58) ⟨[self, .ref l], []⟩) R s := by
  have N : Has g s.heap [(l, PySem.W.listOf ms.toArray e)] := List.forall_mem_cons.mpr ⟨⟨ol, gl⟩, List.forall_mem_nil _⟩
  refine enter_def B stg N (by k_is) (by k_is) (by decide) (BindsTo.of_eq rfl) (locs rfl) ?_ rfl rfl rfl (by decide)
  intro g' L h₁ B' F' N' kM sg hid
  have X' := B'.K
  have T' := B'.T
  dsimp only [List.map] at kM hid
  try dsimp only
  k_steps
  refine new_rule (by k_asm) X' (by k_asm) fun S dx h2 F2 N2 a1 a2 => ?_
  have a1 := a1 _ (.head _)
  have q1 : l ≠ S := neNat (Nat.lt_trans a1 a2)
  have q2 : l ≠ dx := neNat a1
  have q3 : dx ≠ S := neNat a2
  have q1 := neN q1
  have q2 := neN q2
  have q3 := neN q3
  k_steps
  refine k_supdate (by k_asm) X' (by k_asm) (by k_mem) (.inr rfl) (by k_mem) pv rfl (by k_units) q1 (fun _ _ _ => by k_upd) (fresh_fact w) fun es4 ep4 t4 h4 tk4 f4 F4 N4 => ?_
  k_steps
  exact hR _ _ S dx (mod_drop (kM _ (Fr.keep F4)) ol (N4 (l, _) (by k_mem)).1) (hid S (N4 (S, _) (by k_mem)).2.2 (not_mem1 q1)) (hid dx (N4 (dx, _) (by k_mem)).2.2 (not_mem1 q2)) (os_at N4 (by k_mem) (by k_mem) (by k_mem) (f4.iff fun y => by simp) pv nd)
end

end
/-! Lp -/
section

section
variable {w : World} {A : Around} {E : Value → Shared → Prop} {s : Shared} {env : Env} {h₀ : Heap} {x : Str} {body : List Stmt} {Q : Flow → Shared → Prop} {I l : Addr} {vs : List Value} {e : Nat} {m₀ : Str → Option Value} {news₀ : List (Addr × Obj)}

abbrev liO (l : Addr) (i : Nat) : Obj := { cls := .type "list_iterator", data := .fields #[.ref l, .int i 0] }

/-- the end of a turn -/
def TurnOK (s : Shared) (h₀ : Heap) (L : Addr) (x : Str) (m₀ : Str → Option Value) (I : Addr) (oI : Obj) (J : List (Addr × Obj) → Prop) (f : Flow) (s' : Shared) : Prop :=
  (f = .next ∨ f = .cont) ∧ ∃ h' tk' m' nw', s' = { s with heap := h', toks := tk' } ∧ Fr h₀ L h' m' ∧ News h₀ L h' ((I, oI) :: nw') ∧ (∀ y, y ≠ x → m' y = m₀ y) ∧ (∀ p ∈ nw', p.1 ≠ I) ∧ J nw'
theorem turn_ok {s : Shared} {h₀ : Heap} {L : Addr} {x : Str} {m₀ m' : Str → Option Value} {I : Addr} {oI : Obj} {J : List (Addr × Obj) → Prop} {nw' : List (Addr × Obj)} {h' : Heap} {tk' : Nat} (F : Fr h₀ L h' m') (N : News h₀ L h' ((I, oI) :: nw')) (hm : ∀ y, y ≠ x → m' y = m₀ y) (hn : ∀ p ∈ nw', p.1 ≠ I) (hJ : J nw') :
    TurnOK s h₀ L x m₀ I oI J .next { s with heap := h', toks := tk' } := ⟨.inl rfl, h', tk', m', nw', rfl, F, N, hm, hn, hJ⟩
/-- a loop over a list of the ledger, which stays as it is; J tells the ledger before each turn -/
theorem loop_list (J : Nat → List (Addr × Obj) → Prop) (hh : A.handled = none) (it : s.heap.IsListIter I l 0) (hI : h₀.get? I = none) (hIL : I ≠ env.locals) (F : Fr h₀ env.locals s.heap m₀) (N : News h₀ env.locals s.heap news₀) (hn : ∀ p ∈ news₀, p.1 ≠ I)
    (hl : ∀ i nw, J i nw → (l, PySem.W.listOf vs.toArray e) ∈ nw) (h0 : J 0 news₀)
    (turn : ∀ i v nw h tk oI, vs[i]? = some v → J i nw → (∀ p ∈ nw, p.1 ≠ I) → Fr h₀ env.locals h (fun y => if y = x then some v else m₀ y) → News h₀ env.locals h ((I, oI) :: nw) →
      wpAny (model PR w) A (execs body env) (TurnOK s h₀ env.locals x m₀ I oI (J (i + 1))) E { s with heap := h, toks := tk })
    (done : ∀ nw h tk (u : Str → Option Value), J vs.length nw → Fr h₀ env.locals h (fun y => if y = x then u y else m₀ y) → News h₀ env.locals h nw → Q .next { s with heap := h, toks := tk }) :
    LoopAtV PR w A h₀ env x body Q E (.ref I) s := by
  have hlm := hl 0 _ h0
  have hls := listAt (N _ hlm).1
  have hne : l ≠ I := hn _ hlm
  have W := Walks.list (prog := PR) (w := w) hh I l hne vs.toArray
  have lL : l ≠ env.locals := (N _ hlm).2.1
  have ext : ∀ (m₁ : Str → Option Value) (v : Value), (∀ y, y ≠ x → m₁ y = m₀ y) → (fun y => if y = x then some v else m₁ y) = fun y => if y = x then some v else m₀ y := by
    intro m₁ v hm
    funext y
    by_cases q : y = x
    · simp [q]
    · simp only [if_neg q]; exact hm y q
  refine ⟨I, [I, l], [I], vs.toArray.size, _, _, m₀, news₀, (fun i m nw => J i nw ∧ ∀ y, y ≠ x → m y = m₀ y), rfl, W, ?_, ?_, ?_, ⟨it, hls⟩, F, N, ⟨h0, fun _ _ => rfl⟩, ?_, ?_⟩
  · simp only [List.mem_cons, List.not_mem_nil, or_false, not_or]
    exact ⟨fun q => hIL q.symm, fun q => lL q.symm⟩
  · intro b hb; rw [List.mem_singleton.mp hb]; exact hI
  · intro p hp q; exact hn p hp (List.mem_singleton.mp q)
  · rintro i v m₁ nw s₁ own ⟨h, tk, rfl⟩ hi hP ⟨hJ, hm⟩ hoff hown hget hall hst F₁ N₁
    rw [ext m₁ v hm] at F₁
    obtain ⟨oI, hoI⟩ : ∃ o, h.get? I = some o := let ⟨o, ho, _⟩ := hst.1; ⟨o, ho⟩
    have N₂ : News h₀ env.locals h ((I, oI) :: nw) := by
      intro p hp
      rcases List.mem_cons.mp hp with rfl | hp
      · exact ⟨hoI, hIL, hI⟩
      · exact N₁ p (List.mem_append_right _ hp)
    refine wpAny_mono (turn i v nw h tk oI (by simpa using hP) hJ (fun p hp q => hoff p hp (by rw [q]; exact .head _)) F₁ N₂) (fun f s' p => ?_) fun _ _ q => q
    obtain ⟨hf, h', tk', m', nw', rfl, F', N', hm', hn', hJ'⟩ := p
    have fin : LoopStepU h₀ env.locals [I] own (fun m nw => J (i + 1) nw ∧ ∀ y, y ≠ x → m y = m₀ y) { s with heap := h, toks := tk } .next { s with heap := h', toks := tk' } := by
      refine ⟨rfl, h', tk', m', nw', rfl, F', fun p hp => ?_, fun p hp q => hn' p hp (List.mem_singleton.mp q), hJ', hm'⟩
      rcases List.mem_append.mp hp with q | q
      · have a := hown p q
        have b := hget p q
        simp only [List.mem_cons, List.not_mem_nil, or_false] at a
        rcases a with a | a
        · have c := N' (I, oI) (.head _)
          obtain ⟨p1, p2⟩ := p
          dsimp only at a b
          subst a
          have : some p2 = some oI := b.symm.trans hoI
          cases this
          exact c
        · have c := N' (l, PySem.W.listOf vs.toArray e) (.tail _ (hl _ _ hJ'))
          have d := N₂ (l, PySem.W.listOf vs.toArray e) (.tail _ (hl _ _ hJ))
          obtain ⟨p1, p2⟩ := p
          dsimp only at a b d
          subst a
          have : some p2 = some (PySem.W.listOf vs.toArray e) := b.symm.trans d.1
          cases this
          exact c
      · exact N' p (.tail _ q)
    rcases hf with rfl | rfl
    · exact .next fin
    · exact .cont fin
  · rintro h' tk m' nw' F' N' _ ⟨hJ, hm⟩
    refine done nw' h' tk m' (by simpa using hJ) ?_ N'
    have : (fun y => if y = x then m' y else m₀ y) = m' := by
      funext y
      by_cases q : y = x
      · simp [q]
      · simp only [if_neg q]; exact (hm y q).symm
    rw [this]; exact F'
end

end
/-! Lp2 -/
section

abbrev tupO (vs : List Value) : Obj := { cls := .type "tuple", data := .seq vs.toArray }

theorem enter_star {w : World} {A : Around} {s : Shared} {mg mb : Str → Option Value} {g : Heap} {news : List (Addr × Obj)} {R : Result → Shared → Prop} {name qual : Str} {params : Arguments} {body : List Stmt} {scope : Scope} {dV kV doc pm cdv ct oc : Value} {an od : Option Addr} {osl : Array (Option Value)} {f : Addr} {args : Args} {binds : Value → List (Str × Value)} {items : List Value}
    (B : Base w mg mb g) (st : g.StaysIn s.heap) (N : Has g s.heap news)
    (ho : (hd.heap_39 w.params).lookup f = some ⟨oc, od, .func (fnOf name qual params body scope dV kV doc pm an cdv ct), osl⟩) (hcd : codeIn (hd.heap_39 w.params) cdv qual = true) (hroom : A.depth < recursionLimit)
    (hbind : bindArgs (fnOf name qual params body scope dV kV doc pm an cdv ct) args = (newTuple items >>= fun t => pure (binds t))) (hz : items.length ≤ sizeLine) (hloc : ∀ t, ∀ y ∈ binds t, scope.names.lookup y.1 = some .local)
    (h : ∀ g' L h₁ T, Base w mg mb g' → Fr g' L h₁ (fun y => (binds (.ref T)).reverse.lookup y) → News g' L h₁ ((T, tupO items) :: news) → (∀ p ∈ news, p.1 < T) → (∀ h', g'.StaysIn h' → Mod (news.map (·.1)) s.heap h') → g.StaysIn g' → (∀ b, g'.get? b = none → b ∉ news.map (·.1) → s.heap.get? b = none) →
      wpAny (model PR w) (A.deeper (envOf qual scope L f cdv)) (execs body (envOf qual scope L f cdv))
        (fun fl s' => R (.ok (.ret (match fl with | .ret v => v | _ => .none))) s')
        (fun e s' => wpAny (model PR w) (A.deeper (envOf qual scope L f cdv)) (leaving (envOf qual scope L f cdv) e) (fun _ s'' => R (.error e) s'') (fun e' s'' => R (.error e') s'') s')
        { s with heap := h₁, toks := s.toks + (binds (.ref T)).length })
    (hco : scope.isCoroutine = false) (hgen : scope.isGenerator = false) (hk : scope.kind = .function)
    (hcell : ∀ x ∈ scope.names, x.2 ≠ .cell) : codeAny (model PR w) A (.call (.ref f) args) R s := by
  have X : (hd.heap_39 w.params).In s.heap := B.K.keeps st
  refine codeAny_call_function (fd := fnOf name qual params body scope dV kV doc pm an cdv ct) (body := body) hroom (X _ _ ho) rfl hco hgen rfl (codeRec_of X hcd) ?_
  rw [hbind]
  refine wpAny_bind (wpAny_newTuple (wpAny_pure ?_) hz)
  have ext : ∀ b o, s.heap.get? b = some o → (s.heap.push (tupO items)).get? b = some o := fun b o e => Heap.get?_push_of_some _ e
  have nm : ∀ b o, g.get? b = some o → b ∉ s.heap.objs.size :: news.map (·.1) := fun b o e q => by
    rcases List.mem_cons.mp q with rfl | q
    · exact absurd (get_lt (st _ _ e)) (Nat.lt_irrefl _)
    · obtain ⟨p, hp, rfl⟩ := List.mem_map.mp q
      rw [(N p hp).2] at e; cases e
  refine wpAny_newFunctionEnv hcell (hloc _) (fun h₀ hns₀ hsb₀ => ⟨((B.T.nolimit.keeps st).keeps ext).fresh _ hsb₀, codeAny_func ?_⟩) hk
  have hk₁ : ∀ b o, (s.heap.push (tupO items)).get? b = some o → h₀.get? b = some o := fun b o e => hsb₀.extBut b o (Nat.ne_of_lt (Heap.lt_size e)) (Heap.get?_push_of_some _ e)
  have sg : g.StaysIn (hideAll (s.heap.push (tupO items)) (s.heap.objs.size :: news.map (·.1))) := fun b o e => hideAll_get _ (ext _ _ (st b o e)) (nm b o e)
  refine h _ (s.heap.push (tupO items)).objs.size h₀ s.heap.objs.size (B.keeps sg) ⟨hns₀, fun b o e => hk₁ b o (of_hideAll _ e), Nat.le_of_eq (hideAll_size _ _)⟩ ?_ (fun p hp => get_lt (N p hp).1) ?_ sg ?_
  · intro p hp
    rcases List.mem_cons.mp hp with rfl | hp
    · exact ⟨hk₁ _ _ (Heap.get?_push_size _ rfl), neNat (by rw [Heap.size_push]; exact Nat.lt_succ_self _), hideAll_none _ (.head _)⟩
    · exact ⟨hk₁ _ _ (ext _ _ (N p hp).1), neNat (by rw [Heap.size_push]; exact Nat.lt_succ_of_lt (get_lt (N p hp).1)), hideAll_none _ (.tail _ (List.mem_map_of_mem hp))⟩
  · intro h' k b o e n
    refine k b o (hideAll_get _ (ext _ _ e) fun q => ?_)
    rcases List.mem_cons.mp q with rfl | q
    · exact absurd (get_lt e) (Nat.lt_irrefl _)
    · exact n q
  · intro b e n
    cases q : s.heap.get? b with
    | none => rfl
    | some o =>
      rw [hideAll_get _ (ext _ _ q) fun z => ?_] at e
      · cases e
      · rcases List.mem_cons.mp z with rfl | z
        · exact absurd (get_lt q) (Nat.lt_irrefl _)
        · exact n z

theorem kM' {a b c d : Addr} {h h' : Heap} (m : Mod [a, b, c, d] h h') : Mod [d, a, b, c] h h' := m.mono (by intro p hp; simp only [List.mem_cons, List.not_mem_nil, or_false] at hp ⊢; rcases hp with h | h | h | h <;> simp [h])
theorem nI'' {a1 a2 a3 a4 a5 a6 I : Addr} {o1 o2 o3 o4 o5 o6 : Obj} (h1 : a1 ≠ I) (h2 : a2 ≠ I) (h3 : a3 ≠ I) (h4 : a4 ≠ I) (h5 : a5 ≠ I) (h6 : a6 ≠ I) : ∀ p ∈ [(a1, o1), (a2, o2), (a3, o3), (a4, o4), (a5, o5), (a6, o6)], p.1 ≠ I := by
  intro p hp
  simp only [List.mem_cons, List.not_mem_nil, or_false] at hp
  rcases hp with rfl | rfl | rfl | rfl | rfl | rfl <;> assumption
section
variable {w : World} {s : Shared} {mg mb : Str → Option Value} {g : Heap} {R : Result → Shared → Prop} {S dx l : Addr} {ms : List Value} {x : Value}

theorem update1_spec {r : Addr} {vs : List Value} {e1 : Nat} (B : Base w mg mb g) (stg : g.StaysIn s.heap) (I : OSet w s.heap S dx l ms) (gS : g.get? S = none) (gd : g.get? dx = none) (gl : g.get? l = none)
  (orr : s.heap.get? r = some (PySem.W.listOf vs.toArray e1)) (gr : g.get? r = none) (hP : ∀ v ∈ vs, Pv v) (nr : r ≠ l)
  (hR : ∀ h' tk, Mod [S, dx, l] s.heap h' → OSet w h' S dx l (addAll ms vs) → R (.ok (.ret .none)) ⟨h', s.gens, s.drawn, tk, s.os⟩) :
    codeAny (model PR w) A1 (.call (.ref 135) ⟨[.ref S, .ref r], []⟩) R s := by
  obtain ⟨⟨es, ep, t, e, oS, od, ol, f⟩, pv, nd⟩ := I
  have z := sz5 pv nd
  have n1 := neN (neObj oS od set_ne_dict)
  have n2 := neN (neObj oS ol set_ne_list)
  have n3 := neN (neObj od ol dict_ne_list)
  have n4 := neN (neObj oS orr set_ne_list)
  have n5 := neN (neObj od orr dict_ne_list)
  have n6 := neN nr
  have N : Has g s.heap [(S, setO (.ref 232) (some dx) es ep t #[some (.ref l)]), (dx, dictE), (l, PySem.W.listOf ms.toArray e), (r, PySem.W.listOf vs.toArray e1)] :=
    List.forall_mem_cons.mpr ⟨⟨oS, gS⟩, List.forall_mem_cons.mpr ⟨⟨od, gd⟩, List.forall_mem_cons.mpr ⟨⟨ol, gl⟩, List.forall_mem_cons.mpr ⟨⟨orr, gr⟩, List.forall_mem_nil _⟩⟩⟩⟩
  refine enter_star B stg N (by k_is) (by k_is) (by decide) rfl (by rw [sizeLine_eq]; simp) (fun t => locs rfl) ?_ rfl rfl rfl (by decide)
  intro g' L h₁ T B' F' N' lT kM sg hid
  have X' := B'.K
  have T' := B'.T
  dsimp only [List.map] at kM hid
  k_lt lT
  obtain ⟨lT1, lT2, lT3, lT4⟩ := lT
  try dsimp only
  k_steps
  rename_i i1 lt1 h1 tk1 F1 o1 hc1 N1 h2 F2 N2
  obtain ⟨lt1, lt2, lt3, lt4, lt5⟩ := lt1
  have hr2 := listAt (N2 (r, PySem.W.listOf vs.toArray e1) (by k_mem)).1
  refine wpAny_pyIter_list hr2 ?_
  have hI : g'.get? h2.objs.size = none := next_is_new F2
  have nI : ∀ p ∈ [(i1, o1), (T, tupO [.ref r]), (S, setO (.ref 232) (some dx) es ep t #[some (.ref l)]), (dx, dictE), (l, PySem.W.listOf ms.toArray e), (r, PySem.W.listOf vs.toArray e1)], p.1 ≠ h2.objs.size := fun p hp => neNat (get_lt (N2 p hp).1)
  refine loop_list (l := r) (vs := vs) (e := e1) (fun i nw => ∃ es' ep' t' e', nw = [(i1, o1), (T, tupO [.ref r]), (S, setO (.ref 232) (some dx) es' ep' t' #[some (.ref l)]), (dx, dictE), (l, PySem.W.listOf (addAll ms (vs.take i)).toArray e'), (r, PySem.W.listOf vs.toArray e1)] ∧ SFact w es' t' (inL (addAll ms (vs.take i)))) rfl ⟨_, Heap.get?_push_size _ rfl, rfl, rfl⟩ hI (neNat F2.ns.lt).symm (F2.push _) (fun p hp => ⟨Heap.get?_push_of_some _ (N2 p hp).1, (N2 p hp).2⟩) nI ?_ ⟨es, ep, t, e, rfl, f⟩ ?_ ?_
  · rintro i nw ⟨es', ep', t', e', rfl, -⟩; k_mem
  · rintro i v nw h3 tk3 oI hv ⟨es', ep', t', e', rfl, f3⟩ hne F3 N3
    have pv3 : ∀ v ∈ addAll ms (vs.take i), Pv v := pv_addAll pv fun v hv => hP v (List.mem_of_mem_take hv)
    have nd3 : ((addAll ms (vs.take i)).map cl).Nodup := nd_addAll nd
    have z3 := sz5 pv3 nd3
    have px : Pv v := hP v (List.mem_of_getElem? hv)
    have es3 : vs.take (i + 1) = vs.take i ++ [v] := by rw [List.take_add_one, hv]; rfl
    have m1 := neN (show S ≠ h2.objs.size from hne (S, _) (by k_mem))
    have m2 := neN (show l ≠ h2.objs.size from hne (l, _) (by k_mem))
    have m3 := neN (show dx ≠ h2.objs.size from hne (dx, _) (by k_mem))
    have m4 := neN (show r ≠ h2.objs.size from hne (r, _) (by k_mem))
    have m5 := neN (show T ≠ h2.objs.size from hne (T, _) (by k_mem))
    have m6 := neN (show i1 ≠ h2.objs.size from hne (i1, _) (by k_mem))
    clear F2 N2 F1 N1
    k_steps
    · have q : ¬ inL (addAll ms (vs.take i)) v := fun q => Bool.noConfusion ((‹false = true ↔ inL (addAll ms (vs.take i)) v›).mpr q)
      refine turn_ok (by assumption) (by assumption) (fun y hy => if_neg hy) (nI'' m6 m5 m1 m3 m2 m4) ?_
      rw [es3, addAll_snoc, addL_new q]
      exact ⟨_, _, _, _, rfl, SFact.iff (by assumption) fun y => by rw [inL_append, inL_one, or_comm]⟩
    · have q : inL (addAll ms (vs.take i)) v := (‹true = true ↔ inL (addAll ms (vs.take i)) v›).mp rfl
      refine turn_ok (by assumption) (by assumption) (fun y hy => if_neg hy) (nI'' m6 m5 m1 m3 m2 m4) ?_
      rw [es3, addAll_snoc, addL_in q]
      exact ⟨_, _, _, _, rfl, f3⟩
  · rintro nw h4 tk4 u ⟨es', ep', t', e', rfl, f4⟩ F4 N4
    rw [List.take_length] at f4 N4
    clear F2 N2 F1 N1
    k_steps
    refine hR _ _ (mod_drop (kM' (kM _ (Fr.keep (by assumption)))) orr ((‹News g' L _ _› (r, PySem.W.listOf vs.toArray e1) (by k_mem)).1)) (os_at (by assumption) (by k_mem) (by k_mem) (by k_mem) f4 (pv_addAll pv hP) (nd_addAll nd))
end

end
/-! C5 -/
section
section
variable {w : World} {s : Shared} {mg mb : Str → Option Value} {g : Heap} {R : Result → Shared → Prop} {S dx l : Addr} {ms : List Value} {x : Value}

theorem call_iter {A : Around} {E : Value → Shared → Prop} {e : Nat} {Q : Value → Shared → Prop} (hl : s.heap.get? l = some (PySem.W.listOf ms.toArray e)) (h : Q (.ref s.heap.objs.size) { s with heap := s.heap.push (liO l 0) }) : wpAny (model PR w) A (call (.builtin "iter") [.ref l]) Q E s := by
  refine call_function_entry (by decide +kernel) (by decide +kernel) kdk_entry_iter (kdk_args_iter _) ?_
  unfold Builtin.«iter»
  refine wpAny_bind (m := someArgs "iter" 1 2 _) (wpAny_of_eq (a := [Value.ref l]) (by first | rfl | kernel_rfl!) ?_)
  show wpAny _ _ (pyIter (.ref l) >>= _) _ _ _
  refine wpAny_bind (wpAny_pyIter_list (listAt hl) ?_)
  exact wpAny_pure ⟨_, rfl, h⟩
theorem k_iter {A : Around} {E : Value → Shared → Prop} {L : Addr} {m : Str → Option Value} {news : List (Addr × Obj)} {e : Nat} {Q : Value → Shared → Prop} (F : Fr g L s.heap m) (N : News g L s.heap news) (hl : (l, PySem.W.listOf ms.toArray e) ∈ news)
    (h : ∀ I h', Fr g L h' m → News g L h' ((I, liO l 0) :: news) → (∀ p ∈ news, p.1 < I) → Q (.ref I) { s with heap := h' }) : wpAny (model PR w) A (call (.builtin "iter") [.ref l]) Q E s :=
  call_iter (N _ hl).1 (h _ _ (F.push _) (N.push F _) fun p hp => Heap.lt_size (N p hp).1)

theorem iter_spec (B : Base w mg mb g) (stg : g.StaysIn s.heap) (I : OSet w s.heap S dx l ms) (gS : g.get? S = none) (gd : g.get? dx = none) (gl : g.get? l = none) 
    (hR : ∀ h' tk i, Mod [] s.heap h' → s.heap.get? i = none → h'.get? i = some (liO l 0) → R (.ok (.ret (.ref i))) ⟨h', s.gens, s.drawn, tk, s.os⟩) :
    codeAny (model PR w) A0 (.call (.ref 114) ⟨[.ref S], []⟩) R s := by
  obtain ⟨⟨es, ep, t, e, oS, od, ol, f⟩, pv, nd⟩ := I
  have z := sz5 pv nd
  have n1 := neN (neObj oS od set_ne_dict)
  have n2 := neN (neObj oS ol set_ne_list)
  have n3 := neN (neObj od ol dict_ne_list)
  have N : Has g s.heap [(S, setO (.ref 232) (some dx) es ep t #[some (.ref l)]), (dx, dictE), (l, PySem.W.listOf ms.toArray e)] :=
    List.forall_mem_cons.mpr ⟨⟨oS, gS⟩, List.forall_mem_cons.mpr ⟨⟨od, gd⟩, List.forall_mem_cons.mpr ⟨⟨ol, gl⟩, List.forall_mem_nil _⟩⟩⟩
  refine enter_def B stg N (by k_is) (by k_is) (by decide) (BindsTo.of_eq rfl) (locs rfl) ?_ rfl rfl rfl (by decide)
  intro g' L h₁ B' F' N' kM sg hid
  have X' := B'.K
  have T' := B'.T
  dsimp only [List.map] at kM hid
  try dsimp only
  k_steps
  refine k_iter (by k_asm) (by k_asm) (by k_mem) fun I h2 F2 N2 lt => ?_
  k_lt lt
  obtain ⟨q1, q2, q3⟩ := lt
  k_steps
  refine hR _ _ I (mod_drop (mod_drop (mod_drop (kM _ (Fr.keep F2)) oS (N2 (S, _) (by k_mem)).1) od (N2 (dx, _) (by k_mem)).1) ol (N2 (l, _) (by k_mem)).1) (hid I (N2 (I, _) (by k_mem)).2.2 ?_) (N2 (I, _) (by k_mem)).1
  simp only [List.mem_cons, List.not_mem_nil, or_false, not_or]
  exact ⟨(neNat q1).symm, (neNat q2).symm, (neNat q3).symm⟩

theorem f_iter (w : World) : findIn (hd.heap_39 w.params) (.ref 232) "__iter__" = some (some (.ref 114)) := by kernel_rfl
theorem t_iter (w : World) : typeIn (hd.heap_39 w.params) (.ref 114) = some (.type "function") := by kernel_rfl
theorem pyIter_call {A : Around} {E : Value → Shared → Prop} {Q : Value → Shared → Prop} {o : Obj} {od : Option Obj} (X : (hd.heap_39 w.params).In s.heap) (I : PySem.W.InstAt s.heap S o 232 od)
    (h : wpAny (model PR w) A (call (.ref 114) [.ref S]) (fun it s' => ∃ T' r, s'.TypeIs it T' ∧ typeLookup (.type T') "__next__" = pure (some r) ∧ Q it s') E s) : wpAny (model PR w) A (pyIter (.ref S)) Q E s := by
  have L0 : Looks (model PR w) s.heap (specialOf (.ref S) "__iter__") (some (.ref 114)) := I.type.andThen (looks_findIn X (f_iter w))
  have b := fun self => bind_fn (M := model PR w) X self (t_iter w)
  unfold pyIter
  refine wpAny_bind (L0.here ?_)
  show wpAny _ A (callSpecialIfBoundUnlessNone? (.ref S) "__iter__" _ >>= _) Q E s
  have one : ∀ refuse : Sem Value, wpAny (model PR w) A (callSpecialIfBoundUnlessNone? (.ref S) "__iter__" refuse) (fun r s' => ∃ it, r = some it ∧ ∃ T' r, s'.TypeIs it T' ∧ typeLookup (.type T') "__next__" = pure (some r) ∧ Q it s') E s := by
    intro refuse
    simp only [callSpecialIfBoundUnlessNone?, bindSpecialIfBound?]
    refine wpAny_holding (wpAny_bind (wpAny_bind (L0.here ?_)))
    refine wpAny_bind (wpAny_askSetting (wpAny_ite ?_))
    have fin : wpAny (model PR w) A (if (Value.ref 114 == Value.none) = true then (refuse >>= fun v => pure (some v)) else (call (.ref 114) [.ref S] >>= fun v => pure (some v))) (fun r s' => ∃ it, r = some it ∧ ∃ T' r, s'.TypeIs it T' ∧ typeLookup (.type T') "__next__" = pure (some r) ∧ Q it s') E s := by
      rw [if_neg (by decide)]
      exact wpAny_bind (wpAny_mono h (fun v s' h' => wpAny_pure ⟨v, rfl, h'⟩) fun _ _ h' => h')
    split
    · exact wpAny_bind ((b (.ref S)).here (wpAny_pure fin))
    · exact wpAny_tryCatch (wpAny_bind ((b (.ref S)).here (wpAny_pure fin)))
  refine wpAny_bind (wpAny_mono (one _) (fun r s' h' => ?_) fun _ _ x => x)
  obtain ⟨it, rfl, T', r, hT', hl, hQ⟩ := h'
  exact wpAny_bind (wpAny_specialOf hT' hl (wpAny_pure hQ))

theorem slot_li_next : ∃ r, typeLookup (.type "list_iterator") "__next__" = pure (some r) := ⟨_, by first | exact PySem.slot_listiter_next.lookup | exact PySem.F.slot_listiter_next.lookup⟩
/-- iter(an ordered set), at the ledger -/
theorem k_pyIter_own {A : Around} {E : Value → Shared → Prop} {L : Addr} {m : Str → Option Value} {news : List (Addr × Obj)} {e ep : Nat} {es : Array (Int × Value)} {t : SetTable} {Q : Value → Shared → Prop} (B : Base w mg mb g) (F : Fr g L s.heap m) (N : News g L s.heap news)
    (h1 : (S, setO (.ref 232) (some dx) es ep t #[some (.ref l)]) ∈ news) (h2 : (dx, dictE) ∈ news) (h3 : (l, PySem.W.listOf ms.toArray e) ∈ news) (f : SFact w es t (inL ms)) (pv : ∀ v ∈ ms, Pv v) (nd : (ms.map cl).Nodup) (hh : A.handled = none) (hd' : A.depth ≤ 950) (hu : A.units ≤ 9000)
    (h : ∀ h' tk i, Fr g L h' m → News g L h' ((i, liO l 0) :: news) → (∀ p ∈ news, p.1 ≠ i) → Q (.ref i) ⟨h', s.gens, s.drawn, tk, s.os⟩) : wpAny (model PR w) A (pyIter (.ref S)) Q E s := by
  refine pyIter_call (B.K.keeps F.keep) (inst_set N h1 h2) (use_at (A := A0) (iter_spec B F.keep (os_at N h1 h2 h3 f pv nd) (N _ h1).2.2 (N _ h2).2.2 (N _ h3).2.2 fun h' tk i md n0 hi => ?_) hh hd' rfl rfl hu)
  obtain ⟨F', N'⟩ := led_new F N md n0 hi
  obtain ⟨r, hr⟩ := slot_li_next
  exact ⟨"list_iterator", r, ⟨_, hi, rfl⟩, hr, h h' tk i F' N' fun p hp => fresh_ne N (a := p.1) (o := p.2) hp n0⟩
theorem k_pyIter_list {A : Around} {E : Value → Shared → Prop} {L : Addr} {m : Str → Option Value} {news : List (Addr × Obj)} {e : Nat} {Q : Value → Shared → Prop} (F : Fr g L s.heap m) (N : News g L s.heap news) (hl : (l, PySem.W.listOf ms.toArray e) ∈ news)
    (h : ∀ h' I, Fr g L h' m → News g L h' ((I, liO l 0) :: news) → (∀ p ∈ news, p.1 ≠ I) → Q (.ref I) { s with heap := h' }) : wpAny (model PR w) A (pyIter (.ref l)) Q E s :=
  wpAny_pyIter_list (listAt (N _ hl).1) (h _ _ (F.push _) (N.push F _) fun p hp => neNat (Heap.lt_size (N p hp).1))
end
end
local macro_rules | `(tactic| walk_at "exec For Name Name cons nil") => `(tactic| (k_here; (with_reducible show wpAny _ _ (exec (Stmt.For (Expr.Name (PySem.Str.ofString "element") _) _ _ [] _) _) _ _ _); (rename Fr _ _ _ _ => lF'); (with_unfolding_all refine' For_invVF lF' ?k1 ?k2 ?_; (case k1 => exact rfl); (case k2 => exact rfl); k_whole)))
local macro_rules | `(tactic| walk_at "pyIter ref") => `(tactic| (k_here; k_dflt (refine' k_pyIter_own ?b ?k1 ?k2 ?h1 ?h2 ?h3 ?f ?pv ?nd ?hh ?hd ?hu ?_; (case b => assumption); (case k1 => k_asm); (case k2 => k_asm); (case h1 => k_mem); (case h2 => k_mem); (case h3 => k_mem); (case f => assumption); (case pv => assumption); (case nd => assumption); (case hh => exact rfl); (case hd => k_units); (case hu => k_units); k_whole); intro h' tk i F' N' nI))
/-! Up -/
section
theorem nE6 {a0 a1 a2 a3 a4 a5 I : Addr} {o0 o1 o2 o3 o4 o5 : Obj} (h0 : a0 ≠ I) (h1 : a1 ≠ I) (h2 : a2 ≠ I) (h3 : a3 ≠ I) (h4 : a4 ≠ I) (h5 : a5 ≠ I) : ∀ p ∈ [(a0, o0), (a1, o1), (a2, o2), (a3, o3), (a4, o4), (a5, o5)], p.1 ≠ I := by
  intro p hp
  simp only [List.mem_cons, List.not_mem_nil, or_false] at hp
  rcases hp with rfl | rfl | rfl | rfl | rfl | rfl <;> assumption
theorem nE8 {a0 a1 a2 a3 a4 a5 a6 a7 I : Addr} {o0 o1 o2 o3 o4 o5 o6 o7 : Obj} (h0 : a0 ≠ I) (h1 : a1 ≠ I) (h2 : a2 ≠ I) (h3 : a3 ≠ I) (h4 : a4 ≠ I) (h5 : a5 ≠ I) (h6 : a6 ≠ I) (h7 : a7 ≠ I) : ∀ p ∈ [(a0, o0), (a1, o1), (a2, o2), (a3, o3), (a4, o4), (a5, o5), (a6, o6), (a7, o7)], p.1 ≠ I := by
  intro p hp
  simp only [List.mem_cons, List.not_mem_nil, or_false] at hp
  rcases hp with rfl | rfl | rfl | rfl | rfl | rfl | rfl | rfl <;> assumption
theorem nE9 {a0 a1 a2 a3 a4 a5 a6 a7 a8 I : Addr} {o0 o1 o2 o3 o4 o5 o6 o7 o8 : Obj} (h0 : a0 ≠ I) (h1 : a1 ≠ I) (h2 : a2 ≠ I) (h3 : a3 ≠ I) (h4 : a4 ≠ I) (h5 : a5 ≠ I) (h6 : a6 ≠ I) (h7 : a7 ≠ I) (h8 : a8 ≠ I) : ∀ p ∈ [(a0, o0), (a1, o1), (a2, o2), (a3, o3), (a4, o4), (a5, o5), (a6, o6), (a7, o7), (a8, o8)], p.1 ≠ I := by
  intro p hp
  simp only [List.mem_cons, List.not_mem_nil, or_false] at hp
  rcases hp with rfl | rfl | rfl | rfl | rfl | rfl | rfl | rfl | rfl <;> assumption
theorem mod4 {a b c d e f r : Addr} {o0 o1 o2 o3 : Obj} {h h' : Heap} (m : Mod [a, b, c, r, d, e, f] h h') (x0 : h.get? r = some o0) (y0 : h'.get? r = some o0) (x1 : h.get? d = some o1) (y1 : h'.get? d = some o1) (x2 : h.get? e = some o2) (y2 : h'.get? e = some o2) (x3 : h.get? f = some o3) (y3 : h'.get? f = some o3) : Mod [a, b, c] h h' := by
  have m' : Mod [r, f, e, d, a, b, c] h h' := m.mono (by intro p hp; simp only [List.mem_cons, List.not_mem_nil, or_false] at hp ⊢; rcases hp with h | h | h | h | h | h | h <;> simp [h])
  exact mod_drop (mod_drop (mod_drop (mod_drop m' x0 y0) x3 y3) x2 y2) x1 y1
theorem mod3 {a b c d e f : Addr} {o1 o2 o3 : Obj} {h h' : Heap} (m : Mod [a, b, c, d, e, f] h h') (x1 : h.get? d = some o1) (y1 : h'.get? d = some o1) (x2 : h.get? e = some o2) (y2 : h'.get? e = some o2) (x3 : h.get? f = some o3) (y3 : h'.get? f = some o3) : Mod [a, b, c] h h' := by
  have m' : Mod [f, e, d, a, b, c] h h' := m.mono (by intro p hp; simp only [List.mem_cons, List.not_mem_nil, or_false] at hp ⊢; rcases hp with h | h | h | h | h | h <;> simp [h])
  exact mod_drop (mod_drop (mod_drop m' x3 y3) x2 y2) x1 y1
section
variable {w : World} {s : Shared} {mg mb : Str → Option Value} {g : Heap} {R : Result → Shared → Prop} {S dx l : Addr} {ms : List Value} {x : Value}

/-- update(other ordered set) -/
theorem update1o_spec {S2 dx2 l2 : Addr} {vs : List Value} (B : Base w mg mb g) (stg : g.StaysIn s.heap) (I : OSet w s.heap S dx l ms) (gS : g.get? S = none) (gd : g.get? dx = none) (gl : g.get? l = none)
  (I2 : OSet w s.heap S2 dx2 l2 vs) (gS2 : g.get? S2 = none) (gd2 : g.get? dx2 = none) (gl2 : g.get? l2 = none) (nS : S ≠ S2) (nd' : dx ≠ dx2) (nl : l ≠ l2)
  (hR : ∀ h' tk, Mod [S, dx, l] s.heap h' → OSet w h' S dx l (addAll ms vs) → R (.ok (.ret .none)) ⟨h', s.gens, s.drawn, tk, s.os⟩) :
    codeAny (model PR w) A1 (.call (.ref 135) ⟨[.ref S, .ref S2], []⟩) R s := by
  obtain ⟨⟨es, ep, t, e, oS, od, ol, f⟩, pv, nd⟩ := I
  obtain ⟨⟨es2, ep2, t2, e2, oS2, od2, ol2, f2⟩, pv2, nd2⟩ := I2
  have z := sz5 pv nd
  have n1 := neN (neObj oS od set_ne_dict)
  have n2 := neN (neObj oS ol set_ne_list)
  have n3 := neN (neObj od ol dict_ne_list)
  have n4 := neN nS
  have n5 := neN (neObj oS od2 set_ne_dict)
  have n6 := neN (neObj oS ol2 set_ne_list)
  have n7 := neN (neObj oS2 od set_ne_dict)
  have n8 := neN nd'
  have n9 := neN (neObj od ol2 dict_ne_list)
  have n10 := neN (neObj oS2 ol set_ne_list)
  have n11 := neN (neObj od2 ol dict_ne_list)
  have n12 := neN nl
  have N : Has g s.heap [(S, setO (.ref 232) (some dx) es ep t #[some (.ref l)]), (dx, dictE), (l, PySem.W.listOf ms.toArray e), (S2, setO (.ref 232) (some dx2) es2 ep2 t2 #[some (.ref l2)]), (dx2, dictE), (l2, PySem.W.listOf vs.toArray e2)] :=
    List.forall_mem_cons.mpr ⟨⟨oS, gS⟩, List.forall_mem_cons.mpr ⟨⟨od, gd⟩, List.forall_mem_cons.mpr ⟨⟨ol, gl⟩, List.forall_mem_cons.mpr ⟨⟨oS2, gS2⟩, List.forall_mem_cons.mpr ⟨⟨od2, gd2⟩, List.forall_mem_cons.mpr ⟨⟨ol2, gl2⟩, List.forall_mem_nil _⟩⟩⟩⟩⟩⟩
  refine enter_star B stg N (by k_is) (by k_is) (by decide) rfl (by rw [sizeLine_eq]; simp) (fun t => locs rfl) ?_ rfl rfl rfl (by decide)
  intro g' L h₁ T B' F' N' lT kM sg hid
  have X' := B'.K
  have T' := B'.T
  dsimp only [List.map] at kM hid
  k_lt lT
  obtain ⟨lT1, lT2, lT3, lT4, lT5, lT6⟩ := lT
  try dsimp only
  k_steps
  rename_i i1 lt1 h1 tk1 F1 o1 hc1 N1 h2 F2 N2 h2' tk2 I0 F2' N2' nI
  obtain ⟨lt1, lt2, lt3, lt4, lt5, lt6, lt7⟩ := lt1
  have it0 := (N2' (I0, liO l2 0) (by k_mem)).1
  have hI0 := (N2' (I0, liO l2 0) (by k_mem)).2.2
  have hIL0 := (N2' (I0, liO l2 0) (by k_mem)).2.1
  clear F2 N2 F1 N1
  have nI0 : ∀ p ∈ [(i1, o1), (T, tupO [.ref S2]), (S, setO (.ref 232) (some dx) es ep t #[some (.ref l)]), (dx, dictE), (l, PySem.W.listOf ms.toArray e), (S2, setO (.ref 232) (some dx2) es2 ep2 t2 #[some (.ref l2)]), (dx2, dictE), (l2, PySem.W.listOf vs.toArray e2)], p.1 ≠ I0 := nI
  refine loop_list (l := l2) (vs := vs) (e := e2) (fun i nw => ∃ es' ep' t' e', nw = [(i1, o1), (T, tupO [.ref S2]), (S, setO (.ref 232) (some dx) es' ep' t' #[some (.ref l)]), (dx, dictE), (l, PySem.W.listOf (addAll ms (vs.take i)).toArray e'), (S2, setO (.ref 232) (some dx2) es2 ep2 t2 #[some (.ref l2)]), (dx2, dictE), (l2, PySem.W.listOf vs.toArray e2)] ∧ SFact w es' t' (inL (addAll ms (vs.take i)))) rfl ⟨_, it0, rfl, rfl⟩ hI0 hIL0 F2' (fun p hp => N2' p (.tail _ hp)) nI0 ?_ ⟨es, ep, t, e, rfl, f⟩ ?_ ?_
  · rintro i nw ⟨es', ep', t', e', rfl, -⟩; k_mem
  · rintro i v nw h3 tk3 oI hv ⟨es', ep', t', e', rfl, f3⟩ hne F3 N3
    have pv3 : ∀ v ∈ addAll ms (vs.take i), Pv v := pv_addAll pv fun v hv => pv2 v (List.mem_of_mem_take hv)
    have nd3 : ((addAll ms (vs.take i)).map cl).Nodup := nd_addAll nd
    have z3 := sz5 pv3 nd3
    have px : Pv v := pv2 v (List.mem_of_getElem? hv)
    have es3 : vs.take (i + 1) = vs.take i ++ [v] := by rw [List.take_add_one, hv]; rfl
    have m0 := neN (show i1 ≠ I0 from hne (i1, _) (by k_mem))
    have m1 := neN (show T ≠ I0 from hne (T, _) (by k_mem))
    have m2 := neN (show S ≠ I0 from hne (S, _) (by k_mem))
    have m3 := neN (show dx ≠ I0 from hne (dx, _) (by k_mem))
    have m4 := neN (show l ≠ I0 from hne (l, _) (by k_mem))
    have m5 := neN (show S2 ≠ I0 from hne (S2, _) (by k_mem))
    have m6 := neN (show dx2 ≠ I0 from hne (dx2, _) (by k_mem))
    have m7 := neN (show l2 ≠ I0 from hne (l2, _) (by k_mem))
    skip
    k_steps
    · have q : ¬ inL (addAll ms (vs.take i)) v := fun q => Bool.noConfusion ((‹false = true ↔ inL (addAll ms (vs.take i)) v›).mpr q)
      refine turn_ok (by assumption) (by assumption) (fun y hy => if_neg hy) (nE8 m0 m1 m2 m3 m4 m5 m6 m7) ?_
      rw [es3, addAll_snoc, addL_new q]
      exact ⟨_, _, _, _, rfl, SFact.iff (by assumption) fun y => by rw [inL_append, inL_one, or_comm]⟩
    · have q : inL (addAll ms (vs.take i)) v := (‹true = true ↔ inL (addAll ms (vs.take i)) v›).mp rfl
      refine turn_ok (by assumption) (by assumption) (fun y hy => if_neg hy) (nE8 m0 m1 m2 m3 m4 m5 m6 m7) ?_
      rw [es3, addAll_snoc, addL_in q]
      exact ⟨_, _, _, _, rfl, f3⟩
  · rintro nw h4 tk4 u4 ⟨es4, ep4, t4, e4, rfl, f4⟩ F4 N4
    rw [List.take_length] at f4 N4
    clear F2' N2'
    k_steps
    refine hR _ _ (mod3 (kM _ (Fr.keep (by assumption))) oS2 (‹News g' L _ _› (S2, _) (by k_mem)).1 od2 (‹News g' L _ _› (dx2, _) (by k_mem)).1 ol2 (‹News g' L _ _› (l2, _) (by k_mem)).1) (os_at (by assumption) (by k_mem) (by k_mem) (by k_mem) f4 (pv_addAll pv pv2) (nd_addAll nd))

/-- update(list, other ordered set) -/
theorem update2_spec {r S2 dx2 l2 : Addr} {us vs : List Value} {e1 : Nat} (B : Base w mg mb g) (stg : g.StaysIn s.heap) (I : OSet w s.heap S dx l ms) (gS : g.get? S = none) (gd : g.get? dx = none) (gl : g.get? l = none)
  (orr : s.heap.get? r = some (PySem.W.listOf us.toArray e1)) (gr : g.get? r = none) (hP : ∀ v ∈ us, Pv v) (nr : r ≠ l)
  (I2 : OSet w s.heap S2 dx2 l2 vs) (gS2 : g.get? S2 = none) (gd2 : g.get? dx2 = none) (gl2 : g.get? l2 = none) (nS : S ≠ S2) (nd' : dx ≠ dx2) (nl : l ≠ l2)
  (hR : ∀ h' tk, Mod [S, dx, l] s.heap h' → OSet w h' S dx l (addAll (addAll ms us) vs) → R (.ok (.ret .none)) ⟨h', s.gens, s.drawn, tk, s.os⟩) :
    codeAny (model PR w) A1 (.call (.ref 135) ⟨[.ref S, .ref r, .ref S2], []⟩) R s := by
  obtain ⟨⟨es, ep, t, e, oS, od, ol, f⟩, pv, nd⟩ := I
  obtain ⟨⟨es2, ep2, t2, e2, oS2, od2, ol2, f2⟩, pv2, nd2⟩ := I2
  have z := sz5 pv nd
  have n1 := neN (neObj oS od set_ne_dict)
  have n2 := neN (neObj oS ol set_ne_list)
  have n3 := neN (neObj od ol dict_ne_list)
  have n4 := neN nS
  have n5 := neN (neObj oS od2 set_ne_dict)
  have n6 := neN (neObj oS ol2 set_ne_list)
  have n7 := neN (neObj oS2 od set_ne_dict)
  have n8 := neN nd'
  have n9 := neN (neObj od ol2 dict_ne_list)
  have n10 := neN (neObj oS2 ol set_ne_list)
  have n11 := neN (neObj od2 ol dict_ne_list)
  have n12 := neN nl
  have n13 := neN (neObj oS orr set_ne_list)
  have n14 := neN (neObj od orr dict_ne_list)
  have n15 := neN nr
  have N : Has g s.heap [(S, setO (.ref 232) (some dx) es ep t #[some (.ref l)]), (dx, dictE), (l, PySem.W.listOf ms.toArray e), (r, PySem.W.listOf us.toArray e1), (S2, setO (.ref 232) (some dx2) es2 ep2 t2 #[some (.ref l2)]), (dx2, dictE), (l2, PySem.W.listOf vs.toArray e2)] :=
    List.forall_mem_cons.mpr ⟨⟨oS, gS⟩, List.forall_mem_cons.mpr ⟨⟨od, gd⟩, List.forall_mem_cons.mpr ⟨⟨ol, gl⟩, List.forall_mem_cons.mpr ⟨⟨orr, gr⟩, List.forall_mem_cons.mpr ⟨⟨oS2, gS2⟩, List.forall_mem_cons.mpr ⟨⟨od2, gd2⟩, List.forall_mem_cons.mpr ⟨⟨ol2, gl2⟩, List.forall_mem_nil _⟩⟩⟩⟩⟩⟩⟩
  refine enter_star B stg N (by k_is) (by k_is) (by decide) rfl (by rw [sizeLine_eq]; simp) (fun t => locs rfl) ?_ rfl rfl rfl (by decide)
  intro g' L h₁ T B' F' N' lT kM sg hid
  have X' := B'.K
  have T' := B'.T
  dsimp only [List.map] at kM hid
  k_lt lT
  obtain ⟨lT1, lT2, lT3, lT4, lT5, lT6, lT7⟩ := lT
  try dsimp only
  k_steps
  rename_i i1 lt1 h1 tk1 F1 o1 hc1 N1 h2 F2 N2
  obtain ⟨lt1, lt2, lt3, lt4, lt5, lt6, lt7, lt8⟩ := lt1
  refine k_pyIter_list F2 N2 (l := r) (ms := us) (e := e1) (by k_mem) fun h2p I0 F2p N2p nIa => ?_
  have it0 := (N2p (I0, liO r 0) (by k_mem)).1
  have hI0 := (N2p (I0, liO r 0) (by k_mem)).2.2
  have hIL0 := (N2p (I0, liO r 0) (by k_mem)).2.1
  clear F2 N2 F1 N1
  have nI0 : ∀ p ∈ [(i1, o1), (T, tupO [.ref r, .ref S2]), (S, setO (.ref 232) (some dx) es ep t #[some (.ref l)]), (dx, dictE), (l, PySem.W.listOf ms.toArray e), (r, PySem.W.listOf us.toArray e1), (S2, setO (.ref 232) (some dx2) es2 ep2 t2 #[some (.ref l2)]), (dx2, dictE), (l2, PySem.W.listOf vs.toArray e2)], p.1 ≠ I0 := nIa
  refine loop_list (l := r) (vs := us) (e := e1) (fun i nw => ∃ es' ep' t' e', nw = [(i1, o1), (T, tupO [.ref r, .ref S2]), (S, setO (.ref 232) (some dx) es' ep' t' #[some (.ref l)]), (dx, dictE), (l, PySem.W.listOf (addAll ms (us.take i)).toArray e'), (r, PySem.W.listOf us.toArray e1), (S2, setO (.ref 232) (some dx2) es2 ep2 t2 #[some (.ref l2)]), (dx2, dictE), (l2, PySem.W.listOf vs.toArray e2)] ∧ SFact w es' t' (inL (addAll ms (us.take i)))) rfl ⟨_, it0, rfl, rfl⟩ hI0 hIL0 F2p (fun p hp => N2p p (.tail _ hp)) nI0 ?_ ⟨es, ep, t, e, rfl, f⟩ ?_ ?_
  · rintro i nw ⟨es', ep', t', e', rfl, -⟩; k_mem
  · rintro i v nw h3 tk3 oI hv ⟨es', ep', t', e', rfl, f3⟩ hne F3 N3
    have pv3 : ∀ v ∈ addAll ms (us.take i), Pv v := pv_addAll pv fun v hv => hP v (List.mem_of_mem_take hv)
    have nd3 : ((addAll ms (us.take i)).map cl).Nodup := nd_addAll nd
    have z3 := sz5 pv3 nd3
    have px : Pv v := hP v (List.mem_of_getElem? hv)
    have es3 : us.take (i + 1) = us.take i ++ [v] := by rw [List.take_add_one, hv]; rfl
    have m0 := neN (show i1 ≠ I0 from hne (i1, _) (by k_mem))
    have m1 := neN (show T ≠ I0 from hne (T, _) (by k_mem))
    have m2 := neN (show S ≠ I0 from hne (S, _) (by k_mem))
    have m3 := neN (show dx ≠ I0 from hne (dx, _) (by k_mem))
    have m4 := neN (show l ≠ I0 from hne (l, _) (by k_mem))
    have m5 := neN (show r ≠ I0 from hne (r, _) (by k_mem))
    have m6 := neN (show S2 ≠ I0 from hne (S2, _) (by k_mem))
    have m7 := neN (show dx2 ≠ I0 from hne (dx2, _) (by k_mem))
    have m8 := neN (show l2 ≠ I0 from hne (l2, _) (by k_mem))
    skip
    k_steps
    · have q : ¬ inL (addAll ms (us.take i)) v := fun q => Bool.noConfusion ((‹false = true ↔ inL (addAll ms (us.take i)) v›).mpr q)
      refine turn_ok (by assumption) (by assumption) (fun y hy => if_neg hy) (nE9 m0 m1 m2 m3 m4 m5 m6 m7 m8) ?_
      rw [es3, addAll_snoc, addL_new q]
      exact ⟨_, _, _, _, rfl, SFact.iff (by assumption) fun y => by rw [inL_append, inL_one, or_comm]⟩
    · have q : inL (addAll ms (us.take i)) v := (‹true = true ↔ inL (addAll ms (us.take i)) v›).mp rfl
      refine turn_ok (by assumption) (by assumption) (fun y hy => if_neg hy) (nE9 m0 m1 m2 m3 m4 m5 m6 m7 m8) ?_
      rw [es3, addAll_snoc, addL_in q]
      exact ⟨_, _, _, _, rfl, f3⟩
  · rintro nw h4 tk4 u4 ⟨es4, ep4, t4, e4, rfl, f4⟩ F4 N4
    rw [List.take_length] at f4 N4
    clear N2p F2p
    have pvb : ∀ v ∈ addAll ms us, Pv v := pv_addAll pv hP
    have ndb : ((addAll ms us).map cl).Nodup := nd_addAll nd
    have zb := sz5 pvb ndb
    k_steps
    rename_i ha tka Fa ob hcb Na hb Fb Nb hc tkc I1 Fc Nc nIc
    have it1 := (Nc (I1, liO l2 0) (by k_mem)).1
    have hI1 := (Nc (I1, liO l2 0) (by k_mem)).2.2
    have hIL1 := (Nc (I1, liO l2 0) (by k_mem)).2.1
    clear Fa Na Fb Nb
    have nI1 : ∀ p ∈ [(i1, ob), (T, tupO [.ref r, .ref S2]), (S, setO (.ref 232) (some dx) es4 ep4 t4 #[some (.ref l)]), (dx, dictE), (l, PySem.W.listOf (addAll ms us).toArray e4), (r, PySem.W.listOf us.toArray e1), (S2, setO (.ref 232) (some dx2) es2 ep2 t2 #[some (.ref l2)]), (dx2, dictE), (l2, PySem.W.listOf vs.toArray e2)], p.1 ≠ I1 := nIc
    refine loop_list (l := l2) (vs := vs) (e := e2) (fun i nw => ∃ es' ep' t' e', nw = [(i1, ob), (T, tupO [.ref r, .ref S2]), (S, setO (.ref 232) (some dx) es' ep' t' #[some (.ref l)]), (dx, dictE), (l, PySem.W.listOf (addAll (addAll ms us) (vs.take i)).toArray e'), (r, PySem.W.listOf us.toArray e1), (S2, setO (.ref 232) (some dx2) es2 ep2 t2 #[some (.ref l2)]), (dx2, dictE), (l2, PySem.W.listOf vs.toArray e2)] ∧ SFact w es' t' (inL (addAll (addAll ms us) (vs.take i)))) rfl ⟨_, it1, rfl, rfl⟩ hI1 hIL1 Fc (fun p hp => Nc p (.tail _ hp)) nI1 ?_ ⟨es4, ep4, t4, e4, rfl, f4⟩ ?_ ?_
    · rintro i nw ⟨es', ep', t', e', rfl, -⟩; k_mem
    · rintro i v nw h3 tk3 oI hv ⟨es', ep', t', e', rfl, f3⟩ hne F3 N3
      have pv3 : ∀ v ∈ addAll (addAll ms us) (vs.take i), Pv v := pv_addAll pvb fun v hv => pv2 v (List.mem_of_mem_take hv)
      have nd3 : ((addAll (addAll ms us) (vs.take i)).map cl).Nodup := nd_addAll ndb
      have z3 := sz5 pv3 nd3
      have px : Pv v := pv2 v (List.mem_of_getElem? hv)
      have es3 : vs.take (i + 1) = vs.take i ++ [v] := by rw [List.take_add_one, hv]; rfl
      have m0 := neN (show i1 ≠ I1 from hne (i1, _) (by k_mem))
      have m1 := neN (show T ≠ I1 from hne (T, _) (by k_mem))
      have m2 := neN (show S ≠ I1 from hne (S, _) (by k_mem))
      have m3 := neN (show dx ≠ I1 from hne (dx, _) (by k_mem))
      have m4 := neN (show l ≠ I1 from hne (l, _) (by k_mem))
      have m5 := neN (show r ≠ I1 from hne (r, _) (by k_mem))
      have m6 := neN (show S2 ≠ I1 from hne (S2, _) (by k_mem))
      have m7 := neN (show dx2 ≠ I1 from hne (dx2, _) (by k_mem))
      have m8 := neN (show l2 ≠ I1 from hne (l2, _) (by k_mem))
      skip
      k_steps
      · have q : ¬ inL (addAll (addAll ms us) (vs.take i)) v := fun q => Bool.noConfusion ((‹false = true ↔ inL (addAll (addAll ms us) (vs.take i)) v›).mpr q)
        refine turn_ok (by assumption) (by assumption) (fun y hy => if_neg hy) (nE9 m0 m1 m2 m3 m4 m5 m6 m7 m8) ?_
        rw [es3, addAll_snoc, addL_new q]
        exact ⟨_, _, _, _, rfl, SFact.iff (by assumption) fun y => by rw [inL_append, inL_one, or_comm]⟩
      · have q : inL (addAll (addAll ms us) (vs.take i)) v := (‹true = true ↔ inL (addAll (addAll ms us) (vs.take i)) v›).mp rfl
        refine turn_ok (by assumption) (by assumption) (fun y hy => if_neg hy) (nE9 m0 m1 m2 m3 m4 m5 m6 m7 m8) ?_
        rw [es3, addAll_snoc, addL_in q]
        exact ⟨_, _, _, _, rfl, f3⟩
    · rintro nw h4 tk4 u4 ⟨es4, ep4, t4, e4, rfl, f4⟩ F4 N4
      rw [List.take_length] at f4 N4
      clear Nc Fc
      k_steps
      refine hR _ _ (mod4 (kM _ (Fr.keep (by assumption))) orr (‹News g' L _ _› (r, _) (by k_mem)).1 oS2 (‹News g' L _ _› (S2, _) (by k_mem)).1 od2 (‹News g' L _ _› (dx2, _) (by k_mem)).1 ol2 (‹News g' L _ _› (l2, _) (by k_mem)).1) (os_at (by assumption) (by k_mem) (by k_mem) (by k_mem) f4 (pv_addAll pvb pv2) (nd_addAll ndb))
end

end
/-! C6 -/
section
section
variable {w : World} {s : Shared} {mg mb : Str → Option Value} {g : Heap} {R : Result → Shared → Prop} {S dx l : Addr} {ms : List Value} {x : Value}

/-- _from_list at the ledger -/
theorem k_from {A : Around} {E : Value → Shared → Prop} {L : Addr} {m : Str → Option Value} {news : List (Addr × Obj)} {e : Nat} {self : Value} {Q : Value → Shared → Prop} (B : Base w mg mb g) (F : Fr g L s.heap m) (N : News g L s.heap news)
    (hl : (l, PySem.W.listOf ms.toArray e) ∈ news) (pv : ∀ v ∈ ms, Pv v) (nd : (ms.map cl).Nodup) (hh : A.handled = none) (hd' : A.depth ≤ 900) (hu : A.units ≤ 8000)
    (h : ∀ es' ep' t' h' tk S' dx', SFact w es' t' (inL ms) → Fr g L h' m → News g L h' ((S', setO (.ref 232) (some dx') es' ep' t' #[some (.ref l)]) :: (dx', dictE) :: news) → (∀ p ∈ news, p.1 ≠ S') → (∀ p ∈ news, p.1 ≠ dx') → dx' ≠ S' → Q (.ref S') { s with heap := h', toks := tk }) :
    wpAny (model PR w) A (call (.ref 58) [self, .ref l]) Q E s := by
  refine use_at (A := A1) (from_spec B F.keep (N _ hl).1 (N _ hl).2.2 pv nd fun h' tk S' dx' md nS nd' I => ?_) hh hd' rfl rfl hu
  obtain ⟨⟨es', ep', t', e', oS, od, ol, f⟩, -, -⟩ := I
  have F1 := fr_mod F md (by simp) (by simp)
  obtain ⟨oL, _, _, hL, _⟩ := F.ns
  have n1 : S' ≠ L := fun q => by rw [q, hL] at nS; cases nS
  have n2 : dx' ≠ L := fun q => by rw [q, hL] at nd'; cases nd'
  refine h es' ep' t' h' tk S' dx' f F1 (fun p hp => ?_) (fun p hp => fresh_ne N (a := p.1) (o := p.2) hp nS) (fun p hp => fresh_ne N (a := p.1) (o := p.2) hp nd') (neObj od oS fun q => set_ne_dict q.symm)
  rcases List.mem_cons.mp hp with rfl | hp
  · exact ⟨oS, n1, none_of F.keep nS⟩
  · rcases List.mem_cons.mp hp with rfl | hp
    · exact ⟨od, n2, none_of F.keep nd'⟩
    · have P := N p hp; exact ⟨md _ _ P.1 (by simp), P.2⟩
theorem notIn3 {a b c d : Addr} (h1 : b ≠ a) (h2 : c ≠ a) (h3 : d ≠ a) : a ∉ [b, c, d] := by
  simp only [List.mem_cons, List.not_mem_nil, or_false, not_or]; exact ⟨h1.symm, h2.symm, h3.symm⟩
theorem mod0 {a b c : Addr} {o1 o2 o3 : Obj} {h h' : Heap} (m : Mod [a, b, c] h h') (x1 : h.get? a = some o1) (y1 : h'.get? a = some o1) (x2 : h.get? b = some o2) (y2 : h'.get? b = some o2) (x3 : h.get? c = some o3) (y3 : h'.get? c = some o3) : Mod [] h h' := mod_drop (mod_drop (mod_drop m x1 y1) x2 y2) x3 y3

theorem copy_spec (B : Base w mg mb g) (stg : g.StaysIn s.heap) (I : OSet w s.heap S dx l ms) (gS : g.get? S = none) (gd : g.get? dx = none) (gl : g.get? l = none) 
    (hR : ∀ h' tk S' dx' l', Mod [] s.heap h' → s.heap.get? S' = none → s.heap.get? dx' = none → s.heap.get? l' = none → OSet w h' S' dx' l' ms → R (.ok (.ret (.ref S'))) ⟨h', s.gens, s.drawn, tk, s.os⟩) :
    codeAny (model PR w) A2 (.call (.ref 51) ⟨[.ref S], []⟩) R s := by
  obtain ⟨⟨es, ep, t, e, oS, od, ol, f⟩, pv, nd⟩ := I
  have z := sz5 pv nd
  have n1 := neN (neObj oS od set_ne_dict)
  have n2 := neN (neObj oS ol set_ne_list)
  have n3 := neN (neObj od ol dict_ne_list)
  have N : Has g s.heap [(S, setO (.ref 232) (some dx) es ep t #[some (.ref l)]), (dx, dictE), (l, PySem.W.listOf ms.toArray e)] :=
    List.forall_mem_cons.mpr ⟨⟨oS, gS⟩, List.forall_mem_cons.mpr ⟨⟨od, gd⟩, List.forall_mem_cons.mpr ⟨⟨ol, gl⟩, List.forall_mem_nil _⟩⟩⟩
  refine enter_def B stg N (by k_is) (by k_is) (by decide) (BindsTo.of_eq rfl) (locs rfl) ?_ rfl rfl rfl (by decide)
  intro g' L h₁ B' F' N' kM sg hid
  have X' := B'.K
  have T' := B'.T
  dsimp only [List.map] at kM hid
  try dsimp only
  k_steps
  rename_i l1
  obtain ⟨a1, a2, a3⟩ := l1
  refine k_from B' (by assumption) (by assumption) (by k_mem) pv nd rfl (Nat.le_of_ble_eq_true rfl) (Nat.le_of_ble_eq_true rfl) fun es2 ep2 t2 h2 tk2 S2 dx2 f2 F2 N2 b1 b2 b3 => ?_
  k_steps
  exact hR _ _ S2 dx2 _ (mod0 (kM _ (Fr.keep F2)) oS (N2 (S, _) (by k_mem)).1 od (N2 (dx, _) (by k_mem)).1 ol (N2 (l, _) (by k_mem)).1) (hid S2 (N2 (S2, _) (by k_mem)).2.2 (notIn3 (b1 (S, _) (by k_mem)) (b1 (dx, _) (by k_mem)) (b1 (l, _) (by k_mem))))
    (hid dx2 (N2 (dx2, _) (by k_mem)).2.2 (notIn3 (b2 (S, _) (by k_mem)) (b2 (dx, _) (by k_mem)) (b2 (l, _) (by k_mem)))) (hid _ (N2 (_, PySem.W.listOf ms.toArray _) (.tail _ (.tail _ (.head _)))).2.2 (notIn3 (Nat.ne_of_lt a1) (Nat.ne_of_lt a2) (Nat.ne_of_lt a3))) (os_at N2 (.head _) (.tail _ (.head _)) (.tail _ (.tail _ (.head _))) f2 pv nd)
end

end
/-! Sr -/
section

section
variable {w : World} {M : Model} {A : Around} {E : Value → Shared → Prop} {s : Shared} {env : Env} {S dx l f : Addr} {g : Heap} {L : Addr} {m : Str → Option Value} {news : List (Addr × Obj)} {name : Str}

theorem Upd.right {d : Addr} {o o' : Obj} : ∀ {l l' : List (Addr × Obj)}, Upd d o o' l l' → ∀ p ∈ l', p = (d, o') ∨ (p ∈ l ∧ p.1 ≠ d)
  | _, _, .head h, p, hp => by
    rcases List.mem_cons.mp hp with rfl | q
    · exact .inl rfl
    · exact .inr ⟨.tail _ q, h p q⟩
  | _, _, .tail (p := x) h r, p, hp => by
    rcases List.mem_cons.mp hp with rfl | q
    · exact .inr ⟨.head _, h⟩
    · rcases Upd.right r p q with z | ⟨z, y⟩
      · exact .inl z
      · exact .inr ⟨.tail _ z, y⟩

/-- an ordered set of the ledger changed, its list with it -/
theorem led_os {h h' : Heap} {es : Array (Int × Value)} {ep : Nat} {t : SetTable} {e : Nat} {ms ms' : List Value} {n1 : Array (Int × Value) → Nat → SetTable → List (Addr × Obj)} {n2 : Array (Int × Value) → Nat → SetTable → Nat → List (Addr × Obj)} (F : Fr g L h m) (N : News g L h news)
    (md : Mod [S, dx, l] h h') (I : OSet w h' S dx l ms') (hd' : (dx, dictE) ∈ news)
    (U1 : ∀ es' ep' t', Upd S (setO (.ref 232) (some dx) es ep t #[some (.ref l)]) (setO (.ref 232) (some dx) es' ep' t' #[some (.ref l)]) news (n1 es' ep' t'))
    (U2 : ∀ es' ep' t' e', Upd l (PySem.W.listOf ms.toArray e) (PySem.W.listOf ms'.toArray e') (n1 es' ep' t') (n2 es' ep' t' e')) :
    ∃ es' ep' t' e', Fr g L h' m ∧ News g L h' (n2 es' ep' t' e') ∧ SFact w es' t' (inL ms') := by
  obtain ⟨⟨es', ep', t', e', oS, od, ol, f⟩, -, -⟩ := I
  have zS := N _ (Upd.mem (U1 es' ep' t'))
  have zd := N _ hd'
  have ml : (l, PySem.W.listOf ms.toArray e) ∈ news := by
    rcases Upd.right (U1 es' ep' t') _ (Upd.mem (U2 es' ep' t' e')) with q | ⟨q, _⟩
    · exact absurd (congrArg (fun p => p.2) q) fun z => set_ne_list z.symm
    · exact q
  have zl := N _ ml
  refine ⟨es', ep', t', e', fr_mod F md ?_ ?_, fun p hp => ?_, f⟩
  · simp only [List.mem_cons, List.not_mem_nil, or_false, not_or]; exact ⟨zS.2.1.symm, zd.2.1.symm, zl.2.1.symm⟩
  · intro a ha
    simp only [List.mem_cons, List.not_mem_nil, or_false] at ha
    rcases ha with rfl | rfl | rfl
    · exact zS.2.2
    · exact zd.2.2
    · exact zl.2.2
  · rcases Upd.right (U2 es' ep' t' e') p hp with rfl | ⟨q, nl⟩
    · exact ⟨ol, zl.2⟩
    · rcases Upd.right (U1 es' ep' t') p q with rfl | ⟨q, nS⟩
      · exact ⟨oS, zS.2⟩
      · have P := N p q
        refine ⟨?_, P.2⟩
        by_cases y : p.1 = dx
        · have a := P.1
          rw [y, zd.1] at a
          rw [y, ← a]; exact od
        · exact md _ _ P.1 (by simp only [List.mem_cons, List.not_mem_nil, or_false, not_or]; exact ⟨nS, y, nl⟩)

theorem use_meth {A' : Around} {q : Addr} {f self : Value} {args : List Value} {Q : Value → Shared → Prop} (N : News g L s.heap news) (hq : (q, methodObj f self) ∈ news) (h : codeAny (model PR w) A' (.call f ⟨self :: args, []⟩) (wants Q E) s)
    (h1 : A.handled = A'.handled) (h2 : A.depth ≤ A'.depth) (h3 : A'.frames = none) (h4 : A'.guards = none) (h5 : A.units ≤ A'.units) : wpAny (model PR w) A (call (.ref q) args) Q E s :=
  wpAny_call (method_call (N _ hq).1 (codeAny_mono (codeAny_le h h1 h2 (fun l q => by rw [h3] at q; cases q) (fun l q => by rw [h4] at q; cases q) h5) fun r s' z => by
    rcases r with e | (v | _ | _ | _) <;> exact z))

/-- a method call with a starred argument -/
theorem StarCall_ {o : Expr} {apos pos : Pos} {args : List Expr} {Q : Value → Shared → Prop}
    (h : wpAny M A (eval o env) (fun ov s₁ => wpAny M A (getAttr ov name true) (fun f s₂ => wpAny M A (callWith pos f [] (backTo pos (starEach args env)) []) Q E s₂) E s₁) E s)
    (he : eval (.Call (.Attribute o name apos) args [] pos) env = (do
      let ov ← eval o env
      standAt apos.atName
      let (f, first) ← holding [ov] (do pure (← getAttr ov name true, []))
      callWith pos f first (backTo pos (starEach args env)) []) := by rfl) :
    wpAny M A (eval (.Call (.Attribute o name apos) args [] pos) env) Q E s := by
  rw [he]
  refine wpAny_bind (wpAny_mono h (fun ov s₁ h₁ => wpAny_bind (wpAny_standAt (wpAny_bind (wpAny_holding (wpAny_bind (wpAny_mono h₁ (fun fx s₂ h₂ => ?_) fun _ _ x => x)))))) fun _ _ x => x)
  exact wpAny_pure h₂

/-- a method of one's own, as a value -/
theorem own_bound {expr : Bool} {od : Option Obj} {ox : Obj} {Q : Value → Shared → Prop} (F : Fr g L s.heap m) (X₀ : (hd.heap_39 w.params).In g) (N : News g L s.heap news) (I : PySem.W.InstAt s.heap S ox 232 od)
    (hf : findObj (hd.heap_39 w.params) 232 od name = some (.bind (.builtin "function.__get__") (.ref f))) (ht : typeIn (hd.heap_39 w.params) (.ref f) = some (.type "function"))
    (h : ∀ q h', Fr g L h' m → News g L h' ((q, methodObj (.ref f) (.ref S)) :: news) → (∀ p ∈ news, p.1 < q) → Q (.ref q) { s with heap := h', toks := s.toks + 1 }) :
    wpAny (model PR w) A (getAttr (.ref S) name expr) Q E s :=
  own_bind (X₀.keeps F.keep) I hf (wpAny_call (fn_get (s := { s with toks := s.toks + 1 }) (X₀.keeps F.keep) ht (handed_on rfl (h _ _ (F.push _) (N.push F _) fun p hp => Heap.lt_size (N p hp).1))))

/-- a method of a type, as a value -/
theorem get_type {T : String} {expr : Bool} {v : Value} {Q : Value → Shared → Prop} (F : Fr g L s.heap m) (X₀ : (hd.heap_39 w.params).In g) (ht : typeOf (.type T) = pure (.type "type")) (hs : Manifest.isStub T = false)
    (e : findCls (hd.heap_39 w.params) (.type T) (.type "type") name = some (.val v)) (hh : handedIn v = true) (h : Q v { s with toks := s.toks + 1 }) : wpAny (model PR w) A (getAttr (.type T) name expr) Q E s := by
  have X := X₀.keeps F.keep
  have hstub : opaqueClassAbove (.type T) = pure none := by unfold opaqueClassAbove; dsimp only; rw [hs]; rfl
  have L0 : Looks (model PR w) s.heap (typeOf (.type T)) (.type "type") := Looks.of_pure ht
  have hg : findIn (hd.heap_39 w.params) (.type "type") "__getattribute__" = some (some (.builtin "type.__getattribute__")) := type_tga
  have LO : Looks (model PR w) s.heap (opaqueClassAbove (.type T)) none := Looks.of_pure hstub
  refine cls_open X LO L0 hg (looks_hook X (r := none) (by rfl)) (by show subIn (hd.heap_39 w.params) _ _ = _; rfl) e
    (wpAny_pure (by show wpAny _ _ (handedOut v) _ _ _; rw [handedOut_of hh]; exact wpAny_pure h))

/-- meth(*row) -/
theorem callWith_MS {q : Addr} {self : Value} {pos p : Pos} {first : List Value} {e : Expr} {Q : Value → Shared → Prop} (_X : (hd.heap_39 w.params).In g) (_N : News g L s.heap news) (_q : (q, methodObj (.ref f) self) ∈ news) (hf : fnIn (hd.heap_39 w.params) f = true)
    (h : wpAny M A (eval e env) (fun v s₁ => StarOf M A E v (fun vs s₂ => MethP (hd.heap_39 w.params) q f self s₂.heap ∧ wpAny M A (call (.ref q) (first ++ vs)) Q E s₂) s₁) E s)
    (he : starEach [.Starred e p] env = [(true, eval e env)] := by rfl) :
    wpAny M A (callWith pos (.ref q) first (backTo pos (starEach [.Starred e p] env)) []) Q E s := by
  rw [he]
  exact ks_call rfl (keeps_M hf) (ks_lone h)
/-- builtin(x, *row) -/
theorem callWith_BS {id : String} {pos p : Pos} {first : List Value} {e1 e : Expr} {Q : Value → Shared → Prop}
    (h : wpAny M A (spliced (backTo pos (starEach [e1, .Starred e p] env))) (fun vs s₃ => wpAny M A (call (.builtin id) (first ++ vs)) Q E s₃) E s)
    (he : starEach [e1, .Starred e p] env = (false, eval e1 env) :: starEach [.Starred e p] env := by rfl) (hst : (backTo pos (starEach [.Starred e p] env)).any (·.1) = true := by rfl) :
    wpAny M A (callWith pos (.builtin id) first (backTo pos (starEach [e1, .Starred e p] env)) []) Q E s := by
  rw [he] at h ⊢
  refine ks_call (P := fun _ => True) (by show (false || (backTo pos (starEach [.Starred e p] env)).any (·.1)) = true; rw [hst]; rfl) (fun _ _ => ⟨.machine, .inr (.inl rfl), .now⟩) ?_
  exact evalArgs_plain (wpAny_mono h (fun _ _ q => ⟨trivial, q⟩) fun _ _ q => q)
end
end
local macro_rules | `(tactic| walk_at "eval Call Attribute") => `(tactic| (k_here; (first | (with_reducible show wpAny _ _ (eval (Expr.Call (Expr.Attribute _ _ _) [Expr.Starred _ _] [] _) _) _ _ _) | (with_reducible show wpAny _ _ (eval (Expr.Call (Expr.Attribute _ _ _) [_, Expr.Starred _ _] [] _) _) _ _ _)); refine StarCall_ ?_))
local macro_rules | `(tactic| walk_at "getAttr ref") => `(tactic| (k_here; k_dflt (refine' own_bound ?k1 ?k2 ?k3 ?k4 ?k5 ?k6 ?_; (case k1 => k_asm); (case k2 => k_asm); (case k3 => k_asm); (case k4 => k_inst); (case k5 => exact rfl); (case k6 => k_is); k_whole); intro q' h' F' N' l1; (try k_lt l1); (try k_sweep)))
local macro_rules | `(tactic| walk_at "getAttr type:set") => `(tactic| (k_here; refine' get_type ?F ?X ?m (by decide +kernel) ?e ?h ?_; (case F => k_asm); (case X => k_asm); (case m => exact meta_set); (case e => k_dflt k_is); (case h => k_handed)))
local macro_rules | `(tactic| walk_at "callWith ref") => `(tactic| (k_here; (with_reducible show wpAny _ _ (callWith _ (Value.ref _) _ (backTo _ (starEach [Expr.Starred _ _] _)) []) _ _ _); k_dflt (refine' callWith_MS ?k1 ?k2 ?k3 ?k4 ?_; (case k1 => k_asm); (case k2 => k_asm); (case k3 => k_mem); (case k4 => k_is); k_whole)))
local macro_rules | `(tactic| walk_at "callWith builtin:set.intersection") => `(tactic| (k_here; k_dflt (refine' callWith_BS ?_; k_whole)))
local macro_rules | `(tactic| walk_at "callWith builtin:set.difference") => `(tactic| (k_here; k_dflt (refine' callWith_BS ?_; k_whole)))
local macro_rules | `(tactic| walk_at "callWith builtin:set.intersection_update") => `(tactic| (k_here; k_dflt (refine' callWith_BS ?_; k_whole)))
local macro_rules | `(tactic| walk_at "callWith builtin:set.difference_update") => `(tactic| (k_here; k_dflt (refine' callWith_BS ?_; k_whole)))
local macro_rules | `(tactic| walk_at "getAttr ref") => `(tactic| (k_here; (with_reducible show wpAny _ _ (getAttr (Value.ref _) (PySem.Str.ofString "_list") _) _ _ _); k_dflt (refine' own_list ?k1 ?k2 ?k3 ?k4 ?_; (case k1 => k_in); (case k2 => k_inst); (case k3 => k_slotget); (case k4 => k_handed); k_whole)))
local macro_rules | `(tactic| walk_at "exec Assign cons ListComp") => `(tactic| (k_here; (with_reducible refine plainObj_wpAny_Assign_Attribute ?_ ?_); rotate_left; with_unfolding_all rfl))
/-! C7 -/
section
theorem notIn4 {a b c d e : Addr} (h1 : b ≠ a) (h2 : c ≠ a) (h3 : d ≠ a) (h4 : e ≠ a) : a ∉ [b, c, d, e] := by
  simp only [List.mem_cons, List.not_mem_nil, or_false, not_or]; exact ⟨h1.symm, h2.symm, h3.symm, h4.symm⟩
theorem notIn6 {a b c d e f1 g1 : Addr} (h1 : b ≠ a) (h2 : c ≠ a) (h3 : d ≠ a) (h4 : e ≠ a) (h5 : f1 ≠ a) (h6 : g1 ≠ a) : a ∉ [b, c, d, e, f1, g1] := by
  simp only [List.mem_cons, List.not_mem_nil, or_false, not_or]; exact ⟨h1.symm, h2.symm, h3.symm, h4.symm, h5.symm, h6.symm⟩
section
variable {w : World} {s : Shared} {mg mb : Str → Option Value} {g : Heap} {R : Result → Shared → Prop} {S dx l : Addr} {ms : List Value} {x : Value}

/-- union(list) -/
theorem union1_spec {r : Addr} {vs : List Value} {e1 : Nat} (B : Base w mg mb g) (stg : g.StaysIn s.heap) (I : OSet w s.heap S dx l ms) (gS : g.get? S = none) (gd : g.get? dx = none) (gl : g.get? l = none)
  (orr : s.heap.get? r = some (PySem.W.listOf vs.toArray e1)) (gr : g.get? r = none) (hP : ∀ v ∈ vs, Pv v)
  (hR : ∀ h' tk S' dx' l', Mod [] s.heap h' → s.heap.get? S' = none → s.heap.get? dx' = none → s.heap.get? l' = none → OSet w h' S' dx' l' (addAll ms vs) → R (.ok (.ret (.ref S'))) ⟨h', s.gens, s.drawn, tk, s.os⟩) :
    codeAny (model PR w) A2 (.call (.ref 149) ⟨[.ref S, .ref r], []⟩) R s := by
  obtain ⟨⟨es, ep, t, e, oS, od, ol, f⟩, pv, nd⟩ := I
  have z := sz5 pv nd
  have n1 := neN (neObj oS od set_ne_dict)
  have n2 := neN (neObj oS ol set_ne_list)
  have n3 := neN (neObj od ol dict_ne_list)
  have N : Has g s.heap [(S, setO (.ref 232) (some dx) es ep t #[some (.ref l)]), (dx, dictE), (l, PySem.W.listOf ms.toArray e), (r, PySem.W.listOf vs.toArray e1)] :=
    List.forall_mem_cons.mpr ⟨⟨oS, gS⟩, List.forall_mem_cons.mpr ⟨⟨od, gd⟩, List.forall_mem_cons.mpr ⟨⟨ol, gl⟩, List.forall_mem_cons.mpr ⟨⟨orr, gr⟩, List.forall_mem_nil _⟩⟩⟩⟩
  refine enter_star (items := [.ref r]) B stg N (by k_is) (by k_is) (by decide) rfl (by rw [sizeLine_eq]; simp) (fun t => locs rfl) ?_ rfl rfl rfl (by decide)
  intro g' L h₁ T B' F' N' lT kM sg hid
  have X' := B'.K
  have T' := B'.T
  dsimp only [List.map] at kM hid
  k_lt lT
  obtain ⟨lT1, lT2, lT3, lT4⟩ := lT
  try dsimp only
  k_steps
  rename_i D c1 h1 F1 N1 l1
  obtain ⟨a1, a2, a3, a4, a5⟩ := l1
  refine k_from B' (by assumption) (by assumption) (by k_mem) pv nd rfl (Nat.le_of_ble_eq_true rfl) (Nat.le_of_ble_eq_true rfl) fun es2 ep2 t2 h2 tk2 S2 dx2 f2 F2 N2 b1 b2 b3 => ?_
  k_steps
  rename_i hA qa hB lq h3 F3 N3
  obtain ⟨y1, y2, y3, y4, y5, y6, y7, y8⟩ := lq
  have w1 := neN (show D ≠ S2 from b1 (D, _) (.head _))
  have w2 := neN (show D ≠ dx2 from b2 (D, _) (.head _))
  have w3 := neN (show T ≠ S2 from b1 (T, _) (by k_mem))
  have w4 := neN (show S ≠ S2 from b1 (S, _) (by k_mem))
  have w5 := neN (show dx ≠ S2 from b1 (dx, _) (by k_mem))
  have w6 := neN (show l ≠ S2 from b1 (l, _) (by k_mem))
  have w7 := neN (show r ≠ S2 from b1 (r, _) (by k_mem))
  have w8 := neN (show S ≠ dx2 from b2 (S, _) (by k_mem))
  have w9 := neN (show dx ≠ dx2 from b2 (dx, _) (by k_mem))
  have w10 := neN (show l ≠ dx2 from b2 (l, _) (by k_mem))
  have w11 := neN (show r ≠ dx2 from b2 (r, _) (by k_mem))
  have w12 := neN b3
  refine use_meth (A' := A1) N3 (by k_mem) (update1_spec B' F3.keep (os_at (S := S2) (dx := dx2) (l := D) N3 (by k_mem) (by k_mem) (by k_mem) f2 pv nd) (N3 (S2, _) (by k_mem)).2.2 (N3 (dx2, _) (by k_mem)).2.2 (N3 (D, _) (.tail _ (.tail _ (.tail _ (.head _))))).2.2 (N3 (r, PySem.W.listOf vs.toArray e1) (by k_mem)).1 (N3 (r, PySem.W.listOf vs.toArray e1) (by k_mem)).2.2 hP (Nat.ne_of_lt a5) fun h4 tk4 md4 I4 => ?_) rfl (Nat.le_of_ble_eq_true rfl) rfl rfl (Nat.le_of_ble_eq_true rfl)
  obtain ⟨es4, ep4, t4, e4, F4, N4, f4⟩ := led_os F3 N3 md4 I4 (by k_mem) (fun _ _ _ => by k_upd) (fun _ _ _ _ => by k_upd)
  clear F3 N3
  k_steps
  exact hR _ _ S2 dx2 D (mod_drop (mod_drop (mod_drop (mod_drop (kM _ (Fr.keep F4)) oS (N4 (S, _) (by k_mem)).1) od (N4 (dx, _) (by k_mem)).1) ol (N4 (l, _) (by k_mem)).1) orr (N4 (r, _) (by k_mem)).1) (hid S2 (N4 (S2, _) (by k_mem)).2.2 (notIn4 w4 w5 w6 w7)) (hid dx2 (N4 (dx2, _) (by k_mem)).2.2 (notIn4 w8 w9 w10 w11)) (hid D (N4 (D, PySem.W.listOf (addAll ms vs).toArray _) (by k_mem)).2.2 (notIn4 (Nat.ne_of_lt a2) (Nat.ne_of_lt a3) (Nat.ne_of_lt a4) (Nat.ne_of_lt a5))) (os_at N4 (by k_mem) (by k_mem) (by k_mem) f4 (pv_addAll pv hP) (nd_addAll nd))
/-- union(other ordered set) -/
theorem union1o_spec {O dxo lo : Addr} {vs : List Value} (B : Base w mg mb g) (stg : g.StaysIn s.heap) (I : OSet w s.heap S dx l ms) (gS : g.get? S = none) (gd : g.get? dx = none) (gl : g.get? l = none)
  (I2 : OSet w s.heap O dxo lo vs) (gO : g.get? O = none) (gdo : g.get? dxo = none) (glo : g.get? lo = none)
  (hR : ∀ h' tk S' dx' l', Mod [] s.heap h' → s.heap.get? S' = none → s.heap.get? dx' = none → s.heap.get? l' = none → OSet w h' S' dx' l' (addAll ms vs) → R (.ok (.ret (.ref S'))) ⟨h', s.gens, s.drawn, tk, s.os⟩) :
    codeAny (model PR w) A2 (.call (.ref 149) ⟨[.ref S, .ref O], []⟩) R s := by
  obtain ⟨⟨es, ep, t, e, oS, od, ol, f⟩, pv, nd⟩ := I
  obtain ⟨⟨eso, epo, to, eo, oO, odo, olo, fo⟩, pvo, ndo⟩ := I2
  have z := sz5 pv nd
  have n1 := neN (neObj oS od set_ne_dict)
  have n2 := neN (neObj oS ol set_ne_list)
  have n3 := neN (neObj od ol dict_ne_list)
  have N : Has g s.heap [(S, setO (.ref 232) (some dx) es ep t #[some (.ref l)]), (dx, dictE), (l, PySem.W.listOf ms.toArray e), (O, setO (.ref 232) (some dxo) eso epo to #[some (.ref lo)]), (dxo, dictE), (lo, PySem.W.listOf vs.toArray eo)] :=
    List.forall_mem_cons.mpr ⟨⟨oS, gS⟩, List.forall_mem_cons.mpr ⟨⟨od, gd⟩, List.forall_mem_cons.mpr ⟨⟨ol, gl⟩, List.forall_mem_cons.mpr ⟨⟨oO, gO⟩, List.forall_mem_cons.mpr ⟨⟨odo, gdo⟩, List.forall_mem_cons.mpr ⟨⟨olo, glo⟩, List.forall_mem_nil _⟩⟩⟩⟩⟩⟩
  refine enter_star (items := [.ref O]) B stg N (by k_is) (by k_is) (by decide) rfl (by rw [sizeLine_eq]; simp) (fun t => locs rfl) ?_ rfl rfl rfl (by decide)
  intro g' L h₁ T B' F' N' lT kM sg hid
  have X' := B'.K
  have T' := B'.T
  dsimp only [List.map] at kM hid
  k_lt lT
  obtain ⟨lT1, lT2, lT3, lT4, lT5, lT6⟩ := lT
  try dsimp only
  k_steps
  rename_i D c1 h1 F1 N1 l1
  obtain ⟨a1, a2, a3, a4, a5, a6, a7⟩ := l1
  refine k_from B' (by assumption) (by assumption) (by k_mem) pv nd rfl (Nat.le_of_ble_eq_true rfl) (Nat.le_of_ble_eq_true rfl) fun es2 ep2 t2 h2 tk2 S2 dx2 f2 F2 N2 b1 b2 b3 => ?_
  k_steps
  rename_i hA qa hB lq h3 F3 N3
  obtain ⟨y1, y2, y3, y4, y5, y6, y7, y8, y9, y10⟩ := lq
  have w1 := neN (show D ≠ S2 from b1 (D, _) (.head _))
  have w2 := neN (show D ≠ dx2 from b2 (D, _) (.head _))
  have w3 := neN (show T ≠ S2 from b1 (T, _) (by k_mem))
  have w4 := neN (show S ≠ S2 from b1 (S, _) (by k_mem))
  have w5 := neN (show dx ≠ S2 from b1 (dx, _) (by k_mem))
  have w6 := neN (show l ≠ S2 from b1 (l, _) (by k_mem))
  have w7 := neN (show O ≠ S2 from b1 (O, _) (by k_mem))
  have w7b := neN (show dxo ≠ S2 from b1 (dxo, _) (by k_mem))
  have w7c := neN (show lo ≠ S2 from b1 (lo, _) (by k_mem))
  have w8 := neN (show S ≠ dx2 from b2 (S, _) (by k_mem))
  have w9 := neN (show dx ≠ dx2 from b2 (dx, _) (by k_mem))
  have w10 := neN (show l ≠ dx2 from b2 (l, _) (by k_mem))
  have w11 := neN (show O ≠ dx2 from b2 (O, _) (by k_mem))
  have w11b := neN (show dxo ≠ dx2 from b2 (dxo, _) (by k_mem))
  have w11c := neN (show lo ≠ dx2 from b2 (lo, _) (by k_mem))
  have w12 := neN b3
  refine use_meth (A' := A1) N3 (by k_mem) (update1o_spec B' F3.keep (os_at (S := S2) (dx := dx2) (l := D) N3 (by k_mem) (by k_mem) (by k_mem) f2 pv nd) (N3 (S2, _) (by k_mem)).2.2 (N3 (dx2, _) (by k_mem)).2.2 (N3 (D, _) (.tail _ (.tail _ (.tail _ (.head _))))).2.2 (os_at (S := O) (dx := dxo) (l := lo) N3 (by k_mem) (by k_mem) (by k_mem) fo pvo ndo) (N3 (O, _) (by k_mem)).2.2 (N3 (dxo, _) (by k_mem)).2.2 (N3 (lo, PySem.W.listOf vs.toArray eo) (by k_mem)).2.2 w7.symm w11b.symm (Nat.ne_of_gt a7) fun h4 tk4 md4 I4 => ?_) rfl (Nat.le_of_ble_eq_true rfl) rfl rfl (Nat.le_of_ble_eq_true rfl)
  obtain ⟨es4, ep4, t4, e4, F4, N4, f4⟩ := led_os F3 N3 md4 I4 (by k_mem) (fun _ _ _ => by k_upd) (fun _ _ _ _ => by k_upd)
  clear F3 N3
  k_steps
  exact hR _ _ S2 dx2 D (mod_drop (mod_drop (mod_drop (mod_drop (mod_drop (mod_drop (kM _ (Fr.keep F4)) oS (N4 (S, _) (by k_mem)).1) od (N4 (dx, _) (by k_mem)).1) ol (N4 (l, _) (by k_mem)).1) oO (N4 (O, _) (by k_mem)).1) odo (N4 (dxo, _) (by k_mem)).1) olo (N4 (lo, _) (by k_mem)).1) (hid S2 (N4 (S2, _) (by k_mem)).2.2 (notIn6 w4 w5 w6 w7 w7b w7c)) (hid dx2 (N4 (dx2, _) (by k_mem)).2.2 (notIn6 w8 w9 w10 w11 w11b w11c)) (hid D (N4 (D, PySem.W.listOf (addAll ms vs).toArray _) (by k_mem)).2.2 (notIn6 (Nat.ne_of_lt a2) (Nat.ne_of_lt a3) (Nat.ne_of_lt a4) (Nat.ne_of_lt a5) (Nat.ne_of_lt a6) (Nat.ne_of_lt a7))) (os_at N4 (by k_mem) (by k_mem) (by k_mem) f4 (pv_addAll pv pvo) (nd_addAll nd))
end

end
/-! Ce -/
section

/-- a function with cells, called with *args -/
theorem enter_cellS {w : World} {A : Around} {s : Shared} {mg mb : Str → Option Value} {g : Heap} {news : List (Addr × Obj)} {R : Result → Shared → Prop} {name qual : Str} {params : Arguments} {body : List Stmt} {scope : Scope} {dV kV doc pm cdv ct oc : Value} {an od : Option Addr} {osl : Array (Option Value)} {f : Addr} {args : Args} {binds : Value → List (Str × Value)} {items : List Value}
    (B : Base w mg mb g) (st : g.StaysIn s.heap) (N : Has g s.heap news)
    (ho : (hd.heap_39 w.params).lookup f = some ⟨oc, od, .func (fnOf name qual params body scope dV kV doc pm an cdv ct), osl⟩) (hcd : codeIn (hd.heap_39 w.params) cdv qual = true) (hroom : A.depth < recursionLimit)
    (hbind : bindArgs (fnOf name qual params body scope dV kV doc pm an cdv ct) args = (newTuple items >>= fun t => pure (binds t))) (hz : items.length ≤ sizeLine)
    (hkind : ∀ t n, ∀ x ∈ binds t, scope.names.lookup x.1 = some .local ∨ (scope.names.lookup x.1 = some .cell ∧ ((cellsFrom n scope.names []).lookup x.1).isSome = true))
    (hnd : ((cellsFrom 0 scope.names []).map (·.1)).Nodup)
    (h : ∀ g' L h₁ T tk cells, Base w mg mb g' → Fr g' L h₁ (bindL (envOfC qual scope L f cdv).kindOf (binds (.ref T)) fun _ => none) → News g' L h₁ (cells ++ (T, tupO items) :: news) → CellsAre (bindC (envOfC qual scope L f cdv).kindOf (binds (.ref T)) fun _ => none) (cellsFrom (L + 1) scope.names []) cells →
      (∀ p ∈ (T, tupO items) :: news, p.1 < L) → (∀ p ∈ news, p.1 < T) → (∀ h', g'.StaysIn h' → Mod (news.map (·.1)) s.heap h') → g.StaysIn g' → (∀ b, g'.get? b = none → b ∉ news.map (·.1) → s.heap.get? b = none) →
      wpAny (model PR w) (A.deeper (envOfC qual scope L f cdv)) (execs body (envOfC qual scope L f cdv))
        (fun fl s' => R (.ok (.ret (match fl with | .ret v => v | _ => .none))) s')
        (fun e s' => wpAny (model PR w) (A.deeper (envOfC qual scope L f cdv)) (leaving (envOfC qual scope L f cdv) e) (fun _ s'' => R (.error e) s'') (fun e' s'' => R (.error e') s'') s')
        { s with heap := h₁, toks := tk })
    (hco : scope.isCoroutine = false) (hgen : scope.isGenerator = false) (hk : scope.kind = .function) : codeAny (model PR w) A (.call (.ref f) args) R s := by
  have X : (hd.heap_39 w.params).In s.heap := B.K.keeps st
  refine codeAny_call_function (fd := fnOf name qual params body scope dV kV doc pm an cdv ct) (body := body) hroom (X _ _ ho) rfl hco hgen rfl (codeRec_of X hcd) ?_
  rw [hbind]
  refine wpAny_bind (wpAny_newTuple (wpAny_pure ?_) hz)
  have ext : ∀ b o, s.heap.get? b = some o → (s.heap.push (tupO items)).get? b = some o := fun b o e => Heap.get?_push_of_some _ e
  have nm : ∀ b o, g.get? b = some o → b ∉ s.heap.objs.size :: news.map (·.1) := fun b o e q => by
    rcases List.mem_cons.mp q with rfl | q
    · exact absurd (get_lt (st _ _ e)) (Nat.lt_irrefl _)
    · obtain ⟨p, hp, rfl⟩ := List.mem_map.mp q
      rw [(N p hp).2] at e; cases e
  refine wpAny_newFunctionEnv_cells hk (hkind _ _) fun env' he s' x => ?_
  subst he
  refine ⟨((B.T.nolimit.keeps st).keeps ext).keeps x.toInCall.keep, codeAny_func ?_⟩
  obtain ⟨h₁, tk, rfl, _⟩ := x.done
  have hk₁ := x.toInCall.keep
  obtain ⟨cells, NC, Y⟩ := Cl.news (h₀ := s.heap.push (tupO items)) (Nat.le_refl _) fun n c hm => ⟨x.cell n c (lookup_of_mem_nodup (cellsFrom_names scope.names 0 _ [] [] rfl ▸ hnd) hm), x.above n c hm⟩
  have sg : g.StaysIn (hideAll (s.heap.push (tupO items)) (s.heap.objs.size :: news.map (·.1))) := fun b o e => hideAll_get _ (ext _ _ (st b o e)) (nm b o e)
  refine h _ (s.heap.push (tupO items)).objs.size h₁ s.heap.objs.size tk cells (B.keeps sg) ⟨x.toInCall.ns, fun b o e => hk₁ b o (of_hideAll _ e), Nat.le_of_eq (hideAll_size _ _)⟩ ?_ Y ?_ (fun p hp => get_lt (N p hp).1) ?_ sg ?_
  · intro p hp
    rcases List.mem_append.mp hp with hp | hp
    · refine ⟨(NC p hp).1, (NC p hp).2.1, ?_⟩
      cases q : (hideAll (s.heap.push (tupO items)) (s.heap.objs.size :: news.map (·.1))).get? p.1 with
      | none => rfl
      | some o => have := of_hideAll _ q; rw [(NC p hp).2.2] at this; cases this
    · rcases List.mem_cons.mp hp with rfl | hp
      · exact ⟨hk₁ _ _ (Heap.get?_push_size _ rfl), neNat (by rw [Heap.size_push]; exact Nat.lt_succ_self _), hideAll_none _ (.head _)⟩
      · exact ⟨hk₁ _ _ (ext _ _ (N p hp).1), neNat (by rw [Heap.size_push]; exact Nat.lt_succ_of_lt (get_lt (N p hp).1)), hideAll_none _ (.tail _ (List.mem_map_of_mem hp))⟩
  · intro p hp
    rw [Heap.size_push]
    rcases List.mem_cons.mp hp with rfl | hp
    · exact Nat.lt_succ_self _
    · exact Nat.lt_succ_of_lt (get_lt (N p hp).1)
  · intro h' k b o e n
    refine k b o (hideAll_get _ (ext _ _ e) fun q => ?_)
    rcases List.mem_cons.mp q with rfl | q
    · exact absurd (get_lt e) (Nat.lt_irrefl _)
    · exact n q
  · intro b e n
    cases q : s.heap.get? b with
    | none => rfl
    | some o =>
      rw [hideAll_get _ (ext _ _ q) fun z => ?_] at e
      · cases e
      · rcases List.mem_cons.mp z with rfl | z
        · exact absurd (get_lt q) (Nat.lt_irrefl _)
        · exact n z

/-- a function with cells -/
theorem enter_cell {w : World} {A : Around} {s : Shared} {mg mb : Str → Option Value} {g : Heap} {news : List (Addr × Obj)} {R : Result → Shared → Prop} {name qual : Str} {params : Arguments} {body : List Stmt} {scope : Scope} {dV kV doc pm cdv ct oc : Value} {an od : Option Addr} {osl : Array (Option Value)} {f : Addr} {args : Args} {binds : List (Str × Value)}
    (B : Base w mg mb g) (st : g.StaysIn s.heap) (N : Has g s.heap news)
    (ho : (hd.heap_39 w.params).lookup f = some ⟨oc, od, .func (fnOf name qual params body scope dV kV doc pm an cdv ct), osl⟩) (hcd : codeIn (hd.heap_39 w.params) cdv qual = true) (hroom : A.depth < recursionLimit)
    (hbind : BindsTo s (fnOf name qual params body scope dV kV doc pm an cdv ct) args binds)
    (hkind : ∀ n, ∀ x ∈ binds, scope.names.lookup x.1 = some .local ∨ (scope.names.lookup x.1 = some .cell ∧ ((cellsFrom n scope.names []).lookup x.1).isSome = true))
    (hnd : ((cellsFrom 0 scope.names []).map (·.1)).Nodup)
    (h : ∀ g' L h₁ tk cells, Base w mg mb g' → Fr g' L h₁ (bindL (envOfC qual scope L f cdv).kindOf binds fun _ => none) → News g' L h₁ (cells ++ news) → CellsAre (bindC (envOfC qual scope L f cdv).kindOf binds fun _ => none) (cellsFrom (L + 1) scope.names []) cells →
      (∀ p ∈ news, p.1 < L) → (∀ h', g'.StaysIn h' → Mod (news.map (·.1)) s.heap h') → g.StaysIn g' → (∀ b, g'.get? b = none → b ∉ news.map (·.1) → s.heap.get? b = none) →
      wpAny (model PR w) (A.deeper (envOfC qual scope L f cdv)) (execs body (envOfC qual scope L f cdv))
        (fun fl s' => R (.ok (.ret (match fl with | .ret v => v | _ => .none))) s')
        (fun e s' => wpAny (model PR w) (A.deeper (envOfC qual scope L f cdv)) (leaving (envOfC qual scope L f cdv) e) (fun _ s'' => R (.error e) s'') (fun e' s'' => R (.error e') s'') s')
        { s with heap := h₁, toks := tk })
    (hco : scope.isCoroutine = false) (hgen : scope.isGenerator = false) (hk : scope.kind = .function) : codeAny (model PR w) A (.call (.ref f) args) R s := by
  have X : (hd.heap_39 w.params).In s.heap := B.K.keeps st
  refine codeAny_call_function (fd := fnOf name qual params body scope dV kV doc pm an cdv ct) (body := body) hroom (X _ _ ho) rfl hco hgen rfl (codeRec_of X hcd) (hbind _ _ _ _ ?_)
  have nm : ∀ b o, g.get? b = some o → b ∉ news.map (·.1) := fun b o e q => by
    obtain ⟨p, hp, rfl⟩ := List.mem_map.mp q
    rw [(N p hp).2] at e; cases e
  refine wpAny_newFunctionEnv_cells hk (hkind _) fun env' he s' x => ?_
  subst he
  refine ⟨(B.T.nolimit.keeps st).keeps x.toInCall.keep, codeAny_func ?_⟩
  obtain ⟨h₁, tk, rfl, _⟩ := x.done
  have hk₁ := x.toInCall.keep
  obtain ⟨cells, NC, Y⟩ := Cl.news (h₀ := s.heap) (Nat.le_refl _) fun n c hm => ⟨x.cell n c (lookup_of_mem_nodup (cellsFrom_names scope.names 0 _ [] [] rfl ▸ hnd) hm), x.above n c hm⟩
  have sg : g.StaysIn (hideAll s.heap (news.map (·.1))) := fun b o e => hideAll_get _ (st b o e) (nm b o e)
  refine h _ s.heap.objs.size h₁ tk cells (B.keeps sg) ⟨x.toInCall.ns, fun b o e => hk₁ b o (of_hideAll _ e), Nat.le_of_eq (hideAll_size _ _)⟩ ?_ Y (fun p hp => get_lt (N p hp).1) ?_ sg ?_
  · intro p hp
    rcases List.mem_append.mp hp with hp | hp
    · refine ⟨(NC p hp).1, (NC p hp).2.1, ?_⟩
      cases q : (hideAll s.heap (news.map (·.1))).get? p.1 with
      | none => rfl
      | some o => have := of_hideAll _ q; rw [(NC p hp).2.2] at this; cases this
    · exact ⟨hk₁ _ _ (N p hp).1, Nat.ne_of_lt (Heap.lt_size (N p hp).1), hideAll_none _ (List.mem_map_of_mem hp)⟩
  · exact fun h' k b o e n => k b o (hideAll_get _ e n)
  · intro b e n
    cases q : s.heap.get? b with
    | none => rfl
    | some o => rw [hideAll_get _ q n] at e; cases e

end
/-! F1 -/
section

theorem pv_filter {ms : List Value} {p : Value → Bool} (h : ∀ v ∈ ms, Pv v) : ∀ v ∈ ms.filter p, Pv v := fun v hv => h v (List.mem_filter.mp hv).1
theorem nd_filter {ms : List Value} {p : Value → Bool} (h : (ms.map cl).Nodup) : ((ms.filter p).map cl).Nodup := h.sublist (List.filter_sublist.map cl)
theorem paired_eq : ∀ {a b : List Value}, Paired (fun v y => y = v) a b → b = a
  | _, _, .nil => rfl
  | _, _, .cons h t => by rw [h, paired_eq t]

section
variable {w : World} {A : Around} {E : Value → Shared → Prop} {s : Shared} {env : Env} {g : Heap} {L l : Addr} {m : Str → Option Value} {news : List (Addr × Obj)} {vs : List Value} {e : Nat}

/-- what a filter comprehension asks behind its iter -/
def CompAt (w : World) (A : Around) (env : Env) (scope : Scope) (cl : List (Str × Addr)) (x : Str) (ifs : List Expr) (elt : Expr) (p : Value → Bool) (Q : Value → Shared → Prop) (it : Value) (s₂ : Shared) : Prop :=
  ∃ I fp wr n P St, it = .ref I ∧ Walks PR w A I fp wr n P St ∧ n ≤ sizeLine ∧ St 0 s₂.heap ∧ (∀ b ∈ fp, b < s₂.heap.objs.size) ∧
      QuietOnC PR w A env scope cl x ifs elt wr P p (fun v y => y = v) s₂ ∧
      (∀ D h' tk ys (vs : List Value), s₂.heap.get? D = none → h'.IsList D ys → h'.PlainList D ys → vs.length = n → (∀ j v, vs[j]? = some v → P j v) → Paired (fun v y => y = v) (vs.filter p) ys.toList →
        (∀ b o, b ∉ wr → s₂.heap.get? b = some o → h'.get? b = some o) → Q (.ref D) { s₂ with heap := h', toks := tk })

theorem comp_halt {elt iter : Expr} {x : Str} {px : Pos} {ifs : List Expr} {scope : Scope} {cl : List (Str × Addr)} {pos : Pos} {Q : Value → Shared → Prop} (p : Value → Bool)
    (hclos : closureFor scope env = pure cl) (hcell : ∀ y ∈ scope.names, y.2 ≠ .cell) (hkind : scope.kind = .function)
    (hnames : ∀ y ∈ scope.names, y.2 = .local → scope.names.lookup y.1 = some .local) (hx : scope.names.lookup x = some .local) (hs : ∀ x, foldedSetIterable iter env x = pure x)
    (h : wpAny (model PR w) A (eval iter env) (fun xv s₁ => Halt (wpAny (model PR w) A (pyIter xv) (CompAt w A env scope cl x ifs elt p Q) E s₁)) E s) :
    wpAny (model PR w) A (eval (.ListComp elt [⟨.Name x px, iter, ifs, 0⟩] scope pos) env) Q E s :=
  wpAny_ListComp_free p (fun v y => y = v) hclos hcell hkind hnames hx h hs

/-- the filter over what a list iterator at I still gives; the ledger stays -/
theorem comp_walk {elt : Expr} {x : Str} {ifs : List Expr} {scope : Scope} {cl : List (Str × Addr)} {Q : Value → Shared → Prop} {I : Addr} (p : Value → Bool) (hh : A.handled = none) (F : Fr g L s.heap m) (N : News g L s.heap news) (hn : ∀ q ∈ news, q.1 ≠ I) (hI : s.heap.get? I = some (liO l 0)) (hIg : g.get? I = none) (hIL : I ≠ L) (hl : (l, PySem.W.listOf vs.toArray e) ∈ news) (hz : vs.length ≤ 1000)
    (ht : ∀ C v (s₃ : Shared) m₃ E', v ∈ vs → s₃.heap.Ns C m₃ → m₃ x = some v → Fr g L s₃.heap m → News g L s₃.heap news →
      wpAny (model PR w) A (forIn ifs true fun c r => if r = true then do let ok ← isTrue c (compEnvC scope cl C env) (eval c (compEnvC scope cl C env)); pure (ForInStep.yield ok) else pure (ForInStep.yield r)) (fun ok s₄ => ok = p v ∧ Keeps s₃ s₄) E' s₃)
    (he : ∀ C v (s₃ : Shared) m₃ E', v ∈ vs → s₃.heap.Ns C m₃ → m₃ x = some v → wpAny (model PR w) A (eval elt (compEnvC scope cl C env)) (fun y s₄ => y = v ∧ Keeps s₃ s₄) E' s₃)
    (hQ : ∀ D h' tk e', Fr g L h' m → News g L h' ((D, PySem.W.listOf (vs.filter p).toArray e') :: news) → (∀ q ∈ news, q.1 ≠ D) → Q (.ref D) { s with heap := h', toks := tk }) :
    CompAt w A env scope cl x ifs elt p Q (.ref I) s := by
  have hl' := (N _ hl).1
  have ne : l ≠ I := hn _ hl
  have keepF : ∀ {h' : Heap}, (∀ b o, b ∉ [I] → s.heap.get? b = some o → h'.get? b = some o) → Fr g L h' m := fun k => fr_mod F (fun b o e n => k b o n e) (by simpa using fun q => hIL q.symm) (by simpa using hIg)
  have keepN : ∀ {h' : Heap}, (∀ b o, b ∉ [I] → s.heap.get? b = some o → h'.get? b = some o) → News g L h' news := fun k q hq => ⟨k _ _ (by simpa using hn q hq) (N q hq).1, (N q hq).2⟩
  refine ⟨I, [I, l], [I], vs.toArray.size, _, _, rfl, Walks.list (prog := PR) (w := w) hh I l ne vs.toArray, by rw [List.size_toArray, sizeLine_eq]; omega, ⟨⟨_, hI, rfl, rfl⟩, listAt hl'⟩, ?_, ⟨?_, ?_⟩, ?_⟩
  · intro b hb
    simp only [List.mem_cons, List.not_mem_nil, or_false] at hb
    rcases hb with rfl | rfl
    · exact Heap.lt_size hI
    · exact Heap.lt_size hl'
  · intro C i v s₃ m₃ E' _ hP hn' hm hk _
    have hv : v ∈ vs := List.mem_of_getElem? (by simpa using hP)
    exact ht C v s₃ m₃ E' hv hn' hm (keepF hk) (keepN hk)
  · intro C i v s₃ m₃ E' _ hP _ hn' hm hk _
    exact he C v s₃ m₃ E' (List.mem_of_getElem? (by simpa using hP)) hn' hm
  · intro D h' tk ys us hD _ hpl hlen hP hF hk
    have hus : us = vs := by
      apply List.ext_getElem?
      intro j
      by_cases q : j < us.length
      · have hj : us[j]? = some us[j] := List.getElem?_eq_getElem q
        rw [hj]; have := hP j _ hj; simpa using this.symm
      · rw [List.getElem?_eq_none (by omega), List.getElem?_eq_none (by rw [List.size_toArray] at hlen; omega)]
    subst hus
    have hys : ys = (us.filter p).toArray := by rw [← paired_eq hF]
    subst hys
    obtain ⟨e', hD'⟩ := hpl
    refine hQ D h' tk e' (keepF hk) (fun q hq => ?_) (fun q hq => fresh_ne N (a := q.1) (o := q.2) hq hD)
    rcases List.mem_cons.mp hq with rfl | hq
    · refine ⟨hD', fun z => ?_, none_of F.keep hD⟩
      obtain ⟨oL, _, _, hL, _⟩ := F.ns
      dsimp only at z; rw [z, hL] at hD; cases hD
    · exact keepN hk q hq

/-- a test «x in y» or «x not in y», y a cell that holds a set of the ledger -/
theorem test_in {x y : Str} {px py pc : Pos} {cl : List (Str × Addr)} {scope : Scope} {C c r : Addr} {oc : Obj} {cc : Value} {dd : Option Addr} {es : Array (Int × Value)} {ep : Nat} {t : SetTable} {sl : Array (Option Value)} {P : Value → Prop} {v : Value} {m₃ : Str → Option Value} {E' : Value → Shared → Prop}
    (hk : (compEnvC scope cl C env).scope.kind = .function) (hx : (compEnvC scope cl C env).kindOf x = some .local) (hy : (compEnvC scope cl C env).kindOf y = some .cell) (hc : cl.lookup y = some c) (dx : (x == ("__debug__" : Str)) = false) (dy : (y == ("__debug__" : Str)) = false)
    (hn : s.heap.Ns C m₃) (hm : m₃ x = some v) (F : Fr g L s.heap m) (X : (hd.heap_39 w.params).In g) (N : News g L s.heap news) (ho : (c, oc) ∈ news) (hd' : oc.data = .cell (some (.ref r))) (hs : (r, setO cc dd es ep t sl) ∈ news) (hcc : cc = .type "set" ∨ cc = .ref 232) (f : SFact w es t P) (hv : Pv v) (hu : A.units + 5 < cLine)
    (p : Bool) (hp : p = true ↔ P v) :
    wpAny (model PR w) A (forIn [Expr.Compare (.Name x px) [.In] [.Name y py] pc] true fun c r => if r = true then do let ok ← isTrue c (compEnvC scope cl C env) (eval c (compEnvC scope cl C env)); pure (ForInStep.yield ok) else pure (ForInStep.yield r)) (fun ok s₄ => ok = p ∧ Keeps s s₄) E' s := by
  refine wpAny_tests_one (wpAny_isTrue_Compare1 (wpAny_Name (wpAny_loadName_local hk hx hn hm (wpAny_Name (wpAny_loadName_cell hk hy hc ⟨oc, (N _ ho).1, hd'⟩ ?_) dy)) dx))
  refine k_in_set F X N hs hcc f hv hu fun b tk hb => ?_
  refine wpAny_truthy_bool ⟨?_, s.heap, tk, rfl, fun _ _ e => e⟩
  cases b <;> cases p <;> simp_all
theorem test_notin {x y : Str} {px py pc : Pos} {cl : List (Str × Addr)} {scope : Scope} {C c r : Addr} {oc : Obj} {cc : Value} {dd : Option Addr} {es : Array (Int × Value)} {ep : Nat} {t : SetTable} {sl : Array (Option Value)} {P : Value → Prop} {v : Value} {m₃ : Str → Option Value} {E' : Value → Shared → Prop}
    (hk : (compEnvC scope cl C env).scope.kind = .function) (hx : (compEnvC scope cl C env).kindOf x = some .local) (hy : (compEnvC scope cl C env).kindOf y = some .cell) (hc : cl.lookup y = some c) (dx : (x == ("__debug__" : Str)) = false) (dy : (y == ("__debug__" : Str)) = false)
    (hn : s.heap.Ns C m₃) (hm : m₃ x = some v) (F : Fr g L s.heap m) (X : (hd.heap_39 w.params).In g) (N : News g L s.heap news) (ho : (c, oc) ∈ news) (hd' : oc.data = .cell (some (.ref r))) (hs : (r, setO cc dd es ep t sl) ∈ news) (hcc : cc = .type "set" ∨ cc = .ref 232) (f : SFact w es t P) (hv : Pv v) (hu : A.units + 5 < cLine)
    (p : Bool) (hp : p = true ↔ ¬ P v) :
    wpAny (model PR w) A (forIn [Expr.Compare (.Name x px) [.NotIn] [.Name y py] pc] true fun c r => if r = true then do let ok ← isTrue c (compEnvC scope cl C env) (eval c (compEnvC scope cl C env)); pure (ForInStep.yield ok) else pure (ForInStep.yield r)) (fun ok s₄ => ok = p ∧ Keeps s s₄) E' s := by
  refine wpAny_tests_one (wpAny_isTrue_Compare1 (wpAny_Name (wpAny_loadName_local hk hx hn hm (wpAny_Name (wpAny_loadName_cell hk hy hc ⟨oc, (N _ ho).1, hd'⟩ ?_) dy)) dx))
  refine k_notin_set F X N hs hcc f hv hu fun b tk hb => ?_
  refine wpAny_truthy_bool ⟨?_, s.heap, tk, rfl, fun _ _ e => e⟩
  cases b <;> cases p <;> simp_all
theorem elt_name {x : Str} {px : Pos} {cl : List (Str × Addr)} {scope : Scope} {C : Addr} {v : Value} {m₃ : Str → Option Value} {E' : Value → Shared → Prop} (hk : (compEnvC scope cl C env).scope.kind = .function) (hx : (compEnvC scope cl C env).kindOf x = some .local) (dx : (x == ("__debug__" : Str)) = false)
    (hn : s.heap.Ns C m₃) (hm : m₃ x = some v) : wpAny (model PR w) A (eval (.Name x px) (compEnvC scope cl C env)) (fun y s₄ => y = v ∧ Keeps s s₄) E' s :=
  wpAny_Name (wpAny_loadName_local hk hx hn hm ⟨rfl, s.heap, s.toks, rfl, fun _ _ e => e⟩) dx
end
end
local macro_rules | `(tactic| walk_at "eval ListComp") => `(tactic| (k_here; refine halt ?_))
/-! C8 -/
section
section
variable {w : World} {s : Shared} {mg mb : Str → Option Value} {g : Heap} {R : Result → Shared → Prop} {S dx l : Addr} {ms : List Value} {x : Value} {A : Around} {E : Value → Shared → Prop} {Q : Value → Shared → Prop} {L : Addr} {m : Str → Option Value} {news : List (Addr × Obj)}
variable {c c' : Value} {d d' : Option Addr} {es es' : Array (Int × Value)} {ep ep' : Nat} {t t' : SetTable} {sl sl' : Array (Option Value)} {P P' : Value → Prop} {O : Addr} {e : Nat}

theorem k_inter_set (F : Fr g L s.heap m) (X : (hd.heap_39 w.params).In g) (N : News g L s.heap news) (hm : (S, setO c d es ep t sl) ∈ news) (hc : c = .type "set" ∨ c = .ref 232) (f : SFact w es t P) (hm' : (O, setO c' d' es' ep' t' sl') ∈ news) (hc' : c' = .type "set" ∨ c' = .ref 232) (f' : SFact w es' t' P') (ne : O ≠ S) (hu : A.units + 4 < cLine)
    (h : ∀ r er epr tr h' dr, SFact w er tr (fun y => P y ∧ P' y) → Fr g L h' m → News g L h' ((r, setO (.type "set") none er epr tr #[]) :: news) → (∀ p ∈ news, p.1 ≠ r) → Q (.ref r) { s with heap := h', drawn := dr }) :
    wpAny (model PR w) A (call (.builtin "set.intersection") [.ref S, .ref O]) Q E s :=
  call_inter_set (setAt_news F X N hm hc f) (setAt_news F X N hm' hc' f') ne hu fun r er h' dr n0 hn md hI hy => by
    obtain ⟨epr, tr, L'⟩ := hI
    obtain ⟨F', N'⟩ := led_new F N md n0 L'.like.get
    exact h r er epr tr h' dr ⟨L'.ok, fun y => (hy y).trans (and_congr (f.mem y) (f'.mem y))⟩ F' N' fun p hp => fresh_ne N (a := p.1) (o := p.2) hp n0
theorem k_inter_list {r0 : Addr} {vs : List Value} (F : Fr g L s.heap m) (X : (hd.heap_39 w.params).In g) (N : News g L s.heap news) (hm : (S, setO c d es ep t sl) ∈ news) (hc : c = .type "set" ∨ c = .ref 232) (f : SFact w es t P) (hl : (r0, PySem.W.listOf vs.toArray e) ∈ news) (hP : ∀ v ∈ vs, Pv v) (hh : A.handled = none) (ne : r0 ≠ S) (hu : A.units + 8 < cLine)
    (h : ∀ r er epr tr h' dr tk, SFact w er tr (fun y => P y ∧ inL vs y) → Fr g L h' m → News g L h' ((r, setO (.type "set") none er epr tr #[]) :: news) → (∀ p ∈ news, p.1 ≠ r) → Q (.ref r) { s with heap := h', drawn := dr, toks := tk }) :
    wpAny (model PR w) A (call (.builtin "set.intersection") [.ref S, .ref r0]) Q E s :=
  call_inter_list (setAt_news F X N hm hc f) (listAt (N _ hl).1) (fun v hv => hP v (by simpa using hv)) hh hu ne fun r er h' dr tk n0 hn md hI hy => by
    obtain ⟨epr, tr, L'⟩ := hI
    obtain ⟨F', N'⟩ := led_new F N md n0 L'.like.get
    exact h r er epr tr h' dr tk ⟨L'.ok, fun y => (hy y).trans (and_congr (f.mem y) (inFrom_inL vs y))⟩ F' N' fun p hp => fresh_ne N (a := p.1) (o := p.2) hp n0
theorem k_diff_set (F : Fr g L s.heap m) (X : (hd.heap_39 w.params).In g) (N : News g L s.heap news) (hm : (S, setO c d es ep t sl) ∈ news) (hc : c = .type "set" ∨ c = .ref 232) (f : SFact w es t P) (hm' : (O, setO c' d' es' ep' t' sl') ∈ news) (hc' : c' = .type "set" ∨ c' = .ref 232) (f' : SFact w es' t' P') (hu : A.units + 4 < cLine)
    (h : ∀ r er epr tr h' dr, SFact w er tr (fun y => P y ∧ ¬ P' y) → Fr g L h' m → News g L h' ((r, setO (.type "set") none er epr tr #[]) :: news) → (∀ p ∈ news, p.1 ≠ r) → Q (.ref r) { s with heap := h', drawn := dr }) :
    wpAny (model PR w) A (call (.builtin "set.difference") [.ref S, .ref O]) Q E s :=
  call_diff_set (setAt_news F X N hm hc f) (setAt_news F X N hm' hc' f') hu fun r er h' dr n0 hn md hI hy => by
    obtain ⟨epr, tr, L'⟩ := hI
    obtain ⟨F', N'⟩ := led_new F N md n0 L'.like.get
    exact h r er epr tr h' dr ⟨L'.ok, fun y => (hy y).trans (and_congr (f.mem y) (not_congr (f'.mem y)))⟩ F' N' fun p hp => fresh_ne N (a := p.1) (o := p.2) hp n0
theorem k_interU_set {news' : Array (Int × Value) → Nat → SetTable → List (Addr × Obj)} (F : Fr g L s.heap m) (X : (hd.heap_39 w.params).In g) (N : News g L s.heap news) (hm : (S, setO c d es ep t sl) ∈ news) (hc : c = .type "set" ∨ c = .ref 232) (f : SFact w es t P) (hm' : (O, setO c' d' es' ep' t' sl') ∈ news) (hc' : c' = .type "set" ∨ c' = .ref 232) (f' : SFact w es' t' P') (ne : O ≠ S) (hu : A.units + 4 < cLine)
    (U : ∀ es' ep' t', Upd S (setO c d es ep t sl) (setO c d es' ep' t' sl) news (news' es' ep' t'))
    (h : ∀ er epr tr h' dr, SFact w er tr (fun y => P y ∧ P' y) → Fr g L h' m → News g L h' (news' er epr tr) → Q .none { s with heap := h', drawn := dr }) :
    wpAny (model PR w) A (call (.builtin "set.intersection_update") [.ref S, .ref O]) Q E s :=
  call_interU_set (setAt_news F X N hm hc f) (setAt_news F X N hm' hc' f') ne hu fun er h' dr md hI hy => by
    obtain ⟨epr, tr, hg, ok⟩ := setIs_get hI
    obtain ⟨F', N'⟩ := led F N md (U er epr tr) hg
    exact h er epr tr h' dr ⟨ok, fun y => (hy y).trans (and_congr (f.mem y) (f'.mem y))⟩ F' N'
theorem k_diffU_set {news' : Array (Int × Value) → Nat → SetTable → List (Addr × Obj)} (F : Fr g L s.heap m) (X : (hd.heap_39 w.params).In g) (N : News g L s.heap news) (hm : (S, setO c d es ep t sl) ∈ news) (hc : c = .type "set" ∨ c = .ref 232) (f : SFact w es t P) (hm' : (O, setO c' d' es' ep' t' sl') ∈ news) (hc' : c' = .type "set" ∨ c' = .ref 232) (f' : SFact w es' t' P') (ne : O ≠ S) (hu : A.units + 4 < cLine)
    (U : ∀ es' ep' t', Upd S (setO c d es ep t sl) (setO c d es' ep' t' sl) news (news' es' ep' t'))
    (h : ∀ er epr tr h' dr, SFact w er tr (fun y => P y ∧ ¬ P' y) → Fr g L h' m → News g L h' (news' er epr tr) → Q .none { s with heap := h', drawn := dr }) :
    wpAny (model PR w) A (call (.builtin "set.difference_update") [.ref S, .ref O]) Q E s :=
  call_diffU_set (setAt_news F X N hm hc f) (setAt_news F X N hm' hc' f') ne hu fun er h' dr md hI hy => by
    obtain ⟨epr, tr, hg, ok⟩ := setIs_get hI
    obtain ⟨F', N'⟩ := led F N md (U er epr tr) hg
    exact h er epr tr h' dr ⟨ok, fun y => (hy y).trans (and_congr (f.mem y) (not_congr (f'.mem y)))⟩ F' N'
theorem k_symmU_set {news' : Array (Int × Value) → Nat → SetTable → List (Addr × Obj)} (F : Fr g L s.heap m) (X : (hd.heap_39 w.params).In g) (N : News g L s.heap news) (hm : (S, setO c d es ep t sl) ∈ news) (hc : c = .type "set" ∨ c = .ref 232) (f : SFact w es t P) (hm' : (O, setO c' d' es' ep' t' sl') ∈ news) (hc' : c' = .type "set" ∨ c' = .ref 232) (f' : SFact w es' t' P') (ne : O ≠ S) (hu : A.units + 4 < cLine)
    (U : ∀ es' ep' t', Upd S (setO c d es ep t sl) (setO c d es' ep' t' sl) news (news' es' ep' t'))
    (h : ∀ er epr tr h' dr, SFact w er tr (fun y => P y ∧ ¬ P' y ∨ ¬ P y ∧ P' y) → Fr g L h' m → News g L h' (news' er epr tr) → Q .none { s with heap := h', drawn := dr }) :
    wpAny (model PR w) A (call (.builtin "set.symmetric_difference_update") [.ref S, .ref O]) Q E s :=
  call_symmU_set (setAt_news F X N hm hc f) (setAt_news F X N hm' hc' f') ne hu fun er h' dr md hI hy => by
    obtain ⟨epr, tr, hg, ok⟩ := setIs_get hI
    obtain ⟨F', N'⟩ := led F N md (U er epr tr) hg
    exact h er epr tr h' dr ⟨ok, fun y => by rw [hy y, f.mem y, f'.mem y]⟩ F' N'
theorem k_symmU_list {r0 : Addr} {vs : List Value} {news' : Array (Int × Value) → Nat → SetTable → List (Addr × Obj)} (F : Fr g L s.heap m) (X : (hd.heap_39 w.params).In g) (N : News g L s.heap news) (hm : (S, setO c d es ep t sl) ∈ news) (hc : c = .type "set" ∨ c = .ref 232) (f : SFact w es t P) (hl : (r0, PySem.W.listOf vs.toArray e) ∈ news) (hP : ∀ v ∈ vs, Pv v) (hh : A.handled = none) (ne : r0 ≠ S) (hu : A.units + 8 < cLine)
    (U : ∀ es' ep' t', Upd S (setO c d es ep t sl) (setO c d es' ep' t' sl) news (news' es' ep' t'))
    (h : ∀ er epr tr h' dr tk, SFact w er tr (fun y => P y ∧ ¬ inL vs y ∨ ¬ P y ∧ inL vs y) → Fr g L h' m → News g L h' (news' er epr tr) → Q .none { s with heap := h', drawn := dr, toks := tk }) :
    wpAny (model PR w) A (call (.builtin "set.symmetric_difference_update") [.ref S, .ref r0]) Q E s :=
  call_symmU_list (setAt_news F X N hm hc f) (listAt (N _ hl).1) (fun v hv => hP v (by simpa using hv)) hh hu ne fun er h' dr tk md hI hy => by
    obtain ⟨epr, tr, hg, ok⟩ := setIs_get hI
    obtain ⟨F', N'⟩ := led F N md (U er epr tr) hg
    exact h er epr tr h' dr tk ⟨ok, fun y => by rw [hy y, f.mem y, inFrom_inL vs y]⟩ F' N'
end
section
variable {w : World} {s : Shared} {mg mb : Str → Option Value} {g : Heap} {R : Result → Shared → Prop} {S dx l : Addr} {ms : List Value} {x : Value}

/-- intersection(other ordered set) -/
theorem inter1o_spec {O dxo lo : Addr} {vs : List Value} (B : Base w mg mb g) (stg : g.StaysIn s.heap) (I : OSet w s.heap S dx l ms) (gS : g.get? S = none) (gd : g.get? dx = none) (gl : g.get? l = none)
  (I2 : OSet w s.heap O dxo lo vs) (gO : g.get? O = none) (gdo : g.get? dxo = none) (glo : g.get? lo = none) (nO : O ≠ S)
  (hR : ∀ h' dr tk S' dx' l', Mod [] s.heap h' → s.heap.get? S' = none → s.heap.get? dx' = none → s.heap.get? l' = none → OSet w h' S' dx' l' (ms.filter fun v => decide (inL vs v)) → R (.ok (.ret (.ref S'))) ⟨h', s.gens, dr, tk, s.os⟩) :
    codeAny (model PR w) A2 (.call (.ref 161) ⟨[.ref S, .ref O], []⟩) R s := by
  obtain ⟨⟨es, ep, t, e, oS, od, ol, f⟩, pv, nd⟩ := I
  obtain ⟨⟨eso, epo, to, eo, oO, odo, olo, fo⟩, pvo, ndo⟩ := I2
  have z := sz5 pv nd
  have n1 := neN (neObj oS od set_ne_dict)
  have n2 := neN (neObj oS ol set_ne_list)
  have n3 := neN (neObj od ol dict_ne_list)
  have N : Has g s.heap [(S, setO (.ref 232) (some dx) es ep t #[some (.ref l)]), (dx, dictE), (l, PySem.W.listOf ms.toArray e), (O, setO (.ref 232) (some dxo) eso epo to #[some (.ref lo)])] :=
    List.forall_mem_cons.mpr ⟨⟨oS, gS⟩, List.forall_mem_cons.mpr ⟨⟨od, gd⟩, List.forall_mem_cons.mpr ⟨⟨ol, gl⟩, List.forall_mem_cons.mpr ⟨⟨oO, gO⟩, List.forall_mem_nil _⟩⟩⟩⟩
  refine enter_cellS (items := [.ref O]) B stg N (by k_is) (by k_is) (by decide) rfl (by rw [sizeLine_eq]; simp) (fun t => kindsX rfl) (by decide) ?_ rfl rfl rfl
  intro g' L h₁ T tk0 cells B' F' N' Y' lL lT kM sg hid
  obtain ⟨oc, rfl, hoc⟩ : ∃ oc : Obj, cells = [(L + 1, oc)] ∧ oc.data = .cell none := by
    cases Y' with
    | cons h r => cases r; exact ⟨_, rfl, h⟩
  have X' := B'.K
  have T' := B'.T
  dsimp only [List.map, List.cons_append, List.nil_append] at kM hid N'
  k_lt lT
  k_lt lL
  obtain ⟨lT1, lT2, lT3, lT4⟩ := lT
  obtain ⟨lL0, lL1, lL2, lL3, lL4⟩ := lL
  try dsimp only
  k_steps
  refine k_inter_set (by assumption) X' (by assumption) (S := S) (by k_mem) (.inr rfl) f (O := O) (by k_mem) (.inr rfl) fo nO (by k_units) fun r er epr tr h2 dr2 f2 F2 N2 b2 => ?_
  have c0 := Nat.lt_succ_of_lt lL0
  have c1 := Nat.lt_succ_of_lt lL1
  have c2 := Nat.lt_succ_of_lt lL2
  have c3 := Nat.lt_succ_of_lt lL3
  have c4 := Nat.lt_succ_of_lt lL4
  have q0 := neN (show L + 1 ≠ r from b2 (L + 1, oc) (by k_mem))
  have q1 := neN (show T ≠ r from b2 (T, _) (by k_mem))
  have q2 := neN (show S ≠ r from b2 (S, _) (by k_mem))
  have q3 := neN (show dx ≠ r from b2 (dx, _) (by k_mem))
  have q4 := neN (show l ≠ r from b2 (l, _) (by k_mem))
  have q5 := neN (show O ≠ r from b2 (O, _) (by k_mem))
  k_steps
  refine halt_out (comp_halt (fun v => decide (inL vs v)) (by exact rfl) (by decide) rfl (by decide) rfl (fun _ => rfl) ?_)
  k_steps
  rename_i h3 oc2 F3 N3 d3
  refine halt_out (k_pyIter_list F3 N3 (l := l) (ms := ms) (e := e) (by k_mem) fun h4 I F4 N4 nI => ?_)
  have i0 := N4 (I, liO l 0) (.head _)
  refine comp_walk (l := l) (vs := ms) (e := e) (g := g') (L := L) (I := I) (news := [(r, setO (.type "set") none er epr tr #[]), (L + 1, oc2), (T, tupO [.ref O]), (S, setO (.ref 232) (some dx) es ep t #[some (.ref l)]), (dx, dictE), (l, PySem.W.listOf ms.toArray e), (O, setO (.ref 232) (some dxo) eso epo to #[some (.ref lo)])]) (fun v => decide (inL vs v)) rfl F4 (fun p hp => N4 p (.tail _ hp)) nI i0.1 i0.2.2 i0.2.1 (by k_mem) (Nat.le_trans (len5 pv nd) (by decide)) ?_ ?_ ?_
  · intro C v s₃ m₃ E' hv hn hm F5 N5
    exact test_in (c := L + 1) (oc := oc2) (r := r) rfl rfl rfl rfl (by decide) (by decide) hn hm F5 X' N5 (by k_mem) d3 (by k_mem) (.inl rfl) f2 (pv v hv) (by k_units) _ (decide_eq_true_iff.trans ⟨fun q => ⟨⟨v, hv, rfl⟩, q⟩, And.right⟩)
  · exact fun C v s₃ m₃ E' hv hn hm => elt_name rfl rfl (by decide) hn hm
  intro D h5 tk5 e5 F5 N5 nD
  clear F3 N3 F4 N4
  have z1 := neN (show L + 1 ≠ D from nD (L + 1, oc2) (by k_mem))
  k_steps
  have pvf := pv_filter (p := fun v => decide (inL vs v)) pv
  have ndf := nd_filter (p := fun v => decide (inL vs v)) nd
  refine k_from B' (by assumption) (by assumption) (by k_mem) pvf ndf rfl (Nat.le_of_ble_eq_true rfl) (Nat.le_of_ble_eq_true rfl) fun es6 ep6 t6 h6 tk6 S6 dx6 f6 F6 N6 b61 b62 b63 => ?_
  k_steps
  exact hR _ _ _ S6 dx6 D (mod_drop (mod_drop (mod_drop (mod_drop (kM _ (Fr.keep F6)) oS (N6 (S, _) (by k_mem)).1) od (N6 (dx, _) (by k_mem)).1) ol (N6 (l, _) (by k_mem)).1) oO (N6 (O, _) (by k_mem)).1)
    (hid S6 (N6 (S6, _) (by k_mem)).2.2 (notIn4 (b61 (S, _) (by k_mem)) (b61 (dx, _) (by k_mem)) (b61 (l, _) (by k_mem)) (b61 (O, _) (by k_mem))))
    (hid dx6 (N6 (dx6, _) (by k_mem)).2.2 (notIn4 (b62 (S, _) (by k_mem)) (b62 (dx, _) (by k_mem)) (b62 (l, _) (by k_mem)) (b62 (O, _) (by k_mem))))
    (hid D (N6 (D, PySem.W.listOf _ _) (.tail _ (.tail _ (.head _)))).2.2 (notIn4 (nD (S, _) (by k_mem)) (nD (dx, _) (by k_mem)) (nD (l, _) (by k_mem)) (nD (O, _) (by k_mem))))
    (os_at N6 (by k_mem) (by k_mem) (by k_mem) f6 pvf ndf)
/-- difference(other ordered set) -/
theorem diff1o_spec {O dxo lo : Addr} {vs : List Value} (B : Base w mg mb g) (stg : g.StaysIn s.heap) (I : OSet w s.heap S dx l ms) (gS : g.get? S = none) (gd : g.get? dx = none) (gl : g.get? l = none)
  (I2 : OSet w s.heap O dxo lo vs) (gO : g.get? O = none) (gdo : g.get? dxo = none) (glo : g.get? lo = none) (_nO : O ≠ S)
  (hR : ∀ h' dr tk S' dx' l', Mod [] s.heap h' → s.heap.get? S' = none → s.heap.get? dx' = none → s.heap.get? l' = none → OSet w h' S' dx' l' (ms.filter fun v => decide (¬ inL vs v)) → R (.ok (.ret (.ref S'))) ⟨h', s.gens, dr, tk, s.os⟩) :
    codeAny (model PR w) A2 (.call (.ref 185) ⟨[.ref S, .ref O], []⟩) R s := by
  obtain ⟨⟨es, ep, t, e, oS, od, ol, f⟩, pv, nd⟩ := I
  obtain ⟨⟨eso, epo, to, eo, oO, odo, olo, fo⟩, pvo, ndo⟩ := I2
  have z := sz5 pv nd
  have n1 := neN (neObj oS od set_ne_dict)
  have n2 := neN (neObj oS ol set_ne_list)
  have n3 := neN (neObj od ol dict_ne_list)
  have N : Has g s.heap [(S, setO (.ref 232) (some dx) es ep t #[some (.ref l)]), (dx, dictE), (l, PySem.W.listOf ms.toArray e), (O, setO (.ref 232) (some dxo) eso epo to #[some (.ref lo)])] :=
    List.forall_mem_cons.mpr ⟨⟨oS, gS⟩, List.forall_mem_cons.mpr ⟨⟨od, gd⟩, List.forall_mem_cons.mpr ⟨⟨ol, gl⟩, List.forall_mem_cons.mpr ⟨⟨oO, gO⟩, List.forall_mem_nil _⟩⟩⟩⟩
  refine enter_cellS (items := [.ref O]) B stg N (by k_is) (by k_is) (by decide) rfl (by rw [sizeLine_eq]; simp) (fun t => kindsX rfl) (by decide) ?_ rfl rfl rfl
  intro g' L h₁ T tk0 cells B' F' N' Y' lL lT kM sg hid
  obtain ⟨oc, rfl, hoc⟩ : ∃ oc : Obj, cells = [(L + 1, oc)] ∧ oc.data = .cell none := by
    cases Y' with
    | cons h r => cases r; exact ⟨_, rfl, h⟩
  have X' := B'.K
  have T' := B'.T
  dsimp only [List.map, List.cons_append, List.nil_append] at kM hid N'
  k_lt lT
  k_lt lL
  obtain ⟨lT1, lT2, lT3, lT4⟩ := lT
  obtain ⟨lL0, lL1, lL2, lL3, lL4⟩ := lL
  try dsimp only
  k_steps
  refine k_diff_set (by assumption) X' (by assumption) (S := S) (by k_mem) (.inr rfl) f (O := O) (by k_mem) (.inr rfl) fo (by k_units) fun r er epr tr h2 dr2 f2 F2 N2 b2 => ?_
  have c0 := Nat.lt_succ_of_lt lL0
  have c1 := Nat.lt_succ_of_lt lL1
  have c2 := Nat.lt_succ_of_lt lL2
  have c3 := Nat.lt_succ_of_lt lL3
  have c4 := Nat.lt_succ_of_lt lL4
  have q0 := neN (show L + 1 ≠ r from b2 (L + 1, oc) (by k_mem))
  have q1 := neN (show T ≠ r from b2 (T, _) (by k_mem))
  have q2 := neN (show S ≠ r from b2 (S, _) (by k_mem))
  have q3 := neN (show dx ≠ r from b2 (dx, _) (by k_mem))
  have q4 := neN (show l ≠ r from b2 (l, _) (by k_mem))
  have q5 := neN (show O ≠ r from b2 (O, _) (by k_mem))
  k_steps
  refine halt_out (comp_halt (fun v => decide (¬ inL vs v)) (by exact rfl) (by decide) rfl (by decide) rfl (fun _ => rfl) ?_)
  k_steps
  rename_i h3 oc2 F3 N3 d3
  refine halt_out (k_pyIter_list F3 N3 (l := l) (ms := ms) (e := e) (by k_mem) fun h4 I F4 N4 nI => ?_)
  have i0 := N4 (I, liO l 0) (.head _)
  refine comp_walk (l := l) (vs := ms) (e := e) (g := g') (L := L) (I := I) (news := [(r, setO (.type "set") none er epr tr #[]), (L + 1, oc2), (T, tupO [.ref O]), (S, setO (.ref 232) (some dx) es ep t #[some (.ref l)]), (dx, dictE), (l, PySem.W.listOf ms.toArray e), (O, setO (.ref 232) (some dxo) eso epo to #[some (.ref lo)])]) (fun v => decide (¬ inL vs v)) rfl F4 (fun p hp => N4 p (.tail _ hp)) nI i0.1 i0.2.2 i0.2.1 (by k_mem) (Nat.le_trans (len5 pv nd) (by decide)) ?_ ?_ ?_
  · intro C v s₃ m₃ E' hv hn hm F5 N5
    exact test_in (c := L + 1) (oc := oc2) (r := r) rfl rfl rfl rfl (by decide) (by decide) hn hm F5 X' N5 (by k_mem) d3 (by k_mem) (.inl rfl) f2 (pv v hv) (by k_units) _ (decide_eq_true_iff.trans ⟨fun q => ⟨⟨v, hv, rfl⟩, q⟩, And.right⟩)
  · exact fun C v s₃ m₃ E' hv hn hm => elt_name rfl rfl (by decide) hn hm
  intro D h5 tk5 e5 F5 N5 nD
  clear F3 N3 F4 N4
  have z1 := neN (show L + 1 ≠ D from nD (L + 1, oc2) (by k_mem))
  k_steps
  have pvf := pv_filter (p := fun v => decide (¬ inL vs v)) pv
  have ndf := nd_filter (p := fun v => decide (¬ inL vs v)) nd
  refine k_from B' (by assumption) (by assumption) (by k_mem) pvf ndf rfl (Nat.le_of_ble_eq_true rfl) (Nat.le_of_ble_eq_true rfl) fun es6 ep6 t6 h6 tk6 S6 dx6 f6 F6 N6 b61 b62 b63 => ?_
  k_steps
  exact hR _ _ _ S6 dx6 D (mod_drop (mod_drop (mod_drop (mod_drop (kM _ (Fr.keep F6)) oS (N6 (S, _) (by k_mem)).1) od (N6 (dx, _) (by k_mem)).1) ol (N6 (l, _) (by k_mem)).1) oO (N6 (O, _) (by k_mem)).1)
    (hid S6 (N6 (S6, _) (by k_mem)).2.2 (notIn4 (b61 (S, _) (by k_mem)) (b61 (dx, _) (by k_mem)) (b61 (l, _) (by k_mem)) (b61 (O, _) (by k_mem))))
    (hid dx6 (N6 (dx6, _) (by k_mem)).2.2 (notIn4 (b62 (S, _) (by k_mem)) (b62 (dx, _) (by k_mem)) (b62 (l, _) (by k_mem)) (b62 (O, _) (by k_mem))))
    (hid D (N6 (D, PySem.W.listOf _ _) (.tail _ (.tail _ (.head _)))).2.2 (notIn4 (nD (S, _) (by k_mem)) (nD (dx, _) (by k_mem)) (nD (l, _) (by k_mem)) (nD (O, _) (by k_mem))))
    (os_at N6 (by k_mem) (by k_mem) (by k_mem) f6 pvf ndf)
/-- intersection(list) -/
theorem inter1_spec {O : Addr} {vs : List Value} {eo : Nat} (B : Base w mg mb g) (stg : g.StaysIn s.heap) (I : OSet w s.heap S dx l ms) (gS : g.get? S = none) (gd : g.get? dx = none) (gl : g.get? l = none)
  (oO : s.heap.get? O = some (PySem.W.listOf vs.toArray eo)) (gO : g.get? O = none) (hP : ∀ v ∈ vs, Pv v)
  (hR : ∀ h' dr tk S' dx' l', Mod [] s.heap h' → s.heap.get? S' = none → s.heap.get? dx' = none → s.heap.get? l' = none → OSet w h' S' dx' l' (ms.filter fun v => decide (inL vs v)) → R (.ok (.ret (.ref S'))) ⟨h', s.gens, dr, tk, s.os⟩) :
    codeAny (model PR w) A2 (.call (.ref 161) ⟨[.ref S, .ref O], []⟩) R s := by
  obtain ⟨⟨es, ep, t, e, oS, od, ol, f⟩, pv, nd⟩ := I
  have nO := neObj oS oO set_ne_list
  have z := sz5 pv nd
  have n1 := neN (neObj oS od set_ne_dict)
  have n2 := neN (neObj oS ol set_ne_list)
  have n3 := neN (neObj od ol dict_ne_list)
  have N : Has g s.heap [(S, setO (.ref 232) (some dx) es ep t #[some (.ref l)]), (dx, dictE), (l, PySem.W.listOf ms.toArray e), (O, PySem.W.listOf vs.toArray eo)] :=
    List.forall_mem_cons.mpr ⟨⟨oS, gS⟩, List.forall_mem_cons.mpr ⟨⟨od, gd⟩, List.forall_mem_cons.mpr ⟨⟨ol, gl⟩, List.forall_mem_cons.mpr ⟨⟨oO, gO⟩, List.forall_mem_nil _⟩⟩⟩⟩
  refine enter_cellS (items := [.ref O]) B stg N (by k_is) (by k_is) (by decide) rfl (by rw [sizeLine_eq]; simp) (fun t => kindsX rfl) (by decide) ?_ rfl rfl rfl
  intro g' L h₁ T tk0 cells B' F' N' Y' lL lT kM sg hid
  obtain ⟨oc, rfl, hoc⟩ : ∃ oc : Obj, cells = [(L + 1, oc)] ∧ oc.data = .cell none := by
    cases Y' with
    | cons h r => cases r; exact ⟨_, rfl, h⟩
  have X' := B'.K
  have T' := B'.T
  dsimp only [List.map, List.cons_append, List.nil_append] at kM hid N'
  k_lt lT
  k_lt lL
  obtain ⟨lT1, lT2, lT3, lT4⟩ := lT
  obtain ⟨lL0, lL1, lL2, lL3, lL4⟩ := lL
  try dsimp only
  k_steps
  refine k_inter_list (by assumption) X' (by assumption) (S := S) (by k_mem) (.inr rfl) f (r0 := O) (by k_mem) hP rfl nO.symm (by k_units) fun r er epr tr h2 dr2 tk2 f2 F2 N2 b2 => ?_
  have c0 := Nat.lt_succ_of_lt lL0
  have c1 := Nat.lt_succ_of_lt lL1
  have c2 := Nat.lt_succ_of_lt lL2
  have c3 := Nat.lt_succ_of_lt lL3
  have c4 := Nat.lt_succ_of_lt lL4
  have q0 := neN (show L + 1 ≠ r from b2 (L + 1, oc) (by k_mem))
  have q1 := neN (show T ≠ r from b2 (T, _) (by k_mem))
  have q2 := neN (show S ≠ r from b2 (S, _) (by k_mem))
  have q3 := neN (show dx ≠ r from b2 (dx, _) (by k_mem))
  have q4 := neN (show l ≠ r from b2 (l, _) (by k_mem))
  have q5 := neN (show O ≠ r from b2 (O, _) (by k_mem))
  k_steps
  refine halt_out (comp_halt (fun v => decide (inL vs v)) (by exact rfl) (by decide) rfl (by decide) rfl (fun _ => rfl) ?_)
  k_steps
  rename_i h3 oc2 F3 N3 d3
  refine halt_out (k_pyIter_list F3 N3 (l := l) (ms := ms) (e := e) (by k_mem) fun h4 I F4 N4 nI => ?_)
  have i0 := N4 (I, liO l 0) (.head _)
  refine comp_walk (l := l) (vs := ms) (e := e) (g := g') (L := L) (I := I) (news := [(r, setO (.type "set") none er epr tr #[]), (L + 1, oc2), (T, tupO [.ref O]), (S, setO (.ref 232) (some dx) es ep t #[some (.ref l)]), (dx, dictE), (l, PySem.W.listOf ms.toArray e), (O, PySem.W.listOf vs.toArray eo)]) (fun v => decide (inL vs v)) rfl F4 (fun p hp => N4 p (.tail _ hp)) nI i0.1 i0.2.2 i0.2.1 (by k_mem) (Nat.le_trans (len5 pv nd) (by decide)) ?_ ?_ ?_
  · intro C v s₃ m₃ E' hv hn hm F5 N5
    exact test_in (c := L + 1) (oc := oc2) (r := r) rfl rfl rfl rfl (by decide) (by decide) hn hm F5 X' N5 (by k_mem) d3 (by k_mem) (.inl rfl) f2 (pv v hv) (by k_units) _ (decide_eq_true_iff.trans ⟨fun q => ⟨⟨v, hv, rfl⟩, q⟩, And.right⟩)
  · exact fun C v s₃ m₃ E' hv hn hm => elt_name rfl rfl (by decide) hn hm
  intro D h5 tk5 e5 F5 N5 nD
  clear F3 N3 F4 N4
  have z1 := neN (show L + 1 ≠ D from nD (L + 1, oc2) (by k_mem))
  k_steps
  have pvf := pv_filter (p := fun v => decide (inL vs v)) pv
  have ndf := nd_filter (p := fun v => decide (inL vs v)) nd
  refine k_from B' (by assumption) (by assumption) (by k_mem) pvf ndf rfl (Nat.le_of_ble_eq_true rfl) (Nat.le_of_ble_eq_true rfl) fun es6 ep6 t6 h6 tk6 S6 dx6 f6 F6 N6 b61 b62 b63 => ?_
  k_steps
  exact hR _ _ _ S6 dx6 D (mod_drop (mod_drop (mod_drop (mod_drop (kM _ (Fr.keep F6)) oS (N6 (S, _) (by k_mem)).1) od (N6 (dx, _) (by k_mem)).1) ol (N6 (l, _) (by k_mem)).1) oO (N6 (O, _) (by k_mem)).1)
    (hid S6 (N6 (S6, _) (by k_mem)).2.2 (notIn4 (b61 (S, _) (by k_mem)) (b61 (dx, _) (by k_mem)) (b61 (l, _) (by k_mem)) (b61 (O, _) (by k_mem))))
    (hid dx6 (N6 (dx6, _) (by k_mem)).2.2 (notIn4 (b62 (S, _) (by k_mem)) (b62 (dx, _) (by k_mem)) (b62 (l, _) (by k_mem)) (b62 (O, _) (by k_mem))))
    (hid D (N6 (D, PySem.W.listOf _ _) (.tail _ (.tail _ (.head _)))).2.2 (notIn4 (nD (S, _) (by k_mem)) (nD (dx, _) (by k_mem)) (nD (l, _) (by k_mem)) (nD (O, _) (by k_mem))))
    (os_at N6 (by k_mem) (by k_mem) (by k_mem) f6 pvf ndf)
end

end
/-! Isi -/
section
section
variable {w : World} {A : Around} {E : Value → Shared → Prop} {s : Shared} {S : Addr} {ox : Obj} {od : Option Obj} {Q : Value → Shared → Prop}

theorem isi_own_nested {dep : Int} {tk : Tok} {Q : Fin → Shared → Prop} {M : Model} (ht : Looks M s.heap (typeOf (.ref S)) (.ref 232)) (hi : Looks M s.heap (isInstance (.ref S) (.type "set")) true) (h : Q (.done (.ret (.bool true))) s) :
    wpAny M A (Builtin.«isinstance.nested» ⟨[.ref S, .type "set", .int dep tk], []⟩) Q E s := by
  obtain ⟨hh, g, d, tt, os⟩ := s
  have L1 : Looks M hh (typeOf (.type "set")) (.type "type") := Looks.of_pure meta_set
  unfold Builtin.«isinstance.nested»
  refine wpAny_bind (ht.at ?_)
  rw [if_neg (by decide)]
  refine wpAny_bind (L1.at ?_)
  rw [if_pos (by decide)]
  k_delta "plainIsInstance"
  refine wpAny_bind (wpAny_bind (wpAny_of_eq (t := isType (.type "set")) (a := true) (by first | rfl | kernel_rfl) ?_))
  rw [if_neg (by decide)]
  refine wpAny_bind (hi.at ?_)
  rw [if_pos rfl]
  exact wpAny_pure (wpAny_pure h)
theorem isi_own (X : (hd.heap_39 w.params).In s.heap) (I : PySem.W.InstAt s.heap S ox 232 od) (h : Q (.bool true) s) : wpAny (model PR w) A (call (.builtin "isinstance") [.ref S, .type "set"]) Q E s :=
  call_isinstance (S := fun _ R s => ((∀ M, Looks M s.heap (typeOf (.ref S)) (.ref 232)) ∧ ∀ M, Looks M s.heap (isInstance (.ref S) (.type "set")) true) ∧ R (.ok (.ret (.bool true))) s)
    (fun _ _ _ _ _ hs => isinstance_outer (isi_own_nested (hs.1.1 _) (hs.1.2 _) hs.2)) ⟨⟨fun _ => I.type, fun _ => I.type.andThen (looks_mroIn X (mro232 w))⟩, h⟩
end
end
local macro_rules | `(tactic| walk_at "call builtin:isinstance") => `(tactic| (k_here; (with_reducible show wpAny _ _ (call (Value.builtin "isinstance") [Value.ref _, Value.type "set"]) _ _ _); k_dflt (refine' isi_own ?k1 ?k2 ?_; (case k1 => k_in); (case k2 => k_inst); k_whole)))
/-! C9 -/
section
theorem mod4l {a b c d : Addr} {h h' : Heap} (m : Mod [a, b, c, d] h h') : Mod [d, a, b, c] h h' := m.mono (by intro p hp; simp only [List.mem_cons, List.not_mem_nil, or_false] at hp ⊢; rcases hp with h | h | h | h <;> simp [h])
theorem inL_filter {ms : List Value} {P : Value → Prop} [DecidablePred P] (hc : ∀ u v, cl u = cl v → (P u ↔ P v)) {y : Value} : inL (ms.filter fun v => decide (P v)) y ↔ (inL ms y ∧ P y) := by
  constructor
  · rintro ⟨v, hv, c⟩
    obtain ⟨a, b⟩ := List.mem_filter.mp hv
    exact ⟨⟨v, a, c⟩, (hc v y c).mp (of_decide_eq_true b)⟩
  · rintro ⟨⟨v, hv, c⟩, p⟩
    exact ⟨v, List.mem_filter.mpr ⟨hv, decide_eq_true ((hc v y c).mpr p)⟩, c⟩
section
variable {w : World} {s : Shared} {mg mb : Str → Option Value} {g : Heap} {R : Result → Shared → Prop} {S dx l : Addr} {ms : List Value} {x : Value}

/-- intersection_update(other ordered set) -/
theorem interU_spec {O dxo lo : Addr} {vs : List Value} (B : Base w mg mb g) (stg : g.StaysIn s.heap) (I : OSet w s.heap S dx l ms) (gS : g.get? S = none) (gd : g.get? dx = none) (gl : g.get? l = none)
  (I2 : OSet w s.heap O dxo lo vs) (gO : g.get? O = none) (gdo : g.get? dxo = none) (glo : g.get? lo = none) (nO : O ≠ S)
  (hR : ∀ h' dr tk l', Mod [S, dx, l] s.heap h' → s.heap.get? l' = none → OSet w h' S dx l' (ms.filter fun v => decide (inL vs v)) → R (.ok (.ret .none)) ⟨h', s.gens, dr, tk, s.os⟩) :
    codeAny (model PR w) A2 (.call (.ref 197) ⟨[.ref S, .ref O], []⟩) R s := by
  obtain ⟨⟨es, ep, t, e, oS, od, ol, f⟩, pv, nd⟩ := I
  obtain ⟨⟨eso, epo, to, eo, oO, odo, olo, fo⟩, pvo, ndo⟩ := I2
  have z := sz5 pv nd
  have n1 := neN (neObj oS od set_ne_dict)
  have n2 := neN (neObj oS ol set_ne_list)
  have n3 := neN (neObj od ol dict_ne_list)
  have N : Has g s.heap [(S, setO (.ref 232) (some dx) es ep t #[some (.ref l)]), (dx, dictE), (l, PySem.W.listOf ms.toArray e), (O, setO (.ref 232) (some dxo) eso epo to #[some (.ref lo)])] :=
    List.forall_mem_cons.mpr ⟨⟨oS, gS⟩, List.forall_mem_cons.mpr ⟨⟨od, gd⟩, List.forall_mem_cons.mpr ⟨⟨ol, gl⟩, List.forall_mem_cons.mpr ⟨⟨oO, gO⟩, List.forall_mem_nil _⟩⟩⟩⟩
  refine enter_cellS (items := [.ref O]) B stg N (by k_is) (by k_is) (by decide) rfl (by rw [sizeLine_eq]; simp) (fun t => kindsX rfl) (by decide) ?_ rfl rfl rfl
  intro g' L h₁ T tk0 cells B' F' N' Y' lL lT kM sg hid
  obtain ⟨oc, rfl, hoc⟩ : ∃ oc : Obj, cells = [(L + 1, oc)] ∧ oc.data = .cell (some (.ref S)) := by
    cases Y' with
    | cons h r => cases r; exact ⟨_, rfl, h⟩
  have X' := B'.K
  have T' := B'.T
  dsimp only [List.map, List.cons_append, List.nil_append] at kM hid N'
  k_lt lT
  k_lt lL
  obtain ⟨lT1, lT2, lT3, lT4⟩ := lT
  obtain ⟨lL0, lL1, lL2, lL3, lL4⟩ := lL
  try dsimp only
  have c0 := Nat.lt_succ_of_lt lL0
  have c1 := Nat.lt_succ_of_lt lL1
  have c2 := Nat.lt_succ_of_lt lL2
  have c3 := Nat.lt_succ_of_lt lL3
  have c4 := Nat.lt_succ_of_lt lL4
  have nO' := neN nO
  k_steps
  refine k_interU_set (by assumption) X' (by assumption) (S := S) (by k_mem) (.inr rfl) f (O := O) (by k_mem) (.inr rfl) fo nO (by k_units) (fun _ _ _ => by k_upd) fun er epr tr h2 dr2 f2 F2 N2 => ?_
  try k_sweep
  k_steps
  refine halt_out (comp_halt (fun v => decide (inL vs v)) (by exact rfl) (by decide) rfl (by decide) rfl (fun _ => rfl) ?_)
  k_steps
  refine halt_out (k_pyIter_list F2 N2 (l := l) (ms := ms) (e := e) (by k_mem) fun h4 I F4 N4 nI => ?_)
  have i0 := N4 (I, liO l 0) (.head _)
  refine comp_walk (l := l) (vs := ms) (e := e) (g := g') (L := L) (I := I) (news := [(L + 1, oc), (T, tupO [.ref O]), (S, setO (.ref 232) (some dx) er epr tr #[some (.ref l)]), (dx, dictE), (l, PySem.W.listOf ms.toArray e), (O, setO (.ref 232) (some dxo) eso epo to #[some (.ref lo)])]) (fun v => decide (inL vs v)) rfl F4 (fun p hp => N4 p (.tail _ hp)) nI i0.1 i0.2.2 i0.2.1 (by k_mem) (Nat.le_trans (len5 pv nd) (by decide)) ?_ ?_ ?_
  · intro C v s₃ m₃ E' hv hn hm F5 N5
    exact test_in (c := L + 1) (oc := oc) (r := S) rfl rfl rfl rfl (by decide) (by decide) hn hm F5 X' N5 (by k_mem) hoc (by k_mem) (.inr rfl) f2 (pv v hv) (by k_units) _ (decide_eq_true_iff.trans ⟨fun q => ⟨⟨v, hv, rfl⟩, q⟩, And.right⟩)
  · exact fun C v s₃ m₃ E' hv hn hm => elt_name rfl rfl (by decide) hn hm
  intro D h5 tk5 e5 F5 N5 nD
  clear F2 N2 F4 N4
  have z1 := neN (show L + 1 ≠ D from nD (L + 1, oc) (by k_mem))
  have z2 := neN (show T ≠ D from nD (T, _) (by k_mem))
  have z3 := neN (show S ≠ D from nD (S, _) (by k_mem))
  have z4 := neN (show dx ≠ D from nD (dx, _) (by k_mem))
  have z5 := neN (show l ≠ D from nD (l, _) (by k_mem))
  have z6 := neN (show O ≠ D from nD (O, _) (by k_mem))
  k_steps
  have pvf := pv_filter (p := fun v => decide (inL vs v)) pv
  have ndf := nd_filter (p := fun v => decide (inL vs v)) nd
  exact hR _ _ _ D (mod_drop (mod4l (kM _ (Fr.keep (by assumption)))) oO (‹News g' L _ _› (O, _) (by k_mem)).1) (hid D (‹News g' L _ _› (D, PySem.W.listOf (ms.filter fun v => decide (inL vs v)).toArray _) (by k_mem)).2.2 (notIn4 z3 z4 z5 z6))
    (os_at (by assumption) (by k_mem) (by k_mem) (by k_mem) (f2.iff fun y => (inL_filter (fun _ _ => inL_same)).symm) pvf ndf)
/-- difference_update(other ordered set) -/
theorem diffU_spec {O dxo lo : Addr} {vs : List Value} (B : Base w mg mb g) (stg : g.StaysIn s.heap) (I : OSet w s.heap S dx l ms) (gS : g.get? S = none) (gd : g.get? dx = none) (gl : g.get? l = none)
  (I2 : OSet w s.heap O dxo lo vs) (gO : g.get? O = none) (gdo : g.get? dxo = none) (glo : g.get? lo = none) (nO : O ≠ S)
  (hR : ∀ h' dr tk l', Mod [S, dx, l] s.heap h' → s.heap.get? l' = none → OSet w h' S dx l' (ms.filter fun v => decide (¬ inL vs v)) → R (.ok (.ret .none)) ⟨h', s.gens, dr, tk, s.os⟩) :
    codeAny (model PR w) A2 (.call (.ref 221) ⟨[.ref S, .ref O], []⟩) R s := by
  obtain ⟨⟨es, ep, t, e, oS, od, ol, f⟩, pv, nd⟩ := I
  obtain ⟨⟨eso, epo, to, eo, oO, odo, olo, fo⟩, pvo, ndo⟩ := I2
  have z := sz5 pv nd
  have n1 := neN (neObj oS od set_ne_dict)
  have n2 := neN (neObj oS ol set_ne_list)
  have n3 := neN (neObj od ol dict_ne_list)
  have N : Has g s.heap [(S, setO (.ref 232) (some dx) es ep t #[some (.ref l)]), (dx, dictE), (l, PySem.W.listOf ms.toArray e), (O, setO (.ref 232) (some dxo) eso epo to #[some (.ref lo)])] :=
    List.forall_mem_cons.mpr ⟨⟨oS, gS⟩, List.forall_mem_cons.mpr ⟨⟨od, gd⟩, List.forall_mem_cons.mpr ⟨⟨ol, gl⟩, List.forall_mem_cons.mpr ⟨⟨oO, gO⟩, List.forall_mem_nil _⟩⟩⟩⟩
  refine enter_cellS (items := [.ref O]) B stg N (by k_is) (by k_is) (by decide) rfl (by rw [sizeLine_eq]; simp) (fun t => kindsX rfl) (by decide) ?_ rfl rfl rfl
  intro g' L h₁ T tk0 cells B' F' N' Y' lL lT kM sg hid
  obtain ⟨oc, rfl, hoc⟩ : ∃ oc : Obj, cells = [(L + 1, oc)] ∧ oc.data = .cell (some (.ref S)) := by
    cases Y' with
    | cons h r => cases r; exact ⟨_, rfl, h⟩
  have X' := B'.K
  have T' := B'.T
  dsimp only [List.map, List.cons_append, List.nil_append] at kM hid N'
  k_lt lT
  k_lt lL
  obtain ⟨lT1, lT2, lT3, lT4⟩ := lT
  obtain ⟨lL0, lL1, lL2, lL3, lL4⟩ := lL
  try dsimp only
  have c0 := Nat.lt_succ_of_lt lL0
  have c1 := Nat.lt_succ_of_lt lL1
  have c2 := Nat.lt_succ_of_lt lL2
  have c3 := Nat.lt_succ_of_lt lL3
  have c4 := Nat.lt_succ_of_lt lL4
  have nO' := neN nO
  k_steps
  refine k_diffU_set (by assumption) X' (by assumption) (S := S) (by k_mem) (.inr rfl) f (O := O) (by k_mem) (.inr rfl) fo nO (by k_units) (fun _ _ _ => by k_upd) fun er epr tr h2 dr2 f2 F2 N2 => ?_
  try k_sweep
  k_steps
  refine halt_out (comp_halt (fun v => decide (¬ inL vs v)) (by exact rfl) (by decide) rfl (by decide) rfl (fun _ => rfl) ?_)
  k_steps
  refine halt_out (k_pyIter_list F2 N2 (l := l) (ms := ms) (e := e) (by k_mem) fun h4 I F4 N4 nI => ?_)
  have i0 := N4 (I, liO l 0) (.head _)
  refine comp_walk (l := l) (vs := ms) (e := e) (g := g') (L := L) (I := I) (news := [(L + 1, oc), (T, tupO [.ref O]), (S, setO (.ref 232) (some dx) er epr tr #[some (.ref l)]), (dx, dictE), (l, PySem.W.listOf ms.toArray e), (O, setO (.ref 232) (some dxo) eso epo to #[some (.ref lo)])]) (fun v => decide (¬ inL vs v)) rfl F4 (fun p hp => N4 p (.tail _ hp)) nI i0.1 i0.2.2 i0.2.1 (by k_mem) (Nat.le_trans (len5 pv nd) (by decide)) ?_ ?_ ?_
  · intro C v s₃ m₃ E' hv hn hm F5 N5
    exact test_in (c := L + 1) (oc := oc) (r := S) rfl rfl rfl rfl (by decide) (by decide) hn hm F5 X' N5 (by k_mem) hoc (by k_mem) (.inr rfl) f2 (pv v hv) (by k_units) _ (decide_eq_true_iff.trans ⟨fun q => ⟨⟨v, hv, rfl⟩, q⟩, And.right⟩)
  · exact fun C v s₃ m₃ E' hv hn hm => elt_name rfl rfl (by decide) hn hm
  intro D h5 tk5 e5 F5 N5 nD
  clear F2 N2 F4 N4
  have z1 := neN (show L + 1 ≠ D from nD (L + 1, oc) (by k_mem))
  have z2 := neN (show T ≠ D from nD (T, _) (by k_mem))
  have z3 := neN (show S ≠ D from nD (S, _) (by k_mem))
  have z4 := neN (show dx ≠ D from nD (dx, _) (by k_mem))
  have z5 := neN (show l ≠ D from nD (l, _) (by k_mem))
  have z6 := neN (show O ≠ D from nD (O, _) (by k_mem))
  k_steps
  have pvf := pv_filter (p := fun v => decide (¬ inL vs v)) pv
  have ndf := nd_filter (p := fun v => decide (¬ inL vs v)) nd
  exact hR _ _ _ D (mod_drop (mod4l (kM _ (Fr.keep (by assumption)))) oO (‹News g' L _ _› (O, _) (by k_mem)).1) (hid D (‹News g' L _ _› (D, PySem.W.listOf (ms.filter fun v => decide (¬ inL vs v)).toArray _) (by k_mem)).2.2 (notIn4 z3 z4 z5 z6))
    (os_at (by assumption) (by k_mem) (by k_mem) (by k_mem) (f2.iff fun y => (inL_filter (P := fun v => ¬ inL vs v) (fun _ _ q => not_congr (inL_same q))).symm) pvf ndf)
end

end
/-! Ha -/
section
open PySem PySem.W PyProof.Rows PySem.Calls Builtin Builtin.ObjectAttr
theorem obj_len (w : World) (od : Option Obj) : findObj (hd.heap_39 w.params) 232 od "__len__" = some (.bind (.builtin "wrapper_descriptor.__get__") (.builtin "set.__len__")) := by kernel_rfl
section
variable {w : World} {A : Around} {E : Value → Shared → Prop} {s : Shared} {x : Addr} {ox : Obj} {od : Option Obj} {name : Str}
theorem own_bindBy {a : Value} {g : String} {fill expr : Bool} {tk : Tok} {Q : Value → Shared → Prop} (X : (hd.heap_39 w.params).In s.heap) (I : PySem.W.InstAt s.heap x ox 232 od) (hf : findObj (hd.heap_39 w.params) 232 od name = some (.bind (.builtin g) a))
    (h : wpAny (model PR w) A.in1 (call (.builtin g) [a, .ref x, .ref 232]) (fun v s' => wpAny (model PR w) A (handedOut v) Q E s') (fun _ _ => False) s) :
    wpAny (model PR w) A (getAttrBy (.ref x) (.str name tk) fill expr) Q E s := by
  obtain ⟨hh, gg, d, t, os⟩ := s
  have L0 := I.type (M := model PR w)
  have L1 := looks_findIn (M := model PR w) X (f_ga w)
  have L2 := looks_findIn (M := model PR w) X (f_gattr w)
  have L3 := looks_find (M := model PR w) X I hf
  have L4 : Looks (model PR w) hh (isInstance (.ref x) (.type "set")) true := L0.andThen (looks_mroIn X (mro232 w))
  unfold getAttrBy
  refine wpAny_holding (wpAny_bind (L0.at (wpAny_bind (L1.at ?_))))
  dsimp only
  rw [show (onTheHeap (.ref 232) && Value.builtin "set.__getattribute__" == Value.builtin "object.__getattribute__") = false from by rw [show (Value.builtin "set.__getattribute__" == Value.builtin "object.__getattribute__") = false from by decide +kernel, Bool.and_false], if_neg (by decide)]
  unfold getAttrByItsOwn hookBefore
  rw [if_pos (show onTheHeap (Value.ref 232) = true from rfl)]
  refine wpAny_bind (L2.at (wpAny_bind (wpAny_attempt (wpAny_holding ?_))))
  unfold callGetattribute
  rw [show (expr && onTheHeap (Value.builtin "set.__getattribute__")) = false from Bool.and_false _, if_neg (by decide)]
  unfold boundAndCalled
  rw [F.slot_set_getattribute.bind]
  refine wpAny_bind (wpAny_pure ?_)
  show wpAny _ _ (call (.builtin "set.__getattribute__") [.ref x, .str name tk]) _ _ _
  refine wpAny_call ?_
  refine codeAny_call_builtin F.slot_set_getattribute.plain F.entry_set_ga ?_
  refine @check_slot (model PR w) _ _ ⟨hh, gg, d, t, os⟩ "set.__getattribute__" "set" "__getattribute__" (.ref x) [.str name tk] [] _ (by decide +kernel) (by decide +kernel) L4 (F.args_set_getattribute_2 (.ref x) (.str name tk)) ?_
  rw [oga_eq]
  refine wpAny_bind (L0.at (wpAny_bind (L3.at ?_)))
  dsimp only
  unfold bindTo
  show wpAny _ _ (holding [a] (call (.builtin g) [a, .ref x, .ref 232]) >>= ret) _ _ _
  exact wpAny_bind (wpAny_holding (wpAny_mono h (fun v s' z => wpAny_pure z) fun _ _ z => z.elim))
end

end
/-! Ha2 -/
section
open PySem PySem.W PyProof.Rows PySem.Calls Builtin
namespace HL
def wrapO (x : Addr) : Obj := { cls := .type "method-wrapper", data := .fields #[.builtin "set.__len__", .ref x] }
theorem slot_get : PySem.Slot "wrapper_descriptor" "__get__" "wrapper_descriptor.__get__" :=
  .of (owner := "wrapper_descriptor") (n := "__get__") (by rw [typeLookup_type, builtinLookup_eq_fast]; kernel_rfl) (by decide +kernel) (by decide +kernel) (by decide +kernel)
    (by first | exact .inl (by decide +kernel) | exact .inr (by decide +kernel)) (by rw [isSubtype_type]; kernel_rfl)
theorem entry_get : entryFor table "wrapper_descriptor.__get__" = some Builtin.«wrapper_descriptor.__get__» := entryFor_of_tree (by kernel_rfl)
theorem args_get (a b c : Value) : argsOk "wrapper_descriptor.__get__" ⟨[a, b, c], []⟩ := by unfold argsOk; kernel_rfl
theorem type_len : typeOf (.builtin "set.__len__") = pure (.type "wrapper_descriptor") := by show builtinType _ = _; rw [builtinType_eq_fast]; kernel_rfl
section
variable {M : Model} {A : Around} {E : Value → Shared → Prop} {s : Shared} {x : Addr}
theorem run_get {P : Fin → Shared → Prop} (hi : Looks M s.heap (isInstance (.ref x) (.type "set")) true) (h : P (.done (.ret (.ref s.heap.objs.size))) { s with heap := s.heap.push (wrapO x) }) :
    wpAny M A (Builtin.«wrapper_descriptor.__get__» ⟨[.builtin "set.__len__", .ref x, .ref 232], []⟩) P E s := by
  obtain ⟨hh, g, d, t, os⟩ := s
  unfold Builtin.«wrapper_descriptor.__get__»
  refine wpAny_bind (wpAny_of_eq (a := (.builtin "set.__len__", some (.ref x), some (.ref 232))) (by first | rfl | kernel_rfl) ?_)
  dsimp only
  k_delta "bindBuiltin"
  dsimp only
  k_delta "checkInstance"
  refine wpAny_bind (wpAny_bind (wpAny_of_eq (a := (("__len__" : Str), Value.type "set")) (by first | rfl | kernel_rfl) ?_))
  dsimp only
  refine wpAny_bind (hi.at ?_)
  rw [if_neg (by decide)]
  exact wpAny_pure (wpAny_bind (wpAny_newObj_type (wpAny_pure h)))
end
end HL
section
variable {w : World} {A : Around} {E : Value → Shared → Prop} {s : Shared} {x : Addr} {ox : Obj} {od : Option Obj}
theorem if_neg' {α : Type} {M : Model} {A : Around} {E : Value → Shared → Prop} {s : Shared} {c : Prop} [Decidable c] {a b : Sem α} {Q : α → Shared → Prop} (hc : ¬ c) (h : wpAny M A b Q E s) : wpAny M A (if c then a else b) Q E s := by rw [if_neg hc]; exact h
/-- hasattr(an ordered set, '__len__') -/
theorem has_len_own {tk : Tok} {Q : Value → Shared → Prop} {h₀ : Heap} {L : Addr} {m : PySem.Str → Option Value} {news : List (Addr × Obj)} (F : Fr h₀ L s.heap m) (N : News h₀ L s.heap news) (X : (hd.heap_39 w.params).In s.heap) (I : PySem.W.InstAt s.heap x ox 232 od)
  (h : ∀ h', Fr h₀ L h' m → News h₀ L h' news → Q (.bool true) { s with heap := h' }) :
    wpAny (model PR w) A (call (.builtin "hasattr") [.ref x, .str "__len__" tk]) Q E s := by
  have L0 := I.type (M := model PR w)
  have L4 : Looks (model PR w) s.heap (isInstance (.ref x) (.type "set")) true := L0.andThen (looks_mroIn X (mro232 w))
  have L5 : Looks (model PR w) s.heap (isInstance (.ref x) (.type "module")) false := L0.andThen (looks_mroIn X (by kernel_rfl))
  refine call_function_any (b := Builtin.«hasattr») (by decide +kernel) (by decide +kernel) (entryFor_of_tree (by kernel_rfl)) (by unfold argsOk; kernel_rfl) ?_
  obtain ⟨hh, g, d, t, os⟩ := s
  unfold Builtin.«hasattr»
  refine wpAny_bind (wpAny_of_eq (a := [.ref x, .str "__len__" tk]) (by first | rfl | kernel_rfl) ?_)
  dsimp only
  k_delta "attrName"
  refine wpAny_bind (wpAny_of_eq (a := ()) (by first | rfl | kernel_rfl) ?_)
  refine if_neg' (c := (Value.ref x == Value.builtin "__main__.__loader__#opaque") = true) (fun e => nomatch eq_of_beq e) ?_
  refine wpAny_bind (L0.at ?_)
  dsimp only
  refine wpAny_bind ?_
  k_delta "optionalOnAModule"
  try dsimp only
  refine wpAny_bind (wpAny_of_eq (a := some ("__len__" : Str)) (by first | rfl | kernel_rfl) ?_)
  dsimp only
  refine wpAny_bind (L5.at ?_)
  rw [if_pos (by decide)]
  refine wpAny_pure ?_
  rw [if_neg (by decide)]
  unfold getAttrBy?
  refine wpAny_bind (wpAny_bind (wpAny_attempt (own_bindBy X I (obj_len w od) (wpAny_call_entry HL.slot_get HL.type_len HL.entry_get (HL.run_get L4 ?_) (HL.args_get _ _ _)))))
  refine ⟨_, rfl, handed_on rfl (wpAny_pure ?_)⟩
  refine if_neg' (by intro e; cases e) (wpAny_pure ?_)
  have N2 := News.push F N (HL.wrapO x)
  exact h _ (F.push _) fun p hp => N2 p (List.Mem.tail _ hp)
end
end
local macro_rules | `(tactic| walk_at "call builtin:hasattr") => `(tactic| (k_here; (with_reducible show wpAny _ _ (call (Value.builtin "hasattr") [Value.ref _, _]) _ _ _); k_dflt (refine' has_len_own ?k1 ?k2 ?k3 ?k4 ?_; (case k1 => k_asm); (case k2 => k_asm); (case k3 => k_in); (case k4 => k_inst); k_whole); intro h' F' N'; (try k_sweep)))
/-! Ls3 -/
section
section
variable {w : World} {A : Around} {E : Value → Shared → Prop} {s : Shared} {g : Heap} {L : Addr} {m : Str → Option Value} {news : List (Addr × Obj)} {news' : Nat → List (Addr × Obj)} {l r : Addr} {ms vs : List Value} {e e' : Nat}
theorem fills_list_iadd : fillsInplaceSlot (.type "list") "add" true = pure false := by
  unfold fillsInplaceSlot
  show (typeLookup (.type "list") (dunderI "add") >>= fun fi => pure (fi.isSome && !isSeqSlot fi)) = pure false
  rw [show typeLookup (.type "list") (dunderI "add") = pure (some (.builtin "list.__iadd__")) from PySem.F.slot_list_iadd.lookup]; kernel_rfl
theorem fills_list_add : fillsNumberSlot (.type "list") "add" = pure false := by
  unfold fillsNumberSlot; kernel_rfl
theorem seq_list_iadd : seqSlot? (.type "list") (dunderI "add") = pure (some (.builtin "list.__iadd__")) := by
  unfold seqSlot?
  rw [show typeLookup (.type "list") (dunderI "add") = pure (some (.builtin "list.__iadd__")) from PySem.F.slot_list_iadd.lookup]; kernel_rfl
theorem k_iadd {Q : Value → Shared → Prop} (F : Fr g L s.heap m) (N : News g L s.heap news) (hl : (l, PySem.W.listOf ms.toArray e) ∈ news) (hr : (r, PySem.W.listOf vs.toArray e') ∈ news) (U : ∀ e2, Upd l (PySem.W.listOf ms.toArray e) (PySem.W.listOf (ms ++ vs).toArray e2) news (news' e2)) (h1 : ms.length ≤ 1000) (h2 : vs.length ≤ 1000)
    (h : ∀ h' e2, Fr g L h' m → News g L h' (news' e2) → Q (.ref l) { s with heap := h' }) :
    wpAny (model PR w) A (inplaceOp .Add (.ref l) (.ref r)) Q E s := by
  have a := (N _ hl).1
  have b := (N _ hr).1
  have ta : s.TypeIs (.ref l) "list" := ⟨_, a, rfl⟩
  have tb : s.TypeIs (.ref r) "list" := ⟨_, b, rfl⟩
  unfold inplaceOp
  refine wpAny_holding ?_
  refine wpAny_bind (wpAny_typeOf ta (wpAny_bind (wpAny_of_eq fills_list_iadd ?_)))
  show wpAny _ A (if false = true then _ else _) Q E s
  rw [if_neg Bool.false_ne_true]
  refine wpAny_bind (wpAny_binaryOp1_none (nm := "add") ta tb fills_list_add ?_)
  refine wpAny_bind (wpAny_of_eq seq_list_iadd ?_)
  refine wpAny_bind (wpAny_rule ?_)
  have z := sizeLine_eq
  refine call_meets PySem.F.slot_list_iadd ta PySem.F.entry_list_iadd (PySem.F.args_list_iadd_2 _ _) (AutoSeq1.list___iadd___list_list_0 l ms.toArray e r vs.toArray e' ?_ ?_ ?_) ⟨a, b, ?_⟩
  · rw [Bool.and_eq_true]; rintro ⟨-, q⟩
    have q' : ms.toArray.size + vs.toArray.size > sizeLine := of_decide_eq_true q
    rw [List.size_toArray, List.size_toArray] at q'; omega
  · rw [List.size_toArray]; omega
  · rw [List.size_toArray, List.size_toArray]; omega
  obtain ⟨e2, ap⟩ : ∃ e2, (Obj.mapSeq (fun x => x ++ vs.toArray) (PySem.W.listOf ms.toArray e)) = PySem.W.listOf (ms ++ vs).toArray e2 := by
    simp only [Obj.mapSeq, PySem.W.listOf, List.append_toArray]
    exact ⟨_, rfl⟩
  have hg : (s.heap.update l (Obj.mapSeq fun x => x ++ vs.toArray)).get? l = some (PySem.W.listOf (ms ++ vs).toArray e2) := by
    rw [Heap.get?_update_self _ a (by rw [ap]; rfl), ap]
  obtain ⟨F', N'⟩ := led_same F N (Heap.SameBut.update ..) (U e2) hg
  exact h _ e2 F' N'
end

end
/-! C10 -/
section
theorem mod6l {a b c d e f : Addr} {h h' : Heap} (m : Mod [a, b, c, d, e, f] h h') : Mod [d, e, f, a, b, c] h h' := m.mono (by intro p hp; simp only [List.mem_cons, List.not_mem_nil, or_false] at hp ⊢; rcases hp with h | h | h | h | h | h <;> simp [h])
theorem inL_symm {ms vs : List Value} {y : Value} : inL ((ms.filter fun v => decide (¬ inL vs v)) ++ vs.filter fun v => decide (¬ inL ms v)) y ↔ (inL ms y ∧ ¬ inL vs y ∨ ¬ inL ms y ∧ inL vs y) := by
  rw [inL_append, inL_filter (P := fun v => ¬ inL vs v) (fun _ _ q => not_congr (inL_same q)), inL_filter (P := fun v => ¬ inL ms v) (fun _ _ q => not_congr (inL_same q))]
  exact or_congr Iff.rfl And.comm
theorem nd_symm {ms vs : List Value} (nd : (ms.map cl).Nodup) (ndo : (vs.map cl).Nodup) : (((ms.filter fun v => decide (¬ inL vs v)) ++ vs.filter fun v => decide (¬ inL ms v)).map cl).Nodup := by
  rw [List.map_append]
  refine List.nodup_append.mpr ⟨nd_filter nd, nd_filter ndo, ?_⟩
  intro a ha b hb e
  obtain ⟨u, hu, rfl⟩ := List.mem_map.mp ha
  obtain ⟨v, hv, rfl⟩ := List.mem_map.mp hb
  exact (of_decide_eq_true (List.mem_filter.mp hu).2) ⟨v, (List.mem_filter.mp hv).1, e.symm⟩
section
variable {w : World} {s : Shared} {mg mb : Str → Option Value} {g : Heap} {R : Result → Shared → Prop} {S dx l : Addr} {ms : List Value} {x : Value}

/-- symmetric_difference_update(other ordered set) -/
theorem symmU_spec {O dxo lo : Addr} {vs : List Value} (B : Base w mg mb g) (stg : g.StaysIn s.heap) (I : OSet w s.heap S dx l ms) (gS : g.get? S = none) (gd : g.get? dx = none) (gl : g.get? l = none)
  (I2 : OSet w s.heap O dxo lo vs) (gO : g.get? O = none) (gdo : g.get? dxo = none) (glo : g.get? lo = none) (nO : O ≠ S)
  (hR : ∀ h' dr tk l', Mod [S, dx, l] s.heap h' → s.heap.get? l' = none → OSet w h' S dx l' ((ms.filter fun v => decide (¬ inL vs v)) ++ vs.filter fun v => decide (¬ inL ms v)) → R (.ok (.ret .none)) ⟨h', s.gens, dr, tk, s.os⟩) :
    codeAny (model PR w) A2 (.call (.ref 209) ⟨[.ref S, .ref O], []⟩) R s := by
  obtain ⟨⟨es, ep, t, e, oS, od, ol, f⟩, pv, nd⟩ := I
  obtain ⟨⟨eso, epo, to, eo, oO, odo, olo, fo⟩, pvo, ndo⟩ := I2
  have z := sz5 pv nd
  have n1 := neN (neObj oS od set_ne_dict)
  have n2 := neN (neObj oS ol set_ne_list)
  have n3 := neN (neObj od ol dict_ne_list)
  have n4 := neN (neObj oS odo set_ne_dict)
  have n5 := neN (neObj oS olo set_ne_list)
  have N : Has g s.heap [(S, setO (.ref 232) (some dx) es ep t #[some (.ref l)]), (dx, dictE), (l, PySem.W.listOf ms.toArray e), (O, setO (.ref 232) (some dxo) eso epo to #[some (.ref lo)]), (dxo, dictE), (lo, PySem.W.listOf vs.toArray eo)] :=
    List.forall_mem_cons.mpr ⟨⟨oS, gS⟩, List.forall_mem_cons.mpr ⟨⟨od, gd⟩, List.forall_mem_cons.mpr ⟨⟨ol, gl⟩, List.forall_mem_cons.mpr ⟨⟨oO, gO⟩, List.forall_mem_cons.mpr ⟨⟨odo, gdo⟩, List.forall_mem_cons.mpr ⟨⟨olo, glo⟩, List.forall_mem_nil _⟩⟩⟩⟩⟩⟩
  refine enter_cell B stg N (by k_is) (by k_is) (by decide) (BindsTo.of_eq rfl) (kindsX rfl) (by decide) ?_ rfl rfl rfl
  intro g' L h₁ tk0 cells B' F' N' Y' lL kM sg hid
  obtain ⟨oc, rfl, hoc⟩ : ∃ oc : Obj, cells = [(L + 1, oc)] ∧ oc.data = .cell (some (.ref S)) := by
    cases Y' with
    | cons h r => cases r; exact ⟨_, rfl, h⟩
  have X' := B'.K
  have T' := B'.T
  dsimp only [List.map, List.cons_append, List.nil_append] at kM hid N'
  k_lt lL
  obtain ⟨lL1, lL2, lL3, lL4, lL5, lL6⟩ := lL
  try dsimp only
  have c1 := Nat.lt_succ_of_lt lL1
  have c2 := Nat.lt_succ_of_lt lL2
  have c3 := Nat.lt_succ_of_lt lL3
  have c4 := Nat.lt_succ_of_lt lL4
  have c5 := Nat.lt_succ_of_lt lL5
  have c6 := Nat.lt_succ_of_lt lL6
  have nO' := neN nO
  k_steps
  refine k_symmU_set (by assumption) X' (by assumption) (S := S) (by k_mem) (.inr rfl) f (O := O) (by k_mem) (.inr rfl) fo nO (by k_units) (fun _ _ _ => by k_upd) fun er epr tr h2 dr2 f2 F2 N2 => ?_
  try k_sweep
  k_steps
  refine halt_out (comp_halt (fun v => decide (¬ inL vs v)) (by exact rfl) (by decide) rfl (by decide) rfl (fun _ => rfl) ?_)
  k_steps
  refine halt_out (k_pyIter_list F2 N2 (l := l) (ms := ms) (e := e) (by k_mem) fun h4 I F4 N4 nI => ?_)
  have i0 := N4 (I, liO l 0) (.head _)
  refine comp_walk (l := l) (vs := ms) (e := e) (g := g') (L := L) (I := I) (news := [(L + 1, oc), (S, setO (.ref 232) (some dx) er epr tr #[some (.ref l)]), (dx, dictE), (l, PySem.W.listOf ms.toArray e), (O, setO (.ref 232) (some dxo) eso epo to #[some (.ref lo)]), (dxo, dictE), (lo, PySem.W.listOf vs.toArray eo)]) (fun v => decide (¬ inL vs v)) rfl F4 (fun p hp => N4 p (.tail _ hp)) nI i0.1 i0.2.2 i0.2.1 (by k_mem) (Nat.le_trans (len5 pv nd) (by decide)) ?_ ?_ ?_
  · intro C v s₃ m₃ E' hv hn hm F5 N5
    exact test_in (c := L + 1) (oc := oc) (r := S) rfl rfl rfl rfl (by decide) (by decide) hn hm F5 X' N5 (by k_mem) hoc (by k_mem) (.inr rfl) f2 (pv v hv) (by k_units) _ (decide_eq_true_iff.trans ⟨fun q => .inl ⟨⟨v, hv, rfl⟩, q⟩, fun q => q.elim And.right fun q => (q.1 ⟨v, hv, rfl⟩).elim⟩)
  · exact fun C v s₃ m₃ E' hv hn hm => elt_name rfl rfl (by decide) hn hm
  intro D h5 tk5 e5 F5 N5 nD
  clear F2 N2 F4 N4
  have z1 := neN (show L + 1 ≠ D from nD (L + 1, oc) (by k_mem))
  have z3 := neN (show S ≠ D from nD (S, _) (by k_mem))
  have z4 := neN (show dx ≠ D from nD (dx, _) (by k_mem))
  have z5 := neN (show l ≠ D from nD (l, _) (by k_mem))
  have z6 := neN (show O ≠ D from nD (O, _) (by k_mem))
  have z7 := neN (show dxo ≠ D from nD (dxo, _) (by k_mem))
  have z8 := neN (show lo ≠ D from nD (lo, _) (by k_mem))
  k_steps
  refine halt_out (comp_halt (fun v => decide (¬ inL ms v)) (by exact rfl) (by decide) rfl (by decide) rfl (fun _ => rfl) ?_)
  k_steps
  rename_i h6 F6 N6
  refine halt_out (k_pyIter_own B' F6 N6 (S := O) (dx := dxo) (l := lo) (ms := vs) (by k_mem) (by k_mem) (by k_mem) fo pvo ndo rfl (Nat.le_of_ble_eq_true rfl) (Nat.le_of_ble_eq_true rfl) fun h7 tk7 I7 F7 N7 nI7 => ?_)
  have i7 := N7 (I7, liO lo 0) (.head _)
  refine comp_walk (l := lo) (vs := vs) (e := eo) (g := g') (L := L) (I := I7) (news := [(D, PySem.W.listOf (ms.filter fun v => decide (¬ inL vs v)).toArray e5), (L + 1, oc), (S, setO (.ref 232) (some dx) er epr tr #[some (.ref D)]), (dx, dictE), (l, PySem.W.listOf ms.toArray e), (O, setO (.ref 232) (some dxo) eso epo to #[some (.ref lo)]), (dxo, dictE), (lo, PySem.W.listOf vs.toArray eo)]) (fun v => decide (¬ inL ms v)) rfl F7 (fun p hp => N7 p (.tail _ hp)) nI7 i7.1 i7.2.2 i7.2.1 (by k_mem) (Nat.le_trans (len5 pvo ndo) (by decide)) ?_ ?_ ?_
  · intro C v s₃ m₃ E' hv hn hm F5 N5
    exact test_in (c := L + 1) (oc := oc) (r := S) rfl rfl rfl rfl (by decide) (by decide) hn hm F5 X' N5 (by k_mem) hoc (by k_mem) (.inr rfl) f2 (pvo v hv) (by k_units) _ (decide_eq_true_iff.trans ⟨fun q => .inr ⟨q, ⟨v, hv, rfl⟩⟩, fun q => q.elim (fun q => (q.2 ⟨v, hv, rfl⟩).elim) And.left⟩)
  · exact fun C v s₃ m₃ E' hv hn hm => elt_name rfl rfl (by decide) hn hm
  intro D2 h8 tk8 e8 F8 N8 nD8
  clear F6 N6 F7 N7
  have y1 := neN (show L + 1 ≠ D2 from nD8 (L + 1, oc) (by k_mem))
  have y2 := neN (show D ≠ D2 from nD8 (D, _) (.head _))
  have y3 := neN (show S ≠ D2 from nD8 (S, _) (by k_mem))
  have y4 := neN (show dx ≠ D2 from nD8 (dx, _) (by k_mem))
  have y5 := neN (show l ≠ D2 from nD8 (l, _) (by k_mem))
  have y6 := neN (show O ≠ D2 from nD8 (O, _) (by k_mem))
  k_steps
  refine k_iadd (by assumption) (by assumption) (l := D) (r := D2) (by k_mem) (by k_mem) (fun _ => by k_upd) (Nat.le_trans (List.length_filter_le _ _) (Nat.le_trans (len5 pv nd) (by decide))) (Nat.le_trans (List.length_filter_le _ _) (Nat.le_trans (len5 pvo ndo) (by decide))) fun h9 e9 F9 N9 => ?_
  try k_sweep
  k_steps
  have pvf : ∀ v ∈ (ms.filter fun v => decide (¬ inL vs v)) ++ vs.filter fun v => decide (¬ inL ms v), Pv v := fun v hv => (List.mem_append.mp hv).elim (pv_filter pv v) (pv_filter pvo v)
  have ndf := nd_symm nd ndo
  exact hR _ _ _ D (mod_drop (mod_drop (mod_drop (mod6l (kM _ (Fr.keep (by assumption)))) oO (‹News g' L _ _› (O, _) (by k_mem)).1) odo (‹News g' L _ _› (dxo, _) (by k_mem)).1) olo (‹News g' L _ _› (lo, _) (by k_mem)).1) (hid D (‹News g' L _ _› (D, PySem.W.listOf ((ms.filter fun v => decide (¬ inL vs v)) ++ vs.filter fun v => decide (¬ inL ms v)).toArray _) (by k_mem)).2.2 (notIn6 z3 z4 z5 z6 z7 z8))
    (os_at (by assumption) (by k_mem) (by k_mem) (by k_mem) (f2.iff fun y => inL_symm.symm) pvf ndf)
end

end
/-! Ha3 -/
section
open PySem PySem.W PyProof.Rows PySem.Calls Builtin
namespace HL3
def wrapO (x : Addr) : Obj := { cls := .type "method-wrapper", data := .fields #[.builtin "list.__len__", .ref x] }
theorem type_len : typeOf (.builtin "list.__len__") = pure (.type "wrapper_descriptor") := by show builtinType _ = _; rw [builtinType_eq_fast]; kernel_rfl
theorem lk_len : typeLookup (.type "list") "__len__" = pure (some (.builtin "list.__len__")) := by rw [typeLookup_type, builtinLookup_eq_fast]; kernel_rfl
theorem no_set : typeLookup (.type "wrapper_descriptor") "__set__" = pure none := by rw [typeLookup_type, builtinLookup_eq_fast]; kernel_rfl
theorem no_delete : typeLookup (.type "wrapper_descriptor") "__delete__" = pure none := by rw [typeLookup_type, builtinLookup_eq_fast]; kernel_rfl
theorem sub_ll : isSubtype (.type "list") (.type "list") = pure true := by rw [isSubtype_type]; kernel_rfl
theorem sub_lm : isSubtype (.type "list") (.type "module") = pure false := by rw [isSubtype_type]; kernel_rfl
end HL3
section
variable {prog : Program} {w : World} {A : Around} {E : Value → Shared → Prop} {h : Heap} {g : Array GenState} {d : Drawn} {t : Nat} {os : OsState} {a : Addr} {o : Obj}
theorem len_run_get {s : Shared} {P : Fin → Shared → Prop} {M : Model} (hT : s.TypeIs (.ref a) "list") (h : P (.done (.ret (.ref s.heap.objs.size))) { s with heap := s.heap.push (HL3.wrapO a) }) :
    wpAny M A (Builtin.«wrapper_descriptor.__get__» ⟨[.builtin "list.__len__", .ref a, .type "list"], []⟩) P E s := by
  obtain ⟨hh, g, d, t, os⟩ := s
  have f := HL3.sub_ll
  unfold Builtin.«wrapper_descriptor.__get__»
  refine wpAny_bind (wpAny_of_eq (a := (.builtin "list.__len__", some (.ref a), some (.type "list"))) (by first | rfl | kernel_rfl) ?_)
  dsimp only
  k_delta "bindBuiltin"
  dsimp only
  k_delta "checkInstance"
  refine wpAny_bind (wpAny_bind (wpAny_of_eq (a := (("__len__" : Str), Value.type "list")) (by first | rfl | kernel_rfl) ?_))
  dsimp only
  unfold isInstance
  refine wpAny_bind (wpAny_bind (wpAny_typeOf hT (wpAny_of_eq f ?_)))
  rw [if_neg (by decide)]
  exact wpAny_pure (wpAny_bind (wpAny_newObj_type (wpAny_pure h)))
theorem len_entry_list {tk : Tok} {Q : Fin → Shared → Prop} (hx : h.get? a = some o) (hc : o.cls = .type "list") (hd : o.dict = none) {xs : Array Value} {k : Nat} (hda : o.data = .seq xs k) (hq : Q (.done (.ret (.ref h.objs.size))) ⟨h.push (HL3.wrapO a), g, d, t, os⟩) :
    wpAny (model prog w) A (Builtin.«object.__getattribute__» ⟨[.ref a, .str "__len__" tk], []⟩) Q E ⟨h, g, d, t, os⟩ := by
  obtain ⟨c, dct, dat, sl⟩ := o
  simp only at hc hd hda
  subst hc hd hda
  have hT : (⟨h, g, d, t, os⟩ : Shared).TypeIs (.ref a) "list" := ⟨_, hx, rfl⟩
  have hT5 : (⟨h, g, d, t, os⟩ : Shared).TypeIs (.builtin "list.__len__") "wrapper_descriptor" := HL3.type_len
  have f4 := HL3.lk_len
  have f5 := HL3.type_len
  have f6 := Mine.HL.slot_get.lookup
  have f7 := HL3.no_set
  have f8 := HL3.no_delete
  repeat (any_goals (first | assumption | wp_step))
  refine codeAny_call_builtin Mine.HL.slot_get.plain Mine.HL.entry_get (Mine.HL.slot_get.check _ _ _ _ _ _ _ _ hT5 (Mine.HL.args_get _ _ _) (len_run_get hT ?_))
  repeat (any_goals (first | assumption | wp_step))
theorem len_call_list {tk : Tok} {R : Result → Shared → Prop} (hx : h.get? a = some o) (hc : o.cls = .type "list") (hd : o.dict = none) {xs : Array Value} {k : Nat} (hda : o.data = .seq xs k) (hq : R (.ok (.ret (.ref h.objs.size))) ⟨h.push (HL3.wrapO a), g, d, t, os⟩) :
    codeAny (model prog w) A (.call (.builtin "list.__getattribute__") ⟨[.ref a, .str "__len__" tk], []⟩) R ⟨h, g, d, t, os⟩ :=
  codeAny_call_builtin F.slot_list_getattribute.plain F.entry_list_ga (F.slot_list_getattribute.check _ _ _ _ _ _ _ _ (show (⟨h, g, d, t, os⟩ : Shared).TypeIs (.ref a) "list" from ⟨_, hx, hc⟩) (F.args_list_getattribute_2 _ _) (len_entry_list hx hc hd hda hq))
theorem len_by_list {tk : Tok} {Q : Value → Shared → Prop} (hx : h.get? a = some o) (hc : o.cls = .type "list") (hd : o.dict = none) {xs : Array Value} {k : Nat} (hda : o.data = .seq xs k) (hq : Q (.ref h.objs.size) ⟨h.push (HL3.wrapO a), g, d, t, os⟩) : wpAny (model prog w) A (getAttrBy (.ref a) (.str "__len__" tk) false) Q E ⟨h, g, d, t, os⟩ := by
  have hT : (⟨h, g, d, t, os⟩ : Shared).TypeIs (.ref a) "list" := ⟨_, hx, hc⟩
  have f2 := F.slot_list_getattribute.lookup
  have f3 := F.slot_list_getattribute.bind (.ref a)
  repeat (any_goals (first | assumption | wp_step))
  refine len_call_list hx hc hd hda ?_
  repeat (any_goals (first | assumption | wp_step))
end

end
/-! Ha4 -/
section
open PySem PySem.W PyProof.Rows PySem.Calls Builtin
section
variable {w : World} {A : Around} {E : Value → Shared → Prop} {s : Shared} {x : Addr}
/-- hasattr(a list, '__len__') -/
theorem has_len_list {tk : Tok} {Q : Value → Shared → Prop} {h₀ : Heap} {L : Addr} {m : PySem.Str → Option Value} {news : List (Addr × Obj)} {xs : Array Value} {k : Nat} (F : Fr h₀ L s.heap m) (N : News h₀ L s.heap news) (hx : (x, PySem.W.listOf xs k) ∈ news)
  (h : ∀ h', Fr h₀ L h' m → News h₀ L h' news → Q (.bool true) { s with heap := h' }) :
    wpAny (model PR w) A (call (.builtin "hasattr") [.ref x, .str "__len__" tk]) Q E s := by
  have hg := (N _ hx).1
  refine call_function_any (b := Builtin.«hasattr») (by decide +kernel) (by decide +kernel) (entryFor_of_tree (by kernel_rfl)) (by unfold argsOk; kernel_rfl) ?_
  obtain ⟨hh, g, d, t, os⟩ := s
  dsimp only at hg
  have hT : (⟨hh, g, d, t, os⟩ : Shared).TypeIs (.ref x) "list" := ⟨_, hg, rfl⟩
  have e1 := HL3.lk_len
  have e2 := PySem.F.slot_list_getattribute.lookup
  unfold Builtin.«hasattr»
  refine wpAny_bind (wpAny_of_eq (a := [.ref x, .str "__len__" tk]) (by first | rfl | kernel_rfl) ?_)
  dsimp only
  k_delta "attrName"
  refine wpAny_bind (wpAny_of_eq (a := ()) (by first | rfl | kernel_rfl) ?_)
  refine if_neg' (c := (Value.ref x == Value.builtin "__main__.__loader__#opaque") = true) (fun e => nomatch eq_of_beq e) ?_
  refine wpAny_bind (wpAny_typeOf hT ?_)
  dsimp only
  refine wpAny_bind (wpAny_of_eq (a := some ("__len__" : Str)) (by first | rfl | kernel_rfl) ?_)
  dsimp only
  refine wpAny_bind (wpAny_of_eq e1 ?_)
  dsimp only
  refine wpAny_bind (wpAny_of_eq e2 ?_)
  refine if_neg' (by decide +kernel) ?_
  refine wpAny_bind ?_
  k_delta "optionalOnAModule"
  try dsimp only
  refine wpAny_bind (wpAny_of_eq (a := some ("__len__" : Str)) (by first | rfl | kernel_rfl) ?_)
  dsimp only
  unfold isInstance
  refine wpAny_bind (wpAny_bind (wpAny_typeOf hT (wpAny_of_eq HL3.sub_lm ?_)))
  rw [if_pos (by decide)]
  refine wpAny_pure ?_
  rw [if_neg (by decide)]
  unfold getAttrBy?
  refine wpAny_bind (wpAny_bind (wpAny_attempt (len_by_list hg rfl rfl rfl ?_)))
  refine wpAny_pure ?_
  refine if_neg' (by intro e; cases e) (wpAny_pure ?_)
  have N2 := News.push F N (HL3.wrapO x)
  exact h _ (F.push _) fun p hp => N2 p (List.Mem.tail _ hp)
end
end
local macro_rules | `(tactic| walk_at "call builtin:hasattr") => `(tactic| (k_here; (with_reducible show wpAny _ _ (call (Value.builtin "hasattr") [Value.ref _, _]) _ _ _); k_dflt (refine' has_len_list ?k1 ?k2 ?k3 ?_; (case k1 => k_asm); (case k2 => k_asm); (case k3 => k_mem); k_whole); intro h' F' N'; (try k_sweep)))
/-! C11 -/
section
section
variable {w : World} {s : Shared} {mg mb : Str → Option Value} {g : Heap} {R : Result → Shared → Prop} {S dx l : Addr} {ms : List Value} {x : Value}

/-- symmetric_difference_update(a list that repeats nothing) -/
theorem symmU1_spec {O : Addr} {eo : Nat} {vs : List Value} (B : Base w mg mb g) (stg : g.StaysIn s.heap) (I : OSet w s.heap S dx l ms) (gS : g.get? S = none) (gd : g.get? dx = none) (gl : g.get? l = none)
  (oO : s.heap.get? O = some (PySem.W.listOf vs.toArray eo)) (gO : g.get? O = none) (pvo : ∀ v ∈ vs, Pv v) (ndo : (vs.map cl).Nodup) (nO : O ≠ l)
  (hR : ∀ h' dr tk l', Mod [S, dx, l] s.heap h' → s.heap.get? l' = none → OSet w h' S dx l' ((ms.filter fun v => decide (¬ inL vs v)) ++ vs.filter fun v => decide (¬ inL ms v)) → R (.ok (.ret .none)) ⟨h', s.gens, dr, tk, s.os⟩) :
    codeAny (model PR w) A2 (.call (.ref 209) ⟨[.ref S, .ref O], []⟩) R s := by
  obtain ⟨⟨es, ep, t, e, oS, od, ol, f⟩, pv, nd⟩ := I
  have z := sz5 pv nd
  have n1 := neN (neObj oS od set_ne_dict)
  have n2 := neN (neObj oS ol set_ne_list)
  have n3 := neN (neObj od ol dict_ne_list)
  have nS := neObj oS oO set_ne_list
  have n4 := neN nS
  have N : Has g s.heap [(S, setO (.ref 232) (some dx) es ep t #[some (.ref l)]), (dx, dictE), (l, PySem.W.listOf ms.toArray e), (O, PySem.W.listOf vs.toArray eo)] :=
    List.forall_mem_cons.mpr ⟨⟨oS, gS⟩, List.forall_mem_cons.mpr ⟨⟨od, gd⟩, List.forall_mem_cons.mpr ⟨⟨ol, gl⟩, List.forall_mem_cons.mpr ⟨⟨oO, gO⟩, List.forall_mem_nil _⟩⟩⟩⟩
  refine enter_cell B stg N (by k_is) (by k_is) (by decide) (BindsTo.of_eq rfl) (kindsX rfl) (by decide) ?_ rfl rfl rfl
  intro g' L h₁ tk0 cells B' F' N' Y' lL kM sg hid
  obtain ⟨oc, rfl, hoc⟩ : ∃ oc : Obj, cells = [(L + 1, oc)] ∧ oc.data = .cell (some (.ref S)) := by
    cases Y' with
    | cons h r => cases r; exact ⟨_, rfl, h⟩
  have X' := B'.K
  have T' := B'.T
  dsimp only [List.map, List.cons_append, List.nil_append] at kM hid N'
  k_lt lL
  obtain ⟨lL1, lL2, lL3, lL4⟩ := lL
  try dsimp only
  have c1 := Nat.lt_succ_of_lt lL1
  have c2 := Nat.lt_succ_of_lt lL2
  have c3 := Nat.lt_succ_of_lt lL3
  have c4 := Nat.lt_succ_of_lt lL4
  have nO' := neN nO
  k_steps
  refine k_symmU_list (by assumption) X' (by assumption) (S := S) (by k_mem) (.inr rfl) f (r0 := O) (vs := vs) (by k_mem) pvo rfl (fun q => nS q.symm) (by k_units) (fun _ _ _ => by k_upd) fun er epr tr h2 dr2 tk2 f2 F2 N2 => ?_
  try k_sweep
  k_steps
  refine halt_out (comp_halt (fun v => decide (¬ inL vs v)) (by exact rfl) (by decide) rfl (by decide) rfl (fun _ => rfl) ?_)
  k_steps
  refine halt_out (k_pyIter_list F2 N2 (l := l) (ms := ms) (e := e) (by k_mem) fun h4 I F4 N4 nI => ?_)
  have i0 := N4 (I, liO l 0) (.head _)
  refine comp_walk (l := l) (vs := ms) (e := e) (g := g') (L := L) (I := I) (news := [(L + 1, oc), (S, setO (.ref 232) (some dx) er epr tr #[some (.ref l)]), (dx, dictE), (l, PySem.W.listOf ms.toArray e), (O, PySem.W.listOf vs.toArray eo)]) (fun v => decide (¬ inL vs v)) rfl F4 (fun p hp => N4 p (.tail _ hp)) nI i0.1 i0.2.2 i0.2.1 (by k_mem) (Nat.le_trans (len5 pv nd) (by decide)) ?_ ?_ ?_
  · intro C v s₃ m₃ E' hv hn hm F5 N5
    exact test_in (c := L + 1) (oc := oc) (r := S) rfl rfl rfl rfl (by decide) (by decide) hn hm F5 X' N5 (by k_mem) hoc (by k_mem) (.inr rfl) f2 (pv v hv) (by k_units) _ (decide_eq_true_iff.trans ⟨fun q => .inl ⟨⟨v, hv, rfl⟩, q⟩, fun q => q.elim And.right fun q => (q.1 ⟨v, hv, rfl⟩).elim⟩)
  · exact fun C v s₃ m₃ E' hv hn hm => elt_name rfl rfl (by decide) hn hm
  intro D h5 tk5 e5 F5 N5 nD
  clear F2 N2 F4 N4
  have z1 := neN (show L + 1 ≠ D from nD (L + 1, oc) (by k_mem))
  have z3 := neN (show S ≠ D from nD (S, _) (by k_mem))
  have z4 := neN (show dx ≠ D from nD (dx, _) (by k_mem))
  have z5 := neN (show l ≠ D from nD (l, _) (by k_mem))
  have z6 := neN (show O ≠ D from nD (O, _) (by k_mem))
  k_steps
  refine halt_out (comp_halt (fun v => decide (¬ inL ms v)) (by exact rfl) (by decide) rfl (by decide) rfl (fun _ => rfl) ?_)
  k_steps
  rename_i h6 F6 N6
  refine halt_out (k_pyIter_list F6 N6 (l := O) (ms := vs) (e := eo) (by k_mem) fun h7 I7 F7 N7 nI7 => ?_)
  have i7 := N7 (I7, liO O 0) (.head _)
  refine comp_walk (l := O) (vs := vs) (e := eo) (g := g') (L := L) (I := I7) (news := [(D, PySem.W.listOf (ms.filter fun v => decide (¬ inL vs v)).toArray e5), (L + 1, oc), (S, setO (.ref 232) (some dx) er epr tr #[some (.ref D)]), (dx, dictE), (l, PySem.W.listOf ms.toArray e), (O, PySem.W.listOf vs.toArray eo)]) (fun v => decide (¬ inL ms v)) rfl F7 (fun p hp => N7 p (.tail _ hp)) nI7 i7.1 i7.2.2 i7.2.1 (by k_mem) (Nat.le_trans (len5 pvo ndo) (by decide)) ?_ ?_ ?_
  · intro C v s₃ m₃ E' hv hn hm F5 N5
    exact test_in (c := L + 1) (oc := oc) (r := S) rfl rfl rfl rfl (by decide) (by decide) hn hm F5 X' N5 (by k_mem) hoc (by k_mem) (.inr rfl) f2 (pvo v hv) (by k_units) _ (decide_eq_true_iff.trans ⟨fun q => .inr ⟨q, ⟨v, hv, rfl⟩⟩, fun q => q.elim (fun q => (q.2 ⟨v, hv, rfl⟩).elim) And.left⟩)
  · exact fun C v s₃ m₃ E' hv hn hm => elt_name rfl rfl (by decide) hn hm
  intro D2 h8 tk8 e8 F8 N8 nD8
  clear F6 N6 F7 N7
  have y1 := neN (show L + 1 ≠ D2 from nD8 (L + 1, oc) (by k_mem))
  have y2 := neN (show D ≠ D2 from nD8 (D, _) (.head _))
  have y3 := neN (show S ≠ D2 from nD8 (S, _) (by k_mem))
  have y4 := neN (show dx ≠ D2 from nD8 (dx, _) (by k_mem))
  have y5 := neN (show l ≠ D2 from nD8 (l, _) (by k_mem))
  have y6 := neN (show O ≠ D2 from nD8 (O, _) (by k_mem))
  k_steps
  refine k_iadd (by assumption) (by assumption) (l := D) (r := D2) (by k_mem) (by k_mem) (fun _ => by k_upd) (Nat.le_trans (List.length_filter_le _ _) (Nat.le_trans (len5 pv nd) (by decide))) (Nat.le_trans (List.length_filter_le _ _) (Nat.le_trans (len5 pvo ndo) (by decide))) fun h9 e9 F9 N9 => ?_
  try k_sweep
  k_steps
  have pvf : ∀ v ∈ (ms.filter fun v => decide (¬ inL vs v)) ++ vs.filter fun v => decide (¬ inL ms v), Pv v := fun v hv => (List.mem_append.mp hv).elim (pv_filter pv v) (pv_filter pvo v)
  have ndf := nd_symm nd ndo
  exact hR _ _ _ D (mod_drop (mod4l (kM _ (Fr.keep (by assumption)))) oO (‹News g' L _ _› (O, _) (by k_mem)).1) (hid D (‹News g' L _ _› (D, PySem.W.listOf ((ms.filter fun v => decide (¬ inL vs v)) ++ vs.filter fun v => decide (¬ inL ms v)).toArray _) (by k_mem)).2.2 (notIn4 z3 z4 z5 z6))
    (os_at (by assumption) (by k_mem) (by k_mem) (by k_mem) (f2.iff fun y => inL_symm.symm) pvf ndf)
end

end
/-! C12 -/
section
section
variable {w : World} {s : Shared} {mg mb : Str → Option Value} {g : Heap} {R : Result → Shared → Prop} {S dx l : Addr} {ms : List Value} {x : Value}

/-- symmetric_difference(other ordered set) -/
theorem symm1o_spec {O dxo lo : Addr} {vs : List Value} (B : Base w mg mb g) (stg : g.StaysIn s.heap) (I : OSet w s.heap S dx l ms) (gS : g.get? S = none) (gd : g.get? dx = none) (gl : g.get? l = none)
  (I2 : OSet w s.heap O dxo lo vs) (gO : g.get? O = none) (gdo : g.get? dxo = none) (glo : g.get? lo = none) (nO : O ≠ S)
  (hR : ∀ h' dr tk S' dx' l', Mod [] s.heap h' → s.heap.get? S' = none → s.heap.get? dx' = none → s.heap.get? l' = none → OSet w h' S' dx' l' (addAll (ms.filter fun v => decide (¬ inL vs v)) (vs.filter fun v => decide (¬ inL ms v))) → R (.ok (.ret (.ref S'))) ⟨h', s.gens, dr, tk, s.os⟩) :
    codeAny (model PR w) A2 (.call (.ref 173) ⟨[.ref S, .ref O], []⟩) R s := by
  obtain ⟨⟨es, ep, t, e, oS, od, ol, f⟩, pv, nd⟩ := I
  obtain ⟨⟨eso, epo, to, eo, oO, odo, olo, fo⟩, pvo, ndo⟩ := I2
  have z := sz5 pv nd
  have n1 := neN (neObj oS od set_ne_dict)
  have n2 := neN (neObj oS ol set_ne_list)
  have n3 := neN (neObj od ol dict_ne_list)
  have n4 := neN (neObj oS odo set_ne_dict)
  have n5 := neN (neObj oS olo set_ne_list)
  have N : Has g s.heap [(S, setO (.ref 232) (some dx) es ep t #[some (.ref l)]), (dx, dictE), (l, PySem.W.listOf ms.toArray e), (O, setO (.ref 232) (some dxo) eso epo to #[some (.ref lo)]), (dxo, dictE), (lo, PySem.W.listOf vs.toArray eo)] :=
    List.forall_mem_cons.mpr ⟨⟨oS, gS⟩, List.forall_mem_cons.mpr ⟨⟨od, gd⟩, List.forall_mem_cons.mpr ⟨⟨ol, gl⟩, List.forall_mem_cons.mpr ⟨⟨oO, gO⟩, List.forall_mem_cons.mpr ⟨⟨odo, gdo⟩, List.forall_mem_cons.mpr ⟨⟨olo, glo⟩, List.forall_mem_nil _⟩⟩⟩⟩⟩⟩
  refine enter_cell B stg N (by k_is) (by k_is) (by decide) (BindsTo.of_eq rfl) (kindsX rfl) (by decide) ?_ rfl rfl rfl
  intro g' L h₁ tk0 cells B' F' N' Y' lL kM sg hid
  obtain ⟨oc, ov, rfl, hoc, hov⟩ : ∃ oc ov : Obj, cells = [(L + 1 + 1, ov), (L + 1, oc)] ∧ oc.data = .cell (some (.ref S)) ∧ ov.data = .cell none := by
    cases Y' with
    | cons h r => cases r with
      | cons h2 r2 => cases r2; exact ⟨_, _, rfl, h2, h⟩
  have X' := B'.K
  have T' := B'.T
  dsimp only [List.map, List.cons_append, List.nil_append] at kM hid N'
  k_lt lL
  obtain ⟨lL1, lL2, lL3, lL4, lL5, lL6⟩ := lL
  try dsimp only
  have c1 := Nat.lt_succ_of_lt lL1
  have c2 := Nat.lt_succ_of_lt lL2
  have c3 := Nat.lt_succ_of_lt lL3
  have c4 := Nat.lt_succ_of_lt lL4
  have c5 := Nat.lt_succ_of_lt lL5
  have c6 := Nat.lt_succ_of_lt lL6
  have d1 := Nat.lt_succ_of_lt c1
  have d2 := Nat.lt_succ_of_lt c2
  have d3 := Nat.lt_succ_of_lt c3
  have d4 := Nat.lt_succ_of_lt c4
  have d5 := Nat.lt_succ_of_lt c5
  have d6 := Nat.lt_succ_of_lt c6
  have nO' := neN nO
  k_steps
  rename_i ow dw h2 F2 N2
  refine halt_out (comp_halt (fun v => decide (¬ inL vs v)) (by exact rfl) (by decide) rfl (by decide) rfl (fun _ => rfl) ?_)
  k_steps
  refine halt_out (k_pyIter_list F2 N2 (l := l) (ms := ms) (e := e) (by k_mem) fun h4 I F4 N4 nI => ?_)
  have i0 := N4 (I, liO l 0) (.head _)
  refine comp_walk (l := l) (vs := ms) (e := e) (g := g') (L := L) (I := I) (news := [(L + 1 + 1, ow), (L + 1, oc), (S, setO (.ref 232) (some dx) es ep t #[some (.ref l)]), (dx, dictE), (l, PySem.W.listOf ms.toArray e), (O, setO (.ref 232) (some dxo) eso epo to #[some (.ref lo)]), (dxo, dictE), (lo, PySem.W.listOf vs.toArray eo)]) (fun v => decide (¬ inL vs v)) rfl F4 (fun p hp => N4 p (.tail _ hp)) nI i0.1 i0.2.2 i0.2.1 (by k_mem) (Nat.le_trans (len5 pv nd) (by decide)) ?_ ?_ ?_
  · intro C v s₃ m₃ E' hv hn hm F5 N5
    exact test_notin (c := L + 1 + 1) (oc := ow) (r := O) rfl rfl rfl rfl (by decide) (by decide) hn hm F5 X' N5 (by k_mem) dw (by k_mem) (.inr rfl) fo (pv v hv) (by k_units) _ decide_eq_true_iff
  · exact fun C v s₃ m₃ E' hv hn hm => elt_name rfl rfl (by decide) hn hm
  intro D h5 tk5 e5 F5 N5 nD
  clear F2 N2 F4 N4
  k_steps
  have pvf := pv_filter (p := fun v => decide (¬ inL vs v)) pv
  have ndf := nd_filter (p := fun v => decide (¬ inL vs v)) nd
  refine k_from B' (by assumption) (by assumption) (by k_mem) pvf ndf rfl (Nat.le_of_ble_eq_true rfl) (Nat.le_of_ble_eq_true rfl) fun es6 ep6 t6 h6 tk6 S6 dx6 f6 F6 N6 b61 b62 b63 => ?_
  k_steps
  refine halt_out (comp_halt (fun v => decide (¬ inL ms v)) (by exact rfl) (by decide) rfl (by decide) rfl (fun _ => rfl) ?_)
  k_steps
  refine halt_out (k_pyIter_own B' (by assumption) (by assumption) (S := O) (dx := dxo) (l := lo) (ms := vs) (by k_mem) (by k_mem) (by k_mem) fo pvo ndo rfl (Nat.le_of_ble_eq_true rfl) (Nat.le_of_ble_eq_true rfl) fun h7 tk7 I7 F7 N7 nI7 => ?_)
  have i7 := N7 (I7, liO lo 0) (.head _)
  refine comp_walk (l := lo) (vs := vs) (e := eo) (g := g') (L := L) (I := I7) (news := [(S6, setO (.ref 232) (some dx6) es6 ep6 t6 #[some (.ref D)]), (dx6, dictE), (D, PySem.W.listOf (ms.filter fun v => decide (¬ inL vs v)).toArray e5), (L + 1 + 1, ow), (L + 1, oc), (S, setO (.ref 232) (some dx) es ep t #[some (.ref l)]), (dx, dictE), (l, PySem.W.listOf ms.toArray e), (O, setO (.ref 232) (some dxo) eso epo to #[some (.ref lo)]), (dxo, dictE), (lo, PySem.W.listOf vs.toArray eo)]) (fun v => decide (¬ inL ms v)) rfl F7 (fun p hp => N7 p (.tail _ hp)) nI7 i7.1 i7.2.2 i7.2.1 (by k_mem) (Nat.le_trans (len5 pvo ndo) (by decide)) ?_ ?_ ?_
  · intro C v s₃ m₃ E' hv hn hm F8 N8
    exact test_notin (c := L + 1) (oc := oc) (r := S) rfl rfl rfl rfl (by decide) (by decide) hn hm F8 X' N8 (by k_mem) hoc (by k_mem) (.inr rfl) f (pvo v hv) (by k_units) _ decide_eq_true_iff
  · exact fun C v s₃ m₃ E' hv hn hm => elt_name rfl rfl (by decide) hn hm
  intro D2 h8 tk8 e8 F8 N8 nD8
  k_steps
  have pvg := pv_filter (p := fun v => decide (¬ inL ms v)) pvo
  refine use_at (A := A1) (update1_spec B' F8.keep (os_at (S := S6) (dx := dx6) (l := D) N8 (by k_mem) (by k_mem) (by k_mem) f6 pvf ndf) (N8 (S6, _) (by k_mem)).2.2 (N8 (dx6, _) (by k_mem)).2.2 (N8 (D, PySem.W.listOf (ms.filter fun v => decide (¬ inL vs v)).toArray _) (by k_mem)).2.2 (N8 (D2, _) (.head _)).1 (N8 (D2, _) (.head _)).2.2 pvg (fun q => nD8 (D, _) (.tail _ (.tail _ (.head _))) q.symm) fun h9 tk9 md9 I9 => ?_) rfl (Nat.le_of_ble_eq_true rfl) rfl rfl (Nat.le_of_ble_eq_true rfl)
  have y0 := neN b63
  have y1 := neN (show S6 ≠ D2 from nD8 (S6, _) (by k_mem))
  have y2 := neN (show dx6 ≠ D2 from nD8 (dx6, _) (by k_mem))
  have y3 := neN (show D ≠ D2 from nD8 (D, _) (.tail _ (.tail _ (.head _))))
  have w1 := neN (show D ≠ S6 from b61 (D, _) (.head _))
  have w2 := neN (show D ≠ dx6 from b62 (D, _) (.head _))
  have x1 := neN (show S ≠ D from nD (S, _) (by k_mem))
  have x2 := neN (show dx ≠ D from nD (dx, _) (by k_mem))
  have x3 := neN (show l ≠ D from nD (l, _) (by k_mem))
  have x4 := neN (show O ≠ D from nD (O, _) (by k_mem))
  have x5 := neN (show dxo ≠ D from nD (dxo, _) (by k_mem))
  have x6 := neN (show lo ≠ D from nD (lo, _) (by k_mem))
  have x7 := neN (show L + 1 ≠ D from nD (L + 1, oc) (by k_mem))
  have x8 := neN (show L + 1 + 1 ≠ D from nD (L + 1 + 1, ow) (by k_mem))
  have v0 := neN (show L + 1 + 1 ≠ S6 from b61 (L + 1 + 1, ow) (by k_mem))
  have v1 := neN (show L + 1 ≠ S6 from b61 (L + 1, oc) (by k_mem))
  have v2 := neN (show S ≠ S6 from b61 (S, _) (by k_mem))
  have v3 := neN (show dx ≠ S6 from b61 (dx, _) (by k_mem))
  have v4 := neN (show l ≠ S6 from b61 (l, _) (by k_mem))
  have v5 := neN (show O ≠ S6 from b61 (O, _) (by k_mem))
  have v6 := neN (show dxo ≠ S6 from b61 (dxo, _) (by k_mem))
  have v7 := neN (show lo ≠ S6 from b61 (lo, _) (by k_mem))
  obtain ⟨es9, ep9, t9, e9, F9, N9, f9⟩ := led_os F8 N8 md9 I9 (by k_mem) (fun _ _ _ => by k_upd) (fun _ _ _ _ => by k_upd)
  clear F8 N8
  k_steps
  exact hR _ _ _ S6 dx6 D (mod_drop (mod_drop (mod_drop (mod_drop (mod_drop (mod_drop (kM _ (Fr.keep F9)) oS (N9 (S, _) (by k_mem)).1) od (N9 (dx, _) (by k_mem)).1) ol (N9 (l, _) (by k_mem)).1) oO (N9 (O, _) (by k_mem)).1) odo (N9 (dxo, _) (by k_mem)).1) olo (N9 (lo, _) (by k_mem)).1) (hid S6 (N9 (S6, _) (by k_mem)).2.2 (notIn6 (b61 (S, _) (by k_mem)) (b61 (dx, _) (by k_mem)) (b61 (l, _) (by k_mem)) (b61 (O, _) (by k_mem)) (b61 (dxo, _) (by k_mem)) (b61 (lo, _) (by k_mem)))) (hid dx6 (N9 (dx6, _) (by k_mem)).2.2 (notIn6 (b62 (S, _) (by k_mem)) (b62 (dx, _) (by k_mem)) (b62 (l, _) (by k_mem)) (b62 (O, _) (by k_mem)) (b62 (dxo, _) (by k_mem)) (b62 (lo, _) (by k_mem)))) (hid D (N9 (D, PySem.W.listOf (addAll (ms.filter fun v => decide (¬ inL vs v)) (vs.filter fun v => decide (¬ inL ms v))).toArray _) (by k_mem)).2.2 (notIn6 (nD (S, _) (by k_mem)) (nD (dx, _) (by k_mem)) (nD (l, _) (by k_mem)) (nD (O, _) (by k_mem)) (nD (dxo, _) (by k_mem)) (nD (lo, _) (by k_mem)))) (os_at N9 (by k_mem) (by k_mem) (by k_mem) f9 (pv_addAll pvf pvg) (nd_addAll ndf))
end

end
/-! Sn3 -/
section
section
variable {w : World} {A : Around} {E : Value → Shared → Prop} {s : Shared} {S l : Addr} {o : Obj} {es : Array (Int × Value)} {ep : Nat} {t : SetTable}
theorem code_init_list {items : Array Value} {Q : Value → Shared → Prop} (L : SetAt w s.heap S o es ep t) (h0 : t.fill = 0) (hl : s.heap.IsList l items) (hP : ∀ v ∈ items, Pv v) (hh : A.handled = none) (hu : A.units + 8 < cLine) (ne : l ≠ S)
    (h : ∀ es' h' tk, Mod [S] s.heap h' → SetIs w S o es' h' → (∀ y, memS es' y ↔ (memS es y ∨ inFrom items 0 y)) → Q .none { s with heap := h', toks := tk }) :
    codeAny (model PR w) A (.call (.builtin "set.__init__") ⟨[.ref S, .ref l], []⟩) (wants Q E) s := by
  refine codeAny_call_builtin F.called_set.init.plain F.entry_set_init (check_init_own L.like (wpAny_mono (init_body L h0 hl hP (by exact hh) (by simp only [Around.in1_units]; omega) ne h) (fun fin s' h' => ?_) fun _ _ h' => h'))
  obtain ⟨v, rfl, hv⟩ := h'; exact hv
end
section
variable {w : World} {A : Around} {E : Value → Shared → Prop} {s : Shared} {l : Addr}
theorem code_set_new (a : Value) {R : Result → Shared → Prop} (h : R (.ok (.ret (.ref s.heap.objs.size))) { s with heap := s.heap.push (setNew w) }) :
    codeAny (model PR w) A (.call (.builtin "set.__new__") ⟨[.type "set", a], []⟩) R s := by
  refine codeAny_of_tree ?_
  show wpAny _ A.in1 (do checkBuiltinCall "set.__new__" ⟨[.type "set", a], []⟩; again (.builtin "set.__new__" ⟨[.type "set", a], []⟩)) _ _ s
  refine wpAny_bind (wpAny_of_eq (F.newCall_set_1 a) (wpAny_pure ⟨plainId_quiet F.plain_set_new _, codeAny_builtin F.entry_set_new ?_⟩))
  rw [Around.under_plainId F.plain_set_new _]
  unfold Builtin.«set.__new__» Builtin.Frozenset.newClass
  have hsub := sub_set_self
  refine wpAny_bind (wpAny_bind (wpAny_of_eq (a := true) (by first | rfl | kernel_rfl) ?_))
  rw [if_neg (by decide)]
  refine wpAny_bind (wpAny_of_eq hsub ?_)
  rw [if_neg (by decide)]
  exact wpAny_pure (wpAny_bind (newSet_ok (wpAny_pure h)))

theorem set_of1 {ms : List Value} {e : Nat} {Q : Value → Shared → Prop} (hl : s.heap.get? l = some (PySem.W.listOf ms.toArray e))
    (h : codeAny (model PR w) A.in1 (.call (.builtin "set.__init__") ⟨[.ref s.heap.objs.size, .ref l], []⟩) (wants (fun v s' => v = .none ∧ Q (.ref s.heap.objs.size) s') E) { s with heap := s.heap.push (setNew w) }) :
    wpAny (model PR w) A (call (.type "set") [.ref l]) Q E s := by
  obtain ⟨c, tl, hmro⟩ := PySem.F.called_set.mro
  have hmade := PySem.F.called_set.made
  have hsub := PySem.F.called_set.sub
  refine wpAny_call (codeAny_of_tree ?_)
  show wpAny _ _ (callAny (.type "set") _) _ _ _
  refine wpAny_pure ⟨Code.quiet_builtin _ (by decide +kernel), codeAny_builtin PySem.F.entry_type_call ?_⟩
  rw [Around.under_plain (weight_type_call_type "set" [.ref l] []) rfl]
  have h1 := PySem.F.called_set.notType
  have h2 := PySem.F.called_set.canCreate
  have hct := PySem.F.typeCall_set_1 (.ref l)
  repeat (any_goals (first | assumption | wp_step))
  refine code_set_new (.ref l) ?_
  have hS : (s.heap.push (setNew w)).get? s.heap.objs.size = some (setNew w) := Heap.get?_push_size _ rfl
  have hT : Shared.TypeIs { s with heap := s.heap.push (setNew w) } (.ref s.heap.objs.size) "set" := ⟨_, hS, rfl⟩
  have hli := PySem.F.called_set.init.lookup
  have hbi := PySem.F.called_set.init.bind (.ref s.heap.objs.size)
  repeat (any_goals (first | assumption | wp_step))
  refine codeAny_mono h fun r s' z => ?_
  rcases r with e | (v | _ | _ | _)
  · exact z
  all_goals first | exact z.elim | (obtain ⟨rfl, q⟩ := z; repeat (any_goals (first | assumption | wp_step)))
variable {g : Heap} {L : Addr} {m : Str → Option Value} {news : List (Addr × Obj)} {ms : List Value} {e : Nat}
/-- set(list) at the ledger -/
theorem k_setof {Q : Value → Shared → Prop} (F : Fr g L s.heap m) (X : (hd.heap_39 w.params).In g) (N : News g L s.heap news) (hl : (l, PySem.W.listOf ms.toArray e) ∈ news) (hP : ∀ v ∈ ms, Pv v) (hh : A.handled = none) (hu : A.units + 9 < cLine)
    (h : ∀ r er epr tr h' tk, SFact w er tr (inL ms) → Fr g L h' m → News g L h' ((r, setO (.type "set") none er epr tr #[]) :: news) → (∀ p ∈ news, p.1 ≠ r) → Q (.ref r) { s with heap := h', toks := tk }) :
    wpAny (model PR w) A (call (.type "set") [.ref l]) Q E s := by
  have K1 := X.keeps F.keep
  have hlt := (N _ hl).1
  have n0 : s.heap.get? s.heap.objs.size = none := Heap.get?_none_of_le (Nat.le_refl _)
  refine set_of1 hlt (code_init_list (s := { s with heap := s.heap.push (setNew w) }) (new_at K1) rfl (listAt (Heap.get?_push_of_some _ hlt)) (fun v hv => hP v (by simpa using hv)) (by exact hh) (by simp only [Around.in1_units]; omega) (neNat (Heap.lt_size hlt)) fun es' h' tk md hI hy => ⟨rfl, ?_⟩)
  obtain ⟨epr, tr, L'⟩ := hI
  have md0 : Mod [] s.heap h' := fun b o q _ => md b o (Heap.get?_push_of_some _ q) (by simpa using neNat (Heap.lt_size q))
  obtain ⟨F', N'⟩ := led_new F N md0 n0 L'.like.get
  exact h _ es' epr tr h' tk ⟨L'.ok, fun y => (hy y).trans (by rw [inFrom_inL]; simp [memS])⟩ F' N' fun p hp => fresh_ne N (a := p.1) (o := p.2) hp n0
end
end
local macro_rules | `(tactic| walk_at "call type:set") => `(tactic| (k_here; (with_reducible show wpAny _ _ (call (Value.type "set") [Value.ref _]) _ _ _); k_dflt (refine' k_setof ?k1 ?k2 ?k3 ?k4 ?k5 ?k6 ?k7 ?_; (case k1 => k_asm); (case k2 => k_asm); (case k3 => k_asm); (case k4 => k_mem); (case k5 => assumption); (case k6 => exact rfl); (case k7 => k_units); k_whole); intro r' er' ep' t' h' tk f' F' N' nr'))
/-! C13 -/
section
section
variable {w : World} {s : Shared} {mg mb : Str → Option Value} {g : Heap} {R : Result → Shared → Prop} {S dx l : Addr} {ms : List Value} {x : Value}

/-- symmetric_difference(a list) -/
theorem symm1_spec {O : Addr} {eo : Nat} {vs : List Value} (B : Base w mg mb g) (stg : g.StaysIn s.heap) (I : OSet w s.heap S dx l ms) (gS : g.get? S = none) (gd : g.get? dx = none) (gl : g.get? l = none)
  (oO : s.heap.get? O = some (PySem.W.listOf vs.toArray eo)) (gO : g.get? O = none) (pvo : ∀ v ∈ vs, Pv v) (hlen : vs.length ≤ 1000)
  (hR : ∀ h' dr tk S' dx' l', Mod [] s.heap h' → s.heap.get? S' = none → s.heap.get? dx' = none → s.heap.get? l' = none → OSet w h' S' dx' l' (addAll (ms.filter fun v => decide (¬ inL vs v)) (vs.filter fun v => decide (¬ inL ms v))) → R (.ok (.ret (.ref S'))) ⟨h', s.gens, dr, tk, s.os⟩) :
    codeAny (model PR w) A2 (.call (.ref 173) ⟨[.ref S, .ref O], []⟩) R s := by
  obtain ⟨⟨es, ep, t, e, oS, od, ol, f⟩, pv, nd⟩ := I
  have z := sz5 pv nd
  have n1 := neN (neObj oS od set_ne_dict)
  have n2 := neN (neObj oS ol set_ne_list)
  have n3 := neN (neObj od ol dict_ne_list)
  have n4 := neN (neObj oS oO set_ne_list)
  have N : Has g s.heap [(S, setO (.ref 232) (some dx) es ep t #[some (.ref l)]), (dx, dictE), (l, PySem.W.listOf ms.toArray e), (O, PySem.W.listOf vs.toArray eo)] :=
    List.forall_mem_cons.mpr ⟨⟨oS, gS⟩, List.forall_mem_cons.mpr ⟨⟨od, gd⟩, List.forall_mem_cons.mpr ⟨⟨ol, gl⟩, List.forall_mem_cons.mpr ⟨⟨oO, gO⟩, List.forall_mem_nil _⟩⟩⟩⟩
  refine enter_cell B stg N (by k_is) (by k_is) (by decide) (BindsTo.of_eq rfl) (kindsX rfl) (by decide) ?_ rfl rfl rfl
  intro g' L h₁ tk0 cells B' F' N' Y' lL kM sg hid
  obtain ⟨oc, ov, rfl, hoc, hov⟩ : ∃ oc ov : Obj, cells = [(L + 1 + 1, ov), (L + 1, oc)] ∧ oc.data = .cell (some (.ref S)) ∧ ov.data = .cell none := by
    cases Y' with
    | cons h r => cases r with
      | cons h2 r2 => cases r2; exact ⟨_, _, rfl, h2, h⟩
  have X' := B'.K
  have T' := B'.T
  dsimp only [List.map, List.cons_append, List.nil_append] at kM hid N'
  k_lt lL
  obtain ⟨lL1, lL2, lL3, lL4⟩ := lL
  try dsimp only
  have c1 := Nat.lt_succ_of_lt lL1
  have c2 := Nat.lt_succ_of_lt lL2
  have c3 := Nat.lt_succ_of_lt lL3
  have c4 := Nat.lt_succ_of_lt lL4
  have d1 := Nat.lt_succ_of_lt c1
  have d2 := Nat.lt_succ_of_lt c2
  have d3 := Nat.lt_succ_of_lt c3
  have d4 := Nat.lt_succ_of_lt c4
  k_steps
  rename_i r1 er1 ep1 t1 h1 tk1 f1 F1 N1 nr
  have q0 := neN (show L + 1 + 1 ≠ r1 from nr (L + 1 + 1, ov) (by k_mem))
  have q1 := neN (show L + 1 ≠ r1 from nr (L + 1, oc) (by k_mem))
  have q2 := neN (show S ≠ r1 from nr (S, _) (by k_mem))
  have q3 := neN (show dx ≠ r1 from nr (dx, _) (by k_mem))
  have q4 := neN (show l ≠ r1 from nr (l, _) (by k_mem))
  have q5 := neN (show O ≠ r1 from nr (O, _) (by k_mem))
  k_steps
  rename_i h2 ow F2 N2 dw
  refine halt_out (comp_halt (fun v => decide (¬ inL vs v)) (by exact rfl) (by decide) rfl (by decide) rfl (fun _ => rfl) ?_)
  k_steps
  refine halt_out (k_pyIter_list F2 N2 (l := l) (ms := ms) (e := e) (by k_mem) fun h4 I F4 N4 nI => ?_)
  have i0 := N4 (I, liO l 0) (.head _)
  refine comp_walk (l := l) (vs := ms) (e := e) (g := g') (L := L) (I := I) (news := [(r1, setO (.type "set") none er1 ep1 t1 #[]), (L + 1 + 1, ow), (L + 1, oc), (S, setO (.ref 232) (some dx) es ep t #[some (.ref l)]), (dx, dictE), (l, PySem.W.listOf ms.toArray e), (O, PySem.W.listOf vs.toArray eo)]) (fun v => decide (¬ inL vs v)) rfl F4 (fun p hp => N4 p (.tail _ hp)) nI i0.1 i0.2.2 i0.2.1 (by k_mem) (Nat.le_trans (len5 pv nd) (by decide)) ?_ ?_ ?_
  · intro C v s₃ m₃ E' hv hn hm F5 N5
    exact test_notin (c := L + 1 + 1) (oc := ow) (r := r1) rfl rfl rfl rfl (by decide) (by decide) hn hm F5 X' N5 (by k_mem) dw (by k_mem) (.inl rfl) f1 (pv v hv) (by k_units) _ decide_eq_true_iff
  · exact fun C v s₃ m₃ E' hv hn hm => elt_name rfl rfl (by decide) hn hm
  intro D h5 tk5 e5 F5 N5 nD
  clear F2 N2 F4 N4
  k_steps
  have pvf := pv_filter (p := fun v => decide (¬ inL vs v)) pv
  have ndf := nd_filter (p := fun v => decide (¬ inL vs v)) nd
  refine k_from B' (by assumption) (by assumption) (by k_mem) pvf ndf rfl (Nat.le_of_ble_eq_true rfl) (Nat.le_of_ble_eq_true rfl) fun es6 ep6 t6 h6 tk6 S6 dx6 f6 F6 N6 b61 b62 b63 => ?_
  k_steps
  rename_i h6 F6 N6
  refine halt_out (comp_halt (fun v => decide (¬ inL ms v)) (by exact rfl) (by decide) rfl (by decide) rfl (fun _ => rfl) ?_)
  k_steps
  refine halt_out (k_pyIter_list F6 N6 (l := O) (ms := vs) (e := eo) (by k_mem) fun h7 I7 F7 N7 nI7 => ?_)
  have i7 := N7 (I7, liO O 0) (.head _)
  refine comp_walk (l := O) (vs := vs) (e := eo) (g := g') (L := L) (I := I7) (news := [(S6, setO (.ref 232) (some dx6) es6 ep6 t6 #[some (.ref D)]), (dx6, dictE), (D, PySem.W.listOf (ms.filter fun v => decide (¬ inL vs v)).toArray e5), (r1, setO (.type "set") none er1 ep1 t1 #[]), (L + 1 + 1, ow), (L + 1, oc), (S, setO (.ref 232) (some dx) es ep t #[some (.ref l)]), (dx, dictE), (l, PySem.W.listOf ms.toArray e), (O, PySem.W.listOf vs.toArray eo)]) (fun v => decide (¬ inL ms v)) rfl F7 (fun p hp => N7 p (.tail _ hp)) nI7 i7.1 i7.2.2 i7.2.1 (by k_mem) hlen ?_ ?_ ?_
  · intro C v s₃ m₃ E' hv hn hm F8 N8
    exact test_notin (c := L + 1) (oc := oc) (r := S) rfl rfl rfl rfl (by decide) (by decide) hn hm F8 X' N8 (by k_mem) hoc (by k_mem) (.inr rfl) f (pvo v hv) (by k_units) _ decide_eq_true_iff
  · exact fun C v s₃ m₃ E' hv hn hm => elt_name rfl rfl (by decide) hn hm
  intro D2 h8 tk8 e8 F8 N8 nD8
  k_steps
  have pvg := pv_filter (p := fun v => decide (¬ inL ms v)) pvo
  refine use_at (A := A1) (update1_spec B' F8.keep (os_at (S := S6) (dx := dx6) (l := D) N8 (by k_mem) (by k_mem) (by k_mem) f6 pvf ndf) (N8 (S6, _) (by k_mem)).2.2 (N8 (dx6, _) (by k_mem)).2.2 (N8 (D, PySem.W.listOf (ms.filter fun v => decide (¬ inL vs v)).toArray _) (by k_mem)).2.2 (N8 (D2, _) (.head _)).1 (N8 (D2, _) (.head _)).2.2 pvg (fun q => nD8 (D, _) (.tail _ (.tail _ (.head _))) q.symm) fun h9 tk9 md9 I9 => ?_) rfl (Nat.le_of_ble_eq_true rfl) rfl rfl (Nat.le_of_ble_eq_true rfl)
  have F9 := fr_mod F8 md9 (notIn3 (neN (N8 (S6, _) (by k_mem)).2.1) (neN (N8 (dx6, _) (by k_mem)).2.1) (neN (N8 (D, PySem.W.listOf (ms.filter fun v => decide (¬ inL vs v)).toArray _) (by k_mem)).2.1)) (by
    intro a ha
    simp only [List.mem_cons, List.not_mem_nil, or_false] at ha
    rcases ha with ha | ha | ha <;> rw [ha]
    · exact (N8 (S6, setO (.ref 232) (some dx6) es6 ep6 t6 #[some (.ref D)]) (by k_mem)).2.2
    · exact (N8 (dx6, dictE) (by k_mem)).2.2
    · exact (N8 (D, PySem.W.listOf (ms.filter fun v => decide (¬ inL vs v)).toArray _) (by k_mem)).2.2)
  obtain ⟨⟨es9, ep9, t9, e9, oS9, od9, ol9, f9⟩, pv9, nd9⟩ := I9
  have gS9 := md9 S _ (N8 (S, _) (by k_mem)).1 (notIn3 (neN (b61 (S, _) (by k_mem))).symm (neN (b62 (S, _) (by k_mem))).symm (neN (nD (S, _) (by k_mem))).symm)
  have gd9 := md9 dx _ (N8 (dx, _) (by k_mem)).1 (notIn3 (neN (b61 (dx, _) (by k_mem))).symm (neN (b62 (dx, _) (by k_mem))).symm (neN (nD (dx, _) (by k_mem))).symm)
  have gl9 := md9 l _ (N8 (l, PySem.W.listOf ms.toArray e) (by k_mem)).1 (notIn3 (neN (b61 (l, _) (by k_mem))).symm (neN (b62 (l, _) (by k_mem))).symm (neN (nD (l, _) (by k_mem))).symm)
  have gO9 := md9 O _ (N8 (O, PySem.W.listOf vs.toArray eo) (by k_mem)).1 (notIn3 (neN (b61 (O, _) (by k_mem))).symm (neN (b62 (O, _) (by k_mem))).symm (neN (nD (O, _) (by k_mem))).symm)
  have N9 : News g' L h9 [(S6, setO (.ref 232) (some dx6) es9 ep9 t9 #[some (.ref D)])] := List.forall_mem_cons.mpr ⟨⟨oS9, (N8 (S6, setO (.ref 232) (some dx6) es6 ep6 t6 #[some (.ref D)]) (by k_mem)).2⟩, List.forall_mem_nil _⟩
  have hS6 := hid S6 (N8 (S6, _) (by k_mem)).2.2 (notIn4 (b61 (S, _) (by k_mem)) (b61 (dx, _) (by k_mem)) (b61 (l, _) (by k_mem)) (b61 (O, _) (by k_mem)))
  have hdx6 := hid dx6 (N8 (dx6, _) (by k_mem)).2.2 (notIn4 (b62 (S, _) (by k_mem)) (b62 (dx, _) (by k_mem)) (b62 (l, _) (by k_mem)) (b62 (O, _) (by k_mem)))
  have hD6 := hid D (N8 (D, PySem.W.listOf (ms.filter fun v => decide (¬ inL vs v)).toArray _) (by k_mem)).2.2 (notIn4 (nD (S, _) (by k_mem)) (nD (dx, _) (by k_mem)) (nD (l, _) (by k_mem)) (nD (O, _) (by k_mem)))
  clear F8 N8
  k_steps
  exact hR _ _ _ S6 dx6 D (mod_drop (mod_drop (mod_drop (mod_drop (kM _ (Fr.keep F9)) oS gS9) od gd9) ol gl9) oO gO9) hS6 hdx6 hD6 ⟨⟨es9, ep9, t9, e9, oS9, od9, ol9, f9⟩, pv9, nd9⟩
end

end
/-! W1 -/
section
theorem mod_all {g g' h h₁ : Heap} {L : Addr} {news : List (Addr × Obj)} (H : Has g h news) (N : News g' L h₁ news) (m : Mod (news.map (·.1)) h h₁) : Mod [] h h₁ := fun b o e _ => by
  by_cases q : b ∈ news.map (·.1)
  · obtain ⟨p, hp, rfl⟩ := List.mem_map.mp q
    have a := (H p hp).1
    rw [e] at a; cases a
    exact (N p hp).1
  · exact m b o e q
theorem fr3 {g h h' : Heap} {L a b c : Addr} {m : Str → Option Value} {news : List (Addr × Obj)} {o1 o2 o3 : Obj} (F : Fr g L h m) (N : News g L h news) (md : Mod [a, b, c] h h') (h1 : (a, o1) ∈ news) (h2 : (b, o2) ∈ news) (h3 : (c, o3) ∈ news) : Fr g L h' m := by
  refine fr_mod F md (notIn3 (N _ h1).2.1 (N _ h2).2.1 (N _ h3).2.1) ?_
  intro x hx
  simp only [List.mem_cons, List.not_mem_nil, or_false] at hx
  rcases hx with q | q | q <;> rw [q]
  · exact (N _ h1).2.2
  · exact (N _ h2).2.2
  · exact (N _ h3).2.2
section
variable {w : World} {s : Shared} {mg mb : Str → Option Value} {g : Heap} {R : Result → Shared → Prop} {S dx l : Addr} {ms : List Value} {x : Value}

theorem or_spec {O dxo lo : Addr} {vs : List Value} (B : Base w mg mb g) (stg : g.StaysIn s.heap) (I : OSet w s.heap S dx l ms) (gS : g.get? S = none) (gd : g.get? dx = none) (gl : g.get? l = none)
  (I2 : OSet w s.heap O dxo lo vs) (gO : g.get? O = none) (gdo : g.get? dxo = none) (glo : g.get? lo = none)
  (hR : ∀ h' tk S' dx' l', Mod [] s.heap h' → s.heap.get? S' = none → s.heap.get? dx' = none → s.heap.get? l' = none → OSet w h' S' dx' l' (addAll ms vs) → R (.ok (.ret (.ref S'))) ⟨h', s.gens, s.drawn, tk, s.os⟩) :
    codeAny (model PR w) A3 (.call (.ref 156) ⟨[.ref S, .ref O], []⟩) R s := by
  have I0 := I
  have I20 := I2
  obtain ⟨⟨es, ep, t, e, oS, od, ol, f⟩, pv, nd⟩ := I
  obtain ⟨⟨eso, epo, to, eo, oO, odo, olo, fo⟩, pvo, ndo⟩ := I2
  have N : Has g s.heap [(S, setO (.ref 232) (some dx) es ep t #[some (.ref l)]), (dx, dictE), (l, PySem.W.listOf ms.toArray e), (O, setO (.ref 232) (some dxo) eso epo to #[some (.ref lo)]), (dxo, dictE), (lo, PySem.W.listOf vs.toArray eo)] :=
    List.forall_mem_cons.mpr ⟨⟨oS, gS⟩, List.forall_mem_cons.mpr ⟨⟨od, gd⟩, List.forall_mem_cons.mpr ⟨⟨ol, gl⟩, List.forall_mem_cons.mpr ⟨⟨oO, gO⟩, List.forall_mem_cons.mpr ⟨⟨odo, gdo⟩, List.forall_mem_cons.mpr ⟨⟨olo, glo⟩, List.forall_mem_nil _⟩⟩⟩⟩⟩⟩
  refine enter_def B stg N (by k_is) (by k_is) (by decide) (BindsTo.of_eq rfl) (locs rfl) ?_ rfl rfl rfl (by decide)
  intro g' L h₁ B' F' N' kM sg hid
  have X' := B'.K
  have T' := B'.T
  have m1 := mod_all N N' (kM _ F'.keep)
  have st1 : s.heap.StaysIn h₁ := fun b o e => m1 b o e (by simp)
  dsimp only [List.map] at kM hid
  try dsimp only
  k_steps
  refine use_at (A := A2) (union1o_spec B' F'.keep (os_at N' (by k_mem) (by k_mem) (by k_mem) f pv nd) (N' (S, _) (by k_mem)).2.2 (N' (dx, _) (by k_mem)).2.2 (N' (l, PySem.W.listOf ms.toArray e) (by k_mem)).2.2 (os_at N' (by k_mem) (by k_mem) (by k_mem) fo pvo ndo) (N' (O, setO (.ref 232) (some dxo) eso epo to #[some (.ref lo)]) (by k_mem)).2.2 (N' (dxo, _) (by k_mem)).2.2 (N' (lo, PySem.W.listOf vs.toArray eo) (by k_mem)).2.2 fun h2 tk2 S2 dx2 l2 md2 nS2 nd2 nl2 I' => ?_) rfl (Nat.le_of_ble_eq_true rfl) rfl rfl (Nat.le_of_ble_eq_true rfl)
  have F2 := fr_mod F' md2 (by simp) (by simp)
  k_steps
  exact hR _ _ S2 dx2 l2 (m1.trans md2) (none_of st1 nS2) (none_of st1 nd2) (none_of st1 nl2) I'

theorem and_spec {O dxo lo : Addr} {vs : List Value} (B : Base w mg mb g) (stg : g.StaysIn s.heap) (I : OSet w s.heap S dx l ms) (gS : g.get? S = none) (gd : g.get? dx = none) (gl : g.get? l = none)
  (I2 : OSet w s.heap O dxo lo vs) (gO : g.get? O = none) (gdo : g.get? dxo = none) (glo : g.get? lo = none) (nO : O ≠ S)
  (hR : ∀ h' dr tk S' dx' l', Mod [] s.heap h' → s.heap.get? S' = none → s.heap.get? dx' = none → s.heap.get? l' = none → OSet w h' S' dx' l' (ms.filter fun v => decide (inL vs v)) → R (.ok (.ret (.ref S'))) ⟨h', s.gens, dr, tk, s.os⟩) :
    codeAny (model PR w) A3 (.call (.ref 168) ⟨[.ref S, .ref O], []⟩) R s := by
  have I0 := I
  have I20 := I2
  obtain ⟨⟨es, ep, t, e, oS, od, ol, f⟩, pv, nd⟩ := I
  obtain ⟨⟨eso, epo, to, eo, oO, odo, olo, fo⟩, pvo, ndo⟩ := I2
  have N : Has g s.heap [(S, setO (.ref 232) (some dx) es ep t #[some (.ref l)]), (dx, dictE), (l, PySem.W.listOf ms.toArray e), (O, setO (.ref 232) (some dxo) eso epo to #[some (.ref lo)]), (dxo, dictE), (lo, PySem.W.listOf vs.toArray eo)] :=
    List.forall_mem_cons.mpr ⟨⟨oS, gS⟩, List.forall_mem_cons.mpr ⟨⟨od, gd⟩, List.forall_mem_cons.mpr ⟨⟨ol, gl⟩, List.forall_mem_cons.mpr ⟨⟨oO, gO⟩, List.forall_mem_cons.mpr ⟨⟨odo, gdo⟩, List.forall_mem_cons.mpr ⟨⟨olo, glo⟩, List.forall_mem_nil _⟩⟩⟩⟩⟩⟩
  refine enter_def B stg N (by k_is) (by k_is) (by decide) (BindsTo.of_eq rfl) (locs rfl) ?_ rfl rfl rfl (by decide)
  intro g' L h₁ B' F' N' kM sg hid
  have X' := B'.K
  have T' := B'.T
  have m1 := mod_all N N' (kM _ F'.keep)
  have st1 : s.heap.StaysIn h₁ := fun b o e => m1 b o e (by simp)
  dsimp only [List.map] at kM hid
  try dsimp only
  k_steps
  refine use_at (A := A2) (inter1o_spec B' F'.keep (os_at N' (by k_mem) (by k_mem) (by k_mem) f pv nd) (N' (S, _) (by k_mem)).2.2 (N' (dx, _) (by k_mem)).2.2 (N' (l, PySem.W.listOf ms.toArray e) (by k_mem)).2.2 (os_at N' (by k_mem) (by k_mem) (by k_mem) fo pvo ndo) (N' (O, setO (.ref 232) (some dxo) eso epo to #[some (.ref lo)]) (by k_mem)).2.2 (N' (dxo, _) (by k_mem)).2.2 (N' (lo, PySem.W.listOf vs.toArray eo) (by k_mem)).2.2 nO fun h2 dr2 tk2 S2 dx2 l2 md2 nS2 nd2 nl2 I' => ?_) rfl (Nat.le_of_ble_eq_true rfl) rfl rfl (Nat.le_of_ble_eq_true rfl)
  have F2 := fr_mod F' md2 (by simp) (by simp)
  k_steps
  exact hR _ _ _ S2 dx2 l2 (m1.trans md2) (none_of st1 nS2) (none_of st1 nd2) (none_of st1 nl2) I'

theorem sub_spec {O dxo lo : Addr} {vs : List Value} (B : Base w mg mb g) (stg : g.StaysIn s.heap) (I : OSet w s.heap S dx l ms) (gS : g.get? S = none) (gd : g.get? dx = none) (gl : g.get? l = none)
  (I2 : OSet w s.heap O dxo lo vs) (gO : g.get? O = none) (gdo : g.get? dxo = none) (glo : g.get? lo = none) (nO : O ≠ S)
  (hR : ∀ h' dr tk S' dx' l', Mod [] s.heap h' → s.heap.get? S' = none → s.heap.get? dx' = none → s.heap.get? l' = none → OSet w h' S' dx' l' (ms.filter fun v => decide (¬ inL vs v)) → R (.ok (.ret (.ref S'))) ⟨h', s.gens, dr, tk, s.os⟩) :
    codeAny (model PR w) A3 (.call (.ref 192) ⟨[.ref S, .ref O], []⟩) R s := by
  have I0 := I
  have I20 := I2
  obtain ⟨⟨es, ep, t, e, oS, od, ol, f⟩, pv, nd⟩ := I
  obtain ⟨⟨eso, epo, to, eo, oO, odo, olo, fo⟩, pvo, ndo⟩ := I2
  have N : Has g s.heap [(S, setO (.ref 232) (some dx) es ep t #[some (.ref l)]), (dx, dictE), (l, PySem.W.listOf ms.toArray e), (O, setO (.ref 232) (some dxo) eso epo to #[some (.ref lo)]), (dxo, dictE), (lo, PySem.W.listOf vs.toArray eo)] :=
    List.forall_mem_cons.mpr ⟨⟨oS, gS⟩, List.forall_mem_cons.mpr ⟨⟨od, gd⟩, List.forall_mem_cons.mpr ⟨⟨ol, gl⟩, List.forall_mem_cons.mpr ⟨⟨oO, gO⟩, List.forall_mem_cons.mpr ⟨⟨odo, gdo⟩, List.forall_mem_cons.mpr ⟨⟨olo, glo⟩, List.forall_mem_nil _⟩⟩⟩⟩⟩⟩
  refine enter_def B stg N (by k_is) (by k_is) (by decide) (BindsTo.of_eq rfl) (locs rfl) ?_ rfl rfl rfl (by decide)
  intro g' L h₁ B' F' N' kM sg hid
  have X' := B'.K
  have T' := B'.T
  have m1 := mod_all N N' (kM _ F'.keep)
  have st1 : s.heap.StaysIn h₁ := fun b o e => m1 b o e (by simp)
  dsimp only [List.map] at kM hid
  try dsimp only
  k_steps
  refine use_at (A := A2) (diff1o_spec B' F'.keep (os_at N' (by k_mem) (by k_mem) (by k_mem) f pv nd) (N' (S, _) (by k_mem)).2.2 (N' (dx, _) (by k_mem)).2.2 (N' (l, PySem.W.listOf ms.toArray e) (by k_mem)).2.2 (os_at N' (by k_mem) (by k_mem) (by k_mem) fo pvo ndo) (N' (O, setO (.ref 232) (some dxo) eso epo to #[some (.ref lo)]) (by k_mem)).2.2 (N' (dxo, _) (by k_mem)).2.2 (N' (lo, PySem.W.listOf vs.toArray eo) (by k_mem)).2.2 nO fun h2 dr2 tk2 S2 dx2 l2 md2 nS2 nd2 nl2 I' => ?_) rfl (Nat.le_of_ble_eq_true rfl) rfl rfl (Nat.le_of_ble_eq_true rfl)
  have F2 := fr_mod F' md2 (by simp) (by simp)
  k_steps
  exact hR _ _ _ S2 dx2 l2 (m1.trans md2) (none_of st1 nS2) (none_of st1 nd2) (none_of st1 nl2) I'

theorem xor_spec {O dxo lo : Addr} {vs : List Value} (B : Base w mg mb g) (stg : g.StaysIn s.heap) (I : OSet w s.heap S dx l ms) (gS : g.get? S = none) (gd : g.get? dx = none) (gl : g.get? l = none)
  (I2 : OSet w s.heap O dxo lo vs) (gO : g.get? O = none) (gdo : g.get? dxo = none) (glo : g.get? lo = none) (nO : O ≠ S)
  (hR : ∀ h' dr tk S' dx' l', Mod [] s.heap h' → s.heap.get? S' = none → s.heap.get? dx' = none → s.heap.get? l' = none → OSet w h' S' dx' l' (addAll (ms.filter fun v => decide (¬ inL vs v)) (vs.filter fun v => decide (¬ inL ms v))) → R (.ok (.ret (.ref S'))) ⟨h', s.gens, dr, tk, s.os⟩) :
    codeAny (model PR w) A3 (.call (.ref 180) ⟨[.ref S, .ref O], []⟩) R s := by
  have I0 := I
  have I20 := I2
  obtain ⟨⟨es, ep, t, e, oS, od, ol, f⟩, pv, nd⟩ := I
  obtain ⟨⟨eso, epo, to, eo, oO, odo, olo, fo⟩, pvo, ndo⟩ := I2
  have N : Has g s.heap [(S, setO (.ref 232) (some dx) es ep t #[some (.ref l)]), (dx, dictE), (l, PySem.W.listOf ms.toArray e), (O, setO (.ref 232) (some dxo) eso epo to #[some (.ref lo)]), (dxo, dictE), (lo, PySem.W.listOf vs.toArray eo)] :=
    List.forall_mem_cons.mpr ⟨⟨oS, gS⟩, List.forall_mem_cons.mpr ⟨⟨od, gd⟩, List.forall_mem_cons.mpr ⟨⟨ol, gl⟩, List.forall_mem_cons.mpr ⟨⟨oO, gO⟩, List.forall_mem_cons.mpr ⟨⟨odo, gdo⟩, List.forall_mem_cons.mpr ⟨⟨olo, glo⟩, List.forall_mem_nil _⟩⟩⟩⟩⟩⟩
  refine enter_def B stg N (by k_is) (by k_is) (by decide) (BindsTo.of_eq rfl) (locs rfl) ?_ rfl rfl rfl (by decide)
  intro g' L h₁ B' F' N' kM sg hid
  have X' := B'.K
  have T' := B'.T
  have m1 := mod_all N N' (kM _ F'.keep)
  have st1 : s.heap.StaysIn h₁ := fun b o e => m1 b o e (by simp)
  dsimp only [List.map] at kM hid
  try dsimp only
  k_steps
  refine use_at (A := A2) (symm1o_spec B' F'.keep (os_at N' (by k_mem) (by k_mem) (by k_mem) f pv nd) (N' (S, _) (by k_mem)).2.2 (N' (dx, _) (by k_mem)).2.2 (N' (l, PySem.W.listOf ms.toArray e) (by k_mem)).2.2 (os_at N' (by k_mem) (by k_mem) (by k_mem) fo pvo ndo) (N' (O, setO (.ref 232) (some dxo) eso epo to #[some (.ref lo)]) (by k_mem)).2.2 (N' (dxo, _) (by k_mem)).2.2 (N' (lo, PySem.W.listOf vs.toArray eo) (by k_mem)).2.2 nO fun h2 dr2 tk2 S2 dx2 l2 md2 nS2 nd2 nl2 I' => ?_) rfl (Nat.le_of_ble_eq_true rfl) rfl rfl (Nat.le_of_ble_eq_true rfl)
  have F2 := fr_mod F' md2 (by simp) (by simp)
  k_steps
  exact hR _ _ _ S2 dx2 l2 (m1.trans md2) (none_of st1 nS2) (none_of st1 nd2) (none_of st1 nl2) I'

theorem ior_spec {O dxo lo : Addr} {vs : List Value} (B : Base w mg mb g) (stg : g.StaysIn s.heap) (I : OSet w s.heap S dx l ms) (gS : g.get? S = none) (gd : g.get? dx = none) (gl : g.get? l = none)
  (I2 : OSet w s.heap O dxo lo vs) (gO : g.get? O = none) (gdo : g.get? dxo = none) (glo : g.get? lo = none) (nS : S ≠ O) (nd' : dx ≠ dxo) (nl : l ≠ lo)
  (hR : ∀ h' tk, Mod [S, dx, l] s.heap h' → OSet w h' S dx l (addAll ms vs) → R (.ok (.ret (.ref S))) ⟨h', s.gens, s.drawn, tk, s.os⟩) :
    codeAny (model PR w) A3 (.call (.ref 142) ⟨[.ref S, .ref O], []⟩) R s := by
  have I0 := I
  have I20 := I2
  obtain ⟨⟨es, ep, t, e, oS, od, ol, f⟩, pv, nd⟩ := I
  obtain ⟨⟨eso, epo, to, eo, oO, odo, olo, fo⟩, pvo, ndo⟩ := I2
  have N : Has g s.heap [(S, setO (.ref 232) (some dx) es ep t #[some (.ref l)]), (dx, dictE), (l, PySem.W.listOf ms.toArray e), (O, setO (.ref 232) (some dxo) eso epo to #[some (.ref lo)]), (dxo, dictE), (lo, PySem.W.listOf vs.toArray eo)] :=
    List.forall_mem_cons.mpr ⟨⟨oS, gS⟩, List.forall_mem_cons.mpr ⟨⟨od, gd⟩, List.forall_mem_cons.mpr ⟨⟨ol, gl⟩, List.forall_mem_cons.mpr ⟨⟨oO, gO⟩, List.forall_mem_cons.mpr ⟨⟨odo, gdo⟩, List.forall_mem_cons.mpr ⟨⟨olo, glo⟩, List.forall_mem_nil _⟩⟩⟩⟩⟩⟩
  refine enter_def B stg N (by k_is) (by k_is) (by decide) (BindsTo.of_eq rfl) (locs rfl) ?_ rfl rfl rfl (by decide)
  intro g' L h₁ B' F' N' kM sg hid
  have X' := B'.K
  have T' := B'.T
  have m1 := mod_all N N' (kM _ F'.keep)
  have st1 : s.heap.StaysIn h₁ := fun b o e => m1 b o e (by simp)
  dsimp only [List.map] at kM hid
  try dsimp only
  k_steps
  refine use_at (A := A1) (update1o_spec B' F'.keep (os_at N' (by k_mem) (by k_mem) (by k_mem) f pv nd) (N' (S, _) (by k_mem)).2.2 (N' (dx, _) (by k_mem)).2.2 (N' (l, PySem.W.listOf ms.toArray e) (by k_mem)).2.2 (os_at N' (by k_mem) (by k_mem) (by k_mem) fo pvo ndo) (N' (O, setO (.ref 232) (some dxo) eso epo to #[some (.ref lo)]) (by k_mem)).2.2 (N' (dxo, _) (by k_mem)).2.2 (N' (lo, PySem.W.listOf vs.toArray eo) (by k_mem)).2.2 nS nd' nl fun h2 tk2 md2 I' => ?_) rfl (Nat.le_of_ble_eq_true rfl) rfl rfl (Nat.le_of_ble_eq_true rfl)
  have F2 := fr3 F' N' md2 (by k_mem) (by k_mem) (.tail _ (.tail _ (.head _)))
  k_steps
  exact hR _ _ (m1.mono (by simp) |>.trans md2) I'

theorem iand_spec {O dxo lo : Addr} {vs : List Value} (B : Base w mg mb g) (stg : g.StaysIn s.heap) (I : OSet w s.heap S dx l ms) (gS : g.get? S = none) (gd : g.get? dx = none) (gl : g.get? l = none)
  (I2 : OSet w s.heap O dxo lo vs) (gO : g.get? O = none) (gdo : g.get? dxo = none) (glo : g.get? lo = none) (nO : O ≠ S)
  (hR : ∀ h' dr tk l', Mod [S, dx, l] s.heap h' → s.heap.get? l' = none → OSet w h' S dx l' (ms.filter fun v => decide (inL vs v)) → R (.ok (.ret (.ref S))) ⟨h', s.gens, dr, tk, s.os⟩) :
    codeAny (model PR w) A3 (.call (.ref 204) ⟨[.ref S, .ref O], []⟩) R s := by
  have I0 := I
  have I20 := I2
  obtain ⟨⟨es, ep, t, e, oS, od, ol, f⟩, pv, nd⟩ := I
  obtain ⟨⟨eso, epo, to, eo, oO, odo, olo, fo⟩, pvo, ndo⟩ := I2
  have N : Has g s.heap [(S, setO (.ref 232) (some dx) es ep t #[some (.ref l)]), (dx, dictE), (l, PySem.W.listOf ms.toArray e), (O, setO (.ref 232) (some dxo) eso epo to #[some (.ref lo)]), (dxo, dictE), (lo, PySem.W.listOf vs.toArray eo)] :=
    List.forall_mem_cons.mpr ⟨⟨oS, gS⟩, List.forall_mem_cons.mpr ⟨⟨od, gd⟩, List.forall_mem_cons.mpr ⟨⟨ol, gl⟩, List.forall_mem_cons.mpr ⟨⟨oO, gO⟩, List.forall_mem_cons.mpr ⟨⟨odo, gdo⟩, List.forall_mem_cons.mpr ⟨⟨olo, glo⟩, List.forall_mem_nil _⟩⟩⟩⟩⟩⟩
  refine enter_def B stg N (by k_is) (by k_is) (by decide) (BindsTo.of_eq rfl) (locs rfl) ?_ rfl rfl rfl (by decide)
  intro g' L h₁ B' F' N' kM sg hid
  have X' := B'.K
  have T' := B'.T
  have m1 := mod_all N N' (kM _ F'.keep)
  have st1 : s.heap.StaysIn h₁ := fun b o e => m1 b o e (by simp)
  dsimp only [List.map] at kM hid
  try dsimp only
  k_steps
  refine use_at (A := A2) (interU_spec B' F'.keep (os_at N' (by k_mem) (by k_mem) (by k_mem) f pv nd) (N' (S, _) (by k_mem)).2.2 (N' (dx, _) (by k_mem)).2.2 (N' (l, PySem.W.listOf ms.toArray e) (by k_mem)).2.2 (os_at N' (by k_mem) (by k_mem) (by k_mem) fo pvo ndo) (N' (O, setO (.ref 232) (some dxo) eso epo to #[some (.ref lo)]) (by k_mem)).2.2 (N' (dxo, _) (by k_mem)).2.2 (N' (lo, PySem.W.listOf vs.toArray eo) (by k_mem)).2.2 nO fun h2 dr2 tk2 l2 md2 nl2 I' => ?_) rfl (Nat.le_of_ble_eq_true rfl) rfl rfl (Nat.le_of_ble_eq_true rfl)
  have F2 := fr3 F' N' md2 (by k_mem) (by k_mem) (.tail _ (.tail _ (.head _)))
  k_steps
  exact hR _ _ _ l2 (m1.mono (by simp) |>.trans md2) (none_of st1 nl2) I'

theorem isub_spec {O dxo lo : Addr} {vs : List Value} (B : Base w mg mb g) (stg : g.StaysIn s.heap) (I : OSet w s.heap S dx l ms) (gS : g.get? S = none) (gd : g.get? dx = none) (gl : g.get? l = none)
  (I2 : OSet w s.heap O dxo lo vs) (gO : g.get? O = none) (gdo : g.get? dxo = none) (glo : g.get? lo = none) (nO : O ≠ S)
  (hR : ∀ h' dr tk l', Mod [S, dx, l] s.heap h' → s.heap.get? l' = none → OSet w h' S dx l' (ms.filter fun v => decide (¬ inL vs v)) → R (.ok (.ret (.ref S))) ⟨h', s.gens, dr, tk, s.os⟩) :
    codeAny (model PR w) A3 (.call (.ref 228) ⟨[.ref S, .ref O], []⟩) R s := by
  have I0 := I
  have I20 := I2
  obtain ⟨⟨es, ep, t, e, oS, od, ol, f⟩, pv, nd⟩ := I
  obtain ⟨⟨eso, epo, to, eo, oO, odo, olo, fo⟩, pvo, ndo⟩ := I2
  have N : Has g s.heap [(S, setO (.ref 232) (some dx) es ep t #[some (.ref l)]), (dx, dictE), (l, PySem.W.listOf ms.toArray e), (O, setO (.ref 232) (some dxo) eso epo to #[some (.ref lo)]), (dxo, dictE), (lo, PySem.W.listOf vs.toArray eo)] :=
    List.forall_mem_cons.mpr ⟨⟨oS, gS⟩, List.forall_mem_cons.mpr ⟨⟨od, gd⟩, List.forall_mem_cons.mpr ⟨⟨ol, gl⟩, List.forall_mem_cons.mpr ⟨⟨oO, gO⟩, List.forall_mem_cons.mpr ⟨⟨odo, gdo⟩, List.forall_mem_cons.mpr ⟨⟨olo, glo⟩, List.forall_mem_nil _⟩⟩⟩⟩⟩⟩
  refine enter_def B stg N (by k_is) (by k_is) (by decide) (BindsTo.of_eq rfl) (locs rfl) ?_ rfl rfl rfl (by decide)
  intro g' L h₁ B' F' N' kM sg hid
  have X' := B'.K
  have T' := B'.T
  have m1 := mod_all N N' (kM _ F'.keep)
  have st1 : s.heap.StaysIn h₁ := fun b o e => m1 b o e (by simp)
  dsimp only [List.map] at kM hid
  try dsimp only
  k_steps
  refine use_at (A := A2) (diffU_spec B' F'.keep (os_at N' (by k_mem) (by k_mem) (by k_mem) f pv nd) (N' (S, _) (by k_mem)).2.2 (N' (dx, _) (by k_mem)).2.2 (N' (l, PySem.W.listOf ms.toArray e) (by k_mem)).2.2 (os_at N' (by k_mem) (by k_mem) (by k_mem) fo pvo ndo) (N' (O, setO (.ref 232) (some dxo) eso epo to #[some (.ref lo)]) (by k_mem)).2.2 (N' (dxo, _) (by k_mem)).2.2 (N' (lo, PySem.W.listOf vs.toArray eo) (by k_mem)).2.2 nO fun h2 dr2 tk2 l2 md2 nl2 I' => ?_) rfl (Nat.le_of_ble_eq_true rfl) rfl rfl (Nat.le_of_ble_eq_true rfl)
  have F2 := fr3 F' N' md2 (by k_mem) (by k_mem) (.tail _ (.tail _ (.head _)))
  k_steps
  exact hR _ _ _ l2 (m1.mono (by simp) |>.trans md2) (none_of st1 nl2) I'

theorem ixor_spec {O dxo lo : Addr} {vs : List Value} (B : Base w mg mb g) (stg : g.StaysIn s.heap) (I : OSet w s.heap S dx l ms) (gS : g.get? S = none) (gd : g.get? dx = none) (gl : g.get? l = none)
  (I2 : OSet w s.heap O dxo lo vs) (gO : g.get? O = none) (gdo : g.get? dxo = none) (glo : g.get? lo = none) (nO : O ≠ S)
  (hR : ∀ h' dr tk l', Mod [S, dx, l] s.heap h' → s.heap.get? l' = none → OSet w h' S dx l' ((ms.filter fun v => decide (¬ inL vs v)) ++ vs.filter fun v => decide (¬ inL ms v)) → R (.ok (.ret (.ref S))) ⟨h', s.gens, dr, tk, s.os⟩) :
    codeAny (model PR w) A3 (.call (.ref 216) ⟨[.ref S, .ref O], []⟩) R s := by
  have I0 := I
  have I20 := I2
  obtain ⟨⟨es, ep, t, e, oS, od, ol, f⟩, pv, nd⟩ := I
  obtain ⟨⟨eso, epo, to, eo, oO, odo, olo, fo⟩, pvo, ndo⟩ := I2
  have N : Has g s.heap [(S, setO (.ref 232) (some dx) es ep t #[some (.ref l)]), (dx, dictE), (l, PySem.W.listOf ms.toArray e), (O, setO (.ref 232) (some dxo) eso epo to #[some (.ref lo)]), (dxo, dictE), (lo, PySem.W.listOf vs.toArray eo)] :=
    List.forall_mem_cons.mpr ⟨⟨oS, gS⟩, List.forall_mem_cons.mpr ⟨⟨od, gd⟩, List.forall_mem_cons.mpr ⟨⟨ol, gl⟩, List.forall_mem_cons.mpr ⟨⟨oO, gO⟩, List.forall_mem_cons.mpr ⟨⟨odo, gdo⟩, List.forall_mem_cons.mpr ⟨⟨olo, glo⟩, List.forall_mem_nil _⟩⟩⟩⟩⟩⟩
  refine enter_def B stg N (by k_is) (by k_is) (by decide) (BindsTo.of_eq rfl) (locs rfl) ?_ rfl rfl rfl (by decide)
  intro g' L h₁ B' F' N' kM sg hid
  have X' := B'.K
  have T' := B'.T
  have m1 := mod_all N N' (kM _ F'.keep)
  have st1 : s.heap.StaysIn h₁ := fun b o e => m1 b o e (by simp)
  dsimp only [List.map] at kM hid
  try dsimp only
  k_steps
  refine use_at (A := A2) (symmU_spec B' F'.keep (os_at N' (by k_mem) (by k_mem) (by k_mem) f pv nd) (N' (S, _) (by k_mem)).2.2 (N' (dx, _) (by k_mem)).2.2 (N' (l, PySem.W.listOf ms.toArray e) (by k_mem)).2.2 (os_at N' (by k_mem) (by k_mem) (by k_mem) fo pvo ndo) (N' (O, setO (.ref 232) (some dxo) eso epo to #[some (.ref lo)]) (by k_mem)).2.2 (N' (dxo, _) (by k_mem)).2.2 (N' (lo, PySem.W.listOf vs.toArray eo) (by k_mem)).2.2 nO fun h2 dr2 tk2 l2 md2 nl2 I' => ?_) rfl (Nat.le_of_ble_eq_true rfl) rfl rfl (Nat.le_of_ble_eq_true rfl)
  have F2 := fr3 F' N' md2 (by k_mem) (by k_mem) (.tail _ (.tail _ (.head _)))
  k_steps
  exact hR _ _ _ l2 (m1.mono (by simp) |>.trans md2) (none_of st1 nl2) I'
end

end
/-! P1 -/
section
section
variable {w : World} {s : Shared} {mg mb : Str → Option Value} {g : Heap} {R : Result → Shared → Prop} {S dx l : Addr} {ms : List Value} {x : Value}
theorem pop_spec (B : Base w mg mb g) (stg : g.StaysIn s.heap) (I : OSet w s.heap S dx l ms) (gS : g.get? S = none) (gd : g.get? dx = none) (gl : g.get? l = none) {v : Value} {ns : List Value} (hms : ms = ns ++ [v])
    (hR : ∀ h' tk, Mod [S, dx, l] s.heap h' → OSet w h' S dx l ns → R (.ok (.ret v)) ⟨h', s.gens, s.drawn, tk, s.os⟩) :
    codeAny (model PR w) A1 (.call (.ref 79) ⟨[.ref S], []⟩) R s := by
  obtain ⟨⟨es, ep, t, e, oS, od, ol, f⟩, pv, nd⟩ := I
  have z := sz5 pv nd
  have n1 := neN (neObj oS od set_ne_dict)
  have n2 := neN (neObj oS ol set_ne_list)
  have n3 := neN (neObj od ol dict_ne_list)
  have N : Has g s.heap [(S, setO (.ref 232) (some dx) es ep t #[some (.ref l)]), (dx, dictE), (l, PySem.W.listOf ms.toArray e)] :=
    List.forall_mem_cons.mpr ⟨⟨oS, gS⟩, List.forall_mem_cons.mpr ⟨⟨od, gd⟩, List.forall_mem_cons.mpr ⟨⟨ol, gl⟩, List.forall_mem_nil _⟩⟩⟩
  refine enter_def B stg N (by k_is) (by k_is) (by decide) (BindsTo.of_eq rfl) (locs rfl) ?_ rfl rfl rfl (by decide)
  intro g' L h₁ B' F' N' kM sg hid
  have X' := B'.K
  have T' := B'.T
  dsimp only [List.map] at kM hid
  try dsimp only
  subst hms
  have pvv : Pv v := pv v (List.mem_append.mpr (.inr (.head _)))
  have inv : inL (ns ++ [v]) v := inL_append.mpr (.inr (inL_one.mpr rfl))
  k_steps
  rename_i f2 F2 N2
  have q : ∀ y, (cl v ≠ cl y ∧ inL (ns ++ [v]) y) ↔ inL ns y := by
    intro y
    rw [inL_append, inL_one]
    constructor
    · rintro ⟨h1, h2 | h2⟩
      · exact h2
      · exact absurd h2 h1
    · intro h2
      refine ⟨fun e => ?_, .inl h2⟩
      rw [List.map_append, List.nodup_append] at nd
      exact nd.2.2 (cl y) (inL_map.mp h2) (cl v) (by simp) e.symm
  have nd' : (ns.map cl).Nodup := nd.sublist ((List.sublist_append_left ns [v]).map cl)
  exact hR _ _ (kM _ (Fr.keep F2)) (os_at N2 (by k_mem) (by k_mem) (by k_mem) (f2.iff q) (fun y hy => pv y (List.mem_append.mpr (.inl hy))) nd')
theorem k_item {A : Around} {E : Value → Shared → Prop} {value slice : PySem.Expr} {L : Addr} {news : List (Addr × Obj)} {e : Nat} {vs : List Value} {k : Int} {u : Tok} {v : Value} {Q : Value → Shared → Prop} (N : News g L s.heap news)
    (hl : (l, PySem.W.listOf vs.toArray e) ∈ news) (h0 : 0 ≤ k) (hhi : k < 2 ^ 63) (hx : vs[k.toNat]? = some v) (h : Q v s)
    (hs : subscripted slice false (.ref l) (.int k u) = operate [.ref l, .int k u] (getItem (.ref l) (.int k u)) := by with_unfolding_all rfl) :
    wpAny (model PR w) A (subscriptTail value slice (.ref l) (.int k u)) Q E s :=
  tail_any (listAt (N _ hl).1).typeIs slot_list_getitem.lookup (wpAny_getItem_list (listAt (N _ hl).1) h0 hhi (by simpa using hx) h) hs
local macro_rules | `(tactic| walk_at "subscriptTail Attribute Name ref int") => `(tactic| (k_here; refine halt ?_))
theorem getitem_spec (B : Base w mg mb g) (stg : g.StaysIn s.heap) (I : OSet w s.heap S dx l ms) (gS : g.get? S = none) (gd : g.get? dx = none) (gl : g.get? l = none) {i : Int} {u : Tok} {v : Value} (hi : 0 ≤ i ∧ i < 1000) (hv : ms[i.toNat]? = some v)
    (hR : ∀ h' tk, Mod [] s.heap h' → R (.ok (.ret v)) ⟨h', s.gens, s.drawn, tk, s.os⟩) :
    codeAny (model PR w) A1 (.call (.ref 107) ⟨[.ref S, .int i u], []⟩) R s := by
  obtain ⟨⟨es, ep, t, e, oS, od, ol, f⟩, pv, nd⟩ := I
  have z := sz5 pv nd
  have n1 := neN (neObj oS od set_ne_dict)
  have n2 := neN (neObj oS ol set_ne_list)
  have n3 := neN (neObj od ol dict_ne_list)
  have N : Has g s.heap [(S, setO (.ref 232) (some dx) es ep t #[some (.ref l)]), (dx, dictE), (l, PySem.W.listOf ms.toArray e)] :=
    List.forall_mem_cons.mpr ⟨⟨oS, gS⟩, List.forall_mem_cons.mpr ⟨⟨od, gd⟩, List.forall_mem_cons.mpr ⟨⟨ol, gl⟩, List.forall_mem_nil _⟩⟩⟩
  refine enter_def B stg N (by k_is) (by k_is) (by decide) (BindsTo.of_eq rfl) (locs rfl) ?_ rfl rfl rfl (by decide)
  intro g' L h₁ B' F' N' kM sg hid
  have X' := B'.K
  have T' := B'.T
  dsimp only [List.map] at kM hid
  try dsimp only
  k_steps
  refine k_item (by assumption) (l := l) (vs := ms) (e := e) (by k_mem) hi.1 (by omega) hv ?_
  k_steps
  exact hR _ _ (mod0 (kM _ (Fr.keep (by assumption))) oS (‹News g' L _ _› (S, _) (by k_mem)).1 od (‹News g' L _ _› (dx, _) (by k_mem)).1 ol (‹News g' L _ _› (l, _) (by k_mem)).1)
end

end
/-! R1 -/
section

theorem readsAll_pool {w : World} {h : Heap} (X : (hd.heap_39 w.params).In h) : ∀ {ms : List Value}, (∀ v ∈ ms, Pv v) → ReadsAll h ms (ms.map pd) []
  | [], _ => .nil
  | v :: r, hP => .cons (as := []) (bs := []) (reads_pool X (hP v (.head _))) (readsAll_pool X fun x hx => hP x (.tail _ hx))
theorem shows_pool : (poolL.all fun x => PyData.showable (pd x) && !PyData.hasDict (pd x) && decide ((PyData.shown (pd x)).length ≤ 20)) = true := by decide +kernel
theorem shows_of {x : Value} (hx : Pv x) : PyData.showable (pd x) = true ∧ PyData.hasDict (pd x) = false ∧ (PyData.shown (pd x)).length ≤ 20 := by
  have := List.all_eq_true.mp shows_pool x hx
  simp only [Bool.and_eq_true, decide_eq_true_eq, Bool.not_eq_true'] at this
  exact ⟨this.1.1, this.1.2, this.2⟩
theorem showable_pool : ∀ {ms : List Value}, (∀ v ∈ ms, Pv v) → PyData.showableAll (ms.map pd) = true
  | [], _ => rfl
  | v :: r, hP => by
    rw [List.map_cons, PyData.showableAll, (shows_of (hP v (.head _))).1, showable_pool fun x hx => hP x (.tail _ hx)]; rfl
theorem hasDict_pool : ∀ {ms : List Value}, (∀ v ∈ ms, Pv v) → PyData.hasDictAll (ms.map pd) = false
  | [], _ => rfl
  | v :: r, hP => by
    rw [List.map_cons, PyData.hasDictAll, (shows_of (hP v (.head _))).2.1, hasDict_pool fun x hx => hP x (.tail _ hx)]; rfl
theorem depth_pool : ∀ {ms : List Value}, (∀ v ∈ ms, Pv v) → PyData.depthAll (ms.map pd) ≤ 1
  | [], _ => by rw [List.map_nil, PyData.depthAll]; exact Nat.zero_le _
  | v :: r, hP => by
    rw [List.map_cons, PyData.depthAll]
    have := (canLay_of (hP v (.head _))).2.2
    have := depth_pool fun x hx => hP x (.tail _ hx)
    omega
theorem shown_pool : ∀ {ms : List Value}, (∀ v ∈ ms, Pv v) → ∀ t ∈ PyData.shownAll (ms.map pd), t.length ≤ 20
  | [], _, t, ht => by rw [List.map_nil, PyData.shownAll] at ht; cases ht
  | v :: r, hP, t, ht => by
    rw [List.map_cons, PyData.shownAll] at ht
    rcases List.mem_cons.mp ht with rfl | q
    · exact (shows_of (hP v (.head _))).2.2
    · exact shown_pool (fun x hx => hP x (.tail _ hx)) t q
theorem shownAll_len : ∀ (ds : List PyData), (PyData.shownAll ds).length = ds.length
  | [] => by rw [PyData.shownAll]; rfl
  | _ :: r => by rw [PyData.shownAll, List.length_cons, List.length_cons, shownAll_len r]
theorem textFrom_le : ∀ (ts : List Str) (k : Nat) (acc : Str), (∀ t ∈ ts, t.length ≤ 20) → (textFrom k acc ts).length ≤ acc.length + 22 * ts.length
  | [], k, acc, _ => by show acc.length ≤ _; simp
  | t :: r, k, acc, h => by
    have ih := textFrom_le r (k + 1) (acc ++ (if k > 0 then ", " else "" : String) ++ t) fun x hx => h x (.tail _ hx)
    have e : (acc ++ (if k > 0 then ", " else "" : String) ++ t).length = acc.length + (if k > 0 then 2 else 0) + t.length := by
      rw [strLen_append, strLen_append]
      split <;> rfl
    have ht := h t (.head _)
    show (textFrom (k + 1) (acc ++ (if k > 0 then ", " else "" : String) ++ t) r).length ≤ _
    rw [e] at ih
    rw [List.length_cons]
    have hb : (if k > 0 then 2 else 0) ≤ 2 := by split <;> omega
    omega
/-- what repr shows of a list of pool values -/
def rp (ms : List Value) : Str := listText (PyData.shownAll (ms.map pd))
theorem rp_len {ms : List Value} (hP : ∀ v ∈ ms, Pv v) (hl : ms.length ≤ 100) : (rp ms).length ≤ 3000 := by
  have a := textFrom_le (PyData.shownAll (ms.map pd)) 0 "[" (shown_pool hP)
  have b : (rp ms).length = (textFrom 0 "[" (PyData.shownAll (ms.map pd))).length + 1 := by
    show (textFrom 0 "[" _ ++ "]").length = _
    rw [strLen_append]; rfl
  rw [b]
  rw [shownAll_len, List.length_map] at a
  have c : (("[" : String) : Str).length = 1 := rfl
  rw [c] at a
  omega

section
variable {w : World} {A : Around} {E : Value → Shared → Prop} {s : Shared} {g : Heap} {L l : Addr} {m : Str → Option Value} {news : List (Addr × Obj)} {ms : List Value} {e : Nat} {Q : Value → Shared → Prop}
theorem reads_list {h : Heap} (X : (hd.heap_39 w.params).In h) (hl : h.get? l = some (PySem.W.listOf ms.toArray e)) (hP : ∀ v ∈ ms, Pv v) : Reads h (.ref l) (.list (ms.map pd)) [l] :=
  .list (as := []) hl rfl rfl (readsAll_pool X hP)
theorem repr_list (X : (hd.heap_39 w.params).In s.heap) (hl : s.heap.get? l = some (PySem.W.listOf ms.toArray e)) (hP : ∀ v ∈ ms, Pv v) (hn : ms.length ≤ 100) (hg : A.guards = some []) (hu : A.units + 4 < cLine)
    (hQ : ∀ h' u tk, s.heap.StaysIn h' → Q (.str (rp ms) u) { s with heap := h', toks := tk }) : wpAny (model PR w) A (call (.builtin "repr") [.ref l]) Q E s := by
  have hz := rp_len hP hn
  have hdp := depth_pool hP
  refine repr_of_reads' (reads_list X hl hP) (by rw [PyData.showable]; exact showable_pool hP) (fun q => by rw [PyData.hasDict, hasDict_pool hP] at q; cases q) hg (by rw [PyData.depth]; omega) (fun _ _ e => e) (fun h' u tk k => ?_) ?_
  · rw [PyData.shown]; exact hQ h' u tk k
  · rw [PyData.shown, sizeLine_eq]
    show (rp ms).length ≤ _
    omega
theorem reprObj_list (X : (hd.heap_39 w.params).In s.heap) (hl : s.heap.get? l = some (PySem.W.listOf ms.toArray e)) (hP : ∀ v ∈ ms, Pv v) (hn : ms.length ≤ 100) (hg : A.guards = some []) (hu : A.units + 4 < cLine)
    (hQ : ∀ h' u tk, s.heap.StaysIn h' → Q (.str (rp ms) u) { s with heap := h', toks := tk }) : wpAny (model PR w) A (pyReprObj (.ref l)) Q E s := by
  have hz := rp_len hP hn
  have hdp := depth_pool hP
  refine pyReprObj_of_reads (reads_list X hl hP) (by rw [PyData.showable]; exact showable_pool hP) (fun q => by rw [PyData.hasDict, hasDict_pool hP] at q; cases q) hg (by rw [PyData.depth]; omega) (fun _ _ e => e) (fun h' u tk k => ?_) ?_
  · rw [PyData.shown]; exact hQ h' u tk k
  · rw [PyData.shown, sizeLine_eq]
    show (rp ms).length ≤ _
    omega
end

end
/-! R2 -/
section
open PySem PySem.W PyProof.Rows PySem.Calls Builtin Builtin.Getset_descriptor
def shownO (ms : List Value) : Str := Str.empty ++ Str.ofString "OrderedSet" ++ Str.ofString "(" ++ rp ms ++ Str.ofString ")"
section
variable {w : World} {A : Around} {E : Value → Shared → Prop} {s : Shared} {g : Heap} {L S l T : Addr} {m : Str → Option Value} {news : List (Addr × Obj)} {ms : List Value} {e : Nat} {Q : Value → Shared → Prop} {t u : Tok} {R : Result → Shared → Prop} {ox : Obj} {od : Option Obj}
theorem obj232 (w : World) : mroIn (hd.heap_39 w.params) 232 (.type "object") = some true := by kernel_rfl
theorem own_class {expr : Bool} (X : (hd.heap_39 w.params).In s.heap) (I : PySem.W.InstAt s.heap S ox 232 od) (h : Q (.ref 232) { s with toks := s.toks + 1 }) : wpAny (model PR w) A (getAttr (.ref S) "__class__" expr) Q E s :=
  own_bind X I (obj_class w od) (wpAny_call (class_get (s := { s with toks := s.toks + 1 }) (ox := ox) (od := od) X I (obj232 w) (handed_on rfl h)))
theorem dga232 (d tp : Value) : descrGetArgs ⟨[d, .ref 232, tp], []⟩ = pure (d, some (.ref 232), given tp) := by kernel_rfl
theorem name_get {tp : Value} (X : (hd.heap_39 w.params).In s.heap) (h : R (.ok (.ret (.str (Str.ofString "OrderedSet") 203))) s) :
    codeAny (model PR w) A (.call (.builtin "getset_descriptor.__get__") ⟨[.builtin "type.__name__", .ref 232, tp], []⟩) R s := by
  obtain ⟨hh, g, dr, t, os⟩ := s
  have LI := looks_instIn (M := model PR w) X (typ232 w)
  unfold isInstance at LI
  refine codeAny_call_builtin KF.slot_gs.plain KF.entry_gs (KF.slot_gs.check _ _ _ _ _ _ _ _ ktyn_type (KF.args_gs _ _ _) ?_)
  unfold Builtin.«getset_descriptor.__get__» descrGet
  rw [dga232]
  refine wpAny_bind (wpAny_pure ?_)
  unfold descrGetter descrCheckInstance descrNameAndClass isInstance
  simp only [ktyn_owner]
  repeat lk
  refine ⟨Code.quiet_builtin _ (by decide +kernel), codeAny_builtin ktyn_entry ?_⟩
  have hC := X 232 _ rfl
  unfold Builtin.«type.__name__» Builtin.keptObject
  dsimp only
  refine wpAny_bind ?_
  unfold slotAt
  refine wpAny_bind (wpAny_loadPart hC ?_)
  refine wpAny_pure ?_
  show wpAny _ _ (ret _) _ _ _
  exact wpAny_pure h
theorem f232 (w : World) : findCls (hd.heap_39 w.params) (.ref 232) (.type "type") "__name__" = some (.get (.builtin "getset_descriptor.__get__") (.builtin "type.__name__") (.ref 232) (.type "type")) := by kernel_rfl
theorem opq232 (w : World) : peek (hd.heap_39 w.params) ⟨PR, w.params⟩ (opaqueClassAbove (.ref 232)) = some none := by kernel_rfl
theorem ty232 (w : World) : typeIn (hd.heap_39 w.params) (.ref 232) = some (.type "type") := by kernel_rfl
theorem own_name {expr : Bool} (X : (hd.heap_39 w.params).In s.heap) (h : Q (.str (Str.ofString "OrderedSet") 203) { s with toks := s.toks + 1 }) : wpAny (model PR w) A (getAttr (.ref 232) "__name__" expr) Q E s := by
  have hg : findIn (hd.heap_39 w.params) (.type "type") "__getattribute__" = some (some (.builtin "type.__getattribute__")) := type_tga
  refine cls_open X (peekOn X (opq232 w)) (looks_typeIn X (ty232 w)) hg (looks_hook X (r := none) (by rfl)) (by show subIn (hd.heap_39 w.params) _ _ = _; rfl) (f232 w) ?_
  show wpAny _ _ (do ret (← holding [Value.builtin "type.__name__"] (call (.builtin "getset_descriptor.__get__") [.builtin "type.__name__", .ref 232, .type "type"]))) _ _ _
  refine wpAny_bind (wpAny_holding (wpAny_call (name_get (s := { s with toks := s.toks + 1 }) X ?_)))
  exact wpAny_pure (handed_on rfl h)
end
end
local macro_rules | `(tactic| walk_at "getAttr ref") => `(tactic| (k_here; (with_reducible show wpAny _ _ (getAttr (Value.ref _) (PySem.Str.ofString "__class__") _) _ _ _); k_dflt (refine' own_class ?k1 ?k2 ?_; (case k1 => k_in); (case k2 => k_inst); k_whole)))
local macro_rules | `(tactic| walk_at "getAttr ref") => `(tactic| (k_here; (with_reducible show wpAny _ _ (getAttr (Value.ref 232) (PySem.Str.ofString "__name__") _) _ _ _); k_dflt (refine' own_name ?k1 ?_; (case k1 => k_in); k_whole)))
/-! R3 -/
section
abbrev G3 : Around := { depth := 700, units := 4000, guards := some [] }
section
variable {w : World} {s : Shared} {mg mb : Str → Option Value} {g : Heap} {R : Result → Shared → Prop} {S dx l : Addr} {ms : List Value} {x : Value}
theorem repr_spec (B : Base w mg mb g) (stg : g.StaysIn s.heap) (I : OSet w s.heap S dx l ms) (gS : g.get? S = none) (gd : g.get? dx = none) (gl : g.get? l = none) 
    (hR : ∀ h' tk u, Mod [] s.heap h' → R (.ok (.ret (.str (shownO ms) u))) ⟨h', s.gens, s.drawn, tk, s.os⟩) :
    codeAny (model PR w) G3 (.call (.ref 128) ⟨[.ref S], []⟩) R s := by
  obtain ⟨⟨es, ep, t, e, oS, od, ol, f⟩, pv, nd⟩ := I
  have z := sz5 pv nd
  have n1 := neN (neObj oS od set_ne_dict)
  have n2 := neN (neObj oS ol set_ne_list)
  have n3 := neN (neObj od ol dict_ne_list)
  have N : Has g s.heap [(S, setO (.ref 232) (some dx) es ep t #[some (.ref l)]), (dx, dictE), (l, PySem.W.listOf ms.toArray e)] :=
    List.forall_mem_cons.mpr ⟨⟨oS, gS⟩, List.forall_mem_cons.mpr ⟨⟨od, gd⟩, List.forall_mem_cons.mpr ⟨⟨ol, gl⟩, List.forall_mem_nil _⟩⟩⟩
  refine enter_def B stg N (by k_is) (by k_is) (by decide) (BindsTo.of_eq rfl) (locs rfl) ?_ rfl rfl rfl (by decide)
  intro g' L h₁ B' F' N' kM sg hid
  have X' := B'.K
  have T' := B'.T
  dsimp only [List.map] at kM hid
  try dsimp only
  k_steps
  refine reprObj_list (X'.keeps (Fr.keep F')) (N' (l, PySem.W.listOf ms.toArray e) (by k_mem)).1 pv (Nat.le_trans (len5 pv nd) (by decide)) rfl (by k_units) fun h2 u2 tk2 k2 => ?_
  have F2 := F'.keptAll k2
  have N2 := News.grown N' k2
  have zz : (Str.empty ++ Str.ofString "OrderedSet" ++ Str.ofString "(" ++ rp ms).length ≤ sizeLine := by
    have := rp_len pv (Nat.le_trans (len5 pv nd) (by decide))
    have a : (Str.empty ++ Str.ofString "OrderedSet" ++ Str.ofString "(").length = 11 := by decide +kernel
    rw [strLen_append, a, sizeLine_eq]
    omega
  have zy : (rp ms).length ≤ sizeLine := by rw [strLen_append] at zz; omega
  have zw : (Str.empty ++ Str.ofString "OrderedSet" ++ Str.ofString "(" ++ rp ms ++ Str.ofString ")").length ≤ sizeLine := by
    have := rp_len pv (Nat.le_trans (len5 pv nd) (by decide))
    have a : (Str.empty ++ Str.ofString "OrderedSet" ++ Str.ofString "(").length = 11 := by decide +kernel
    have b : (Str.ofString ")").length = 1 := by decide +kernel
    rw [strLen_append, strLen_append, a, b, sizeLine_eq]
    omega
  k_steps
  exact hR h2 _ _ (mod0 (kM _ (Fr.keep F2)) oS (N2 (S, _) (by k_mem)).1 od (N2 (dx, _) (by k_mem)).1 ol (N2 (l, PySem.W.listOf ms.toArray e) (by k_mem)).1)
end

end
/-! Fa -/
section
/-- what stands at the end of a chain «if x == c: .. elif x == c': ..» when x is k -/
def chainS (x : Str) (k : Int) : Nat → Stmt → List Stmt
  | n + 1, .If (.Compare (.Name y p) [.Eq] [.Constant (.int c) i pc] q) a b r => if y = x then (if c = k then a else match b with
    | [st] => chainS x k n st
    | _ => b) else [.If (.Compare (.Name y p) [.Eq] [.Constant (.int c) i pc] q) a b r]
  | _, st => [st]
section
variable {w : World} {A : Around} {E : Value → Shared → Prop} {s : Shared} {env : Env}
theorem execs1 {st : Stmt} {Q : Flow → Shared → Prop} (h : wpAny (model PR w) A (exec st env) Q E s) : wpAny (model PR w) A (execs [st] env) Q E s :=
  wpAny_execs_cons (wpAny_mono h (fun f s' q => by cases f <;> first | exact wpAny_execs_nil q | exact q) fun _ _ q => q)
theorem exec1_eq (st : Stmt) : execs [st] env = exec st env := by
  rw [execs_cons]
  exact (bind_congr fun f => by cases f <;> rfl).trans (bind_pure _)
theorem exec1 {st : Stmt} {Q : Flow → Shared → Prop} (h : wpAny (model PR w) A (execs [st] env) Q E s) : wpAny (model PR w) A (exec st env) Q E s := by
  rw [exec1_eq] at h; exact h
theorem chain_ok {x : Str} {k : Int} {u : Tok} {m : Str → Option Value} {Q : Flow → Shared → Prop} (hk : env.scope.kind = .function) (hl : env.kindOf x = some .local) (hd : (x == ("__debug__" : Str)) = false) (hv : m x = some (.int k u)) :
    ∀ (n : Nat) (st : Stmt) (s : Shared), s.heap.Ns env.locals m → (∀ tk, wpAny (model PR w) A (execs (chainS x k n st) env) Q E { s with toks := tk }) → wpAny (model PR w) A (exec st env) Q E s := by
  intro n
  induction n with
  | zero => intro st s _ h; exact exec1 (by have := h s.toks; unfold chainS at this; exact this)
  | succ n ih =>
    intro st s hn h
    unfold chainS at h
    split at h
    · rename_i e
      obtain rfl := Nat.succ.inj e
      rename_i y p c i pc q a b r
      by_cases hy : y = x
      · subst hy
        simp only [if_true] at h
        refine wpAny_If (wpAny_isTrue_Compare1 (wpAny_Name (wpAny_loadName_local hk hl hn hv (wpAny_Constant_int (eq_int (wpAny_truthy_bool ?_)))) hd))
        by_cases hc : c = k
        · subst hc
          simp only [if_true] at h
          rw [if_pos (by simp)]
          exact h _
        · rw [if_neg hc] at h
          rw [if_neg (by simp; exact fun q => hc q.symm)]
          split at h
          · exact execs1 (ih _ _ hn fun tk => h tk)
          · exact h _
      · rw [if_neg hy] at h
        exact exec1 (h s.toks)
    · exact exec1 (h s.toks)
end

end
/-! D1 -/
section
/-- the law's state: the script's cut at sc, how far it is read, the mixer -/
structure St (h : Heap) (st sc : Addr) (vs : List Value) : Prop where
  ex : ∃ i u1 q u2 e1 e2, h.get? st = some (PySem.W.listOf [.ref sc, .int i u1, .int q u2].toArray e1) ∧ h.get? sc = some (PySem.W.listOf vs.toArray e2) ∧ 0 ≤ i ∧ i ≤ (vs.length : Int) ∧ 0 ≤ q ∧ q < 2147483647
  iv : ∀ v ∈ vs, ∃ n t, v = .int n t
  len : vs.length ≤ 60
theorem mod_dropr {h h' : Heap} {a b : Addr} {o : Obj} (m : Mod [a, b] h h') (e : h.get? b = some o) (e' : h'.get? b = some o) : Mod [a] h h' := mod_drop (m.mono (by intro p hp; simp only [List.mem_cons, List.not_mem_nil, or_false] at hp ⊢; rcases hp with h | h <;> simp [h])) e e'
theorem fm0 (a : Int) {m : Int} (h : 1 ≤ m) : 0 ≤ a.fmod m := Int.fmod_nonneg_of_pos a (by omega)
theorem fm1 (a : Int) {m : Int} (h : 1 ≤ m) : a.fmod m < m := Int.fmod_lt_of_pos a (by omega)
section
variable {w : World} {s : Shared} {mg mb : Str → Option Value} {g : Heap} {R : Result → Shared → Prop} {st sc : Addr} {vs : List Value}
local macro_rules | `(tactic| walk_at "call builtin:len") => `(tactic| (k_here; refine halt ?_))
local macro_rules | `(tactic| walk_at "subscriptTail Subscript Subscript ref int") => `(tactic| (k_here; refine halt ?_))
theorem next_spec {many : Int} {um : Tok} (B : Base w mg mb g) (stg : g.StaysIn s.heap) (I : St s.heap st sc vs) (gst : g.get? st = none) (gsc : g.get? sc = none) (hm : 1 ≤ many ∧ many ≤ 20)
    (hR : ∀ h' tk r u, Mod [st] s.heap h' → St h' st sc vs → 0 ≤ r → r < many → R (.ok (.ret (.int r u))) ⟨h', s.gens, s.drawn, tk, s.os⟩) :
    codeAny (model PR w) A1 (.call (.ref 242) ⟨[.ref st, .int many um], []⟩) R s := by
  obtain ⟨⟨i, u1, q, u2, e1, e2, ost, osc, hi0, hi1, hq0, hq1⟩, iv, hlen⟩ := I
  have n1 := neN (show st ≠ sc from fun e => by
    subst e; rw [ost] at osc
    have := congrArg (fun o : Option Obj => o.map (·.data)) osc
    simp only [Option.map_some, PySem.W.listOf] at this
    have h2 := Option.some.inj this
    injection h2 with h3 _
    have h4 := congrArg Array.toList h3
    simp only at h4
    obtain ⟨n, t, e⟩ := iv (.ref st) (by rw [← h4]; exact .head _)
    cases e)
  have z1 : vs.toArray.size ≤ sizeLine := szL (by omega)
  have N : Has g s.heap [(st, PySem.W.listOf [.ref sc, .int i u1, .int q u2].toArray e1), (sc, PySem.W.listOf vs.toArray e2)] :=
    List.forall_mem_cons.mpr ⟨⟨ost, gst⟩, List.forall_mem_cons.mpr ⟨⟨osc, gsc⟩, List.forall_mem_nil _⟩⟩
  refine enter_def B stg N (by k_is) (by k_is) (by decide) (BindsTo.of_eq rfl) (locs rfl) ?_ rfl rfl rfl (by decide)
  intro g' L h₁ B' F' N' kM sg hid
  have X' := B'.K
  have T' := B'.T
  dsimp only [List.map] at kM hid
  try dsimp only
  k_steps
  refine len_list (listAt (N' (sc, PySem.W.listOf vs.toArray e2) (by k_mem)).1) (by rw [List.size_toArray]; omega) ?_
  rw [List.size_toArray]
  k_steps
  · have hlt : i < (vs.length : Int) := by assumption
    obtain ⟨v, hv⟩ : ∃ v, vs[i.toNat]? = some v := ⟨vs[i.toNat], List.getElem?_eq_getElem (by omega)⟩
    obtain ⟨n, t, rfl⟩ := iv v (List.mem_of_getElem? hv)
    refine k_item N' (l := sc) (vs := vs) (e := e2) (by k_mem) hi0 (by omega) hv ?_
    k_steps
    have N2 := ‹News g' L _ _›
    refine hR _ _ _ _ (mod_dropr (kM _ (Fr.keep (by assumption))) osc (N2 (sc, _) (by k_mem)).1) ⟨⟨_, _, _, _, _, _, (N2 (st, _) (by k_mem)).1, (N2 (sc, _) (by k_mem)).1, by omega, by omega, fm0 _ (by decide), fm1 _ (by decide)⟩, iv, hlen⟩ (fm0 _ hm.1) (fm1 _ hm.1)
  · have N2 := ‹News g' L _ _›
    refine hR _ _ _ _ (mod_dropr (kM _ (Fr.keep (by assumption))) osc (N2 (sc, _) (by k_mem)).1) ⟨⟨_, _, _, _, _, _, (N2 (st, _) (by k_mem)).1, (N2 (sc, _) (by k_mem)).1, hi0, hi1, fm0 _ (by decide), fm1 _ (by decide)⟩, iv, hlen⟩ (fm0 _ hm.1) (fm1 _ hm.1)
end

end
/-! D2 -/
section
section
variable {w : World} {A : Around} {s : Shared} {env : Env} {g : Heap} {L : Addr} {m : Str → Option Value} {news : List (Addr × Obj)}
theorem test_inL {x y : Str} {px py pc : Pos} {cl : List (Str × Addr)} {scope : Scope} {C c r : Addr} {oc : Obj} {vs : List Value} {e : Nat} {v : Value} {m₃ : Str → Option Value} {E' : Value → Shared → Prop}
    (hk : (compEnvC scope cl C env).scope.kind = .function) (hx : (compEnvC scope cl C env).kindOf x = some .local) (hy : (compEnvC scope cl C env).kindOf y = some .cell) (hc : cl.lookup y = some c) (dx : (x == ("__debug__" : Str)) = false) (dy : (y == ("__debug__" : Str)) = false)
    (hn : s.heap.Ns C m₃) (hm : m₃ x = some v) (F : Fr g L s.heap m) (X : (hd.heap_39 w.params).In g) (N : News g L s.heap news) (ho : (c, oc) ∈ news) (hd' : oc.data = .cell (some (.ref r))) (hs : (r, PySem.W.listOf vs.toArray e) ∈ news) (hP : ∀ v ∈ vs, Pv v) (hv : Pv v) (hu : A.units + 3 < cLine) :
    wpAny (model PR w) A (forIn [Expr.Compare (.Name x px) [.In] [.Name y py] pc] true fun c r => if r = true then do let ok ← isTrue c (compEnvC scope cl C env) (eval c (compEnvC scope cl C env)); pure (ForInStep.yield ok) else pure (ForInStep.yield r)) (fun ok s₄ => ok = decide (inL vs v) ∧ Keeps s s₄) E' s := by
  refine wpAny_tests_one (wpAny_isTrue_Compare1 (wpAny_Name (wpAny_loadName_local hk hx hn hm (wpAny_Name (wpAny_loadName_cell hk hy hc ⟨oc, (N _ ho).1, hd'⟩ ?_) dy)) dx))
  refine k_in_list F X N hs hP hv hu fun b hb => ?_
  refine wpAny_truthy_bool ⟨?_, s.heap, s.toks, rfl, fun _ _ e => e⟩
  cases b <;> simp_all
theorem test_notinL {x y : Str} {px py pc : Pos} {cl : List (Str × Addr)} {scope : Scope} {C c r : Addr} {oc : Obj} {vs : List Value} {e : Nat} {v : Value} {m₃ : Str → Option Value} {E' : Value → Shared → Prop}
    (hk : (compEnvC scope cl C env).scope.kind = .function) (hx : (compEnvC scope cl C env).kindOf x = some .local) (hy : (compEnvC scope cl C env).kindOf y = some .cell) (hc : cl.lookup y = some c) (dx : (x == ("__debug__" : Str)) = false) (dy : (y == ("__debug__" : Str)) = false)
    (hn : s.heap.Ns C m₃) (hm : m₃ x = some v) (F : Fr g L s.heap m) (X : (hd.heap_39 w.params).In g) (N : News g L s.heap news) (ho : (c, oc) ∈ news) (hd' : oc.data = .cell (some (.ref r))) (hs : (r, PySem.W.listOf vs.toArray e) ∈ news) (hP : ∀ v ∈ vs, Pv v) (hv : Pv v) (hu : A.units + 3 < cLine) :
    wpAny (model PR w) A (forIn [Expr.Compare (.Name x px) [.NotIn] [.Name y py] pc] true fun c r => if r = true then do let ok ← isTrue c (compEnvC scope cl C env) (eval c (compEnvC scope cl C env)); pure (ForInStep.yield ok) else pure (ForInStep.yield r)) (fun ok s₄ => ok = decide (¬ inL vs v) ∧ Keeps s s₄) E' s := by
  refine wpAny_tests_one (wpAny_isTrue_Compare1 (wpAny_Name (wpAny_loadName_local hk hx hn hm (wpAny_Name (wpAny_loadName_cell hk hy hc ⟨oc, (N _ ho).1, hd'⟩ ?_) dy)) dx))
  refine k_notin_list F X N hs hP hv hu fun b hb => ?_
  refine wpAny_truthy_bool ⟨?_, s.heap, s.toks, rfl, fun _ _ e => e⟩
  cases b <;> simp_all
end
section
variable {w : World} {s : Shared} {mg mb : Str → Option Value} {g : Heap} {R : Result → Shared → Prop} {la lb : Addr} {ms vs : List Value} {ea eb : Nat}
/-- _law_both -/
theorem both_spec (B : Base w mg mb g) (stg : g.StaysIn s.heap) (oa : s.heap.get? la = some (PySem.W.listOf ms.toArray ea)) (ga : g.get? la = none) (ob : s.heap.get? lb = some (PySem.W.listOf vs.toArray eb)) (gb : g.get? lb = none) (pa : ∀ v ∈ ms, Pv v) (pb : ∀ v ∈ vs, Pv v) (za : ms.length ≤ 1000)
  (hR : ∀ h' tk D e', Mod [] s.heap h' → s.heap.get? D = none → h'.get? D = some (PySem.W.listOf (ms.filter fun v => decide (inL vs v)).toArray e') → R (.ok (.ret (.ref D))) ⟨h', s.gens, s.drawn, tk, s.os⟩) :
    codeAny (model PR w) A1 (.call (.ref 259) ⟨[.ref la, .ref lb], []⟩) R s := by
  have N : Has g s.heap [(la, PySem.W.listOf ms.toArray ea), (lb, PySem.W.listOf vs.toArray eb)] :=
    List.forall_mem_cons.mpr ⟨⟨oa, ga⟩, List.forall_mem_cons.mpr ⟨⟨ob, gb⟩, List.forall_mem_nil _⟩⟩
  refine enter_cell B stg N (by k_is) (by k_is) (by decide) (BindsTo.of_eq rfl) (kindsX rfl) (by decide) ?_ rfl rfl rfl
  intro g' L h₁ tk0 cells B' F' N' Y' lL kM sg hid
  obtain ⟨oc, rfl, hoc⟩ : ∃ oc : Obj, cells = [(L + 1, oc)] ∧ oc.data = .cell (some (.ref lb)) := by
    cases Y' with
    | cons h r => cases r; exact ⟨_, rfl, h⟩
  have X' := B'.K
  have T' := B'.T
  dsimp only [List.map, List.cons_append, List.nil_append] at kM hid N'
  try dsimp only
  k_steps
  refine halt_out (comp_halt (fun v => decide (inL vs v)) (by exact rfl) (by decide) rfl (by decide) rfl (fun _ => rfl) ?_)
  k_steps
  refine halt_out (k_pyIter_list F' N' (l := la) (ms := ms) (e := ea) (by k_mem) fun h4 I F4 N4 nI => ?_)
  have i0 := N4 (I, liO la 0) (.head _)
  refine comp_walk (l := la) (vs := ms) (e := ea) (g := g') (L := L) (I := I) (news := [(L + 1, oc), (la, PySem.W.listOf ms.toArray ea), (lb, PySem.W.listOf vs.toArray eb)]) (fun v => decide (inL vs v)) rfl F4 (fun p hp => N4 p (.tail _ hp)) nI i0.1 i0.2.2 i0.2.1 (by k_mem) za ?_ ?_ ?_
  · intro C v s₃ m₃ E' hv hn hm F5 N5
    exact test_inL (c := L + 1) (oc := oc) (r := lb) rfl rfl rfl rfl (by decide) (by decide) hn hm F5 X' N5 (by k_mem) hoc (.tail _ (.tail _ (.head _))) pb (pa v hv) (by k_units)
  · exact fun C v s₃ m₃ E' hv hn hm => elt_name rfl rfl (by decide) hn hm
  intro D h5 tk5 e5 F5 N5 nD
  clear F4 N4
  k_steps
  exact hR h5 _ D e5 (mod_drop (mod_drop (kM _ (Fr.keep F5)) oa (N5 (la, PySem.W.listOf ms.toArray ea) (.tail _ (.tail _ (.head _)))).1) ob (N5 (lb, PySem.W.listOf vs.toArray eb) (.tail _ (.tail _ (.tail _ (.head _))))).1)
    (hid D (N5 (D, PySem.W.listOf (ms.filter fun v => decide (inL vs v)).toArray e5) (.head _)).2.2 (by
      have x := nD (la, PySem.W.listOf ms.toArray ea) (.tail _ (.head _))
      have y := nD (lb, PySem.W.listOf vs.toArray eb) (.tail _ (.tail _ (.head _)))
      simp only [List.mem_cons, List.not_mem_nil, or_false, not_or]; exact ⟨Ne.symm x, Ne.symm y⟩))
    (N5 (D, PySem.W.listOf (ms.filter fun v => decide (inL vs v)).toArray e5) (.head _)).1
/-- _law_less -/
theorem less_spec (B : Base w mg mb g) (stg : g.StaysIn s.heap) (oa : s.heap.get? la = some (PySem.W.listOf ms.toArray ea)) (ga : g.get? la = none) (ob : s.heap.get? lb = some (PySem.W.listOf vs.toArray eb)) (gb : g.get? lb = none) (pa : ∀ v ∈ ms, Pv v) (pb : ∀ v ∈ vs, Pv v) (za : ms.length ≤ 1000)
  (hR : ∀ h' tk D e', Mod [] s.heap h' → s.heap.get? D = none → h'.get? D = some (PySem.W.listOf (ms.filter fun v => decide (¬ inL vs v)).toArray e') → R (.ok (.ret (.ref D))) ⟨h', s.gens, s.drawn, tk, s.os⟩) :
    codeAny (model PR w) A1 (.call (.ref 264) ⟨[.ref la, .ref lb], []⟩) R s := by
  have N : Has g s.heap [(la, PySem.W.listOf ms.toArray ea), (lb, PySem.W.listOf vs.toArray eb)] :=
    List.forall_mem_cons.mpr ⟨⟨oa, ga⟩, List.forall_mem_cons.mpr ⟨⟨ob, gb⟩, List.forall_mem_nil _⟩⟩
  refine enter_cell B stg N (by k_is) (by k_is) (by decide) (BindsTo.of_eq rfl) (kindsX rfl) (by decide) ?_ rfl rfl rfl
  intro g' L h₁ tk0 cells B' F' N' Y' lL kM sg hid
  obtain ⟨oc, rfl, hoc⟩ : ∃ oc : Obj, cells = [(L + 1, oc)] ∧ oc.data = .cell (some (.ref lb)) := by
    cases Y' with
    | cons h r => cases r; exact ⟨_, rfl, h⟩
  have X' := B'.K
  have T' := B'.T
  dsimp only [List.map, List.cons_append, List.nil_append] at kM hid N'
  try dsimp only
  k_steps
  refine halt_out (comp_halt (fun v => decide (¬ inL vs v)) (by exact rfl) (by decide) rfl (by decide) rfl (fun _ => rfl) ?_)
  k_steps
  refine halt_out (k_pyIter_list F' N' (l := la) (ms := ms) (e := ea) (by k_mem) fun h4 I F4 N4 nI => ?_)
  have i0 := N4 (I, liO la 0) (.head _)
  refine comp_walk (l := la) (vs := ms) (e := ea) (g := g') (L := L) (I := I) (news := [(L + 1, oc), (la, PySem.W.listOf ms.toArray ea), (lb, PySem.W.listOf vs.toArray eb)]) (fun v => decide (¬ inL vs v)) rfl F4 (fun p hp => N4 p (.tail _ hp)) nI i0.1 i0.2.2 i0.2.1 (by k_mem) za ?_ ?_ ?_
  · intro C v s₃ m₃ E' hv hn hm F5 N5
    exact test_notinL (c := L + 1) (oc := oc) (r := lb) rfl rfl rfl rfl (by decide) (by decide) hn hm F5 X' N5 (by k_mem) hoc (.tail _ (.tail _ (.head _))) pb (pa v hv) (by k_units)
  · exact fun C v s₃ m₃ E' hv hn hm => elt_name rfl rfl (by decide) hn hm
  intro D h5 tk5 e5 F5 N5 nD
  clear F4 N4
  k_steps
  exact hR h5 _ D e5 (mod_drop (mod_drop (kM _ (Fr.keep F5)) oa (N5 (la, PySem.W.listOf ms.toArray ea) (.tail _ (.tail _ (.head _)))).1) ob (N5 (lb, PySem.W.listOf vs.toArray eb) (.tail _ (.tail _ (.tail _ (.head _))))).1)
    (hid D (N5 (D, PySem.W.listOf (ms.filter fun v => decide (¬ inL vs v)).toArray e5) (.head _)).2.2 (by
      have x := nD (la, PySem.W.listOf ms.toArray ea) (.tail _ (.head _))
      have y := nD (lb, PySem.W.listOf vs.toArray eb) (.tail _ (.tail _ (.head _)))
      simp only [List.mem_cons, List.not_mem_nil, or_false, not_or]; exact ⟨Ne.symm x, Ne.symm y⟩))
    (N5 (D, PySem.W.listOf (ms.filter fun v => decide (¬ inL vs v)).toArray e5) (.head _)).1
end

end
/-! D3 -/
section
theorem nE2 {a0 a1 I : Addr} {o0 o1 : Obj} (h0 : a0 ≠ I) (h1 : a1 ≠ I) : ∀ p ∈ [(a0, o0), (a1, o1)], p.1 ≠ I := by
  intro p hp
  simp only [List.mem_cons, List.not_mem_nil, or_false] at hp
  rcases hp with rfl | rfl <;> assumption
end
local macro_rules | `(tactic| walk_at "exec For Name Name cons nil") => `(tactic| (k_here; (with_reducible show wpAny _ _ (exec (Stmt.For (Expr.Name (PySem.Str.ofString "x") _) _ _ [] _) _) _ _ _); (rename Fr _ _ _ _ => lF'); (with_unfolding_all refine' For_invVF lF' ?k1 ?k2 ?_; (case k1 => exact rfl); (case k2 => exact rfl); k_whole)))
section
section
variable {w : World} {s : Shared} {mg mb : Str → Option Value} {g : Heap} {R : Result → Shared → Prop} {la : Addr} {ms : List Value} {ea : Nat}
/-- _law_first -/
theorem first_spec (B : Base w mg mb g) (stg : g.StaysIn s.heap) (oa : s.heap.get? la = some (PySem.W.listOf ms.toArray ea)) (ga : g.get? la = none) (pa : ∀ v ∈ ms, Pv v)
  (hR : ∀ h' tk D e', Mod [] s.heap h' → s.heap.get? D = none → h'.get? D = some (PySem.W.listOf (addAll [] ms).toArray e') → R (.ok (.ret (.ref D))) ⟨h', s.gens, s.drawn, tk, s.os⟩) :
    codeAny (model PR w) A1 (.call (.ref 254) ⟨[.ref la], []⟩) R s := by
  have N : Has g s.heap [(la, PySem.W.listOf ms.toArray ea)] := List.forall_mem_cons.mpr ⟨⟨oa, ga⟩, List.forall_mem_nil _⟩
  refine enter_def B stg N (by k_is) (by k_is) (by decide) (BindsTo.of_eq rfl) (locs rfl) ?_ rfl rfl rfl (by decide)
  intro g' L h₁ B' F' N' kM sg hid
  have X' := B'.K
  have T' := B'.T
  dsimp only [List.map] at kM hid
  try dsimp only
  k_steps
  rename_i T h0 l1 h2 F2 N2
  refine k_pyIter_list F2 N2 (l := la) (ms := ms) (e := ea) (by k_mem) fun h3 I F3 N3 nI => ?_
  have i0 := N3 (I, liO la 0) (.head _)
  refine loop_list (l := la) (vs := ms) (e := ea) (fun i nw => ∃ e', nw = [(T, PySem.W.listOf (addAll [] (ms.take i)).toArray e'), (la, PySem.W.listOf ms.toArray ea)]) rfl ⟨_, i0.1, rfl, rfl⟩ i0.2.2 i0.2.1 F3 (fun p hp => N3 p (.tail _ hp)) nI ?_ ⟨0, rfl⟩ ?_ ?_
  · rintro i nw ⟨e', rfl⟩; k_mem
  · rintro i v nw h4 tk4 oI hv ⟨e', rfl⟩ hne F4 N4
    have pv4 : ∀ v ∈ addAll [] (ms.take i), Pv v := pv_addAll (by simp) fun v hv => pa v (List.mem_of_mem_take hv)
    have nd4 : ((addAll [] (ms.take i)).map cl).Nodup := nd_addAll (by simp)
    have z4 := sz5 pv4 nd4
    have px : Pv v := pa v (List.mem_of_getElem? hv)
    have es4 : ms.take (i + 1) = ms.take i ++ [v] := by rw [List.take_add_one, hv]; rfl
    have m1 := neN (show T ≠ I from hne (T, _) (by k_mem))
    have m2 := neN (show la ≠ I from hne (la, PySem.W.listOf ms.toArray ea) (.tail _ (.head _)))
    clear F2 N2 F3 N3
    k_steps
    · have q : ¬ inL (addAll [] (ms.take i)) v := fun q => Bool.noConfusion ((‹false = true ↔ inL (addAll [] (ms.take i)) v›).mpr q)
      refine turn_ok (by assumption) (by assumption) (fun y hy => if_neg hy) (nE2 m1 m2) ?_
      rw [es4, addAll_snoc, addL_new q]
      exact ⟨_, rfl⟩
    · have q : inL (addAll [] (ms.take i)) v := (‹true = true ↔ inL (addAll [] (ms.take i)) v›).mp rfl
      refine turn_ok (by assumption) (by assumption) (fun y hy => if_neg hy) (nE2 m1 m2) ?_
      rw [es4, addAll_snoc, addL_in q]
      exact ⟨_, rfl⟩
  · rintro nw h4 tk4 u4 ⟨e4, rfl⟩ F4 N4
    rw [List.take_length] at N4
    clear F2 N2 F3 N3
    k_steps
    exact hR h4 _ T e4 (mod_drop (kM _ (Fr.keep F4)) oa (N4 (la, PySem.W.listOf ms.toArray ea) (.tail _ (.head _))).1)
      (hid T (N4 (T, _) (.head _)).2.2 (by simpa using (Nat.ne_of_gt l1))) (N4 (T, _) (.head _)).1
end

end
/-! D4 -/
section
/-- python's cut in two -/
def cutA (ms : List Value) (i : Int) : List Value := ms.take (clipAt ms.length i)
def cutB (ms : List Value) (i : Int) : List Value := ms.drop (clipAt ms.length i)
theorem cutA_len {ms : List Value} {i : Int} {n : Nat} (h : ms.length ≤ n) : (cutA ms i).length ≤ n := Nat.le_trans (by unfold cutA; rw [List.length_take]; exact Nat.min_le_right _ _) h
theorem cutB_len {ms : List Value} {i : Int} {n : Nat} (h : ms.length ≤ n) : (cutB ms i).length ≤ n := Nat.le_trans (by unfold cutB; rw [List.length_drop]; exact Nat.sub_le _ _) h
theorem pick_cutA (ms : List Value) (i : Int) : slicePick ms.toArray none (some i) none = (cutA ms i).toArray := by
  rw [slicePick_plain]
  simp only [Option.elim, List.size_toArray, List.drop_zero, Nat.sub_zero, cutA]
theorem clip_le (n : Nat) (i : Int) : clipAt n i ≤ n := by
  have := clipAt_cast n i
  omega
theorem pick_cutB (ms : List Value) (i : Int) : slicePick ms.toArray (some i) none none = (cutB ms i).toArray := by
  rw [slicePick_plain]
  simp only [Option.elim, List.size_toArray, cutB]
  rw [List.take_of_length_le]
  rw [List.length_drop]; exact Nat.le_refl _
theorem pv_app {a b : List Value} (h1 : ∀ v ∈ a, Pv v) (h2 : ∀ v ∈ b, Pv v) : ∀ v ∈ a ++ b, Pv v := fun v hv => (List.mem_append.mp hv).elim (h1 v) (h2 v)
theorem pv_one {x : Value} (h : Pv x) : ∀ v ∈ [x], Pv v := fun v hv => by rw [List.mem_singleton.mp hv]; exact h
theorem pv_cutA {ms : List Value} {i : Int} (h : ∀ v ∈ ms, Pv v) : ∀ v ∈ cutA ms i, Pv v := fun v hv => h v (List.mem_of_mem_take hv)
theorem pv_cutB {ms : List Value} {i : Int} (h : ∀ v ∈ ms, Pv v) : ∀ v ∈ cutB ms i, Pv v := fun v hv => h v (List.mem_of_mem_drop hv)
theorem pv_addAll0 {ms : List Value} (h : ∀ v ∈ ms, Pv v) : ∀ v ∈ addAll [] ms, Pv v := pv_addAll (by simp) h
theorem len_addAll0 {ms : List Value} (h : ∀ v ∈ ms, Pv v) : (addAll [] ms).length ≤ 100 := Nat.le_trans (len5 (pv_addAll0 h) (nd_addAll (by simp))) (by decide)

section
variable {w : World} {A : Around} {E : Value → Shared → Prop} {s : Shared} {mg mb : Str → Option Value} {g : Heap} {L la lb : Addr} {m : Str → Option Value} {news : List (Addr × Obj)} {ms vs : List Value} {ea eb : Nat} {Q : Value → Shared → Prop} {value slice : PySem.Expr}
theorem k_addL (F : Fr g L s.heap m) (N : News g L s.heap news) (ha : (la, PySem.W.listOf ms.toArray ea) ∈ news) (hb : (lb, PySem.W.listOf vs.toArray eb) ∈ news) (hz : ms.length + vs.length ≤ 1000)
    (h : ∀ D h', Fr g L h' m → News g L h' ((D, PySem.W.listOf (ms ++ vs).toArray 0) :: news) → (∀ p ∈ news, p.1 ≠ D) → Q (.ref D) { s with heap := h' }) :
    wpAny (model PR w) A (binaryOp .Add (.ref la) (.ref lb)) Q E s :=
  add_lists (hsz := by rw [sizeLine_eq]; omega) F N (listAt (N _ ha).1) (listAt (N _ hb).1) fun h' F' N' => h _ h' F' N' fun p hp => neNat (Heap.lt_size (N p hp).1)
theorem k_cutA {i : Int} {u : Tok} (F : Fr g L s.heap m) (N : News g L s.heap news) (ha : (la, PySem.W.listOf ms.toArray ea) ∈ news) (hz : ms.length ≤ 1000)
    (h : ∀ D h', Fr g L h' m → News g L h' ((D, PySem.W.listOf (cutA ms i).toArray 0) :: news) → (∀ p ∈ news, p.1 ≠ D) → Q (.ref D) { s with heap := h' })
    (hs : subscripted slice false (.ref la) (.ref s.heap.objs.size) = operate [.ref s.heap.objs.size, .ref la] (getItem (.ref la) (.ref s.heap.objs.size))) (ht : ∀ r, letTemporaryGo value (.ref la) r = pure ()) :
    wpAny (model PR w) A (subscriptTail value slice (.ref la) (.ref s.heap.objs.size)) Q E { s with heap := s.heap.push { cls := .type "slice", data := .fields #[.none, .int i u, .none] } } :=
  kmk_slice F N (listAt (N _ ha).1) .none (.int i u) (fun D h' F' N' l1 => h D h' F' (by rw [pick_cutA] at N'; exact N') fun p hp => neNat (l1 p hp)) hs ht (szL hz)
theorem k_cutB {i : Int} {u : Tok} (F : Fr g L s.heap m) (N : News g L s.heap news) (ha : (la, PySem.W.listOf ms.toArray ea) ∈ news) (hz : ms.length ≤ 1000)
    (h : ∀ D h', Fr g L h' m → News g L h' ((D, PySem.W.listOf (cutB ms i).toArray 0) :: news) → (∀ p ∈ news, p.1 ≠ D) → Q (.ref D) { s with heap := h' })
    (hs : subscripted slice false (.ref la) (.ref s.heap.objs.size) = operate [.ref s.heap.objs.size, .ref la] (getItem (.ref la) (.ref s.heap.objs.size))) (ht : ∀ r, letTemporaryGo value (.ref la) r = pure ()) :
    wpAny (model PR w) A (subscriptTail value slice (.ref la) (.ref s.heap.objs.size)) Q E { s with heap := s.heap.push { cls := .type "slice", data := .fields #[.int i u, .none, .none] } } :=
  kmk_slice F N (listAt (N _ ha).1) (.int i u) .none (fun D h' F' N' l1 => h D h' F' (by rw [pick_cutB] at N'; exact N') fun p hp => neNat (l1 p hp)) hs ht (szL hz)
theorem k_first (B : Base w mg mb g) (F : Fr g L s.heap m) (N : News g L s.heap news) (ha : (la, PySem.W.listOf ms.toArray ea) ∈ news) (pa : ∀ v ∈ ms, Pv v) (hh : A.handled = none) (hd' : A.depth ≤ 900) (hu : A.units ≤ 8000)
    (h : ∀ D h' tk e', Fr g L h' m → News g L h' ((D, PySem.W.listOf (addAll [] ms).toArray e') :: news) → (∀ p ∈ news, p.1 ≠ D) → Q (.ref D) { s with heap := h', toks := tk }) :
    wpAny (model PR w) A (call (.ref 254) [.ref la]) Q E s :=
  use_at (A := A1) (first_spec B F.keep (N _ ha).1 (N _ ha).2.2 pa fun h' tk D e' md n0 hD => by
    obtain ⟨F', N'⟩ := led_new F N md n0 hD
    exact h D h' tk e' F' N' fun p hp => fresh_ne N (a := p.1) (o := p.2) hp n0) hh hd' rfl rfl hu
theorem k_both (B : Base w mg mb g) (F : Fr g L s.heap m) (N : News g L s.heap news) (ha : (la, PySem.W.listOf ms.toArray ea) ∈ news) (hb : (lb, PySem.W.listOf vs.toArray eb) ∈ news) (pa : ∀ v ∈ ms, Pv v) (pb : ∀ v ∈ vs, Pv v) (za : ms.length ≤ 1000) (hh : A.handled = none) (hd' : A.depth ≤ 900) (hu : A.units ≤ 8000)
    (h : ∀ D h' tk e', Fr g L h' m → News g L h' ((D, PySem.W.listOf (ms.filter fun v => decide (inL vs v)).toArray e') :: news) → (∀ p ∈ news, p.1 ≠ D) → Q (.ref D) { s with heap := h', toks := tk }) :
    wpAny (model PR w) A (call (.ref 259) [.ref la, .ref lb]) Q E s :=
  use_at (A := A1) (both_spec B F.keep (N _ ha).1 (N _ ha).2.2 (N _ hb).1 (N _ hb).2.2 pa pb za fun h' tk D e' md n0 hD => by
    obtain ⟨F', N'⟩ := led_new F N md n0 hD
    exact h D h' tk e' F' N' fun p hp => fresh_ne N (a := p.1) (o := p.2) hp n0) hh hd' rfl rfl hu
theorem k_less (B : Base w mg mb g) (F : Fr g L s.heap m) (N : News g L s.heap news) (ha : (la, PySem.W.listOf ms.toArray ea) ∈ news) (hb : (lb, PySem.W.listOf vs.toArray eb) ∈ news) (pa : ∀ v ∈ ms, Pv v) (pb : ∀ v ∈ vs, Pv v) (za : ms.length ≤ 1000) (hh : A.handled = none) (hd' : A.depth ≤ 900) (hu : A.units ≤ 8000)
    (h : ∀ D h' tk e', Fr g L h' m → News g L h' ((D, PySem.W.listOf (ms.filter fun v => decide (¬ inL vs v)).toArray e') :: news) → (∀ p ∈ news, p.1 ≠ D) → Q (.ref D) { s with heap := h', toks := tk }) :
    wpAny (model PR w) A (call (.ref 264) [.ref la, .ref lb]) Q E s :=
  use_at (A := A1) (less_spec B F.keep (N _ ha).1 (N _ ha).2.2 (N _ hb).1 (N _ hb).2.2 pa pb za fun h' tk D e' md n0 hD => by
    obtain ⟨F', N'⟩ := led_new F N md n0 hD
    exact h D h' tk e' F' N' fun p hp => fresh_ne N (a := p.1) (o := p.2) hp n0) hh hd' rfl rfl hu
theorem k_truthL {Q : Bool → Shared → Prop} (N : News g L s.heap news) (ha : (la, PySem.W.listOf ms.toArray ea) ∈ news) (za : ms.length ≤ 1000)
    (h : ∀ b : Bool, (b = true ↔ ms ≠ []) → Q b { s with toks := s.toks + 1 + 1 }) : wpAny (model PR w) A (truthy (.ref la)) Q E s :=
  wpAny_truthy_list (listAt (N _ ha).1) (by rw [List.size_toArray]; omega) (h _ (by cases ms <;> simp))
end
end
local macro_rules | `(tactic| walk_at "binaryOp Add ref ref") => `(tactic| (k_here; (with_reducible show wpAny _ _ (binaryOp Operator.Add (Value.ref _) (Value.ref _)) _ _ _); k_dflt (refine' k_addL ?k1 ?k2 ?k3 ?k4 ?k5 ?_; (case k1 => k_asm); (case k2 => k_asm); (case k3 => k_mem); (case k4 => k_mem); (case k5 => first | omega | ((simp only [List.length_append, List.length_cons, List.length_nil]); omega) | ((refine Nat.le_trans (Nat.add_le_add (List.length_filter_le _ _) (List.length_filter_le _ _)) ?_); omega)); k_whole); intro D' h' F' N' nD'; (try k_sweep)))
local macro_rules | `(tactic| walk_at "subscriptTail Name Slice ref ref") => `(tactic| (k_here; (with_reducible show wpAny _ _ (subscriptTail _ (PySem.Expr.Slice none (some _) none _) (Value.ref _) (Value.ref _)) _ _ _); k_dflt (refine' k_cutA ?k1 ?k2 ?k3 ?k4 ?_ ?s ?t; (case k1 => k_asm); (case k2 => k_asm); (case k3 => k_mem); (case k4 => omega); (case s => with_unfolding_all rfl); (case t => kmk_pure)); intro D' h' F' N' nD'; (try k_sweep)))
local macro_rules | `(tactic| walk_at "subscriptTail Name Slice ref ref") => `(tactic| (k_here; (with_reducible show wpAny _ _ (subscriptTail _ (PySem.Expr.Slice (some _) none none _) (Value.ref _) (Value.ref _)) _ _ _); k_dflt (refine' k_cutB ?k1 ?k2 ?k3 ?k4 ?_ ?s ?t; (case k1 => k_asm); (case k2 => k_asm); (case k3 => k_mem); (case k4 => omega); (case s => with_unfolding_all rfl); (case t => kmk_pure)); intro D' h' F' N' nD'; (try k_sweep)))
local macro_rules | `(tactic| walk_at "call ref") => `(tactic| (k_here; (with_reducible show wpAny _ _ (call (Value.ref 254) [Value.ref _]) _ _ _); k_dflt (refine' k_first ?b ?k1 ?k2 ?k3 ?p1 ?hh ?hd ?hu ?_; (case b => assumption); (case k1 => k_asm); (case k2 => k_asm); (case k3 => k_mem); (case p1 => repeat (first | assumption | apply pv_app | apply pv_one)); (case hh => exact rfl); (case hd => k_units); (case hu => k_units); k_whole); intro D' h' tk' e' F' N' nD'; (try k_sweep)))
local macro_rules | `(tactic| walk_at "call ref") => `(tactic| (k_here; (with_reducible show wpAny _ _ (call (Value.ref 259) [Value.ref _, Value.ref _]) _ _ _); k_dflt (refine' k_both ?b ?k1 ?k2 ?k3 ?k4 ?p1 ?p2 ?z ?hh ?hd ?hu ?_; (case b => assumption); (case k1 => k_asm); (case k2 => k_asm); (case k3 => k_mem); (case k4 => k_mem); (case p1 => repeat (first | assumption | apply pv_addAll0 | apply pv_one)); (case p2 => repeat (first | assumption | apply pv_addAll0 | apply pv_one)); (case z => omega); (case hh => exact rfl); (case hd => k_units); (case hu => k_units); k_whole); intro D' h' tk' e' F' N' nD'; (try k_sweep)))
local macro_rules | `(tactic| walk_at "call ref") => `(tactic| (k_here; (with_reducible show wpAny _ _ (call (Value.ref 264) [Value.ref _, Value.ref _]) _ _ _); k_dflt (refine' k_less ?b ?k1 ?k2 ?k3 ?k4 ?p1 ?p2 ?z ?hh ?hd ?hu ?_; (case b => assumption); (case k1 => k_asm); (case k2 => k_asm); (case k3 => k_mem); (case k4 => k_mem); (case p1 => repeat (first | assumption | apply pv_addAll0 | apply pv_one)); (case p2 => repeat (first | assumption | apply pv_addAll0 | apply pv_one)); (case z => omega); (case hh => exact rfl); (case hd => k_units); (case hu => k_units); k_whole); intro D' h' tk' e' F' N' nD'; (try k_sweep)))
local macro_rules | `(tactic| walk_at "truthy ref") => `(tactic| (k_here; (with_reducible show wpAny _ _ (truthy (Value.ref _)) _ _ _); k_dflt (refine' k_truthL ?k1 ?k2 ?k3 ?_; (case k1 => k_asm); (case k2 => k_mem); (case k3 => omega); k_whole); intro b hb; cases b))
/-! D5 -/
section
/-- what a deed tells besides -/
inductive Ext where
  | no : Ext
  | miss : Ext
  | one (v : Value) : Ext
/-- the value v tells x, at heap h; what it stands on is new against h0 -/
def ExtAt (h0 h : Heap) (x : Ext) (v : Value) : Prop := match x with
  | .no => v = .none
  | .miss => ∃ t, v = .str (Str.ofString "none") t
  | .one y => ∃ a e, v = .ref a ∧ h0.get? a = none ∧ h.get? a = some (PySem.W.listOf [y].toArray e)
/-- the row that is due -/
def dueL (k : Int) (ms vs us : List Value) (x : Value) (i : Int) : List Value × Ext :=
  if k = 0 then (addAll [] (ms ++ [x]), .no)
  else if k = 1 then (if inL ms x then ms else cutA ms i ++ [x] ++ cutB ms i, .no)
  else if k = 2 then (addAll [] (ms ++ us ++ vs), .no)
  else if k = 3 ∨ k = 11 then (addAll [] (ms ++ vs), .no)
  else if k = 4 then (ms.filter fun v => decide (¬ inL [x] v), .no)
  else if k = 5 then (ms.filter fun v => decide (¬ inL [x] v), if inL ms x then .no else .miss)
  else if k = 6 then (ms.dropLast, match ms.getLast? with | some v => .one v | none => .miss)
  else if k = 7 ∨ k = 12 then (ms.filter fun v => decide (inL vs v), .no)
  else if k = 8 ∨ k = 13 then (ms.filter fun v => decide (¬ inL vs v), .no)
  else if k = 9 ∨ k = 14 then ((ms.filter fun v => decide (¬ inL vs v)) ++ vs.filter fun v => decide (¬ inL ms v), .no)
  else if k = 10 ∨ k = 17 then ((ms.filter fun v => decide (¬ inL us v)) ++ (addAll [] us).filter fun v => decide (¬ inL ms v), .no)
  else if k = 15 then (addAll [] (ms ++ us), .no)
  else if k = 16 then (ms.filter fun v => decide (inL us v), .no)
  else (if k = 18 then ms else addAll [] us, .no)
theorem tup_ne_list {vs : List Value} {its : Array Value} {e : Nat} : tupO vs ≠ PySem.W.listOf its e := fun h => by have := congrArg Obj.cls h; simp [PySem.W.listOf] at this
theorem due_end {s : Heap} {g g' h3 : Heap} {L T D la : Addr} {b3 big : List (Addr × Obj)} {m : Str → Option Value} {v : Value} {X : List Value} {e' : Nat} (H : Has g s b3) (kM : ∀ h', g'.StaysIn h' → Mod (b3.map (·.1)) s h') (hid : ∀ b, g'.get? b = none → b ∉ b3.map (·.1) → s.get? b = none)
    (hb : ∀ p ∈ b3, ∃ its e, p.2 = PySem.W.listOf its e) (F3 : Fr g' L h3 m) (N3 : News g' L h3 big) (sub : ∀ p ∈ b3, p ∈ big) (hT : (T, tupO [.ref D, v]) ∈ big) (hD : (D, PySem.W.listOf X.toArray e') ∈ big) (hDn : D = la ∨ ∀ p ∈ b3, p.1 ≠ D) :
    Mod [] s h3 ∧ s.get? T = none ∧ h3.get? T = some (tupO [.ref D, v]) ∧ (D = la ∨ s.get? D = none) ∧ h3.get? D = some (PySem.W.listOf X.toArray e') := by
  refine ⟨mod_all H (fun p hp => N3 p (sub p hp)) (kM _ F3.keep), hid T (N3 _ hT).2.2 fun q => ?_, (N3 _ hT).1, hDn.imp id fun q => hid D (N3 _ hD).2.2 fun z => ?_, (N3 _ hD).1⟩
  · obtain ⟨p, hp, e⟩ := List.mem_map.mp q
    obtain ⟨its, e2, e3⟩ := hb p hp
    have a := (N3 p (sub p hp)).1
    rw [e, (N3 _ hT).1, e3] at a
    exact tup_ne_list (Option.some.inj a)
  · obtain ⟨p, hp, e⟩ := List.mem_map.mp z
    exact q p hp e
theorem one_new {s h3 g' : Heap} {L D : Addr} {b3 big : List (Addr × Obj)} {X : List Value} {e' : Nat} {x : Value} (hid : ∀ b, g'.get? b = none → b ∉ b3.map (·.1) → s.get? b = none) (N3 : News g' L h3 big) (hD : (D, PySem.W.listOf X.toArray e') ∈ big) (hDn : ∀ p ∈ b3, p.1 ≠ D) (hX : X = [x]) : ExtAt s h3 (.one x) (.ref D) := by
  subst hX
  refine ⟨D, e', rfl, hid D (N3 _ hD).2.2 fun z => ?_, (N3 _ hD).1⟩
  obtain ⟨p, hp, e⟩ := List.mem_map.mp z
  exact hDn p hp e
theorem cutA_last (ms : List Value) : cutA ms (-1) = ms.dropLast := by
  unfold cutA
  rw [show clipAt ms.length (-1) = ms.length - 1 from clipAt_neg ms.length 1 (by decide), List.dropLast_eq_take]
theorem cutB_last {ms : List Value} (h : ms ≠ []) : ∃ x, ms.getLast? = some x ∧ cutB ms (-1) = [x] := by
  obtain ⟨a, x, rfl⟩ : ∃ a x, ms = a ++ [x] := ⟨_, _, (List.dropLast_concat_getLast h).symm⟩
  refine ⟨x, by simp, ?_⟩
  unfold cutB
  rw [show clipAt (a ++ [x]).length (-1) = (a ++ [x]).length - 1 from clipAt_neg _ 1 (by decide)]
  simp
section
variable {w : World} {s : Shared} {mg mb : Str → Option Value} {g : Heap} {R : Result → Shared → Prop} {la lb lu : Addr} {ms vs us : List Value} {ea eb eu : Nat} {x : Value}
theorem due_spec {k i : Int} {uk ui : Tok} (B : Base w mg mb g) (stg : g.StaysIn s.heap) (oa : s.heap.get? la = some (PySem.W.listOf ms.toArray ea)) (ga : g.get? la = none) (ob : s.heap.get? lb = some (PySem.W.listOf vs.toArray eb)) (gb : g.get? lb = none)
   (ou : s.heap.get? lu = some (PySem.W.listOf us.toArray eu)) (gu : g.get? lu = none) (pa : ∀ v ∈ ms, Pv v) (pb : ∀ v ∈ vs, Pv v) (pu : ∀ v ∈ us, Pv v) (px : Pv x) (za : ms.length ≤ 100) (zb : vs.length ≤ 100) (zu : us.length ≤ 100) (hk : 0 ≤ k ∧ k < 20) (hi : -10 ≤ i ∧ i ≤ 10)
  (hR : ∀ h' tk T D e' v, Mod [] s.heap h' → s.heap.get? T = none → h'.get? T = some (tupO [.ref D, v]) → (D = la ∨ s.heap.get? D = none) → h'.get? D = some (PySem.W.listOf (dueL k ms vs us x i).1.toArray e') → ExtAt s.heap h' (dueL k ms vs us x i).2 v → R (.ok (.ret (.ref T))) ⟨h', s.gens, s.drawn, tk, s.os⟩) :
    codeAny (model PR w) A2 (.call (.ref 278) ⟨[.ref la, .ref lb, .int k uk, x, .ref lu, .int i ui], []⟩) R s := by
  have N : Has g s.heap [(la, PySem.W.listOf ms.toArray ea), (lb, PySem.W.listOf vs.toArray eb), (lu, PySem.W.listOf us.toArray eu)] :=
    List.forall_mem_cons.mpr ⟨⟨oa, ga⟩, List.forall_mem_cons.mpr ⟨⟨ob, gb⟩, List.forall_mem_cons.mpr ⟨⟨ou, gu⟩, List.forall_mem_nil _⟩⟩⟩
  refine enter_def B stg N (by k_is) (by k_is) (by decide) (BindsTo.of_eq rfl) (locs rfl) ?_ rfl rfl rfl (by decide)
  intro g' L h₁ B' F' N' kM sg hid
  have X' := B'.K
  have T' := B'.T
  have m1 := mod_all N N' (kM _ F'.keep)
  have st1 : s.heap.StaysIn h₁ := fun b o e => m1 b o e (by simp)
  try dsimp only
  have za2 : ms.length ≤ 1000 := by omega
  have zA := cutA_len (i := i) za
  have zB := cutB_len (i := i) za
  have q0 : k = 0 → dueL k ms vs us x i = (addAll [] (ms ++ [x]), .no) := fun e => by subst e; rfl
  have q1a : k = 1 → inL ms x → dueL k ms vs us x i = (ms, .no) := fun e h => by subst e; simp [dueL, h]
  have q1b : k = 1 → ¬ inL ms x → dueL k ms vs us x i = (cutA ms i ++ [x] ++ cutB ms i, .no) := fun e h => by subst e; simp [dueL, h]
  have q2 : k = 2 → dueL k ms vs us x i = (addAll [] (ms ++ us ++ vs), .no) := fun e => by subst e; rfl
  have q3 : k = 3 ∨ k = 11 → dueL k ms vs us x i = (addAll [] (ms ++ vs), .no) := by rintro (e | e) <;> subst e <;> rfl
  have q4 : k = 4 → dueL k ms vs us x i = (ms.filter fun v => decide (¬ inL [x] v), .no) := fun e => by subst e; rfl
  have q5a : k = 5 → inL ms x → dueL k ms vs us x i = (ms.filter fun v => decide (¬ inL [x] v), .no) := fun e h => by subst e; simp [dueL, h]
  have q5b : k = 5 → ¬ inL ms x → dueL k ms vs us x i = (ms.filter fun v => decide (¬ inL [x] v), .miss) := fun e h => by subst e; simp [dueL, h]
  have q6a : k = 6 → ms = [] → dueL k ms vs us x i = (cutA ms (-1), .miss) := fun e h => by subst e; rw [cutA_last]; simp [dueL, h]
  have q6b : k = 6 → ∀ y, ms.getLast? = some y → dueL k ms vs us x i = (cutA ms (-1), .one y) := fun e y h => by subst e; rw [cutA_last]; simp [dueL, h]
  have q7 : k = 7 ∨ k = 12 → dueL k ms vs us x i = (ms.filter fun v => decide (inL vs v), .no) := by rintro (e | e) <;> subst e <;> rfl
  have q8 : k = 8 ∨ k = 13 → dueL k ms vs us x i = (ms.filter fun v => decide (¬ inL vs v), .no) := by rintro (e | e) <;> subst e <;> rfl
  have q9 : k = 9 ∨ k = 14 → dueL k ms vs us x i = ((ms.filter fun v => decide (¬ inL vs v)) ++ vs.filter fun v => decide (¬ inL ms v), .no) := by rintro (e | e) <;> subst e <;> rfl
  have q10 : k = 10 ∨ k = 17 → dueL k ms vs us x i = ((ms.filter fun v => decide (¬ inL us v)) ++ (addAll [] us).filter fun v => decide (¬ inL ms v), .no) := by rintro (e | e) <;> subst e <;> rfl
  have q15 : k = 15 → dueL k ms vs us x i = (addAll [] (ms ++ us), .no) := fun e => by subst e; rfl
  have q16 : k = 16 → dueL k ms vs us x i = (ms.filter fun v => decide (inL us v), .no) := fun e => by subst e; rfl
  have q18 : k = 18 → dueL k ms vs us x i = (ms, .no) := fun e => by subst e; rfl
  have q19 : k = 19 → dueL k ms vs us x i = (addAll [] us, .no) := fun e => by subst e; rfl
  have zU := len_addAll0 pu
  refine add_kind (x := Str.ofString "m") rfl (by decide) fun kn0 kd0 => ?_
  refine add_val F' (x := Str.ofString "m") rfl fun kv0 => ?_
  refine add_kind (x := Str.ofString "w") rfl (by decide) fun kn1 kd1 => ?_
  refine add_val F' (x := Str.ofString "w") rfl fun kv1 => ?_
  refine add_kind (x := Str.ofString "op") rfl (by decide) fun kn2 kd2 => ?_
  refine add_val F' (x := Str.ofString "op") rfl fun kv2 => ?_
  refine add_kind (x := Str.ofString "one") rfl (by decide) fun kn3 kd3 => ?_
  refine add_val F' (x := Str.ofString "one") rfl fun kv3 => ?_
  refine add_kind (x := Str.ofString "rows") rfl (by decide) fun kn4 kd4 => ?_
  refine add_val F' (x := Str.ofString "rows") rfl fun kv4 => ?_
  refine add_kind (x := Str.ofString "place") rfl (by decide) fun kn5 kd5 => ?_
  refine add_val F' (x := Str.ofString "place") rfl fun kv5 => ?_
  k_steps
  · rename_i D h2 tk2 e2 nD T h3 F3 N3 l3
    obtain ⟨a1, a2, a3, a4, a5⟩ := due_end (la := la) N kM hid (fun p hp => by simp only [List.mem_cons, List.not_mem_nil, or_false] at hp; rcases hp with rfl | rfl | rfl <;> exact ⟨_, _, rfl⟩) F3 N3 (fun p hp => by first | exact .tail _ hp | exact .tail _ (.tail _ hp) | exact .tail _ (.tail _ (.tail _ hp)) | exact .tail _ (.tail _ (.tail _ (.tail _ hp))) | exact .tail _ (.tail _ (.tail _ (.tail _ (.tail _ hp)))) | exact .tail _ (.tail _ (.tail _ (.tail _ (.tail _ (.tail _ hp)))))) (.head _) (by k_mem) (.inr fun p hp => nD p (by first | exact hp | exact .tail _ hp | exact .tail _ (.tail _ hp) | exact .tail _ (.tail _ (.tail _ hp)) | exact .tail _ (.tail _ (.tail _ (.tail _ hp))) | exact .tail _ (.tail _ (.tail _ (.tail _ (.tail _ hp))))))
    exact hR _ _ T _ _ _ a1 a2 a3 a4 (by rw [q0 (by assumption)]; exact a5) (by rw [q0 (by assumption)]; exact rfl)
  · rename_i D h2 nD T h3 F3 N3 l3
    have hx : ¬ inL ms x := fun q => Bool.noConfusion ((‹false = true ↔ inL ms x›).mpr q)
    obtain ⟨a1, a2, a3, a4, a5⟩ := due_end (la := la) N kM hid (fun p hp => by simp only [List.mem_cons, List.not_mem_nil, or_false] at hp; rcases hp with rfl | rfl | rfl <;> exact ⟨_, _, rfl⟩) F3 N3 (fun p hp => by first | exact .tail _ hp | exact .tail _ (.tail _ hp) | exact .tail _ (.tail _ (.tail _ hp)) | exact .tail _ (.tail _ (.tail _ (.tail _ hp))) | exact .tail _ (.tail _ (.tail _ (.tail _ (.tail _ hp)))) | exact .tail _ (.tail _ (.tail _ (.tail _ (.tail _ (.tail _ hp)))))) (.head _) (by k_mem) (.inr fun p hp => nD p (by first | exact hp | exact .tail _ hp | exact .tail _ (.tail _ hp) | exact .tail _ (.tail _ (.tail _ hp)) | exact .tail _ (.tail _ (.tail _ (.tail _ hp))) | exact .tail _ (.tail _ (.tail _ (.tail _ (.tail _ hp))))))
    exact hR _ _ T _ _ _ a1 a2 a3 a4 (by rw [q1b (by assumption) hx]; exact a5) (by rw [q1b (by assumption) hx]; exact rfl)
  · rename_i T h3 F3 N3 l3
    have hx : inL ms x := (‹true = true ↔ inL ms x›).mp rfl
    obtain ⟨a1, a2, a3, a4, a5⟩ := due_end (la := la) N kM hid (fun p hp => by simp only [List.mem_cons, List.not_mem_nil, or_false] at hp; rcases hp with rfl | rfl | rfl <;> exact ⟨_, _, rfl⟩) F3 N3 (fun p hp => by first | exact .tail _ hp | exact .tail _ (.tail _ hp) | exact .tail _ (.tail _ (.tail _ hp)) | exact .tail _ (.tail _ (.tail _ (.tail _ hp))) | exact .tail _ (.tail _ (.tail _ (.tail _ (.tail _ hp)))) | exact .tail _ (.tail _ (.tail _ (.tail _ (.tail _ (.tail _ hp)))))) (.head _) (by k_mem) (.inl rfl)
    exact hR _ _ T _ _ _ a1 a2 a3 a4 (by rw [q1a (by assumption) hx]; exact a5) (by rw [q1a (by assumption) hx]; exact rfl)
  · rename_i D h2 tk2 e2 nD T h3 F3 N3 l3
    obtain ⟨a1, a2, a3, a4, a5⟩ := due_end (la := la) N kM hid (fun p hp => by simp only [List.mem_cons, List.not_mem_nil, or_false] at hp; rcases hp with rfl | rfl | rfl <;> exact ⟨_, _, rfl⟩) F3 N3 (fun p hp => by first | exact .tail _ hp | exact .tail _ (.tail _ hp) | exact .tail _ (.tail _ (.tail _ hp)) | exact .tail _ (.tail _ (.tail _ (.tail _ hp))) | exact .tail _ (.tail _ (.tail _ (.tail _ (.tail _ hp)))) | exact .tail _ (.tail _ (.tail _ (.tail _ (.tail _ (.tail _ hp)))))) (.head _) (by k_mem) (.inr fun p hp => nD p (by first | exact hp | exact .tail _ hp | exact .tail _ (.tail _ hp) | exact .tail _ (.tail _ (.tail _ hp)) | exact .tail _ (.tail _ (.tail _ (.tail _ hp))) | exact .tail _ (.tail _ (.tail _ (.tail _ (.tail _ hp))))))
    exact hR _ _ T _ _ _ a1 a2 a3 a4 (by rw [q2 (by assumption)]; exact a5) (by rw [q2 (by assumption)]; exact rfl)
  · rename_i D h2 tk2 e2 nD T h3 F3 N3 l3
    obtain ⟨a1, a2, a3, a4, a5⟩ := due_end (la := la) N kM hid (fun p hp => by simp only [List.mem_cons, List.not_mem_nil, or_false] at hp; rcases hp with rfl | rfl | rfl <;> exact ⟨_, _, rfl⟩) F3 N3 (fun p hp => by first | exact .tail _ hp | exact .tail _ (.tail _ hp) | exact .tail _ (.tail _ (.tail _ hp)) | exact .tail _ (.tail _ (.tail _ (.tail _ hp))) | exact .tail _ (.tail _ (.tail _ (.tail _ (.tail _ hp)))) | exact .tail _ (.tail _ (.tail _ (.tail _ (.tail _ (.tail _ hp)))))) (.head _) (by k_mem) (.inr fun p hp => nD p (by first | exact hp | exact .tail _ hp | exact .tail _ (.tail _ hp) | exact .tail _ (.tail _ (.tail _ hp)) | exact .tail _ (.tail _ (.tail _ (.tail _ hp))) | exact .tail _ (.tail _ (.tail _ (.tail _ (.tail _ hp))))))
    exact hR _ _ T _ _ _ a1 a2 a3 a4 (by rw [q3 (.inl (by assumption))]; exact a5) (by rw [q3 (.inl (by assumption))]; exact rfl)
  · rename_i D h2 tk2 e2 nD T h3 F3 N3 l3
    obtain ⟨a1, a2, a3, a4, a5⟩ := due_end (la := la) N kM hid (fun p hp => by simp only [List.mem_cons, List.not_mem_nil, or_false] at hp; rcases hp with rfl | rfl | rfl <;> exact ⟨_, _, rfl⟩) F3 N3 (fun p hp => by first | exact .tail _ hp | exact .tail _ (.tail _ hp) | exact .tail _ (.tail _ (.tail _ hp)) | exact .tail _ (.tail _ (.tail _ (.tail _ hp))) | exact .tail _ (.tail _ (.tail _ (.tail _ (.tail _ hp)))) | exact .tail _ (.tail _ (.tail _ (.tail _ (.tail _ (.tail _ hp)))))) (.head _) (by k_mem) (.inr fun p hp => nD p (by first | exact hp | exact .tail _ hp | exact .tail _ (.tail _ hp) | exact .tail _ (.tail _ (.tail _ hp)) | exact .tail _ (.tail _ (.tail _ (.tail _ hp))) | exact .tail _ (.tail _ (.tail _ (.tail _ (.tail _ hp))))))
    exact hR _ _ T _ _ _ a1 a2 a3 a4 (by rw [q3 (.inr (by assumption))]; exact a5) (by rw [q3 (.inr (by assumption))]; exact rfl)
  · rename_i D h2 tk2 e2 nD T h3 F3 N3 l3
    obtain ⟨a1, a2, a3, a4, a5⟩ := due_end (la := la) N kM hid (fun p hp => by simp only [List.mem_cons, List.not_mem_nil, or_false] at hp; rcases hp with rfl | rfl | rfl <;> exact ⟨_, _, rfl⟩) F3 N3 (fun p hp => by first | exact .tail _ hp | exact .tail _ (.tail _ hp) | exact .tail _ (.tail _ (.tail _ hp)) | exact .tail _ (.tail _ (.tail _ (.tail _ hp))) | exact .tail _ (.tail _ (.tail _ (.tail _ (.tail _ hp)))) | exact .tail _ (.tail _ (.tail _ (.tail _ (.tail _ (.tail _ hp)))))) (.head _) (by k_mem) (.inr fun p hp => nD p (by first | exact hp | exact .tail _ hp | exact .tail _ (.tail _ hp) | exact .tail _ (.tail _ (.tail _ hp)) | exact .tail _ (.tail _ (.tail _ (.tail _ hp))) | exact .tail _ (.tail _ (.tail _ (.tail _ (.tail _ hp))))))
    exact hR _ _ T _ _ _ a1 a2 a3 a4 (by rw [q4 (by assumption)]; exact a5) (by rw [q4 (by assumption)]; exact rfl)
  · rename_i D h2 tk2 e2 nD hb T h3 F3 N3 l3
    have hx : ¬ inL ms x := fun q => Bool.noConfusion (hb.mpr q)
    obtain ⟨a1, a2, a3, a4, a5⟩ := due_end (la := la) N kM hid (fun p hp => by simp only [List.mem_cons, List.not_mem_nil, or_false] at hp; rcases hp with rfl | rfl | rfl <;> exact ⟨_, _, rfl⟩) F3 N3 (fun p hp => by first | exact .tail _ hp | exact .tail _ (.tail _ hp) | exact .tail _ (.tail _ (.tail _ hp)) | exact .tail _ (.tail _ (.tail _ (.tail _ hp))) | exact .tail _ (.tail _ (.tail _ (.tail _ (.tail _ hp)))) | exact .tail _ (.tail _ (.tail _ (.tail _ (.tail _ (.tail _ hp)))))) (.head _) (by k_mem) (.inr fun p hp => nD p (by first | exact hp | exact .tail _ hp | exact .tail _ (.tail _ hp) | exact .tail _ (.tail _ (.tail _ hp)) | exact .tail _ (.tail _ (.tail _ (.tail _ hp))) | exact .tail _ (.tail _ (.tail _ (.tail _ (.tail _ hp))))))
    exact hR _ _ T _ _ _ a1 a2 a3 a4 (by rw [q5b (by assumption) hx]; exact a5) (by rw [q5b (by assumption) hx]; exact ⟨_, rfl⟩)
  · rename_i D h2 tk2 e2 nD hb T h3 F3 N3 l3
    have hx : inL ms x := hb.mp rfl
    obtain ⟨a1, a2, a3, a4, a5⟩ := due_end (la := la) N kM hid (fun p hp => by simp only [List.mem_cons, List.not_mem_nil, or_false] at hp; rcases hp with rfl | rfl | rfl <;> exact ⟨_, _, rfl⟩) F3 N3 (fun p hp => by first | exact .tail _ hp | exact .tail _ (.tail _ hp) | exact .tail _ (.tail _ (.tail _ hp)) | exact .tail _ (.tail _ (.tail _ (.tail _ hp))) | exact .tail _ (.tail _ (.tail _ (.tail _ (.tail _ hp)))) | exact .tail _ (.tail _ (.tail _ (.tail _ (.tail _ (.tail _ hp)))))) (.head _) (by k_mem) (.inr fun p hp => nD p (by first | exact hp | exact .tail _ hp | exact .tail _ (.tail _ hp) | exact .tail _ (.tail _ (.tail _ hp)) | exact .tail _ (.tail _ (.tail _ (.tail _ hp))) | exact .tail _ (.tail _ (.tail _ (.tail _ (.tail _ hp))))))
    exact hR _ _ T _ _ _ a1 a2 a3 a4 (by rw [q5a (by assumption) hx]; exact a5) (by rw [q5a (by assumption) hx]; exact rfl)
  · rename_i D h2 nD hb T h3 F3 N3 l3
    have hx : ms = [] := Classical.byContradiction fun q => Bool.noConfusion (hb.mpr q)
    obtain ⟨a1, a2, a3, a4, a5⟩ := due_end (la := la) N kM hid (fun p hp => by simp only [List.mem_cons, List.not_mem_nil, or_false] at hp; rcases hp with rfl | rfl | rfl <;> exact ⟨_, _, rfl⟩) F3 N3 (fun p hp => by first | exact .tail _ hp | exact .tail _ (.tail _ hp) | exact .tail _ (.tail _ (.tail _ hp)) | exact .tail _ (.tail _ (.tail _ (.tail _ hp))) | exact .tail _ (.tail _ (.tail _ (.tail _ (.tail _ hp)))) | exact .tail _ (.tail _ (.tail _ (.tail _ (.tail _ (.tail _ hp)))))) (.head _) (by k_mem) (.inr fun p hp => nD p (by first | exact hp | exact .tail _ hp | exact .tail _ (.tail _ hp) | exact .tail _ (.tail _ (.tail _ hp)) | exact .tail _ (.tail _ (.tail _ (.tail _ hp))) | exact .tail _ (.tail _ (.tail _ (.tail _ (.tail _ hp))))))
    exact hR _ _ T _ _ _ a1 a2 a3 a4 (by rw [q6a (by assumption) hx]; exact a5) (by rw [q6a (by assumption) hx]; exact ⟨_, rfl⟩)
  · rename_i D h2 nD hb D2 h4 nD2 T h3 F3 N3 l3
    obtain ⟨y, hy1, hy2⟩ := cutB_last (hb.mp rfl)
    obtain ⟨a1, a2, a3, a4, a5⟩ := due_end (la := la) N kM hid (fun p hp => by simp only [List.mem_cons, List.not_mem_nil, or_false] at hp; rcases hp with rfl | rfl | rfl <;> exact ⟨_, _, rfl⟩) F3 N3 (fun p hp => by first | exact .tail _ hp | exact .tail _ (.tail _ hp) | exact .tail _ (.tail _ (.tail _ hp)) | exact .tail _ (.tail _ (.tail _ (.tail _ hp))) | exact .tail _ (.tail _ (.tail _ (.tail _ (.tail _ hp)))) | exact .tail _ (.tail _ (.tail _ (.tail _ (.tail _ (.tail _ hp)))))) (.head _) (by k_mem) (.inr fun p hp => nD p (by first | exact hp | exact .tail _ hp | exact .tail _ (.tail _ hp) | exact .tail _ (.tail _ (.tail _ hp)) | exact .tail _ (.tail _ (.tail _ (.tail _ hp))) | exact .tail _ (.tail _ (.tail _ (.tail _ (.tail _ hp))))))
    exact hR _ _ T _ _ _ a1 a2 a3 a4 (by rw [q6b (by assumption) y hy1]; exact a5) (by rw [q6b (by assumption) y hy1]; exact one_new (D := D2) hid N3 (.tail _ (.head _)) (fun p hp => nD2 p (by first | exact hp | exact .tail _ hp | exact .tail _ (.tail _ hp) | exact .tail _ (.tail _ (.tail _ hp)) | exact .tail _ (.tail _ (.tail _ (.tail _ hp))) | exact .tail _ (.tail _ (.tail _ (.tail _ (.tail _ hp)))))) hy2)
  · rename_i D h2 tk2 e2 nD T h3 F3 N3 l3
    obtain ⟨a1, a2, a3, a4, a5⟩ := due_end (la := la) N kM hid (fun p hp => by simp only [List.mem_cons, List.not_mem_nil, or_false] at hp; rcases hp with rfl | rfl | rfl <;> exact ⟨_, _, rfl⟩) F3 N3 (fun p hp => by first | exact .tail _ hp | exact .tail _ (.tail _ hp) | exact .tail _ (.tail _ (.tail _ hp)) | exact .tail _ (.tail _ (.tail _ (.tail _ hp))) | exact .tail _ (.tail _ (.tail _ (.tail _ (.tail _ hp)))) | exact .tail _ (.tail _ (.tail _ (.tail _ (.tail _ (.tail _ hp)))))) (.head _) (by k_mem) (.inr fun p hp => nD p (by first | exact hp | exact .tail _ hp | exact .tail _ (.tail _ hp) | exact .tail _ (.tail _ (.tail _ hp)) | exact .tail _ (.tail _ (.tail _ (.tail _ hp))) | exact .tail _ (.tail _ (.tail _ (.tail _ (.tail _ hp))))))
    exact hR _ _ T _ _ _ a1 a2 a3 a4 (by rw [q7 (.inl (by assumption))]; exact a5) (by rw [q7 (.inl (by assumption))]; exact rfl)
  · rename_i D h2 tk2 e2 nD T h3 F3 N3 l3
    obtain ⟨a1, a2, a3, a4, a5⟩ := due_end (la := la) N kM hid (fun p hp => by simp only [List.mem_cons, List.not_mem_nil, or_false] at hp; rcases hp with rfl | rfl | rfl <;> exact ⟨_, _, rfl⟩) F3 N3 (fun p hp => by first | exact .tail _ hp | exact .tail _ (.tail _ hp) | exact .tail _ (.tail _ (.tail _ hp)) | exact .tail _ (.tail _ (.tail _ (.tail _ hp))) | exact .tail _ (.tail _ (.tail _ (.tail _ (.tail _ hp)))) | exact .tail _ (.tail _ (.tail _ (.tail _ (.tail _ (.tail _ hp)))))) (.head _) (by k_mem) (.inr fun p hp => nD p (by first | exact hp | exact .tail _ hp | exact .tail _ (.tail _ hp) | exact .tail _ (.tail _ (.tail _ hp)) | exact .tail _ (.tail _ (.tail _ (.tail _ hp))) | exact .tail _ (.tail _ (.tail _ (.tail _ (.tail _ hp))))))
    exact hR _ _ T _ _ _ a1 a2 a3 a4 (by rw [q7 (.inr (by assumption))]; exact a5) (by rw [q7 (.inr (by assumption))]; exact rfl)
  · rename_i D h2 tk2 e2 nD T h3 F3 N3 l3
    obtain ⟨a1, a2, a3, a4, a5⟩ := due_end (la := la) N kM hid (fun p hp => by simp only [List.mem_cons, List.not_mem_nil, or_false] at hp; rcases hp with rfl | rfl | rfl <;> exact ⟨_, _, rfl⟩) F3 N3 (fun p hp => by first | exact .tail _ hp | exact .tail _ (.tail _ hp) | exact .tail _ (.tail _ (.tail _ hp)) | exact .tail _ (.tail _ (.tail _ (.tail _ hp))) | exact .tail _ (.tail _ (.tail _ (.tail _ (.tail _ hp)))) | exact .tail _ (.tail _ (.tail _ (.tail _ (.tail _ (.tail _ hp)))))) (.head _) (by k_mem) (.inr fun p hp => nD p (by first | exact hp | exact .tail _ hp | exact .tail _ (.tail _ hp) | exact .tail _ (.tail _ (.tail _ hp)) | exact .tail _ (.tail _ (.tail _ (.tail _ hp))) | exact .tail _ (.tail _ (.tail _ (.tail _ (.tail _ hp))))))
    exact hR _ _ T _ _ _ a1 a2 a3 a4 (by rw [q8 (.inl (by assumption))]; exact a5) (by rw [q8 (.inl (by assumption))]; exact rfl)
  · rename_i D h2 tk2 e2 nD T h3 F3 N3 l3
    obtain ⟨a1, a2, a3, a4, a5⟩ := due_end (la := la) N kM hid (fun p hp => by simp only [List.mem_cons, List.not_mem_nil, or_false] at hp; rcases hp with rfl | rfl | rfl <;> exact ⟨_, _, rfl⟩) F3 N3 (fun p hp => by first | exact .tail _ hp | exact .tail _ (.tail _ hp) | exact .tail _ (.tail _ (.tail _ hp)) | exact .tail _ (.tail _ (.tail _ (.tail _ hp))) | exact .tail _ (.tail _ (.tail _ (.tail _ (.tail _ hp)))) | exact .tail _ (.tail _ (.tail _ (.tail _ (.tail _ (.tail _ hp)))))) (.head _) (by k_mem) (.inr fun p hp => nD p (by first | exact hp | exact .tail _ hp | exact .tail _ (.tail _ hp) | exact .tail _ (.tail _ (.tail _ hp)) | exact .tail _ (.tail _ (.tail _ (.tail _ hp))) | exact .tail _ (.tail _ (.tail _ (.tail _ (.tail _ hp))))))
    exact hR _ _ T _ _ _ a1 a2 a3 a4 (by rw [q8 (.inr (by assumption))]; exact a5) (by rw [q8 (.inr (by assumption))]; exact rfl)
  · rename_i D h2 nD T h3 F3 N3 l3
    obtain ⟨a1, a2, a3, a4, a5⟩ := due_end (la := la) N kM hid (fun p hp => by simp only [List.mem_cons, List.not_mem_nil, or_false] at hp; rcases hp with rfl | rfl | rfl <;> exact ⟨_, _, rfl⟩) F3 N3 (fun p hp => by first | exact .tail _ hp | exact .tail _ (.tail _ hp) | exact .tail _ (.tail _ (.tail _ hp)) | exact .tail _ (.tail _ (.tail _ (.tail _ hp))) | exact .tail _ (.tail _ (.tail _ (.tail _ (.tail _ hp)))) | exact .tail _ (.tail _ (.tail _ (.tail _ (.tail _ (.tail _ hp)))))) (.head _) (by k_mem) (.inr fun p hp => nD p (by first | exact hp | exact .tail _ hp | exact .tail _ (.tail _ hp) | exact .tail _ (.tail _ (.tail _ hp)) | exact .tail _ (.tail _ (.tail _ (.tail _ hp))) | exact .tail _ (.tail _ (.tail _ (.tail _ (.tail _ hp))))))
    exact hR _ _ T _ _ _ a1 a2 a3 a4 (by rw [q9 (.inl (by assumption))]; exact a5) (by rw [q9 (.inl (by assumption))]; exact rfl)
  · rename_i D h2 nD T h3 F3 N3 l3
    obtain ⟨a1, a2, a3, a4, a5⟩ := due_end (la := la) N kM hid (fun p hp => by simp only [List.mem_cons, List.not_mem_nil, or_false] at hp; rcases hp with rfl | rfl | rfl <;> exact ⟨_, _, rfl⟩) F3 N3 (fun p hp => by first | exact .tail _ hp | exact .tail _ (.tail _ hp) | exact .tail _ (.tail _ (.tail _ hp)) | exact .tail _ (.tail _ (.tail _ (.tail _ hp))) | exact .tail _ (.tail _ (.tail _ (.tail _ (.tail _ hp)))) | exact .tail _ (.tail _ (.tail _ (.tail _ (.tail _ (.tail _ hp)))))) (.head _) (by k_mem) (.inr fun p hp => nD p (by first | exact hp | exact .tail _ hp | exact .tail _ (.tail _ hp) | exact .tail _ (.tail _ (.tail _ hp)) | exact .tail _ (.tail _ (.tail _ (.tail _ hp))) | exact .tail _ (.tail _ (.tail _ (.tail _ (.tail _ hp))))))
    exact hR _ _ T _ _ _ a1 a2 a3 a4 (by rw [q9 (.inr (by assumption))]; exact a5) (by rw [q9 (.inr (by assumption))]; exact rfl)
  · rename_i D h2 nD T h3 F3 N3 l3
    obtain ⟨a1, a2, a3, a4, a5⟩ := due_end (la := la) N kM hid (fun p hp => by simp only [List.mem_cons, List.not_mem_nil, or_false] at hp; rcases hp with rfl | rfl | rfl <;> exact ⟨_, _, rfl⟩) F3 N3 (fun p hp => by first | exact .tail _ hp | exact .tail _ (.tail _ hp) | exact .tail _ (.tail _ (.tail _ hp)) | exact .tail _ (.tail _ (.tail _ (.tail _ hp))) | exact .tail _ (.tail _ (.tail _ (.tail _ (.tail _ hp)))) | exact .tail _ (.tail _ (.tail _ (.tail _ (.tail _ (.tail _ hp)))))) (.head _) (by k_mem) (.inr fun p hp => nD p (by first | exact hp | exact .tail _ hp | exact .tail _ (.tail _ hp) | exact .tail _ (.tail _ (.tail _ hp)) | exact .tail _ (.tail _ (.tail _ (.tail _ hp))) | exact .tail _ (.tail _ (.tail _ (.tail _ (.tail _ hp))))))
    exact hR _ _ T _ _ _ a1 a2 a3 a4 (by rw [q10 (.inl (by assumption))]; exact a5) (by rw [q10 (.inl (by assumption))]; exact rfl)
  · rename_i D h2 nD T h3 F3 N3 l3
    obtain ⟨a1, a2, a3, a4, a5⟩ := due_end (la := la) N kM hid (fun p hp => by simp only [List.mem_cons, List.not_mem_nil, or_false] at hp; rcases hp with rfl | rfl | rfl <;> exact ⟨_, _, rfl⟩) F3 N3 (fun p hp => by first | exact .tail _ hp | exact .tail _ (.tail _ hp) | exact .tail _ (.tail _ (.tail _ hp)) | exact .tail _ (.tail _ (.tail _ (.tail _ hp))) | exact .tail _ (.tail _ (.tail _ (.tail _ (.tail _ hp)))) | exact .tail _ (.tail _ (.tail _ (.tail _ (.tail _ (.tail _ hp)))))) (.head _) (by k_mem) (.inr fun p hp => nD p (by first | exact hp | exact .tail _ hp | exact .tail _ (.tail _ hp) | exact .tail _ (.tail _ (.tail _ hp)) | exact .tail _ (.tail _ (.tail _ (.tail _ hp))) | exact .tail _ (.tail _ (.tail _ (.tail _ (.tail _ hp))))))
    exact hR _ _ T _ _ _ a1 a2 a3 a4 (by rw [q10 (.inr (by assumption))]; exact a5) (by rw [q10 (.inr (by assumption))]; exact rfl)
  · rename_i D h2 tk2 e2 nD T h3 F3 N3 l3
    obtain ⟨a1, a2, a3, a4, a5⟩ := due_end (la := la) N kM hid (fun p hp => by simp only [List.mem_cons, List.not_mem_nil, or_false] at hp; rcases hp with rfl | rfl | rfl <;> exact ⟨_, _, rfl⟩) F3 N3 (fun p hp => by first | exact .tail _ hp | exact .tail _ (.tail _ hp) | exact .tail _ (.tail _ (.tail _ hp)) | exact .tail _ (.tail _ (.tail _ (.tail _ hp))) | exact .tail _ (.tail _ (.tail _ (.tail _ (.tail _ hp)))) | exact .tail _ (.tail _ (.tail _ (.tail _ (.tail _ (.tail _ hp)))))) (.head _) (by k_mem) (.inr fun p hp => nD p (by first | exact hp | exact .tail _ hp | exact .tail _ (.tail _ hp) | exact .tail _ (.tail _ (.tail _ hp)) | exact .tail _ (.tail _ (.tail _ (.tail _ hp))) | exact .tail _ (.tail _ (.tail _ (.tail _ (.tail _ hp))))))
    exact hR _ _ T _ _ _ a1 a2 a3 a4 (by rw [q15 (by assumption)]; exact a5) (by rw [q15 (by assumption)]; exact rfl)
  · rename_i D h2 tk2 e2 nD T h3 F3 N3 l3
    obtain ⟨a1, a2, a3, a4, a5⟩ := due_end (la := la) N kM hid (fun p hp => by simp only [List.mem_cons, List.not_mem_nil, or_false] at hp; rcases hp with rfl | rfl | rfl <;> exact ⟨_, _, rfl⟩) F3 N3 (fun p hp => by first | exact .tail _ hp | exact .tail _ (.tail _ hp) | exact .tail _ (.tail _ (.tail _ hp)) | exact .tail _ (.tail _ (.tail _ (.tail _ hp))) | exact .tail _ (.tail _ (.tail _ (.tail _ (.tail _ hp)))) | exact .tail _ (.tail _ (.tail _ (.tail _ (.tail _ (.tail _ hp)))))) (.head _) (by k_mem) (.inr fun p hp => nD p (by first | exact hp | exact .tail _ hp | exact .tail _ (.tail _ hp) | exact .tail _ (.tail _ (.tail _ hp)) | exact .tail _ (.tail _ (.tail _ (.tail _ hp))) | exact .tail _ (.tail _ (.tail _ (.tail _ (.tail _ hp))))))
    exact hR _ _ T _ _ _ a1 a2 a3 a4 (by rw [q16 (by assumption)]; exact a5) (by rw [q16 (by assumption)]; exact rfl)
  · rename_i T h3 F3 N3 l3
    obtain ⟨a1, a2, a3, a4, a5⟩ := due_end (la := la) N kM hid (fun p hp => by simp only [List.mem_cons, List.not_mem_nil, or_false] at hp; rcases hp with rfl | rfl | rfl <;> exact ⟨_, _, rfl⟩) F3 N3 (fun p hp => by first | exact .tail _ hp | exact .tail _ (.tail _ hp) | exact .tail _ (.tail _ (.tail _ hp)) | exact .tail _ (.tail _ (.tail _ (.tail _ hp))) | exact .tail _ (.tail _ (.tail _ (.tail _ (.tail _ hp)))) | exact .tail _ (.tail _ (.tail _ (.tail _ (.tail _ (.tail _ hp)))))) (.head _) (by k_mem) (.inl rfl)
    exact hR _ _ T _ _ _ a1 a2 a3 a4 (by rw [q18 (by assumption)]; exact a5) (by rw [q18 (by assumption)]; exact rfl)
  · rename_i D h2 tk2 e2 nD T h3 F3 N3 l3
    have hx : k = 19 := by have := hk.1; have := hk.2; omega
    obtain ⟨a1, a2, a3, a4, a5⟩ := due_end (la := la) N kM hid (fun p hp => by simp only [List.mem_cons, List.not_mem_nil, or_false] at hp; rcases hp with rfl | rfl | rfl <;> exact ⟨_, _, rfl⟩) F3 N3 (fun p hp => by first | exact .tail _ hp | exact .tail _ (.tail _ hp) | exact .tail _ (.tail _ (.tail _ hp)) | exact .tail _ (.tail _ (.tail _ (.tail _ hp))) | exact .tail _ (.tail _ (.tail _ (.tail _ (.tail _ hp)))) | exact .tail _ (.tail _ (.tail _ (.tail _ (.tail _ (.tail _ hp)))))) (.head _) (by k_mem) (.inr fun p hp => nD p (by first | exact hp | exact .tail _ hp | exact .tail _ (.tail _ hp) | exact .tail _ (.tail _ (.tail _ hp)) | exact .tail _ (.tail _ (.tail _ (.tail _ hp))) | exact .tail _ (.tail _ (.tail _ (.tail _ (.tail _ hp))))))
    exact hR _ _ T _ _ _ a1 a2 a3 a4 (by rw [q19 hx]; exact a5) (by rw [q19 hx]; exact rfl)
end

end
/-! E1 -/
section
abbrev AE (fs : List Env) : Around := { depth := 800, units := 6000, frames := some fs }
section
variable {w : World} {A : Around} {E : Value → Shared → Prop} {s : Shared} {S : Addr} {o : Obj} {es : Array (Int × Value)} {ep : Nat} {t : SetTable} {x : Value}
/-- set.remove(S, x) where it is not there: KeyError, and nothing else is turned -/
theorem call_remove_miss (L : SetAt w s.heap S o es ep t) (hx : Pv x) (hh : A.handled = none) (hu : A.units + 4 < cLine) {Q : Value → Shared → Prop} (hm : ¬ memS es x)
    (h : ∀ h' e tk, Heap.MadeExc s.heap h' e "KeyError" [x] → E (.ref e) { s with heap := h', toks := tk }) : wpAny (model PR w) A (call (.builtin "set.remove") [.ref S, x]) Q E s := by
  refine L.like.call scall_remove (args_remove _ _) entry_remove ?_
  unfold Builtin.«set.remove» Builtin.Frozenset.oneOther
  simp only [List.isEmpty_nil, bind_assoc]
  unfold Builtin.Frozenset.addrOf Builtin.Frozenset.withSetAsKey
  refine wpAny_bind (wpAny_pure ?_)
  try dsimp only
  refine wpAny_bind (wpAny_pure ?_)
  try dsimp only
  refine wpAny_bind (wpAny_tryCatch ?_)
  unfold setDiscard
  refine wpAny_holding (wpAny_bind (hash_pool L.like.K hx (by simp only [Around.in1_units]; omega) fun tk => ?_))
  unfold setDiscardHashed
  refine wpAny_bind (find_ok (s := { s with toks := tk }) L.like.K L.like.get L.data L.ok hx (by simp only [Around.in1_units]; omega) (fun i e hi hc => absurd ⟨e, Array.mem_of_getElem? hi, hc⟩ hm) fun hn => ?_)
  refine wpAny_pure ?_
  simp only [Bool.not_false, if_true]
  refine wpAny_bind (wpAny_rule ?_)
  refine wpAny_bind (wpAny_newExc_plain plainExc_KeyError (fun h' e hx => ?_) (by rw [sizeLine_eq]; simp))
  exact wpAny_bind (wpAny_raiseNew_none hh (h h' e tk hx))
end
theorem keeps_ups {h h' : Heap} (k : h.StaysIn h') : h.UpToSlots h' := Heap.UpToSlots.of_keeps k
section
variable {w : World} {s : Shared} {mg mb : Str → Option Value} {g : Heap} {R : Result → Shared → Prop} {S dx l : Addr} {ms : List Value} {x : Value}
theorem remove_miss (B : Base w mg mb g) (stg : g.StaysIn s.heap) (I : OSet w s.heap S dx l ms) (gS : g.get? S = none) (gd : g.get? dx = none) (gl : g.get? l = none) {fs : List Env} {base : Heap} (hx : Pv x) (hm : ¬ inL ms x) (hb : base.StaysIn s.heap) (hl : s.heap.FunFrames base fs)
    (hR : ∀ h' e a0 tk, Heap.FlyingW base fs e (.type "KeyError") a0 h' → s.heap.UpToSlots h' → R (.error (.ref e)) ⟨h', s.gens, s.drawn, tk, s.os⟩) :
    codeAny (model PR w) (AE fs) (.call (.ref 72) ⟨[.ref S, x], []⟩) R s := by
  obtain ⟨⟨es, ep, t, e, oS, od, ol, f⟩, pv, nd⟩ := I
  have z := sz5 pv nd
  have n1 := neN (neObj oS od set_ne_dict)
  have n2 := neN (neObj oS ol set_ne_list)
  have n3 := neN (neObj od ol dict_ne_list)
  have N : Has g s.heap [(S, setO (.ref 232) (some dx) es ep t #[some (.ref l)]), (dx, dictE), (l, PySem.W.listOf ms.toArray e)] :=
    List.forall_mem_cons.mpr ⟨⟨oS, gS⟩, List.forall_mem_cons.mpr ⟨⟨od, gd⟩, List.forall_mem_cons.mpr ⟨⟨ol, gl⟩, List.forall_mem_nil _⟩⟩⟩
  refine enter_def B stg N (by k_is) (by k_is) (show 800 < recursionLimit by decide) (BindsTo.of_eq rfl) (locs rfl) ?_ rfl rfl rfl (by decide)
  intro g' L h₁ B' F' N' kM sg hid
  have X' := B'.K
  have T' := B'.T
  dsimp only [List.map] at kM hid
  try dsimp only
  have m1 := mod_all N N' (kM _ F'.keep)
  have st1 : s.heap.StaysIn h₁ := fun b o e => m1 b o e (by simp)
  have sL : s.heap.get? L = none := hid L (kts_self F') (by
    have a := (N' (S, setO (.ref 232) (some dx) es ep t #[some (.ref l)]) (.head _)).2.1
    have b := (N' (dx, dictE) (.tail _ (.head _))).2.1
    have c := (N' (l, PySem.W.listOf ms.toArray e) (.tail _ (.tail _ (.head _)))).2.1
    simp only [List.mem_cons, List.not_mem_nil, or_false, not_or]; exact ⟨Ne.symm a, Ne.symm b, Ne.symm c⟩)
  k_steps
  refine call_remove_miss (setAt_news F' X' N' (S := S) (by k_mem) (.inr rfl) f) hx rfl (by k_units) (fun q => hm ((f.mem x).mp q)) fun h2 e2 tk2 hx2 => ?_
  refine wpAny_leaves_madeW (base := base) (h := h₁) (env := envOf _ _ L _ _) (outer := fs) (Around.frames_deeper rfl) rfl (fun b o q => st1 b o (hb b o q)) ?_ hx2.of fun h3 t3 fl3 tup3 n3 us3 => ?_
  · exact .cons (show ScopeKind.function ≠ ScopeKind.module by decide) rfl F'.ns (none_of hb sL) (hl.of_keeps fun b o q _ => ⟨o, st1 b o q, rfl⟩)
  · exact hR _ _ _ _ fl3 (((keeps_ups st1).trans (keeps_ups hx2.keeps)).trans us3)
end

end
/-! E2 -/
section
section
variable {prog : Program} {w : World} {A₀ : Around} {E : Value → Shared → Prop} {s' : Shared} {g h bz : Heap} {outer : List Env} {L a e : Addr} {m : Str → Option Value} {name : Str} {scope : Scope} {cd a0 : Value} {b₀ : Stmt} {suite : List Stmt} {pos np : Pos} {rest : List ExceptHandler} {Q : Flow → Shared → Prop}
  {mg mb : Str → Option Value}
/-- an exception from a callee lands in this frame's own clause -/
theorem lands_here {x : Str} {X T' : String} (hfr : A₀.frames = some outer) (F : Fr g L h m) (B : Base w mg mb g) (hbz : g.StaysIn bz) (fl : Heap.FlyingW bz (envOf name scope L a cd :: outer) e (.type X) a0 s'.heap) (hsm : h.UpToSlots s'.heap)
    (hv : bootBuiltins x = some (.type T'))
    (hexc : isSubtype (.type T') (.type "BaseException") = pure true) (hnt : isSubtype (.type ((Manifest.find? T').elim "type" fun y => y.metatype)) (.type "tuple") = pure false) (hsub : isSubtype (.type X) (.type T') = pure true)
    (k : ∀ h', Fr g L h' m → bz.StaysIn h' → h.UpToSlots h' → wpAny (model prog w) ((A₀.deeper (envOf name scope L a cd)).mark (some (.ref e))) (execs (b₀ :: suite) (envOf name scope L a cd)) Q E { s' with heap := h' })
    (h1 : x ∉ startupNames := by decide +kernel) (h2 : x ∉ looseW hd.view_39 [Str.ofString "OrderedSet", Str.ofString "_law_pool"] := by decide +kernel) (h3 : x ∉ (recsOf hd.view_39).map (·.name) := by decide +kernel) (h4 : x ∉ (litsOf hd.view_39).map (·.1) := by decide +kernel) (h4c : x ∉ (clssOf hd.view_39 (looseW hd.view_39 [Str.ofString "OrderedSet", Str.ofString "_law_pool"])).map (·.name) := by decide +kernel) (hn : x ≠ "__name__" := by decide +kernel)
    (hk : scope.kind = .function := by rfl) (hx : (envOf name scope L a cd).kindOf x = some .globalImplicit := by rfl) (hd : (x == ("__debug__" : Str)) = false := by decide)
    (hE : PassesOwnAt (model prog w) ((A₀.deeper (envOf name scope L a cd)).mark (some (.ref e))) (A₀.deeper (envOf name scope L a cd)) (envOf name scope L a cd) E := by passes_own) :
    wpAny (model prog w) (A₀.deeper (envOf name scope L a cd)) (noteFrame (.ref e) (envOf name scope L a cd))
      (fun _ s₂ => wpAny (model prog w) (A₀.deeper (envOf name scope L a cd)) (setFlight (.ref e) none) (fun _ s₃ =>
        wpAny (model prog w) (A₀.deeper (envOf name scope L a cd)) (handleBy (.ref e) (envOf name scope L a cd) (.ExceptHandler (some (.Name x np)) none (b₀ :: suite) pos :: rest)) Q E s₃) E s₂) E s' := by
  refine wpAny_looks_onW (Around.frames_deeper hfr) rfl fl fun h₄ held₄ sm₄ => ?_
  refine wpAny_landsW held₄ fun h₅ held₅ sm₅ => ?_
  have sm := hsm.trans (sm₄.trans sm₅)
  have F₅ : Fr g L h₅ m := F.of_stays (fun b o q => held₅.1 b o (hbz b o q)) sm
  obtain ⟨ob, hob, hobc⟩ := held₅.there
  have T := B.T
  refine wpAny_handleBy_builtin (X := X) (T := T') (b := true) hexc hnt hsub (ld_builtin_at F₅ T.g (T.free x h1 h2 h3 h4 h4c) T.b ((T.builtins x hn).trans hv) ⟨rfl, ⟨ob, hob, hobc⟩, ?_⟩ hk hx hd)
  refine lands_againW held₅ fun h₆ fl₆ sm₆ => ?_
  have sm' := sm.trans sm₆
  exact wpAny_passesOwnAt hE (k h₆ (F.of_stays (fun b o q => fl₆.1 b o (hbz b o q)) sm') fl₆.1 sm')
end

end
/-! E3 -/
section
/-- what was laid stands, the frames of l are there -/
structure Gr (base : Heap) (l : List Env) (h : Heap) : Prop where
  stays : base.StaysIn h
  frames : h.FunFrames base l
theorem Gr.keeps {base h h' : Heap} {l : List Env} (G : Gr base l h) (k : h.StaysIn h') : Gr base l h' := ⟨fun b o e => k b o (G.stays b o e), G.frames.of_keeps fun b o e _ => ⟨o, k b o e, rfl⟩⟩
theorem upd_gr {base h : Heap} {l : List Env} {e : Addr} {o : Obj} {vs : Array Value} (G : Gr base l h) (he : h.get? e = some o) (hd : o.data = .fields vs) (hn : base.get? e = none) (f : Array Value → Array Value) :
    Gr base l (h.update e (Obj.mapFields f)) ∧ h.UpToSlots (h.update e (Obj.mapFields f)) ∧ (h.update e (Obj.mapFields f)).get? e = some (Obj.mapFields f o) ∧ ∀ b, b ≠ e → (h.update e (Obj.mapFields f)).get? b = h.get? b := by
  have other : ∀ b, b ≠ e → (h.update e (Obj.mapFields f)).get? b = h.get? b := fun b q => Heap.get?_update_other _ _ (Ne.symm q)
  have rec' : ∀ b o', h.get? b = some o' → (∀ vs, o'.data ≠ .fields vs) → b ≠ e := fun b o' hb nf q => by
    subst q; rw [he] at hb; cases hb; exact nf vs hd
  refine ⟨⟨fun b o' e' => ?_, G.frames.of_keeps fun b o' hb nf => ⟨o', (other b (rec' b o' hb nf)).trans hb, rfl⟩⟩, fun b o' hb nf => ⟨o'.slots, (other b (rec' b o' hb nf)).trans hb⟩, ?_, other⟩
  · rw [other b fun q => by subst q; rw [hn] at e'; cases e']
    exact G.stays b o' e'
  · exact Heap.get?_update_self _ he (Obj.isFreed_of_fields (Obj.data_mapFields hd f))
section
variable {M : Model} {A : Around} {E : Value → Shared → Prop} {s : Shared} {base : Heap} {env : Env} {outer : List Env} {L e : Addr}
/-- the frame's note on a new exception: told to the last field -/
theorem note_new {oe : Obj} {t0 c2 c3 c4 c5 : Value} {Q : Unit → Shared → Prop} (hfr : A.frames = some (env :: outer)) (hf : env.frame = some L) (G : Gr base (env :: outer) s.heap) (hen : base.get? e = none)
    (he : s.heap.get? e = some oe) (hd : oe.data = .fields #[t0, .none, c2, c3, c4, c5])
    (h : ∀ h' T oT ts oe', Gr base (env :: outer) h' → s.heap.UpToSlots h' → h'.get? e = some oe' → oe'.cls = oe.cls → oe'.data = .fields #[t0, .ref T, c2, c3, c4, c5] → T ≠ e → base.get? T = none → h'.get? T = some oT → oT.data = .fields ts → ts[3]? = some (rawInt L) → Q () { s with heap := h' }) :
    wpAny M A (noteFrame (.ref e) env) Q E s := by
  have nin : e ∉ (env :: outer).filterMap (·.frame) := fun q => by
    obtain ⟨_, o, ho, nf⟩ := G.frames.mem q
    rw [he] at ho; cases ho; exact nf _ hd
  unfold noteFrame
  simp only [hf]
  refine wpAny_bind (wpAny_field he hd (x := .none) rfl ?_)
  rw [if_neg (by decide)]
  refine wpAny_bind (wpAny_frameOf_fun hfr G.frames hf fun h₁ s₁ => ?_)
  refine wpAny_bind (wpAny_entryPlaceOf fun pl hpl => ?_)
  unfold EntryCells.newEntry newFields
  refine wpAny_bind (wpAny_newObj_type ?_ (hpl.sizeOk5 _ _ _ _ _))
  have he1 : h₁.get? e = some oe := (s₁.2.1 e nin).trans he
  have G1 : Gr base (env :: outer) h₁ := ⟨fun b o q => (s₁.2.1 b fun z => by rw [(G.frames.mem z).1] at q; cases q).trans (G.stays b o q), G.frames.of_slotsOnly s₁⟩
  have u1 : s.heap.UpToSlots h₁ := fun b o q _ => s₁.2.2 b o q
  have k2 : h₁.StaysIn (h₁.push { cls := .type "traceback", dict := none, data := .fields ([.none, .ref L, .none, rawInt L, .none] ++ (if pl.isEmpty then List.replicate 6 Value.none else pl)).toArray }) := fun b o q => Heap.get?_push_of_some _ q
  have he2 := k2 _ _ he1
  have hT2 := Heap.get?_push_size h₁ (o := { cls := .type "traceback", dict := none, data := .fields ([.none, .ref L, .none, rawInt L, .none] ++ (if pl.isEmpty then List.replicate 6 Value.none else pl)).toArray }) rfl
  have hTe : h₁.objs.size ≠ e := Nat.ne_of_gt (Heap.lt_size he1)
  obtain ⟨G3, u3, e3, o3⟩ := upd_gr (G1.keeps k2) he2 hd hen (·.setIfInBounds 1 (Value.ref h₁.objs.size))
  refine wpAny_setField he2 hd (show 1 < 6 by decide) (h _ h₁.objs.size _ _ _ G3 ((u1.trans (Heap.UpToSlots.of_keeps k2)).trans u3) e3 (Obj.cls_mapFields _ _) (Obj.data_mapFields hd _) hTe G1.stays.fresh ((o3 _ hTe).trans hT2) rfl ?_)
  simp
/-- the flight's mark on a told exception -/
theorem flight_set {oe : Obj} {t0 c2 c3 c4 c5 : Value} {T : Addr} {oT : Obj} {ts : Array Value} {fl : Value} {fr : Option Addr} {Q : Unit → Shared → Prop} {l : List Env} (G : Gr base l s.heap)
    (he : s.heap.get? e = some oe) (hde : oe.data = .fields #[t0, .ref T, c2, c3, c4, c5]) (hTe : T ≠ e) (hn : base.get? T = none) (hT : s.heap.get? T = some oT) (hd : oT.data = .fields ts) (h3 : ts[3]? = some fl)
    (h : ∀ h' oT' ts', Gr base l h' → s.heap.UpToSlots h' → h'.get? e = some oe → h'.get? T = some oT' → oT'.data = .fields ts' → ts'[3]? = some (fr.elim .none fun f => rawInt f) → Q () { s with heap := h' }) :
    wpAny M A (setFlight (.ref e) fr) Q E s := by
  have z3 : 3 < ts.size := (Array.getElem?_eq_some_iff.mp h3).1
  unfold setFlight
  refine wpAny_bind (wpAny_field he hde (x := .ref T) rfl ?_)
  rw [if_pos (show (Value.ref T != Value.none) = true from by simp)]
  obtain ⟨G3, u3, e3, o3⟩ := upd_gr G hT hd hn (·.setIfInBounds 3 (fr.elim .none fun f => rawInt f))
  refine wpAny_setField hT hd z3 (h _ _ _ G3 u3 ((o3 e (Ne.symm hTe)).trans he) e3 (Obj.data_mapFields hd _) ?_)
  simp [z3]
end
section
variable {w : World} {A : Around} {E : Value → Shared → Prop} {s : Shared} {env : Env} {e1 : Addr}
theorem entry_unchain : entryFor table "proto.unchain" = some Builtin.«proto.unchain» := entryFor_of_tree (by kernel_rfl)
theorem plain_unchain : plainId "proto.unchain" = true := by decide +kernel
theorem chain_free {e2 : Addr} {o1 : Obj} {a0 a1 a3 a4 a5 : Value} {Q : Value → Shared → Prop} (he1 : s.heap.get? e1 = some o1) (hd1 : o1.data = .fields #[a0, a1, .none, a3, a4, a5]) (h : Q .none s) :
    wpAny (model PR w) A (runValue (.builtin "proto.unchain" ⟨[.ref e2, .ref e1, .ref e1, .bool false], []⟩)) Q E s := by
  refine wpAny_runValue ?_
  refine codeAny_builtin entry_unchain ?_
  unfold Builtin.«proto.unchain»
  refine wpAny_bind (wpAny_field he1 hd1 (x := .none) rfl ?_)
  rw [if_pos (by decide)]
  show wpAny _ _ (ret _) _ _ _
  exact wpAny_pure h
/-- raise X(..) from None, where e1 is being handled -/
theorem raise_from_none {x c : Sem Value} {a0 a1 a3 a4 a5 : Value} {base : Heap} {l : List Env} {Q : Flow → Shared → Prop} (hh : A.handled = some (.ref e1)) (hc : ∀ (Q : Value → Shared → Prop) s, Q .none s → wpAny (model PR w) A c Q E s)
    (h : wpAny (model PR w) A x (fun v s₁ => ∃ e2 t o2, v = .ref e2 ∧ e2 ≠ e1 ∧ base.get? e2 = none ∧ Gr base l s₁.heap ∧ s₁.heap.get? e2 = some o2 ∧ o2.cls = .type "KeyError" ∧ o2.data = .fields #[t, .none, .none, .none, .bool false, .none] ∧ (∃ o1, s₁.heap.get? e1 = some o1 ∧ o1.data = .fields #[a0, a1, .none, a3, a4, a5]) ∧
      ∀ h' o3, Gr base l h' → s₁.heap.UpToSlots h' → h'.get? e2 = some o3 → o3.cls = .type "KeyError" → o3.data = .fields #[t, .none, .ref e1, .none, .bool true, .none] → E (.ref e2) { s₁ with heap := h' }) E s) :
    wpAny (model PR w) A (raiseStmt env (some x) (some c)) Q E s := by
  unfold raiseStmt
  refine wpAny_bind (wpAny_mono h (fun v s₁ h₁ => ?_) fun _ _ x => x)
  obtain ⟨e2, t, ⟨c2, dd, dt, sl⟩, rfl, ne, hn, G, he2, hc2, hd2, ⟨o1, he1, hd1⟩, hE⟩ := h₁
  simp only at hc2 hd2
  subst hc2 hd2
  refine wpAny_bind (wpAny_holding (hc _ _ ?_))
  obtain ⟨hp, g, d, tk, os⟩ := s₁
  have hsub := PyProof.Rows.excClass_KeyError.base
  have hmeta := PyProof.Rows.excClass_KeyError.metaType
  repeat (first | refine wpAny_loadPart he2 ?_ | wp_step)
  obtain ⟨Ga, ua, ea, oa⟩ := upd_gr G he2 rfl hn (·.setIfInBounds 3 Value.none)
  obtain ⟨Gb, ub, eb, ob⟩ := upd_gr Ga ea rfl hn (·.setIfInBounds 4 (Value.bool true))
  have hb1 := ((ob e1 ne.symm).trans (oa e1 ne.symm)).trans he1
  unfold raiseNew
  refine wpAny_bind (wpAny_handled ?_)
  rw [hh]
  dsimp only
  rw [if_pos (by simp [ne.symm])]
  refine wpAny_bind (wpAny_holding (chain_free hb1 hd1 ?_))
  obtain ⟨Gc, uc, ec, oc⟩ := upd_gr Gb eb rfl hn (·.setIfInBounds 2 (Value.ref e1))
  refine wpAny_bind (m := updateField e2 2 (Value.ref e1)) ?_
  refine (show wpAny (model PR w) A (setField (Value.ref e2) 2 (Value.ref e1)) _ E _ from wpAny_setField eb rfl (show 2 < 6 by decide) ?_)
  exact wpAny_throw (hE _ _ Gc ((ua.trans ub).trans uc) ec rfl rfl)
end

end
/-! E4 -/
local macro_rules | `(tactic| walk_at "call type:KeyError") => `(tactic| (k_here; (with_reducible show wpAny _ _ (call (Value.type "KeyError") [_]) _ _ _); refine halt ?_))
section
abbrev popEnv (L : Addr) : Env := envOf (Str.ofString "OrderedSet.pop") { kind := ScopeKind.function, names := [(Str.ofString "self", NameKind.local), (Str.ofString "value", NameKind.local), (Str.ofString "IndexError", NameKind.globalImplicit), (Str.ofString "KeyError", NameKind.globalImplicit), (Str.ofString "set", NameKind.globalImplicit)], isGenerator := false, isCoroutine := false } L 79 (Value.ref 78)
section
variable {w : World} {A : Around} {E : Value → Shared → Prop} {s : Shared} {l : Addr} {e : Nat}
theorem pop_none {Q : Value → Shared → Prop} (hl : s.heap.get? l = some (PySem.W.listOf [].toArray e)) (hh : A.handled = none) (h : ∀ h' tk e1, Heap.NewExc s.heap h' e1 "IndexError" → E (.ref e1) { s with heap := h', toks := tk }) :
    wpAny (model PR w) A (call (.builtin "list.pop") [.ref l]) Q E s :=
  call_meets F.slot_list_pop ⟨_, hl, rfl⟩ F.entry_list_pop (F.args_list_pop_1 _) (PySem.AutoSeq1.list_pop_list_0 l [].toArray e rfl) ⟨hl, hh, h⟩
theorem call_exc' {cls newId initId : String} (C : ExcCallFacts cls newId initId) {rest : List Value} {Q : Value → Shared → Prop} (h : ∀ h' e, Heap.MadeExc s.heap h' e cls rest → Q (.ref e) { s with heap := h' }) (hr : rest.length ≤ sizeLine) : wpAny (model PR w) A (call (.type cls) rest) Q E s :=
  wpAny_call_exc C (hrest := hr) fun h' e hm => h h' e hm
end
section
variable {w : World} {s : Shared} {mg mb : Str → Option Value} {g : Heap} {R : Result → Shared → Prop} {S dx l : Addr} {x : Value}
theorem pop_miss {env1 env2 : Env} {L1 L2 : Addr} {o1 o2 : Obj} {base : Heap} (B : Base w mg mb g) (stg : g.StaysIn s.heap) (I : OSet w s.heap S dx l []) (gS : g.get? S = none) (gd : g.get? dx = none) (gl : g.get? l = none)
   (f1 : env1.frame = some L1) (f2 : env2.frame = some L2) (p1 : s.heap.get? L1 = some o1) (p2 : s.heap.get? L2 = some o2) (g1 : g.get? L1 = none) (g2 : g.get? L2 = none)
   (hb : base.StaysIn s.heap) (hl : s.heap.FunFrames base [env1, env2])
    (hR : ∀ h' e a0 tk, Heap.FlyingW base [env1, env2] e (.type "KeyError") a0 h' → s.heap.UpToSlots h' → R (.error (.ref e)) ⟨h', s.gens, s.drawn, tk, s.os⟩) :
    codeAny (model PR w) (AE [env1, env2]) (.call (.ref 79) ⟨[.ref S], []⟩) R s := by
  obtain ⟨⟨es, ep, t, e, oS, od, ol, f⟩, pv, nd⟩ := I
  have n1 := neN (neObj oS od set_ne_dict)
  have n2 := neN (neObj oS ol set_ne_list)
  have n3 := neN (neObj od ol dict_ne_list)
  have N : Has g s.heap [(S, setO (.ref 232) (some dx) es ep t #[some (.ref l)]), (dx, dictE), (l, PySem.W.listOf [].toArray e), (L1, o1), (L2, o2)] :=
    List.forall_mem_cons.mpr ⟨⟨oS, gS⟩, List.forall_mem_cons.mpr ⟨⟨od, gd⟩, List.forall_mem_cons.mpr ⟨⟨ol, gl⟩, List.forall_mem_cons.mpr ⟨⟨p1, g1⟩, List.forall_mem_cons.mpr ⟨⟨p2, g2⟩, List.forall_mem_nil _⟩⟩⟩⟩⟩
  refine enter_def B stg N (by k_is) (by k_is) (show 800 < recursionLimit by decide) (BindsTo.of_eq rfl) (locs rfl) ?_ rfl rfl rfl (by decide)
  intro g' L h₁ B' F' N' kM sg hid
  have X' := B'.K
  have T' := B'.T
  have m1 := mod_all N N' (kM _ F'.keep)
  have st1 : s.heap.StaysIn h₁ := fun b o e => m1 b o e (by simp)
  have aL : L ∉ [S, dx, l, L1, L2] := by
    have a := (N' (S, setO (.ref 232) (some dx) es ep t #[some (.ref l)]) (.head _)).2.1
    have b := (N' (dx, dictE) (.tail _ (.head _))).2.1
    have c := (N' (l, PySem.W.listOf [].toArray e) (.tail _ (.tail _ (.head _)))).2.1
    have d := (N' (L1, o1) (.tail _ (.tail _ (.tail _ (.head _))))).2.1
    have i := (N' (L2, o2) (.tail _ (.tail _ (.tail _ (.tail _ (.head _)))))).2.1
    simp only [List.mem_cons, List.not_mem_nil, or_false, not_or]; exact ⟨Ne.symm a, Ne.symm b, Ne.symm c, Ne.symm d, Ne.symm i⟩
  have sL : s.heap.get? L = none := hid L (kts_self F') aL
  have gL1 : g'.get? L1 = none := (N' (L1, o1) (.tail _ (.tail _ (.tail _ (.head _))))).2.2
  have gL2 : g'.get? L2 = none := (N' (L2, o2) (.tail _ (.tail _ (.tail _ (.tail _ (.head _)))))).2.2
  dsimp only [List.map] at kM hid
  try dsimp only
  k_steps
  refine pop_none (N' (l, PySem.W.listOf [].toArray e) (by k_mem)).1 rfl fun h2 tk2 e1 hx1 => ?_
  obtain ⟨ob, t1, he1, hc1, hd1⟩ := hx1.there
  have G1 : Gr (hideAll h₁ [L, L1, L2]) (popEnv L :: [env1, env2]) h₁ := by
    refine ⟨fun b o q => of_hideAll _ q, ?_⟩
    refine .cons (show ScopeKind.function ≠ ScopeKind.module by decide) rfl F'.ns (hideAll_none _ (.head _)) ?_
    have hl1 : h₁.FunFrames base [env1, env2] := hl.of_keeps fun b o q _ => ⟨o, st1 b o q, rfl⟩
    refine funFrames_hide hl1 fun env he a ha => ?_
    simp only [List.mem_cons, List.not_mem_nil, or_false] at he
    rcases he with rfl | rfl
    · rw [f1] at ha; cases ha; simp
    · rw [f2] at ha; cases ha; simp
  have gz : g'.StaysIn (hideAll h₁ [L, L1, L2]) := fun b o q => hideAll_get _ (F'.keep b o q) fun z => by
    simp only [List.mem_cons, List.not_mem_nil, or_false] at z
    rcases z with z | z | z
    · rw [z, kts_self F'] at q; cases q
    · rw [z, gL1] at q; cases q
    · rw [z, gL2] at q; cases q
  have bz : base.StaysIn (hideAll h₁ [L, L1, L2]) := fun b o q => hideAll_get _ (st1 b o (hb b o q)) fun z => by
    simp only [List.mem_cons, List.not_mem_nil, or_false] at z
    rcases z with z | z | z
    · have := hb b o q; rw [z, sL] at this; cases this
    · rw [z, (hl.mem (b := L1) (by simp [f1])).1] at q; cases q
    · rw [z, (hl.mem (b := L2) (by simp [f1, f2])).1] at q; cases q
  have nz : ∀ b, h₁.get? b = none → (hideAll h₁ [L, L1, L2]).get? b = none := fun b q => by
    cases z : (hideAll h₁ [L, L1, L2]).get? b with
    | none => rfl
    | some o => have := of_hideAll _ z; rw [q] at this; cases this
  have G2 := G1.keeps hx1.keeps
  have u2 : h₁.UpToSlots h2 := keeps_ups hx1.keeps
  refine note_new (outer := [env1, env2]) (Around.frames_deeper rfl) rfl G2 (nz _ hx1.new) he1 hd1 fun h3 T1 oT1 ts1 o3 G3 u3 he3 hc3 hd3 hT hnT hT1 hdT1 h31 => ?_
  refine flight_set (fr := none) G3 he3 hd3 hT hnT hT1 hdT1 h31 fun h4 oT4 ts4 G4 u4 he4 hT4 hdT4 h34 => ?_
  have up4 := (u2.trans u3).trans u4
  have F4 := F'.of_stays (fun b o q => G4.stays b o (gz b o q)) up4
  have T := B'.T
  refine wpAny_handleBy_builtin (X := "IndexError") (T := "IndexError") (b := true) PySem.F.isExc_IndexError PySem.F.notTuple_IndexError (by rw [isSubtype_type]; kernel_rfl) (ld_builtin_at (x := Str.ofString "IndexError") F4 T.g (T.free _ (by decide +kernel) (by decide +kernel) (by decide +kernel) (by decide +kernel) (by decide +kernel)) T.b ((T.builtins _ (by decide +kernel)).trans PyProof.Rows.Boot.«IndexError») ⟨rfl, ⟨o3, he4, hc3.trans hc1⟩, ?_⟩)
  refine flight_set (fr := none) G4 he4 hd3 hT hnT hT4 hdT4 h34 fun h5 oT5 ts5 G5 u5 he5 hT5 hdT5 h35 => ?_
  have up5 := up4.trans u5
  have F5 := F'.of_stays (fun b o q => G5.stays b o (gz b o q)) up5
  clear F4
  k_steps
  rw [arm_exec_Raise]
  refine wpAny_bind (wpAny_standAt ?_)
  show wpAny _ _ (raiseStmt _ (some (do let v ← eval _ _; standAt _; pure v)) (some (do let v ← eval _ _; standAt _; pure v))) _ _ _
  refine raise_from_none (e1 := e1) (a0 := t1) (a1 := .ref T1) (a3 := .none) (a4 := .bool false) (a5 := .none) (base := hideAll h₁ [L, L1, L2]) (l := popEnv L :: [env1, env2]) rfl ?_ ?_
  · exact fun Q s q => wpAny_bind (wpAny_of_eq (a := .none) rfl (wpAny_bind (wpAny_standAt (wpAny_pure q))))
  refine wpAny_bind ?_
  k_steps
  refine halt_out (call_exc (hrest := by rw [sizeLine_eq]; simp) excClass_KeyError fun h6 e2 hx2 => ?_)
  refine wpAny_bind (wpAny_standAt (wpAny_pure ?_))
  obtain ⟨ob2, t2, he2, hc2, hd2⟩ := hx2.there
  have nb2 : (hideAll h₁ [L, L1, L2]).get? e2 = none := none_of G5.stays hx2.new
  have ne : e2 ≠ e1 := fun q => by have := hx2.new; rw [q, he5] at this; cases this
  refine ⟨e2, t2, ob2, rfl, ne, nb2, G5.keeps hx2.keeps, he2, hc2, hd2, ⟨o3, hx2.keeps _ _ he5, hd3⟩, fun h7 o7 G7 u7 he7 hc7 hd7 => ?_⟩
  unfold notedBy
  refine note_new (outer := [env1, env2]) (show ((AE [env1, env2]).deeper (popEnv L)).frames = _ from Around.frames_deeper rfl) rfl G7 nb2 he7 hd7 fun h8 T2 oT8 ts8 o8 G8 u8 he8 hc8 hd8 hT8 hnT8 hoT8 hdT8 h38 => ?_
  unfold cameBackBy
  refine wpAny_bind (wpAny_field he8 hd8 (x := .ref T2) rfl ?_)
  rw [if_neg (show ¬ ((Value.ref T2 == Value.none) = true) from by simp)]
  refine flight_set (fr := some L) G8 he8 hd8 hT8 hnT8 hoT8 hdT8 h38 fun h9 oT9 ts9 G9 u9 he9 hoT9 hdT9 h39 => ?_
  have held : Heap.HeldW (hideAll h₁ [L, L1, L2]) (popEnv L :: [env1, env2]) e2 (.type "KeyError") t2 L h9 :=
    ⟨G9.stays, nb2, G9.frames, o8, _, T2, oT9, ts9, he9, ⟨hc8.trans hc7, rfl⟩, hd8, rfl, hnT8, hT8, hoT9, hdT9, h39⟩
  unfold leaving
  refine wpAny_bind (wpAny_noteFrame_againW rfl held.2.2.2 ?_)
  refine wpAny_landsW held fun h10 fl10 u10 => ?_
  obtain ⟨k1, k2, ⟨_, _, k3⟩, k4⟩ := fl10
  exact hR _ _ _ _ (flyingW_base bz ⟨k1, k2, k3, k4⟩) ((((((((keeps_ups st1).trans up5).trans (keeps_ups hx2.keeps)).trans u7).trans u8).trans u9).trans u10))
end

end
/-! E5 -/
section
/-- as Mod, but the frames of fs may have got their notes -/
def ModF (fs S : List Addr) (h h' : Heap) : Prop := ∀ b o, h.get? b = some o → b ∉ S → (b ∉ fs → h'.get? b = some o) ∧ ∃ sl, h'.get? b = some { o with slots := sl }
theorem Mod.toF {fs S : List Addr} {h h' : Heap} (m : Mod S h h') : ModF fs S h h' := fun b o e n => ⟨fun _ => m b o e n, o.slots, m b o e n⟩
theorem ModF.mono {fs S S' : List Addr} {h h' : Heap} (m : ModF fs S h h') (k : ∀ p ∈ S, p ∈ S') : ModF fs S' h h' := fun b o e n => m b o e fun q => n (k b q)
abbrev AD (env1 : Env) : Around := { depth := 600, units := 3000, frames := some [env1] }
section
variable {w : World} {g h h' : Heap} {L S dx l l' : Addr} {m : Str → Option Value} {news rest : List (Addr × Obj)} {ms ms' : List Value}
theorem led_oset {S' dx' : Addr} (F : Fr g L h m) (N : News g L h news) (md : Mod [] h h') (nS : h.get? S' = none) (nd' : h.get? dx' = none) (nl : h.get? l' = none) (I : OSet w h' S' dx' l' ms) :
    ∃ es ep t e, Fr g L h' m ∧ News g L h' ((S', setO (.ref 232) (some dx') es ep t #[some (.ref l')]) :: (dx', dictE) :: (l', PySem.W.listOf ms.toArray e) :: news) ∧ SFact w es t (inL ms) ∧ (∀ v ∈ ms, Pv v) ∧ (ms.map cl).Nodup ∧ ∀ p ∈ news, p.1 ≠ S' ∧ p.1 ≠ dx' ∧ p.1 ≠ l' := by
  obtain ⟨⟨es, ep, t, e, oS, od, ol, f⟩, pv, nd⟩ := I
  obtain ⟨oL, _, _, hL, _⟩ := F.ns
  have nL : ∀ a, h.get? a = none → a ≠ L := fun a q z => by rw [z, hL] at q; cases q
  refine ⟨es, ep, t, e, fr_mod F md (by simp) (by simp), fun p hp => ?_, f, pv, nd, fun p hp => ⟨fresh_ne N (a := p.1) (o := p.2) hp nS, fresh_ne N (a := p.1) (o := p.2) hp nd', fresh_ne N (a := p.1) (o := p.2) hp nl⟩⟩
  rcases List.mem_cons.mp hp with rfl | hp
  · exact ⟨oS, nL _ nS, none_of F.keep nS⟩
  rcases List.mem_cons.mp hp with rfl | hp
  · exact ⟨od, nL _ nd', none_of F.keep nd'⟩
  rcases List.mem_cons.mp hp with rfl | hp
  · exact ⟨ol, nL _ nl, none_of F.keep nl⟩
  · have P := N p hp; exact ⟨md _ _ P.1 (by simp), P.2⟩
theorem led_inp {o1 o2 o3 : Obj} (F : Fr g L h m) (N : News g L h ((S, o1) :: (dx, o2) :: (l, o3) :: rest)) (ap : ∀ p ∈ rest, p.1 ≠ S ∧ p.1 ≠ dx ∧ p.1 ≠ l) (md : Mod [S, dx, l] h h') (nl : l' = l ∨ h.get? l' = none) (I : OSet w h' S dx l' ms') :
    ∃ es ep t e, Fr g L h' m ∧ News g L h' ((S, setO (.ref 232) (some dx) es ep t #[some (.ref l')]) :: (dx, dictE) :: (l', PySem.W.listOf ms'.toArray e) :: rest) ∧ SFact w es t (inL ms') ∧ (∀ v ∈ ms', Pv v) ∧ (ms'.map cl).Nodup := by
  obtain ⟨⟨es, ep, t, e, oS, od, ol, f⟩, pv, nd⟩ := I
  obtain ⟨oL, _, _, hL, _⟩ := F.ns
  have z1 := (N _ (.head _)).2
  have z2 := (N _ (.tail _ (.head _))).2
  have z3 := (N _ (.tail _ (.tail _ (.head _)))).2
  refine ⟨es, ep, t, e, fr3 F N md (.head _) (.tail _ (.head _)) (.tail _ (.tail _ (.head _))), fun p hp => ?_, f, pv, nd⟩
  rcases List.mem_cons.mp hp with rfl | hp
  · exact ⟨oS, z1⟩
  rcases List.mem_cons.mp hp with rfl | hp
  · exact ⟨od, z2⟩
  rcases List.mem_cons.mp hp with rfl | hp
  · rcases nl with rfl | nl
    · exact ⟨ol, z3⟩
    · refine ⟨ol, fun z => ?_, none_of F.keep nl⟩
      rw [show l' = L from z, hL] at nl; cases nl
  · have P := N p (.tail _ (.tail _ (.tail _ hp)))
    have a := ap p hp
    exact ⟨md _ _ P.1 (by simp only [List.mem_cons, List.not_mem_nil, or_false, not_or]; exact a), P.2⟩
theorem tup_ne_set {vs : List Value} {d : Option Addr} {es : Array (Int × Value)} {ep : Nat} {t : SetTable} {sl : Array (Option Value)} : tupO vs ≠ setO (.ref 232) d es ep t sl := fun h => by have := congrArg Obj.cls h; cases this
theorem tup_ne_dict {vs : List Value} {o : Obj} (h : ∃ es ep, o.data = .dict es ep) : tupO vs ≠ o := fun q => by
  obtain ⟨es, ep, e⟩ := h
  rw [← q] at e; cases e
/-- objects that no tuple is -/
def NoTup (o : Obj) : Prop := ∀ vs, tupO vs ≠ o
theorem fresh_tup {s h3 g' : Heap} {T : Addr} {vs : List Value} {b big : List (Addr × Obj)} (hid : ∀ b', g'.get? b' = none → b' ∉ b.map (·.1) → s.get? b' = none) (N3 : News g' L h3 big) (hT : (T, tupO vs) ∈ big) (hb : ∀ p ∈ b, ∃ o, h3.get? p.1 = some o ∧ NoTup o) : s.get? T = none :=
  hid T (N3 _ hT).2.2 fun q => by
    obtain ⟨p, hp, e⟩ := List.mem_map.mp q
    obtain ⟨o, ho, nt⟩ := hb p hp
    rw [e, (N3 _ hT).1] at ho
    exact nt _ (Option.some.inj ho)
theorem modR {s h3 : Heap} {a b c : Addr} {rest : List (Addr × Obj)} (m : Mod (a :: b :: c :: rest.map (·.1)) s h3) (h : ∀ p ∈ rest, s.get? p.1 = some p.2 ∧ h3.get? p.1 = some p.2) : Mod [a, b, c] s h3 := fun x o e n => by
  by_cases q : x ∈ rest.map (·.1)
  · obtain ⟨p, hp, rfl⟩ := List.mem_map.mp q
    have z := h p hp
    rw [z.1] at e; cases e; exact z.2
  · refine m x o e fun y => ?_
    simp only [List.mem_cons, List.not_mem_nil, or_false, not_or] at n y
    rcases y with y | y | y | y
    · exact n.1 y
    · exact n.2.1 y
    · exact n.2.2 y
    · exact q y
theorem ne_frame_set {c : Value} {d : Option Addr} {es : Array (Int × Value)} {ep : Nat} {t : SetTable} {sl : Array (Option Value)} {oL : Obj} (h : ∃ es ep, oL.data = .dict es ep) : setO c d es ep t sl ≠ oL := fun q => by
  obtain ⟨es, ep, e⟩ := h
  rw [← q] at e; cases e
theorem ne_frame_list {its : Array Value} {n : Nat} {oL : Obj} (h : ∃ es ep, oL.data = .dict es ep) : PySem.W.listOf its n ≠ oL := fun q => by
  obtain ⟨es, ep, e⟩ := h
  rw [← q] at e; cases e
end
theorem execs_one {M : Model} {A : Around} {E : Value → Shared → Prop} {s : Shared} {env : Env} {st : Stmt} {Q : Flow → Shared → Prop} (h : wpAny M A (exec st env) Q E s) : wpAny M A (execs [st] env) Q E s :=
  wpAny_execs_cons (wpAny_mono h (fun f s' q => by cases f <;> first | exact wpAny_execs_nil q | exact q) fun _ _ q => q)
end
local macro_rules | `(tactic| walk_at "execs cons") => `(tactic| (k_here; (with_reducible show wpAny _ _ (execs [_] _) _ _ _); first | k_gentoks | (refine execs_one ?_; (try dsimp only))))
local macro_rules | `(tactic| walk_at "binaryOp BitXor ref") => `(tactic| (k_here; (with_reducible show wpAny _ _ (binaryOp Operator.BitXor (Value.ref _) (Value.ref _)) _ _ _); k_dflt (refine' binop_K ?k1 ?k2 ?k3 ?k4 ?k5 ?k6 ?k7 ?_; (case k1 => k_asm); (case k2 => k_asm); (case k3 => k_inst); (case k4 => k_typeOf); (case k5 => k_is); (case k6 => k_is); (case k7 => k_is); k_whole)))
/-! E6 -/
section
section
variable {w : World} {s : Shared} {mg mb : Str → Option Value} {g : Heap} {R : Result → Shared → Prop} {S dx l : Addr} {ms : List Value} {x : Value}
theorem done_0 {O dxo lo lu LL : Addr} {vs us : List Value} {eu : Nat} {env1 : Env} {oL : Obj} {i : Int} {uk ui : Tok} (B : Base w mg mb g) (stg : g.StaysIn s.heap) (I : OSet w s.heap S dx l ms) (gS : g.get? S = none) (gd : g.get? dx = none) (gl : g.get? l = none)
  (I2 : OSet w s.heap O dxo lo vs) (gO : g.get? O = none) (gdo : g.get? dxo = none) (glo : g.get? lo = none) (nS : S ≠ O) (nd' : dx ≠ dxo) (nl : l ≠ lo)
  (ou : s.heap.get? lu = some (PySem.W.listOf us.toArray eu)) (gu : g.get? lu = none) (nlu : lu ≠ l) (pu : ∀ v ∈ us, Pv v) (zu : us.length ≤ 100) (px : Pv x) (hi : -10 ≤ i ∧ i ≤ 10)
  (f1 : env1.frame = some LL) (k1 : env1.scope.kind ≠ .module) (p1 : s.heap.get? LL = some oL) (d1 : ∃ es ep, oL.data = .dict es ep) (g1 : g.get? LL = none) (fD : LL ≠ dx)
  (hR : ∀ h' dr tk T l' v, ModF [LL] [S, dx, l] s.heap h' → g.get? T = none → h'.get? T = some (tupO [.ref S, v]) → (l' = l ∨ s.heap.get? l' = none) → OSet w h' S dx l' (addL ms x) → ExtAt g h' .no v → R (.ok (.ret (.ref T))) ⟨h', s.gens, dr, tk, s.os⟩) :
    codeAny (model PR w) (AD env1) (.call (.ref 271) ⟨[.ref S, .ref O, .int 0 uk, x, .ref lu, .int i ui], []⟩) R s := by
  obtain ⟨⟨es, ep, t, e, oS, od, ol, f⟩, pv, nd⟩ := I
  obtain ⟨⟨eso, epo, to, eo, oO, odo, olo, fo⟩, pvo, ndo⟩ := I2
  have N : Has g s.heap [(S, setO (.ref 232) (some dx) es ep t #[some (.ref l)]), (dx, dictE), (l, PySem.W.listOf ms.toArray e), (O, setO (.ref 232) (some dxo) eso epo to #[some (.ref lo)]), (dxo, dictE), (lo, PySem.W.listOf vs.toArray eo), (lu, PySem.W.listOf us.toArray eu), (LL, oL)] :=
    List.forall_mem_cons.mpr ⟨⟨oS, gS⟩, List.forall_mem_cons.mpr ⟨⟨od, gd⟩, List.forall_mem_cons.mpr ⟨⟨ol, gl⟩, List.forall_mem_cons.mpr ⟨⟨oO, gO⟩, List.forall_mem_cons.mpr ⟨⟨odo, gdo⟩, List.forall_mem_cons.mpr ⟨⟨olo, glo⟩, List.forall_mem_cons.mpr ⟨⟨ou, gu⟩, List.forall_mem_cons.mpr ⟨⟨p1, g1⟩, List.forall_mem_nil _⟩⟩⟩⟩⟩⟩⟩⟩
  refine enter_def B stg N (by k_is) (by k_is) (show 600 < recursionLimit by decide) (BindsTo.of_eq rfl) (locs rfl) ?_ rfl rfl rfl (by decide)
  intro g' L h₁ B' F' N' kM sg hid
  have X' := B'.K
  have T' := B'.T
  have m1 := mod_all N N' (kM _ F'.keep)
  have st1 : s.heap.StaysIn h₁ := fun b o e => m1 b o e (by simp)
  have OS : OSet w h₁ S dx l ms := os_at N' (.head _) (.tail _ (.head _)) (.tail _ (.tail _ (.head _))) f pv nd
  have OO : OSet w h₁ O dxo lo vs := os_at N' (.tail _ (.tail _ (.tail _ (.head _)))) (.tail _ (.tail _ (.tail _ (.tail _ (.head _))))) (.tail _ (.tail _ (.tail _ (.tail _ (.tail _ (.head _)))))) fo pvo ndo
  have GS := (N' _ (.head _)).2.2
  have GD := (N' _ (.tail _ (.head _))).2.2
  have GL := (N' _ (.tail _ (.tail _ (.head _)))).2.2
  have GO := (N' _ (.tail _ (.tail _ (.tail _ (.head _))))).2.2
  have GDO := (N' _ (.tail _ (.tail _ (.tail _ (.tail _ (.head _)))))).2.2
  have GLO := (N' _ (.tail _ (.tail _ (.tail _ (.tail _ (.tail _ (.head _))))))).2.2
  have OU := (N' (lu, PySem.W.listOf us.toArray eu) (.tail _ (.tail _ (.tail _ (.tail _ (.tail _ (.tail _ (.head _)))))))).1
  have GU := (N' (lu, PySem.W.listOf us.toArray eu) (.tail _ (.tail _ (.tail _ (.tail _ (.tail _ (.tail _ (.head _)))))))).2.2
  dsimp only at GS GD GL GO GDO GLO GU
  try dsimp only
  have ap : ∀ p ∈ [(O, setO (.ref 232) (some dxo) eso epo to #[some (.ref lo)]), (dxo, dictE), (lo, PySem.W.listOf vs.toArray eo), (lu, PySem.W.listOf us.toArray eu), (LL, oL)], p.1 ≠ S ∧ p.1 ≠ dx ∧ p.1 ≠ l := by
    have a0 : tupO [] ≠ oL := tup_ne_dict d1
    intro p hp
    simp only [List.mem_cons, List.not_mem_nil, or_false] at hp
    rcases hp with rfl | rfl | rfl | rfl | rfl
    · exact ⟨nS.symm, neObj oO od set_ne_dict, neObj oO ol set_ne_list⟩
    · exact ⟨(neObj oS odo set_ne_dict).symm, nd'.symm, neObj odo ol dict_ne_list⟩
    · exact ⟨(neObj oS olo set_ne_list).symm, (neObj od olo dict_ne_list).symm, nl.symm⟩
    · exact ⟨(neObj oS ou set_ne_list).symm, (neObj od ou dict_ne_list).symm, nlu⟩
    · exact ⟨(neObj oS p1 (ne_frame_set d1)).symm, fun q => fD q, (neObj ol p1 (ne_frame_list d1)).symm⟩
  refine wpAny_execs_cons (chain_ok (x := Str.ofString "op") (k := 0) rfl rfl (by decide) rfl 20 _ _ F'.ns fun tk => ?_)
  conv in chainS _ _ _ _ => whnf
  try dsimp only
  k_steps
  refine use_at (A := A1) (add_spec B' F'.keep OS GS GD GL px fun h2 tk2 md2 I2' => ?_) rfl (Nat.le_of_ble_eq_true rfl) rfl rfl (Nat.le_of_ble_eq_true rfl)
  obtain ⟨es2, ep2, t2, e2, F2, N2, f2, pv2, nd2⟩ := led_inp F' N' ap md2 (.inl rfl) I2'
  try show wpAny _ _ _ _ _ _
  k_steps
  have F3 := ‹Fr g' L _ _›
  have N3 := ‹News g' L _ _›
  refine hR _ _ _ _ _ _ (Mod.toF (modR (rest := [(O, setO (.ref 232) (some dxo) eso epo to #[some (.ref lo)]), (dxo, dictE), (lo, PySem.W.listOf vs.toArray eo), (lu, PySem.W.listOf us.toArray eu), (LL, oL)]) (kM _ F3.keep) fun p hp => ⟨(N p (.tail _ (.tail _ (.tail _ hp)))).1, (N3 p (.tail _ (.tail _ (.tail _ (.tail _ hp))))).1⟩)) (none_of sg (N3 _ (.head _)).2.2) (N3 _ (.head _)).1 (.inl rfl) (os_at N3 (.tail _ (.head _)) (.tail _ (.tail _ (.head _))) (.tail _ (.tail _ (.tail _ (.head _)))) f2 pv2 nd2) rfl
theorem done_1 {O dxo lo lu LL : Addr} {vs us : List Value} {eu : Nat} {env1 : Env} {oL : Obj} {i : Int} {uk ui : Tok} (B : Base w mg mb g) (stg : g.StaysIn s.heap) (I : OSet w s.heap S dx l ms) (gS : g.get? S = none) (gd : g.get? dx = none) (gl : g.get? l = none)
  (I2 : OSet w s.heap O dxo lo vs) (gO : g.get? O = none) (gdo : g.get? dxo = none) (glo : g.get? lo = none) (nS : S ≠ O) (nd' : dx ≠ dxo) (nl : l ≠ lo)
  (ou : s.heap.get? lu = some (PySem.W.listOf us.toArray eu)) (gu : g.get? lu = none) (nlu : lu ≠ l) (pu : ∀ v ∈ us, Pv v) (zu : us.length ≤ 100) (px : Pv x) (hi : -10 ≤ i ∧ i ≤ 10)
  (f1 : env1.frame = some LL) (k1 : env1.scope.kind ≠ .module) (p1 : s.heap.get? LL = some oL) (d1 : ∃ es ep, oL.data = .dict es ep) (g1 : g.get? LL = none) (fD : LL ≠ dx)
  (hR : ∀ h' dr tk T l' v, ModF [LL] [S, dx, l] s.heap h' → g.get? T = none → h'.get? T = some (tupO [.ref S, v]) → (l' = l ∨ s.heap.get? l' = none) → OSet w h' S dx l' (putL' ms i x) → ExtAt g h' .no v → R (.ok (.ret (.ref T))) ⟨h', s.gens, dr, tk, s.os⟩) :
    codeAny (model PR w) (AD env1) (.call (.ref 271) ⟨[.ref S, .ref O, .int 1 uk, x, .ref lu, .int i ui], []⟩) R s := by
  obtain ⟨⟨es, ep, t, e, oS, od, ol, f⟩, pv, nd⟩ := I
  obtain ⟨⟨eso, epo, to, eo, oO, odo, olo, fo⟩, pvo, ndo⟩ := I2
  have N : Has g s.heap [(S, setO (.ref 232) (some dx) es ep t #[some (.ref l)]), (dx, dictE), (l, PySem.W.listOf ms.toArray e), (O, setO (.ref 232) (some dxo) eso epo to #[some (.ref lo)]), (dxo, dictE), (lo, PySem.W.listOf vs.toArray eo), (lu, PySem.W.listOf us.toArray eu), (LL, oL)] :=
    List.forall_mem_cons.mpr ⟨⟨oS, gS⟩, List.forall_mem_cons.mpr ⟨⟨od, gd⟩, List.forall_mem_cons.mpr ⟨⟨ol, gl⟩, List.forall_mem_cons.mpr ⟨⟨oO, gO⟩, List.forall_mem_cons.mpr ⟨⟨odo, gdo⟩, List.forall_mem_cons.mpr ⟨⟨olo, glo⟩, List.forall_mem_cons.mpr ⟨⟨ou, gu⟩, List.forall_mem_cons.mpr ⟨⟨p1, g1⟩, List.forall_mem_nil _⟩⟩⟩⟩⟩⟩⟩⟩
  refine enter_def B stg N (by k_is) (by k_is) (show 600 < recursionLimit by decide) (BindsTo.of_eq rfl) (locs rfl) ?_ rfl rfl rfl (by decide)
  intro g' L h₁ B' F' N' kM sg hid
  have X' := B'.K
  have T' := B'.T
  have m1 := mod_all N N' (kM _ F'.keep)
  have st1 : s.heap.StaysIn h₁ := fun b o e => m1 b o e (by simp)
  have OS : OSet w h₁ S dx l ms := os_at N' (.head _) (.tail _ (.head _)) (.tail _ (.tail _ (.head _))) f pv nd
  have OO : OSet w h₁ O dxo lo vs := os_at N' (.tail _ (.tail _ (.tail _ (.head _)))) (.tail _ (.tail _ (.tail _ (.tail _ (.head _))))) (.tail _ (.tail _ (.tail _ (.tail _ (.tail _ (.head _)))))) fo pvo ndo
  have GS := (N' _ (.head _)).2.2
  have GD := (N' _ (.tail _ (.head _))).2.2
  have GL := (N' _ (.tail _ (.tail _ (.head _)))).2.2
  have GO := (N' _ (.tail _ (.tail _ (.tail _ (.head _))))).2.2
  have GDO := (N' _ (.tail _ (.tail _ (.tail _ (.tail _ (.head _)))))).2.2
  have GLO := (N' _ (.tail _ (.tail _ (.tail _ (.tail _ (.tail _ (.head _))))))).2.2
  have OU := (N' (lu, PySem.W.listOf us.toArray eu) (.tail _ (.tail _ (.tail _ (.tail _ (.tail _ (.tail _ (.head _)))))))).1
  have GU := (N' (lu, PySem.W.listOf us.toArray eu) (.tail _ (.tail _ (.tail _ (.tail _ (.tail _ (.tail _ (.head _)))))))).2.2
  dsimp only at GS GD GL GO GDO GLO GU
  try dsimp only
  have ap : ∀ p ∈ [(O, setO (.ref 232) (some dxo) eso epo to #[some (.ref lo)]), (dxo, dictE), (lo, PySem.W.listOf vs.toArray eo), (lu, PySem.W.listOf us.toArray eu), (LL, oL)], p.1 ≠ S ∧ p.1 ≠ dx ∧ p.1 ≠ l := by
    have a0 : tupO [] ≠ oL := tup_ne_dict d1
    intro p hp
    simp only [List.mem_cons, List.not_mem_nil, or_false] at hp
    rcases hp with rfl | rfl | rfl | rfl | rfl
    · exact ⟨nS.symm, neObj oO od set_ne_dict, neObj oO ol set_ne_list⟩
    · exact ⟨(neObj oS odo set_ne_dict).symm, nd'.symm, neObj odo ol dict_ne_list⟩
    · exact ⟨(neObj oS olo set_ne_list).symm, (neObj od olo dict_ne_list).symm, nl.symm⟩
    · exact ⟨(neObj oS ou set_ne_list).symm, (neObj od ou dict_ne_list).symm, nlu⟩
    · exact ⟨(neObj oS p1 (ne_frame_set d1)).symm, fun q => fD q, (neObj ol p1 (ne_frame_list d1)).symm⟩
  refine wpAny_execs_cons (chain_ok (x := Str.ofString "op") (k := 1) rfl rfl (by decide) rfl 20 _ _ F'.ns fun tk => ?_)
  conv in chainS _ _ _ _ => whnf
  try dsimp only
  k_steps
  refine use_at (A := A1) (insert_spec B' (by exact F'.keep) (by exact OS) GS GD GL px ⟨by omega, by omega⟩ fun h2 tk2 md2 I2' => ?_) rfl (Nat.le_of_ble_eq_true rfl) rfl rfl (Nat.le_of_ble_eq_true rfl)
  obtain ⟨es2, ep2, t2, e2, F2, N2, f2, pv2, nd2⟩ := led_inp F' N' ap md2 (.inl rfl) I2'
  try show wpAny _ _ _ _ _ _
  k_steps
  have F3 := ‹Fr g' L _ _›
  have N3 := ‹News g' L _ _›
  refine hR _ _ _ _ _ _ (Mod.toF (modR (rest := [(O, setO (.ref 232) (some dxo) eso epo to #[some (.ref lo)]), (dxo, dictE), (lo, PySem.W.listOf vs.toArray eo), (lu, PySem.W.listOf us.toArray eu), (LL, oL)]) (kM _ F3.keep) fun p hp => ⟨(N p (.tail _ (.tail _ (.tail _ hp)))).1, (N3 p (.tail _ (.tail _ (.tail _ (.tail _ hp))))).1⟩)) (none_of sg (N3 _ (.head _)).2.2) (N3 _ (.head _)).1 (.inl rfl) (os_at N3 (.tail _ (.head _)) (.tail _ (.tail _ (.head _))) (.tail _ (.tail _ (.tail _ (.head _)))) f2 pv2 nd2) rfl
theorem done_2 {O dxo lo lu LL : Addr} {vs us : List Value} {eu : Nat} {env1 : Env} {oL : Obj} {i : Int} {uk ui : Tok} (B : Base w mg mb g) (stg : g.StaysIn s.heap) (I : OSet w s.heap S dx l ms) (gS : g.get? S = none) (gd : g.get? dx = none) (gl : g.get? l = none)
  (I2 : OSet w s.heap O dxo lo vs) (gO : g.get? O = none) (gdo : g.get? dxo = none) (glo : g.get? lo = none) (nS : S ≠ O) (nd' : dx ≠ dxo) (nl : l ≠ lo)
  (ou : s.heap.get? lu = some (PySem.W.listOf us.toArray eu)) (gu : g.get? lu = none) (nlu : lu ≠ l) (pu : ∀ v ∈ us, Pv v) (zu : us.length ≤ 100) (px : Pv x) (hi : -10 ≤ i ∧ i ≤ 10)
  (f1 : env1.frame = some LL) (k1 : env1.scope.kind ≠ .module) (p1 : s.heap.get? LL = some oL) (d1 : ∃ es ep, oL.data = .dict es ep) (g1 : g.get? LL = none) (fD : LL ≠ dx)
  (hR : ∀ h' dr tk T l' v, ModF [LL] [S, dx, l] s.heap h' → g.get? T = none → h'.get? T = some (tupO [.ref S, v]) → (l' = l ∨ s.heap.get? l' = none) → OSet w h' S dx l' (addAll (addAll ms us) vs) → ExtAt g h' .no v → R (.ok (.ret (.ref T))) ⟨h', s.gens, dr, tk, s.os⟩) :
    codeAny (model PR w) (AD env1) (.call (.ref 271) ⟨[.ref S, .ref O, .int 2 uk, x, .ref lu, .int i ui], []⟩) R s := by
  obtain ⟨⟨es, ep, t, e, oS, od, ol, f⟩, pv, nd⟩ := I
  obtain ⟨⟨eso, epo, to, eo, oO, odo, olo, fo⟩, pvo, ndo⟩ := I2
  have N : Has g s.heap [(S, setO (.ref 232) (some dx) es ep t #[some (.ref l)]), (dx, dictE), (l, PySem.W.listOf ms.toArray e), (O, setO (.ref 232) (some dxo) eso epo to #[some (.ref lo)]), (dxo, dictE), (lo, PySem.W.listOf vs.toArray eo), (lu, PySem.W.listOf us.toArray eu), (LL, oL)] :=
    List.forall_mem_cons.mpr ⟨⟨oS, gS⟩, List.forall_mem_cons.mpr ⟨⟨od, gd⟩, List.forall_mem_cons.mpr ⟨⟨ol, gl⟩, List.forall_mem_cons.mpr ⟨⟨oO, gO⟩, List.forall_mem_cons.mpr ⟨⟨odo, gdo⟩, List.forall_mem_cons.mpr ⟨⟨olo, glo⟩, List.forall_mem_cons.mpr ⟨⟨ou, gu⟩, List.forall_mem_cons.mpr ⟨⟨p1, g1⟩, List.forall_mem_nil _⟩⟩⟩⟩⟩⟩⟩⟩
  refine enter_def B stg N (by k_is) (by k_is) (show 600 < recursionLimit by decide) (BindsTo.of_eq rfl) (locs rfl) ?_ rfl rfl rfl (by decide)
  intro g' L h₁ B' F' N' kM sg hid
  have X' := B'.K
  have T' := B'.T
  have m1 := mod_all N N' (kM _ F'.keep)
  have st1 : s.heap.StaysIn h₁ := fun b o e => m1 b o e (by simp)
  have OS : OSet w h₁ S dx l ms := os_at N' (.head _) (.tail _ (.head _)) (.tail _ (.tail _ (.head _))) f pv nd
  have OO : OSet w h₁ O dxo lo vs := os_at N' (.tail _ (.tail _ (.tail _ (.head _)))) (.tail _ (.tail _ (.tail _ (.tail _ (.head _))))) (.tail _ (.tail _ (.tail _ (.tail _ (.tail _ (.head _)))))) fo pvo ndo
  have GS := (N' _ (.head _)).2.2
  have GD := (N' _ (.tail _ (.head _))).2.2
  have GL := (N' _ (.tail _ (.tail _ (.head _)))).2.2
  have GO := (N' _ (.tail _ (.tail _ (.tail _ (.head _))))).2.2
  have GDO := (N' _ (.tail _ (.tail _ (.tail _ (.tail _ (.head _)))))).2.2
  have GLO := (N' _ (.tail _ (.tail _ (.tail _ (.tail _ (.tail _ (.head _))))))).2.2
  have OU := (N' (lu, PySem.W.listOf us.toArray eu) (.tail _ (.tail _ (.tail _ (.tail _ (.tail _ (.tail _ (.head _)))))))).1
  have GU := (N' (lu, PySem.W.listOf us.toArray eu) (.tail _ (.tail _ (.tail _ (.tail _ (.tail _ (.tail _ (.head _)))))))).2.2
  dsimp only at GS GD GL GO GDO GLO GU
  try dsimp only
  have ap : ∀ p ∈ [(O, setO (.ref 232) (some dxo) eso epo to #[some (.ref lo)]), (dxo, dictE), (lo, PySem.W.listOf vs.toArray eo), (lu, PySem.W.listOf us.toArray eu), (LL, oL)], p.1 ≠ S ∧ p.1 ≠ dx ∧ p.1 ≠ l := by
    have a0 : tupO [] ≠ oL := tup_ne_dict d1
    intro p hp
    simp only [List.mem_cons, List.not_mem_nil, or_false] at hp
    rcases hp with rfl | rfl | rfl | rfl | rfl
    · exact ⟨nS.symm, neObj oO od set_ne_dict, neObj oO ol set_ne_list⟩
    · exact ⟨(neObj oS odo set_ne_dict).symm, nd'.symm, neObj odo ol dict_ne_list⟩
    · exact ⟨(neObj oS olo set_ne_list).symm, (neObj od olo dict_ne_list).symm, nl.symm⟩
    · exact ⟨(neObj oS ou set_ne_list).symm, (neObj od ou dict_ne_list).symm, nlu⟩
    · exact ⟨(neObj oS p1 (ne_frame_set d1)).symm, fun q => fD q, (neObj ol p1 (ne_frame_list d1)).symm⟩
  refine wpAny_execs_cons (chain_ok (x := Str.ofString "op") (k := 2) rfl rfl (by decide) rfl 20 _ _ F'.ns fun tk => ?_)
  conv in chainS _ _ _ _ => whnf
  try dsimp only
  k_steps
  refine use_at (A := A1) (update2_spec B' F'.keep OS GS GD GL OU GU pu nlu OO GO GDO GLO nS nd' nl fun h2 tk2 md2 I2' => ?_) rfl (Nat.le_of_ble_eq_true rfl) rfl rfl (Nat.le_of_ble_eq_true rfl)
  obtain ⟨es2, ep2, t2, e2, F2, N2, f2, pv2, nd2⟩ := led_inp F' N' ap md2 (.inl rfl) I2'
  try show wpAny _ _ _ _ _ _
  k_steps
  have F3 := ‹Fr g' L _ _›
  have N3 := ‹News g' L _ _›
  refine hR _ _ _ _ _ _ (Mod.toF (modR (rest := [(O, setO (.ref 232) (some dxo) eso epo to #[some (.ref lo)]), (dxo, dictE), (lo, PySem.W.listOf vs.toArray eo), (lu, PySem.W.listOf us.toArray eu), (LL, oL)]) (kM _ F3.keep) fun p hp => ⟨(N p (.tail _ (.tail _ (.tail _ hp)))).1, (N3 p (.tail _ (.tail _ (.tail _ (.tail _ hp))))).1⟩)) (none_of sg (N3 _ (.head _)).2.2) (N3 _ (.head _)).1 (.inl rfl) (os_at N3 (.tail _ (.head _)) (.tail _ (.tail _ (.head _))) (.tail _ (.tail _ (.tail _ (.head _)))) f2 pv2 nd2) rfl
theorem done_3 {O dxo lo lu LL : Addr} {vs us : List Value} {eu : Nat} {env1 : Env} {oL : Obj} {i : Int} {uk ui : Tok} (B : Base w mg mb g) (stg : g.StaysIn s.heap) (I : OSet w s.heap S dx l ms) (gS : g.get? S = none) (gd : g.get? dx = none) (gl : g.get? l = none)
  (I2 : OSet w s.heap O dxo lo vs) (gO : g.get? O = none) (gdo : g.get? dxo = none) (glo : g.get? lo = none) (nS : S ≠ O) (nd' : dx ≠ dxo) (nl : l ≠ lo)
  (ou : s.heap.get? lu = some (PySem.W.listOf us.toArray eu)) (gu : g.get? lu = none) (nlu : lu ≠ l) (pu : ∀ v ∈ us, Pv v) (zu : us.length ≤ 100) (px : Pv x) (hi : -10 ≤ i ∧ i ≤ 10)
  (f1 : env1.frame = some LL) (k1 : env1.scope.kind ≠ .module) (p1 : s.heap.get? LL = some oL) (d1 : ∃ es ep, oL.data = .dict es ep) (g1 : g.get? LL = none) (fD : LL ≠ dx)
  (hR : ∀ h' dr tk T l' v, ModF [LL] [S, dx, l] s.heap h' → g.get? T = none → h'.get? T = some (tupO [.ref S, v]) → (l' = l ∨ s.heap.get? l' = none) → OSet w h' S dx l' (addAll ms vs) → ExtAt g h' .no v → R (.ok (.ret (.ref T))) ⟨h', s.gens, dr, tk, s.os⟩) :
    codeAny (model PR w) (AD env1) (.call (.ref 271) ⟨[.ref S, .ref O, .int 3 uk, x, .ref lu, .int i ui], []⟩) R s := by
  obtain ⟨⟨es, ep, t, e, oS, od, ol, f⟩, pv, nd⟩ := I
  obtain ⟨⟨eso, epo, to, eo, oO, odo, olo, fo⟩, pvo, ndo⟩ := I2
  have N : Has g s.heap [(S, setO (.ref 232) (some dx) es ep t #[some (.ref l)]), (dx, dictE), (l, PySem.W.listOf ms.toArray e), (O, setO (.ref 232) (some dxo) eso epo to #[some (.ref lo)]), (dxo, dictE), (lo, PySem.W.listOf vs.toArray eo), (lu, PySem.W.listOf us.toArray eu), (LL, oL)] :=
    List.forall_mem_cons.mpr ⟨⟨oS, gS⟩, List.forall_mem_cons.mpr ⟨⟨od, gd⟩, List.forall_mem_cons.mpr ⟨⟨ol, gl⟩, List.forall_mem_cons.mpr ⟨⟨oO, gO⟩, List.forall_mem_cons.mpr ⟨⟨odo, gdo⟩, List.forall_mem_cons.mpr ⟨⟨olo, glo⟩, List.forall_mem_cons.mpr ⟨⟨ou, gu⟩, List.forall_mem_cons.mpr ⟨⟨p1, g1⟩, List.forall_mem_nil _⟩⟩⟩⟩⟩⟩⟩⟩
  refine enter_def B stg N (by k_is) (by k_is) (show 600 < recursionLimit by decide) (BindsTo.of_eq rfl) (locs rfl) ?_ rfl rfl rfl (by decide)
  intro g' L h₁ B' F' N' kM sg hid
  have X' := B'.K
  have T' := B'.T
  have m1 := mod_all N N' (kM _ F'.keep)
  have st1 : s.heap.StaysIn h₁ := fun b o e => m1 b o e (by simp)
  have OS : OSet w h₁ S dx l ms := os_at N' (.head _) (.tail _ (.head _)) (.tail _ (.tail _ (.head _))) f pv nd
  have OO : OSet w h₁ O dxo lo vs := os_at N' (.tail _ (.tail _ (.tail _ (.head _)))) (.tail _ (.tail _ (.tail _ (.tail _ (.head _))))) (.tail _ (.tail _ (.tail _ (.tail _ (.tail _ (.head _)))))) fo pvo ndo
  have GS := (N' _ (.head _)).2.2
  have GD := (N' _ (.tail _ (.head _))).2.2
  have GL := (N' _ (.tail _ (.tail _ (.head _)))).2.2
  have GO := (N' _ (.tail _ (.tail _ (.tail _ (.head _))))).2.2
  have GDO := (N' _ (.tail _ (.tail _ (.tail _ (.tail _ (.head _)))))).2.2
  have GLO := (N' _ (.tail _ (.tail _ (.tail _ (.tail _ (.tail _ (.head _))))))).2.2
  have OU := (N' (lu, PySem.W.listOf us.toArray eu) (.tail _ (.tail _ (.tail _ (.tail _ (.tail _ (.tail _ (.head _)))))))).1
  have GU := (N' (lu, PySem.W.listOf us.toArray eu) (.tail _ (.tail _ (.tail _ (.tail _ (.tail _ (.tail _ (.head _)))))))).2.2
  dsimp only at GS GD GL GO GDO GLO GU
  try dsimp only
  have ap : ∀ p ∈ [(O, setO (.ref 232) (some dxo) eso epo to #[some (.ref lo)]), (dxo, dictE), (lo, PySem.W.listOf vs.toArray eo), (lu, PySem.W.listOf us.toArray eu), (LL, oL)], p.1 ≠ S ∧ p.1 ≠ dx ∧ p.1 ≠ l := by
    have a0 : tupO [] ≠ oL := tup_ne_dict d1
    intro p hp
    simp only [List.mem_cons, List.not_mem_nil, or_false] at hp
    rcases hp with rfl | rfl | rfl | rfl | rfl
    · exact ⟨nS.symm, neObj oO od set_ne_dict, neObj oO ol set_ne_list⟩
    · exact ⟨(neObj oS odo set_ne_dict).symm, nd'.symm, neObj odo ol dict_ne_list⟩
    · exact ⟨(neObj oS olo set_ne_list).symm, (neObj od olo dict_ne_list).symm, nl.symm⟩
    · exact ⟨(neObj oS ou set_ne_list).symm, (neObj od ou dict_ne_list).symm, nlu⟩
    · exact ⟨(neObj oS p1 (ne_frame_set d1)).symm, fun q => fD q, (neObj ol p1 (ne_frame_list d1)).symm⟩
  refine wpAny_execs_cons (chain_ok (x := Str.ofString "op") (k := 3) rfl rfl (by decide) rfl 20 _ _ F'.ns fun tk => ?_)
  conv in chainS _ _ _ _ => whnf
  try dsimp only
  k_steps
  refine use_at (A := A3) (ior_spec B' F'.keep OS GS GD GL OO GO GDO GLO nS nd' nl fun h2 tk2 md2 I2' => ?_) rfl (Nat.le_of_ble_eq_true rfl) rfl rfl (Nat.le_of_ble_eq_true rfl)
  obtain ⟨es2, ep2, t2, e2, F2, N2, f2, pv2, nd2⟩ := led_inp F' N' ap md2 (.inl rfl) I2'
  try show wpAny _ _ _ _ _ _
  k_steps
  have F3 := ‹Fr g' L _ _›
  have N3 := ‹News g' L _ _›
  refine hR _ _ _ _ _ _ (Mod.toF (modR (rest := [(O, setO (.ref 232) (some dxo) eso epo to #[some (.ref lo)]), (dxo, dictE), (lo, PySem.W.listOf vs.toArray eo), (lu, PySem.W.listOf us.toArray eu), (LL, oL)]) (kM _ F3.keep) fun p hp => ⟨(N p (.tail _ (.tail _ (.tail _ hp)))).1, (N3 p (.tail _ (.tail _ (.tail _ (.tail _ hp))))).1⟩)) (none_of sg (N3 _ (.head _)).2.2) (N3 _ (.head _)).1 (.inl rfl) (os_at N3 (.tail _ (.head _)) (.tail _ (.tail _ (.head _))) (.tail _ (.tail _ (.tail _ (.head _)))) f2 pv2 nd2) rfl
end

end
/-! E7 -/
section
section
variable {w : World} {s : Shared} {mg mb : Str → Option Value} {g : Heap} {R : Result → Shared → Prop} {S dx l : Addr} {ms : List Value} {x : Value}
theorem done_4 {O dxo lo lu LL : Addr} {vs us : List Value} {eu : Nat} {env1 : Env} {oL : Obj} {i : Int} {uk ui : Tok} (B : Base w mg mb g) (stg : g.StaysIn s.heap) (I : OSet w s.heap S dx l ms) (gS : g.get? S = none) (gd : g.get? dx = none) (gl : g.get? l = none)
  (I2 : OSet w s.heap O dxo lo vs) (gO : g.get? O = none) (gdo : g.get? dxo = none) (glo : g.get? lo = none) (nS : S ≠ O) (nd' : dx ≠ dxo) (nl : l ≠ lo)
  (ou : s.heap.get? lu = some (PySem.W.listOf us.toArray eu)) (gu : g.get? lu = none) (nlu : lu ≠ l) (pu : ∀ v ∈ us, Pv v) (zu : us.length ≤ 100) (px : Pv x) (hi : -10 ≤ i ∧ i ≤ 10)
  (f1 : env1.frame = some LL) (k1 : env1.scope.kind ≠ .module) (p1 : s.heap.get? LL = some oL) (d1 : ∃ es ep, oL.data = .dict es ep) (g1 : g.get? LL = none) (fD : LL ≠ dx)
  (hR : ∀ h' dr tk T l' v, ModF [LL] [S, dx, l] s.heap h' → g.get? T = none → h'.get? T = some (tupO [.ref S, v]) → (l' = l ∨ s.heap.get? l' = none) → OSet w h' S dx l' (remL ms x) → ExtAt g h' .no v → R (.ok (.ret (.ref T))) ⟨h', s.gens, dr, tk, s.os⟩) :
    codeAny (model PR w) (AD env1) (.call (.ref 271) ⟨[.ref S, .ref O, .int 4 uk, x, .ref lu, .int i ui], []⟩) R s := by
  obtain ⟨⟨es, ep, t, e, oS, od, ol, f⟩, pv, nd⟩ := I
  obtain ⟨⟨eso, epo, to, eo, oO, odo, olo, fo⟩, pvo, ndo⟩ := I2
  have N : Has g s.heap [(S, setO (.ref 232) (some dx) es ep t #[some (.ref l)]), (dx, dictE), (l, PySem.W.listOf ms.toArray e), (O, setO (.ref 232) (some dxo) eso epo to #[some (.ref lo)]), (dxo, dictE), (lo, PySem.W.listOf vs.toArray eo), (lu, PySem.W.listOf us.toArray eu), (LL, oL)] :=
    List.forall_mem_cons.mpr ⟨⟨oS, gS⟩, List.forall_mem_cons.mpr ⟨⟨od, gd⟩, List.forall_mem_cons.mpr ⟨⟨ol, gl⟩, List.forall_mem_cons.mpr ⟨⟨oO, gO⟩, List.forall_mem_cons.mpr ⟨⟨odo, gdo⟩, List.forall_mem_cons.mpr ⟨⟨olo, glo⟩, List.forall_mem_cons.mpr ⟨⟨ou, gu⟩, List.forall_mem_cons.mpr ⟨⟨p1, g1⟩, List.forall_mem_nil _⟩⟩⟩⟩⟩⟩⟩⟩
  refine enter_def B stg N (by k_is) (by k_is) (show 600 < recursionLimit by decide) (BindsTo.of_eq rfl) (locs rfl) ?_ rfl rfl rfl (by decide)
  intro g' L h₁ B' F' N' kM sg hid
  have X' := B'.K
  have T' := B'.T
  have m1 := mod_all N N' (kM _ F'.keep)
  have st1 : s.heap.StaysIn h₁ := fun b o e => m1 b o e (by simp)
  have OS : OSet w h₁ S dx l ms := os_at N' (.head _) (.tail _ (.head _)) (.tail _ (.tail _ (.head _))) f pv nd
  have OO : OSet w h₁ O dxo lo vs := os_at N' (.tail _ (.tail _ (.tail _ (.head _)))) (.tail _ (.tail _ (.tail _ (.tail _ (.head _))))) (.tail _ (.tail _ (.tail _ (.tail _ (.tail _ (.head _)))))) fo pvo ndo
  have GS := (N' _ (.head _)).2.2
  have GD := (N' _ (.tail _ (.head _))).2.2
  have GL := (N' _ (.tail _ (.tail _ (.head _)))).2.2
  have GO := (N' _ (.tail _ (.tail _ (.tail _ (.head _))))).2.2
  have GDO := (N' _ (.tail _ (.tail _ (.tail _ (.tail _ (.head _)))))).2.2
  have GLO := (N' _ (.tail _ (.tail _ (.tail _ (.tail _ (.tail _ (.head _))))))).2.2
  have OU := (N' (lu, PySem.W.listOf us.toArray eu) (.tail _ (.tail _ (.tail _ (.tail _ (.tail _ (.tail _ (.head _)))))))).1
  have GU := (N' (lu, PySem.W.listOf us.toArray eu) (.tail _ (.tail _ (.tail _ (.tail _ (.tail _ (.tail _ (.head _)))))))).2.2
  dsimp only at GS GD GL GO GDO GLO GU
  try dsimp only
  have ap : ∀ p ∈ [(O, setO (.ref 232) (some dxo) eso epo to #[some (.ref lo)]), (dxo, dictE), (lo, PySem.W.listOf vs.toArray eo), (lu, PySem.W.listOf us.toArray eu), (LL, oL)], p.1 ≠ S ∧ p.1 ≠ dx ∧ p.1 ≠ l := by
    have a0 : tupO [] ≠ oL := tup_ne_dict d1
    intro p hp
    simp only [List.mem_cons, List.not_mem_nil, or_false] at hp
    rcases hp with rfl | rfl | rfl | rfl | rfl
    · exact ⟨nS.symm, neObj oO od set_ne_dict, neObj oO ol set_ne_list⟩
    · exact ⟨(neObj oS odo set_ne_dict).symm, nd'.symm, neObj odo ol dict_ne_list⟩
    · exact ⟨(neObj oS olo set_ne_list).symm, (neObj od olo dict_ne_list).symm, nl.symm⟩
    · exact ⟨(neObj oS ou set_ne_list).symm, (neObj od ou dict_ne_list).symm, nlu⟩
    · exact ⟨(neObj oS p1 (ne_frame_set d1)).symm, fun q => fD q, (neObj ol p1 (ne_frame_list d1)).symm⟩
  refine wpAny_execs_cons (chain_ok (x := Str.ofString "op") (k := 4) rfl rfl (by decide) rfl 20 _ _ F'.ns fun tk => ?_)
  conv in chainS _ _ _ _ => whnf
  try dsimp only
  k_steps
  refine use_at (A := A1) (discard_spec B' F'.keep OS GS GD GL px fun h2 tk2 md2 I2' => ?_) rfl (Nat.le_of_ble_eq_true rfl) rfl rfl (Nat.le_of_ble_eq_true rfl)
  obtain ⟨es2, ep2, t2, e2, F2, N2, f2, pv2, nd2⟩ := led_inp F' N' ap md2 (.inl rfl) I2'
  try show wpAny _ _ _ _ _ _
  k_steps
  have F3 := ‹Fr g' L _ _›
  have N3 := ‹News g' L _ _›
  refine hR _ _ _ _ _ _ (Mod.toF (modR (rest := [(O, setO (.ref 232) (some dxo) eso epo to #[some (.ref lo)]), (dxo, dictE), (lo, PySem.W.listOf vs.toArray eo), (lu, PySem.W.listOf us.toArray eu), (LL, oL)]) (kM _ F3.keep) fun p hp => ⟨(N p (.tail _ (.tail _ (.tail _ hp)))).1, (N3 p (.tail _ (.tail _ (.tail _ (.tail _ hp))))).1⟩)) (none_of sg (N3 _ (.head _)).2.2) (N3 _ (.head _)).1 (.inl rfl) (os_at N3 (.tail _ (.head _)) (.tail _ (.tail _ (.head _))) (.tail _ (.tail _ (.tail _ (.head _)))) f2 pv2 nd2) rfl
theorem done_7 {O dxo lo lu LL : Addr} {vs us : List Value} {eu : Nat} {env1 : Env} {oL : Obj} {i : Int} {uk ui : Tok} (B : Base w mg mb g) (stg : g.StaysIn s.heap) (I : OSet w s.heap S dx l ms) (gS : g.get? S = none) (gd : g.get? dx = none) (gl : g.get? l = none)
  (I2 : OSet w s.heap O dxo lo vs) (gO : g.get? O = none) (gdo : g.get? dxo = none) (glo : g.get? lo = none) (nS : S ≠ O) (nd' : dx ≠ dxo) (nl : l ≠ lo)
  (ou : s.heap.get? lu = some (PySem.W.listOf us.toArray eu)) (gu : g.get? lu = none) (nlu : lu ≠ l) (pu : ∀ v ∈ us, Pv v) (zu : us.length ≤ 100) (px : Pv x) (hi : -10 ≤ i ∧ i ≤ 10)
  (f1 : env1.frame = some LL) (k1 : env1.scope.kind ≠ .module) (p1 : s.heap.get? LL = some oL) (d1 : ∃ es ep, oL.data = .dict es ep) (g1 : g.get? LL = none) (fD : LL ≠ dx)
  (hR : ∀ h' dr tk T l' v, ModF [LL] [S, dx, l] s.heap h' → g.get? T = none → h'.get? T = some (tupO [.ref S, v]) → (l' = l ∨ s.heap.get? l' = none) → OSet w h' S dx l' (ms.filter fun v => decide (inL vs v)) → ExtAt g h' .no v → R (.ok (.ret (.ref T))) ⟨h', s.gens, dr, tk, s.os⟩) :
    codeAny (model PR w) (AD env1) (.call (.ref 271) ⟨[.ref S, .ref O, .int 7 uk, x, .ref lu, .int i ui], []⟩) R s := by
  obtain ⟨⟨es, ep, t, e, oS, od, ol, f⟩, pv, nd⟩ := I
  obtain ⟨⟨eso, epo, to, eo, oO, odo, olo, fo⟩, pvo, ndo⟩ := I2
  have N : Has g s.heap [(S, setO (.ref 232) (some dx) es ep t #[some (.ref l)]), (dx, dictE), (l, PySem.W.listOf ms.toArray e), (O, setO (.ref 232) (some dxo) eso epo to #[some (.ref lo)]), (dxo, dictE), (lo, PySem.W.listOf vs.toArray eo), (lu, PySem.W.listOf us.toArray eu), (LL, oL)] :=
    List.forall_mem_cons.mpr ⟨⟨oS, gS⟩, List.forall_mem_cons.mpr ⟨⟨od, gd⟩, List.forall_mem_cons.mpr ⟨⟨ol, gl⟩, List.forall_mem_cons.mpr ⟨⟨oO, gO⟩, List.forall_mem_cons.mpr ⟨⟨odo, gdo⟩, List.forall_mem_cons.mpr ⟨⟨olo, glo⟩, List.forall_mem_cons.mpr ⟨⟨ou, gu⟩, List.forall_mem_cons.mpr ⟨⟨p1, g1⟩, List.forall_mem_nil _⟩⟩⟩⟩⟩⟩⟩⟩
  refine enter_def B stg N (by k_is) (by k_is) (show 600 < recursionLimit by decide) (BindsTo.of_eq rfl) (locs rfl) ?_ rfl rfl rfl (by decide)
  intro g' L h₁ B' F' N' kM sg hid
  have X' := B'.K
  have T' := B'.T
  have m1 := mod_all N N' (kM _ F'.keep)
  have st1 : s.heap.StaysIn h₁ := fun b o e => m1 b o e (by simp)
  have OS : OSet w h₁ S dx l ms := os_at N' (.head _) (.tail _ (.head _)) (.tail _ (.tail _ (.head _))) f pv nd
  have OO : OSet w h₁ O dxo lo vs := os_at N' (.tail _ (.tail _ (.tail _ (.head _)))) (.tail _ (.tail _ (.tail _ (.tail _ (.head _))))) (.tail _ (.tail _ (.tail _ (.tail _ (.tail _ (.head _)))))) fo pvo ndo
  have GS := (N' _ (.head _)).2.2
  have GD := (N' _ (.tail _ (.head _))).2.2
  have GL := (N' _ (.tail _ (.tail _ (.head _)))).2.2
  have GO := (N' _ (.tail _ (.tail _ (.tail _ (.head _))))).2.2
  have GDO := (N' _ (.tail _ (.tail _ (.tail _ (.tail _ (.head _)))))).2.2
  have GLO := (N' _ (.tail _ (.tail _ (.tail _ (.tail _ (.tail _ (.head _))))))).2.2
  have OU := (N' (lu, PySem.W.listOf us.toArray eu) (.tail _ (.tail _ (.tail _ (.tail _ (.tail _ (.tail _ (.head _)))))))).1
  have GU := (N' (lu, PySem.W.listOf us.toArray eu) (.tail _ (.tail _ (.tail _ (.tail _ (.tail _ (.tail _ (.head _)))))))).2.2
  dsimp only at GS GD GL GO GDO GLO GU
  try dsimp only
  have ap : ∀ p ∈ [(O, setO (.ref 232) (some dxo) eso epo to #[some (.ref lo)]), (dxo, dictE), (lo, PySem.W.listOf vs.toArray eo), (lu, PySem.W.listOf us.toArray eu), (LL, oL)], p.1 ≠ S ∧ p.1 ≠ dx ∧ p.1 ≠ l := by
    have a0 : tupO [] ≠ oL := tup_ne_dict d1
    intro p hp
    simp only [List.mem_cons, List.not_mem_nil, or_false] at hp
    rcases hp with rfl | rfl | rfl | rfl | rfl
    · exact ⟨nS.symm, neObj oO od set_ne_dict, neObj oO ol set_ne_list⟩
    · exact ⟨(neObj oS odo set_ne_dict).symm, nd'.symm, neObj odo ol dict_ne_list⟩
    · exact ⟨(neObj oS olo set_ne_list).symm, (neObj od olo dict_ne_list).symm, nl.symm⟩
    · exact ⟨(neObj oS ou set_ne_list).symm, (neObj od ou dict_ne_list).symm, nlu⟩
    · exact ⟨(neObj oS p1 (ne_frame_set d1)).symm, fun q => fD q, (neObj ol p1 (ne_frame_list d1)).symm⟩
  refine wpAny_execs_cons (chain_ok (x := Str.ofString "op") (k := 7) rfl rfl (by decide) rfl 20 _ _ F'.ns fun tk => ?_)
  conv in chainS _ _ _ _ => whnf
  try dsimp only
  k_steps
  refine use_at (A := A3) (iand_spec B' F'.keep OS GS GD GL OO GO GDO GLO nS.symm fun h2 dr2 tk2 l2 md2 nl2 I2' => ?_) rfl (Nat.le_of_ble_eq_true rfl) rfl rfl (Nat.le_of_ble_eq_true rfl)
  obtain ⟨es2, ep2, t2, e2, F2, N2, f2, pv2, nd2⟩ := led_inp F' N' ap md2 (.inr nl2) I2'
  try show wpAny _ _ _ _ _ _
  k_steps
  have F3 := ‹Fr g' L _ _›
  have N3 := ‹News g' L _ _›
  refine hR _ _ _ _ _ _ (Mod.toF (modR (rest := [(O, setO (.ref 232) (some dxo) eso epo to #[some (.ref lo)]), (dxo, dictE), (lo, PySem.W.listOf vs.toArray eo), (lu, PySem.W.listOf us.toArray eu), (LL, oL)]) (kM _ F3.keep) fun p hp => ⟨(N p (.tail _ (.tail _ (.tail _ hp)))).1, (N3 p (.tail _ (.tail _ (.tail _ (.tail _ hp))))).1⟩)) (none_of sg (N3 _ (.head _)).2.2) (N3 _ (.head _)).1 (.inr (none_of st1 nl2)) (os_at N3 (.tail _ (.head _)) (.tail _ (.tail _ (.head _))) (.tail _ (.tail _ (.tail _ (.head _)))) f2 pv2 nd2) rfl
theorem done_8 {O dxo lo lu LL : Addr} {vs us : List Value} {eu : Nat} {env1 : Env} {oL : Obj} {i : Int} {uk ui : Tok} (B : Base w mg mb g) (stg : g.StaysIn s.heap) (I : OSet w s.heap S dx l ms) (gS : g.get? S = none) (gd : g.get? dx = none) (gl : g.get? l = none)
  (I2 : OSet w s.heap O dxo lo vs) (gO : g.get? O = none) (gdo : g.get? dxo = none) (glo : g.get? lo = none) (nS : S ≠ O) (nd' : dx ≠ dxo) (nl : l ≠ lo)
  (ou : s.heap.get? lu = some (PySem.W.listOf us.toArray eu)) (gu : g.get? lu = none) (nlu : lu ≠ l) (pu : ∀ v ∈ us, Pv v) (zu : us.length ≤ 100) (px : Pv x) (hi : -10 ≤ i ∧ i ≤ 10)
  (f1 : env1.frame = some LL) (k1 : env1.scope.kind ≠ .module) (p1 : s.heap.get? LL = some oL) (d1 : ∃ es ep, oL.data = .dict es ep) (g1 : g.get? LL = none) (fD : LL ≠ dx)
  (hR : ∀ h' dr tk T l' v, ModF [LL] [S, dx, l] s.heap h' → g.get? T = none → h'.get? T = some (tupO [.ref S, v]) → (l' = l ∨ s.heap.get? l' = none) → OSet w h' S dx l' (ms.filter fun v => decide (¬ inL vs v)) → ExtAt g h' .no v → R (.ok (.ret (.ref T))) ⟨h', s.gens, dr, tk, s.os⟩) :
    codeAny (model PR w) (AD env1) (.call (.ref 271) ⟨[.ref S, .ref O, .int 8 uk, x, .ref lu, .int i ui], []⟩) R s := by
  obtain ⟨⟨es, ep, t, e, oS, od, ol, f⟩, pv, nd⟩ := I
  obtain ⟨⟨eso, epo, to, eo, oO, odo, olo, fo⟩, pvo, ndo⟩ := I2
  have N : Has g s.heap [(S, setO (.ref 232) (some dx) es ep t #[some (.ref l)]), (dx, dictE), (l, PySem.W.listOf ms.toArray e), (O, setO (.ref 232) (some dxo) eso epo to #[some (.ref lo)]), (dxo, dictE), (lo, PySem.W.listOf vs.toArray eo), (lu, PySem.W.listOf us.toArray eu), (LL, oL)] :=
    List.forall_mem_cons.mpr ⟨⟨oS, gS⟩, List.forall_mem_cons.mpr ⟨⟨od, gd⟩, List.forall_mem_cons.mpr ⟨⟨ol, gl⟩, List.forall_mem_cons.mpr ⟨⟨oO, gO⟩, List.forall_mem_cons.mpr ⟨⟨odo, gdo⟩, List.forall_mem_cons.mpr ⟨⟨olo, glo⟩, List.forall_mem_cons.mpr ⟨⟨ou, gu⟩, List.forall_mem_cons.mpr ⟨⟨p1, g1⟩, List.forall_mem_nil _⟩⟩⟩⟩⟩⟩⟩⟩
  refine enter_def B stg N (by k_is) (by k_is) (show 600 < recursionLimit by decide) (BindsTo.of_eq rfl) (locs rfl) ?_ rfl rfl rfl (by decide)
  intro g' L h₁ B' F' N' kM sg hid
  have X' := B'.K
  have T' := B'.T
  have m1 := mod_all N N' (kM _ F'.keep)
  have st1 : s.heap.StaysIn h₁ := fun b o e => m1 b o e (by simp)
  have OS : OSet w h₁ S dx l ms := os_at N' (.head _) (.tail _ (.head _)) (.tail _ (.tail _ (.head _))) f pv nd
  have OO : OSet w h₁ O dxo lo vs := os_at N' (.tail _ (.tail _ (.tail _ (.head _)))) (.tail _ (.tail _ (.tail _ (.tail _ (.head _))))) (.tail _ (.tail _ (.tail _ (.tail _ (.tail _ (.head _)))))) fo pvo ndo
  have GS := (N' _ (.head _)).2.2
  have GD := (N' _ (.tail _ (.head _))).2.2
  have GL := (N' _ (.tail _ (.tail _ (.head _)))).2.2
  have GO := (N' _ (.tail _ (.tail _ (.tail _ (.head _))))).2.2
  have GDO := (N' _ (.tail _ (.tail _ (.tail _ (.tail _ (.head _)))))).2.2
  have GLO := (N' _ (.tail _ (.tail _ (.tail _ (.tail _ (.tail _ (.head _))))))).2.2
  have OU := (N' (lu, PySem.W.listOf us.toArray eu) (.tail _ (.tail _ (.tail _ (.tail _ (.tail _ (.tail _ (.head _)))))))).1
  have GU := (N' (lu, PySem.W.listOf us.toArray eu) (.tail _ (.tail _ (.tail _ (.tail _ (.tail _ (.tail _ (.head _)))))))).2.2
  dsimp only at GS GD GL GO GDO GLO GU
  try dsimp only
  have ap : ∀ p ∈ [(O, setO (.ref 232) (some dxo) eso epo to #[some (.ref lo)]), (dxo, dictE), (lo, PySem.W.listOf vs.toArray eo), (lu, PySem.W.listOf us.toArray eu), (LL, oL)], p.1 ≠ S ∧ p.1 ≠ dx ∧ p.1 ≠ l := by
    have a0 : tupO [] ≠ oL := tup_ne_dict d1
    intro p hp
    simp only [List.mem_cons, List.not_mem_nil, or_false] at hp
    rcases hp with rfl | rfl | rfl | rfl | rfl
    · exact ⟨nS.symm, neObj oO od set_ne_dict, neObj oO ol set_ne_list⟩
    · exact ⟨(neObj oS odo set_ne_dict).symm, nd'.symm, neObj odo ol dict_ne_list⟩
    · exact ⟨(neObj oS olo set_ne_list).symm, (neObj od olo dict_ne_list).symm, nl.symm⟩
    · exact ⟨(neObj oS ou set_ne_list).symm, (neObj od ou dict_ne_list).symm, nlu⟩
    · exact ⟨(neObj oS p1 (ne_frame_set d1)).symm, fun q => fD q, (neObj ol p1 (ne_frame_list d1)).symm⟩
  refine wpAny_execs_cons (chain_ok (x := Str.ofString "op") (k := 8) rfl rfl (by decide) rfl 20 _ _ F'.ns fun tk => ?_)
  conv in chainS _ _ _ _ => whnf
  try dsimp only
  k_steps
  refine use_at (A := A3) (isub_spec B' F'.keep OS GS GD GL OO GO GDO GLO nS.symm fun h2 dr2 tk2 l2 md2 nl2 I2' => ?_) rfl (Nat.le_of_ble_eq_true rfl) rfl rfl (Nat.le_of_ble_eq_true rfl)
  obtain ⟨es2, ep2, t2, e2, F2, N2, f2, pv2, nd2⟩ := led_inp F' N' ap md2 (.inr nl2) I2'
  try show wpAny _ _ _ _ _ _
  k_steps
  have F3 := ‹Fr g' L _ _›
  have N3 := ‹News g' L _ _›
  refine hR _ _ _ _ _ _ (Mod.toF (modR (rest := [(O, setO (.ref 232) (some dxo) eso epo to #[some (.ref lo)]), (dxo, dictE), (lo, PySem.W.listOf vs.toArray eo), (lu, PySem.W.listOf us.toArray eu), (LL, oL)]) (kM _ F3.keep) fun p hp => ⟨(N p (.tail _ (.tail _ (.tail _ hp)))).1, (N3 p (.tail _ (.tail _ (.tail _ (.tail _ hp))))).1⟩)) (none_of sg (N3 _ (.head _)).2.2) (N3 _ (.head _)).1 (.inr (none_of st1 nl2)) (os_at N3 (.tail _ (.head _)) (.tail _ (.tail _ (.head _))) (.tail _ (.tail _ (.tail _ (.head _)))) f2 pv2 nd2) rfl
theorem done_9 {O dxo lo lu LL : Addr} {vs us : List Value} {eu : Nat} {env1 : Env} {oL : Obj} {i : Int} {uk ui : Tok} (B : Base w mg mb g) (stg : g.StaysIn s.heap) (I : OSet w s.heap S dx l ms) (gS : g.get? S = none) (gd : g.get? dx = none) (gl : g.get? l = none)
  (I2 : OSet w s.heap O dxo lo vs) (gO : g.get? O = none) (gdo : g.get? dxo = none) (glo : g.get? lo = none) (nS : S ≠ O) (nd' : dx ≠ dxo) (nl : l ≠ lo)
  (ou : s.heap.get? lu = some (PySem.W.listOf us.toArray eu)) (gu : g.get? lu = none) (nlu : lu ≠ l) (pu : ∀ v ∈ us, Pv v) (zu : us.length ≤ 100) (px : Pv x) (hi : -10 ≤ i ∧ i ≤ 10)
  (f1 : env1.frame = some LL) (k1 : env1.scope.kind ≠ .module) (p1 : s.heap.get? LL = some oL) (d1 : ∃ es ep, oL.data = .dict es ep) (g1 : g.get? LL = none) (fD : LL ≠ dx)
  (hR : ∀ h' dr tk T l' v, ModF [LL] [S, dx, l] s.heap h' → g.get? T = none → h'.get? T = some (tupO [.ref S, v]) → (l' = l ∨ s.heap.get? l' = none) → OSet w h' S dx l' ((ms.filter fun v => decide (¬ inL vs v)) ++ vs.filter fun v => decide (¬ inL ms v)) → ExtAt g h' .no v → R (.ok (.ret (.ref T))) ⟨h', s.gens, dr, tk, s.os⟩) :
    codeAny (model PR w) (AD env1) (.call (.ref 271) ⟨[.ref S, .ref O, .int 9 uk, x, .ref lu, .int i ui], []⟩) R s := by
  obtain ⟨⟨es, ep, t, e, oS, od, ol, f⟩, pv, nd⟩ := I
  obtain ⟨⟨eso, epo, to, eo, oO, odo, olo, fo⟩, pvo, ndo⟩ := I2
  have N : Has g s.heap [(S, setO (.ref 232) (some dx) es ep t #[some (.ref l)]), (dx, dictE), (l, PySem.W.listOf ms.toArray e), (O, setO (.ref 232) (some dxo) eso epo to #[some (.ref lo)]), (dxo, dictE), (lo, PySem.W.listOf vs.toArray eo), (lu, PySem.W.listOf us.toArray eu), (LL, oL)] :=
    List.forall_mem_cons.mpr ⟨⟨oS, gS⟩, List.forall_mem_cons.mpr ⟨⟨od, gd⟩, List.forall_mem_cons.mpr ⟨⟨ol, gl⟩, List.forall_mem_cons.mpr ⟨⟨oO, gO⟩, List.forall_mem_cons.mpr ⟨⟨odo, gdo⟩, List.forall_mem_cons.mpr ⟨⟨olo, glo⟩, List.forall_mem_cons.mpr ⟨⟨ou, gu⟩, List.forall_mem_cons.mpr ⟨⟨p1, g1⟩, List.forall_mem_nil _⟩⟩⟩⟩⟩⟩⟩⟩
  refine enter_def B stg N (by k_is) (by k_is) (show 600 < recursionLimit by decide) (BindsTo.of_eq rfl) (locs rfl) ?_ rfl rfl rfl (by decide)
  intro g' L h₁ B' F' N' kM sg hid
  have X' := B'.K
  have T' := B'.T
  have m1 := mod_all N N' (kM _ F'.keep)
  have st1 : s.heap.StaysIn h₁ := fun b o e => m1 b o e (by simp)
  have OS : OSet w h₁ S dx l ms := os_at N' (.head _) (.tail _ (.head _)) (.tail _ (.tail _ (.head _))) f pv nd
  have OO : OSet w h₁ O dxo lo vs := os_at N' (.tail _ (.tail _ (.tail _ (.head _)))) (.tail _ (.tail _ (.tail _ (.tail _ (.head _))))) (.tail _ (.tail _ (.tail _ (.tail _ (.tail _ (.head _)))))) fo pvo ndo
  have GS := (N' _ (.head _)).2.2
  have GD := (N' _ (.tail _ (.head _))).2.2
  have GL := (N' _ (.tail _ (.tail _ (.head _)))).2.2
  have GO := (N' _ (.tail _ (.tail _ (.tail _ (.head _))))).2.2
  have GDO := (N' _ (.tail _ (.tail _ (.tail _ (.tail _ (.head _)))))).2.2
  have GLO := (N' _ (.tail _ (.tail _ (.tail _ (.tail _ (.tail _ (.head _))))))).2.2
  have OU := (N' (lu, PySem.W.listOf us.toArray eu) (.tail _ (.tail _ (.tail _ (.tail _ (.tail _ (.tail _ (.head _)))))))).1
  have GU := (N' (lu, PySem.W.listOf us.toArray eu) (.tail _ (.tail _ (.tail _ (.tail _ (.tail _ (.tail _ (.head _)))))))).2.2
  dsimp only at GS GD GL GO GDO GLO GU
  try dsimp only
  have ap : ∀ p ∈ [(O, setO (.ref 232) (some dxo) eso epo to #[some (.ref lo)]), (dxo, dictE), (lo, PySem.W.listOf vs.toArray eo), (lu, PySem.W.listOf us.toArray eu), (LL, oL)], p.1 ≠ S ∧ p.1 ≠ dx ∧ p.1 ≠ l := by
    have a0 : tupO [] ≠ oL := tup_ne_dict d1
    intro p hp
    simp only [List.mem_cons, List.not_mem_nil, or_false] at hp
    rcases hp with rfl | rfl | rfl | rfl | rfl
    · exact ⟨nS.symm, neObj oO od set_ne_dict, neObj oO ol set_ne_list⟩
    · exact ⟨(neObj oS odo set_ne_dict).symm, nd'.symm, neObj odo ol dict_ne_list⟩
    · exact ⟨(neObj oS olo set_ne_list).symm, (neObj od olo dict_ne_list).symm, nl.symm⟩
    · exact ⟨(neObj oS ou set_ne_list).symm, (neObj od ou dict_ne_list).symm, nlu⟩
    · exact ⟨(neObj oS p1 (ne_frame_set d1)).symm, fun q => fD q, (neObj ol p1 (ne_frame_list d1)).symm⟩
  refine wpAny_execs_cons (chain_ok (x := Str.ofString "op") (k := 9) rfl rfl (by decide) rfl 20 _ _ F'.ns fun tk => ?_)
  conv in chainS _ _ _ _ => whnf
  try dsimp only
  k_steps
  refine use_at (A := A3) (ixor_spec B' F'.keep OS GS GD GL OO GO GDO GLO nS.symm fun h2 dr2 tk2 l2 md2 nl2 I2' => ?_) rfl (Nat.le_of_ble_eq_true rfl) rfl rfl (Nat.le_of_ble_eq_true rfl)
  obtain ⟨es2, ep2, t2, e2, F2, N2, f2, pv2, nd2⟩ := led_inp F' N' ap md2 (.inr nl2) I2'
  try show wpAny _ _ _ _ _ _
  k_steps
  have F3 := ‹Fr g' L _ _›
  have N3 := ‹News g' L _ _›
  refine hR _ _ _ _ _ _ (Mod.toF (modR (rest := [(O, setO (.ref 232) (some dxo) eso epo to #[some (.ref lo)]), (dxo, dictE), (lo, PySem.W.listOf vs.toArray eo), (lu, PySem.W.listOf us.toArray eu), (LL, oL)]) (kM _ F3.keep) fun p hp => ⟨(N p (.tail _ (.tail _ (.tail _ hp)))).1, (N3 p (.tail _ (.tail _ (.tail _ (.tail _ hp))))).1⟩)) (none_of sg (N3 _ (.head _)).2.2) (N3 _ (.head _)).1 (.inr (none_of st1 nl2)) (os_at N3 (.tail _ (.head _)) (.tail _ (.tail _ (.head _))) (.tail _ (.tail _ (.tail _ (.head _)))) f2 pv2 nd2) rfl
end

end
/-! E8 -/
section
section
variable {w : World} {s : Shared} {mg mb : Str → Option Value} {g : Heap} {R : Result → Shared → Prop} {S dx l : Addr} {ms : List Value} {x : Value}
theorem done_11 {O dxo lo lu LL : Addr} {vs us : List Value} {eu : Nat} {env1 : Env} {oL : Obj} {i : Int} {uk ui : Tok} (B : Base w mg mb g) (stg : g.StaysIn s.heap) (I : OSet w s.heap S dx l ms) (gS : g.get? S = none) (gd : g.get? dx = none) (gl : g.get? l = none)
  (I2 : OSet w s.heap O dxo lo vs) (gO : g.get? O = none) (gdo : g.get? dxo = none) (glo : g.get? lo = none) (nS : S ≠ O) (nd' : dx ≠ dxo) (nl : l ≠ lo)
  (ou : s.heap.get? lu = some (PySem.W.listOf us.toArray eu)) (gu : g.get? lu = none) (nlu : lu ≠ l) (pu : ∀ v ∈ us, Pv v) (zu : us.length ≤ 100) (px : Pv x) (hi : -10 ≤ i ∧ i ≤ 10)
  (f1 : env1.frame = some LL) (k1 : env1.scope.kind ≠ .module) (p1 : s.heap.get? LL = some oL) (d1 : ∃ es ep, oL.data = .dict es ep) (g1 : g.get? LL = none) (fD : LL ≠ dx)
  (hR : ∀ h' dr tk T S' dx' l', Mod [] s.heap h' → g.get? T = none → h'.get? T = some (tupO [.ref S', .none]) → s.heap.get? S' = none → s.heap.get? dx' = none → s.heap.get? l' = none → OSet w h' S' dx' l' (addAll ms vs) → R (.ok (.ret (.ref T))) ⟨h', s.gens, dr, tk, s.os⟩) :
    codeAny (model PR w) (AD env1) (.call (.ref 271) ⟨[.ref S, .ref O, .int 11 uk, x, .ref lu, .int i ui], []⟩) R s := by
  obtain ⟨⟨es, ep, t, e, oS, od, ol, f⟩, pv, nd⟩ := I
  obtain ⟨⟨eso, epo, to, eo, oO, odo, olo, fo⟩, pvo, ndo⟩ := I2
  have N : Has g s.heap [(S, setO (.ref 232) (some dx) es ep t #[some (.ref l)]), (dx, dictE), (l, PySem.W.listOf ms.toArray e), (O, setO (.ref 232) (some dxo) eso epo to #[some (.ref lo)]), (dxo, dictE), (lo, PySem.W.listOf vs.toArray eo), (lu, PySem.W.listOf us.toArray eu), (LL, oL)] :=
    List.forall_mem_cons.mpr ⟨⟨oS, gS⟩, List.forall_mem_cons.mpr ⟨⟨od, gd⟩, List.forall_mem_cons.mpr ⟨⟨ol, gl⟩, List.forall_mem_cons.mpr ⟨⟨oO, gO⟩, List.forall_mem_cons.mpr ⟨⟨odo, gdo⟩, List.forall_mem_cons.mpr ⟨⟨olo, glo⟩, List.forall_mem_cons.mpr ⟨⟨ou, gu⟩, List.forall_mem_cons.mpr ⟨⟨p1, g1⟩, List.forall_mem_nil _⟩⟩⟩⟩⟩⟩⟩⟩
  refine enter_def B stg N (by k_is) (by k_is) (show 600 < recursionLimit by decide) (BindsTo.of_eq rfl) (locs rfl) ?_ rfl rfl rfl (by decide)
  intro g' L h₁ B' F' N' kM sg hid
  have X' := B'.K
  have T' := B'.T
  have m1 := mod_all N N' (kM _ F'.keep)
  have st1 : s.heap.StaysIn h₁ := fun b o e => m1 b o e (by simp)
  have OS : OSet w h₁ S dx l ms := os_at N' (.head _) (.tail _ (.head _)) (.tail _ (.tail _ (.head _))) f pv nd
  have OO : OSet w h₁ O dxo lo vs := os_at N' (.tail _ (.tail _ (.tail _ (.head _)))) (.tail _ (.tail _ (.tail _ (.tail _ (.head _))))) (.tail _ (.tail _ (.tail _ (.tail _ (.tail _ (.head _)))))) fo pvo ndo
  have GS := (N' _ (.head _)).2.2
  have GD := (N' _ (.tail _ (.head _))).2.2
  have GL := (N' _ (.tail _ (.tail _ (.head _)))).2.2
  have GO := (N' _ (.tail _ (.tail _ (.tail _ (.head _))))).2.2
  have GDO := (N' _ (.tail _ (.tail _ (.tail _ (.tail _ (.head _)))))).2.2
  have GLO := (N' _ (.tail _ (.tail _ (.tail _ (.tail _ (.tail _ (.head _))))))).2.2
  have OU := (N' (lu, PySem.W.listOf us.toArray eu) (.tail _ (.tail _ (.tail _ (.tail _ (.tail _ (.tail _ (.head _)))))))).1
  have GU := (N' (lu, PySem.W.listOf us.toArray eu) (.tail _ (.tail _ (.tail _ (.tail _ (.tail _ (.tail _ (.head _)))))))).2.2
  dsimp only at GS GD GL GO GDO GLO GU
  try dsimp only
  refine wpAny_execs_cons (chain_ok (x := Str.ofString "op") (k := 11) rfl rfl (by decide) rfl 20 _ _ F'.ns fun tk => ?_)
  conv in chainS _ _ _ _ => whnf
  try dsimp only
  k_steps
  refine use_at (A := A3) (or_spec B' F'.keep OS GS GD GL OO GO GDO GLO fun h2 tk2 S2 dx2 l2 md2 nS2 nd2' nl2 I2' => ?_) rfl (Nat.le_of_ble_eq_true rfl) rfl rfl (Nat.le_of_ble_eq_true rfl)
  obtain ⟨es2, ep2, t2, e2, F2, N2, f2, pv2, nd2, ne2⟩ := led_oset F' N' md2 nS2 nd2' nl2 I2'
  try show wpAny _ _ _ _ _ _
  k_steps
  have F3 := ‹Fr g' L _ _›
  have N3 := ‹News g' L _ _›
  exact hR _ _ _ _ _ _ _ (mod_all N (fun p hp => N3 p (.tail _ (.tail _ (.tail _ (.tail _ hp))))) (kM _ F3.keep)) (none_of sg (N3 _ (.head _)).2.2) (N3 _ (.head _)).1 (none_of st1 nS2) (none_of st1 nd2') (none_of st1 nl2) (os_at N3 (.tail _ (.head _)) (.tail _ (.tail _ (.head _))) (.tail _ (.tail _ (.tail _ (.head _)))) f2 pv2 nd2)
theorem done_12 {O dxo lo lu LL : Addr} {vs us : List Value} {eu : Nat} {env1 : Env} {oL : Obj} {i : Int} {uk ui : Tok} (B : Base w mg mb g) (stg : g.StaysIn s.heap) (I : OSet w s.heap S dx l ms) (gS : g.get? S = none) (gd : g.get? dx = none) (gl : g.get? l = none)
  (I2 : OSet w s.heap O dxo lo vs) (gO : g.get? O = none) (gdo : g.get? dxo = none) (glo : g.get? lo = none) (nS : S ≠ O) (nd' : dx ≠ dxo) (nl : l ≠ lo)
  (ou : s.heap.get? lu = some (PySem.W.listOf us.toArray eu)) (gu : g.get? lu = none) (nlu : lu ≠ l) (pu : ∀ v ∈ us, Pv v) (zu : us.length ≤ 100) (px : Pv x) (hi : -10 ≤ i ∧ i ≤ 10)
  (f1 : env1.frame = some LL) (k1 : env1.scope.kind ≠ .module) (p1 : s.heap.get? LL = some oL) (d1 : ∃ es ep, oL.data = .dict es ep) (g1 : g.get? LL = none) (fD : LL ≠ dx)
  (hR : ∀ h' dr tk T S' dx' l', Mod [] s.heap h' → g.get? T = none → h'.get? T = some (tupO [.ref S', .none]) → s.heap.get? S' = none → s.heap.get? dx' = none → s.heap.get? l' = none → OSet w h' S' dx' l' (ms.filter fun v => decide (inL vs v)) → R (.ok (.ret (.ref T))) ⟨h', s.gens, dr, tk, s.os⟩) :
    codeAny (model PR w) (AD env1) (.call (.ref 271) ⟨[.ref S, .ref O, .int 12 uk, x, .ref lu, .int i ui], []⟩) R s := by
  obtain ⟨⟨es, ep, t, e, oS, od, ol, f⟩, pv, nd⟩ := I
  obtain ⟨⟨eso, epo, to, eo, oO, odo, olo, fo⟩, pvo, ndo⟩ := I2
  have N : Has g s.heap [(S, setO (.ref 232) (some dx) es ep t #[some (.ref l)]), (dx, dictE), (l, PySem.W.listOf ms.toArray e), (O, setO (.ref 232) (some dxo) eso epo to #[some (.ref lo)]), (dxo, dictE), (lo, PySem.W.listOf vs.toArray eo), (lu, PySem.W.listOf us.toArray eu), (LL, oL)] :=
    List.forall_mem_cons.mpr ⟨⟨oS, gS⟩, List.forall_mem_cons.mpr ⟨⟨od, gd⟩, List.forall_mem_cons.mpr ⟨⟨ol, gl⟩, List.forall_mem_cons.mpr ⟨⟨oO, gO⟩, List.forall_mem_cons.mpr ⟨⟨odo, gdo⟩, List.forall_mem_cons.mpr ⟨⟨olo, glo⟩, List.forall_mem_cons.mpr ⟨⟨ou, gu⟩, List.forall_mem_cons.mpr ⟨⟨p1, g1⟩, List.forall_mem_nil _⟩⟩⟩⟩⟩⟩⟩⟩
  refine enter_def B stg N (by k_is) (by k_is) (show 600 < recursionLimit by decide) (BindsTo.of_eq rfl) (locs rfl) ?_ rfl rfl rfl (by decide)
  intro g' L h₁ B' F' N' kM sg hid
  have X' := B'.K
  have T' := B'.T
  have m1 := mod_all N N' (kM _ F'.keep)
  have st1 : s.heap.StaysIn h₁ := fun b o e => m1 b o e (by simp)
  have OS : OSet w h₁ S dx l ms := os_at N' (.head _) (.tail _ (.head _)) (.tail _ (.tail _ (.head _))) f pv nd
  have OO : OSet w h₁ O dxo lo vs := os_at N' (.tail _ (.tail _ (.tail _ (.head _)))) (.tail _ (.tail _ (.tail _ (.tail _ (.head _))))) (.tail _ (.tail _ (.tail _ (.tail _ (.tail _ (.head _)))))) fo pvo ndo
  have GS := (N' _ (.head _)).2.2
  have GD := (N' _ (.tail _ (.head _))).2.2
  have GL := (N' _ (.tail _ (.tail _ (.head _)))).2.2
  have GO := (N' _ (.tail _ (.tail _ (.tail _ (.head _))))).2.2
  have GDO := (N' _ (.tail _ (.tail _ (.tail _ (.tail _ (.head _)))))).2.2
  have GLO := (N' _ (.tail _ (.tail _ (.tail _ (.tail _ (.tail _ (.head _))))))).2.2
  have OU := (N' (lu, PySem.W.listOf us.toArray eu) (.tail _ (.tail _ (.tail _ (.tail _ (.tail _ (.tail _ (.head _)))))))).1
  have GU := (N' (lu, PySem.W.listOf us.toArray eu) (.tail _ (.tail _ (.tail _ (.tail _ (.tail _ (.tail _ (.head _)))))))).2.2
  dsimp only at GS GD GL GO GDO GLO GU
  try dsimp only
  refine wpAny_execs_cons (chain_ok (x := Str.ofString "op") (k := 12) rfl rfl (by decide) rfl 20 _ _ F'.ns fun tk => ?_)
  conv in chainS _ _ _ _ => whnf
  try dsimp only
  k_steps
  refine use_at (A := A3) (and_spec B' F'.keep OS GS GD GL OO GO GDO GLO nS.symm fun h2 dr2 tk2 S2 dx2 l2 md2 nS2 nd2' nl2 I2' => ?_) rfl (Nat.le_of_ble_eq_true rfl) rfl rfl (Nat.le_of_ble_eq_true rfl)
  obtain ⟨es2, ep2, t2, e2, F2, N2, f2, pv2, nd2, ne2⟩ := led_oset F' N' md2 nS2 nd2' nl2 I2'
  try show wpAny _ _ _ _ _ _
  k_steps
  have F3 := ‹Fr g' L _ _›
  have N3 := ‹News g' L _ _›
  exact hR _ _ _ _ _ _ _ (mod_all N (fun p hp => N3 p (.tail _ (.tail _ (.tail _ (.tail _ hp))))) (kM _ F3.keep)) (none_of sg (N3 _ (.head _)).2.2) (N3 _ (.head _)).1 (none_of st1 nS2) (none_of st1 nd2') (none_of st1 nl2) (os_at N3 (.tail _ (.head _)) (.tail _ (.tail _ (.head _))) (.tail _ (.tail _ (.tail _ (.head _)))) f2 pv2 nd2)
theorem done_13 {O dxo lo lu LL : Addr} {vs us : List Value} {eu : Nat} {env1 : Env} {oL : Obj} {i : Int} {uk ui : Tok} (B : Base w mg mb g) (stg : g.StaysIn s.heap) (I : OSet w s.heap S dx l ms) (gS : g.get? S = none) (gd : g.get? dx = none) (gl : g.get? l = none)
  (I2 : OSet w s.heap O dxo lo vs) (gO : g.get? O = none) (gdo : g.get? dxo = none) (glo : g.get? lo = none) (nS : S ≠ O) (nd' : dx ≠ dxo) (nl : l ≠ lo)
  (ou : s.heap.get? lu = some (PySem.W.listOf us.toArray eu)) (gu : g.get? lu = none) (nlu : lu ≠ l) (pu : ∀ v ∈ us, Pv v) (zu : us.length ≤ 100) (px : Pv x) (hi : -10 ≤ i ∧ i ≤ 10)
  (f1 : env1.frame = some LL) (k1 : env1.scope.kind ≠ .module) (p1 : s.heap.get? LL = some oL) (d1 : ∃ es ep, oL.data = .dict es ep) (g1 : g.get? LL = none) (fD : LL ≠ dx)
  (hR : ∀ h' dr tk T S' dx' l', Mod [] s.heap h' → g.get? T = none → h'.get? T = some (tupO [.ref S', .none]) → s.heap.get? S' = none → s.heap.get? dx' = none → s.heap.get? l' = none → OSet w h' S' dx' l' (ms.filter fun v => decide (¬ inL vs v)) → R (.ok (.ret (.ref T))) ⟨h', s.gens, dr, tk, s.os⟩) :
    codeAny (model PR w) (AD env1) (.call (.ref 271) ⟨[.ref S, .ref O, .int 13 uk, x, .ref lu, .int i ui], []⟩) R s := by
  obtain ⟨⟨es, ep, t, e, oS, od, ol, f⟩, pv, nd⟩ := I
  obtain ⟨⟨eso, epo, to, eo, oO, odo, olo, fo⟩, pvo, ndo⟩ := I2
  have N : Has g s.heap [(S, setO (.ref 232) (some dx) es ep t #[some (.ref l)]), (dx, dictE), (l, PySem.W.listOf ms.toArray e), (O, setO (.ref 232) (some dxo) eso epo to #[some (.ref lo)]), (dxo, dictE), (lo, PySem.W.listOf vs.toArray eo), (lu, PySem.W.listOf us.toArray eu), (LL, oL)] :=
    List.forall_mem_cons.mpr ⟨⟨oS, gS⟩, List.forall_mem_cons.mpr ⟨⟨od, gd⟩, List.forall_mem_cons.mpr ⟨⟨ol, gl⟩, List.forall_mem_cons.mpr ⟨⟨oO, gO⟩, List.forall_mem_cons.mpr ⟨⟨odo, gdo⟩, List.forall_mem_cons.mpr ⟨⟨olo, glo⟩, List.forall_mem_cons.mpr ⟨⟨ou, gu⟩, List.forall_mem_cons.mpr ⟨⟨p1, g1⟩, List.forall_mem_nil _⟩⟩⟩⟩⟩⟩⟩⟩
  refine enter_def B stg N (by k_is) (by k_is) (show 600 < recursionLimit by decide) (BindsTo.of_eq rfl) (locs rfl) ?_ rfl rfl rfl (by decide)
  intro g' L h₁ B' F' N' kM sg hid
  have X' := B'.K
  have T' := B'.T
  have m1 := mod_all N N' (kM _ F'.keep)
  have st1 : s.heap.StaysIn h₁ := fun b o e => m1 b o e (by simp)
  have OS : OSet w h₁ S dx l ms := os_at N' (.head _) (.tail _ (.head _)) (.tail _ (.tail _ (.head _))) f pv nd
  have OO : OSet w h₁ O dxo lo vs := os_at N' (.tail _ (.tail _ (.tail _ (.head _)))) (.tail _ (.tail _ (.tail _ (.tail _ (.head _))))) (.tail _ (.tail _ (.tail _ (.tail _ (.tail _ (.head _)))))) fo pvo ndo
  have GS := (N' _ (.head _)).2.2
  have GD := (N' _ (.tail _ (.head _))).2.2
  have GL := (N' _ (.tail _ (.tail _ (.head _)))).2.2
  have GO := (N' _ (.tail _ (.tail _ (.tail _ (.head _))))).2.2
  have GDO := (N' _ (.tail _ (.tail _ (.tail _ (.tail _ (.head _)))))).2.2
  have GLO := (N' _ (.tail _ (.tail _ (.tail _ (.tail _ (.tail _ (.head _))))))).2.2
  have OU := (N' (lu, PySem.W.listOf us.toArray eu) (.tail _ (.tail _ (.tail _ (.tail _ (.tail _ (.tail _ (.head _)))))))).1
  have GU := (N' (lu, PySem.W.listOf us.toArray eu) (.tail _ (.tail _ (.tail _ (.tail _ (.tail _ (.tail _ (.head _)))))))).2.2
  dsimp only at GS GD GL GO GDO GLO GU
  try dsimp only
  refine wpAny_execs_cons (chain_ok (x := Str.ofString "op") (k := 13) rfl rfl (by decide) rfl 20 _ _ F'.ns fun tk => ?_)
  conv in chainS _ _ _ _ => whnf
  try dsimp only
  k_steps
  refine use_at (A := A3) (sub_spec B' F'.keep OS GS GD GL OO GO GDO GLO nS.symm fun h2 dr2 tk2 S2 dx2 l2 md2 nS2 nd2' nl2 I2' => ?_) rfl (Nat.le_of_ble_eq_true rfl) rfl rfl (Nat.le_of_ble_eq_true rfl)
  obtain ⟨es2, ep2, t2, e2, F2, N2, f2, pv2, nd2, ne2⟩ := led_oset F' N' md2 nS2 nd2' nl2 I2'
  try show wpAny _ _ _ _ _ _
  k_steps
  have F3 := ‹Fr g' L _ _›
  have N3 := ‹News g' L _ _›
  exact hR _ _ _ _ _ _ _ (mod_all N (fun p hp => N3 p (.tail _ (.tail _ (.tail _ (.tail _ hp))))) (kM _ F3.keep)) (none_of sg (N3 _ (.head _)).2.2) (N3 _ (.head _)).1 (none_of st1 nS2) (none_of st1 nd2') (none_of st1 nl2) (os_at N3 (.tail _ (.head _)) (.tail _ (.tail _ (.head _))) (.tail _ (.tail _ (.tail _ (.head _)))) f2 pv2 nd2)
theorem done_14 {O dxo lo lu LL : Addr} {vs us : List Value} {eu : Nat} {env1 : Env} {oL : Obj} {i : Int} {uk ui : Tok} (B : Base w mg mb g) (stg : g.StaysIn s.heap) (I : OSet w s.heap S dx l ms) (gS : g.get? S = none) (gd : g.get? dx = none) (gl : g.get? l = none)
  (I2 : OSet w s.heap O dxo lo vs) (gO : g.get? O = none) (gdo : g.get? dxo = none) (glo : g.get? lo = none) (nS : S ≠ O) (nd' : dx ≠ dxo) (nl : l ≠ lo)
  (ou : s.heap.get? lu = some (PySem.W.listOf us.toArray eu)) (gu : g.get? lu = none) (nlu : lu ≠ l) (pu : ∀ v ∈ us, Pv v) (zu : us.length ≤ 100) (px : Pv x) (hi : -10 ≤ i ∧ i ≤ 10)
  (f1 : env1.frame = some LL) (k1 : env1.scope.kind ≠ .module) (p1 : s.heap.get? LL = some oL) (d1 : ∃ es ep, oL.data = .dict es ep) (g1 : g.get? LL = none) (fD : LL ≠ dx)
  (hR : ∀ h' dr tk T S' dx' l', Mod [] s.heap h' → g.get? T = none → h'.get? T = some (tupO [.ref S', .none]) → s.heap.get? S' = none → s.heap.get? dx' = none → s.heap.get? l' = none → OSet w h' S' dx' l' (addAll (ms.filter fun v => decide (¬ inL vs v)) (vs.filter fun v => decide (¬ inL ms v))) → R (.ok (.ret (.ref T))) ⟨h', s.gens, dr, tk, s.os⟩) :
    codeAny (model PR w) (AD env1) (.call (.ref 271) ⟨[.ref S, .ref O, .int 14 uk, x, .ref lu, .int i ui], []⟩) R s := by
  obtain ⟨⟨es, ep, t, e, oS, od, ol, f⟩, pv, nd⟩ := I
  obtain ⟨⟨eso, epo, to, eo, oO, odo, olo, fo⟩, pvo, ndo⟩ := I2
  have N : Has g s.heap [(S, setO (.ref 232) (some dx) es ep t #[some (.ref l)]), (dx, dictE), (l, PySem.W.listOf ms.toArray e), (O, setO (.ref 232) (some dxo) eso epo to #[some (.ref lo)]), (dxo, dictE), (lo, PySem.W.listOf vs.toArray eo), (lu, PySem.W.listOf us.toArray eu), (LL, oL)] :=
    List.forall_mem_cons.mpr ⟨⟨oS, gS⟩, List.forall_mem_cons.mpr ⟨⟨od, gd⟩, List.forall_mem_cons.mpr ⟨⟨ol, gl⟩, List.forall_mem_cons.mpr ⟨⟨oO, gO⟩, List.forall_mem_cons.mpr ⟨⟨odo, gdo⟩, List.forall_mem_cons.mpr ⟨⟨olo, glo⟩, List.forall_mem_cons.mpr ⟨⟨ou, gu⟩, List.forall_mem_cons.mpr ⟨⟨p1, g1⟩, List.forall_mem_nil _⟩⟩⟩⟩⟩⟩⟩⟩
  refine enter_def B stg N (by k_is) (by k_is) (show 600 < recursionLimit by decide) (BindsTo.of_eq rfl) (locs rfl) ?_ rfl rfl rfl (by decide)
  intro g' L h₁ B' F' N' kM sg hid
  have X' := B'.K
  have T' := B'.T
  have m1 := mod_all N N' (kM _ F'.keep)
  have st1 : s.heap.StaysIn h₁ := fun b o e => m1 b o e (by simp)
  have OS : OSet w h₁ S dx l ms := os_at N' (.head _) (.tail _ (.head _)) (.tail _ (.tail _ (.head _))) f pv nd
  have OO : OSet w h₁ O dxo lo vs := os_at N' (.tail _ (.tail _ (.tail _ (.head _)))) (.tail _ (.tail _ (.tail _ (.tail _ (.head _))))) (.tail _ (.tail _ (.tail _ (.tail _ (.tail _ (.head _)))))) fo pvo ndo
  have GS := (N' _ (.head _)).2.2
  have GD := (N' _ (.tail _ (.head _))).2.2
  have GL := (N' _ (.tail _ (.tail _ (.head _)))).2.2
  have GO := (N' _ (.tail _ (.tail _ (.tail _ (.head _))))).2.2
  have GDO := (N' _ (.tail _ (.tail _ (.tail _ (.tail _ (.head _)))))).2.2
  have GLO := (N' _ (.tail _ (.tail _ (.tail _ (.tail _ (.tail _ (.head _))))))).2.2
  have OU := (N' (lu, PySem.W.listOf us.toArray eu) (.tail _ (.tail _ (.tail _ (.tail _ (.tail _ (.tail _ (.head _)))))))).1
  have GU := (N' (lu, PySem.W.listOf us.toArray eu) (.tail _ (.tail _ (.tail _ (.tail _ (.tail _ (.tail _ (.head _)))))))).2.2
  dsimp only at GS GD GL GO GDO GLO GU
  try dsimp only
  refine wpAny_execs_cons (chain_ok (x := Str.ofString "op") (k := 14) rfl rfl (by decide) rfl 20 _ _ F'.ns fun tk => ?_)
  conv in chainS _ _ _ _ => whnf
  try dsimp only
  k_steps
  refine use_at (A := A3) (xor_spec B' F'.keep OS GS GD GL OO GO GDO GLO nS.symm fun h2 dr2 tk2 S2 dx2 l2 md2 nS2 nd2' nl2 I2' => ?_) rfl (Nat.le_of_ble_eq_true rfl) rfl rfl (Nat.le_of_ble_eq_true rfl)
  obtain ⟨es2, ep2, t2, e2, F2, N2, f2, pv2, nd2, ne2⟩ := led_oset F' N' md2 nS2 nd2' nl2 I2'
  try show wpAny _ _ _ _ _ _
  k_steps
  have F3 := ‹Fr g' L _ _›
  have N3 := ‹News g' L _ _›
  exact hR _ _ _ _ _ _ _ (mod_all N (fun p hp => N3 p (.tail _ (.tail _ (.tail _ (.tail _ hp))))) (kM _ F3.keep)) (none_of sg (N3 _ (.head _)).2.2) (N3 _ (.head _)).1 (none_of st1 nS2) (none_of st1 nd2') (none_of st1 nl2) (os_at N3 (.tail _ (.head _)) (.tail _ (.tail _ (.head _))) (.tail _ (.tail _ (.tail _ (.head _)))) f2 pv2 nd2)
end

end
/-! E9 -/
section
section
variable {w : World} {s : Shared} {mg mb : Str → Option Value} {g : Heap} {R : Result → Shared → Prop} {S dx l : Addr} {ms : List Value} {x : Value}
theorem done_15 {O dxo lo lu LL : Addr} {vs us : List Value} {eu : Nat} {env1 : Env} {oL : Obj} {i : Int} {uk ui : Tok} (B : Base w mg mb g) (stg : g.StaysIn s.heap) (I : OSet w s.heap S dx l ms) (gS : g.get? S = none) (gd : g.get? dx = none) (gl : g.get? l = none)
  (I2 : OSet w s.heap O dxo lo vs) (gO : g.get? O = none) (gdo : g.get? dxo = none) (glo : g.get? lo = none) (nS : S ≠ O) (nd' : dx ≠ dxo) (nl : l ≠ lo)
  (ou : s.heap.get? lu = some (PySem.W.listOf us.toArray eu)) (gu : g.get? lu = none) (nlu : lu ≠ l) (pu : ∀ v ∈ us, Pv v) (zu : us.length ≤ 100) (px : Pv x) (hi : -10 ≤ i ∧ i ≤ 10)
  (f1 : env1.frame = some LL) (k1 : env1.scope.kind ≠ .module) (p1 : s.heap.get? LL = some oL) (d1 : ∃ es ep, oL.data = .dict es ep) (g1 : g.get? LL = none) (fD : LL ≠ dx)
  (hR : ∀ h' dr tk T S' dx' l', Mod [] s.heap h' → g.get? T = none → h'.get? T = some (tupO [.ref S', .none]) → s.heap.get? S' = none → s.heap.get? dx' = none → s.heap.get? l' = none → OSet w h' S' dx' l' (addAll ms us) → R (.ok (.ret (.ref T))) ⟨h', s.gens, dr, tk, s.os⟩) :
    codeAny (model PR w) (AD env1) (.call (.ref 271) ⟨[.ref S, .ref O, .int 15 uk, x, .ref lu, .int i ui], []⟩) R s := by
  obtain ⟨⟨es, ep, t, e, oS, od, ol, f⟩, pv, nd⟩ := I
  obtain ⟨⟨eso, epo, to, eo, oO, odo, olo, fo⟩, pvo, ndo⟩ := I2
  have N : Has g s.heap [(S, setO (.ref 232) (some dx) es ep t #[some (.ref l)]), (dx, dictE), (l, PySem.W.listOf ms.toArray e), (O, setO (.ref 232) (some dxo) eso epo to #[some (.ref lo)]), (dxo, dictE), (lo, PySem.W.listOf vs.toArray eo), (lu, PySem.W.listOf us.toArray eu), (LL, oL)] :=
    List.forall_mem_cons.mpr ⟨⟨oS, gS⟩, List.forall_mem_cons.mpr ⟨⟨od, gd⟩, List.forall_mem_cons.mpr ⟨⟨ol, gl⟩, List.forall_mem_cons.mpr ⟨⟨oO, gO⟩, List.forall_mem_cons.mpr ⟨⟨odo, gdo⟩, List.forall_mem_cons.mpr ⟨⟨olo, glo⟩, List.forall_mem_cons.mpr ⟨⟨ou, gu⟩, List.forall_mem_cons.mpr ⟨⟨p1, g1⟩, List.forall_mem_nil _⟩⟩⟩⟩⟩⟩⟩⟩
  refine enter_def B stg N (by k_is) (by k_is) (show 600 < recursionLimit by decide) (BindsTo.of_eq rfl) (locs rfl) ?_ rfl rfl rfl (by decide)
  intro g' L h₁ B' F' N' kM sg hid
  have X' := B'.K
  have T' := B'.T
  have m1 := mod_all N N' (kM _ F'.keep)
  have st1 : s.heap.StaysIn h₁ := fun b o e => m1 b o e (by simp)
  have OS : OSet w h₁ S dx l ms := os_at N' (.head _) (.tail _ (.head _)) (.tail _ (.tail _ (.head _))) f pv nd
  have OO : OSet w h₁ O dxo lo vs := os_at N' (.tail _ (.tail _ (.tail _ (.head _)))) (.tail _ (.tail _ (.tail _ (.tail _ (.head _))))) (.tail _ (.tail _ (.tail _ (.tail _ (.tail _ (.head _)))))) fo pvo ndo
  have GS := (N' _ (.head _)).2.2
  have GD := (N' _ (.tail _ (.head _))).2.2
  have GL := (N' _ (.tail _ (.tail _ (.head _)))).2.2
  have GO := (N' _ (.tail _ (.tail _ (.tail _ (.head _))))).2.2
  have GDO := (N' _ (.tail _ (.tail _ (.tail _ (.tail _ (.head _)))))).2.2
  have GLO := (N' _ (.tail _ (.tail _ (.tail _ (.tail _ (.tail _ (.head _))))))).2.2
  have OU := (N' (lu, PySem.W.listOf us.toArray eu) (.tail _ (.tail _ (.tail _ (.tail _ (.tail _ (.tail _ (.head _)))))))).1
  have GU := (N' (lu, PySem.W.listOf us.toArray eu) (.tail _ (.tail _ (.tail _ (.tail _ (.tail _ (.tail _ (.head _)))))))).2.2
  dsimp only at GS GD GL GO GDO GLO GU
  try dsimp only
  refine wpAny_execs_cons (chain_ok (x := Str.ofString "op") (k := 15) rfl rfl (by decide) rfl 20 _ _ F'.ns fun tk => ?_)
  conv in chainS _ _ _ _ => whnf
  try dsimp only
  k_steps
  refine use_at (A := A2) (union1_spec B' F'.keep OS GS GD GL OU GU pu fun h2 tk2 S2 dx2 l2 md2 nS2 nd2' nl2 I2' => ?_) rfl (Nat.le_of_ble_eq_true rfl) rfl rfl (Nat.le_of_ble_eq_true rfl)
  obtain ⟨es2, ep2, t2, e2, F2, N2, f2, pv2, nd2, ne2⟩ := led_oset F' N' md2 nS2 nd2' nl2 I2'
  try show wpAny _ _ _ _ _ _
  k_steps
  have F3 := ‹Fr g' L _ _›
  have N3 := ‹News g' L _ _›
  exact hR _ _ _ _ _ _ _ (mod_all N (fun p hp => N3 p (.tail _ (.tail _ (.tail _ (.tail _ hp))))) (kM _ F3.keep)) (none_of sg (N3 _ (.head _)).2.2) (N3 _ (.head _)).1 (none_of st1 nS2) (none_of st1 nd2') (none_of st1 nl2) (os_at N3 (.tail _ (.head _)) (.tail _ (.tail _ (.head _))) (.tail _ (.tail _ (.tail _ (.head _)))) f2 pv2 nd2)
theorem done_16 {O dxo lo lu LL : Addr} {vs us : List Value} {eu : Nat} {env1 : Env} {oL : Obj} {i : Int} {uk ui : Tok} (B : Base w mg mb g) (stg : g.StaysIn s.heap) (I : OSet w s.heap S dx l ms) (gS : g.get? S = none) (gd : g.get? dx = none) (gl : g.get? l = none)
  (I2 : OSet w s.heap O dxo lo vs) (gO : g.get? O = none) (gdo : g.get? dxo = none) (glo : g.get? lo = none) (nS : S ≠ O) (nd' : dx ≠ dxo) (nl : l ≠ lo)
  (ou : s.heap.get? lu = some (PySem.W.listOf us.toArray eu)) (gu : g.get? lu = none) (nlu : lu ≠ l) (pu : ∀ v ∈ us, Pv v) (zu : us.length ≤ 100) (px : Pv x) (hi : -10 ≤ i ∧ i ≤ 10)
  (f1 : env1.frame = some LL) (k1 : env1.scope.kind ≠ .module) (p1 : s.heap.get? LL = some oL) (d1 : ∃ es ep, oL.data = .dict es ep) (g1 : g.get? LL = none) (fD : LL ≠ dx)
  (hR : ∀ h' dr tk T S' dx' l', Mod [] s.heap h' → g.get? T = none → h'.get? T = some (tupO [.ref S', .none]) → s.heap.get? S' = none → s.heap.get? dx' = none → s.heap.get? l' = none → OSet w h' S' dx' l' (ms.filter fun v => decide (inL us v)) → R (.ok (.ret (.ref T))) ⟨h', s.gens, dr, tk, s.os⟩) :
    codeAny (model PR w) (AD env1) (.call (.ref 271) ⟨[.ref S, .ref O, .int 16 uk, x, .ref lu, .int i ui], []⟩) R s := by
  obtain ⟨⟨es, ep, t, e, oS, od, ol, f⟩, pv, nd⟩ := I
  obtain ⟨⟨eso, epo, to, eo, oO, odo, olo, fo⟩, pvo, ndo⟩ := I2
  have N : Has g s.heap [(S, setO (.ref 232) (some dx) es ep t #[some (.ref l)]), (dx, dictE), (l, PySem.W.listOf ms.toArray e), (O, setO (.ref 232) (some dxo) eso epo to #[some (.ref lo)]), (dxo, dictE), (lo, PySem.W.listOf vs.toArray eo), (lu, PySem.W.listOf us.toArray eu), (LL, oL)] :=
    List.forall_mem_cons.mpr ⟨⟨oS, gS⟩, List.forall_mem_cons.mpr ⟨⟨od, gd⟩, List.forall_mem_cons.mpr ⟨⟨ol, gl⟩, List.forall_mem_cons.mpr ⟨⟨oO, gO⟩, List.forall_mem_cons.mpr ⟨⟨odo, gdo⟩, List.forall_mem_cons.mpr ⟨⟨olo, glo⟩, List.forall_mem_cons.mpr ⟨⟨ou, gu⟩, List.forall_mem_cons.mpr ⟨⟨p1, g1⟩, List.forall_mem_nil _⟩⟩⟩⟩⟩⟩⟩⟩
  refine enter_def B stg N (by k_is) (by k_is) (show 600 < recursionLimit by decide) (BindsTo.of_eq rfl) (locs rfl) ?_ rfl rfl rfl (by decide)
  intro g' L h₁ B' F' N' kM sg hid
  have X' := B'.K
  have T' := B'.T
  have m1 := mod_all N N' (kM _ F'.keep)
  have st1 : s.heap.StaysIn h₁ := fun b o e => m1 b o e (by simp)
  have OS : OSet w h₁ S dx l ms := os_at N' (.head _) (.tail _ (.head _)) (.tail _ (.tail _ (.head _))) f pv nd
  have OO : OSet w h₁ O dxo lo vs := os_at N' (.tail _ (.tail _ (.tail _ (.head _)))) (.tail _ (.tail _ (.tail _ (.tail _ (.head _))))) (.tail _ (.tail _ (.tail _ (.tail _ (.tail _ (.head _)))))) fo pvo ndo
  have GS := (N' _ (.head _)).2.2
  have GD := (N' _ (.tail _ (.head _))).2.2
  have GL := (N' _ (.tail _ (.tail _ (.head _)))).2.2
  have GO := (N' _ (.tail _ (.tail _ (.tail _ (.head _))))).2.2
  have GDO := (N' _ (.tail _ (.tail _ (.tail _ (.tail _ (.head _)))))).2.2
  have GLO := (N' _ (.tail _ (.tail _ (.tail _ (.tail _ (.tail _ (.head _))))))).2.2
  have OU := (N' (lu, PySem.W.listOf us.toArray eu) (.tail _ (.tail _ (.tail _ (.tail _ (.tail _ (.tail _ (.head _)))))))).1
  have GU := (N' (lu, PySem.W.listOf us.toArray eu) (.tail _ (.tail _ (.tail _ (.tail _ (.tail _ (.tail _ (.head _)))))))).2.2
  dsimp only at GS GD GL GO GDO GLO GU
  try dsimp only
  refine wpAny_execs_cons (chain_ok (x := Str.ofString "op") (k := 16) rfl rfl (by decide) rfl 20 _ _ F'.ns fun tk => ?_)
  conv in chainS _ _ _ _ => whnf
  try dsimp only
  k_steps
  refine use_at (A := A2) (inter1_spec B' F'.keep OS GS GD GL OU GU pu fun h2 dr2 tk2 S2 dx2 l2 md2 nS2 nd2' nl2 I2' => ?_) rfl (Nat.le_of_ble_eq_true rfl) rfl rfl (Nat.le_of_ble_eq_true rfl)
  obtain ⟨es2, ep2, t2, e2, F2, N2, f2, pv2, nd2, ne2⟩ := led_oset F' N' md2 nS2 nd2' nl2 I2'
  try show wpAny _ _ _ _ _ _
  k_steps
  have F3 := ‹Fr g' L _ _›
  have N3 := ‹News g' L _ _›
  exact hR _ _ _ _ _ _ _ (mod_all N (fun p hp => N3 p (.tail _ (.tail _ (.tail _ (.tail _ hp))))) (kM _ F3.keep)) (none_of sg (N3 _ (.head _)).2.2) (N3 _ (.head _)).1 (none_of st1 nS2) (none_of st1 nd2') (none_of st1 nl2) (os_at N3 (.tail _ (.head _)) (.tail _ (.tail _ (.head _))) (.tail _ (.tail _ (.tail _ (.head _)))) f2 pv2 nd2)
theorem done_17 {O dxo lo lu LL : Addr} {vs us : List Value} {eu : Nat} {env1 : Env} {oL : Obj} {i : Int} {uk ui : Tok} (B : Base w mg mb g) (stg : g.StaysIn s.heap) (I : OSet w s.heap S dx l ms) (gS : g.get? S = none) (gd : g.get? dx = none) (gl : g.get? l = none)
  (I2 : OSet w s.heap O dxo lo vs) (gO : g.get? O = none) (gdo : g.get? dxo = none) (glo : g.get? lo = none) (nS : S ≠ O) (nd' : dx ≠ dxo) (nl : l ≠ lo)
  (ou : s.heap.get? lu = some (PySem.W.listOf us.toArray eu)) (gu : g.get? lu = none) (nlu : lu ≠ l) (pu : ∀ v ∈ us, Pv v) (zu : us.length ≤ 100) (px : Pv x) (hi : -10 ≤ i ∧ i ≤ 10)
  (f1 : env1.frame = some LL) (k1 : env1.scope.kind ≠ .module) (p1 : s.heap.get? LL = some oL) (d1 : ∃ es ep, oL.data = .dict es ep) (g1 : g.get? LL = none) (fD : LL ≠ dx)
  (hR : ∀ h' dr tk T S' dx' l', Mod [] s.heap h' → g.get? T = none → h'.get? T = some (tupO [.ref S', .none]) → s.heap.get? S' = none → s.heap.get? dx' = none → s.heap.get? l' = none → OSet w h' S' dx' l' (addAll (ms.filter fun v => decide (¬ inL us v)) (us.filter fun v => decide (¬ inL ms v))) → R (.ok (.ret (.ref T))) ⟨h', s.gens, dr, tk, s.os⟩) :
    codeAny (model PR w) (AD env1) (.call (.ref 271) ⟨[.ref S, .ref O, .int 17 uk, x, .ref lu, .int i ui], []⟩) R s := by
  obtain ⟨⟨es, ep, t, e, oS, od, ol, f⟩, pv, nd⟩ := I
  obtain ⟨⟨eso, epo, to, eo, oO, odo, olo, fo⟩, pvo, ndo⟩ := I2
  have N : Has g s.heap [(S, setO (.ref 232) (some dx) es ep t #[some (.ref l)]), (dx, dictE), (l, PySem.W.listOf ms.toArray e), (O, setO (.ref 232) (some dxo) eso epo to #[some (.ref lo)]), (dxo, dictE), (lo, PySem.W.listOf vs.toArray eo), (lu, PySem.W.listOf us.toArray eu), (LL, oL)] :=
    List.forall_mem_cons.mpr ⟨⟨oS, gS⟩, List.forall_mem_cons.mpr ⟨⟨od, gd⟩, List.forall_mem_cons.mpr ⟨⟨ol, gl⟩, List.forall_mem_cons.mpr ⟨⟨oO, gO⟩, List.forall_mem_cons.mpr ⟨⟨odo, gdo⟩, List.forall_mem_cons.mpr ⟨⟨olo, glo⟩, List.forall_mem_cons.mpr ⟨⟨ou, gu⟩, List.forall_mem_cons.mpr ⟨⟨p1, g1⟩, List.forall_mem_nil _⟩⟩⟩⟩⟩⟩⟩⟩
  refine enter_def B stg N (by k_is) (by k_is) (show 600 < recursionLimit by decide) (BindsTo.of_eq rfl) (locs rfl) ?_ rfl rfl rfl (by decide)
  intro g' L h₁ B' F' N' kM sg hid
  have X' := B'.K
  have T' := B'.T
  have m1 := mod_all N N' (kM _ F'.keep)
  have st1 : s.heap.StaysIn h₁ := fun b o e => m1 b o e (by simp)
  have OS : OSet w h₁ S dx l ms := os_at N' (.head _) (.tail _ (.head _)) (.tail _ (.tail _ (.head _))) f pv nd
  have OO : OSet w h₁ O dxo lo vs := os_at N' (.tail _ (.tail _ (.tail _ (.head _)))) (.tail _ (.tail _ (.tail _ (.tail _ (.head _))))) (.tail _ (.tail _ (.tail _ (.tail _ (.tail _ (.head _)))))) fo pvo ndo
  have GS := (N' _ (.head _)).2.2
  have GD := (N' _ (.tail _ (.head _))).2.2
  have GL := (N' _ (.tail _ (.tail _ (.head _)))).2.2
  have GO := (N' _ (.tail _ (.tail _ (.tail _ (.head _))))).2.2
  have GDO := (N' _ (.tail _ (.tail _ (.tail _ (.tail _ (.head _)))))).2.2
  have GLO := (N' _ (.tail _ (.tail _ (.tail _ (.tail _ (.tail _ (.head _))))))).2.2
  have OU := (N' (lu, PySem.W.listOf us.toArray eu) (.tail _ (.tail _ (.tail _ (.tail _ (.tail _ (.tail _ (.head _)))))))).1
  have GU := (N' (lu, PySem.W.listOf us.toArray eu) (.tail _ (.tail _ (.tail _ (.tail _ (.tail _ (.tail _ (.head _)))))))).2.2
  dsimp only at GS GD GL GO GDO GLO GU
  try dsimp only
  refine wpAny_execs_cons (chain_ok (x := Str.ofString "op") (k := 17) rfl rfl (by decide) rfl 20 _ _ F'.ns fun tk => ?_)
  conv in chainS _ _ _ _ => whnf
  try dsimp only
  k_steps
  refine use_at (A := A2) (symm1_spec B' F'.keep OS GS GD GL OU GU pu (by omega) fun h2 dr2 tk2 S2 dx2 l2 md2 nS2 nd2' nl2 I2' => ?_) rfl (Nat.le_of_ble_eq_true rfl) rfl rfl (Nat.le_of_ble_eq_true rfl)
  obtain ⟨es2, ep2, t2, e2, F2, N2, f2, pv2, nd2, ne2⟩ := led_oset F' N' md2 nS2 nd2' nl2 I2'
  try show wpAny _ _ _ _ _ _
  k_steps
  have F3 := ‹Fr g' L _ _›
  have N3 := ‹News g' L _ _›
  exact hR _ _ _ _ _ _ _ (mod_all N (fun p hp => N3 p (.tail _ (.tail _ (.tail _ (.tail _ hp))))) (kM _ F3.keep)) (none_of sg (N3 _ (.head _)).2.2) (N3 _ (.head _)).1 (none_of st1 nS2) (none_of st1 nd2') (none_of st1 nl2) (os_at N3 (.tail _ (.head _)) (.tail _ (.tail _ (.head _))) (.tail _ (.tail _ (.tail _ (.head _)))) f2 pv2 nd2)
theorem done_18 {O dxo lo lu LL : Addr} {vs us : List Value} {eu : Nat} {env1 : Env} {oL : Obj} {i : Int} {uk ui : Tok} (B : Base w mg mb g) (stg : g.StaysIn s.heap) (I : OSet w s.heap S dx l ms) (gS : g.get? S = none) (gd : g.get? dx = none) (gl : g.get? l = none)
  (I2 : OSet w s.heap O dxo lo vs) (gO : g.get? O = none) (gdo : g.get? dxo = none) (glo : g.get? lo = none) (nS : S ≠ O) (nd' : dx ≠ dxo) (nl : l ≠ lo)
  (ou : s.heap.get? lu = some (PySem.W.listOf us.toArray eu)) (gu : g.get? lu = none) (nlu : lu ≠ l) (pu : ∀ v ∈ us, Pv v) (zu : us.length ≤ 100) (px : Pv x) (hi : -10 ≤ i ∧ i ≤ 10)
  (f1 : env1.frame = some LL) (k1 : env1.scope.kind ≠ .module) (p1 : s.heap.get? LL = some oL) (d1 : ∃ es ep, oL.data = .dict es ep) (g1 : g.get? LL = none) (fD : LL ≠ dx)
  (hR : ∀ h' dr tk T S' dx' l', Mod [] s.heap h' → g.get? T = none → h'.get? T = some (tupO [.ref S', .none]) → s.heap.get? S' = none → s.heap.get? dx' = none → s.heap.get? l' = none → OSet w h' S' dx' l' (ms) → R (.ok (.ret (.ref T))) ⟨h', s.gens, dr, tk, s.os⟩) :
    codeAny (model PR w) (AD env1) (.call (.ref 271) ⟨[.ref S, .ref O, .int 18 uk, x, .ref lu, .int i ui], []⟩) R s := by
  obtain ⟨⟨es, ep, t, e, oS, od, ol, f⟩, pv, nd⟩ := I
  obtain ⟨⟨eso, epo, to, eo, oO, odo, olo, fo⟩, pvo, ndo⟩ := I2
  have N : Has g s.heap [(S, setO (.ref 232) (some dx) es ep t #[some (.ref l)]), (dx, dictE), (l, PySem.W.listOf ms.toArray e), (O, setO (.ref 232) (some dxo) eso epo to #[some (.ref lo)]), (dxo, dictE), (lo, PySem.W.listOf vs.toArray eo), (lu, PySem.W.listOf us.toArray eu), (LL, oL)] :=
    List.forall_mem_cons.mpr ⟨⟨oS, gS⟩, List.forall_mem_cons.mpr ⟨⟨od, gd⟩, List.forall_mem_cons.mpr ⟨⟨ol, gl⟩, List.forall_mem_cons.mpr ⟨⟨oO, gO⟩, List.forall_mem_cons.mpr ⟨⟨odo, gdo⟩, List.forall_mem_cons.mpr ⟨⟨olo, glo⟩, List.forall_mem_cons.mpr ⟨⟨ou, gu⟩, List.forall_mem_cons.mpr ⟨⟨p1, g1⟩, List.forall_mem_nil _⟩⟩⟩⟩⟩⟩⟩⟩
  refine enter_def B stg N (by k_is) (by k_is) (show 600 < recursionLimit by decide) (BindsTo.of_eq rfl) (locs rfl) ?_ rfl rfl rfl (by decide)
  intro g' L h₁ B' F' N' kM sg hid
  have X' := B'.K
  have T' := B'.T
  have m1 := mod_all N N' (kM _ F'.keep)
  have st1 : s.heap.StaysIn h₁ := fun b o e => m1 b o e (by simp)
  have OS : OSet w h₁ S dx l ms := os_at N' (.head _) (.tail _ (.head _)) (.tail _ (.tail _ (.head _))) f pv nd
  have OO : OSet w h₁ O dxo lo vs := os_at N' (.tail _ (.tail _ (.tail _ (.head _)))) (.tail _ (.tail _ (.tail _ (.tail _ (.head _))))) (.tail _ (.tail _ (.tail _ (.tail _ (.tail _ (.head _)))))) fo pvo ndo
  have GS := (N' _ (.head _)).2.2
  have GD := (N' _ (.tail _ (.head _))).2.2
  have GL := (N' _ (.tail _ (.tail _ (.head _)))).2.2
  have GO := (N' _ (.tail _ (.tail _ (.tail _ (.head _))))).2.2
  have GDO := (N' _ (.tail _ (.tail _ (.tail _ (.tail _ (.head _)))))).2.2
  have GLO := (N' _ (.tail _ (.tail _ (.tail _ (.tail _ (.tail _ (.head _))))))).2.2
  have OU := (N' (lu, PySem.W.listOf us.toArray eu) (.tail _ (.tail _ (.tail _ (.tail _ (.tail _ (.tail _ (.head _)))))))).1
  have GU := (N' (lu, PySem.W.listOf us.toArray eu) (.tail _ (.tail _ (.tail _ (.tail _ (.tail _ (.tail _ (.head _)))))))).2.2
  dsimp only at GS GD GL GO GDO GLO GU
  try dsimp only
  refine wpAny_execs_cons (chain_ok (x := Str.ofString "op") (k := 18) rfl rfl (by decide) rfl 20 _ _ F'.ns fun tk => ?_)
  conv in chainS _ _ _ _ => whnf
  try dsimp only
  k_steps
  refine use_at (A := A2) (copy_spec B' F'.keep OS GS GD GL fun h2 tk2 S2 dx2 l2 md2 nS2 nd2' nl2 I2' => ?_) rfl (Nat.le_of_ble_eq_true rfl) rfl rfl (Nat.le_of_ble_eq_true rfl)
  obtain ⟨es2, ep2, t2, e2, F2, N2, f2, pv2, nd2, ne2⟩ := led_oset F' N' md2 nS2 nd2' nl2 I2'
  try show wpAny _ _ _ _ _ _
  k_steps
  have F3 := ‹Fr g' L _ _›
  have N3 := ‹News g' L _ _›
  exact hR _ _ _ _ _ _ _ (mod_all N (fun p hp => N3 p (.tail _ (.tail _ (.tail _ (.tail _ hp))))) (kM _ F3.keep)) (none_of sg (N3 _ (.head _)).2.2) (N3 _ (.head _)).1 (none_of st1 nS2) (none_of st1 nd2') (none_of st1 nl2) (os_at N3 (.tail _ (.head _)) (.tail _ (.tail _ (.head _))) (.tail _ (.tail _ (.tail _ (.head _)))) f2 pv2 nd2)
end

end
/-! E10 -/
section
section
variable {w : World} {s : Shared} {mg mb : Str → Option Value} {g : Heap} {R : Result → Shared → Prop} {S dx l : Addr} {ms : List Value} {x : Value}
theorem done_5a {O dxo lo lu LL : Addr} {vs us : List Value} {eu : Nat} {env1 : Env} {oL : Obj} {i : Int} {uk ui : Tok} (B : Base w mg mb g) (stg : g.StaysIn s.heap) (I : OSet w s.heap S dx l ms) (gS : g.get? S = none) (gd : g.get? dx = none) (gl : g.get? l = none)
  (I2 : OSet w s.heap O dxo lo vs) (gO : g.get? O = none) (gdo : g.get? dxo = none) (glo : g.get? lo = none) (nS : S ≠ O) (nd' : dx ≠ dxo) (nl : l ≠ lo)
  (ou : s.heap.get? lu = some (PySem.W.listOf us.toArray eu)) (gu : g.get? lu = none) (nlu : lu ≠ l) (pu : ∀ v ∈ us, Pv v) (zu : us.length ≤ 100) (px : Pv x) (hi : -10 ≤ i ∧ i ≤ 10)
  (f1 : env1.frame = some LL) (k1 : env1.scope.kind ≠ .module) (p1 : s.heap.get? LL = some oL) (d1 : ∃ es ep, oL.data = .dict es ep) (g1 : g.get? LL = none) (fD : LL ≠ dx) (hm : inL ms x)
  (hR : ∀ h' dr tk T l' v, ModF [LL] [S, dx, l] s.heap h' → g.get? T = none → h'.get? T = some (tupO [.ref S, v]) → (l' = l ∨ s.heap.get? l' = none) → OSet w h' S dx l' (remL ms x) → ExtAt g h' .no v → R (.ok (.ret (.ref T))) ⟨h', s.gens, dr, tk, s.os⟩) :
    codeAny (model PR w) (AD env1) (.call (.ref 271) ⟨[.ref S, .ref O, .int 5 uk, x, .ref lu, .int i ui], []⟩) R s := by
  obtain ⟨⟨es, ep, t, e, oS, od, ol, f⟩, pv, nd⟩ := I
  obtain ⟨⟨eso, epo, to, eo, oO, odo, olo, fo⟩, pvo, ndo⟩ := I2
  have N : Has g s.heap [(S, setO (.ref 232) (some dx) es ep t #[some (.ref l)]), (dx, dictE), (l, PySem.W.listOf ms.toArray e), (O, setO (.ref 232) (some dxo) eso epo to #[some (.ref lo)]), (dxo, dictE), (lo, PySem.W.listOf vs.toArray eo), (lu, PySem.W.listOf us.toArray eu), (LL, oL)] :=
    List.forall_mem_cons.mpr ⟨⟨oS, gS⟩, List.forall_mem_cons.mpr ⟨⟨od, gd⟩, List.forall_mem_cons.mpr ⟨⟨ol, gl⟩, List.forall_mem_cons.mpr ⟨⟨oO, gO⟩, List.forall_mem_cons.mpr ⟨⟨odo, gdo⟩, List.forall_mem_cons.mpr ⟨⟨olo, glo⟩, List.forall_mem_cons.mpr ⟨⟨ou, gu⟩, List.forall_mem_cons.mpr ⟨⟨p1, g1⟩, List.forall_mem_nil _⟩⟩⟩⟩⟩⟩⟩⟩
  refine enter_def B stg N (by k_is) (by k_is) (show 600 < recursionLimit by decide) (BindsTo.of_eq rfl) (locs rfl) ?_ rfl rfl rfl (by decide)
  intro g' L h₁ B' F' N' kM sg hid
  have X' := B'.K
  have T' := B'.T
  have m1 := mod_all N N' (kM _ F'.keep)
  have st1 : s.heap.StaysIn h₁ := fun b o e => m1 b o e (by simp)
  have OS : OSet w h₁ S dx l ms := os_at N' (.head _) (.tail _ (.head _)) (.tail _ (.tail _ (.head _))) f pv nd
  have OO : OSet w h₁ O dxo lo vs := os_at N' (.tail _ (.tail _ (.tail _ (.head _)))) (.tail _ (.tail _ (.tail _ (.tail _ (.head _))))) (.tail _ (.tail _ (.tail _ (.tail _ (.tail _ (.head _)))))) fo pvo ndo
  have GS := (N' _ (.head _)).2.2
  have GD := (N' _ (.tail _ (.head _))).2.2
  have GL := (N' _ (.tail _ (.tail _ (.head _)))).2.2
  have GO := (N' _ (.tail _ (.tail _ (.tail _ (.head _))))).2.2
  have GDO := (N' _ (.tail _ (.tail _ (.tail _ (.tail _ (.head _)))))).2.2
  have GLO := (N' _ (.tail _ (.tail _ (.tail _ (.tail _ (.tail _ (.head _))))))).2.2
  have OU := (N' (lu, PySem.W.listOf us.toArray eu) (.tail _ (.tail _ (.tail _ (.tail _ (.tail _ (.tail _ (.head _)))))))).1
  have GU := (N' (lu, PySem.W.listOf us.toArray eu) (.tail _ (.tail _ (.tail _ (.tail _ (.tail _ (.tail _ (.head _)))))))).2.2
  dsimp only at GS GD GL GO GDO GLO GU
  try dsimp only
  have ap : ∀ p ∈ [(O, setO (.ref 232) (some dxo) eso epo to #[some (.ref lo)]), (dxo, dictE), (lo, PySem.W.listOf vs.toArray eo), (lu, PySem.W.listOf us.toArray eu), (LL, oL)], p.1 ≠ S ∧ p.1 ≠ dx ∧ p.1 ≠ l := by
    have a0 : tupO [] ≠ oL := tup_ne_dict d1
    intro p hp
    simp only [List.mem_cons, List.not_mem_nil, or_false] at hp
    rcases hp with rfl | rfl | rfl | rfl | rfl
    · exact ⟨nS.symm, neObj oO od set_ne_dict, neObj oO ol set_ne_list⟩
    · exact ⟨(neObj oS odo set_ne_dict).symm, nd'.symm, neObj odo ol dict_ne_list⟩
    · exact ⟨(neObj oS olo set_ne_list).symm, (neObj od olo dict_ne_list).symm, nl.symm⟩
    · exact ⟨(neObj oS ou set_ne_list).symm, (neObj od ou dict_ne_list).symm, nlu⟩
    · exact ⟨(neObj oS p1 (ne_frame_set d1)).symm, fun q => fD q, (neObj ol p1 (ne_frame_list d1)).symm⟩
  refine wpAny_execs_cons (chain_ok (x := Str.ofString "op") (k := 5) rfl rfl (by decide) rfl 20 _ _ F'.ns fun tk => ?_)
  conv in chainS _ _ _ _ => whnf
  try dsimp only
  k_steps
  refine use_at (A := A1) (remove_spec B' F'.keep OS GS GD GL px hm fun h2 tk2 md2 I2' => ?_) rfl (Nat.le_of_ble_eq_true rfl) rfl rfl (Nat.le_of_ble_eq_true rfl)
  obtain ⟨es2, ep2, t2, e2, F2, N2, f2, pv2, nd2⟩ := led_inp F' N' ap md2 (.inl rfl) I2'
  try show wpAny _ _ _ _ _ _
  k_steps
  have F3 := ‹Fr g' L _ _›
  have N3 := ‹News g' L _ _›
  refine hR _ _ _ _ _ _ (Mod.toF (modR (rest := [(O, setO (.ref 232) (some dxo) eso epo to #[some (.ref lo)]), (dxo, dictE), (lo, PySem.W.listOf vs.toArray eo), (lu, PySem.W.listOf us.toArray eu), (LL, oL)]) (kM _ F3.keep) fun p hp => ⟨(N p (.tail _ (.tail _ (.tail _ hp)))).1, (N3 p (.tail _ (.tail _ (.tail _ (.tail _ hp))))).1⟩)) (none_of sg (N3 _ (.head _)).2.2) (N3 _ (.head _)).1 (.inl rfl) (os_at N3 (.tail _ (.head _)) (.tail _ (.tail _ (.head _))) (.tail _ (.tail _ (.tail _ (.head _)))) f2 pv2 nd2) rfl
theorem done_6a {O dxo lo lu LL : Addr} {vs us : List Value} {eu : Nat} {env1 : Env} {oL : Obj} {i : Int} {uk ui : Tok} (B : Base w mg mb g) (stg : g.StaysIn s.heap) (I : OSet w s.heap S dx l ms) (gS : g.get? S = none) (gd : g.get? dx = none) (gl : g.get? l = none)
  (I2 : OSet w s.heap O dxo lo vs) (gO : g.get? O = none) (gdo : g.get? dxo = none) (glo : g.get? lo = none) (nS : S ≠ O) (nd' : dx ≠ dxo) (nl : l ≠ lo)
  (ou : s.heap.get? lu = some (PySem.W.listOf us.toArray eu)) (gu : g.get? lu = none) (nlu : lu ≠ l) (pu : ∀ v ∈ us, Pv v) (zu : us.length ≤ 100) (px : Pv x) (hi : -10 ≤ i ∧ i ≤ 10)
  (f1 : env1.frame = some LL) (k1 : env1.scope.kind ≠ .module) (p1 : s.heap.get? LL = some oL) (d1 : ∃ es ep, oL.data = .dict es ep) (g1 : g.get? LL = none) (fD : LL ≠ dx) {v0 : Value} {ns : List Value} (hms : ms = ns ++ [v0])
  (hR : ∀ h' dr tk T l' v, ModF [LL] [S, dx, l] s.heap h' → g.get? T = none → h'.get? T = some (tupO [.ref S, v]) → (l' = l ∨ s.heap.get? l' = none) → OSet w h' S dx l' (ns) → ExtAt g h' (.one v0) v → R (.ok (.ret (.ref T))) ⟨h', s.gens, dr, tk, s.os⟩) :
    codeAny (model PR w) (AD env1) (.call (.ref 271) ⟨[.ref S, .ref O, .int 6 uk, x, .ref lu, .int i ui], []⟩) R s := by
  obtain ⟨⟨es, ep, t, e, oS, od, ol, f⟩, pv, nd⟩ := I
  obtain ⟨⟨eso, epo, to, eo, oO, odo, olo, fo⟩, pvo, ndo⟩ := I2
  have N : Has g s.heap [(S, setO (.ref 232) (some dx) es ep t #[some (.ref l)]), (dx, dictE), (l, PySem.W.listOf ms.toArray e), (O, setO (.ref 232) (some dxo) eso epo to #[some (.ref lo)]), (dxo, dictE), (lo, PySem.W.listOf vs.toArray eo), (lu, PySem.W.listOf us.toArray eu), (LL, oL)] :=
    List.forall_mem_cons.mpr ⟨⟨oS, gS⟩, List.forall_mem_cons.mpr ⟨⟨od, gd⟩, List.forall_mem_cons.mpr ⟨⟨ol, gl⟩, List.forall_mem_cons.mpr ⟨⟨oO, gO⟩, List.forall_mem_cons.mpr ⟨⟨odo, gdo⟩, List.forall_mem_cons.mpr ⟨⟨olo, glo⟩, List.forall_mem_cons.mpr ⟨⟨ou, gu⟩, List.forall_mem_cons.mpr ⟨⟨p1, g1⟩, List.forall_mem_nil _⟩⟩⟩⟩⟩⟩⟩⟩
  refine enter_def B stg N (by k_is) (by k_is) (show 600 < recursionLimit by decide) (BindsTo.of_eq rfl) (locs rfl) ?_ rfl rfl rfl (by decide)
  intro g' L h₁ B' F' N' kM sg hid
  have X' := B'.K
  have T' := B'.T
  have m1 := mod_all N N' (kM _ F'.keep)
  have st1 : s.heap.StaysIn h₁ := fun b o e => m1 b o e (by simp)
  have OS : OSet w h₁ S dx l ms := os_at N' (.head _) (.tail _ (.head _)) (.tail _ (.tail _ (.head _))) f pv nd
  have OO : OSet w h₁ O dxo lo vs := os_at N' (.tail _ (.tail _ (.tail _ (.head _)))) (.tail _ (.tail _ (.tail _ (.tail _ (.head _))))) (.tail _ (.tail _ (.tail _ (.tail _ (.tail _ (.head _)))))) fo pvo ndo
  have GS := (N' _ (.head _)).2.2
  have GD := (N' _ (.tail _ (.head _))).2.2
  have GL := (N' _ (.tail _ (.tail _ (.head _)))).2.2
  have GO := (N' _ (.tail _ (.tail _ (.tail _ (.head _))))).2.2
  have GDO := (N' _ (.tail _ (.tail _ (.tail _ (.tail _ (.head _)))))).2.2
  have GLO := (N' _ (.tail _ (.tail _ (.tail _ (.tail _ (.tail _ (.head _))))))).2.2
  have OU := (N' (lu, PySem.W.listOf us.toArray eu) (.tail _ (.tail _ (.tail _ (.tail _ (.tail _ (.tail _ (.head _)))))))).1
  have GU := (N' (lu, PySem.W.listOf us.toArray eu) (.tail _ (.tail _ (.tail _ (.tail _ (.tail _ (.tail _ (.head _)))))))).2.2
  dsimp only at GS GD GL GO GDO GLO GU
  try dsimp only
  have ap : ∀ p ∈ [(O, setO (.ref 232) (some dxo) eso epo to #[some (.ref lo)]), (dxo, dictE), (lo, PySem.W.listOf vs.toArray eo), (lu, PySem.W.listOf us.toArray eu), (LL, oL)], p.1 ≠ S ∧ p.1 ≠ dx ∧ p.1 ≠ l := by
    have a0 : tupO [] ≠ oL := tup_ne_dict d1
    intro p hp
    simp only [List.mem_cons, List.not_mem_nil, or_false] at hp
    rcases hp with rfl | rfl | rfl | rfl | rfl
    · exact ⟨nS.symm, neObj oO od set_ne_dict, neObj oO ol set_ne_list⟩
    · exact ⟨(neObj oS odo set_ne_dict).symm, nd'.symm, neObj odo ol dict_ne_list⟩
    · exact ⟨(neObj oS olo set_ne_list).symm, (neObj od olo dict_ne_list).symm, nl.symm⟩
    · exact ⟨(neObj oS ou set_ne_list).symm, (neObj od ou dict_ne_list).symm, nlu⟩
    · exact ⟨(neObj oS p1 (ne_frame_set d1)).symm, fun q => fD q, (neObj ol p1 (ne_frame_list d1)).symm⟩
  refine wpAny_execs_cons (chain_ok (x := Str.ofString "op") (k := 6) rfl rfl (by decide) rfl 20 _ _ F'.ns fun tk => ?_)
  conv in chainS _ _ _ _ => whnf
  try dsimp only
  k_steps
  refine use_at (A := A1) (pop_spec B' (by exact F'.keep) (by exact OS) GS GD GL hms fun h2 tk2 md2 I2' => ?_) rfl (Nat.le_of_ble_eq_true rfl) rfl rfl (Nat.le_of_ble_eq_true rfl)
  obtain ⟨es2, ep2, t2, e2, F2, N2, f2, pv2, nd2⟩ := led_inp F' N' ap md2 (.inl rfl) I2'
  try show wpAny _ _ _ _ _ _
  k_steps
  have F3 := ‹Fr g' L _ _›
  have N3 := ‹News g' L _ _›
  refine hR _ _ _ _ _ _ (Mod.toF (modR (rest := [(O, setO (.ref 232) (some dxo) eso epo to #[some (.ref lo)]), (dxo, dictE), (lo, PySem.W.listOf vs.toArray eo), (lu, PySem.W.listOf us.toArray eu), (LL, oL)]) (kM _ F3.keep) fun p hp => ⟨(N p (.tail _ (.tail _ (.tail _ hp)))).1, (N3 p (.tail _ (.tail _ (.tail _ (.tail _ (.tail _ hp)))))).1⟩)) (none_of sg (N3 _ (.head _)).2.2) (N3 _ (.head _)).1 (.inl rfl) (os_at N3 (.tail _ (.tail _ (.head _))) (.tail _ (.tail _ (.tail _ (.head _)))) (.tail _ (.tail _ (.tail _ (.tail _ (.head _))))) f2 pv2 nd2) ⟨_, 0, rfl, none_of sg (N3 _ (.tail _ (.head _))).2.2, (N3 _ (.tail _ (.head _))).1⟩
theorem done_10 {O dxo lo lu LL : Addr} {vs us : List Value} {eu : Nat} {env1 : Env} {oL : Obj} {i : Int} {uk ui : Tok} (B : Base w mg mb g) (stg : g.StaysIn s.heap) (I : OSet w s.heap S dx l ms) (gS : g.get? S = none) (gd : g.get? dx = none) (gl : g.get? l = none)
  (I2 : OSet w s.heap O dxo lo vs) (gO : g.get? O = none) (gdo : g.get? dxo = none) (glo : g.get? lo = none) (nS : S ≠ O) (nd' : dx ≠ dxo) (nl : l ≠ lo)
  (ou : s.heap.get? lu = some (PySem.W.listOf us.toArray eu)) (gu : g.get? lu = none) (nlu : lu ≠ l) (pu : ∀ v ∈ us, Pv v) (zu : us.length ≤ 100) (px : Pv x) (hi : -10 ≤ i ∧ i ≤ 10)
  (f1 : env1.frame = some LL) (k1 : env1.scope.kind ≠ .module) (p1 : s.heap.get? LL = some oL) (d1 : ∃ es ep, oL.data = .dict es ep) (g1 : g.get? LL = none) (fD : LL ≠ dx)
  (hR : ∀ h' dr tk T l' v, ModF [LL] [S, dx, l] s.heap h' → g.get? T = none → h'.get? T = some (tupO [.ref S, v]) → (l' = l ∨ s.heap.get? l' = none) → OSet w h' S dx l' ((ms.filter fun v => decide (¬ inL (addAll [] us) v)) ++ (addAll [] us).filter fun v => decide (¬ inL ms v)) → ExtAt g h' .no v → R (.ok (.ret (.ref T))) ⟨h', s.gens, dr, tk, s.os⟩) :
    codeAny (model PR w) (AD env1) (.call (.ref 271) ⟨[.ref S, .ref O, .int 10 uk, x, .ref lu, .int i ui], []⟩) R s := by
  obtain ⟨⟨es, ep, t, e, oS, od, ol, f⟩, pv, nd⟩ := I
  obtain ⟨⟨eso, epo, to, eo, oO, odo, olo, fo⟩, pvo, ndo⟩ := I2
  have N : Has g s.heap [(S, setO (.ref 232) (some dx) es ep t #[some (.ref l)]), (dx, dictE), (l, PySem.W.listOf ms.toArray e), (O, setO (.ref 232) (some dxo) eso epo to #[some (.ref lo)]), (dxo, dictE), (lo, PySem.W.listOf vs.toArray eo), (lu, PySem.W.listOf us.toArray eu), (LL, oL)] :=
    List.forall_mem_cons.mpr ⟨⟨oS, gS⟩, List.forall_mem_cons.mpr ⟨⟨od, gd⟩, List.forall_mem_cons.mpr ⟨⟨ol, gl⟩, List.forall_mem_cons.mpr ⟨⟨oO, gO⟩, List.forall_mem_cons.mpr ⟨⟨odo, gdo⟩, List.forall_mem_cons.mpr ⟨⟨olo, glo⟩, List.forall_mem_cons.mpr ⟨⟨ou, gu⟩, List.forall_mem_cons.mpr ⟨⟨p1, g1⟩, List.forall_mem_nil _⟩⟩⟩⟩⟩⟩⟩⟩
  refine enter_def B stg N (by k_is) (by k_is) (show 600 < recursionLimit by decide) (BindsTo.of_eq rfl) (locs rfl) ?_ rfl rfl rfl (by decide)
  intro g' L h₁ B' F' N' kM sg hid
  have X' := B'.K
  have T' := B'.T
  have m1 := mod_all N N' (kM _ F'.keep)
  have st1 : s.heap.StaysIn h₁ := fun b o e => m1 b o e (by simp)
  have OS : OSet w h₁ S dx l ms := os_at N' (.head _) (.tail _ (.head _)) (.tail _ (.tail _ (.head _))) f pv nd
  have OO : OSet w h₁ O dxo lo vs := os_at N' (.tail _ (.tail _ (.tail _ (.head _)))) (.tail _ (.tail _ (.tail _ (.tail _ (.head _))))) (.tail _ (.tail _ (.tail _ (.tail _ (.tail _ (.head _)))))) fo pvo ndo
  have GS := (N' _ (.head _)).2.2
  have GD := (N' _ (.tail _ (.head _))).2.2
  have GL := (N' _ (.tail _ (.tail _ (.head _)))).2.2
  have GO := (N' _ (.tail _ (.tail _ (.tail _ (.head _))))).2.2
  have GDO := (N' _ (.tail _ (.tail _ (.tail _ (.tail _ (.head _)))))).2.2
  have GLO := (N' _ (.tail _ (.tail _ (.tail _ (.tail _ (.tail _ (.head _))))))).2.2
  have OU := (N' (lu, PySem.W.listOf us.toArray eu) (.tail _ (.tail _ (.tail _ (.tail _ (.tail _ (.tail _ (.head _)))))))).1
  have GU := (N' (lu, PySem.W.listOf us.toArray eu) (.tail _ (.tail _ (.tail _ (.tail _ (.tail _ (.tail _ (.head _)))))))).2.2
  dsimp only at GS GD GL GO GDO GLO GU
  try dsimp only
  have ap : ∀ p ∈ [(O, setO (.ref 232) (some dxo) eso epo to #[some (.ref lo)]), (dxo, dictE), (lo, PySem.W.listOf vs.toArray eo), (lu, PySem.W.listOf us.toArray eu), (LL, oL)], p.1 ≠ S ∧ p.1 ≠ dx ∧ p.1 ≠ l := by
    have a0 : tupO [] ≠ oL := tup_ne_dict d1
    intro p hp
    simp only [List.mem_cons, List.not_mem_nil, or_false] at hp
    rcases hp with rfl | rfl | rfl | rfl | rfl
    · exact ⟨nS.symm, neObj oO od set_ne_dict, neObj oO ol set_ne_list⟩
    · exact ⟨(neObj oS odo set_ne_dict).symm, nd'.symm, neObj odo ol dict_ne_list⟩
    · exact ⟨(neObj oS olo set_ne_list).symm, (neObj od olo dict_ne_list).symm, nl.symm⟩
    · exact ⟨(neObj oS ou set_ne_list).symm, (neObj od ou dict_ne_list).symm, nlu⟩
    · exact ⟨(neObj oS p1 (ne_frame_set d1)).symm, fun q => fD q, (neObj ol p1 (ne_frame_list d1)).symm⟩
  refine wpAny_execs_cons (chain_ok (x := Str.ofString "op") (k := 10) rfl rfl (by decide) rfl 20 _ _ F'.ns fun tk => ?_)
  conv in chainS _ _ _ _ => whnf
  try dsimp only
  k_steps
  rename_i D h2a tka ea FD ND nD
  have NB : News g' L h2a [(S, setO (.ref 232) (some dx) es ep t #[some (.ref l)]), (dx, dictE), (l, PySem.W.listOf ms.toArray e), (O, setO (.ref 232) (some dxo) eso epo to #[some (.ref lo)]), (dxo, dictE), (lo, PySem.W.listOf vs.toArray eo), (lu, PySem.W.listOf us.toArray eu), (LL, oL)] := fun p hp => ND p (.tail _ hp)
  have OSD : OSet w h2a S dx l ms := os_at NB (.head _) (.tail _ (.head _)) (.tail _ (.tail _ (.head _))) f pv nd
  have m2 := mod_all N NB (kM _ FD.keep)
  have st2 : s.heap.StaysIn h2a := fun b o e => m2 b o e (by simp)
  refine use_at (A := A2) (symmU1_spec B' (by exact FD.keep) (by exact OSD) GS GD GL (ND (D, PySem.W.listOf (addAll [] us).toArray ea) (.head _)).1 (ND (D, PySem.W.listOf (addAll [] us).toArray ea) (.head _)).2.2 (pv_addAll0 pu) (nd_addAll (by simp)) (Ne.symm (nD (l, PySem.W.listOf ms.toArray e) (.tail _ (.tail _ (.head _))))) fun h2 dr2 tk2 l2 md2 nl2 I2' => ?_) rfl (Nat.le_of_ble_eq_true rfl) rfl rfl (Nat.le_of_ble_eq_true rfl)
  obtain ⟨es2, ep2, t2, e2, F2, N2, f2, pv2, nd2⟩ := led_inp FD NB ap md2 (.inr nl2) I2'
  clear ND
  try show wpAny _ _ _ _ _ _
  k_steps
  have F3 := ‹Fr g' L _ _›
  have N3 := ‹News g' L _ _›
  refine hR _ _ _ _ _ _ (Mod.toF (modR (rest := [(O, setO (.ref 232) (some dxo) eso epo to #[some (.ref lo)]), (dxo, dictE), (lo, PySem.W.listOf vs.toArray eo), (lu, PySem.W.listOf us.toArray eu), (LL, oL)]) (kM _ F3.keep) fun p hp => ⟨(N p (.tail _ (.tail _ (.tail _ hp)))).1, (N3 p (.tail _ (.tail _ (.tail _ (.tail _ hp))))).1⟩)) (none_of sg (N3 _ (.head _)).2.2) (N3 _ (.head _)).1 (.inr (none_of st2 nl2)) (os_at N3 (.tail _ (.head _)) (.tail _ (.tail _ (.head _))) (.tail _ (.tail _ (.tail _ (.head _)))) f2 pv2 nd2) rfl
theorem done_19 {O dxo lo lu LL : Addr} {vs us : List Value} {eu : Nat} {env1 : Env} {oL : Obj} {i : Int} {uk ui : Tok} (B : Base w mg mb g) (stg : g.StaysIn s.heap) (I : OSet w s.heap S dx l ms) (gS : g.get? S = none) (gd : g.get? dx = none) (gl : g.get? l = none)
  (I2 : OSet w s.heap O dxo lo vs) (gO : g.get? O = none) (gdo : g.get? dxo = none) (glo : g.get? lo = none) (nS : S ≠ O) (nd' : dx ≠ dxo) (nl : l ≠ lo)
  (ou : s.heap.get? lu = some (PySem.W.listOf us.toArray eu)) (gu : g.get? lu = none) (nlu : lu ≠ l) (pu : ∀ v ∈ us, Pv v) (zu : us.length ≤ 100) (px : Pv x) (hi : -10 ≤ i ∧ i ≤ 10)
  (f1 : env1.frame = some LL) (k1 : env1.scope.kind ≠ .module) (p1 : s.heap.get? LL = some oL) (d1 : ∃ es ep, oL.data = .dict es ep) (g1 : g.get? LL = none) (fD : LL ≠ dx)
  (hR : ∀ h' dr tk T S' dx' l', Mod [] s.heap h' → g.get? T = none → h'.get? T = some (tupO [.ref S', .none]) → s.heap.get? S' = none → s.heap.get? dx' = none → s.heap.get? l' = none → OSet w h' S' dx' l' (addAll [] us) → R (.ok (.ret (.ref T))) ⟨h', s.gens, dr, tk, s.os⟩) :
    codeAny (model PR w) (AD env1) (.call (.ref 271) ⟨[.ref S, .ref O, .int 19 uk, x, .ref lu, .int i ui], []⟩) R s := by
  obtain ⟨⟨es, ep, t, e, oS, od, ol, f⟩, pv, nd⟩ := I
  obtain ⟨⟨eso, epo, to, eo, oO, odo, olo, fo⟩, pvo, ndo⟩ := I2
  have N : Has g s.heap [(S, setO (.ref 232) (some dx) es ep t #[some (.ref l)]), (dx, dictE), (l, PySem.W.listOf ms.toArray e), (O, setO (.ref 232) (some dxo) eso epo to #[some (.ref lo)]), (dxo, dictE), (lo, PySem.W.listOf vs.toArray eo), (lu, PySem.W.listOf us.toArray eu), (LL, oL)] :=
    List.forall_mem_cons.mpr ⟨⟨oS, gS⟩, List.forall_mem_cons.mpr ⟨⟨od, gd⟩, List.forall_mem_cons.mpr ⟨⟨ol, gl⟩, List.forall_mem_cons.mpr ⟨⟨oO, gO⟩, List.forall_mem_cons.mpr ⟨⟨odo, gdo⟩, List.forall_mem_cons.mpr ⟨⟨olo, glo⟩, List.forall_mem_cons.mpr ⟨⟨ou, gu⟩, List.forall_mem_cons.mpr ⟨⟨p1, g1⟩, List.forall_mem_nil _⟩⟩⟩⟩⟩⟩⟩⟩
  refine enter_def B stg N (by k_is) (by k_is) (show 600 < recursionLimit by decide) (BindsTo.of_eq rfl) (locs rfl) ?_ rfl rfl rfl (by decide)
  intro g' L h₁ B' F' N' kM sg hid
  have X' := B'.K
  have T' := B'.T
  have m1 := mod_all N N' (kM _ F'.keep)
  have st1 : s.heap.StaysIn h₁ := fun b o e => m1 b o e (by simp)
  have OS : OSet w h₁ S dx l ms := os_at N' (.head _) (.tail _ (.head _)) (.tail _ (.tail _ (.head _))) f pv nd
  have OO : OSet w h₁ O dxo lo vs := os_at N' (.tail _ (.tail _ (.tail _ (.head _)))) (.tail _ (.tail _ (.tail _ (.tail _ (.head _))))) (.tail _ (.tail _ (.tail _ (.tail _ (.tail _ (.head _)))))) fo pvo ndo
  have GS := (N' _ (.head _)).2.2
  have GD := (N' _ (.tail _ (.head _))).2.2
  have GL := (N' _ (.tail _ (.tail _ (.head _)))).2.2
  have GO := (N' _ (.tail _ (.tail _ (.tail _ (.head _))))).2.2
  have GDO := (N' _ (.tail _ (.tail _ (.tail _ (.tail _ (.head _)))))).2.2
  have GLO := (N' _ (.tail _ (.tail _ (.tail _ (.tail _ (.tail _ (.head _))))))).2.2
  have OU := (N' (lu, PySem.W.listOf us.toArray eu) (.tail _ (.tail _ (.tail _ (.tail _ (.tail _ (.tail _ (.head _)))))))).1
  have GU := (N' (lu, PySem.W.listOf us.toArray eu) (.tail _ (.tail _ (.tail _ (.tail _ (.tail _ (.tail _ (.head _)))))))).2.2
  dsimp only at GS GD GL GO GDO GLO GU
  try dsimp only
  refine wpAny_execs_cons (chain_ok (x := Str.ofString "op") (k := 19) rfl rfl (by decide) rfl 20 _ _ F'.ns fun tk => ?_)
  conv in chainS _ _ _ _ => whnf
  try dsimp only
  k_steps
  refine make_spec (rowList w lu us) (fun h q => listAt q) B' F'.keep OU GU pu (fun _ _ _ _ _ _ => set_ne_list) rfl (Nat.le_of_ble_eq_true rfl) (Nat.le_of_ble_eq_true rfl) fun h2 tk2 S2 dx2 l2 md2 nS2 nd2' nl2 I2' => ?_
  obtain ⟨es2, ep2, t2, e2, F2, N2, f2, pv2, nd2, ne2⟩ := led_oset F' N' md2 nS2 nd2' nl2 I2'
  try show wpAny _ _ _ _ _ _
  k_steps
  have F3 := ‹Fr g' L _ _›
  have N3 := ‹News g' L _ _›
  exact hR _ _ _ _ _ _ _ (mod_all N (fun p hp => N3 p (.tail _ (.tail _ (.tail _ (.tail _ hp))))) (kM _ F3.keep)) (none_of sg (N3 _ (.head _)).2.2) (N3 _ (.head _)).1 (none_of st1 nS2) (none_of st1 nd2') (none_of st1 nl2) (os_at N3 (.tail _ (.head _)) (.tail _ (.tail _ (.head _))) (.tail _ (.tail _ (.tail _ (.head _)))) f2 pv2 nd2)
end

end
/-! E11 -/
section
theorem use_fr {A' : Around} {fs : List Env} {f : Value} {args : List Value} {w : World} {Q : Value → Shared → Prop} {E : Value → Shared → Prop} {s : Shared} (h : codeAny (model PR w) (AE fs) (.call f ⟨args, []⟩) (wants Q E) s)
    (h1 : A'.handled = none) (h2 : A'.depth ≤ 800) (h3 : A'.frames = some fs) (h5 : A'.units ≤ 6000) : wpAny (model PR w) A' (call f args) Q E s :=
  wpAny_call (codeAny_le h h1 h2 (fun l q => by cases q; exact h3) (fun l q => by cases q) h5)
theorem modRF {s h3 : Heap} {LL : Addr} {oL : Obj} {sl : Array (Option Value)} {b : List (Addr × Obj)} (m : Mod ((b ++ [(LL, oL)]).map (·.1)) s h3) (h : ∀ p ∈ b, s.get? p.1 = some p.2 ∧ h3.get? p.1 = some p.2) (hl : s.get? LL = some oL ∧ h3.get? LL = some { oL with slots := sl }) : ModF [LL] [] s h3 := fun x o e _ => by
  by_cases q : x ∈ b.map (·.1)
  · obtain ⟨p, hp, rfl⟩ := List.mem_map.mp q
    have z := h p hp
    rw [z.1] at e; cases e
    exact ⟨fun _ => z.2, p.2.slots, z.2⟩
  · by_cases y : x = LL
    · subst y
      rw [hl.1] at e; cases e
      exact ⟨fun n => absurd (.head _) n, sl, hl.2⟩
    · have := m x o e (by rw [List.map_append, List.mem_append]; rintro (z | z); exact q z; exact y (List.mem_singleton.mp z))
      exact ⟨fun _ => this, o.slots, this⟩
abbrev doneEnv (L : Addr) : Env := envOf (Str.ofString "_law_done") { kind := ScopeKind.function, names := [(Str.ofString "a", NameKind.local), (Str.ofString "b", NameKind.local), (Str.ofString "op", NameKind.local), (Str.ofString "one", NameKind.local), (Str.ofString "rows", NameKind.local), (Str.ofString "place", NameKind.local), (Str.ofString "KeyError", NameKind.globalImplicit), (Str.ofString "_law_first", NameKind.globalImplicit), (Str.ofString "OrderedSet", NameKind.globalImplicit)], isGenerator := false, isCoroutine := false } L 271 (Value.ref 270)
section
variable {w : World} {s : Shared} {mg mb : Str → Option Value} {g : Heap} {R : Result → Shared → Prop} {S dx l : Addr} {ms : List Value} {x : Value}
theorem done_5b {O dxo lo lu LL : Addr} {vs us : List Value} {eu : Nat} {env1 : Env} {oL : Obj} {i : Int} {uk ui : Tok} (B : Base w mg mb g) (stg : g.StaysIn s.heap) (I : OSet w s.heap S dx l ms) (gS : g.get? S = none) (gd : g.get? dx = none) (gl : g.get? l = none)
  (I2 : OSet w s.heap O dxo lo vs) (gO : g.get? O = none) (gdo : g.get? dxo = none) (glo : g.get? lo = none) (nS : S ≠ O) (nd' : dx ≠ dxo) (nl : l ≠ lo)
  (ou : s.heap.get? lu = some (PySem.W.listOf us.toArray eu)) (gu : g.get? lu = none) (nlu : lu ≠ l) (pu : ∀ v ∈ us, Pv v) (zu : us.length ≤ 100) (px : Pv x) (hi : -10 ≤ i ∧ i ≤ 10)
  (f1 : env1.frame = some LL) (k1 : env1.scope.kind ≠ .module) (p1 : s.heap.get? LL = some oL) (d1 : ∃ es ep, oL.data = .dict es ep) (g1 : g.get? LL = none) (fD : LL ≠ dx) (fDo : LL ≠ dxo) (hm : ¬ inL ms x)
  (hR : ∀ h' dr tk T l' v, ModF [LL] [S, dx, l] s.heap h' → g.get? T = none → h'.get? T = some (tupO [.ref S, v]) → (l' = l ∨ s.heap.get? l' = none) → OSet w h' S dx l' (ms) → ExtAt g h' .miss v → R (.ok (.ret (.ref T))) ⟨h', s.gens, dr, tk, s.os⟩) :
    codeAny (model PR w) (AD env1) (.call (.ref 271) ⟨[.ref S, .ref O, .int 5 uk, x, .ref lu, .int i ui], []⟩) R s := by
  obtain ⟨⟨es, ep, t, e, oS, od, ol, f⟩, pv, nd⟩ := I
  obtain ⟨⟨eso, epo, to, eo, oO, odo, olo, fo⟩, pvo, ndo⟩ := I2
  have N : Has g s.heap [(S, setO (.ref 232) (some dx) es ep t #[some (.ref l)]), (dx, dictE), (l, PySem.W.listOf ms.toArray e), (O, setO (.ref 232) (some dxo) eso epo to #[some (.ref lo)]), (dxo, dictE), (lo, PySem.W.listOf vs.toArray eo), (lu, PySem.W.listOf us.toArray eu), (LL, oL)] :=
    List.forall_mem_cons.mpr ⟨⟨oS, gS⟩, List.forall_mem_cons.mpr ⟨⟨od, gd⟩, List.forall_mem_cons.mpr ⟨⟨ol, gl⟩, List.forall_mem_cons.mpr ⟨⟨oO, gO⟩, List.forall_mem_cons.mpr ⟨⟨odo, gdo⟩, List.forall_mem_cons.mpr ⟨⟨olo, glo⟩, List.forall_mem_cons.mpr ⟨⟨ou, gu⟩, List.forall_mem_cons.mpr ⟨⟨p1, g1⟩, List.forall_mem_nil _⟩⟩⟩⟩⟩⟩⟩⟩
  refine enter_def B stg N (by k_is) (by k_is) (show 600 < recursionLimit by decide) (BindsTo.of_eq rfl) (locs rfl) ?_ rfl rfl rfl (by decide)
  intro g' L h₁ B' F' N' kM sg hid
  have X' := B'.K
  have T' := B'.T
  have m1 := mod_all N N' (kM _ F'.keep)
  have st1 : s.heap.StaysIn h₁ := fun b o e => m1 b o e (by simp)
  have OS : OSet w h₁ S dx l ms := os_at N' (.head _) (.tail _ (.head _)) (.tail _ (.tail _ (.head _))) f pv nd
  have OO : OSet w h₁ O dxo lo vs := os_at N' (.tail _ (.tail _ (.tail _ (.head _)))) (.tail _ (.tail _ (.tail _ (.tail _ (.head _))))) (.tail _ (.tail _ (.tail _ (.tail _ (.tail _ (.head _)))))) fo pvo ndo
  have GS := (N' _ (.head _)).2.2
  have GD := (N' _ (.tail _ (.head _))).2.2
  have GL := (N' _ (.tail _ (.tail _ (.head _)))).2.2
  have GO := (N' _ (.tail _ (.tail _ (.tail _ (.head _))))).2.2
  have GDO := (N' _ (.tail _ (.tail _ (.tail _ (.tail _ (.head _)))))).2.2
  have GLO := (N' _ (.tail _ (.tail _ (.tail _ (.tail _ (.tail _ (.head _))))))).2.2
  have OU := (N' (lu, PySem.W.listOf us.toArray eu) (.tail _ (.tail _ (.tail _ (.tail _ (.tail _ (.tail _ (.head _)))))))).1
  have GU := (N' (lu, PySem.W.listOf us.toArray eu) (.tail _ (.tail _ (.tail _ (.tail _ (.tail _ (.tail _ (.head _)))))))).2.2
  dsimp only at GS GD GL GO GDO GLO GU
  try dsimp only
  have gLL : g'.get? LL = none := (N' (LL, oL) (.tail _ (.tail _ (.tail _ (.tail _ (.tail _ (.tail _ (.tail _ (.head _))))))))).2.2
  have hLL : h₁.get? LL = some oL := (N' (LL, oL) (.tail _ (.tail _ (.tail _ (.tail _ (.tail _ (.tail _ (.tail _ (.head _))))))))).1
  have nf : ∀ ws, oL.data ≠ .fields ws := fun ws q => by obtain ⟨a, b, c⟩ := d1; rw [c] at q; cases q
  have hl1 : h₁.FunFrames (hideAll h₁ [L, LL]) [doneEnv L, env1] :=
    .cons (show ScopeKind.function ≠ ScopeKind.module by decide) rfl F'.ns (hideAll_none _ (.head _)) ⟨k1, ⟨LL, oL, f1, hideAll_none _ (.tail _ (.head _)), hLL, nf⟩, trivial⟩
  have gz : g'.StaysIn (hideAll h₁ [L, LL]) := fun b o q => hideAll_get _ (F'.keep b o q) fun z => by
    simp only [List.mem_cons, List.not_mem_nil, or_false] at z
    rcases z with z | z
    · rw [z, kts_self F'] at q; cases q
    · rw [z, gLL] at q; cases q
  have n7 : ∀ p ∈ [(S, setO (.ref 232) (some dx) es ep t #[some (.ref l)]), (dx, dictE), (l, PySem.W.listOf ms.toArray e), (O, setO (.ref 232) (some dxo) eso epo to #[some (.ref lo)]), (dxo, dictE), (lo, PySem.W.listOf vs.toArray eo), (lu, PySem.W.listOf us.toArray eu)], p.1 ∉ [L, LL] := by
    intro p hp
    have a := (N' p (List.mem_append_left [(LL, oL)] hp)).2.1
    have c : p.1 ≠ LL := by
      simp only [List.mem_cons, List.not_mem_nil, or_false] at hp
      rcases hp with rfl | rfl | rfl | rfl | rfl | rfl | rfl
      · exact neObj oS p1 (ne_frame_set d1)
      · exact fun q => fD q.symm
      · exact neObj ol p1 (ne_frame_list d1)
      · exact neObj oO p1 (ne_frame_set d1)
      · exact fun q => fDo q.symm
      · exact neObj olo p1 (ne_frame_list d1)
      · exact neObj ou p1 (ne_frame_list d1)
    simp only [List.mem_cons, List.not_mem_nil, or_false, not_or]; exact ⟨a, c⟩
  refine wpAny_execs_cons (chain_ok (x := Str.ofString "op") (k := 5) rfl rfl (by decide) rfl 20 _ _ F'.ns fun tk => ?_)
  conv in chainS _ _ _ _ => whnf
  try dsimp only
  k_steps
  refine use_fr (fs := [doneEnv L, env1]) (remove_miss (base := hideAll h₁ [L, LL]) B' (by exact F'.keep) (by exact OS) GS GD GL px hm (fun b o q => of_hideAll _ q) (by exact hl1) fun h2 e2 a2 tk2 fl2 up2 => ?_) rfl (Nat.le_of_ble_eq_true rfl) (Around.frames_deeper rfl) (Nat.le_of_ble_eq_true rfl)
  show wpAny _ _ _ _ _ _
  refine lands_here (outer := [env1]) rfl F' B' gz fl2 up2 PyProof.Rows.Boot.«KeyError» excClass_KeyError.base (by first | (rw [isSubtype_type]; kernel_rfl) | kernel_rfl) (by rw [isSubtype_type]; kernel_rfl) fun h6 F6 st6 up6 => ?_
  obtain ⟨sl, hsl⟩ := up6 LL oL hLL nf
  have N6 : News g' L h6 ([(S, setO (.ref 232) (some dx) es ep t #[some (.ref l)]), (dx, dictE), (l, PySem.W.listOf ms.toArray e), (O, setO (.ref 232) (some dxo) eso epo to #[some (.ref lo)]), (dxo, dictE), (lo, PySem.W.listOf vs.toArray eo), (lu, PySem.W.listOf us.toArray eu)] ++ [(LL, { oL with slots := sl })]) := by
    intro p hp
    rcases List.mem_append.mp hp with q | q
    · have P := N' p (List.mem_append_left [(LL, oL)] q)
      exact ⟨st6 _ _ (hideAll_get _ P.1 (n7 p q)), P.2⟩
    · rw [List.mem_singleton.mp q]
      exact ⟨hsl, (N' (LL, oL) (.tail _ (.tail _ (.tail _ (.tail _ (.tail _ (.tail _ (.tail _ (.head _))))))))).2⟩
  dsimp only [List.cons_append, List.nil_append] at N6
  clear N'
  k_steps
  have F3 := ‹Fr g' L _ _›
  have N3 := ‹News g' L _ _›
  have mf : ModF [LL] [] s.heap _ := modRF (b := [(S, setO (.ref 232) (some dx) es ep t #[some (.ref l)]), (dx, dictE), (l, PySem.W.listOf ms.toArray e), (O, setO (.ref 232) (some dxo) eso epo to #[some (.ref lo)]), (dxo, dictE), (lo, PySem.W.listOf vs.toArray eo), (lu, PySem.W.listOf us.toArray eu)]) (kM _ F3.keep) (fun p hp => ⟨(N p (List.mem_append_left [(LL, oL)] hp)).1, (N3 p (.tail _ (List.mem_append_left [(LL, ({ oL with slots := sl } : Obj))] hp))).1⟩) ⟨p1, (N3 (LL, { oL with slots := sl }) (by k_mem)).1⟩
  exact hR _ _ _ _ _ _ (mf.mono (by simp)) (none_of sg (N3 _ (.head _)).2.2) (N3 _ (.head _)).1 (.inl rfl) (os_at N3 (.tail _ (.head _)) (.tail _ (.tail _ (.head _))) (.tail _ (.tail _ (.tail _ (.head _)))) f pv nd) ⟨_, rfl⟩
theorem done_6b {O dxo lo lu LL : Addr} {vs us : List Value} {eu : Nat} {env1 : Env} {oL : Obj} {i : Int} {uk ui : Tok} (B : Base w mg mb g) (stg : g.StaysIn s.heap) (I : OSet w s.heap S dx l ms) (gS : g.get? S = none) (gd : g.get? dx = none) (gl : g.get? l = none)
  (I2 : OSet w s.heap O dxo lo vs) (gO : g.get? O = none) (gdo : g.get? dxo = none) (glo : g.get? lo = none) (nS : S ≠ O) (nd' : dx ≠ dxo) (nl : l ≠ lo)
  (ou : s.heap.get? lu = some (PySem.W.listOf us.toArray eu)) (gu : g.get? lu = none) (nlu : lu ≠ l) (pu : ∀ v ∈ us, Pv v) (zu : us.length ≤ 100) (px : Pv x) (hi : -10 ≤ i ∧ i ≤ 10)
  (f1 : env1.frame = some LL) (k1 : env1.scope.kind ≠ .module) (p1 : s.heap.get? LL = some oL) (d1 : ∃ es ep, oL.data = .dict es ep) (g1 : g.get? LL = none) (fD : LL ≠ dx) (fDo : LL ≠ dxo) (hms : ms = [])
  (hR : ∀ h' dr tk T l' v, ModF [LL] [S, dx, l] s.heap h' → g.get? T = none → h'.get? T = some (tupO [.ref S, v]) → (l' = l ∨ s.heap.get? l' = none) → OSet w h' S dx l' (ms) → ExtAt g h' .miss v → R (.ok (.ret (.ref T))) ⟨h', s.gens, dr, tk, s.os⟩) :
    codeAny (model PR w) (AD env1) (.call (.ref 271) ⟨[.ref S, .ref O, .int 6 uk, x, .ref lu, .int i ui], []⟩) R s := by
  obtain ⟨⟨es, ep, t, e, oS, od, ol, f⟩, pv, nd⟩ := I
  obtain ⟨⟨eso, epo, to, eo, oO, odo, olo, fo⟩, pvo, ndo⟩ := I2
  have N : Has g s.heap [(S, setO (.ref 232) (some dx) es ep t #[some (.ref l)]), (dx, dictE), (l, PySem.W.listOf ms.toArray e), (O, setO (.ref 232) (some dxo) eso epo to #[some (.ref lo)]), (dxo, dictE), (lo, PySem.W.listOf vs.toArray eo), (lu, PySem.W.listOf us.toArray eu), (LL, oL)] :=
    List.forall_mem_cons.mpr ⟨⟨oS, gS⟩, List.forall_mem_cons.mpr ⟨⟨od, gd⟩, List.forall_mem_cons.mpr ⟨⟨ol, gl⟩, List.forall_mem_cons.mpr ⟨⟨oO, gO⟩, List.forall_mem_cons.mpr ⟨⟨odo, gdo⟩, List.forall_mem_cons.mpr ⟨⟨olo, glo⟩, List.forall_mem_cons.mpr ⟨⟨ou, gu⟩, List.forall_mem_cons.mpr ⟨⟨p1, g1⟩, List.forall_mem_nil _⟩⟩⟩⟩⟩⟩⟩⟩
  refine enter_def B stg N (by k_is) (by k_is) (show 600 < recursionLimit by decide) (BindsTo.of_eq rfl) (locs rfl) ?_ rfl rfl rfl (by decide)
  intro g' L h₁ B' F' N' kM sg hid
  have X' := B'.K
  have T' := B'.T
  have m1 := mod_all N N' (kM _ F'.keep)
  have st1 : s.heap.StaysIn h₁ := fun b o e => m1 b o e (by simp)
  have OS : OSet w h₁ S dx l ms := os_at N' (.head _) (.tail _ (.head _)) (.tail _ (.tail _ (.head _))) f pv nd
  have OO : OSet w h₁ O dxo lo vs := os_at N' (.tail _ (.tail _ (.tail _ (.head _)))) (.tail _ (.tail _ (.tail _ (.tail _ (.head _))))) (.tail _ (.tail _ (.tail _ (.tail _ (.tail _ (.head _)))))) fo pvo ndo
  have GS := (N' _ (.head _)).2.2
  have GD := (N' _ (.tail _ (.head _))).2.2
  have GL := (N' _ (.tail _ (.tail _ (.head _)))).2.2
  have GO := (N' _ (.tail _ (.tail _ (.tail _ (.head _))))).2.2
  have GDO := (N' _ (.tail _ (.tail _ (.tail _ (.tail _ (.head _)))))).2.2
  have GLO := (N' _ (.tail _ (.tail _ (.tail _ (.tail _ (.tail _ (.head _))))))).2.2
  have OU := (N' (lu, PySem.W.listOf us.toArray eu) (.tail _ (.tail _ (.tail _ (.tail _ (.tail _ (.tail _ (.head _)))))))).1
  have GU := (N' (lu, PySem.W.listOf us.toArray eu) (.tail _ (.tail _ (.tail _ (.tail _ (.tail _ (.tail _ (.head _)))))))).2.2
  dsimp only at GS GD GL GO GDO GLO GU
  try dsimp only
  subst hms
  have gLL : g'.get? LL = none := (N' (LL, oL) (.tail _ (.tail _ (.tail _ (.tail _ (.tail _ (.tail _ (.tail _ (.head _))))))))).2.2
  have hLL : h₁.get? LL = some oL := (N' (LL, oL) (.tail _ (.tail _ (.tail _ (.tail _ (.tail _ (.tail _ (.tail _ (.head _))))))))).1
  have nf : ∀ ws, oL.data ≠ .fields ws := fun ws q => by obtain ⟨a, b, c⟩ := d1; rw [c] at q; cases q
  have hl1 : h₁.FunFrames (hideAll h₁ [L, LL]) [doneEnv L, env1] :=
    .cons (show ScopeKind.function ≠ ScopeKind.module by decide) rfl F'.ns (hideAll_none _ (.head _)) ⟨k1, ⟨LL, oL, f1, hideAll_none _ (.tail _ (.head _)), hLL, nf⟩, trivial⟩
  have gz : g'.StaysIn (hideAll h₁ [L, LL]) := fun b o q => hideAll_get _ (F'.keep b o q) fun z => by
    simp only [List.mem_cons, List.not_mem_nil, or_false] at z
    rcases z with z | z
    · rw [z, kts_self F'] at q; cases q
    · rw [z, gLL] at q; cases q
  have n7 : ∀ p ∈ [(S, setO (.ref 232) (some dx) es ep t #[some (.ref l)]), (dx, dictE), (l, PySem.W.listOf ([] : List Value).toArray e), (O, setO (.ref 232) (some dxo) eso epo to #[some (.ref lo)]), (dxo, dictE), (lo, PySem.W.listOf vs.toArray eo), (lu, PySem.W.listOf us.toArray eu)], p.1 ∉ [L, LL] := by
    intro p hp
    have a := (N' p (List.mem_append_left [(LL, oL)] hp)).2.1
    have c : p.1 ≠ LL := by
      simp only [List.mem_cons, List.not_mem_nil, or_false] at hp
      rcases hp with rfl | rfl | rfl | rfl | rfl | rfl | rfl
      · exact neObj oS p1 (ne_frame_set d1)
      · exact fun q => fD q.symm
      · exact neObj ol p1 (ne_frame_list d1)
      · exact neObj oO p1 (ne_frame_set d1)
      · exact fun q => fDo q.symm
      · exact neObj olo p1 (ne_frame_list d1)
      · exact neObj ou p1 (ne_frame_list d1)
    simp only [List.mem_cons, List.not_mem_nil, or_false, not_or]; exact ⟨a, c⟩
  refine wpAny_execs_cons (chain_ok (x := Str.ofString "op") (k := 6) rfl rfl (by decide) rfl 20 _ _ F'.ns fun tk => ?_)
  conv in chainS _ _ _ _ => whnf
  try dsimp only
  k_steps
  obtain ⟨oD, esD, epD, hL₁, _⟩ := id F'.ns
  refine use_fr (fs := [doneEnv L, env1]) (pop_miss (L1 := L) (L2 := LL) (base := hideAll h₁ [L, LL]) B' (by exact F'.keep) (by exact OS) GS GD GL rfl f1 (by exact hL₁) (by exact hLL) (kts_self F') gLL (fun b o q => of_hideAll _ q) (by exact hl1) fun h2 e2 a2 tk2 fl2 up2 => ?_) rfl (Nat.le_of_ble_eq_true rfl) (Around.frames_deeper rfl) (Nat.le_of_ble_eq_true rfl)
  show wpAny _ _ _ _ _ _
  refine lands_here (outer := [env1]) rfl F' B' gz fl2 up2 PyProof.Rows.Boot.«KeyError» excClass_KeyError.base (by first | (rw [isSubtype_type]; kernel_rfl) | kernel_rfl) (by rw [isSubtype_type]; kernel_rfl) fun h6 F6 st6 up6 => ?_
  obtain ⟨sl, hsl⟩ := up6 LL oL hLL nf
  have N6 : News g' L h6 ([(S, setO (.ref 232) (some dx) es ep t #[some (.ref l)]), (dx, dictE), (l, PySem.W.listOf ([] : List Value).toArray e), (O, setO (.ref 232) (some dxo) eso epo to #[some (.ref lo)]), (dxo, dictE), (lo, PySem.W.listOf vs.toArray eo), (lu, PySem.W.listOf us.toArray eu)] ++ [(LL, { oL with slots := sl })]) := by
    intro p hp
    rcases List.mem_append.mp hp with q | q
    · have P := N' p (List.mem_append_left [(LL, oL)] q)
      exact ⟨st6 _ _ (hideAll_get _ P.1 (n7 p q)), P.2⟩
    · rw [List.mem_singleton.mp q]
      exact ⟨hsl, (N' (LL, oL) (.tail _ (.tail _ (.tail _ (.tail _ (.tail _ (.tail _ (.tail _ (.head _))))))))).2⟩
  dsimp only [List.cons_append, List.nil_append] at N6
  clear N'
  k_steps
  have F3 := ‹Fr g' L _ _›
  have N3 := ‹News g' L _ _›
  have mf : ModF [LL] [] s.heap _ := modRF (b := [(S, setO (.ref 232) (some dx) es ep t #[some (.ref l)]), (dx, dictE), (l, PySem.W.listOf ([] : List Value).toArray e), (O, setO (.ref 232) (some dxo) eso epo to #[some (.ref lo)]), (dxo, dictE), (lo, PySem.W.listOf vs.toArray eo), (lu, PySem.W.listOf us.toArray eu)]) (kM _ F3.keep) (fun p hp => ⟨(N p (List.mem_append_left [(LL, oL)] hp)).1, (N3 p (.tail _ (List.mem_append_left [(LL, ({ oL with slots := sl } : Obj))] hp))).1⟩) ⟨p1, (N3 (LL, { oL with slots := sl }) (by k_mem)).1⟩
  exact hR _ _ _ _ _ _ (mf.mono (by simp)) (none_of sg (N3 _ (.head _)).2.2) (N3 _ (.head _)).1 (.inl rfl) (os_at N3 (.tail _ (.head _)) (.tail _ (.tail _ (.head _))) (.tail _ (.tail _ (.tail _ (.head _)))) f pv nd) ⟨_, rfl⟩
end

end
/-! L1 -/
section
/-! the plain law -/
theorem addAll_app : ∀ (b a c : List Value), addAll a (b ++ c) = addAll (addAll a b) c
  | [], _, _ => rfl
  | _ :: r, a, c => addAll_app r (addL a _) c
theorem addAll_free : ∀ (b a : List Value), ((a ++ b).map cl).Nodup → addAll a b = a ++ b
  | [], a, _ => by rw [List.append_nil]; rfl
  | x :: r, a, h => by
    have h' : ((a ++ [x] ++ r).map cl).Nodup := by rw [List.append_assoc]; exact h
    have nx : ¬ inL a x := fun q => by
      rw [List.map_append, List.nodup_append] at h
      exact h.2.2 (cl x) (inL_map.mp q) (cl x) (by simp) rfl
    show addAll (addL a x) r = _
    rw [addL_new nx, addAll_free r (a ++ [x]) h', List.append_assoc]; rfl
theorem addAll_nil {a : List Value} (h : (a.map cl).Nodup) : addAll [] a = a := addAll_free a [] h
theorem rem_filter {x : Value} : ∀ {ms : List Value}, (ms.map cl).Nodup → remL ms x = ms.filter fun v => decide (¬ inL [x] v)
  | [], _ => rfl
  | a :: r, h => by
    rw [List.map_cons, List.nodup_cons] at h
    rw [rem_cons]
    by_cases q : cl a = cl x
    · rw [if_pos q, List.filter_cons_of_neg (by simp [inL_one, q])]
      refine (List.filter_eq_self.mpr fun v hv => ?_).symm
      refine decide_eq_true fun z => h.1 ?_
      rw [q, inL_one.mp z]; exact List.mem_map_of_mem hv
    · rw [if_neg q, List.filter_cons_of_pos (by simp [inL_one, Ne.symm q]), rem_filter h.2]
theorem inL_first {us : List Value} {v : Value} : inL (addAll [] us) v ↔ inL us v := by rw [inL_addAll]; simp [inL]
theorem addL_filter {p : Value → Bool} (hp : ∀ a b, cl a = cl b → p a = p b) (a : List Value) (x : Value) : (addL a x).filter p = if p x then addL (a.filter p) x else a.filter p := by
  by_cases q : inL a x
  · rw [addL_in q]
    by_cases y : p x = true
    · rw [if_pos y, addL_in]
      obtain ⟨v, hv, e⟩ := q
      exact ⟨v, List.mem_filter.mpr ⟨hv, by rw [hp v x e]; exact y⟩, e⟩
    · rw [if_neg y]
  · rw [addL_new q, List.filter_append]
    by_cases y : p x = true
    · rw [if_pos y, addL_new, List.filter_cons_of_pos y]; rfl
      rintro ⟨v, hv, e⟩
      exact q ⟨v, (List.mem_filter.mp hv).1, e⟩
    · rw [if_neg y, List.filter_cons_of_neg y]; simp
theorem addAll_filter {p : Value → Bool} (hp : ∀ a b, cl a = cl b → p a = p b) : ∀ (us a : List Value), (addAll a us).filter p = addAll (a.filter p) (us.filter p)
  | [], _ => rfl
  | x :: r, a => by
    show (addAll (addL a x) r).filter p = _
    rw [addAll_filter hp r, addL_filter hp]
    by_cases y : p x = true
    · rw [if_pos y, List.filter_cons_of_pos y]; rfl
    · rw [if_neg y, List.filter_cons_of_neg y]
theorem addAll_apart : ∀ (b a c : List Value), (∀ v ∈ b, ¬ inL a v) → addAll (a ++ c) b = a ++ addAll c b
  | [], _, _, _ => rfl
  | x :: r, a, c, h => by
    have e : addL (a ++ c) x = a ++ addL c x := by
      by_cases q : inL c x
      · rw [addL_in q, addL_in (inL_append.mpr (.inr q))]
      · rw [addL_new q, addL_new, List.append_assoc]
        rw [inL_append]
        rintro (z | z)
        · exact h x (.head _) z
        · exact q z
    show addAll (addL (a ++ c) x) r = a ++ addAll (addL c x) r
    rw [e, addAll_apart r a _ fun v hv => h v (.tail _ hv)]
theorem symm_law (ms us : List Value) : addAll (ms.filter fun v => decide (¬ inL us v)) (us.filter fun v => decide (¬ inL ms v)) = (ms.filter fun v => decide (¬ inL us v)) ++ (addAll [] us).filter fun v => decide (¬ inL ms v) := by
  have h := addAll_apart (us.filter fun v => decide (¬ inL ms v)) (ms.filter fun v => decide (¬ inL us v)) [] (fun v hv q => by
    obtain ⟨u, hu, e⟩ := q
    exact (of_decide_eq_true (List.mem_filter.mp hv).2) ⟨u, (List.mem_filter.mp hu).1, e⟩)
  rw [List.append_nil] at h
  rw [h, addAll_filter (fun a b e => by rw [decide_eq_decide]; exact not_congr (inL_same e))]; rfl
theorem put_law {ms : List Value} {i : Int} {x : Value} : putL' ms i x = if inL ms x then ms else cutA ms i ++ [x] ++ cutB ms i := by
  unfold putL'
  by_cases q : inL ms x
  · rw [if_pos q, if_pos q]
  · rw [if_neg q, if_neg q]
    unfold insL cutA cutB
    dsimp only
    have e : (if i < 0 then (i + (ms.length : Int)).toNat else min i.toNat ms.length) = clipAt ms.length i := by
      have h := clipAt_cast ms.length i
      split at h <;> rename_i z
      · rw [if_pos z]; omega
      · rw [if_neg z]; omega
    rw [e, List.append_assoc]; rfl
theorem first_same {us : List Value} {p : List Value} : (p.filter fun v => decide (¬ inL (addAll [] us) v)) = p.filter fun v => decide (¬ inL us v) := by
  apply List.filter_congr
  intro v _
  rw [decide_eq_decide]; exact not_congr inL_first

end
/-! L2 -/
section
section
variable {w : World} {s : Shared} {mg mb : Str → Option Value} {g : Heap} {R : Result → Shared → Prop} {S dx l : Addr} {ms : List Value} {x : Value}
/-- what _law_done leaves -/
def DoneAt (w : World) (g h h' : Heap) (LL S dx l : Addr) (k : Int) (res : List Value × Ext) (S' dx' l' : Addr) (v : Value) : Prop :=
  ModF [LL] [S, dx, l] h h' ∧ OSet w h' S' dx' l' res.1 ∧ ExtAt g h' res.2 v ∧
  ((k < 11 ∧ S' = S ∧ dx' = dx ∧ (l' = l ∨ h.get? l' = none)) ∨ (11 ≤ k ∧ h.get? S' = none ∧ h.get? dx' = none ∧ h.get? l' = none ∧ ModF [LL] [] h h'))
theorem done_spec {O dxo lo lu LL : Addr} {vs us : List Value} {eu : Nat} {env1 : Env} {oL : Obj} {k i : Int} {uk ui : Tok} (B : Base w mg mb g) (stg : g.StaysIn s.heap) (I : OSet w s.heap S dx l ms) (gS : g.get? S = none) (gd : g.get? dx = none) (gl : g.get? l = none)
  (I2 : OSet w s.heap O dxo lo vs) (gO : g.get? O = none) (gdo : g.get? dxo = none) (glo : g.get? lo = none) (nS : S ≠ O) (nd' : dx ≠ dxo) (nl : l ≠ lo)
  (ou : s.heap.get? lu = some (PySem.W.listOf us.toArray eu)) (gu : g.get? lu = none) (nlu : lu ≠ l) (pu : ∀ v ∈ us, Pv v) (zu : us.length ≤ 100) (px : Pv x) (hk : 0 ≤ k ∧ k < 20) (hi : -10 ≤ i ∧ i ≤ 10)
  (f1 : env1.frame = some LL) (k1 : env1.scope.kind ≠ .module) (p1 : s.heap.get? LL = some oL) (d1 : ∃ es ep, oL.data = .dict es ep) (g1 : g.get? LL = none) (fD : LL ≠ dx) (fDo : LL ≠ dxo)
  (hR : ∀ h' dr tk T S' dx' l' v, g.get? T = none → h'.get? T = some (tupO [.ref S', v]) → DoneAt w g s.heap h' LL S dx l k (dueL k ms vs us x i) S' dx' l' v → R (.ok (.ret (.ref T))) ⟨h', s.gens, dr, tk, s.os⟩) :
    codeAny (model PR w) (AD env1) (.call (.ref 271) ⟨[.ref S, .ref O, .int k uk, x, .ref lu, .int i ui], []⟩) R s := by
  have nd := I.nd
  have ndo := I2.nd
  have hRI : ∀ (res : List Value) (ext : Ext), k < 11 → dueL k ms vs us x i = (res, ext) → ∀ h' dr tk T l' v, ModF [LL] [S, dx, l] s.heap h' → g.get? T = none → h'.get? T = some (tupO [.ref S, v]) → (l' = l ∨ s.heap.get? l' = none) → OSet w h' S dx l' res → ExtAt g h' ext v → R (.ok (.ret (.ref T))) ⟨h', s.gens, dr, tk, s.os⟩ :=
    fun res ext lt q h' dr tk T l' v m gT hT hl o x => hR h' dr tk T S dx l' v gT hT (by rw [q]; exact ⟨m, o, x, .inl ⟨lt, rfl, rfl, hl⟩⟩)
  have hRN : ∀ (res : List Value), 11 ≤ k → dueL k ms vs us x i = (res, .no) → ∀ h' dr tk T S' dx' l', Mod [] s.heap h' → g.get? T = none → h'.get? T = some (tupO [.ref S', .none]) → s.heap.get? S' = none → s.heap.get? dx' = none → s.heap.get? l' = none → OSet w h' S' dx' l' res → R (.ok (.ret (.ref T))) ⟨h', s.gens, dr, tk, s.os⟩ :=
    fun res le q h' dr tk T S' dx' l' m gT hT n1 n2 n3 o => hR h' dr tk T S' dx' l' .none gT hT (by rw [q]; exact ⟨(m.toF).mono (by simp), o, rfl, .inr ⟨le, n1, n2, n3, m.toF⟩⟩)
  have e0 : addAll [] (ms ++ [x]) = addL ms x := by rw [addAll_snoc, addAll_nil nd]
  have e3 : addAll [] (ms ++ vs) = addAll ms vs := by rw [addAll_app, addAll_nil nd]
  have e2 : addAll [] (ms ++ us ++ vs) = addAll (addAll ms us) vs := by rw [addAll_app, addAll_app, addAll_nil nd]
  have e15 : addAll [] (ms ++ us) = addAll ms us := by rw [addAll_app, addAll_nil nd]
  have e4 := rem_filter (x := x) nd
  have e14 := symm_law ms vs
  rw [addAll_nil ndo] at e14
  have e17 := symm_law ms us
  obtain ⟨hk0, hk1⟩ := hk
  have hc : k = 0 ∨ k = 1 ∨ k = 2 ∨ k = 3 ∨ k = 4 ∨ k = 5 ∨ k = 6 ∨ k = 7 ∨ k = 8 ∨ k = 9 ∨ k = 10 ∨ k = 11 ∨ k = 12 ∨ k = 13 ∨ k = 14 ∨ k = 15 ∨ k = 16 ∨ k = 17 ∨ k = 18 ∨ k = 19 := by omega
  rcases hc with rfl | rfl | rfl | rfl | rfl | rfl | rfl | rfl | rfl | rfl | rfl | rfl | rfl | rfl | rfl | rfl | rfl | rfl | rfl | rfl
  · exact done_0 B stg I gS gd gl I2 gO gdo glo nS nd' nl ou gu nlu pu zu px hi f1 k1 p1 d1 g1 fD (hRI _ _ (by decide) (by rw [← e0]; rfl))
  · exact done_1 B stg I gS gd gl I2 gO gdo glo nS nd' nl ou gu nlu pu zu px hi f1 k1 p1 d1 g1 fD (hRI _ _ (by decide) (by rw [put_law]; rfl))
  · exact done_2 B stg I gS gd gl I2 gO gdo glo nS nd' nl ou gu nlu pu zu px hi f1 k1 p1 d1 g1 fD (hRI _ _ (by decide) (by rw [← e2]; rfl))
  · exact done_3 B stg I gS gd gl I2 gO gdo glo nS nd' nl ou gu nlu pu zu px hi f1 k1 p1 d1 g1 fD (hRI _ _ (by decide) (by rw [← e3]; rfl))
  · exact done_4 B stg I gS gd gl I2 gO gdo glo nS nd' nl ou gu nlu pu zu px hi f1 k1 p1 d1 g1 fD (hRI _ _ (by decide) (by rw [e4]; rfl))
  · by_cases q : inL ms x
    · exact done_5a B stg I gS gd gl I2 gO gdo glo nS nd' nl ou gu nlu pu zu px hi f1 k1 p1 d1 g1 fD q (hRI _ _ (by decide) (by rw [e4]; simp [dueL, q]))
    · refine done_5b B stg I gS gd gl I2 gO gdo glo nS nd' nl ou gu nlu pu zu px hi f1 k1 p1 d1 g1 fD fDo q (hRI _ _ (by decide) ?_)
      rw [show dueL 5 ms vs us x i = (ms.filter fun v => decide (¬ inL [x] v), .miss) by simp [dueL, q], ← e4, remL_not q]
  · rcases List.eq_nil_or_concat ms with q | ⟨ns, v0, q⟩
    · refine done_6b B stg I gS gd gl I2 gO gdo glo nS nd' nl ou gu nlu pu zu px hi f1 k1 p1 d1 g1 fD fDo q (hRI _ _ (by decide) ?_)
      subst q; rfl
    · rw [List.concat_eq_append] at q
      refine done_6a B stg I gS gd gl I2 gO gdo glo nS nd' nl ou gu nlu pu zu px hi f1 k1 p1 d1 g1 fD q (hRI _ _ (by decide) ?_)
      subst q; simp [dueL]
  · exact done_7 B stg I gS gd gl I2 gO gdo glo nS nd' nl ou gu nlu pu zu px hi f1 k1 p1 d1 g1 fD (hRI _ _ (by decide) rfl)
  · exact done_8 B stg I gS gd gl I2 gO gdo glo nS nd' nl ou gu nlu pu zu px hi f1 k1 p1 d1 g1 fD (hRI _ _ (by decide) rfl)
  · exact done_9 B stg I gS gd gl I2 gO gdo glo nS nd' nl ou gu nlu pu zu px hi f1 k1 p1 d1 g1 fD (hRI _ _ (by decide) rfl)
  · exact done_10 B stg I gS gd gl I2 gO gdo glo nS nd' nl ou gu nlu pu zu px hi f1 k1 p1 d1 g1 fD (hRI _ _ (by decide) (by rw [first_same]; rfl))
  · exact done_11 B stg I gS gd gl I2 gO gdo glo nS nd' nl ou gu nlu pu zu px hi f1 k1 p1 d1 g1 fD (hRN _ (by decide) (by rw [← e3]; rfl))
  · exact done_12 B stg I gS gd gl I2 gO gdo glo nS nd' nl ou gu nlu pu zu px hi f1 k1 p1 d1 g1 fD (hRN _ (by decide) rfl)
  · exact done_13 B stg I gS gd gl I2 gO gdo glo nS nd' nl ou gu nlu pu zu px hi f1 k1 p1 d1 g1 fD (hRN _ (by decide) rfl)
  · exact done_14 B stg I gS gd gl I2 gO gdo glo nS nd' nl ou gu nlu pu zu px hi f1 k1 p1 d1 g1 fD (hRN _ (by decide) (by rw [e14]; rfl))
  · exact done_15 B stg I gS gd gl I2 gO gdo glo nS nd' nl ou gu nlu pu zu px hi f1 k1 p1 d1 g1 fD (hRN _ (by decide) (by rw [← e15]; rfl))
  · exact done_16 B stg I gS gd gl I2 gO gdo glo nS nd' nl ou gu nlu pu zu px hi f1 k1 p1 d1 g1 fD (hRN _ (by decide) rfl)
  · exact done_17 B stg I gS gd gl I2 gO gdo glo nS nd' nl ou gu nlu pu zu px hi f1 k1 p1 d1 g1 fD (hRN _ (by decide) (by rw [e17]; rfl))
  · exact done_18 B stg I gS gd gl I2 gO gdo glo nS nd' nl ou gu nlu pu zu px hi f1 k1 p1 d1 g1 fD (hRN _ (by decide) rfl)
  · exact done_19 B stg I gS gd gl I2 gO gdo glo nS nd' nl ou gu nlu pu zu px hi f1 k1 p1 d1 g1 fD (hRN _ (by decide) rfl)
end

end
/-! M1 -/
section
/-- the law's def in the text -/
def lawStmt : Stmt := PR.main.body.getLast?.getD (.Pass default)
def lawBody : List Stmt := match lawStmt with | .FunctionDef _ _ b _ _ _ _ _ _ _ => b | _ => []
def lawScope : Scope := match lawStmt with | .FunctionDef _ _ _ _ _ _ s _ _ _ => s | _ => default
abbrev lawEnv (L f : Addr) (cdv : Value) : Env := envOfC (Str.ofString "law") lawScope L f cdv

end
/-! Ec -/
section
section
variable {w : World} {A : Around} {E : Value → Shared → Prop} {s : Shared} {g : Heap}
/-- the ledger of a comprehension whose elements change things: news apart from the iterator I, the new list D, the old frame L -/
structure Led (g : Heap) (C I D L : Addr) (h : Heap) (ys : List Value) (oI oL : Obj) (news : List (Addr × Obj)) : Prop where
  keep : g.StaysIn h
  it : h.get? I = some oI
  fr : h.get? L = some oL
  acc : ∃ e, h.get? D = some (PySem.W.listOf ys.toArray e)
  at_ : ∀ p ∈ news, h.get? p.1 = some p.2 ∧ p.1 ≠ C ∧ g.get? p.1 = none
  apart : ∀ p ∈ news, p.1 ≠ I ∧ p.1 ≠ D ∧ p.1 ≠ L
theorem Led.up {C I D L : Addr} {h h' : Heap} {ys : List Value} {oI oL : Obj} {news : List (Addr × Obj)} (l : Led g C I D L h ys oI oL news) (k : ∀ b o, b ≠ C → h.get? b = some o → h'.get? b = some o) (gC : g.get? C = none) (CI : I ≠ C) (CD : D ≠ C) (CL : L ≠ C) : Led g C I D L h' ys oI oL news where
  keep := fun b o e => k b o (fun q => by subst q; rw [gC] at e; cases e) (l.keep b o e)
  it := k _ _ CI l.it
  fr := k _ _ CL l.fr
  acc := let ⟨e, q⟩ := l.acc; ⟨e, k _ _ CD q⟩
  at_ := fun p hp => ⟨k _ _ (l.at_ p hp).2.1 (l.at_ p hp).1, (l.at_ p hp).2⟩
  apart := l.apart

theorem comp_core {elt iter : Expr} {x : Str} {px : Pos} {scope : Scope} {cl : List (Str × Addr)} {pos : Pos} {env : Env} {I L : Addr} {n : Nat} {P : Nat → Value → Prop} {St : Nat → Heap → Prop} {news : List (Addr × Obj)} {oL : Obj} (J : List Value → List (Addr × Obj) → Prop)
    {RR : Value → Addr → Result → Shared → Prop} (W : Walks PR w A I [I] [I] n P St) (hob : ∀ i h, St i h → ∃ o, h.get? I = some o) (hsz : n ≤ 1000) (hcell : ∀ y ∈ scope.names, y.2 ≠ .cell) (hkind : scope.kind = .function) (hx : scope.names.lookup x = some .local)
    (hst : St 0 s.heap) (gI : g.get? I = none) (gL : g.get? L = none) (IL : I ≠ L) (oL1 : s.heap.get? L = some oL) (stg : g.StaysIn s.heap) (ab0 : g.objs.size ≤ s.heap.objs.size) (hN : ∀ p ∈ news, s.heap.get? p.1 = some p.2 ∧ g.get? p.1 = none ∧ p.1 ≠ I ∧ p.1 ≠ L) (h0 : J [] news)
    (step : ∀ C D i v ys h tk news₃ oI m₃ E', i < n → P i v → ys.length = i → J ys news₃ → Led g C I D L h ys oI oL news₃ → Fr g C h m₃ → m₃ x = some v → I ≠ C → D ≠ C → L ≠ C → D ≠ I → D ≠ L → g.get? D = none → C = s.heap.objs.size + 1 →
      wpAny (model PR w) A (eval elt (compEnvC scope cl C env)) (fun y s₄ => ∃ h' tk' news₄ m₄, s₄ = ⟨h', s.gens, s.drawn, tk', s.os⟩ ∧ Led g C I D L h' ys oI oL news₄ ∧ h'.Ns C m₄ ∧ J (ys ++ [y]) news₄) E' ⟨h, s.gens, s.drawn, tk, s.os⟩)
    (hRR : ∀ C D ys h tk news₃ oD m₃, ys.length = n → J ys news₃ → Led g C D D L h ys oD oL news₃ → h.Ns C m₃ → D ≠ C → L ≠ C → D ≠ L → g.get? D = none → g.get? C = none → s.heap.get? C = none → RR (.ref D) C (.ok .next) ⟨h, s.gens, s.drawn, tk, s.os⟩) :
    wpAny (model PR w) A (newList []) (fun acc s₃ => wpAny (model PR w) A (newFunctionEnv scope env.globals cl [] env.qual none .none (some env)) (fun cenv s₄ =>
      codeAny (model PR w) A (.compStart (.ListComp elt [⟨.Name x px, iter, [], 0⟩] scope pos) 0 (.ref I) acc { cenv with scope := relabel scope env }) (RR acc cenv.locals) s₄) E s₃) E s := by
  refine wpAny_newObj_type (wpAny_newFunctionEnv hcell (by intro y hy; simp at hy) (fun h₁ hns₁ hsb₁ => ?_) hkind)
  dsimp only at hns₁ hsb₁ ⊢
  generalize hH2 : s.heap.push { cls := .type "list", dict := none, data := .seq ([] : List Value).toArray } = H2 at hns₁ hsb₁ ⊢
  have hC : H2.objs.size = s.heap.objs.size + 1 := by rw [← hH2, Heap.size_push]
  have hDC : s.heap.objs.size ≠ H2.objs.size := by rw [hC]; exact Nat.ne_of_lt (Nat.lt_succ_self _)
  have fresh : ∀ a, s.heap.objs.size ≤ a → s.heap.get? a = none := fun a ha => by
    cases e : s.heap.get? a with
    | none => rfl
    | some o' => exact absurd (Heap.lt_size e) (Nat.not_lt.mpr ha)
  have fD := fresh _ (Nat.le_refl s.heap.objs.size)
  have fC : s.heap.get? H2.objs.size = none := fresh _ (by rw [hC]; exact Nat.le_succ _)
  have gD := none_of stg fD
  have gC := none_of stg fC
  have neD : ∀ a o, s.heap.get? a = some o → a ≠ s.heap.objs.size := fun a o e q => by subst q; rw [fD] at e; cases e
  have neC : ∀ a o, s.heap.get? a = some o → a ≠ H2.objs.size := fun a o e q => by subst q; rw [fC] at e; cases e
  have old : ∀ b o, s.heap.get? b = some o → h₁.get? b = some o := fun b o e => hsb₁.extBut b o (neC b o e) (Heap.get?_push_of_some _ (hH2 ▸ Heap.get?_push_of_some _ e))
  have hacc : h₁.get? s.heap.objs.size = some (PySem.W.listOf ([] : List Value).toArray 0) := hsb₁.extBut _ _ hDC (Heap.get?_push_of_some _ (hH2 ▸ Heap.get?_push_size _ rfl))
  obtain ⟨oI, hoI⟩ := hob _ _ hst
  have hst₁ : St 0 h₁ := W.frame _ _ _ hst fun b _ o e => old b o e
  have CI := neC _ _ hoI
  have CL := neC _ _ oL1
  have DI := (neD _ _ hoI).symm
  have DL := (neD _ _ oL1).symm
  have L0 : Led g H2.objs.size I s.heap.objs.size L h₁ [] oI oL news := ⟨fun b o e => old b o (stg b o e), old _ _ hoI, old _ _ oL1, ⟨0, hacc⟩, fun p hp => ⟨old _ _ (hN p hp).1, neC _ _ (hN p hp).1, (hN p hp).2.1⟩, fun p hp => ⟨(hN p hp).2.2.1, neD _ _ (hN p hp).1, (hN p hp).2.2.2⟩⟩
  have ab : g.objs.size ≤ H2.objs.size := Nat.le_trans ab0 (by rw [hC]; exact Nat.le_succ _)
  have loop : ∀ s₃ : Shared, s₃ = { s with heap := h₁, toks := s.toks + ([] : List (Str × Value)).length } →
      codeAny (model PR w) A (.compLoop (.ListComp elt [⟨.Name x px, iter, [], 0⟩] scope pos) 0 (.ref I) (.ref s.heap.objs.size) (compEnvC scope cl H2.objs.size env))
        (RR (.ref s.heap.objs.size) H2.objs.size) s₃ := by
    rintro s₃ rfl
    refine codeAny_compLoop_tests
      (fun k s' => ∃ h tk ys news₃ oI' m₃, s' = ⟨h, s.gens, s.drawn, tk, s.os⟩ ∧ ys.length ≤ n ∧ k = n + 1 - ys.length ∧ St ys.length h ∧ h.Ns H2.objs.size m₃ ∧ Led g H2.objs.size I s.heap.objs.size L h ys oI' oL news₃ ∧ J ys news₃) ?_ (n + 1)
      ⟨h₁, _, [], news, oI, _, rfl, Nat.zero_le _, rfl, hst₁, hns₁, L0, h0⟩
    rintro k s' ⟨H, tk, ys, news₃, oI', m₃, rfl, hi, rfl, hst', hn', hL, hJ⟩
    by_cases hlt : ys.length < n
    · refine W.item ys.length _ _ _ hlt hst' fun v h₂ tk₂ hPv hst₂ hk₂ => ?_
      refine wpAny_assign_Name (wpAny_storeName_local (lookup_relabel_local hx) (hn'.at' fun o e => hk₂ _ o (by simpa using CI.symm) e) (fun h₃ hn₃ hs₃ => ?_) (by simp [compEnvC, relabel, hkind]))
      obtain ⟨oI2, hoI2⟩ := hob _ _ hst₂
      have up : ∀ b o, b ≠ H2.objs.size → b ≠ I → H.get? b = some o → h₃.get? b = some o := fun b o n1 n2 e => hs₃.extBut b o n1 (hk₂ b o (by simpa using n2) e)
      have hL3 : Led g H2.objs.size I s.heap.objs.size L h₃ ys oI2 oL news₃ := ⟨fun b o e => up b o (fun q => by subst q; rw [gC] at e; cases e) (fun q => by subst q; rw [gI] at e; cases e) (hL.keep b o e), hs₃.extBut _ _ CI hoI2, up _ _ CL IL.symm hL.fr, (let ⟨e, q⟩ := hL.acc; ⟨e, up _ _ hDC DI q⟩), fun p hp => ⟨up _ _ (hL.at_ p hp).2.1 (hL.apart p hp).1 (hL.at_ p hp).1, (hL.at_ p hp).2⟩, hL.apart⟩
      refine wpAny_tests_nil ?_
      simp only [if_true]
      refine wpAny_mono (step H2.objs.size s.heap.objs.size ys.length v ys h₃ _ news₃ oI2 _ _ hlt hPv rfl hJ hL3 ⟨hn₃, hL3.keep, ab⟩ (by simp) CI hDC CL DI DL gD hC) (fun y s₄ h₄ => ?_) fun _ _ e => e
      obtain ⟨h₄, tk₄, news₄, m₄, rfl, hL4, hn4, hJ4⟩ := h₄
      obtain ⟨e4, q4⟩ := hL4.acc
      refine wpAny_list_append_plain (hsz := by rw [List.size_toArray, sizeLine_eq]; omega) ⟨e4, q4⟩ fun h₅ hl₅ hs₅ => ?_
      obtain ⟨e5, q5⟩ := hl₅
      refine ⟨n + 1 - (ys.length + 1), by omega, h₅, tk₄, ys ++ [y], news₄, oI2, _, rfl, (by rw [List.length_append, List.length_singleton]; exact hlt), (by rw [List.length_append, List.length_singleton]), ?_, hn4.sameBut hs₅ hDC.symm, ?_, hJ4⟩
      · rw [List.length_append, List.length_singleton]
        refine W.frame _ _ _ hst₂ fun b hb o e => ?_
        obtain rfl := List.mem_singleton.mp hb
        rw [hoI2] at e
        obtain rfl := Option.some.inj e
        exact hs₅.extBut _ _ DI.symm hL4.it
      · exact ⟨fun b o e => hs₅.extBut b o (fun q => by subst q; rw [gD] at e; cases e) (hL4.keep b o e), hs₅.extBut _ _ DI.symm hL4.it, hs₅.extBut _ _ DL.symm hL4.fr, ⟨e5, by rw [q5]; simp [PySem.W.listOf]⟩, fun p hp => ⟨hs₅.extBut _ _ (hL4.apart p hp).2.1 (hL4.at_ p hp).1, (hL4.at_ p hp).2⟩, hL4.apart⟩
    · have hin : ys.length = n := by omega
      refine W.done _ _ _ (hin ▸ hst') fun h₂ tk₂ hk₂ => ?_
      have up : ∀ b o, b ≠ I → H.get? b = some o → h₂.get? b = some o := fun b o n2 e => hk₂ b o (by simpa using n2) e
      obtain ⟨eA, qA⟩ := hL.acc
      exact hRR _ _ ys h₂ tk₂ news₃ _ m₃ hin hJ ⟨fun b o e => up b o (fun q => by subst q; rw [gI] at e; cases e) (hL.keep b o e), up _ _ DI qA, up _ _ IL.symm hL.fr, ⟨eA, up _ _ DI qA⟩, fun p hp => ⟨up _ _ (hL.apart p hp).1 (hL.at_ p hp).1, (hL.at_ p hp).2⟩, fun p hp => ⟨(hL.apart p hp).2.1, (hL.apart p hp).2⟩⟩ (hn'.at' fun o e => up _ _ CI.symm e) hDC CL DL gD gC fC
  exact codeAny_compStart_list (loop _ rfl) (W.self 0 _ _ _ hst₁ (loop _ rfl))

/-- what stands behind the iterator of such a comprehension -/
def CompEf (w : World) (A : Around) (g : Heap) (env : Env) (elt : Expr) (scope : Scope) (cl : List (Str × Addr)) (x : Str) (um : Addr → (Str → Option Value) → Str → Option Value) (K : Value → Heap → Nat → Prop) (it : Value) (s : Shared) : Prop :=
  ∃ (I : Addr) (n : Nat) (P : Nat → Value → Prop) (St : Nat → Heap → Prop) (m : Str → Option Value) (news : List (Addr × Obj)) (J : List Value → List (Addr × Obj) → Prop), it = .ref I ∧ Walks PR w A I [I] [I] n P St ∧ (∀ i h, St i h → ∃ o, h.get? I = some o) ∧ n ≤ 1000 ∧ St 0 s.heap ∧
    Fr g env.locals s.heap m ∧ News g env.locals s.heap news ∧ g.get? I = none ∧ I ≠ env.locals ∧ (∀ p ∈ news, p.1 ≠ I) ∧ J [] news ∧
    (∀ C D i v ys h tk news₃ oI oL m₃ E', i < n → P i v → ys.length = i → J ys news₃ → Led g C I D env.locals h ys oI oL news₃ → Fr g C h m₃ → m₃ x = some v → I ≠ C → D ≠ C → env.locals ≠ C → D ≠ I → D ≠ env.locals → g.get? D = none →
      wpAny (model PR w) A (eval elt (compEnvC scope cl C env)) (fun y s₄ => ∃ h' tk' news₄ m₄, s₄ = ⟨h', s.gens, s.drawn, tk', s.os⟩ ∧ Led g C I D env.locals h' ys oI oL news₄ ∧ h'.Ns C m₄ ∧ J (ys ++ [y]) news₄) E' ⟨h, s.gens, s.drawn, tk, s.os⟩) ∧
    ∀ D ys h tk news₃, ys.length = n → J ys news₃ → Fr g env.locals h (um D m) → News g env.locals h news₃ → D ≠ env.locals → g.get? D = none → (∀ p ∈ news₃, p.1 ≠ D) → (∃ e, h.get? D = some (PySem.W.listOf ys.toArray e)) → K (.ref D) h tk
theorem comp_eff {elt iter : Expr} {x : Str} {px : Pos} {scope : Scope} {cl : List (Str × Addr)} {pos : Pos} {env : Env} {Q : Value → Shared → Prop}
    (hclos : closureFor scope env = pure cl) (hcell : ∀ y ∈ scope.names, y.2 ≠ .cell) (hkind : scope.kind = .function)
    (hnames : ∀ y ∈ scope.names, y.2 = .local → scope.names.lookup y.1 = some .local) (hx : scope.names.lookup x = some .local)
    (h : wpAny (model PR w) A (eval iter env) (fun xv s₁ => wpAny (model PR w) A (pyIter xv) (fun it s₂ => CompEf w A g env elt scope cl x (fun _ m => m) (fun v h tk => Q v ⟨h, s₂.gens, s₂.drawn, tk, s₂.os⟩) it s₂) E s₁) E s)
    (hs : ∀ x, foldedSetIterable iter env x = pure x := by intro _; rfl) :
    wpAny (model PR w) A (eval (.ListComp elt [⟨.Name x px, iter, [], 0⟩] scope pos) env) Q E s := by
  rw [eval_ListComp]
  refine wpAny_comprehension_free (use := none) rfl hs hclos hkind hnames (wpAny_mono h (fun xv s₁ h₁ => wpAny_mono h₁ (fun it s₂ h₂ => ?_) fun _ _ e => e) fun _ _ e => e)
  obtain ⟨I, n, P, St, m, news, J, rfl, W, hob, hsz, hst, F, N, gI, IL, NI, h0, step, done⟩ := h₂
  obtain ⟨oL, es, ep, hoL, hdL⟩ := id F.ns
  refine comp_core (RR := fun acc C => compPost (model PR w) A E none Q acc C) J W hob hsz hcell hkind hx hst gI ?_ IL hoL F.keep ?_ (fun p hp => ⟨(N p hp).1, (N p hp).2.2, NI p hp, (N p hp).2.1⟩) h0 ?_ ?_
  · exact Heap.get?_none_of_le F.above
  · exact Nat.le_of_lt (Nat.lt_of_le_of_lt F.above F.ns.lt)
  · intro C D i v ys h tk news₃ oI m₃ E' a1 a2 a3 a4 a5 a6 a7 a8 a9 b1 b2 b3 b4 b5
    exact step C D i v ys h tk news₃ oI oL m₃ E' a1 a2 a3 a4 a5 a6 a7 a8 a9 b1 b2 b3 b4
  · intro C D ys h tk news₃ oD m₃ hl hJ hL hn DC LC DL gD gC fC
    refine ⟨m₃, hn, fun h' hs' => ?_⟩
    have up : ∀ b o, b ≠ C → h.get? b = some o → h'.get? b = some o := fun b o n e => hs'.extBut b o n e
    refine done D ys h' tk news₃ hl hJ ⟨?_, fun b o e => up b o (fun q => by subst q; rw [gC] at e; cases e) (hL.keep b o e), F.above⟩ (fun p hp => ⟨up _ _ (hL.at_ p hp).2.1 (hL.at_ p hp).1, (hL.apart p hp).2.2, (hL.at_ p hp).2.2⟩) DL gD (fun p hp => (hL.apart p hp).2.1) (let ⟨e, q⟩ := hL.acc; ⟨e, up _ _ DC q⟩)
    exact ⟨oL, es, ep, up _ _ LC hL.fr, hdL⟩
theorem comp_eff_as {elt iter : Expr} {x y : Str} {px py : Pos} {scope : Scope} {cl : List (Str × Addr)} {pos spos : Pos} {env : Env} {Q : Flow → Shared → Prop}
    (hsw : swapsWith (.ListComp elt [⟨.Name x px, iter, [], 0⟩] scope pos) (some (.Name y py)) spos.line env = pure true)
    (hclos : closureFor scope env = pure cl) (hcell : ∀ y ∈ scope.names, y.2 ≠ .cell) (hkind : scope.kind = .function)
    (hnames : ∀ y ∈ scope.names, y.2 = .local → scope.names.lookup y.1 = some .local) (hx : scope.names.lookup x = some .local)
    (hy : env.kindOf y = some .local) (hp : (env.scope.kind == .class || (env.scope.kind == .module && env.locals != env.globals)) = false)
    (h : wpAny (model PR w) A (eval iter env) (fun xv s₁ => wpAny (model PR w) A (pyIter xv) (fun it s₂ => CompEf w A g env elt scope cl x (fun D m z => if z = y then some (.ref D) else m z) (fun _ h tk => Q .next ⟨h, s₂.gens, s₂.drawn, tk, s₂.os⟩) it s₂) E s₁) E s)
    (hs : ∀ x, foldedSetIterable iter env x = pure x := by intro _; rfl) :
    wpAny (model PR w) A (exec (.Assign [.Name y py] (.ListComp elt [⟨.Name x px, iter, [], 0⟩] scope pos) spos) env) Q E s := by
  rw [exec_Assign_Name_used _ _ _ _ hsw]
  refine wpAny_bind (wpAny_standAt (wpAny_bind ?_))
  show wpAny _ A (do let _ ← comprehension (.ListComp elt [⟨.Name x px, iter, [], 0⟩] scope pos) scope env _ (newList []) false (eval iter env) (some (assign (.Name y py) env))) _ _ s
  refine wpAny_bind (wpAny_mono (wpAny_comprehension_free (use := some (assign (.Name y py) env)) (Q := fun _ s' => Q .next s') rfl hs hclos hkind hnames
    (wpAny_mono h (fun xv s₁ h₁ => wpAny_mono h₁ (fun it s₂ h₂ => ?_) fun _ _ e => e) fun _ _ e => e)) (fun _ s' hq => wpAny_pure (wpAny_pure hq)) fun _ _ e => e)
  obtain ⟨I, n, P, St, m, news, J, rfl, W, hob, hsz, hst, F, N, gI, IL, NI, h0, step, done⟩ := h₂
  obtain ⟨oL, es, ep, hoL, hdL⟩ := id F.ns
  refine comp_core (RR := fun acc C => compPost (model PR w) A E (some (assign (.Name y py) env)) (fun _ s' => Q .next s') acc C) J W hob hsz hcell hkind hx hst gI ?_ IL hoL F.keep ?_ (fun p hp => ⟨(N p hp).1, (N p hp).2.2, NI p hp, (N p hp).2.1⟩) h0 ?_ ?_
  · exact Heap.get?_none_of_le F.above
  · exact Nat.le_of_lt (Nat.lt_of_le_of_lt F.above F.ns.lt)
  · intro C D i v ys h tk news₃ oI m₃ E' a1 a2 a3 a4 a5 a6 a7 a8 a9 b1 b2 b3 b4 b5
    exact step C D i v ys h tk news₃ oI oL m₃ E' a1 a2 a3 a4 a5 a6 a7 a8 a9 b1 b2 b3 b4
  · intro C D ys h tk news₃ oD m₃ hl hJ hL hn DC LC DL gD gC fC
    show wpAny _ A (assign (.Name y py) env (.ref D)) _ _ _
    have hnL : h.Ns env.locals m := ⟨oL, es, ep, hL.fr, hdL⟩
    have gL : g.get? env.locals = none := Heap.get?_none_of_le F.above
    refine wpAny_assign_Name (wpAny_storeName_local hy hnL (fun h₂ hn₂ hs₂ => ?_) hp)
    refine ⟨m₃, hn.sameBut hs₂ LC.symm, fun h' hs' => ?_⟩
    have up : ∀ b o, b ≠ env.locals → b ≠ C → h.get? b = some o → h'.get? b = some o := fun b o n1 n e => hs'.extBut b o n (hs₂.extBut b o n1 e)
    refine done D ys h' _ news₃ hl hJ ⟨?_, fun b o e => up b o (fun q => by subst q; rw [gL] at e; cases e) (fun q => by subst q; rw [gC] at e; cases e) (hL.keep b o e), F.above⟩ (fun p hp => ⟨up _ _ (hL.apart p hp).2.2 (hL.at_ p hp).2.1 (hL.at_ p hp).1, (hL.apart p hp).2.2, (hL.at_ p hp).2.2⟩) DL gD (fun p hp => (hL.apart p hp).2.1) (let ⟨e, q⟩ := hL.acc; ⟨e, up _ _ DL DC q⟩)
    exact hn₂.sameBut hs' LC
/-- behind one element -/
def EltPost (g : Heap) (C I D L : Addr) (oI oL : Obj) (ys : List Value) (e : Nat) (s : Shared) (J : List Value → List (Addr × Obj) → Prop) (y : Value) (s₄ : Shared) : Prop :=
  ∃ h' tk' news₄ m₄, s₄ = ⟨h', s.gens, s.drawn, tk', s.os⟩ ∧ Fr g C h' m₄ ∧ News g C h' (news₄ ++ [(I, oI), (D, PySem.W.listOf ys.toArray e), (L, oL)]) ∧ (∀ p ∈ news₄, p.1 ≠ I ∧ p.1 ≠ D ∧ p.1 ≠ L) ∧ J (ys ++ [y]) news₄
theorem compEf_range {elt : Expr} {x : Str} {scope : Scope} {cl : List (Str × Addr)} {env : Env} {um : Addr → (Str → Option Value) → Str → Option Value} {K : Shared → Value → Heap → Nat → Prop} {r : Addr} {b : Int} {t₁ t₂ t₃ : Tok} {n : Nat} {m : Str → Option Value} {news : List (Addr × Obj)} {L : Addr} (hL : env.locals = L) (J : List Value → List (Addr × Obj) → Prop)
    (hh : A.handled = none) (hr : IsRange s.heap r 0 b 1 t₁ t₂ t₃) (hb : b = (n : Int)) (hz : n ≤ 1000) (F : Fr g L s.heap m) (N : News g L s.heap news) (h0 : J [] news)
    (step : ∀ C D I i ys h tk news₃ oI oL m₃ e E', i < n → ys.length = i → J ys news₃ → Fr g C h m₃ → News g C h (news₃ ++ [(I, oI), (D, PySem.W.listOf ys.toArray e), (L, oL)]) → (∀ p ∈ news₃, p.1 ≠ I ∧ p.1 ≠ D ∧ p.1 ≠ L) →
      wpAny (model PR w) A (eval elt (compEnvC scope cl C env)) (EltPost g C I D L oI oL ys e ⟨h, s.gens, s.drawn, tk, s.os⟩ J) E' ⟨h, s.gens, s.drawn, tk, s.os⟩)
    (done : ∀ D ys h tk news₃ e, ys.length = n → J ys news₃ → Fr g L h (um D m) → News g L h ((D, PySem.W.listOf ys.toArray e) :: news₃) → (∀ p ∈ news₃, p.1 ≠ D) → K s (.ref D) h tk)
    (hK : ∀ h0, K { s with heap := h0 } = K s) :
    wpAny (model PR w) A (pyIter (.ref r)) (fun it s₂ => CompEf w A g env elt scope cl x um (K s₂) it s₂) E s := by
  subst hb
  subst hL
  refine wpAny_pyIter_range hr ?_ ?_
  · exact small_one (by omega) (by omega) (by omega) (by omega)
  have hs1 : ∀ p ∈ news, p.1 ≠ s.heap.objs.size := fun p hp => Nat.ne_of_lt (Heap.lt_size (N p hp).1)
  have gL : g.get? env.locals = none := Heap.get?_none_of_le F.above
  refine ⟨s.heap.objs.size, n, _, _, m, news, J, rfl, (Walks.range hh _ 0 1 n).bound, fun i h st => ⟨_, st⟩, hz, ?_, F.push _, fun p hp => ⟨Heap.get?_push_of_some _ (N p hp).1, (N p hp).2⟩, none_of F.keep (Heap.get?_none_of_le (Nat.le_refl _)), (Nat.ne_of_lt F.ns.lt).symm, hs1, h0, ?_, ?_⟩
  · have hn : Builtin.Range.rangeSize 0 (n : Int) 1 = (n : Int) := by unfold Builtin.Range.rangeSize; simp; omega
    show IsRangeIter _ _ _ _ _
    rw [hn]; simpa using Heap.get?_push_size _ rfl
  · intro C D i v ys h tk news₃ oI oL m₃ E' a1 a2 a3 a4 a5 a6 a7 a8 a9 b1 b2 b3 b4
    obtain ⟨e, hD⟩ := a5.acc
    refine wpAny_mono (step C D _ i ys h tk news₃ oI oL m₃ e E' a1 a3 a4 a6 ?_ a5.apart) (fun y s₄ q => ?_) fun _ _ q => q
    · intro p hp
      rcases List.mem_append.mp hp with q | q
      · exact a5.at_ p q
      · simp only [List.mem_cons, List.not_mem_nil, or_false] at q
        rcases q with rfl | rfl | rfl
        · exact ⟨a5.it, a8, none_of F.keep (Heap.get?_none_of_le (Nat.le_refl _))⟩
        · exact ⟨hD, a9, b4⟩
        · exact ⟨a5.fr, b1, gL⟩
    · obtain ⟨h', tk', news₄, m₄, rfl, F4, N4, ap4, J4⟩ := q
      refine ⟨h', tk', news₄, m₄, rfl, ⟨F4.keep, (N4 _ (List.mem_append_right _ (.head _))).1, (N4 _ (List.mem_append_right _ (.tail _ (.tail _ (.head _))))).1, ⟨e, (N4 _ (List.mem_append_right _ (.tail _ (.head _)))).1⟩, fun p hp => N4 p (List.mem_append_left _ hp), ap4⟩, F4.ns, J4⟩
  · intro D ys h tk news₃ a1 a2 a3 a4 a5 a6 a7 a8
    obtain ⟨e, hD⟩ := a8
    rw [hK]
    exact done D ys h tk news₃ e a1 a2 a3 (List.forall_mem_cons.mpr ⟨⟨hD, a5, a6⟩, a4⟩) a7
end
end
local macro_rules | `(tactic| walk_at "pyIter ref") => `(tactic| (k_here; (with_reducible show wpAny _ _ (pyIter (Value.ref _)) (fun it s₂ => CompEf _ _ _ _ _ _ _ _ _ _ it s₂) _ _); refine halt ?_))
/-! Nx -/
section
/-- the law's state as it stands in the ledger -/
def StO (sc : Addr) (n : Nat) (o : Obj) : Prop := ∃ i u1 q u2 e1, o = PySem.W.listOf [.ref sc, .int i u1, .int q u2].toArray e1 ∧ 0 ≤ i ∧ i ≤ (n : Int) ∧ 0 ≤ q ∧ q < 2147483647
theorem pool_get {k : Int} (h : 0 ≤ k ∧ k < 9) : ∃ v, poolL[k.toNat]? = some v ∧ Pv v := by
  have hl : poolL.length = 9 := rfl
  have : k.toNat < poolL.length := by rw [hl]; omega
  exact ⟨poolL[k.toNat], List.getElem?_eq_getElem this, List.getElem_mem this⟩
section
variable {w : World} {A : Around} {E : Value → Shared → Prop} {s : Shared} {mg mb : Str → Option Value} {g : Heap} {L st sc : Addr} {m : Str → Option Value} {news : List (Addr × Obj)} {us : List Value} {e : Nat} {Q : Value → Shared → Prop} {value slice : PySem.Expr}
theorem k_next {o : Obj} {many : Int} {um : Tok} {news' : Obj → List (Addr × Obj)} (B : Base w mg mb g) (F : Fr g L s.heap m) (N : News g L s.heap news) (I : StO sc us.length o) (iv : ∀ v ∈ us, ∃ n t, v = .int n t) (hl : us.length ≤ 60) (hsc : (sc, PySem.W.listOf us.toArray e) ∈ news)
    (U : ∀ o', Upd st o o' news (news' o')) (hm : 1 ≤ many ∧ many ≤ 20) (hh : A.handled = none) (hd' : A.depth ≤ 900) (hu : A.units ≤ 8000)
    (h : ∀ i' u1' q' u2' e1' h' tk r u, StO sc us.length (PySem.W.listOf [.ref sc, .int i' u1', .int q' u2'].toArray e1') → Fr g L h' m → News g L h' (news' (PySem.W.listOf [.ref sc, .int i' u1', .int q' u2'].toArray e1')) → 0 ≤ r → r < many → Q (.int r u) { s with heap := h', toks := tk }) :
    wpAny (model PR w) A (call (.ref 242) [.ref st, .int many um]) Q E s := by
  have hst : (st, o) ∈ news := by
    obtain ⟨pre, post, e1, _⟩ := (U o).split
    rw [e1]; simp
  obtain ⟨i, u1, q, u2, e1, rfl, i0, i1, q0, q1⟩ := I
  refine use_at (A := A1) (next_spec B F.keep ⟨⟨i, u1, q, u2, e1, e, (N _ hst).1, (N _ hsc).1, i0, i1, q0, q1⟩, iv, hl⟩ (N _ hst).2.2 (N _ hsc).2.2 hm fun h' tk r u md I' r0 r1 => ?_) hh hd' rfl rfl hu
  obtain ⟨⟨i', v1, q', v2, e1', e2', ost, _, j0, j1, p0, p1⟩, _, _⟩ := I'
  obtain ⟨F', N'⟩ := led F N md (U _) ost
  exact h _ _ _ _ _ h' tk r u ⟨_, _, _, _, _, rfl, j0, j1, p0, p1⟩ F' N' r0 r1
theorem k_pool {k : Int} {u : Tok} (X : (hd.heap_39 w.params).In s.heap) (h0 : 0 ≤ k) (h9 : k < 9) (h : ∀ v, Pv v → Q v s)
    (hs : subscripted slice false (.ref 247) (.int k u) = operate [.ref 247, .int k u] (getItem (.ref 247) (.int k u)) := by with_unfolding_all rfl) :
    wpAny (model PR w) A (subscriptTail value slice (.ref 247) (.int k u)) Q E s := by
  obtain ⟨v, hv, pv⟩ := pool_get ⟨h0, h9⟩
  have hl : s.heap.get? 247 = some (PySem.W.listOf poolL.toArray 0) := X _ _ rfl
  exact tail_any (listAt hl).typeIs slot_list_getitem.lookup (wpAny_getItem_list (listAt hl) h0 (by omega) (by simpa using hv) (h v pv)) hs
end
section
variable {M : Model} {A : Around} {E : Value → Shared → Prop} {s : Shared} {K : Frag} {g : Heap} {L C c : Addr} {m mg mb : Str → Option Value} {news : List (Addr × Obj)} {scope : Scope} {cl : List (Str × Addr)} {env : Env} {p : Program} {loose : List Str} {x : Str} {pos : Pos} {v : Value} {o : Obj} {Q : Value → Shared → Prop}
theorem ce_global (F : Fr g L s.heap m) (X : K.In g) (T : TopRead p loose mg mb g) (e : nsIn K mainGlobals x = some (some v)) (h : Q v s) (hg : env.globals = mainGlobals)
    (hk : (compEnvC scope cl C env).scope.kind = .function) (hx : (compEnvC scope cl C env).kindOf x = some .globalImplicit) (hd : (x == ("__debug__" : Str)) = false) :
    wpAny M A (eval (.Name x pos) (compEnvC scope cl C env)) Q E s :=
  Name_function_global hk hx (loadGlobal_global (env := compEnvC scope cl C env) (show s.heap.Ns env.globals mg from hg ▸ (T.keeps F.keep).g) (mg_of X T.g e) h) hd
theorem ce_built (F : Fr g L s.heap m) (X : K.In g) (T : TopRead p loose mg mb g) (e : nsIn K mainGlobals x = some none) (hv : bootBuiltins x = some v) (hn : x ≠ "__name__") (h : Q v s) (hg : env.globals = mainGlobals) (hb : env.builtins = builtinsNs)
    (hk : (compEnvC scope cl C env).scope.kind = .function) (hx : (compEnvC scope cl C env).kindOf x = some .globalImplicit) (hd : (x == ("__debug__" : Str)) = false) :
    wpAny M A (eval (.Name x pos) (compEnvC scope cl C env)) Q E s :=
  Name_function_global hk hx (loadGlobal_builtin (env := compEnvC scope cl C env) (show s.heap.Ns env.globals mg from hg ▸ (T.keeps F.keep).g) (mg_none_of X T.g e) (show s.heap.Ns env.builtins mb from hb ▸ (T.keeps F.keep).b) ((T.builtins x hn).trans hv) h) hd
theorem ce_cell (N : News g L s.heap news) (hc : cl.lookup x = some c) (hm : (c, o) ∈ news) (hd : o.data = .cell (some v)) (h : Q v s)
    (hk : (compEnvC scope cl C env).scope.kind = .function) (hx : (compEnvC scope cl C env).kindOf x = some .cell) (hb : (x == ("__debug__" : Str)) = false := by decide) :
    wpAny M A (eval (.Name x pos) (compEnvC scope cl C env)) Q E s := wpAny_Name (wpAny_loadName_cell hk hx hc ⟨o, N.get hm, hd⟩ h) hb
theorem ce_free (N : News g L s.heap news) (hc : cl.lookup x = some c) (hm : (c, o) ∈ news) (hd : o.data = .cell (some v)) (h : Q v s)
    (hk : (compEnvC scope cl C env).scope.kind = .function) (hx : (compEnvC scope cl C env).kindOf x = some .free) (hb : (x == ("__debug__" : Str)) = false := by decide) (hn : (x == ("__classdict__" : Str)) = false := by decide) :
    wpAny M A (eval (.Name x pos) (compEnvC scope cl C env)) Q E s := wpAny_Name (wpAny_loadName_free hk hx hc ⟨o, N.get hm, hd⟩ h hn) hb
end
end
local macro_rules | `(tactic| walk_at "eval Name") => `(tactic| (k_here; (with_reducible show wpAny _ _ (eval (Expr.Name _ _) (compEnvC _ _ _ _)) _ _ _); k_dflt (first | (refine' ce_cell ?N ?c ?m ?d ?_ ?a ?b; (case a => rfl); (case b => rfl); (case N => k_asm); (case c => rfl); (case m => k_mem); (case d => k_asm); k_whole) | (refine' ce_free ?N ?c ?m ?d ?_ ?a ?b; (case a => rfl); (case b => rfl); (case N => k_asm); (case c => rfl); (case m => k_mem); (case d => k_asm); k_whole) | (refine' ce_global ?F ?X ?T ?e ?_ ?g ?k ?x ?dd; (case g => rfl); (case k => rfl); (case x => rfl); (case dd => decide); (case F => k_asm); (case X => k_asm); (case T => k_asm); (case e => k_is); k_whole) | (refine' ce_built ?F ?X ?T ?e ?v ?n ?_ ?g ?bb ?k ?x ?dd; (case g => rfl); (case bb => rfl); (case k => rfl); (case x => rfl); (case dd => decide); (case F => k_asm); (case X => k_asm); (case T => k_asm); (case e => k_is); (case v => boot_by_name); (case n => decide); k_whole))))
local macro_rules | `(tactic| walk_at "call ref") => `(tactic| (k_here; (with_reducible show wpAny _ _ (call (Value.ref 242) [Value.ref _, Value.int _ _]) _ _ _); k_dflt (refine' k_next ?b ?k1 ?k2 ?k3 ?k4 ?k5 ?k6 ?k7 ?k8 ?hh ?hd ?hu ?_; (case b => assumption); (case k1 => k_asm); (case k2 => k_asm); (case k3 => assumption); (case k4 => assumption); (case k5 => assumption); (case k6 => k_mem); (case k7 => intro _; k_upd); (case k8 => omega); (case hh => exact rfl); (case hd => k_units); (case hu => k_units); k_whole); intro ji jt jq jv je h' tk' r' u' I' F' N' r0 r1; (try k_sweep)))
local macro_rules | `(tactic| walk_at "subscriptTail Name Call ref int") => `(tactic| (k_here; (with_reducible show wpAny _ _ (subscriptTail _ _ (Value.ref 247) (Value.int _ _)) _ _ _); k_dflt (refine' k_pool ?k1 ?k2 ?k3 ?_; (case k1 => k_in); (case k2 => assumption); (case k3 => assumption); k_whole); intro v' pv'))
local macro_rules | `(tactic| walk_at "exec Assign cons ListComp") => `(tactic| (k_here; refine halt ?_))
/-! Mk -/
section
theorem neCell {h : Heap} {a c : Addr} {its : Array Value} {k : Nat} {o : Obj} {v : Option Value} (e1 : h.get? a = some (PySem.W.listOf its k)) (e2 : h.get? c = some o) (d : o.data = .cell v) : a ≠ c := fun q => by
  subst q
  rw [e1] at e2
  obtain rfl := Option.some.inj e2
  cases d
theorem neCell' {h : Heap} {a c : Addr} {o' o : Obj} {v : Option Value} (e1 : h.get? a = some o') (e2 : h.get? c = some o) (d : o.data = .cell v) (d' : o'.data ≠ .cell v) : a ≠ c := fun q => by
  subst q
  rw [e1] at e2
  obtain rfl := Option.some.inj e2
  exact d' d
theorem neNews {g h : Heap} {L a c : Addr} {o o' : Obj} {news : List (Addr × Obj)} (N : News g L h news) (ha : (a, o) ∈ news) (hc : (c, o') ∈ news) (d : o ≠ o') : a ≠ c := fun q => by
  subst q
  exact d (Option.some.inj ((N _ ha).1.symm.trans (N _ hc).1))
theorem neD {o o' : Obj} {d : Data} (e : o'.data = d) (n : o.data ≠ d) : o ≠ o' := fun q => n (by rw [q, e])
theorem neD' {o o' : Obj} {d : Data} (e : o.data = d) (n : o'.data ≠ d) : o ≠ o' := fun q => n (by rw [← q, e])
theorem neC {o o' : Obj} (n : o.cls ≠ o'.cls) : o ≠ o' := fun q => n (by rw [q])
theorem neDD {o o' : Obj} (n : o.data ≠ o'.data) : o ≠ o' := fun q => n (by rw [q])
end
local macro_rules | `(tactic| k_ne) => `(tactic| (refine neN ?_; (try dsimp only); first | assumption | exact Ne.symm (by assumption) | exact Nat.ne_of_lt (by assumption) | exact Nat.ne_of_gt (by assumption) | omega | (refine neNews (by k_asm) (by k_mem) (by k_mem) ?_; first | exact set_ne_list | exact Ne.symm set_ne_list | exact dict_ne_list | exact Ne.symm dict_ne_list | exact set_ne_dict | exact Ne.symm set_ne_dict | exact neD (by assumption) (by nofun) | exact neD' (by assumption) (by nofun) | exact neC (by nofun) | exact neDD (by nofun))))
section
section
variable {w : World} {A : Around} {E : Value → Shared → Prop} {s : Shared} {mg mb : Str → Option Value} {g : Heap} {L l : Addr} {m : Str → Option Value} {news : List (Addr × Obj)} {ms : List Value} {e : Nat} {Q : Value → Shared → Prop}
theorem k_make {T : String} {o : Obj} {OK : Heap → Prop} (K : RowSrc w T l ms OK) (hok : ∀ h : Heap, h.get? l = some o → OK h) (hos : ∀ c d es ep t sl, setO c d es ep t sl ≠ o) (B : Base w mg mb g) (F : Fr g L s.heap m) (N : News g L s.heap news) (hl : (l, o) ∈ news) (pv : ∀ v ∈ ms, Pv v)
    (hh : A.handled = none) (hd' : A.depth + 1 ≤ 800) (hu : A.units + 200 ≤ 6000)
    (h : ∀ h' tk S dx l' es ep t e', Fr g L h' m → News g L h' ((S, setO (.ref 232) (some dx) es ep t #[some (.ref l')]) :: (dx, dictE) :: (l', PySem.W.listOf (addAll [] ms).toArray e') :: news) → SFact w es t (inL (addAll [] ms)) → (∀ v ∈ addAll [] ms, Pv v) → ((addAll [] ms).map cl).Nodup → (∀ p ∈ news, p.1 ≠ S ∧ p.1 ≠ dx ∧ p.1 ≠ l') → Q (.ref S) { s with heap := h', toks := tk }) :
    wpAny (model PR w) A (call (.ref 232) [.ref l]) Q E s :=
  make_spec K hok B F.keep (N _ hl).1 (N _ hl).2.2 pv hos hh hd' hu fun h' tk S dx l' md nS nd' nl I => by
    obtain ⟨es, ep, t, e', F', N', f, p1, p2, ap⟩ := led_oset F N md nS nd' nl I
    exact h h' tk S dx l' es ep t e' F' N' f p1 p2 ap
theorem k_makeL (B : Base w mg mb g) (F : Fr g L s.heap m) (N : News g L s.heap news) (hl : (l, PySem.W.listOf ms.toArray e) ∈ news) (pv : ∀ v ∈ ms, Pv v) (hh : A.handled = none) (hd' : A.depth + 1 ≤ 800) (hu : A.units + 200 ≤ 6000)
    (h : ∀ h' tk S dx l' es ep t e', Fr g L h' m → News g L h' ((S, setO (.ref 232) (some dx) es ep t #[some (.ref l')]) :: (dx, dictE) :: (l', PySem.W.listOf (addAll [] ms).toArray e') :: news) → SFact w es t (inL (addAll [] ms)) → (∀ v ∈ addAll [] ms, Pv v) → ((addAll [] ms).map cl).Nodup → (∀ p ∈ news, p.1 ≠ S ∧ p.1 ≠ dx ∧ p.1 ≠ l') → Q (.ref S) { s with heap := h', toks := tk }) :
    wpAny (model PR w) A (call (.ref 232) [.ref l]) Q E s :=
  k_make (rowList w l ms) (fun h q => listAt q) (fun _ _ _ _ _ _ => set_ne_list) B F N hl pv hh hd' hu h
theorem k_makeT (B : Base w mg mb g) (F : Fr g L s.heap m) (N : News g L s.heap news) (hl : (l, tupO ms) ∈ news) (pv : ∀ v ∈ ms, Pv v) (hh : A.handled = none) (hd' : A.depth + 1 ≤ 800) (hu : A.units + 200 ≤ 6000)
    (h : ∀ h' tk S dx l' es ep t e', Fr g L h' m → News g L h' ((S, setO (.ref 232) (some dx) es ep t #[some (.ref l')]) :: (dx, dictE) :: (l', PySem.W.listOf (addAll [] ms).toArray e') :: news) → SFact w es t (inL (addAll [] ms)) → (∀ v ∈ addAll [] ms, Pv v) → ((addAll [] ms).map cl).Nodup → (∀ p ∈ news, p.1 ≠ S ∧ p.1 ≠ dx ∧ p.1 ≠ l') → Q (.ref S) { s with heap := h', toks := tk }) :
    wpAny (model PR w) A (call (.ref 232) [.ref l]) Q E s :=
  k_make (rowTuple w l ms) (fun h q => ⟨_, q, rfl, 0, rfl⟩) (fun _ _ _ _ _ _ q => by have := congrArg Obj.data q; cases this) B F N hl pv hh hd' hu h
theorem k_tupL (F : Fr g L s.heap m) (N : News g L s.heap news) (hl : (l, PySem.W.listOf ms.toArray e) ∈ news) (hz : ms.length ≤ 1000)
    (h : ∀ D h', Fr g L h' m → News g L h' ((D, tupO ms) :: news) → (∀ p ∈ news, p.1 < D) → Q (.ref D) { s with heap := h' }) : wpAny (model PR w) A (call (.type "tuple") [.ref l]) Q E s := by
  refine call_tuple_list (listAt (N _ hl).1) (fun h' hk => ?_) (szL hz)
  have F' : Fr g L h' m := F.keeps hk
  have N' : News g L h' news := fun p hp => ⟨hk _ _ (N p hp).1, (N p hp).2⟩
  exact h _ _ (F'.push _) (N'.push F' _) fun p hp => Heap.lt_size (N' p hp).1
end
end
local macro_rules | `(tactic| walk_at "call type:tuple") => `(tactic| (k_here; (with_reducible show wpAny _ _ (call (Value.type "tuple") [Value.ref _]) _ _ _); k_dflt (refine' k_tupL ?k1 ?k2 ?k3 ?k4 ?_; (case k1 => k_asm); (case k2 => k_asm); (case k3 => k_mem); (case k4 => assumption); k_whole); intro D' h' F' N' l1; (try k_lt l1); (try k_sweep)))
local macro_rules | `(tactic| walk_at "call ref") => `(tactic| (k_here; (with_reducible show wpAny _ _ (call (Value.ref 232) [Value.ref _]) _ _ _); k_dflt (refine' k_makeT ?b ?k1 ?k2 ?k3 ?p1 ?hh ?hd ?hu ?_; (case b => assumption); (case k1 => k_asm); (case k2 => k_asm); (case k3 => k_mem); (case p1 => assumption); (case hh => exact rfl); (case hd => k_units); (case hu => k_units); k_whole); intro h' tk' S' dx' l' es' ep' t' e' F' N' f' pv' nd' ap'; (try k_sweep)))
local macro_rules | `(tactic| walk_at "call ref") => `(tactic| (k_here; (with_reducible show wpAny _ _ (call (Value.ref 232) [Value.ref _]) _ _ _); k_dflt (refine' k_makeL ?b ?k1 ?k2 ?k3 ?p1 ?hh ?hd ?hu ?_; (case b => assumption); (case k1 => k_asm); (case k2 => k_asm); (case k3 => k_mem); (case p1 => assumption); (case hh => exact rfl); (case hd => k_units); (case hu => k_units); k_whole); intro h' tk' S' dx' l' es' ep' t' e' F' N' f' pv' nd' ap'; (try k_sweep)))
/-! Fo -/
section
section
variable {w : World} {A : Around} {E : Value → Shared → Prop} {s : Shared} {g : Heap} {env : Env} {Q : Flow → Shared → Prop} {x : Str} {px pos : Pos} {iter : Expr} {body : List Stmt}
/-- behind one turn of a loop whose turns change things -/
def TurnEnd (Q : Flow → Shared → Prop) (s : Shared) (J : Heap → Prop) (I : Addr) (oI : Obj) (f : Flow) (s₃ : Shared) : Prop := match f with
  | .next | .cont => ∃ h dr tk, s₃ = ⟨h, s.gens, dr, tk, s.os⟩ ∧ J h ∧ h.get? I = some oI
  | .brk => Q .next s₃
  | .ret v => Q (.ret v) s₃
def ForEf (w : World) (A : Around) (env : Env) (x : Str) (px : Pos) (body : List Stmt) (Q : Flow → Shared → Prop) (E : Value → Shared → Prop) (it : Value) (s : Shared) : Prop :=
  ∃ (I : Addr) (n : Nat) (P : Nat → Value → Prop) (St : Nat → Heap → Prop) (J : Heap → Prop), it = .ref I ∧ Walks PR w A I [I] [I] n P St ∧ (∀ i h, St i h → ∃ o, h.get? I = some o ∧ o.cls = .type "range_iterator") ∧ St 0 s.heap ∧
    (∀ h h', J h → (∀ b o, b ≠ I → h.get? b = some o → h'.get? b = some o) → J h') ∧ J s.heap ∧
    (∀ h dr tk v oI, oI.cls = .type "range_iterator" → h.get? I = some oI → J h → wpAny (model PR w) A (assign (.Name x px) env v) (fun _ s' => wpAny (model PR w) A (execs body env) (TurnEnd Q s J I oI) E s') E ⟨h, s.gens, dr, tk, s.os⟩) ∧
    ∀ h dr tk, J h → Q .next ⟨h, s.gens, dr, tk, s.os⟩
theorem for_eff (h : wpAny (model PR w) A (eval iter env) (fun xv s₁ => wpAny (model PR w) A (pyIter xv) (fun it s₂ => ForEf w A env x px body Q E it s₂) E s₁) E s)
    (hs : ∀ x, foldedSetIterable iter env x = pure x) (hE : PassesOwn (model PR w) A env E) : wpAny (model PR w) A (exec (.For (.Name x px) iter body [] pos) env) Q E s := by
  refine wpAny_For (wpAny_mono h (fun xv s₁ h₁ => wpAny_mono h₁ (fun it s₂ h₂ => ?_) fun _ _ e => e) fun _ _ e => e) hs
  obtain ⟨I, n, P, St, J, rfl, W, hob, hst, stab, h0, step, done⟩ := h₂
  refine codeAny_forLoop_any (R := fun r s' => match r with | .ok f => Q f s' | .error e => cameBackBy (model PR w) A env E e s')
    (fun k s' => ∃ h dr tk i, s' = ⟨h, s₂.gens, dr, tk, s₂.os⟩ ∧ St i h ∧ J h ∧ i ≤ n ∧ k = n + 1 - i) ?_ (n + 1) ⟨s₂.heap, s₂.drawn, s₂.toks, 0, rfl, hst, h0, Nat.zero_le _, rfl⟩
  rintro k s' ⟨h, dr, tk, i, rfl, hst', hJ, hi, rfl⟩
  by_cases hlt : i < n
  · refine W.item i _ _ _ hlt hst' fun v h₁ tk₁ hP hst₁ hk₁ => ?_
    obtain ⟨oI, hoI, hcI⟩ := hob _ _ hst₁
    have hJ1 := stab _ h₁ hJ fun b o n e => hk₁ b o (by simpa using n) e
    refine wpAny_pure ?_
    refine wpAny_mono (step h₁ dr tk₁ v oI hcI hoI hJ1) (fun _ s₂ h₂ => wpAny_mono (wpAny_mono h₂ (fun f s₃ h₃ => ?_) fun _ _ e => e) (fun _ _ e => e) hE) hE
    cases f with
    | ret v => exact h₃
    | brk => exact h₃
    | cont => 
      obtain ⟨h', dr', tk', rfl, hJ', hI'⟩ := h₃
      exact ⟨n + 1 - (i + 1), by omega, h', dr', tk', i + 1, rfl, W.frame _ _ _ hst₁ (fun b hb o e => by obtain rfl := List.mem_singleton.mp hb; rw [hoI] at e; obtain rfl := Option.some.inj e; exact hI'), hJ', hlt, rfl⟩
    | next =>
      obtain ⟨h', dr', tk', rfl, hJ', hI'⟩ := h₃
      exact ⟨n + 1 - (i + 1), by omega, h', dr', tk', i + 1, rfl, W.frame _ _ _ hst₁ (fun b hb o e => by obtain rfl := List.mem_singleton.mp hb; rw [hoI] at e; obtain rfl := Option.some.inj e; exact hI'), hJ', hlt, rfl⟩
  · have hin : i = n := by omega
    subst hin
    refine W.done _ _ _ hst' fun h₁ tk₁ hk₁ => wpAny_execs_nil ?_
    exact done _ _ _ (stab _ h₁ hJ fun b o n e => hk₁ b o (by simpa using n) e)
theorem forEf_range {r : Addr} {b : Int} {t₁ t₂ t₃ : Tok} {n : Nat} (J : Addr → Heap → Prop) (hh : A.handled = none) (hr : IsRange s.heap r 0 b 1 t₁ t₂ t₃) (hb : b = (n : Int)) (hz : n ≤ 1000)
    (stab : ∀ I h h', J I h → (∀ b o, b ≠ I → h.get? b = some o → h'.get? b = some o) → J I h') (h0 : ∀ I h', s.heap.get? I = none → (∀ b o, s.heap.get? b = some o → h'.get? b = some o) → J I h')
    (step : ∀ I h dr tk v oI, oI.cls = .type "range_iterator" → h.get? I = some oI → J I h → wpAny (model PR w) A (assign (.Name x px) env v) (fun _ s' => wpAny (model PR w) A (execs body env) (TurnEnd Q s (J I) I oI) E s') E ⟨h, s.gens, dr, tk, s.os⟩)
    (done : ∀ I h dr tk, J I h → Q .next ⟨h, s.gens, dr, tk, s.os⟩) :
    wpAny (model PR w) A (pyIter (.ref r)) (fun it s₂ => ForEf w A env x px body Q E it s₂) E s := by
  subst hb
  refine wpAny_pyIter_range hr (small_one (by omega) (by omega) (by omega) (by omega)) ?_
  refine ⟨s.heap.objs.size, n, _, _, J s.heap.objs.size, rfl, (Walks.range hh _ 0 1 n).bound, fun i h st => ⟨_, st, rfl⟩, ?_, stab _, h0 _ _ (Heap.get?_none_of_le (Nat.le_refl _)) (fun b o e => Heap.get?_push_of_some _ e), ?_, done _⟩
  · have hn : Builtin.Range.rangeSize 0 (n : Int) 1 = (n : Int) := by unfold Builtin.Range.rangeSize; simp; omega
    show IsRangeIter _ _ _ _ _
    rw [hn]; simpa using Heap.get?_push_size _ rfl
  · exact step _
end
end
local macro_rules | `(tactic| walk_at "exec For Name Call cons nil") => `(tactic| (k_here; refine halt ?_))
local macro_rules | `(tactic| walk_at "pyIter ref") => `(tactic| (k_here; (with_reducible show wpAny _ _ (pyIter (Value.ref _)) (fun it s₂ => ForEf _ _ _ _ _ _ _ _ it s₂) _ _); refine halt ?_))
/-! Tn -/
section
def lawRest : List Stmt := lawBody.drop 2
def turnBody : List Stmt := match lawRest with | _ :: _ :: .For _ _ b _ _ :: _ => b | _ => []
def lawEnd : List Stmt := lawRest.drop 3
/-- all places of the law's own lists that change lie apart -/
def Apart (Ls Lm st i0 i1 la lb sc S0 S1 dx0 dx1 : Addr) : Prop :=
  (Ls ≠ Lm ∧ Ls ≠ st ∧ Ls ≠ i0 ∧ Ls ≠ i1 ∧ Lm ≠ st ∧ Lm ≠ i0 ∧ Lm ≠ i1 ∧ st ≠ i0 ∧ st ≠ i1 ∧ i0 ≠ i1) ∧ (Ls ≠ la ∧ Lm ≠ la ∧ st ≠ la ∧ i0 ≠ la ∧ i1 ≠ la) ∧ (Ls ≠ lb ∧ Lm ≠ lb ∧ st ≠ lb ∧ i0 ≠ lb ∧ i1 ≠ lb) ∧ (Ls ≠ sc ∧ Lm ≠ sc ∧ st ≠ sc ∧ i0 ≠ sc ∧ i1 ≠ sc) ∧ S0 ≠ S1 ∧ dx0 ≠ dx1
/-- what holds before and behind every turn -/
inductive LawJ (w : World) (g : Heap) (L st sc : Addr) (us : List Value) (I : Addr) (h : Heap) : Prop
  | mk (u : Str → Option Value) (Ls Lm la lb S0 dx0 i0 S1 dx1 i1 : Addr) (ms0 ms1 : List Value) (es0 es1 : Array (Int × Value)) (ep0 ep1 : Nat) (t0 t1 : SetTable) (eS eM ea eb e0 e1 : Nat) (o c1 c2 c3 c4 : Obj) (v3 v4 : Option Value)
    (_ : Fr g L h (fun y => if y = Str.ofString "lists" then some (.ref Lm) else u y))
    (_ : News g L h [(Ls, PySem.W.listOf [.ref S0, .ref S1].toArray eS), (Lm, PySem.W.listOf [.ref la, .ref lb].toArray eM), (la, PySem.W.listOf ms0.toArray ea), (lb, PySem.W.listOf ms1.toArray eb), (S0, setO (.ref 232) (some dx0) es0 ep0 t0 #[some (.ref i0)]), (dx0, dictE), (i0, PySem.W.listOf ms0.toArray e0), (S1, setO (.ref 232) (some dx1) es1 ep1 t1 #[some (.ref i1)]), (dx1, dictE), (i1, PySem.W.listOf ms1.toArray e1), (st, o), (sc, PySem.W.listOf us.toArray 0), (L + 1 + 1 + 1 + 1, c4), (L + 1 + 1 + 1, c3), (L + 1 + 1, c2), (L + 1, c1)])
    (_ : (∀ p ∈ [(Ls, PySem.W.listOf [.ref S0, .ref S1].toArray eS), (Lm, PySem.W.listOf [.ref la, .ref lb].toArray eM), (la, PySem.W.listOf ms0.toArray ea), (lb, PySem.W.listOf ms1.toArray eb), (S0, setO (.ref 232) (some dx0) es0 ep0 t0 #[some (.ref i0)]), (dx0, dictE), (i0, PySem.W.listOf ms0.toArray e0), (S1, setO (.ref 232) (some dx1) es1 ep1 t1 #[some (.ref i1)]), (dx1, dictE), (i1, PySem.W.listOf ms1.toArray e1), (st, o), (sc, PySem.W.listOf us.toArray 0), (L + 1 + 1 + 1 + 1, c4), (L + 1 + 1 + 1, c3), (L + 1 + 1, c2), (L + 1, c1)], p.1 ≠ I))
    (_ : StO sc us.length o)
    (_ : (c1.data = .cell (some (.ref st)) ∧ c2.data = .cell (some (.ref Ls)) ∧ c3.data = .cell v3 ∧ c4.data = .cell v4))
    (_ : (SFact w es0 t0 (inL ms0) ∧ (∀ v ∈ ms0, Pv v) ∧ (ms0.map cl).Nodup))
    (_ : (SFact w es1 t1 (inL ms1) ∧ (∀ v ∈ ms1, Pv v) ∧ (ms1.map cl).Nodup))
    (_ : Apart Ls Lm st i0 i1 la lb sc S0 S1 dx0 dx1)
    : LawJ w g L st sc us I h
theorem lawJ_stab {w : World} {g : Heap} {L st sc : Addr} {us : List Value} (I : Addr) (h h' : Heap) (gI : g.get? I = none) (IL : I ≠ L) (J : LawJ w g L st sc us I h) (k : ∀ b o, b ≠ I → h.get? b = some o → h'.get? b = some o) : LawJ w g L st sc us I h' := by
  obtain ⟨u, Ls, Lm, la, lb, S0, dx0, i0, S1, dx1, i1, ms0, ms1, es0, es1, ep0, ep1, t0, t1, eS, eM, ea, eb, e0, e1, o, c1, c2, c3, c4, v3, v4, F, N, NI, r1, r2, r3, r4, r5⟩ := J
  exact ⟨u, Ls, Lm, la, lb, S0, dx0, i0, S1, dx1, i1, ms0, ms1, es0, es1, ep0, ep1, t0, t1, eS, eM, ea, eb, e0, e1, o, c1, c2, c3, c4, v3, v4, ⟨F.ns.at' fun o e => k _ o IL.symm e, fun b o e => k b o (fun q => by subst q; rw [gI] at e; cases e) (F.keep b o e), F.above⟩, fun p hp => ⟨k _ _ (NI p hp) (N p hp).1, (N p hp).2⟩, NI, r1, r2, r3, r4, r5⟩

end
/-! M3 -/
section

section
variable {w : World} {s : Shared} {mg mb : Str → Option Value} {g : Heap} {Q : Flow → Shared → Prop} {E : Value → Shared → Prop}
theorem law_rest {L f sc0 D l0 l1 st sc : Addr} {cdv : Value} {us xs0 xs1 : List Value} {e e0 e1 : Nat} {c1 c2 c3 c4 o : Obj} (B : Base w mg mb g) (F : Fr g L s.heap (fun y => if y = Str.ofString "starts" then some (.ref D) else if y = Str.ofString "script" then some (.ref sc0) else none))
   (N : News g L s.heap [(D, PySem.W.listOf [.ref l0, .ref l1].toArray e), (l1, PySem.W.listOf xs1.toArray e1), (l0, PySem.W.listOf xs0.toArray e0), (st, o), (sc, PySem.W.listOf us.toArray 0), (L + 1 + 1 + 1 + 1, c4), (L + 1 + 1 + 1, c3), (L + 1 + 1, c2), (L + 1, c1)]) (iv : ∀ v ∈ us, ∃ n t, v = .int n t) (z1 : us.length ≤ 60)
   (so : StO sc us.length o) (d1 : c1.data = .cell (some (.ref st))) (d2 : c2.data = .cell none) (d3 : c3.data = .cell none) (d4 : c4.data = .cell none)
   (n1 : st ≠ sc) (n2 : st ≠ L + 1) (n3 : st ≠ L + 1 + 1) (n4 : st ≠ L + 1 + 1 + 1) (n5 : st ≠ L + 1 + 1 + 1 + 1) (hE : PassesOwn (model PR w) (callerA.deeper (lawEnv L f cdv)) (lawEnv L f cdv) E) (hT : ∀ I h dr tk v oI (Q : Flow → Shared → Prop) (s1 : Shared), oI.cls = .type "range_iterator" → h.get? I = some oI → g.get? I = none → I ≠ L → LawJ w g L st sc us I h → PassesOwn (model PR w) (callerA.deeper (lawEnv L f cdv)) (lawEnv L f cdv) E →
     wpAny (model PR w) (callerA.deeper (lawEnv L f cdv)) (assign (.Name (Str.ofString "_") { line := 249, col := 8, endLine := 249, endCol := 9 }) (lawEnv L f cdv) v) (fun _ s' => wpAny (model PR w) (callerA.deeper (lawEnv L f cdv)) (execs turnBody (lawEnv L f cdv)) (TurnEnd Q s1 (fun h => (g.get? I = none ∧ I ≠ L) ∧ LawJ w g L st sc us I h) I oI) E s') E ⟨h, s1.gens, dr, tk, s1.os⟩)
   (hZ : ∀ I h dr tk, g.get? I = none → I ≠ L → LawJ w g L st sc us I h → wpAny (model PR w) (callerA.deeper (lawEnv L f cdv)) (execs lawEnd (lawEnv L f cdv)) Q E ⟨h, s.gens, dr, tk, s.os⟩)
   (p0 : (∀ v ∈ xs0, Pv v) ∧ xs0.length ≤ 5) (p1 : (∀ v ∈ xs1, Pv v) ∧ xs1.length ≤ 5) :
    wpAny (model PR w) (callerA.deeper (lawEnv L f cdv)) (execs lawRest (lawEnv L f cdv)) Q E s := by
  have hb : lawRest = lawRest := rfl
  conv at hb => rhs; whnf
  have hsc : lawScope = lawScope := rfl
  conv at hsc => rhs; whnf
  rw [hb]
  unfold lawEnv at hE ⊢
  rw [hsc] at hE ⊢
  clear hb hsc
  have X' := B.K
  have T' := B.T
  obtain ⟨p0, z0⟩ := p0
  obtain ⟨p1, z2⟩ := p1
  have y0 : xs0.length ≤ 1000 := by omega
  have y1 : xs1.length ≤ 1000 := by omega
  k_steps
  refine halt_out ?_
  refine for_eff ?_ ?_ hE
  rotate_left
  · intro _; rfl
  k_steps
  rename_i H0 k0 h1 q1 h2 tk2 S0 dx0 i0 es0 ep0 t0 e0' f0 pv0 nd0 ap0 H1 h3 q2 h4 tk4 S1 dx1 i1 es1 ep1 t1 e1' f1 pv1 nd1 ap1 Ls h5 q3 h6 o2 d2' tk6 la h7 tk7 ea nDa lb h8 tk8 eb nDb Lm h9 q4 h10 F9 N9
  have AP : Apart Ls Lm st i0 i1 la lb sc S0 S1 dx0 dx1 := by
    refine ⟨⟨?_, ?_, ?_, ?_, ?_, ?_, ?_, ?_, ?_, ?_⟩, ⟨?_, ?_, ?_, ?_, ?_⟩, ⟨?_, ?_, ?_, ?_, ?_⟩, ⟨?_, ?_, ?_, ?_, ?_⟩, ?_, ?_⟩
    all_goals first
      | (refine neN ?_; omega)
      | exact (ap0 (_, _) (by k_mem)).2.2
      | exact (ap1 (_, _) (by k_mem)).2.2
      | exact (ap0 (_, _) (by k_mem)).2.2.symm
      | exact (ap1 (_, _) (by k_mem)).2.2.symm
      | exact nDa (_, _) (by k_mem)
      | exact nDb (_, _) (by k_mem)
      | exact (ap1 (_, _) (by k_mem)).1
      | exact (ap1 (_, _) (by k_mem)).2.1
  have N10 : News g L h10 [(Ls, PySem.W.listOf [.ref S0, .ref S1].toArray 0), (Lm, PySem.W.listOf [.ref la, .ref lb].toArray 0), (la, PySem.W.listOf (addAll [] xs0).toArray ea), (lb, PySem.W.listOf (addAll [] xs1).toArray eb), (S0, setO (.ref 232) (some dx0) es0 ep0 t0 #[some (.ref i0)]), (dx0, dictE), (i0, PySem.W.listOf (addAll [] xs0).toArray e0'), (S1, setO (.ref 232) (some dx1) es1 ep1 t1 #[some (.ref i1)]), (dx1, dictE), (i1, PySem.W.listOf (addAll [] xs1).toArray e1'), (st, o), (sc, PySem.W.listOf us.toArray 0), (L + 1 + 1 + 1 + 1, c4), (L + 1 + 1 + 1, c3), (L + 1 + 1, o2), (L + 1, c1)] := by
    intro p hp
    simp only [List.mem_cons, List.not_mem_nil, or_false] at hp
    rcases hp with rfl | rfl | rfl | rfl | rfl | rfl | rfl | rfl | rfl | rfl | rfl | rfl | rfl | rfl | rfl | rfl <;> exact N9 _ (by k_mem)
  clear N9 ap0 ap1 nDa nDb q1 q2 q3 q4
  obtain ⟨jj, j1, jq, j2, j3, rfl, _⟩ := id so
  have ⟨⟨a1, a2, a3, a4, a5, a6, a7, a8, a9, a10⟩, ⟨b1, b2, b3, b4, b5⟩, ⟨g1, g2, g3, g4, g5⟩, ⟨k1, k2, k3, k4, k5⟩, w1, w2⟩ := AP
  k_steps
  rename_i ji jt jq jv je h' tk' r6 u' so' F11 N11 r60 r61 h12 tk12 ta tb tc hr F12 N12 l12
  clear F11 N11
  refine forEf_range (n := (1 + r6).toNat) (fun I h => (g.get? I = none ∧ I ≠ L) ∧ LawJ w g L st sc us I h) rfl hr (by omega) (by omega) ?_ ?_ ?_ ?_
  · rintro I h h' ⟨⟨gI, IL⟩, J⟩ k
    exact ⟨⟨gI, IL⟩, lawJ_stab I h h' gI IL J k⟩
  · intro I h' hI k
    obtain ⟨oL, _, _, hL, _⟩ := id F12.ns
    refine ⟨⟨none_of F12.keep hI, fun q => ?_⟩, _, Ls, Lm, la, lb, S0, dx0, i0, S1, dx1, i1, _, _, es0, es1, ep0, ep1, t0, t1, 0, 0, ea, eb, e0', e1', _, c1, o2, c3, c4, none, none, ⟨F12.ns.at' fun o e => k _ _ e, fun b o e => k _ _ (F12.keep b o e), F12.above⟩, fun p hp => ⟨k _ _ (N12 p hp).1, (N12 p hp).2⟩, fun p hp q => ?_, so', ⟨d1, d2', d3, d4⟩, ⟨f0, pv0, nd0⟩, ⟨f1, pv1, nd1⟩, AP⟩
    · subst q; rw [hL] at hI; cases hI
    · have := (N12 p hp).1; rw [q, hI] at this; cases this
  · rintro I h dr tk v oI cI hI ⟨⟨gI, IL⟩, J⟩
    exact hT I h dr tk v oI _ _ cI hI gI IL J hE
  · rintro I h dr tk ⟨⟨gI, IL⟩, J⟩
    exact hZ I h dr tk gI IL J
end

end
/-! M2 -/
section
theorem ap_same {P : Addr → Prop} {a : Addr} {o o' : Obj} {pre rest : List (Addr × Obj)} (h : ∀ p ∈ pre ++ (a, o) :: rest, P p.1) : ∀ p ∈ pre ++ (a, o') :: rest, P p.1 := fun p hp => by
  rcases List.mem_append.mp hp with q | q
  · exact h p (List.mem_append_left _ q)
  · rcases List.mem_cons.mp q with rfl | q
    · exact h (a, o) (List.mem_append_right _ (.head _))
    · exact h p (List.mem_append_right _ (.tail _ q))
/-- the script's place (a word of its own: the walker's lines are not to see it) -/
structure ScriptAt (g : Heap) (a : Addr) (vs : List Value) : Prop where
  is : g.IsList a vs.toArray
section
variable {w : World} {s : Shared} {mg mb : Str → Option Value} {g : Heap} {Q : Flow → Shared → Prop} {E : Value → Shared → Prop}
theorem law_main {L f sc0 : Addr} {cdv : Value} {vs : List Value} {c1 c2 c3 c4 : Obj} (B : Base w mg mb g) (F : Fr g L s.heap (fun y => if y = Str.ofString "script" then some (.ref sc0) else none))
   (N : News g L s.heap [(L + 1 + 1 + 1 + 1, c4), (L + 1 + 1 + 1, c3), (L + 1 + 1, c2), (L + 1, c1)]) (hs : ScriptAt g sc0 vs) (hv : ∀ v ∈ vs, ∃ n t, v = .int n t) (hlen : vs.length ≤ 63)
   (hE : PassesOwn (model PR w) (callerA.deeper (lawEnv L f cdv)) (lawEnv L f cdv) E)
   (hT : ∀ I h dr tk v oI (Q : Flow → Shared → Prop) (s1 : Shared) (st sc : Addr) (us : List Value), (∀ v ∈ us, ∃ n t, v = .int n t) → us.length ≤ 60 → oI.cls = .type "range_iterator" → h.get? I = some oI → g.get? I = none → I ≠ L → LawJ w g L st sc us I h → PassesOwn (model PR w) (callerA.deeper (lawEnv L f cdv)) (lawEnv L f cdv) E →
     wpAny (model PR w) (callerA.deeper (lawEnv L f cdv)) (assign (.Name (Str.ofString "_") { line := 249, col := 8, endLine := 249, endCol := 9 }) (lawEnv L f cdv) v) (fun _ s' => wpAny (model PR w) (callerA.deeper (lawEnv L f cdv)) (execs turnBody (lawEnv L f cdv)) (TurnEnd Q s1 (fun h => (g.get? I = none ∧ I ≠ L) ∧ LawJ w g L st sc us I h) I oI) E s') E ⟨h, s1.gens, dr, tk, s1.os⟩)
   (hZ : ∀ I h dr tk (st sc : Addr) (us : List Value), g.get? I = none → I ≠ L → LawJ w g L st sc us I h → wpAny (model PR w) (callerA.deeper (lawEnv L f cdv)) (execs lawEnd (lawEnv L f cdv)) Q E ⟨h, s.gens, dr, tk, s.os⟩)
   (d1 : c1.data = .cell none) (d2 : c2.data = .cell none) (d3 : c3.data = .cell none) (d4 : c4.data = .cell none) :
    wpAny (model PR w) (callerA.deeper (lawEnv L f cdv)) (execs lawBody (lawEnv L f cdv)) Q E s := by
  have hb : lawBody = lawBody := rfl
  conv at hb => rhs; whnf
  have hsc : lawScope = lawScope := rfl
  conv at hsc => rhs; whnf
  rw [hb]
  unfold lawEnv
  rw [hsc]
  clear hb hsc
  have X' := B.K
  have T' := B.T
  have hle : ¬ (63 : Int) < vs.length := by omega
  k_steps
  refine kmk_slice F N (Heap.IsList.at hs.is fun o e => F.keep _ o e) .none (.int 60 _) (fun sc h1 F1 N1 l1 => ?_) (by with_unfolding_all rfl) (by intro _; with_unfolding_all rfl) (szL (by omega))
  rw [pick_cutA] at N1
  k_lt l1
  have z1 : (cutA vs 60).length ≤ 60 := by
    unfold cutA
    rw [List.length_take]
    have := clipAt_cast vs.length 60
    omega
  have iv : ∀ v ∈ cutA vs 60, ∃ n t, v = .int n t := fun v q => hv v (List.mem_of_mem_take q)
  generalize cutA vs 60 = us at N1 z1 iv
  clear F N
  k_steps
  refine halt_out ?_
  refine comp_eff_as (g := g) (by with_unfolding_all rfl) (by with_unfolding_all rfl) (by decide) (by rfl) (by decide) (by rfl) (by rfl) (by rfl) ?_
  k_steps
  rename_i st h3 lt1 h4 o1 F4 N4 d1' h5 tk5 ta tb tc hr F5 N5 l5
  obtain ⟨q1, q2, q3, q4, q5⟩ := lt1
  obtain ⟨p1, p2, p3, p4⟩ := l1
  have SO : StO sc us.length (PySem.W.listOf [Value.ref sc, Value.int 0 (s.toks + 1), Value.int 17 (s.toks + 1 + 1)].toArray 0) := ⟨_, _, _, _, _, rfl, by decide, Int.natCast_nonneg _, by decide, by decide⟩
  refine compEf_range (L := L) (n := 2) rfl (K := fun s₂ (D : Value) h tk => _) (fun ys news => ∃ o', StO sc us.length o' ∧ ∃ xs : List (Addr × List Value × Nat), ys = xs.map (fun t => .ref t.1) ∧ (∀ t ∈ xs, (∀ v ∈ t.2.1, Pv v) ∧ t.2.1.length ≤ 5 ∧ t.1 ≠ st) ∧ news = xs.reverse.map (fun t => (t.1, PySem.W.listOf t.2.1.toArray t.2.2)) ++ [(st, o'), (sc, PySem.W.listOf us.toArray 0), (L + 1 + 1 + 1 + 1, c4), (L + 1 + 1 + 1, c3), (L + 1 + 1, c2), (L + 1, o1)])
    rfl hr rfl (by decide) F5 N5 ⟨_, SO, [], rfl, by simp, rfl⟩ ?_ ?_ (fun _ => rfl)
  · intro C D I i ys h tk news₃ oI oL m₃ e E' hi hlen hJ F3 N3 ap
    clear hr F5 N5 F4 N4
    obtain ⟨o', so, xs, rfl, hx, rfl⟩ := hJ
    rw [List.length_map] at hlen
    rcases xs with _ | ⟨⟨l0, xs0, e0⟩, _ | ⟨x2, xr⟩⟩
    · refine comp_eff (g := g) (by with_unfolding_all rfl) (by decide) (by rfl) (by decide) (by rfl) ?_
      simp only [List.map, List.reverse_nil, List.nil_append, List.cons_append] at N3 ap
      have ⟨a1, a2, a3⟩ := ap (st, o') (by k_mem)
      dsimp only at a1 a2 a3
      k_steps
      rename_i j1 j2 j3 j4 j5 h6 tk6 r6 u6 so2 F6 N6 r60 r61 h7 tk7 ta' tb' tc' hr7 F7 N7 l7
      clear F6 N6
      refine compEf_range (n := r6.toNat) (L := C) rfl (K := fun s₂ (D : Value) h tk => _) (fun ys news => ∃ o', StO sc us.length o' ∧ (∀ y ∈ ys, Pv y) ∧ news = [(st, o'), (sc, PySem.W.listOf us.toArray 0), (L + 1 + 1 + 1 + 1, c4), (L + 1 + 1 + 1, c3), (L + 1 + 1, c2), (L + 1, o1), (I, oI), (D, PySem.W.listOf (([] : List (Addr × List Value × Nat)).map fun t => Value.ref t.1).toArray e), (L, oL)])
        rfl hr7 (by omega) (by omega) F7 N7 ⟨_, so2, by simp, rfl⟩ ?_ ?_ (fun _ => rfl)
      · intro C2 D2 I2 i2 ys2 h8 tk8 news8 oI8 oC8 m8 e8 E8 hi8 hl8 hJ8 F8 N8 ap8
        obtain ⟨o8, so8, py8, rfl⟩ := hJ8
        simp only [List.cons_append, List.nil_append] at N8
        have ⟨b1, b2, b3⟩ := ap8 (st, o8) (by k_mem)
        dsimp only at b1 b2 b3
        k_steps
        rename_i y1 y2 y3 y4 y5 h9 tk9 r9 u9 so9 F9 N9 r90 r91 v9 pv9
        exact ⟨h9, _, _, m8, rfl, F9, by exact N9, ap_same (pre := []) (P := fun a => a ≠ I2 ∧ a ≠ D2 ∧ a ≠ C) ap8, ⟨_, so9, pv_app py8 (pv_one pv9), rfl⟩⟩
      · intro D2 ys2 h8 tk8 news8 e8 hl8 hJ8 F8 N8 ap8
        obtain ⟨o8, so8, py8, rfl⟩ := hJ8
        refine ⟨h8, tk8, (D2, PySem.W.listOf ys2.toArray e8) :: (st, o8) :: _, _, rfl, F8, by exact N8, ?_, ⟨o8, so8, [] ++ [(D2, ys2, e8)], rfl, ?_, rfl⟩⟩
        · intro p hp
          rcases List.mem_cons.mp hp with rfl | hp
          · exact ⟨(ap8 (I, oI) (by k_mem)).symm, (ap8 (D, _) (by k_mem)).symm, (ap8 (L, oL) (by k_mem)).symm⟩
          · exact ap_same (pre := []) (P := fun a => a ≠ I ∧ a ≠ D ∧ a ≠ L) ap p hp
        · intro t ht
          rcases List.mem_append.mp ht with q | q
          · exact hx t q
          · obtain rfl := List.mem_singleton.mp q
            exact ⟨py8, by show ys2.length ≤ 5; omega, (ap8 (st, o8) (by k_mem)).symm⟩
    · refine comp_eff (g := g) (by with_unfolding_all rfl) (by decide) (by rfl) (by decide) (by rfl) ?_
      simp only [List.map, List.reverse_cons, List.reverse_nil, List.nil_append, List.cons_append] at N3 ap
      have l0st : l0 ≠ st := (hx _ (.head _)).2.2
      have ⟨a1, a2, a3⟩ := ap (st, o') (by k_mem)
      dsimp only at a1 a2 a3
      k_steps
      rename_i j1 j2 j3 j4 j5 h6 tk6 r6 u6 so2 F6 N6 r60 r61 h7 tk7 ta' tb' tc' hr7 F7 N7 l7
      clear F6 N6
      refine compEf_range (n := r6.toNat) (L := C) rfl (K := fun s₂ (D : Value) h tk => _) (fun ys news => ∃ o', StO sc us.length o' ∧ (∀ y ∈ ys, Pv y) ∧ news = [(l0, PySem.W.listOf xs0.toArray e0), (st, o'), (sc, PySem.W.listOf us.toArray 0), (L + 1 + 1 + 1 + 1, c4), (L + 1 + 1 + 1, c3), (L + 1 + 1, c2), (L + 1, o1), (I, oI), (D, PySem.W.listOf (([(l0, xs0, e0)] : List (Addr × List Value × Nat)).map fun t => Value.ref t.1).toArray e), (L, oL)])
        rfl hr7 (by omega) (by omega) F7 N7 ⟨_, so2, by simp, rfl⟩ ?_ ?_ (fun _ => rfl)
      · intro C2 D2 I2 i2 ys2 h8 tk8 news8 oI8 oC8 m8 e8 E8 hi8 hl8 hJ8 F8 N8 ap8
        obtain ⟨o8, so8, py8, rfl⟩ := hJ8
        simp only [List.cons_append, List.nil_append] at N8
        have ⟨b1, b2, b3⟩ := ap8 (st, o8) (by k_mem)
        dsimp only at b1 b2 b3
        k_steps
        rename_i y1 y2 y3 y4 y5 h9 tk9 r9 u9 so9 F9 N9 r90 r91 v9 pv9
        exact ⟨h9, _, _, m8, rfl, F9, by exact N9, ap_same (pre := [(l0, PySem.W.listOf xs0.toArray e0)]) (P := fun a => a ≠ I2 ∧ a ≠ D2 ∧ a ≠ C) ap8, ⟨_, so9, pv_app py8 (pv_one pv9), rfl⟩⟩
      · intro D2 ys2 h8 tk8 news8 e8 hl8 hJ8 F8 N8 ap8
        obtain ⟨o8, so8, py8, rfl⟩ := hJ8
        refine ⟨h8, tk8, (D2, PySem.W.listOf ys2.toArray e8) :: (l0, PySem.W.listOf xs0.toArray e0) :: (st, o8) :: _, _, rfl, F8, by exact N8, ?_, ⟨o8, so8, [(l0, xs0, e0)] ++ [(D2, ys2, e8)], rfl, ?_, rfl⟩⟩
        · intro p hp
          rcases List.mem_cons.mp hp with rfl | hp
          · exact ⟨(ap8 (I, oI) (by k_mem)).symm, (ap8 (D, _) (by k_mem)).symm, (ap8 (L, oL) (by k_mem)).symm⟩
          · exact ap_same (pre := [(l0, PySem.W.listOf xs0.toArray e0)]) (P := fun a => a ≠ I ∧ a ≠ D ∧ a ≠ L) ap p hp
        · intro t ht
          rcases List.mem_append.mp ht with q | q
          · exact hx t q
          · obtain rfl := List.mem_singleton.mp q
            exact ⟨py8, by show ys2.length ≤ 5; omega, (ap8 (st, o8) (by k_mem)).symm⟩
    · simp at hlen; omega
  · intro D ys h tk news₃ e hlen hJ F3 N3 ap
    obtain ⟨o', so, xs, rfl, hx, rfl⟩ := hJ
    rw [List.length_map] at hlen
    rcases xs with _ | ⟨⟨l0, xs0, e0'⟩, _ | ⟨⟨l1, xs1, e1⟩, _ | _⟩⟩
    · simp at hlen
    · simp at hlen
    · have nD : ∀ p ∈ [(l1, PySem.W.listOf xs1.toArray e1)], p.1 = p.1 := fun _ _ => rfl
      have SO := so
      exact law_rest B F3 (by exact N3) iv z1 so d1' d2 d3 d4 (neN (by omega)) (neN (by omega)) (neN (by omega)) (neN (by omega)) (neN (by omega)) hE (fun I h dr tk v oI Q s1 a b c d J p => hT I h dr tk v oI Q s1 st sc us iv z1 a b c d J p) (fun I h dr tk a b J => hZ I h dr tk st sc us a b J) ⟨(hx _ (.head _)).1, (hx _ (.head _)).2.1⟩ ⟨(hx _ (.tail _ (.head _))).1, (hx _ (.tail _ (.head _))).2.1⟩
    · simp at hlen
end

end
/-! Kd -/
section
/-- what a deed tells besides, as it stands in the ledger -/
def ExtL (x : Ext) (v : Value) (a : Addr) (o : Obj) : Prop := match x with
  | .no => v = .none
  | .miss => ∃ t, v = .str (Str.ofString "none") t
  | .one y => ∃ e, v = .ref a ∧ o = PySem.W.listOf [y].toArray e
theorem ext_led {g h0 h : Heap} {L T : Addr} {oT oL : Obj} {x : Ext} {v : Value} (e : ExtAt h0 h x v) (hL : h0.get? L = some oL) (st : g.StaysIn h0) (hT : h.get? T = some oT) (TL : T ≠ L) (gT : g.get? T = none) (nT : h0.get? T = none) : ∃ a o, ExtL x v a o ∧ h.get? a = some o ∧ a ≠ L ∧ g.get? a = none ∧ h0.get? a = none := by
  cases x with
  | no => exact ⟨T, oT, e, hT, TL, gT, nT⟩
  | miss => exact ⟨T, oT, e, hT, TL, gT, nT⟩
  | one y =>
    obtain ⟨a, k, rfl, n0, ha⟩ := e
    exact ⟨a, _, ⟨k, rfl, rfl⟩, ha, fun q => (by subst q; rw [hL] at n0; cases n0), none_of st n0, n0⟩
theorem ext_led' {g h : Heap} {L T : Addr} {oT : Obj} {x : Ext} {v : Value} (e : ExtAt g h x v) (hl : ∃ oL : Obj, (∃ es ep, oL.data = .dict es ep) ∧ h.get? L = some oL) (hT : h.get? T = some oT) (TL : T ≠ L) (gT : g.get? T = none) : ∃ a o, ExtL x v a o ∧ h.get? a = some o ∧ a ≠ L ∧ g.get? a = none := by
  cases x with
  | no => exact ⟨T, oT, e, hT, TL, gT⟩
  | miss => exact ⟨T, oT, e, hT, TL, gT⟩
  | one y =>
    obtain ⟨a, k, rfl, n0, ha⟩ := e
    obtain ⟨oL, ⟨es, ep, d⟩, hL⟩ := hl
    refine ⟨a, _, ⟨k, rfl, rfl⟩, ha, fun q => ?_, n0⟩
    subst q; rw [ha] at hL; obtain rfl := Option.some.inj hL; cases d
section
variable {w : World} {A : Around} {E : Value → Shared → Prop} {s : Shared} {mg mb : Str → Option Value} {g : Heap} {L la lb lu : Addr} {m : Str → Option Value} {news : List (Addr × Obj)} {ms vs us : List Value} {ea eb eu : Nat} {x : Value} {Q : Value → Shared → Prop}
theorem k_due {k i : Int} {uk ui : Tok} (B : Base w mg mb g) (F : Fr g L s.heap m) (N : News g L s.heap news) (ha : (la, PySem.W.listOf ms.toArray ea) ∈ news) (hb : (lb, PySem.W.listOf vs.toArray eb) ∈ news) (hu : (lu, PySem.W.listOf us.toArray eu) ∈ news)
    (pa : ∀ v ∈ ms, Pv v) (pb : ∀ v ∈ vs, Pv v) (pu : ∀ v ∈ us, Pv v) (px : Pv x) (za : ms.length ≤ 100) (zb : vs.length ≤ 100) (zu : us.length ≤ 100) (hk : 0 ≤ k ∧ k < 20) (hi : -10 ≤ i ∧ i ≤ 10) (hh : A.handled = none) (hd' : A.depth ≤ A2.depth) (hun : A.units ≤ A2.units)
    (h : ∀ h' tk T D e' v a o, Fr g L h' m → News g L h' ((T, tupO [.ref D, v]) :: (D, PySem.W.listOf (dueL k ms vs us x i).1.toArray e') :: (a, o) :: news) → ExtL (dueL k ms vs us x i).2 v a o → (∀ p ∈ news, p.1 ≠ T) → (∀ p ∈ news, p.1 ≠ a) → (D = la ∨ ∀ p ∈ news, p.1 ≠ D) → Q (.ref T) { s with heap := h', toks := tk }) :
    wpAny (model PR w) A (call (.ref 278) [.ref la, .ref lb, .int k uk, x, .ref lu, .int i ui]) Q E s := by
  refine use_at (A := A2) (due_spec B F.keep (N _ ha).1 (N _ ha).2.2 (N _ hb).1 (N _ hb).2.2 (N _ hu).1 (N _ hu).2.2 pa pb pu px za zb zu hk hi fun h' tk T D e' v md nT hT nD hD ext => ?_) hh hd' rfl rfl hun
  obtain ⟨oL, es, ep, hL, _⟩ := id F.ns
  have TL : T ≠ L := fun q => by subst q; rw [hL] at nT; cases nT
  have gT := none_of F.keep nT
  obtain ⟨a, o, x1, x2, x3, x4, x5⟩ := ext_led ext hL F.keep hT TL gT nT
  have F' := fr_mod F md (by simp) (by simp)
  refine h h' tk T D e' v a o F' ?_ x1 (fun p hp => fresh_ne N (a := p.1) (o := p.2) hp nT) (fun p hp => fresh_ne N (a := p.1) (o := p.2) hp x5) (nD.imp id fun n p hp => fresh_ne N (a := p.1) (o := p.2) hp n)
  refine List.forall_mem_cons.mpr ⟨⟨hT, TL, gT⟩, List.forall_mem_cons.mpr ⟨?_, List.forall_mem_cons.mpr ⟨⟨x2, x3, x4⟩, fun p hp => ⟨md _ _ (N p hp).1 (by simp), (N p hp).2⟩⟩⟩⟩
  rcases nD with rfl | n
  · exact ⟨hD, (N _ ha).2⟩
  · exact ⟨hD, fun q => (by dsimp only at q; subst q; rw [hL] at n; cases n), none_of F.keep n⟩
/-- _law_done, the set itself changed -/
theorem k_done {S dx l O dxo lo : Addr} {es0 es1 : Array (Int × Value)} {ep0 ep1 : Nat} {t0 t1 : SetTable} {e0 e1 : Nat} {env1 : Env} {k i : Int} {uk ui : Tok} {rest : List (Addr × Obj)} (B : Base w mg mb g) (F : Fr g L s.heap m) (N : News g L s.heap news) (hf : A.frames = some [env1]) (f1 : env1.frame = some L) (kk : env1.scope.kind ≠ .module)
    (h1 : (S, setO (.ref 232) (some dx) es0 ep0 t0 #[some (.ref l)]) ∈ news) (h2 : (dx, dictE) ∈ news) (h3 : (l, PySem.W.listOf ms.toArray e0) ∈ news) (sf0 : SFact w es0 t0 (inL ms)) (pv0 : ∀ v ∈ ms, Pv v) (nd0 : (ms.map cl).Nodup)
    (h4 : (O, setO (.ref 232) (some dxo) es1 ep1 t1 #[some (.ref lo)]) ∈ news) (h5 : (dxo, dictE) ∈ news) (h6 : (lo, PySem.W.listOf vs.toArray e1) ∈ news) (sf1 : SFact w es1 t1 (inL vs)) (pv1 : ∀ v ∈ vs, Pv v) (nd1 : (vs.map cl).Nodup)
    (nS : S ≠ O) (nd' : dx ≠ dxo) (nl : l ≠ lo) (hu : (lu, PySem.W.listOf us.toArray eu) ∈ news) (nlu : lu ≠ l) (pu : ∀ v ∈ us, Pv v) (zu : us.length ≤ 100) (px : Pv x) (hk : 0 ≤ k ∧ k < 20) (hi : -10 ≤ i ∧ i ≤ 10)
    (hr : ∀ p ∈ rest, p ∈ news) (ap : ∀ p ∈ rest, p.1 ≠ S ∧ p.1 ≠ dx ∧ p.1 ≠ l) (hh : A.handled = none) (hd' : A.depth ≤ 600) (hun : A.units ≤ 3000)
    (hA : k < 11 → ∀ h' dr tk T l' es ep t e' v a o, Fr g L h' m → News g L h' ((T, tupO [.ref S, v]) :: (a, o) :: (S, setO (.ref 232) (some dx) es ep t #[some (.ref l')]) :: (dx, dictE) :: (l', PySem.W.listOf (dueL k ms vs us x i).1.toArray e') :: rest) → ExtL (dueL k ms vs us x i).2 v a o → SFact w es t (inL (dueL k ms vs us x i).1) → (∀ v ∈ (dueL k ms vs us x i).1, Pv v) → ((dueL k ms vs us x i).1.map cl).Nodup → (l' = l ∨ ∀ p ∈ news, p.1 ≠ l') → Q (.ref T) ⟨h', s.gens, dr, tk, s.os⟩)
    (hB : 11 ≤ k → ∀ h' dr tk T S' dx' l' es ep t e' v a o, Fr g L h' m → News g L h' ((T, tupO [.ref S', v]) :: (a, o) :: (S', setO (.ref 232) (some dx') es ep t #[some (.ref l')]) :: (dx', dictE) :: (l', PySem.W.listOf (dueL k ms vs us x i).1.toArray e') :: news) → ExtL (dueL k ms vs us x i).2 v a o → SFact w es t (inL (dueL k ms vs us x i).1) → (∀ v ∈ (dueL k ms vs us x i).1, Pv v) → ((dueL k ms vs us x i).1.map cl).Nodup → (∀ p ∈ news, p.1 ≠ S' ∧ p.1 ≠ dx' ∧ p.1 ≠ l') → Q (.ref T) ⟨h', s.gens, dr, tk, s.os⟩) :
    wpAny (model PR w) A (call (.ref 271) [.ref S, .ref O, .int k uk, x, .ref lu, .int i ui]) Q E s := by
  obtain ⟨oL, es, ep, hL, hdL⟩ := id F.ns
  have gL : g.get? L = none := Heap.get?_none_of_le F.above
  have dxL : L ≠ dx := fun q => (N _ h2).2.1 q.symm
  have dxoL : L ≠ dxo := fun q => (N _ h5).2.1 q.symm
  refine wpAny_call (codeAny_le (A := AD env1) (done_spec B F.keep (os_at N h1 h2 h3 sf0 pv0 nd0) (N _ h1).2.2 (N _ h2).2.2 (N _ h3).2.2 (os_at N h4 h5 h6 sf1 pv1 nd1) (N _ h4).2.2 (N _ h5).2.2 (N _ h6).2.2 nS nd' nl (N _ hu).1 (N _ hu).2.2 nlu pu zu px hk hi f1 kk hL ⟨_, _, hdL.1⟩ gL dxL dxoL ?_) hh hd' (fun l q => by cases q; exact hf) (fun l q => by cases q) hun)
  intro h' dr tk T S' dx' l' v gT hT D
  obtain ⟨mf, ⟨⟨es2, ep2, t2, e2, oS, od, ol, f2⟩, pv2, nd2⟩, ext, r⟩ := D
  have nSd : L ∉ [S, dx, l] := by
    simp only [List.mem_cons, List.not_mem_nil, or_false, not_or]
    exact ⟨fun q => (N _ h1).2.1 q.symm, dxL, fun q => (N _ h3).2.1 q.symm⟩
  obtain ⟨_, sl, hL'⟩ := mf L oL hL nSd
  have TL : T ≠ L := fun q => by
    subst q; rw [hT] at hL'
    have := congrArg (fun o : Option Obj => o.map (·.data)) hL'
    simp only [Option.map_some] at this
    rw [hdL.1] at this; cases this
  obtain ⟨a, o, x1, x2, x3, x4⟩ := ext_led' ext ⟨_, ⟨_, _, by exact hdL.1⟩, hL'⟩ hT TL gT
  have F' : Fr g L h' m := ⟨⟨_, es, ep, hL', hdL⟩, fun b o e => (mf b o (F.keep b o e) (by
    simp only [List.mem_cons, List.not_mem_nil, or_false, not_or]
    exact ⟨fun q => (by subst q; rw [(N _ h1).2.2] at e; cases e), fun q => (by subst q; rw [(N _ h2).2.2] at e; cases e), fun q => (by subst q; rw [(N _ h3).2.2] at e; cases e)⟩)).1 (by
      simp only [List.mem_cons, List.not_mem_nil, or_false]
      exact fun q => (by subst q; rw [gL] at e; cases e)), F.above⟩
  have neL : ∀ b, s.heap.get? b = none → b ≠ L := fun b n q => by subst q; rw [hL] at n; cases n
  rcases r with ⟨lt, rfl, rfl, hl⟩ | ⟨le, n1, n2, n3, mn⟩
  · refine hA lt h' dr tk T l' es2 ep2 t2 e2 v a o F' ?_ x1 f2 pv2 nd2 (hl.imp id fun n p hp => fresh_ne N (a := p.1) (o := p.2) hp n)
    refine List.forall_mem_cons.mpr ⟨⟨hT, TL, gT⟩, List.forall_mem_cons.mpr ⟨⟨x2, x3, x4⟩, List.forall_mem_cons.mpr ⟨⟨oS, (N _ h1).2⟩, List.forall_mem_cons.mpr ⟨⟨od, (N _ h2).2⟩, List.forall_mem_cons.mpr ⟨?_, fun p hp => ?_⟩⟩⟩⟩⟩
    · rcases hl with rfl | n
      · exact ⟨ol, (N _ h3).2⟩
      · exact ⟨ol, neL _ n, none_of F.keep n⟩
    · have P := N p (hr p hp)
      have q := ap p hp
      exact ⟨(mf _ _ P.1 (by simp only [List.mem_cons, List.not_mem_nil, or_false, not_or]; exact q)).1 (by simp only [List.mem_cons, List.not_mem_nil, or_false]; exact P.2.1), P.2⟩
  · refine hB le h' dr tk T S' dx' l' es2 ep2 t2 e2 v a o F' ?_ x1 f2 pv2 nd2 (fun p hp => ⟨fresh_ne N (a := p.1) (o := p.2) hp n1, fresh_ne N (a := p.1) (o := p.2) hp n2, fresh_ne N (a := p.1) (o := p.2) hp n3⟩)
    refine List.forall_mem_cons.mpr ⟨⟨hT, TL, gT⟩, List.forall_mem_cons.mpr ⟨⟨x2, x3, x4⟩, List.forall_mem_cons.mpr ⟨⟨oS, neL _ n1, none_of F.keep n1⟩, List.forall_mem_cons.mpr ⟨⟨od, neL _ n2, none_of F.keep n2⟩, List.forall_mem_cons.mpr ⟨⟨ol, neL _ n3, none_of F.keep n3⟩, fun p hp => ?_⟩⟩⟩⟩⟩
    have P := N p hp
    exact ⟨(mn _ _ P.1 (by simp)).1 (by simp only [List.mem_cons, List.not_mem_nil, or_false]; exact P.2.1), P.2⟩
end

end
/-! Rx -/
section
/-- what repr shows of what a deed tells besides -/
def showX (x : Ext) : Str := match x with
  | .no => "None"
  | .miss => reprText (Str.ofString "none")
  | .one y => rp [y]
section
variable {w : World} {A : Around} {E : Value → Shared → Prop} {s : Shared} {mg mb : Str → Option Value} {g : Heap} {L la a S dx l : Addr} {m : Str → Option Value} {news : List (Addr × Obj)} {ms : List Value} {ea e : Nat} {v : Value} {o : Obj} {x : Ext} {Q : Value → Shared → Prop}
theorem k_reprL (B : Base w mg mb g) (F : Fr g L s.heap m) (N : News g L s.heap news) (ha : (la, PySem.W.listOf ms.toArray ea) ∈ news) (pa : ∀ v ∈ ms, Pv v) (za : ms.length ≤ 100) (hg : A.guards = some []) (hu : A.units + 4 < cLine)
    (h : ∀ h' u tk, Fr g L h' m → News g L h' news → Q (.str (rp ms) u) { s with heap := h', toks := tk }) : wpAny (model PR w) A (call (.builtin "repr") [.ref la]) Q E s :=
  repr_list (B.K.keeps F.keep) (N _ ha).1 pa za hg hu fun h' u tk k => h h' u tk (F.keeps k) fun p hp => ⟨k _ _ (N p hp).1, (N p hp).2⟩
theorem k_reprX (B : Base w mg mb g) (F : Fr g L s.heap m) (N : News g L s.heap news) (ha : (a, o) ∈ news) (X : ExtL x v a o) (px : ∀ y, x = .one y → Pv y) (hg : A.guards = some []) (hu : A.units + 4 < cLine)
    (h : ∀ h' u tk, Fr g L h' m → News g L h' news → Q (.str (showX x) u) { s with heap := h', toks := tk }) : wpAny (model PR w) A (call (.builtin "repr") [v]) Q E s := by
  cases x with
  | no => 
    have : v = .none := X
    subst this
    exact P.repr_of_none (h s.heap _ _ F N)
  | miss =>
    obtain ⟨t, rfl⟩ := X
    exact P.repr_of_str (h s.heap _ _ F N) (by decide +kernel)
  | one y =>
    obtain ⟨k, rfl, rfl⟩ := X
    exact k_reprL B F N ha (pv_one (px y rfl)) (by simp) hg hu h
theorem k_reprS {es : Array (Int × Value)} {ep : Nat} {t : SetTable} (B : Base w mg mb g) (F : Fr g L s.heap m) (N : News g L s.heap news) (h1 : (S, setO (.ref 232) (some dx) es ep t #[some (.ref l)]) ∈ news) (h2 : (dx, dictE) ∈ news) (h3 : (l, PySem.W.listOf ms.toArray e) ∈ news) (f : SFact w es t (inL ms)) (pv : ∀ v ∈ ms, Pv v) (nd : (ms.map cl).Nodup)
    (hh : A.handled = none) (hd' : A.depth ≤ 699) (hg : A.guards = some []) (hu : A.units ≤ 3900)
    (h : ∀ h' u tk, Fr g L h' m → News g L h' news → Q (.str (shownO ms) u) { s with heap := h', toks := tk }) : wpAny (model PR w) A (call (.builtin "repr") [.ref S]) Q E s := by
  have c1 : cLine = cLine := rfl
  refine repr_K (f := 128) (C := 232) (K := hd.heap_39 w.params) ?_ F B.K (inst_set N h1 h2) (by k_is) (by k_is) ?_
  · show A.units + 1 < cLine
    exact Nat.lt_of_le_of_lt (Nat.succ_le_succ hu) (by decide)
  · refine wpAny_call (codeAny_le (A := G3) (repr_spec B F.keep (os_at N h1 h2 h3 f pv nd) (N _ h1).2.2 (N _ h2).2.2 (N _ h3).2.2 fun h' tk u md => ?_) hh ?_ (fun l q => by cases q) (fun l q => by cases q; exact hg) ?_)
    · exact h h' u tk (fr_mod F md (by simp) (by simp)) fun p hp => ⟨md _ _ (N p hp).1 (by simp), (N p hp).2⟩
    · show A.in1.depth ≤ 700
      exact Nat.le_trans (by show A.depth ≤ _; exact Nat.le_refl _) (Nat.le_succ_of_le hd')
    · show A.units + 1 ≤ 4000
      omega
end
end
local macro_rules | `(tactic| walk_at "call builtin:repr") => `(tactic| (k_here; (with_reducible show wpAny _ _ (call (Value.builtin "repr") [_]) _ _ _); k_dflt (refine' k_reprX ?b ?k1 ?k2 ?k3 ?k4 ?k5 ?k6 ?k7 ?_; (case b => assumption); (case k1 => k_asm); (case k2 => k_asm); (case k4 => assumption); (case k3 => k_mem); (case k5 => assumption); (case k6 => exact rfl); (case k7 => exact Nat.le_of_ble_eq_true rfl); k_whole); intro h' u' tk' F' N'; (try k_sweep)))
local macro_rules | `(tactic| walk_at "call builtin:repr") => `(tactic| (k_here; (with_reducible show wpAny _ _ (call (Value.builtin "repr") [Value.ref _]) _ _ _); k_dflt (refine' k_reprS ?b ?k1 ?k2 ?k3 ?k4 ?k5 ?k6 ?k7 ?k8 ?hh ?hd ?hg ?hu ?_; (case b => assumption); (case k1 => k_asm); (case k2 => k_asm); (case k3 => k_mem); (case k4 => k_mem); (case k5 => k_mem); (case k6 => assumption); (case k7 => assumption); (case k8 => assumption); (case hh => exact rfl); (case hd => k_units); (case hg => exact rfl); (case hu => k_units); k_whole); intro h' u' tk' F' N'; (try k_sweep)))
local macro_rules | `(tactic| walk_at "call builtin:repr") => `(tactic| (k_here; (with_reducible show wpAny _ _ (call (Value.builtin "repr") [Value.ref _]) _ _ _); k_dflt (refine' k_reprL ?b ?k1 ?k2 ?k3 ?k4 ?k5 ?k6 ?k7 ?_; (case b => assumption); (case k1 => k_asm); (case k2 => k_asm); (case k3 => k_mem); (case k4 => assumption); (case k5 => first | with_reducible assumption | (simp; done) | omega); (case k6 => exact rfl); (case k7 => exact Nat.le_of_ble_eq_true rfl); k_whole); intro h' u' tk' F' N'; (try k_sweep)))
/-! Cm -/
section
section
variable {w : World} {A : Around} {E : Value → Shared → Prop} {s : Shared} {g : Heap} {L l : Addr} {m : Str → Option Value} {news news' : List (Addr × Obj)} {Q : Value → Shared → Prop}
theorem shownO_eq (ms : List Value) : shownO ms = Str.ofString "OrderedSet(" ++ rp ms ++ Str.ofString ")" := by
  have e : Str.empty ++ Str.ofString "OrderedSet" ++ Str.ofString "(" = Str.ofString "OrderedSet(" := by decide +kernel
  unfold shownO
  rw [e]
theorem is_apart {a b : Addr} {oa ob : Obj} (N : News g L s.heap news) (ha : (a, oa) ∈ news) (hb : (b, ob) ∈ news) (n : a ≠ b) (nt : oa.cls ≠ .type "tuple") (h : Q (.bool false) s) : wpAny (model PR w) A (compareOp .Is (.ref a) (.ref b)) Q E s :=
  wpAny_is_ref_other n (N _ ha).1 (N _ hb).1 nt h
theorem ne_same {x y : Str} {t u : Tok} (e : x = y) (h : Q (.bool false) s) : wpAny (model PR w) A (compareOp .NotEq (.str x t) (.str y u)) Q E s := by
  subst e
  refine ne_str ?_
  have : (x != x) = false := by simp
  rw [this]; exact h
theorem set_plain {prog : Program} {items : List Value} {n : Nat} {k : Int} {t : Tok} {v : Value} {Q : Unit → Shared → Prop} (ho : s.heap.get? l = some (PySem.W.listOf items.toArray n)) (h0 : 0 ≤ k) (hn : k < items.length) (hz : items.length ≤ 1000)
    (hQ : ∀ h' n', h'.get? l = some (PySem.W.listOf (items.set k.toNat v).toArray n') → Heap.SameBut l s.heap h' → Q () { s with heap := h' }) :
    wpAny (model prog w) A (setItem (.ref l) (.int k t) v) Q E s := by
  have hl := listAt ho
  have hfit : k < 2 ^ 63 := by omega
  unfold setItem
  try with_reducible refine wpAny_holding ?_
  first | refine wpAny_bind (wpAny_pure ?_) | skip
  refine wpAny_bind (wpAny_sequenceKey hl.typeIs (by decide) ?_)
  refine wpAny_bind (wpAny_callSpecial?_slot (name := Str.ofString "__setitem__") hl.typeIs slot_list_setitem
    (wpAny_call_entry slot_list_setitem hl.typeIs entry_list_setitem ?_ (args_list_setitem _ _ _)))
  show wpAny _ _ (Builtin.List.listSubscript? (.int k t) >>= _) _ _ s
  refine wpAny_bind (wpAny_listSubscript_int (fitsIndex_of h0 hfit) ?_)
  clear hfit
  obtain ⟨j, rfl⟩ := Int.eq_ofNat_of_zero_le h0
  have hj : j < items.length := by omega
  have hx' : items.toArray[j]? = some items[j] := by rw [List.getElem?_toArray]; exact List.getElem?_eq_getElem hj
  show wpAny _ _ ((seqItemAt l j >>= fun r => pure (r.map (j, ·))) >>= _) _ _ s
  refine wpAny_bind (wpAny_bind (wpAny_seqItemAt ho rfl (wpAny_pure ?_)))
  rw [hx']
  show wpAny _ _ (setSeqItemAt l j v >>= _) _ _ s
  have hm : ∃ n', Obj.mapSeq (·.setIfInBounds j v) (PySem.W.listOf items.toArray n) = PySem.W.listOf (items.set j v).toArray n' := by
    refine ⟨n, ?_⟩
    show (⟨_, _, .seq (items.toArray.setIfInBounds j v) (if (items.toArray.setIfInBounds j v).size == items.toArray.size then n else n + 1), _⟩ : Obj) = _
    rw [if_pos (by simp), List.setIfInBounds_toArray]
  obtain ⟨n', hm⟩ := hm
  refine wpAny_bind (wpAny_setSeqItemAt ho rfl ?_)
  have fin := hQ (s.heap.update l (Obj.mapSeq (·.setIfInBounds j v))) n' (by rw [Heap.get?_update_self _ ho (by rw [hm]; rfl), hm]; rfl) (Heap.SameBut.update ..)
  first
    | exact wpAny_bind (wpAny_pure (wpAny_pure ⟨.none, rfl, wpAny_pure fin⟩))
    | exact wpAny_pure ⟨.none, rfl, wpAny_pure fin⟩
theorem k_set {items : List Value} {n : Nat} {k : Int} {t : Tok} {v : Value} {Q : Unit → Shared → Prop} {f : Obj → List (Addr × Obj)} (F : Fr g L s.heap m) (N : News g L s.heap news) (h0 : 0 ≤ k) (hn : k < items.length) (hz : items.length ≤ 1000) (U : ∀ o', Upd l (PySem.W.listOf items.toArray n) o' news (f o'))
    (h : ∀ h' n', Fr g L h' m → News g L h' (f (PySem.W.listOf (items.set k.toNat v).toArray n')) → Q () { s with heap := h' }) : wpAny (model PR w) A (setItem (.ref l) (.int k t) v) Q E s := by
  have hst : (l, PySem.W.listOf items.toArray n) ∈ news := by
    obtain ⟨pre, post, e1, _⟩ := (U (PySem.W.listOf items.toArray n)).split
    rw [e1]; simp
  refine set_plain (N _ hst).1 h0 hn hz fun h' n' hl sb => ?_
  obtain ⟨F', N'⟩ := led F N (fun b o e nb => sb.extBut b o (by simpa using nb) e) (U _) hl
  exact h h' n' F' N'
end
end
local macro_rules | `(tactic| walk_at "compareOp NotEq str str") => `(tactic| (k_here; k_dflt (refine ne_same ?e ?_; (case e => first | with_reducible rfl | exact shownO_eq _ | assumption))))
local macro_rules | `(tactic| walk_at "compareOp Is ref ref") => `(tactic| (k_here; k_dflt (refine' is_apart ?N ?a ?b ?n ?t ?_; (case N => k_asm); (case a => k_mem); (case b => k_mem); (case n => first | assumption | exact Ne.symm (by assumption)); (case t => nofun); k_whole)))
local macro_rules | `(tactic| walk_at "setItem ref int") => `(tactic| (k_here; k_dflt (refine' k_set ?F ?N ?z0 ?z1 ?z2 ?U ?_; (case F => k_asm); (case N => k_asm); (case U => intro _; k_upd); (case z0 => decide); (case z1 => (simp; done)); (case z2 => (simp; done)); k_whole); intro h' n' F' N'; (try k_sweep)))
/-! Ln -/
section
section
variable {w : World} {A : Around} {E : Value → Shared → Prop} {s : Shared} {mg mb : Str → Option Value} {g : Heap} {L S dx l : Addr} {m : Str → Option Value} {news : List (Addr × Obj)} {ms : List Value} {o : Obj} {es : Array (Int × Value)} {ep : Nat} {t : SetTable}
theorem sf_len (f : SFact w es t (inL ms)) (nd : (ms.map cl).Nodup) : es.size = ms.length := by
  have h1 : ∀ x ∈ es.toList.map (fun e => cl e.2), x ∈ ms.map cl := by
    intro x hx
    obtain ⟨e, he, rfl⟩ := List.mem_map.mp hx
    exact inL_map.mp ((f.mem e.2).mp ⟨e, Array.mem_toList_iff.mp he, rfl⟩)
  have h2 : ∀ x ∈ ms.map cl, x ∈ es.toList.map (fun e => cl e.2) := by
    intro x hx
    obtain ⟨v, hv, rfl⟩ := List.mem_map.mp hx
    obtain ⟨e, he, q⟩ := (f.mem v).mpr ⟨v, hv, rfl⟩
    exact List.mem_map.mpr ⟨e, Array.mem_toList_iff.mpr he, q⟩
  have a := List.Nodup.length_le_of_subset f.ok.uniq h1
  have b := List.Nodup.length_le_of_subset nd h2
  simp only [List.length_map, Array.length_toList] at a b
  omega
theorem len_set (L : SetAt w s.heap S o es ep t) {Q : Value → Shared → Prop} (h : ∀ u tk, Q (.int es.size u) { s with toks := tk }) : wpAny (model PR w) A (call (.builtin "len") [.ref S]) Q E s := by
  have z := L.ok.size
  refine Calls.call_function_entry kind_len plain_len entry_len (args_len1 _) ?_
  unfold Builtin.«len»
  refine wpAny_bind (m := oneArg "len" _) (wpAny_pure ?_)
  refine wpAny_bind (m := callSpecial? (.ref S) (Str.ofString "__len__")) (L.like.callSpec (name := Str.ofString "__len__") sslot_len (L.like.call sslot_len.toCall (PySem.F.args_set_len_1 _) entry_set_len ?_))
  unfold Builtin.«frozenset.__len__» Builtin.Frozenset.slot0 slotArgs
  simp only [List.isEmpty_nil, Bool.not_true, Bool.false_eq_true, ↓reduceIte, bind_assoc, List.length_nil, bne_self_eq_false]
  unfold Builtin.Frozenset.addrOf Builtin.Frozenset.sizeOf
  refine wpAny_bind (wpAny_pure ?_)
  try dsimp only
  refine wpAny_bind (wpAny_pure ?_)
  refine wpAny_bind (wpAny_bind (wpAny_setEntries_of L.like.get L.data L.ok.fits (wpAny_pure ?_)))
  show wpAny _ _ (retInt _) _ _ _
  unfold retInt
  refine wpAny_bind (wpAny_mkInt (wpAny_pure ⟨_, rfl, ?_⟩))
  refine wpAny_bind (wpAny_holding (wpAny_pure ?_))
  refine wpAny_bind (wpAny_letGo ?_)
  show wpAny _ _ (if ((es.size : Nat) : Int) < 0 then _ else _) _ _ _
  rw [if_neg (by omega)]
  show wpAny _ _ (if ((es.size : Nat) : Int) ≥ 2 ^ 63 then _ else _) _ _ _
  rw [if_neg (by omega)]
  exact wpAny_bind (wpAny_mkInt (wpAny_pure ⟨_, rfl, h _ _⟩))
theorem hint_own (L : SetAt w s.heap S o es ep t) (hc : o.cls = .ref 232) {Q : Bool → Shared → Prop} (h : ∀ (b : Bool) tk, Q b { s with toks := tk }) : wpAny (model PR w) A (Builtin.List.listLengthHint (.ref S)) Q E s := by
  unfold Builtin.List.listLengthHint
  refine wpAny_bind ((L.like.special sslot_len).here ?_)
  generalize hid : ("set.__len__" : String) = id0
  wp_delta
  rw [show splitId id0 = some ("set", "__len__") from by subst hid; decide +kernel]
  subst hid
  refine wpAny_bind (L.like.isSet.here ?_)
  refine wpAny_ite_split (fun hab => absurd hab (by decide)) (fun _ => ?_)
  refine wpAny_ite_split (fun _ => ?_) (fun hab => absurd (by decide +kernel) hab)
  refine wpAny_bind (L.like.type.here ?_)
  rw [hc]
  dsimp only
  refine wpAny_bind (len_set L fun u tk => ?_)
  refine wpAny_bind (m := asInt? (.int es.size u)) (wpAny_pure ?_)
  exact wpAny_pure (h _ _)
theorem items_eq {acc : Array Value} (h : ItemsOf (fun i v => ms.toArray[i]? = some v) acc ms.toArray.size) : acc = ms.toArray := by
  apply Array.ext_getElem?
  intro i
  by_cases q : i < ms.toArray.size
  · have hi : acc[i]? = some (acc[i]'(by rw [h.1]; exact q)) := Array.getElem?_eq_getElem _
    rw [hi]; exact (h.2 i _ hi).symm
  · rw [Array.getElem?_eq_none (by rw [h.1]; omega), Array.getElem?_eq_none (by omega)]
theorem extend_own {R : Result → Shared → Prop} {D : Addr} {c₀ : Nat} {res : Value} (B : Base w mg mb g) (stg : g.StaysIn s.heap) (I : OSet w s.heap S dx l ms) (gS : g.get? S = none) (gd : g.get? dx = none) (gl : g.get? l = none) (hD : s.heap.get? D = some { cls := .type "list", data := .seq #[] c₀ }) (Dl : l ≠ D) (hh : A.handled = none) (hd' : A.in1.depth ≤ A0.depth) (hu : A.in1.units ≤ A0.units)
    (hR : ∀ h' tk c', Mod [D] s.heap h' → h'.get? D = some (PySem.W.listOf ms.toArray c') → R (.ok (.ret res)) ⟨h', s.gens, s.drawn, tk, s.os⟩) :
    wpAny (model PR w) A.in1 (Builtin.List.listExtendWith (.ref D) (.ref S) res)
      (fun fin s' => match fin with | .done f => R (.ok f) s' | .again c' => c'.quiet = true ∧ codeAny (model PR w) A c' R s') (fun e s' => R (.error e) s') s := by
  obtain ⟨⟨es, ep, t, e, oS, od, ol, f⟩, pv, nd⟩ := id I
  have LS : SetAt w s.heap S _ es ep t := ⟨⟨oS, .inr rfl, B.K.keeps stg, newK_of B.K gS⟩, rfl, f.ok⟩
  have DS : D ≠ S := neObj hD oS fun q => nomatch congrArg Obj.data q
  unfold Builtin.List.listExtendWith
  refine wpAny_bind (LS.like.type.here ?_)
  have h1 : Builtin.List.listSameRef (.ref D) (.ref S) = false := by simp [Builtin.List.listSameRef, DS]
  have h2 : (Value.ref 232 == Value.type "list") = false := by decide
  have h3 : (Value.ref 232 == Value.type "tuple") = false := by decide
  simp only [h1, h2, h3, Bool.or_false, Bool.false_eq_true, if_false]
  have I0 : PySem.W.InstAt s.heap S _ 232 (some dictE) := ⟨oS, rfl, rfl, od⟩
  refine wpAny_bind (pyIter_call (B.K.keeps stg) I0 (use_at (A := A0) (iter_spec B stg I gS gd gl fun h' tk i md n0 hi => ?_) hh hd' rfl rfl hu))
  obtain ⟨r, hr⟩ := slot_li_next
  refine ⟨"list_iterator", r, ⟨_, hi, rfl⟩, hr, ?_⟩
  have st' : g.StaysIn h' := fun b o e => md b o (stg b o e) (by simp)
  have oS' := md _ _ oS (by simp)
  have ol' := md _ _ ol (by simp)
  have hD' := md _ _ hD (by simp)
  have LS' : SetAt w h' S _ es ep t := ⟨⟨oS', .inr rfl, B.K.keeps st', newK_of B.K gS⟩, rfl, f.ok⟩
  have il : l ≠ i := fun q => by subst q; rw [ol] at n0; cases n0
  have iD : D ≠ i := fun q => by subst q; rw [hD] at n0; cases n0
  have hSf : D ∉ [i, l] := by simp only [List.mem_cons, List.not_mem_nil, or_false, not_or]; exact ⟨iD, Dl.symm⟩
  have key : ∀ (h : Heap) (c₁ tk : Nat), h.IsListIter i l 0 → h.IsList l ms.toArray → (∀ b o, b ≠ D → h'.get? b = some o → h.get? b = some o) →
      h.get? D = some { cls := .type "list", data := .seq #[] c₁ } → codeAny (model PR w) A (.builtin "list.extend.loop" ⟨[.ref D, .ref i, res], []⟩) R ⟨h, s.gens, s.drawn, tk, s.os⟩ := by
    intro h c₁ tk a b hk hD₁
    refine codeAny_extend_loopS (Walks.list (prog := PR) (w := w) (A := A.in1) hh i l il ms.toArray).toS (sz5 pv nd) D hSf res ms.toArray.size 0 _ #[] c₁ rfl (Nat.zero_le _) ⟨a, b⟩ hD₁ (ItemsOf.nil _) fun s' acc' c' hm hS' hacc => ?_
    rw [Moved.eq_with hm]
    obtain rfl := items_eq hacc
    refine hR s'.heap s'.toks c' (fun b o e n => hm.heap b o (fun hmem => ?_) (hk b o (by simpa using n) (md b o e (by simp)))) hS'
    rcases List.mem_cons.mp hmem with e' | hmem
    · exact n (by simp [e'])
    · obtain rfl := List.mem_singleton.mp hmem
      rw [e] at n0; cases n0
  refine wpAny_bind (wpAny_holding (hint_own (s := ⟨h', s.gens, s.drawn, tk, s.os⟩) LS' rfl fun b tk2 => ?_))
  refine wpAny_ite_split (fun _ => ?_) (fun _ => wpAny_pure ⟨plainId_quiet PySem.F.plain_extend_loop _, key _ c₀ _ ⟨_, hi, rfl, rfl⟩ (listAt ol') (fun b o _ e => e) hD'⟩)
  refine wpAny_bind (wpAny_rule ?_)
  refine wpAny_bind ?_
  show wpAny _ _ (updateSeq D (·.push .none) >>= fun _ => updateSeq D (·.pop)) _ _ _
  refine wpAny_bind (wpAny_updateSeq hD' rfl ?_)
  have hS₂ := Heap.get?_update_self (Obj.mapSeq (·.push Value.none)) hD' rfl
  refine wpAny_updateSeq (hz := by seq_fits) hS₂ rfl ?_
  have hS₃ := Heap.get?_update_self (Obj.mapSeq (·.pop)) hS₂ rfl
  have oth : ∀ b o, b ≠ D → h'.get? b = some o → ((h'.update D (Obj.mapSeq (·.push Value.none))).update D (Obj.mapSeq (·.pop))).get? b = some o :=
    fun b o hb e => (Heap.get?_update_other _ _ (Ne.symm hb)).trans ((Heap.get?_update_other _ _ (Ne.symm hb)).trans e)
  exact wpAny_pure ⟨plainId_quiet PySem.F.plain_extend_loop _, key _ _ _ ⟨_, oth _ _ iD.symm hi, rfl, rfl⟩ (listAt (oth _ _ Dl ol')) oth hS₃⟩
/-- list(an ordered set), over the heap -/
theorem list_own {Q : Value → Shared → Prop} (B : Base w mg mb g) (stg : g.StaysIn s.heap) (I : OSet w s.heap S dx l ms) (gS : g.get? S = none) (gd : g.get? dx = none) (gl : g.get? l = none) (hh : A.handled = none) (hd' : A.in1.in1.depth ≤ A0.depth) (hu : A.in1.in1.units ≤ A0.units)
    (h : ∀ h' tk e D, s.heap.get? D = none → Mod [] s.heap h' → h'.get? D = some (PySem.W.listOf ms.toArray e) → Q (.ref D) ⟨h', s.gens, s.drawn, tk, s.os⟩) : wpAny (model PR w) A (call (.type "list") [.ref S]) Q E s := by
  obtain ⟨⟨es, ep, t, e, oS, od, ol, f⟩, pv, nd⟩ := id I
  refine callType_codes (Q₁ := fun obj s₁ => obj = .ref s.heap.objs.size ∧ s₁ = { s with heap := s.heap.push { cls := .type "list", data := .seq #[] } }) PySem.F.called_list (PySem.F.typeCall_list_1 _) PySem.F.entry_list_init
    (code_list_new _ ⟨rfl, rfl⟩) fun obj s₁ h₁ => ?_
  obtain ⟨rfl, rfl⟩ := h₁
  have f0 : s.heap.get? s.heap.objs.size = none := Heap.get?_none_of_le (Nat.le_refl _)
  have hS : (s.heap.push { cls := .type "list", data := .seq #[] }).get? s.heap.objs.size = some { cls := .type "list", data := .seq #[] } := Heap.get?_push_size _ rfl
  refine ⟨⟨_, hS, rfl⟩, PySem.F.args_list_init_2 _ _, ?_⟩
  have lD : l ≠ s.heap.objs.size := Nat.ne_of_lt (Heap.lt_size ol)
  show wpAny _ _ (do let old ← Builtin.List.listItems (.ref s.heap.objs.size); Builtin.List.listUpdate (.ref s.heap.objs.size) (fun _ => #[]); letGo old.toList.reverse; Builtin.List.listExtendWith (.ref s.heap.objs.size) (.ref S) .none) _ _ _
  refine wpAny_bind ?_
  unfold Builtin.List.listItems
  refine wpAny_bind (wpAny_seqItems hS rfl (wpAny_pure ?_))
  show wpAny _ _ (updateSeq s.heap.objs.size (fun _ => #[]) >>= fun _ => letGo (#[] : Array Value).toList.reverse >>= fun _ => Builtin.List.listExtendWith (.ref s.heap.objs.size) (.ref S) .none) _ _ _
  refine wpAny_bind (wpAny_updateSeq hS rfl ?_)
  have hS₂ := Heap.get?_update_self (Obj.mapSeq (fun _ => (#[] : Array Value))) hS rfl
  have oth : ∀ b o, s.heap.get? b = some o → ((s.heap.push { cls := .type "list", data := .seq #[] }).update s.heap.objs.size (Obj.mapSeq (fun _ => (#[] : Array Value)))).get? b = some o :=
    fun b o e => (Heap.get?_update_other _ _ (Ne.symm (Nat.ne_of_lt (Heap.lt_size e)))).trans (Heap.get?_push_of_some _ e)
  refine wpAny_bind (wpAny_letGo ?_)
  refine extend_own (A := A.in1) B (fun b o e => oth b o (stg b o e)) ⟨⟨es, ep, t, e, oth _ _ oS, oth _ _ od, oth _ _ ol, f⟩, pv, nd⟩ gS gd gl hS₂ lD hh hd' hu fun h' tk c' md hD => ?_
  exact ⟨rfl, h h' tk c' _ f0 (fun b o e _ => md b o (oth b o e) (by simpa using Nat.ne_of_lt (Heap.lt_size e))) hD⟩
theorem k_listO {e : Nat} {Q : Value → Shared → Prop} (B : Base w mg mb g) (F : Fr g L s.heap m) (N : News g L s.heap news) (h1 : (S, setO (.ref 232) (some dx) es ep t #[some (.ref l)]) ∈ news) (h2 : (dx, dictE) ∈ news) (h3 : (l, PySem.W.listOf ms.toArray e) ∈ news) (f : SFact w es t (inL ms)) (pv : ∀ v ∈ ms, Pv v) (nd : (ms.map cl).Nodup)
    (hh : A.handled = none) (hd' : A.in1.in1.depth ≤ A0.depth) (hu : A.in1.in1.units ≤ A0.units)
    (h : ∀ D h' tk e, Fr g L h' m → News g L h' ((D, PySem.W.listOf ms.toArray e) :: news) → (∀ p ∈ news, p.1 ≠ D) → Q (.ref D) { s with heap := h', toks := tk }) : wpAny (model PR w) A (call (.type "list") [.ref S]) Q E s := by
  refine list_own B F.keep (os_at N h1 h2 h3 f pv nd) (N _ h1).2.2 (N _ h2).2.2 (N _ h3).2.2 hh hd' hu fun h' tk e D n0 md hD => ?_
  obtain ⟨F', N'⟩ := led_new F N md n0 hD
  exact h D h' tk e F' N' fun p hp => fresh_ne N (a := p.1) (o := p.2) hp n0
theorem k_len {e : Nat} {Q : Value → Shared → Prop} (F : Fr g L s.heap m) (X : (hd.heap_39 w.params).In g) (N : News g L s.heap news) (h1 : (S, setO (.ref 232) (some dx) es ep t #[some (.ref l)]) ∈ news) (h3 : (l, PySem.W.listOf ms.toArray e) ∈ news) (f : SFact w es t (inL ms)) (nd : (ms.map cl).Nodup)
    (h : ∀ u tk, Q (.int ms.length u) { s with toks := tk }) : wpAny (model PR w) A (call (.builtin "len") [.ref S]) Q E s := by
  refine len_set (setAt_news F X N h1 (.inr rfl) f) fun u tk => ?_
  rw [sf_len f nd]
  exact h u tk
end

end
/-! Cp -/
section
section
variable {w : World} {A : Around} {E : Value → Shared → Prop} {s : Shared} {env : Env} {mg mb : Str → Option Value} {g : Heap} {L S dx l : Addr} {m : Str → Option Value} {news : List (Addr × Obj)} {ms : List Value} {e : Nat}
/-- [f(x) for x in _law_pool], f(x) a truth value -/
theorem comp_pool {elt : Expr} {x z : Str} {px pz : Pos} {scope : Scope} {cl : List (Str × Addr)} {pos : Pos} {Q : Value → Shared → Prop} (f : Value → Bool)
    (hclos : closureFor scope env = pure cl) (hcell : ∀ y ∈ scope.names, y.2 ≠ .cell) (hkind : scope.kind = .function)
    (hnames : ∀ y ∈ scope.names, y.2 = .local → scope.names.lookup y.1 = some .local) (hx : scope.names.lookup x = some .local) (hs : ∀ v, foldedSetIterable (.Name z pz) env v = pure v)
    (hh : A.handled = none) (F : Fr g L s.heap m) (B : Base w mg mb g) (N : News g L s.heap news) (hg : env.globals = mainGlobals) (hz : nsIn (hd.heap_39 w.params) mainGlobals z = some (some (.ref 247)))
    (hk2 : env.scope.kind = .function) (hx2 : env.kindOf z = some .globalImplicit) (hd : (z == ("__debug__" : Str)) = false)
    (he : ∀ C v (s₃ : Shared) m₃ E', Pv v → s₃.heap.Ns C m₃ → m₃ x = some v → Fr g L s₃.heap m → News g L s₃.heap news → wpAny (model PR w) A (eval elt (compEnvC scope cl C env)) (fun y s₄ => y = .bool (f v) ∧ Keeps s₃ s₄) E' s₃)
    (hQ : ∀ D h' tk e', Fr g L h' m → News g L h' ((D, PySem.W.listOf (poolL.map fun v => Value.bool (f v)).toArray e') :: news) → (∀ q ∈ news, q.1 ≠ D) → Q (.ref D) { s with heap := h', toks := tk }) :
    wpAny (model PR w) A (eval (.ListComp elt [⟨.Name x px, .Name z pz, [], 0⟩] scope pos) env) Q E s := by
  refine wpAny_ListComp_free (fun _ => true) (fun v y => y = .bool (f v)) hclos hcell hkind hnames hx (Name_function_global hk2 hx2 (loadGlobal_global (env := env) (show s.heap.Ns env.globals mg from hg ▸ (B.T.keeps F.keep).g) (mg_of B.K B.T.g hz) ?_) hd) hs
  have hl : s.heap.get? 247 = some (PySem.W.listOf poolL.toArray 0) := (B.K.keeps F.keep) _ _ rfl
  have gl : g.get? 247 = some (PySem.W.listOf poolL.toArray 0) := B.K _ _ rfl
  refine wpAny_pyIter_list (listAt hl) ?_
  have n0 : s.heap.get? s.heap.objs.size = none := Heap.get?_none_of_le (Nat.le_refl _)
  have ne : 247 ≠ s.heap.objs.size := Nat.ne_of_lt (Heap.lt_size hl)
  have hI : (s.heap.push (liO 247 0)).get? s.heap.objs.size = some (liO 247 0) := Heap.get?_push_size _ rfl
  have hl2 : (s.heap.push (liO 247 0)).get? 247 = some (PySem.W.listOf poolL.toArray 0) := Heap.get?_push_of_some _ hl
  have IL : s.heap.objs.size ≠ L := fun q => by obtain ⟨oL, _, _, hL, _⟩ := F.ns; rw [← q, n0] at hL; cases hL
  have F2 : Fr g L (s.heap.push (liO 247 0)) m := F.push _
  have N2 : News g L (s.heap.push (liO 247 0)) news := fun p hp => ⟨Heap.get?_push_of_some _ (N p hp).1, (N p hp).2⟩
  have keepF : ∀ {h' : Heap}, (∀ b o, b ∉ [s.heap.objs.size] → (s.heap.push (liO 247 0)).get? b = some o → h'.get? b = some o) → Fr g L h' m := fun k => fr_mod F2 (fun b o e n => k b o n e) (by simpa using fun q => IL q.symm) (by simpa using none_of F.keep n0)
  have keepN : ∀ {h' : Heap}, (∀ b o, b ∉ [s.heap.objs.size] → (s.heap.push (liO 247 0)).get? b = some o → h'.get? b = some o) → News g L h' news := fun k q hq => ⟨k _ _ (by simpa using fresh_ne N (a := q.1) (o := q.2) hq n0) (N2 q hq).1, (N q hq).2⟩
  have hv : ∀ {i : Nat} {v : Value}, poolL.toArray[i]? = some v → Pv v := fun h => List.mem_of_getElem? (by simpa using h)
  refine ⟨s.heap.objs.size, [s.heap.objs.size, 247], [s.heap.objs.size], poolL.toArray.size, _, _, rfl, Walks.list (prog := PR) (w := w) hh _ 247 ne poolL.toArray, by rw [List.size_toArray, sizeLine_eq]; decide, ⟨⟨_, hI, rfl, rfl⟩, listAt hl2⟩, ?_, ⟨?_, ?_⟩, ?_⟩
  · intro b hb
    simp only [List.mem_cons, List.not_mem_nil, or_false] at hb
    rcases hb with rfl | rfl
    · exact Heap.lt_size hI
    · exact Heap.lt_size hl2
  · intro C i v s₃ m₃ E' _ hP hn' hm hk _
    exact wpAny_tests_nil ⟨rfl, s₃.heap, s₃.toks, rfl, fun _ _ e => e⟩
  · intro C i v s₃ m₃ E' _ hP _ hn' hm hk _
    exact he C v s₃ m₃ E' (hv hP) hn' hm (keepF hk) (keepN hk)
  · intro D h' tk ys us hD _ hpl hlen hP hF hk
    have hus : us = poolL := by
      apply List.ext_getElem?
      intro j
      by_cases q : j < us.length
      · have hj : us[j]? = some us[j] := List.getElem?_eq_getElem q
        rw [hj]; have := hP j _ hj; simpa using this.symm
      · rw [List.getElem?_eq_none (by omega), List.getElem?_eq_none (by rw [List.size_toArray] at hlen; omega)]
    subst hus
    have hys : ys = (poolL.map fun v => Value.bool (f v)).toArray := by
      have aux : ∀ {a b : List Value}, Paired (fun v y => y = Value.bool (f v)) a b → b = a.map fun v => Value.bool (f v) := by
        intro a b h
        induction h with
        | nil => rfl
        | cons h _ ih => rw [List.map_cons, ← ih, h]
      have := aux hF
      rw [List.filter_eq_self.mpr (fun _ _ => rfl)] at this
      rw [← this]
    subst hys
    obtain ⟨e', hD'⟩ := hpl
    have hD0 : s.heap.get? D = none := by
      cases q : s.heap.get? D with
      | none => rfl
      | some o => rw [Heap.get?_push_of_some _ q] at hD; cases hD
    refine hQ D h' tk e' (keepF hk) (fun q hq => ?_) (fun q hq => fresh_ne N (a := q.1) (o := q.2) hq hD0)
    rcases List.mem_cons.mp hq with rfl | hq
    · refine ⟨hD', fun z => ?_, none_of F.keep hD0⟩
      obtain ⟨oL, _, _, hL, _⟩ := F.ns
      dsimp only at z; rw [z, hL] at hD0; cases hD0
    · exact keepN hk q hq
theorem cell_or {y : Str} {py : Pos} {env : Env} {c : Addr} {oc : Obj} {v : Value} {Q : Value → Shared → Prop} (hk : env.scope.kind = .function) (hy : env.kindOf y = some .cell ∨ env.kindOf y = some .free) (hc : env.cells.lookup y = some c) (dy : (y == ("__debug__" : Str)) = false) (dy2 : (y == ("__classdict__" : Str)) = false)
    (ho : s.heap.get? c = some oc) (hd' : oc.data = .cell (some v)) (h : Q v s) : wpAny (model PR w) A (eval (.Name y py) env) Q E s := by
  rcases hy with hy | hy
  · exact wpAny_Name (wpAny_loadName_cell hk hy hc ⟨oc, ho, hd'⟩ h) dy
  · exact wpAny_Name (wpAny_loadName_free hk hy hc ⟨oc, ho, hd'⟩ h dy2) dy
theorem elt_in_set {x y : Str} {px py pc : Pos} {cl : List (Str × Addr)} {scope : Scope} {C c r : Addr} {oc : Obj} {cc : Value} {dd : Option Addr} {es : Array (Int × Value)} {ep : Nat} {t : SetTable} {sl : Array (Option Value)} {v : Value} {m₃ : Str → Option Value} {E' : Value → Shared → Prop}
    (hk : (compEnvC scope cl C env).scope.kind = .function) (hx : (compEnvC scope cl C env).kindOf x = some .local) (hy : (compEnvC scope cl C env).kindOf y = some .cell ∨ (compEnvC scope cl C env).kindOf y = some .free) (hc : cl.lookup y = some c) (dx : (x == ("__debug__" : Str)) = false) (dy : (y == ("__debug__" : Str)) = false) (dy2 : (y == ("__classdict__" : Str)) = false)
    (hn : s.heap.Ns C m₃) (hm : m₃ x = some v) (F : Fr g L s.heap m) (X : (hd.heap_39 w.params).In g) (N : News g L s.heap news) (ho : (c, oc) ∈ news) (hd' : oc.data = .cell (some (.ref r))) (hs : (r, setO cc dd es ep t sl) ∈ news) (hcc : cc = .type "set" ∨ cc = .ref 232) (f : SFact w es t (inL ms)) (hv : Pv v) (hu : A.units + 5 < cLine) :
    wpAny (model PR w) A (eval (.Compare (.Name x px) [.In] [.Name y py] pc) (compEnvC scope cl C env)) (fun z s₄ => z = .bool (decide (inL ms v)) ∧ Keeps s s₄) E' s := by
  refine wpAny_Compare1 (wpAny_Name (wpAny_loadName_local hk hx hn hm (cell_or hk hy hc dy dy2 (N _ ho).1 hd' ?_)) dx)
  refine k_in_set F X N hs hcc f hv hu fun b tk hb => ⟨?_, s.heap, tk, rfl, fun _ _ e => e⟩
  congr 1
  cases b <;> simp_all
theorem elt_in_list {x y : Str} {px py pc : Pos} {cl : List (Str × Addr)} {scope : Scope} {C c r : Addr} {oc : Obj} {v : Value} {m₃ : Str → Option Value} {E' : Value → Shared → Prop}
    (hk : (compEnvC scope cl C env).scope.kind = .function) (hx : (compEnvC scope cl C env).kindOf x = some .local) (hy : (compEnvC scope cl C env).kindOf y = some .cell ∨ (compEnvC scope cl C env).kindOf y = some .free) (hc : cl.lookup y = some c) (dx : (x == ("__debug__" : Str)) = false) (dy : (y == ("__debug__" : Str)) = false) (dy2 : (y == ("__classdict__" : Str)) = false)
    (hn : s.heap.Ns C m₃) (hm : m₃ x = some v) (F : Fr g L s.heap m) (X : (hd.heap_39 w.params).In g) (N : News g L s.heap news) (ho : (c, oc) ∈ news) (hd' : oc.data = .cell (some (.ref r))) (hl : (r, PySem.W.listOf ms.toArray e) ∈ news) (pv : ∀ v ∈ ms, Pv v) (hv : Pv v) (hu : A.units + 3 < cLine) :
    wpAny (model PR w) A (eval (.Compare (.Name x px) [.In] [.Name y py] pc) (compEnvC scope cl C env)) (fun z s₄ => z = .bool (decide (inL ms v)) ∧ Keeps s s₄) E' s := by
  refine wpAny_Compare1 (wpAny_Name (wpAny_loadName_local hk hx hn hm (cell_or hk hy hc dy dy2 (N _ ho).1 hd' ?_)) dx)
  refine k_in_list F X N hl pv hv hu fun b hb => ⟨?_, s.heap, s.toks, rfl, fun _ _ e => e⟩
  congr 1
  cases b <;> simp_all
theorem car_bools (f : Value → Bool) : ∀ vs : List Value, CarriedAll (vs.map fun v => Value.bool (f v)) (vs.map fun v => PyData.bool (f v))
  | [] => .nil
  | _ :: r => .cons (.bool _) (car_bools f r)
theorem lay_bools (f : Value → Bool) : ∀ vs : List Value, PyData.canLayAll0 (vs.map fun v => PyData.bool (f v)) = true
  | [] => rfl
  | _ :: r => by simp [PyData.canLayAll0, PyData.canLay0, lay_bools f r]
theorem dep_bools (f : Value → Bool) : ∀ vs : List Value, PyData.depthAll (vs.map fun v => PyData.bool (f v)) = 0
  | [] => rfl
  | _ :: r => by simp [PyData.depthAll, PyData.depth, dep_bools f r]
theorem eqv_bools (f : Value → Bool) : ∀ vs : List Value, PyData.eqvAll (vs.map fun v => PyData.bool (f v)) (vs.map fun v => PyData.bool (f v)) = true
  | [] => rfl
  | _ :: r => by simp [PyData.eqvAll, PyData.eqv, eqv_bools f r]
theorem k_ne_bools {a b : Addr} {f : Value → Bool} {vs : List Value} {e e' : Nat} {Q : Value → Shared → Prop} (N : News g L s.heap news) (ha : (a, PySem.W.listOf (vs.map fun v => Value.bool (f v)).toArray e) ∈ news) (hb : (b, PySem.W.listOf (vs.map fun v => Value.bool (f v)).toArray e') ∈ news) (hu : A.units + 64 < cLine) (h : Q (.bool false) s) :
    wpAny (model PR w) A (compareOp .NotEq (.ref a) (.ref b)) Q E s := by
  have sh : PySem.SeqAt.shaped (.list (vs.map fun v => PyData.bool (f v))) = true := by simp [PySem.SeqAt.shaped, PyData.canLay0, PyData.depth, lay_bools, dep_bools]
  refine ne_dataH (reads_newData (listAt (N _ ha).1) (car_bools f vs)) (reads_newData (listAt (N _ hb).1) (car_bools f vs)) sh sh hu ?_
  simp only [PyData.eqv, eqv_bools, Bool.not_true]
  exact h
end

end
/-! Rl -/
section
section
variable {w : World} {A : Around} {E : Value → Shared → Prop} {s : Shared} {env : Env} {mg mb : Str → Option Value} {g : Heap} {L : Addr} {m : Str → Option Value} {news : List (Addr × Obj)} {ms : List Value} {e : Nat}
theorem comp_in_set {x y z : Str} {px px2 py pc pz : Pos} {scope : Scope} {cl : List (Str × Addr)} {pos : Pos} {Q : Value → Shared → Prop} {c r : Addr} {oc : Obj} {cc : Value} {dd : Option Addr} {es : Array (Int × Value)} {ep : Nat} {t : SetTable} {sl : Array (Option Value)}
    (hclos : closureFor scope env = pure cl) (hcell : ∀ y ∈ scope.names, y.2 ≠ .cell) (hkind : scope.kind = .function)
    (hnames : ∀ y ∈ scope.names, y.2 = .local → scope.names.lookup y.1 = some .local) (hx : scope.names.lookup x = some .local) (hs : ∀ v, foldedSetIterable (.Name z pz) env v = pure v)
    (hh : A.handled = none) (F : Fr g L s.heap m) (B : Base w mg mb g) (N : News g L s.heap news) (hg : env.globals = mainGlobals) (hz : nsIn (hd.heap_39 w.params) mainGlobals z = some (some (.ref 247)))
    (hk2 : env.scope.kind = .function) (hx2 : env.kindOf z = some .globalImplicit) (hd : (z == ("__debug__" : Str)) = false)
    (kk : ∀ C, (compEnvC scope cl C env).scope.kind = .function) (kx : ∀ C, (compEnvC scope cl C env).kindOf x = some .local) (ky : ∀ C, (compEnvC scope cl C env).kindOf y = some .cell ∨ (compEnvC scope cl C env).kindOf y = some .free) (hc : cl.lookup y = some c) (dx : (x == ("__debug__" : Str)) = false) (dy : (y == ("__debug__" : Str)) = false) (dy2 : (y == ("__classdict__" : Str)) = false)
    (ho : (c, oc) ∈ news) (hd' : oc.data = .cell (some (.ref r))) (hr : (r, setO cc dd es ep t sl) ∈ news) (hcc : cc = .type "set" ∨ cc = .ref 232) (f : SFact w es t (inL ms)) (hu : A.units + 5 < cLine)
    (hQ : ∀ D h' tk e', Fr g L h' m → News g L h' ((D, PySem.W.listOf (poolL.map fun v => Value.bool (decide (inL ms v))).toArray e') :: news) → (∀ q ∈ news, q.1 ≠ D) → Q (.ref D) { s with heap := h', toks := tk }) :
    wpAny (model PR w) A (eval (.ListComp (.Compare (.Name x px) [.In] [.Name y py] pc) [⟨.Name x px2, .Name z pz, [], 0⟩] scope pos) env) Q E s :=
  comp_pool (fun v => decide (inL ms v)) hclos hcell hkind hnames hx hs hh F B N hg hz hk2 hx2 hd (fun C _ _ _ _ pv hn hm F3 N3 => elt_in_set (kk C) (kx C) (ky C) hc dx dy dy2 hn hm F3 B.K N3 ho hd' hr hcc f pv hu) hQ
theorem comp_in_list {x y z : Str} {px px2 py pc pz : Pos} {scope : Scope} {cl : List (Str × Addr)} {pos : Pos} {Q : Value → Shared → Prop} {c r : Addr} {oc : Obj}
    (hclos : closureFor scope env = pure cl) (hcell : ∀ y ∈ scope.names, y.2 ≠ .cell) (hkind : scope.kind = .function)
    (hnames : ∀ y ∈ scope.names, y.2 = .local → scope.names.lookup y.1 = some .local) (hx : scope.names.lookup x = some .local) (hs : ∀ v, foldedSetIterable (.Name z pz) env v = pure v)
    (hh : A.handled = none) (F : Fr g L s.heap m) (B : Base w mg mb g) (N : News g L s.heap news) (hg : env.globals = mainGlobals) (hz : nsIn (hd.heap_39 w.params) mainGlobals z = some (some (.ref 247)))
    (hk2 : env.scope.kind = .function) (hx2 : env.kindOf z = some .globalImplicit) (hd : (z == ("__debug__" : Str)) = false)
    (kk : ∀ C, (compEnvC scope cl C env).scope.kind = .function) (kx : ∀ C, (compEnvC scope cl C env).kindOf x = some .local) (ky : ∀ C, (compEnvC scope cl C env).kindOf y = some .cell ∨ (compEnvC scope cl C env).kindOf y = some .free) (hc : cl.lookup y = some c) (dx : (x == ("__debug__" : Str)) = false) (dy : (y == ("__debug__" : Str)) = false) (dy2 : (y == ("__classdict__" : Str)) = false)
    (ho : (c, oc) ∈ news) (hd' : oc.data = .cell (some (.ref r))) (hr : (r, PySem.W.listOf ms.toArray e) ∈ news) (pv : ∀ v ∈ ms, Pv v) (hu : A.units + 3 < cLine)
    (hQ : ∀ D h' tk e', Fr g L h' m → News g L h' ((D, PySem.W.listOf (poolL.map fun v => Value.bool (decide (inL ms v))).toArray e') :: news) → (∀ q ∈ news, q.1 ≠ D) → Q (.ref D) { s with heap := h', toks := tk }) :
    wpAny (model PR w) A (eval (.ListComp (.Compare (.Name x px) [.In] [.Name y py] pc) [⟨.Name x px2, .Name z pz, [], 0⟩] scope pos) env) Q E s :=
  comp_pool (fun v => decide (inL ms v)) hclos hcell hkind hnames hx hs hh F B N hg hz hk2 hx2 hd (fun C _ _ _ _ pv2 hn hm F3 N3 => elt_in_list (kk C) (kx C) (ky C) hc dx dy dy2 hn hm F3 B.K N3 ho hd' hr pv pv2 hu) hQ
theorem add_rp {t u : Tok} {Q : Value → Shared → Prop} (pv : ∀ v ∈ ms, Pv v) (hz : ms.length ≤ 100) (h : ∀ t' tk, Q (.str (Str.ofString "OrderedSet(" ++ rp ms) t') { s with toks := tk }) : wpAny (model PR w) A (binaryOp .Add (.str (Str.ofString "OrderedSet(") t) (.str (rp ms) u)) Q E s := by
  have a := rp_len pv hz
  have b : (Str.ofString "OrderedSet(").length = 11 := by decide +kernel
  refine PyProof.Rows.add_str h ?_
  rw [sizeLine_eq]; omega
theorem add_rp2 {t u : Tok} {Q : Value → Shared → Prop} (pv : ∀ v ∈ ms, Pv v) (hz : ms.length ≤ 100) (h : ∀ t' tk, Q (.str (Str.ofString "OrderedSet(" ++ rp ms ++ Str.ofString ")") t') { s with toks := tk }) : wpAny (model PR w) A (binaryOp .Add (.str (Str.ofString "OrderedSet(" ++ rp ms) t) (.str (Str.ofString ")") u)) Q E s := by
  have a := rp_len pv hz
  have b : (Str.ofString "OrderedSet(").length = 11 := by decide +kernel
  have c : (Str.ofString ")").length = 1 := by decide +kernel
  refine PyProof.Rows.add_str h ?_
  rw [Str.length_append, sizeLine_eq]; omega
theorem k_lenL {l : Addr} {Q : Value → Shared → Prop} (N : News g L s.heap news) (h1 : (l, PySem.W.listOf ms.toArray e) ∈ news) (hz : ms.length ≤ 1000) (h : ∀ u tk, Q (.int ms.length u) { s with toks := tk }) : wpAny (model PR w) A (call (.builtin "len") [.ref l]) Q E s := by
  refine call_len_list (listAt (N _ h1).1) (by rw [List.size_toArray]; omega) ?_
  simp only [List.size_toArray]
  exact h _ _
theorem ne_ints {x y : Int} {t u : Tok} {Q : Value → Shared → Prop} (e : x = y) (h : Q (.bool false) s) : wpAny (model PR w) A (compareOp .NotEq (.int x t) (.int y u)) Q E s := by
  subst e
  refine ne_int ?_
  have : (x != x) = false := by simp
  rw [this]; exact h
end
end
local macro_rules | `(tactic| walk_at "call type:list") => `(tactic| (k_here; (with_reducible show wpAny _ _ (call (Value.type "list") [Value.ref _]) _ _ _); k_dflt (refine' k_listO ?b ?k1 ?k2 ?h1 ?h2 ?h3 ?f ?pv ?nd ?hh ?hd ?hu ?_; (case b => assumption); (case k1 => k_asm); (case k2 => k_asm); (case h1 => k_mem); (case h2 => k_mem); (case h3 => k_mem); (case f => assumption); (case pv => assumption); (case nd => assumption); (case hh => exact rfl); (case hd => k_units); (case hu => k_units); k_whole); intro D' h' tk' e' F' N' n'; (try k_sweep)))
local macro_rules | `(tactic| walk_at "call builtin:len") => `(tactic| (k_here; (with_reducible show wpAny _ _ (call (Value.builtin "len") [Value.ref _]) _ _ _); k_dflt (refine' k_len ?k1 ?x ?k2 ?h1 ?h3 ?f ?nd ?_; (case k1 => k_asm); (case x => k_asm); (case k2 => k_asm); (case h1 => k_mem); (case h3 => k_mem); (case f => assumption); (case nd => assumption); k_whole); intro u' tk'))
local macro_rules | `(tactic| walk_at "compareOp NotEq ref ref") => `(tactic| (k_here; (with_reducible show wpAny _ _ (compareOp CmpOp.NotEq (Value.ref _) (Value.ref _)) _ _ _); k_dflt (refine' k_ne_bools ?N ?a ?b ?u ?_; (case N => k_asm); (case a => k_mem); (case b => k_mem); (case u => exact Nat.le_of_ble_eq_true rfl); k_whole)))
local macro_rules | `(tactic| walk_at "eval ListComp") => `(tactic| (k_here; (with_reducible show wpAny _ _ (eval (Expr.ListComp (Expr.Compare _ [CmpOp.In] _ _) _ _ _) _) _ _ _); k_dflt (refine' comp_in_set ?c1 ?c2 ?c3 ?c4 ?c5 ?c6 ?c7 ?F ?B ?N ?g ?z ?k2 ?x2 ?d ?kk ?kx ?ky ?hc ?dx ?dy ?dy2 ?ho ?hd ?hr ?hcc ?f ?u ?_; (case B => assumption); (case F => k_asm); (case N => k_asm); (case c1 => exact rfl); (case c2 => decide); (case c3 => exact rfl); (case c4 => decide); (case c5 => exact rfl); (case c6 => exact fun _ => rfl); (case c7 => exact rfl); (case g => exact rfl); (case z => k_is); (case k2 => exact rfl); (case x2 => exact rfl); (case d => decide); (case kk => exact fun _ => rfl); (case kx => exact fun _ => rfl); (case ky => first | exact fun _ => .inl rfl | exact fun _ => .inr rfl); (case hc => exact rfl); (case dx => decide); (case dy => decide); (case dy2 => decide); (case ho => k_mem); (case hd => assumption); (case hr => k_mem); (case hcc => exact .inr rfl); (case f => assumption); (case u => exact Nat.le_of_ble_eq_true rfl); k_whole); intro D' h' tk' e' F' N' n'; (try k_sweep)))
local macro_rules | `(tactic| walk_at "eval ListComp") => `(tactic| (k_here; (with_reducible show wpAny _ _ (eval (Expr.ListComp (Expr.Compare _ [CmpOp.In] _ _) _ _ _) _) _ _ _); k_dflt (refine' comp_in_list ?c1 ?c2 ?c3 ?c4 ?c5 ?c6 ?c7 ?F ?B ?N ?g ?z ?k2 ?x2 ?d ?kk ?kx ?ky ?hc ?dx ?dy ?dy2 ?ho ?hd ?hr ?pv ?u ?_; (case B => assumption); (case F => k_asm); (case N => k_asm); (case c1 => exact rfl); (case c2 => decide); (case c3 => exact rfl); (case c4 => decide); (case c5 => exact rfl); (case c6 => exact fun _ => rfl); (case c7 => exact rfl); (case g => exact rfl); (case z => k_is); (case k2 => exact rfl); (case x2 => exact rfl); (case d => decide); (case kk => exact fun _ => rfl); (case kx => exact fun _ => rfl); (case ky => first | exact fun _ => .inl rfl | exact fun _ => .inr rfl); (case hc => exact rfl); (case dx => decide); (case dy => decide); (case dy2 => decide); (case ho => k_mem); (case hd => assumption); (case hr => k_mem); (case pv => assumption); (case u => exact Nat.le_of_ble_eq_true rfl); k_whole); intro D' h' tk' e' F' N' n'; (try k_sweep)))
local macro_rules | `(tactic| walk_at "call builtin:len") => `(tactic| (k_here; (with_reducible show wpAny _ _ (call (Value.builtin "len") [Value.ref _]) _ _ _); k_dflt (refine' k_lenL ?k2 ?h1 ?z ?_; (case k2 => k_asm); (case h1 => k_mem); (case z => first | with_reducible assumption | (simp; done) | omega); k_whole); intro u' tk'))
local macro_rules | `(tactic| walk_at "compareOp NotEq int int") => `(tactic| (k_here; k_dflt (refine' ne_ints ?e ?_; (case e => with_reducible rfl); k_whole)))
local macro_rules | `(tactic| walk_at "binaryOp Add str str") => `(tactic| (k_here; (with_reducible show wpAny _ _ (binaryOp Operator.Add (Value.str (PySem.Str.ofString "OrderedSet(") _) (Value.str (rp _) _)) _ _ _); k_dflt (refine' add_rp ?p ?z ?_; (case p => assumption); (case z => first | with_reducible assumption | (simp; done) | omega); k_whole); intro t' tk'))
local macro_rules | `(tactic| walk_at "binaryOp Add str str") => `(tactic| (k_here; (with_reducible show wpAny _ _ (binaryOp Operator.Add (Value.str (PySem.Str.ofString "OrderedSet(" ++ rp _) _) (Value.str (PySem.Str.ofString ")") _)) _ _ _); k_dflt (refine' add_rp2 ?p ?z ?_; (case p => assumption); (case z => first | with_reducible assumption | (simp; done) | omega); k_whole); intro t' tk'))
/-! Te -/
section
def endBody : List Stmt := turnBody.drop 10
end
local macro_rules | `(tactic| passes_own) => `(tactic| assumption)
local macro_rules | `(tactic| walk_at "exec For Tuple Call cons nil") => `(tactic| (k_here; refine halt ?_))
section
section
variable {w : World} {mg mb : Str → Option Value} {g : Heap} {E : Value → Shared → Prop}
theorem turn_end {L f I st sc : Addr} {cdv : Value} {us : List Value} {oI : Obj} {h : Heap} {dr : Drawn} {tk : Nat} {s1 : Shared} {Q : Flow → Shared → Prop}
    (B : Base w mg mb g) (cI : oI.cls = .type "range_iterator") (hI : h.get? I = some oI) (gI : g.get? I = none) (IL : I ≠ L) (J : LawJ w g L st sc us I h) (hE : PassesOwn (model PR w) (callerA.deeper (lawEnv L f cdv)) (lawEnv L f cdv) E) :
    wpAny (model PR w) (callerA.deeper (lawEnv L f cdv)) (execs endBody (lawEnv L f cdv)) (TurnEnd Q s1 (fun h => (g.get? I = none ∧ I ≠ L) ∧ LawJ w g L st sc us I h) I oI) E ⟨h, s1.gens, dr, tk, s1.os⟩ := by
  have hb : endBody = endBody := rfl
  conv at hb => rhs; whnf
  have hsc : lawScope = lawScope := rfl
  conv at hsc => rhs; whnf
  rw [hb]
  unfold lawEnv at hE ⊢
  rw [hsc] at hE ⊢
  clear hb hsc
  have X' := B.K
  have T' := B.T
  obtain ⟨u, Ls, Lm, la, lb, S0, dx0, i0, S1, dx1, i1, ms0, ms1, es0, es1, ep0, ep1, t0, t1, eS, eM, ea, eb, e0, e1, o, c1, c2, c3, c4, v3, v4, F, N, NI, so, ⟨d1, d2, d3, d4⟩, ⟨f0, pv0, nd0⟩, ⟨f1, pv1, nd1⟩, AP⟩ := J
  obtain ⟨jj, j1, jq, j2, j3, rfl, _⟩ := id so
  have ⟨⟨a1, a2, a3, a4, a5, a6, a7, a8, a9, a10⟩, ⟨b1, b2, b3, b4, b5⟩, ⟨g1, g2, g3, g4, g5⟩, ⟨k1, k2, k3, k4, k5⟩, w1, w2⟩ := AP
  have y1 := NI (Ls, _) (by k_mem)
  have y2 := NI (Lm, _) (by k_mem)
  have y3 := NI (st, _) (by k_mem)
  have y4 := NI (L + 1 + 1 + 1 + 1, c4) (by k_mem)
  have y5 := NI (L + 1 + 1 + 1, c3) (by k_mem)
  dsimp only at y1 y2 y3 y4 y5
  have z2 := sz5 pv0 nd0
  have z3 := sz5 pv1 nd1
  have z4 := len5 pv0 nd0
  have z5 := len5 pv1 nd1
  have z6 : ms0.length ≤ 100 := by omega
  have z7 : ms1.length ≤ 100 := by omega
  have z8 : ms0.length ≤ 1000 := by omega
  have z9 : ms1.length ≤ 1000 := by omega
  have N1 : News g L h [(Ls, PySem.W.listOf [.ref S0, .ref S1].toArray eS), (Lm, PySem.W.listOf [.ref la, .ref lb].toArray eM), (la, PySem.W.listOf ms0.toArray ea), (lb, PySem.W.listOf ms1.toArray eb), (S0, setO (.ref 232) (some dx0) es0 ep0 t0 #[some (.ref i0)]), (dx0, dictE), (i0, PySem.W.listOf ms0.toArray e0), (S1, setO (.ref 232) (some dx1) es1 ep1 t1 #[some (.ref i1)]), (dx1, dictE), (i1, PySem.W.listOf ms1.toArray e1), (st, PySem.W.listOf [.ref sc, .int jj j1, .int jq j2].toArray j3), (sc, PySem.W.listOf us.toArray 0), (L + 1 + 1 + 1 + 1, c4), (L + 1 + 1 + 1, c3), (L + 1 + 1, c2), (L + 1, c1), (I, oI)] := by
    intro p hp
    rcases List.mem_append.mp (show p ∈ [_, _, _, _, _, _, _, _, _, _, _, _, _, _, _, _] ++ [(I, oI)] from hp) with q | q
    · exact N p q
    · obtain rfl := List.mem_singleton.mp q; exact ⟨hI, IL, gI⟩
  have r30 : Ls ≠ L + 1 + 1 + 1 := neNews N1 (by k_mem) (by k_mem) (neD d3 (by nofun))
  have r31 : Lm ≠ L + 1 + 1 + 1 := neNews N1 (by k_mem) (by k_mem) (neD d3 (by nofun))
  have r32 : la ≠ L + 1 + 1 + 1 := neNews N1 (by k_mem) (by k_mem) (neD d3 (by nofun))
  have r33 : lb ≠ L + 1 + 1 + 1 := neNews N1 (by k_mem) (by k_mem) (neD d3 (by nofun))
  have r34 : S0 ≠ L + 1 + 1 + 1 := neNews N1 (by k_mem) (by k_mem) (neD d3 (by nofun))
  have r35 : dx0 ≠ L + 1 + 1 + 1 := neNews N1 (by k_mem) (by k_mem) (neD d3 (by nofun))
  have r36 : i0 ≠ L + 1 + 1 + 1 := neNews N1 (by k_mem) (by k_mem) (neD d3 (by nofun))
  have r37 : S1 ≠ L + 1 + 1 + 1 := neNews N1 (by k_mem) (by k_mem) (neD d3 (by nofun))
  have r38 : dx1 ≠ L + 1 + 1 + 1 := neNews N1 (by k_mem) (by k_mem) (neD d3 (by nofun))
  have r39 : i1 ≠ L + 1 + 1 + 1 := neNews N1 (by k_mem) (by k_mem) (neD d3 (by nofun))
  have r310 : st ≠ L + 1 + 1 + 1 := neNews N1 (by k_mem) (by k_mem) (neD d3 (by nofun))
  have r311 : sc ≠ L + 1 + 1 + 1 := neNews N1 (by k_mem) (by k_mem) (neD d3 (by nofun))
  have r40 : Ls ≠ L + 1 + 1 + 1 + 1 := neNews N1 (by k_mem) (by k_mem) (neD d4 (by nofun))
  have r41 : Lm ≠ L + 1 + 1 + 1 + 1 := neNews N1 (by k_mem) (by k_mem) (neD d4 (by nofun))
  have r42 : la ≠ L + 1 + 1 + 1 + 1 := neNews N1 (by k_mem) (by k_mem) (neD d4 (by nofun))
  have r43 : lb ≠ L + 1 + 1 + 1 + 1 := neNews N1 (by k_mem) (by k_mem) (neD d4 (by nofun))
  have r44 : S0 ≠ L + 1 + 1 + 1 + 1 := neNews N1 (by k_mem) (by k_mem) (neD d4 (by nofun))
  have r45 : dx0 ≠ L + 1 + 1 + 1 + 1 := neNews N1 (by k_mem) (by k_mem) (neD d4 (by nofun))
  have r46 : i0 ≠ L + 1 + 1 + 1 + 1 := neNews N1 (by k_mem) (by k_mem) (neD d4 (by nofun))
  have r47 : S1 ≠ L + 1 + 1 + 1 + 1 := neNews N1 (by k_mem) (by k_mem) (neD d4 (by nofun))
  have r48 : dx1 ≠ L + 1 + 1 + 1 + 1 := neNews N1 (by k_mem) (by k_mem) (neD d4 (by nofun))
  have r49 : i1 ≠ L + 1 + 1 + 1 + 1 := neNews N1 (by k_mem) (by k_mem) (neD d4 (by nofun))
  have r410 : st ≠ L + 1 + 1 + 1 + 1 := neNews N1 (by k_mem) (by k_mem) (neD d4 (by nofun))
  have r411 : sc ≠ L + 1 + 1 + 1 + 1 := neNews N1 (by k_mem) (by k_mem) (neD d4 (by nofun))
  have F1 : Fr g L (⟨h, s1.gens, dr, tk, s1.os⟩ : Shared).heap _ := F
  have NI0 := NI
  clear N F NI
  k_steps
  refine For_turns (h₀ := g) F1 ?_ (fun _ => rfl) hE
  k_steps
  rename_i F9 N9
  rename _ = Data.cell (some (Value.ref S1)) => dd3
  rename _ = Data.cell (some (Value.ref lb)) => dd4
  refine ⟨_, _, _, rfl, ⟨⟨gI, IL⟩, u, Ls, Lm, la, lb, S0, dx0, i0, S1, dx1, i1, ms0, ms1, es0, es1, ep0, ep1, t0, t1, eS, eM, ea, eb, e0, e1, _, c1, c2, _, _, _, _, F9, fun p hp => ?_, fun p hp => ?_, so, ⟨d1, d2, dd3, dd4⟩, ⟨f0, pv0, nd0⟩, ⟨f1, pv1, nd1⟩, AP⟩, (N9 (I, oI) (by k_mem)).1⟩
  · simp only [List.mem_cons, List.not_mem_nil, or_false] at hp
    rcases hp with rfl | rfl | rfl | rfl | rfl | rfl | rfl | rfl | rfl | rfl | rfl | rfl | rfl | rfl | rfl | rfl <;> exact N9 _ (by k_mem)
  · simp only [List.mem_cons, List.not_mem_nil, or_false] at hp
    rcases hp with rfl | rfl | rfl | rfl | rfl | rfl | rfl | rfl | rfl | rfl | rfl | rfl | rfl | rfl | rfl | rfl <;> first | exact y4 | exact y5 | exact NI0 (_, _) (by k_mem)
end

end
/-! Ts -/
section
def stBody : List Stmt := turnBody.drop 9
theorem fr_seen {g h : Heap} {L : Addr} {m : Str → Option Value} {k : Str} {v : Value} (F : Fr g L h m) (e : m k = some v) : Fr g L h (fun y => if y = k then some v else m y) := by
  have q : (fun y => if y = k then some v else m y) = m := by
    funext y
    by_cases q : y = k
    · subst q; rw [if_pos rfl, e]
    · rw [if_neg q]
  rw [q]; exact F
theorem tyne {a b : String} (h : a ≠ b) : Value.type a ≠ Value.type b := fun q => h (by injection q)
theorem refne {a : Addr} {b : String} : Value.ref a ≠ Value.type b := nofun
end
local macro_rules | `(tactic| walk_at "execs cons") => `(tactic| (k_here; (with_reducible show wpAny _ _ (execs (Stmt.For _ (PySem.Expr.Call (PySem.Expr.Name (Str.ofString "zip") _) _ _ _) _ _ _ :: _) _) _ _ _); refine halt ?_))
section
section
variable {w : World} {mg mb : Str → Option Value} {g : Heap} {E : Value → Shared → Prop}
theorem turn_store0 {L f I st sc Ls Lm M T D lo S1n dx1n l1 So dxo io a0 b0 : Addr} {cdv vm vx : Value} {us ms mso : List Value} {oI c1 c2 c3 c4 : Obj} {h : Heap} {dr : Drawn} {tk : Nat} {s1 : Shared} {Q : Flow → Shared → Prop} {u : Str → Option Value} {es eso : Array (Int × Value)} {ep epo : Nat} {t to : SetTable} {eS eM eD elo e eo j3 : Nat} {v3 v4 : Option Value} {jj jq : Int} {uh j1 j2 : Tok}
    (B : Base w mg mb g) (cI : oI.cls = .type "range_iterator") (gI : g.get? I = none) (IL : I ≠ L)
    (F : Fr g L h (fun y => if y = Str.ofString "made" then some (.ref M) else if y = Str.ofString "due" then some (.ref T) else if y = Str.ofString "here" then some (.int 0 uh) else if y = Str.ofString "lists" then some (.ref Lm) else u y))
    (N : News g L h [(M, tupO [.ref S1n, vm]), (T, tupO [.ref D, vx]), (S1n, setO (.ref 232) (some dx1n) es ep t #[some (.ref l1)]), (dx1n, dictE), (l1, PySem.W.listOf ms.toArray e), (D, PySem.W.listOf ms.toArray eD), (Ls, PySem.W.listOf [.ref a0, .ref So].toArray eS), (Lm, PySem.W.listOf [.ref b0, .ref lo].toArray eM), (lo, PySem.W.listOf mso.toArray elo), (So, setO (.ref 232) (some dxo) eso epo to #[some (.ref io)]), (dxo, dictE), (io, PySem.W.listOf mso.toArray eo), (st, PySem.W.listOf [.ref sc, .int jj j1, .int jq j2].toArray j3), (sc, PySem.W.listOf us.toArray 0), (L + 1 + 1 + 1 + 1, c4), (L + 1 + 1 + 1, c3), (L + 1 + 1, c2), (L + 1, c1), (I, oI)])
    (so : StO sc us.length (PySem.W.listOf [.ref sc, .int jj j1, .int jq j2].toArray j3)) (d1 : c1.data = .cell (some (.ref st))) (d2 : c2.data = .cell (some (.ref Ls))) (d3 : c3.data = .cell v3) (d4 : c4.data = .cell v4)
    (fn : SFact w es t (inL ms)) (pv : ∀ v ∈ ms, Pv v) (nd : (ms.map cl).Nodup) (fo : SFact w eso to (inL mso)) (pvo : ∀ v ∈ mso, Pv v) (ndo : (mso.map cl).Nodup) (AP : Apart Ls Lm st l1 io D lo sc S1n So dx1n dxo)
    (y4 : L + 1 + 1 + 1 + 1 ≠ I) (y5 : L + 1 + 1 + 1 ≠ I) (y6 : L + 1 + 1 ≠ I) (y7 : L + 1 ≠ I) (hE : PassesOwn (model PR w) (callerA.deeper (lawEnv L f cdv)) (lawEnv L f cdv) E) :
    wpAny (model PR w) (callerA.deeper (lawEnv L f cdv)) (execs stBody (lawEnv L f cdv)) (TurnEnd Q s1 (fun h => (g.get? I = none ∧ I ≠ L) ∧ LawJ w g L st sc us I h) I oI) E ⟨h, s1.gens, dr, tk, s1.os⟩ := by
  have hE0 := hE
  have hb : stBody = stBody := rfl
  conv at hb => rhs; whnf
  have hsc : lawScope = lawScope := rfl
  conv at hsc => rhs; whnf
  rw [hb]
  unfold lawEnv at hE ⊢
  rw [hsc] at hE ⊢
  clear hb hsc
  refine add_kind (x := Str.ofString "here") rfl (by decide) fun kn0 kd0 => ?_
  refine add_kind (x := Str.ofString "due") rfl (by decide) fun kn1 kd1 => ?_
  refine add_kind (x := Str.ofString "made") rfl (by decide) fun kn2 kd2 => ?_
  refine add_kind (x := Str.ofString "lists") rfl (by decide) fun kn3 kd3 => ?_
  have X' := B.K
  have T' := B.T
  have ⟨⟨a1, a2, a3, a4, a5, a6, a7, a8, a9, a10⟩, ⟨b1, b2, b3, b4, b5⟩, ⟨g1, g2, g3, g4, g5⟩, ⟨k1, k2, k3, k4, k5⟩, w1, w2⟩ := AP
  have nI : ∀ {a : Addr} {o : Obj}, h.get? a = some o → o.cls ≠ .type "range_iterator" → a ≠ I := fun e n q => by
    subst q
    have := (N (_, oI) (by k_mem)).1
    rw [e] at this
    obtain rfl := Option.some.inj this
    exact n cI
  have q1 : D ≠ I := nI (N (D, _) (by k_mem)).1 (by first | exact tyne (by decide) | exact refne)
  have q2 : lo ≠ I := nI (N (lo, _) (by k_mem)).1 (by first | exact tyne (by decide) | exact refne)
  have q3 : l1 ≠ I := nI (N (l1, _) (by k_mem)).1 (by first | exact tyne (by decide) | exact refne)
  have q4 : io ≠ I := nI (N (io, _) (by k_mem)).1 (by first | exact tyne (by decide) | exact refne)
  have q5 : S1n ≠ I := nI (N (S1n, _) (by k_mem)).1 (by first | exact tyne (by decide) | exact refne)
  have q6 : So ≠ I := nI (N (So, _) (by k_mem)).1 (by first | exact tyne (by decide) | exact refne)
  have q7 : dx1n ≠ I := nI (N (dx1n, _) (by k_mem)).1 (by first | exact tyne (by decide) | exact refne)
  have q8 : dxo ≠ I := nI (N (dxo, _) (by k_mem)).1 (by first | exact tyne (by decide) | exact refne)
  have q9 : Ls ≠ I := nI (N (Ls, _) (by k_mem)).1 (by first | exact tyne (by decide) | exact refne)
  have r1 : Lm ≠ I := nI (N (Lm, _) (by k_mem)).1 (by first | exact tyne (by decide) | exact refne)
  have r2 : st ≠ I := nI (N (st, _) (by k_mem)).1 (by first | exact tyne (by decide) | exact refne)
  have r3 : sc ≠ I := nI (N (sc, _) (by k_mem)).1 (by first | exact tyne (by decide) | exact refne)
  have m1 : Ls ≠ M := neNews N (by k_mem) (by k_mem) (neC (by exact tyne (by decide)))
  have m2 : Ls ≠ T := neNews N (by k_mem) (by k_mem) (neC (by exact tyne (by decide)))
  have m3 : Lm ≠ M := neNews N (by k_mem) (by k_mem) (neC (by exact tyne (by decide)))
  have m4 : Lm ≠ T := neNews N (by k_mem) (by k_mem) (neC (by exact tyne (by decide)))
  have F1 : Fr g L (⟨h, s1.gens, dr, tk, s1.os⟩ : Shared).heap _ := F
  have N1 : News g L (⟨h, s1.gens, dr, tk, s1.os⟩ : Shared).heap _ := N
  clear F N nI
  k_steps
  rename_i h8 n1 h9 n2 F9 N9
  refine halt_out ?_
  refine turn_end B cI (N9 (I, oI) (by k_mem)).1 gI IL ⟨_, Ls, Lm, D, lo, S1n, dx1n, l1, So, dxo, io, ms, mso, es, eso, ep, epo, t, to, n1, n2, eD, elo, e, eo, _, c1, c2, c3, c4, v3, v4, fr_seen F9 (k := Str.ofString "lists") rfl, fun p hp => ?_, fun p hp => ?_, so, ⟨d1, d2, d3, d4⟩, ⟨fn, pv, nd⟩, ⟨fo, pvo, ndo⟩, AP⟩ hE0
  · simp only [List.mem_cons, List.not_mem_nil, or_false] at hp
    rcases hp with rfl | rfl | rfl | rfl | rfl | rfl | rfl | rfl | rfl | rfl | rfl | rfl | rfl | rfl | rfl | rfl <;> exact N9 _ (by k_mem)
  · simp only [List.mem_cons, List.not_mem_nil, or_false] at hp
    rcases hp with rfl | rfl | rfl | rfl | rfl | rfl | rfl | rfl | rfl | rfl | rfl | rfl | rfl | rfl | rfl | rfl <;> assumption
theorem turn_store1 {L f I st sc Ls Lm M T D lo S1n dx1n l1 So dxo io a0 b0 : Addr} {cdv vm vx : Value} {us ms mso : List Value} {oI c1 c2 c3 c4 : Obj} {h : Heap} {dr : Drawn} {tk : Nat} {s1 : Shared} {Q : Flow → Shared → Prop} {u : Str → Option Value} {es eso : Array (Int × Value)} {ep epo : Nat} {t to : SetTable} {eS eM eD elo e eo j3 : Nat} {v3 v4 : Option Value} {jj jq : Int} {uh j1 j2 : Tok}
    (B : Base w mg mb g) (cI : oI.cls = .type "range_iterator") (gI : g.get? I = none) (IL : I ≠ L)
    (F : Fr g L h (fun y => if y = Str.ofString "made" then some (.ref M) else if y = Str.ofString "due" then some (.ref T) else if y = Str.ofString "here" then some (.int 1 uh) else if y = Str.ofString "lists" then some (.ref Lm) else u y))
    (N : News g L h [(M, tupO [.ref S1n, vm]), (T, tupO [.ref D, vx]), (S1n, setO (.ref 232) (some dx1n) es ep t #[some (.ref l1)]), (dx1n, dictE), (l1, PySem.W.listOf ms.toArray e), (D, PySem.W.listOf ms.toArray eD), (Ls, PySem.W.listOf [.ref So, .ref a0].toArray eS), (Lm, PySem.W.listOf [.ref lo, .ref b0].toArray eM), (lo, PySem.W.listOf mso.toArray elo), (So, setO (.ref 232) (some dxo) eso epo to #[some (.ref io)]), (dxo, dictE), (io, PySem.W.listOf mso.toArray eo), (st, PySem.W.listOf [.ref sc, .int jj j1, .int jq j2].toArray j3), (sc, PySem.W.listOf us.toArray 0), (L + 1 + 1 + 1 + 1, c4), (L + 1 + 1 + 1, c3), (L + 1 + 1, c2), (L + 1, c1), (I, oI)])
    (so : StO sc us.length (PySem.W.listOf [.ref sc, .int jj j1, .int jq j2].toArray j3)) (d1 : c1.data = .cell (some (.ref st))) (d2 : c2.data = .cell (some (.ref Ls))) (d3 : c3.data = .cell v3) (d4 : c4.data = .cell v4)
    (fn : SFact w es t (inL ms)) (pv : ∀ v ∈ ms, Pv v) (nd : (ms.map cl).Nodup) (fo : SFact w eso to (inL mso)) (pvo : ∀ v ∈ mso, Pv v) (ndo : (mso.map cl).Nodup) (AP : Apart Ls Lm st io l1 lo D sc So S1n dxo dx1n)
    (y4 : L + 1 + 1 + 1 + 1 ≠ I) (y5 : L + 1 + 1 + 1 ≠ I) (y6 : L + 1 + 1 ≠ I) (y7 : L + 1 ≠ I) (hE : PassesOwn (model PR w) (callerA.deeper (lawEnv L f cdv)) (lawEnv L f cdv) E) :
    wpAny (model PR w) (callerA.deeper (lawEnv L f cdv)) (execs stBody (lawEnv L f cdv)) (TurnEnd Q s1 (fun h => (g.get? I = none ∧ I ≠ L) ∧ LawJ w g L st sc us I h) I oI) E ⟨h, s1.gens, dr, tk, s1.os⟩ := by
  have hE0 := hE
  have hb : stBody = stBody := rfl
  conv at hb => rhs; whnf
  have hsc : lawScope = lawScope := rfl
  conv at hsc => rhs; whnf
  rw [hb]
  unfold lawEnv at hE ⊢
  rw [hsc] at hE ⊢
  clear hb hsc
  refine add_kind (x := Str.ofString "here") rfl (by decide) fun kn0 kd0 => ?_
  refine add_kind (x := Str.ofString "due") rfl (by decide) fun kn1 kd1 => ?_
  refine add_kind (x := Str.ofString "made") rfl (by decide) fun kn2 kd2 => ?_
  refine add_kind (x := Str.ofString "lists") rfl (by decide) fun kn3 kd3 => ?_
  have X' := B.K
  have T' := B.T
  have ⟨⟨a1, a2, a3, a4, a5, a6, a7, a8, a9, a10⟩, ⟨b1, b2, b3, b4, b5⟩, ⟨g1, g2, g3, g4, g5⟩, ⟨k1, k2, k3, k4, k5⟩, w1, w2⟩ := AP
  have nI : ∀ {a : Addr} {o : Obj}, h.get? a = some o → o.cls ≠ .type "range_iterator" → a ≠ I := fun e n q => by
    subst q
    have := (N (_, oI) (by k_mem)).1
    rw [e] at this
    obtain rfl := Option.some.inj this
    exact n cI
  have q1 : D ≠ I := nI (N (D, _) (by k_mem)).1 (by first | exact tyne (by decide) | exact refne)
  have q2 : lo ≠ I := nI (N (lo, _) (by k_mem)).1 (by first | exact tyne (by decide) | exact refne)
  have q3 : l1 ≠ I := nI (N (l1, _) (by k_mem)).1 (by first | exact tyne (by decide) | exact refne)
  have q4 : io ≠ I := nI (N (io, _) (by k_mem)).1 (by first | exact tyne (by decide) | exact refne)
  have q5 : S1n ≠ I := nI (N (S1n, _) (by k_mem)).1 (by first | exact tyne (by decide) | exact refne)
  have q6 : So ≠ I := nI (N (So, _) (by k_mem)).1 (by first | exact tyne (by decide) | exact refne)
  have q7 : dx1n ≠ I := nI (N (dx1n, _) (by k_mem)).1 (by first | exact tyne (by decide) | exact refne)
  have q8 : dxo ≠ I := nI (N (dxo, _) (by k_mem)).1 (by first | exact tyne (by decide) | exact refne)
  have q9 : Ls ≠ I := nI (N (Ls, _) (by k_mem)).1 (by first | exact tyne (by decide) | exact refne)
  have r1 : Lm ≠ I := nI (N (Lm, _) (by k_mem)).1 (by first | exact tyne (by decide) | exact refne)
  have r2 : st ≠ I := nI (N (st, _) (by k_mem)).1 (by first | exact tyne (by decide) | exact refne)
  have r3 : sc ≠ I := nI (N (sc, _) (by k_mem)).1 (by first | exact tyne (by decide) | exact refne)
  have m1 : Ls ≠ M := neNews N (by k_mem) (by k_mem) (neC (by exact tyne (by decide)))
  have m2 : Ls ≠ T := neNews N (by k_mem) (by k_mem) (neC (by exact tyne (by decide)))
  have m3 : Lm ≠ M := neNews N (by k_mem) (by k_mem) (neC (by exact tyne (by decide)))
  have m4 : Lm ≠ T := neNews N (by k_mem) (by k_mem) (neC (by exact tyne (by decide)))
  have F1 : Fr g L (⟨h, s1.gens, dr, tk, s1.os⟩ : Shared).heap _ := F
  have N1 : News g L (⟨h, s1.gens, dr, tk, s1.os⟩ : Shared).heap _ := N
  clear F N nI
  k_steps
  rename_i h8 n1 h9 n2 F9 N9
  refine halt_out ?_
  refine turn_end B cI (N9 (I, oI) (by k_mem)).1 gI IL ⟨_, Ls, Lm, lo, D, So, dxo, io, S1n, dx1n, l1, mso, ms, eso, es, epo, ep, to, t, n1, n2, elo, eD, eo, e, _, c1, c2, c3, c4, v3, v4, fr_seen F9 (k := Str.ofString "lists") rfl, fun p hp => ?_, fun p hp => ?_, so, ⟨d1, d2, d3, d4⟩, ⟨fo, pvo, ndo⟩, ⟨fn, pv, nd⟩, AP⟩ hE0
  · simp only [List.mem_cons, List.not_mem_nil, or_false] at hp
    rcases hp with rfl | rfl | rfl | rfl | rfl | rfl | rfl | rfl | rfl | rfl | rfl | rfl | rfl | rfl | rfl | rfl <;> exact N9 _ (by k_mem)
  · simp only [List.mem_cons, List.not_mem_nil, or_false] at hp
    rcases hp with rfl | rfl | rfl | rfl | rfl | rfl | rfl | rfl | rfl | rfl | rfl | rfl | rfl | rfl | rfl | rfl <;> assumption
end

end
/-! Tvh -/
section
theorem ne_bools_same {w : World} {A : Around} {E : Value → Shared → Prop} {s : Shared} {a b : Bool} {Q : Value → Shared → Prop} (e : a = b) (h : Q (.bool false) s) : wpAny (model PR w) A (compareOp .NotEq (.bool a) (.bool b)) Q E s := by
  subst e
  refine ne_bool ?_
  have : (a != a) = false := by simp
  rw [this]; exact h
theorem ext_pv {k : Int} {ms vs us : List Value} {x : Value} {i : Int} (pv : ∀ v ∈ ms, Pv v) : ∀ y, (dueL k ms vs us x i).2 = .one y → Pv y := by
  intro y q
  by_cases h : k = 6
  · subst h
    have e : (dueL 6 ms vs us x i).2 = match ms.getLast? with | some v => .one v | none => .miss := rfl
    rw [e] at q
    cases z : ms.getLast? with
    | none => rw [z] at q; exact Ext.noConfusion q
    | some v => rw [z] at q; injection q with q; subst q; exact pv v (List.mem_of_getLast? z)
  · exfalso
    revert q
    unfold dueL
    simp only [h, if_false, apply_ite Prod.snd, ite_self]
    by_cases a : k = 5
    · by_cases b : inL ms x <;> simp [a, b]
    · simp [a]
end
local macro_rules | `(tactic| walk_at "compareOp NotEq bool bool") => `(tactic| (k_here; k_dflt (refine' ne_bools_same ?e ?_; (case e => first | exact (decide_eq_true (by with_reducible assumption)).symm | exact (decide_eq_false (Int.not_lt.mpr (by with_reducible assumption))).symm | exact rfl | exact (decide_eq_true (by omega)).symm | exact (decide_eq_false (by omega)).symm); k_whole)))
local macro_rules | `(tactic| walk_at "execs cons") => `(tactic| (k_here; (with_reducible show wpAny _ _ (execs (Stmt.Assign _ (PySem.Expr.Tuple [PySem.Expr.Subscript (PySem.Expr.Name (Str.ofString "made") _) _ _, _] _ _) _ :: _) _) _ _ _); refine halt ?_))
section
def dueBody : List Stmt := turnBody.drop 3

end
/-! Tv0 -/
section
section
variable {w : World} {mg mb : Str → Option Value} {g : Heap} {E : Value → Shared → Prop}
theorem turn_due0 {L f I st sc Ls Lm la lb S0 dx0 i0 S1 dx1 i1 R : Addr} {cdv v x x1 x2 : Value} {us ms0 ms1 : List Value} {oI c1 c2 c3 c4 : Obj} {h : Heap} {dr : Drawn} {tk : Nat} {s1 : Shared} {Q : Flow → Shared → Prop} {u : Str → Option Value} {es0 es1 : Array (Int × Value)} {ep0 ep1 : Nat} {t0 t1 : SetTable} {eS eM ea eb e0 e1 eR j3 : Nat} {v3 v4 : Option Value} {k p jj jq : Int} {uk uh up j1 j2 : Tok}
    (B : Base w mg mb g) (cI : oI.cls = .type "range_iterator") (gI : g.get? I = none) (IL : I ≠ L)
    (F : Fr g L h (fun y => if y = Str.ofString "place" then some (.int p up) else if y = Str.ofString "rows" then some (.ref R) else if y = Str.ofString "one" then some x else if y = Str.ofString "here" then some (.int 0 uh) else if y = Str.ofString "op" then some (.int k uk) else if y = Str.ofString "_" then some v else if y = Str.ofString "lists" then some (.ref Lm) else u y))
    (N : News g L h [(R, PySem.W.listOf [x, x1, x2, x].toArray eR), (Ls, PySem.W.listOf [.ref S0, .ref S1].toArray eS), (Lm, PySem.W.listOf [.ref la, .ref lb].toArray eM), (la, PySem.W.listOf ms0.toArray ea), (lb, PySem.W.listOf ms1.toArray eb), (S0, setO (.ref 232) (some dx0) es0 ep0 t0 #[some (.ref i0)]), (dx0, dictE), (i0, PySem.W.listOf ms0.toArray e0), (S1, setO (.ref 232) (some dx1) es1 ep1 t1 #[some (.ref i1)]), (dx1, dictE), (i1, PySem.W.listOf ms1.toArray e1), (st, PySem.W.listOf [.ref sc, .int jj j1, .int jq j2].toArray j3), (sc, PySem.W.listOf us.toArray 0), (L + 1 + 1 + 1 + 1, c4), (L + 1 + 1 + 1, c3), (L + 1 + 1, c2), (L + 1, c1), (I, oI)])
    (so : StO sc us.length (PySem.W.listOf [.ref sc, .int jj j1, .int jq j2].toArray j3)) (d1 : c1.data = .cell (some (.ref st))) (d2 : c2.data = .cell (some (.ref Ls))) (d3 : c3.data = .cell v3) (d4 : c4.data = .cell v4)
    (f0 : SFact w es0 t0 (inL ms0)) (pv0 : ∀ v ∈ ms0, Pv v) (nd0 : (ms0.map cl).Nodup) (f1 : SFact w es1 t1 (inL ms1)) (pv1 : ∀ v ∈ ms1, Pv v) (nd1 : (ms1.map cl).Nodup) (AP : Apart Ls Lm st i0 i1 la lb sc S0 S1 dx0 dx1)
    (r1 : Ls ≠ R) (r2 : Lm ≠ R) (r3 : st ≠ R) (r4 : i0 ≠ R) (r5 : i1 ≠ R) (y4 : L + 1 + 1 + 1 + 1 ≠ I) (y5 : L + 1 + 1 + 1 ≠ I) (y6 : L + 1 + 1 ≠ I) (y7 : L + 1 ≠ I)
    (px : Pv x) (px1 : Pv x1) (px2 : Pv x2) (hk : 0 ≤ k ∧ k < 20) (hp : -3 ≤ p ∧ p ≤ 3) (hE : PassesOwn (model PR w) (callerA.deeper (lawEnv L f cdv)) (lawEnv L f cdv) E) :
    wpAny (model PR w) (callerA.deeper (lawEnv L f cdv)) (execs dueBody (lawEnv L f cdv)) (TurnEnd Q s1 (fun h => (g.get? I = none ∧ I ≠ L) ∧ LawJ w g L st sc us I h) I oI) E ⟨h, s1.gens, dr, tk, s1.os⟩ := by
  have hE0 := hE
  have hb : dueBody = dueBody := rfl
  conv at hb => rhs; whnf
  have hsc : lawScope = lawScope := rfl
  conv at hsc => rhs; whnf
  rw [hb]
  unfold lawEnv at hE ⊢
  rw [hsc] at hE ⊢
  clear hb hsc
  refine add_kind (x := Str.ofString "op") rfl (by decide) fun kn0 kd0 => ?_
  refine add_kind (x := Str.ofString "here") rfl (by decide) fun kn1 kd1 => ?_
  refine add_kind (x := Str.ofString "one") rfl (by decide) fun kn2 kd2 => ?_
  refine add_kind (x := Str.ofString "rows") rfl (by decide) fun kn3 kd3 => ?_
  refine add_kind (x := Str.ofString "place") rfl (by decide) fun kn4 kd4 => ?_
  refine add_kind (x := Str.ofString "due") rfl (by decide) fun kn5 kd5 => ?_
  refine add_kind (x := Str.ofString "handed") rfl (by decide) fun kn6 kd6 => ?_
  refine add_kind (x := Str.ofString "old") rfl (by decide) fun kn7 kd7 => ?_
  refine add_kind (x := Str.ofString "made") rfl (by decide) fun kn8 kd8 => ?_
  refine add_kind (x := Str.ofString "lists") rfl (by decide) fun kn9 kd9 => ?_
  have X' := B.K
  have T' := B.T
  have nI : ∀ {a : Addr} {o : Obj}, h.get? a = some o → o.cls ≠ .type "range_iterator" → a ≠ I := fun e n q => by
    subst q
    have := (N (_, oI) (by k_mem)).1
    rw [e] at this
    obtain rfl := Option.some.inj this
    exact n cI
  have y1 : Ls ≠ I := nI (N (Ls, _) (by k_mem)).1 (by first | exact tyne (by decide) | exact refne)
  have y2 : Lm ≠ I := nI (N (Lm, _) (by k_mem)).1 (by first | exact tyne (by decide) | exact refne)
  have y3 : st ≠ I := nI (N (st, _) (by k_mem)).1 (by first | exact tyne (by decide) | exact refne)
  have y8 : S0 ≠ I := nI (N (S0, _) (by k_mem)).1 (by first | exact tyne (by decide) | exact refne)
  have y9 : dx0 ≠ I := nI (N (dx0, _) (by k_mem)).1 (by first | exact tyne (by decide) | exact refne)
  have z1 : i0 ≠ I := nI (N (i0, _) (by k_mem)).1 (by first | exact tyne (by decide) | exact refne)
  have z2 := sz5 pv0 nd0
  have z3 := sz5 pv1 nd1
  have F1 : Fr g L (⟨h, s1.gens, dr, tk, s1.os⟩ : Shared).heap _ := F
  have N1 : News g L (⟨h, s1.gens, dr, tk, s1.os⟩ : Shared).heap _ := N
  clear F N nI
  have z4 := len5 pv0 nd0
  have z5 := len5 pv1 nd1
  have z6 : ms0.length ≤ 100 := by omega
  have z7 : ms1.length ≤ 100 := by omega
  have pr : ∀ v ∈ [x, x1, x2, x], Pv v := by
    intro v hv
    simp only [List.mem_cons, List.not_mem_nil, or_false] at hv
    rcases hv with rfl | rfl | rfl | rfl <;> assumption
  have ⟨⟨a1, a2, a3, a4, a5, a6, a7, a8, a9, a10⟩, ⟨b1, b2, b3, b4, b5⟩, ⟨g1, g2, g3, g4, g5⟩, ⟨k1, k2, k3, k4, k5⟩, w1, w2⟩ := AP
  k_steps
  refine k_due (ms := ms0) (vs := ms1) (us := [x, x1, x2, x]) B (by k_asm) (by k_asm) (by k_mem) (by k_mem) (by k_mem) pv0 pv1 pr px (by omega) (by omega) (by simp) hk (by omega) rfl (by k_units) (by k_units) ?_
  intro h2 tk2 T D e2 vx ax ox F2 N2 ext nT nA nD
  clear F1 N1
  have ⟨p1, p2, p3, p4, p5⟩ : Ls ≠ D ∧ Lm ≠ D ∧ st ≠ D ∧ i0 ≠ D ∧ i1 ≠ D := by
    rcases nD with q | n
    · rw [q]; exact ⟨b1, b2, b3, b4, b5⟩
    · exact ⟨n (Ls, _) (by k_mem), n (Lm, _) (by k_mem), n (st, _) (by k_mem), n (i0, _) (by k_mem), n (i1, _) (by k_mem)⟩
  have m1 : S0 ≠ ax := nA (S0, _) (by k_mem)
  have m2 : dx0 ≠ ax := nA (dx0, _) (by k_mem)
  have m3 : i0 ≠ ax := nA (i0, _) (by k_mem)
  have m4 : S0 ≠ T := nT (S0, _) (by k_mem)
  have m5 : dx0 ≠ T := nT (dx0, _) (by k_mem)
  have m6 : i0 ≠ T := nT (i0, _) (by k_mem)
  have px6 : ∀ y, (dueL k ms0 ms1 [x, x1, x2, x] x p).2 = .one y → Pv y := ext_pv pv0
  k_steps
  rename_i tk3 h30 tk31 H c' h31 l3 h32 h33 F3 N3
  have REST : ∀ z ∈ [(H, PySem.W.listOf [x, x1, x2, x].toArray c'), (T, tupO [.ref D, vx]), (D, PySem.W.listOf (dueL k ms0 ms1 [x, x1, x2, x] x p).1.toArray e2), (ax, ox), (R, PySem.W.listOf [x, x1, x2, x].toArray eR), (Ls, PySem.W.listOf [.ref S0, .ref S1].toArray eS), (Lm, PySem.W.listOf [.ref la, .ref lb].toArray eM), (la, PySem.W.listOf ms0.toArray ea), (lb, PySem.W.listOf ms1.toArray eb), (S1, setO (.ref 232) (some dx1) es1 ep1 t1 #[some (.ref i1)]), (dx1, dictE), (i1, PySem.W.listOf ms1.toArray e1), (st, PySem.W.listOf [.ref sc, .int jj j1, .int jq j2].toArray j3), (sc, PySem.W.listOf us.toArray 0), (L + 1 + 1 + 1 + 1, c4), (L + 1 + 1 + 1, c3), (L + 1 + 1, c2), (L + 1, c1), (I, oI)], z.1 ≠ S0 ∧ z.1 ≠ dx0 ∧ z.1 ≠ i0 := by
    obtain ⟨v1, v2, v3, v4, v5, v6, v7, v8, v9, v10, v11, v12, v13, v14, v15, v16, v17, v18, v19, v20, v21⟩ := l3
    intro z hz
    simp only [List.mem_cons, List.not_mem_nil, or_false] at hz
    rcases hz with rfl | rfl | rfl | rfl | rfl | rfl | rfl | rfl | rfl | rfl | rfl | rfl | rfl | rfl | rfl | rfl | rfl | rfl | rfl <;> exact ⟨by k_ne, by k_ne, by k_ne⟩
  have m7 : H ≠ i0 := by
    obtain ⟨v1, v2, v3, v4, v5, v6, v7, v8, v9, v10, v11, v12, v13, v14, v15, v16, v17, v18, v19, v20, v21⟩ := l3
    k_ne
  refine k_done (ms := ms0) (vs := ms1) (us := [x, x1, x2, x]) (env1 := envOfC _ _ _ _ _) B F3 N3 rfl rfl (by nofun) (by k_mem) (by k_mem) (by k_mem) f0 pv0 nd0 (by k_mem) (by k_mem) (by k_mem) f1 pv1 nd1 w1 w2 a10 (by k_mem) m7 pr (by simp) px hk (by omega) ?_ REST rfl (by k_units) (by k_units) ?_ ?_
  · intro z hz
    simp only [List.mem_cons, List.not_mem_nil, or_false] at hz
    rcases hz with rfl | rfl | rfl | rfl | rfl | rfl | rfl | rfl | rfl | rfl | rfl | rfl | rfl | rfl | rfl | rfl | rfl | rfl | rfl <;> k_mem
  · intro lt h4 dr4 tk4 M l4 es4 ep4 t4 e4 vm am om F4 N4 extm f4 pv4 nd4 nl4
    have z8 := len5 pv4 nd4
    have z9 := Nat.le_trans z8 (show 5 ≤ 100 by decide)
    have ⟨q1, q2, q3, q4, q5, q6, q7⟩ : Ls ≠ l4 ∧ Lm ≠ l4 ∧ st ≠ l4 ∧ i1 ≠ l4 ∧ D ≠ l4 ∧ lb ≠ l4 ∧ sc ≠ l4 := by
      rcases nl4 with q | n
      · rw [q]; exact ⟨a3, a6, a8, (a10).symm, p4.symm, g4.symm, k4.symm⟩
      · exact ⟨n (Ls, _) (by k_mem), n (Lm, _) (by k_mem), n (st, _) (by k_mem), n (i1, _) (by k_mem), n (D, _) (by k_mem), n (lb, _) (by k_mem), n (sc, _) (by k_mem)⟩
    clear F3 N3
    k_steps
    rename Fr _ _ _ _ => F9
    rename News _ _ _ _ => N9
    have N10 : News g L _ [(M, tupO [.ref S0, vm]), (T, tupO [.ref D, vx]), (S0, setO (.ref 232) (some dx0) es4 ep4 t4 #[some (.ref l4)]), (dx0, dictE), (l4, PySem.W.listOf (dueL k ms0 ms1 [x, x1, x2, x] x p).1.toArray e4), (D, PySem.W.listOf (dueL k ms0 ms1 [x, x1, x2, x] x p).1.toArray e2), (Ls, PySem.W.listOf [.ref S0, .ref S1].toArray eS), (Lm, PySem.W.listOf [.ref la, .ref lb].toArray eM), (lb, PySem.W.listOf ms1.toArray eb), (S1, setO (.ref 232) (some dx1) es1 ep1 t1 #[some (.ref i1)]), (dx1, dictE), (i1, PySem.W.listOf ms1.toArray e1), (st, PySem.W.listOf [.ref sc, .int jj j1, .int jq j2].toArray j3), (sc, PySem.W.listOf us.toArray 0), (L + 1 + 1 + 1 + 1, c4), (L + 1 + 1 + 1, c3), (L + 1 + 1, c2), (L + 1, c1), (I, oI)] := fun p hp => by
      simp only [List.mem_cons, List.not_mem_nil, or_false] at hp
      rcases hp with rfl | rfl | rfl | rfl | rfl | rfl | rfl | rfl | rfl | rfl | rfl | rfl | rfl | rfl | rfl | rfl | rfl | rfl | rfl <;> exact N9 _ (by k_mem)
    refine halt_out ?_
    exact turn_store0 B cI gI IL (fr_seen (k := Str.ofString "made") (fr_seen (k := Str.ofString "due") (fr_seen (k := Str.ofString "here") (fr_seen (k := Str.ofString "lists") F9 rfl) rfl) rfl) rfl) N10 so d1 d2 d3 d4 f4 pv4 nd4 f1 pv1 nd1 ⟨⟨a1, a2, q1, a4, a5, q2, a7, q3, a9, q4.symm⟩, ⟨p1, p2, p3, q5.symm, p5⟩, ⟨g1, g2, g3, q6.symm, g5⟩, ⟨k1, k2, k3, q7.symm, k5⟩, w1, w2⟩ y4 y5 y6 y7 hE0
  · intro le h4 dr4 tk4 M S4 dx4 l4 es4 ep4 t4 e4 vm am om F4 N4 extm f4 pv4 nd4 ap4
    have w4 : S4 ≠ S0 := (ap4 (S0, _) (by k_mem)).1.symm
    have z8 := len5 pv4 nd4
    have z9 := Nat.le_trans z8 (show 5 ≤ 100 by decide)
    have s1n := (ap4 (S1, _) (by k_mem)).1
    have s2n := (ap4 (dx1, _) (by k_mem)).2.1
    have q1 := (ap4 (Ls, _) (by k_mem)).2.2
    have q2 := (ap4 (Lm, _) (by k_mem)).2.2
    have q3 := (ap4 (st, _) (by k_mem)).2.2
    have q4 := (ap4 (i1, _) (by k_mem)).2.2
    have q5 := (ap4 (D, _) (by k_mem)).2.2
    have q6 := (ap4 (lb, _) (by k_mem)).2.2
    have q7 := (ap4 (sc, _) (by k_mem)).2.2
    dsimp only at s1n s2n q1 q2 q3 q4 q5 q6 q7
    clear F3 N3
    k_steps
    rename Fr _ _ _ _ => F9
    rename News _ _ _ _ => N9
    have N10 : News g L _ [(M, tupO [.ref S4, vm]), (T, tupO [.ref D, vx]), (S4, setO (.ref 232) (some dx4) es4 ep4 t4 #[some (.ref l4)]), (dx4, dictE), (l4, PySem.W.listOf (dueL k ms0 ms1 [x, x1, x2, x] x p).1.toArray e4), (D, PySem.W.listOf (dueL k ms0 ms1 [x, x1, x2, x] x p).1.toArray e2), (Ls, PySem.W.listOf [.ref S0, .ref S1].toArray eS), (Lm, PySem.W.listOf [.ref la, .ref lb].toArray eM), (lb, PySem.W.listOf ms1.toArray eb), (S1, setO (.ref 232) (some dx1) es1 ep1 t1 #[some (.ref i1)]), (dx1, dictE), (i1, PySem.W.listOf ms1.toArray e1), (st, PySem.W.listOf [.ref sc, .int jj j1, .int jq j2].toArray j3), (sc, PySem.W.listOf us.toArray 0), (L + 1 + 1 + 1 + 1, c4), (L + 1 + 1 + 1, c3), (L + 1 + 1, c2), (L + 1, c1), (I, oI)] := fun p hp => by
      simp only [List.mem_cons, List.not_mem_nil, or_false] at hp
      rcases hp with rfl | rfl | rfl | rfl | rfl | rfl | rfl | rfl | rfl | rfl | rfl | rfl | rfl | rfl | rfl | rfl | rfl | rfl | rfl <;> exact N9 _ (by k_mem)
    refine halt_out ?_
    exact turn_store0 B cI gI IL (fr_seen (k := Str.ofString "made") (fr_seen (k := Str.ofString "due") (fr_seen (k := Str.ofString "here") (fr_seen (k := Str.ofString "lists") F9 rfl) rfl) rfl) rfl) N10 so d1 d2 d3 d4 f4 pv4 nd4 f1 pv1 nd1 ⟨⟨a1, a2, q1, a4, a5, q2, a7, q3, a9, q4.symm⟩, ⟨p1, p2, p3, q5.symm, p5⟩, ⟨g1, g2, g3, q6.symm, g5⟩, ⟨k1, k2, k3, q7.symm, k5⟩, s1n.symm, s2n.symm⟩ y4 y5 y6 y7 hE0
end

end
/-! Tv1 -/
section
section
variable {w : World} {mg mb : Str → Option Value} {g : Heap} {E : Value → Shared → Prop}
theorem turn_due1 {L f I st sc Ls Lm la lb S0 dx0 i0 S1 dx1 i1 R : Addr} {cdv v x x1 x2 : Value} {us ms0 ms1 : List Value} {oI c1 c2 c3 c4 : Obj} {h : Heap} {dr : Drawn} {tk : Nat} {s1 : Shared} {Q : Flow → Shared → Prop} {u : Str → Option Value} {es0 es1 : Array (Int × Value)} {ep0 ep1 : Nat} {t0 t1 : SetTable} {eS eM ea eb e0 e1 eR j3 : Nat} {v3 v4 : Option Value} {k p jj jq : Int} {uk uh up j1 j2 : Tok}
    (B : Base w mg mb g) (cI : oI.cls = .type "range_iterator") (gI : g.get? I = none) (IL : I ≠ L)
    (F : Fr g L h (fun y => if y = Str.ofString "place" then some (.int p up) else if y = Str.ofString "rows" then some (.ref R) else if y = Str.ofString "one" then some x else if y = Str.ofString "here" then some (.int 1 uh) else if y = Str.ofString "op" then some (.int k uk) else if y = Str.ofString "_" then some v else if y = Str.ofString "lists" then some (.ref Lm) else u y))
    (N : News g L h [(R, PySem.W.listOf [x, x1, x2, x].toArray eR), (Ls, PySem.W.listOf [.ref S0, .ref S1].toArray eS), (Lm, PySem.W.listOf [.ref la, .ref lb].toArray eM), (la, PySem.W.listOf ms0.toArray ea), (lb, PySem.W.listOf ms1.toArray eb), (S0, setO (.ref 232) (some dx0) es0 ep0 t0 #[some (.ref i0)]), (dx0, dictE), (i0, PySem.W.listOf ms0.toArray e0), (S1, setO (.ref 232) (some dx1) es1 ep1 t1 #[some (.ref i1)]), (dx1, dictE), (i1, PySem.W.listOf ms1.toArray e1), (st, PySem.W.listOf [.ref sc, .int jj j1, .int jq j2].toArray j3), (sc, PySem.W.listOf us.toArray 0), (L + 1 + 1 + 1 + 1, c4), (L + 1 + 1 + 1, c3), (L + 1 + 1, c2), (L + 1, c1), (I, oI)])
    (so : StO sc us.length (PySem.W.listOf [.ref sc, .int jj j1, .int jq j2].toArray j3)) (d1 : c1.data = .cell (some (.ref st))) (d2 : c2.data = .cell (some (.ref Ls))) (d3 : c3.data = .cell v3) (d4 : c4.data = .cell v4)
    (f0 : SFact w es0 t0 (inL ms0)) (pv0 : ∀ v ∈ ms0, Pv v) (nd0 : (ms0.map cl).Nodup) (f1 : SFact w es1 t1 (inL ms1)) (pv1 : ∀ v ∈ ms1, Pv v) (nd1 : (ms1.map cl).Nodup) (AP : Apart Ls Lm st i0 i1 la lb sc S0 S1 dx0 dx1)
    (r1 : Ls ≠ R) (r2 : Lm ≠ R) (r3 : st ≠ R) (r4 : i0 ≠ R) (r5 : i1 ≠ R) (y4 : L + 1 + 1 + 1 + 1 ≠ I) (y5 : L + 1 + 1 + 1 ≠ I) (y6 : L + 1 + 1 ≠ I) (y7 : L + 1 ≠ I)
    (px : Pv x) (px1 : Pv x1) (px2 : Pv x2) (hk : 0 ≤ k ∧ k < 20) (hp : -3 ≤ p ∧ p ≤ 3) (hE : PassesOwn (model PR w) (callerA.deeper (lawEnv L f cdv)) (lawEnv L f cdv) E) :
    wpAny (model PR w) (callerA.deeper (lawEnv L f cdv)) (execs dueBody (lawEnv L f cdv)) (TurnEnd Q s1 (fun h => (g.get? I = none ∧ I ≠ L) ∧ LawJ w g L st sc us I h) I oI) E ⟨h, s1.gens, dr, tk, s1.os⟩ := by
  have hE0 := hE
  have hb : dueBody = dueBody := rfl
  conv at hb => rhs; whnf
  have hsc : lawScope = lawScope := rfl
  conv at hsc => rhs; whnf
  rw [hb]
  unfold lawEnv at hE ⊢
  rw [hsc] at hE ⊢
  clear hb hsc
  refine add_kind (x := Str.ofString "op") rfl (by decide) fun kn0 kd0 => ?_
  refine add_kind (x := Str.ofString "here") rfl (by decide) fun kn1 kd1 => ?_
  refine add_kind (x := Str.ofString "one") rfl (by decide) fun kn2 kd2 => ?_
  refine add_kind (x := Str.ofString "rows") rfl (by decide) fun kn3 kd3 => ?_
  refine add_kind (x := Str.ofString "place") rfl (by decide) fun kn4 kd4 => ?_
  refine add_kind (x := Str.ofString "due") rfl (by decide) fun kn5 kd5 => ?_
  refine add_kind (x := Str.ofString "handed") rfl (by decide) fun kn6 kd6 => ?_
  refine add_kind (x := Str.ofString "old") rfl (by decide) fun kn7 kd7 => ?_
  refine add_kind (x := Str.ofString "made") rfl (by decide) fun kn8 kd8 => ?_
  refine add_kind (x := Str.ofString "lists") rfl (by decide) fun kn9 kd9 => ?_
  have X' := B.K
  have T' := B.T
  have nI : ∀ {a : Addr} {o : Obj}, h.get? a = some o → o.cls ≠ .type "range_iterator" → a ≠ I := fun e n q => by
    subst q
    have := (N (_, oI) (by k_mem)).1
    rw [e] at this
    obtain rfl := Option.some.inj this
    exact n cI
  have y1 : Ls ≠ I := nI (N (Ls, _) (by k_mem)).1 (by first | exact tyne (by decide) | exact refne)
  have y2 : Lm ≠ I := nI (N (Lm, _) (by k_mem)).1 (by first | exact tyne (by decide) | exact refne)
  have y3 : st ≠ I := nI (N (st, _) (by k_mem)).1 (by first | exact tyne (by decide) | exact refne)
  have y8 : S1 ≠ I := nI (N (S1, _) (by k_mem)).1 (by first | exact tyne (by decide) | exact refne)
  have y9 : dx1 ≠ I := nI (N (dx1, _) (by k_mem)).1 (by first | exact tyne (by decide) | exact refne)
  have z1 : i1 ≠ I := nI (N (i1, _) (by k_mem)).1 (by first | exact tyne (by decide) | exact refne)
  have z2 := sz5 pv0 nd0
  have z3 := sz5 pv1 nd1
  have F1 : Fr g L (⟨h, s1.gens, dr, tk, s1.os⟩ : Shared).heap _ := F
  have N1 : News g L (⟨h, s1.gens, dr, tk, s1.os⟩ : Shared).heap _ := N
  clear F N nI
  have z4 := len5 pv0 nd0
  have z5 := len5 pv1 nd1
  have z6 : ms0.length ≤ 100 := by omega
  have z7 : ms1.length ≤ 100 := by omega
  have pr : ∀ v ∈ [x, x1, x2, x], Pv v := by
    intro v hv
    simp only [List.mem_cons, List.not_mem_nil, or_false] at hv
    rcases hv with rfl | rfl | rfl | rfl <;> assumption
  have ⟨⟨a1, a2, a3, a4, a5, a6, a7, a8, a9, a10⟩, ⟨b1, b2, b3, b4, b5⟩, ⟨g1, g2, g3, g4, g5⟩, ⟨k1, k2, k3, k4, k5⟩, w1, w2⟩ := AP
  k_steps
  refine k_due (ms := ms1) (vs := ms0) (us := [x, x1, x2, x]) B (by k_asm) (by k_asm) (by k_mem) (by k_mem) (by k_mem) pv1 pv0 pr px (by omega) (by omega) (by simp) hk (by omega) rfl (by k_units) (by k_units) ?_
  intro h2 tk2 T D e2 vx ax ox F2 N2 ext nT nA nD
  clear F1 N1
  have ⟨p1, p2, p3, p4, p5⟩ : Ls ≠ D ∧ Lm ≠ D ∧ st ≠ D ∧ i0 ≠ D ∧ i1 ≠ D := by
    rcases nD with q | n
    · rw [q]; exact ⟨g1, g2, g3, g4, g5⟩
    · exact ⟨n (Ls, _) (by k_mem), n (Lm, _) (by k_mem), n (st, _) (by k_mem), n (i0, _) (by k_mem), n (i1, _) (by k_mem)⟩
  have m1 : S1 ≠ ax := nA (S1, _) (by k_mem)
  have m2 : dx1 ≠ ax := nA (dx1, _) (by k_mem)
  have m3 : i1 ≠ ax := nA (i1, _) (by k_mem)
  have m4 : S1 ≠ T := nT (S1, _) (by k_mem)
  have m5 : dx1 ≠ T := nT (dx1, _) (by k_mem)
  have m6 : i1 ≠ T := nT (i1, _) (by k_mem)
  have px6 : ∀ y, (dueL k ms1 ms0 [x, x1, x2, x] x p).2 = .one y → Pv y := ext_pv pv1
  k_steps
  rename_i tk3 h30 tk31 H c' h31 l3 h32 h33 F3 N3
  have REST : ∀ z ∈ [(H, PySem.W.listOf [x, x1, x2, x].toArray c'), (T, tupO [.ref D, vx]), (D, PySem.W.listOf (dueL k ms1 ms0 [x, x1, x2, x] x p).1.toArray e2), (ax, ox), (R, PySem.W.listOf [x, x1, x2, x].toArray eR), (Ls, PySem.W.listOf [.ref S0, .ref S1].toArray eS), (Lm, PySem.W.listOf [.ref la, .ref lb].toArray eM), (la, PySem.W.listOf ms0.toArray ea), (lb, PySem.W.listOf ms1.toArray eb), (S0, setO (.ref 232) (some dx0) es0 ep0 t0 #[some (.ref i0)]), (dx0, dictE), (i0, PySem.W.listOf ms0.toArray e0), (st, PySem.W.listOf [.ref sc, .int jj j1, .int jq j2].toArray j3), (sc, PySem.W.listOf us.toArray 0), (L + 1 + 1 + 1 + 1, c4), (L + 1 + 1 + 1, c3), (L + 1 + 1, c2), (L + 1, c1), (I, oI)], z.1 ≠ S1 ∧ z.1 ≠ dx1 ∧ z.1 ≠ i1 := by
    obtain ⟨v1, v2, v3, v4, v5, v6, v7, v8, v9, v10, v11, v12, v13, v14, v15, v16, v17, v18, v19, v20, v21⟩ := l3
    intro z hz
    simp only [List.mem_cons, List.not_mem_nil, or_false] at hz
    rcases hz with rfl | rfl | rfl | rfl | rfl | rfl | rfl | rfl | rfl | rfl | rfl | rfl | rfl | rfl | rfl | rfl | rfl | rfl | rfl <;> exact ⟨by k_ne, by k_ne, by k_ne⟩
  have m7 : H ≠ i1 := by
    obtain ⟨v1, v2, v3, v4, v5, v6, v7, v8, v9, v10, v11, v12, v13, v14, v15, v16, v17, v18, v19, v20, v21⟩ := l3
    k_ne
  refine k_done (ms := ms1) (vs := ms0) (us := [x, x1, x2, x]) (env1 := envOfC _ _ _ _ _) B F3 N3 rfl rfl (by nofun) (by k_mem) (by k_mem) (by k_mem) f1 pv1 nd1 (by k_mem) (by k_mem) (by k_mem) f0 pv0 nd0 w1.symm w2.symm a10.symm (by k_mem) m7 pr (by simp) px hk (by omega) ?_ REST rfl (by k_units) (by k_units) ?_ ?_
  · intro z hz
    simp only [List.mem_cons, List.not_mem_nil, or_false] at hz
    rcases hz with rfl | rfl | rfl | rfl | rfl | rfl | rfl | rfl | rfl | rfl | rfl | rfl | rfl | rfl | rfl | rfl | rfl | rfl | rfl <;> k_mem
  · intro lt h4 dr4 tk4 M l4 es4 ep4 t4 e4 vm am om F4 N4 extm f4 pv4 nd4 nl4
    have z8 := len5 pv4 nd4
    have z9 := Nat.le_trans z8 (show 5 ≤ 100 by decide)
    have ⟨q1, q2, q3, q4, q5, q6, q7⟩ : Ls ≠ l4 ∧ Lm ≠ l4 ∧ st ≠ l4 ∧ i0 ≠ l4 ∧ D ≠ l4 ∧ la ≠ l4 ∧ sc ≠ l4 := by
      rcases nl4 with q | n
      · rw [q]; exact ⟨a4, a7, a9, (a10.symm).symm, p5.symm, b5.symm, k5.symm⟩
      · exact ⟨n (Ls, _) (by k_mem), n (Lm, _) (by k_mem), n (st, _) (by k_mem), n (i0, _) (by k_mem), n (D, _) (by k_mem), n (la, _) (by k_mem), n (sc, _) (by k_mem)⟩
    clear F3 N3
    k_steps
    rename Fr _ _ _ _ => F9
    rename News _ _ _ _ => N9
    have N10 : News g L _ [(M, tupO [.ref S1, vm]), (T, tupO [.ref D, vx]), (S1, setO (.ref 232) (some dx1) es4 ep4 t4 #[some (.ref l4)]), (dx1, dictE), (l4, PySem.W.listOf (dueL k ms1 ms0 [x, x1, x2, x] x p).1.toArray e4), (D, PySem.W.listOf (dueL k ms1 ms0 [x, x1, x2, x] x p).1.toArray e2), (Ls, PySem.W.listOf [.ref S0, .ref S1].toArray eS), (Lm, PySem.W.listOf [.ref la, .ref lb].toArray eM), (la, PySem.W.listOf ms0.toArray ea), (S0, setO (.ref 232) (some dx0) es0 ep0 t0 #[some (.ref i0)]), (dx0, dictE), (i0, PySem.W.listOf ms0.toArray e0), (st, PySem.W.listOf [.ref sc, .int jj j1, .int jq j2].toArray j3), (sc, PySem.W.listOf us.toArray 0), (L + 1 + 1 + 1 + 1, c4), (L + 1 + 1 + 1, c3), (L + 1 + 1, c2), (L + 1, c1), (I, oI)] := fun p hp => by
      simp only [List.mem_cons, List.not_mem_nil, or_false] at hp
      rcases hp with rfl | rfl | rfl | rfl | rfl | rfl | rfl | rfl | rfl | rfl | rfl | rfl | rfl | rfl | rfl | rfl | rfl | rfl | rfl <;> exact N9 _ (by k_mem)
    refine halt_out ?_
    exact turn_store1 B cI gI IL (fr_seen (k := Str.ofString "made") (fr_seen (k := Str.ofString "due") (fr_seen (k := Str.ofString "here") (fr_seen (k := Str.ofString "lists") F9 rfl) rfl) rfl) rfl) N10 so d1 d2 d3 d4 f4 pv4 nd4 f0 pv0 nd0 ⟨⟨a1, a2, a3, q1, a5, a6, q2, a8, q3, q4⟩, ⟨b1, b2, b3, b4, q6.symm⟩, ⟨p1, p2, p3, p4, q5.symm⟩, ⟨k1, k2, k3, k4, q7.symm⟩, w1, w2⟩ y4 y5 y6 y7 hE0
  · intro le h4 dr4 tk4 M S4 dx4 l4 es4 ep4 t4 e4 vm am om F4 N4 extm f4 pv4 nd4 ap4
    have w4 : S4 ≠ S1 := (ap4 (S1, _) (by k_mem)).1.symm
    have z8 := len5 pv4 nd4
    have z9 := Nat.le_trans z8 (show 5 ≤ 100 by decide)
    have s1n := (ap4 (S0, _) (by k_mem)).1
    have s2n := (ap4 (dx0, _) (by k_mem)).2.1
    have q1 := (ap4 (Ls, _) (by k_mem)).2.2
    have q2 := (ap4 (Lm, _) (by k_mem)).2.2
    have q3 := (ap4 (st, _) (by k_mem)).2.2
    have q4 := (ap4 (i0, _) (by k_mem)).2.2
    have q5 := (ap4 (D, _) (by k_mem)).2.2
    have q6 := (ap4 (la, _) (by k_mem)).2.2
    have q7 := (ap4 (sc, _) (by k_mem)).2.2
    dsimp only at s1n s2n q1 q2 q3 q4 q5 q6 q7
    clear F3 N3
    k_steps
    rename Fr _ _ _ _ => F9
    rename News _ _ _ _ => N9
    have N10 : News g L _ [(M, tupO [.ref S4, vm]), (T, tupO [.ref D, vx]), (S4, setO (.ref 232) (some dx4) es4 ep4 t4 #[some (.ref l4)]), (dx4, dictE), (l4, PySem.W.listOf (dueL k ms1 ms0 [x, x1, x2, x] x p).1.toArray e4), (D, PySem.W.listOf (dueL k ms1 ms0 [x, x1, x2, x] x p).1.toArray e2), (Ls, PySem.W.listOf [.ref S0, .ref S1].toArray eS), (Lm, PySem.W.listOf [.ref la, .ref lb].toArray eM), (la, PySem.W.listOf ms0.toArray ea), (S0, setO (.ref 232) (some dx0) es0 ep0 t0 #[some (.ref i0)]), (dx0, dictE), (i0, PySem.W.listOf ms0.toArray e0), (st, PySem.W.listOf [.ref sc, .int jj j1, .int jq j2].toArray j3), (sc, PySem.W.listOf us.toArray 0), (L + 1 + 1 + 1 + 1, c4), (L + 1 + 1 + 1, c3), (L + 1 + 1, c2), (L + 1, c1), (I, oI)] := fun p hp => by
      simp only [List.mem_cons, List.not_mem_nil, or_false] at hp
      rcases hp with rfl | rfl | rfl | rfl | rfl | rfl | rfl | rfl | rfl | rfl | rfl | rfl | rfl | rfl | rfl | rfl | rfl | rfl | rfl <;> exact N9 _ (by k_mem)
    refine halt_out ?_
    exact turn_store1 B cI gI IL (fr_seen (k := Str.ofString "made") (fr_seen (k := Str.ofString "due") (fr_seen (k := Str.ofString "here") (fr_seen (k := Str.ofString "lists") F9 rfl) rfl) rfl) rfl) N10 so d1 d2 d3 d4 f4 pv4 nd4 f0 pv0 nd0 ⟨⟨a1, a2, a3, q1, a5, a6, q2, a8, q3, q4⟩, ⟨b1, b2, b3, b4, q6.symm⟩, ⟨p1, p2, p3, p4, q5.symm⟩, ⟨k1, k2, k3, k4, q7.symm⟩, s1n, s2n⟩ y4 y5 y6 y7 hE0
end

end
/-! Tu -/
local macro_rules | `(tactic| walk_at "execs cons") => `(tactic| (k_here; (with_reducible show wpAny _ _ (execs (Stmt.Assign [PySem.Expr.Name (Str.ofString "due") _] _ _ :: _) _) _ _ _); refine halt ?_))
section
section
variable {w : World} {mg mb : Str → Option Value} {g : Heap} {E : Value → Shared → Prop}
theorem turn_spec {L f : Addr} {cdv : Value} (B : Base w mg mb g) (I : Addr) (h : Heap) (dr : Drawn) (tk : Nat) (v : Value) (oI : Obj) (Q : Flow → Shared → Prop) (s1 : Shared) (st sc : Addr) (us : List Value) (iv : ∀ v ∈ us, ∃ n t, v = .int n t) (z1 : us.length ≤ 60) (cI : oI.cls = .type "range_iterator") (hI : h.get? I = some oI) (gI : g.get? I = none) (IL : I ≠ L) (J : LawJ w g L st sc us I h) (hE : PassesOwn (model PR w) (callerA.deeper (lawEnv L f cdv)) (lawEnv L f cdv) E) :
     wpAny (model PR w) (callerA.deeper (lawEnv L f cdv)) (assign (.Name (Str.ofString "_") { line := 249, col := 8, endLine := 249, endCol := 9 }) (lawEnv L f cdv) v) (fun _ s' => wpAny (model PR w) (callerA.deeper (lawEnv L f cdv)) (execs turnBody (lawEnv L f cdv)) (TurnEnd Q s1 (fun h => (g.get? I = none ∧ I ≠ L) ∧ LawJ w g L st sc us I h) I oI) E s') E ⟨h, s1.gens, dr, tk, s1.os⟩ := by
  have hE0 := hE
  have hb : turnBody = turnBody := rfl
  conv at hb => rhs; whnf
  have hsc : lawScope = lawScope := rfl
  conv at hsc => rhs; whnf
  rw [hb]
  unfold lawEnv at hE ⊢
  rw [hsc] at hE ⊢
  clear hb hsc
  have X' := B.K
  have T' := B.T
  obtain ⟨u, Ls, Lm, la, lb, S0, dx0, i0, S1, dx1, i1, ms0, ms1, es0, es1, ep0, ep1, t0, t1, eS, eM, ea, eb, e0, e1, o, c1, c2, c3, c4, v3, v4, F, N, NI, so, ⟨d1, d2, d3, d4⟩, ⟨f0, pv0, nd0⟩, ⟨f1, pv1, nd1⟩, AP⟩ := J
  obtain ⟨jj, j1, jq, j2, j3, rfl, _⟩ := id so
  have ⟨⟨a1, a2, a3, a4, a5, a6, a7, a8, a9, a10⟩, ⟨b1, b2, b3, b4, b5⟩, ⟨g1, g2, g3, g4, g5⟩, ⟨k1, k2, k3, k4, k5⟩, w1, w2⟩ := AP
  have y1 := NI (Ls, _) (by k_mem)
  have y2 := NI (Lm, _) (by k_mem)
  have y3 := NI (st, _) (by k_mem)
  have y4 := NI (L + 1 + 1 + 1 + 1, c4) (by k_mem)
  have y5 := NI (L + 1 + 1 + 1, c3) (by k_mem)
  have y6 := NI (L + 1 + 1, c2) (by k_mem)
  have y7 := NI (L + 1, c1) (by k_mem)
  dsimp only at y1 y2 y3 y4 y5 y6 y7
  have z2 := sz5 pv0 nd0
  have z3 := sz5 pv1 nd1
  have N1 : News g L h [(Ls, PySem.W.listOf [.ref S0, .ref S1].toArray eS), (Lm, PySem.W.listOf [.ref la, .ref lb].toArray eM), (la, PySem.W.listOf ms0.toArray ea), (lb, PySem.W.listOf ms1.toArray eb), (S0, setO (.ref 232) (some dx0) es0 ep0 t0 #[some (.ref i0)]), (dx0, dictE), (i0, PySem.W.listOf ms0.toArray e0), (S1, setO (.ref 232) (some dx1) es1 ep1 t1 #[some (.ref i1)]), (dx1, dictE), (i1, PySem.W.listOf ms1.toArray e1), (st, PySem.W.listOf [.ref sc, .int jj j1, .int jq j2].toArray j3), (sc, PySem.W.listOf us.toArray 0), (L + 1 + 1 + 1 + 1, c4), (L + 1 + 1 + 1, c3), (L + 1 + 1, c2), (L + 1, c1), (I, oI)] := by
    intro p hp
    rcases List.mem_append.mp (show p ∈ [_, _, _, _, _, _, _, _, _, _, _, _, _, _, _, _] ++ [(I, oI)] from hp) with q | q
    · exact N p q
    · obtain rfl := List.mem_singleton.mp q; exact ⟨hI, IL, gI⟩
  have F1 : Fr g L (⟨h, s1.gens, dr, tk, s1.os⟩ : Shared).heap _ := F
  clear N F NI
  k_steps
  rename_i h14 tkA ji5 jt5 jq5 jv5 je5 h13 tk5 k uk I5 r05 r15 ji4 jt4 jq4 jv4 je4 h12 tk4 hr uh I4 r04 r14 ji3 jt3 jq3 jv3 je3 h11 tk3 r3 u3 I3 r03 r13 x px D h10 l10 h9 h8 h7 h6 tkB ji2 jt2 jq2 jv2 je2 h5 tk2 r2 u2 I2 r02 r12 x1 px1 jiA jtA jqA jvA jeA hA4 tkA1 rA uA IA r0A r1A x2 px2 R h3 lR h2 ji jt jr jv je hB tkD p up so9 r0p r1p hC F9 N9
  refine halt_out ?_
  have N10 : News g L hC [(R, PySem.W.listOf [x, x1, x2, x].toArray 0), (Ls, PySem.W.listOf [.ref S0, .ref S1].toArray eS), (Lm, PySem.W.listOf [.ref la, .ref lb].toArray eM), (la, PySem.W.listOf ms0.toArray ea), (lb, PySem.W.listOf ms1.toArray eb), (S0, setO (.ref 232) (some dx0) es0 ep0 t0 #[some (.ref i0)]), (dx0, dictE), (i0, PySem.W.listOf ms0.toArray e0), (S1, setO (.ref 232) (some dx1) es1 ep1 t1 #[some (.ref i1)]), (dx1, dictE), (i1, PySem.W.listOf ms1.toArray e1), (st, PySem.W.listOf [.ref sc, .int ji jt, .int jr jv].toArray je), (sc, PySem.W.listOf us.toArray 0), (L + 1 + 1 + 1 + 1, c4), (L + 1 + 1 + 1, c3), (L + 1 + 1, c2), (L + 1, c1), (I, oI)] := fun p hp => by
    simp only [List.mem_cons, List.not_mem_nil, or_false] at hp
    rcases hp with rfl | rfl | rfl | rfl | rfl | rfl | rfl | rfl | rfl | rfl | rfl | rfl | rfl | rfl | rfl | rfl | rfl | rfl <;> exact N9 _ (by k_mem)
  obtain ⟨_, l1, l2, _, _, _, _, l3, _, _, l4, l5, _⟩ := lR
  have hc : hr = 0 ∨ hr = 1 := by omega
  rcases hc with rfl | rfl
  · exact turn_due0 B cI gI IL (fr_seen (k := Str.ofString "place") (fr_seen (k := Str.ofString "rows") (fr_seen (k := Str.ofString "one") (fr_seen (k := Str.ofString "here") (fr_seen (k := Str.ofString "op") (fr_seen (k := Str.ofString "_") (fr_seen (k := Str.ofString "lists") F9 rfl) rfl) rfl) rfl) rfl) rfl) rfl) N10 so9 d1 d2 d3 d4 f0 pv0 nd0 f1 pv1 nd1 AP (Nat.ne_of_lt l1) (Nat.ne_of_lt l2) (Nat.ne_of_lt l5) (Nat.ne_of_lt l3) (Nat.ne_of_lt l4) y4 y5 y6 y7 px px1 px2 ⟨r05, r15⟩ ⟨by omega, by omega⟩ hE0
  · exact turn_due1 B cI gI IL (fr_seen (k := Str.ofString "place") (fr_seen (k := Str.ofString "rows") (fr_seen (k := Str.ofString "one") (fr_seen (k := Str.ofString "here") (fr_seen (k := Str.ofString "op") (fr_seen (k := Str.ofString "_") (fr_seen (k := Str.ofString "lists") F9 rfl) rfl) rfl) rfl) rfl) rfl) rfl) N10 so9 d1 d2 d3 d4 f0 pv0 nd0 f1 pv1 nd1 AP (Nat.ne_of_lt l1) (Nat.ne_of_lt l2) (Nat.ne_of_lt l5) (Nat.ne_of_lt l3) (Nat.ne_of_lt l4) y4 y5 y6 y7 px px1 px2 ⟨r05, r15⟩ ⟨by omega, by omega⟩ hE0
end

end
/-! Tz -/
section
section
variable {w : World} {A : Around} {E : Value → Shared → Prop} {s : Shared} {g : Heap}
/-- as compEf_range, the loop's variable known -/
theorem compEf_rangeV {elt : Expr} {x : Str} {scope : Scope} {cl : List (Str × Addr)} {env : Env} {um : Addr → (Str → Option Value) → Str → Option Value} {K : Shared → Value → Heap → Nat → Prop} {r : Addr} {b : Int} {t₁ t₂ t₃ : Tok} {n : Nat} {m : Str → Option Value} {news : List (Addr × Obj)} {L : Addr} (hL : env.locals = L) (J : List Value → List (Addr × Obj) → Prop)
    (hh : A.handled = none) (hr : IsRange s.heap r 0 b 1 t₁ t₂ t₃) (hb : b = (n : Int)) (hz : n ≤ 1000) (F : Fr g L s.heap m) (N : News g L s.heap news) (h0 : J [] news)
    (step : ∀ C D I i ys h tk news₃ oI oL m₃ e E', i < n → (∃ t, m₃ x = some (.int (i : Int) t)) → ys.length = i → J ys news₃ → Fr g C h m₃ → News g C h (news₃ ++ [(I, oI), (D, PySem.W.listOf ys.toArray e), (L, oL)]) → (∀ p ∈ news₃, p.1 ≠ I ∧ p.1 ≠ D ∧ p.1 ≠ L) →
      wpAny (model PR w) A (eval elt (compEnvC scope cl C env)) (EltPost g C I D L oI oL ys e ⟨h, s.gens, s.drawn, tk, s.os⟩ J) E' ⟨h, s.gens, s.drawn, tk, s.os⟩)
    (done : ∀ D ys h tk news₃ e, ys.length = n → J ys news₃ → Fr g L h (um D m) → News g L h ((D, PySem.W.listOf ys.toArray e) :: news₃) → (∀ p ∈ news₃, p.1 ≠ D) → K s (.ref D) h tk)
    (hK : ∀ h0, K { s with heap := h0 } = K s) :
    wpAny (model PR w) A (pyIter (.ref r)) (fun it s₂ => CompEf w A g env elt scope cl x um (K s₂) it s₂) E s := by
  subst hb
  subst hL
  refine wpAny_pyIter_range hr ?_ ?_
  · exact small_one (by omega) (by omega) (by omega) (by omega)
  have hs1 : ∀ p ∈ news, p.1 ≠ s.heap.objs.size := fun p hp => Nat.ne_of_lt (Heap.lt_size (N p hp).1)
  have gL : g.get? env.locals = none := Heap.get?_none_of_le F.above
  refine ⟨s.heap.objs.size, n, _, _, m, news, J, rfl, (Walks.range hh _ 0 1 n).bound, fun i h st => ⟨_, st⟩, hz, ?_, F.push _, fun p hp => ⟨Heap.get?_push_of_some _ (N p hp).1, (N p hp).2⟩, none_of F.keep (Heap.get?_none_of_le (Nat.le_refl _)), (Nat.ne_of_lt F.ns.lt).symm, hs1, h0, ?_, ?_⟩
  · have hn : Builtin.Range.rangeSize 0 (n : Int) 1 = (n : Int) := by unfold Builtin.Range.rangeSize; simp; omega
    show IsRangeIter _ _ _ _ _
    rw [hn]; simpa using Heap.get?_push_size _ rfl
  · intro C D i v ys h tk news₃ oI oL m₃ E' a1 a2 a3 a4 a5 a6 a7 a8 a9 b1 b2 b3 b4
    obtain ⟨e, hD⟩ := a5.acc
    have hv : ∃ t, m₃ x = some (.int (i : Int) t) := by
      obtain ⟨t, q⟩ := (show ∃ t, v = .int (0 + (i : Int) * 1) t from by first | exact a2 | exact a2.1 | exact a2.2)
      exact ⟨t, by rw [a7, q]; simp⟩
    refine wpAny_mono (step C D _ i ys h tk news₃ oI oL m₃ e E' a1 hv a3 a4 a6 ?_ a5.apart) (fun y s₄ q => ?_) fun _ _ q => q
    · intro p hp
      rcases List.mem_append.mp hp with q | q
      · exact a5.at_ p q
      · simp only [List.mem_cons, List.not_mem_nil, or_false] at q
        rcases q with rfl | rfl | rfl
        · exact ⟨a5.it, a8, none_of F.keep (Heap.get?_none_of_le (Nat.le_refl _))⟩
        · exact ⟨hD, a9, b4⟩
        · exact ⟨a5.fr, b1, gL⟩
    · obtain ⟨h', tk', news₄, m₄, rfl, F4, N4, ap4, J4⟩ := q
      refine ⟨h', tk', news₄, m₄, rfl, ⟨F4.keep, (N4 _ (List.mem_append_right _ (.head _))).1, (N4 _ (List.mem_append_right _ (.tail _ (.tail _ (.head _))))).1, ⟨e, (N4 _ (List.mem_append_right _ (.tail _ (.head _)))).1⟩, fun p hp => N4 p (List.mem_append_left _ hp), ap4⟩, F4.ns, J4⟩
  · intro D ys h tk news₃ a1 a2 a3 a4 a5 a6 a7 a8
    obtain ⟨e, hD⟩ := a8
    rw [hK]
    exact done D ys h tk news₃ e a1 a2 a3 (List.forall_mem_cons.mpr ⟨⟨hD, a5, a6⟩, a4⟩) a7
theorem k_getitem {mg mb : Str → Option Value} {L S dx l : Addr} {m : Str → Option Value} {news : List (Addr × Obj)} {ms : List Value} {es : Array (Int × Value)} {ep e : Nat} {t : SetTable} {i : Int} {u : Tok} {v : Value} {Q : Value → Shared → Prop} (B : Base w mg mb g) (F : Fr g L s.heap m) (N : News g L s.heap news)
    (h1 : (S, setO (.ref 232) (some dx) es ep t #[some (.ref l)]) ∈ news) (h2 : (dx, dictE) ∈ news) (h3 : (l, PySem.W.listOf ms.toArray e) ∈ news) (f : SFact w es t (inL ms)) (pv : ∀ v ∈ ms, Pv v) (nd : (ms.map cl).Nodup) (hi : 0 ≤ i ∧ i < 1000) (hv : ms[i.toNat]? = some v)
    (hh : A.handled = none) (hd' : A.depth ≤ 900) (hu : A.units ≤ 8000) (h : ∀ h' tk, Fr g L h' m → News g L h' news → Q v { s with heap := h', toks := tk }) : wpAny (model PR w) A (call (.ref 107) [.ref S, .int i u]) Q E s := by
  refine use_at (A := A1) (getitem_spec B F.keep (os_at N h1 h2 h3 f pv nd) (N _ h1).2.2 (N _ h2).2.2 (N _ h3).2.2 hi hv fun h' tk md => ?_) hh hd' rfl rfl hu
  exact h h' tk (fr_mod F md (by simp) (by simp)) fun p hp => ⟨md _ _ (N p hp).1 (by simp), (N p hp).2⟩
theorem eq_same {x y : Str} {t u : Tok} {Q : Value → Shared → Prop} (e : x = y) (h : Q (.bool true) s) : wpAny (model PR w) A (compareOp .Eq (.str x t) (.str y u)) Q E s := by
  subst e
  refine eq_str ?_
  have : (x == x) = true := by simp
  rw [this]; exact h
theorem ce_local {C : Addr} {m₃ : Str → Option Value} {scope : Scope} {cl : List (Str × Addr)} {env : Env} {x : Str} {px : Pos} {v : Value} {Q : Value → Shared → Prop} (F : Fr g C s.heap m₃) (hm : m₃ x = some v) (hk : (compEnvC scope cl C env).scope.kind = .function) (hx : (compEnvC scope cl C env).kindOf x = some .local) (dx : (x == ("__debug__" : Str)) = false) (h : Q v s) :
    wpAny (model PR w) A (eval (.Name x px) (compEnvC scope cl C env)) Q E s := wpAny_Name (wpAny_loadName_local hk hx F.ns hm h) dx
end
end
local macro_rules | `(tactic| walk_at "eval Name") => `(tactic| (k_here; (with_reducible show wpAny _ _ (eval (Expr.Name _ _) (compEnvC _ _ _ _)) _ _ _); k_dflt (refine' ce_local ?F ?m ?k ?x ?d ?_; (case k => rfl); (case x => rfl); (case d => decide); (case F => k_asm); (case m => exact rfl); k_whole)))
local macro_rules | `(tactic| walk_at "call ref") => `(tactic| (k_here; (with_reducible show wpAny _ _ (call (Value.ref 107) [Value.ref _, Value.int _ _]) _ _ _); k_dflt (refine' k_getitem ?b ?k1 ?k2 ?h1 ?h2 ?h3 ?f ?pv ?nd ?i ?v ?hh ?hd ?hu ?_; (case b => assumption); (case k1 => k_asm); (case k2 => k_asm); (case h1 => k_mem); (case h2 => k_mem); (case h3 => k_mem); (case f => assumption); (case pv => assumption); (case nd => assumption); (case i => first | omega | assumption); (case v => assumption); (case hh => exact rfl); (case hd => k_units); (case hu => k_units); k_whole); intro h' tk' F' N'; (try k_sweep)))
local macro_rules | `(tactic| walk_at "compareOp Eq str str") => `(tactic| (k_here; k_dflt (refine' eq_same ?e ?_; (case e => with_reducible rfl); k_whole)))
section
section
variable {w : World} {mg mb : Str → Option Value} {g : Heap} {E : Value → Shared → Prop}
theorem law_ret {L f : Addr} {cdv : Value} {Q : Flow → Shared → Prop} (B : Base w mg mb g) (s1 : Shared) (hQ : ∀ h dr tk m, Fr g L h m → Q (.ret (.bool true)) ⟨h, s1.gens, dr, tk, s1.os⟩) (I : Addr) (h : Heap) (dr : Drawn) (tk : Nat) (st sc : Addr) (us : List Value) (gI : g.get? I = none) (IL : I ≠ L) (J : LawJ w g L st sc us I h) :
    wpAny (model PR w) (callerA.deeper (lawEnv L f cdv)) (execs lawEnd (lawEnv L f cdv)) Q E ⟨h, s1.gens, dr, tk, s1.os⟩ := by
  have hb : lawEnd = lawEnd := rfl
  conv at hb => rhs; whnf
  have hsc : lawScope = lawScope := rfl
  conv at hsc => rhs; whnf
  rw [hb]
  unfold lawEnv
  rw [hsc]
  clear hb hsc
  refine add_kind (x := Str.ofString "lists") rfl (by decide) fun kn0 kd0 => ?_
  have X' := B.K
  have T' := B.T
  obtain ⟨u, Ls, Lm, la, lb, S0, dx0, i0, S1, dx1, i1, ms0, ms1, es0, es1, ep0, ep1, t0, t1, eS, eM, ea, eb, e0, e1, o, c1, c2, c3, c4, v3, v4, F, N, NI, so, ⟨d1, d2, d3, d4⟩, ⟨f0, pv0, nd0⟩, ⟨f1, pv1, nd1⟩, AP⟩ := J
  have z2 := sz5 pv0 nd0
  have z4 := len5 pv0 nd0
  have z5 : (ms0.length : Int) ≤ 5 := by omega
  have z6 : ms0.length ≤ 100 := by omega
  have z8 : ms0.length ≤ 1000 := by omega
  have F1 : Fr g L (⟨h, s1.gens, dr, tk, s1.os⟩ : Shared).heap _ := F
  have N1 : News g L (⟨h, s1.gens, dr, tk, s1.os⟩ : Shared).heap _ := N
  clear F N NI
  k_steps
  refine halt_out ?_
  refine comp_eff (g := g) (by with_unfolding_all rfl) (by decide) (by rfl) (by decide) (by rfl) ?_
  k_steps
  rename_i hr F6 N6 l6
  refine compEf_rangeV (L := L) (n := ms0.length) rfl (K := fun s₂ (D : Value) h tk => _) (fun ys news => ys = ms0.take ys.length ∧ news = [(Ls, PySem.W.listOf [.ref S0, .ref S1].toArray eS), (Lm, PySem.W.listOf [.ref la, .ref lb].toArray eM), (la, PySem.W.listOf ms0.toArray ea), (lb, PySem.W.listOf ms1.toArray eb), (S0, setO (.ref 232) (some dx0) es0 ep0 t0 #[some (.ref i0)]), (dx0, dictE), (i0, PySem.W.listOf ms0.toArray e0), (S1, setO (.ref 232) (some dx1) es1 ep1 t1 #[some (.ref i1)]), (dx1, dictE), (i1, PySem.W.listOf ms1.toArray e1), (st, o), (sc, PySem.W.listOf us.toArray 0), (L + 1 + 1 + 1 + 1, c4), (L + 1 + 1 + 1, c3), (L + 1 + 1, c2), (L + 1, c1)]) rfl hr rfl (by omega) F6 N6 ⟨rfl, rfl⟩ ?_ ?_ (fun _ => rfl)
  · intro C D J i ys h5 tk5 news₃ oI oL m₃ e E' hi hv hlen hJ F3 N3 ap
    obtain ⟨t, hv⟩ := hv
    obtain ⟨hys, rfl⟩ := hJ
    simp only [List.cons_append, List.nil_append] at N3
    have F4 := fr_seen F3 hv
    have hx : ms0[((i : Int)).toNat]? = some ms0[i] := by rw [Int.toNat_natCast]; exact List.getElem?_eq_getElem hi
    clear F3 F6 N6 hr l6
    k_steps
    rename Fr _ _ _ _ => F9
    rename News _ _ _ _ => N9
    refine ⟨_, _, [(Ls, PySem.W.listOf [.ref S0, .ref S1].toArray eS), (Lm, PySem.W.listOf [.ref la, .ref lb].toArray eM), (la, PySem.W.listOf ms0.toArray ea), (lb, PySem.W.listOf ms1.toArray eb), (S0, setO (.ref 232) (some dx0) es0 ep0 t0 #[some (.ref i0)]), (dx0, dictE), (i0, PySem.W.listOf ms0.toArray e0), (S1, setO (.ref 232) (some dx1) es1 ep1 t1 #[some (.ref i1)]), (dx1, dictE), (i1, PySem.W.listOf ms1.toArray e1), (st, o), (sc, PySem.W.listOf us.toArray 0), (L + 1 + 1 + 1 + 1, c4), (L + 1 + 1 + 1, c3), (L + 1 + 1, c2), (L + 1, c1)], _, rfl, F9, by exact N9, ap, ?_, rfl⟩
    rw [hlen] at hys
    rw [List.length_append, List.length_singleton, hlen, List.take_add_one, List.getElem?_eq_getElem hi, ← hys]
    rfl
  · intro D ys h5 tk5 news₃ e hlen hJ F3 N3 ap
    obtain ⟨hys, rfl⟩ := hJ
    rw [hlen, List.take_length] at hys
    subst hys
    clear F6 N6 hr l6
    k_steps
    rename Fr _ _ _ _ => F9
    exact hQ _ _ _ _ F9
end

end
/-! D0 -/
section
section
variable {w : World} {s : Shared} {mg mb : Str → Option Value} {g : Heap} {Q : Flow → Shared → Prop} {E : Value → Shared → Prop}
theorem law_all {L f sc0 : Addr} {cdv : Value} {vs : List Value} {c1 c2 c3 c4 : Obj} (B : Base w mg mb g) (F : Fr g L s.heap (fun y => if y = Str.ofString "script" then some (.ref sc0) else none))
   (N : News g L s.heap [(L + 1 + 1 + 1 + 1, c4), (L + 1 + 1 + 1, c3), (L + 1 + 1, c2), (L + 1, c1)]) (hs : ScriptAt g sc0 vs) (hv : ∀ v ∈ vs, ∃ n t, v = .int n t) (hlen : vs.length ≤ 63)
   (hE : PassesOwn (model PR w) (callerA.deeper (lawEnv L f cdv)) (lawEnv L f cdv) E) (hQ : ∀ h dr tk m, Fr g L h m → Q (.ret (.bool true)) ⟨h, s.gens, dr, tk, s.os⟩)
   (d1 : c1.data = .cell none) (d2 : c2.data = .cell none) (d3 : c3.data = .cell none) (d4 : c4.data = .cell none) :
    wpAny (model PR w) (callerA.deeper (lawEnv L f cdv)) (execs lawBody (lawEnv L f cdv)) Q E s :=
  law_main B F N hs hv hlen hE (turn_spec B) (fun I h dr tk st sc us gI IL J => law_ret B s hQ I h dr tk st sc us gI IL J) d1 d2 d3 d4
end
theorem ints_all : ∀ {vs : List Value} {ns : List Int}, IntsAre vs ns → ∀ v ∈ vs, ∃ n t, v = .int n t
  | _, _, .nil, v, h => by cases h
  | _, _, .cons i t r, v, h => by
    rcases List.mem_cons.mp h with rfl | h
    · exact ⟨_, _, rfl⟩
    · exact ints_all r v h
theorem holds : PySem.Challenge.rw_bq5033_01.Holds := hd (by
  k_go0
  all_goals try k_fold
  all_goals try dsimp only
  rename IntsAre _ _ => hI
  have hl := hI.length
  rename News _ _ _ _ => N0
  rename Fr _ _ _ _ => F0
  refine law_all ⟨by assumption, topRead_of (by assumption)⟩ (by exact F0) N0 ⟨by assumption⟩ (ints_all hI) (by omega) ?_ ?_ (by assumption) (by assumption) (by assumption) (by assumption)
  · passes_own
  · intro h9 dr9 tk9 m9 F9
    k_unfold
    try dsimp only
    refine goodW_bool F9 (by assumption) (raisesW_false ?_) ?_
    · wrow_none_raised
    · wrow_post)

end
end Mine

theorem PySem.Challenge.cw_bq5033_01_holds : PySem.Challenge.rw_bq5033_01.Holds := by
  exact Mine.holds
