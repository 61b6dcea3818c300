/-
  THE PLAIN MATHEMATICS OF SEAT b6603123a: Tarjan's algorithm, run without recursion. No Go in sight.
-/
namespace Go.Proofs.Qxb6603123a

/-! ### Reachability -/
def Path (adj : Nat → List Nat) : Nat → List Nat → Nat → Prop
  | u, [], v => u = v
  | u, x :: p, v => x ∈ adj u ∧ Path adj x p v
def Reach (adj : Nat → List Nat) (u v : Nat) : Prop := ∃ p, Path adj u p v

theorem Reach.refl (adj : Nat → List Nat) (u : Nat) : Reach adj u u := ⟨[], rfl⟩
theorem Path.append {adj : Nat → List Nat} {p q : List Nat} {u v x : Nat} (h : Path adj u p v) (k : Path adj v q x) : Path adj u (p ++ q) x := by
  induction p generalizing u with
  | nil => have : u = v := h; subst this; exact k
  | cons y p ih => exact ⟨h.1, ih h.2⟩
theorem Reach.trans {adj : Nat → List Nat} {u v x : Nat} (h : Reach adj u v) (k : Reach adj v x) : Reach adj u x := by
  obtain ⟨p, hp⟩ := h
  obtain ⟨q, hq⟩ := k
  exact ⟨p ++ q, hp.append hq⟩
theorem Reach.edge {adj : Nat → List Nat} {u v : Nat} (h : v ∈ adj u) : Reach adj u v := ⟨[v], h, rfl⟩
/-- What is closed under edges holds of all that is reached. -/
theorem Reach.closed {adj : Nat → List Nat} {P : Nat → Prop} (hP : ∀ x, P x → ∀ y ∈ adj x, P y) {u v : Nat} (h : Reach adj u v) (hu : P u) : P v := by
  obtain ⟨p, hp⟩ := h
  induction p generalizing u with
  | nil => have : u = v := hp; subst this; exact hu
  | cons y p ih => exact ih (hP u hu y hp.1) hp.2

/-! ### Counting -/
def cntV (f : Nat → Nat) : Nat → Nat
  | 0 => 0
  | n + 1 => cntV f n + if f n = 0 then 0 else 1
def upd {α : Type} (f : Nat → α) (i : Nat) (v : α) : Nat → α := fun j => if j = i then v else f j
theorem upd_same {α : Type} (f : Nat → α) (i : Nat) (v : α) : upd f i v i = v := by simp [upd]
theorem upd_other {α : Type} (f : Nat → α) (i j : Nat) (v : α) (h : ¬ j = i) : upd f i v j = f j := by simp [upd, h]

theorem cntV_le (f : Nat → Nat) (n : Nat) : cntV f n ≤ n := by
  induction n with
  | zero => exact Nat.le_refl _
  | succ n ih => simp only [cntV]; split <;> omega
theorem cntV_upd_out (f : Nat → Nat) (n v x : Nat) (h : n ≤ v) : cntV (upd f v x) n = cntV f n := by
  induction n with
  | zero => rfl
  | succ n ih => simp only [cntV]; rw [ih (by omega), upd_other _ _ _ _ (by omega)]
theorem cntV_upd (f : Nat → Nat) (n v x : Nat) (h : v < n) (h0 : f v = 0) (hx : x ≠ 0) : cntV (upd f v x) n = cntV f n + 1 := by
  induction n with
  | zero => omega
  | succ n ih =>
    simp only [cntV]
    by_cases hv : v = n
    · subst hv
      rw [cntV_upd_out f v v x (Nat.le_refl _), upd_same, h0]
      simp [hx]
    · rw [ih (by omega), upd_other _ _ _ _ (by omega)]
      omega

/-- The weight of what is not yet visited. -/
def wt (adj : Nat → List Nat) (f : Nat → Nat) : Nat → Nat
  | 0 => 0
  | n + 1 => wt adj f n + if f n = 0 then (adj n).length + 2 else 0
theorem wt_upd_out (adj : Nat → List Nat) (f : Nat → Nat) (n v x : Nat) (h : n ≤ v) : wt adj (upd f v x) n = wt adj f n := by
  induction n with
  | zero => rfl
  | succ n ih => simp only [wt]; rw [ih (by omega), upd_other _ _ _ _ (by omega)]
theorem wt_upd (adj : Nat → List Nat) (f : Nat → Nat) (n v x : Nat) (h : v < n) (h0 : f v = 0) (hx : x ≠ 0) : wt adj (upd f v x) n + (adj v).length + 2 = wt adj f n := by
  induction n with
  | zero => omega
  | succ n ih =>
    simp only [wt]
    by_cases hv : v = n
    · subst hv
      rw [wt_upd_out adj f v v x (Nat.le_refl _), upd_same, h0]
      simp [hx]; omega
    · have := ih (by omega)
      rw [upd_other _ _ _ _ (by omega)]
      omega
def wtC (adj : Nat → List Nat) : List (Nat × Nat) → Nat
  | [] => 0
  | f :: cs => ((adj f.1).length - f.2 + 1) + wtC adj cs

/-! ### The state -/
structure TS where
  idx : Nat → Nat
  low : Nat → Nat
  comp : Nat → Nat
  on : Nat → Bool
  stk : List Nat
  calls : List (Nat × Nat)
  vis : Nat
  cnt : Nat

def Done (S : TS) (v : Nat) : Prop := 0 < S.idx v ∧ S.on v = false
/-- The edge y to z has been looked at. -/
def Pe (adj : Nat → List Nat) (S : TS) (y z : Nat) : Prop := z ∈ adj y ∧ ∀ nx, (y, nx) ∈ S.calls → z ∈ (adj y).take nx
def meas (n : Nat) (adj : Nat → List Nat) (S : TS) : Nat := wt adj S.idx n + wtC adj S.calls

structure Inv (n : Nat) (adj : Nat → List Nat) (S : TS) : Prop where
  stkLt : ∀ v ∈ S.stk, v < n
  stkOrd : S.stk.Pairwise (fun a b => S.idx b < S.idx a)
  onIff : ∀ v, v < n → (S.on v = true ↔ v ∈ S.stk)
  idxLe : ∀ v, v < n → S.idx v ≤ S.vis
  stkPos : ∀ v ∈ S.stk, 0 < S.idx v
  doneC : ∀ v, v < n → Done S v → S.comp v < S.cnt
  doneE : ∀ v, v < n → Done S v → ∀ x ∈ adj v, Done S x
  grayIn : ∀ f ∈ S.calls, f.1 ∈ S.stk
  grayOrd : S.calls.Pairwise (fun f g => S.idx g.1 < S.idx f.1)
  reachUp : ∀ f ∈ S.calls, ∀ y ∈ S.stk, S.idx f.1 ≤ S.idx y → Reach adj f.1 y
  reachGray : ∀ y ∈ S.stk, ∃ f ∈ S.calls, S.idx f.1 ≤ S.idx y ∧ Reach adj y f.1
  nxLe : ∀ f ∈ S.calls, f.2 ≤ (adj f.1).length
  lowLe : ∀ f ∈ S.calls, S.low f.1 ≤ S.idx f.1 ∧ ∃ z ∈ S.stk, S.idx z = S.low f.1 ∧ Reach adj f.1 z
  lowEdge : ∀ f ∈ S.calls, ∀ y ∈ S.stk, S.idx f.1 ≤ S.idx y → (∀ g ∈ S.calls, S.idx f.1 < S.idx g.1 → S.idx y < S.idx g.1) → ∀ z, Pe adj S y z → S.on z = true → S.low f.1 ≤ S.idx z
  seenE : ∀ y ∈ S.stk, ∀ z, Pe adj S y z → 0 < S.idx z
  sccD : ∀ u v, u < n → v < n → Done S u → Done S v → (S.comp u = S.comp v ↔ Reach adj u v ∧ Reach adj v u)
  dense : ∀ c, c < S.cnt → ∃ v, v < n ∧ Done S v ∧ S.comp v = c
  topo : ∀ u, u < n → Done S u → ∀ x ∈ adj u, S.comp x ≤ S.comp u
  visC : S.vis = cntV S.idx n
  cntLe : S.cnt + S.stk.length ≤ S.vis
  calLe : S.calls.length ≤ S.vis

theorem Inv.visLe {n : Nat} {adj : Nat → List Nat} {S : TS} (h : Inv n adj S) : S.vis ≤ n := by rw [h.visC]; exact cntV_le _ _

/-- The start. -/
def TS.start : TS := { idx := fun _ => 0, low := fun _ => 0, comp := fun _ => 0, on := fun _ => false, stk := [], calls := [], vis := 0, cnt := 0 }
theorem cntV_zero (n : Nat) : cntV (fun _ => 0) n = 0 := by
  induction n with
  | zero => rfl
  | succ n ih => simp [cntV, ih]
theorem Inv.start (n : Nat) (adj : Nat → List Nat) : Inv n adj TS.start := by
  have nd : ∀ v, ¬ Done TS.start v := fun v h => absurd h.1 (by simp [TS.start])
  refine ⟨?_, ?_, ?_, ?_, ?_, ?_, ?_, ?_, ?_, ?_, ?_, ?_, ?_, ?_, ?_, ?_, ?_, ?_, ?_, ?_, ?_⟩
  · simp [TS.start]
  · simp [TS.start]
  · simp [TS.start]
  · simp [TS.start]
  · simp [TS.start]
  · exact fun v _ h => absurd h (nd v)
  · exact fun v _ h => absurd h (nd v)
  · simp [TS.start]
  · simp [TS.start]
  · simp [TS.start]
  · simp [TS.start]
  · simp [TS.start]
  · simp [TS.start]
  · simp [TS.start]
  · simp [TS.start]
  · exact fun u _ _ _ h => absurd h (nd u)
  · simp [TS.start]
  · exact fun u _ h => absurd h (nd u)
  · exact (cntV_zero n).symm
  · simp [TS.start]
  · simp [TS.start]

/-- A node is visited: pushed on both stacks; 'calls1' are the frames beneath. -/
def TS.visit (S : TS) (w : Nat) (calls1 : List (Nat × Nat)) : TS :=
  { S with idx := upd S.idx w (S.vis + 1), low := upd S.low w (S.vis + 1), on := upd S.on w true, stk := w :: S.stk, calls := (w, 0) :: calls1, vis := S.vis + 1 }

theorem pairwise_congr {α : Type} {R R' : α → α → Prop} {l : List α} (h : l.Pairwise R) (hR : ∀ a ∈ l, ∀ b ∈ l, R a b → R' a b) : l.Pairwise R' := by
  induction l with
  | nil => exact List.Pairwise.nil
  | cons a l ih =>
    rw [List.pairwise_cons] at h ⊢
    exact ⟨fun b hb => hR a (by simp) b (by simp [hb]) (h.1 b hb), ih h.2 (fun x hx y hy => hR x (by simp [hx]) y (by simp [hy]))⟩

/-- What both kinds of a visit share. 'calls1' has the same nodes as 'S.calls'; an edge that is looked at in the new state was looked at before, or leads to w. -/
theorem Inv.visitCore {n : Nat} {adj : Nat → List Nat} {S : TS} (h : Inv n adj S) {w : Nat} {calls1 : List (Nat × Nat)} (hw : w < n) (h0 : S.idx w = 0)
    (hlen : calls1.length = S.calls.length)
    (hin : ∀ f ∈ calls1, ∃ g ∈ S.calls, g.1 = f.1) (hback : ∀ g ∈ S.calls, ∃ f ∈ calls1, f.1 = g.1) (hord : calls1.Pairwise (fun f g => S.idx g.1 < S.idx f.1))
    (hnx : ∀ f ∈ calls1, f.2 ≤ (adj f.1).length) (hrw : ∀ f ∈ calls1, Reach adj f.1 w)
    (hpe : ∀ y z, y ≠ w → (z ∈ adj y ∧ ∀ nx, (y, nx) ∈ calls1 → z ∈ (adj y).take nx) → Pe adj S y z ∨ z = w) :
    Inv n adj (S.visit w calls1) := by
  have hws : w ∉ S.stk := fun hm => by have := h.stkPos w hm; omega
  have hne : ∀ y ∈ S.stk, y ≠ w := fun y hy e => hws (e ▸ hy)
  have hg : ∀ f ∈ calls1, f.1 ∈ S.stk := fun f hf => by obtain ⟨g, hg, e⟩ := hin f hf; rw [← e]; exact h.grayIn g hg
  have hi : ∀ y, y ≠ w → (S.visit w calls1).idx y = S.idx y := fun y hy => upd_other _ _ _ _ hy
  have hiw : (S.visit w calls1).idx w = S.vis + 1 := upd_same _ _ _
  have hl : ∀ y, y ≠ w → (S.visit w calls1).low y = S.low y := fun y hy => upd_other _ _ _ _ hy
  have hlw : (S.visit w calls1).low w = S.vis + 1 := upd_same _ _ _
  have ho : ∀ y, y ≠ w → (S.visit w calls1).on y = S.on y := fun y hy => upd_other _ _ _ _ hy
  have how : (S.visit w calls1).on w = true := upd_same _ _ _
  have hle : ∀ y ∈ S.stk, S.idx y ≤ S.vis := fun y hy => h.idxLe y (h.stkLt y hy)
  have hnw : ¬ Done S w := fun hd => by have := hd.1; omega
  have hnw' : ¬ Done (S.visit w calls1) w := fun hd => by have := hd.2; rw [how] at this; cases this
  have hD : ∀ x, Done (S.visit w calls1) x ↔ Done S x := by
    intro x
    by_cases hx : x = w
    · subst hx; exact ⟨fun hd => absurd hd hnw', fun hd => absurd hd hnw⟩
    · unfold Done; rw [hi x hx, ho x hx]
  have hcal : ∀ f ∈ (S.visit w calls1).calls, f = (w, 0) ∨ f ∈ calls1 := fun f hf => by simpa [TS.visit] using hf
  have hst : ∀ y ∈ (S.visit w calls1).stk, y = w ∨ y ∈ S.stk := fun y hy => by simpa [TS.visit] using hy
  have hlowb : ∀ f ∈ calls1, S.low f.1 ≤ S.vis := fun f hf => by
    obtain ⟨g, hgm, e⟩ := hin f hf
    have := (h.lowLe g hgm).1
    rw [e] at this
    have := hle f.1 (hg f hf)
    omega
  -- the edges looked at
  have hPe : ∀ y z, y ∈ S.stk → Pe adj (S.visit w calls1) y z → Pe adj S y z ∨ z = w := by
    intro y z hy hp
    refine hpe y z (hne y hy) ⟨hp.1, fun nx hnx => hp.2 nx ?_⟩
    simp [TS.visit, hnx]
  have hPw : ∀ z, ¬ Pe adj (S.visit w calls1) w z := by
    intro z hp
    have := hp.2 0 (by simp [TS.visit])
    simp at this
  refine ⟨?_, ?_, ?_, ?_, ?_, ?_, ?_, ?_, ?_, ?_, ?_, ?_, ?_, ?_, ?_, ?_, ?_, ?_, ?_, ?_, ?_⟩
  · intro v hv
    rcases hst v hv with rfl | hv
    · exact hw
    · exact h.stkLt v hv
  · show (w :: S.stk).Pairwise _
    rw [List.pairwise_cons]
    refine ⟨fun b hb => ?_, pairwise_congr h.stkOrd fun a ha b hb hab => ?_⟩
    · rw [hiw, hi b (hne b hb)]; have := hle b hb; omega
    · rw [hi a (hne a ha), hi b (hne b hb)]; exact hab
  · intro v hv
    by_cases hx : v = w
    · subst hx; exact ⟨fun _ => by simp [TS.visit], fun _ => how⟩
    · rw [ho v hx, h.onIff v hv]
      simp [TS.visit, hx]
  · intro v hv
    by_cases hx : v = w
    · subst hx; rw [hiw]; exact Nat.le_refl _
    · rw [hi v hx]; have := h.idxLe v hv; show _ ≤ S.vis + 1; omega
  · intro v hv
    rcases hst v hv with rfl | hv
    · rw [hiw]; omega
    · rw [hi v (hne v hv)]; exact h.stkPos v hv
  · intro v hv hd; exact h.doneC v hv ((hD v).1 hd)
  · intro v hv hd x hx; exact (hD x).2 (h.doneE v hv ((hD v).1 hd) x hx)
  · intro f hf
    rcases hcal f hf with rfl | hf
    · simp [TS.visit]
    · have := hg f hf; simp [TS.visit, this]
  · show ((w, 0) :: calls1).Pairwise _
    rw [List.pairwise_cons]
    refine ⟨fun b hb => ?_, pairwise_congr hord fun a ha b hb hab => ?_⟩
    · rw [hiw, hi b.1 (hne _ (hg b hb))]; have := hle _ (hg b hb); omega
    · rw [hi a.1 (hne _ (hg a ha)), hi b.1 (hne _ (hg b hb))]; exact hab
  · intro f hf0 y hy0 hle'
    rcases hcal f hf0 with rfl | hf
    · rcases hst y hy0 with hyw | hy
      · rw [hyw]; exact Reach.refl _ _
      · rw [hiw, hi y (hne y hy)] at hle'; have := hle y hy; omega
    · rcases hst y hy0 with hyw | hy
      · rw [hyw]; exact hrw f hf
      · rw [hi _ (hne _ (hg f hf)), hi y (hne y hy)] at hle'
        obtain ⟨g, hgm, e⟩ := hin f hf
        rw [← e] at hle' ⊢
        exact h.reachUp g hgm y hy hle'
  · intro y hy
    rcases hst y hy with rfl | hy
    · exact ⟨(y, 0), by simp [TS.visit], Nat.le_refl _, Reach.refl _ _⟩
    · obtain ⟨g, hgm, hle', hr⟩ := h.reachGray y hy
      obtain ⟨f, hf, e⟩ := hback g hgm
      refine ⟨f, by simp [TS.visit, hf], ?_, e ▸ hr⟩
      rw [hi _ (hne _ (hg f hf)), hi y (hne y hy), e]; exact hle'
  · intro f hf
    rcases hcal f hf with rfl | hf
    · exact Nat.zero_le _
    · exact hnx f hf
  · intro f hf
    rcases hcal f hf with rfl | hf
    · refine ⟨by show _ ≤ _; rw [hlw, hiw]; exact Nat.le_refl _, w, by simp [TS.visit], ?_, Reach.refl _ _⟩
      rw [hlw, hiw]
    · obtain ⟨g, hgm, e⟩ := hin f hf
      obtain ⟨h1, z, hz, hzi, hzr⟩ := h.lowLe g hgm
      rw [e] at h1 hzi hzr
      rw [hl _ (hne _ (hg f hf)), hi _ (hne _ (hg f hf))]
      exact ⟨h1, z, by simp [TS.visit, hz], by rw [hi z (hne z hz)]; exact hzi, hzr⟩
  · intro f hf y hy hle' hc z hp hon
    rcases hst y hy with rfl | hy
    · exact absurd hp (hPw z)
    rcases hcal f hf with rfl | hf
    · rw [hiw, hi y (hne y hy)] at hle'; have := hle y hy; omega
    · rw [hl _ (hne _ (hg f hf))]
      have hb := hlowb f hf
      by_cases hzw : z = w
      · subst hzw; rw [hiw]; omega
      · rw [hi z hzw]
        rw [ho z hzw] at hon
        have hp' := (hPe y z hy hp).resolve_right hzw
        rw [hi _ (hne _ (hg f hf)), hi y (hne y hy)] at hle'
        obtain ⟨g, hgm, e⟩ := hin f hf
        have := h.lowEdge g hgm y hy (by rw [e]; exact hle') (fun g' hg' hlt => ?_) z hp' hon
        · rw [e] at this; exact this
        · obtain ⟨f', hf', e'⟩ := hback g' hg'
          have := hc f' (by simp [TS.visit, hf']) (by rw [hi _ (hne _ (hg f hf)), hi _ (hne _ (hg f' hf')), e']; rw [e] at hlt; exact hlt)
          rw [hi y (hne y hy), hi _ (hne _ (hg f' hf')), e'] at this
          exact this
  · intro y hy z hp
    rcases hst y hy with rfl | hy
    · exact absurd hp (hPw z)
    by_cases hzw : z = w
    · subst hzw; rw [hiw]; omega
    · rw [hi z hzw]; exact h.seenE y hy z ((hPe y z hy hp).resolve_right hzw)
  · intro u v hu hv du dv; exact h.sccD u v hu hv ((hD u).1 du) ((hD v).1 dv)
  · intro c hc
    obtain ⟨v, hv, hd, e⟩ := h.dense c hc
    exact ⟨v, hv, (hD v).2 hd, e⟩
  · intro u hu du x hx; exact h.topo u hu ((hD u).1 du) x hx
  · show S.vis + 1 = cntV (upd S.idx w (S.vis + 1)) n
    rw [cntV_upd S.idx n w _ hw h0 (by omega), ← h.visC]
  · have := h.cntLe
    show S.cnt + (w :: S.stk).length ≤ S.vis + 1
    simp; omega
  · have := h.calLe
    show ((w, 0) :: calls1).length ≤ S.vis + 1
    simp; omega

/-- The first visit of a tree. -/
theorem Inv.visitRoot {n : Nat} {adj : Nat → List Nat} {S : TS} (h : Inv n adj S) (hc : S.calls = []) (_hs : S.stk = []) {w : Nat} (hw : w < n) (h0 : S.idx w = 0) : Inv n adj (S.visit w []) := by
  refine h.visitCore hw h0 (by rw [hc]) (by simp) (by rw [hc]; simp) List.Pairwise.nil (by simp) (by simp) ?_
  intro y z _ hp
  exact .inl ⟨hp.1, fun nx hnx => by rw [hc] at hnx; simp at hnx⟩

theorem take_succ_mem {l : List Nat} {k z : Nat} (h : k < l.length) (hz : z ∈ l.take (k + 1)) : z ∈ l.take k ∨ z = l.getD k 0 := by
  rw [List.take_succ_eq_append_getElem h, List.mem_append] at hz
  rcases hz with hz | hz
  · exact .inl hz
  · exact .inr (by rw [List.mem_singleton.1 hz]; simp [List.getD, h])

/-- The top frame's edge leads to a node that has not been visited. -/
theorem Inv.visitChild {n : Nat} {adj : Nat → List Nat} {S : TS} (h : Inv n adj S) {v nx : Nat} {cs : List (Nat × Nat)} (hc : S.calls = (v, nx) :: cs) (hlt : nx < (adj v).length) {w : Nat} (hwe : (adj v).getD nx 0 = w) (hw : w < n) (h0 : S.idx w = 0) :
    Inv n adj (S.visit w ((v, nx + 1) :: cs)) := by
  have hwm : w ∈ adj v := by rw [← hwe]; simp [List.getD, hlt]
  have hord := h.grayOrd
  rw [hc, List.pairwise_cons] at hord
  have hvs : v ∈ S.stk := h.grayIn (v, nx) (by rw [hc]; simp)
  refine h.visitCore hw h0 (by rw [hc]; simp) ?_ ?_ ?_ ?_ ?_ ?_
  · intro f hf
    simp at hf
    rcases hf with rfl | hf
    · exact ⟨(v, nx), by rw [hc]; simp, rfl⟩
    · exact ⟨f, by rw [hc]; simp [hf], rfl⟩
  · intro g hg
    rw [hc] at hg
    simp at hg
    rcases hg with rfl | hg
    · exact ⟨(v, nx + 1), by simp, rfl⟩
    · exact ⟨g, by simp [hg], rfl⟩
  · rw [List.pairwise_cons]; exact hord
  · intro f hf
    simp at hf
    rcases hf with rfl | hf
    · exact hlt
    · exact h.nxLe f (by rw [hc]; simp [hf])
  · intro f hf
    simp at hf
    refine Reach.trans ?_ (Reach.edge hwm)
    rcases hf with rfl | hf
    · exact Reach.refl _ _
    · exact h.reachUp f (by rw [hc]; simp [hf]) v hvs (Nat.le_of_lt (hord.1 f hf))
  · intro y z hy hp
    by_cases hyv : y = v
    · subst hyv
      rcases take_succ_mem hlt (hp.2 (nx + 1) (by simp)) with hz | hz
      · refine .inl ⟨hp.1, fun m hm => ?_⟩
        rw [hc] at hm
        simp at hm
        rcases hm with rfl | hm
        · exact hz
        · exact absurd (hord.1 (y, m) hm) (by simp)
      · exact .inr (hz.trans hwe)
    · refine .inl ⟨hp.1, fun m hm => ?_⟩
      rw [hc] at hm
      simp [hyv] at hm
      exact hp.2 m (by simp [hm])

theorem meas_visitChild {n : Nat} {adj : Nat → List Nat} {S : TS} {v nx : Nat} {cs : List (Nat × Nat)} (hc : S.calls = (v, nx) :: cs) (hlt : nx < (adj v).length) {w : Nat} (hw : w < n) (h0 : S.idx w = 0) :
    meas n adj (S.visit w ((v, nx + 1) :: cs)) < meas n adj S := by
  have := wt_upd adj S.idx n w (S.vis + 1) hw h0 (by omega)
  unfold meas
  rw [hc]
  show wt adj (upd S.idx w (S.vis + 1)) n + _ < _
  simp only [TS.visit, wtC]
  omega

/-- The top frame has looked at one edge more; its low number is l. -/
def TS.step (S : TS) (v nx l : Nat) (cs : List (Nat × Nat)) : TS := { S with low := upd S.low v l, calls := (v, nx + 1) :: cs }

/-- The top frame's edge leads to a node that has been visited. -/
theorem Inv.edge {n : Nat} {adj : Nat → List Nat} {S : TS} (h : Inv n adj S) {v nx : Nat} {cs : List (Nat × Nat)} (hc : S.calls = (v, nx) :: cs) (hlt : nx < (adj v).length) {w l : Nat} (hwe : (adj v).getD nx 0 = w) (hw : w < n) (h0 : 0 < S.idx w)
    (hl : l ≤ S.low v) (hlw : S.on w = true → l ≤ S.idx w) (hlo : l = S.low v ∨ (S.on w = true ∧ l = S.idx w)) : Inv n adj (S.step v nx l cs) := by
  have hwm : w ∈ adj v := by rw [← hwe]; simp [List.getD, hlt]
  have hord := h.grayOrd
  rw [hc, List.pairwise_cons] at hord
  have htop : (v, nx) ∈ S.calls := by rw [hc]; simp
  have hvs : v ∈ S.stk := h.grayIn (v, nx) htop
  have hcsin : ∀ f ∈ cs, f ∈ S.calls := fun f hf => by rw [hc]; simp [hf]
  have hcsne : ∀ f ∈ cs, f.1 ≠ v := fun f hf e => by have := hord.1 f hf; rw [e] at this; exact absurd this (by simp)
  have hlv : (S.step v nx l cs).low v = l := upd_same _ _ _
  have hlo' : ∀ y, y ≠ v → (S.step v nx l cs).low y = S.low y := fun y hy => upd_other _ _ _ _ hy
  have hPe : ∀ y z, Pe adj (S.step v nx l cs) y z → Pe adj S y z ∨ (y = v ∧ z = w) := by
    intro y z hp
    by_cases hyv : y = v
    · subst hyv
      rcases take_succ_mem hlt (hp.2 (nx + 1) (by simp [TS.step])) with hz | hz
      · refine .inl ⟨hp.1, fun m hm => ?_⟩
        rw [hc] at hm
        simp at hm
        rcases hm with rfl | hm
        · exact hz
        · exact absurd rfl (hcsne _ hm)
      · exact .inr ⟨rfl, hz.trans hwe⟩
    · refine .inl ⟨hp.1, fun m hm => ?_⟩
      rw [hc] at hm
      simp [hyv] at hm
      exact hp.2 m (by simp [TS.step, hm])
  have hcal : ∀ f ∈ (S.step v nx l cs).calls, f = (v, nx + 1) ∨ f ∈ cs := fun f hf => by simpa [TS.step] using hf
  refine ⟨h.stkLt, h.stkOrd, h.onIff, h.idxLe, h.stkPos, h.doneC, h.doneE, ?_, ?_, ?_, ?_, ?_, ?_, ?_, ?_, h.sccD, h.dense, h.topo, h.visC, h.cntLe, ?_⟩
  · intro f hf
    rcases hcal f hf with rfl | hf
    · exact hvs
    · exact h.grayIn f (hcsin f hf)
  · show ((v, nx + 1) :: cs).Pairwise _
    rw [List.pairwise_cons]; exact hord
  · intro f hf y hy hle
    rcases hcal f hf with rfl | hf
    · exact h.reachUp (v, nx) htop y hy hle
    · exact h.reachUp f (hcsin f hf) y hy hle
  · intro y hy
    obtain ⟨f, hf, hle, hr⟩ := h.reachGray y hy
    rw [hc] at hf
    simp at hf
    rcases hf with rfl | hf
    · exact ⟨(v, nx + 1), by simp [TS.step], hle, hr⟩
    · exact ⟨f, by simp [TS.step, hf], hle, hr⟩
  · intro f hf
    rcases hcal f hf with rfl | hf
    · exact hlt
    · exact h.nxLe f (hcsin f hf)
  · intro f hf
    rcases hcal f hf with rfl | hf
    · obtain ⟨h1, z, hz, hzi, hzr⟩ := h.lowLe (v, nx) htop
      show (S.step v nx l cs).low v ≤ S.idx v ∧ ∃ z ∈ S.stk, S.idx z = (S.step v nx l cs).low v ∧ Reach adj v z
      rw [hlv]
      refine ⟨Nat.le_trans hl h1, ?_⟩
      rcases hlo with e | ⟨hon, e⟩
      · exact ⟨z, hz, hzi.trans e.symm, hzr⟩
      · exact ⟨w, (h.onIff w hw).1 hon, e.symm, Reach.edge hwm⟩
    · rw [hlo' _ (hcsne f hf)]
      exact h.lowLe f (hcsin f hf)
  · intro f hf y hy hle hcond z hp hon
    rcases hcal f hf with rfl | hf
    · show (S.step v nx l cs).low v ≤ S.idx z
      rw [hlv]
      rcases hPe y z hp with hp | ⟨rfl, rfl⟩
      · refine Nat.le_trans hl (h.lowEdge (v, nx) htop y hy hle (fun g hg hlt' => ?_) z hp hon)
        rw [hc] at hg
        simp at hg
        rcases hg with rfl | hg
        · exact absurd hlt' (by simp)
        · exact hcond g (by simp [TS.step, hg]) hlt'
      · exact hlw hon
    · rw [hlo' _ (hcsne f hf)]
      have hyv : S.idx y < S.idx v := hcond (v, nx + 1) (by simp [TS.step]) (hord.1 f hf)
      rcases hPe y z hp with hp | ⟨rfl, _⟩
      · refine h.lowEdge f (hcsin f hf) y hy hle (fun g hg hlt' => ?_) z hp hon
        rw [hc] at hg
        simp at hg
        rcases hg with rfl | hg
        · exact hyv
        · exact hcond g (by simp [TS.step, hg]) hlt'
      · exact absurd hyv (Nat.lt_irrefl _)
  · intro y hy z hp
    rcases hPe y z hp with hp | ⟨_, rfl⟩
    · exact h.seenE y hy z hp
    · exact h0
  · have := h.calLe
    rw [hc] at this
    simpa [TS.step] using this

theorem meas_edge {n : Nat} {adj : Nat → List Nat} {S : TS} {v nx l : Nat} {cs : List (Nat × Nat)} (hc : S.calls = (v, nx) :: cs) (hlt : nx < (adj v).length) : meas n adj (S.step v nx l cs) < meas n adj S := by
  unfold meas
  rw [hc]
  simp only [TS.step, wtC]
  omega

/-- The top frame is done; its node stays on the stack; its low number goes up to its parent. -/
def TS.back (S : TS) (v p np : Nat) (cs : List (Nat × Nat)) : TS := { S with low := upd S.low p (min (S.low p) (S.low v)), calls := (p, np) :: cs }

theorem Inv.back {n : Nat} {adj : Nat → List Nat} {S : TS} (h : Inv n adj S) {v nx p np : Nat} {cs : List (Nat × Nat)} (hc : S.calls = (v, nx) :: (p, np) :: cs) (hnx : ¬ nx < (adj v).length) (hlow : S.low v ≠ S.idx v) :
    Inv n adj (S.back v p np cs) := by
  have hord := h.grayOrd
  rw [hc, List.pairwise_cons] at hord
  obtain ⟨hordv, hordp⟩ := hord
  have hordp' := hordp
  rw [List.pairwise_cons] at hordp
  have htop : (v, nx) ∈ S.calls := by rw [hc]; simp
  have hpin : (p, np) ∈ S.calls := by rw [hc]; simp
  have hvs : v ∈ S.stk := h.grayIn (v, nx) htop
  have hrest : ∀ f ∈ (p, np) :: cs, f ∈ S.calls := fun f hf => by rw [hc]; exact List.mem_cons_of_mem _ hf
  have hpv : S.idx p < S.idx v := hordv (p, np) (by simp)
  have hrne : ∀ f ∈ (p, np) :: cs, f.1 ≠ v := fun f hf e => by have := hordv f hf; rw [e] at this; exact absurd this (by simp)
  have hcsne : ∀ f ∈ cs, f.1 ≠ p := fun f hf e => by have := hordp.1 f hf; rw [e] at this; exact absurd this (by simp)
  have hlp : (S.back v p np cs).low p = min (S.low p) (S.low v) := upd_same _ _ _
  have hlo : ∀ y, y ≠ p → (S.back v p np cs).low y = S.low y := fun y hy => upd_other _ _ _ _ hy
  have hlv : S.low v < S.idx v := by have := (h.lowLe (v, nx) htop).1; simp only at this; omega
  have hnx' : (adj v).length ≤ nx := by omega
  have hPe : ∀ y z, Pe adj (S.back v p np cs) y z → Pe adj S y z := by
    intro y z hp
    refine ⟨hp.1, fun m hm => ?_⟩
    rw [hc] at hm
    rcases List.mem_cons.1 hm with e | hm
    · have e1 : y = v := congrArg Prod.fst e
      have e2 : m = nx := congrArg Prod.snd e
      subst e1; subst e2
      rw [List.take_of_length_le hnx']; exact hp.1
    · exact hp.2 m hm
  refine ⟨h.stkLt, h.stkOrd, h.onIff, h.idxLe, h.stkPos, h.doneC, h.doneE, ?_, ?_, ?_, ?_, ?_, ?_, ?_, ?_, h.sccD, h.dense, h.topo, h.visC, h.cntLe, ?_⟩
  · intro f hf; exact h.grayIn f (hrest f hf)
  · exact hordp'
  · intro f hf; exact h.reachUp f (hrest f hf)
  · intro y hy
    obtain ⟨f, hf, hle, hr⟩ := h.reachGray y hy
    rw [hc] at hf
    rcases List.mem_cons.1 hf with rfl | hf
    · obtain ⟨_, z, hz, hzi, hzr⟩ := h.lowLe (v, nx) htop
      obtain ⟨f', hf', hle', hr'⟩ := h.reachGray z hz
      simp only at hzi hzr hle hr
      rw [hc] at hf'
      rcases List.mem_cons.1 hf' with rfl | hf'
      · simp only at hle'; omega
      · exact ⟨f', hf', by show S.idx f'.1 ≤ S.idx y; omega, (hr.trans hzr).trans hr'⟩
    · exact ⟨f, hf, hle, hr⟩
  · intro f hf; exact h.nxLe f (hrest f hf)
  · intro f hf
    rcases List.mem_cons.1 hf with rfl | hf
    · show (S.back v p np cs).low p ≤ S.idx p ∧ ∃ z ∈ S.stk, S.idx z = (S.back v p np cs).low p ∧ Reach adj p z
      rw [hlp]
      obtain ⟨h1, z1, hz1, hzi1, hzr1⟩ := h.lowLe (p, np) hpin
      obtain ⟨h2, z2, hz2, hzi2, hzr2⟩ := h.lowLe (v, nx) htop
      simp only at h1 hzi1 hzr1 h2 hzi2 hzr2
      refine ⟨by omega, ?_⟩
      by_cases hm : S.low p ≤ S.low v
      · exact ⟨z1, hz1, by omega, hzr1⟩
      · exact ⟨z2, hz2, by omega, (h.reachUp (p, np) hpin v hvs (by simp only; omega)).trans hzr2⟩
    · rw [hlo _ (hcsne f hf)]
      exact h.lowLe f (hrest f (List.mem_cons_of_mem _ hf))
  · intro f hf y hy hle hcond z hp hon
    have hp := hPe y z hp
    rcases List.mem_cons.1 hf with rfl | hf
    · show (S.back v p np cs).low p ≤ S.idx z
      rw [hlp]
      by_cases hyv : S.idx y < S.idx v
      · have := h.lowEdge (p, np) hpin y hy hle (fun g hg hlt' => ?_) z hp hon
        · simp only at this; omega
        · rw [hc] at hg
          rcases List.mem_cons.1 hg with rfl | hg
          · exact hyv
          · exact hcond g hg hlt'
      · have := h.lowEdge (v, nx) htop y hy (by simp only; omega) (fun g hg hlt' => ?_) z hp hon
        · simp only at this; omega
        · rw [hc] at hg
          rcases List.mem_cons.1 hg with rfl | hg
          · exact absurd hlt' (by simp)
          · have h1 : S.idx g.1 < S.idx v := hordv g hg
            have h2 : S.idx v < S.idx g.1 := hlt'
            omega
    · rw [hlo _ (hcsne f hf)]
      have hyp : S.idx y < S.idx p := hcond (p, np) (by simp [TS.back]) (hordp.1 f hf)
      refine h.lowEdge f (hrest f (List.mem_cons_of_mem _ hf)) y hy hle (fun g hg hlt' => ?_) z hp hon
      rw [hc] at hg
      rcases List.mem_cons.1 hg with rfl | hg
      · simp only; omega
      · exact hcond g hg hlt'
  · intro y hy z hp; exact h.seenE y hy z (hPe y z hp)
  · have := h.calLe
    rw [hc] at this
    show ((p, np) :: cs).length ≤ S.vis
    simp at this ⊢; omega

theorem meas_back {n : Nat} {adj : Nat → List Nat} {S : TS} {v nx p np : Nat} {cs : List (Nat × Nat)} (hc : S.calls = (v, nx) :: (p, np) :: cs) : meas n adj (S.back v p np cs) < meas n adj S := by
  unfold meas
  rw [hc]
  simp only [TS.back, wtC]
  omega

/-- A component is popped: 'C' are the nodes from the top down to v. -/
def clr (C : List Nat) (f : Nat → Bool) : Nat → Bool := fun x => if x ∈ C then false else f x
def put (C : List Nat) (c : Nat) (f : Nat → Nat) : Nat → Nat := fun x => if x ∈ C then c else f x
def TS.pop (S : TS) (C rest : List Nat) (cs : List (Nat × Nat)) : TS := { S with on := clr C S.on, comp := put C S.cnt S.comp, stk := rest, calls := cs, cnt := S.cnt + 1 }

theorem Inv.pop {n : Nat} {adj : Nat → List Nat} {S : TS} (h : Inv n adj S) (hadj : ∀ v, v < n → ∀ x ∈ adj v, x < n) {v nx : Nat} {cs : List (Nat × Nat)} (hc : S.calls = (v, nx) :: cs) (hnx : ¬ nx < (adj v).length) (hlow : S.low v = S.idx v)
    {pre rest : List Nat} (hs : S.stk = pre ++ v :: rest) : Inv n adj (S.pop (pre ++ [v]) rest cs) := by
  have hord := h.grayOrd
  rw [hc, List.pairwise_cons] at hord
  have htop : (v, nx) ∈ S.calls := by rw [hc]; simp
  have hvs : v ∈ S.stk := h.grayIn (v, nx) htop
  have hvn : v < n := h.stkLt v hvs
  have hcsin : ∀ f ∈ cs, f ∈ S.calls := fun f hf => by rw [hc]; simp [hf]
  have hnx' : (adj v).length ≤ nx := by omega
  have hso := h.stkOrd
  rw [hs, List.pairwise_append, List.pairwise_cons] at hso
  obtain ⟨ho1, ⟨ho2, ho3⟩, ho4⟩ := hso
  have hrl : ∀ x ∈ rest, S.idx x < S.idx v := ho2
  have hpg : ∀ x ∈ pre, S.idx v < S.idx x := fun x hx => ho4 x hx v (by simp)
  have hCs : ∀ x, x ∈ pre ++ [v] → x ∈ S.stk := fun x hx => by rw [hs]; simp at hx ⊢; rcases hx with hx | hx <;> simp [hx]
  have hRs : ∀ x, x ∈ rest → x ∈ S.stk := fun x hx => by rw [hs]; simp [hx]
  have hCge : ∀ x, x ∈ pre ++ [v] → S.idx v ≤ S.idx x := fun x hx => by
    simp at hx
    rcases hx with hx | rfl
    · exact Nat.le_of_lt (hpg x hx)
    · exact Nat.le_refl _
  have hsplit : ∀ x ∈ S.stk, x ∈ pre ++ [v] ∨ x ∈ rest := fun x hx => by
    rw [hs] at hx; simp at hx ⊢
    rcases hx with hx | hx | hx
    · exact .inl (.inl hx)
    · exact .inl (.inr hx)
    · exact .inr hx
  have hCi : ∀ x ∈ S.stk, S.idx v ≤ S.idx x → x ∈ pre ++ [v] := fun x hx hle => by
    rcases hsplit x hx with hx | hx
    · exact hx
    · have := hrl x hx; omega
  have hRn : ∀ x ∈ rest, x ∉ pre ++ [v] := fun x hx hm => by have := hrl x hx; have := hCge x hm; omega
  have hDn : ∀ x, x < n → Done S x → x ∉ pre ++ [v] := fun x hx hd hm => by
    have := (h.onIff x hx).2 (hCs x hm); rw [hd.2] at this; cases this
  have hvC : v ∈ pre ++ [v] := by simp
  -- the edges of the component stay inside it or lead to what is done
  have hcl : ∀ y ∈ pre ++ [v], ∀ z ∈ adj y, z ∈ pre ++ [v] ∨ Done S z := by
    intro y hy z hz
    have hyn := h.stkLt y (hCs y hy)
    have hp : Pe adj S y z := by
      refine ⟨hz, fun m hm => ?_⟩
      rw [hc] at hm
      rcases List.mem_cons.1 hm with e | hm
      · have e1 : y = v := congrArg Prod.fst e
        have e2 : m = nx := congrArg Prod.snd e
        subst e1; subst e2
        rw [List.take_of_length_le hnx']; exact hz
      · have := hord.1 (y, m) hm; have := hCge y hy; simp only at *; omega
    have hpos := h.seenE y (hCs y hy) z hp
    cases hon : S.on z with
    | true =>
      have := h.lowEdge (v, nx) htop y (hCs y hy) (hCge y hy) (fun g hg hlt' => ?_) z hp hon
      · simp only at this
        rw [hlow] at this
        exact .inl (hCi z ((h.onIff z (hadj y hyn z hz)).1 hon) this)
      · rw [hc] at hg
        rcases List.mem_cons.1 hg with rfl | hg
        · exact absurd hlt' (by simp)
        · have h1 : S.idx g.1 < S.idx v := hord.1 g hg
          have h2 : S.idx v < S.idx g.1 := hlt'
          omega
    | false => exact .inr ⟨hpos, hon⟩
  -- what is reached from the component
  have hclosed : ∀ x, ((x < n) ∧ (x ∈ pre ++ [v] ∨ Done S x)) → ∀ y ∈ adj x, (y < n) ∧ (y ∈ pre ++ [v] ∨ Done S y) := by
    rintro x ⟨hxn, hx | hx⟩ y hy
    · exact ⟨hadj x hxn y hy, hcl x hx y hy⟩
    · exact ⟨hadj x hxn y hy, .inr (h.doneE x hxn hx y hy)⟩
  have hdclosed : ∀ x, (x < n ∧ Done S x) → ∀ y ∈ adj x, y < n ∧ Done S y := fun x hx y hy => ⟨hadj x hx.1 y hy, h.doneE x hx.1 hx.2 y hy⟩
  have hfrom : ∀ x ∈ pre ++ [v], Reach adj v x := fun x hx => h.reachUp (v, nx) htop x (hCs x hx) (hCge x hx)
  have hto : ∀ x ∈ pre ++ [v], Reach adj x v := by
    intro x hx
    obtain ⟨f, hf, hle, hr⟩ := h.reachGray x (hCs x hx)
    have hk := (hr.closed hclosed ⟨h.stkLt x (hCs x hx), .inl hx⟩).2
    have hfs := h.grayIn f hf
    rcases hk with hk | hk
    · rw [hc] at hf
      rcases List.mem_cons.1 hf with rfl | hf
      · exact hr
      · have := hord.1 f hf; have := hCge _ hk; simp only at *; omega
    · exact absurd hk.2 (by rw [(h.onIff _ (h.stkLt _ hfs)).2 hfs]; simp)
  -- what is done in the new state
  have hon : ∀ x, (S.pop (pre ++ [v]) rest cs).on x = if x ∈ pre ++ [v] then false else S.on x := fun _ => rfl
  have hcmC : ∀ x, x ∈ pre ++ [v] → (S.pop (pre ++ [v]) rest cs).comp x = S.cnt := fun x hx => if_pos hx
  have hcmN : ∀ x, x ∉ pre ++ [v] → (S.pop (pre ++ [v]) rest cs).comp x = S.comp x := fun x hx => if_neg hx
  have hD1 : ∀ x, Done (S.pop (pre ++ [v]) rest cs) x → x ∈ pre ++ [v] ∨ Done S x := by
    intro x hd
    by_cases hx : x ∈ pre ++ [v]
    · exact .inl hx
    · refine .inr ⟨hd.1, ?_⟩
      have := hd.2
      rw [hon, if_neg hx] at this
      exact this
  have hD2 : ∀ x, x ∈ pre ++ [v] ∨ Done S x → Done (S.pop (pre ++ [v]) rest cs) x := by
    rintro x (hx | hx)
    · exact ⟨h.stkPos x (hCs x hx), by rw [hon, if_pos hx]⟩
    · refine ⟨hx.1, ?_⟩
      rw [hon]
      split
      · rfl
      · exact hx.2
  have hdn : ∀ x, x < n → Done S x → S.comp x < S.cnt ∧ (S.pop (pre ++ [v]) rest cs).comp x = S.comp x := fun x hx hd => ⟨h.doneC x hx hd, hcmN x (hDn x hx hd)⟩
  have hPe : ∀ y z, y ∈ rest → Pe adj (S.pop (pre ++ [v]) rest cs) y z → Pe adj S y z := by
    intro y z hy hp
    refine ⟨hp.1, fun m hm => ?_⟩
    rw [hc] at hm
    rcases List.mem_cons.1 hm with e | hm
    · have e1 : y = v := congrArg Prod.fst e
      have := hrl y hy; rw [e1] at this; exact absurd this (Nat.lt_irrefl _)
    · exact hp.2 m hm
  have hcsr : ∀ f ∈ cs, f.1 ∈ rest := fun f hf => by
    rcases hsplit _ (h.grayIn f (hcsin f hf)) with hx | hx
    · have := hCge _ hx; have := hord.1 f hf; simp only at *; omega
    · exact hx
  refine ⟨?_, ?_, ?_, h.idxLe, ?_, ?_, ?_, hcsr, ?_, ?_, ?_, ?_, ?_, ?_, ?_, ?_, ?_, ?_, h.visC, ?_, ?_⟩
  · intro x hx; exact h.stkLt x (hRs x hx)
  · exact ho3
  · intro x hx
    rw [hon]
    by_cases hm : x ∈ pre ++ [v]
    · rw [if_pos hm]
      exact ⟨fun e => (by cases e), fun hr => absurd hm (hRn x hr)⟩
    · rw [if_neg hm, h.onIff x hx]
      exact ⟨fun hx => (hsplit x hx).resolve_left hm, hRs x⟩
  · intro x hx; exact h.stkPos x (hRs x hx)
  · intro x hx hd
    show _ < S.cnt + 1
    rcases hD1 x hd with hm | hd
    · rw [hcmC x hm]; omega
    · have := hdn x hx hd; rw [this.2]; omega
  · intro x hx hd y hy
    rcases hD1 x hd with hm | hd
    · exact hD2 y (hcl x hm y hy)
    · exact hD2 y (.inr (h.doneE x hx hd y hy))
  · exact hord.2
  · intro f hf y hy; exact h.reachUp f (hcsin f hf) y (hRs y hy)
  · intro y hy
    obtain ⟨f, hf, hle, hr⟩ := h.reachGray y (hRs y hy)
    rw [hc] at hf
    rcases List.mem_cons.1 hf with rfl | hf
    · have := hrl y hy; simp only at hle; omega
    · exact ⟨f, hf, hle, hr⟩
  · intro f hf; exact h.nxLe f (hcsin f hf)
  · intro f hf
    obtain ⟨h1, z, hz, hzi, hzr⟩ := h.lowLe f (hcsin f hf)
    refine ⟨h1, z, ?_, hzi, hzr⟩
    rcases hsplit z hz with hx | hx
    · have := hCge _ hx; have := hord.1 f hf; simp only at *; omega
    · exact hx
  · intro f hf y hy hle hcond z hp hon'
    refine h.lowEdge f (hcsin f hf) y (hRs y hy) hle (fun g hg hlt' => ?_) z (hPe y z hy hp) ?_
    · rw [hc] at hg
      rcases List.mem_cons.1 hg with rfl | hg
      · exact hrl y hy
      · exact hcond g hg hlt'
    · rw [hon] at hon'
      split at hon'
      · cases hon'
      · exact hon'
  · intro y hy z hp; exact h.seenE y (hRs y hy) z (hPe y z hy hp)
  · intro a b ha hb da db
    rcases hD1 a da with ma | da <;> rcases hD1 b db with mb | db
    · rw [hcmC a ma, hcmC b mb]
      exact ⟨fun _ => ⟨(hto a ma).trans (hfrom b mb), (hto b mb).trans (hfrom a ma)⟩, fun _ => rfl⟩
    · have := hdn b hb db
      rw [hcmC a ma, this.2]
      refine ⟨fun e => by omega, fun hr => ?_⟩
      have := (hr.2.closed hdclosed ⟨hb, db⟩)
      exact absurd ma (hDn a ha this.2)
    · have := hdn a ha da
      rw [hcmC b mb, this.2]
      refine ⟨fun e => by omega, fun hr => ?_⟩
      have := (hr.1.closed hdclosed ⟨ha, da⟩)
      exact absurd mb (hDn b hb this.2)
    · rw [(hdn a ha da).2, (hdn b hb db).2]
      exact h.sccD a b ha hb da db
  · intro c hcc
    by_cases e : c = S.cnt
    · subst e
      exact ⟨v, hvn, hD2 v (.inl hvC), hcmC v hvC⟩
    · obtain ⟨x, hx, hd, ex⟩ := h.dense c (by have : c < S.cnt + 1 := hcc; omega)
      exact ⟨x, hx, hD2 x (.inr hd), by rw [(hdn x hx hd).2]; exact ex⟩
  · intro a ha da x hx
    rcases hD1 a da with ma | da
    · rw [hcmC a ma]
      rcases hcl a ma x hx with mx | dx
      · rw [hcmC x mx]; exact Nat.le_refl _
      · have := hdn x (hadj a ha x hx) dx; rw [this.2]; omega
    · have dx := h.doneE a ha da x hx
      rw [(hdn a ha da).2, (hdn x (hadj a ha x hx) dx).2]
      exact h.topo a ha da x hx
  · have := h.cntLe
    rw [hs] at this
    show S.cnt + 1 + rest.length ≤ S.vis
    simp at this; omega
  · have := h.calLe
    rw [hc] at this
    show cs.length ≤ S.vis
    simp at this; omega

theorem meas_pop {n : Nat} {adj : Nat → List Nat} {S : TS} {v nx : Nat} {cs : List (Nat × Nat)} (hc : S.calls = (v, nx) :: cs) (C rest : List Nat) : meas n adj (S.pop C rest cs) < meas n adj S := by
  unfold meas
  rw [hc]
  simp only [TS.pop, wtC]
  omega

/-- The last frame's low number is its own index. -/
theorem Inv.last {n : Nat} {adj : Nat → List Nat} {S : TS} (h : Inv n adj S) {v nx : Nat} (hc : S.calls = [(v, nx)]) : S.low v = S.idx v := by
  have htop : (v, nx) ∈ S.calls := by rw [hc]; simp
  obtain ⟨h1, z, hz, hzi, _⟩ := h.lowLe (v, nx) htop
  obtain ⟨f, hf, hle, _⟩ := h.reachGray z hz
  rw [hc] at hf
  simp at hf
  subst hf
  simp only at h1 hzi hle
  omega

/-- Where the calls are done the stack is empty. -/
theorem Inv.empty {n : Nat} {adj : Nat → List Nat} {S : TS} (h : Inv n adj S) (hc : S.calls = []) : S.stk = [] := by
  cases hs : S.stk with
  | nil => rfl
  | cons y r =>
    obtain ⟨f, hf, _⟩ := h.reachGray y (by rw [hs]; simp)
    rw [hc] at hf; simp at hf

/-- Of a frame with a parent: the low number at the parent does not turn where the component is popped. -/
theorem Inv.popLow {n : Nat} {adj : Nat → List Nat} {S : TS} (h : Inv n adj S) {v nx p np : Nat} {cs : List (Nat × Nat)} (hc : S.calls = (v, nx) :: (p, np) :: cs) (hlow : S.low v = S.idx v) : min (S.low p) (S.low v) = S.low p := by
  have hord := h.grayOrd
  rw [hc, List.pairwise_cons] at hord
  have := hord.1 (p, np) (by simp)
  have := (h.lowLe (p, np) (by rw [hc]; simp)).1
  simp only at *
  omega
theorem upd_id {α : Type} (f : Nat → α) (i : Nat) (v : α) (h : v = f i) : upd f i v = f := by
  funext j
  unfold upd
  split
  · rename_i e; rw [e, h]
  · rfl

/-- WHAT THE ALGORITHM ANSWERS. -/
structure SccSpec (n : Nat) (adj : Nat → List Nat) (comp : Nat → Nat) (k : Nat) : Prop where
  lt : ∀ v, v < n → comp v < k
  scc : ∀ u v, u < n → v < n → (comp u = comp v ↔ Reach adj u v ∧ Reach adj v u)
  dense : ∀ c, c < k → ∃ v, v < n ∧ comp v = c
  topo : ∀ u, u < n → ∀ x ∈ adj u, comp x ≤ comp u
  le : k ≤ n

theorem Inv.finish {n : Nat} {adj : Nat → List Nat} {S : TS} (h : Inv n adj S) (hc : S.calls = []) (hall : ∀ v, v < n → 0 < S.idx v) : SccSpec n adj S.comp S.cnt := by
  have hs := h.empty hc
  have hd : ∀ v, v < n → Done S v := by
    intro v hv
    refine ⟨hall v hv, ?_⟩
    cases ho : S.on v with
    | false => rfl
    | true => have := (h.onIff v hv).1 ho; rw [hs] at this; simp at this
  refine ⟨fun v hv => h.doneC v hv (hd v hv), fun u v hu hv => h.sccD u v hu hv (hd u hu) (hd v hv), fun c hcc => ?_, fun u hu => h.topo u hu (hd u hu), ?_⟩
  · obtain ⟨v, hv, _, e⟩ := h.dense c hcc
    exact ⟨v, hv, e⟩
  · have := h.cntLe; have := h.visLe; omega

end Go.Proofs.Qxb6603123a
