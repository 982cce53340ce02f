import PyProof.Rows.All
import Wide.All
import OpenK.AllK
import Wide.FinOn
import Lean
import PySem.Challenge.RW_kl0336_01
open PySem PySem.W PyProof.Rows PySem.Calls
set_option Elab.async false
set_option maxRecDepth 100000
set_option linter.all false
set_option maxHeartbeats 4000000
set_option compiler.extract_closed false
namespace Mine

/-! the plain law: an abacus -/

/-- beads of the same column above p -/
noncomputable def fel (W : Int) (L : List Int) (p : Int) : Nat := L.countP (fun q => decide (q < p) && decide ((p - q) % W = 0))
noncomputable def ends (W : Int) (L : List Int) : List Int := L.map fun p => (fel W L p : Int) * W + p % W
noncomputable def due (W : Int) (L : List Int) : Int := (L.map fun p => p / W - (fel W L p : Int)).sum
noncomputable def invs : List Int → Nat
  | [] => 0
  | a :: r => r.countP (fun x => decide (x < a)) + invs r
noncomputable def Srt (L : List Int) : Prop := L.Pairwise (· < ·)
noncomputable def InBox (L : List Int) : Prop := ∀ x ∈ L, 0 ≤ x ∧ x < 12

theorem Srt.nodup {L : List Int} (h : Srt L) : L.Nodup := List.Pairwise.imp (fun h => by omega) h

/-! parity -/
theorem invs_perm_head (a : Int) {r r' : List Int} (h : r.Perm r') : r.countP (fun x => decide (x < a)) = r'.countP (fun x => decide (x < a)) := h.countP_eq _
theorem invs_swap (e m : Int) (hne : e ≠ m) : ∀ (A R : List Int), (invs (A ++ e :: m :: R) + 1) % 2 = invs (A ++ m :: e :: R) % 2
  | [], R => by
    simp only [List.nil_append, invs, List.countP_cons]
    by_cases h : m < e
    · have h' : ¬ e < m := by omega
      simp [h, h']; omega
    · have h' : e < m := by omega
      simp [h, h']; omega
  | a :: A, R => by
    have ih := invs_swap e m hne A R
    have hp : (A ++ e :: m :: R).Perm (A ++ m :: e :: R) := List.Perm.append_left A (List.Perm.swap m e R)
    simp only [List.cons_append, invs, invs_perm_head a hp]
    omega
theorem invs_move (e : Int) : ∀ (M A R : List Int), e ∉ M → (invs (A ++ e :: (M ++ R)) + M.length) % 2 = invs (A ++ M ++ e :: R) % 2
  | [], A, R, _ => by simp
  | m :: M, A, R, h => by
    have hne : e ≠ m := fun q => h (by rw [q]; exact List.mem_cons_self)
    have h1 := invs_swap e m hne A (M ++ R)
    have h2 := invs_move e M (A ++ [m]) R (fun q => h (List.mem_cons_of_mem _ q))
    simp only [List.append_assoc, List.cons_append, List.nil_append, List.length_cons] at h1 h2 ⊢
    omega
theorem invs_sorted : ∀ {L : List Int}, Srt L → invs L = 0
  | [], _ => rfl
  | a :: r, h => by
    obtain ⟨h1, h2⟩ := List.pairwise_cons.mp h
    have : r.countP (fun x => decide (x < a)) = 0 := by
      rw [List.countP_eq_zero]
      intro x hx
      have := h1 x hx
      simp; omega
    simp [invs, this, invs_sorted h2]

/-! fel -/
theorem fel_perm {W : Int} {L L' : List Int} (h : L.Perm L') (p : Int) : fel W L p = fel W L' p := h.countP_eq _
theorem fel_append (W : Int) (A B : List Int) (p : Int) : fel W (A ++ B) p = fel W A p + fel W B p := List.countP_append
theorem fel_cons (W : Int) (a : Int) (B : List Int) (p : Int) : fel W (a :: B) p = fel W B p + (if a < p ∧ (p - a) % W = 0 then 1 else 0) := by
  unfold fel; rw [List.countP_cons]; congr 1; simp

theorem fel_zero {W : Int} (hW : 0 < W) {L : List Int} {p : Int} (h0 : ∀ x ∈ L, 0 ≤ x) (hp : p < W) : fel W L p = 0 := by
  unfold fel; rw [List.countP_eq_zero]
  intro q hq
  have := h0 q hq
  simp only [Bool.and_eq_true, decide_eq_true_eq, not_and]
  intro h1 h2
  have := Int.emod_eq_of_lt (a := p - q) (b := W) (by omega) (by omega)
  omega

theorem sub_mod {W : Int} (p q : Int) : (p - W - q) % W = (p - q) % W := by
  rw [show p - W - q = p - q - W by omega, Int.sub_emod_right]

theorem fel_step {W : Int} (hW : 0 < W) (p : Int) : ∀ {L : List Int}, L.Nodup → fel W L p = fel W L (p - W) + (if p - W ∈ L then 1 else 0)
  | [], _ => by simp [fel]
  | a :: r, h => by
    obtain ⟨h1, h2⟩ := List.nodup_cons.mp h
    have ih := fel_step hW p h2
    rw [fel_cons, fel_cons, ih, sub_mod]
    by_cases e : p - W = a
    · subst e
      have hn : p - W ∉ r := h1
      have z : (p - (p - W)) % W = 0 := by rw [show p - (p - W) = W by omega]; exact Int.emod_self
      simp only [hn, z, List.mem_cons, true_or, if_true, if_false, and_true]
      have : p - W < p := by omega
      have q : ¬ (p - W < p - W) := by omega
      simp only [this, q, if_true, if_false]
    · have hm : (p - W ∈ a :: r) ↔ p - W ∈ r := by simp [e]
      simp only [hm]
      by_cases z : (p - a) % W = 0
      · have : (a < p) ↔ (a < p - W) := by
          constructor
          · intro hlt
            have := Int.emod_eq_of_lt (a := p - a) (b := W) (by omega)
            have : ¬ (p - a < W) := fun q => by have := this q; omega
            omega
          · intro; omega
        simp only [this]; omega
      · simp only [z, and_false, if_false]; omega

theorem fel_le {W : Int} (hW : 0 < W) {L : List Int} (hn : L.Nodup) (h0 : ∀ x ∈ L, 0 ≤ x) : ∀ (n : Nat) (p : Int), 0 ≤ p → p < n → (fel W L p : Int) ≤ p / W := by
  intro n
  induction n with
  | zero => intro p h1 h2; omega
  | succ n ih =>
    intro p h1 h2
    by_cases hp : p < W
    · rw [fel_zero hW h0 hp]
      have := Int.ediv_nonneg (a := p) (b := W) h1 (by omega)
      simpa using this
    · have hs := fel_step hW p hn
      have i := ih (p - W) (by omega) (by omega)
      have e : (p - W) / W = p / W - 1 := by
        rw [Int.sub_ediv_of_dvd _ (Int.dvd_refl W), Int.ediv_self (by omega)]
      rw [e] at i
      have : (if p - W ∈ L then 1 else 0) ≤ 1 := by split <;> omega
      omega

/-! no move is left -/
noncomputable def NoMoves (W : Int) (L : List Int) : Prop := ∀ b ∈ L, 0 ≤ b - W → b - W ∈ L

theorem fel_full {W : Int} (hW : 0 < W) {L : List Int} (hn : L.Nodup) (h0 : ∀ x ∈ L, 0 ≤ x) (nm : NoMoves W L) : ∀ (n : Nat) (p : Int), p ∈ L → p < n → (fel W L p : Int) = p / W := by
  intro n
  induction n with
  | zero => intro p h1 h2; have := h0 p h1; omega
  | succ n ih =>
    intro p h1 h2
    have hp0 := h0 p h1
    by_cases hp : p < W
    · rw [fel_zero hW h0 hp, Int.ediv_eq_zero_of_lt hp0 hp]; rfl
    · have hm := nm p h1 (by omega)
      have hs := fel_step hW p hn
      have i := ih (p - W) hm (by omega)
      have e : (p - W) / W = p / W - 1 := by
        rw [Int.sub_ediv_of_dvd _ (Int.dvd_refl W), Int.ediv_self (by omega)]
      rw [e] at i
      rw [if_pos hm] at hs
      omega

theorem ends_of_noMoves {W : Int} (hW : 0 < W) {L : List Int} (hs : Srt L) (hb : InBox L) (nm : NoMoves W L) : ends W L = L := by
  have h : ∀ p ∈ L, (fel W L p : Int) * W + p % W = p := fun p hp => by
    rw [fel_full hW hs.nodup (fun x hx => (hb x hx).1) nm 12 p hp (by have := (hb p hp).2; omega)]
    have := Int.emod_add_mul_ediv p W
    rw [Int.mul_comm]; omega
  unfold ends
  exact (List.map_congr_left h).trans (List.map_id' L)

theorem due_of_noMoves {W : Int} (hW : 0 < W) {L : List Int} (hs : Srt L) (hb : InBox L) (nm : NoMoves W L) : due W L = 0 := by
  have h : ∀ p ∈ L, p / W - (fel W L p : Int) = 0 := fun p hp => by
    rw [fel_full hW hs.nodup (fun x hx => (hb x hx).1) nm 12 p hp (by have := (hb p hp).2; omega)]; omega
  unfold due
  rw [List.map_congr_left h]
  clear h nm hb hs
  induction L with
  | nil => rfl
  | cons a r ih => simpa using ih

/-! a move -/
structure Cut (W : Int) (L : List Int) (b : Int) (X M Y : List Int) : Prop where
  eq : L = X ++ (M ++ b :: Y)
  lo : ∀ x ∈ X, x < b - W
  mid : ∀ x ∈ M, b - W < x ∧ x < b
  hi : ∀ x ∈ Y, b < x

noncomputable def moved (X M Y : List Int) (g : Int) : List Int := X ++ g :: (M ++ Y)

theorem Cut.sorted {W : Int} {L : List Int} {b : Int} {X M Y : List Int} (hW : 0 < W) (c : Cut W L b X M Y) (hs : Srt L) : Srt (moved X M Y (b - W)) := by
  have hs' : Srt (X ++ (M ++ b :: Y)) := c.eq ▸ hs
  unfold Srt moved at *
  simp only [List.pairwise_append, List.pairwise_cons, List.mem_append, List.mem_cons] at hs' ⊢
  obtain ⟨h1, ⟨h2, ⟨h3, h4⟩, h5⟩, h6⟩ := hs'
  refine ⟨h1, ⟨fun a ha => ?_, h2, h4, fun a ha b' hb' => h5 a ha b' (.inr hb')⟩, fun a ha d hd => ?_⟩
  · rcases ha with ha | ha
    · exact (c.mid a ha).1
    · have := c.hi a ha; omega
  · rcases hd with rfl | hd | hd
    · exact c.lo a ha
    · exact h6 a ha d (.inl hd)
    · exact h6 a ha d (.inr (.inr hd))

theorem Cut.box {W : Int} {L : List Int} {b : Int} {X M Y : List Int} (hW : 0 < W) (c : Cut W L b X M Y) (hb : InBox L) (h0 : 0 ≤ b - W) : InBox (moved X M Y (b - W)) := by
  have hb' : InBox (X ++ (M ++ b :: Y)) := c.eq ▸ hb
  intro x hx
  simp only [moved, List.mem_append, List.mem_cons] at hx
  rcases hx with hx | rfl | hx | hx
  · exact hb' x (by simp [hx])
  · have := hb' b (by simp); omega
  · exact hb' x (by simp [hx])
  · exact hb' x (by simp [hx])

theorem emod_small {W a : Int} (h0 : 0 < a) (h1 : a < W) : a % W ≠ 0 := by
  rw [Int.emod_eq_of_lt (by omega) h1]; omega

/-- fel of any place but those between: the bead's new place counts for its old one -/
theorem Cut.fel {W : Int} {L : List Int} {b : Int} {X M Y : List Int} (hW : 0 < W) (c : Cut W L b X M Y) (p : Int) (hp : ¬ (b - W < p ∧ p ≤ b ∧ (p - b) % W = 0)) :
    fel W (moved X M Y (b - W)) p = fel W L p := by
  rw [c.eq]
  simp only [moved, fel_append, fel_cons]
  have z : (p - (b - W)) % W = (p - b) % W := by rw [show p - (b - W) = p - b + W by omega, Int.add_emod_right]
  rw [z]
  by_cases h : (p - b) % W = 0
  · have : (b - W < p) ↔ (b < p) := by
      constructor
      · intro q
        have : ¬ (p ≤ b) := fun r => hp ⟨q, r, h⟩
        omega
      · intro; omega
    simp only [this]; omega
  · simp only [h, and_false, if_false]; omega
theorem Cut.fel_goal {W : Int} {L : List Int} {b : Int} {X M Y : List Int} (hW : 0 < W) (c : Cut W L b X M Y) (hs : Srt L) (hg : b - W ∉ L) :
    Mine.fel W (moved X M Y (b - W)) (b - W) = Mine.fel W L b := by
  have h1 := fel_step hW b hs.nodup
  rw [if_neg hg] at h1
  rw [h1]
  exact (c.fel hW (b - W) (by omega)).symm ▸ rfl

theorem Cut.ends {W : Int} {L : List Int} {b : Int} {X M Y : List Int} (hW : 0 < W) (c : Cut W L b X M Y) (hs : Srt L) (hg : b - W ∉ L) :
    ∃ A B C e, Mine.ends W L = A ++ B ++ e :: C ∧ Mine.ends W (moved X M Y (b - W)) = A ++ e :: (B ++ C) ∧ e ∉ B ∧ B.length = M.length := by
  have hs' : Srt (X ++ (M ++ b :: Y)) := c.eq ▸ hs
  let f := fun p : Int => (Mine.fel W L p : Int) * W + p % W
  have hf : ∀ p, ¬ (b - W < p ∧ p ≤ b ∧ (p - b) % W = 0) → (Mine.fel W (moved X M Y (b - W)) p : Int) * W + p % W = f p := fun p hp => by rw [c.fel hW p hp]
  refine ⟨X.map f, M.map f, Y.map f, f b, ?_, ?_, ?_, by simp⟩
  · show L.map f = _
    rw [c.eq]; simp
  · unfold Mine.ends
    rw [show moved X M Y (b - W) = X ++ (b - W) :: (M ++ Y) from rfl]
    simp only [List.map_append, List.map_cons]
    congr 1
    · exact List.map_congr_left fun p hp => hf p (by have := c.lo p hp; omega)
    congr 1
    · rw [show X ++ (b - W) :: (M ++ Y) = moved X M Y (b - W) from rfl, c.fel_goal hW hs hg, Int.sub_emod_right]
    congr 1
    · refine List.map_congr_left fun p hp => hf p (fun q => ?_)
      have h := c.mid p hp
      have : (b - p) % W ≠ 0 := emod_small (by omega) (by omega)
      apply this
      have d := Int.dvd_of_emod_eq_zero q.2.2
      rw [show b - p = -(p - b) by omega]
      exact Int.emod_eq_zero_of_dvd ((Int.dvd_neg).mpr d)
    · exact List.map_congr_left fun p hp => hf p (by have := c.hi p hp; omega)
  · intro hm
    obtain ⟨p, hp, e⟩ := List.mem_map.mp hm
    have h := c.mid p hp
    have e1 : (f p) % W = p % W := by
      show ((Mine.fel W L p : Int) * W + p % W) % W = _
      rw [Int.add_comm, Int.add_mul_emod_self_right, Int.emod_emod_of_dvd _ (Int.dvd_refl W)]
    have e2 : (f b) % W = b % W := by
      show ((Mine.fel W L b : Int) * W + b % W) % W = _
      rw [Int.add_comm, Int.add_mul_emod_self_right, Int.emod_emod_of_dvd _ (Int.dvd_refl W)]
    have e3 : p % W = b % W := by rw [← e1, ← e2, e]
    have : (b - p) % W ≠ 0 := emod_small (by omega) (by omega)
    exact this (by rw [Int.sub_emod, e3]; simp)

theorem sum_sub_map (f g : Int → Int) : ∀ L : List Int, (L.map fun p => f p - g p).sum = (L.map f).sum - (L.map g).sum
  | [] => rfl
  | a :: r => by simp only [List.map_cons, List.sum_cons, sum_sub_map f g r]; omega
theorem due_eq (W : Int) (L : List Int) : due W L = (L.map fun p => p / W).sum - (L.map fun p => (fel W L p : Int)).sum := by
  exact sum_sub_map (fun p => p / W) (fun p => (fel W L p : Int)) L
theorem sum_perm {l l' : List Int} (h : l.Perm l') : l.sum = l'.sum := by
  induction h with
  | nil => rfl
  | cons x _ ih => simp [ih]
  | swap x y l => simp only [List.sum_cons]; omega
  | trans _ _ i j => exact i.trans j

/-- what the ends tell: the sum of the fels -/
theorem ends_div {W : Int} (hW : 0 < W) (L : List Int) : (L.map fun p => (fel W L p : Int)) = (ends W L).map (· / W) := by
  unfold ends
  rw [List.map_map]
  refine List.map_congr_left fun p _ => ?_
  show _ = ((fel W L p : Int) * W + p % W) / W
  rw [Int.add_comm, Int.add_mul_ediv_right _ _ (by omega), Int.ediv_eq_zero_of_lt (Int.emod_nonneg _ (by omega)) (Int.emod_lt_of_pos _ hW)]
  omega

structure Step (W : Int) (L L' : List Int) (legs : Nat) : Prop where
  sorted : Srt L'
  box : InBox L'
  ends : (ends W L').Perm (ends W L)
  due : due W L' = due W L - 1
  par : (invs (Mine.ends W L') + legs) % 2 = invs (Mine.ends W L) % 2

theorem Cut.step {W : Int} {L : List Int} {b : Int} {X M Y : List Int} (hW : 0 < W) (c : Cut W L b X M Y) (hs : Srt L) (hb : InBox L) (h0 : 0 ≤ b - W) (hg : b - W ∉ L) :
    Step W L (moved X M Y (b - W)) M.length := by
  obtain ⟨A, B, C, e, e1, e2, e3, e4⟩ := c.ends hW hs hg
  have hp : (Mine.ends W (moved X M Y (b - W))).Perm (Mine.ends W L) := by
    rw [e1, e2, List.append_assoc]
    refine List.Perm.append_left A ?_
    rw [← List.cons_append]
    exact (List.perm_middle (l₁ := B) (a := e) (l₂ := C)).symm
  refine ⟨c.sorted hW hs, c.box hW hb h0, hp, ?_, ?_⟩
  · rw [due_eq, due_eq, ends_div hW, ends_div hW, sum_perm (hp.map (· / W))]
    have : ((moved X M Y (b - W)).map fun p => p / W).sum = (L.map fun p => p / W).sum - 1 := by
      rw [c.eq]
      simp only [moved, List.map_append, List.map_cons, List.sum_append, List.sum_cons]
      have e : (b - W) / W = b / W - 1 := by rw [Int.sub_ediv_of_dvd _ (Int.dvd_refl W), Int.ediv_self (by omega)]
      rw [e]; omega
    rw [this]; omega
  · rw [e1, e2, ← e4]; exact invs_move e B A C e3

/-! a move, as the program makes it -/
theorem srt_split (g : Int) : ∀ {P : List Int}, Srt P → P = P.filter (fun x => decide (x < g)) ++ P.filter (fun x => !decide (x < g))
  | [], _ => rfl
  | a :: r, h => by
    obtain ⟨h1, h2⟩ := List.pairwise_cons.mp h
    have ih := srt_split g h2
    by_cases ha : a < g
    · simp only [List.filter_cons, ha, decide_true, if_true, Bool.not_true, Bool.false_eq_true, if_false, List.cons_append]
      exact congrArg (a :: ·) ih
    · have e : r.filter (fun x => decide (x < g)) = [] := by
        rw [List.filter_eq_nil_iff]; intro x hx; have := h1 x hx; simp; omega
      simp only [List.filter_cons, ha, decide_false, Bool.false_eq_true, if_false, Bool.not_false, if_true]
      rw [e] at ih ⊢
      simpa using ih
noncomputable def lows (ns : List Int) (x : Int) : Nat := ns.countP (fun a => decide (a < x))
theorem move_cut {W : Int} {ns : List Int} {k : Nat} {b : Int} (hW : 0 < W) (hs : Srt ns) (hb : ns[k]? = some b) (hg : b - W ∉ ns) :
    ∃ X M Y, Cut W ns b X M Y ∧ k = X.length + M.length ∧ lows ns (b - W) = X.length ∧ ns.eraseIdx k = X ++ (M ++ Y) ∧ lows (ns.eraseIdx k) (b - W) = X.length := by
  have hk : k < ns.length := (List.getElem?_eq_some_iff.mp hb).1
  have hbe : ns[k] = b := (List.getElem?_eq_some_iff.mp hb).2
  have e0 : ns = ns.take k ++ b :: ns.drop (k + 1) := by
    rw [← hbe, List.getElem_cons_drop, List.take_append_drop]
  have hs' : Srt (ns.take k ++ b :: ns.drop (k + 1)) := e0 ▸ hs
  obtain ⟨p1, p2, p3⟩ := List.pairwise_append.mp hs'
  obtain ⟨p4, p5⟩ := List.pairwise_cons.mp p2
  have hsp := srt_split (b - W) p1
  generalize hX : (ns.take k).filter (fun x => decide (x < b - W)) = X at hsp
  generalize hM : (ns.take k).filter (fun x => !decide (x < b - W)) = M at hsp
  have xlo : ∀ x ∈ X, x < b - W := fun x hx => by rw [← hX] at hx; simpa using (List.mem_filter.mp hx).2
  have mmem : ∀ x ∈ M, x ∈ ns.take k := fun x hx => by rw [← hM] at hx; exact (List.mem_filter.mp hx).1
  have mid : ∀ x ∈ M, b - W < x ∧ x < b := fun x hx => by
    have h1 : ¬ x < b - W := by rw [← hM] at hx; simpa using (List.mem_filter.mp hx).2
    have h2 : x ≠ b - W := fun e => hg (e ▸ List.mem_of_mem_take (mmem x hx))
    have h3 := p3 x (mmem x hx) b List.mem_cons_self
    exact ⟨by omega, h3⟩
  have ybig : ∀ y ∈ ns.drop (k + 1), b < y := p4
  have eL : ns = X ++ (M ++ b :: ns.drop (k + 1)) := by rw [← List.append_assoc, ← hsp]; exact e0
  have hlen : k = X.length + M.length := by
    have : (ns.take k).length = k := by rw [List.length_take]; omega
    rw [hsp, List.length_append] at this; omega
  have hlow : ∀ R : List Int, (∀ y ∈ R, ¬ y < b - W) → lows (X ++ (M ++ R)) (b - W) = X.length := fun R hR => by
    unfold lows
    rw [List.countP_append, List.countP_append, List.countP_eq_length.mpr (fun x hx => by simpa using xlo x hx), List.countP_eq_zero.mpr (fun x hx => by have := mid x hx; simp; omega),
      List.countP_eq_zero.mpr (fun x hx => by have := hR x hx; simp; omega)]; rfl
  have eE : ns.eraseIdx k = X ++ (M ++ ns.drop (k + 1)) := by
    rw [List.eraseIdx_eq_take_drop_succ, hsp, List.append_assoc]
  refine ⟨X, M, ns.drop (k + 1), ⟨eL, xlo, mid, ybig⟩, hlen, ?_, eE, ?_⟩
  · have := hlow (b :: ns.drop (k + 1)) fun y hy => by
      rcases List.mem_cons.mp hy with rfl | hy
      · omega
      · have := ybig y hy; omega
    rw [← eL] at this; exact this
  · rw [eE]; exact hlow _ fun y hy => by have := ybig y hy; omega

theorem sum_nonneg (f : Int → Int) : ∀ L : List Int, (∀ p ∈ L, 0 ≤ f p) → 0 ≤ (L.map f).sum
  | [], _ => by simp
  | a :: r, h => by
    have h1 := h a List.mem_cons_self
    have h2 := sum_nonneg f r fun p hp => h p (List.mem_cons_of_mem _ hp)
    simp only [List.map_cons, List.sum_cons]; omega
theorem due_nonneg {W : Int} (hW : 0 < W) {L : List Int} (hs : Srt L) (hb : InBox L) : 0 ≤ due W L := by
  have h : ∀ p ∈ L, 0 ≤ p / W - (fel W L p : Int) := fun p hp => by
    have := fel_le hW hs.nodup (fun x hx => (hb x hx).1) 12 p (hb p hp).1 (by have := (hb p hp).2; omega)
    omega
  exact sum_nonneg _ L h

noncomputable abbrev Vars := List (Str × Option Value)

/-- the state of a frame: own: the addresses that are the frame's; vars: its names; g: what stands for good; I: known objects beside g -/
structure Fs (s₀ : Shared) (env : Env) (own : List Addr) (vars : Vars) (g : Heap) (I : List (Addr × Obj)) (s : Shared) : Prop where
  gens : s.gens = s₀.gens
  drawn : s.drawn = s₀.drawn
  os : s.os = s₀.os
  kind : env.scope.kind = .function
  glob : env.globals = mainGlobals
  blt : env.builtins = builtinsNs
  ns : ∃ m, s.heap.Ns env.locals m ∧ (env.locals ∈ own ∨ g.Ns env.locals m) ∧ ∀ p ∈ vars, env.kindOf p.1 = some .local → m p.1 = p.2
  cell : ∀ p ∈ vars, env.kindOf p.1 = some .cell ∨ env.kindOf p.1 = some .free → ∃ c, env.cells.lookup p.1 = some c ∧ s.heap.IsCell c p.2 ∧ (c ∈ own ∨ g.IsCell c p.2)
  kinds : ∀ p ∈ vars, env.kindOf p.1 = some .local ∨ env.kindOf p.1 = some .cell ∨ env.kindOf p.1 = some .free
  plain : ∀ p ∈ vars, (p.1 == ("__debug__" : Str)) = false ∧ (p.1 == ("__classdict__" : Str)) = false
  nd : (vars.map (·.1)).Nodup
  keep : ∀ b o, g.get? b = some o → s.heap.get? b = some o
  off : ∀ a ∈ own, g.get? a = none
  exi : ∀ a ∈ own, ∃ o, s.heap.get? a = some o
  led : ∀ p ∈ I, s.heap.get? p.1 = some p.2 ∧ g.get? p.1 = none ∧ p.1 ∉ own
  ndI : (I.map (·.1)).Nodup

section
variable {s₀ s : Shared} {env : Env} {own : List Addr} {vars vars' : Vars} {g : Heap} {I I' : List (Addr × Obj)}

theorem Fs.toks (H : Fs s₀ env own vars g I s) (k : Nat) : Fs s₀ env own vars g I { s with toks := k } := { H with }

/-- the heap has grown; what there was stands -/
theorem Fs.grow (H : Fs s₀ env own vars g I s) {h' : Heap} (k : Nat) (hk : ∀ b o, s.heap.get? b = some o → h'.get? b = some o) : Fs s₀ env own vars g I { s with heap := h', toks := k } :=
  { H with
    ns := let ⟨m, a, b⟩ := H.ns; ⟨m, a.keeps hk, b⟩
    cell := fun p hp hx => let ⟨c, a, b, d⟩ := H.cell p hp hx; ⟨c, a, b.keeps hk, d⟩
    keep := fun b o e => hk b o (H.keep b o e)
    exi := fun a ha => let ⟨o, e⟩ := H.exi a ha; ⟨o, hk a o e⟩
    led := fun p hp => let ⟨a, b⟩ := H.led p hp; ⟨hk _ _ a, b⟩ }

theorem Fs.lt_own (H : Fs s₀ env own vars g I s) : ∀ a ∈ own, a < s.heap.objs.size := fun a ha => let ⟨_, e⟩ := H.exi a ha; Heap.lt_size e
theorem Fs.none_of_size (H : Fs s₀ env own vars g I s) {a : Addr} (h : s.heap.get? a = none) : g.get? a = none := by
  cases e : g.get? a with
  | none => rfl
  | some o => rw [H.keep a o e] at h; cases h
theorem get_size_none (h : Heap) : h.get? h.objs.size = none := by
  cases e : h.get? h.objs.size with
  | none => rfl
  | some o => exact absurd (Heap.lt_size e) (Nat.lt_irrefl _)
theorem get_ge_none {h : Heap} {a : Addr} (ha : h.objs.size ≤ a) : h.get? a = none := by
  cases e : h.get? a with
  | none => rfl
  | some o => exact absurd (Heap.lt_size e) (Nat.not_lt.mpr ha)

/-- a new object that is met again -/
theorem Fs.add (H : Fs s₀ env own vars g I s) {h' : Heap} {a : Addr} {o : Obj} (k : Nat) (hk : ∀ b o, s.heap.get? b = some o → h'.get? b = some o) (hn : s.heap.get? a = none) (ha : h'.get? a = some o) :
    Fs s₀ env own vars g ((a, o) :: I) { s with heap := h', toks := k } :=
  { H.grow k hk with
    led := fun p hp => by
      rcases List.mem_cons.mp hp with rfl | hp
      · exact ⟨ha, H.none_of_size hn, fun hm => by obtain ⟨o', e⟩ := H.exi _ hm; rw [hn] at e; cases e⟩
      · exact (H.grow k hk).led p hp
    ndI := by
      refine List.nodup_cons.mpr ⟨fun hm => ?_, H.ndI⟩
      obtain ⟨p, hp, e⟩ := List.mem_map.mp hm
      have := (H.led p hp).1
      rw [e, hn] at this; cases this }

inductive Put (x : Str) (v : Option Value) : Vars → Vars → Prop
  | head {u r} : Put x v ((x, u) :: r) ((x, v) :: r)
  | tail {p r r'} : Put x v r r' → Put x v (p :: r) (p :: r')
theorem Put.names {x : Str} {v : Option Value} {l l' : Vars} (h : Put x v l l') : l'.map (·.1) = l.map (·.1) := by
  induction h with
  | head => rfl
  | tail _ ih => simp only [List.map_cons, ih]
theorem Put.mem {x : Str} {v : Option Value} {l l' : Vars} (h : Put x v l l') : ∃ u, (x, u) ∈ l := by
  induction h with
  | head => exact ⟨_, .head _⟩
  | tail _ ih => obtain ⟨u, hu⟩ := ih; exact ⟨u, .tail _ hu⟩
theorem Put.of {x : Str} {v : Option Value} {l l' : Vars} (h : Put x v l l') (nd : (l.map (·.1)).Nodup) : ∀ q ∈ l', q = (x, v) ∨ (q ∈ l ∧ q.1 ≠ x) := by
  induction h with
  | head =>
    rename_i u r
    intro q hq
    rcases List.mem_cons.mp hq with rfl | hq
    · exact .inl rfl
    · refine .inr ⟨.tail _ hq, fun e => ?_⟩
      exact (List.nodup_cons.mp nd).1 (by rw [← e]; exact List.mem_map_of_mem (f := (·.1)) hq)
  | tail hp ih =>
    rename_i p r r'
    intro q hq
    obtain ⟨n1, n2⟩ := List.nodup_cons.mp nd
    rcases List.mem_cons.mp hq with rfl | hq
    · refine .inr ⟨.head _, fun e => ?_⟩
      obtain ⟨u, hu⟩ := hp.mem
      exact n1 (by have := List.mem_map_of_mem (f := fun x : Str × Option Value => x.1) hu; rw [← e] at this; exact this)
    · rcases ih n2 q hq with h | ⟨h1, h2⟩
      · exact .inl h
      · exact .inr ⟨.tail _ h1, h2⟩

/-- an object of the ledger is turned -/
inductive Turn (a : Addr) (o o' : Obj) : List (Addr × Obj) → List (Addr × Obj) → Prop
  | head {r} : Turn a o o' ((a, o) :: r) ((a, o') :: r)
  | tail {p r r'} : Turn a o o' r r' → Turn a o o' (p :: r) (p :: r')
theorem Turn.names {a : Addr} {o o' : Obj} {l l' : List (Addr × Obj)} (h : Turn a o o' l l') : l'.map (·.1) = l.map (·.1) := by
  induction h with
  | head => rfl
  | tail _ ih => simp only [List.map_cons, ih]
theorem Turn.mem {a : Addr} {o o' : Obj} {l l' : List (Addr × Obj)} (h : Turn a o o' l l') : (a, o) ∈ l := by
  induction h with
  | head => exact .head _
  | tail _ ih => exact .tail _ ih
theorem Turn.of {a : Addr} {o o' : Obj} {l l' : List (Addr × Obj)} (h : Turn a o o' l l') (nd : (l.map (·.1)).Nodup) : ∀ q ∈ l', q = (a, o') ∨ (q ∈ l ∧ q.1 ≠ a) := by
  induction h with
  | head =>
    intro q hq
    rcases List.mem_cons.mp hq with rfl | hq
    · exact .inl rfl
    · exact .inr ⟨.tail _ hq, fun e => (List.nodup_cons.mp nd).1 (by rw [← e]; exact List.mem_map_of_mem (f := (·.1)) hq)⟩
  | tail hp ih =>
    intro q hq
    obtain ⟨n1, n2⟩ := List.nodup_cons.mp nd
    rcases List.mem_cons.mp hq with rfl | hq
    · exact .inr ⟨.head _, fun e => n1 (by have := List.mem_map_of_mem (f := fun x : Addr × Obj => x.1) hp.mem; rw [← e] at this; exact this)⟩
    · rcases ih n2 q hq with h | ⟨h1, h2⟩
      · exact .inl h
      · exact .inr ⟨.tail _ h1, h2⟩

/-- one object of the ledger is another one now; the rest stands -/
theorem Fs.turn (H : Fs s₀ env own vars g I s) {h' : Heap} {a : Addr} {o o' : Obj} (k : Nat) (ht : Turn a o o' I I') (hk : ∀ b x, b ≠ a → s.heap.get? b = some x → h'.get? b = some x) (ha : h'.get? a = some o') :
    Fs s₀ env own vars g I' { s with heap := h', toks := k } := by
  have hm := H.led _ ht.mem
  have hne : ∀ b ∈ own, b ≠ a := fun b hb e => hm.2.2 (e ▸ hb)
  have hng : ∀ b x, g.get? b = some x → b ≠ a := fun b x e q => by rw [q, hm.2.1] at e; cases e
  exact { H with
    ns := let ⟨m, e, b, d⟩ := H.ns; ⟨m, e.at' fun o' e => hk _ _ (b.elim (hne _) fun q => by obtain ⟨o, _, _, f, _⟩ := q; exact hng _ _ f) e, b, d⟩
    cell := fun p hp hx => let ⟨c, e1, ⟨oc, e4, e5⟩, e2⟩ := H.cell p hp hx; ⟨c, e1, ⟨oc, hk _ _ (e2.elim (hne _) fun q => by obtain ⟨o, f, _⟩ := q; exact hng _ _ f) e4, e5⟩, e2⟩
    keep := fun b x e => hk b x (fun q => by rw [q, hm.2.1] at e; cases e) (H.keep b x e)
    exi := fun b hb => let ⟨x, e⟩ := H.exi b hb; ⟨x, hk b x (hne b hb) e⟩
    led := fun p hp => by
      rcases ht.of H.ndI p hp with rfl | ⟨h1, h2⟩
      · exact ⟨ha, hm.2⟩
      · have := H.led p h1; exact ⟨hk _ _ h2 this.1, this.2⟩
    ndI := by rw [ht.names]; exact H.ndI }

/-- the ledger in another order -/
theorem Fs.perm (H : Fs s₀ env own vars g I s) (h : I.Perm I') : Fs s₀ env own vars g I' s :=
  { H with led := fun p hp => H.led p (h.mem_iff.mpr hp), ndI := (h.map _).nodup_iff.mp H.ndI }
theorem rot3 {α : Type} (a b c : α) (r : List α) : (a :: b :: c :: r).Perm (b :: c :: a :: r) := (List.Perm.swap b a (c :: r)).trans (.cons b (List.Perm.swap c a r))
/-- forget a part of the ledger -/
theorem Fs.sub (H : Fs s₀ env own vars g I s) (h : I'.Sublist I) : Fs s₀ env own vars g I' s :=
  { H with led := fun p hp => H.led p (h.subset hp), ndI := (h.map _).nodup H.ndI }
end

section
variable {prog : Program} {w : World} {A : Around} {E : Value → Shared → Prop} {s₀ s : Shared} {env : Env} {own : List Addr} {vars vars' : Vars} {g : Heap} {I I' : List (Addr × Obj)}

theorem rLoad {x : Str} {v : Value} {Q : Value → Shared → Prop} (H : Fs s₀ env own vars g I s) (hm : (x, some v) ∈ vars) (h : Q v s) : wpAny (model prog w) A (loadName env x) Q E s := by
  rcases H.kinds _ hm with hk | hk | hk
  · obtain ⟨m, hn, _, hv⟩ := H.ns
    exact wpAny_loadName_local H.kind hk hn (hv _ hm hk) h
  · obtain ⟨c, h1, h4, _⟩ := H.cell _ hm (.inl hk)
    exact wpAny_loadName_cell H.kind hk h1 h4 h
  · obtain ⟨c, h1, h4, _⟩ := H.cell _ hm (.inr hk)
    exact wpAny_loadName_free H.kind hk h1 h4 h (H.plain _ hm).2
theorem rName {x : Str} {pos : Pos} {v : Value} {Q : Value → Shared → Prop} (H : Fs s₀ env own vars g I s) (hm : (x, some v) ∈ vars) (h : Q v s) : wpAny (model prog w) A (eval (.Name x pos) env) Q E s :=
  wpAny_Name (rLoad H hm h) (H.plain _ hm).1

/-- the frame may store -/
structure Sto (env : Env) (own : List Addr) : Prop where
  loc : env.locals ∈ own
  nofree : ∀ x, env.kindOf x ≠ some .free
  cell : ∀ x c, env.kindOf x = some .cell → env.cells.lookup x = some c → c ∈ own ∧ c ≠ env.locals
  inj : ∀ x y c, env.cells.lookup x = some c → env.cells.lookup y = some c → x = y
theorem rStore {x : Str} {v : Value} {Q : Unit → Shared → Prop} (S : Sto env own) (H : Fs s₀ env own vars g I s) (hp : Put x (some v) vars vars')
    (h : ∀ s', Fs s₀ env own vars' g I s' → Q () s') : wpAny (model prog w) A (storeName env x v) Q E s := by
  obtain ⟨u, hu⟩ := hp.mem
  have hof := hp.of H.nd
  have hnd : (vars'.map (·.1)).Nodup := by rw [hp.names]; exact H.nd
  have hsub : ∀ q ∈ vars', ∃ u, (q.1, u) ∈ vars := fun q hq => by
    rcases hof q hq with rfl | ⟨h1, _⟩
    · exact ⟨u, hu⟩
    · exact ⟨q.2, h1⟩
  have hkinds : ∀ p ∈ vars', env.kindOf p.1 = some .local ∨ env.kindOf p.1 = some .cell ∨ env.kindOf p.1 = some .free := fun p hp' => by obtain ⟨u, e⟩ := hsub p hp'; exact H.kinds (p.1, u) e
  have hplain : ∀ p ∈ vars', (p.1 == ("__debug__" : Str)) = false ∧ (p.1 == ("__classdict__" : Str)) = false := fun p hp' => by obtain ⟨u, e⟩ := hsub p hp'; exact H.plain (p.1, u) e
  have hoff : ∀ b o a, a ∈ own → g.get? b = some o → b ≠ a := fun b o a ha e q => by rw [q, H.off _ ha] at e; cases e
  rcases H.kinds _ hu with hk | hk | hk
  · obtain ⟨m, hn, hown, hv⟩ := H.ns
    refine wpAny_storeName_local hk hn (fun h' hn' hs => h _ ?_) (by rw [H.kind]; rfl)
    have keep : ∀ b o, b ≠ env.locals → s.heap.get? b = some o → h'.get? b = some o := fun b o hb e => (hs.2 b hb).trans e
    exact { H with
      nd := hnd, kinds := hkinds, plain := hplain
      ns := ⟨_, hn', .inl S.loc, fun q hq hl => by
        rcases hof q hq with rfl | ⟨h1, h2⟩
        · simp
        · simp only [h2, if_false]; exact hv q h1 hl⟩
      cell := fun q hq hc => by
        rcases hof q hq with rfl | ⟨h1, h2⟩
        · rw [hk] at hc; rcases hc with hc | hc <;> cases hc
        · obtain ⟨c, e1, ⟨oc, e4, e5⟩, e2⟩ := H.cell q h1 hc
          refine ⟨c, e1, ⟨oc, keep _ _ ?_ e4, e5⟩, e2⟩
          rcases e2 with e2 | ⟨o, f, _⟩
          · exact (S.cell _ c (hc.resolve_right (S.nofree _)) e1).2
          · exact hoff _ _ _ S.loc f
      keep := fun b o e => keep b o (hoff _ _ _ S.loc e) (H.keep b o e)
      exi := fun b hb => by
        by_cases q : b = env.locals
        · obtain ⟨o, _, _, e, _⟩ := hn'; exact ⟨o, q ▸ e⟩
        · obtain ⟨o, e⟩ := H.exi b hb; exact ⟨o, keep b o q e⟩
      led := fun p hp' => by
        have := H.led p hp'
        exact ⟨keep _ _ (fun q => this.2.2 (q ▸ S.loc)) this.1, this.2⟩ }
  · obtain ⟨c, h1, h4, _⟩ := H.cell _ hu (.inl hk)
    obtain ⟨h2, h3⟩ := S.cell _ c hk h1
    refine wpAny_storeName_cell H.kind hk h1 h4 fun h' hc' hs => h _ ?_
    have keep : ∀ b o, b ≠ c → s.heap.get? b = some o → h'.get? b = some o := fun b o hb e => (hs.2 b hb).trans e
    exact { H with
      nd := hnd, kinds := hkinds, plain := hplain
      ns := by
        obtain ⟨m, hn, hown, hv⟩ := H.ns
        refine ⟨m, hn.sameBut hs (Ne.symm h3), hown, fun q hq hl => ?_⟩
        rcases hof q hq with rfl | ⟨e1, e2⟩
        · rw [hk] at hl; cases hl
        · exact hv q e1 hl
      cell := fun q hq hl => by
        rcases hof q hq with rfl | ⟨e1, e2⟩
        · exact ⟨c, h1, hc', .inl h2⟩
        · obtain ⟨d, f1, f4, f2⟩ := H.cell q e1 hl
          exact ⟨d, f1, f4.sameBut hs fun e => e2 (S.inj _ _ c (e ▸ f1) h1), f2⟩
      keep := fun b o e => keep b o (hoff _ _ _ h2 e) (H.keep b o e)
      exi := fun b hb => by
        by_cases q : b = c
        · obtain ⟨o, e, _⟩ := hc'; exact ⟨o, q ▸ e⟩
        · obtain ⟨o, e⟩ := H.exi b hb; exact ⟨o, keep b o q e⟩
      led := fun p hp' => by
        have := H.led p hp'
        exact ⟨keep _ _ (fun q => this.2.2 (q ▸ h2)) this.1, this.2⟩ }
  · exact absurd hk (S.nofree _)
end

/-- all that was there stands -/
structure Kp (s s' : Shared) : Prop where
  gens : s'.gens = s.gens
  drawn : s'.drawn = s.drawn
  os : s'.os = s.os
  keep : ∀ b o, s.heap.get? b = some o → s'.heap.get? b = some o
theorem Kp.refl (s : Shared) : Kp s s := ⟨rfl, rfl, rfl, fun _ _ e => e⟩
theorem Kp.trans {a b c : Shared} (x : Kp a b) (y : Kp b c) : Kp a c := ⟨y.gens.trans x.gens, y.drawn.trans x.drawn, y.os.trans x.os, fun _ _ e => y.keep _ _ (x.keep _ _ e)⟩
/-- all stands but the object at a -/
structure KpBut (a : Addr) (s s' : Shared) : Prop where
  gens : s'.gens = s.gens
  drawn : s'.drawn = s.drawn
  os : s'.os = s.os
  keep : ∀ b o, b ≠ a → s.heap.get? b = some o → s'.heap.get? b = some o
theorem Kp.but {s s' : Shared} (x : Kp s s') (a : Addr) : KpBut a s s' := ⟨x.gens, x.drawn, x.os, fun b o _ e => x.keep b o e⟩
theorem KpBut.trans {a : Addr} {s t u : Shared} (x : KpBut a s t) (y : KpBut a t u) : KpBut a s u := ⟨y.gens.trans x.gens, y.drawn.trans x.drawn, y.os.trans x.os, fun b o h e => y.keep b o h (x.keep b o h e)⟩

section
variable {s₀ s s' : Shared} {env : Env} {own : List Addr} {vars vars' : Vars} {g : Heap} {I I' : List (Addr × Obj)}
theorem Fs.kp (H : Fs s₀ env own vars g I s) (k : Kp s s') : Fs s₀ env own vars g I s' := by
  have e : s' = { s with heap := s'.heap, toks := s'.toks } := by
    obtain ⟨h, gs, d, t, o⟩ := s'
    obtain ⟨h', gs', d', t', o'⟩ := s
    obtain ⟨rfl, rfl, rfl, _⟩ := k
    rfl
  rw [e]; exact H.grow _ k.keep
theorem Fs.out (H : Fs s env own vars s.heap I s') : Kp s s' := ⟨H.gens, H.drawn, H.os, H.keep⟩
theorem Fs.base (H : Fs s₀ env own vars g I s) : s.gens = s₀.gens ∧ s.drawn = s₀.drawn ∧ s.os = s₀.os := ⟨H.gens, H.drawn, H.os⟩
theorem Fs.addKp (H : Fs s₀ env own vars g I s) {a : Addr} {o : Obj} (k : Kp s s') (hn : s.heap.get? a = none) (ha : s'.heap.get? a = some o) : Fs s₀ env own vars g ((a, o) :: I) s' := by
  have e : s' = { s with heap := s'.heap, toks := s'.toks } := by
    obtain ⟨h, gs, d, t, o⟩ := s'
    obtain ⟨h', gs', d', t', o'⟩ := s
    obtain ⟨rfl, rfl, rfl, _⟩ := k
    rfl
  rw [e]; exact H.add _ k.keep hn ha
theorem Fs.turnKp (H : Fs s₀ env own vars g I s) {a : Addr} {o o' : Obj} (ht : Turn a o o' I I') (k : KpBut a s s') (ha : s'.heap.get? a = some o') : Fs s₀ env own vars g I' s' := by
  have e : s' = { s with heap := s'.heap, toks := s'.toks } := by
    obtain ⟨h, gs, d, t, o⟩ := s'
    obtain ⟨h', gs', d', t', o'⟩ := s
    obtain ⟨rfl, rfl, rfl, _⟩ := k
    rfl
  rw [e]; exact H.turn _ ht k.keep ha
end

/-- room for n more calls -/
structure Ar (n : Nat) (A : Around) : Prop where
  handled : A.handled = none
  depth : A.depth + n < recursionLimit
  units : A.units + 8 * n + 100 < cLine
theorem Ar.deeper {n : Nat} {A : Around} {env : Env} (h : Ar (n + 1) A) : Ar n (A.deeper env) :=
  ⟨h.handled, by have := h.depth; show A.depth + 1 + n < _; omega, by have := h.units; show A.units + 3 + 8 * n + 100 < _; omega⟩
theorem Ar.mono {n k : Nat} {A : Around} (h : Ar n A) (hk : k ≤ n := by omega) : Ar k A := ⟨h.handled, by have := h.depth; omega, by have := h.units; omega⟩

noncomputable def Gn (env : Env) (gs : List Str) : Prop := ∀ x ∈ gs, env.kindOf x = some .globalImplicit ∧ (x == ("__debug__" : Str)) = false

/-- what stands of the text's own: names, functions -/
structure Gd (GL : List (Str × Value)) (BL : List (Str × Value)) (FL : List (Addr × Obj)) (g : Heap) : Prop where
  mg : ∃ mg, g.Ns mainGlobals mg ∧ (∀ p ∈ GL, mg p.1 = some p.2) ∧ ∀ p ∈ BL, mg p.1 = none
  mb : ∃ mb, g.Ns builtinsNs mb ∧ ∀ p ∈ BL, mb p.1 = some p.2
  lim : g.NoLimit
  fns : ∀ p ∈ FL, g.get? p.1 = some p.2
theorem Gd.keeps {GL BL : List (Str × Value)} {FL : List (Addr × Obj)} {g h : Heap} (G : Gd GL BL FL g) (k : ∀ b o, g.get? b = some o → h.get? b = some o) : Gd GL BL FL h :=
  ⟨let ⟨m, a, b⟩ := G.mg; ⟨m, a.keeps k, b⟩, let ⟨m, a, b⟩ := G.mb; ⟨m, a.keeps k, b⟩, G.lim.keeps k, fun p hp => k _ _ (G.fns p hp)⟩

section
variable {prog : Program} {w : World} {A : Around} {E : Value → Shared → Prop} {s₀ s : Shared} {env : Env} {own : List Addr} {vars vars' : Vars} {g : Heap} {I I' : List (Addr × Obj)}
variable {GL BL : List (Str × Value)} {FL : List (Addr × Obj)} {gs : List Str}

theorem rGlobal {x : Str} {pos : Pos} {v : Value} {Q : Value → Shared → Prop} (G : Gd GL BL FL g) (hG : Gn env gs) (H : Fs s₀ env own vars g I s) (hx : x ∈ gs) (hm : (x, v) ∈ GL) (h : Q v s) :
    wpAny (model prog w) A (eval (.Name x pos) env) Q E s := by
  obtain ⟨mg, a, b, _⟩ := G.mg
  exact Name_function_global H.kind (hG x hx).1 (loadGlobal_global (by rw [H.glob]; exact a.keeps H.keep) (b _ hm) h) (hG x hx).2
theorem rBuiltin {x : Str} {pos : Pos} {v : Value} {Q : Value → Shared → Prop} (G : Gd GL BL FL g) (hG : Gn env gs) (H : Fs s₀ env own vars g I s) (hx : x ∈ gs) (hm : (x, v) ∈ BL) (h : Q v s) :
    wpAny (model prog w) A (eval (.Name x pos) env) Q E s := by
  obtain ⟨mg, a, _, b⟩ := G.mg
  obtain ⟨mb, c, d⟩ := G.mb
  exact Name_function_global H.kind (hG x hx).1 (loadGlobal_builtin (by rw [H.glob]; exact a.keeps H.keep) (b _ hm) (by rw [H.blt]; exact c.keeps H.keep) (d _ hm) h) (hG x hx).2

noncomputable def SeqP (prog : Program) (w : World) (A : Around) (env : Env) (rest : List Stmt) (Q : Flow → Shared → Prop) (E : Value → Shared → Prop) (f : Flow) (s : Shared) : Prop :=
  match f with | .next => wpAny (model prog w) A (execs rest env) Q E s | f => Q f s
theorem rSeq {st : Stmt} {rest : List Stmt} {Q : Flow → Shared → Prop} (h : wpAny (model prog w) A (exec st env) (SeqP prog w A env rest Q E) E s) : wpAny (model prog w) A (execs (st :: rest) env) Q E s :=
  wpAny_execs_cons (wpAny_mono h (fun f s' h' => by cases f <;> exact h') fun _ _ x => x)
theorem rNil {Q : Flow → Shared → Prop} (h : Q .next s) : wpAny (model prog w) A (execs [] env) Q E s := wpAny_execs_nil h
theorem seqNext {rest : List Stmt} {Q : Flow → Shared → Prop} (h : wpAny (model prog w) A (execs rest env) Q E s) : SeqP prog w A env rest Q E .next s := h
theorem seqRet {rest : List Stmt} {Q : Flow → Shared → Prop} {v : Value} (h : Q (.ret v) s) : SeqP prog w A env rest Q E (.ret v) s := h
theorem seqCont {rest : List Stmt} {Q : Flow → Shared → Prop} (h : Q .cont s) : SeqP prog w A env rest Q E .cont s := h

noncomputable def Br (b : Bool) (T F : Prop) : Prop := if b = true then T else F
theorem Br.yes {b : Bool} {T F : Prop} (h : b = true) (t : T) : Br b T F := by unfold Br; rw [if_pos h]; exact t
theorem Br.no {b : Bool} {T F : Prop} (h : b = false) (f : F) : Br b T F := by unfold Br; rw [if_neg (by rw [h]; exact Bool.false_ne_true)]; exact f
theorem Br.both {b : Bool} {T F : Prop} (t : b = true → T) (f : b = false → F) : Br b T F := by
  cases b
  · exact Br.no rfl (f rfl)
  · exact Br.yes rfl (t rfl)
theorem rIf {test : Expr} {body orelse : List Stmt} {pos : Pos} {Q : Flow → Shared → Prop}
    (h : wpAny (model prog w) A (isTrue test env (eval test env)) (fun b s₂ => Br b (wpAny (model prog w) A (execs body env) Q E s₂) (wpAny (model prog w) A (execs orelse env) Q E s₂)) E s) :
    wpAny (model prog w) A (exec (.If test body orelse pos) env) Q E s :=
  wpAny_If (wpAny_mono h (fun b s' h' => by cases b <;> exact h') fun _ _ x => x)

theorem rAssign {x : Str} {pos' pos : Pos} {value : Expr} {Q : Flow → Shared → Prop}
    (h : wpAny (model prog w) A (eval value env) (fun v s₁ => wpAny (model prog w) A (storeName env x v) (fun _ s₂ => Q .next s₂) E s₁) E s)
    (hs : swapsWith value (some (.Name x pos')) pos.line env = pure false := by rfl) :
    wpAny (model prog w) A (exec (.Assign [.Name x pos'] value pos) env) Q E s := wpAny_Assign_Name h hs
theorem rAug {x : Str} {pos' pos : Pos} {op : Operator} {value : Expr} {Q : Flow → Shared → Prop}
    (h : wpAny (model prog w) A (loadName env x) (fun old s₁ => wpAny (model prog w) A (eval value env) (fun v s₂ => wpAny (model prog w) A (inplaceOp op old v)
      (fun r s₃ => wpAny (model prog w) A (storeName env x r) (fun _ s₄ => Q .next s₄) E s₃) E s₂) E s₁) E s) :
    wpAny (model prog w) A (exec (.AugAssign (.Name x pos') op value pos) env) Q E s := wpAny_AugAssign_Name h
theorem rExpr {e : Expr} {pos : Pos} {Q : Flow → Shared → Prop} (H : Fs s₀ env own vars g I s) (h : wpAny (model prog w) A (eval e env) (fun _ s₁ => Q .next s₁) E s)
    (hs : swapsWith e none pos.line env = pure false := by rfl) : wpAny (model prog w) A (exec (.Expr e pos) env) Q E s :=
  wpAny_Expr_any h (by unfold interactive; rw [H.kind]; rfl) hs
theorem rReturn {e : Expr} {pos : Pos} {Q : Flow → Shared → Prop} (h : wpAny (model prog w) A (eval e env) (fun v s₁ => Q (.ret v) s₁) E s) :
    wpAny (model prog w) A (exec (.Return (some e) pos) env) Q E s := wpAny_Return_some h

theorem rInt {i : Int} {k : Nat} {pos : Pos} {Q : Value → Shared → Prop} (H : Fs s₀ env own vars g I s) (h : ∀ t s', Fs s₀ env own vars g I s' → Q (.int i t) s') :
    wpAny (model prog w) A (eval (.Constant (.int i) k pos) env) Q E s := wpAny_Constant_int (h _ _ (H.toks _))
theorem rStr {x : Str} {k : Nat} {pos : Pos} {Q : Value → Shared → Prop} (H : Fs s₀ env own vars g I s) (h : ∀ t s', Fs s₀ env own vars g I s' → Q (.str x t) s') :
    wpAny (model prog w) A (eval (.Constant (.str x) k pos) env) Q E s := Constant_str (h _ _ (H.toks _))
theorem rNone {k : Nat} {pos : Pos} {Q : Value → Shared → Prop} (h : Q .none s) : wpAny (model prog w) A (eval (.Constant .none k pos) env) Q E s := fun _ _ _ => h
theorem rBin {l r : Expr} {op : Operator} {pos : Pos} {Q : Value → Shared → Prop}
    (h : wpAny (model prog w) A (eval l env) (fun a s₁ => wpAny (model prog w) A (eval r env) (fun b s₂ => wpAny (model prog w) A (binaryOp op a b) Q E s₂) E s₁) E s) :
    wpAny (model prog w) A (eval (.BinOp l op r pos) env) Q E s := wpAny_BinOp h

theorem rAddI {a b : Int} {t u : Tok} {Q : Value → Shared → Prop} (H : Fs s₀ env own vars g I s) (h : ∀ t s', Fs s₀ env own vars g I s' → Q (.int (a + b) t) s') :
    wpAny (model prog w) A (binaryOp .Add (.int a t) (.int b u)) Q E s := add_int (h _ _ (H.toks _))
theorem rSubI {a b : Int} {t u : Tok} {Q : Value → Shared → Prop} (H : Fs s₀ env own vars g I s) (h : ∀ t s', Fs s₀ env own vars g I s' → Q (.int (a - b) t) s') :
    wpAny (model prog w) A (binaryOp .Sub (.int a t) (.int b u)) Q E s := sub_int (h _ _ (H.toks _))
theorem rIaddI {a b : Int} {t u : Tok} {Q : Value → Shared → Prop} (H : Fs s₀ env own vars g I s) (h : ∀ t s', Fs s₀ env own vars g I s' → Q (.int (a + b) t) s') :
    wpAny (model prog w) A (inplaceOp .Add (.int a t) (.int b u)) Q E s := PyProof.Rows.iadd_int (h _ _ (H.toks _))
theorem rMulI {a b : Int} {t u : Tok} {Q : Value → Shared → Prop} (H : Fs s₀ env own vars g I s) (hm : IntMulOk a b) (h : ∀ t s', Fs s₀ env own vars g I s' → Q (.int (a * b) t) s') :
    wpAny (model prog w) A (binaryOp .Mult (.int a t) (.int b u)) Q E s := PyProof.Rows.mul_int (h _ _ (H.toks _)) hm
theorem rDivI {a b : Int} {t u : Tok} {Q : Value → Shared → Prop} (H : Fs s₀ env own vars g I s) (hb : 0 < b) (hp : b < 1073741824) (h : ∀ t s', Fs s₀ env own vars g I s' → Q (.int (a / b) t) s') :
    wpAny (model prog w) A (binaryOp .FloorDiv (.int a t) (.int b u)) Q E s :=
  PyProof.Rows.floordiv_int (by omega) (by rw [Int.fdiv_eq_ediv_of_nonneg _ (by omega)]; exact h _ _ (H.toks _)) (.inl (PyProof.noPylong_small (by omega)))
theorem rModI {a b : Int} {t u : Tok} {Q : Value → Shared → Prop} (H : Fs s₀ env own vars g I s) (hb : 0 < b) (h : ∀ t s', Fs s₀ env own vars g I s' → Q (.int (a % b) t) s') :
    wpAny (model prog w) A (binaryOp .Mod (.int a t) (.int b u)) Q E s :=
  PyProof.Rows.mod_int' (by omega) (by rw [Int.fmod_eq_emod_of_nonneg _ (by omega)]; exact h _ _ (H.toks _))
theorem rLtI {a b : Int} {t u : Tok} {Q : Value → Shared → Prop} (h : Q (.bool (decide (a < b))) s) : wpAny (model prog w) A (compareOp .Lt (.int a t) (.int b u)) Q E s := PyProof.Rows.lt_int h
theorem rGtI {a b : Int} {t u : Tok} {Q : Value → Shared → Prop} (h : Q (.bool (decide (b < a))) s) : wpAny (model prog w) A (compareOp .Gt (.int a t) (.int b u)) Q E s := PyProof.Rows.gt_int h
theorem rGeI {a b : Int} {t u : Tok} {Q : Value → Shared → Prop} (h : Q (.bool (decide (b ≤ a))) s) : wpAny (model prog w) A (compareOp .GtE (.int a t) (.int b u)) Q E s := PyProof.Rows.ge_int h
theorem rIsNone {v : Value} {Q : Value → Shared → Prop} (h : Q (.bool (v == .none)) s) : wpAny (model prog w) A (compareOp .Is v .none) Q E s := is_none h
theorem rTruthB {b : Bool} {Q : Bool → Shared → Prop} (h : Q b s) : wpAny (model prog w) A (truthy (.bool b)) Q E s := wpAny_truthy_bool h

/-- a call of a def by its object; nothing that it raises is served -/
theorem enter {f : Addr} {o : Obj} {fd : FuncData} {body : List Stmt} {args : Args} {binds : List (Str × Value)} {R : Result → Shared → Prop}
    (hroom : A.depth < recursionLimit) (ho : s.heap.get? f = some o) (hdata : o.data = .func fd) (hlim : s.heap.NoLimit) (hcd : s.heap.CodeRec fd.code fd.qualname)
    (hbody : fd.body = .stmts body) (hbind : BindsTo s fd args binds) (hcell : ∀ x ∈ fd.scope.names, x.2 ≠ .cell ∧ x.2 ≠ .free) (hloc : ∀ x ∈ binds, fd.scope.names.lookup x.1 = some .local)
    (hgl : fd.globals = mainGlobals) (hbl : fd.builtins = builtinsNs) (hcl : fd.closure = [])
    (hv : ∀ p ∈ vars, binds.reverse.lookup p.1 = p.2) (hvk : ∀ p ∈ vars, fd.scope.names.lookup p.1 = some .local ∧ (p.1 == ("__debug__" : Str)) = false ∧ (p.1 == ("__classdict__" : Str)) = false) (hnd : (vars.map (·.1)).Nodup)
    (hgs : ∀ x ∈ gs, fd.scope.names.lookup x = some .globalImplicit ∧ (x == ("__debug__" : Str)) = false)
    (hg : ∀ b o, g.get? b = some o → s.heap.get? b = some o) (hI : ∀ p ∈ I, s.heap.get? p.1 = some p.2 ∧ g.get? p.1 = none) (hnI : (I.map (·.1)).Nodup)
    (h : ∀ env L s', Sto env [L] → Gn env gs → L = s.heap.objs.size → Fs s env [L] vars g I s' → (∀ b o, s.heap.get? b = some o → s'.heap.get? b = some o) →
      wpAny (model prog w) (A.deeper env) (execs body env) (fun f s' => R (.ok (.ret (match f with | .ret v => v | _ => .none))) s') (fun _ _ => False) s')
    (hco : fd.scope.isCoroutine = false := by rfl) (hgen : fd.scope.isGenerator = false := by rfl) (hk : fd.scope.kind = .function := by rfl) :
    codeAny (model prog w) A (.call (.ref f) args) R s := by
  refine codeAny_call_def hroom ho hdata hlim hcd hbody hbind (fun x hx => (hcell x hx).1) hloc (fun h₀ hns hk₀ => ?_) hco hgen hk
  have hold : ∀ b o, s.heap.get? b = some o → b ≠ s.heap.objs.size := fun b o e => Nat.ne_of_lt (Heap.lt_size e)
  refine wpAny_mono (h (callEnv fd s.heap.objs.size f) s.heap.objs.size _ ?_ ?_ rfl ?_ hk₀) (fun _ _ x => x) fun _ _ x => x.elim
  · refine ⟨List.mem_singleton.mpr rfl, fun x hx => ?_, fun x c hx _ => ?_, fun x y c hx _ => ?_⟩
    · have : (x, NameKind.free) ∈ fd.scope.names := PySem.mem_of_lookup hx
      exact (hcell _ this).2 rfl
    · have : (x, NameKind.cell) ∈ fd.scope.names := PySem.mem_of_lookup hx
      exact absurd rfl (hcell _ this).1
    · have : (callEnv fd s.heap.objs.size f).cells = [] := hcl
      rw [this] at hx; cases hx
  · exact hgs
  · exact {
      gens := rfl, drawn := rfl, os := rfl, kind := hk, glob := hgl, blt := hbl
      ns := ⟨_, hns, .inl (List.mem_singleton.mpr rfl), fun p hp _ => hv p hp⟩
      cell := fun p hp hx => by
        have := (hvk p hp).1
        rw [show (callEnv fd s.heap.objs.size f).kindOf p.1 = fd.scope.names.lookup p.1 from rfl, this] at hx
        rcases hx with hx | hx <;> cases hx
      kinds := fun p hp => .inl (hvk p hp).1
      plain := fun p hp => (hvk p hp).2
      nd := hnd
      keep := fun b o e => hk₀ b o (hg b o e)
      off := fun a ha => by
        rw [List.mem_singleton.mp ha]
        cases e : g.get? s.heap.objs.size with
        | none => rfl
        | some o => exact absurd rfl (hold _ _ (hg _ _ e))
      exi := fun a ha => by rw [List.mem_singleton.mp ha]; obtain ⟨o, _, _, e, _⟩ := hns; exact ⟨o, e⟩
      led := fun p hp => ⟨hk₀ _ _ (hI p hp).1, (hI p hp).2, fun hm => hold _ _ (hI p hp).1 (List.mem_singleton.mp hm)⟩
      ndI := hnI }
end

/-! while: an invariant over the names and the ledger -/
section
variable {prog : Program} {w : World} {A : Around} {s₀ s : Shared} {env : Env} {own : List Addr} {vars vars' : Vars} {g : Heap} {I I' : List (Addr × Obj)}
noncomputable def TurnP (s₀ : Shared) (env : Env) (own : List Addr) (g : Heap) (J : Nat → Vars → List (Addr × Obj) → Prop) (n : Nat) (Q : Flow → Shared → Prop) (f : Flow) (s : Shared) : Prop :=
  match f with
  | .brk => Q .next s
  | .ret v => Q (.ret v) s
  | _ => ∃ m vars' I', m < n ∧ J m vars' I' ∧ Fs s₀ env own vars' g I' s
theorem turnNext {J : Nat → Vars → List (Addr × Obj) → Prop} {n : Nat} {Q : Flow → Shared → Prop} (m : Nat) (hm : m < n) (H : Fs s₀ env own vars g I s) (hj : J m vars I) : TurnP s₀ env own g J n Q .next s := ⟨m, _, _, hm, hj, H⟩
theorem turnCont {J : Nat → Vars → List (Addr × Obj) → Prop} {n : Nat} {Q : Flow → Shared → Prop} (m : Nat) (hm : m < n) (H : Fs s₀ env own vars g I s) (hj : J m vars I) : TurnP s₀ env own g J n Q .cont s := ⟨m, _, _, hm, hj, H⟩
theorem turnRet {J : Nat → Vars → List (Addr × Obj) → Prop} {n : Nat} {Q : Flow → Shared → Prop} {v : Value} (h : Q (.ret v) s) : TurnP s₀ env own g J n Q (.ret v) s := h
theorem rWhile {test : Expr} {body : List Stmt} {pos : Pos} {Q : Flow → Shared → Prop} (J : Nat → Vars → List (Addr × Obj) → Prop) (n : Nat) (hj : J n vars I) (H : Fs s₀ env own vars g I s)
    (turn : ∀ n vars I s, J n vars I → Fs s₀ env own vars g I s → wpAny (model prog w) A (isTrue test env (eval test env)) (fun b s₂ =>
      Br b (wpAny (model prog w) A (execs body env) (TurnP s₀ env own g J n Q) (fun _ _ => False) s₂) (Q .next s₂)) (fun _ _ => False) s) :
    wpAny (model prog w) A (exec (.While test body [] pos) env) Q (fun _ _ => False) s := by
  refine wpAny_While (codeAny_whileLoop (fun n s => ∃ vars I, J n vars I ∧ Fs s₀ env own vars g I s) ?_ n ⟨vars, I, hj, H⟩)
  rintro n s ⟨vars, I, hj, H⟩
  refine wpAny_mono (turn n vars I s hj H) (fun b s₂ h₂ => ?_) fun _ _ x => x.elim
  cases b with
  | true =>
    simp only [if_true]
    refine wpAny_mono (h₂ : wpAny _ _ _ _ _ _) (fun f s₃ h₃ => ?_) fun _ _ x => x.elim
    cases f with
    | next | cont => obtain ⟨m, v', I', h1, h2, h3⟩ := h₃; exact ⟨m, h1, v', I', h2, h3⟩
    | brk => exact h₃
    | ret v => exact h₃
  | false =>
    simp only [Bool.false_eq_true, if_false]
    exact wpAny_execs_nil (h₂ : Q .next s₂)
end

theorem Fs.isList {s₀ s : Shared} {env : Env} {own : List Addr} {vars : Vars} {g : Heap} {I : List (Addr × Obj)} {l : Addr} {items : Array Value} (H : Fs s₀ env own vars g I s) (hl : g.IsList l items) : s.heap.IsList l items := hl.at fun o e => H.keep l o e

section
variable {prog : Program} {w : World} {A : Around} {E : Value → Shared → Prop} {s₀ s : Shared} {env : Env} {own : List Addr} {vars vars' : Vars} {g : Heap} {I I' : List (Addr × Obj)}
/-- a call of a built-in function by its name, one argument -/
theorem rCall1 {x : Str} {np pos : Pos} {e : Expr} {id : String} {GL BL : List (Str × Value)} {FL : List (Addr × Obj)} {gs : List Str} {Q : Value → Shared → Prop} (G : Gd GL BL FL g) (hG : Gn env gs) (H : Fs s₀ env own vars g I s) (hx : x ∈ gs) (hm : (x, .builtin id) ∈ BL)
    (h : wpAny (model prog w) A (eval e env) (fun v s₁ => wpAny (model prog w) A (call (.builtin id) [v]) Q E s₁) E s) (hs : starEach [e] env = [(false, eval e env)] := by rfl) :
    wpAny (model prog w) A (eval (.Call (.Name x np) [e] [] pos) env) Q E s :=
  PySem.Call_name1 hs (rBuiltin G hG H hx hm (PySem.callWith_builtin1 h))
theorem rSub {value slice : Expr} {pos : Pos} {Q : Value → Shared → Prop}
    (h : wpAny (model prog w) A (eval value env) (fun o s₁ => wpAny (model prog w) A (eval slice env) (fun i s₂ => wpAny (model prog w) A (subscriptTail value slice o i) Q E s₂) E s₁) E s) :
    wpAny (model prog w) A (eval (.Subscript value slice pos) env) Q E s := Subscript_ h
theorem rItem {value slice : Expr} {l : Addr} {items : Array Value} {k : Int} {u : Tok} {v : Value} {Q : Value → Shared → Prop} (hl : s.heap.IsList l items) (h0 : 0 ≤ k) (hhi : k < 2 ^ 63) (hx : items[k.toNat]? = some v) (h : Q v s)
    (hs : subscripted slice false (.ref l) (.int k u) = operate [.ref l, .int k u] (getItem (.ref l) (.int k u)) := by with_unfolding_all rfl) :
    wpAny (model prog w) A (subscriptTail value slice (.ref l) (.int k u)) Q E s :=
  tail_any hl.typeIs slot_list_getitem.lookup (wpAny_getItem_list hl h0 hhi hx h) hs
theorem rLenL {l : Addr} {items : Array Value} {Q : Value → Shared → Prop} (H : Fs s₀ env own vars g I s) (hl : s.heap.IsList l items) (hz : items.size ≤ 1000) (h : ∀ t s', Fs s₀ env own vars g I s' → Q (.int items.size t) s') :
    wpAny (model prog w) A (call (.builtin "len") [.ref l]) Q E s := len_list hl (by omega) (h _ _ (H.toks _))
end

section
variable {prog : Program} {w : World} {A : Around} {E : Value → Shared → Prop} {s₀ s : Shared} {env : Env} {own : List Addr} {vars vars' : Vars} {g : Heap} {I I' : List (Addr × Obj)}
theorem rNeInts {a b : Addr} {vs us : List Value} {ns ms : List Int} {Q : Value → Shared → Prop} (hA : Ar 0 A) (hl : s.heap.IsList a vs.toArray) (hi : IntsAre vs ns) (hl' : s.heap.IsList b us.toArray) (hi' : IntsAre us ms)
    (h : Q (.bool (!decide (ns = ms))) s) : wpAny (model prog w) A (compareOp .NotEq (.ref a) (.ref b)) Q E s := ne_intsK hl hi hl' hi' (by have := hA.units; omega) h
theorem Fs.listAt (H : Fs s₀ env own vars g I s) {l : Addr} {items : Array Value} {n : Nat} (hm : (l, listOf items n) ∈ I) : s.heap.IsList l items := ⟨_, (H.led _ hm).1, rfl, n, rfl⟩
end

/-! methods of a list that the ledger holds; calls by name -/
section
variable {prog : Program} {w : World} {A : Around} {E : Value → Shared → Prop} {s₀ s : Shared} {env : Env} {own : List Addr} {vars vars' : Vars} {g : Heap} {I I' : List (Addr × Obj)}

theorem le_line : 1000 ≤ sizeLine := by decide
theorem fits_nat {k n : Nat} (h : k ≤ n) (hn : n ≤ 1000) : Builtin.List.listFitsIndex (k : Int) = true := by
  simp only [Builtin.List.listFitsIndex, Bool.and_eq_true, decide_eq_true_eq]
  omega
theorem heap_upd {s : Shared} {a : Addr} {f : Obj → Obj} : KpBut a s { s with heap := s.heap.update a f } := ⟨rfl, rfl, rfl, fun b o hb e => (Heap.get?_update_ne _ _ _ _ hb).trans e⟩
theorem Turn.get (H : Fs s₀ env own vars g I s) {a : Addr} {o o' : Obj} (ht : Turn a o o' I I') : s.heap.get? a = some o := (H.led _ ht.mem).1

/-- x.m(e): of a list -/
theorem rMethL1 {o e : Expr} {name : Str} {id : String} {apos pos : Pos} {Q : Value → Shared → Prop} (slot : Slot "list" name id) (ty : typeOf (.builtin id) = pure (.type "method_descriptor"))
    (h : wpAny (model prog w) A (eval o env) (fun ov s₁ => ∃ l ob, ov = .ref l ∧ s₁.heap.get? l = some ob ∧ ob.cls = .type "list" ∧ ob.dict = none ∧ wpAny (model prog w) A (eval e env) (fun v s₂ => wpAny (model prog w) A (call (.builtin id) [.ref l, v]) Q E s₂) E s₁) E s)
    (hbase : attributeBase o name env (eval o env) = eval o env := by rfl) (hs : starEach [e] env = [(false, eval e env)] := by rfl) (hline : (apos.endLine == pos.line) = true := by rfl) :
    wpAny (model prog w) A (eval (.Call (.Attribute o name apos) [e] [] pos) env) Q E s := by
  refine PySem.Call_method1 hbase hs hline (wpAny_mono h (fun ov s₁ h₁ => ?_) fun _ _ x => x)
  obtain ⟨l, ob, rfl, ho, hc, hd, h₁⟩ := h₁
  exact ⟨"list", id, F.plainAttrs_list, slot, ty, ⟨ob, ho, hc⟩, fun a e => by cases e; exact ⟨ob, ho, hd⟩,
    Calls.callWith_builtin rfl (Calls.evalArgs_plain (Calls.spliced_cons (wpAny_mono h₁ (fun _ _ h₂ => Calls.spliced_nil h₂) fun _ _ e => e)))⟩
theorem rMethL2 {o e₁ e₂ : Expr} {name : Str} {id : String} {apos pos : Pos} {Q : Value → Shared → Prop} (slot : Slot "list" name id) (ty : typeOf (.builtin id) = pure (.type "method_descriptor"))
    (h : wpAny (model prog w) A (eval o env) (fun ov s₁ => ∃ l ob, ov = .ref l ∧ s₁.heap.get? l = some ob ∧ ob.cls = .type "list" ∧ ob.dict = none ∧ wpAny (model prog w) A (eval e₁ env) (fun v s₂ =>
      wpAny (model prog w) A (eval e₂ env) (fun v' s₃ => wpAny (model prog w) A (call (.builtin id) [.ref l, v, v']) Q E s₃) E s₂) E s₁) E s)
    (hbase : attributeBase o name env (eval o env) = eval o env := by rfl) (hs : starEach [e₁, e₂] env = [(false, eval e₁ env), (false, eval e₂ env)] := by rfl) (hline : (apos.endLine == pos.line) = true := by rfl) :
    wpAny (model prog w) A (eval (.Call (.Attribute o name apos) [e₁, e₂] [] pos) env) Q E s := by
  refine PySem.Call_method2 hbase hs hline (wpAny_mono h (fun ov s₁ h₁ => ?_) fun _ _ x => x)
  obtain ⟨l, ob, rfl, ho, hc, hd, h₁⟩ := h₁
  exact ⟨"list", id, F.plainAttrs_list, slot, ty, ⟨ob, ho, hc⟩, fun a e => by cases e; exact ⟨ob, ho, hd⟩,
    Calls.callWith_builtin rfl (Calls.evalArgs_plain (Calls.spliced_cons (wpAny_mono h₁ (fun _ _ h₂ => Calls.spliced_cons (wpAny_mono h₂ (fun _ _ h₃ => Calls.spliced_nil h₃) fun _ _ e => e)) fun _ _ e => e)))⟩

theorem rInsert {l : Addr} {vs : List Value} {n : Nat} {k : Nat} {u : Tok} {y : Value} {Q : Value → Shared → Prop} (H : Fs s₀ env own vars g I s) (ht : Turn l (listOf vs.toArray n) (listOf (vs.take k ++ y :: vs.drop k).toArray (n + 1)) I I') (hk : k ≤ vs.length) (hz : vs.length ≤ 1000)
    (h : ∀ s', Fs s₀ env own vars g I' s' → Q .none s') : wpAny (model prog w) A (call (.builtin "list.insert") [.ref l, .int k u, y]) Q E s := by
  have ho := ht.get H
  have hz' : vs.toArray.size ≤ sizeLine := Nat.le_trans (by rw [List.size_toArray]; exact hz) le_line
  have hfit := fits_nat hk hz
  obtain ⟨x, hx⟩ : ∃ x : Int, x = k := ⟨_, rfl⟩
  rw [← hx] at hfit ⊢
  have hm := AutoSeq1.list_insert_list_int_val_1 l vs.toArray n x u y (by rw [hfit]; exact Bool.false_ne_true) hz'
  refine call_meets F.slot_list_insert ⟨_, ho, rfl⟩ F.entry_list_insert (F.args_list_insert_3 _ _ _) hm ⟨ho, h _ (H.turnKp ht heap_upd ?_)⟩
  · have q := IsL.update ho (fun xs => have k := if x < 0 then (x + (xs.size : Int)).toNat else min x.toNat xs.size; (xs.extract 0 k).push y ++ xs.extract k)
    refine q.trans ?_
    subst hx
    have e1 : min k vs.length = k := by omega
    simp only [List.size_toArray, Int.toNat_natCast, e1, show ¬ ((k : Int) < 0) by omega, if_false]
    have hins := kl_ins_eq vs k y
    rw [List.size_toArray] at hins
    rw [hins]
    have : ((vs.take k ++ y :: vs.drop k).toArray.size == vs.length) = false := by
      rw [beq_eq_false_iff_ne, List.size_toArray, List.length_append, List.length_cons, List.length_take, List.length_drop]; omega
    rw [this]; rfl

/-- list.pop(at) -/
theorem rPop {l : Addr} {vs : List Value} {n : Nat} {k : Nat} {u : Tok} {y : Value} {Q : Value → Shared → Prop} (H : Fs s₀ env own vars g I s) (ht : Turn l (listOf vs.toArray n) (listOf (vs.eraseIdx k).toArray (n + 1)) I I') (hy : vs[k]? = some y) (hz : vs.length ≤ 1000)
    (h : ∀ s', Fs s₀ env own vars g I' s' → Q y s') : wpAny (model prog w) A (call (.builtin "list.pop") [.ref l, .int k u]) Q E s := by
  have ho := ht.get H
  have hk : k < vs.length := (List.getElem?_eq_some_iff.mp hy).1
  have hz' : vs.toArray.size ≤ sizeLine := Nat.le_trans (by rw [List.size_toArray]; exact hz) le_line
  have hfit := fits_nat (Nat.le_of_lt hk) hz
  have hsq : seqIndex? (k : Int) vs.toArray.size = some k := by unfold seqIndex?; simp; omega
  obtain ⟨x, hx⟩ : ∃ x : Int, x = k := ⟨_, rfl⟩
  rw [← hx] at hfit hsq ⊢
  have hm := MeetsSeq.list_pop_at l vs.toArray n x u k y hfit hsq (by simpa using hy) hz'
  refine call_meets F.slot_list_pop ⟨_, ho, rfl⟩ F.entry_list_pop (F.args_list_pop_2 _ _) hm ⟨ho, h _ (H.turnKp ht heap_upd ?_)⟩
  · have q := IsL.update ho (fun xs => xs.eraseIdxIfInBounds k)
    refine q.trans ?_
    have e : (vs.toArray.eraseIdxIfInBounds k) = (vs.eraseIdx k).toArray := by
      apply Array.toList_inj.mp; simp
    simp only [e, List.size_toArray]
    have : ((vs.eraseIdx k).length == vs.length) = false := by rw [beq_eq_false_iff_ne, List.length_eraseIdx]; simp [hk]; omega
    rw [this]; rfl

theorem rAppend {l : Addr} {vs : List Value} {n : Nat} {y : Value} {Q : Value → Shared → Prop} (H : Fs s₀ env own vars g I s) (ht : Turn l (listOf vs.toArray n) (listOf (vs ++ [y]).toArray (n + 1)) I I') (hz : vs.length ≤ 1000)
    (h : ∀ s', Fs s₀ env own vars g I' s' → Q .none s') : wpAny (model prog w) A (call (.builtin "list.append") [.ref l, y]) Q E s := by
  have ho := ht.get H
  refine append_at (hsz := Nat.le_trans (by simpa using hz) le_line) ho fun h' hs ho' => h _ (H.turn (h' := h') s.toks ht (fun b x hb e => (hs.2 b hb).trans e) ?_)
  rw [ho']; simp
end

/-! a part of the ledger that stands for good from here on -/
section
variable {s₀ s : Shared} {env : Env} {own : List Addr} {vars vars' : Vars} {g : Heap} {I I' : List (Addr × Obj)}
theorem Fs.rebase (H : Fs s₀ env own vars g I s) (hs : I'.Sublist I) : ∃ g', (∀ b o, g.get? b = some o → g'.get? b = some o) ∧ Fs s₀ env own vars g' I' s ∧ ∀ p ∈ I, p.1 ∉ I'.map (·.1) → g'.get? p.1 = some p.2 := by
  have hI' : ∀ p ∈ I', p ∈ I := fun p hp => hs.subset hp
  have hk : ∀ b o, g.get? b = some o → (hideAll s.heap (own ++ I'.map (·.1))).get? b = some o := fun b o e => hideAll_get _ (H.keep b o e) fun hm => by
    rcases List.mem_append.mp hm with hm | hm
    · rw [H.off _ hm] at e; cases e
    · obtain ⟨p, hp, rfl⟩ := List.mem_map.mp hm
      rw [(H.led p (hI' p hp)).2.1] at e; cases e
  refine ⟨hideAll s.heap (own ++ I'.map (·.1)), hk, ?_, fun p hp hn => hideAll_get _ (H.led p hp).1 fun hm => ?_⟩
  · exact { H with
      ns := by
        obtain ⟨m, a, b, c⟩ := H.ns
        exact ⟨m, a, b.imp id fun q => q.keeps hk, c⟩
      cell := fun p hp hx => let ⟨c, a, b, d⟩ := H.cell p hp hx; ⟨c, a, b, d.imp id fun q => q.keeps hk⟩
      keep := fun b o e => of_hideAll _ e
      off := fun a ha => hideAll_none _ (List.mem_append_left _ ha)
      led := fun p hp => ⟨(H.led p (hI' p hp)).1, hideAll_none _ (List.mem_append_right _ (List.mem_map_of_mem hp)), (H.led p (hI' p hp)).2.2⟩
      ndI := (hs.map _).nodup H.ndI }
  · rcases List.mem_append.mp hm with hm | hm
    · exact (H.led p hp).2.2 hm
    · exact hn hm
end

theorem Fs.drop1 {s₀ s : Shared} {env : Env} {own : List Addr} {vars : Vars} {g : Heap} {I : List (Addr × Obj)} {a : Addr} {o : Obj} (H : Fs s₀ env own vars g ((a, o) :: I) s) {h' : Heap} (k : Nat)
    (hk : ∀ b x, b ≠ a → s.heap.get? b = some x → h'.get? b = some x) : Fs s₀ env own vars g I { s with heap := h', toks := k } := by
  have hm := H.led _ (.head _)
  have hne : ∀ b ∈ own, b ≠ a := fun b hb e => hm.2.2 (e ▸ hb)
  have hng : ∀ b x, g.get? b = some x → b ≠ a := fun b x e q => by rw [q, hm.2.1] at e; cases e
  have hnd := List.nodup_cons.mp H.ndI
  exact { H with
    ns := let ⟨m, e, b, d⟩ := H.ns; ⟨m, e.at' fun o' e => hk _ _ (b.elim (hne _) fun q => by obtain ⟨o, _, _, f, _⟩ := q; exact hng _ _ f) e, b, d⟩
    cell := fun p hp hx => let ⟨c, e1, ⟨oc, e4, e5⟩, e2⟩ := H.cell p hp hx; ⟨c, e1, ⟨oc, hk _ _ (e2.elim (hne _) fun q => by obtain ⟨o, f, _⟩ := q; exact hng _ _ f) e4, e5⟩, e2⟩
    keep := fun b x e => hk b x (hng b x e) (H.keep b x e)
    exi := fun b hb => let ⟨x, e⟩ := H.exi b hb; ⟨x, hk b x (hne b hb) e⟩
    led := fun p hp => by
      have := H.led p (.tail _ hp)
      exact ⟨hk _ _ (fun e => hnd.1 (e ▸ List.mem_map_of_mem (f := (·.1)) hp)) this.1, this.2⟩
    ndI := hnd.2 }

/-! for -/
section
variable {prog : Program} {w : World} {A : Around} {s₀ s : Shared} {env : Env} {own : List Addr} {vars vars' : Vars} {g : Heap} {I I' : List (Addr × Obj)}
noncomputable def ForP (s₀ : Shared) (env : Env) (own : List Addr) (g : Heap) (it : Addr × Obj) (J : Nat → Vars → List (Addr × Obj) → Prop) (i : Nat) (Q : Flow → Shared → Prop) (f : Flow) (s : Shared) : Prop :=
  match f with
  | .brk => Q .next s
  | .ret v => Q (.ret v) s
  | _ => ∃ vars' I', J (i + 1) vars' I' ∧ Fs s₀ env own vars' g (it :: I') s
theorem forNext {it : Addr × Obj} {J : Nat → Vars → List (Addr × Obj) → Prop} {i : Nat} {Q : Flow → Shared → Prop} (H : Fs s₀ env own vars g (it :: I) s) (hj : J (i + 1) vars I) : ForP s₀ env own g it J i Q .next s := ⟨_, _, hj, H⟩
theorem forCont {it : Addr × Obj} {J : Nat → Vars → List (Addr × Obj) → Prop} {i : Nat} {Q : Flow → Shared → Prop} (H : Fs s₀ env own vars g (it :: I) s) (hj : J (i + 1) vars I) : ForP s₀ env own g it J i Q .cont s := ⟨_, _, hj, H⟩
theorem forRet {it : Addr × Obj} {J : Nat → Vars → List (Addr × Obj) → Prop} {i : Nat} {Q : Flow → Shared → Prop} {v : Value} (h : Q (.ret v) s) : ForP s₀ env own g it J i Q (.ret v) s := h
theorem rFor {target iter : Expr} {body : List Stmt} {pos : Pos} {Q : Flow → Shared → Prop}
    (h : wpAny (model prog w) A (eval iter env) (fun x s₁ => wpAny (model prog w) A (pyIter x) (fun it s₂ => codeAny (model prog w) A (.forLoop target it body [] env) (fun r s' => match r with | .ok f => Q f s' | .error _ => False) s₂) (fun _ _ => False) s₁) (fun _ _ => False) s)
    (hs : ∀ x, foldedSetIterable iter env x = pure x := by intro _; rfl) :
    wpAny (model prog w) A (exec (.For target iter body [] pos) env) Q (fun _ _ => False) s :=
  wpAny_For (wpAny_mono h (fun _ _ h₁ => wpAny_mono h₁ (fun _ _ h₂ => codeAny_mono h₂ fun r s' h₃ => by cases r with | ok => exact h₃ | error => exact h₃.elim) fun _ _ x => x) fun _ _ x => x) hs
theorem forGo {x : Str} {px : Pos} {body : List Stmt} {Q : Flow → Shared → Prop} {It : Addr} {fp : List Addr} {n : Nat} {P : Nat → Value → Prop} {St : Nat → Heap → Prop} {o : Obj} (J : Nat → Vars → List (Addr × Obj) → Prop)
    (W : Walks prog w A It fp [It] n P St) (hst : St 0 s.heap) (hal : ∀ i h, St i h → ∃ o, h.get? It = some o) (hfp : ∀ b ∈ fp, b = It ∨ ∃ o, g.get? b = some o) (H : Fs s₀ env own vars g ((It, o) :: I) s) (hj : J 0 vars I)
    (turn : ∀ i v vars I o s, i < n → P i v → J i vars I → Fs s₀ env own vars g ((It, o) :: I) s → wpAny (model prog w) A (storeName env x v) (fun _ s₂ => wpAny (model prog w) A (execs body env) (ForP s₀ env own g (It, o) J i Q) (fun _ _ => False) s₂) (fun _ _ => False) s)
    (done : ∀ vars I s, J n vars I → Fs s₀ env own vars g I s → Q .next s) :
    codeAny (model prog w) A (.forLoop (.Name x px) (.ref It) body [] env) (fun r s' => match r with | .ok f => Q f s' | .error _ => False) s := by
  refine codeAny_forLoop (fun k s => ∃ i vars I o, k = n + 1 - i ∧ i ≤ n ∧ J i vars I ∧ St i s.heap ∧ Fs s₀ env own vars g ((It, o) :: I) s) ?_ (n + 1) ⟨0, vars, I, o, rfl, Nat.zero_le _, hj, hst, H⟩
  rintro k s ⟨i, vars, I, o, rfl, hi, hj, hst, H⟩
  have ho := (H.led _ (.head _)).1
  have hg := (H.led _ (.head _)).2
  by_cases hlt : i < n
  · refine W.item i _ _ _ hlt hst fun v h' tk hP hst' hk => ?_
    -- the iterator's object now
    have hturn : ∀ o', h'.get? It = some o' → Fs s₀ env own vars g ((It, o') :: I) { s with heap := h', toks := tk } := fun o' e => H.turn tk .head (fun b x hb e => hk b x (by simpa using hb) e) e
    have hI := hal _ _ hst'
    obtain ⟨o', ho'⟩ := hI
    have H' := hturn o' ho'
    refine wpAny_mono (wpAny_assign_Name (turn i v vars I o' _ hlt hP hj H')) (fun _ s₂ h₂ => wpAny_mono h₂ (fun f s₃ h₃ => ?_) fun _ _ x => x.elim) fun _ _ x => x.elim
    have fin : (∃ vars' I', J (i + 1) vars' I' ∧ Fs s₀ env own vars' g ((It, o') :: I') s₃) → ∃ m, m < n + 1 - i ∧ ∃ i vars I o, m = n + 1 - i ∧ i ≤ n ∧ J i vars I ∧ St i s₃.heap ∧ Fs s₀ env own vars g ((It, o) :: I) s₃ := by
      rintro ⟨vars', I', hj', H₃⟩
      refine ⟨n + 1 - (i + 1), by omega, i + 1, vars', I', o', rfl, hlt, hj', ?_, H₃⟩
      refine W.frame _ _ _ hst' fun b hb x e => ?_
      rcases hfp b hb with rfl | ⟨y, hy⟩
      · have h1 := (H₃.led _ (.head _)).1
        have h2 : h'.get? b = some o' := ho'
        rw [h2] at e; cases e; exact h1
      · have h1 : h'.get? b = some y := H'.keep b y hy
        rw [h1] at e; cases e; exact H₃.keep b _ hy
    cases f with
    | next => exact fin h₃
    | cont => exact fin h₃
    | brk => exact h₃
    | ret v => exact h₃
  · have hin : i = n := by omega
    subst hin
    refine W.done _ _ _ hst fun h' tk hk => ?_
    exact wpAny_execs_nil (done vars I _ hj (H.drop1 tk fun b x hb e => hk b x (by simpa using hb) e))

/-- for x in (a list that stands) -/
theorem rForList {x : Str} {px pos : Pos} {iter : Expr} {body : List Stmt} {Q : Flow → Shared → Prop} {l : Addr} {items : Array Value} (J : Nat → Vars → List (Addr × Obj) → Prop) (_H : Fs s₀ env own vars g I s) (hA : A.handled = none) (hl : g.IsList l items)
    (hit : wpAny (model prog w) A (eval iter env) (fun v s₁ => v = .ref l ∧ ∃ vars I, Fs s₀ env own vars g I s₁ ∧ J 0 vars I) (fun _ _ => False) s)
    (turn : ∀ i v vars I o It s, items[i]? = some v → J i vars I → Fs s₀ env own vars g ((It, o) :: I) s → wpAny (model prog w) A (storeName env x v) (fun _ s₂ => wpAny (model prog w) A (execs body env) (ForP s₀ env own g (It, o) J i Q) (fun _ _ => False) s₂) (fun _ _ => False) s)
    (done : ∀ vars I s, J items.size vars I → Fs s₀ env own vars g I s → Q .next s)
    (hs : ∀ x, foldedSetIterable iter env x = pure x := by intro _; rfl) :
    wpAny (model prog w) A (exec (.For (.Name x px) iter body [] pos) env) Q (fun _ _ => False) s := by
  refine rFor (wpAny_mono hit (fun v s₁ h₁ => ?_) fun _ _ x => x) hs
  obtain ⟨rfl, vars, I, H, hj⟩ := h₁
  have hl₁ := H.isList hl
  refine wpAny_pyIter_list hl₁ ?_
  have hlt : l < s₁.heap.objs.size := by obtain ⟨o, e, _⟩ := hl₁; exact Heap.lt_size e
  have H₁ := H.add (h' := s₁.heap.push { cls := .type "list_iterator", data := .fields #[.ref l, .int 0 0] }) s₁.toks (fun b o e => Heap.get?_push_of_some _ e) (get_size_none _) (Heap.get?_push_size _ rfl)
  refine forGo J (Walks.list hA s₁.heap.objs.size l (Nat.ne_of_lt hlt) items) ⟨⟨_, Heap.get?_push_size _ rfl, rfl, rfl⟩, hl₁.push _⟩ (fun i h st => ?_) (fun b hb => ?_) H₁ hj (fun i v vars I o s hi hP hj H => turn i v vars I o _ s hP hj H) done
  · obtain ⟨o, e, _⟩ := st.1; exact ⟨o, e⟩
  · rcases List.mem_cons.mp hb with rfl | hb
    · exact .inl rfl
    · obtain ⟨o, e, _⟩ := hl
      rw [List.mem_singleton.mp hb]; exact .inr ⟨o, e⟩

/-- for x in range(n) -/
theorem rForRange {x : Str} {px pos : Pos} {iter : Expr} {body : List Stmt} {Q : Flow → Shared → Prop} {n : Nat} (J : Nat → Vars → List (Addr × Obj) → Prop) (_H : Fs s₀ env own vars g I s) (hA : A.handled = none) (hn : n ≤ 1000)
    (hit : wpAny (model prog w) A (eval iter env) (fun v s₁ => ∃ r t u t', v = .ref r ∧ IsRange s₁.heap r 0 n 1 t u t' ∧ ∃ vars I, Fs s₀ env own vars g I s₁ ∧ J 0 vars I) (fun _ _ => False) s)
    (turn : ∀ i t vars I o It s, i < n → J i vars I → Fs s₀ env own vars g ((It, o) :: I) s → wpAny (model prog w) A (storeName env x (.int i t)) (fun _ s₂ => wpAny (model prog w) A (execs body env) (ForP s₀ env own g (It, o) J i Q) (fun _ _ => False) s₂) (fun _ _ => False) s)
    (done : ∀ vars I s, J n vars I → Fs s₀ env own vars g I s → Q .next s)
    (hs : ∀ x, foldedSetIterable iter env x = pure x := by intro _; rfl) :
    wpAny (model prog w) A (exec (.For (.Name x px) iter body [] pos) env) Q (fun _ _ => False) s := by
  refine rFor (wpAny_mono hit (fun v s₁ h₁ => ?_) fun _ _ x => x) hs
  obtain ⟨r, t, u, t', rfl, hr, vars, I, H, hj⟩ := h₁
  have hsz : Builtin.Range.rangeSize 0 (n : Int) 1 = n := by rw [rangeSize_one]; split <;> omega
  refine wpAny_pyIter_range hr (small_one (by decide) (by decide) (by omega) (by omega)) ?_
  have H₁ := H.add (h' := s₁.heap.push { cls := .type "range_iterator", data := .fields #[rawInt 0, rawInt (Builtin.Range.rangeSize 0 n 1), rawInt 1] }) s₁.toks (fun b o e => Heap.get?_push_of_some _ e) (get_size_none _) (Heap.get?_push_size _ rfl)
  refine forGo J (Walks.range hA s₁.heap.objs.size 0 1 n) ?_ (fun i h st => ⟨_, st⟩) (fun b hb => .inl (List.mem_singleton.mp hb)) H₁ hj (fun i v vars I o s hi hP hj H => ?_) done
  · show IsRangeIter _ _ _ _ _
    rw [show (0 : Int) + ((0 : Nat) : Int) * 1 = 0 by simp, show (n : Int) - ((0 : Nat) : Int) = n by simp]
    rw [hsz]
    exact Heap.get?_push_size _ rfl
  · obtain ⟨t, rfl⟩ := hP
    rw [show (0 : Int) + (i : Int) * 1 = i by omega]
    exact turn i t vars I o _ s hi hj H
end

section
variable {prog : Program} {w : World} {A : Around} {E : Value → Shared → Prop} {s₀ s : Shared} {env : Env} {own : List Addr} {vars vars' : Vars} {g : Heap} {I I' : List (Addr × Obj)}
/-- a call of a built-in type by its name, one argument -/
theorem rCallT1 {x : Str} {np pos : Pos} {e : Expr} {id : String} {GL BL : List (Str × Value)} {FL : List (Addr × Obj)} {gs : List Str} {Q : Value → Shared → Prop} (G : Gd GL BL FL g) (hG : Gn env gs) (H : Fs s₀ env own vars g I s) (hx : x ∈ gs) (hm : (x, .type id) ∈ BL)
    (h : wpAny (model prog w) A (eval e env) (fun v s₁ => wpAny (model prog w) A (call (.type id) [v]) Q E s₁) E s) (hs : starEach [e] env = [(false, eval e env)] := by rfl) :
    wpAny (model prog w) A (eval (.Call (.Name x np) [e] [] pos) env) Q E s :=
  PySem.Call_name1 hs (rBuiltin G hG H hx hm (PySem.callWith_type1 h))
theorem rRange {n : Int} {t : Tok} {Q : Value → Shared → Prop} (H : Fs s₀ env own vars g I s) (h : ∀ r s' t0 t1, Fs s₀ env own vars g I s' → IsRange s'.heap r 0 n 1 t0 t t1 → Q (.ref r) s') : wpAny (model prog w) A (call (.type "range") [.int n t]) Q E s :=
  call_range_1 (h _ _ _ _ (H.grow (h' := s.heap.push _) _ fun b o e => Heap.get?_push_of_some _ e) (Heap.get?_push_size _ rfl))
theorem rListNil {pos : Pos} {Q : Value → Shared → Prop} (H : Fs s₀ env own vars g I s) (h : ∀ l s', Fs s₀ env own vars g ((l, listOf #[] 0) :: I) s' → Q (.ref l) s') : wpAny (model prog w) A (eval (.List [] pos) env) Q E s :=
  List_ (Calls.spliced_nil (wpAny_newObj_type (h _ _ (H.add (h' := s.heap.push _) s.toks (fun b o e => Heap.get?_push_of_some _ e) (get_size_none _) (Heap.get?_push_size _ rfl)))))
theorem rList {elts : List Expr} {pos : Pos} {Q : Value → Shared → Prop} (h : wpAny (model prog w) A (spliced (backTo pos (starEach elts env))) (fun vs s₁ => wpAny (model prog w) A (newList vs) Q E s₁) E s) : wpAny (model prog w) A (eval (.List elts pos) env) Q E s := List_ h
theorem rTuple {elts : List Expr} {k : Nat} {pos : Pos} {Q : Value → Shared → Prop} (h : wpAny (model prog w) A (spliced (backTo pos (starEach elts env))) (fun vs s₁ => wpAny (model prog w) A (newTuple vs) Q E s₁) E s) : wpAny (model prog w) A (eval (.Tuple elts k pos) env) Q E s := Tuple_ h
theorem rNewList {vs : List Value} {Q : Value → Shared → Prop} (H : Fs s₀ env own vars g I s) (hz : vs.length ≤ 1000) (h : ∀ l s', Fs s₀ env own vars g ((l, listOf vs.toArray 0) :: I) s' → Q (.ref l) s') : wpAny (model prog w) A (newList vs) Q E s :=
  wpAny_newObj_type (h _ _ (H.add (h' := s.heap.push _) s.toks (fun b o e => Heap.get?_push_of_some _ e) (get_size_none _) (Heap.get?_push_size _ rfl))) (by show vs.toArray.size ≤ sizeLine; rw [List.size_toArray]; exact Nat.le_trans hz le_line)
noncomputable abbrev tupOf (vs : List Value) : Obj := { cls := .type "tuple", data := .seq vs.toArray }
theorem rNewTuple {vs : List Value} {Q : Value → Shared → Prop} (H : Fs s₀ env own vars g I s) (hz : vs.length ≤ 1000) (h : ∀ l s', Fs s₀ env own vars g ((l, tupOf vs) :: I) s' → Q (.ref l) s') : wpAny (model prog w) A (newTuple vs) Q E s :=
  wpAny_newObj_type (h _ _ (H.add (h' := s.heap.push _) s.toks (fun b o e => Heap.get?_push_of_some _ e) (get_size_none _) (Heap.get?_push_size _ rfl))) (by show vs.toArray.size ≤ sizeLine; rw [List.size_toArray]; exact Nat.le_trans hz le_line)
/-- xs[a:b] of a list -/
theorem rSlice {value : Expr} {lower upper : Option Expr} {p pos : Pos} {Q : Value → Shared → Prop} (_H : Fs s₀ env own vars g I s)
    (h : wpAny (model prog w) A (eval value env) (fun o s₁ => wpAny (model prog w) A (evalPart lower env) (fun vl s₂ => wpAny (model prog w) A (evalPart upper env) (fun vu s₃ =>
      ∃ l items lo hi vars I, o = .ref l ∧ s₃.heap.IsList l items ∧ items.size ≤ 1000 ∧ IsPart vl lo ∧ IsPart vu hi ∧ Fs s₀ env own vars g I s₃ ∧ ∀ l' s', Fs s₀ env own vars g ((l', listOf (slicePick items lo hi none) 0) :: I) s' → Q (.ref l') s') E s₂) E s₁) E s)
    (ht : ∀ o r, letTemporaryGo value o r = pure () := by intro _ _; rfl) : wpAny (model prog w) A (eval (.Subscript value (.Slice lower upper none p) pos) env) Q E s := by
  refine wpAny_Subscript_list_slice (wpAny_mono h (fun o s₁ h₁ => wpAny_mono h₁ (fun vl s₂ h₂ => wpAny_mono h₂ (fun vu s₃ h₃ => ?_) fun _ _ x => x) fun _ _ x => x) fun _ _ x => x) ht
  obtain ⟨l, items, lo, hi, vars, I, rfl, hl, hz, pl, pu, H, hQ⟩ := h₃
  refine ⟨l, items, lo, hi, rfl, hl, Nat.le_trans hz le_line, pl, pu, ?_⟩
  rw [← Heap.size_push s₃.heap ({ cls := .type "slice", data := .fields #[vl, vu, .none] } : Obj)]
  refine hQ _ _ ((H.grow (h' := s₃.heap.push _) s₃.toks fun b o e => Heap.get?_push_of_some _ e).add (h' := Heap.push _ _) s₃.toks (fun b o e => Heap.get?_push_of_some _ e) (get_size_none _) (Heap.get?_push_size _ rfl))
theorem rPart {e : Expr} {Q : Value → Shared → Prop} (h : wpAny (model prog w) A (eval e env) Q E s) : wpAny (model prog w) A (evalPart (some e) env) Q E s := h
theorem rPartNone {Q : Value → Shared → Prop} (h : Q .none s) : wpAny (model prog w) A (evalPart none env) Q E s := wpAny_pure h
end

/-! more rules: a list copied, two names at once, rows of pairs compared -/
section
variable {s₀ s s' : Shared} {env : Env} {own : List Addr} {vars vars' : Vars} {g : Heap} {I I' : List (Addr × Obj)}
theorem Fs.addMany (H : Fs s₀ env own vars g I s) (k : Kp s s') (N : List (Addr × Obj)) (hf : ∀ p ∈ N, s.heap.get? p.1 = none) (hN : ∀ p ∈ N, s'.heap.get? p.1 = some p.2) (nd : (N.map (·.1)).Nodup) : Fs s₀ env own vars g (N ++ I) s' := by
  have H' := H.kp k
  exact { H' with
    led := fun p hp => by
      rcases List.mem_append.mp hp with hp | hp
      · exact ⟨hN p hp, H.none_of_size (hf p hp), fun hm => by obtain ⟨o, e⟩ := H.exi _ hm; rw [hf p hp] at e; cases e⟩
      · exact H'.led p hp
    ndI := by
      rw [List.map_append]
      refine List.nodup_append.mpr ⟨nd, H.ndI, fun a ha b hb e => ?_⟩
      obtain ⟨p, hp, rfl⟩ := List.mem_map.mp ha
      obtain ⟨q, hq, rfl⟩ := List.mem_map.mp hb
      have h1 := hf p hp
      have h2 := (H.led q hq).1
      rw [e, h2] at h1; cases h1 }
end
section
variable {prog : Program} {w : World} {A : Around} {E : Value → Shared → Prop} {s₀ s : Shared} {env : Env} {own : List Addr} {vars vars' : Vars} {g : Heap} {I I' : List (Addr × Obj)}
theorem rListCopy {l : Addr} {vs : List Value} {Q : Value → Shared → Prop} (H : Fs s₀ env own vars g I s) (hl : s.heap.IsList l vs.toArray) (hz : vs.length ≤ 1000) (h : ∀ D c s', Fs s₀ env own vars g ((D, listOf vs.toArray c) :: I) s' → Q (.ref D) s') :
    wpAny (model prog w) A (call (.type "list") [.ref l]) Q E s := by
  obtain ⟨o, ho, hc, n, hd⟩ := hl
  exact call_list_seq (hsz := Nat.le_trans (by simpa using hz) le_line) l (.inl rfl) ho hc hd fun h' c' hk hD => h _ c' _ (H.add (h' := h') s.toks hk (get_size_none _) hD)
theorem rAssign2 {x y : Str} {p1 p2 tp pos : Pos} {k : Nat} {value : Expr} {Q : Flow → Shared → Prop} (hA : A.handled = none)
    (h : wpAny (model prog w) A (eval value env) (fun v s₁ => ∃ t a b, v = .ref t ∧ s₁.heap.get? t = some (tupOf [a, b]) ∧ ∀ s₂, Kp s₁ s₂ → wpAny (model prog w) A (storeName env x a) (fun _ s₃ => wpAny (model prog w) A (storeName env y b) (fun _ s₄ => Q .next s₄) E s₃) E s₂) E s)
    (hs : swapsWithSole [.Tuple [.Name x p1, .Name y p2] k tp] value pos.line env = pure false := by rfl) (hw : swappedStores [.Tuple [.Name x p1, .Name y p2] k tp] value env = pure none := by rfl) :
    wpAny (model prog w) A (exec (.Assign [.Tuple [.Name x p1, .Name y p2] k tp] value pos) env) Q E s := by
  refine Assign_Tuple (wpAny_mono h (fun v s₁ h₁ => ?_) fun _ _ x => x) hs hw
  obtain ⟨t, a, b, rfl, ht, h₁⟩ := h₁
  refine wpAny_assign_Tuple hA (items := #[a, b]) ⟨_, ht, rfl, 0, rfl⟩ rfl rfl fun h' hx => ?_
  show wpAny (model prog w) A (assignInOrder [assign (.Name x p1) env, assign (.Name y p2) env] [a, b]) _ E _
  refine wpAny_bind (wpAny_holding (wpAny_assign_Name (wpAny_mono (h₁ _ ⟨rfl, rfl, rfl, fun b o e => hx b o (Nat.ne_of_lt (Heap.lt_size e)) e⟩) (fun _ s₃ h₃ => ?_) fun _ _ x => x)))
  exact wpAny_bind (wpAny_holding (wpAny_assign_Name (wpAny_mono h₃ (fun _ s₄ h₄ => wpAny_pure h₄) fun _ _ x => x)))

/-- v is a tuple of two ints -/
noncomputable def IsPair (h : Heap) (v : Value) : Prop := ∃ a i j t u, v = .ref a ∧ h.get? a = some (tupOf [.int i t, .int j u])
theorem reads_pairs {h : Heap} : ∀ {vs : List Value}, (∀ v ∈ vs, IsPair h v) → ∃ ps : List (Int × Int), ps.length = vs.length ∧ ∃ as, ReadsAll h vs (ps.map fun p => PyData.tuple [.int p.1, .int p.2]) as
  | [], _ => ⟨[], rfl, _, .nil⟩
  | v :: vs, hv => by
    obtain ⟨ps, hps, as, hr⟩ := reads_pairs fun u hu => hv u (List.mem_cons_of_mem _ hu)
    obtain ⟨a, i, j, t, u, rfl, ha⟩ := hv v List.mem_cons_self
    refine ⟨(i, j) :: ps, by simp [hps], _, .cons (Reads.tuple (vs := #[.int i t, .int j u]) ha rfl rfl (ReadsAll.cons (Reads.int i t) (ReadsAll.cons (Reads.int j u) .nil))) hr⟩
open PySem.SeqAt in
theorem shaped_pairs (ps : List (Int × Int)) : shaped (.list (ps.map fun p => PyData.tuple [.int p.1, .int p.2])) = true := by
  have h1 : PyData.canLayAll0 (ps.map fun p => PyData.tuple [.int p.1, .int p.2]) = true := by
    induction ps with
    | nil => simp [PyData.canLayAll0]
    | cons p r ih => simp [PyData.canLayAll0, PyData.canLay0, ih]
  have h2 : PyData.depthAll (ps.map fun p => PyData.tuple [.int p.1, .int p.2]) ≤ 3 := by
    induction ps with
    | nil => simp [PyData.depthAll]
    | cons p r ih =>
      have := ih (by simpa [PyData.canLayAll0, PyData.canLay0] using h1)
      simp only [List.map_cons, PyData.depthAll, PyData.depth] at this ⊢
      omega
  unfold shaped
  rw [Bool.and_eq_true]
  refine ⟨by simp only [PyData.canLay0]; exact h1, decide_eq_true (by simp only [PyData.depth]; omega)⟩
/-- row != [] -/
theorem rNePairs {a b : Addr} {vs : List Value} {n m : Nat} {Q : Value → Shared → Prop} (hA : Ar 0 A) (ha : s.heap.get? a = some (listOf vs.toArray n)) (hp : ∀ v ∈ vs, IsPair s.heap v) (hb : s.heap.get? b = some (listOf #[] m))
    (h : Q (.bool (!decide (vs = []))) s) : wpAny (model prog w) A (compareOp .NotEq (.ref a) (.ref b)) Q E s := by
  obtain ⟨ps, hps, as, hr⟩ := reads_pairs hp
  refine ne_dataH_same (Reads.list ha rfl rfl (by simpa using hr)) (Reads.list (vs := #[]) (xs := []) hb rfl rfl .nil) (shaped_pairs ps) rfl (by have := hA.units; omega) ?_ ?_
  · cases ps with
    | nil => rfl
    | cons p r => simp [SeqAt.noMix, SeqAt.noMixAll]
  · have e : PySem.Spec.same (.list (ps.map fun p => PyData.tuple [.int p.1, .int p.2])) (.list []) = decide (vs = []) := by
      cases ps with
      | nil => have : vs = [] := List.eq_nil_of_length_eq_zero (by simpa using hps.symm); simp [this, PySem.Spec.same, PySem.Spec.sameAll]
      | cons p r =>
        have : vs ≠ [] := fun q => by rw [q] at hps; simp at hps
        simp [this, PySem.Spec.same, PySem.Spec.sameAll]
    rw [e]; exact h
end

section
variable {prog : Program} {w : World} {A : Around} {E : Value → Shared → Prop} {s₀ s : Shared} {env : Env} {own : List Addr} {vars vars' : Vars} {g : Heap} {I I' : List (Addr × Obj)}
theorem rLen {l : Addr} {vs : List Value} {n : Nat} {Q : Value → Shared → Prop} (H : Fs s₀ env own vars g I s) (hl : s.heap.IsList l vs.toArray) (hn : vs.length = n) (hz : n ≤ 1000) (h : ∀ t s', Fs s₀ env own vars g I s' → Q (.int n t) s') :
    wpAny (model prog w) A (call (.builtin "len") [.ref l]) Q E s := rLenL H hl (by simpa [hn] using hz) fun t s' H' => by
  have := h t s' H'
  simpa [hn] using this
theorem rAnd {x : Expr} {rest : List Expr} {pos : Pos} {whole : Sem Value} {Q : Bool → Shared → Prop}
    (h : wpAny (model prog w) A (isTrue x env (eval x env)) (fun c s' => Br c (wpAny (model prog w) A (isTrue (.BoolOp .And rest pos) env whole) Q E s') (Q false s')) E s) :
    wpAny (model prog w) A (isTrue (.BoolOp .And (x :: rest) pos) env whole) Q E s := isTrue_and (wpAny_mono h (fun c s' h' => by cases c <;> exact h') fun _ _ x => x)
theorem rOr {x : Expr} {rest : List Expr} {pos : Pos} {whole : Sem Value} {Q : Bool → Shared → Prop}
    (h : wpAny (model prog w) A (isTrue x env (eval x env)) (fun c s' => Br c (Q true s') (wpAny (model prog w) A (isTrue (.BoolOp .Or rest pos) env whole) Q E s')) E s) :
    wpAny (model prog w) A (isTrue (.BoolOp .Or (x :: rest) pos) env whole) Q E s := isTrue_or (wpAny_mono h (fun c s' h' => by cases c <;> exact h') fun _ _ x => x)
theorem rAndNil {pos : Pos} {whole : Sem Value} {Q : Bool → Shared → Prop} (h : Q true s) : wpAny (model prog w) A (isTrue (.BoolOp .And [] pos) env whole) Q E s := isTrue_and_nil h
theorem rOrNil {pos : Pos} {whole : Sem Value} {Q : Bool → Shared → Prop} (h : Q false s) : wpAny (model prog w) A (isTrue (.BoolOp .Or [] pos) env whole) Q E s := isTrue_or_nil h
end

theorem ints_append : ∀ {vs us : List Value} {ns ms : List Int}, IntsAre vs ns → IntsAre us ms → IntsAre (vs ++ us) (ns ++ ms)
  | _, _, _, _, .nil, h => h
  | _, _, _, _, .cons n t r, h => .cons n t (ints_append r h)
theorem ints_take : ∀ {vs : List Value} {ns : List Int} (k : Nat), IntsAre vs ns → IntsAre (vs.take k) (ns.take k)
  | _, _, 0, _ => .nil
  | _, _, _ + 1, .nil => .nil
  | _, _, k + 1, .cons n t r => .cons n t (ints_take k r)
theorem ints_drop : ∀ {vs : List Value} {ns : List Int} (k : Nat), IntsAre vs ns → IntsAre (vs.drop k) (ns.drop k)
  | _, _, 0, h => h
  | _, _, _ + 1, .nil => .nil
  | _, _, k + 1, .cons n t r => ints_drop k r
theorem ints_erase : ∀ {vs : List Value} {ns : List Int} (k : Nat), IntsAre vs ns → IntsAre (vs.eraseIdx k) (ns.eraseIdx k)
  | _, _, _, .nil => .nil
  | _, _, 0, .cons n t r => r
  | _, _, k + 1, .cons n t r => .cons n t (ints_erase k r)

local macro_rules | `(tactic| walk_at "m.mem") => `(tactic| with_reducible first | exact List.mem_cons_self | (refine List.mem_cons_of_mem _ ?_; walk_at "m.mem"))
local macro_rules | `(tactic| walk_at "m.put") => `(tactic| with_reducible first | exact Put.head | (apply Put.tail; walk_at "m.put"))
local macro_rules | `(tactic| walk_at "m.turn") => `(tactic| with_reducible first | exact Turn.head | (apply Turn.tail; walk_at "m.turn"))
/- one step of the walk -/
local macro_rules | `(tactic| walk_at "m") => `(tactic| first
  | with_reducible refine rSeq ?_
  | with_reducible refine seqNext ?_
  | with_reducible refine rNil ?_
  | with_reducible refine rName (by assumption) (by walk_at "m.mem") ?_
  | with_reducible refine rIf ?_
  | ((with_reducible show wpAny _ _ (exec (Stmt.Assign _ _ _) _) _ _ _); refine rAssign ?_)
  | ((with_reducible show wpAny _ _ (isTrue (Expr.Compare _ _ _ _) _ _) _ _ _); refine wpAny_isTrue_Compare1 ?_)
  | ((with_reducible show wpAny _ _ (eval (Expr.Compare _ _ _ _) _) _ _ _); refine wpAny_Compare1 ?_)
  | with_reducible refine rBin ?_
  | ((fail_if_success (with_reducible show wpAny _ _ (eval (Expr.Subscript _ (Expr.Slice _ _ _ _) _) _) _ _ _)); (with_reducible refine rSub ?_))
  | ((with_reducible rename Fs _ _ _ _ _ _ _ => Hq); (with_reducible refine rStore (by assumption) Hq (by walk_at "m.put") ?_); (clear Hq); intro _ _)
  | ((with_reducible rename Fs _ _ _ _ _ _ _ => Hq); (with_reducible refine rInt Hq ?_); (clear Hq); intro _ _ _)
  | ((with_reducible rename Fs _ _ _ _ _ _ _ => Hq); (with_reducible refine rStr Hq ?_); (clear Hq); intro _ _ _)
  | ((with_reducible rename Fs _ _ _ _ _ _ _ => Hq); (with_reducible refine rAddI Hq ?_); (clear Hq); intro _ _ _)
  | ((with_reducible rename Fs _ _ _ _ _ _ _ => Hq); (with_reducible refine rSubI Hq ?_); (clear Hq); intro _ _ _)
  | ((with_reducible rename Fs _ _ _ _ _ _ _ => Hq); (with_reducible refine rIaddI Hq ?_); (clear Hq); intro _ _ _)
  | ((with_reducible rename Fs _ _ _ _ _ _ _ => Hq); (with_reducible refine rDivI Hq (by omega) (by omega) ?_); (clear Hq); intro _ _ _)
  | ((with_reducible rename Fs _ _ _ _ _ _ _ => Hq); (with_reducible refine rModI Hq (by omega) ?_); (clear Hq); intro _ _ _)
  | with_reducible refine rNone ?_
  | with_reducible refine rLtI ?_
  | with_reducible refine rGtI ?_
  | with_reducible refine rIsNone ?_
  | with_reducible refine rTruthB ?_
  | with_reducible refine rReturn ?_
  | with_reducible refine seqRet ?_
  | ((with_reducible show Br _ _ _); (first | with_reducible refine Br.yes rfl ?_ | with_reducible refine Br.no rfl ?_ | refine Br.yes (by decide) ?_ | refine Br.no (by decide) ?_ | ((fail_if_success (with_reducible show Br (decide _) _ _)); (fail_if_success (with_reducible show Br (!(decide _)) _ _)); (first | refine Br.yes rfl ?_ | refine Br.no rfl ?_))))
  | ((with_reducible show wpAny _ _ (eval (Expr.Call (Expr.Name _ _) [_] [] _) _) _ _ _); refine rCall1 (by assumption) (by assumption) (by assumption) (by walk_at "m.mem") (by walk_at "m.mem") ?_)
  | ((with_reducible show wpAny _ _ (spliced (backTo _ (starEach (_ :: _) _))) _ _ _); refine args_cons ?_)
  | ((with_reducible show wpAny _ _ (spliced (backTo _ (starEach [] _))) _ _ _); refine args_nil ?_)
  | ((with_reducible show wpAny _ _ (exec (Stmt.Expr _ _) _) _ _ _); refine rExpr (by assumption) ?_)
  | ((with_reducible show wpAny _ _ (eval (Expr.Call (Expr.Name _ _) [_] [] _) _) _ _ _); refine rCallT1 (by assumption) (by assumption) (by assumption) (by walk_at "m.mem") (by walk_at "m.mem") ?_)
  | ((with_reducible show wpAny _ _ (evalPart (some _) _) _ _ _); refine rPart ?_)
  | ((with_reducible show wpAny _ _ (evalPart none _) _ _ _); refine rPartNone ?_)
  | with_reducible refine rGeI ?_
  | ((with_reducible rename Fs _ _ _ _ _ _ _ => Hq); (with_reducible refine rListNil Hq ?_); (clear Hq); intro _ _ _)
  | ((with_reducible show wpAny _ _ (eval (Expr.List _ _) _) _ _ _); refine rList ?_)
  | ((with_reducible show wpAny _ _ (eval (Expr.Tuple _ _ _) _) _ _ _); refine rTuple ?_)
  | ((with_reducible show wpAny _ _ (newList _) _ _ _); (with_reducible rename Fs _ _ _ _ _ _ _ => Hq); (refine rNewList Hq (Nat.le_of_ble_eq_true rfl) ?_); (clear Hq); intro _ _ _)
  | ((with_reducible show wpAny _ _ (newTuple _) _ _ _); (with_reducible rename Fs _ _ _ _ _ _ _ => Hq); (refine rNewTuple Hq (Nat.le_of_ble_eq_true rfl) ?_); (clear Hq); intro _ _ _)
  | ((with_reducible show wpAny _ _ (isTrue (Expr.BoolOp .And (_ :: _) _) _ _) _ _ _); refine rAnd ?_)
  | ((with_reducible show wpAny _ _ (isTrue (Expr.BoolOp .And [] _) _ _) _ _ _); refine rAndNil ?_)
  | ((with_reducible show wpAny _ _ (isTrue (Expr.BoolOp .Or (_ :: _) _) _ _) _ _ _); refine rOr ?_)
  | ((with_reducible show wpAny _ _ (isTrue (Expr.BoolOp .Or [] _) _ _) _ _ _); refine rOrNil ?_))
local macro_rules | `(tactic| walk_at "m.sub") => `(tactic| first | exact List.Sublist.refl _ | (apply List.Sublist.cons₂; walk_at "m.sub") | (apply List.Sublist.cons; walk_at "m.sub") | exact List.nil_sublist _)

noncomputable abbrev pg : Program := PySem.Challenge.rw_kl0336_01.row.prog
/-- the parts of the text's i-th statement, a def -/
noncomputable def nameAt (i : Nat) : Str := match pg.main.body[i]? with | some (.FunctionDef n _ _ _ _ _ _ _ _ _) => n | _ => Str.empty
noncomputable def paramsAt (i : Nat) : Arguments := match pg.main.body[i]? with | some (.FunctionDef _ a _ _ _ _ _ _ _ _) => a | _ => ⟨[], [], none, [], [], none, []⟩
noncomputable def bodyAt (i : Nat) : List Stmt := match pg.main.body[i]? with | some (.FunctionDef _ _ b _ _ _ _ _ _ _) => b | _ => []
noncomputable def scopeAt (i : Nat) : Scope := match pg.main.body[i]? with | some (.FunctionDef _ _ _ _ _ _ sc _ _ _) => sc | _ => default
noncomputable def fdAt (i : Nat) (dV kV pm cdv : Value) : FuncData := fnOf (nameAt i) (nameAt i) (paramsAt i) (bodyAt i) (scopeAt i) dV kV .none pm none cdv .none


/-- a function of the text as it stands in the heap -/
structure FnIs (h : Heap) (f i : Nat) (dV kV cdv : Value) : Prop where
  ob : ∃ o pm, h.get? f = some o ∧ o.data = .func (fdAt i dV kV pm cdv)
  code : h.CodeRec cdv (nameAt i)
theorem FnIs.keeps {h h' : Heap} {f i : Nat} {dV kV cdv : Value} (x : FnIs h f i dV kV cdv) (k : ∀ b o, h.get? b = some o → h'.get? b = some o) : FnIs h' f i dV kV cdv :=
  ⟨let ⟨o, pm, a, b⟩ := x.ob; ⟨o, pm, k _ _ a, b⟩, x.code.keeps k⟩

/-- the names of a def: those that are given are locals, the others are the text's or built in -/
noncomputable def namesOk (i : Nat) (vs gs : List Str) : Bool :=
  (vs.all fun x => (scopeAt i).names.lookup x == some .local && !(x == ("__debug__" : Str)) && !(x == ("__classdict__" : Str))) &&
  (gs.all fun x => (scopeAt i).names.lookup x == some .globalImplicit && !(x == ("__debug__" : Str))) &&
  ((scopeAt i).names.all fun x => !(x.2 == .cell) && !(x.2 == .free)) && decide vs.Nodup && !(scopeAt i).isCoroutine && !(scopeAt i).isGenerator && (scopeAt i).kind == .function
structure NamesAre (i : Nat) (vs gs : List Str) : Prop where
  vars : ∀ x ∈ vs, (scopeAt i).names.lookup x = some .local ∧ (x == ("__debug__" : Str)) = false ∧ (x == ("__classdict__" : Str)) = false
  globs : ∀ x ∈ gs, (scopeAt i).names.lookup x = some .globalImplicit ∧ (x == ("__debug__" : Str)) = false
  cells : ∀ x ∈ (scopeAt i).names, x.2 ≠ .cell ∧ x.2 ≠ .free
  nd : vs.Nodup
  co : (scopeAt i).isCoroutine = false
  gen : (scopeAt i).isGenerator = false
  kind : (scopeAt i).kind = .function
theorem names_of {i : Nat} {vs gs : List Str} (h : namesOk i vs gs = true) : NamesAre i vs gs := by
  simp only [namesOk, Bool.and_eq_true, List.all_eq_true, beq_iff_eq, Bool.not_eq_true', decide_eq_true_eq, beq_eq_false_iff_ne] at h
  obtain ⟨⟨⟨⟨⟨⟨h1, h2⟩, h3⟩, h4⟩, h5⟩, h6⟩, h7⟩ := h
  exact ⟨fun x hx => ⟨(h1 x hx).1.1, by simpa using (h1 x hx).1.2, by simpa using (h1 x hx).2⟩, fun x hx => ⟨(h2 x hx).1, by simpa using (h2 x hx).2⟩, fun x hx => ⟨(h3 x hx).1, (h3 x hx).2⟩, h4, h5, h6, h7⟩

section
variable {prog : Program} {w : World} {A : Around} {s : Shared} {vars : Vars} {g : Heap} {I : List (Addr × Obj)} {gs : List Str}
theorem enterAt {f i : Nat} {dV kV cdv : Value} {args : Args} {binds : List (Str × Value)} {R : Result → Shared → Prop} (vars : Vars) (hn : NamesAre i (vars.map (·.1)) gs) (hA : Ar 1 A) (hf : FnIs s.heap f i dV kV cdv) (hlim : s.heap.NoLimit)
    (hbind : ∀ pm, BindsTo s (fdAt i dV kV pm cdv) args binds) (hbl : ∀ x ∈ binds, x.1 ∈ vars.map (·.1)) (hv : ∀ p ∈ vars, binds.reverse.lookup p.1 = p.2)
    (hg : ∀ b o, g.get? b = some o → s.heap.get? b = some o) (hI : ∀ p ∈ I, s.heap.get? p.1 = some p.2 ∧ g.get? p.1 = none) (hnI : (I.map (·.1)).Nodup)
    (h : ∀ env L s', Sto env [L] → Gn env gs → L = s.heap.objs.size → Fs s env [L] vars g I s' → (∀ b o, s.heap.get? b = some o → s'.heap.get? b = some o) →
      wpAny (model prog w) (A.deeper env) (execs (bodyAt i) env) (fun f s' => R (.ok (.ret (match f with | .ret v => v | _ => .none))) s') (fun _ _ => False) s') :
    codeAny (model prog w) A (.call (.ref f) args) R s := by
  obtain ⟨o, pm, ho, hd⟩ := hf.ob
  exact enter (by have := hA.depth; omega) ho hd hlim hf.code rfl (hbind pm) hn.cells (fun x hx => (hn.vars _ (hbl x hx)).1) rfl rfl rfl hv (fun p hp => hn.vars _ (List.mem_map_of_mem hp)) hn.nd hn.globs hg hI hnI h hn.co hn.gen hn.kind
end

noncomputable abbrev GLs : List (Str × Value) := [("insort_left", .ref 23), ("bisect_left", .ref 32), ("CRLF", .str "\r\n" 216), ("hexdigits", .str "0123456789abcdefABCDEF" 1261), ("unquote", .ref 55), ("_QUOPRI_BODY_ENCODE_MAP", .ref 64),
  ("body_encode", .ref 75), ("decode", .ref 83), ("_law_moves", .ref 90), ("_law_pushed", .ref 97)]
noncomputable abbrev BLs : List (Str × Value) := [("len", .builtin "len"), ("range", .type "range"), ("list", .type "list"), ("int", .type "int"), ("chr", .builtin "chr"), ("sum", .builtin "sum"), ("sorted", .builtin "sorted")]
/-- what body_encode writes for a sign below 256 -/
noncomputable def hexSign (n : Nat) : Nat := if n < 10 then 48 + n else 55 + n
noncomputable def bare (c : Nat) : Bool := c == 9 || c == 10 || c == 13 || (32 ≤ c && c ≤ 126 && c != 61)
noncomputable def enc (c : Nat) : List Nat := if bare c then [c] else [61, hexSign (c / 16), hexSign (c % 16)]
structure TX (g : Heap) : Prop where
  gd : Gd GLs BLs [] g
  fI : FnIs g 23 1 (.ref 15) (.ref 16) (.ref 22)
  fB : FnIs g 32 2 (.ref 24) (.ref 25) (.ref 31)
  fU : FnIs g 55 17 .none .none (.ref 54)
  fE : FnIs g 75 22 (.ref 68) .none (.ref 74)
  fD : FnIs g 83 23 (.ref 76) .none (.ref 82)
  fM : FnIs g 90 25 .none .none (.ref 89)
  fP : FnIs g 97 26 .none .none (.ref 96)
  d15 : ∃ t, g.get? 15 = some ⟨.type "tuple", none, .seq #[.int 0 t, .none] 0, #[]⟩
  d16 : ∃ hsh tk ep, g.get? 16 = some ⟨.type "dict", none, .dict #[⟨hsh, .str "key" tk, .none⟩] ep, #[]⟩
  d24 : ∃ t, g.get? 24 = some ⟨.type "tuple", none, .seq #[.int 0 t, .none] 0, #[]⟩
  d25 : ∃ hsh tk ep, g.get? 25 = some ⟨.type "dict", none, .dict #[⟨hsh, .str "key" tk, .none⟩] ep, #[]⟩
  d68 : ∃ t u, g.get? 68 = some ⟨.type "tuple", none, .seq #[.int 76 t, .str "\n" u] 0, #[]⟩
  d76 : ∃ u, g.get? 76 = some ⟨.type "tuple", none, .seq #[.str "\n" u] 0, #[]⟩
  tab : ∃ items : Array Value, g.IsList 64 items ∧ items.size = 256 ∧ ∀ c, c < 256 → ∃ t, items[c]? = some (.str ⟨(enc c).toArray⟩ t)
theorem TX.keeps {g h : Heap} (T : TX g) (k : ∀ b o, g.get? b = some o → h.get? b = some o) : TX h where
  gd := T.gd.keeps k
  fI := T.fI.keeps k
  fB := T.fB.keeps k
  fU := T.fU.keeps k
  fE := T.fE.keeps k
  fD := T.fD.keeps k
  fM := T.fM.keeps k
  fP := T.fP.keeps k
  d15 := let ⟨t, e⟩ := T.d15; ⟨t, k _ _ e⟩
  d16 := let ⟨a, b, c, e⟩ := T.d16; ⟨a, b, c, k _ _ e⟩
  d24 := let ⟨t, e⟩ := T.d24; ⟨t, k _ _ e⟩
  d25 := let ⟨a, b, c, e⟩ := T.d25; ⟨a, b, c, k _ _ e⟩
  d68 := let ⟨a, b, e⟩ := T.d68; ⟨a, b, k _ _ e⟩
  d76 := let ⟨a, e⟩ := T.d76; ⟨a, k _ _ e⟩
  tab := let ⟨a, b, c⟩ := T.tab; ⟨a, b.at fun o e => k _ _ e, c⟩
theorem hide_keeps {g h : Heap} {l : Addr} (hg : ∀ b o, g.get? b = some o → h.get? b = some o) (hl : g.get? l = none) : ∀ b o, g.get? b = some o → (h.hide l).get? b = some o :=
  fun b o e => (Heap.hide_ne h fun q => by rw [q, hl] at e; cases e).trans (hg b o e)
theorem hide_of {h : Heap} {l : Addr} : ∀ b o, (h.hide l).get? b = some o → h.get? b = some o := fun _ _ e => Heap.of_hide e
section
variable {s s' : Shared} {env : Env} {own : List Addr} {vars : Vars} {I : List (Addr × Obj)} {l : Addr}
theorem Fs.outBut (H : Fs s env own vars (s.heap.hide l) I s') : KpBut l s s' := ⟨H.gens, H.drawn, H.os, fun b o hb e => H.keep b o ((Heap.hide_ne s.heap hb).trans e)⟩
end

section
variable {prog : Program} {w : World} {A : Around} {E : Value → Shared → Prop} {s₀ s : Shared} {env : Env} {own : List Addr} {vars vars' : Vars} {g : Heap} {I I' : List (Addr × Obj)} {gs : List Str}
/-- a call of one of the text's defs by its name -/
theorem rCallF {x : Str} {np pos : Pos} {e : Expr} {rest : List Expr} {f i : Nat} {dV kV cdv : Value} {Q : Value → Shared → Prop} (hf : FnIs g f i dV kV cdv) (G : Gd GLs BLs [] g) (hG : Gn env gs) (H : Fs s₀ env own vars g I s) (hx : x ∈ gs) (hm : (x, .ref f) ∈ GLs)
    (h : wpAny (model prog w) A (spliced (backTo pos (starEach (e :: rest) env))) (fun vs s₁ => (∀ b o, g.get? b = some o → s₁.heap.get? b = some o) ∧ wpAny (model prog w) A (call (.ref f) vs) Q E s₁) E s)
    (he : starEach (e :: rest) env = (false, eval e env) :: starEach rest env := by rfl) :
    wpAny (model prog w) A (eval (.Call (.Name x np) (e :: rest) [] pos) env) Q E s := by
  obtain ⟨o, pm, ho, hd⟩ := hf.ob
  exact Call_ (rGlobal G hG H hx hm (callWith_def hd (wpAny_mono h (fun vs s₁ h₁ => ⟨h₁.1 _ _ ho, h₁.2⟩) fun _ _ x => x) he))
theorem callR {f : Value} {args : List Value} {Q : Value → Shared → Prop} (h : ∀ R : Result → Shared → Prop, (∀ v s', Q v s' → R (.ok (.ret v)) s') → codeAny (model prog w) A (.call f ⟨args, []⟩) R s) : wpAny (model prog w) A (call f args) Q E s :=
  wpAny_call (h _ fun _ _ q => q)
end

theorem names_bis : NamesAre 2 ["a", "x", "lo", "hi", "key", "mid"] ["len", "ValueError"] := names_of (by decide +kernel)
section
variable {w : World} {A : Around} {s : Shared}

theorem lows_le (ns : List Int) (x : Int) : lows ns x ≤ ns.length := List.countP_le_length
theorem lows_at {ns : List Int} (hs : ns.Pairwise (· ≤ ·)) (x : Int) (i : Nat) (v : Int) (h : ns[i]? = some v) : (v < x → i < lows ns x) ∧ (¬ v < x → lows ns x ≤ i) := by
  induction ns generalizing i with
  | nil => simp at h
  | cons a r ih =>
    obtain ⟨h1, h2⟩ := List.pairwise_cons.mp hs
    have e : lows (a :: r) x = lows r x + (if a < x then 1 else 0) := by unfold lows; rw [List.countP_cons]; congr 1; simp
    rw [e]
    cases i with
    | zero =>
      simp only [List.getElem?_cons_zero, Option.some.injEq] at h
      subst h
      refine ⟨fun q => by rw [if_pos q]; omega, fun q => ?_⟩
      rw [if_neg q]
      have : lows r x = 0 := by
        unfold lows; rw [List.countP_eq_zero]
        intro b hb; have := h1 b hb; simp; omega
      omega
    | succ i =>
      simp only [List.getElem?_cons_succ] at h
      have hm := h1 v (List.mem_of_getElem? h)
      have := ih h2 i h
      refine ⟨fun q => ?_, fun q => ?_⟩
      · have := this.1 q
        rw [if_pos (by omega)]; omega
      · have := this.2 q
        split <;> omega
theorem binds_bis2 {s : Shared} (T : TX s.heap) {l : Addr} {x : Int} {t : Tok} : ∃ t0, ∀ pm, BindsTo s (fdAt 2 (.ref 24) (.ref 25) pm (.ref 31)) ⟨[.ref l, .int x t], []⟩ [("a", .ref l), ("x", .int x t), ("lo", .int 0 t0), ("hi", .none), ("key", .none)] := by
  obtain ⟨t0, h24⟩ := T.d24
  obtain ⟨_, _, _, h25⟩ := T.d25
  refine ⟨t0, fun pm M A E Q hq Γ p hΓ => ?_⟩
  refine Exists.intro _ (And.intro h24 ?_)
  refine Exists.intro _ (And.intro h25 ?_)
  exact hq
theorem binds_bis4 {s : Shared} (T : TX s.heap) {l : Addr} {x : Int} {t t0 : Tok} : ∀ pm, BindsTo s (fdAt 2 (.ref 24) (.ref 25) pm (.ref 31)) ⟨[.ref l, .int x t, .int 0 t0, .none], []⟩ [("a", .ref l), ("x", .int x t), ("lo", .int 0 t0), ("hi", .none), ("key", .none)] := by
  obtain ⟨t0, h24⟩ := T.d24
  obtain ⟨_, _, _, h25⟩ := T.d25
  refine fun pm M A E Q hq Γ p hΓ => ?_
  refine Exists.intro _ (And.intro h24 ?_)
  refine Exists.intro _ (And.intro h25 ?_)
  exact hq
theorem binds_ins {s : Shared} (T : TX s.heap) {l : Addr} {x : Int} {t : Tok} : ∃ t0, ∀ pm, BindsTo s (fdAt 1 (.ref 15) (.ref 16) pm (.ref 22)) ⟨[.ref l, .int x t], []⟩ [("a", .ref l), ("x", .int x t), ("lo", .int 0 t0), ("hi", .none), ("key", .none)] := by
  obtain ⟨t0, h15⟩ := T.d15
  obtain ⟨_, _, _, h16⟩ := T.d16
  refine ⟨t0, fun pm M A E Q hq Γ p hΓ => ?_⟩
  refine Exists.intro _ (And.intro h15 ?_)
  refine Exists.intro _ (And.intro h16 ?_)
  exact hq
theorem bis_call {args : Args} {l : Addr} {vs : List Value} {ns : List Int} {x : Int} {t t0 : Tok} {R : Result → Shared → Prop} (hA : Ar 2 A) (T : TX s.heap)
    (hbind : ∀ pm, BindsTo s (fdAt 2 (.ref 24) (.ref 25) pm (.ref 31)) args [("a", .ref l), ("x", .int x t), ("lo", .int 0 t0), ("hi", .none), ("key", .none)])
    (hl : s.heap.IsList l vs.toArray) (hi : IntsAre vs ns) (hs : ns.Pairwise (· ≤ ·)) (hz : ns.length ≤ 100)
    (h : ∀ s' t', Kp s s' → R (.ok (.ret (.int (lows ns x) t'))) s') : codeAny (model pg w) A (.call (.ref 32) args) R s := by
  have G := T.gd
  have hz' : vs.length ≤ 100 := by rw [hi.length]; exact hz
  have hvn := hi.length
  refine enterAt (g := s.heap) (I := []) [("a", some (.ref l)), ("x", some (.int x t)), ("lo", some (.int 0 t0)), ("hi", some .none), ("key", some .none), ("mid", none)] names_bis hA.mono T.fB G.lim hbind (by simp) ?hv (fun _ _ e => e) (by simp) (by simp) ?body
  case hv =>
    simp only [List.forall_mem_cons]
    exact ⟨rfl, rfl, rfl, rfl, rfl, rfl, fun _ h => nomatch h⟩
  intro env L s' hS hG hL H hk
  conv in bodyAt 2 => whnf
  repeat' (walk_at "m")
  rename Fs _ _ _ _ _ _ _ => H
  refine rLenL H (H.isList hl) (by simp; omega) ?_
  clear H; intro _ _ H
  repeat' (walk_at "m")
  rename Fs _ _ _ _ _ _ _ => H
  have hc := lows_le ns x
  refine rWhile (fun n vars I => ∃ lo hi t1 t2 mid, vars = ([("a", some (.ref l)), ("x", some (.int x t)), ("lo", some (.int lo t1)), ("hi", some (.int hi t2)), ("key", some .none), ("mid", mid)] : Vars) ∧ I = [] ∧
    0 ≤ lo ∧ lo ≤ (lows ns x : Int) ∧ (lows ns x : Int) ≤ hi ∧ hi ≤ (ns.length : Int) ∧ n = (hi - lo).toNat) ns.length ?init H ?turn
  case init =>
    have hz2 : vs.toArray.size = ns.length := by simp [hvn]
    exact ⟨0, _, _, _, _, rfl, rfl, by omega, by omega, by omega, by omega, by omega⟩
  case turn =>
    clear H
    rintro n vars I s₁ ⟨lo, hi', t1, t2, mid, rfl, rfl, h0, h1, h2, h3, hn⟩ H
    repeat' (walk_at "m")
    refine Br.both (fun hb => ?_) (fun hb => ?_)
    · have hb' : lo < hi' := of_decide_eq_true hb
      repeat' (walk_at "m")
      have hm0 : 0 ≤ (lo + hi') / 2 := by omega
      have hm1 : (lo + hi') / 2 < hi' := by omega
      have hm2 : lo ≤ (lo + hi') / 2 := by omega
      obtain ⟨v, hv⟩ : ∃ v, ns[((lo + hi') / 2).toNat]? = some v := ⟨_, List.getElem?_eq_getElem (by omega)⟩
      obtain ⟨tv, hv'⟩ := hi.get _ v hv
      have hlow := lows_at hs x _ v hv
      rename Fs _ _ _ _ _ _ _ => H
      refine rItem (H.isList hl) hm0 (by omega) (by simpa using hv') ?_
      repeat' (walk_at "m")
      refine Br.both (fun hb2 => ?_) (fun hb2 => ?_)
      · have := hlow.1 (of_decide_eq_true hb2)
        repeat' (walk_at "m")
        refine turnNext _ ?_ (by assumption) ⟨_, _, _, _, _, rfl, rfl, ?_, ?_, ?_, ?_, rfl⟩ <;> omega
      · have := hlow.2 (of_decide_eq_false hb2)
        repeat' (walk_at "m")
        refine turnNext _ ?_ (by assumption) ⟨_, _, _, _, _, rfl, rfl, ?_, ?_, ?_, ?_, rfl⟩ <;> omega
    · have hb' : ¬ lo < hi' := of_decide_eq_false hb
      have e : lo = (lows ns x : Int) := by omega
      subst e
      repeat' (walk_at "m")
      exact h _ _ (Fs.out (by assumption))

theorem names_ins : NamesAre 1 ["a", "x", "lo", "hi", "key"] ["bisect_left"] := names_of (by decide +kernel)
theorem ins_call {g : Heap} {l : Addr} {vs : List Value} {ns : List Int} {n : Nat} {x : Int} {t : Tok} {R : Result → Shared → Prop} (hA : Ar 3 A) (T : TX g) (hg : ∀ b o, g.get? b = some o → s.heap.get? b = some o) (hgl : g.get? l = none)
    (hl : s.heap.get? l = some (listOf vs.toArray n)) (hi : IntsAre vs ns) (hs : ns.Pairwise (· ≤ ·)) (hz : ns.length ≤ 100)
    (h : ∀ s', KpBut l s s' → s'.heap.get? l = some (listOf (vs.take (lows ns x) ++ .int x t :: vs.drop (lows ns x)).toArray (n + 1)) → R (.ok (.ret .none)) s') :
    codeAny (model pg w) A (.call (.ref 23) ⟨[.ref l, .int x t], []⟩) R s := by
  have T' := T.keeps (hide_keeps hg hgl)
  have T'' := T.keeps hg
  have G := T'.gd
  obtain ⟨t0, hb⟩ := binds_ins (l := l) (x := x) (t := t) T''
  have hvn := hi.length
  have hlow := lows_le ns x
  refine enterAt (g := s.heap.hide l) (I := [(l, listOf vs.toArray n)]) [("a", some (.ref l)), ("x", some (.int x t)), ("lo", some (.int 0 t0)), ("hi", some .none), ("key", some .none)] names_ins hA.mono T''.fI T''.gd.lim hb (by simp) ?hv hide_of ?hI (by simp) ?body
  case hv =>
    simp only [List.forall_mem_cons]
    exact ⟨rfl, rfl, rfl, rfl, rfl, fun _ h => nomatch h⟩
  case hI =>
    intro p hp; rw [List.mem_singleton.mp hp]; exact ⟨hl, Heap.hide_self _ _⟩
  intro env L s' hS hG hL H hk
  conv in bodyAt 1 => whnf
  repeat' (walk_at "m")
  refine rCallF T'.fB G hG (by assumption) (by walk_at "m.mem") (by walk_at "m.mem") ?_
  repeat' (walk_at "m")
  rename Fs _ _ _ _ _ _ _ => H
  have hl₁ := (H.led _ (List.mem_singleton.mpr rfl)).1
  refine ⟨H.keep, callR fun R hR => bis_call (by exact hA.deeper) (T'.keeps H.keep) (binds_bis4 (T'.keeps H.keep)) ⟨_, hl₁, rfl, _, rfl⟩ hi hs hz fun s₂ t₂ k => hR _ _ ?_⟩
  replace H := H.kp k
  repeat' (walk_at "m")
  (with_reducible refine rMethL2 F.slot_list_insert F.type_list_insert ?_ ?_ ?_ ?_); rotate_left; rfl; rfl; rfl
  repeat' (walk_at "m")
  rename Fs _ _ _ _ _ _ _ => H
  refine ⟨l, _, rfl, (H.led _ (List.mem_singleton.mpr rfl)).1, rfl, rfl, ?_⟩
  repeat' (walk_at "m")
  refine rInsert H (by walk_at "m.turn") (by omega) (by omega) fun s₃ H => ?_
  repeat' (walk_at "m")
  exact h _ H.outBut (H.led _ (List.mem_singleton.mpr rfl)).1
end

theorem slice_goal {ns : List Int} (hs : Srt ns) (x : Int) : ((ns.drop (lows ns x)).take (min (lows ns x + 1) ns.length - lows ns x) = [x]) ↔ x ∈ ns := by
  induction ns with
  | nil => simp
  | cons a r ih =>
    obtain ⟨h1, h2⟩ := List.pairwise_cons.mp hs
    have e : lows (a :: r) x = lows r x + (if a < x then 1 else 0) := by unfold lows; rw [List.countP_cons]; congr 1; simp
    by_cases ha : a < x
    · rw [if_pos ha] at e
      have hne : ¬ x = a := by omega
      rw [e, List.drop_succ_cons, List.length_cons, show min (lows r x + 1 + 1) (r.length + 1) - (lows r x + 1) = min (lows r x + 1) r.length - lows r x by omega, ih h2]
      simp [hne]
    · rw [if_neg ha] at e
      have z : lows r x = 0 := by
        unfold lows; rw [List.countP_eq_zero]
        intro b hb; have := h1 b hb; simp; omega
      rw [e, z]
      simp only [Nat.add_zero, List.drop_zero, List.length_cons, Nat.zero_add, Nat.sub_zero, show min 1 (r.length + 1) = 1 by omega, List.take_succ_cons, List.take_zero, List.cons.injEq, and_true, List.mem_cons]
      refine ⟨fun h => .inl h.symm, fun h => ?_⟩
      rcases h with h | h
      · exact h.symm
      · have := h1 x h; omega

/-- a bead that may go: its place in the row, and where it goes -/
noncomputable def GoodMv (W : Int) (ns : List Int) (at_ p : Nat) : Prop := ∃ b, ns[at_]? = some b ∧ 0 ≤ b - W ∧ b - W ∉ ns ∧ p = lows ns (b - W)
noncomputable def MvL (W : Int) (ns : List Int) (tups : List (Addr × Obj)) (v : Value) : Prop := ∃ a at_ p t u, v = .ref a ∧ (a, tupOf [.int (at_ : Nat) t, .int (p : Nat) u]) ∈ tups ∧ GoodMv W ns at_ p
theorem names_mov : NamesAre 25 ["beads", "width", "moves", "at", "goal", "place"] ["range", "len", "bisect_left"] := names_of (by decide +kernel)

section
variable {w : World} {A : Around} {s : Shared}
theorem mov_call {l : Addr} {vs : List Value} {ns : List Int} {W : Int} {tW : Tok} {R : Result → Shared → Prop} (hA : Ar 3 A) (T : TX s.heap)
    (hl : s.heap.IsList l vs.toArray) (hi : IntsAre vs ns) (hs : Srt ns) (hz : ns.length ≤ 100)
    (h : ∀ s' M items k tups, Kp s s' → s.heap.get? M = none → s'.heap.get? M = some (listOf (items : List Value).toArray k) → (∀ p ∈ tups, s'.heap.get? p.1 = some p.2) → (∀ p ∈ tups, s.heap.get? p.1 = none) → (M :: tups.map (·.1)).Nodup → (∀ v ∈ items, MvL W ns tups v) → items.length ≤ 100 → (items = [] → NoMoves W ns) → R (.ok (.ret (.ref M))) s') :
    codeAny (model pg w) A (.call (.ref 90) ⟨[.ref l, .int W tW], []⟩) R s := by
  have G := T.gd
  have hz' : vs.length ≤ 100 := by rw [hi.length]; exact hz
  have hvn := hi.length
  have hs' : ns.Pairwise (· ≤ ·) := hs.imp fun h => by omega
  refine enterAt (g := s.heap) (I := []) (binds := [("beads", .ref l), ("width", .int W tW)]) [("beads", some (.ref l)), ("width", some (.int W tW)), ("moves", none), ("at", none), ("goal", none), ("place", none)] names_mov hA.mono T.fM G.lim (fun pm => BindsTo.of_eq rfl) (by simp) ?hv (fun _ _ e => e) (by simp) (by simp) ?body
  case hv =>
    simp only [List.forall_mem_cons]
    exact ⟨rfl, rfl, rfl, rfl, rfl, rfl, fun _ h => nomatch h⟩
  intro env L s' hS hG hL H hk
  conv in bodyAt 25 => whnf
  repeat' (walk_at "m")
  rename Fs _ _ _ _ _ _ _ => H
  rename_i M _ _
  have hM := (H.led _ (.head _)).2
  refine rForRange (n := ns.length) (fun i vars I => ∃ at_ goal place items k tups, vars = ([("beads", some (.ref l)), ("width", some (.int W tW)), ("moves", some (.ref M)), ("at", at_), ("goal", goal), ("place", place)] : Vars) ∧
    I = (M, listOf (items : List Value).toArray k) :: tups ∧ (∀ v ∈ items, MvL W ns tups v) ∧ items.length ≤ i ∧ (items = [] → ∀ j b, j < i → ns[j]? = some b → 0 ≤ b - W → b - W ∈ ns)) H hA.handled (by omega) ?hit ?turn ?done
  case hit =>
    clear hM
    repeat' (walk_at "m")
    rename Fs _ _ _ _ _ _ _ => H
    refine rLenL H (H.isList hl) (by simp; omega) fun t1 s1 H => ?_
    refine rRange H fun r s2 t2 t3 H hr => ?_
    refine ⟨r, _, _, _, rfl, by simpa [hvn] using hr, _, _, H, none, none, none, [], 0, [], rfl, rfl, by simp, by simp, by simp⟩
  case turn =>
    rintro i t vars I o It s1 hi' ⟨at_, goal, place, items, k, tups, rfl, rfl, hit, hlen, hno⟩ H
    obtain ⟨b, hb⟩ : ∃ b, ns[i]? = some b := ⟨_, List.getElem?_eq_getElem hi'⟩
    obtain ⟨tb, hb'⟩ := hi.get _ b hb
    repeat' (walk_at "m")
    rename Fs _ _ _ _ _ _ _ => H
    refine rItem (H.isList hl) (by omega) (by omega) (by simpa using hb') ?_
    repeat' (walk_at "m")
    refine Br.both (fun hg => ?_) (fun hg => ?_)
    · have hg' : 0 ≤ b - W := of_decide_eq_true hg
      repeat' (walk_at "m")
      refine rCallF T.fB G hG (by assumption) (by walk_at "m.mem") (by walk_at "m.mem") ?_
      repeat' (walk_at "m")
      rename Fs _ _ _ _ _ _ _ => H
      obtain ⟨t0, hbnd⟩ := binds_bis2 (l := l) (x := b - W) (T.keeps H.keep)
      refine ⟨H.keep, callR fun R' hR => bis_call (by exact hA.deeper) (T.keeps H.keep) (by exact hbnd) (H.isList hl) hi hs' hz fun s2 t2 k2 => hR _ _ ?_⟩
      replace H := H.kp k2
      repeat' (walk_at "m")
      refine rSlice (by assumption) ?_
      repeat' (walk_at "m")
      rename Fs _ _ _ _ _ _ _ => H
      refine ⟨l, _, _, _, _, _, rfl, H.isList hl, by simp; omega, .int _ _, .int _ _, H, fun sl s3 H => ?_⟩
      repeat' (walk_at "m")
      rename Fs _ _ _ _ _ _ _ => H
      have hkm := kmk_run (vs := vs) hi (x := (lows ns (b - W) : Nat)) (y := (lows ns (b - W) : Nat) + 1) (by omega) (by omega)
      have hsl : s.heap.IsList l vs.toArray := hl
      have hlow := lows_le ns (b - W)
      refine rNeInts (hA.deeper.mono) (vs := (slicePick vs.toArray (some ((lows ns (b - W) : Nat) : Int)) (some ((lows ns (b - W) : Nat) + 1 : Int)) none).toList) (by simpa using H.listAt (.tail _ (.head _))) hkm (H.listAt (.head _)) (IntsAre.cons _ _ .nil) ?_
      repeat' (walk_at "m")
      have hiff := slice_goal hs (b - W)
      have he : min ((lows ns (b - W) : Nat) + 1 : Int).toNat ns.length - ((lows ns (b - W) : Nat) : Int).toNat = min (lows ns (b - W) + 1) ns.length - lows ns (b - W) := by omega
      rw [Int.toNat_natCast] at he ⊢
      rw [he]
      refine Br.both (fun hq => ?_) (fun hq => ?_)
      · have hnot : b - W ∉ ns := fun hmem => by
          have := hiff.mpr hmem
          simp [this] at hq
        repeat' (walk_at "m")
        (with_reducible refine rMethL1 F.slot_list_append F.type_list_append ?_ ?_ ?_ ?_); rotate_left; rfl; rfl; rfl
        repeat' (walk_at "m")
        refine ⟨M, _, rfl, (H.led (M, _) (by walk_at "m.mem")).1, rfl, rfl, ?_⟩
        repeat' (walk_at "m")
        rename Fs _ _ _ _ _ _ _ => H
        rename_i T4 _
        refine rAppend H (by walk_at "m.turn") (by omega) fun s4 H => ?_
        repeat' (walk_at "m")
        refine forNext ((H.sub (I' := (T4, _) :: (It, o) :: (M, _) :: tups) (by walk_at "m.sub")).perm (rot3 ..)) ⟨_, _, _, _, _, _, rfl, rfl, fun v hv => ?_, by simp; omega, fun e => by simp at e⟩
        rcases List.mem_append.mp hv with hv | hv
        · obtain ⟨a, at_, p, u1, u2, e1, e2, e3⟩ := hit v hv
          exact ⟨a, at_, p, u1, u2, e1, .tail _ e2, e3⟩
        · exact ⟨T4, i, _, _, _, List.mem_singleton.mp hv, .head _, b, hb, hg', hnot, rfl⟩
      · have hmem : b - W ∈ ns := hiff.mp (by simpa using hq)
        repeat' (walk_at "m")
        refine forNext (H.sub (by walk_at "m.sub")) ⟨_, _, _, items, k, tups, rfl, rfl, hit, by omega, fun e j b' hj hb' h0 => ?_⟩
        by_cases hji : j < i
        · exact hno e j b' hji hb' h0
        · rw [show j = i by omega, hb] at hb'; cases hb'; exact hmem
    · have hg' : ¬ 0 ≤ b - W := of_decide_eq_false hg
      repeat' (walk_at "m")
      refine forNext (by assumption) ⟨_, _, _, items, k, tups, rfl, rfl, hit, by omega, fun e j b' hj hb' h0 => ?_⟩
      by_cases hji : j < i
      · exact hno e j b' hji hb' h0
      · rw [show j = i by omega, hb] at hb'; cases hb'; exact absurd h0 hg'
  case done =>
    rintro vars I s1 ⟨at_, goal, place, items, k, tups, rfl, rfl, hit, hlen, hno⟩ H
    repeat' (walk_at "m")
    refine h _ M items k tups H.out hM.1 (H.led _ (.head _)).1 (fun p hp => (H.led _ (.tail _ hp)).1) (fun p hp => (H.led _ (.tail _ hp)).2.1) H.ndI hit (by omega) fun e b hb h0 => ?_
    obtain ⟨j, hj, rfl⟩ := List.getElem_of_mem hb
    exact hno e j _ hj (List.getElem?_eq_getElem hj) h0
end

theorem names_push : NamesAre 26 ["start", "width", "picks", "beads", "legs", "moves", "at", "place", "goal"] ["list", "_law_moves", "len", "insort_left"] := names_of (by decide +kernel)

structure Ended (W : Int) (ns bs ls : List Int) : Prop where
  srt : Srt bs
  box : InBox bs
  none : NoMoves W bs
  perm : (ends W bs).Perm (ends W ns)
  len : (ls.length : Int) = due W ns
  par : ((invs (ends W bs) : Int) + ls.sum) % 2 = (invs (ends W ns) : Int) % 2
  small : ∀ x ∈ ls, -1000000 ≤ x ∧ x ≤ 1000000
/-- what the loop of _law_pushed keeps -/
structure Pushing (W : Int) (ns bs ls : List Int) : Prop where
  srt : Srt bs
  box : InBox bs
  perm : (ends W bs).Perm (ends W ns)
  len : (ls.length : Int) + due W bs = due W ns
  par : ((invs (ends W bs) : Int) + ls.sum) % 2 = (invs (ends W ns) : Int) % 2
  size : bs.length = ns.length
  small : ∀ x ∈ ls, -1000000 ≤ x ∧ x ≤ 1000000
theorem Pushing.step {W : Int} {ns bs ls : List Int} {at_ p : Nat} {b : Int} (hz : ns.length ≤ 20) (hW : 0 < W) (P : Pushing W ns bs ls) (hb : bs[at_]? = some b) (h0 : 0 ≤ b - W) (hn : b - W ∉ bs) (hp : p = lows bs (b - W)) :
    Pushing W ns ((bs.eraseIdx at_).take (lows (bs.eraseIdx at_) (b - W)) ++ (b - W) :: (bs.eraseIdx at_).drop (lows (bs.eraseIdx at_) (b - W))) (ls ++ [(at_ : Int) - (p : Int)]) := by
  obtain ⟨X, M, Y, c, e1, e2, e3, e4⟩ := move_cut hW P.srt hb hn
  have st := c.step hW P.srt P.box h0 hn
  have e : (bs.eraseIdx at_).take (lows (bs.eraseIdx at_) (b - W)) ++ (b - W) :: (bs.eraseIdx at_).drop (lows (bs.eraseIdx at_) (b - W)) = moved X M Y (b - W) := by
    rw [e4, e3, List.take_left', List.drop_left'] <;> rfl
  rw [e]
  have hlen := congrArg List.length c.eq
  simp only [List.length_append, List.length_cons] at hlen
  have hd := st.due
  have hl := P.len
  refine ⟨st.sorted, st.box, st.ends.trans P.perm, ?_, ?_, ?_, ?_⟩
  · rw [List.length_append, List.length_singleton]; omega
  · have h1 := st.par
    have h2 := P.par
    rw [List.sum_append, List.sum_singleton]
    omega
  · rw [← P.size, hlen]; simp only [moved, List.length_append, List.length_cons]; omega
  · have hps := P.size
    intro x hx
    rcases List.mem_append.mp hx with hx | hx
    · exact P.small x hx
    · rw [List.mem_singleton.mp hx, hp, e2]; omega
theorem Pushing.done {W : Int} {ns bs ls : List Int} (hW : 0 < W) (P : Pushing W ns bs ls) (nm : NoMoves W bs) : Ended W ns bs ls :=
  ⟨P.srt, P.box, nm, P.perm, by have := P.len; rw [due_of_noMoves hW P.srt P.box nm] at this; omega, P.par, P.small⟩
theorem MvL.pair {h : Heap} {W : Int} {ns : List Int} {tups : List (Addr × Obj)} {v : Value} (m : MvL W ns tups v) (ht : ∀ p ∈ tups, h.get? p.1 = some p.2) : IsPair h v := by
  obtain ⟨a, at_, p, t, u, rfl, hm, _⟩ := m
  exact ⟨a, _, _, _, _, rfl, ht _ hm⟩
section
variable {w : World} {A : Around} {s : Shared}
theorem push_call {l p : Addr} {vs ps : List Value} {ns ms : List Int} {W : Int} {tW : Tok} {R : Result → Shared → Prop} (hA : Ar 5 A) (T : TX s.heap)
    (hl : s.heap.IsList l vs.toArray) (hi : IntsAre vs ns) (hs : Srt ns) (hb : InBox ns) (hz : ns.length ≤ 20) (hW : 0 < W) (hd : due W ns ≤ 18)
    (hp : s.heap.IsList p ps.toArray) (hpi : IntsAre ps ms) (hp0 : 0 < ms.length) (hp1 : ms.length ≤ 100)
    (h : ∀ s' Tp B Lg bvs bs lvs ls k1 k2, Kp s s' → s'.heap.get? Tp = some (tupOf [.ref B, .ref Lg]) → s'.heap.get? B = some (listOf (bvs : List Value).toArray k1) → s'.heap.get? Lg = some (listOf (lvs : List Value).toArray k2) →
      s.heap.get? B = none → s.heap.get? Lg = none → s.heap.get? Tp = none → IntsAre bvs bs → IntsAre lvs ls → Ended W ns bs ls → bs.length = ns.length → R (.ok (.ret (.ref Tp))) s') :
    codeAny (model pg w) A (.call (.ref 97) ⟨[.ref l, .int W tW, .ref p], []⟩) R s := by
  have G := T.gd
  have hvn := hi.length
  have hpn := hpi.length
  refine enterAt (g := s.heap) (I := []) (binds := [("start", .ref l), ("width", .int W tW), ("picks", .ref p)])
    [("start", some (.ref l)), ("width", some (.int W tW)), ("picks", some (.ref p)), ("beads", none), ("legs", none), ("moves", none), ("at", none), ("place", none), ("goal", none)] names_push hA.mono T.fP G.lim (fun pm => BindsTo.of_eq rfl) (by simp) ?hv (fun _ _ e => e) (by simp) (by simp) ?body
  case hv =>
    simp only [List.forall_mem_cons]
    exact ⟨rfl, rfl, rfl, rfl, rfl, rfl, rfl, rfl, rfl, fun _ h => nomatch h⟩
  intro env L s' hS hG hL H hk
  conv in bodyAt 26 => whnf
  repeat' (walk_at "m")
  rename Fs _ _ _ _ _ _ _ => H
  refine rListCopy H (H.isList hl) (by omega) fun B c s1 H => ?_
  repeat' (walk_at "m")
  rename Fs _ _ _ _ _ _ _ => H
  rename_i Lg _ _
  have hBL := H.led _ (.tail _ (.head _))
  have hLg := H.led _ (.head _)
  refine rCallF T.fM G hG H (by walk_at "m.mem") (by walk_at "m.mem") ?_
  repeat' (walk_at "m")
  rename Fs _ _ _ _ _ _ _ => H
  refine ⟨H.keep, callR fun R' hR => mov_call (by exact hA.deeper.mono) (T.keeps H.keep) (H.listAt (.tail _ (.head _))) hi hs (by omega) fun s2 M items k tups k2 f1 f2 f3 f4 f5 f6 f7 f8 => hR _ _ ?_⟩
  replace H := H.addMany k2 ((M, _) :: tups) (fun p hp => by rcases List.mem_cons.mp hp with rfl | hp; exact f1; exact f4 p hp) (fun p hp => by rcases List.mem_cons.mp hp with rfl | hp; exact f2; exact f3 p hp) (by simpa using f5)
  repeat' (walk_at "m")
  rename Fs _ _ _ _ _ _ _ => H
  refine rWhile (fun n vars I => ∃ bvs bs kB lvs ls kL items kM tups M at_ place goal, vars = ([("start", some (.ref l)), ("width", some (.int W tW)), ("picks", some (.ref p)), ("beads", some (.ref B)), ("legs", some (.ref Lg)), ("moves", some (.ref M)), ("at", at_), ("place", place), ("goal", goal)] : Vars) ∧
    I = (Lg, listOf (lvs : List Value).toArray kL) :: (B, listOf (bvs : List Value).toArray kB) :: (M, listOf (items : List Value).toArray kM) :: tups ∧
    IntsAre bvs bs ∧ IntsAre lvs ls ∧ Pushing W ns bs ls ∧ (∀ v ∈ items, MvL W bs tups v) ∧ items.length ≤ 100 ∧ (items = [] → NoMoves W bs) ∧ n = (due W bs).toNat) (due W ns).toNat ?init
    ((H.sub (I' := ((M, _) :: tups) ++ [(Lg, _), (B, _)]) (by walk_at "m.sub")).perm List.perm_append_comm) ?turn
  case init => exact ⟨_, ns, _, [], [], _, _, _, _, _, _, _, _, rfl, rfl, hi, .nil, ⟨hs, hb, .refl _, by simp, by simp, rfl, by simp⟩, f6, f7, f8, rfl⟩
  case turn =>
    clear H f1 f2 f3 f4 f5 f6 f7 f8 k2 hBL hLg
    rintro n vars I s1 ⟨bvs, bs, kB, lvs, ls, kL, items, kM, tups, M, at_, place, goal, rfl, rfl, hbv, hlv, P, hmv, hml, hno, hn⟩ H
    have hdn := due_nonneg hW P.srt P.box
    have hPl := P.len
    have hlvn := hlv.length
    have hbvn := hbv.length
    have hPs := P.size
    repeat' (walk_at "m")
    rename Fs _ _ _ _ _ _ _ => H
    refine rNePairs (hA.deeper.mono) (H.led (M, _) (by walk_at "m.mem")).1 (fun v hv => (hmv v hv).pair fun q hq => (H.led q (by simp [hq])).1) (H.led _ (.head _)).1 ?_
    repeat' (walk_at "m")
    refine Br.both (fun hq => ?_) (fun hq => ?_)
    · have hne : items ≠ [] := by simpa using hq
      repeat' (walk_at "m")
      rename Fs _ _ _ _ _ _ _ => H
      refine rLen H (H.listAt (.tail _ (.head _))) hlvn (by omega) fun t2 s2 H => ?_
      repeat' (walk_at "m")
      refine Br.yes (decide_eq_true (by omega)) ?_
      repeat' (walk_at "m")
      refine rAssign2 (hA.deeper.handled) ?_
      repeat' (walk_at "m")
      rename Fs _ _ _ _ _ _ _ => H
      refine rLen H (H.listAt (.tail _ (.head _))) hlvn (by omega) fun t3 s3 H => ?_
      repeat' (walk_at "m")
      rename Fs _ _ _ _ _ _ _ => H
      refine rLen H (H.isList hp) hpn (by omega) fun t4 s4 H => ?_
      repeat' (walk_at "m")
      rename Fs _ _ _ _ _ _ _ => H
      have hm1 : 0 ≤ (ls.length : Int) % (ms.length : Int) := Int.emod_nonneg _ (by omega)
      have hm2 : (ls.length : Int) % (ms.length : Int) < (ms.length : Int) := Int.emod_lt_of_pos _ (by omega)
      obtain ⟨m0, hm0⟩ : ∃ v, ms[((ls.length : Int) % (ms.length : Int)).toNat]? = some v := ⟨_, List.getElem?_eq_getElem (by omega)⟩
      obtain ⟨tm, hm0'⟩ := hpi.get _ m0 hm0
      refine rItem (H.isList hp) hm1 (by omega) (by simpa using hm0') ?_
      repeat' (walk_at "m")
      rename Fs _ _ _ _ _ _ _ => H
      refine rLen H (H.listAt (l := M) (by walk_at "m.mem")) rfl (by omega) fun t5 s5 H => ?_
      have hil : 0 < items.length := List.length_pos_iff.mpr hne
      repeat' (walk_at "m")
      rename Fs _ _ _ _ _ _ _ => H
      have hi1 : 0 ≤ m0 % (items.length : Int) := Int.emod_nonneg _ (by omega)
      have hi2 : m0 % (items.length : Int) < (items.length : Int) := Int.emod_lt_of_pos _ (by omega)
      obtain ⟨v, hv⟩ : ∃ v, items[(m0 % (items.length : Int)).toNat]? = some v := ⟨_, List.getElem?_eq_getElem (by omega)⟩
      refine rItem (H.listAt (l := M) (by walk_at "m.mem")) hi1 (by omega) (by simpa using hv) ?_
      obtain ⟨a, at1, p1, t6, t7, rfl, ham, b, hb1, hb2, hb3, hb4⟩ := hmv v (List.mem_of_getElem? hv)
      refine ⟨a, _, _, rfl, (H.led (a, _) (by repeat' (first | exact ham | apply List.mem_cons_of_mem))).1, fun s6 k6 => ?_⟩
      replace H := H.kp k6
      repeat' (walk_at "m")
      have PS := P.step hz hW hb1 hb2 hb3 hb4
      (with_reducible refine rMethL1 F.slot_list_append F.type_list_append ?_ ?_ ?_ ?_); rotate_left; rfl; rfl; rfl
      repeat' (walk_at "m")
      rename Fs _ _ _ _ _ _ _ => H
      refine ⟨Lg, _, rfl, (H.led (Lg, _) (by walk_at "m.mem")).1, rfl, rfl, ?_⟩
      repeat' (walk_at "m")
      rename Fs _ _ _ _ _ _ _ => H
      refine rAppend H (by walk_at "m.turn") (by omega) fun s7 H => ?_
      repeat' (walk_at "m")
      (with_reducible refine rMethL1 F.slot_list_pop F.type_list_pop ?_ ?_ ?_ ?_); rotate_left; rfl; rfl; rfl
      repeat' (walk_at "m")
      rename Fs _ _ _ _ _ _ _ => H
      refine ⟨B, _, rfl, (H.led (B, _) (by walk_at "m.mem")).1, rfl, rfl, ?_⟩
      repeat' (walk_at "m")
      rename Fs _ _ _ _ _ _ _ => H
      obtain ⟨tb, hb1'⟩ := hbv.get _ b hb1
      have hbv2 := ints_erase at1 hbv
      refine rPop H (by walk_at "m.turn") hb1' (by omega) fun s8 H => ?_
      repeat' (walk_at "m")
      rename Fs _ _ _ _ _ _ _ => H
      rename_i tg _ _
      have hBg : s.heap.get? B = none := (H.led (B, _) (by walk_at "m.mem")).2.1
      have hlw := lows_le (bs.eraseIdx at1) (b - W)
      have hle : (bs.eraseIdx at1).length ≤ 20 := by rw [List.length_eraseIdx]; split <;> omega
      have hse : (bs.eraseIdx at1).Pairwise (· ≤ ·) := (List.Pairwise.sublist (List.eraseIdx_sublist ..) P.srt).imp fun h => by omega
      refine rCallF T.fI G hG H (by walk_at "m.mem") (by walk_at "m.mem") ?_
      repeat' (walk_at "m")
      rename Fs _ _ _ _ _ _ _ => H
      refine ⟨H.keep, callR fun R' hR => ins_call (by exact hA.deeper.mono) T H.keep hBg (H.led (B, _) (by walk_at "m.mem")).1 hbv2 hse (by omega) fun s9 k9 hB9 => hR _ _ ?_⟩
      replace H := H.turnKp (by walk_at "m.turn") k9 hB9
      have hbv3 := ints_append (ints_take (lows (bs.eraseIdx at1) (b - W)) hbv2) (IntsAre.cons (b - W) tg (ints_drop (lows (bs.eraseIdx at1) (b - W)) hbv2))
      repeat' (walk_at "m")
      rename Fs _ _ _ _ _ _ _ => H
      have hB2 := H.led (B, _) (by walk_at "m.mem")
      refine rCallF T.fM G hG H (by walk_at "m.mem") (by walk_at "m.mem") ?_
      repeat' (walk_at "m")
      rename Fs _ _ _ _ _ _ _ => H
      refine ⟨H.keep, callR fun R' hR => mov_call (by exact hA.deeper.mono) (T.keeps H.keep) (H.listAt (l := B) (by walk_at "m.mem")) hbv3 PS.srt (by have := PS.size; omega) fun s10 M2 items2 kM2 tups2 kp f1 f2 f3 f4 f5 f6 f7 f8 => hR _ _ ?_⟩
      replace H := H.addMany kp ((M2, _) :: tups2) (fun p hp => by rcases List.mem_cons.mp hp with rfl | hp; exact f1; exact f4 p hp) (fun p hp => by rcases List.mem_cons.mp hp with rfl | hp; exact f2; exact f3 p hp) (by simpa using f5)
      repeat' (walk_at "m")
      rename Fs _ _ _ _ _ _ _ => H
      have hPn := PS.len
      have hdn' := due_nonneg hW PS.srt PS.box
      replace H := (H.sub (I' := ((M2, _) :: tups2) ++ [(Lg, _), (B, _)]) (List.Sublist.append (List.Sublist.refl _) (by walk_at "m.sub"))).perm List.perm_append_comm
      refine turnNext _ ?_ H ⟨_, _, _, _, _, _, _, _, _, _, _, _, _, rfl, rfl, hbv3, ints_append hlv (IntsAre.cons _ _ .nil), PS, f6, f7, f8, rfl⟩
      rw [List.length_append, List.length_singleton] at hPn; omega
    · have he : items = [] := by simpa using hq
      repeat' (walk_at "m")
      rename Fs _ _ _ _ _ _ _ => H
      rename_i Tp _
      exact h _ Tp B Lg _ _ _ _ _ _ H.out (H.led _ (.head _)).1 (H.led (B, _) (by walk_at "m.mem")).1 (H.led (Lg, _) (by walk_at "m.mem")).1 (H.led (B, _) (by walk_at "m.mem")).2.1 (H.led (Lg, _) (by walk_at "m.mem")).2.1 (H.led _ (.head _)).2.1 hbv hlv (P.done hW (hno he)) P.size
end

/-! a bound method of a list: x.append as a value -/
section
open Sem (wp)
theorem slot_md_get : Slot "method_descriptor" "__get__" "method_descriptor.__get__" :=
  .of (owner := "method_descriptor") (n := "__get__") (by rw [typeLookup_type, builtinLookup_eq_fast]; kernel_rfl) (by decide +kernel) (by decide +kernel) (by decide +kernel)
    (by first | exact .inl (by decide +kernel) | exact .inr (by decide +kernel)) (by rw [isSubtype_type]; kernel_rfl)
theorem md_set_none : typeLookup (.type "method_descriptor") "__set__" = pure none := by rw [typeLookup_type, builtinLookup_eq_fast]; kernel_rfl
theorem md_del_none : typeLookup (.type "method_descriptor") "__delete__" = pure none := by rw [typeLookup_type, builtinLookup_eq_fast]; kernel_rfl
theorem entry_md_get : entryFor table "method_descriptor.__get__" = some Builtin.«method_descriptor.__get__» := entryFor_of_tree (by kernel_rfl)
theorem args_md_get (a b c : Value) : argsOk "method_descriptor.__get__" ⟨[a, b, c], []⟩ := by unfold argsOk; kernel_rfl
theorem lk_list_append : typeLookup (.type "list") "append" = pure (some (.builtin "list.append")) := F.slot_list_append.lookup
theorem owner_list_append : (".".intercalate ("list.append".cutAt '.').dropLast) = "list" := by
  have e0 : "list.append".cutAt '.' = ["list", "append"] := by first | rfl | decide +kernel
  rw [e0]; decide +kernel
theorem sub_list_owner : isSubtype (.type "list") (.type (".".intercalate ("list.append".cutAt '.').dropLast)) = pure true := by rw [owner_list_append, isSubtype_type]; kernel_rfl
variable {prog : Program} {w : World} {A : Around} {E : Value → Shared → Prop} {h : Heap} {g : Array GenState} {d : Drawn} {t : Nat} {os : OsState} {a : Addr} {o : Obj}
theorem md_get_list {R : Result → Shared → Prop} (hx : h.get? a = some o) (hc : o.cls = .type "list") (hq : R (.ok (.ret (.ref h.objs.size))) ⟨h.push { cls := .type "builtin_function_or_method", data := .fields #[.builtin "list.append", .ref a] }, g, d, t, os⟩) :
    codeAny (model prog w) A (.call (.builtin "method_descriptor.__get__") ⟨[.builtin "list.append", .ref a, .type "list"], []⟩) R ⟨h, g, d, t, os⟩ := by
  have hT : (⟨h, g, d, t, os⟩ : Shared).TypeIs (.ref a) "list" := ⟨_, hx, hc⟩
  have hT5 : (⟨h, g, d, t, os⟩ : Shared).TypeIs (.builtin "list.append") "method_descriptor" := F.type_list_append
  have f8 := sub_list_owner
  refine codeAny_call_builtin slot_md_get.plain entry_md_get (slot_md_get.check _ _ _ _ _ _ _ _ hT5 (args_md_get _ _ _) ?_)
  repeat (any_goals (first | assumption | wp_step))
theorem entry_append {tk : Tok} {Q : Fin → Shared → Prop} (hx : h.get? a = some o) (hc : o.cls = .type "list") (hd : o.dict = none) (hdat : ∃ xs k, o.data = .seq xs k)
    (hq : Q (.done (.ret (.ref h.objs.size))) ⟨h.push { cls := .type "builtin_function_or_method", data := .fields #[.builtin "list.append", .ref a] }, g, d, t, os⟩) :
    wpAny (model prog w) A (Builtin.«object.__getattribute__» ⟨[.ref a, .str "append" tk], []⟩) Q E ⟨h, g, d, t, os⟩ := by
  have hT : (⟨h, g, d, t, os⟩ : Shared).TypeIs (.ref a) "list" := ⟨_, hx, hc⟩
  have hT5 : (⟨h, g, d, t, os⟩ : Shared).TypeIs (.builtin "list.append") "method_descriptor" := F.type_list_append
  have f4 := lk_list_append
  have f5 := F.type_list_append
  have f6 := slot_md_get.lookup
  have f7 := md_set_none
  have f8 := md_del_none
  obtain ⟨xs, k, hdat⟩ := hdat
  obtain ⟨c, dct, dat, sl⟩ := o
  simp only at hc hdat hd
  subst hc hdat hd
  unfold Builtin.«object.__getattribute__»
  repeat (any_goals (first | assumption | wp_step))
  refine md_get_list hx rfl ?_
  exact wpAny_pure hq
theorem call_getattribute_append {tk : Tok} {R : Result → Shared → Prop} (hx : h.get? a = some o) (hc : o.cls = .type "list") (hd : o.dict = none) (hdat : ∃ xs k, o.data = .seq xs k)
    (hq : R (.ok (.ret (.ref h.objs.size))) ⟨h.push { cls := .type "builtin_function_or_method", data := .fields #[.builtin "list.append", .ref a] }, g, d, t, os⟩) :
    codeAny (model prog w) A (.call (.builtin "list.__getattribute__") ⟨[.ref a, .str "append" tk], []⟩) R ⟨h, g, d, t, os⟩ :=
  codeAny_call_builtin F.slot_list_getattribute.plain F.entry_list_ga (F.slot_list_getattribute.check _ _ _ _ _ _ _ _ (show (⟨h, g, d, t, os⟩ : Shared).TypeIs (.ref a) "list" from ⟨_, hx, hc⟩) (F.args_list_getattribute_2 _ _) (entry_append hx hc hd hdat hq))
theorem getAttr_append {Q : Value → Shared → Prop} (hx : h.get? a = some o) (hc : o.cls = .type "list") (hd : o.dict = none) (hdat : ∃ xs k, o.data = .seq xs k)
    (hq : Q (.ref h.objs.size) ⟨h.push { cls := .type "builtin_function_or_method", data := .fields #[.builtin "list.append", .ref a] }, g, d, t + 1, os⟩) :
    wpAny (model prog w) A (getAttr (.ref a) "append" true) Q E ⟨h, g, d, t, os⟩ := by
  have hT : ∀ tk', (⟨h, g, d, tk', os⟩ : Shared).TypeIs (.ref a) "list" := fun _ => ⟨_, hx, hc⟩
  have f2 := F.slot_list_getattribute.lookup
  have f3 := F.slot_list_getattribute.bind (.ref a)
  have hx' := hx
  obtain ⟨c, dct, dat, sl⟩ := o
  simp only at hc hd
  subst hc hd
  unfold getAttr getAttrBy
  repeat (any_goals (first | assumption | exact hT _ | wp_step))
  refine call_getattribute_append hx' rfl rfl hdat ?_
  repeat (any_goals (first | assumption | exact hT _ | wp_step))
noncomputable def boundApp (l : Addr) : Obj := { cls := .type "builtin_function_or_method", data := .fields #[.builtin "list.append", .ref l] }
theorem sig_append : Manifest.signature? "list.append" = some ⟨.oneArg, "list.append", "append", .self, [⟨"object", .posOnly, true⟩]⟩ := by
  rw [signature?_of (id := "list.append") (n := ['d', 'n', 'e', 'p', 'p', 'a']) (o := ['t', 's', 'i', 'l']) (by kernel_rfl) F.owner_list]; kernel_rfl
theorem kind_append : builtinKind "list.append" = some .method := by decide +kernel
theorem list_no_module : isSubtype (.type "list") (.type "module") = pure false := by rw [isSubtype_type]; kernel_rfl
theorem varargs_append : Manifest.varargsMethods.contains "list.append" = false := by decide +kernel
theorem last_append : Bind.lastOf "list.append" = "append" := by decide +kernel
theorem last_list : Bind.lastOf "list" = "list" := by decide +kernel
theorem isType_of {s : Shared} {a : Addr} {o : Obj} {M : Model} {Q : Bool → Shared → Prop} (hx : s.heap.get? a = some o) (hc : o.cls = .type "list") (hdat : ∃ xs k, o.data = .seq xs k) (h : Q false s) : wpAny M A (isType (.ref a)) Q E s := by
  obtain ⟨xs, k, hdat⟩ := hdat
  have hT : s.TypeIs (.ref a) "list" := ⟨_, hx, hc⟩
  have f := (by rw [isSubtype_type]; kernel_rfl : isSubtype (.type "list") (.type "type") = pure false)
  obtain ⟨c, dct, dat, sl⟩ := o
  simp only at hc hdat
  subst hc hdat
  obtain ⟨hp, g, d, tk, os⟩ := s
  unfold isType
  repeat (any_goals (first | assumption | wp_step))
theorem checkBound_append {s : Shared} {a : Addr} {o : Obj} {v : Value} {M : Model} {Q : Unit → Shared → Prop} (hx : s.heap.get? a = some o) (hc : o.cls = .type "list") (hdat : ∃ xs k, o.data = .seq xs k) (h : Q () s) : wpAny M A (checkBoundCall "list.append" ⟨[.ref a, v], []⟩) Q E s := by
  have hT : s.TypeIs (.ref a) "list" := ⟨_, hx, hc⟩
  have f1 := list_no_module
  unfold checkBoundCall
  rw [sig_append]
  simp only [kind_append]
  rw [varargs_append, last_append]
  refine wpAny_bind (wpAny_isInstance hT f1 ?_)
  refine wpAny_bind (isType_of hx hc hdat ?_)
  refine wpAny_bind (wpAny_typeOf hT ?_)
  have e : toString (Bind.lastOf "list") ++ toString "." ++ toString "append" = "list.append" := by decide +kernel
  show wpAny M A (Bind.checkArgs "list.append" { machinery := Manifest.Machinery.oneArg, full := toString (Bind.lastOf "list") ++ toString "." ++ toString "append", short := "append", receiver := Manifest.Receiver.self, params := [{ name := "object", kind := Manifest.ParamKind.posOnly, required := true }] } { pos := [Value.ref a, v] }) Q E s
  rw [e]
  have ha := F.args_list_append_2 (.ref a) v
  simp only [argsOk, sig_append] at ha
  have h2 : Bind.checkArgs "list.append" ⟨.oneArg, "list.append", "append", .self, [⟨"object", .posOnly, true⟩]⟩ ⟨[.ref a, v], []⟩ = pure () := ha
  rw [h2]; exact wpAny_pure h
theorem call_bound {s : Shared} {b l : Addr} {v : Value} {its : Array Value} {n : Nat} {Q : Value → Shared → Prop} (hb : s.heap.get? b = some (boundApp l)) (hl : s.heap.get? l = some { cls := .type "list", data := .seq its n })
    (h : ∀ h', Heap.SameBut l s.heap h' → h'.get? l = some { cls := .type "list", data := .seq (its.push v) (n + 1) } → Q .none { s with heap := h' }) (hsz : its.size ≤ sizeLine := by size_fits) :
    wpAny (model prog w) A (call (.ref b) [v]) Q E s := by
  obtain ⟨hp, g, d, tk, os⟩ := s
  refine wpAny_call (codeAny_of_tree ?_)
  show wpAny _ _ (callAny (.ref b) ⟨[v], []⟩) _ _ _
  unfold callAny boundApp at *
  repeat (any_goals (first | assumption | ((with_reducible show wpAny _ _ (checkBoundCall _ _) _ _ _); refine checkBound_append (a := l) (v := v) hl rfl ⟨_, _, rfl⟩ ?_) | wp_step))
  refine ⟨Code.quiet_builtin _ (by decide +kernel), codeAny_builtin entry_list_append ?_⟩
  show wpAny _ _ (updateSeq l (·.push v) >>= fun _ => ret .none) _ _ _
  refine wpAny_bind ?_
  refine wpAny_updateSeq hl rfl (wpAny_pure ?_)
  exact h _ (Heap.SameBut.update ..) (by rw [Heap.get?_update_self _ hl (by rw [mapSeq_push]; rfl), mapSeq_push])
theorem callWith_bound {pos : Pos} {env : Env} {s : Shared} {b l : Addr} {e : Expr} {Q : Value → Shared → Prop}
    (h : wpAny (model prog w) A (eval e env) (fun v s₁ => s₁.heap.get? b = some (boundApp l) ∧ wpAny (model prog w) A (call (.ref b) [v]) Q E s₁) E s) :
    wpAny (model prog w) A (callWith pos (.ref b) [] [(false, eval e env)] []) Q E s := by
  have h' : wpAny (model prog w) A (evalArgs (.ref b) true [(false, eval e env)] []) (fun x s₁ => s₁.heap.get? b = some (boundApp l) ∧ wpAny (model prog w) A (call (.ref b) ([] ++ x.pos) x.kw) Q E s₁) E s :=
    Calls.evalArgs_plain (Calls.spliced_cons (wpAny_mono h (fun _ _ h₁ => Calls.spliced_nil h₁) fun _ _ e => e))
  unfold callWith
  refine wpAny_bind (wpAny_holding (wpAny_mono h' (fun x s₁ h₁ => wpAny_bind (wpAny_standAt ?_)) fun _ _ x => x))
  refine wpAny_bind (m := keeperOf (.ref b)) ?_
  unfold keeperOf
  refine wpAny_bind (wpAny_load h₁.1 ?_)
  refine wpAny_pure ?_
  exact wpAny_bind (wpAny_mono h₁.2 (fun r s₂ hr => wpAny_bind (wpAny_holding (wpAny_point (wpAny_pure hr)))) fun _ _ x => x)
end

section
variable {prog : Program} {w : World} {A : Around} {E : Value → Shared → Prop} {s₀ s : Shared} {env : Env} {own : List Addr} {vars vars' : Vars} {g : Heap} {I I' : List (Addr × Obj)}
theorem rBound {x : Str} {np pos : Pos} {l : Addr} {its : Array Value} {n : Nat} {Q : Value → Shared → Prop} (H : Fs s₀ env own vars g I s) (hx : (x, some (.ref l)) ∈ vars) (hl : (l, listOf its n) ∈ I)
    (h : ∀ b s', Fs s₀ env own vars g ((b, boundApp l) :: I) s' → Q (.ref b) s') :
    wpAny (model prog w) A (eval (.Attribute (.Name x np) "append" pos) env) Q E s := by
  refine PyProof.Rows.Attribute_any_ (rName H hx ?_)
  obtain ⟨hp, g', d, tk, os⟩ := s
  refine getAttr_append (H.led _ hl).1 rfl rfl ⟨_, _, rfl⟩ (h _ _ (H.add (h' := hp.push (boundApp l)) (tk + 1) (fun b o e => Heap.get?_push_of_some _ e) (get_size_none _) (Heap.get?_push_size _ rfl)))
theorem rAppendB {x : Str} {np pos : Pos} {e : Expr} {b l : Addr} {Q : Value → Shared → Prop} (H : Fs s₀ env own vars g I s) (hx : (x, some (.ref b)) ∈ vars)
    (h : wpAny (model prog w) A (eval e env) (fun v s₁ => ∃ I₁ I₂ vs n, Fs s₀ env own vars g I₁ s₁ ∧ (b, boundApp l) ∈ I₁ ∧ Turn l (listOf (vs : List Value).toArray n) (listOf (vs ++ [v]).toArray (n + 1)) I₁ I₂ ∧ vs.length ≤ 1000 ∧ ∀ s', Fs s₀ env own vars g I₂ s' → Q .none s') E s)
    (hs : starEach [e] env = [(false, eval e env)] := by rfl) :
    wpAny (model prog w) A (eval (.Call (.Name x np) [e] [] pos) env) Q E s := by
  refine PySem.Call_name1 hs (rName H hx (callWith_bound (l := l) (wpAny_mono h (fun v s₁ h₁ => ?_) fun _ _ x => x)))
  obtain ⟨I₁, I₂, vs, n, H₁, hb, ht, hz, h₁⟩ := h₁
  have ho := ht.get H₁
  refine ⟨(H₁.led _ hb).1, call_bound (H₁.led _ hb).1 ho (fun h' hs ho' => h₁ _ (H₁.turn (h' := h') s₁.toks ht (fun b x hb e => (hs.2 b hb).trans e) ?_)) (Nat.le_trans (by simpa using hz) le_line)⟩
  rw [ho']; simp
end

/-! text -/
noncomputable abbrev S (l : List Nat) : Str := ⟨l.toArray⟩
theorem S_app (a b : List Nat) : S a ++ S b = S (a ++ b) := Str.ext' (by simp [Str.cps_append])
theorem S_len (a : List Nat) : (S a).length = a.length := by simp [Str.length]
theorem S_inj {a b : List Nat} : S a = S b ↔ a = b := ⟨fun h => by have := congrArg (fun x : Str => x.cps.toList) h; simpa using this, fun h => h ▸ rfl⟩
noncomputable def SV (vs : List Value) (xs : List (List Nat)) : Prop := ∃ l : List (Str × Tok), vs = strValues l ∧ l.map (·.1) = xs.map S
theorem SV.nil : SV [] [] := ⟨[], rfl, rfl⟩
theorem SV.one {x : List Nat} (t : Tok) : SV [.str (S x) t] [x] := ⟨[(_, t)], rfl, rfl⟩
theorem SV.cons {x : List Nat} {vs : List Value} {xs : List (List Nat)} (t : Tok) (h : SV vs xs) : SV (.str (S x) t :: vs) (x :: xs) := by
  obtain ⟨l, rfl, e⟩ := h
  exact ⟨(S x, t) :: l, rfl, by simp [e]⟩
theorem SV.app {vs us : List Value} {xs ys : List (List Nat)} (h : SV vs xs) (k : SV us ys) : SV (vs ++ us) (xs ++ ys) := by
  obtain ⟨l, rfl, e⟩ := h
  obtain ⟨m, rfl, f⟩ := k
  exact ⟨l ++ m, by simp [strValues], by simp [e, f]⟩
theorem SV.length {vs : List Value} {xs : List (List Nat)} (h : SV vs xs) : vs.length = xs.length := by
  obtain ⟨l, rfl, e⟩ := h
  have := congrArg List.length e
  simpa [strValues] using this
theorem SV.get {vs : List Value} {xs : List (List Nat)} (h : SV vs xs) {i : Nat} {x : List Nat} (hx : xs[i]? = some x) : ∃ t, vs[i]? = some (.str (S x) t) := by
  obtain ⟨l, rfl, e⟩ := h
  have h1 : (l.map (·.1))[i]? = some (S x) := by rw [e]; simp [hx]
  rw [List.getElem?_map] at h1
  cases hl : l[i]? with
  | none => rw [hl] at h1; cases h1
  | some p =>
    rw [hl] at h1
    simp only [Option.map_some, Option.some.injEq] at h1
    exact ⟨p.2, by simp [strValues, hl, h1]⟩
theorem SV.take {vs : List Value} {xs : List (List Nat)} (h : SV vs xs) (k : Nat) : SV (vs.take k) (xs.take k) := by
  obtain ⟨l, rfl, e⟩ := h
  exact ⟨l.take k, by simp [strValues], by rw [List.map_take, e, List.map_take]⟩

section
variable {prog : Program} {w : World} {A : Around} {E : Value → Shared → Prop} {s₀ s : Shared} {env : Env} {own : List Addr} {vars vars' : Vars} {g : Heap} {I I' : List (Addr × Obj)}
theorem le_line' {n : Nat} (h : n ≤ 1000) : n ≤ sizeLine := Nat.le_trans h le_line
theorem rEqS {a b : List Nat} {t u : Tok} {Q : Value → Shared → Prop} (h : Q (.bool (decide (a = b))) s) : wpAny (model prog w) A (compareOp .Eq (.str (S a) t) (.str (S b) u)) Q E s :=
  P.eq_str (by rw [show ((S a).cps.toList == (S b).cps.toList) = decide (a = b) by rw [Bool.eq_iff_iff]; simp]; exact h)
theorem rNeS {a b : List Nat} {t u : Tok} {Q : Value → Shared → Prop} (h : Q (.bool (!decide (a = b))) s) : wpAny (model prog w) A (compareOp .NotEq (.str (S a) t) (.str (S b) u)) Q E s :=
  P.ne_str (by rw [show ((S a).cps.toList != (S b).cps.toList) = !decide (a = b) by rw [Bool.eq_iff_iff]; simp]; exact h)
theorem post_add {a b : List Nat} {t u : Tok} {Q : Value → Shared → Prop} (hz : a.length + b.length ≤ 1000) (h : ∀ t' k, Q (.str (S (a ++ b)) t') { s with toks := k }) :
    (if (S a).length == 0 then Made.val (.str (S b) u) else if (S b).length == 0 then Made.val (.str (S a) t) else Made.str (S a ++ S b)).post Q s := by
  rw [S_len, S_len]
  by_cases ha : a = []
  · subst ha; exact h u s.toks
  · by_cases hb : b = []
    · subst hb
      have : (a.length == 0) = false := by simp [ha]
      rw [this]
      have := h t s.toks
      rw [List.append_nil] at this; exact this
    · have h1 : (a.length == 0) = false := by simp [ha]
      have h2 : (b.length == 0) = false := by simp [hb]
      rw [h1, h2]
      refine ⟨?_, ?_⟩
      · rw [S_app, S_len, List.length_append]; exact le_line' hz
      · rw [S_app]; exact h _ _
theorem rAddS {a b : List Nat} {t u : Tok} {Q : Value → Shared → Prop} (H : Fs s₀ env own vars g I s) (hz : a.length + b.length ≤ 1000) (h : ∀ t s', Fs s₀ env own vars g I s' → Q (.str (S (a ++ b)) t) s') :
    wpAny (model prog w) A (binaryOp .Add (.str (S a) t) (.str (S b) u)) Q E s := P.add_str (post_add hz fun t' k => h _ _ (H.toks k))
theorem rIaddS {a b : List Nat} {t u : Tok} {Q : Value → Shared → Prop} (H : Fs s₀ env own vars g I s) (hz : a.length + b.length ≤ 1000) (h : ∀ t s', Fs s₀ env own vars g I s' → Q (.str (S (a ++ b)) t) s') :
    wpAny (model prog w) A (inplaceOp .Add (.str (S a) t) (.str (S b) u)) Q E s := P.iadd_str (post_add hz fun t' k => h _ _ (H.toks k))
theorem rInS {a : List Nat} {c : Nat} {t u : Tok} {Q : Value → Shared → Prop} (h : Q (.bool (decide (c ∈ a))) s) : wpAny (model prog w) A (compareOp .In (.str (S [c]) u) (.str (S a) t)) Q E s :=
  P.in_str (by rw [StrLaws.found_one]; simpa using h)
theorem rNotInS {a : List Nat} {c : Nat} {t u : Tok} {Q : Value → Shared → Prop} (h : Q (.bool (!decide (c ∈ a))) s) : wpAny (model prog w) A (compareOp .NotIn (.str (S [c]) u) (.str (S a) t)) Q E s :=
  P.notIn_str (by rw [StrLaws.found_one]; simpa using h)
theorem rLenS {a : List Nat} {t : Tok} {Q : Value → Shared → Prop} (H : Fs s₀ env own vars g I s) (hz : a.length ≤ 1000) (h : ∀ t s', Fs s₀ env own vars g I s' → Q (.int a.length t) s') :
    wpAny (model prog w) A (call (.builtin "len") [.str (S a) t]) Q E s := P.len_str (by rw [S_len]; omega) (by rw [S_len]; exact h _ _ (H.toks _))
theorem rTruthS {a : List Nat} {t : Tok} {Q : Bool → Shared → Prop} (H : Fs s₀ env own vars g I s) (hz : a.length ≤ 1000) (h : ∀ s', Fs s₀ env own vars g I s' → Q (!decide (a = [])) s') : wpAny (model prog w) A (truthy (.str (S a) t)) Q E s := by
  refine P.truthy_str (by rw [S_len]; omega) ?_
  rw [S_len, show ((a.length : Int) != 0) = !decide (a = []) by rw [Bool.eq_iff_iff]; simp]
  exact h _ (H.toks _)
theorem rGetS {value slice : Expr} {a : List Nat} {t : Tok} {k : Int} {u : Tok} {c : Nat} {Q : Value → Shared → Prop} (H : Fs s₀ env own vars g I s) (h0 : 0 ≤ k) (hhi : k < 1000) (hx : a[k.toNat]? = some c) (h : ∀ t s', Fs s₀ env own vars g I s' → Q (.str (S [c]) t) s')
    (hs : subscripted slice false (.str (S a) t) (.int k u) = operate [.str (S a) t, .int k u] (getItem (.str (S a) t) (.int k u)) := by with_unfolding_all rfl) :
    wpAny (model prog w) A (subscriptTail value slice (.str (S a) t) (.int k u)) Q E s :=
  tail_any (typeIs_str _ _ _) F.slot_str_getitem.lookup (P.getItem_str (by simp; omega) (StrLaws.at_nonneg h0 (by simpa using hx)) (h _ _ (H.toks _))) hs
theorem rGetLast {value slice : Expr} {a : List Nat} {t u : Tok} {c : Nat} {Q : Value → Shared → Prop} (H : Fs s₀ env own vars g I s) (hx : a.getLast? = some c) (h : ∀ t s', Fs s₀ env own vars g I s' → Q (.str (S [c]) t) s')
    (hs : subscripted slice false (.str (S a) t) (.int (-1) u) = operate [.str (S a) t, .int (-1) u] (getItem (.str (S a) t) (.int (-1) u)) := by with_unfolding_all rfl) :
    wpAny (model prog w) A (subscriptTail value slice (.str (S a) t) (.int (-1) u)) Q E s := by
  have hne : a ≠ [] := fun e => by rw [e] at hx; cases hx
  have hl : 0 < a.length := List.length_pos_iff.mpr hne
  refine tail_any (typeIs_str _ _ _) F.slot_str_getitem.lookup (P.getItem_str (c := c) (by decide) ?_ (h _ _ (H.toks _))) hs
  rw [S_len, StrLaws.seqIndex_neg (by omega) (by omega)]
  simp only [Option.bind_some, List.getElem?_toArray]
  rw [show ((-1 : Int) + a.length).toNat = a.length - 1 by omega, ← List.getLast?_eq_getElem?]; exact hx
theorem sliceMade_post {x : Str} {t : Tok} {l u : Option (Int × Tok)} {y : Str} {Q : Value → Shared → Prop} (hy : y.length ≤ 1000) (e : StrLaws.sliceText x (l.map (·.1)) (u.map (·.1)) = y) (h : ∀ t' k, Q (.str y t') { s with toks := k }) :
    (sliceMade x t l u none).post Q s := by
  unfold sliceMade slicePicked
  unfold StrLaws.sliceText at e
  simp only [Option.map_none, Option.getD_none] at e ⊢
  split
  · rename_i hc
    rw [if_pos hc] at e; subst e; exact h _ s.toks
  · rename_i hc
    rw [if_neg hc] at e; subst e
    exact ⟨le_line' hy, h _ _⟩
/-- x[a:b] of a text -/
theorem rSliceS {value : Expr} {lower upper : Option Expr} {p pos : Pos} {Q : Value → Shared → Prop} (_H : Fs s₀ env own vars g I s)
    (h : wpAny (model prog w) A (eval value env) (fun o s₁ => wpAny (model prog w) A (evalPart lower env) (fun vl s₂ => wpAny (model prog w) A (evalPart upper env) (fun vu s₃ =>
      ∃ x y t l u vars I, o = .str x t ∧ vl = partValue l ∧ vu = partValue u ∧ StrLaws.sliceText x (l.map (·.1)) (u.map (·.1)) = S y ∧ y.length ≤ 1000 ∧ Fs s₀ env own vars g I s₃ ∧ ∀ t' s', Fs s₀ env own vars g I s' → Q (.str (S y) t') s') E s₂) E s₁) E s)
    (ht : ∀ o r, letTemporaryGo value o r = pure () := by intro _ _; rfl) : wpAny (model prog w) A (eval (.Subscript value (.Slice lower upper none p) pos) env) Q E s := by
  refine wpAny_Subscript_str_slice (wpAny_mono h (fun o s₁ h₁ => wpAny_mono h₁ (fun vl s₂ h₂ => wpAny_mono h₂ (fun vu s₃ h₃ => ?_) fun _ _ x => x) fun _ _ x => x) fun _ _ x => x) ht
  obtain ⟨x, y, t, l, u, vars, I, rfl, rfl, rfl, e, hy, H, hQ⟩ := h₃
  exact ⟨x, t, l, u, rfl, rfl, rfl, sliceMade_post (by rw [S_len]; exact hy) e fun t' k => hQ _ _ (((H.grow (h' := s₃.heap.push _) s₃.toks fun b o e => Heap.get?_push_of_some _ e)).toks k)⟩
theorem slice_mid {a : List Nat} {i j : Int} (h0 : 0 ≤ i) (h1 : i ≤ j) (h2 : j ≤ a.length) : StrLaws.sliceText (S a) (some i) (some j) = S ((a.drop i.toNat).take (j - i).toNat) := StrLaws.sliceText_plain ⟨h0, h1, by simpa using h2⟩
theorem slice_from {a : List Nat} {i : Int} (h0 : 0 ≤ i) (h1 : i ≤ a.length) : StrLaws.sliceText (S a) (some i) none = S (a.drop i.toNat) := by
  rw [StrLaws.sliceText_from ⟨h0, by simpa using h1⟩]
  simp only [S]
  rw [List.take_of_length_le (by simp; omega)]
theorem slice_last {a : List Nat} {j : Int} (h0 : j < 0) (h1 : 0 ≤ j + a.length) : StrLaws.sliceText (S a) none (some j) = S (a.take (j + a.length).toNat) := by
  have e : StrLaws.sliceText (S a) none (some j) = StrLaws.sliceText (S a) none (some (j + a.length)) := by
    unfold StrLaws.sliceText
    have : Builtin.Str.strSliceIndices none (some j) 1 (S a).length = Builtin.Str.strSliceIndices none (some (j + a.length)) 1 (S a).length := by
      rw [S_len]
      have n1 : ¬ (j + (a.length : Int) < 0) := by omega
      simp [Builtin.Str.strSliceIndices, h0, n1]
    rw [this]
  rw [e, StrLaws.sliceText_to ⟨h1, by simp; omega⟩]
  simp
theorem args_none {f : Value} {Q : Args → Shared → Prop} (h : Q ⟨[], []⟩ s) : wpAny (model prog w) A (evalArgs f true [] []) Q E s := by
  unfold evalArgs
  exact wpAny_bind (wpAny_pure (wpAny_bind (wpAny_pure (wpAny_bind (wpAny_pure (wpAny_pure h))))))
theorem parts_length (x : Str) (w : Nat) : ∀ (a : Nat) (cuts : List Nat), (StrLaws.partsFrom x w a cuts).length = cuts.length + 1
  | _, [] => rfl
  | _, c :: r => by show _ + 1 = _; rw [parts_length x w (c + w) r]; rfl
/-- a method of a text, no argument, one argument -/
theorem rMethS0 {o : Expr} {name : Str} {id : String} {apos pos : Pos} {Q : Value → Shared → Prop} (slot : Slot "str" name id) (ty : typeOf (.builtin id) = pure (.type "method_descriptor"))
    (h : wpAny (model prog w) A (eval o env) (fun ov s₁ => ∃ x t, ov = .str x t ∧ wpAny (model prog w) A (call (.builtin id) [.str x t]) Q E s₁) E s)
    (hbase : attributeBase o name env (eval o env) = eval o env := by rfl) (hline : (apos.endLine == pos.line) = true := by rfl) :
    wpAny (model prog w) A (eval (.Call (.Attribute o name apos) [] [] pos) env) Q E s := by
  refine PySem.Call_method0 hbase hline (wpAny_mono h (fun ov s₁ h₁ => ?_) fun _ _ x => x)
  obtain ⟨x, t, rfl, h₁⟩ := h₁
  exact ⟨"str", id, F.plainAttrs_str, slot, ty, typeIs_str _ _ _, (fun _ e => nomatch e), Calls.callWith_builtin rfl (args_none h₁)⟩
theorem rMethS1 {o e : Expr} {name : Str} {id : String} {apos pos : Pos} {Q : Value → Shared → Prop} (slot : Slot "str" name id) (ty : typeOf (.builtin id) = pure (.type "method_descriptor"))
    (h : wpAny (model prog w) A (eval o env) (fun ov s₁ => ∃ x t, ov = .str x t ∧ wpAny (model prog w) A (eval e env) (fun v s₂ => wpAny (model prog w) A (call (.builtin id) [.str x t, v]) Q E s₂) E s₁) E s)
    (hbase : attributeBase o name env (eval o env) = eval o env := by rfl) (hs : starEach [e] env = [(false, eval e env)] := by rfl) (hline : (apos.endLine == pos.line) = true := by rfl) :
    wpAny (model prog w) A (eval (.Call (.Attribute o name apos) [e] [] pos) env) Q E s := by
  refine PySem.Call_method1 hbase hs hline (wpAny_mono h (fun ov s₁ h₁ => ?_) fun _ _ x => x)
  obtain ⟨x, t, rfl, h₁⟩ := h₁
  exact ⟨"str", id, F.plainAttrs_str, slot, ty, typeIs_str _ _ _, (fun _ e => nomatch e),
    Calls.callWith_builtin rfl (Calls.evalArgs_plain (Calls.spliced_cons (wpAny_mono h₁ (fun _ _ h₂ => Calls.spliced_nil h₂) fun _ _ e => e)))⟩
theorem push_sv (H : Fs s₀ env own vars g I s) (vs : List Value) (k : Nat) : Fs s₀ env own vars g ((s.heap.objs.size, listOf vs.toArray 0) :: I) { s with heap := s.heap.push { cls := .type "list", data := .seq vs.toArray }, toks := k } :=
  H.add (h' := s.heap.push _) k (fun b o e => Heap.get?_push_of_some _ e) (get_size_none _) (Heap.get?_push_size _ rfl)
theorem rLines {x : List Nat} {t : Tok} {ys : List (List Nat)} {Q : Value → Shared → Prop} (H : Fs s₀ env own vars g I s) (hz : x.length ≤ 500) (e : Txt.lines (S x) = ys.map S) (h : ∀ D vs s', SV vs ys → Fs s₀ env own vars g ((D, listOf vs.toArray 0) :: I) s' → Q (.ref D) s') :
    wpAny (model prog w) A (call (.builtin "str.splitlines") [.str (S x) t]) Q E s := by
  refine call_meets F.slot_str_splitlines (typeIs_str _ _ _) F.entry_str_splitlines (F.args_str_splitlines_1 _) (meets_str_splitlines (S x) t (le_line' (by rw [S_len]; omega)) (by have q := lineCuts_le (S x); rw [S_len] at q; exact le_line' (by omega))) ?_
  cases hw : lineCuts (S x) == [(0, (S x).length)]
  · simp only [Bool.false_eq_true, if_false]
    rw [strsFrom_eq]
    exact h _ _ _ ⟨_, rfl, by rw [numbered_texts, ← e]; exact (if_neg (ne_true_of_eq_false hw)).symm⟩ (push_sv H _ _)
  · simp only [if_true]
    exact h _ _ _ ⟨[(S x, t)], rfl, by rw [← e]; exact (if_pos hw).symm⟩ (push_sv H _ s.toks)
theorem rSplit {x y : List Nat} {t u : Tok} {ys : List (List Nat)} {Q : Value → Shared → Prop} (H : Fs s₀ env own vars g I s) (hz : x.length ≤ 500) (hy : y ≠ []) (e : Txt.split (S x) (S y) = ys.map S) (h : ∀ D vs s', SV vs ys → Fs s₀ env own vars g ((D, listOf vs.toArray 0) :: I) s' → Q (.ref D) s') :
    wpAny (model prog w) A (call (.builtin "str.split") [.str (S x) t, .str (S y) u]) Q E s := by
  have hy0 : ((S y).length == 0) = false := by rw [S_len]; simp [hy]
  have hx0 : (S x).length ≤ sizeLine := le_line' (by rw [S_len]; omega)
  cases h1 : (decide ((S x).length < (S y).length) || decide (Builtin.Str.strKind (S x) < Builtin.Str.strKind (S y)))
  · cases hf : (Builtin.Str.occurrences (S x) (S y) 0 (S x).length ((S x).length + 1)).isEmpty
    · refine call_meets F.slot_str_split (typeIs_str _ _ _) F.entry_str_split (F.args_str_split_2 _ _) (meets_str_split_sep (S x) (S y) t u h1 hy0 hf hx0 ?_) ?_
      · rw [StrLaws.partsBetween_eq, parts_length]
        have := StrLaws.occ_length_le (S x) (S y) 0 (S x).length ((S x).length + 1)
        rw [S_len] at this ⊢
        exact le_line' (by omega)
      · show wants Q E _ { s with toks := _, heap := s.heap.push { cls := .type "list", data := .seq (strsFrom s.toks (Builtin.Str.partsBetween (S x) (Builtin.Str.occurrences (S x) (S y) 0 (S x).length ((S x).length + 1)) (S y).length)).toArray } }
        rw [strsFrom_eq]
        exact h _ _ _ ⟨_, rfl, by rw [numbered_texts, ← e]; exact ((if_neg (ne_true_of_eq_false h1)).trans (if_neg (ne_true_of_eq_false hf))).symm⟩ (push_sv H _ _)
    · exact call_meets F.slot_str_split (typeIs_str _ _ _) F.entry_str_split (F.args_str_split_2 _ _) (meets_str_split_not_found (S x) (S y) t u h1 hy0 hf)
        (h _ _ _ ⟨[(S x, t)], rfl, by rw [← e]; exact ((if_neg (ne_true_of_eq_false h1)).trans (if_pos hf)).symm⟩ (push_sv H _ s.toks))
  · exact call_meets F.slot_str_split (typeIs_str _ _ _) F.entry_str_split (F.args_str_split_2 _ _) (meets_str_split_cannot_occur (S x) (S y) t u h1)
      (h _ _ _ ⟨[(S x, t)], rfl, by rw [← e]; exact (if_pos h1).symm⟩ (push_sv H _ s.toks))
noncomputable def joinN (sep : List Nat) : List (List Nat) → List Nat
  | [] => []
  | [x] => x
  | x :: y :: r => x ++ sep ++ joinN sep (y :: r)
theorem join_S (sep : List Nat) : ∀ xs : List (List Nat), Txt.join (S sep) (xs.map S) = S (joinN sep xs)
  | [] => rfl
  | [x] => rfl
  | x :: y :: r => by
    have ih := join_S sep (y :: r)
    show Builtin.Str.glued _ _ = _
    rw [StrLaws.glued_eq_join]
    have ih' : Str.join (S sep) ((y :: r).map S) = S (joinN sep (y :: r)) := by rw [← StrLaws.glued_eq_join]; exact ih
    show S x ++ S sep ++ Str.join (S sep) ((y :: r).map S) = _
    rw [ih', S_app, S_app]; rfl
theorem rJoin {sep : List Nat} {t : Tok} {D : Addr} {vs : List Value} {xs : List (List Nat)} {Q : Value → Shared → Prop} (H : Fs s₀ env own vars g I s) (hl : s.heap.IsList D vs.toArray) (hv : SV vs xs) (hz : xs.length ≤ 1000) (hsep : sep.length ≤ 10) (hx : ∀ x ∈ xs, x.length ≤ 1000)
    (h : ∀ t s', Fs s₀ env own vars g I s' → Q (.str (S (joinN sep xs)) t) s') : wpAny (model prog w) A (call (.builtin "str.join") [.str (S sep) t, .ref D]) Q E s := by
  obtain ⟨l, rfl, e⟩ := hv
  refine SC.join (texts := xs.map S) hl e ?_ fun t' k => ?_
  · unfold JoinOk
    have q := StrLaws.joinFits (sep := S sep) (texts := xs.map S) (B := 1000) (fun y hy => by
        obtain ⟨x, hxm, rfl⟩ := List.mem_map.mp hy
        rw [S_len]; exact hx x hxm) (by
        rw [List.length_map, S_len]
        have : xs.length * sep.length ≤ 1000 * 10 := Nat.mul_le_mul hz hsep
        omega)
    rw [q]; rfl
  · rw [join_S]; exact h _ _ (H.toks k)
end

/-! str.translate by a table that is a list of texts -/
section
variable {prog : Program} {w : World} {A : Around} {E : Value → Shared → Prop} {s : Shared}
theorem enc_len (c : Nat) : 1 ≤ (enc c).length ∧ (enc c).length ≤ 3 := by
  unfold enc; split <;> simp
theorem tl_run {a : Addr} {items : Array Value} {c : Nat} {y : Str} {t : Tok} {Q : Builtin.Str.Mapped → Shared → Prop} (hl : s.heap.IsList a items) (hc : items[c]? = some (.str y t)) (hlt : c < 1000) (h : ∀ k, Q (.text y) { s with toks := k }) :
    wpAny (model prog w) A (Builtin.Str.tableLookup (.ref a) c) Q E s := by
  unfold Builtin.Str.tableLookup
  refine wpAny_bind (wpAny_attempt ?_)
  refine wpAny_bind (wpAny_mkInt' ?_)
  refine wpAny_getItem_list (s := { s with toks := s.toks + 1 }) hl (by omega) (by omega) (by simpa using hc) ?_
  refine wpAny_bind (wpAny_pure ?_)
  refine wpAny_bind (wpAny_pure ?_)
  exact wpAny_pure (h _)
noncomputable def TabOk (h : Heap) (a : Addr) : Prop := ∃ items : Array Value, h.IsList a items ∧ items.size = 256 ∧ ∀ c, c < 256 → ∃ t, items[c]? = some (.str (S (enc c)) t)
theorem fold_pieces : ∀ (l : List Str) (acc : Array Nat), l.foldl (fun acc p => acc ++ p.cps) acc = acc ++ (l.map fun p => p.cps.toList).flatten.toArray
  | [], acc => by simp
  | p :: r, acc => by
    rw [List.foldl_cons, fold_pieces r]
    apply Array.toList_inj.mp
    simp
/-- what the loop of translate keeps -/
structure TrI (x : List Nat) (s : Shared) (rest : List Nat) (b : List Str × Nat × Bool × List (Nat × Option Nat) × Bool) (s' : Shared) : Prop where
  pre : ∃ p, p ++ rest = x ∧ (b.1.reverse.map fun p => p.cps.toList).flatten = p.flatMap enc ∧ b.2.1 ≤ 3 * p.length
  known : ∀ c a, b.2.2.2.1.lookup c = some a → ∃ d, a = some d ∧ enc c = [d]
  drop : b.2.2.2.2 = false
  st : ∃ k, s' = { s with toks := k }
theorem TrI.next {x : List Nat} {s s' : Shared} {c : Nat} {rest : List Nat} {b : List Str × Nat × Bool × List (Nat × Option Nat) × Bool} (h : TrI x s (c :: rest) b s') {y : Str} (hy : y.cps.toList = enc c) {n : Nat} (hn : n = y.length) {kn : List (Nat × Option Nat)}
    (hk : ∀ c a, kn.lookup c = some a → ∃ d, a = some d ∧ enc c = [d]) {fast : Bool} (k : Nat) : TrI x s rest (y :: b.1, b.2.1 + n, fast, kn, false) { s with toks := k } := by
  obtain ⟨p, e1, e2, e3⟩ := h.pre
  refine ⟨⟨p ++ [c], by rw [← e1]; simp, ?_, ?_⟩, hk, rfl, k, rfl⟩
  · simp only [List.reverse_cons, List.map_append, List.flatten_append, e2, List.map_cons, List.map_nil, List.flatten_cons, List.flatten_nil, List.append_nil, List.flatMap_append, List.flatMap_cons, List.flatMap_nil, hy]
  · have h1 := (enc_len c).2
    have h2 : y.length = (enc c).length := by rw [← hy]; simp [Str.length]
    simp only [List.length_append, List.length_cons, List.length_nil]
    omega
theorem meets_translate {x : List Nat} {t : Tok} {a : Addr} (hx : ∀ c ∈ x, c < 256) (hz : x.length ≤ 100) (hne : x ≠ []) :
    Meets (Builtin.«str.translate» ⟨[.str (S x) t, .ref a], []⟩) (fun _ R s => TabOk s.heap a ∧ ∀ t' k, R (.ok (.ret (.str (S (x.flatMap enc)) t'))) { s with toks := k }) :=
  Meets.of_wp fun prog w A R s hs => by
    obtain ⟨⟨items, hl, hsz, ht⟩, h⟩ := hs
    unfold Builtin.«str.translate»
    refine wpAny_bind (wpAny_pure ?_)
    have h0 : ((S x).length == 0) = false := by rw [S_len]; simp [hne]
    simp only [h0]
    refine wpAny_ite ?_
    rw [if_neg (by simp)]
    have look : ∀ {c : Nat} {s' : Shared} {Q : Builtin.Str.Mapped → Shared → Prop}, c ∈ x → (∃ k, s' = { s with toks := k }) → (∀ k, Q (.text (S (enc c))) { s with toks := k }) → wpAny (model prog w) A.in1 (Builtin.Str.tableLookup (.ref a) c) Q (fun e s' => R (.error e) s') s' := by
      rintro c s' Q hc ⟨k, rfl⟩ hq
      obtain ⟨t, e⟩ := ht c (hx c hc)
      have := hx c hc
      exact tl_run (s := { s with toks := k }) hl e (by omega) (fun k' => hq k')
    refine wpAny_bind (wpAny_forIn_array' _ (TrI x s) _ (fun c rest b s' hI => ?_) (fun b s' hI => ?_) _ _ ?_)
    · obtain ⟨p, e1, e2, e3⟩ := hI.pre
      have hc : c ∈ x := by rw [← e1]; simp
      have hp : p.length ≤ 100 := by rw [← e1] at hz; simp at hz; omega
      have tot : Builtin.Str.tooLong b.2.1 = false := by
        have : ¬ b.2.1 > 2 ^ 24 := by omega
        simpa [Builtin.Str.tooLong, sizeLine] using this
      simp only [tot, Bool.false_eq_true, if_false]
      cases hf : b.2.2.1 with
      | false =>
        simp only [hI.drop, Bool.false_eq_true, if_false]
        exact wpAny_bind (look hc hI.st fun k => wpAny_pure (hI.next (y := S (enc c)) rfl rfl hI.known k))
      | true =>
        simp only [hI.drop, Bool.false_eq_true, if_false, if_true]
        cases hk : List.lookup c b.2.2.2.1 with
        | some a1 =>
          obtain ⟨d, rfl, hd⟩ := hI.known c a1 hk
          obtain ⟨k, rfl⟩ := hI.st
          exact wpAny_bind (wpAny_pure (wpAny_pure (hI.next (y := ⟨#[d]⟩) (by rw [hd]) rfl hI.known k)))
        | none =>
          refine wpAny_bind (look hc hI.st fun k => ?_)
          by_cases hcond : ((S (enc c)).length == 1 && (S (enc c)).cps.all fun x => decide (x < 128)) = true
          · simp only [hcond, if_true]
            rw [Bool.and_eq_true] at hcond
            have h1 : (enc c).length = 1 := by have := hcond.1; rw [S_len] at this; simpa using this
            obtain ⟨d, hd⟩ : ∃ d, enc c = [d] := by
              match he : enc c, h1 with
              | [d], _ => exact ⟨d, rfl⟩
            have e0 : (S (enc c)).cps[0]? = some d := by rw [hd]; rfl
            simp only [e0]
            refine wpAny_bind (wpAny_pure (wpAny_pure (hI.next (y := ⟨#[d]⟩) (by rw [hd]) rfl (fun c' a' e => ?_) k)))
            rw [List.lookup_cons] at e
            by_cases hcc : c' = c
            · subst hcc; simp at e; exact ⟨d, e.symm, hd⟩
            · have : (c' == c) = false := by simpa using hcc
              rw [this] at e; exact hI.known c' a' e
          · have hcond' : ((S (enc c)).length == 1 && (S (enc c)).cps.all fun x => decide (x < 128)) = false := by simpa using hcond
            simp only [hcond', Bool.false_eq_true, if_false]
            refine wpAny_bind (wpAny_pure ?_)
            refine wpAny_bind (wpAny_rule ?_)
            exact wpAny_bind (look hc ⟨k, rfl⟩ fun k => wpAny_pure (hI.next (y := S (enc c)) rfl rfl hI.known k))
    · obtain ⟨p, e1, e2, e3⟩ := hI.pre
      rw [List.append_nil] at e1
      subst e1
      have tot : Builtin.Str.tooLong b.2.1 = false := by
        have : ¬ b.2.1 > 2 ^ 24 := by omega
        simpa [Builtin.Str.tooLong, sizeLine] using this
      simp only [tot, Bool.false_eq_true, if_false]
      obtain ⟨k, rfl⟩ := hI.st
      have e : (List.foldl (fun acc (p : Str) => acc ++ p.cps) #[] b.1.reverse) = (p.flatMap enc).toArray := by
        rw [fold_pieces, e2]; simp
      rw [e]
      have hlen : (p.flatMap enc).length ≤ 300 := by
        clear hI e e2 hx hne h h0 look tot e3
        have : ∀ l : List Nat, (l.flatMap enc).length ≤ 3 * l.length := fun l => by
          induction l with
          | nil => simp
          | cons c r ih => have := (enc_len c).2; simp only [List.flatMap_cons, List.length_append, List.length_cons]; omega
        have := this p; omega
      exact wpAny_bind (wpAny_mkStr' (wpAny_pure ⟨_, rfl, h _ _⟩) (le_line' (by rw [S_len]; omega)))
    · exact ⟨⟨[], rfl, rfl, by simp⟩, fun c a e => by simp at e, rfl, s.toks, rfl⟩
end
section
variable {prog : Program} {w : World} {A : Around} {E : Value → Shared → Prop} {s₀ s : Shared} {env : Env} {own : List Addr} {vars vars' : Vars} {g : Heap} {I I' : List (Addr × Obj)}
theorem rTranslate {x : List Nat} {t : Tok} {a : Addr} {Q : Value → Shared → Prop} (H : Fs s₀ env own vars g I s) (ht : TabOk s.heap a) (hx : ∀ c ∈ x, c < 256) (hz : x.length ≤ 100) (hne : x ≠ [])
    (h : ∀ t s', Fs s₀ env own vars g I s' → Q (.str (S (x.flatMap enc)) t) s') : wpAny (model prog w) A (call (.builtin "str.translate") [.str (S x) t, .ref a]) Q E s :=
  call_meets F.slot_str_translate (typeIs_str _ _ _) F.entry_str_translate (F.args_str_translate_2 _ _) (meets_translate hx hz hne) ⟨ht, fun t' k => h _ _ (H.toks k)⟩
end

/-! text: what splitlines and split give of joined rows -/
section
open PySem.StrLaws Builtin.Str
noncomputable def joinOf := joinN
theorem joinN_cons (sep : List Nat) (x y : List Nat) (r : List (List Nat)) : joinN sep (x :: y :: r) = x ++ (sep ++ joinN sep (y :: r)) := by simp [joinN]
noncomputable def noBrk (q : List Nat) : Prop := ∀ c ∈ q, Unicode.isLineBreak c = false
noncomputable abbrev lsRun (x : Str) (l : List Nat) (st : LsSt) : LsSt := Id.run (forIn (m := Id) l st (lsBody x))
theorem lsRun_cons (x : Str) (i : Nat) (l : List Nat) (st : LsSt) : lsRun x (i :: l) st = lsRun x l (if (decide (st.snd ≤ i) && Unicode.isLineBreak (x.cps.getD i 0)) = true then (st.fst.push (st.snd, i, lsNext x i), lsNext x i) else st) := by
  unfold lsRun
  rw [List.forIn_cons]
  unfold lsBody
  split <;> rfl
theorem lsRun_still (x : Str) : ∀ (m cur : Nat) (st : LsSt), (∀ i, cur ≤ i → i < cur + m → Unicode.isLineBreak (x.cps.getD i 0) = false) → lsRun x (List.range' cur m) st = st
  | 0, _, _, _ => rfl
  | m + 1, cur, st, h => by
    rw [List.range'_succ, lsRun_cons, h cur (Nat.le_refl _) (by omega), Bool.and_false]
    exact lsRun_still x m (cur + 1) st fun i h1 h2 => h i (by omega) (by omega)
theorem lsRun_app (x : Str) : ∀ (l l' : List Nat) (st : LsSt), lsRun x (l ++ l') st = lsRun x l' (lsRun x l st)
  | [], _, _ => rfl
  | i :: l, l', st => by rw [List.cons_append, lsRun_cons, lsRun_cons, lsRun_app x l l']
noncomputable def spansOf : Nat → List (List Nat) → List (Nat × Nat × Nat)
  | _, [] => []
  | a, [q] => [(a, a + q.length, a + q.length)]
  | a, q :: q' :: r => (a, a + q.length, a + q.length + 1) :: spansOf (a + q.length + 1) (q' :: r)
theorem brk10 : Unicode.isLineBreak 10 = true := by decide +kernel
theorem getD_of_drop {X p r : List Nat} {a : Nat} (h : X.drop a = p ++ r) (i : Nat) (h1 : a ≤ i) (h2 : i < a + p.length) : ∃ c, c ∈ p ∧ (S X).cps.getD i 0 = c := by
  have h3 : (X.drop a)[i - a]? = X[i]? := by rw [List.getElem?_drop]; congr 1; omega
  rw [h, List.getElem?_append_left (by omega)] at h3
  have h4 : i - a < p.length := by omega
  rw [List.getElem?_eq_getElem h4] at h3
  refine ⟨_, List.getElem_mem h4, ?_⟩
  simp [Array.getD_eq_getD_getElem?, ← h3]
theorem lsRun_join (X : List Nat) : ∀ (qs : List (List Nat)) (q : List Nat) (a : Nat) (acc : Array (Nat × Nat × Nat)), X.drop a = joinN [10] (q :: qs) → a ≤ X.length → (∀ p ∈ q :: qs, noBrk p) → (∀ p, (q :: qs).getLast? = some p → p ≠ []) →
    (lsEnd (S X) (lsRun (S X) (List.range' a (X.length - a)) (acc, a))) = acc.toList ++ spansOf a (q :: qs)
  | [], q, a, acc, h, ha, hb, hl => by
    have h' : X.drop a = q ++ [] := by rw [h]; simp [joinN]
    have hq : q ≠ [] := hl q rfl
    have hlen : X.length - a = q.length := by have := congrArg List.length h'; simpa using this
    have hq1 : 0 < q.length := List.length_pos_iff.mpr hq
    rw [lsRun_still _ _ _ _ fun i h1 h2 => by
      obtain ⟨c, hc, e⟩ := getD_of_drop h' i h1 (by omega)
      rw [e]; exact hb q List.mem_cons_self c hc]
    unfold lsEnd
    rw [S_len]
    simp only
    rw [if_pos (by omega), Array.toList_push, show X.length = a + q.length by omega]
    rfl
  | q' :: r, q, a, acc, h, ha, hb, hl => by
    have h0 : X.drop a = q ++ (10 :: joinN [10] (q' :: r)) := by rw [h, joinN_cons]; rfl
    have hlen : X.length - a = q.length + (1 + (joinN [10] (q' :: r)).length) := by have := congrArg List.length h0; simp at this; omega
    have h1 : X.drop (a + q.length) = [10] ++ joinN [10] (q' :: r) := by rw [← List.drop_drop, h0]; simp
    have h2 : X.drop (a + q.length + 1) = joinN [10] (q' :: r) := by rw [← List.drop_drop, h1]; rfl
    have ih := lsRun_join X r q' (a + q.length + 1) (acc.push (a, a + q.length, a + q.length + 1)) h2 (by omega) (fun p hp => hb p (List.mem_cons_of_mem _ hp)) (fun p hp => hl p (by rw [← hp]; simp [List.getLast?_cons_cons]))
    rw [hlen, ← List.range'_append_1, lsRun_app, lsRun_still (S X) q.length a _ fun i e1 e2 => by
      obtain ⟨c, hc, e⟩ := getD_of_drop h0 i e1 e2
      rw [e]; exact hb q List.mem_cons_self c hc]
    obtain ⟨c, hc, e⟩ := getD_of_drop h1 (a + q.length) (Nat.le_refl _) (by simp)
    rw [List.mem_singleton.mp hc] at e
    have hn : lsNext (S X) (a + q.length) = a + q.length + 1 := by unfold lsNext; rw [e]; rfl
    rw [show 1 + (joinN [10] (q' :: r)).length = (joinN [10] (q' :: r)).length + 1 by omega, List.range'_succ, lsRun_cons, e, hn, brk10, Bool.and_true]
    simp only [show a ≤ a + q.length by omega, decide_true, if_true]
    rw [show (joinN [10] (q' :: r)).length = X.length - (a + q.length + 1) by omega]
    rw [ih, Array.toList_push]
    simp [spansOf]
theorem strSub_drop {X q r : List Nat} {a : Nat} (h : X.drop a = q ++ r) : strSub (S X) a (a + q.length) = S q := by
  apply Str.ext'
  apply Array.toList_inj.mp
  rw [strSub_toList]
  show (X.drop a).take _ = q
  rw [h, show a + q.length - a = q.length by omega]; simp
theorem spans_texts (X : List Nat) : ∀ (qs : List (List Nat)) (q : List Nat) (a : Nat), X.drop a = joinN [10] (q :: qs) → (spansOf a (q :: qs)).map (fun p => strSub (S X) p.1 p.2.1) = (q :: qs).map S
  | [], q, a, h => by
    have h' : X.drop a = q ++ [] := by rw [h]; simp [joinN]
    simp [spansOf, strSub_drop h']
  | q' :: r, q, a, h => by
    have h0 : X.drop a = q ++ (10 :: joinN [10] (q' :: r)) := by rw [h, joinN_cons]; rfl
    have h2 : X.drop (a + q.length + 1) = joinN [10] (q' :: r) := by rw [Nat.add_assoc, ← List.drop_drop, h0]; simp
    have ih := spans_texts X r q' (a + q.length + 1) h2
    simp only [spansOf, List.map_cons, strSub_drop h0]
    rw [ih]; rfl
theorem lines_join {qs : List (List Nat)} (hne : qs ≠ []) (hb : ∀ p ∈ qs, noBrk p) (hl : ∀ p, qs.getLast? = some p → p ≠ []) : Txt.lines (S (joinN [10] qs)) = qs.map S := by
  obtain ⟨q, r, rfl⟩ : ∃ q r, qs = q :: r := by cases qs with | nil => exact absurd rfl hne | cons q r => exact ⟨q, r, rfl⟩
  have h1 := lsRun_join (joinN [10] (q :: r)) r q 0 #[] (List.drop_zero) (Nat.zero_le _) hb hl
  have h2 := spans_texts (joinN [10] (q :: r)) r q 0 (List.drop_zero)
  have h3 : lineSpans (S (joinN [10] (q :: r))) = spansOf 0 (q :: r) := by
    rw [ls_eq, S_len]
    have : (#[] : Array (Nat × Nat × Nat)).toList = [] := rfl
    rw [Nat.sub_zero, this, List.nil_append] at h1
    exact h1
  have h4 : linesOf (S (joinN [10] (q :: r))) = (q :: r).map S := by
    unfold linesOf lineCuts
    rw [h3, List.map_map, ← h2]; rfl
  unfold Txt.lines
  split
  · rename_i hc
    have e : lineCuts (S (joinN [10] (q :: r))) = [(0, (S (joinN [10] (q :: r))).length)] := eq_of_beq hc
    rw [← h4]
    unfold linesOf
    rw [e]
    simp [sub_whole]
  · exact h4
/-! split -/
theorem kind_ge (x : Str) : ¬ Builtin.Str.strKind x < Builtin.Str.strKind (S [61, 10]) := by
  have : Builtin.Str.strKind (S [61, 10]) = 1 := by decide +kernel
  rw [this]
  unfold Builtin.Str.strKind
  split
  · omega
  · split <;> omega
theorem at_sep {X : List Nat} {k : Nat} : At (S X) (S [61, 10]) (S X).length k ↔ X[k]? = some 61 ∧ X[k + 1]? = some 10 := by
  unfold At
  rw [subAt_eq, S_len, S_len]
  have e : ((S X).cps.toList.drop k).take [61, 10].length = (X.drop k).take 2 := by simp
  rw [e]
  constructor
  · rintro ⟨h1, h2⟩
    have h3 : (X.drop k).take 2 = [61, 10] := by simpa using h2
    have h4 : ((X.drop k).take 2)[0]? = some 61 := by rw [h3]; rfl
    have h5 : ((X.drop k).take 2)[1]? = some 10 := by rw [h3]; rfl
    rw [List.getElem?_take_of_lt (by omega), List.getElem?_drop] at h4 h5
    exact ⟨h4, h5⟩
  · rintro ⟨h1, h2⟩
    have hl : k + 1 < X.length := (List.getElem?_eq_some_iff.mp h2).1
    refine ⟨by simp; omega, ?_⟩
    have h3 : X.drop k = 61 :: 10 :: X.drop (k + 2) := by
      rw [List.drop_eq_getElem_cons (by omega), List.drop_eq_getElem_cons hl]
      rw [List.getElem?_eq_getElem (by omega)] at h1 h2
      simp only [Option.some.injEq] at h1 h2
      rw [h1, h2]
    rw [h3]; simp
theorem parts_join (X : List Nat) : ∀ (qs : List (List Nat)) (q : List Nat) (a f : Nat) (cuts : List Nat), X.drop a = joinN [61, 10] (q :: qs) → a ≤ X.length → (∀ p ∈ q :: qs, 10 ∉ p) → ChainG (S X) (S [61, 10]) (S X).length a cuts f → (∀ k, f ≤ k → ¬ At (S X) (S [61, 10]) (S X).length k) →
    partsFrom (S X) 2 a cuts = (q :: qs).map S
  | [], q, a, f, cuts, h, ha, hn, hc, hf => by
    have h' : X.drop a = q ++ [] := by rw [h]; simp [joinN]
    have no : ∀ k, a ≤ k → ¬ At (S X) (S [61, 10]) (S X).length k := fun k hk hA => by
      have h2 := (at_sep.mp hA).2
      have h3 : (X.drop a)[k + 1 - a]? = some 10 := by rw [List.getElem?_drop, ← h2]; congr 1; omega
      rw [h', List.append_nil] at h3
      exact hn q List.mem_cons_self (List.mem_of_getElem? h3)
    cases cuts with
    | nil =>
      have hl : X.length = a + q.length := by have := congrArg List.length h'; simp at this; omega
      show [strSub (S X) a (S X).length] = _
      rw [S_len, hl, strSub_drop h']; rfl
    | cons c r => exact absurd hc.2.1 (no c hc.1)
  | q' :: r, q, a, f, cuts, h, ha, hn, hc, hf => by
    have h0 : X.drop a = q ++ (61 :: 10 :: joinN [61, 10] (q' :: r)) := by rw [h, joinN_cons]; rfl
    have get : ∀ j, X[a + j]? = (q ++ (61 :: 10 :: joinN [61, 10] (q' :: r)))[j]? := fun j => by rw [← h0, List.getElem?_drop]
    have hA : At (S X) (S [61, 10]) (S X).length (a + q.length) := at_sep.mpr ⟨by rw [get]; simp, by rw [Nat.add_assoc, get]; simp⟩
    have hlen := congrArg List.length h0
    simp at hlen
    cases cuts with
    | nil =>
      have e : f = a := hc
      exact absurd hA (hf _ (by omega))
    | cons c cs =>
      obtain ⟨c1, c2, c3, c4⟩ := hc
      have hce : c = a + q.length := by
        rcases Nat.lt_trichotomy c (a + q.length) with hlt | he | hgt
        · exfalso
          obtain ⟨s1, s2⟩ := at_sep.mp c2
          rw [show c + 1 = a + (c + 1 - a) by omega, get] at s2
          by_cases hin : c + 1 - a < q.length
          · rw [List.getElem?_append_left hin] at s2
            exact hn q List.mem_cons_self (List.mem_of_getElem? s2)
          · rw [show c + 1 - a = q.length by omega] at s2
            simp at s2
        · exact he
        · exact absurd hA (c3 _ (by omega) hgt)
      subst hce
      have h2 : X.drop (a + q.length + 2) = joinN [61, 10] (q' :: r) := by rw [Nat.add_assoc, ← List.drop_drop, h0]; simp
      have ih := parts_join X r q' (a + q.length + 2) f cs h2 (by omega) (fun p hp => hn p (List.mem_cons_of_mem _ hp)) c4 hf
      show strSub (S X) a (a + q.length) :: partsFrom (S X) 2 (a + q.length + 2) cs = _
      rw [ih, strSub_drop h0]; rfl
theorem split_join {qs : List (List Nat)} (h2 : 2 ≤ qs.length) (hn : ∀ p ∈ qs, 10 ∉ p) : Txt.split (S (joinN [61, 10] qs)) (S [61, 10]) = qs.map S := by
  obtain ⟨q, q', r, rfl⟩ : ∃ q q' r, qs = q :: q' :: r := by
    match qs, h2 with
    | q :: q' :: r, _ => exact ⟨q, q', r, rfl⟩
  obtain ⟨f, hG, hf⟩ := occ_tight (S (joinN [61, 10] (q :: q' :: r))) (S [61, 10]) (by decide)
  have key := parts_join (joinN [61, 10] (q :: q' :: r)) (q' :: r) q 0 f _ (List.drop_zero) (Nat.zero_le _) hn hG hf
  unfold Txt.split
  have c1 : ¬ (decide ((S (joinN [61, 10] (q :: q' :: r))).length < (S [61, 10]).length) || decide (Builtin.Str.strKind (S (joinN [61, 10] (q :: q' :: r))) < Builtin.Str.strKind (S [61, 10]))) = true := by
    rw [Bool.or_eq_true, decide_eq_true_eq, decide_eq_true_eq]
    rintro (h | h)
    · rw [S_len, S_len, joinN_cons] at h; simp at h; omega
    · exact kind_ge _ h
  rw [if_neg c1]
  split
  · rename_i he
    have e : occurrences (S (joinN [61, 10] (q :: q' :: r))) (S [61, 10]) 0 (S (joinN [61, 10] (q :: q' :: r))).length ((S (joinN [61, 10] (q :: q' :: r))).length + 1) = [] := by simpa using he
    rw [e] at key
    rw [← key]
    show _ = [strSub _ 0 _]
    rw [sub_whole]
  · rw [partsBetween_eq]; exact key
end

/-! more rules: not, a plain test, a loop over a list that has just been made -/
section
variable {prog : Program} {w : World} {A : Around} {E : Value → Shared → Prop} {s₀ s : Shared} {env : Env} {own : List Addr} {vars vars' : Vars} {g : Heap} {I I' : List (Addr × Obj)}
theorem rNot {x : Expr} {pos : Pos} {whole : Sem Value} {Q : Bool → Shared → Prop} (h : wpAny (model prog w) A (isTrue x env (eval x env)) (fun c s' => Q (!c) s') E s) :
    wpAny (model prog w) A (isTrue (.UnaryOp .Not x pos) env whole) Q E s := isTrue_not h
theorem rTestName {x : Str} {p : Pos} {whole : Sem Value} {Q : Bool → Shared → Prop} (h : wpAny (model prog w) A whole (fun v s₁ => wpAny (model prog w) A (truthy v) Q E s₁) E s) :
    wpAny (model prog w) A (isTrue (.Name x p) env whole) Q E s := isTrue_plain h
theorem rIterList {x : Str} {px : Pos} {body : List Stmt} {Q : Flow → Shared → Prop} {l : Addr} {items : Array Value} (J : Nat → Vars → List (Addr × Obj) → Prop) (hA : A.handled = none) (hl : g.IsList l items)
    (H : Fs s₀ env own vars g I s) (hj : J 0 vars I)
    (turn : ∀ i v vars I o It s, items[i]? = some v → J i vars I → Fs s₀ env own vars g ((It, o) :: I) s → wpAny (model prog w) A (storeName env x v) (fun _ s₂ => wpAny (model prog w) A (execs body env) (ForP s₀ env own g (It, o) J i Q) (fun _ _ => False) s₂) (fun _ _ => False) s)
    (done : ∀ vars I s, J items.size vars I → Fs s₀ env own vars g I s → Q .next s) :
    wpAny (model prog w) A (pyIter (.ref l)) (fun it s₂ => codeAny (model prog w) A (.forLoop (.Name x px) it body [] env) (fun r s' => match r with | .ok f => Q f s' | .error _ => False) s₂) (fun _ _ => False) s := by
  have hl₁ := H.isList hl
  refine wpAny_pyIter_list hl₁ ?_
  have hlt : l < s.heap.objs.size := by obtain ⟨o, e, _⟩ := hl₁; exact Heap.lt_size e
  have H₁ := H.add (h' := s.heap.push { cls := .type "list_iterator", data := .fields #[.ref l, .int 0 0] }) s.toks (fun b o e => Heap.get?_push_of_some _ e) (get_size_none _) (Heap.get?_push_size _ rfl)
  refine forGo J (Walks.list hA s.heap.objs.size l (Nat.ne_of_lt hlt) items) ⟨⟨_, Heap.get?_push_size _ rfl, rfl, rfl⟩, hl₁.push _⟩ (fun i h st => ?_) (fun b hb => ?_) H₁ hj (fun i v vars I o s hi hP hj H => turn i v vars I o _ s hP hj H) done
  · obtain ⟨o, e, _⟩ := st.1; exact ⟨o, e⟩
  · rcases List.mem_cons.mp hb with rfl | hb
    · exact .inl rfl
    · rw [List.mem_singleton.mp hb]; obtain ⟨o, e, _⟩ := hl; exact .inr ⟨o, e⟩
theorem listOf_is {h : Heap} {l : Addr} {vs : Array Value} {n : Nat} (e : h.get? l = some (listOf vs n)) : h.IsList l vs := ⟨_, e, rfl, n, rfl⟩
end

theorem cs_eq : Str.ofString "=" = S [61] := by decide +kernel
theorem cs_ws : Str.ofString " \t" = S [32, 9] := by decide +kernel
theorem cs_no : Str.ofString "" = S [] := by decide +kernel
theorem cs_cr : Str.ofString "\r\n" = S [13, 10] := by decide +kernel
theorem cs_3D : Str.ofString "=3D" = S [61, 51, 68] := by decide +kernel
theorem cs_hex : Str.ofString "0123456789ABCDEF" = S [48, 49, 50, 51, 52, 53, 54, 55, 56, 57, 65, 66, 67, 68, 69, 70] := by decide +kernel
theorem cs_Hex : Str.ofString "0123456789abcdefABCDEF" = S [48, 49, 50, 51, 52, 53, 54, 55, 56, 57, 97, 98, 99, 100, 101, 102, 65, 66, 67, 68, 69, 70] := by decide +kernel
theorem cs_soft : Str.ofString "=\n" = S [61, 10] := by decide +kernel
theorem cs_nl : Str.ofString "\n" = S [10] := by decide +kernel
section
variable {prog : Program} {w : World} {A : Around} {E : Value → Shared → Prop} {s₀ s : Shared} {env : Env} {own : List Addr} {vars vars' : Vars} {g : Heap} {I I' : List (Addr × Obj)}
theorem rStrS {x : Str} {l : List Nat} {k : Nat} {pos : Pos} {Q : Value → Shared → Prop} (H : Fs s₀ env own vars g I s) (e : x = S l) (h : ∀ t s', Fs s₀ env own vars g I s' → Q (.str (S l) t) s') :
    wpAny (model prog w) A (eval (.Constant (.str x) k pos) env) Q E s := by subst e; exact rStr H h
end

section
variable {prog : Program} {w : World} {A : Around} {E : Value → Shared → Prop} {s : Shared}
theorem rLeI {a b : Int} {t u : Tok} {Q : Value → Shared → Prop} (h : Q (.bool (decide (a ≤ b))) s) : wpAny (model prog w) A (compareOp .LtE (.int a t) (.int b u)) Q E s := PyProof.Rows.le_int h
end

section
variable {prog : Program} {w : World} {A : Around} {E : Value → Shared → Prop} {s₀ s : Shared} {env : Env} {own : List Addr} {vars vars' : Vars} {g : Heap} {I I' : List (Addr × Obj)}
theorem rNeg {i : Int} {k : Nat} {pos pos' : Pos} {Q : Value → Shared → Prop} (H : Fs s₀ env own vars g I s) (h : ∀ t s', Fs s₀ env own vars g I s' → Q (.int (-i) t) s') :
    wpAny (model prog w) A (eval (.UnaryOp .USub (.Constant (.int i) k pos) pos') env) Q E s :=
  UnaryOp_ (wpAny_Constant_int (neg_int (h _ _ (H.toks _))))
end

section
variable {prog : Program} {w : World} {A : Around} {E : Value → Shared → Prop} {s : Shared}
theorem rEqI {a b : Int} {t u : Tok} {Q : Value → Shared → Prop} (h : Q (.bool (decide (a = b))) s) : wpAny (model prog w) A (compareOp .Eq (.int a t) (.int b u)) Q E s :=
  PyProof.Rows.eq_int (by first | exact h | (rw [show (a == b) = decide (a = b) by rw [Bool.eq_iff_iff]; simp]; exact h))
end

section
variable {prog : Program} {w : World} {A : Around} {E : Value → Shared → Prop} {s₀ s : Shared} {env : Env} {own : List Addr} {vars vars' : Vars} {g : Heap} {I I' : List (Addr × Obj)}
theorem rContinue {pos : Pos} {Q : Flow → Shared → Prop} (h : Q .cont s) : wpAny (model prog w) A (exec (.Continue pos) env) Q E s := wpAny_Continue h
theorem rNegE {x : Expr} {op : UnaryOp} {pos : Pos} {Q : Value → Shared → Prop} (h : wpAny (model prog w) A (eval x env) (fun v s₁ => wpAny (model prog w) A (unaryOp op v) Q E s₁) E s) : wpAny (model prog w) A (eval (.UnaryOp op x pos) env) Q E s := UnaryOp_ h
theorem rNegI {i : Int} {t : Tok} {Q : Value → Shared → Prop} (H : Fs s₀ env own vars g I s) (h : ∀ t s', Fs s₀ env own vars g I s' → Q (.int (-i) t) s') : wpAny (model prog w) A (unaryOp .USub (.int i t)) Q E s := neg_int (h _ _ (H.toks _))
theorem rTestCall {f : Expr} {as : List Expr} {ks : List Keyword} {p : Pos} {whole : Sem Value} {Q : Bool → Shared → Prop} (h : wpAny (model prog w) A whole (fun v s₁ => wpAny (model prog w) A (truthy v) Q E s₁) E s) :
    wpAny (model prog w) A (isTrue (.Call f as ks p) env whole) Q E s := isTrue_plain h
end
local macro_rules | `(tactic| walk_at "m.str") => `(tactic| with_reducible first | exact cs_eq | exact cs_no | exact cs_ws | exact cs_cr | exact cs_3D | exact cs_hex | exact cs_soft | exact cs_nl | exact cs_Hex)
local macro_rules | `(tactic| walk_at "m") => `(tactic| first
  | with_reducible refine rNot ?_
  | ((with_reducible show wpAny _ _ (eval (Expr.Constant (Const.str _) _ _) _) _ _ _); (with_reducible rename Fs _ _ _ _ _ _ _ => Hq); (with_reducible refine rStrS Hq (by walk_at "m.str") ?_); (clear Hq); intro _ _ _)
  | ((with_reducible show wpAny _ _ (isTrue (Expr.Name _ _) _ _) _ _ _); refine rTestName ?_)
  | ((with_reducible rename Fs _ _ _ _ _ _ _ => Hq); (with_reducible refine rAddS Hq (by simp only [List.length_append, List.length_cons, List.length_nil] at *; omega) ?_); (clear Hq); intro _ _ _)
  | ((with_reducible rename Fs _ _ _ _ _ _ _ => Hq); (with_reducible refine rTruthS Hq (by omega) ?_); (clear Hq); intro _ _)
  | ((with_reducible rename Fs _ _ _ _ _ _ _ => Hq); (with_reducible refine rLenS Hq (by first | omega | decide) ?_); (clear Hq); intro _ _ _)
  | with_reducible refine rLeI ?_
  | with_reducible refine rContinue ?_
  | with_reducible refine seqCont ?_
  | ((with_reducible show wpAny _ _ (isTrue (Expr.Call _ _ _ _) _ _) _ _ _); refine rTestCall ?_)
  | ((with_reducible show wpAny _ _ (eval (Expr.UnaryOp _ (Expr.Call _ _ _ _) _) _) _ _ _); refine rNegE ?_)
  | ((with_reducible rename Fs _ _ _ _ _ _ _ => Hq); (with_reducible refine rNegI Hq ?_); (clear Hq); intro _ _ _)
  | ((with_reducible show wpAny _ _ (exec (Stmt.AugAssign (Expr.Name _ _) _ _ _) _) _ _ _); refine rAug ?_)
  | with_reducible refine rLoad (by assumption) (by walk_at "m.mem") ?_
  | ((with_reducible rename Fs _ _ _ _ _ _ _ => Hq); (with_reducible refine rIaddS Hq (by simp only [List.length_append, List.length_cons, List.length_nil] at *; omega) ?_); (clear Hq); intro _ _ _)
  | ((with_reducible show wpAny _ _ (eval (Expr.UnaryOp _ _ _) _) _ _ _); (with_reducible rename Fs _ _ _ _ _ _ _ => Hq); (with_reducible refine rNeg Hq ?_); (clear Hq); intro _ _ _)
  | with_reducible refine rEqS ?_
  | with_reducible refine rEqI ?_
  | with_reducible refine rNeS ?_
  | with_reducible refine rInS ?_
  | with_reducible refine rNotInS ?_
  | with_reducible refine rName (by assumption) (by walk_at "m.mem") ?_
  | ((with_reducible show wpAny _ _ (eval (Expr.Name _ _) _) _ _ _); refine rGlobal (by assumption) (by assumption) (by assumption) (by walk_at "m.mem") (by walk_at "m.mem") ?_))

theorem names_enc : NamesAre 22 ["body", "maxlinelen", "eol", "soft_break", "maxlinelen1", "encoded_body", "append", "line", "start", "laststart", "stop", "room", "q"] ["_QUOPRI_BODY_ENCODE_MAP", "len", "CRLF"] := names_of (by decide +kernel)
section
variable {w : World} {A : Around} {s : Shared}
theorem binds_enc {s : Shared} (T : TX s.heap) {x : List Nat} {t : Tok} {m : Int} {tm : Tok} : ∃ t0, ∀ pm, BindsTo s (fdAt 22 (.ref 68) .none pm (.ref 74)) ⟨[.str (S x) t, .int m tm], []⟩ [("body", .str (S x) t), ("maxlinelen", .int m tm), ("eol", .str (S [10]) t0)] := by
  obtain ⟨t0, u0, h68⟩ := T.d68
  refine ⟨u0, fun pm M A E Q hq Γ p hΓ => ?_⟩
  refine Exists.intro _ (And.intro h68 ?_)
  exact hq
/-- y cut into n rows of L signs -/
noncomputable def rowsOf (L n : Nat) (y : List Nat) : List (List Nat) := (List.range n).map fun j => (y.drop (j * L)).take L
theorem joinN_soft : ∀ (ps : List (List Nat)) (q : List Nat), joinN [10] (ps.map (· ++ [61]) ++ [q]) = joinN [61, 10] (ps ++ [q])
  | [], q => rfl
  | [p], q => by simp [joinN]
  | p :: p' :: r, q => by
    have ih := joinN_soft (p' :: r) q
    simp only [List.map_cons, List.cons_append] at ih ⊢
    rw [joinN_cons, joinN_cons, ih]; simp
structure EncOk (L n : Nat) (y : List Nat) : Prop where
  pos : 3 ≤ L
  few : 1 ≤ n
  len : y.length = n * L
  small : n * L ≤ 36
  brk : noBrk y
  cut : ∀ j, 1 ≤ j → j < n → ∀ c, (y[j * L - 2]? = some c → c ≠ 61) ∧ (y[j * L - 1]? = some c → c ≠ 61)
  last : ∀ c, y.getLast? = some c → c ≠ 32 ∧ c ≠ 9 ∧ c ≠ 10 ∧ c ≠ 13
theorem enc_call {x : List Nat} {t tm : Tok} {L n : Nat} {m : Int} {R : Result → Shared → Prop} (hA : Ar 2 A) (hm : m = L + 1) (T : TX s.heap) (hx : ∀ c ∈ x, c < 256) (hx0 : x ≠ []) (hxl : x.length ≤ 100) (O : EncOk L n (x.flatMap enc))
    (h : ∀ s' t', Kp s s' → R (.ok (.ret (.str (S (joinN [61, 10] (rowsOf L n (x.flatMap enc)))) t'))) s') :
    codeAny (model pg w) A (.call (.ref 75) ⟨[.str (S x) t, .int m tm], []⟩) R s := by
  have G := T.gd
  obtain ⟨t0, hb⟩ := binds_enc (x := x) (t := t) (m := m) (tm := tm) T
  refine enterAt (g := s.heap) (I := []) [("body", some (.str (S x) t)), ("maxlinelen", some (.int m tm)), ("eol", some (.str (S [10]) t0)), ("soft_break", none), ("maxlinelen1", none), ("encoded_body", none), ("append", none), ("line", none), ("start", none), ("laststart", none), ("stop", none), ("room", none), ("q", none)] names_enc hA.mono T.fE G.lim hb (by simp) ?hv (fun _ _ e => e) (by simp) (by simp) ?body
  case hv =>
    simp only [List.forall_mem_cons]
    exact ⟨rfl, rfl, rfl, rfl, rfl, rfl, rfl, rfl, rfl, rfl, rfl, rfl, rfl, fun _ h => nomatch h⟩
  intro env Lc s' hS hG hL H hk
  conv in bodyAt 22 => whnf
  have hp := O.pos
  repeat' (walk_at "m")
  have y1 : ((x.flatMap enc).length : Int) = n * L := by rw [O.len]; exact Int.natCast_mul n L
  have y2 := O.small
  have y3 := O.len
  have y4 : L * 1 ≤ L * n := Nat.mul_le_mul_left L O.few
  have y5 : L * n = n * L := Nat.mul_comm L n
  generalize hy : x.flatMap enc = y at *
  have y0 : y ≠ [] := fun e => by rw [e] at y3; simp at y3; omega
  refine Br.no (decide_eq_false (by omega)) ?_
  repeat' (walk_at "m")
  refine Br.no (by simp [hx0]) ?_
  repeat' (walk_at "m")
  (with_reducible refine rMethS1 F.slot_str_translate F.type_str_translate ?_ ?_ ?_ ?_); rotate_left; rfl; rfl; rfl
  repeat' (walk_at "m")
  refine ⟨_, _, rfl, ?_⟩
  repeat' (walk_at "m")
  rename Fs _ _ _ _ _ _ _ => H
  refine rTranslate H (T.keeps H.keep).tab hx hxl hx0 ?_
  rw [hy]
  clear H; intro t1 s1 H
  repeat' (walk_at "m")
  refine rBound (by assumption) (by walk_at "m.mem") (by walk_at "m.mem") ?_
  intro bnd s2 H
  repeat' (walk_at "m")
  rename Fs _ _ _ _ _ _ _ => H
  rename_i tsb _ _ _ _ tml _ _ EB _ _ _ _
  refine rFor ?_
  refine rMethS0 F.slot_str_splitlines F.type_str_splitlines ?_
  repeat' (walk_at "m")
  refine ⟨_, _, rfl, ?_⟩
  rename Fs _ _ _ _ _ _ _ => H
  have hlines : Txt.lines (S y) = [y].map S := lines_join (qs := [y]) (by simp) (by simpa using O.brk) (by simpa using fun e => y0 e)
  refine rLines (ys := [y]) H (by omega) hlines fun D vs s3 hvs H => ?_
  have hnd := H.ndI
  obtain ⟨g', hgg, H', hst⟩ := H.rebase (I' := [(bnd, boundApp EB), (EB, listOf #[] 0)]) (by walk_at "m.sub")
  clear H; have H := H'; clear H'
  have hD : g'.IsList D vs.toArray := listOf_is (hst (D, _) (.head _) (by simp only [List.map_cons, List.map_nil, List.nodup_cons] at hnd ⊢; exact hnd.1))
  obtain ⟨tv, rfl⟩ : ∃ tv, vs = [.str (S y) tv] := by
    obtain ⟨tv, e⟩ := hvs.get (i := 0) (x := y) rfl
    have hl := hvs.length
    match vs, hl, e with
    | [v], _, e => exact ⟨tv, by simpa using e⟩
  have G' := G.keeps hgg
  have T' := T.keeps hgg
  refine rIterList (fun i vars I => ∃ line start laststart stop evs kE, vars = ([("body", some (.str (S y) t1)), ("maxlinelen", some (.int m tm)), ("eol", some (.str (S [10]) t0)), ("soft_break", some (.str (S ([61] ++ [10])) tsb)), ("maxlinelen1", some (.int (m - 1) tml)), ("encoded_body", some (.ref EB)), ("append", some (.ref bnd)), ("line", line), ("start", start), ("laststart", laststart), ("stop", stop), ("room", none), ("q", none)] : Vars) ∧
    I = [(bnd, boundApp EB), (EB, listOf (evs : List Value).toArray kE)] ∧ (i = 0 → evs = []) ∧ (i = 1 → SV evs ((List.range (n - 1)).map (fun j => (y.drop (j * L)).take L ++ [61]) ++ [y.drop ((n - 1) * L)]))) (by exact hA.deeper.handled) hD H ⟨none, none, none, none, [], 0, rfl, rfl, fun _ => rfl, fun e => nomatch e⟩ ?turn ?done
  case turn =>
    clear H
    rintro i v vars I o It s4 hi ⟨line, start, laststart, stop, evs, kE, rfl, rfl, he0, _⟩ H
    have hi0 : i = 0 := by have := (List.getElem?_eq_some_iff.mp (by simpa using hi : [Value.str (S y) tv][i]? = some v)).1; simp at this; exact this
    subst hi0
    obtain rfl : Value.str (S y) tv = v := by simpa using hi
    obtain rfl := he0 rfl
    repeat' (walk_at "m")
    rename Fs _ _ _ _ _ _ _ => H
    refine rWhile (fun nn vars I => ∃ j st ts ll tl stop evs k, vars = ([("body", some (.str (S y) t1)), ("maxlinelen", some (.int m tm)), ("eol", some (.str (S [10]) t0)), ("soft_break", some (.str (S ([61] ++ [10])) tsb)), ("maxlinelen1", some (.int (m - 1) tml)), ("encoded_body", some (.ref EB)), ("append", some (.ref bnd)), ("line", some (.str (S y) tv)), ("start", some (.int st ts)), ("laststart", some (.int ll tl)), ("stop", stop), ("room", none), ("q", none)] : Vars) ∧
      I = [(It, o), (bnd, boundApp EB), (EB, listOf (evs : List Value).toArray k)] ∧ st = (j * L : Nat) ∧ ll = y.length - 1 - m ∧ j < n ∧ SV evs ((List.range j).map (fun i => (y.drop (i * L)).take L ++ [61])) ∧ nn = n - j) n ?init H ?wturn
    case init => exact ⟨0, _, _, _, _, _, [], _, rfl, rfl, by simp, rfl, O.few, SV.nil, rfl⟩
    case wturn =>
      clear H
      rintro nn vars I s5 ⟨j, st, ts, ll, tl, stop, evs, k, rfl, rfl, hst, hll, hj, hev, hnn⟩ H
      have hle : j * L + L = (j + 1) * L := by rw [Nat.add_mul, Nat.one_mul]
      have hle2 : (j + 1) * L ≤ n * L := Nat.mul_le_mul_right _ hj
      repeat' (walk_at "m")
      refine Br.both (fun hb => ?_) (fun hb => ?_)
      · have hb' : st ≤ ll := of_decide_eq_true hb
        have hj1 : j + 1 < n := by
          rcases Nat.lt_or_ge (j + 1) n with h | h
          · exact h
          · have : n = j + 1 := by omega
            subst this; omega
        have hcut := O.cut (j + 1) (by omega) hj1
        repeat' (walk_at "m")
        rename Fs _ _ _ _ _ _ _ => H
        obtain ⟨c2, hc2⟩ : ∃ c, y[(j + 1) * L - 2]? = some c := ⟨_, List.getElem?_eq_getElem (by omega)⟩
        obtain ⟨c1, hc1⟩ : ∃ c, y[(j + 1) * L - 1]? = some c := ⟨_, List.getElem?_eq_getElem (by omega)⟩
        have n2 := (hcut c2).1 hc2
        have n1 := (hcut c1).2 hc1
        refine rGetS (c := c2) H (by omega) (by omega) (by rw [← hc2]; congr 1; omega) ?_
        intro _ _ H
        repeat' (walk_at "m")
        refine Br.no (by simp [n2]) ?_
        repeat' (walk_at "m")
        rename Fs _ _ _ _ _ _ _ => H
        refine rGetS (c := c1) H (by omega) (by omega) (by rw [← hc1]; congr 1; omega) ?_
        intro _ _ H
        repeat' (walk_at "m")
        refine Br.no (by simp [n1]) ?_
        repeat' (walk_at "m")
        refine rAppendB (b := bnd) (l := EB) (by assumption) (by walk_at "m.mem") ?_
        repeat' (walk_at "m")
        refine rSliceS (by assumption) ?_
        repeat' (walk_at "m")
        rename Fs _ _ _ _ _ _ _ => H
        have hlen2 : ((y.drop (j * L)).take L).length = L := by rw [List.length_take, List.length_drop]; omega
        refine ⟨S y, (y.drop (j * L)).take L, tv, some (_, _), some (_, _), _, _, rfl, rfl, rfl, ?_, by omega, H, fun t7 s7 H => ?_⟩
        · rw [show (y.drop (j * L)).take L = (y.drop st.toNat).take (st + (m - 1) - st).toNat by rw [show st.toNat = j * L by omega, show (st + (m - 1) - st).toNat = L by omega]]
          show StrLaws.sliceText (S y) (some st) (some (st + (m - 1))) = _
          exact slice_mid (by omega) (by omega) (by omega)
        repeat' (walk_at "m")
        rename Fs _ _ _ _ _ _ _ => H
        rename_i ta _ _ _
        have hevl := hev.length
        simp only [List.length_map, List.length_range] at hevl
        have hn36 : n * 3 ≤ n * L := Nat.mul_le_mul_left _ O.pos
        refine ⟨_, _, evs, k, H, by walk_at "m.mem", by walk_at "m.turn", by omega, fun s8 H => ?_⟩
        repeat' (walk_at "m")
        refine turnNext (n - (j + 1)) (by omega) (by assumption) ⟨j + 1, _, _, _, _, _, _, _, rfl, rfl, by omega, hll, hj1, ?_, rfl⟩
        rw [List.range_succ, List.map_append]
        exact hev.app (SV.one _)
      · have hb' : ¬ st ≤ ll := of_decide_eq_false hb
        have hj1 : n = j + 1 := by
          rcases Nat.lt_or_ge (j + 1) n with h | h
          · exfalso
            have q : (j + 2) * L ≤ n * L := Nat.mul_le_mul_right _ h
            rw [Nat.add_mul] at q
            omega
          · omega
        repeat' (walk_at "m")
        refine Br.yes (by simp [y0]) ?_
        repeat' (walk_at "m")
        obtain ⟨cl, hcl⟩ : ∃ c, y.getLast? = some c := ⟨_, List.getLast?_eq_some_getLast y0⟩
        have hlast := O.last cl hcl
        rename Fs _ _ _ _ _ _ _ => H
        refine rGetLast H hcl fun t7 s7 H => ?_
        repeat' (walk_at "m")
        refine Br.no (by simp [hlast.1, hlast.2.1]) ?_
        repeat' (walk_at "m")
        refine rAppendB (b := bnd) (l := EB) (by assumption) (by walk_at "m.mem") ?_
        refine rSliceS (by assumption) ?_
        repeat' (walk_at "m")
        rename Fs _ _ _ _ _ _ _ => H
        have hjn : n * L = (j + 1) * L := by rw [hj1]
        have hjL : n * L - j * L = L := by omega
        refine ⟨S y, y.drop (j * L), tv, some (_, _), none, _, _, rfl, rfl, rfl, ?_, by rw [List.length_drop]; omega, H, fun t8 s8 H => ?_⟩
        · show StrLaws.sliceText (S y) (some st) none = _
          rw [slice_from (by omega) (by omega), show st.toNat = j * L by omega]
        have hevl := hev.length
        simp only [List.length_map, List.length_range] at hevl
        have hn36 : n * 3 ≤ n * L := Nat.mul_le_mul_left _ O.pos
        refine ⟨_, _, evs, k, H, by walk_at "m.mem", by walk_at "m.turn", by omega, fun s9 H => ?_⟩
        repeat' (walk_at "m")
        refine forNext (by assumption) ⟨_, _, _, _, _, _, rfl, rfl, fun e => absurd e (by omega), fun _ => ?_⟩
        have e1 : n - 1 = j := by omega
        rw [e1]
        exact hev.app (SV.one t8)
  case done =>
    rintro vars I s5 ⟨line, start, laststart, stop, evs, kE, rfl, rfl, _, he1⟩ H
    have hev := he1 rfl
    repeat' (walk_at "m")
    obtain ⟨cl, hcl⟩ : ∃ c, y.getLast? = some c := ⟨_, List.getLast?_eq_some_getLast y0⟩
    have hlast := O.last cl hcl
    rename Fs _ _ _ _ _ _ _ => H
    refine rGetLast H hcl fun t7 s7 H => ?_
    repeat' (walk_at "m")
    refine Br.no (by rw [cs_cr]; simp [hlast.2.2.1, hlast.2.2.2]) ?_
    repeat' (walk_at "m")
    (with_reducible refine rMethS1 F.slot_str_join F.type_str_join ?_ ?_ ?_ ?_); rotate_left; rfl; rfl; rfl
    repeat' (walk_at "m")
    refine ⟨_, _, rfl, ?_⟩
    repeat' (walk_at "m")
    rename Fs _ _ _ _ _ _ _ => H
    have hn36 : n * 3 ≤ n * L := Nat.mul_le_mul_left _ O.pos
    refine rJoin H (H.listAt (l := EB) (by walk_at "m.mem")) hev (by simp; omega) (by simp) ?_ fun t8 s8 H => ?_
    · intro z hz
      rcases List.mem_append.mp hz with hz | hz
      · obtain ⟨j, _, rfl⟩ := List.mem_map.mp hz
        simp only [List.length_append, List.length_take, List.length_drop, List.length_singleton]; omega
      · rw [List.mem_singleton.mp hz, List.length_drop]; omega
    · repeat' (walk_at "m")
      have e : joinN [10] ((List.range (n - 1)).map (fun j => (y.drop (j * L)).take L ++ [61]) ++ [y.drop ((n - 1) * L)]) = joinN [61, 10] (rowsOf L n y) := by
        have e1 : rowsOf L n y = (List.range (n - 1)).map (fun j => (y.drop (j * L)).take L) ++ [y.drop ((n - 1) * L)] := by
          unfold rowsOf
          have hn1 : n = (n - 1) + 1 := by have := O.few; omega
          have hq : n * L = ((n - 1) + 1) * L := by rw [← hn1]
          rw [Nat.add_mul] at hq
          rw [hn1, List.range_succ, List.map_append, Nat.add_sub_cancel]
          simp only [List.map_cons, List.map_nil]
          rw [List.take_of_length_le (l := y.drop ((n - 1) * L)) (by rw [List.length_drop]; omega)]
        rw [e1, ← joinN_soft, List.map_map]; rfl
      rw [e]
      exact h s8 t8 ⟨H.gens, H.drawn, H.os, fun b o e => H.keep b o (hgg b o e)⟩
end

/-! chr, int(x, 16) -/
theorem rv_cases {P : (int_private% "Numeral") → Prop} (x : int_private% "Numeral") (h0 : P (int_private% "Numeral.invalid")) (h1 : ∀ n, P ((int_private% "Numeral.tooLong") n)) (h2 : P (int_private% "Numeral.byTheLibrary")) (h3 : ∀ i, P ((int_private% "Numeral.value") i)) : P x := by
  cases x with
  | invalid => exact h0
  | tooLong n => exact h1 n
  | byTheLibrary => exact h2
  | value i => exact h3 i
noncomputable def isVal (x : int_private% "Numeral") (n : Int) : Bool := (int_private% "Numeral.casesOn") (motive := fun _ => Bool) x false (fun _ => false) false (fun i => i == n)
theorem isVal_eq {x : int_private% "Numeral"} {n : Int} (h : isVal x n = true) : x = (int_private% "Numeral.value") n := by
  revert h
  refine rv_cases (P := fun x => isVal x n = true → x = (int_private% "Numeral.value") n) x ?_ ?_ ?_ ?_
  · intro h; cases h
  · intro m h; cases h
  · intro h; cases h
  · intro i h
    have : i = n := by simpa [isVal] using h
    rw [this]
noncomputable def hexAll : Bool := (List.range 256).all fun v => isVal ((int_private% "readNumeral") 0 16 [hexSign (v / 16), hexSign (v % 16)]) v
theorem hexAll_true : hexAll = true := by kernel_rfl
theorem hex_read {v : Nat} (hv : v < 256) : (int_private% "readNumeral") 0 16 [hexSign (v / 16), hexSign (v % 16)] = (int_private% "Numeral.value") v :=
  isVal_eq (List.all_eq_true.mp hexAll_true v (List.mem_range.mpr hv))

theorem hexSign_ne (v : Nat) : hexSign v ≠ 0 := by unfold hexSign; split <;> omega
theorem wp_hex {M : Model} {A : Around} {E : Value → Shared → Prop} {s : Shared} {Q : Value → Shared → Prop} {x : Value} {v : Nat} {text : List Nat} (hv : v < 256) (hT : text = [hexSign (v / 16), hexSign (v % 16)]) (h : Q (.int v s.toks) { s with toks := s.toks + 1 }) :
    wpAny M A ((int_private% "intFromText") x text 16) Q E s := by
  subst hT
  obtain ⟨hp, g, d, tk, os⟩ := s
  have hr := hex_read hv
  have ht : [hexSign (v / 16), hexSign (v % 16)].takeWhile (· != 0) = [hexSign (v / 16), hexSign (v % 16)] := by simp [hexSign_ne]
  generalize hL : [hexSign (v / 16), hexSign (v % 16)] = L at *
  have hl : L.length = 2 := by rw [← hL]; rfl
  have hs : (L.takeWhile (· != 0)).length ≤ 640 := by rw [ht, hl]; omega
  have ha : ((L.takeWhile (· != 0)).length == L.length) = true := by rw [ht]; simp
  have hr' : (int_private% "readNumeral") 0 16 (L.takeWhile (· != 0)) = (int_private% "Numeral.value") v := by rw [ht]; exact hr
  repeat (any_goals (first
    | assumption
    | (with_reducible refine wpAny_ite_true (decide_eq_true hs) ?_)
    | (with_reducible refine wpAny_ite_true (decide_eq_true ha) ?_)
    | wp_step))
  all_goals (try rw [hr'])
  all_goals (try dsimp only)
  repeat (any_goals (first
    | assumption
    | (with_reducible refine wpAny_ite_true (decide_eq_true hs) ?_)
    | (with_reducible refine wpAny_ite_true (decide_eq_true ha) ?_)
    | wp_step))
theorem typeCall_int_2 (a b : Value) : checkTypeCall "int" ⟨[a, b], []⟩ = pure () := by kernel_rfl
theorem newCall_int_2 (a b : Value) : checkBuiltinCall "int.__new__" ⟨[.type "int", a, b], []⟩ = pure () := by kernel_rfl
theorem gives_hex {v : Nat} (hv : v < 256) {t u : Tok} : Gives (Builtin.«int.__new__» ⟨[.type "int", .str (S [hexSign (v / 16), hexSign (v % 16)]) t, .int 16 u], []⟩) (.int v) :=
  .of_wp fun M A E s Q h => by
    obtain ⟨hp, g, d, tk, os⟩ := s
    have f1 := F.conv_sub_int
    have f2 := F.madeHere_int
    have f4 := KIN.str_idx
    have f6 : typeOf (.str (S [hexSign (v / 16), hexSign (v % 16)]) t) = pure (.type "str") := rfl
    have f7 : typeOf (.int 16 u) = pure (.type "int") := rfl
    have hall : ((S [hexSign (v / 16), hexSign (v % 16)]).cps.all fun x => decide (x < 128)) = true := by
      have h1 : hexSign (v / 16) < 128 := by unfold hexSign; split <;> omega
      have h2 : hexSign (v % 16) < 128 := by unfold hexSign; split <;> omega
      simp [h1, h2]
    have hk := KIN.Hid.mk (And.intro hv hall)
    clear hv hall
    repeat (any_goals (first
      | assumption
      | ((with_reducible show wpAny _ _ ((int_private% "intFromText") _ _ _) _ _ _); refine wp_hex hk.out.1 (by rw [if_pos hk.out.2]) ?_)
      | wp_step))
    all_goals first | exact ⟨_, rfl, h⟩ | skip
section
variable {prog : Program} {w : World} {A : Around} {E : Value → Shared → Prop} {s₀ s : Shared} {env : Env} {own : List Addr} {vars vars' : Vars} {g : Heap} {I I' : List (Addr × Obj)}
theorem rIntHex {v : Nat} {t u : Tok} {Q : Value → Shared → Prop} (H : Fs s₀ env own vars g I s) (hv : v < 256) (h : ∀ t s', Fs s₀ env own vars g I s' → Q (.int v t) s') :
    wpAny (model prog w) A (call (.type "int") [.str (S [hexSign (v / 16), hexSign (v % 16)]) t, .int 16 u]) Q E s :=
  callType_new F.called_int F.newNe_int (typeCall_int_2 _ _) (newCall_int_2 _ _) (fun obj => F.args_object_init_3 obj _ _) F.entry_int_new (gives_hex hv).meets (show (Made.int v).post _ s from ⟨rfl, h _ _ (H.toks _)⟩)
theorem rChr {i : Int} {t : Tok} {Q : Value → Shared → Prop} (H : Fs s₀ env own vars g I s) (h0 : 0 ≤ i) (h1 : i ≤ 1114111) (h : ∀ t s', Fs s₀ env own vars g I s' → Q (.str (S [i.toNat]) t) s') :
    wpAny (model prog w) A (call (.builtin "chr") [.int i t]) Q E s := chr_of_range h0 h1 (h _ _ (H.toks _))
end

section
variable {prog : Program} {w : World} {A : Around} {E : Value → Shared → Prop} {s₀ s : Shared} {env : Env} {own : List Addr} {vars vars' : Vars} {g : Heap} {I I' : List (Addr × Obj)}
theorem rCallTs {x : Str} {np pos : Pos} {e : Expr} {rest : List Expr} {T : String} {GL BL : List (Str × Value)} {FL : List (Addr × Obj)} {gs : List Str} {Q : Value → Shared → Prop} (G : Gd GL BL FL g) (hG : Gn env gs) (H : Fs s₀ env own vars g I s) (hx : x ∈ gs) (hm : (x, .type T) ∈ BL)
    (h : wpAny (model prog w) A (spliced (backTo pos (starEach (e :: rest) env))) (fun vs s₁ => wpAny (model prog w) A (call (.type T) vs) Q E s₁) E s)
    (he : starEach (e :: rest) env = (false, eval e env) :: starEach rest env := by rfl)
    (hplain : (backTo pos (starEach rest env)).any (·.1) = false := by rfl) :
    wpAny (model prog w) A (eval (.Call (.Name x np) (e :: rest) [] pos) env) Q E s :=
  Call_ (rBuiltin G hG H hx hm (callWith_type1 h he hplain))
end
theorem names_unq : NamesAre 17 ["s"] ["chr", "int"] := names_of (by decide +kernel)
theorem names_dec : NamesAre 23 ["encoded", "eol", "decoded", "line", "i", "n", "c"] ["len", "hexdigits", "unquote"] := names_of (by decide +kernel)
section
variable {w : World} {A : Around} {s : Shared}
theorem unq_call {t : Tok} {v : Nat} {R : Result → Shared → Prop} (hA : Ar 1 A) (T : TX s.heap) (hv : v < 256) (h : ∀ s' t', Kp s s' → R (.ok (.ret (.str (S [v]) t'))) s') :
    codeAny (model pg w) A (.call (.ref 55) ⟨[.str (S [61, hexSign (v / 16), hexSign (v % 16)]) t], []⟩) R s := by
  have G := T.gd
  refine enterAt (g := s.heap) (I := []) (binds := [("s", .str (S [61, hexSign (v / 16), hexSign (v % 16)]) t)]) [("s", some (.str (S [61, hexSign (v / 16), hexSign (v % 16)]) t))] names_unq hA.mono T.fU G.lim (fun pm => BindsTo.of_eq rfl) (by simp) ?hv (fun _ _ e => e) (by simp) (by simp) ?body
  case hv =>
    simp only [List.forall_mem_cons]
    exact ⟨rfl, fun _ h => nomatch h⟩
  intro env L s' hS hG hL H hk
  conv in bodyAt 17 => whnf
  repeat' (walk_at "m")
  refine rCallTs G hG (by assumption) (by walk_at "m.mem") (by walk_at "m.mem") ?_
  repeat' (walk_at "m")
  refine rSliceS (by assumption) ?_
  repeat' (walk_at "m")
  rename Fs _ _ _ _ _ _ _ => H
  refine ⟨_, [hexSign (v / 16), hexSign (v % 16)], t, some (_, _), some (_, _), _, _, rfl, rfl, rfl, ?_, by simp, H, fun t7 s7 H => ?_⟩
  · exact slice_mid (a := [61, hexSign (v / 16), hexSign (v % 16)]) (i := 1) (j := 3) (by omega) (by omega) (by simp)
  repeat' (walk_at "m")
  rename Fs _ _ _ _ _ _ _ => H
  refine rIntHex H hv fun t8 s8 H => ?_
  refine rChr H (by omega) (by omega) fun t9 s9 H => ?_
  repeat' (walk_at "m")
  exact h _ _ H.out
theorem binds_dec {s : Shared} (T : TX s.heap) {x : List Nat} {t : Tok} : ∃ t0, ∀ pm, BindsTo s (fdAt 23 (.ref 76) .none pm (.ref 82)) ⟨[.str (S x) t], []⟩ [("encoded", .str (S x) t), ("eol", .str (S [10]) t0)] := by
  obtain ⟨u0, h76⟩ := T.d76
  refine ⟨u0, fun pm M A E Q hq Γ p hΓ => ?_⟩
  refine Exists.intro _ (And.intro h76 ?_)
  exact hq
inductive Dec : List Nat → List Nat → Prop
  | nil : Dec [] []
  | plain {c : Nat} {r d : List Nat} : c ≠ 61 → Dec r d → Dec (c :: r) (c :: d)
  | hex {v : Nat} {r d : List Nat} : v < 256 → Dec r d → Dec (61 :: hexSign (v / 16) :: hexSign (v % 16) :: r) (v :: d)
theorem hexSign_mem : ∀ k, k < 16 → hexSign k ∈ [48, 49, 50, 51, 52, 53, 54, 55, 56, 57, 97, 98, 99, 100, 101, 102, 65, 66, 67, 68, 69, 70] := by decide
theorem hexSign_ne61 : ∀ k, k < 16 → hexSign k ≠ 61 := by decide
noncomputable def softs : List (List Nat) → List (List Nat)
  | [] => []
  | [q] => [q]
  | q :: q' :: r => (q ++ [61]) :: softs (q' :: r)
theorem softs_ne (q : List Nat) : ∀ (r : List (List Nat)), ∃ a b, softs (q :: r) = a :: b
  | [] => ⟨_, _, rfl⟩
  | _ :: _ => ⟨_, _, rfl⟩
theorem softs_join : ∀ qs : List (List Nat), joinN [10] (softs qs) = joinN [61, 10] qs
  | [] => rfl
  | [q] => rfl
  | q :: q' :: r => by
    have ih := softs_join (q' :: r)
    obtain ⟨a, b, e⟩ := softs_ne q' r
    show joinN [10] ((q ++ [61]) :: softs (q' :: r)) = _
    rw [e] at ih ⊢
    rw [joinN_cons, ih, joinN_cons]; simp
theorem softs_length : ∀ qs : List (List Nat), (softs qs).length = qs.length
  | [] => rfl
  | [q] => rfl
  | q :: q' :: r => by show (softs (q' :: r)).length + 1 = _; rw [softs_length (q' :: r)]; rfl
theorem softs_get : ∀ (qs : List (List Nat)) (i : Nat) (l : List Nat), (softs qs)[i]? = some l → ∃ q, qs[i]? = some q ∧ l = q ++ (if i + 1 = qs.length then [] else [61])
  | [], i, l, h => by simp [softs] at h
  | [q], i, l, h => by
    cases i with
    | zero => simp [softs] at h; exact ⟨q, rfl, by simp [h]⟩
    | succ i => simp [softs] at h
  | q :: q' :: r, i, l, h => by
    cases i with
    | zero => simp [softs] at h; exact ⟨q, rfl, by simp [← h]⟩
    | succ i =>
      have h' : (softs (q' :: r))[i]? = some l := by simpa [softs] using h
      obtain ⟨p, h1, h2⟩ := softs_get (q' :: r) i l h'
      refine ⟨p, by simpa using h1, ?_⟩
      rw [h2]
      congr 1
      simp only [List.length_cons]
      by_cases hc : i + 1 = r.length + 1
      · rw [if_pos hc, if_pos (by omega)]
      · rw [if_neg hc, if_neg (by omega)]
theorem softs_mem {qs : List (List Nat)} {l : List Nat} (h : l ∈ softs qs) : ∃ q ∈ qs, l = q ∨ l = q ++ [61] := by
  obtain ⟨i, hi⟩ := List.getElem?_of_mem h
  obtain ⟨q, h1, h2⟩ := softs_get qs i l hi
  refine ⟨q, List.mem_of_getElem? h1, ?_⟩
  rw [h2]; split <;> simp
theorem brk61 : Unicode.isLineBreak 61 = false := by decide +kernel
theorem spc61 : Unicode.isSpace 61 = false := by decide +kernel
theorem brk13 : Unicode.isLineBreak 13 = true := by decide +kernel
theorem joinN_ne {sep : List Nat} {qs : List (List Nat)} (h0 : qs ≠ []) (h : ∀ q ∈ qs, q ≠ []) : joinN sep qs ≠ [] := by
  match qs, h0 with
  | [q], _ => exact h q List.mem_cons_self
  | q :: q' :: r, _ =>
    rw [joinN_cons]
    intro e
    have := h q List.mem_cons_self
    simp at e; exact this e.1
theorem joinN_last {sep : List Nat} : ∀ {qs : List (List Nat)}, (∀ q ∈ qs, q ≠ []) → ∀ c, (joinN sep qs).getLast? = some c → ∃ q ∈ qs, q.getLast? = some c
  | [], _, c, h => by simp [joinN] at h
  | [q], _, c, h => ⟨q, List.mem_cons_self, h⟩
  | q :: q' :: r, hn, c, h => by
    have hne : joinN sep (q' :: r) ≠ [] := joinN_ne (by simp) fun p hp => hn p (List.mem_cons_of_mem _ hp)
    rw [joinN_cons, ← List.append_assoc, List.getLast?_append] at h
    cases hg : (joinN sep (q' :: r)).getLast? with
    | none => exact absurd (List.getLast?_eq_none_iff.mp hg) hne
    | some c' =>
      rw [hg] at h
      have hc : c' = c := by simpa using h
      subst hc
      obtain ⟨p, hp, e⟩ := joinN_last (fun p hp => hn p (List.mem_cons_of_mem _ hp)) c' hg
      exact ⟨p, List.mem_cons_of_mem _ hp, e⟩
theorem joinN_mem {sep : List Nat} : ∀ {qs : List (List Nat)} {q : List Nat}, q ∈ qs → q.length ≤ (joinN sep qs).length
  | [p], q, h => by rw [List.mem_singleton.mp h]; exact Nat.le_refl _
  | p :: p' :: r, q, h => by
    rw [joinN_cons, List.length_append, List.length_append]
    rcases List.mem_cons.mp h with rfl | h
    · omega
    · have := joinN_mem (sep := sep) h; omega
theorem lines_soft {qs : List (List Nat)} (h0 : qs ≠ []) (hn : ∀ q ∈ qs, q ≠ []) (hb : ∀ q ∈ qs, noBrk q) : Txt.lines (S (joinN [61, 10] qs)) = (softs qs).map S := by
  rw [← softs_join]
  refine lines_join (fun e => ?_) (fun p hp => ?_) (fun p hp => ?_)
  · have := softs_length qs; rw [e] at this; exact h0 (List.eq_nil_of_length_eq_zero this.symm)
  · obtain ⟨q, hq, h | h⟩ := softs_mem hp
    · rw [h]; exact hb q hq
    · rw [h]
      intro c hc
      rcases List.mem_append.mp hc with hc | hc
      · exact hb q hq c hc
      · rw [List.mem_singleton.mp hc]; exact brk61
  · obtain ⟨q, hq, h | h⟩ := softs_mem (List.mem_of_getLast? hp)
    · rw [h]; exact hn q hq
    · rw [h]; simp
theorem rstrip_same {x : List Nat} {c : Nat} (hc : x.getLast? = some c) (hs : Unicode.isSpace c = false) : Txt.rstrip (S x) = S x := by
  unfold Txt.rstrip Txt.stripBy
  have e1 : stripLo Unicode.isSpace false (S x) = 0 := rfl
  have e2 : stripHi Unicode.isSpace true (S x) 0 = (S x).length := by
    unfold stripHi
    simp only [if_true, List.drop_zero]
    have : x.reverse.takeWhile Unicode.isSpace = [] := by
      have h1 : x.reverse.head? = some c := by rw [List.head?_reverse]; exact hc
      cases hr : x.reverse with
      | nil => rfl
      | cons a r =>
        rw [hr] at h1
        have : a = c := by simpa using h1
        rw [List.takeWhile_cons, this, hs]; rfl
    have e : ((S x).cps.toList.reverse.takeWhile Unicode.isSpace) = [] := by simpa using this
    rw [e]; rfl
  have e3 : stripSame Unicode.isSpace false true (S x) = true := by
    unfold stripSame
    rw [e1, e2]; simp
  rw [if_pos e3]
theorem drop_split {l p r : List Nat} {k : Nat} (h : l.drop k = p ++ r) (hp : p ≠ []) : l.drop (k + p.length) = r ∧ k + p.length + r.length = l.length ∧ ∀ j, j < p.length → l[k + j]? = p[j]? := by
  have h1 := congrArg List.length h
  rw [List.length_drop, List.length_append] at h1
  have h2 := List.length_pos_iff.mpr hp
  refine ⟨by rw [← List.drop_drop, h]; simp, by omega, fun j hj => ?_⟩
  rw [← List.getElem?_drop, h, List.getElem?_append_left hj]
theorem Dec.left {r d tail dec goal l : List Nat} {k : Nat} (hr : l.drop k = r ++ tail) (hk : k + (r ++ tail).length = l.length) (hd : Dec r d) (hg : dec ++ d = goal) :
    (k < l.length ∧ ∃ r d', l.drop k = r ++ tail ∧ Dec r d' ∧ dec ++ d' = goal) ∨ (k = l.length ∧ dec = goal ∧ tail = []) := by
  by_cases h : k < l.length
  · exact .inl ⟨h, r, d, hr, hd, hg⟩
  · have h1 : (r ++ tail).length = 0 := by omega
    have h2 := List.append_eq_nil_iff.mp (List.eq_nil_of_length_eq_zero h1)
    rw [h2.1] at hd
    cases hd
    exact .inr ⟨by omega, by rw [← hg, List.append_nil], h2.2⟩
structure DecOk (qs ds : List (List Nat)) : Prop where
  few : 1 ≤ qs.length
  len : ds.length = qs.length
  dec : ∀ (i : Nat) (q d : List Nat), qs[i]? = some q → ds[i]? = some d → Dec q d
  ne : ∀ q ∈ qs, q ≠ []
  brk : ∀ q ∈ qs, noBrk q
  last : ∀ q ∈ qs, ∀ c, q.getLast? = some c → Unicode.isSpace c = false
  small : (joinN [61, 10] qs).length ≤ 100
  smalld : ds.flatten.length ≤ 100
theorem dec_call {t : Tok} {qs ds : List (List Nat)} {R : Result → Shared → Prop} (hA : Ar 2 A) (T : TX s.heap) (O : DecOk qs ds) (h : ∀ s' t', Kp s s' → R (.ok (.ret (.str (S ds.flatten) t'))) s') :
    codeAny (model pg w) A (.call (.ref 83) ⟨[.str (S (joinN [61, 10] qs)) t], []⟩) R s := by
  have G := T.gd
  have y1 := O.small
  generalize hx : joinN [61, 10] qs = x at *
  obtain ⟨t0, hb⟩ := binds_dec (x := x) (t := t) T
  refine enterAt (g := s.heap) (I := []) [("encoded", some (.str (S x) t)), ("eol", some (.str (S [10]) t0)), ("decoded", none), ("line", none), ("i", none), ("n", none), ("c", none)] names_dec hA.mono T.fD G.lim hb (by simp) ?hv (fun _ _ e => e) (by simp) (by simp) ?body
  case hv =>
    simp only [List.forall_mem_cons]
    exact ⟨rfl, rfl, rfl, rfl, rfl, rfl, rfl, fun _ h => nomatch h⟩
  intro env L s' hS hG hL H hk
  conv in bodyAt 23 => whnf
  repeat' (walk_at "m")
  have hq0 : qs ≠ [] := fun e => by have := O.few; rw [e] at this; simp at this
  have x0 : x ≠ [] := hx ▸ joinN_ne hq0 O.ne
  refine Br.no (by simp [x0]) ?_
  repeat' (walk_at "m")
  refine rFor ?_
  refine rMethS0 F.slot_str_splitlines F.type_str_splitlines ?_
  repeat' (walk_at "m")
  refine ⟨_, _, rfl, ?_⟩
  rename Fs _ _ _ _ _ _ _ => H
  rename_i td _ _
  have hlines : Txt.lines (S x) = (softs qs).map S := hx ▸ lines_soft hq0 O.ne O.brk
  refine rLines (ys := softs qs) H (by omega) hlines fun D vs s3 hvs H => ?_
  obtain ⟨g', hgg, H', hst⟩ := H.rebase (I' := []) (List.nil_sublist _)
  clear H; have H := H'; clear H'
  have hD : g'.IsList D vs.toArray := listOf_is (hst (D, _) (.head _) (by simp))
  have G' := G.keeps hgg
  have T' := T.keeps hgg
  have hvl : vs.length = qs.length := hvs.length.trans (softs_length qs)
  refine rIterList (fun i vars I => ∃ dec td line ii nn c, vars = ([("encoded", some (.str (S x) t)), ("eol", some (.str (S [10]) t0)), ("decoded", some (.str (S dec) td)), ("line", line), ("i", ii), ("n", nn), ("c", c)] : Vars) ∧
    I = [] ∧ dec = (ds.take i).flatten ++ (if i = qs.length then [10] else [])) (by exact hA.deeper.handled) hD H ⟨[], td, none, none, none, none, rfl, rfl, by rw [if_neg (by have := O.few; omega)]; rfl⟩ ?turn ?done
  case turn =>
    clear H
    rintro i v vars I o It s4 hi ⟨dec, td, line, ii, nn, c, rfl, rfl, hdec⟩ H
    have hi' : vs[i]? = some v := by simpa using hi
    have hil : i < qs.length := by rw [← hvl]; exact (List.getElem?_eq_some_iff.mp hi').1
    obtain ⟨l, hl⟩ : ∃ l, (softs qs)[i]? = some l := ⟨_, List.getElem?_eq_getElem (by rw [softs_length]; exact hil)⟩
    obtain ⟨q, hq, hlq⟩ := softs_get qs i l hl
    obtain ⟨tl, hv⟩ := hvs.get hl
    obtain rfl : v = .str (S l) tl := by rw [hi'] at hv; simpa using hv
    obtain ⟨d, hd⟩ : ∃ d, ds[i]? = some d := ⟨_, List.getElem?_eq_getElem (by rw [O.len]; exact hil)⟩
    have hdq := O.dec i q d hq hd
    have hqm := List.mem_of_getElem? hq
    have hqn := O.ne q hqm
    have hll : l.length ≤ 101 := by
      have q := joinN_mem (sep := [10]) (List.mem_of_getElem? hl)
      rw [softs_join, hx] at q
      omega
    have l0 : l ≠ [] := by rw [hlq]; simp [hqn]
    obtain ⟨cl, hcl⟩ : ∃ c, l.getLast? = some c := ⟨_, List.getLast?_eq_some_getLast l0⟩
    have hspc : Unicode.isSpace cl = false := by
      by_cases hc : i + 1 = qs.length
      · rw [if_pos hc, List.append_nil] at hlq
        exact O.last q hqm cl (hlq ▸ hcl)
      · rw [if_neg hc] at hlq
        rw [hlq, List.getLast?_concat] at hcl
        have : 61 = cl := by simpa using hcl
        rw [← this]; exact spc61
    repeat' (walk_at "m")
    refine rMethS0 F.slot_str_rstrip F.type_str_rstrip ?_
    repeat' (walk_at "m")
    refine ⟨_, _, rfl, ?_⟩
    refine SC.rstrip (fun t' k => ?_) (le_line' (by rw [S_len]; omega))
    rw [rstrip_same hcl hspc]
    rename Fs _ _ _ _ _ _ _ => H
    have H := H.toks k
    repeat' (walk_at "m")
    refine Br.no (by simp [l0]) ?_
    repeat' (walk_at "m")
    rename Fs _ _ _ _ _ _ _ => H
    rename_i tn _ _
    have lpos : 0 < l.length := List.length_pos_iff.mpr l0
    obtain ⟨goal, hgoal⟩ : ∃ goal, goal = (ds.take i).flatten ++ d := ⟨_, rfl⟩
    obtain ⟨tail, htail⟩ : ∃ tail : List Nat, tail = (if i + 1 = qs.length then [] else [61]) := ⟨_, rfl⟩
    have hgl : goal.length ≤ 100 := by
      have e : ds.flatten = (ds.take i).flatten ++ (ds.drop i).flatten := by rw [← List.flatten_append, List.take_append_drop]
      have e2 : ds.drop i = d :: ds.drop (i + 1) := by
        obtain ⟨hlt, e⟩ := List.getElem?_eq_some_iff.mp hd
        rw [← e]; exact List.drop_eq_getElem_cons hlt
      have := O.smalld
      rw [e, e2, List.flatten_cons] at this
      rw [hgoal]
      simp only [List.length_append] at this ⊢
      omega
    have hdec0 : dec = (ds.take i).flatten := by rw [hdec, if_neg (by omega), List.append_nil]
    refine rWhile (fun nn vars I => ∃ ki k dec td tn ti tl c, vars = ([("encoded", some (.str (S x) t)), ("eol", some (.str (S [10]) t0)), ("decoded", some (.str (S dec) td)), ("line", some (.str (S l) tl)), ("i", some (.int ki ti)), ("n", some (.int l.length tn)), ("c", c)] : Vars) ∧ I = [(It, o)] ∧ ki = (k : Nat) ∧ nn = l.length - k ∧
      ((k < l.length ∧ ∃ r d', l.drop k = r ++ tail ∧ Dec r d' ∧ dec ++ d' = goal) ∨ (k = l.length ∧ dec = goal ++ (if tail = [] then [10] else [])))) l.length ?init H ?wturn
    case init => exact ⟨_, 0, _, _, _, _, _, _, rfl, rfl, rfl, rfl, .inl ⟨lpos, q, d, by rw [List.drop_zero, hlq, htail], hdq, by rw [hdec0, hgoal]⟩⟩
    case wturn =>
      clear H
      rintro nn vars I s5 ⟨ki, k, dec, td, tn, ti, tl, c, rfl, rfl, hki, hnn, hst⟩ H
      repeat' (walk_at "m")
      rcases hst with ⟨hk, r, d', hr, hdr, hdg⟩ | ⟨hk, hdg⟩
      · refine Br.yes (decide_eq_true (by omega)) ?_
        have hdl : dec.length + d'.length ≤ 100 := by rw [← hdg, List.length_append] at hgl; exact hgl
        repeat' (walk_at "m")
        rename Fs _ _ _ _ _ _ _ => H
        cases hdr with
        | nil =>
          have ht : tail = [61] := by
            rw [List.nil_append] at hr
            by_cases hc : i + 1 = qs.length
            · rw [if_pos hc] at htail
              rw [htail] at hr
              have := congrArg List.length hr
              rw [List.length_drop] at this; simp at this; omega
            · rw [if_neg hc] at htail; exact htail
          rw [ht] at hr
          obtain ⟨h1, h2, h3⟩ := drop_split (p := [61]) (r := []) (by simpa using hr) (by simp)
          simp only [List.length_singleton, List.length_nil] at h2
          have e0 : l[k]? = some 61 := by have := h3 0 (by simp); simpa using this
          refine rGetS (c := 61) H (by omega) (by omega) (by rw [← e0]; congr 1; omega) fun t6 s6 H => ?_
          repeat' (walk_at "m")
          refine Br.yes (decide_eq_true (by omega)) ?_
          repeat' (walk_at "m")
          refine turnCont (l.length - (k + 1)) (by omega) (by assumption) ⟨_, k + 1, _, _, _, _, _, _, rfl, rfl, by omega, rfl, .inr ⟨by omega, ?_⟩⟩
          rw [ht, if_neg (by simp), List.append_nil, ← hdg, List.append_nil]
        | plain hc hdr' =>
          rename_i c0 r d
          obtain ⟨h1, h2, h3⟩ := drop_split (p := [c0]) (r := r ++ tail) (by simpa using hr) (by simp)
          simp only [List.length_singleton] at h1 h2
          have e0 : l[k]? = some c0 := by have := h3 0 (by simp); simpa using this
          refine rGetS (c := c0) H (by omega) (by omega) (by rw [← e0]; congr 1; omega) fun t6 s6 H => ?_
          have hleft := Dec.left (dec := dec ++ [c0]) (goal := goal) h1 h2 hdr' (by rw [← hdg]; simp)
          repeat' (walk_at "m")
          refine Br.yes (by simp [hc]) ?_
          repeat' (walk_at "m")
          rcases hleft with ⟨hk', hA'⟩ | ⟨hk', hB1, hB2⟩
          · refine Br.no (decide_eq_false (by omega)) ?_
            repeat' (walk_at "m")
            exact turnNext (l.length - (k + 1)) (by omega) (by assumption) ⟨_, k + 1, _, _, _, _, _, _, rfl, rfl, by omega, rfl, .inl ⟨hk', hA'⟩⟩
          · refine Br.yes (decide_eq_true (by omega)) ?_
            repeat' (walk_at "m")
            exact turnNext (l.length - (k + 1)) (by omega) (by assumption) ⟨_, k + 1, _, _, _, _, _, _, rfl, rfl, by omega, rfl, .inr ⟨hk', by rw [if_pos hB2, hB1]⟩⟩
        | hex hv hdr' =>
          rename_i v r d
          obtain ⟨h1, h2, h3⟩ := drop_split (p := [61, hexSign (v / 16), hexSign (v % 16)]) (r := r ++ tail) (by simpa using hr) (by simp)
          simp only [List.length_cons, List.length_nil] at h1 h2
          have e0 : l[k]? = some 61 := by have := h3 0 (by simp); simpa using this
          have e1 : l[k + 1]? = some (hexSign (v / 16)) := by have := h3 1 (by simp); simpa using this
          have e2 : l[k + 2]? = some (hexSign (v % 16)) := by have := h3 2 (by simp); simpa using this
          refine rGetS (c := 61) H (by omega) (by omega) (by rw [← e0]; congr 1; omega) fun t6 s6 H => ?_
          have hleft := Dec.left (dec := dec ++ [v]) (goal := goal) h1 h2 hdr' (by rw [← hdg]; simp)
          have m1 := hexSign_mem (v / 16) (by omega)
          have m2 := hexSign_mem (v % 16) (by omega)
          repeat' (walk_at "m")
          refine Br.no (decide_eq_false (by omega)) ?_
          repeat' (walk_at "m")
          refine Br.yes (decide_eq_true (by omega)) ?_
          repeat' (walk_at "m")
          rename Fs _ _ _ _ _ _ _ => H
          refine rGetS (c := hexSign (v / 16)) H (by omega) (by omega) (by rw [← e1]; congr 1; omega) fun t7 s7 H => ?_
          repeat' (walk_at "m")
          refine Br.yes (by rw [cs_Hex]; exact decide_eq_true m1) ?_
          repeat' (walk_at "m")
          rename Fs _ _ _ _ _ _ _ => H
          refine rGetS (c := hexSign (v % 16)) H (by omega) (by omega) (by rw [← e2]; congr 1; omega) fun t8 s8 H => ?_
          repeat' (walk_at "m")
          refine Br.yes (by rw [cs_Hex]; exact decide_eq_true m2) ?_
          repeat' (walk_at "m")
          rename Fs _ _ _ _ _ _ _ => H
          refine rCallF T'.fU G' hG H (by walk_at "m.mem") (by walk_at "m.mem") ?_
          repeat' (walk_at "m")
          refine rSliceS (by assumption) ?_
          repeat' (walk_at "m")
          rename Fs _ _ _ _ _ _ _ => H
          refine ⟨_, [61, hexSign (v / 16), hexSign (v % 16)], _, some (_, _), some (_, _), _, _, rfl, rfl, rfl, ?_, by simp, H, fun t9 s9 H => ?_⟩
          · show StrLaws.sliceText (S l) (some ki) (some (ki + 3)) = _
            rw [slice_mid (by omega) (by omega) (by omega), show (ki + 3 - ki).toNat = 3 by omega, show ki.toNat = k by omega, hr]
            simp
          repeat' (walk_at "m")
          rename Fs _ _ _ _ _ _ _ => H
          refine ⟨H.keep, callR fun R' hR => unq_call (by exact hA.deeper) (T'.keeps H.keep) hv fun s10 t10 k10 => hR _ _ ?_⟩
          replace H := H.kp k10
          repeat' (walk_at "m")
          rcases hleft with ⟨hk', hA'⟩ | ⟨hk', hB1, hB2⟩
          · refine Br.no (decide_eq_false (by omega)) ?_
            repeat' (walk_at "m")
            exact turnNext (l.length - (k + 3)) (by omega) (by assumption) ⟨_, k + 3, _, _, _, _, _, _, rfl, rfl, by omega, rfl, .inl ⟨hk', hA'⟩⟩
          · refine Br.yes (decide_eq_true (by omega)) ?_
            repeat' (walk_at "m")
            exact turnNext (l.length - (k + 3)) (by omega) (by assumption) ⟨_, k + 3, _, _, _, _, _, _, rfl, rfl, by omega, rfl, .inr ⟨hk', by rw [if_pos hB2, hB1]⟩⟩
      · refine Br.no (decide_eq_false (by omega)) ?_
        repeat' (walk_at "m")
        refine forNext (by assumption) ⟨_, _, _, _, _, _, rfl, rfl, ?_⟩
        have e2 : ds.take (i + 1) = ds.take i ++ [d] := by rw [List.take_add_one, hd]; rfl
        rw [hdg, hgoal, e2, htail, List.flatten_append]
        by_cases hc : i + 1 = qs.length
        · simp [hc]
        · simp [hc]
  case done =>
    rintro vars I s5 ⟨dec, td, line, ii, nn, c, rfl, rfl, hdec⟩ H
    repeat' (walk_at "m")
    have hm : vs.toArray.size = qs.length := by rw [List.size_toArray, hvl]
    rw [hm, if_pos rfl, ← O.len, List.take_length] at hdec
    subst hdec
    obtain ⟨cl, hcl⟩ : ∃ c, x.getLast? = some c := ⟨_, List.getLast?_eq_some_getLast x0⟩
    have hbl : Unicode.isLineBreak cl = false := by
      obtain ⟨q, hq, hlq⟩ := joinN_last O.ne cl (by rw [hx]; exact hcl)
      exact O.brk q hq cl (List.mem_of_getLast? hlq)
    have n10 : cl ≠ 10 := fun e => by rw [e, brk10] at hbl; cases hbl
    have n13 : cl ≠ 13 := fun e => by rw [e, brk13] at hbl; cases hbl
    have hsm := O.smalld
    rename Fs _ _ _ _ _ _ _ => H
    refine rGetLast H hcl fun t6 s6 H => ?_
    repeat' (walk_at "m")
    refine Br.yes (by simp [n10, n13]) ?_
    repeat' (walk_at "m")
    (with_reducible refine rMethS1 F.slot_str_endswith F.type_str_endswith ?_ ?_ ?_ ?_); rotate_left; rfl; rfl; rfl
    repeat' (walk_at "m")
    refine ⟨_, _, rfl, ?_⟩
    repeat' (walk_at "m")
    refine SC.endswith ?_
    have he : Txt.endswith (S (ds.flatten ++ [10])) (S [10]) = true := by
      unfold Txt.endswith
      rw [StrLaws.subAt_eq]
      simp [S_len]
    rw [he]
    repeat' (walk_at "m")
    refine rSliceS (by assumption) ?_
    repeat' (walk_at "m")
    rename Fs _ _ _ _ _ _ _ => H
    refine ⟨_, ds.flatten, _, none, some (_, _), _, _, rfl, rfl, rfl, ?_, by omega, H, fun t9 s9 H => ?_⟩
    · show StrLaws.sliceText (S (ds.flatten ++ [10])) none (some (-1)) = _
      have hz : ∀ z : List Nat, StrLaws.sliceText (S (z ++ [10])) none (some (-1)) = S z := fun z => by
        rw [slice_last (by omega) (by simp; omega), List.length_append, List.length_singleton, show ((-1 : Int) + (z.length + 1 : Nat)).toNat = z.length by omega, List.take_left]
      exact hz _
    repeat' (walk_at "m")
    rename Fs _ _ _ _ _ _ _ => H
    exact h _ _ ⟨H.gens, H.drawn, H.os, fun b o e => H.keep b o (hgg b o e)⟩
end

/-! comprehensions -/
noncomputable def clOf : List (Str × NameKind) → List (Str × Addr) → List (Str × Addr) → List (Str × Addr)
  | [], _, acc => acc
  | (n, k) :: r, cells, acc => if (k == .free) = true then clOf r cells ((n, (cells.lookup n).getD 0) :: acc) else clOf r cells acc
theorem closure_loop {env : Env} : ∀ (names : List (Str × NameKind)) (acc : List (Str × Addr)), (∀ n, (n, NameKind.free) ∈ names → ∃ c, env.cells.lookup n = some c) →
    (forIn names acc (fun (x : Str × NameKind) (cs : List (Str × Addr)) => (if (x.2 == .free) = true then do let c ← cellOf env x.1; pure (ForInStep.yield ((x.1, c) :: cs)) else pure (ForInStep.yield cs) : Sem (ForInStep (List (Str × Addr))))) : Sem (List (Str × Addr))) = pure (clOf names env.cells acc)
  | [], acc, _ => by rw [List.forIn_nil]; rfl
  | (n, k) :: r, acc, h => by
    have ih := fun acc => closure_loop (env := env) r acc fun n hn => h n (.tail _ hn)
    rw [List.forIn_cons]
    by_cases hk : (k == NameKind.free) = true
    · have hk' : k = .free := by simpa using hk
      subst hk'
      obtain ⟨c, hc⟩ := h n (.head _)
      have e : cellOf env n = pure c := by unfold cellOf; rw [hc]
      simp only [clOf, hk, if_true, e, hc, Option.getD_some]
      exact ih _
    · simp only [clOf, hk, if_false, Bool.false_eq_true]
      exact ih _
theorem closure_of {scope : Scope} {env : Env} (h : ∀ n, (n, NameKind.free) ∈ scope.names → ∃ c, env.cells.lookup n = some c) : closureFor scope env = pure (clOf scope.names env.cells []) := by
  have := closure_loop (env := env) scope.names [] h
  unfold closureFor
  simp only [bind_pure]
  exact this

theorem clOf_skip {n : Str} : ∀ (names : List (Str × NameKind)) (cells acc : List (Str × Addr)), n ∉ names.map (·.1) → (clOf names cells acc).lookup n = acc.lookup n
  | [], _, _, _ => rfl
  | (m, k) :: r, cells, acc, h => by
    have h1 : n ≠ m := fun e => h (by simp [e])
    have h2 : n ∉ r.map (·.1) := fun e => h (by simp only [List.map_cons]; exact List.mem_cons_of_mem _ e)
    unfold clOf
    split
    · rw [clOf_skip r cells _ h2, List.lookup_cons]
      have : (n == m) = false := by simpa using h1
      rw [this]
    · exact clOf_skip r cells _ h2
theorem clOf_get {n : Str} : ∀ (names : List (Str × NameKind)) (cells acc : List (Str × Addr)), (n, NameKind.free) ∈ names → (names.map (·.1)).Nodup → (clOf names cells acc).lookup n = some ((cells.lookup n).getD 0)
  | (m, k) :: r, cells, acc, h, hd => by
    obtain ⟨d1, d2⟩ := List.nodup_cons.mp hd
    unfold clOf
    rcases List.mem_cons.mp h with e | h
    · cases e
      rw [if_pos (by rfl), clOf_skip r cells _ d1, List.lookup_cons]
      simp
    · split <;> exact clOf_get r cells _ h d2
theorem lookup_relabel_free {env : Env} (hf : env.scope.kind = .function) : ∀ {names : List (Str × NameKind)} {x : Str}, env.kindOf x = some .cell → names.lookup x = some .free →
    (names.map fun (n, k) => if (k == NameKind.free && env.scope.kind == .function && env.kindOf n == some .cell) then (n, NameKind.cell) else (n, k)).lookup x = some .cell
  | [], _, _, h => by simp at h
  | (n, k) :: r, x, hx, h => by
    have ih := @lookup_relabel_free env hf r x hx
    show List.lookup x ((if (k == NameKind.free && env.scope.kind == .function && env.kindOf n == some .cell) = true then (n, NameKind.cell) else (n, k)) :: _) = _
    rw [List.lookup_cons] at h
    by_cases hxn : (x == n) = true
    · rw [hxn] at h
      have hk : k = .free := by simpa using h
      have hn : x = n := by simpa using hxn
      subst hn hk
      rw [if_pos (by simp [hf, hx]), List.lookup_cons, hxn]
    · have hxn' : (x == n) = false := by simpa using hxn
      rw [hxn'] at h
      split <;> (rw [List.lookup_cons, hxn']; exact ih h)

noncomputable def compOk (scope : Scope) (x : Str) (fr : List Str) : Bool :=
  scope.names.lookup x == some .local && (fr.all fun y => scope.names.lookup y == some .free) && (scope.names.all fun y => !(y.2 == .cell)) && scope.kind == .function &&
  (scope.names.all fun y => !(y.2 == .local) || scope.names.lookup y.1 == some .local) && decide (scope.names.map (·.1)).Nodup && ((x :: fr).all fun y => !(y == ("__debug__" : Str)) && !(y == ("__classdict__" : Str))) &&
  decide (x :: fr).Nodup && (scope.names.all fun y => !(y.2 == .free) || fr.contains y.1)
structure CompOk (scope : Scope) (x : Str) (fr : List Str) : Prop where
  loc : scope.names.lookup x = some .local
  free : ∀ y ∈ fr, scope.names.lookup y = some .free
  cell : ∀ y ∈ scope.names, y.2 ≠ .cell
  kind : scope.kind = .function
  locs : ∀ y ∈ scope.names, y.2 = .local → scope.names.lookup y.1 = some .local
  nd : (scope.names.map (·.1)).Nodup
  plain : ∀ y ∈ x :: fr, (y == ("__debug__" : Str)) = false ∧ (y == ("__classdict__" : Str)) = false
  nd2 : (x :: fr).Nodup
  all : ∀ n, (n, NameKind.free) ∈ scope.names → n ∈ fr
theorem compOk_of {scope : Scope} {x : Str} {fr : List Str} (h : compOk scope x fr = true) : CompOk scope x fr := by
  simp only [compOk, Bool.and_eq_true, List.all_eq_true, beq_iff_eq, decide_eq_true_eq, Bool.not_eq_true', Bool.or_eq_true, beq_eq_false_iff_ne] at h
  obtain ⟨⟨⟨⟨⟨⟨⟨⟨h1, h2⟩, h3⟩, h4⟩, h5⟩, h6⟩, h7⟩, h8⟩, h9⟩ := h
  refine ⟨h1, h2, h3, h4, fun y hy e => ?_, h6, fun y hy => ?_, h8, fun n hn => ?_⟩
  · rcases h5 y hy with h | h
    · exact absurd e h
    · exact h
  · have := h7 y hy
    exact ⟨by simpa using this.1, by simpa using this.2⟩
  · rcases h9 _ hn with h | h
    · exact absurd rfl h
    · simpa using h
section
variable {prog : Program} {w : World} {A : Around} {E : Value → Shared → Prop} {s₀ s : Shared} {env : Env} {own : List Addr} {vars vars' : Vars} {g : Heap} {I I' : List (Addr × Obj)}
theorem mem_of_lookup_free {names : List (Str × NameKind)} {y : Str} (h : names.lookup y = some .free) : (y, NameKind.free) ∈ names := PySem.mem_of_lookup h
theorem compFs {scope : Scope} {x : Str} {fr : List Str} {C : Addr} {m : Str → Option Value} {v : Value} {fv : Vars} (ok : CompOk scope x fr) (hf : env.scope.kind = .function) (hg : env.globals = mainGlobals) (hb : env.builtins = builtinsNs)
    (hfr : ∀ y ∈ fr, env.kindOf y = some .cell) (hfv : fv.map (·.1) = fr) (hn : s.heap.Ns C m) (hm : m x = some v) (hc : ∀ p ∈ fv, ∃ c, env.cells.lookup p.1 = some c ∧ s.heap.IsCell c p.2) :
    Fs s (compEnvC scope (clOf scope.names env.cells []) C env) [] ((x, some v) :: fv) s.heap [] s := by
  have kx : (compEnvC scope (clOf scope.names env.cells []) C env).kindOf x = some .local := lookup_relabel_local ok.loc
  have kf : ∀ p ∈ fv, (compEnvC scope (clOf scope.names env.cells []) C env).kindOf p.1 = some .cell := fun p hp => by
    have : p.1 ∈ fr := hfv ▸ List.mem_map_of_mem hp
    exact lookup_relabel_free hf (hfr _ this) (ok.free _ this)
  exact {
    gens := rfl, drawn := rfl, os := rfl
    kind := ok.kind
    glob := hg, blt := hb
    ns := ⟨m, hn, .inr hn, fun p hp hk => by
      rcases List.mem_cons.mp hp with rfl | hp
      · exact hm
      · rw [kf p hp] at hk; cases hk⟩
    cell := fun p hp hk => by
      rcases List.mem_cons.mp hp with rfl | hp
      · rw [kx] at hk; rcases hk with h | h <;> cases h
      · obtain ⟨c, h1, h2⟩ := hc p hp
        have hpf : p.1 ∈ fr := hfv ▸ List.mem_map_of_mem hp
        refine ⟨c, ?_, h2, .inr h2⟩
        show (clOf scope.names env.cells []).lookup p.1 = some c
        rw [clOf_get _ _ _ (mem_of_lookup_free (ok.free _ hpf)) ok.nd, h1]; rfl
    kinds := fun p hp => by
      rcases List.mem_cons.mp hp with rfl | hp
      · exact .inl kx
      · exact .inr (.inl (kf p hp))
    plain := fun p hp => by
      refine ok.plain p.1 ?_
      rcases List.mem_cons.mp hp with rfl | hp
      · exact List.mem_cons_self
      · exact List.mem_cons_of_mem _ (hfv ▸ List.mem_map_of_mem hp)
    nd := by rw [List.map_cons, hfv]; exact ok.nd2
    keep := fun b o e => e
    off := fun a ha => nomatch ha
    exi := fun a ha => nomatch ha
    led := fun p hp => nomatch hp
    ndI := .nil }
theorem Fs.keeps (H : Fs s env own vars s.heap I s₀) : Keeps s s₀ := ⟨s₀.heap, s₀.toks, by
  obtain ⟨h, g, d, t, o⟩ := s₀
  have h1 := H.gens; have h2 := H.drawn; have h3 := H.os
  simp only at h1 h2 h3
  subst h1 h2 h3; rfl, H.keep⟩
/-- an object that is there joins the ledger -/
theorem Fs.learn (H : Fs s₀ env own vars g I s) {a : Addr} {o : Obj} (ha : s.heap.get? a = some o) (hg : g.get? a = none) (ho : a ∉ own) (hI : a ∉ I.map (·.1)) : Fs s₀ env own vars g ((a, o) :: I) s :=
  { H with
    led := fun p hp => by
      rcases List.mem_cons.mp hp with rfl | hp
      · exact ⟨ha, hg, ho⟩
      · exact H.led p hp
    ndI := List.nodup_cons.mpr ⟨hI, H.ndI⟩ }
end

section
variable {prog : Program} {w : World} {A : Around} {s₀ s : Shared} {env : Env} {own : List Addr} {vars vars' : Vars} {g : Heap} {I I' : List (Addr × Obj)}
/-- what a comprehension's test and row ask; the state before is s₁ -/
structure CompQ (prog : Program) (w : World) (A : Around) (s₁ : Shared) (x : Str) (fv : Vars) (ifs : List Expr) (elt : Expr) (P : Nat → Value → Prop) (p : Value → Bool) (F : Value → Value → Prop) : Prop where
  tests : ∀ cenv i v s₃ (E' : Value → Shared → Prop), P i v → Fs s₃ cenv [] ((x, some v) :: fv) s₃.heap [] s₃ → (∀ b o, s₁.heap.get? b = some o → s₃.heap.get? b = some o) →
    wpAny (model prog w) A (forIn ifs true fun c r => if r = true then do let ok ← isTrue c cenv (eval c cenv); pure (ForInStep.yield ok) else pure (ForInStep.yield r)) (fun ok s₄ => ok = p v ∧ ∃ vars I, Fs s₃ cenv [] vars s₃.heap I s₄) E' s₃
  elt : ∀ cenv i v s₃ (E' : Value → Shared → Prop), P i v → p v = true → Fs s₃ cenv [] ((x, some v) :: fv) s₃.heap [] s₃ → (∀ b o, s₁.heap.get? b = some o → s₃.heap.get? b = some o) →
    wpAny (model prog w) A (eval elt cenv) (fun y s₄ => F v y ∧ ∃ vars I, Fs s₃ cenv [] vars s₃.heap I s₄) E' s₃
theorem CompQ.bare {s₁ : Shared} {x : Str} {fv : Vars} {elt : Expr} {P : Nat → Value → Prop} {F : Value → Value → Prop}
    (h : ∀ cenv i v s₃ (E' : Value → Shared → Prop), P i v → Fs s₃ cenv [] ((x, some v) :: fv) s₃.heap [] s₃ → (∀ b o, s₁.heap.get? b = some o → s₃.heap.get? b = some o) → wpAny (model prog w) A (eval elt cenv) (fun y s₄ => F v y ∧ ∃ vars I, Fs s₃ cenv [] vars s₃.heap I s₄) E' s₃) :
    CompQ prog w A s₁ x fv [] elt P (fun _ => true) F :=
  ⟨fun cenv i v s₃ E' hP H hk => by rw [List.forIn_nil]; exact wpAny_pure ⟨rfl, _, _, H⟩, fun cenv i v s₃ E' hP _ H hk => h cenv i v s₃ E' hP H hk⟩
theorem CompQ.one {s₁ : Shared} {x : Str} {fv : Vars} {elt c : Expr} {P : Nat → Value → Prop} {p : Value → Bool} {F : Value → Value → Prop}
    (ht : ∀ cenv i v s₃ (E' : Value → Shared → Prop), P i v → Fs s₃ cenv [] ((x, some v) :: fv) s₃.heap [] s₃ → (∀ b o, s₁.heap.get? b = some o → s₃.heap.get? b = some o) → wpAny (model prog w) A (isTrue c cenv (eval c cenv)) (fun ok s₄ => ok = p v ∧ ∃ vars I, Fs s₃ cenv [] vars s₃.heap I s₄) E' s₃)
    (h : ∀ cenv i v s₃ (E' : Value → Shared → Prop), P i v → p v = true → Fs s₃ cenv [] ((x, some v) :: fv) s₃.heap [] s₃ → (∀ b o, s₁.heap.get? b = some o → s₃.heap.get? b = some o) → wpAny (model prog w) A (eval elt cenv) (fun y s₄ => F v y ∧ ∃ vars I, Fs s₃ cenv [] vars s₃.heap I s₄) E' s₃) :
    CompQ prog w A s₁ x fv [c] elt P p F :=
  ⟨fun cenv i v s₃ E' hP H hk => wpAny_tests_one (ht cenv i v s₃ E' hP H hk), h⟩

/-- the walker's own part -/
theorem CompQ.quiet {s₁ s₂ : Shared} {x : Str} {fr : List Str} {fv : Vars} {ifs : List Expr} {elt : Expr} {scope : Scope} {It : Addr} {o : Obj} {P : Nat → Value → Prop} {p : Value → Bool} {F : Value → Value → Prop} (q : CompQ prog w A s₁ x fv ifs elt P p F)
    (ok : CompOk scope x fr) (H : Fs s₀ env own vars g ((It, o) :: I) s₂) (hfr : ∀ y ∈ fr, env.kindOf y = some .cell) (hfv : fv.map (·.1) = fr) (hsub : ∀ r ∈ fv, r ∈ vars) (h1 : s₁.heap.get? It = none) (h12 : ∀ b o, s₁.heap.get? b = some o → s₂.heap.get? b = some o) :
    QuietOnC prog w A env scope (clOf scope.names env.cells []) x ifs elt [It] P p F s₂ := by
  have mk : ∀ C v (s₃ : Shared) m₃, s₃.heap.Ns C m₃ → m₃ x = some v → (∀ b o, b ∉ [It] → s₂.heap.get? b = some o → s₃.heap.get? b = some o) →
      Fs s₃ (compEnvC scope (clOf scope.names env.cells []) C env) [] ((x, some v) :: fv) s₃.heap [] s₃ ∧ (∀ b o, s₁.heap.get? b = some o → s₃.heap.get? b = some o) := fun C v s₃ m₃ hn hm hk => by
    refine ⟨compFs ok H.kind H.glob H.blt hfr hfv hn hm fun r hr => ?_, fun b o e => hk b o (fun hm => ?_) (h12 b o e)⟩
    · have hpf : r.1 ∈ fr := hfv ▸ List.mem_map_of_mem hr
      obtain ⟨c, c1, c2, c3⟩ := H.cell r (hsub r hr) (.inl (hfr _ hpf))
      refine ⟨c, c1, ?_⟩
      obtain ⟨oc, e1, e2⟩ := c2
      have hIt := H.led _ (.head _)
      refine ⟨oc, hk c oc (fun hm => ?_) e1, e2⟩
      rw [List.mem_singleton.mp hm] at c3
      rcases c3 with c3 | ⟨o', c3, _⟩
      · exact hIt.2.2 c3
      · rw [hIt.2.1] at c3; cases c3
    · rw [List.mem_singleton.mp hm, h1] at e; cases e
  constructor
  · intro C i v s₃ m₃ E' hC hP hn hm hk _
    obtain ⟨a, b⟩ := mk C v s₃ m₃ hn hm hk
    exact wpAny_mono (q.tests _ i v s₃ E' hP a b) (fun ok s₄ h => ⟨h.1, let ⟨_, _, x⟩ := h.2; x.keeps⟩) fun _ _ x => x
  · intro C i v s₃ m₃ E' hC hP hpv hn hm hk _
    obtain ⟨a, b⟩ := mk C v s₃ m₃ hn hm hk
    exact wpAny_mono (q.elt _ i v s₃ E' hP hpv a b) (fun ok s₄ h => ⟨h.1, let ⟨_, _, x⟩ := h.2; x.keeps⟩) fun _ _ x => x
theorem Fs.compEnd {s₂ : Shared} {It D : Addr} {o : Obj} {ys : Array Value} {h' : Heap} (H : Fs s₀ env own vars g ((It, o) :: I) s₂) (tk : Nat) (hD : s₂.heap.get? D = none) (hpl : h'.PlainList D ys) (hk : ∀ b o, b ∉ [It] → s₂.heap.get? b = some o → h'.get? b = some o) :
    ∃ n, Fs s₀ env own vars g ((D, listOf ys n) :: I) { s₂ with heap := h', toks := tk } := by
  obtain ⟨n, hn⟩ := hpl
  refine ⟨n, (H.drop1 (h' := h') tk fun b x hb e => hk b x (by simpa using hb) e).learn hn (H.none_of_size hD) (fun hm => ?_) fun hm => ?_⟩
  · obtain ⟨o', e⟩ := H.exi _ hm; rw [hD] at e; cases e
  · obtain ⟨q, hq, e⟩ := List.mem_map.mp hm
    have := (H.led q (.tail _ hq)).1
    rw [e, hD] at this; cases this
end
section
variable {prog : Program} {w : World} {A : Around} {E : Value → Shared → Prop} {s₀ s : Shared} {env : Env} {own : List Addr} {vars vars' : Vars} {g : Heap} {I I' : List (Addr × Obj)}
/-- [elt for x in (a list)] -/
theorem rCompList {elt iter : Expr} {x : Str} {px pos : Pos} {ifs : List Expr} {scope : Scope} {fr : List Str} {Q : Value → Shared → Prop} (p : Value → Bool) (F : Value → Value → Prop) (ok : CompOk scope x fr) (hA : A.handled = none) (hfr : ∀ y ∈ fr, env.kindOf y = some .cell)
    (hc : ∀ n, (n, NameKind.free) ∈ scope.names → ∃ c, env.cells.lookup n = some c)
    (h : wpAny (model prog w) A (eval iter env) (fun xv s₁ => ∃ l items vars I fv, xv = .ref l ∧ s₁.heap.IsList l items ∧ items.size ≤ 1000 ∧ Fs s₀ env own vars g I s₁ ∧ fv.map (·.1) = fr ∧ (∀ r ∈ fv, r ∈ vars) ∧
      CompQ prog w A s₁ x fv ifs elt (fun i v => items[i]? = some v) p F ∧
      ∀ D ys n s', Paired F (items.toList.filter p) ys → Fs s₀ env own vars g ((D, listOf (ys : List Value).toArray n) :: I) s' → Q (.ref D) s') E s)
    (hs : ∀ x, foldedSetIterable iter env x = pure x := by intro _; rfl) :
    wpAny (model prog w) A (eval (.ListComp elt [⟨.Name x px, iter, ifs, 0⟩] scope pos) env) Q E s := by
  refine wpAny_ListComp_free p F (closure_of hc) ok.cell ok.kind ok.locs ok.loc (wpAny_mono h (fun xv s₁ h₁ => ?_) fun _ _ x => x) hs
  obtain ⟨l, items, vars, I, fv, rfl, hl, hz, H, hfv, hsub, q, hQ⟩ := h₁
  refine wpAny_pyIter_list hl ?_
  have hlt : l < s₁.heap.objs.size := by obtain ⟨o, e, _⟩ := hl; exact Heap.lt_size e
  have H₁ := H.add (h' := s₁.heap.push { cls := .type "list_iterator", data := .fields #[.ref l, .int 0 0] }) s₁.toks (fun b o e => Heap.get?_push_of_some _ e) (get_size_none _) (Heap.get?_push_size _ rfl)
  refine ⟨_, [s₁.heap.objs.size, l], [s₁.heap.objs.size], _, _, _, rfl, Walks.list hA s₁.heap.objs.size l (Nat.ne_of_lt hlt) items, le_line' hz, ⟨⟨_, Heap.get?_push_size _ rfl, rfl, rfl⟩, hl.push _⟩, fun b hb => ?_,
    q.quiet ok H₁ hfr hfv hsub (get_size_none _) (fun b o e => Heap.get?_push_of_some _ e), fun D h' tk ys vs hD _ hpl hlen hP hF hk => ?_⟩
  · show b < (s₁.heap.push _).objs.size
    rw [Heap.size_push]
    rcases List.mem_cons.mp hb with rfl | hb
    · exact Nat.lt_succ_self _
    · rw [List.mem_singleton.mp hb]; exact Nat.lt_succ_of_lt hlt
  · obtain ⟨n, H₂⟩ := H₁.compEnd tk hD hpl hk
    have hvs : vs = items.toList := by
      apply List.ext_getElem?
      intro j
      by_cases hj : j < vs.length
      · have := hP j vs[j] (List.getElem?_eq_getElem hj)
        rw [List.getElem?_eq_getElem hj, ← this]; simp
      · rw [List.getElem?_eq_none (by omega), List.getElem?_eq_none (by simp; omega)]
    rw [hvs] at hF
    exact hQ D ys.toList n _ hF (by simpa using H₂)
/-- [elt for x in range(n)] -/
theorem rCompRange {elt iter : Expr} {x : Str} {px pos : Pos} {ifs : List Expr} {scope : Scope} {fr : List Str} {n : Nat} {Q : Value → Shared → Prop} (p : Value → Bool) (F : Value → Value → Prop) (ok : CompOk scope x fr) (hA : A.handled = none) (hfr : ∀ y ∈ fr, env.kindOf y = some .cell)
    (hc : ∀ n, (n, NameKind.free) ∈ scope.names → ∃ c, env.cells.lookup n = some c) (hn : n ≤ 1000)
    (h : wpAny (model prog w) A (eval iter env) (fun xv s₁ => ∃ r t u t' vars I fv, xv = .ref r ∧ IsRange s₁.heap r 0 n 1 t u t' ∧ Fs s₀ env own vars g I s₁ ∧ fv.map (·.1) = fr ∧ (∀ r ∈ fv, r ∈ vars) ∧
      CompQ prog w A s₁ x fv ifs elt (fun i v => i < n ∧ ∃ t, v = .int (i : Nat) t) p F ∧
      ∀ D (vs ys : List Value) k s', vs.length = n → (∀ (j : Nat) (v : Value), vs[j]? = some v → ∃ t, v = Value.int (j : Nat) t) → Paired F (vs.filter p) ys → Fs s₀ env own vars g ((D, listOf (ys : List Value).toArray k) :: I) s' → Q (.ref D) s') E s)
    (hs : ∀ x, foldedSetIterable iter env x = pure x := by intro _; rfl) :
    wpAny (model prog w) A (eval (.ListComp elt [⟨.Name x px, iter, ifs, 0⟩] scope pos) env) Q E s := by
  refine wpAny_ListComp_free p F (closure_of hc) ok.cell ok.kind ok.locs ok.loc (wpAny_mono h (fun xv s₁ h₁ => ?_) fun _ _ x => x) hs
  obtain ⟨r, t, u, t', vars, I, fv, rfl, hr, H, hfv, hsub, q, hQ⟩ := h₁
  have hsz : Builtin.Range.rangeSize 0 (n : Int) 1 = n := by rw [rangeSize_one]; split <;> omega
  refine wpAny_pyIter_range hr (small_one (by decide) (by decide) (by omega) (by omega)) ?_
  have H₁ := H.add (h' := s₁.heap.push { cls := .type "range_iterator", data := .fields #[rawInt 0, rawInt (Builtin.Range.rangeSize 0 n 1), rawInt 1] }) s₁.toks (fun b o e => Heap.get?_push_of_some _ e) (get_size_none _) (Heap.get?_push_size _ rfl)
  have W : Walks prog w A s₁.heap.objs.size [s₁.heap.objs.size] [s₁.heap.objs.size] n (fun i v => i < n ∧ ∃ t, v = .int (i : Nat) t) (fun i h => IsRangeIter h s₁.heap.objs.size (0 + (i : Nat) * 1) ((n : Int) - (i : Nat)) 1) :=
    let W := Walks.range hA s₁.heap.objs.size 0 1 n
    { W with item := fun i s Q E hi st hQ => W.item i s Q E hi st fun v h' tk hP => hQ v h' tk ⟨hi, let ⟨t, e⟩ := hP; ⟨t, by rw [e, show (0 : Int) + (i : Int) * 1 = i by omega]⟩⟩ }
  refine ⟨_, _, _, _, _, _, rfl, W, le_line' hn, ?_, fun b hb => ?_, q.quiet ok H₁ hfr hfv hsub (get_size_none _) (fun b o e => Heap.get?_push_of_some _ e), fun D h' tk ys vs hD _ hpl hlen hP hF hk => ?_⟩
  · show IsRangeIter _ _ _ _ _
    rw [show (0 : Int) + ((0 : Nat) : Int) * 1 = 0 by simp, show (n : Int) - ((0 : Nat) : Int) = n by simp]
    rw [hsz]
    exact Heap.get?_push_size _ rfl
  · show b < (s₁.heap.push _).objs.size
    rw [Heap.size_push, List.mem_singleton.mp hb]; exact Nat.lt_succ_self _
  · obtain ⟨k, H₂⟩ := H₁.compEnd tk hD hpl hk
    exact hQ D vs ys.toList k _ hlen (fun j v e => (hP j v e).2) hF (by simpa using H₂)
/-- y = [elt for x in (a list)], y a local -/
theorem Fs.localStore {s₂ : Shared} {It : Addr} {o : Obj} {h' : Heap} {y : Str} {v : Value} {m : Str → Option Value} (S : Sto env own) (H : Fs s₀ env own vars g ((It, o) :: I) s₂) (hm : ∀ p ∈ vars, env.kindOf p.1 = some .local → m p.1 = p.2) (hy : env.kindOf y = some .local)
    (hp : Put y (some v) vars vars') (tk : Nat) (hn : h'.Ns env.locals (fun z => if z = y then some v else m z)) (hk : ∀ b o, b ≠ env.locals → b ∉ [It] → s₂.heap.get? b = some o → h'.get? b = some o) : Fs s₀ env own vars' g I { s₂ with heap := h', toks := tk } := by
  have hof := hp.of H.nd
  have hIt := H.led _ (.head _)
  have hnd := List.nodup_cons.mp H.ndI
  obtain ⟨u, hu⟩ := hp.mem
  have hsub : ∀ q ∈ vars', ∃ u, (q.1, u) ∈ vars := fun q hq => by
    rcases hof q hq with rfl | ⟨h1, _⟩
    · exact ⟨u, hu⟩
    · exact ⟨q.2, h1⟩
  have keepOwn : ∀ a ∈ own, a ≠ It := fun a ha e => hIt.2.2 (e ▸ ha)
  exact { H with
    ns := ⟨_, hn, .inl S.loc, fun p hp' hk' => by
      rcases hof p hp' with rfl | ⟨h1, h2⟩
      · simp
      · simp only [if_neg h2]; exact hm p h1 hk'⟩
    cell := fun p hp' hx => by
      rcases hof p hp' with rfl | ⟨h1, _⟩
      · rw [hy] at hx; rcases hx with h | h <;> cases h
      · obtain ⟨c, c1, ⟨oc, c2, c3⟩, c4⟩ := H.cell p h1 hx
        have hcell : env.kindOf p.1 = some .cell := hx.resolve_right (S.nofree _)
        obtain ⟨q1, q2⟩ := S.cell p.1 c hcell c1
        exact ⟨c, c1, ⟨oc, hk c oc q2 (by simpa using keepOwn c q1) c2, c3⟩, .inl q1⟩
    kinds := fun p hp' => by obtain ⟨u, e⟩ := hsub p hp'; exact H.kinds (p.1, u) e
    plain := fun p hp' => by obtain ⟨u, e⟩ := hsub p hp'; exact H.plain (p.1, u) e
    nd := by rw [hp.names]; exact H.nd
    keep := fun b o e => hk b o (fun q => by rw [q, H.off _ S.loc] at e; cases e) (fun q => by rw [List.mem_singleton.mp q, hIt.2.1] at e; cases e) (H.keep b o e)
    exi := fun a ha => by
      by_cases hal : a = env.locals
      · obtain ⟨o', _, _, e, _⟩ := hn; exact ⟨o', hal ▸ e⟩
      · obtain ⟨o', e⟩ := H.exi a ha; exact ⟨o', hk a o' hal (by simpa using keepOwn a ha) e⟩
    led := fun p hp' => by
      have := H.led p (.tail _ hp')
      refine ⟨hk _ _ (fun e => this.2.2 (e ▸ S.loc)) (fun e => ?_) this.1, this.2⟩
      exact hnd.1 (by rw [← List.mem_singleton.mp e]; exact List.mem_map_of_mem (f := (·.1)) hp')
    ndI := hnd.2 }
theorem rCompListTo {elt iter : Expr} {x y : Str} {px py pos spos : Pos} {ifs : List Expr} {scope : Scope} {fr : List Str} {Q : Flow → Shared → Prop} (p : Value → Bool) (F : Value → Value → Prop) (ok : CompOk scope x fr) (hA : A.handled = none) (S : Sto env own) (hfr : ∀ y ∈ fr, env.kindOf y = some .cell)
    (hc : ∀ n, (n, NameKind.free) ∈ scope.names → ∃ c, env.cells.lookup n = some c) (hf : env.scope.kind = .function) (hy : env.kindOf y = some .local) (hline : (py.line == pos.line) = true) (hyn : (scope.names.any fun (n, k) => n == y && (k == .local || k == .cell)) = false)
    (h : wpAny (model prog w) A (eval iter env) (fun xv s₁ => ∃ l items vars, ∃ vars' : Addr → Vars, ∃ I fv, xv = .ref l ∧ s₁.heap.IsList l items ∧ items.size ≤ 1000 ∧ Fs s₀ env own vars g I s₁ ∧ (∀ D, Put y (some (.ref D)) vars (vars' D)) ∧ fv.map (·.1) = fr ∧ (∀ r ∈ fv, r ∈ vars) ∧
      CompQ prog w A s₁ x fv ifs elt (fun i v => items[i]? = some v) p F ∧
      ∀ D ys n s', Paired F (items.toList.filter p) ys → Fs s₀ env own (vars' D) g ((D, listOf (ys : List Value).toArray n) :: I) s' → Q .next s') E s)
    (hs : ∀ x, foldedSetIterable iter env x = pure x := by intro _; rfl) :
    wpAny (model prog w) A (exec (.Assign [.Name y py] (.ListComp elt [⟨.Name x px, iter, ifs, 0⟩] scope pos) spos) env) Q E s := by
  have hsw : swapsWith (.ListComp elt [⟨.Name x px, iter, ifs, 0⟩] scope pos) (some (.Name y py)) spos.line env = pure true := by
    show (pure (env.blockKind == .function && env.kindOf y == some .local && py.line == pos.line && !(scope.names.any fun (n, k) => n == y && (k == .local || k == .cell))) : Sem Bool) = pure true
    have hb : env.blockKind = .function := by unfold Env.blockKind; rw [hf]; rfl
    rw [hyn, hline, hy, hb]; rfl
  refine wpAny_Assign_ListComp_free p F hsw (closure_of hc) ok.cell ok.kind ok.locs ok.loc hy (by rw [hf]; rfl) (wpAny_mono h (fun xv s₁ h₁ => ?_) fun _ _ x => x) hs
  obtain ⟨l, items, vars, vars', I, fv, rfl, hl, hz, H, hput, hfv, hsub, q, hQ⟩ := h₁
  refine wpAny_pyIter_list hl ?_
  have hlt : l < s₁.heap.objs.size := by obtain ⟨o, e, _⟩ := hl; exact Heap.lt_size e
  have H₁ := H.add (h' := s₁.heap.push { cls := .type "list_iterator", data := .fields #[.ref l, .int 0 0] }) s₁.toks (fun b o e => Heap.get?_push_of_some _ e) (get_size_none _) (Heap.get?_push_size _ rfl)
  obtain ⟨m, hns, hor, hm⟩ := H₁.ns
  refine ⟨_, [s₁.heap.objs.size, l], [s₁.heap.objs.size], _, _, _, m, rfl, Walks.list hA s₁.heap.objs.size l (Nat.ne_of_lt hlt) items, le_line' hz, ⟨⟨_, Heap.get?_push_size _ rfl, rfl, rfl⟩, hl.push _⟩, fun b hb => ?_, ?_, hns,
    q.quiet ok H₁ hfr hfv hsub (get_size_none _) (fun b o e => Heap.get?_push_of_some _ e), fun D h' tk ys vs hD _ hpl hlen hP hF hn' hk => ?_⟩
  · show b < (s₁.heap.push _).objs.size
    rw [Heap.size_push]
    rcases List.mem_cons.mp hb with rfl | hb
    · exact Nat.lt_succ_self _
    · rw [List.mem_singleton.mp hb]; exact Nat.lt_succ_of_lt hlt
  · intro hm'
    rw [List.mem_singleton] at hm'
    exact (H₁.led _ (.head _)).2.2 (by rw [← hm']; exact S.loc)
  · have H₂ := H₁.localStore S hm hy (hput D) tk hn' hk
    obtain ⟨n, hn⟩ := hpl
    have H₃ := H₂.learn hn (H₁.none_of_size hD) (fun hm => by obtain ⟨o', e⟩ := H₁.exi _ hm; rw [hD] at e; cases e) (fun hm => by
      obtain ⟨q, hq, e⟩ := List.mem_map.mp hm
      have := (H₁.led q (.tail _ hq)).1
      rw [e, hD] at this; cases this)
    have hvs : vs = items.toList := by
      apply List.ext_getElem?
      intro j
      by_cases hj : j < vs.length
      · have := hP j vs[j] (List.getElem?_eq_getElem hj)
        rw [List.getElem?_eq_getElem hj, ← this]; simp
      · rw [List.getElem?_eq_none (by omega), List.getElem?_eq_none (by simp; omega)]
    rw [hvs] at hF
    exact hQ D ys.toList n _ hF (by simpa using H₃)
end

/-! entering law -/
theorem lookup_of_mem_nodup {cells : List (Str × Addr)} {n : Str} {c : Addr} (hd : (cells.map (·.1)).Nodup) (h : (n, c) ∈ cells) : cells.lookup n = some c := by
  induction cells with
  | nil => cases h
  | cons p r ih =>
    obtain ⟨m, d⟩ := p
    obtain ⟨d1, d2⟩ := List.nodup_cons.mp hd
    rw [List.lookup_cons]
    rcases List.mem_cons.mp h with e | h
    · cases e; simp
    · have : (n == m) = false := by
        rw [beq_eq_false_iff_ne]
        intro e
        exact d1 (by rw [← e]; exact List.mem_map_of_mem (f := (·.1)) h)
      rw [this]; exact ih d2 h
theorem pair_inj {l : List (Str × Addr)} (h : l.Pairwise fun x y => x.2 ≠ y.2) {p q : Str × Addr} (hp : p ∈ l) (hq : q ∈ l) (e : p.2 = q.2) : p = q := by
  induction l with
  | nil => cases hp
  | cons a r ih =>
    obtain ⟨h1, h2⟩ := List.pairwise_cons.mp h
    rcases List.mem_cons.mp hp with hp' | hp' <;> rcases List.mem_cons.mp hq with hq' | hq'
    · rw [hp', hq']
    · exact absurd e (by rw [hp']; exact h1 q hq')
    · exact absurd e.symm (by rw [hq']; exact h1 p hp')
    · exact ih h2 hp' hq'
section
variable {s s₁ : Shared} {env : Env} {m cm : Str → Option Value} {vars : Vars}
theorem fs_of_call (x : InCallC s env.locals m env.cells cm s₁) (hk : env.scope.kind = .function) (hg : env.globals = mainGlobals) (hb : env.builtins = builtinsNs) (hn : (env.cells.map (·.1)).Nodup)
    (hv : ∀ p ∈ vars, (env.kindOf p.1 = some .local ∧ m p.1 = p.2) ∨ (env.kindOf p.1 = some .cell ∧ (∃ c, env.cells.lookup p.1 = some c) ∧ cm p.1 = p.2))
    (hp : ∀ p ∈ vars, (p.1 == ("__debug__" : Str)) = false ∧ (p.1 == ("__classdict__" : Str)) = false) (hd : (vars.map (·.1)).Nodup) :
    Fs s env (env.locals :: env.cells.map (·.2)) vars s.heap [] s₁ := by
  obtain ⟨h', tk, e, _⟩ := x.toInCall.done
  have hfresh := x.toInCall.fresh
  exact {
    gens := by rw [e]
    drawn := by rw [e]
    os := by rw [e]
    kind := hk, glob := hg, blt := hb
    ns := ⟨m, x.toInCall.ns, .inl (.head _), fun p hp' hl => by
      rcases hv p hp' with ⟨_, h⟩ | ⟨h, _⟩
      · exact h
      · rw [h] at hl; cases hl⟩
    cell := fun p hp' hx => by
      rcases hv p hp' with ⟨h, _⟩ | ⟨_, ⟨c, hc⟩, h⟩
      · rw [h] at hx; rcases hx with h | h <;> cases h
      · exact ⟨c, hc, h ▸ x.cell _ _ hc, .inl (.tail _ (List.mem_map_of_mem (f := (·.2)) (PySem.mem_of_lookup hc)))⟩
    kinds := fun p hp' => by
      rcases hv p hp' with ⟨h, _⟩ | ⟨h, _⟩
      · exact .inl h
      · exact .inr (.inl h)
    plain := hp
    nd := hd
    keep := x.toInCall.keep
    off := fun a ha => by
      rcases List.mem_cons.mp ha with rfl | ha
      · exact get_ge_none hfresh
      · obtain ⟨q, hq, rfl⟩ := List.mem_map.mp ha
        exact get_ge_none (Nat.le_trans hfresh (Nat.le_of_lt (x.above q.1 q.2 hq)))
    exi := fun a ha => by
      rcases List.mem_cons.mp ha with rfl | ha
      · obtain ⟨o, _, _, e, _⟩ := x.toInCall.ns; exact ⟨o, e⟩
      · obtain ⟨q, hq, rfl⟩ := List.mem_map.mp ha
        obtain ⟨o, e, _⟩ := x.cell q.1 q.2 (lookup_of_mem_nodup hn hq)
        exact ⟨o, e⟩
    led := fun p hp => nomatch hp
    ndI := .nil }
theorem sto_of_call (x : InCallC s env.locals m env.cells cm s₁) (hf : ∀ y, env.kindOf y ≠ some .free) : Sto env (env.locals :: env.cells.map (·.2)) where
  loc := .head _
  nofree := hf
  cell := fun y c _ hc => by
    have hm := PySem.mem_of_lookup hc
    exact ⟨.tail _ (List.mem_map_of_mem (f := (·.2)) hm), fun e => by have := x.above y c hm; rw [e] at this; exact Nat.lt_irrefl _ this⟩
  inj := fun y z c hy hz => congrArg (·.1) (pair_inj x.apart (PySem.mem_of_lookup hy) (PySem.mem_of_lookup hz) rfl)
end
noncomputable abbrev lawCells : List Str := ["drawn", "k", "start", "width", "bead", "gap", "signs", "step", "c_v", "held", "ends", "place", "beads"]
noncomputable abbrev lawLocals : List Str := ["x", "numbers", "total", "octet", "text", "lines", "columns", "column", "due", "fellows", "turned", "told", "picks", "legs", "core"]
noncomputable abbrev lawGlobs : List Str := ["sum", "range", "chr", "len", "body_encode", "_law_pushed", "sorted", "decode"]
structure LEnv (env : Env) : Prop where
  loc : ∀ x ∈ ("script" : Str) :: lawLocals, env.kindOf x = some .local
  cell : ∀ x ∈ lawCells, env.kindOf x = some .cell ∧ ∃ c, env.cells.lookup x = some c
noncomputable def lawVarsC (l : Addr) : Vars := ("script", some (.ref l)) :: (lawLocals ++ lawCells).map fun x => (x, none)
noncomputable abbrev lawVars (l : Addr) : Vars := [("script", some (.ref l)), ("x", none), ("numbers", none), ("total", none), ("octet", none), ("text", none), ("lines", none), ("columns", none), ("column", none), ("due", none), ("fellows", none), ("turned", none), ("told", none), ("picks", none), ("legs", none), ("core", none), ("drawn", none), ("k", none), ("start", none), ("width", none), ("bead", none), ("gap", none), ("signs", none), ("step", none), ("c_v", none), ("held", none), ("ends", none), ("place", none), ("beads", none)]
theorem lawVars_eq (l : Addr) : lawVarsC l = lawVars l := rfl
noncomputable def cellNames : List (Str × NameKind) → List Str → List Str
  | [], acc => acc
  | (n, k) :: r, acc => if k == .cell then cellNames r (n :: acc) else cellNames r acc
theorem cellsFrom_names : ∀ (names : List (Str × NameKind)) (n : Nat) (acc : List (Str × Addr)), (cellsFrom n names acc).map (·.1) = cellNames names (acc.map (·.1))
  | [], _, _ => rfl
  | (m, k) :: r, n, acc => by
    unfold cellsFrom cellNames
    split
    · exact cellsFrom_names r (n + 1) ((m, n) :: acc)
    · exact cellsFrom_names r n acc
theorem lookup_of_name {l : List (Str × Addr)} {x : Str} (h : x ∈ l.map (·.1)) : ∃ c, l.lookup x = some c := by
  induction l with
  | nil => cases h
  | cons p r ih =>
    obtain ⟨m, d⟩ := p
    rw [List.lookup_cons]
    by_cases e : (x == m) = true
    · rw [e]; exact ⟨d, rfl⟩
    · have e' : (x == m) = false := by simpa using e
      rw [e']
      refine ih ?_
      rcases List.mem_cons.mp h with h | h
      · exact absurd (by simpa using h) e
      · exact h
noncomputable def lawOk : Bool := ((("script" : Str) :: lawLocals).all fun x => (scopeAt 27).names.lookup x == some .local) && (lawCells.all fun x => (scopeAt 27).names.lookup x == some .cell) && (lawGlobs.all fun x => (scopeAt 27).names.lookup x == some .globalImplicit && !(x == ("__debug__" : Str))) &&
  ((scopeAt 27).names.all fun x => !(x.2 == .free)) && (((("script" : Str) :: lawLocals) ++ lawCells).all fun x => !(x == ("__debug__" : Str)) && !(x == ("__classdict__" : Str))) && !(scopeAt 27).isCoroutine && !(scopeAt 27).isGenerator && (scopeAt 27).kind == .function && decide (cellNames (scopeAt 27).names []).Nodup && (lawCells.all fun x => (cellNames (scopeAt 27).names []).contains x) && decide ((("script" : Str) :: (lawLocals ++ lawCells))).Nodup
theorem lawOk_true : lawOk = true := by decide +kernel
section
variable {w : World} {A : Around} {s : Shared}
theorem enterLaw {l : Addr} {R : Result → Shared → Prop} (hA : Ar 1 A) (hf : FnIs s.heap 102 27 .none .none (.ref 101)) (hlim : s.heap.NoLimit)
    (h : ∀ env own s', Sto env own → Gn env lawGlobs → LEnv env → Fs s env own (lawVars l) s.heap [] s' → wpAny (model pg w) (A.deeper env) (execs (bodyAt 27) env) (fun f s' => R (.ok (.ret (match f with | .ret v => v | _ => .none))) s') (fun _ _ => False) s') :
    codeAny (model pg w) A (.call (.ref 102) ⟨[.ref l], []⟩) R s := by
  obtain ⟨o, pm, ho, hd⟩ := hf.ob
  have ok := lawOk_true
  simp only [lawOk, Bool.and_eq_true, List.all_eq_true, beq_iff_eq, Bool.not_eq_true', beq_eq_false_iff_ne] at ok
  obtain ⟨⟨⟨⟨⟨⟨⟨⟨⟨⟨o1, o2⟩, o3⟩, o4⟩, o5⟩, o6⟩, o7⟩, o8⟩, o9⟩, o10⟩, o11⟩ := ok
  refine codeAny_call_cells (binds := [("script", .ref l)]) (by have := hA.depth; omega) ho hd hlim hf.code rfl rfl rfl (fun x hx => .inl (by rw [List.mem_singleton.mp hx]; exact o1 _ (.head _))) (fun s₁ x => ?_) o6 o7 o8
  have key : ∀ y, (callEnvC (fdAt 27 .none .none pm (.ref 101)) s.heap.objs.size 102).kindOf y = (scopeAt 27).names.lookup y := fun _ => rfl
  have hcl : (callEnvC (fdAt 27 .none .none pm (.ref 101)) s.heap.objs.size 102).cells = cellsFrom (s.heap.objs.size + 1) (scopeAt 27).names [] := rfl
  have hg : (callEnvC (fdAt 27 .none .none pm (.ref 101)) s.heap.objs.size 102).globals = mainGlobals := rfl
  have hbl : (callEnvC (fdAt 27 .none .none pm (.ref 101)) s.heap.objs.size 102).builtins = builtinsNs := rfl
  have hk : (callEnvC (fdAt 27 .none .none pm (.ref 101)) s.heap.objs.size 102).scope.kind = .function := o8
  generalize callEnvC (fdAt 27 .none .none pm (.ref 101)) s.heap.objs.size 102 = env at *
  have hnames : env.cells.map (·.1) = cellNames (scopeAt 27).names [] := by rw [hcl]; exact cellsFrom_names _ _ _
  have hcell : ∀ y ∈ lawCells, env.kindOf y = some .cell ∧ ∃ c, env.cells.lookup y = some c := fun y hy => ⟨by rw [key]; exact o2 y hy, lookup_of_name (by rw [hnames]; simpa using o10 y hy)⟩
  have hloc : ∀ y ∈ ("script" : Str) :: lawLocals, env.kindOf y = some .local := fun y hy => by rw [key]; exact o1 y hy
  have hpl : ∀ y ∈ (("script" : Str) :: lawLocals) ++ lawCells, (y == ("__debug__" : Str)) = false ∧ (y == ("__classdict__" : Str)) = false := fun y hy => by
    have := o5 y hy
    exact ⟨by simpa using this.1, by simpa using this.2⟩
  have hgn : Gn env lawGlobs := fun y hy => ⟨by rw [key]; exact (o3 y hy).1, by simpa using (o3 y hy).2⟩
  have hbind : ∀ y, bindL env.kindOf [("script", .ref l)] (fun _ => none) y = if y = ("script" : Str) then some (.ref l) else none := fun y => by
    unfold bindL
    rw [if_pos (hloc _ (.head _))]; rfl
  have hbindC : ∀ y, bindC env.kindOf [("script", .ref l)] (fun _ => none) y = none := fun y => by
    unfold bindC
    rw [if_pos (hloc _ (.head _))]; rfl
  have hsn : ("script" : Str) ∉ lawLocals ++ lawCells := (List.nodup_cons.mp (of_decide_eq_true o11)).1
  have F := fs_of_call (vars := lawVarsC l) x hk hg hbl (by rw [hnames]; exact of_decide_eq_true o9) (fun p hp => ?_) (fun p hp => ?_) ?_
  · refine wpAny_mono (h env _ s₁ (sto_of_call x fun y e => ?_) hgn ⟨hloc, hcell⟩ F) (fun _ _ x => x) fun _ _ x => x.elim
    rw [key] at e
    exact o4 _ (PySem.mem_of_lookup e) rfl
  · rcases List.mem_cons.mp hp with rfl | hp
    · exact .inl ⟨hloc _ (.head _), by rw [hbind]; simp⟩
    · obtain ⟨y, hy, rfl⟩ := List.mem_map.mp hp
      rcases List.mem_append.mp hy with hy' | hy'
      · refine .inl ⟨hloc _ (.tail _ hy'), ?_⟩
        have hne : y ≠ ("script" : Str) := by intro e; rw [e] at hy; exact hsn hy
        show bindL env.kindOf _ _ y = none
        rw [hbind, if_neg hne]
      · exact .inr ⟨(hcell y hy').1, (hcell y hy').2, hbindC y⟩
  · refine hpl p.1 ?_
    rcases List.mem_cons.mp hp with rfl | hp
    · exact List.mem_append_left _ (.head _)
    · obtain ⟨y, hy, rfl⟩ := List.mem_map.mp hp
      rcases List.mem_append.mp hy with hy' | hy'
      · exact List.mem_append_left _ (.tail _ hy')
      · exact List.mem_append_right _ hy'
  · have e : (lawVarsC l).map (·.1) = ("script" : Str) :: (lawLocals ++ lawCells) := rfl
    rw [e]; exact of_decide_eq_true o11
end

/-! rows of signs -/
section
variable {f : Nat → List Nat} {st : Nat}
theorem range_flat_split (f : Nat → List Nat) (a b : Nat) : (List.range (a + b)).flatMap f = (List.range a).flatMap f ++ (List.range b).flatMap (fun k => f (a + k)) := by
  rw [List.range_add, List.flatMap_append, List.flatMap_map]
theorem range_flat_len (h : ∀ k, (f k).length = st) : ∀ a, ((List.range a).flatMap f).length = a * st
  | 0 => by simp
  | a + 1 => by rw [range_flat_split f a 1, List.length_append, range_flat_len h a]; simp [h, Nat.add_mul]
/-- the piece from a on, b pieces long -/
theorem range_flat_cut (h : ∀ k, (f k).length = st) (a b c : Nat) : (((List.range (a + (b + c))).flatMap f).drop (a * st)).take (b * st) = (List.range b).flatMap (fun k => f (a + k)) := by
  rw [range_flat_split f a (b + c), range_flat_split (fun k => f (a + k)) b c, List.drop_left' (range_flat_len h a), List.take_left' (range_flat_len (fun k => h _) b)]
theorem rowsOf_flat (h : ∀ k, (f k).length = st) {W n : Nat} : rowsOf (st * W) n ((List.range (n * W)).flatMap f) = (List.range n).map (fun j => (List.range W).flatMap (fun c => f (j * W + c))) := by
  unfold rowsOf
  refine List.map_congr_left fun j hj => ?_
  have hj' : j < n := List.mem_range.mp hj
  obtain ⟨m, hm⟩ : ∃ m, n * W = j * W + (W + m) := ⟨(n - j - 1) * W, by
    have : n = j + (1 + (n - j - 1)) := by omega
    conv => lhs; rw [this]
    rw [Nat.add_mul, Nat.add_mul, Nat.one_mul]⟩
  rw [hm, show j * (st * W) = (j * W) * st by rw [Nat.mul_comm st W, Nat.mul_assoc], Nat.mul_comm st W]
  exact range_flat_cut h (j * W) W m
theorem row_cut (h : ∀ k, (f k).length = st) {W c : Nat} (hc : c < W) : (((List.range W).flatMap f).drop (st * c)).take st = f c := by
  obtain ⟨m, hm⟩ : ∃ m, W = c + (1 + m) := ⟨W - c - 1, by omega⟩
  have := range_flat_cut h c 1 m
  rw [← hm, Nat.one_mul, Nat.mul_comm c st] at this
  rw [this]; simp
end
noncomputable def tx (bd gp : Nat) (b : Nat → Bool) : List Nat := (List.range 12).map fun k => if b k then bd else gp
noncomputable def tok (A B : List Nat) (b : Bool) : List Nat := if b then A else B
/-- the two signs: as they stand, as they are written -/
structure Sg (bd gp st : Nat) (A B : List Nat) : Prop where
  steps : st = 1 ∨ st = 3
  ea : enc bd = A
  eb : enc gp = B
  la : A.length = st
  lb : B.length = st
  ne : A ≠ B
  bne : bd ≠ gp
  bs : bd < 256
  gs : gp < 256
  ba : noBrk A
  bb : noBrk B
  da : Dec A [bd]
  db : Dec B [gp]
  sa : ∀ c ∈ A, Unicode.isSpace c = false
  sb : ∀ c ∈ B, Unicode.isSpace c = false
  ca : ∀ c, (A[st - 2]? = some c → 2 ≤ st → c ≠ 61) ∧ (A[st - 1]? = some c → c ≠ 61)
  cb : ∀ c, (B[st - 2]? = some c → 2 ≤ st → c ≠ 61) ∧ (B[st - 1]? = some c → c ≠ 61)
  one : st = 1 → 61 ∉ A ∧ 61 ∉ B
theorem tx_enc {bd gp st : Nat} {A B : List Nat} (g : Sg bd gp st A B) (b : Nat → Bool) : (tx bd gp b).flatMap enc = (List.range 12).flatMap fun k => tok A B (b k) := by
  unfold tx tok
  rw [List.flatMap_map]
  congr 1
  funext k
  split
  · exact g.ea
  · exact g.eb
theorem tok_len {bd gp st : Nat} {A B : List Nat} (g : Sg bd gp st A B) (b : Bool) : (tok A B b).length = st := by
  unfold tok; split
  · exact g.la
  · exact g.lb
theorem Dec.app {r d r' d' : List Nat} (h : Dec r d) (h' : Dec r' d') : Dec (r ++ r') (d ++ d') := by
  induction h with
  | nil => exact h'
  | plain hc _ ih => exact .plain hc ih
  | hex hv _ ih => exact .hex hv ih
theorem Dec.row {bd gp st : Nat} {A B : List Nat} (g : Sg bd gp st A B) (b : Nat → Bool) : ∀ W, Dec ((List.range W).flatMap fun c => tok A B (b c)) ((List.range W).map fun c => if b c then bd else gp)
  | 0 => .nil
  | W + 1 => by
    rw [List.range_succ, List.flatMap_append, List.map_append]
    refine (Dec.row g b W).app ?_
    simp only [List.flatMap_cons, List.flatMap_nil, List.append_nil, List.map_cons, List.map_nil]
    unfold tok
    cases b W
    · exact g.db
    · exact g.da

/-- the written text holds the good form that body_encode asks for -/
theorem tokens_noBrk {bd gp st : Nat} {A B : List Nat} (g : Sg bd gp st A B) (b : Nat → Bool) (n : Nat) : noBrk ((List.range n).flatMap fun k => tok A B (b k)) := by
  intro c hc
  obtain ⟨k, _, h⟩ := List.mem_flatMap.mp hc
  unfold tok at h
  split at h
  · exact g.ba c h
  · exact g.bb c h
theorem tokens_get {bd gp st : Nat} {A B : List Nat} (g : Sg bd gp st A B) (b : Nat → Bool) {n k i : Nat} (hk : k < n) (hi : i < st) : ((List.range n).flatMap fun k => tok A B (b k))[k * st + i]? = (tok A B (b k))[i]? := by
  have h := range_flat_cut (fun k => tok_len g (b k)) k 1 (n - k - 1)
  rw [show k + (1 + (n - k - 1)) = n by omega, Nat.one_mul] at h
  have h2 := congrArg (·[i]?) h
  simp only [List.getElem?_take_of_lt hi, List.getElem?_drop] at h2
  rw [h2]; simp
theorem tokens_last {bd gp st : Nat} {A B : List Nat} (g : Sg bd gp st A B) (b : Nat → Bool) {n : Nat} {c : Nat} (h : ((List.range n).flatMap fun k => tok A B (b k)).getLast? = some c) : c ∈ A ∨ c ∈ B := by
  obtain ⟨k, _, h⟩ := List.mem_flatMap.mp (List.mem_of_getLast? h)
  unfold tok at h
  split at h
  · exact .inl h
  · exact .inr h
theorem enc_ok {bd gp st : Nat} {A B : List Nat} (g : Sg bd gp st A B) (b : Nat → Bool) {W n : Nat} (hn : n * W = 12) (hW : 3 ≤ W) : EncOk (st * W) n ((tx bd gp b).flatMap enc) := by
  have hst := g.steps
  have hst1 : 1 ≤ st := by omega
  have hn1 : 1 ≤ n := by rcases n with _ | n; · simp at hn
                         · omega
  have hsw : 1 * W ≤ st * W := Nat.mul_le_mul_right _ hst1
  have hnl : n * (st * W) = 12 * st := by rw [Nat.mul_comm st W, ← Nat.mul_assoc, hn]
  have hspc : Unicode.isSpace 32 = true ∧ Unicode.isSpace 9 = true ∧ Unicode.isSpace 10 = true ∧ Unicode.isSpace 13 = true := by decide +kernel
  rw [tx_enc g]
  refine ⟨by omega, hn1, ?_, by omega, tokens_noBrk g b 12, fun j h1 h2 c => ?_, fun c hc => ?_⟩
  · rw [range_flat_len (fun k => tok_len g (b k)), hnl]
  · have hjW : j * W < 12 := by rw [← hn]; exact Nat.mul_lt_mul_of_pos_right h2 (by omega)
    have hjW3 : 1 * W ≤ j * W := Nat.mul_le_mul_right _ h1
    have e : j * (st * W) = (j * W) * st := by rw [Nat.mul_comm st W, Nat.mul_assoc]
    have tc : ∀ k c, ((tok A B (b k))[st - 2]? = some c → 2 ≤ st → c ≠ 61) ∧ ((tok A B (b k))[st - 1]? = some c → c ≠ 61) := fun k c => by
      unfold tok; split
      · exact g.ca c
      · exact g.cb c
    rw [e]
    rcases hst with h | h
    · subst h
      have t1 := tokens_get g b (n := 12) (k := j * W - 1) (i := 0) (by omega) (by omega)
      have t2 := tokens_get g b (n := 12) (k := j * W - 2) (i := 0) (by omega) (by omega)
      simp only [Nat.mul_one, Nat.add_zero] at t1 t2 ⊢
      rw [t1, t2]
      exact ⟨fun h => (tc (j * W - 2) c).2 h, fun h => (tc (j * W - 1) c).2 h⟩
    · subst h
      have t1 := tokens_get g b (n := 12) (k := j * W - 1) (i := 2) (by omega) (by omega)
      have t2 := tokens_get g b (n := 12) (k := j * W - 1) (i := 1) (by omega) (by omega)
      rw [show (j * W - 1) * 3 + 2 = j * W * 3 - 1 by omega] at t1
      rw [show (j * W - 1) * 3 + 1 = j * W * 3 - 2 by omega] at t2
      rw [t1, t2]
      exact ⟨fun h => (tc (j * W - 1) c).1 h (by omega), fun h => (tc (j * W - 1) c).2 h⟩
  · have hs : Unicode.isSpace c = false := by
      rcases tokens_last g b hc with h | h
      · exact g.sa c h
      · exact g.sb c h
    refine ⟨?_, ?_, ?_, ?_⟩ <;> (rintro rfl; simp [hspc] at hs)

/-! the law's numbers -/
noncomputable def bits (L : List Int) (k : Nat) : Bool := decide ((k : Int) ∈ L)
theorem range12 : ((List.range 12).map fun k : Nat => (k : Int)) = [0, 1, 2, 3, 4, 5, 6, 7, 8, 9, 10, 11] := rfl
theorem srt_ext : ∀ {L M : List Int}, Srt L → Srt M → (∀ x, x ∈ L ↔ x ∈ M) → L = M
  | [], [], _, _, _ => rfl
  | [], b :: M, _, _, h => absurd ((h b).mpr List.mem_cons_self) (by simp)
  | a :: L, [], _, _, h => absurd ((h a).mp List.mem_cons_self) (by simp)
  | a :: L, b :: M, hl, hm, h => by
    obtain ⟨l1, l2⟩ := List.pairwise_cons.mp hl
    obtain ⟨m1, m2⟩ := List.pairwise_cons.mp hm
    have hab : a = b := by
      rcases List.mem_cons.mp ((h a).mp List.mem_cons_self) with e | e
      · exact e
      · rcases List.mem_cons.mp ((h b).mpr List.mem_cons_self) with e' | e'
        · exact e'.symm
        · have := m1 a e; have := l1 b e'; omega
    subst hab
    congr 1
    refine srt_ext l2 m2 fun x => ⟨fun hx => ?_, fun hx => ?_⟩
    · rcases List.mem_cons.mp ((h x).mp (List.mem_cons_of_mem _ hx)) with e | e
      · have := l1 x hx; omega
      · exact e
    · rcases List.mem_cons.mp ((h x).mpr (List.mem_cons_of_mem _ hx)) with e | e
      · have := m1 x hx; omega
      · exact e
theorem srt_range12 : Srt ((List.range 12).map fun k : Nat => (k : Int)) := by rw [range12]; unfold Srt; decide
theorem srt_filter {L : List Int} (hs : Srt L) (hb : InBox L) : L = ((List.range 12).filter (bits L)).map fun k : Nat => (k : Int) := by
  refine srt_ext hs ?_ fun x => ⟨fun hx => ?_, fun hx => ?_⟩
  · refine List.Pairwise.sublist (List.Sublist.map _ List.filter_sublist) srt_range12
  · obtain ⟨h0, h1⟩ := hb x hx
    refine List.mem_map.mpr ⟨x.toNat, List.mem_filter.mpr ⟨List.mem_range.mpr (by omega), ?_⟩, by omega⟩
    unfold bits
    rw [show ((x.toNat : Nat) : Int) = x by omega]
    exact decide_eq_true hx
  · obtain ⟨k, hk, rfl⟩ := List.mem_map.mp hx
    exact of_decide_eq_true (List.mem_filter.mp hk).2
theorem sum_filter (p : Nat → Bool) (h : Nat → Int) : ∀ l : List Nat, ((l.filter p).map h).sum = (l.map fun k => if p k then h k else 0).sum
  | [] => rfl
  | a :: r => by
    have ih := sum_filter p h r
    rw [List.filter_cons]
    by_cases hp : p a = true
    · rw [if_pos hp, List.map_cons, List.sum_cons, ih, List.map_cons, List.sum_cons, if_pos hp]
    · rw [if_neg hp, ih, List.map_cons, List.sum_cons, if_neg hp]; omega
/-- the sum over the box by columns -/
theorem sum_cols {W n : Nat} (hW : (W = 3 ∧ n = 4) ∨ (W = 4 ∧ n = 3) ∨ (W = 6 ∧ n = 2)) (h : Nat → Int) : ((List.range 12).map h).sum = ((List.range W).map fun c => ((List.range n).map fun k => h (k * W + c)).sum).sum := by
  rcases hW with ⟨rfl, rfl⟩ | ⟨rfl, rfl⟩ | ⟨rfl, rfl⟩ <;>
  · simp only [List.range_succ, List.range_zero, List.nil_append, List.map_append, List.map_cons, List.map_nil, List.sum_append, List.sum_cons, List.sum_nil, List.cons_append]
    simp only [Nat.zero_mul, Nat.one_mul, Nat.reduceMul, Nat.reduceAdd]
    omega
/-- the beads below, in a column -/
noncomputable def low (b : Nat → Bool) (W c k : Nat) : Nat := ((List.range k).filter fun j => b (j * W + c)).length
theorem low_succ (b : Nat → Bool) (W c k : Nat) : low b W c (k + 1) = low b W c k + (if b (k * W + c) then 1 else 0) := by
  unfold low
  rw [List.range_succ, List.filter_append, List.length_append]
  by_cases h : b (k * W + c) = true
  · simp [h]
  · simp [h]
theorem low_le (b : Nat → Bool) (W c k : Nat) : low b W c k ≤ k := by
  unfold low
  exact Nat.le_trans (List.length_filter_le ..) (by simp)
theorem low_not (b : Nat → Bool) (W c k : Nat) : low (fun p => !b p) W c k + low b W c k = k := by
  induction k with
  | zero => rfl
  | succ k ih => rw [low_succ, low_succ]; cases b (k * W + c) <;> simp <;> omega
theorem fel_low {W : Nat} (hW : 0 < W) {L : List Int} (hs : Srt L) (hb : InBox L) {c : Nat} (hc : c < W) : ∀ k, fel (W : Int) L ((k * W + c : Nat) : Int) = low (bits L) W c k
  | 0 => by
    rw [fel_zero (by omega) (fun x hx => (hb x hx).1) (by omega)]; rfl
  | k + 1 => by
    rw [fel_step (by omega) _ hs.nodup, low_succ]
    have e : ((((k + 1) * W + c : Nat) : Int) - (W : Int)) = ((k * W + c : Nat) : Int) := by
      rw [Nat.add_mul]; omega
    rw [e, fel_low hW hs hb hc k]
    unfold bits
    by_cases h : ((k * W + c : Nat) : Int) ∈ L
    · simp [h]
    · simp [h]
/-- what law counts as due -/
noncomputable def dueP (b : Nat → Bool) (W n : Nat) : Int := ((List.range W).map fun c => ((List.range n).map fun k => if b (k * W + c) then (low (fun p => !b p) W c k : Int) else 0).sum).sum
theorem due_P {W n : Nat} (hW : (W = 3 ∧ n = 4) ∨ (W = 4 ∧ n = 3) ∨ (W = 6 ∧ n = 2)) {L : List Int} (hs : Srt L) (hb : InBox L) : due (W : Int) L = dueP (bits L) W n := by
  have hW0 : 0 < W := by rcases hW with ⟨rfl, _⟩ | ⟨rfl, _⟩ | ⟨rfl, _⟩ <;> decide
  have e : due (W : Int) L = (((List.range 12).filter (bits L)).map fun k : Nat => (k : Int) / W - (fel W L k : Int)).sum := by
    unfold due
    conv => lhs; rw [srt_filter hs hb]
    rw [List.map_map, ← srt_filter hs hb]; rfl
  rw [e, sum_filter, sum_cols hW]
  unfold dueP
  congr 1
  refine List.map_congr_left fun c hc => ?_
  congr 1
  refine List.map_congr_left fun k hk => ?_
  have hc' : c < W := List.mem_range.mp hc
  split
  · have h1 := fel_low hW0 hs hb hc' k
    have h2 := low_not (bits L) W c k
    have h3 : ((k * W + c : Nat) : Int) / (W : Int) = k := by
      rw [← Int.natCast_ediv, Nat.mul_comm, Nat.mul_add_div hW0, Nat.div_eq_of_lt hc']; simp
    rw [h3, h1]; omega
  · rfl

theorem due_le {W n : Nat} (hW : (W = 3 ∧ n = 4) ∨ (W = 4 ∧ n = 3) ∨ (W = 6 ∧ n = 2)) {L : List Int} (hs : Srt L) (hb : InBox L) : due (W : Int) L ≤ 18 := by
  rw [due_P hW hs hb]
  have hl := low_le (fun p => !bits L p) W
  have hle : ∀ c k, (if bits L (k * W + c) then (low (fun p => !bits L p) W c k : Int) else 0) ≤ k := fun c k => by
    have := hl c k
    split <;> omega
  unfold dueP
  rcases hW with ⟨rfl, rfl⟩ | ⟨rfl, rfl⟩ | ⟨rfl, rfl⟩ <;>
  · simp only [List.range_succ, List.range_zero, List.nil_append, List.map_append, List.map_cons, List.map_nil, List.sum_append, List.sum_cons, List.sum_nil, List.cons_append]
    have q0 := hle 0
    have q1 := hle 1
    have q2 := hle 2
    have q3 := hle 3
    have q4 := hle 4
    have q5 := hle 5
    have a0 := q0 0; have a1 := q0 1; have a2 := q0 2; have a3 := q0 3
    have b0 := q1 0; have b1 := q1 1; have b2 := q1 2; have b3 := q1 3
    have c0 := q2 0; have c1 := q2 1; have c2 := q2 2; have c3 := q2 3
    have d0 := q3 0; have d1 := q3 1; have d2 := q3 2; have d3 := q3 3
    have e0 := q4 0; have e1 := q4 1; have e2 := q4 2; have e3 := q4 3
    have f0 := q5 0; have f1 := q5 1; have f2 := q5 2; have f3 := q5 3
    omega

/-! how many beads a column holds -/
theorem count_filter (p : Nat → Bool) (q : Int → Bool) : ∀ l : List Nat, (((l.filter p).map fun k : Nat => (k : Int)).countP q : Int) = (l.map fun k => if p k && q k then (1 : Int) else 0).sum
  | [] => rfl
  | a :: r => by
    have ih := count_filter p q r
    rw [List.filter_cons, List.map_cons, List.sum_cons, ← ih]
    by_cases hp : p a = true
    · rw [if_pos hp, List.map_cons, List.countP_cons, hp, Bool.true_and]
      by_cases hq : q a = true
      · simp [hq]; omega
      · simp [hq]
    · have hp' : p a = false := by simpa using hp
      rw [if_neg hp, hp', Bool.false_and]; simp
theorem low_sum (b : Nat → Bool) (W c : Nat) : ∀ n, ((List.range n).map fun k => if b (k * W + c) then (1 : Int) else 0).sum = low b W c n
  | 0 => rfl
  | n + 1 => by
    rw [List.range_succ, List.map_append, List.sum_append, low_sum b W c n, low_succ]
    by_cases h : b (n * W + c) = true
    · simp [h]
    · simp [h]
theorem sum_zero {α : Type} (f : α → Int) : ∀ l : List α, (∀ x ∈ l, f x = 0) → (l.map f).sum = 0
  | [], _ => rfl
  | a :: r, h => by rw [List.map_cons, List.sum_cons, h a List.mem_cons_self, sum_zero f r fun x hx => h x (List.mem_cons_of_mem _ hx)]; rfl
theorem sum_one {f : Nat → Int} {c : Nat} : ∀ n, c < n → (∀ k, k < n → k ≠ c → f k = 0) → ((List.range n).map f).sum = f c
  | n + 1, h, hz => by
    rw [List.range_succ, List.map_append, List.sum_append]
    simp only [List.map_cons, List.map_nil, List.sum_cons, List.sum_nil, Int.add_zero]
    by_cases hc : c = n
    · subst hc
      rw [sum_zero f (List.range c) fun k hk => hz k (by have := List.mem_range.mp hk; omega) (by have := List.mem_range.mp hk; omega)]; omega
    · rw [sum_one n (by omega) fun k hk hkc => hz k (by omega) hkc, hz n (by omega) (fun e => hc e.symm)]; omega
theorem count_col {W n : Nat} (hW : (W = 3 ∧ n = 4) ∨ (W = 4 ∧ n = 3) ∨ (W = 6 ∧ n = 2)) {L : List Int} (hs : Srt L) (hb : InBox L) {c : Nat} (hc : c < W) : L.countP (fun x => decide (x % (W : Int) = c)) = low (bits L) W c n := by
  have e : (L.countP (fun x => decide (x % (W : Int) = c)) : Int) = low (bits L) W c n := by
    have e1 : L.countP (fun x => decide (x % (W : Int) = c)) = (((List.range 12).filter (bits L)).map fun k : Nat => (k : Int)).countP (fun x => decide (x % (W : Int) = c)) := by rw [← srt_filter hs hb]
    rw [e1, count_filter, sum_cols hW, ← low_sum]
    have hmod : ∀ c' k, c' < W → (((k * W + c' : Nat) : Int) % (W : Int)) = c' := fun c' k h => by
      rw [← Int.natCast_emod, Nat.mul_comm k W, Nat.mul_add_mod, Nat.mod_eq_of_lt h]
    rw [sum_one (c := c) W hc]
    · congr 1
      refine List.map_congr_left fun k _ => ?_
      rw [hmod c k hc]; simp
    · intro c' h' hne
      refine sum_zero _ _ fun k _ => ?_
      rw [hmod c' k h', decide_eq_false (by omega), Bool.and_false]; rfl
  omega
theorem ends_mod {W : Int} (hW : 0 < W) (L : List Int) (c : Int) : (ends W L).countP (fun x => decide (x % W = c)) = L.countP (fun x => decide (x % W = c)) := by
  unfold ends
  rw [List.countP_map]
  congr 1
  funext p
  simp only [Function.comp]
  have e : ((fel W L p : Int) * W + p % W) % W = p % W := by rw [Int.add_comm, Int.add_mul_emod_self_right, Int.emod_emod_of_dvd _ (Int.dvd_refl W)]
  exact decide_eq_decide.mpr (by rw [e])
theorem down_closed {f : Nat → Bool} (h : ∀ k, f (k + 1) = true → f k = true) : ∀ n k, k < n → f k = decide (k < ((List.range n).filter f).length) := by
  have hd : ∀ j k, f (k + j) = true → f k = true := fun j => by
    induction j with
    | zero => exact fun k e => e
    | succ j ih => exact fun k e => ih k (h _ e)
  intro n
  induction n with
  | zero => intro k hk; omega
  | succ n ih =>
    intro k hk
    have hl : ((List.range n).filter f).length ≤ n := Nat.le_trans (List.length_filter_le ..) (by simp)
    rw [List.range_succ, List.filter_append, List.length_append]
    by_cases hn : f n = true
    · have all : ∀ j, j < n + 1 → f j = true := fun j hj => hd (n - j) j (by rw [show j + (n - j) = n by omega]; exact hn)
      have : (List.range n).filter f = List.range n := List.filter_eq_self.mpr fun j hj => all j (by have := List.mem_range.mp hj; omega)
      rw [this, all k hk]; simp [hn]; omega
    · have hn' : f n = false := by simpa using hn
      by_cases hkn : k < n
      · rw [ih k hkn]; simp [hn']
      · have : k = n := by omega
        subst this
        rw [hn']; simp [hn']; omega
/-- after all moves: the sign at a place tells whether the column reaches it -/
theorem told_bits {W n : Nat} (hW : (W = 3 ∧ n = 4) ∨ (W = 4 ∧ n = 3) ∨ (W = 6 ∧ n = 2)) {L M ls : List Int} (hs : Srt L) (hb : InBox L) (E : Ended (W : Int) L M ls) {c k : Nat} (hc : c < W) (hk : k < n) :
    bits M (k * W + c) = decide (k < low (bits L) W c n) := by
  have hW0 : (0 : Int) < W := by rcases hW with ⟨rfl, _⟩ | ⟨rfl, _⟩ | ⟨rfl, _⟩ <;> decide
  have e : low (bits M) W c n = low (bits L) W c n := by
    rw [← count_col hW E.srt E.box hc, ← count_col hW hs hb hc, ← ends_mod hW0 M, ← ends_mod hW0 L]
    exact E.perm.countP_eq _
  rw [← e]
  refine down_closed (f := fun j => bits M (j * W + c)) (fun j hj => ?_) n k hk
  have hm : (((j + 1) * W + c : Nat) : Int) ∈ M := of_decide_eq_true hj
  have e2 : (((j + 1) * W + c : Nat) : Int) - (W : Int) = ((j * W + c : Nat) : Int) := by rw [Nat.add_mul]; omega
  have := E.none _ hm (by rw [e2]; omega)
  rw [e2] at this
  exact decide_eq_true this

/-! inversions counted from the back -/
theorem invs_snoc (a : Int) : ∀ L : List Int, invs (L ++ [a]) = invs L + L.countP (fun x => decide (a < x))
  | [] => by simp [invs]
  | b :: L => by
    have ih := invs_snoc a L
    simp only [List.cons_append, invs, List.countP_append, List.countP_cons, List.countP_nil, ih]
    omega
noncomputable def turns (e : List Int) : Nat → Int
  | 0 => 0
  | k + 1 => turns e k + (match e[k]? with | some a => ((e.take k).countP (fun x => decide (a < x)) : Int) | none => 0)
theorem turns_invs (e : List Int) : ∀ k, k ≤ e.length → turns e k = invs (e.take k)
  | 0, _ => rfl
  | k + 1, h => by
    have hk : k < e.length := h
    rw [turns, turns_invs e k (by omega), List.take_add_one, List.getElem?_eq_getElem hk]
    simp only [Option.toList_some]
    rw [invs_snoc]; simp

/-! rules for law -/
theorem preSum_take {xs : Array (Int × Tok)} : ∀ k, k ≤ xs.size → preSum (numAt xs) k = ((xs.toList.map (·.1)).take k).sum
  | 0, _ => rfl
  | k + 1, h => by
    rw [preSum, preSum_take k (by omega), List.take_add_one]
    have hk : k < xs.size := h
    have e : (xs.toList.map (·.1))[k]? = some xs[k].1 := by simp [hk]
    rw [e, List.sum_append]
    simp [numAt, hk]
theorem ints_items : ∀ {vs : List Value} {ns : List Int}, IntsAre vs ns → ∃ xs : List (Int × Tok), vs = xs.map (fun p => Value.int p.1 p.2) ∧ xs.map (·.1) = ns
  | _, _, .nil => ⟨[], rfl, rfl⟩
  | _, _, .cons n t r => by
    obtain ⟨xs, e1, e2⟩ := ints_items r
    exact ⟨(n, t) :: xs, by simp [e1], by simp [e2]⟩
theorem sum_small {B : Int} (hB : 0 ≤ B) : ∀ ns : List Int, (∀ x ∈ ns, -B ≤ x ∧ x ≤ B) → -(B * ns.length) ≤ ns.sum ∧ ns.sum ≤ B * ns.length
  | [], _ => by simp
  | a :: r, h => by
    have h1 := h a List.mem_cons_self
    have h2 := sum_small hB r fun x hx => h x (List.mem_cons_of_mem _ hx)
    rw [List.sum_cons, List.length_cons]
    have e : B * ((r.length + 1 : Nat) : Int) = B * r.length + B := by rw [Int.natCast_add, Int.mul_add]; simp
    rw [e]; omega
section
variable {prog : Program} {w : World} {A : Around} {E : Value → Shared → Prop} {s₀ s : Shared} {env : Env} {own : List Addr} {vars vars' : Vars} {g : Heap} {I I' : List (Addr × Obj)}
theorem rPow {a n : Int} {t u : Tok} {Q : Value → Shared → Prop} (H : Fs s₀ env own vars g I s) (hn : 0 ≤ n) (hn2 : n ≤ 1000000) (ha : a.natAbs < 2 ^ 64) (h : ∀ t s', Fs s₀ env own vars g I s' → Q (.int (a ^ n.toNat) t) s') :
    wpAny (model prog w) A (binaryOp .Pow (.int a t) (.int n u)) Q E s := pow_int_small hn hn2 ha (h _ _ (H.toks _))
theorem rSum {l : Addr} {vs : List Value} {ns : List Int} {Q : Value → Shared → Prop} (H : Fs s₀ env own vars g I s) (hA : A.handled = none) (hl : s.heap.IsList l vs.toArray) (hi : IntsAre vs ns) (hz : ns.length ≤ 100) (hb : ∀ x ∈ ns, -1000000 ≤ x ∧ x ≤ 1000000)
    (h : ∀ t s', Fs s₀ env own vars g I s' → Q (.int ns.sum t) s') : wpAny (model prog w) A (call (.builtin "sum") [.ref l]) Q E s := by
  obtain ⟨xs, rfl, rfl⟩ := ints_items hi
  have e : (xs.map (fun p => Value.int p.1 p.2)).toArray = intItems xs.toArray := by simp [intItems]
  rw [e] at hl
  have hsz : (xs.toArray).size = xs.length := by simp
  refine sum_intList hA hl (fun j hj => ⟨?_, ?_⟩) fun h' tk t' hk => ?_
  · have hj' : j < xs.length := by simpa using hj
    have := hb (xs[j].1) (List.mem_map_of_mem (List.getElem_mem hj'))
    have e2 : numAt xs.toArray j = xs[j].1 := by simp [numAt, hj']
    rw [e2]; unfold InLong; omega
  · rw [preSum_take (j + 1) hj]
    have hq := sum_small (B := 1000000) (by decide) ((xs.map (·.1)).take (j + 1)) fun x hx => hb x (List.mem_of_mem_take hx)
    have hl2 : ((xs.map (·.1)).take (j + 1)).length ≤ 100 := by rw [List.length_take]; simp at hz ⊢; omega
    have e3 : (xs.toArray.toList.map (·.1)) = xs.map (·.1) := by simp
    rw [e3]
    unfold InLong; omega
  · have e4 : preSum (numAt xs.toArray) xs.toArray.size = (xs.map (·.1)).sum := by
      rw [preSum_take _ (Nat.le_refl _)]
      congr 1
      rw [List.take_of_length_le (by simp)]
    rw [e4]
    exact h t' _ (H.grow tk hk)
theorem rInL {l : Addr} {vs : List Value} {ns : List Int} {k : Int} {t : Tok} {Q : Value → Shared → Prop} (hl : s.heap.IsList l vs.toArray) (hi : IntsAre vs ns) (h : Q (.bool (decide (k ∈ ns))) s) : wpAny (model prog w) A (compareOp .In (.int k t) (.ref l)) Q E s :=
  in_list_ints hl hi (by rw [show ns.any (· == k) = decide (k ∈ ns) by rw [Bool.eq_iff_iff]; simp]; exact h)
theorem rIfExp {test body orelse : Expr} {pos : Pos} {Q : Value → Shared → Prop} (h : wpAny (model prog w) A (isTrue test env (eval test env)) (fun c s₂ => Br c (wpAny (model prog w) A (eval body env) Q E s₂) (wpAny (model prog w) A (eval orelse env) Q E s₂)) E s) :
    wpAny (model prog w) A (eval (.IfExp test body orelse pos) env) Q E s := IfExp_ (wpAny_mono h (fun c s' h' => by cases c <;> exact h') fun _ _ x => x)
theorem rNeI {a b : Int} {t u : Tok} {Q : Value → Shared → Prop} (h : Q (.bool (!decide (a = b))) s) : wpAny (model prog w) A (compareOp .NotEq (.int a t) (.int b u)) Q E s :=
  PyProof.Rows.ne_int (by rw [show (a != b) = !decide (a = b) by rw [Bool.eq_iff_iff]; simp]; exact h)
theorem sv_strs : ∀ {vs : List Value} {xs : List (List Nat)}, SV vs xs → StrsAre vs (xs.map S) := fun {vs xs} h => by
  obtain ⟨l, rfl, e⟩ := h
  rw [← e]
  exact strsAre_of_values l
theorem countIn_S (x : List Nat) : ∀ xs : List (List Nat), PySem.Spec.countIn (PyData.str (S x)) ((xs.map S).map PyData.str) = ((xs.filter fun y => decide (y = x)).length : Nat)
  | [] => rfl
  | y :: r => by
    have ih := countIn_S x r
    rw [List.map_cons, List.map_cons, PySem.Spec.countIn, ih, List.filter_cons]
    have e : PySem.Spec.same (PyData.str (S y)) (PyData.str (S x)) = decide (y = x) := by
      rw [show PySem.Spec.same (PyData.str (S y)) (PyData.str (S x)) = decide (S y = S x) by show (S y == S x) = _; rw [Bool.eq_iff_iff]; simp]
      exact decide_eq_decide.mpr S_inj
    rw [e]
    by_cases h : y = x
    · simp [h]; omega
    · simp [h]
theorem rCount {l : Addr} {vs : List Value} {xs : List (List Nat)} {x : List Nat} {t : Tok} {Q : Value → Shared → Prop} (H : Fs s₀ env own vars g I s) (hl : s.heap.IsList l vs.toArray) (hi : SV vs xs) (h : ∀ t s', Fs s₀ env own vars g I s' → Q (.int ((xs.filter fun y => decide (y = x)).length : Nat) t) s') :
    wpAny (model prog w) A (call (.builtin "list.count") [.ref l, .str (S x) t]) Q E s :=
  count_list_strs hl (sv_strs hi) (by rw [countIn_S]; exact h _ _ (H.toks _))
theorem rSorted {l : Addr} {vs : List Value} {ns : List Int} {Q : Value → Shared → Prop} (H : Fs s₀ env own vars g I s) (hl : s.heap.IsList l vs.toArray) (hi : IntsAre vs ns) (hz : ns.length < 64)
    (h : ∀ D (vs' : List Value) (ns' : List Int) e s', IntsAre vs' ns' → ns'.Perm ns → ns'.Pairwise (· ≤ ·) → Fs s₀ env own vars g ((D, listOf vs'.toArray e) :: I) s' → Q (.ref D) s') :
    wpAny (model prog w) A (call (.builtin "sorted") [.ref l]) Q E s := by
  refine sorted_ints hl hi (by rw [hi.length]; exact hz) fun out ns' a1 a2 a3 => ?_
  obtain ⟨e, he⟩ := sortedAll_at s.heap vs out
  exact h _ out.toList ns' e _ a1 a2 a3 (H.add (h' := _) s.toks (fun _ _ => sortedAll_old) (get_ge_none (Nat.le_succ _)) he)
theorem rAddLists {l b : Addr} {vs us : List Value} {n m : Nat} {Q : Value → Shared → Prop} (H : Fs s₀ env own vars g I s) (hl : s.heap.IsList l vs.toArray) (hb : s.heap.IsList b us.toArray) (hz : vs.length + us.length ≤ 1000)
    (h : ∀ D s', Fs s₀ env own vars g ((D, listOf (vs ++ us).toArray 0) :: I) s' → Q (.ref D) s') : wpAny (model prog w) A (binaryOp .Add (.ref l) (.ref b)) Q E s := by
  obtain ⟨⟨cls, dd, data, sl⟩, ho, hc, n, hd⟩ := id hl
  obtain ⟨⟨cls2, dd2, data2, sl2⟩, ho2, hc2, n2, hd2⟩ := id hb
  simp only at hc hd hc2 hd2
  subst hc hd hc2 hd2
  have e : vs.toArray ++ us.toArray = (vs ++ us).toArray := by simp
  refine concat_meets ⟨_, ho, rfl⟩ ⟨_, ho2, rfl⟩ noFill_list_add seq_list_add PySem.F.slot_list_add PySem.F.entry_list_add (PySem.F.args_list_add_2 _ _) (list_addW l b vs.toArray us.toArray n n2 dd dd2 sl sl2 (le_line' (by simpa using hz))) ⟨ho, ho2, ?_⟩
  rw [e]
  exact h _ _ (push_sv H _ s.toks)
theorem rBool {b : Bool} {k : Nat} {pos : Pos} {Q : Value → Shared → Prop} (h : Q (.bool b) s) : wpAny (model prog w) A (eval (.Constant (.bool b) k pos) env) Q E s := fun _ _ _ => h
end

section
variable {prog : Program} {w : World} {A : Around} {E : Value → Shared → Prop} {s₀ s : Shared} {env : Env} {own : List Addr} {vars vars' : Vars} {g : Heap} {I I' : List (Addr × Obj)}
theorem rMulB {a b : Int} {t u : Tok} {Q : Value → Shared → Prop} (H : Fs s₀ env own vars g I s) (h0 : -1000000000 ≤ b) (h1 : b ≤ 1000000000) (h : ∀ t s', Fs s₀ env own vars g I s' → Q (.int (a * b) t) s') :
    wpAny (model prog w) A (binaryOp .Mult (.int a t) (.int b u)) Q E s := rMulI H (IntMulOk.of_right (intBits_le (by omega))) h
end

section
variable {s₀ s s' : Shared} {env : Env} {own : List Addr} {vars : Vars} {g g' : Heap} {I : List (Addr × Obj)}
/-- all that is not the frame's own and not in the ledger stands from here on -/
theorem Fs.settle (H : Fs s₀ env own vars g I s) : ∃ g', (∀ b o, g.get? b = some o → g'.get? b = some o) ∧ Fs s₀ env own vars g' I s ∧ ∀ b o, s.heap.get? b = some o → b ∉ own → b ∉ I.map (·.1) → g'.get? b = some o := by
  have hk : ∀ b o, g.get? b = some o → (hideAll s.heap (own ++ I.map (·.1))).get? b = some o := fun b o e => hideAll_get _ (H.keep b o e) fun hm => by
    rcases List.mem_append.mp hm with hm | hm
    · rw [H.off _ hm] at e; cases e
    · obtain ⟨p, hp, rfl⟩ := List.mem_map.mp hm
      rw [(H.led p hp).2.1] at e; cases e
  refine ⟨hideAll s.heap (own ++ I.map (·.1)), hk, ?_, fun b o e h1 h2 => hideAll_get _ e fun hm => by
    rcases List.mem_append.mp hm with hm | hm
    · exact h1 hm
    · exact h2 hm⟩
  exact { H with
    ns := by
      obtain ⟨m, a, b, c⟩ := H.ns
      exact ⟨m, a, b.imp id fun q => q.keeps hk, c⟩
    cell := fun p hp hx => let ⟨c, a, b, d⟩ := H.cell p hp hx; ⟨c, a, b, d.imp id fun q => q.keeps hk⟩
    keep := fun b o e => of_hideAll _ e
    off := fun a ha => hideAll_none _ (List.mem_append_left _ ha)
    led := fun p hp => ⟨(H.led p hp).1, hideAll_none _ (List.mem_append_right _ (List.mem_map_of_mem hp)), (H.led p hp).2.2⟩ }
theorem Fs.settleKp (H : Fs s₀ env own vars g I s) (k : Kp s s') : ∃ g', (∀ b o, g.get? b = some o → g'.get? b = some o) ∧ Fs s₀ env own vars g' I s' ∧ ∀ b o, s.heap.get? b = none → s'.heap.get? b = some o → g'.get? b = some o := by
  obtain ⟨g', h1, h2, h3⟩ := (H.kp k).settle
  refine ⟨g', h1, h2, fun b o hn e => h3 b o e (fun hm => ?_) fun hm => ?_⟩
  · obtain ⟨o', e'⟩ := H.exi _ hm; rw [hn] at e'; cases e'
  · obtain ⟨p, hp, rfl⟩ := List.mem_map.mp hm
    have := (H.led p hp).1; rw [hn] at this; cases this
theorem Fs.weaken (S : Sto env own) (H : Fs s₀ env own vars g' I s) (h : ∀ b o, g.get? b = some o → g'.get? b = some o) : Fs s₀ env own vars g I s := by
  have hn : ∀ b, g'.get? b = none → g.get? b = none := fun b e => by
    cases e' : g.get? b with
    | none => rfl
    | some o => rw [h b o e'] at e; cases e
  exact { H with
    ns := let ⟨m, a, _, c⟩ := H.ns; ⟨m, a, .inl S.loc, c⟩
    cell := fun p hp hx => let ⟨c, a, b, _⟩ := H.cell p hp hx; ⟨c, a, b, .inl (S.cell p.1 c (hx.resolve_right (S.nofree _)) a).1⟩
    keep := fun b o e => H.keep b o (h b o e)
    off := fun a ha => hn a (H.off a ha)
    led := fun p hp => let ⟨a, b, c⟩ := H.led p hp; ⟨a, hn _ b, c⟩ }
end
local macro_rules | `(tactic| walk_at "m") => `(tactic| first
  | with_reducible refine rIfExp ?_
  | with_reducible refine rNeI ?_
  | ((with_reducible rename Fs _ _ _ _ _ _ _ => Hq); (with_reducible refine rMulB Hq (by omega) (by omega) ?_); (clear Hq); intro _ _ _)
  | with_reducible refine rBool ?_
  | ((with_reducible rename Fs _ _ _ _ _ _ _ => Hq); (with_reducible refine rPow Hq (by omega) (by omega) (by decide) ?_); (clear Hq); intro _ _ _))

/-! law's body: numbers, total, drawn -/
theorem LEnv.free {env : Env} (LE : LEnv env) {scope : Scope} {x : Str} {fr : List Str} (ok : CompOk scope x fr) (h : ∀ y ∈ fr, y ∈ lawCells) : ∀ n, (n, NameKind.free) ∈ scope.names → ∃ c, env.cells.lookup n = some c := fun n hn => (LE.cell n (h n (ok.all n hn))).2
theorem LEnv.kinds {env : Env} (LE : LEnv env) {fr : List Str} (h : ∀ y ∈ fr, y ∈ lawCells) : ∀ y ∈ fr, env.kindOf y = some .cell := fun y hy => (LE.cell y (h y hy)).1
theorem paired_ints {f : Int → Int} {vs ys : List Value} {ns : List Int} (h : Paired (fun v y => ∃ a t t', v = Value.int a t ∧ y = Value.int (f a) t') vs ys) (hi : IntsAre vs ns) : IntsAre ys (ns.map f) := by
  induction h generalizing ns with
  | nil => cases hi; exact .nil
  | cons h _ ih =>
    obtain ⟨a, t1, t2, rfl, rfl⟩ := h
    cases hi with
    | cons n t r => exact .cons _ _ (ih r)
theorem filter_true {α : Type} (l : List α) : l.filter (fun _ => true) = l := List.filter_eq_self.mpr fun _ _ => rfl
section
variable {w : World} {A : Around} {s₀ s : Shared} {env : Env} {own : List Addr} {g : Heap} {Q : Flow → Shared → Prop}
theorem lawA {l : Addr} {svs : List Value} {sns : List Int} (hA : Ar 4 A) (hS : Sto env own) (hG : Gn env lawGlobs) (LE : LEnv env) (T : TX g) (hl : g.IsList l svs.toArray) (hi : IntsAre svs sns) (hz : sns.length ≤ 63)
    (H : Fs s₀ env own (lawVars l) g [] s)
    (h : ∀ s' g' M mvs ms xv tot tt D td, (∀ b o, g.get? b = some o → g'.get? b = some o) → g'.IsList M (mvs : List Value).toArray → IntsAre mvs ms → ms.length ≤ 12 → 0 ≤ tot → tot < 1000000000 → 0 ≤ D → D < 4096 →
      Fs s₀ env own ([("script", some (.ref l)), ("x", xv), ("numbers", some (.ref M)), ("total", some (.int tot tt)), ("octet", none), ("text", none), ("lines", none), ("columns", none), ("column", none), ("due", none), ("fellows", none), ("turned", none), ("told", none), ("picks", none), ("legs", none), ("core", none), ("drawn", some (.int D td)), ("k", none), ("start", none), ("width", none), ("bead", none), ("gap", none), ("signs", none), ("step", none), ("c_v", none), ("held", none), ("ends", none), ("place", none), ("beads", none)] : Vars) g' [] s' →
      wpAny (model pg w) A (execs ((bodyAt 27).drop 4) env) Q (fun _ _ => False) s') :
    wpAny (model pg w) A (execs (bodyAt 27) env) Q (fun _ _ => False) s := by
  have hvn := hi.length
  conv in bodyAt 27 => whnf
  repeat' (walk_at "m")
  refine rCompListTo (s₀ := s₀) (g := g) (x := "x") (fr := []) (fun _ => true) (fun v y => ∃ a t t', v = .int a t ∧ y = .int (a % 1000000) t') (compOk_of (by decide +kernel)) hA.handled hS (by simp) (LE.free (x := "x") (fr := []) (compOk_of (by decide +kernel)) (by simp)) H.kind (LE.loc _ (by walk_at "m.mem")) (by rfl) (by decide +kernel) ?_
  refine rSlice (by assumption) ?_
  repeat' (walk_at "m")
  rename Fs _ _ _ _ _ _ _ => H
  refine ⟨l, _, _, _, _, _, rfl, H.isList hl, by simp; omega, .none, .int _ _, H, fun D s1 H => ?_⟩
  have hpick : slicePick svs.toArray none (some 12) none = (svs.take 12).toArray := slicePick_upto' svs.toArray 12
  rw [hpick] at H
  refine ⟨D, _, _, _, _, [], rfl, H.listAt (.head _), by simp; omega, H, fun D' => by walk_at "m.put", rfl, by simp, ?_, ?_⟩
  · refine CompQ.bare fun cenv i v s₃ E' hP Hc hk => ?_
    have hP' : (svs.take 12)[i]? = some v := by simpa using hP
    obtain ⟨a, ha⟩ : ∃ a, (sns.take 12)[i]? = some a := ⟨_, List.getElem?_eq_getElem (by have := (List.getElem?_eq_some_iff.mp hP').1; have := (ints_take 12 hi).length; omega)⟩
    obtain ⟨ta, hta⟩ := (ints_take 12 hi).get i a ha
    obtain rfl : v = .int a ta := by rw [hP'] at hta; simpa using hta
    repeat' (walk_at "m")
    rw [show ((10 : Int) ^ Int.toNat 6) = 1000000 by decide]
    repeat' (walk_at "m")
    rename Fs _ _ _ _ _ _ _ => H
    exact ⟨⟨a, _, _, rfl, rfl⟩, _, _, H⟩
  · intro M ys n s2 hF H
    rw [filter_true] at hF
    have hM := paired_ints (f := fun a => a % 1000000) hF (by simpa using ints_take 12 hi)
    generalize hms : (sns.take 12).map (fun a => a % 1000000) = ms at hM
    have hml : ms.length ≤ 12 := by rw [← hms, List.length_map, List.length_take]; omega
    have hmb : ∀ x ∈ ms, 0 ≤ x ∧ x < 1000000 := fun x hx => by
      rw [← hms] at hx
      obtain ⟨a, _, rfl⟩ := List.mem_map.mp hx
      omega
    have hyl := hM.length
    obtain ⟨g', hgg, H', hst⟩ := H.rebase (I' := []) (List.nil_sublist _)
    clear H; have H := H'; clear H'
    have hMl : g'.IsList M ys.toArray := listOf_is (hst (M, _) (.head _) (by simp))
    have G' := T.gd.keeps hgg
    clear hF hst hpick
    repeat' (walk_at "m")
    rename Fs _ _ _ _ _ _ _ => H
    refine rSum H hA.handled (H.isList hMl) hM (by omega) (fun x hx => by have := hmb x hx; omega) fun tt s3 H => ?_
    have hsum := sum_small (B := 1000000) (by decide) ms (fun x hx => by have := hmb x hx; omega)
    have hsum0 := sum_nonneg (fun x => x) ms (fun x hx => (hmb x hx).1)
    rw [show ms.map (fun x => x) = ms from List.map_id' ms] at hsum0
    repeat' (walk_at "m")
    have hys : ∀ (i : Nat) (v : Value), ys.toArray[i]? = some v → ∃ a t, v = Value.int a t ∧ 0 ≤ a := fun i v hv => by
      have hv' : ys[i]? = some v := by simpa using hv
      obtain ⟨a, ha⟩ : ∃ a, ms[i]? = some a := ⟨_, List.getElem?_eq_getElem (by have := (List.getElem?_eq_some_iff.mp hv').1; omega)⟩
      obtain ⟨t, ht⟩ := hM.get i a ha
      exact ⟨a, t, by rw [hv'] at ht; simpa using ht, (hmb a (List.mem_of_getElem? ha)).1⟩
    rename Fs _ _ _ _ _ _ _ => H
    refine rForList (s₀ := s₀) (g := g') (fun i vars I => ∃ xv D td, vars = ([("script", some (.ref l)), ("x", xv), ("numbers", some (.ref M)), ("total", some (.int ms.sum tt)), ("octet", none), ("text", none), ("lines", none), ("columns", none), ("column", none), ("due", none), ("fellows", none), ("turned", none), ("told", none), ("picks", none), ("legs", none), ("core", none), ("drawn", some (.int D td)), ("k", none), ("start", none), ("width", none), ("bead", none), ("gap", none), ("signs", none), ("step", none), ("c_v", none), ("held", none), ("ends", none), ("place", none), ("beads", none)] : Vars) ∧ I = [] ∧ 0 ≤ D ∧ D < 4096) H hA.handled hMl ?hit ?turn ?done
    case hit =>
      repeat' (walk_at "m")
      exact ⟨rfl, _, _, by assumption, _, _, _, rfl, rfl, by omega, by omega⟩
    case turn =>
      clear H
      rintro i v vars I o It s5 hv ⟨xv, D, td, rfl, rfl, hd0, hd1⟩ H
      obtain ⟨a, ta, rfl, ha⟩ := hys i v hv
      repeat' (walk_at "m")
      rename Fs _ _ _ _ _ _ _ => H
      exact forNext H ⟨_, _, _, rfl, rfl, by omega, by omega⟩
    case done =>
      clear H
      rintro vars I s5 ⟨xv, D, td, rfl, rfl, hd0, hd1⟩ H
      refine seqNext ?_
      exact h _ g' M ys ms xv _ tt D td hgg hMl hM hml hsum0 (by omega) hd0 hd1 H
end

/-! law's body: start, width -/
theorem swaps_cell {env : Env} {elt : Expr} {gens : List Comprehension} {scope : Scope} {p tp : Pos} {t : Str} {line : Nat} (hk : env.kindOf t = some .cell) : swapsWith (.ListComp elt gens scope p) (some (.Name t tp)) line env = pure false := by
  show (pure (env.blockKind == .function && env.kindOf t == some .local && tp.line == p.line && !(scope.names.any fun (n, k) => n == t && (k == .local || k == .cell))) : Sem Bool) = pure false
  rw [hk]
  have : ((some NameKind.cell : Option NameKind) == some .local) = false := by decide
  rw [this, Bool.and_false, Bool.false_and, Bool.false_and]
theorem ints_filter {p : Value → Bool} {p' : Int → Bool} (hp : ∀ a t, p (.int a t) = p' a) : ∀ {vs : List Value} {ns : List Int}, IntsAre vs ns → IntsAre (vs.filter p) (ns.filter p')
  | _, _, .nil => .nil
  | _, _, .cons n t r => by
    have ih := ints_filter hp r
    rw [List.filter_cons, List.filter_cons, hp]
    split
    · exact .cons _ _ ih
    · exact ih
theorem ints_of_get : ∀ (vs : List Value) (k : Nat), (∀ (j : Nat) (v : Value), vs[j]? = some v → ∃ t, v = Value.int ((k + j : Nat) : Int) t) → IntsAre vs ((List.range' k vs.length).map fun j : Nat => (j : Int))
  | [], _, _ => .nil
  | v :: r, k, h => by
    obtain ⟨t, rfl⟩ := h 0 v rfl
    rw [List.length_cons, List.range'_succ]
    refine .cons _ _ (ints_of_get r (k + 1) fun j v hv => ?_)
    obtain ⟨t, e⟩ := h (j + 1) v (by simpa using hv)
    exact ⟨t, by rw [e]; congr 1; omega⟩
theorem ints_range {vs : List Value} {n : Nat} (hl : vs.length = n) (h : ∀ (j : Nat) (v : Value), vs[j]? = some v → ∃ t, v = Value.int (j : Nat) t) : IntsAre vs ((List.range n).map fun j : Nat => (j : Int)) := by
  have := ints_of_get vs 0 (fun j v hv => by obtain ⟨t, e⟩ := h j v hv; exact ⟨t, by rw [e]; congr 1; omega⟩)
  rw [hl] at this
  rw [List.range_eq_range']; exact this
theorem paired_same {vs ys : List Value} (h : Paired (fun v y => y = v) vs ys) : ys = vs := by
  induction h with
  | nil => rfl
  | cons h _ ih => rw [h, ih]
noncomputable def drawP (D : Int) (v : Value) : Bool := match v with | .int a _ => decide (D / 2 ^ a.toNat % 2 = 1) | _ => false
section
variable {w : World} {A : Around} {s₀ s : Shared} {env : Env} {own : List Addr} {g : Heap} {Q : Flow → Shared → Prop}
theorem lawB {l M : Addr} {xv : Option Value} {tot D : Int} {tt td : Tok} (hA : Ar 4 A) (hS : Sto env own) (hG : Gn env lawGlobs) (LE : LEnv env) (T : TX g) (ht0 : 0 ≤ tot) (ht1 : tot < 1000000000) (hD0 : 0 ≤ D) (hD1 : D < 4096)
    (H : Fs s₀ env own ([("script", some (.ref l)), ("x", xv), ("numbers", some (.ref M)), ("total", some (.int tot tt)), ("octet", none), ("text", none), ("lines", none), ("columns", none), ("column", none), ("due", none), ("fellows", none), ("turned", none), ("told", none), ("picks", none), ("legs", none), ("core", none), ("drawn", some (.int D td)), ("k", none), ("start", none), ("width", none), ("bead", none), ("gap", none), ("signs", none), ("step", none), ("c_v", none), ("held", none), ("ends", none), ("place", none), ("beads", none)] : Vars) g [] s)
    (h : ∀ s' g' P pvs st W n tw, (∀ b o, g.get? b = some o → g'.get? b = some o) → g'.IsList P (pvs : List Value).toArray → IntsAre pvs st → Srt st → InBox st → ((W = 3 ∧ n = 4) ∨ (W = 4 ∧ n = 3) ∨ (W = 6 ∧ n = 2)) →
      Fs s₀ env own ([("script", some (.ref l)), ("x", xv), ("numbers", some (.ref M)), ("total", some (.int tot tt)), ("octet", none), ("text", none), ("lines", none), ("columns", none), ("column", none), ("due", none), ("fellows", none), ("turned", none), ("told", none), ("picks", none), ("legs", none), ("core", none), ("drawn", some (.int D td)), ("k", none), ("start", some (.ref P)), ("width", some (.int (W : Nat) tw)), ("bead", none), ("gap", none), ("signs", none), ("step", none), ("c_v", none), ("held", none), ("ends", none), ("place", none), ("beads", none)] : Vars) g' [] s' →
      wpAny (model pg w) A (execs ((bodyAt 27).drop 6) env) Q (fun _ _ => False) s') :
    wpAny (model pg w) A (execs ((bodyAt 27).drop 4) env) Q (fun _ _ => False) s := by
  have G := T.gd
  conv in (bodyAt 27).drop 4 => whnf
  refine rSeq ?_
  refine rAssign ?_ (swaps_cell (LE.cell _ (by walk_at "m.mem")).1)
  refine rCompRange (s₀ := s₀) (own := own) (g := g) (x := "k") (fr := ["drawn"]) (n := 12) (drawP D) (fun v y => y = v) (compOk_of (by decide +kernel)) hA.handled (LE.kinds (by decide +kernel)) (LE.free (x := "k") (fr := ["drawn"]) (compOk_of (by decide +kernel)) (by decide +kernel)) (by omega) ?_
  repeat' (walk_at "m")
  rename Fs _ _ _ _ _ _ _ => H
  refine rRange H fun r s1 t0 t1 H hr => ?_
  refine ⟨r, _, _, _, _, _, [("drawn", some (.int D td))], rfl, hr, H, rfl, (by simp only [List.forall_mem_cons]; exact ⟨by walk_at "m.mem", fun _ h => nomatch h⟩), ?_, ?_⟩
  · refine CompQ.one (fun cenv i v s₃ E' hP Hc hk => ?_) (fun cenv i v s₃ E' hP hpv Hc hk => ?_)
    · obtain ⟨hi, t, rfl⟩ := hP
      repeat' (walk_at "m")
      have hpw : ∀ i, i < 12 → 0 < (2 : Int) ^ i ∧ (2 : Int) ^ i ≤ 2048 := by decide
      have hq := hpw i hi
      have hdr : drawP D (.int (i : Nat) t) = decide (D / 2 ^ ((i : Nat) : Int).toNat % 2 = 1) := rfl
      rw [Int.toNat_natCast] at hdr ⊢
      generalize (2 : Int) ^ i = pw at hq hdr
      repeat' (walk_at "m")
      rename Fs _ _ _ _ _ _ _ => H
      exact ⟨hdr.symm, _, _, H⟩
    · repeat' (walk_at "m")
      exact ⟨rfl, _, _, Hc⟩
  · intro P vs ys k s2 hvl hvs hF H
    obtain rfl := paired_same hF
    have hPi := ints_filter (p := drawP D) (p' := fun a => decide (D / 2 ^ a.toNat % 2 = 1)) (fun _ _ => rfl) (ints_range hvl hvs)
    generalize hst : ((List.range 12).map fun j : Nat => (j : Int)).filter (fun a => decide (D / 2 ^ a.toNat % 2 = 1)) = st at hPi
    have hsrt : Srt st := by rw [← hst]; exact List.Pairwise.sublist List.filter_sublist srt_range12
    have hbox : InBox st := fun x hx => by
      rw [← hst] at hx
      obtain ⟨j, hj, rfl⟩ := List.mem_map.mp (List.mem_filter.mp hx).1
      have := List.mem_range.mp hj; omega
    repeat' (walk_at "m")
    rename Fs _ _ _ _ _ _ _ => H
    rename_i ta _ tb _ tc _ Lw _ _ _ _ _
    have hm0 : 0 ≤ tot % 3 := by omega
    have hm1 : tot % 3 < 3 := by omega
    obtain ⟨W, n, tw, hWn, hW⟩ : ∃ (W n : Nat) (tw : Tok), ((W = 3 ∧ n = 4) ∨ (W = 4 ∧ n = 3) ∨ (W = 6 ∧ n = 2)) ∧ ([Value.int 4 ta, .int 3 tb, .int 6 tc].toArray)[(tot % 3).toNat]? = some (.int (W : Nat) tw) := by
      rcases (by omega : tot % 3 = 0 ∨ tot % 3 = 1 ∨ tot % 3 = 2) with e | e | e <;> rw [e]
      · exact ⟨4, 3, ta, .inr (.inl ⟨rfl, rfl⟩), rfl⟩
      · exact ⟨3, 4, tb, .inl ⟨rfl, rfl⟩, rfl⟩
      · exact ⟨6, 2, tc, .inr (.inr ⟨rfl, rfl⟩), rfl⟩
    refine rItem (H.listAt (.head _)) hm0 (by omega) hW ?_
    obtain ⟨g', hgg, H', hst'⟩ := H.rebase (I' := []) (List.nil_sublist _)
    have hnd := H.ndI
    clear H; have H := H'; clear H'
    have hPl : g'.IsList P (vs.filter (drawP D)).toArray := listOf_is (hst' (P, _) (by walk_at "m.mem") (by simp))
    refine rStore hS H (by walk_at "m.put") fun s5 H => ?_
    refine seqNext ?_
    exact h s5 g' P _ st W n tw hgg hPl hPi hsrt hbox hWn H
end

theorem seen_ok : ∀ c, c < 127 → 33 ≤ c → Unicode.isLineBreak c = false ∧ Unicode.isSpace c = false := by decide +kernel
theorem hexSign_box : ∀ k, k < 16 → 33 ≤ hexSign k ∧ hexSign k < 127 ∧ hexSign k ≠ 61 := by decide
theorem hex_at : ∀ k, k < 16 → ([48, 49, 50, 51, 52, 53, 54, 55, 56, 57, 65, 66, 67, 68, 69, 70] : List Nat)[k]? = some (hexSign k) := by decide
theorem enc_bare {c : Nat} (h0 : 33 ≤ c) (h1 : c < 127) (h2 : c ≠ 61) : enc c = [c] := by
  unfold enc bare
  rw [if_pos]
  simp; omega
theorem enc_high {c : Nat} (h : 128 ≤ c) : enc c = [61, hexSign (c / 16), hexSign (c % 16)] := by
  unfold enc bare
  rw [if_neg]
  simp; omega
theorem sg1 {bd gp : Nat} (h0 : 62 ≤ bd) (h1 : bd < 127) (h2 : 33 ≤ gp) (h3 : gp < 61) : Sg bd gp 1 [bd] [gp] := by
  have k1 := seen_ok bd h1 (by omega)
  have k2 := seen_ok gp (by omega) h2
  refine ⟨.inl rfl, enc_bare (by omega) h1 (by omega), enc_bare h2 (by omega) (by omega), rfl, rfl, by simp; omega, by omega, by omega, by omega, ?_, ?_, .plain (by omega) .nil, .plain (by omega) .nil, ?_, ?_, ?_, ?_, ?_⟩
  · intro c hc; rw [List.mem_singleton.mp hc]; exact k1.1
  · intro c hc; rw [List.mem_singleton.mp hc]; exact k2.1
  · intro c hc; rw [List.mem_singleton.mp hc]; exact k1.2
  · intro c hc; rw [List.mem_singleton.mp hc]; exact k2.2
  · intro c
    refine ⟨fun _ h => by omega, fun h => ?_⟩
    have : bd = c := by simpa using h
    omega
  · intro c
    refine ⟨fun _ h => by omega, fun h => ?_⟩
    have : gp = c := by simpa using h
    omega
  · intro _; simp; omega
theorem sg2 {o : Nat} (h0 : 128 ≤ o) (h1 : o < 256) : Sg 61 o 3 [61, 51, 68] [61, hexSign (o / 16), hexSign (o % 16)] := by
  have b1 := hexSign_box (o / 16) (by omega)
  have b2 := hexSign_box (o % 16) (by omega)
  have k1 := seen_ok _ b1.2.1 b1.1
  have k2 := seen_ok _ b2.2.1 b2.1
  have hne : [61, 51, 68] ≠ [61, hexSign (o / 16), hexSign (o % 16)] := by
    intro e
    simp only [List.cons.injEq, and_true, true_and] at e
    have hinj : ∀ k, k < 16 → 8 ≤ k → hexSign k ≠ 51 := by decide
    exact hinj (o / 16) (by omega) (by omega) e.1.symm
  have e61 : enc 61 = [61, 51, 68] := by decide
  refine ⟨.inr rfl, e61, enc_high h0, rfl, rfl, hne, by omega, by omega, h1, ?_, ?_, .hex (v := 61) (by omega) .nil, .hex h1 .nil, ?_, ?_, ?_, ?_, fun h => by omega⟩
  · unfold noBrk; decide +kernel
  · intro c hc
    simp only [List.mem_cons, List.not_mem_nil, or_false] at hc
    rcases hc with rfl | rfl | rfl
    · exact brk61
    · exact k1.1
    · exact k2.1
  · decide +kernel
  · intro c hc
    simp only [List.mem_cons, List.not_mem_nil, or_false] at hc
    rcases hc with rfl | rfl | rfl
    · exact spc61
    · exact k1.2
    · exact k2.2
  · intro c
    refine ⟨fun h _ => ?_, fun h => ?_⟩
    · have : 51 = c := by simpa using h
      omega
    · have : 68 = c := by simpa using h
      omega
  · intro c
    refine ⟨fun h _ => ?_, fun h => ?_⟩
    · have : hexSign (o / 16) = c := by simpa using h
      rw [← this]; exact b1.2.2
    · have : hexSign (o % 16) = c := by simpa using h
      rw [← this]; exact b2.2.2

/-! law's body: the signs -/
section
variable {w : World} {A : Around} {s₀ s : Shared} {env : Env} {own : List Addr} {g : Heap} {Q : Flow → Shared → Prop}
theorem lawC {l M P : Addr} {xv : Option Value} {tot D : Int} {tt td tw : Tok} {W : Nat} (hA : Ar 4 A) (hS : Sto env own) (hG : Gn env lawGlobs) (LE : LEnv env) (T : TX g) (ht0 : 0 ≤ tot) (ht1 : tot < 1000000000)
    (H : Fs s₀ env own ([("script", some (.ref l)), ("x", xv), ("numbers", some (.ref M)), ("total", some (.int tot tt)), ("octet", none), ("text", none), ("lines", none), ("columns", none), ("column", none), ("due", none), ("fellows", none), ("turned", none), ("told", none), ("picks", none), ("legs", none), ("core", none), ("drawn", some (.int D td)), ("k", none), ("start", some (.ref P)), ("width", some (.int (W : Nat) tw)), ("bead", none), ("gap", none), ("signs", none), ("step", none), ("c_v", none), ("held", none), ("ends", none), ("place", none), ("beads", none)] : Vars) g [] s)
    (h : ∀ s' g' ov bd gp st Sa Sb tb tg ts X sgs, (∀ b o, g.get? b = some o → g'.get? b = some o) → Sg bd gp st Sa Sb → g'.IsList X (sgs : List Value).toArray → SV sgs [Sa, Sb] →
      Fs s₀ env own ([("script", some (.ref l)), ("x", xv), ("numbers", some (.ref M)), ("total", some (.int tot tt)), ("octet", ov), ("text", none), ("lines", none), ("columns", none), ("column", none), ("due", none), ("fellows", none), ("turned", none), ("told", none), ("picks", none), ("legs", none), ("core", none), ("drawn", some (.int D td)), ("k", none), ("start", some (.ref P)), ("width", some (.int (W : Nat) tw)), ("bead", some (.str (Mine.S [bd]) tb)), ("gap", some (.str (Mine.S [gp]) tg)), ("signs", some (.ref X)), ("step", some (.int (st : Nat) ts)), ("c_v", none), ("held", none), ("ends", none), ("place", none), ("beads", none)] : Vars) g' [] s' →
      wpAny (model pg w) A (execs ((bodyAt 27).drop 8) env) Q (fun _ _ => False) s') :
    wpAny (model pg w) A (execs ((bodyAt 27).drop 6) env) Q (fun _ _ => False) s := by
  have G := T.gd
  conv in (bodyAt 27).drop 6 => whnf
  -- what both ways end with
  have fin : ∀ s' ov bd gp st Sa Sb tb tg X sgs k, Sg bd gp st Sa Sb → SV (sgs : List Value) [Sa, Sb] →
      Fs s₀ env own ([("script", some (.ref l)), ("x", xv), ("numbers", some (.ref M)), ("total", some (.int tot tt)), ("octet", ov), ("text", none), ("lines", none), ("columns", none), ("column", none), ("due", none), ("fellows", none), ("turned", none), ("told", none), ("picks", none), ("legs", none), ("core", none), ("drawn", some (.int D td)), ("k", none), ("start", some (.ref P)), ("width", some (.int (W : Nat) tw)), ("bead", some (.str (Mine.S [bd]) tb)), ("gap", some (.str (Mine.S [gp]) tg)), ("signs", some (.ref X)), ("step", none), ("c_v", none), ("held", none), ("ends", none), ("place", none), ("beads", none)] : Vars) g [(X, listOf sgs.toArray k)] s' →
      wpAny (model pg w) A (execs ((bodyAt 27).drop 7) env) Q (fun _ _ => False) s' := by
    intro s' ov bd gp st Sa Sb tb tg X sgs k hSg hsv H
    conv in (bodyAt 27).drop 7 => whnf
    obtain ⟨g', hgg, H', hst'⟩ := H.rebase (I' := []) (List.nil_sublist _)
    clear H; have H := H'; clear H'
    have G' := G.keeps hgg
    have hX : g'.IsList X sgs.toArray := listOf_is (hst' (X, _) (by walk_at "m.mem") (by simp))
    repeat' (walk_at "m")
    rename Fs _ _ _ _ _ _ _ => H
    obtain ⟨tA, hA0⟩ := hsv.get (i := 0) (x := Sa) rfl
    refine rItem (H.isList hX) (by omega) (by omega) (by simpa using hA0) ?_
    have hla := hSg.la
    have hst := hSg.steps
    rename Fs _ _ _ _ _ _ _ => H
    refine rLenS H (by omega) fun ts s5 H => ?_
    rw [hla]
    refine rStore hS H (by walk_at "m.put") fun s6 H => ?_
    refine seqNext ?_
    exact h s6 g' ov bd gp st Sa Sb tb tg ts X sgs hgg hSg hX hsv H
  refine rSeq ?_
  show wpAny _ _ _ (SeqP pg w A env ((bodyAt 27).drop 7) Q _) _ _
  repeat' (walk_at "m")
  refine Br.both (fun hb => ?_) (fun hb => ?_)
  · repeat' (walk_at "m")
    rename Fs _ _ _ _ _ _ _ => H
    refine rChr H (by omega) (by omega) fun t1 s1 H => ?_
    repeat' (walk_at "m")
    rename Fs _ _ _ _ _ _ _ => H
    refine rChr H (by omega) (by omega) fun t2 s2 H => ?_
    repeat' (walk_at "m")
    rename Fs _ _ _ _ _ _ _ => H
    exact fin _ none _ _ 1 _ _ _ _ _ _ 0 (sg1 (bd := (62 + tot / 6 % 65).toNat) (gp := (33 + tot / 390 % 28).toNat) (by omega) (by omega) (by omega) (by omega)) (SV.cons _ (SV.one _)) H
  · repeat' (walk_at "m")
    rename Fs _ _ _ _ _ _ _ => H
    refine rChr H (by omega) (by omega) fun t1 s1 H => ?_
    repeat' (walk_at "m")
    obtain ⟨o, ho⟩ : ∃ o : Nat, (o : Int) = 128 + tot / 6 % 128 := ⟨(128 + tot / 6 % 128).toNat, by omega⟩
    have ho1 : 128 ≤ o := by omega
    have ho2 : o < 256 := by omega
    have hoN : (128 + tot / 6 % 128).toNat = o := by omega
    rename Fs _ _ _ _ _ _ _ => H
    refine rGetS (c := hexSign (o / 16)) H (by omega) (by omega) (by rw [show ((128 + tot / 6 % 128) / 16).toNat = o / 16 by omega]; exact hex_at (o / 16) (by omega)) fun t2 s2 H => ?_
    repeat' (walk_at "m")
    rename Fs _ _ _ _ _ _ _ => H
    refine rGetS (c := hexSign (o % 16)) H (by omega) (by omega) (by rw [show ((128 + tot / 6 % 128) % 16).toNat = o % 16 by omega]; exact hex_at (o % 16) (by omega)) fun t3 s3 H => ?_
    repeat' (walk_at "m")
    rename Fs _ _ _ _ _ _ _ => H
    rw [hoN] at H
    exact fin _ _ _ _ 3 _ _ _ _ _ _ 0 (sg2 ho1 ho2) (SV.cons _ (SV.one _)) H
end

/-! law's body: the text and its lines -/
theorem paired_sv {f : Int → List Nat} {vs ys : List Value} {ns : List Int} (h : Paired (fun v y => ∃ a t t', v = Value.int a t ∧ y = Value.str (S (f a)) t') vs ys) (hi : IntsAre vs ns) : SV ys (ns.map f) := by
  induction h generalizing ns with
  | nil => cases hi; exact SV.nil
  | cons h _ ih =>
    obtain ⟨a, t1, t2, rfl, rfl⟩ := h
    cases hi with
    | cons n t r => exact SV.cons _ (ih r)
theorem joinN_nil : ∀ xs : List (List Nat), joinN [] xs = xs.flatten
  | [] => rfl
  | [x] => by simp [joinN]
  | x :: y :: r => by rw [joinN_cons, joinN_nil (y :: r)]; simp
theorem tx_join (bd gp : Nat) (L : List Int) : joinN [] (((List.range 12).map fun j : Nat => (j : Int)).map fun a => [if a ∈ L then bd else gp]) = tx bd gp (bits L) := by
  rw [joinN_nil, List.map_map]
  unfold tx bits
  generalize List.range 12 = r
  induction r with
  | nil => rfl
  | cons a r ih => simp only [List.map_cons, List.flatten_cons, ih, Function.comp]; simp
theorem tx_len (bd gp : Nat) (b : Nat → Bool) : (tx bd gp b).length = 12 := by simp [tx]
theorem tx_lt {bd gp st : Nat} {A B : List Nat} (g : Sg bd gp st A B) (b : Nat → Bool) : ∀ c ∈ tx bd gp b, c < 256 := fun c hc => by
  obtain ⟨k, _, rfl⟩ := List.mem_map.mp hc
  split
  · exact g.bs
  · exact g.gs
noncomputable def rowsP (A B : List Nat) (b : Nat → Bool) (W n : Nat) : List (List Nat) := (List.range n).map fun j => (List.range W).flatMap fun c => tok A B (b (j * W + c))
theorem rows_P {bd gp st : Nat} {A B : List Nat} (g : Sg bd gp st A B) (b : Nat → Bool) {W n : Nat} (hn : n * W = 12) : rowsOf (st * W) n ((tx bd gp b).flatMap enc) = rowsP A B b W n := by
  rw [tx_enc g, ← hn]
  exact rowsOf_flat (fun k => tok_len g (b k))
theorem rowsP_brk {bd gp st : Nat} {A B : List Nat} (g : Sg bd gp st A B) (b : Nat → Bool) (W n : Nat) : ∀ p ∈ rowsP A B b W n, noBrk p := fun p hp => by
  obtain ⟨j, _, rfl⟩ := List.mem_map.mp hp
  exact tokens_noBrk g (fun c => b (j * W + c)) W
theorem joinN_le {sep : List Nat} {B : Nat} : ∀ xs : List (List Nat), (∀ x ∈ xs, x.length ≤ B) → (joinN sep xs).length ≤ xs.length * (B + sep.length)
  | [], _ => by simp [joinN]
  | [x], h => by have := h x List.mem_cons_self; simp [joinN]; omega
  | x :: y :: r, h => by
    have h1 := h x List.mem_cons_self
    have h2 := joinN_le (sep := sep) (y :: r) fun z hz => h z (List.mem_cons_of_mem _ hz)
    rw [joinN_cons, List.length_append, List.length_append, List.length_cons (a := x), Nat.add_mul]
    omega
theorem rowsP_len {bd gp st : Nat} {A B : List Nat} (g : Sg bd gp st A B) (b : Nat → Bool) {W n : Nat} (hW : W ≤ 6) (hn : n ≤ 4) : (joinN [61, 10] (rowsP A B b W n)).length ≤ 80 := by
  have hst := g.steps
  have h := joinN_le (sep := [61, 10]) (B := 18) (rowsP A B b W n) fun x hx => by
    obtain ⟨j, _, rfl⟩ := List.mem_map.mp hx
    rw [range_flat_len (fun k => tok_len g (b (j * W + k)))]
    rcases hst with h | h <;> rw [h] <;> omega
  have hl : (rowsP A B b W n).length = n := by simp [rowsP]
  rw [hl] at h
  simp only [List.length_cons, List.length_nil] at h
  omega
theorem rowsP_no10 {bd gp st : Nat} {A B : List Nat} (g : Sg bd gp st A B) (b : Nat → Bool) (W n : Nat) : ∀ p ∈ rowsP A B b W n, 10 ∉ p := fun p hp hm => by
  have := rowsP_brk g b W n p hp 10 hm
  rw [brk10] at this; cases this
section
variable {w : World} {A : Around} {s₀ s : Shared} {env : Env} {own : List Addr} {g : Heap} {Q : Flow → Shared → Prop}
theorem lawD {l M P X : Addr} {pvs sgs : List Value} {st : List Int} {xv ov : Option Value} {tot D : Int} {tt td tw tb tg ts : Tok} {W n bd gp sp : Nat} {Sa Sb : List Nat} (hA : Ar 4 A) (hS : Sto env own) (hG : Gn env lawGlobs) (LE : LEnv env) (T : TX g)
    (hP : g.IsList P pvs.toArray) (hPi : IntsAre pvs st) (hWn : (W = 3 ∧ n = 4) ∨ (W = 4 ∧ n = 3) ∨ (W = 6 ∧ n = 2)) (g0 : Sg bd gp sp Sa Sb)
    (H : Fs s₀ env own ([("script", some (.ref l)), ("x", xv), ("numbers", some (.ref M)), ("total", some (.int tot tt)), ("octet", ov), ("text", none), ("lines", none), ("columns", none), ("column", none), ("due", none), ("fellows", none), ("turned", none), ("told", none), ("picks", none), ("legs", none), ("core", none), ("drawn", some (.int D td)), ("k", none), ("start", some (.ref P)), ("width", some (.int (W : Nat) tw)), ("bead", some (.str (Mine.S [bd]) tb)), ("gap", some (.str (Mine.S [gp]) tg)), ("signs", some (.ref X)), ("step", some (.int (sp : Nat) ts)), ("c_v", none), ("held", none), ("ends", none), ("place", none), ("beads", none)] : Vars) g [] s)
    (h : ∀ s' g' tx LN lvs, (∀ b o, g.get? b = some o → g'.get? b = some o) → g'.IsList LN (lvs : List Value).toArray → SV lvs (rowsP Sa Sb (bits st) W n) →
      Fs s₀ env own ([("script", some (.ref l)), ("x", xv), ("numbers", some (.ref M)), ("total", some (.int tot tt)), ("octet", ov), ("text", tx), ("lines", some (.ref LN)), ("columns", none), ("column", none), ("due", none), ("fellows", none), ("turned", none), ("told", none), ("picks", none), ("legs", none), ("core", none), ("drawn", some (.int D td)), ("k", none), ("start", some (.ref P)), ("width", some (.int (W : Nat) tw)), ("bead", some (.str (Mine.S [bd]) tb)), ("gap", some (.str (Mine.S [gp]) tg)), ("signs", some (.ref X)), ("step", some (.int (sp : Nat) ts)), ("c_v", none), ("held", none), ("ends", none), ("place", none), ("beads", none)] : Vars) g' [] s' →
      wpAny (model pg w) A (execs ((bodyAt 27).drop 10) env) Q (fun _ _ => False) s') :
    wpAny (model pg w) A (execs ((bodyAt 27).drop 8) env) Q (fun _ _ => False) s := by
  have G := T.gd
  have hn12 : n * W = 12 := by rcases hWn with ⟨rfl, rfl⟩ | ⟨rfl, rfl⟩ | ⟨rfl, rfl⟩ <;> rfl
  have hW3 : 3 ≤ W ∧ W ≤ 6 ∧ 2 ≤ n ∧ n ≤ 4 := by omega
  have hsp := g0.steps
  conv in (bodyAt 27).drop 8 => whnf
  repeat' (walk_at "m")
  (with_reducible refine rMethS1 F.slot_str_join F.type_str_join ?_ ?_ ?_ ?_); rotate_left; rfl; rfl; rfl
  repeat' (walk_at "m")
  refine ⟨_, _, rfl, ?_⟩
  refine rCompRange (s₀ := s₀) (own := own) (g := g) (x := "k") (fr := ["bead", "start", "gap"]) (n := 12) (fun _ => true) (fun v y => ∃ a t t', v = Value.int a t ∧ y = Value.str (Mine.S [if a ∈ st then bd else gp]) t') (compOk_of (by decide +kernel)) hA.handled (LE.kinds (by decide +kernel)) (LE.free (x := "k") (fr := ["bead", "start", "gap"]) (compOk_of (by decide +kernel)) (by decide +kernel)) (by omega) ?_
  repeat' (walk_at "m")
  rename Fs _ _ _ _ _ _ _ => H
  refine rRange H fun r s1 t0 t1 H hr => ?_
  have hP1 := H.isList hP
  refine ⟨r, _, _, _, _, _, [("bead", some (.str (Mine.S [bd]) tb)), ("start", some (.ref P)), ("gap", some (.str (Mine.S [gp]) tg))], rfl, hr, H, rfl, (by simp only [List.forall_mem_cons]; exact ⟨by walk_at "m.mem", by walk_at "m.mem", by walk_at "m.mem", fun _ h => nomatch h⟩), ?_, ?_⟩
  · refine CompQ.bare fun cenv i v s₃ E' hv Hc hk => ?_
    obtain ⟨hi, t, rfl⟩ := hv
    repeat' (walk_at "m")
    refine rInL (hP1.at fun o e => hk _ _ e) hPi ?_
    repeat' (walk_at "m")
    refine Br.both (fun hb => ?_) (fun hb => ?_)
    · repeat' (walk_at "m")
      exact ⟨⟨_, _, _, rfl, by rw [if_pos (of_decide_eq_true hb)]⟩, _, _, Hc⟩
    · repeat' (walk_at "m")
      exact ⟨⟨_, _, _, rfl, by rw [if_neg (of_decide_eq_false hb)]⟩, _, _, Hc⟩
  · intro C vs ys k s2 hvl hvs hF H
    rw [filter_true] at hF
    have hsv := paired_sv (f := fun a => [if a ∈ st then bd else gp]) hF (ints_range hvl hvs)
    refine rJoin H (H.listAt (.head _)) hsv (by simp) (by simp) (fun x hx => by obtain ⟨a, _, rfl⟩ := List.mem_map.mp hx; simp) fun t3 s3 H => ?_
    rw [tx_join]
    have hxl := tx_len bd gp (bits st)
    have hx0 : tx bd gp (bits st) ≠ [] := fun e => by rw [e] at hxl; simp at hxl
    repeat' (walk_at "m")
    (with_reducible refine rMethS1 F.slot_str_split F.type_str_split ?_ ?_ ?_ ?_); rotate_left; rfl; rfl; rfl
    rename Fs _ _ _ _ _ _ _ => H
    refine rCallF T.fE G hG H (by walk_at "m.mem") (by walk_at "m.mem") ?_
    repeat' (walk_at "m")
    rename Fs _ _ _ _ _ _ _ => H
    refine ⟨H.keep, callR fun R' hR => enc_call (L := sp * W) (n := n) hA.mono (by rw [Int.natCast_mul]) (T.keeps H.keep) (tx_lt g0 _) hx0 (by omega) (enc_ok g0 (bits st) hn12 hW3.1) fun s4 t4 k4 => hR _ _ ?_⟩
    replace H := H.kp k4
    rw [rows_P g0 (bits st) hn12]
    refine ⟨_, _, rfl, ?_⟩
    repeat' (walk_at "m")
    rename Fs _ _ _ _ _ _ _ => H
    refine rSplit (ys := rowsP Sa Sb (bits st) W n) H (by have := rowsP_len g0 (bits st) (W := W) (n := n) (by omega) (by omega); omega) (by simp) (split_join (by simp [rowsP]; omega) (rowsP_no10 g0 (bits st) W n)) fun LN lvs s5 hlv H => ?_
    obtain ⟨g', hgg, H', hst'⟩ := H.rebase (I' := []) (List.nil_sublist _)
    have hnd := H.ndI
    clear H; have H := H'; clear H'
    have hLN : g'.IsList LN lvs.toArray := listOf_is (hst' (LN, _) (by walk_at "m.mem") (by simp))
    refine rStore hS H (by walk_at "m.put") fun s6 H => ?_
    refine seqNext ?_
    exact h s6 g' _ LN lvs hgg hLN hlv H
end

/-! law's body: the columns -/
theorem paired_svsv {f : List Nat → List Nat} {vs ys : List Value} {xs : List (List Nat)} (h : Paired (fun v y => ∃ r t t', v = Value.str (S r) t ∧ y = Value.str (S (f r)) t') vs ys) (hi : SV vs xs) : SV ys (xs.map f) := by
  induction h generalizing xs with
  | nil =>
    obtain ⟨l, e1, e2⟩ := hi
    have : l = [] := by simpa [strValues] using e1.symm
    subst this
    have : xs = [] := by simpa using e2.symm
    subst this; exact SV.nil
  | cons h _ ih =>
    obtain ⟨r, t1, t2, rfl, rfl⟩ := h
    obtain ⟨l, e1, e2⟩ := hi
    cases l with
    | nil => simp [strValues] at e1
    | cons p l =>
      cases xs with
      | nil => simp at e2
      | cons x xs =>
        simp only [strValues, List.map_cons, List.cons.injEq, Value.str.injEq] at e1
        simp only [List.map_cons, List.cons.injEq] at e2
        obtain ⟨⟨e3, e4⟩, e5⟩ := e1
        have hx : r = x := S_inj.mp (by rw [e3, e2.1])
        subst hx
        exact SV.cons _ (ih ⟨l, e5, e2.2⟩)
noncomputable def colP (A B : List Nat) (b : Nat → Bool) (W n c : Nat) : List (List Nat) := (List.range n).map fun j => tok A B (b (j * W + c))
theorem cut_col {bd gp st : Nat} {A B : List Nat} (g : Sg bd gp st A B) (b : Nat → Bool) {W n c : Nat} (hc : c < W) : (rowsP A B b W n).map (fun r => (r.drop (st * c)).take st) = colP A B b W n c := by
  unfold rowsP colP
  rw [List.map_map]
  refine List.map_congr_left fun j _ => ?_
  exact row_cut (f := fun c => tok A B (b (j * W + c))) (fun k => tok_len g _) hc
/-- the rows of refs, and what stands at them -/
noncomputable def ColsAt (get : Addr → Option Obj) (X : Nat → List (List Nat)) (items : List Value) : Prop := ∀ c v, items[c]? = some v → ∃ C vs k, v = .ref C ∧ get C = some (listOf (vs : List Value).toArray k) ∧ SV vs (X c)
section
variable {w : World} {A : Around} {s₀ s : Shared} {env : Env} {own : List Addr} {g : Heap} {Q : Flow → Shared → Prop}
theorem lawE {l M P X LN : Addr} {lvs : List Value} {st : List Int} {xv ov tx : Option Value} {tot D : Int} {tt td tw tb tg ts : Tok} {W n bd gp sp : Nat} {Sa Sb : List Nat} (hA : Ar 4 A) (hS : Sto env own) (hG : Gn env lawGlobs) (LE : LEnv env) (T : TX g)
    (hL : g.IsList LN lvs.toArray) (hLv : SV lvs (rowsP Sa Sb (bits st) W n)) (hWn : (W = 3 ∧ n = 4) ∨ (W = 4 ∧ n = 3) ∨ (W = 6 ∧ n = 2)) (g0 : Sg bd gp sp Sa Sb)
    (H : Fs s₀ env own ([("script", some (.ref l)), ("x", xv), ("numbers", some (.ref M)), ("total", some (.int tot tt)), ("octet", ov), ("text", tx), ("lines", some (.ref LN)), ("columns", none), ("column", none), ("due", none), ("fellows", none), ("turned", none), ("told", none), ("picks", none), ("legs", none), ("core", none), ("drawn", some (.int D td)), ("k", none), ("start", some (.ref P)), ("width", some (.int (W : Nat) tw)), ("bead", some (.str (Mine.S [bd]) tb)), ("gap", some (.str (Mine.S [gp]) tg)), ("signs", some (.ref X)), ("step", some (.int (sp : Nat) ts)), ("c_v", none), ("held", none), ("ends", none), ("place", none), ("beads", none)] : Vars) g [] s)
    (h : ∀ s' g' K items cv, (∀ b o, g.get? b = some o → g'.get? b = some o) → g'.IsList K (items : List Value).toArray → items.length = W → ColsAt g'.get? (colP Sa Sb (bits st) W n) items →
      Fs s₀ env own ([("script", some (.ref l)), ("x", xv), ("numbers", some (.ref M)), ("total", some (.int tot tt)), ("octet", ov), ("text", tx), ("lines", some (.ref LN)), ("columns", some (.ref K)), ("column", none), ("due", none), ("fellows", none), ("turned", none), ("told", none), ("picks", none), ("legs", none), ("core", none), ("drawn", some (.int D td)), ("k", none), ("start", some (.ref P)), ("width", some (.int (W : Nat) tw)), ("bead", some (.str (Mine.S [bd]) tb)), ("gap", some (.str (Mine.S [gp]) tg)), ("signs", some (.ref X)), ("step", some (.int (sp : Nat) ts)), ("c_v", cv), ("held", none), ("ends", none), ("place", none), ("beads", none)] : Vars) g' [] s' →
      wpAny (model pg w) A (execs ((bodyAt 27).drop 12) env) Q (fun _ _ => False) s') :
    wpAny (model pg w) A (execs ((bodyAt 27).drop 10) env) Q (fun _ _ => False) s := by
  have G := T.gd
  have hW3 : 3 ≤ W ∧ W ≤ 6 ∧ 2 ≤ n ∧ n ≤ 4 := by omega
  have hsp := g0.steps
  have hlvl := hLv.length
  have hrl : (rowsP Sa Sb (bits st) W n).length = n := by simp [rowsP]
  conv in (bodyAt 27).drop 10 => whnf
  repeat' (walk_at "m")
  rename Fs _ _ _ _ _ _ _ => H
  rename_i K _ _
  refine rForRange (s₀ := s₀) (g := g) (n := W) (fun i vars I => ∃ cv items kK cols, vars = ([("script", some (.ref l)), ("x", xv), ("numbers", some (.ref M)), ("total", some (.int tot tt)), ("octet", ov), ("text", tx), ("lines", some (.ref LN)), ("columns", some (.ref K)), ("column", none), ("due", none), ("fellows", none), ("turned", none), ("told", none), ("picks", none), ("legs", none), ("core", none), ("drawn", some (.int D td)), ("k", none), ("start", some (.ref P)), ("width", some (.int (W : Nat) tw)), ("bead", some (.str (Mine.S [bd]) tb)), ("gap", some (.str (Mine.S [gp]) tg)), ("signs", some (.ref X)), ("step", some (.int (sp : Nat) ts)), ("c_v", cv), ("held", none), ("ends", none), ("place", none), ("beads", none)] : Vars) ∧
    I = (K, listOf (items : List Value).toArray kK) :: cols ∧ items.length = i ∧ ∀ (c : Nat) (v : Value), items[c]? = some v → ∃ C vs k, v = .ref C ∧ (C, listOf (vs : List Value).toArray k) ∈ cols ∧ SV vs (colP Sa Sb (bits st) W n c)) H hA.handled (by omega) ?hit ?turn ?done
  case hit =>
    repeat' (walk_at "m")
    rename Fs _ _ _ _ _ _ _ => H
    exact rRange H fun r s2 t2 t3 H hr => ⟨r, _, _, _, rfl, hr, _, _, H, _, [], 0, [], rfl, rfl, rfl, fun c v hv => by simp at hv⟩
  case turn =>
    clear H
    rintro i t vars I o It s5 hi ⟨cv, items, kK, cols, rfl, rfl, hil, hcols⟩ H
    repeat' (walk_at "m")
    (with_reducible refine rMethL1 F.slot_list_append F.type_list_append ?_ ?_ ?_ ?_); rotate_left; rfl; rfl; rfl
    repeat' (walk_at "m")
    rename Fs _ _ _ _ _ _ _ => H
    refine ⟨K, _, rfl, (H.led (K, _) (by walk_at "m.mem")).1, rfl, rfl, ?_⟩
    refine rCompList (s₀ := s₀) (own := own) (g := g) (x := "line") (fr := ["step", "c_v"]) (fun _ => true) (fun v y => ∃ r t t', v = Value.str (Mine.S r) t ∧ y = Value.str (Mine.S ((r.drop (sp * i)).take sp)) t') (compOk_of (by decide +kernel)) hA.handled (LE.kinds (by decide +kernel)) (LE.free (x := "line") (fr := ["step", "c_v"]) (compOk_of (by decide +kernel)) (by decide +kernel)) ?_
    repeat' (walk_at "m")
    refine ⟨LN, lvs.toArray, _, _, [("step", some (.int (sp : Nat) ts)), ("c_v", some (.int (i : Nat) t))], rfl, H.isList hL, by simp; omega, H, rfl, (by simp only [List.forall_mem_cons]; exact ⟨by walk_at "m.mem", by walk_at "m.mem", fun _ h => nomatch h⟩), ?_, ?_⟩
    · refine CompQ.bare fun cenv j v s₃ E' hv Hc hk => ?_
      have hv' : lvs[j]? = some v := by simpa using hv
      obtain ⟨r, hr⟩ : ∃ r, (rowsP Sa Sb (bits st) W n)[j]? = some r := ⟨_, List.getElem?_eq_getElem (by have := (List.getElem?_eq_some_iff.mp hv').1; omega)⟩
      obtain ⟨tr, htr⟩ := hLv.get hr
      obtain rfl : v = .str (Mine.S r) tr := by rw [hv'] at htr; simpa using htr
      have hrlen : r.length = W * sp := by
        obtain ⟨q, _, rfl⟩ := List.mem_map.mp (List.mem_of_getElem? hr)
        exact range_flat_len (fun k => tok_len g0 _) W
      refine rSliceS (by assumption) ?_
      repeat' (walk_at "m")
      rename Fs _ _ _ _ _ _ _ => H
      have e1 : (sp : Int) * (i : Int) = ((sp * i : Nat) : Int) := by rw [Int.natCast_mul]
      have e2 : (sp : Int) * ((i : Int) + 1) = ((sp * i + sp : Nat) : Int) := by rw [Int.mul_add, e1]; simp
      have e3 : sp * (i + 1) ≤ sp * W := Nat.mul_le_mul_left _ hi
      rw [Nat.mul_add, Nat.mul_one, Nat.mul_comm sp W] at e3
      refine ⟨_, (r.drop (sp * i)).take sp, tr, some (_, _), some (_, _), _, _, rfl, rfl, rfl, ?_, by rw [List.length_take]; omega, H, fun t' s' H => ⟨⟨r, _, _, rfl, rfl⟩, _, _, H⟩⟩
      show StrLaws.sliceText (Mine.S r) (some ((sp : Int) * (i : Int))) (some ((sp : Int) * ((i : Int) + 1))) = _
      rw [e1, e2, slice_mid (by omega) (by omega) (by rw [hrlen]; omega), Int.toNat_natCast, show ((sp * i + sp : Nat) : Int) - ((sp * i : Nat) : Int) = (sp : Int) by omega, Int.toNat_natCast]
    · intro C ys k s6 hF H
      have hys : SV ys (colP Sa Sb (bits st) W n i) := by
        rw [← cut_col g0 (bits st) hi]
        exact paired_svsv (f := fun r => (r.drop (sp * i)).take sp) hF (by rw [filter_true]; exact hLv)
      refine rAppend H (by walk_at "m.turn") (by omega) fun s7 H => ?_
      repeat' (walk_at "m")
      rename Fs _ _ _ _ _ _ _ => H
      refine forNext (H.perm (rot3 ..)) ⟨_, _, _, (C, listOf ys.toArray k) :: cols, rfl, rfl, by simp; omega, fun c v hv => ?_⟩
      by_cases hc : c < items.length
      · rw [List.getElem?_append_left hc] at hv
        obtain ⟨C', vs', k', e1, e2, e3⟩ := hcols c v hv
        exact ⟨C', vs', k', e1, .tail _ e2, e3⟩
      · have hc2 : c = items.length := by
          have := (List.getElem?_eq_some_iff.mp hv).1
          simp at this; omega
        subst hc2
        have : v = .ref C := by simpa using hv.symm
        exact ⟨C, ys, k, this, .head _, by rw [hil]; exact hys⟩
  case done =>
    clear H
    rintro vars I s5 ⟨cv, items, kK, cols, rfl, rfl, hil, hcols⟩ H
    refine seqNext ?_
    obtain ⟨g', hgg, H', hst'⟩ := H.rebase (I' := []) (List.nil_sublist _)
    have hK : g'.IsList K items.toArray := listOf_is (hst' (K, _) (.head _) (by simp))
    refine h s5 g' K items cv hgg hK hil (fun c v hv => ?_) H'
    obtain ⟨C, vs, k, e1, e2, e3⟩ := hcols c v hv
    exact ⟨C, vs, k, e1, hst' (C, _) (.tail _ e2) (by simp), e3⟩
end

/-! law's body: held -/
theorem SV.inj {vs : List Value} {xs ys : List (List Nat)} (h : SV vs xs) (k : SV vs ys) : xs = ys := by
  obtain ⟨l, e1, e2⟩ := h
  obtain ⟨m, f1, f2⟩ := k
  have hlm : l.map (·.1) = m.map (·.1) := by
    have : strValues l = strValues m := by rw [← e1, ← f1]
    clear e1 e2 f1 f2
    induction l generalizing m with
    | nil => cases m with | nil => rfl | cons => simp [strValues] at this
    | cons p l ih =>
      cases m with
      | nil => simp [strValues] at this
      | cons q m =>
        simp only [strValues, List.map_cons, List.cons.injEq, Value.str.injEq] at this
        simp only [List.map_cons, List.cons.injEq]
        exact ⟨this.1.1, ih m this.2⟩
  rw [e2, f2] at hlm
  clear e1 e2 f1 f2
  induction xs generalizing ys with
  | nil => cases ys with | nil => rfl | cons => simp at hlm
  | cons x xs ih =>
    cases ys with
    | nil => simp at hlm
    | cons y ys =>
      simp only [List.map_cons, List.cons.injEq] at hlm
      rw [S_inj.mp hlm.1, ih hlm.2]
theorem col_count {A B : List Nat} (hne : A ≠ B) (b : Nat → Bool) (W n c k : Nat) (hk : k ≤ n) : (((colP A B b W n c).take k).filter fun y => decide (y = A)).length = low b W c k := by
  unfold colP low
  rw [← List.map_take, List.take_range, Nat.min_eq_left hk, List.filter_map, List.length_map]
  congr 1
  refine List.filter_congr fun j _ => ?_
  simp only [Function.comp, tok]
  by_cases h : b (j * W + c) = true
  · simp [h]
  · simp [h, Ne.symm hne]
theorem col_count' {A B : List Nat} (hne : A ≠ B) (b : Nat → Bool) (W n c k : Nat) (hk : k ≤ n) : (((colP A B b W n c).take k).filter fun y => decide (y = B)).length = low (fun p => !b p) W c k := by
  unfold colP low
  rw [← List.map_take, List.take_range, Nat.min_eq_left hk, List.filter_map, List.length_map]
  congr 1
  refine List.filter_congr fun j _ => ?_
  simp only [Function.comp, tok]
  by_cases h : b (j * W + c) = true
  · simp [h, hne]
  · simp [h]
theorem ints_at : ∀ {ys : List Value} {f : Nat → Int} (k : Nat), (∀ (j : Nat) (y : Value), ys[j]? = some y → ∃ t, y = Value.int (f (k + j)) t) → IntsAre ys ((List.range' k ys.length).map f)
  | [], _, _, _ => .nil
  | y :: r, f, k, h => by
    obtain ⟨t, e⟩ := h 0 y rfl
    subst e
    rw [List.length_cons, List.range'_succ]
    refine .cons _ _ (ints_at (k + 1) fun j y hy => ?_)
    obtain ⟨t, e⟩ := h (j + 1) y (by simpa using hy)
    exact ⟨t, by rw [e, show k + (j + 1) = k + 1 + j by omega]⟩
theorem paired_at {F : Value → Value → Prop} {vs ys : List Value} (h : Paired F vs ys) : vs.length = ys.length ∧ ∀ (j : Nat) (y : Value), ys[j]? = some y → ∃ v, vs[j]? = some v ∧ F v y := by
  induction h with
  | nil => exact ⟨rfl, fun j y hy => by simp at hy⟩
  | cons h _ ih =>
    refine ⟨by simp [ih.1], fun j y hy => ?_⟩
    cases j with
    | zero =>
      have e := Option.some.inj hy
      subst e
      exact ⟨_, rfl, h⟩
    | succ j => exact ih.2 j y (by simpa using hy)
section
variable {w : World} {A : Around} {s₀ s : Shared} {env : Env} {own : List Addr} {g : Heap} {Q : Flow → Shared → Prop}
theorem lawF1 {l M P X LN K : Addr} {sgs items : List Value} {st : List Int} {xv ov tx cv : Option Value} {tot D : Int} {tt td tw tb tg ts : Tok} {W n bd gp sp : Nat} {Sa Sb : List Nat} (hA : Ar 4 A) (hS : Sto env own) (hG : Gn env lawGlobs) (LE : LEnv env) (T : TX g)
    (hX : g.IsList X sgs.toArray) (hXv : SV sgs [Sa, Sb]) (hK : g.IsList K items.toArray) (hil : items.length = W) (hcol : ColsAt g.get? (colP Sa Sb (bits st) W n) items) (hWn : (W = 3 ∧ n = 4) ∨ (W = 4 ∧ n = 3) ∨ (W = 6 ∧ n = 2)) (g0 : Sg bd gp sp Sa Sb)
    (H : Fs s₀ env own ([("script", some (.ref l)), ("x", xv), ("numbers", some (.ref M)), ("total", some (.int tot tt)), ("octet", ov), ("text", tx), ("lines", some (.ref LN)), ("columns", some (.ref K)), ("column", none), ("due", none), ("fellows", none), ("turned", none), ("told", none), ("picks", none), ("legs", none), ("core", none), ("drawn", some (.int D td)), ("k", none), ("start", some (.ref P)), ("width", some (.int (W : Nat) tw)), ("bead", some (.str (Mine.S [bd]) tb)), ("gap", some (.str (Mine.S [gp]) tg)), ("signs", some (.ref X)), ("step", some (.int (sp : Nat) ts)), ("c_v", cv), ("held", none), ("ends", none), ("place", none), ("beads", none)] : Vars) g [] s)
    (h : ∀ s' g' Hd hvs, (∀ b o, g.get? b = some o → g'.get? b = some o) → g'.IsList Hd (hvs : List Value).toArray → IntsAre hvs ((List.range W).map fun c => (low (bits st) W c n : Int)) →
      Fs s₀ env own ([("script", some (.ref l)), ("x", xv), ("numbers", some (.ref M)), ("total", some (.int tot tt)), ("octet", ov), ("text", tx), ("lines", some (.ref LN)), ("columns", some (.ref K)), ("column", none), ("due", none), ("fellows", none), ("turned", none), ("told", none), ("picks", none), ("legs", none), ("core", none), ("drawn", some (.int D td)), ("k", none), ("start", some (.ref P)), ("width", some (.int (W : Nat) tw)), ("bead", some (.str (Mine.S [bd]) tb)), ("gap", some (.str (Mine.S [gp]) tg)), ("signs", some (.ref X)), ("step", some (.int (sp : Nat) ts)), ("c_v", cv), ("held", some (.ref Hd)), ("ends", none), ("place", none), ("beads", none)] : Vars) g' [] s' →
      wpAny (model pg w) A (execs ((bodyAt 27).drop 13) env) Q (fun _ _ => False) s') :
    wpAny (model pg w) A (execs ((bodyAt 27).drop 12) env) Q (fun _ _ => False) s := by
  have G := T.gd
  have hW3 : 3 ≤ W ∧ W ≤ 6 ∧ 2 ≤ n ∧ n ≤ 4 := by omega
  conv in (bodyAt 27).drop 12 => whnf
  refine rSeq ?_
  refine rAssign ?_ (swaps_cell (LE.cell _ (by walk_at "m.mem")).1)
  refine rCompList (s₀ := s₀) (own := own) (g := g) (x := "column") (fr := ["signs"]) (fun _ => true) (fun v y => ∀ (c : Nat), items[c]? = some v → ∃ t, y = Value.int (low (bits st) W c n : Int) t) (compOk_of (by decide +kernel)) hA.handled (LE.kinds (by decide +kernel)) (LE.free (x := "column") (fr := ["signs"]) (compOk_of (by decide +kernel)) (by decide +kernel)) ?_
  repeat' (walk_at "m")
  have hKs := H.isList hK
  refine ⟨K, items.toArray, _, _, [("signs", some (.ref X))], rfl, hKs, by simp; omega, H, rfl, (by simp only [List.forall_mem_cons]; exact ⟨by walk_at "m.mem", fun _ h => nomatch h⟩), ?_, ?_⟩
  · refine CompQ.bare fun cenv j v s₃ E' hv Hc hk => ?_
    have hv' : items[j]? = some v := by simpa using hv
    obtain ⟨C, vs, kC, rfl, hC, hvs⟩ := hcol j v hv'
    have hg3 : ∀ b o, g.get? b = some o → s₃.heap.get? b = some o := fun b o e => hk b o (H.keep b o e)
    (with_reducible refine rMethL1 F.slot_list_count F.type_list_count ?_ ?_ ?_ ?_); rotate_left; rfl; rfl; rfl
    repeat' (walk_at "m")
    refine ⟨C, _, rfl, hg3 _ _ hC, rfl, rfl, ?_⟩
    repeat' (walk_at "m")
    rename Fs _ _ _ _ _ _ _ => H3
    obtain ⟨tA, hA0⟩ := hXv.get (i := 0) (x := Sa) rfl
    refine rItem (H3.isList (hX.at fun o e => hg3 _ _ e)) (by omega) (by omega) (by simpa using hA0) ?_
    refine rCount H3 (H3.isList (listOf_is (hg3 _ _ hC))) hvs fun t4 s4 H4 => ⟨fun c hc => ?_, _, _, H4⟩
    obtain ⟨C', vs', kC', e1, hC', hvs'⟩ := hcol c _ hc
    obtain rfl : C = C' := by simpa using e1
    rw [hC] at hC'
    have e2 : vs = vs' := by
      simp only [PySem.W.listOf, Option.some.injEq, Obj.mk.injEq, Data.seq.injEq, true_and] at hC'
      simpa using hC'.1.1
    subst e2
    have e3 := hvs.inj hvs'
    rw [e3]
    have := col_count g0.ne (bits st) W n c n (Nat.le_refl _)
    rw [List.take_of_length_le (by simp [colP])] at this
    rw [this]; exact ⟨_, rfl⟩
  · intro Hd ys k s6 hF H
    rw [filter_true] at hF
    obtain ⟨hlen, hat⟩ := paired_at hF
    have hlen' : ys.length = W := by rw [← hlen]; simpa using hil
    have hys : IntsAre ys ((List.range W).map fun c => (low (bits st) W c n : Int)) := by
      have := ints_at (ys := ys) (f := fun c => (low (bits st) W c n : Int)) 0 fun j y hy => by
        obtain ⟨v, hv, hf⟩ := hat j y hy
        obtain ⟨t, e⟩ := hf j (by simpa using hv)
        exact ⟨t, by rw [e, Nat.zero_add]⟩
      rw [hlen'] at this
      rw [List.range_eq_range']; exact this
    obtain ⟨g', hgg, H', hst'⟩ := H.rebase (I' := []) (List.nil_sublist _)
    clear H; have H := H'; clear H'
    have hHd : g'.IsList Hd ys.toArray := listOf_is (hst' (Hd, _) (.head _) (by simp))
    refine rStore hS H (by walk_at "m.put") fun s7 H => ?_
    refine seqNext ?_
    exact h s7 g' Hd ys hgg hHd hys H
end

/-! law's body: due -/
theorem tok_iff {A B : List Nat} (hne : A ≠ B) (b : Bool) : tok A B b = A ↔ b = true := by
  unfold tok
  cases b
  · simp [Ne.symm hne]
  · simp
noncomputable def colDue (b : Nat → Bool) (W n c : Nat) (k : Nat) : Int := ((List.range k).map fun k => if b (k * W + c) then (low (fun p => !b p) W c k : Int) else 0).sum
theorem colDue_succ (b : Nat → Bool) (W n c k : Nat) : colDue b W n c (k + 1) = colDue b W n c k + (if b (k * W + c) then (low (fun p => !b p) W c k : Int) else 0) := by
  unfold colDue
  rw [List.range_succ, List.map_append, List.sum_append]; simp
noncomputable def partDue (b : Nat → Bool) (W n i : Nat) : Int := ((List.range i).map fun c => colDue b W n c n).sum
theorem partDue_succ (b : Nat → Bool) (W n i : Nat) : partDue b W n (i + 1) = partDue b W n i + colDue b W n i n := by
  unfold partDue
  rw [List.range_succ, List.map_append, List.sum_append]; simp
section
variable {w : World} {A : Around} {s₀ s : Shared} {env : Env} {own : List Addr} {g : Heap} {Q : Flow → Shared → Prop}
theorem lawF2 {l M P X LN K Hd : Addr} {sgs items : List Value} {st : List Int} {xv ov tx cv : Option Value} {tot D : Int} {tt td tw tb tg ts : Tok} {W n bd gp sp : Nat} {Sa Sb : List Nat} (hA : Ar 4 A) (hS : Sto env own) (hG : Gn env lawGlobs) (LE : LEnv env) (T : TX g)
    (hX : g.IsList X sgs.toArray) (hXv : SV sgs [Sa, Sb]) (hK : g.IsList K items.toArray) (hil : items.length = W) (hcol : ColsAt g.get? (colP Sa Sb (bits st) W n) items) (hWn : (W = 3 ∧ n = 4) ∨ (W = 4 ∧ n = 3) ∨ (W = 6 ∧ n = 2)) (g0 : Sg bd gp sp Sa Sb)
    (H : Fs s₀ env own ([("script", some (.ref l)), ("x", xv), ("numbers", some (.ref M)), ("total", some (.int tot tt)), ("octet", ov), ("text", tx), ("lines", some (.ref LN)), ("columns", some (.ref K)), ("column", none), ("due", none), ("fellows", none), ("turned", none), ("told", none), ("picks", none), ("legs", none), ("core", none), ("drawn", some (.int D td)), ("k", none), ("start", some (.ref P)), ("width", some (.int (W : Nat) tw)), ("bead", some (.str (Mine.S [bd]) tb)), ("gap", some (.str (Mine.S [gp]) tg)), ("signs", some (.ref X)), ("step", some (.int (sp : Nat) ts)), ("c_v", cv), ("held", some (.ref Hd)), ("ends", none), ("place", none), ("beads", none)] : Vars) g [] s)
    (h : ∀ s' col tdu kv, Fs s₀ env own ([("script", some (.ref l)), ("x", xv), ("numbers", some (.ref M)), ("total", some (.int tot tt)), ("octet", ov), ("text", tx), ("lines", some (.ref LN)), ("columns", some (.ref K)), ("column", col), ("due", some (.int (dueP (bits st) W n) tdu)), ("fellows", none), ("turned", none), ("told", none), ("picks", none), ("legs", none), ("core", none), ("drawn", some (.int D td)), ("k", kv), ("start", some (.ref P)), ("width", some (.int (W : Nat) tw)), ("bead", some (.str (Mine.S [bd]) tb)), ("gap", some (.str (Mine.S [gp]) tg)), ("signs", some (.ref X)), ("step", some (.int (sp : Nat) ts)), ("c_v", cv), ("held", some (.ref Hd)), ("ends", none), ("place", none), ("beads", none)] : Vars) g [] s' →
      wpAny (model pg w) A (execs ((bodyAt 27).drop 15) env) Q (fun _ _ => False) s') :
    wpAny (model pg w) A (execs ((bodyAt 27).drop 13) env) Q (fun _ _ => False) s := by
  have G := T.gd
  have hW3 : 3 ≤ W ∧ W ≤ 6 ∧ 2 ≤ n ∧ n ≤ 4 := by omega
  conv in (bodyAt 27).drop 13 => whnf
  repeat' (walk_at "m")
  rename Fs _ _ _ _ _ _ _ => H
  refine rForList (s₀ := s₀) (g := g) (fun i vars I => ∃ col du tdu kv, vars = ([("script", some (.ref l)), ("x", xv), ("numbers", some (.ref M)), ("total", some (.int tot tt)), ("octet", ov), ("text", tx), ("lines", some (.ref LN)), ("columns", some (.ref K)), ("column", col), ("due", some (.int du tdu)), ("fellows", none), ("turned", none), ("told", none), ("picks", none), ("legs", none), ("core", none), ("drawn", some (.int D td)), ("k", kv), ("start", some (.ref P)), ("width", some (.int (W : Nat) tw)), ("bead", some (.str (Mine.S [bd]) tb)), ("gap", some (.str (Mine.S [gp]) tg)), ("signs", some (.ref X)), ("step", some (.int (sp : Nat) ts)), ("c_v", cv), ("held", some (.ref Hd)), ("ends", none), ("place", none), ("beads", none)] : Vars) ∧ I = [] ∧ du = partDue (bits st) W n i) H hA.handled hK ?hit ?turn ?done
  case hit =>
    repeat' (walk_at "m")
    exact ⟨rfl, _, _, by assumption, _, _, _, _, rfl, rfl, rfl⟩
  case done =>
    clear H
    rintro vars I s5 ⟨col, du, tdu, kv, rfl, rfl, hdu⟩ H
    refine seqNext ?_
    have e : du = dueP (bits st) W n := by rw [hdu, List.size_toArray, hil]; rfl
    subst e
    exact h s5 col tdu kv H
  case turn =>
    clear H
    rintro i v vars I o It s5 hv ⟨col, du, tdu, kv, rfl, rfl, hdu⟩ H
    have hv' : items[i]? = some v := by simpa using hv
    have hiW : i < W := by rw [← hil]; exact (List.getElem?_eq_some_iff.mp hv').1
    obtain ⟨C, vs, kC, rfl, hC, hvs⟩ := hcol i v hv'
    have hCl : g.IsList C vs.toArray := listOf_is hC
    have hvl : vs.length = n := by rw [hvs.length]; simp [colP]
    repeat' (walk_at "m")
    rename Fs _ _ _ _ _ _ _ => H
    refine rForRange (s₀ := s₀) (g := g) (n := n) (fun j vars I => ∃ du tdu kv, vars = ([("script", some (.ref l)), ("x", xv), ("numbers", some (.ref M)), ("total", some (.int tot tt)), ("octet", ov), ("text", tx), ("lines", some (.ref LN)), ("columns", some (.ref K)), ("column", some (.ref C)), ("due", some (.int du tdu)), ("fellows", none), ("turned", none), ("told", none), ("picks", none), ("legs", none), ("core", none), ("drawn", some (.int D td)), ("k", kv), ("start", some (.ref P)), ("width", some (.int (W : Nat) tw)), ("bead", some (.str (Mine.S [bd]) tb)), ("gap", some (.str (Mine.S [gp]) tg)), ("signs", some (.ref X)), ("step", some (.int (sp : Nat) ts)), ("c_v", cv), ("held", some (.ref Hd)), ("ends", none), ("place", none), ("beads", none)] : Vars) ∧ I = [(It, o)] ∧ du = partDue (bits st) W n i + colDue (bits st) W n i j) H hA.handled (by omega) ?ihit ?iturn ?idone
    case ihit =>
      repeat' (walk_at "m")
      rename Fs _ _ _ _ _ _ _ => H
      refine rLen H (H.isList hCl) hvl (by omega) fun t1 s1 H => ?_
      exact rRange H fun r s2 t2 t3 H hr => ⟨r, _, _, _, rfl, hr, _, _, H, _, _, _, rfl, rfl, by rw [hdu]; simp [colDue]⟩
    case idone =>
      clear H
      rintro vars I s6 ⟨du, tdu, kv, rfl, rfl, hdu⟩ H
      repeat' (walk_at "m")
      exact forNext H ⟨_, _, _, _, rfl, rfl, by rw [hdu, partDue_succ]⟩
    case iturn =>
      clear H
      rintro j t vars I o2 It2 s6 hj ⟨du, tdu, kv, rfl, rfl, hdu⟩ H
      obtain ⟨tj, htj⟩ := hvs.get (i := j) (x := tok Sa Sb (bits st (j * W + i))) (by simp [colP, hj])
      obtain ⟨tA, hA0⟩ := hXv.get (i := 0) (x := Sa) rfl
      obtain ⟨tB, hB0⟩ := hXv.get (i := 1) (x := Sb) rfl
      repeat' (walk_at "m")
      rename Fs _ _ _ _ _ _ _ => H
      refine rItem (H.isList hCl) (by omega) (by omega) (by simpa using htj) ?_
      repeat' (walk_at "m")
      rename Fs _ _ _ _ _ _ _ => H
      refine rItem (H.isList hX) (by omega) (by omega) (by simpa using hA0) ?_
      repeat' (walk_at "m")
      refine Br.both (fun hb => ?_) (fun hb => ?_)
      · have hbt := (tok_iff g0.ne _).mp (of_decide_eq_true hb)
        repeat' (walk_at "m")
        (with_reducible refine rMethL1 F.slot_list_count F.type_list_count ?_ ?_ ?_ ?_); rotate_left; rfl; rfl; rfl
        refine rSlice (by assumption) ?_
        repeat' (walk_at "m")
        rename Fs _ _ _ _ _ _ _ => H
        refine ⟨C, _, _, _, _, _, rfl, H.isList hCl, by simp; omega, .none, .int _ _, H, fun D2 s7 H => ?_⟩
        have hpick : slicePick vs.toArray none (some (j : Int)) none = (vs.take j).toArray := slicePick_upto' vs.toArray j
        rw [hpick] at H
        refine ⟨D2, _, rfl, (H.led _ (.head _)).1, rfl, rfl, ?_⟩
        repeat' (walk_at "m")
        rename Fs _ _ _ _ _ _ _ => H
        refine rItem (H.isList hX) (by omega) (by omega) (by simpa using hB0) ?_
        refine rCount H (H.listAt (.head _)) (hvs.take j) fun t8 s8 H => ?_
        repeat' (walk_at "m")
        rename Fs _ _ _ _ _ _ _ => H
        refine forNext (H.sub (I' := [(It2, o2), (It, o)]) (by walk_at "m.sub")) ⟨_, _, _, rfl, rfl, ?_⟩
        rw [hdu, colDue_succ, if_pos hbt, col_count' g0.ne (bits st) W n i j (by omega)]; omega
      · have hbt : ¬ bits st (j * W + i) = true := fun e => of_decide_eq_false hb ((tok_iff g0.ne _).mpr e)
        repeat' (walk_at "m")
        refine forNext (by assumption) ⟨_, _, _, rfl, rfl, ?_⟩
        rw [hdu, colDue_succ, if_neg hbt]; omega
end

/-! law's body: ends -/
noncomputable def felP (W a : Int) (v : Value) : Bool := match v with | .int b _ => decide (b < a) && decide ((a - b) % W = 0) | _ => false
section
variable {w : World} {A : Around} {s₀ s : Shared} {env : Env} {own : List Addr} {g : Heap} {Q : Flow → Shared → Prop}
theorem lawG1 {l M P X LN K Hd : Addr} {pvs : List Value} {st : List Int} {xv ov tx cv col kv : Option Value} {tot D du : Int} {tt td tw tb tg ts tdu : Tok} {W n bd gp sp : Nat} (hA : Ar 4 A) (hS : Sto env own) (hG : Gn env lawGlobs) (LE : LEnv env) (T : TX g)
    (hP : g.IsList P pvs.toArray) (hPi : IntsAre pvs st) (hst : Srt st) (hbx : InBox st) (hsl : st.length ≤ 12) (hWn : (W = 3 ∧ n = 4) ∨ (W = 4 ∧ n = 3) ∨ (W = 6 ∧ n = 2))
    (H : Fs s₀ env own ([("script", some (.ref l)), ("x", xv), ("numbers", some (.ref M)), ("total", some (.int tot tt)), ("octet", ov), ("text", tx), ("lines", some (.ref LN)), ("columns", some (.ref K)), ("column", col), ("due", some (.int du tdu)), ("fellows", none), ("turned", none), ("told", none), ("picks", none), ("legs", none), ("core", none), ("drawn", some (.int D td)), ("k", kv), ("start", some (.ref P)), ("width", some (.int (W : Nat) tw)), ("bead", some (.str (Mine.S [bd]) tb)), ("gap", some (.str (Mine.S [gp]) tg)), ("signs", some (.ref X)), ("step", some (.int (sp : Nat) ts)), ("c_v", cv), ("held", some (.ref Hd)), ("ends", none), ("place", none), ("beads", none)] : Vars) g [] s)
    (h : ∀ s' g' En evs fe pl, (∀ b o, g.get? b = some o → g'.get? b = some o) → g'.IsList En (evs : List Value).toArray → IntsAre evs (ends (W : Int) st) →
      Fs s₀ env own ([("script", some (.ref l)), ("x", xv), ("numbers", some (.ref M)), ("total", some (.int tot tt)), ("octet", ov), ("text", tx), ("lines", some (.ref LN)), ("columns", some (.ref K)), ("column", col), ("due", some (.int du tdu)), ("fellows", fe), ("turned", none), ("told", none), ("picks", none), ("legs", none), ("core", none), ("drawn", some (.int D td)), ("k", kv), ("start", some (.ref P)), ("width", some (.int (W : Nat) tw)), ("bead", some (.str (Mine.S [bd]) tb)), ("gap", some (.str (Mine.S [gp]) tg)), ("signs", some (.ref X)), ("step", some (.int (sp : Nat) ts)), ("c_v", cv), ("held", some (.ref Hd)), ("ends", some (.ref En)), ("place", pl), ("beads", none)] : Vars) g' [] s' →
      wpAny (model pg w) A (execs ((bodyAt 27).drop 17) env) Q (fun _ _ => False) s') :
    wpAny (model pg w) A (execs ((bodyAt 27).drop 15) env) Q (fun _ _ => False) s := by
  have G := T.gd
  have hW3 : 3 ≤ W ∧ W ≤ 6 ∧ 2 ≤ n ∧ n ≤ 4 := by omega
  have hpl := hPi.length
  conv in (bodyAt 27).drop 15 => whnf
  repeat' (walk_at "m")
  rename Fs _ _ _ _ _ _ _ => H
  rename_i En _ _
  refine rForList (s₀ := s₀) (g := g) (fun i vars I => ∃ fe pl evs kE, vars = ([("script", some (.ref l)), ("x", xv), ("numbers", some (.ref M)), ("total", some (.int tot tt)), ("octet", ov), ("text", tx), ("lines", some (.ref LN)), ("columns", some (.ref K)), ("column", col), ("due", some (.int du tdu)), ("fellows", fe), ("turned", none), ("told", none), ("picks", none), ("legs", none), ("core", none), ("drawn", some (.int D td)), ("k", kv), ("start", some (.ref P)), ("width", some (.int (W : Nat) tw)), ("bead", some (.str (Mine.S [bd]) tb)), ("gap", some (.str (Mine.S [gp]) tg)), ("signs", some (.ref X)), ("step", some (.int (sp : Nat) ts)), ("c_v", cv), ("held", some (.ref Hd)), ("ends", some (.ref En)), ("place", pl), ("beads", none)] : Vars) ∧ I = [(En, listOf (evs : List Value).toArray kE)] ∧ IntsAre evs ((ends (W : Int) st).take i)) H hA.handled hP ?hit ?turn ?done
  case hit =>
    repeat' (walk_at "m")
    exact ⟨rfl, _, _, by assumption, _, _, [], _, rfl, rfl, .nil⟩
  case done =>
    clear H
    rintro vars I s5 ⟨fe, pl, evs, kE, rfl, rfl, hev⟩ H
    refine seqNext ?_
    rw [List.size_toArray, hpl, List.take_of_length_le (by simp [ends])] at hev
    obtain ⟨g', hgg, H', hst'⟩ := H.rebase (I' := []) (List.nil_sublist _)
    exact h s5 g' En evs fe pl hgg (listOf_is (hst' (En, _) (.head _) (by simp))) hev H'
  case turn =>
    clear H
    rintro i v vars I o It s5 hv ⟨fe, pl, evs, kE, rfl, rfl, hev⟩ H
    have hv' : pvs[i]? = some v := by simpa using hv
    have hi : i < st.length := by rw [← hpl]; exact (List.getElem?_eq_some_iff.mp hv').1
    obtain ⟨a, ha⟩ : ∃ a, st[i]? = some a := ⟨_, List.getElem?_eq_getElem hi⟩
    obtain ⟨ta, hta⟩ := hPi.get i a ha
    obtain rfl : v = .int a ta := by rw [hv'] at hta; simpa using hta
    have hevl := hev.length
    rw [List.length_take] at hevl
    repeat' (walk_at "m")
    refine rCompListTo (s₀ := s₀) (g := g) (x := "one") (fr := ["place", "width"]) (felP W a) (fun v y => y = v) (compOk_of (by decide +kernel)) hA.handled hS (LE.kinds (by decide +kernel)) (LE.free (x := "one") (fr := ["place", "width"]) (compOk_of (by decide +kernel)) (by decide +kernel)) (Fs.kind (by assumption)) (LE.loc _ (by walk_at "m.mem")) (by rfl) (by decide +kernel) ?_
    repeat' (walk_at "m")
    rename Fs _ _ _ _ _ _ _ => H
    refine ⟨P, _, _, _, _, [("place", some (.int a ta)), ("width", some (.int (W : Nat) tw))], rfl, H.isList hP, by simp; omega, H, fun D' => by walk_at "m.put", rfl, (by simp only [List.forall_mem_cons]; exact ⟨by walk_at "m.mem", by walk_at "m.mem", fun _ h => nomatch h⟩), ?_, ?_⟩
    · refine CompQ.one (fun cenv j v s₃ E' hP' Hc hk => ?_) (fun cenv j v s₃ E' hP' hpv Hc hk => ?_)
      · have hp' : pvs[j]? = some v := by simpa using hP'
        obtain ⟨b, hb⟩ : ∃ b, st[j]? = some b := ⟨_, List.getElem?_eq_getElem (by have := (List.getElem?_eq_some_iff.mp hp').1; omega)⟩
        obtain ⟨tb', htb⟩ := hPi.get j b hb
        obtain rfl : v = .int b tb' := by rw [hp'] at htb; simpa using htb
        have hfp : felP W a (.int b tb') = (decide (b < a) && decide ((a - b) % W = 0)) := rfl
        repeat' (walk_at "m")
        refine Br.both (fun h1 => ?_) (fun h1 => ?_)
        · repeat' (walk_at "m")
          refine Br.both (fun h2 => ?_) (fun h2 => ?_)
          · repeat' (walk_at "m")
            exact ⟨by rw [hfp, h1, h2]; rfl, _, _, by assumption⟩
          · repeat' (walk_at "m")
            exact ⟨by rw [hfp, h1, h2]; rfl, _, _, by assumption⟩
        · repeat' (walk_at "m")
          exact ⟨by rw [hfp, h1]; rfl, _, _, by assumption⟩
      · repeat' (walk_at "m")
        exact ⟨rfl, _, _, Hc⟩
    · intro Fe ys k s6 hF H
      obtain rfl := paired_same hF
      have hFi := ints_filter (p := felP W a) (p' := fun b => decide (b < a) && decide ((a - b) % W = 0)) (fun _ _ => rfl) hPi
      have hfel : (st.filter fun b => decide (b < a) && decide ((a - b) % (W : Int) = 0)).length = fel W st a := (List.countP_eq_length_filter ..).symm
      have hfl : (pvs.toArray.toList.filter (felP W a)).length = fel W st a := by rw [← hfel]; exact hFi.length
      have hfle : fel W st a ≤ st.length := List.countP_le_length
      repeat' (walk_at "m")
      (with_reducible refine rMethL1 F.slot_list_append F.type_list_append ?_ ?_ ?_ ?_); rotate_left; rfl; rfl; rfl
      repeat' (walk_at "m")
      rename Fs _ _ _ _ _ _ _ => H
      refine ⟨En, _, rfl, (H.led (En, _) (by walk_at "m.mem")).1, rfl, rfl, ?_⟩
      repeat' (walk_at "m")
      rename Fs _ _ _ _ _ _ _ => H
      refine rLen H (H.listAt (l := Fe) (by walk_at "m.mem")) hfl (by omega) fun t8 s8 H => ?_
      repeat' (walk_at "m")
      rename Fs _ _ _ _ _ _ _ => H
      rename_i tz _ _ _ _ _
      have hne : (ends (W : Int) st)[i]? = some ((fel W st a : Int) * W + a % W) := by unfold ends; simp [ha]
      refine rAppend H (by walk_at "m.turn") (by omega) fun s9 H => ?_
      repeat' (walk_at "m")
      rename Fs _ _ _ _ _ _ _ => H
      refine forNext (H.sub (I' := [(It, o), (En, _)]) (by walk_at "m.sub")) ⟨_, _, _, _, rfl, rfl, ?_⟩
      rw [List.take_add_one, hne]
      exact ints_append hev (IntsAre.cons _ _ .nil)
end

/-! law's body: turned -/
noncomputable def overP (a : Int) (v : Value) : Bool := match v with | .int b _ => decide (a < b) | _ => false
section
variable {w : World} {A : Around} {s₀ s : Shared} {env : Env} {own : List Addr} {g : Heap} {Q : Flow → Shared → Prop}
theorem lawG2 {l M P X LN K Hd En : Addr} {evs : List Value} {es : List Int} {xv ov tx cv col kv fe pl : Option Value} {tot D du : Int} {tt td tw tb tg ts tdu : Tok} {W bd gp sp : Nat} (hA : Ar 4 A) (hS : Sto env own) (hG : Gn env lawGlobs) (LE : LEnv env) (T : TX g)
    (hE : g.IsList En evs.toArray) (hEi : IntsAre evs es) (hel : es.length ≤ 12)
    (H : Fs s₀ env own ([("script", some (.ref l)), ("x", xv), ("numbers", some (.ref M)), ("total", some (.int tot tt)), ("octet", ov), ("text", tx), ("lines", some (.ref LN)), ("columns", some (.ref K)), ("column", col), ("due", some (.int du tdu)), ("fellows", fe), ("turned", none), ("told", none), ("picks", none), ("legs", none), ("core", none), ("drawn", some (.int D td)), ("k", kv), ("start", some (.ref P)), ("width", some (.int (W : Nat) tw)), ("bead", some (.str (Mine.S [bd]) tb)), ("gap", some (.str (Mine.S [gp]) tg)), ("signs", some (.ref X)), ("step", some (.int (sp : Nat) ts)), ("c_v", cv), ("held", some (.ref Hd)), ("ends", some (.ref En)), ("place", pl), ("beads", none)] : Vars) g [] s)
    (h : ∀ s' kv ttu, Fs s₀ env own ([("script", some (.ref l)), ("x", xv), ("numbers", some (.ref M)), ("total", some (.int tot tt)), ("octet", ov), ("text", tx), ("lines", some (.ref LN)), ("columns", some (.ref K)), ("column", col), ("due", some (.int du tdu)), ("fellows", fe), ("turned", some (.int (invs es : Int) ttu)), ("told", none), ("picks", none), ("legs", none), ("core", none), ("drawn", some (.int D td)), ("k", kv), ("start", some (.ref P)), ("width", some (.int (W : Nat) tw)), ("bead", some (.str (Mine.S [bd]) tb)), ("gap", some (.str (Mine.S [gp]) tg)), ("signs", some (.ref X)), ("step", some (.int (sp : Nat) ts)), ("c_v", cv), ("held", some (.ref Hd)), ("ends", some (.ref En)), ("place", pl), ("beads", none)] : Vars) g [] s' →
      wpAny (model pg w) A (execs ((bodyAt 27).drop 19) env) Q (fun _ _ => False) s') :
    wpAny (model pg w) A (execs ((bodyAt 27).drop 17) env) Q (fun _ _ => False) s := by
  have G := T.gd
  have hevl := hEi.length
  conv in (bodyAt 27).drop 17 => whnf
  repeat' (walk_at "m")
  rename Fs _ _ _ _ _ _ _ => H
  refine rForRange (s₀ := s₀) (g := g) (n := es.length) (fun i vars I => ∃ kv tv ttu, vars = ([("script", some (.ref l)), ("x", xv), ("numbers", some (.ref M)), ("total", some (.int tot tt)), ("octet", ov), ("text", tx), ("lines", some (.ref LN)), ("columns", some (.ref K)), ("column", col), ("due", some (.int du tdu)), ("fellows", fe), ("turned", some (.int tv ttu)), ("told", none), ("picks", none), ("legs", none), ("core", none), ("drawn", some (.int D td)), ("k", kv), ("start", some (.ref P)), ("width", some (.int (W : Nat) tw)), ("bead", some (.str (Mine.S [bd]) tb)), ("gap", some (.str (Mine.S [gp]) tg)), ("signs", some (.ref X)), ("step", some (.int (sp : Nat) ts)), ("c_v", cv), ("held", some (.ref Hd)), ("ends", some (.ref En)), ("place", pl), ("beads", none)] : Vars) ∧ I = [] ∧ tv = turns es i) H hA.handled (by omega) ?hit ?turn ?done
  case hit =>
    repeat' (walk_at "m")
    rename Fs _ _ _ _ _ _ _ => H
    refine rLen H (H.isList hE) hevl (by omega) fun t1 s1 H => ?_
    exact rRange H fun r s2 t2 t3 H hr => ⟨r, _, _, _, rfl, hr, _, _, H, _, _, _, rfl, rfl, rfl⟩
  case done =>
    clear H
    rintro vars I s5 ⟨kv, tv, ttu, rfl, rfl, htv⟩ H
    refine seqNext ?_
    have e : tv = (invs es : Int) := by rw [htv, turns_invs es _ (Nat.le_refl _), List.take_length]
    subst e
    exact h s5 kv ttu H
  case turn =>
    clear H
    rintro i t vars I o It s5 hi ⟨kv, tv, ttu, rfl, rfl, htv⟩ H
    obtain ⟨a, ha⟩ : ∃ a, es[i]? = some a := ⟨_, List.getElem?_eq_getElem hi⟩
    obtain ⟨ta, hta⟩ := hEi.get i a ha
    repeat' (walk_at "m")
    refine rCompList (s₀ := s₀) (own := own) (g := g) (x := "one") (fr := ["ends", "k"]) (overP a) (fun v y => y = v) (compOk_of (by decide +kernel)) hA.handled (LE.kinds (by decide +kernel)) (LE.free (x := "one") (fr := ["ends", "k"]) (compOk_of (by decide +kernel)) (by decide +kernel)) ?_
    refine rSlice (by assumption) ?_
    repeat' (walk_at "m")
    rename Fs _ _ _ _ _ _ _ => H
    refine ⟨En, _, _, _, _, _, rfl, H.isList hE, by simp; omega, .none, .int _ _, H, fun D2 s7 H => ?_⟩
    have hpick : slicePick evs.toArray none (some (i : Int)) none = (evs.take i).toArray := slicePick_upto' evs.toArray i
    rw [hpick] at H
    have hE7 := H.isList hE
    refine ⟨D2, _, _, _, [("ends", some (.ref En)), ("k", some (.int (i : Nat) t))], rfl, H.listAt (.head _), by simp; omega, H, rfl, (by simp only [List.forall_mem_cons]; exact ⟨by walk_at "m.mem", by walk_at "m.mem", fun _ h => nomatch h⟩), ?_, ?_⟩
    · refine CompQ.one (fun cenv j v s₃ E' hP' Hc hk => ?_) (fun cenv j v s₃ E' hP' hpv Hc hk => ?_)
      · have hp' : (evs.take i)[j]? = some v := by simpa using hP'
        have hti := ints_take i hEi
        obtain ⟨b, hb⟩ : ∃ b, (es.take i)[j]? = some b := ⟨_, List.getElem?_eq_getElem (by have := (List.getElem?_eq_some_iff.mp hp').1; have := hti.length; omega)⟩
        obtain ⟨tb', htb⟩ := hti.get j b hb
        obtain rfl : v = .int b tb' := by rw [hp'] at htb; simpa using htb
        repeat' (walk_at "m")
        rename Fs _ _ _ _ _ _ _ => H3
        refine rItem (hE7.at fun o e => hk _ _ e) (by omega) (by omega) (by simpa using hta) ?_
        repeat' (walk_at "m")
        exact ⟨rfl, _, _, by assumption⟩
      · repeat' (walk_at "m")
        exact ⟨rfl, _, _, Hc⟩
    · intro C ys k s6 hF H
      obtain rfl := paired_same hF
      have hFi := ints_filter (p := overP a) (p' := fun b => decide (a < b)) (fun _ _ => rfl) (ints_take i hEi)
      have hcl : ((evs.take i).toArray.toList.filter (overP a)).length = (es.take i).countP (fun x => decide (a < x)) := by rw [List.countP_eq_length_filter]; exact hFi.length
      have hcle : (es.take i).countP (fun x => decide (a < x)) ≤ 12 := Nat.le_trans List.countP_le_length (by rw [List.length_take]; omega)
      refine rLen H (H.listAt (.head _)) hcl (by omega) fun t8 s8 H => ?_
      repeat' (walk_at "m")
      rename Fs _ _ _ _ _ _ _ => H
      refine forNext (H.sub (I' := [(It, o)]) (by walk_at "m.sub")) ⟨_, _, _, rfl, rfl, ?_⟩
      rw [htv, turns, ha]
end

/-! law's body: told -/
noncomputable def toldR (A B : List Nat) (b : Nat → Bool) (W n : Nat) : List (List Nat) := (List.range n).map fun k => (List.range W).flatMap fun c => tok A B (decide (k < low b W c n))
theorem told_join (f : Nat → List Nat) (W : Nat) : joinN [] (((List.range W).map fun j : Nat => (j : Int)).map fun a : Int => f a.toNat) = (List.range W).flatMap f := by
  rw [joinN_nil, List.map_map, List.flatMap_def]; rfl
section
variable {w : World} {A : Around} {s₀ s : Shared} {env : Env} {own : List Addr} {g : Heap} {Q : Flow → Shared → Prop}
theorem lawH {l M P X LN K Hd En : Addr} {hvs sgs : List Value} {st : List Int} {xv ov tx cv col kv fe pl : Option Value} {tot D du tu : Int} {tt td tw tb tg ts tdu ttu : Tok} {W n bd gp sp : Nat} {Sa Sb : List Nat} (hA : Ar 4 A) (hS : Sto env own) (hG : Gn env lawGlobs) (LE : LEnv env) (T : TX g)
    (hX : g.IsList X sgs.toArray) (hXv : SV sgs [Sa, Sb]) (hH : g.IsList Hd hvs.toArray) (hHi : IntsAre hvs ((List.range W).map fun c => (low (bits st) W c n : Int))) (hWn : (W = 3 ∧ n = 4) ∨ (W = 4 ∧ n = 3) ∨ (W = 6 ∧ n = 2)) (g0 : Sg bd gp sp Sa Sb)
    (H : Fs s₀ env own ([("script", some (.ref l)), ("x", xv), ("numbers", some (.ref M)), ("total", some (.int tot tt)), ("octet", ov), ("text", tx), ("lines", some (.ref LN)), ("columns", some (.ref K)), ("column", col), ("due", some (.int du tdu)), ("fellows", fe), ("turned", some (.int tu ttu)), ("told", none), ("picks", none), ("legs", none), ("core", none), ("drawn", some (.int D td)), ("k", kv), ("start", some (.ref P)), ("width", some (.int (W : Nat) tw)), ("bead", some (.str (Mine.S [bd]) tb)), ("gap", some (.str (Mine.S [gp]) tg)), ("signs", some (.ref X)), ("step", some (.int (sp : Nat) ts)), ("c_v", cv), ("held", some (.ref Hd)), ("ends", some (.ref En)), ("place", pl), ("beads", none)] : Vars) g [] s)
    (h : ∀ s' g' To tvs kv, (∀ b o, g.get? b = some o → g'.get? b = some o) → g'.IsList To (tvs : List Value).toArray → SV tvs (toldR Sa Sb (bits st) W n) → Fs s₀ env own ([("script", some (.ref l)), ("x", xv), ("numbers", some (.ref M)), ("total", some (.int tot tt)), ("octet", ov), ("text", tx), ("lines", some (.ref LN)), ("columns", some (.ref K)), ("column", col), ("due", some (.int du tdu)), ("fellows", fe), ("turned", some (.int tu ttu)), ("told", some (.ref To)), ("picks", none), ("legs", none), ("core", none), ("drawn", some (.int D td)), ("k", kv), ("start", some (.ref P)), ("width", some (.int (W : Nat) tw)), ("bead", some (.str (Mine.S [bd]) tb)), ("gap", some (.str (Mine.S [gp]) tg)), ("signs", some (.ref X)), ("step", some (.int (sp : Nat) ts)), ("c_v", cv), ("held", some (.ref Hd)), ("ends", some (.ref En)), ("place", pl), ("beads", none)] : Vars) g' [] s' →
      wpAny (model pg w) A (execs ((bodyAt 27).drop 21) env) Q (fun _ _ => False) s') :
    wpAny (model pg w) A (execs ((bodyAt 27).drop 19) env) Q (fun _ _ => False) s := by
  have G := T.gd
  have hW3 : 3 ≤ W ∧ W ≤ 6 ∧ 2 ≤ n ∧ n ≤ 4 := by omega
  have hsp := g0.steps
  have hdiv : (12 : Int) / (W : Int) = n := by rcases hWn with ⟨rfl, rfl⟩ | ⟨rfl, rfl⟩ | ⟨rfl, rfl⟩ <;> rfl
  conv in (bodyAt 27).drop 19 => whnf
  repeat' (walk_at "m")
  rename Fs _ _ _ _ _ _ _ => H
  rename_i To _ _
  refine rForRange (s₀ := s₀) (g := g) (n := n) (fun i vars I => ∃ kv tvs kT, vars = ([("script", some (.ref l)), ("x", xv), ("numbers", some (.ref M)), ("total", some (.int tot tt)), ("octet", ov), ("text", tx), ("lines", some (.ref LN)), ("columns", some (.ref K)), ("column", col), ("due", some (.int du tdu)), ("fellows", fe), ("turned", some (.int tu ttu)), ("told", some (.ref To)), ("picks", none), ("legs", none), ("core", none), ("drawn", some (.int D td)), ("k", kv), ("start", some (.ref P)), ("width", some (.int (W : Nat) tw)), ("bead", some (.str (Mine.S [bd]) tb)), ("gap", some (.str (Mine.S [gp]) tg)), ("signs", some (.ref X)), ("step", some (.int (sp : Nat) ts)), ("c_v", cv), ("held", some (.ref Hd)), ("ends", some (.ref En)), ("place", pl), ("beads", none)] : Vars) ∧ I = [(To, listOf (tvs : List Value).toArray kT)] ∧ SV tvs ((toldR Sa Sb (bits st) W n).take i)) H hA.handled (by omega) ?hit ?turn ?done
  case hit =>
    repeat' (walk_at "m")
    rw [hdiv]
    rename Fs _ _ _ _ _ _ _ => H
    exact rRange H fun r s2 t2 t3 H hr => ⟨r, _, _, _, rfl, hr, _, _, H, _, [], _, rfl, rfl, SV.nil⟩
  case done =>
    clear H
    rintro vars I s5 ⟨kv, tvs, kT, rfl, rfl, htv⟩ H
    refine seqNext ?_
    rw [List.take_of_length_le (by simp [toldR])] at htv
    obtain ⟨g', hgg, H', hst'⟩ := H.rebase (I' := []) (List.nil_sublist _)
    exact h s5 g' To tvs kv hgg (listOf_is (hst' (To, _) (.head _) (by simp))) htv H'
  case turn =>
    clear H
    rintro i t vars I o It s5 hi ⟨kv, tvs, kT, rfl, rfl, htv⟩ H
    have htl := htv.length
    rw [List.length_take] at htl
    obtain ⟨tA, hA0⟩ := hXv.get (i := 0) (x := Sa) rfl
    obtain ⟨tB, hB0⟩ := hXv.get (i := 1) (x := Sb) rfl
    repeat' (walk_at "m")
    (with_reducible refine rMethL1 F.slot_list_append F.type_list_append ?_ ?_ ?_ ?_); rotate_left; rfl; rfl; rfl
    repeat' (walk_at "m")
    rename Fs _ _ _ _ _ _ _ => H
    refine ⟨To, _, rfl, (H.led (To, _) (by walk_at "m.mem")).1, rfl, rfl, ?_⟩
    (with_reducible refine rMethS1 F.slot_str_join F.type_str_join ?_ ?_ ?_ ?_); rotate_left; rfl; rfl; rfl
    repeat' (walk_at "m")
    refine ⟨_, _, rfl, ?_⟩
    refine rCompRange (s₀ := s₀) (own := own) (g := g) (x := "c_v") (fr := ["signs", "held", "k"]) (n := W) (fun _ => true) (fun v y => ∃ a t t', v = Value.int a t ∧ y = Value.str (Mine.S (tok Sa Sb (decide (i < low (bits st) W a.toNat n)))) t') (compOk_of (by decide +kernel)) hA.handled (LE.kinds (by decide +kernel)) (LE.free (x := "c_v") (fr := ["signs", "held", "k"]) (compOk_of (by decide +kernel)) (by decide +kernel)) (by omega) ?_
    repeat' (walk_at "m")
    rename Fs _ _ _ _ _ _ _ => H
    refine rRange H fun r s1 t0 t1 H hr => ?_
    have hg1 := H.keep
    refine ⟨r, _, _, _, _, _, [("signs", some (.ref X)), ("held", some (.ref Hd)), ("k", some (.int (i : Nat) t))], rfl, hr, H, rfl, (by simp only [List.forall_mem_cons]; exact ⟨by walk_at "m.mem", by walk_at "m.mem", by walk_at "m.mem", fun _ h => nomatch h⟩), ?_, ?_⟩
    · refine CompQ.bare fun cenv c v s₃ E' hv Hc hk => ?_
      obtain ⟨hc, tc, rfl⟩ := hv
      have hg3 : ∀ b o, g.get? b = some o → s₃.heap.get? b = some o := fun b o e => hk b o (hg1 b o e)
      obtain ⟨th, hth⟩ := hHi.get c (low (bits st) W c n : Int) (by simp [hc])
      repeat' (walk_at "m")
      rename Fs _ _ _ _ _ _ _ => H3
      refine rItem (hH.at fun o e => hg3 _ _ e) (by omega) (by omega) (by simpa using hth) ?_
      repeat' (walk_at "m")
      refine Br.both (fun hb => ?_) (fun hb => ?_)
      · have hb' : i < low (bits st) W c n := by have := of_decide_eq_true hb; omega
        repeat' (walk_at "m")
        rename Fs _ _ _ _ _ _ _ => H3
        refine rItem (H3.isList (hX.at fun o e => hg3 _ _ e)) (by omega) (by omega) (by simpa using hA0) ?_
        exact ⟨⟨_, _, _, rfl, by rw [Int.toNat_natCast, decide_eq_true hb']; rfl⟩, _, _, H3⟩
      · have hb' : ¬ i < low (bits st) W c n := by have := of_decide_eq_false hb; omega
        repeat' (walk_at "m")
        rename Fs _ _ _ _ _ _ _ => H3
        refine rItem (H3.isList (hX.at fun o e => hg3 _ _ e)) (by omega) (by omega) (by simpa using hB0) ?_
        exact ⟨⟨_, _, _, rfl, by rw [Int.toNat_natCast, decide_eq_false hb']; rfl⟩, _, _, H3⟩
    · intro C vs ys k s6 hvl hvs' hF H
      rw [filter_true] at hF
      have hsv := paired_sv (f := fun a => tok Sa Sb (decide (i < low (bits st) W a.toNat n))) hF (ints_range hvl hvs')
      refine rJoin H (H.listAt (.head _)) hsv (by simp; omega) (by simp) (fun x hx => by obtain ⟨a, _, rfl⟩ := List.mem_map.mp hx; rw [tok_len g0]; omega) fun t8 s8 H => ?_
      rw [told_join (fun c => tok Sa Sb (decide (i < low (bits st) W c n)))]
      refine rAppend H (by walk_at "m.turn") (by omega) fun s9 H => ?_
      repeat' (walk_at "m")
      rename Fs _ _ _ _ _ _ _ => H
      have hne : (toldR Sa Sb (bits st) W n)[i]? = some ((List.range W).flatMap fun c => tok Sa Sb (decide (i < low (bits st) W c n))) := by unfold toldR; simp [hi]
      refine forNext (H.sub (I' := [(It, o), (To, _)]) (by walk_at "m.sub")) ⟨_, _, _, rfl, rfl, ?_⟩
      rw [List.take_add_one, hne]
      exact htv.app (SV.one _)
end

/-! law's body: the two runs -/
theorem sorted_eq {L M : List Int} (hs : Srt L) (hm : M.Pairwise (· ≤ ·)) (hp : M.Perm L) : M = L := by
  have hnd : M.Nodup := hp.nodup_iff.mpr hs.nodup
  have hms : Srt M := by
    have := hm.and hnd
    exact this.imp fun h => by have := h.1; have := h.2; omega
  exact srt_ext hms hs fun x => hp.mem_iff
section
variable {prog : Program} {w : World} {A : Around} {s₀ s : Shared} {env : Env} {own : List Addr} {vars : Vars} {g : Heap} {I : List (Addr × Obj)}
theorem rIterTuple {x : Str} {px : Pos} {body : List Stmt} {Q : Flow → Shared → Prop} {l : Addr} {items : Array Value} (J : Nat → Vars → List (Addr × Obj) → Prop) (hA : A.handled = none) (hl : g.IsTuple l items)
    (H : Fs s₀ env own vars g I s) (hj : J 0 vars I)
    (turn : ∀ i v vars I o It s, items[i]? = some v → J i vars I → Fs s₀ env own vars g ((It, o) :: I) s → wpAny (model prog w) A (storeName env x v) (fun _ s₂ => wpAny (model prog w) A (execs body env) (ForP s₀ env own g (It, o) J i Q) (fun _ _ => False) s₂) (fun _ _ => False) s)
    (done : ∀ vars I s, J items.size vars I → Fs s₀ env own vars g I s → Q .next s) :
    wpAny (model prog w) A (pyIter (.ref l)) (fun it s₂ => codeAny (model prog w) A (.forLoop (.Name x px) it body [] env) (fun r s' => match r with | .ok f => Q f s' | .error _ => False) s₂) (fun _ _ => False) s := by
  have hl₁ : s.heap.IsTuple l items := hl.at fun o e => H.keep l o e
  refine wpAny_pyIter_tuple hl₁ ?_
  have hlt : l < s.heap.objs.size := by obtain ⟨o, e, _⟩ := hl₁; exact Heap.lt_size e
  have H₁ := H.add (h' := s.heap.push { cls := .type "tuple_iterator", data := .fields #[.ref l, .int 0 0] }) s.toks (fun b o e => Heap.get?_push_of_some _ e) (get_size_none _) (Heap.get?_push_size _ rfl)
  refine forGo J (Walks.tuple hA s.heap.objs.size l (Nat.ne_of_lt hlt) items) ⟨⟨_, Heap.get?_push_size _ rfl, rfl, rfl⟩, hl₁.at fun o e => Heap.get?_push_of_some _ e⟩ (fun i h st => ?_) (fun b hb => ?_) H₁ hj (fun i v vars I o s hi hP hj H => turn i v vars I o _ s hP hj H) done
  · obtain ⟨o, e, _⟩ := st.1; exact ⟨o, e⟩
  · rcases List.mem_cons.mp hb with rfl | hb
    · exact .inl rfl
    · rw [List.mem_singleton.mp hb]; obtain ⟨o, e, _⟩ := hl; exact .inr ⟨o, e⟩
end
noncomputable def rowsD (bd gp : Nat) (b : Nat → Bool) (W n : Nat) : List (List Nat) := (List.range n).map fun j => (List.range W).map fun c => if b (j * W + c) then bd else gp
theorem rowsD_flat {W n : Nat} (hWn : (W = 3 ∧ n = 4) ∨ (W = 4 ∧ n = 3) ∨ (W = 6 ∧ n = 2)) (bd gp : Nat) (b : Nat → Bool) : (rowsD bd gp b W n).flatten = tx bd gp b := by
  rcases hWn with ⟨rfl, rfl⟩ | ⟨rfl, rfl⟩ | ⟨rfl, rfl⟩ <;> rfl
theorem rows_dec {bd gp sp W n : Nat} {A B : List Nat} (g : Sg bd gp sp A B) (hWn : (W = 3 ∧ n = 4) ∨ (W = 4 ∧ n = 3) ∨ (W = 6 ∧ n = 2)) (b : Nat → Bool) : DecOk (rowsP A B b W n) (rowsD bd gp b W n) := by
  have hst := g.steps
  refine ⟨by simp [rowsP]; omega, by simp [rowsP, rowsD], fun i q d hq hd => ?_, fun q hq => ?_, rowsP_brk g b W n, fun q hq c hc => ?_, ?_, ?_⟩
  · have hi : i < n := by have := (List.getElem?_eq_some_iff.mp hq).1; simpa [rowsP] using this
    have e1 : q = (List.range W).flatMap fun c => tok A B (b (i * W + c)) := by simpa [rowsP, hi] using hq.symm
    have e2 : d = (List.range W).map fun c => if b (i * W + c) then bd else gp := by simpa [rowsD, hi] using hd.symm
    rw [e1, e2]
    exact Dec.row g (fun c => b (i * W + c)) W
  · obtain ⟨j, _, rfl⟩ := List.mem_map.mp hq
    intro e
    have := range_flat_len (fun k => tok_len g (b (j * W + k))) W
    rw [e] at this
    have h3 : 3 ≤ W := by omega
    have : 0 = W * sp := by simpa using this
    rcases hst with h | h <;> rw [h] at this <;> omega
  · obtain ⟨j, _, rfl⟩ := List.mem_map.mp hq
    rcases tokens_last g (fun c => b (j * W + c)) hc with h | h
    · exact g.sa c h
    · exact g.sb c h
  · have := rowsP_len g b (W := W) (n := n) (by omega) (by omega); omega
  · rw [rowsD_flat hWn, tx_len]; omega
theorem told_rows {W n : Nat} (hWn : (W = 3 ∧ n = 4) ∨ (W = 4 ∧ n = 3) ∨ (W = 6 ∧ n = 2)) {L M ls : List Int} (hs : Srt L) (hb : InBox L) (E : Ended (W : Int) L M ls) (A B : List Nat) : rowsP A B (bits M) W n = toldR A B (bits L) W n := by
  unfold rowsP toldR
  refine List.map_congr_left fun k hk => ?_
  rw [List.flatMap_def, List.flatMap_def]
  congr 1
  refine List.map_congr_left fun c hc => ?_
  rw [told_bits hWn hs hb E (List.mem_range.mp hc) (List.mem_range.mp hk)]
section
variable {w : World} {A : Around} {s₀ s : Shared} {env : Env} {own : List Addr} {g : Heap} {Q : Flow → Shared → Prop}
theorem lawI {l M P X LN K Hd En To : Addr} {mvs pvs evs tvs : List Value} {ms st : List Int} {xv ov tx cv col kv fe pl : Option Value} {tot D : Int} {tt td tw tb tg ts tdu ttu : Tok} {W n bd gp sp : Nat} {Sa Sb : List Nat} (hA : Ar 7 A) (hS : Sto env own) (hG : Gn env lawGlobs) (LE : LEnv env) (T : TX g)
    (hM : g.IsList M mvs.toArray) (hMi : IntsAre mvs ms) (hml : ms.length ≤ 12) (hP : g.IsList P pvs.toArray) (hPi : IntsAre pvs st) (hst : Srt st) (hbx : InBox st) (hsl : st.length ≤ 12)
    (hE : g.IsList En evs.toArray) (hEi : IntsAre evs (ends (W : Int) st)) (hT : g.IsList To tvs.toArray) (hTv : SV tvs (toldR Sa Sb (bits st) W n)) (hWn : (W = 3 ∧ n = 4) ∨ (W = 4 ∧ n = 3) ∨ (W = 6 ∧ n = 2)) (g0 : Sg bd gp sp Sa Sb)
    (H : Fs s₀ env own ([("script", some (.ref l)), ("x", xv), ("numbers", some (.ref M)), ("total", some (.int tot tt)), ("octet", ov), ("text", tx), ("lines", some (.ref LN)), ("columns", some (.ref K)), ("column", col), ("due", some (.int (dueP (bits st) W n) tdu)), ("fellows", fe), ("turned", some (.int (invs (ends (W : Int) st) : Int) ttu)), ("told", some (.ref To)), ("picks", none), ("legs", none), ("core", none), ("drawn", some (.int D td)), ("k", kv), ("start", some (.ref P)), ("width", some (.int (W : Nat) tw)), ("bead", some (.str (Mine.S [bd]) tb)), ("gap", some (.str (Mine.S [gp]) tg)), ("signs", some (.ref X)), ("step", some (.int (sp : Nat) ts)), ("c_v", cv), ("held", some (.ref Hd)), ("ends", some (.ref En)), ("place", pl), ("beads", none)] : Vars) g [] s)
    (h : ∀ s' vars g' I, (∀ b o, g.get? b = some o → g'.get? b = some o) → Fs s₀ env own vars g' I s' → Q (.ret (.bool true)) s') :
    wpAny (model pg w) A (execs ((bodyAt 27).drop 21) env) Q (fun _ _ => False) s := by
  have G := T.gd
  have hW3 : 3 ≤ W ∧ W ≤ 6 ∧ 2 ≤ n ∧ n ≤ 4 := by omega
  have hn12 : n * W = 12 := by rcases hWn with ⟨rfl, rfl⟩ | ⟨rfl, rfl⟩ | ⟨rfl, rfl⟩ <;> rfl
  have hsp := g0.steps
  have hmvl := hMi.length
  conv in (bodyAt 27).drop 21 => whnf
  repeat' (walk_at "m")
  refine rFor ?_
  repeat' (walk_at "m")
  rename Fs _ _ _ _ _ _ _ => H
  refine rAddLists (n := 0) (m := 0) H (H.isList hM) (us := [_, _]) (H.listAt (.head _)) (by simp; omega) fun L1 s1 H => ?_
  repeat' (walk_at "m")
  rename Fs _ _ _ _ _ _ _ => H
  rename_i t1 _ t2 _ Lx _ _ tm _ L2 _ Tt _
  obtain ⟨g', hgg, H', hst'⟩ := H.rebase (I' := []) (List.nil_sublist _)
  clear H; have H := H'; clear H'
  have G' := G.keeps hgg
  have T' := T.keeps hgg
  have hTt : g'.get? Tt = some (tupOf [.ref L1, .ref L2]) := hst' (Tt, _) (.head _) (by simp)
  have hL2 : g'.IsList L2 [Value.int (-1) tm].toArray := listOf_is (hst' (L2, _) (by walk_at "m.mem") (by simp))
  have hL1 : g'.IsList L1 (mvs ++ [Value.int 1 t1, Value.int 2 t2]).toArray := listOf_is (hst' (L1, _) (by walk_at "m.mem") (by simp))
  have hitems : ∀ (i : Nat) (v : Value), (#[Value.ref L1, Value.ref L2])[i]? = some v → ∃ pa pvs ms, v = .ref pa ∧ g'.IsList pa (pvs : List Value).toArray ∧ IntsAre pvs ms ∧ 0 < ms.length ∧ ms.length ≤ 100 := fun i v hv => by
    have hv' : [Value.ref L1, Value.ref L2][i]? = some v := by simpa using hv
    rcases i with _ | _ | i
    · have e : Value.ref L1 = v := by simpa using hv'
      exact ⟨L1, _, _, e.symm, hL1, ints_append hMi (IntsAre.cons _ _ (IntsAre.cons _ _ .nil)), by simp, by simp; omega⟩
    · have e : Value.ref L2 = v := by simpa using hv'
      exact ⟨L2, _, _, e.symm, hL2, IntsAre.cons _ _ .nil, by simp, by simp⟩
    · simp at hv'
  refine rIterTuple (s₀ := s₀) (g := g') (items := #[.ref L1, .ref L2]) (fun i vars I => ∃ pk be le co, vars = ([("script", some (.ref l)), ("x", xv), ("numbers", some (.ref M)), ("total", some (.int tot tt)), ("octet", ov), ("text", tx), ("lines", some (.ref LN)), ("columns", some (.ref K)), ("column", col), ("due", some (.int (dueP (bits st) W n) tdu)), ("fellows", fe), ("turned", some (.int (invs (ends (W : Int) st) : Int) ttu)), ("told", some (.ref To)), ("picks", pk), ("legs", le), ("core", co), ("drawn", some (.int D td)), ("k", kv), ("start", some (.ref P)), ("width", some (.int (W : Nat) tw)), ("bead", some (.str (Mine.S [bd]) tb)), ("gap", some (.str (Mine.S [gp]) tg)), ("signs", some (.ref X)), ("step", some (.int (sp : Nat) ts)), ("c_v", cv), ("held", some (.ref Hd)), ("ends", some (.ref En)), ("place", pl), ("beads", be)] : Vars) ∧ I = []) hA.handled ⟨_, hTt, rfl, 0, rfl⟩ H ⟨_, _, _, _, rfl, rfl⟩ ?turn ?done
  case done =>
    clear H
    rintro vars I s5 ⟨pk, be, le, co, rfl, rfl⟩ H
    repeat' (walk_at "m")
    exact h _ _ g' _ hgg (by assumption)
  case turn =>
    clear H
    rintro i v vars I o It s5 hv ⟨pk, be, le, co, rfl, rfl⟩ H
    obtain ⟨pa, pvs', ms', rfl, hpa, hpi, hp0, hp1⟩ := hitems i v hv
    repeat' (walk_at "m")
    refine rAssign2 hA.handled ?_
    rename Fs _ _ _ _ _ _ _ => H
    refine rCallF T'.fP G' hG H (by walk_at "m.mem") (by walk_at "m.mem") ?_
    repeat' (walk_at "m")
    rename Fs _ _ _ _ _ _ _ => H
    have hP' : g'.IsList P pvs.toArray := hP.at fun o e => hgg _ _ e
    refine ⟨H.keep, callR fun R' hR => push_call (W := (W : Int)) hA.mono (T'.keeps H.keep) (H.isList hP') hPi hst hbx (by omega) (by omega) (due_le hWn hst hbx) (H.isList hpa) hpi hp0 hp1 fun s2 Tp B Lg bvs bs lvs ls k1 k2 kp f1 f2 f3 f4 f5 f6 hbv hlv hEnd hsz => hR _ _ ?_⟩
    obtain ⟨g2, hg2, H2, hst2⟩ := H.settleKp kp
    have hTp := hst2 Tp _ f6 f1
    have hBg := hst2 B _ f4 f2
    have hLg := hst2 Lg _ f5 f3
    clear H; have H := H2; clear H2
    have G2 := G'.keeps hg2
    have T2 := T'.keeps hg2
    refine ⟨Tp, _, _, rfl, H.keep _ _ hTp, fun s3 k3 => ?_⟩
    replace H := H.kp k3
    have hBl : g2.IsList B bvs.toArray := listOf_is hBg
    have hLl : g2.IsList Lg lvs.toArray := listOf_is hLg
    repeat' (walk_at "m")
    have hEl := hEnd.len
    have hdue := due_P hWn hst hbx
    have hdle := due_le hWn hst hbx
    (with_reducible refine rMethS1 F.slot_str_join F.type_str_join ?_ ?_ ?_ ?_); rotate_left; rfl; rfl; rfl
    repeat' (walk_at "m")
    refine ⟨_, _, rfl, ?_⟩
    refine rCompRange (s₀ := s₀) (own := own) (g := g2) (x := "k") (fr := ["bead", "beads", "gap"]) (n := 12) (fun _ => true) (fun v y => ∃ a t t', v = Value.int a t ∧ y = Value.str (Mine.S [if a ∈ bs then bd else gp]) t') (compOk_of (by decide +kernel)) hA.handled (LE.kinds (by decide +kernel)) (LE.free (x := "k") (fr := ["bead", "beads", "gap"]) (compOk_of (by decide +kernel)) (by decide +kernel)) (by omega) ?_
    clear G' G
    repeat' (walk_at "m")
    rename Fs _ _ _ _ _ _ _ => H
    refine rRange H fun r s4 t4 t5 H hr => ?_
    have hB4 := H.isList hBl
    refine ⟨r, _, _, _, _, _, [("bead", some (.str (Mine.S [bd]) tb)), ("beads", some (.ref B)), ("gap", some (.str (Mine.S [gp]) tg))], rfl, hr, H, rfl, (by simp only [List.forall_mem_cons]; exact ⟨by walk_at "m.mem", by walk_at "m.mem", by walk_at "m.mem", fun _ h => nomatch h⟩), ?_, ?_⟩
    · refine CompQ.bare fun cenv i v s₃ E' hv Hc hk => ?_
      obtain ⟨hi, t, rfl⟩ := hv
      repeat' (walk_at "m")
      refine rInL (hB4.at fun o e => hk _ _ e) hbv ?_
      repeat' (walk_at "m")
      refine Br.both (fun hb => ?_) (fun hb => ?_)
      · repeat' (walk_at "m")
        exact ⟨⟨_, _, _, rfl, by rw [if_pos (of_decide_eq_true hb)]⟩, _, _, Hc⟩
      · repeat' (walk_at "m")
        exact ⟨⟨_, _, _, rfl, by rw [if_neg (of_decide_eq_false hb)]⟩, _, _, Hc⟩
    · intro C vs ys k s5 hvl hvs hF H
      rw [filter_true] at hF
      have hsv := paired_sv (f := fun a => [if a ∈ bs then bd else gp]) hF (ints_range hvl hvs)
      refine rJoin H (H.listAt (.head _)) hsv (by simp) (by simp) (fun x hx => by obtain ⟨a, _, rfl⟩ := List.mem_map.mp hx; simp) fun t6 s6 H => ?_
      rw [tx_join]
      repeat' (walk_at "m")
      have hW0 : (0 : Int) < W := by omega
      have hbe : ends (W : Int) bs = bs := ends_of_noMoves hW0 hEnd.srt hEnd.box hEnd.none
      rename Fs _ _ _ _ _ _ _ => H
      refine rSorted H (H.isList (hE.at fun o e => hg2 _ _ (hgg _ _ e))) hEi (by simp [ends]; omega) fun SD svs sns e7 s7 hsi hsp' hsw H => ?_
      have hsb : sns = bs := sorted_eq hEnd.srt hsw (hsp'.trans (by have := hEnd.perm; rw [hbe] at this; exact this.symm))
      subst hsb
      refine rNeInts hA.mono (H.isList hBl) hbv (H.listAt (.head _)) hsi ?_
      repeat' (walk_at "m")
      refine Br.no (by simp) ?_
      repeat' (walk_at "m")
      rename Fs _ _ _ _ _ _ _ => H
      refine rLen H (H.isList hLl) hlv.length (by omega) fun t8 s8 H => ?_
      repeat' (walk_at "m")
      refine Br.no (by rw [show (ls.length : Int) = dueP (bits st) W n by omega]; simp) ?_
      repeat' (walk_at "m")
      rename Fs _ _ _ _ _ _ _ => H
      refine rSum H hA.handled (H.isList hLl) hlv (by omega) hEnd.small fun t9 s9 H => ?_
      have hpar := hEnd.par
      rw [hbe, invs_sorted hEnd.srt] at hpar
      repeat' (walk_at "m")
      refine Br.no (by rw [show (ls.sum - (invs (ends (W : Int) st) : Int)) % 2 = 0 by omega]; rfl) ?_
      repeat' (walk_at "m")
      have hxl := tx_len bd gp (bits sns)
      have hx0 : Mine.tx bd gp (bits sns) ≠ [] := fun e => by rw [e] at hxl; simp at hxl
      have hrows := told_rows hWn hst hbx hEnd Sa Sb
      have hT2 : g2.IsList To tvs.toArray := hT.at fun o e => hg2 _ _ (hgg _ _ e)
      have hrl := rowsP_len g0 (bits sns) (W := W) (n := n) (by omega) (by omega)
      rw [← hrows] at hTv
      have hDk := rows_dec g0 hWn (bits sns)
      have hDf := rowsD_flat hWn bd gp (bits sns)
      rename Fs _ _ _ _ _ _ _ => H
      refine rCallF T2.fE G2 hG H (by walk_at "m.mem") (by walk_at "m.mem") ?_
      repeat' (walk_at "m")
      rename Fs _ _ _ _ _ _ _ => H
      refine ⟨H.keep, callR fun R' hR => enc_call (L := sp * W) (n := n) hA.mono (by rw [Int.natCast_mul]) (T2.keeps H.keep) (tx_lt g0 _) hx0 (by omega) (enc_ok g0 (bits sns) hn12 hW3.1) fun s14 t14 k14 => hR _ _ ?_⟩
      replace H := H.kp k14
      rw [rows_P g0 (bits sns) hn12]
      (with_reducible refine rMethS1 F.slot_str_join F.type_str_join ?_ ?_ ?_ ?_); rotate_left; rfl; rfl; rfl
      repeat' (walk_at "m")
      refine ⟨_, _, rfl, ?_⟩
      repeat' (walk_at "m")
      have hjn : ∀ x ∈ rowsP Sa Sb (bits sns) W n, x.length ≤ 1000 := fun x hx => by have := joinN_mem (sep := [61, 10]) hx; omega
      have hjl : (rowsP Sa Sb (bits sns) W n).length ≤ 1000 := by simp [rowsP]; omega
      rename Fs _ _ _ _ _ _ _ => H
      refine rJoin H (H.isList hT2) hTv hjl (by simp) hjn fun t15 s15 H => ?_
      repeat' (walk_at "m")
      refine Br.no (by simp) ?_
      repeat' (walk_at "m")
      rename Fs _ _ _ _ _ _ _ => H
      refine rCallF T2.fD G2 hG H (by walk_at "m.mem") (by walk_at "m.mem") ?_
      repeat' (walk_at "m")
      (with_reducible refine rMethS1 F.slot_str_join F.type_str_join ?_ ?_ ?_ ?_); rotate_left; rfl; rfl; rfl
      repeat' (walk_at "m")
      refine ⟨_, _, rfl, ?_⟩
      repeat' (walk_at "m")
      rename Fs _ _ _ _ _ _ _ => H
      refine rJoin H (H.isList hT2) hTv hjl (by simp) hjn fun t16 s16 H => ?_
      repeat' (walk_at "m")
      rename Fs _ _ _ _ _ _ _ => H
      refine ⟨H.keep, callR fun R' hR => dec_call hA.mono (T2.keeps H.keep) hDk fun s17 t17 k17 => hR _ _ ?_⟩
      replace H := H.kp k17
      rw [hDf]
      repeat' (walk_at "m")
      refine Br.no (by simp) ?_
      repeat' (walk_at "m")
      rename Fs _ _ _ _ _ _ _ => H
      exact forNext ((Fs.weaken hS H hg2).sub (I' := [(It, o)]) (by walk_at "m.sub")) ⟨_, _, _, _, rfl, rfl⟩
end

/-! law, whole -/
theorem srt_len {st : List Int} (hs : Srt st) (hb : InBox st) : st.length ≤ 12 := by
  rw [srt_filter hs hb, List.length_map]
  exact Nat.le_trans (List.length_filter_le ..) (by simp)
theorem ends_len (W : Int) (L : List Int) : (ends W L).length = L.length := by simp [ends]
section
variable {w : World} {A : Around} {s : Shared} {R : Result → Shared → Prop}
theorem law_call {l : Addr} {svs : List Value} {sns : List Int} (hA : Ar 8 A) (T : TX s.heap) (hf : FnIs s.heap 102 27 .none .none (.ref 101)) (hl : s.heap.IsList l svs.toArray) (hi : IntsAre svs sns) (hz : sns.length ≤ 63)
    (h : ∀ s', Kp s s' → R (.ok (.ret (.bool true))) s') : codeAny (model pg w) A (.call (.ref 102) ⟨[.ref l], []⟩) R s := by
  refine enterLaw hA.mono hf T.gd.lim fun env own s' hS hG LE H => ?_
  have hB : Ar 7 (A.deeper env) := hA.deeper
  refine lawA hB.mono hS hG LE T hl hi hz H fun s1 g1 M mvs ms xv tot tt D td k1 hM hMi hml t0 t1 d0 d1 H => ?_
  have T1 := T.keeps k1
  refine lawB hB.mono hS hG LE T1 t0 t1 d0 d1 H fun s2 g2 P pvs st W n tw k2 hP hPi hst hbx hWn H => ?_
  have T2 := T1.keeps k2
  replace hM := hM.at fun o e => k2 _ _ e
  have hsl := srt_len hst hbx
  refine lawC hB.mono hS hG LE T2 t0 t1 H fun s3 g3 ov bd gp sp Sa Sb tb tg ts X sgs k3 g0 hX hXv H => ?_
  have T3 := T2.keeps k3
  replace hM := hM.at fun o e => k3 _ _ e
  replace hP := hP.at fun o e => k3 _ _ e
  refine lawD (sgs := sgs) hB.mono hS hG LE T3 hP hPi hWn g0 H fun s4 g4 tx LN lvs k4 hL hLv H => ?_
  have T4 := T3.keeps k4
  replace hM := hM.at fun o e => k4 _ _ e
  replace hP := hP.at fun o e => k4 _ _ e
  replace hX := hX.at fun o e => k4 _ _ e
  refine lawE hB.mono hS hG LE T4 hL hLv hWn g0 H fun s5 g5 K items cv k5 hK hil hcol H => ?_
  have T5 := T4.keeps k5
  replace hM := hM.at fun o e => k5 _ _ e
  replace hP := hP.at fun o e => k5 _ _ e
  replace hX := hX.at fun o e => k5 _ _ e
  refine lawF1 hB.mono hS hG LE T5 hX hXv hK hil hcol hWn g0 H fun s6 g6 Hd hvs k6 hH hHi H => ?_
  have T6 := T5.keeps k6
  replace hM := hM.at fun o e => k6 _ _ e
  replace hP := hP.at fun o e => k6 _ _ e
  replace hX := hX.at fun o e => k6 _ _ e
  replace hK := hK.at fun o e => k6 _ _ e
  have hcol6 : ColsAt g6.get? (colP Sa Sb (bits st) W n) items := fun c v hv => let ⟨C, vs, k, a, b, d⟩ := hcol c v hv; ⟨C, vs, k, a, k6 _ _ b, d⟩
  refine lawF2 hB.mono hS hG LE T6 hX hXv hK hil hcol6 hWn g0 H fun s7 col tdu kv H => ?_
  refine lawG1 hB.mono hS hG LE T6 hP hPi hst hbx hsl hWn H fun s8 g8 En evs fe pl k8 hE hEi H => ?_
  have T8 := T6.keeps k8
  replace hM := hM.at fun o e => k8 _ _ e
  replace hP := hP.at fun o e => k8 _ _ e
  replace hX := hX.at fun o e => k8 _ _ e
  replace hH := hH.at fun o e => k8 _ _ e
  refine lawG2 hB.mono hS hG LE T8 hE hEi (by rw [ends_len]; exact hsl) H fun s9 kv' ttu H => ?_
  refine lawH hB.mono hS hG LE T8 hX hXv hH hHi hWn g0 H fun s10 g10 To tvs kv'' k10 hT hTv H => ?_
  have T10 := T8.keeps k10
  replace hM := hM.at fun o e => k10 _ _ e
  replace hP := hP.at fun o e => k10 _ _ e
  replace hE := hE.at fun o e => k10 _ _ e
  refine lawI hB.mono hS hG LE T10 hM hMi hml hP hPi hst hbx hsl hE hEi hT hTv hWn g0 H fun s11 vars g11 I k11 H => ?_
  exact h s11 ⟨H.gens, H.drawn, H.os, fun b o e => H.keep _ _ (k11 _ _ (k10 _ _ (k8 _ _ (k6 _ _ (k5 _ _ (k4 _ _ (k3 _ _ (k2 _ _ (k1 _ _ e)))))))))⟩
end

/-! the head: the states (printed by HG.lean) -/
structure Zs where
  (tup dic cod fn rng rit lst sli sti bit frm : String)
noncomputable def zo : Zs := ⟨"tuple", "dict", "code", "function", "range", "range_iterator", "list", "slice", "StopIteration", "bytes_iterator", "frame"⟩
noncomputable def zf : Zs := ⟨PySem.W.SL.s2766695959194262286x5, PySem.W.SL.s14018661285674007319x4, PySem.W.SL.s5856160107412720595x4, PySem.W.SL.s7174869446012820540x8, PySem.W.SL.s1438033511350832697x5, PySem.W.SL.s15992201931430999065x14, PySem.W.SL.s9222952809800978799x4, PySem.W.SL.s4674234679698826739x5, PySem.W.SL.s5991306692159431302x13, PySem.W.SL.s1378417608194177226x14, PySem.W.SL.s658472552662922059x5⟩
theorem z_eq : zo = zf := by unfold zo zf; rw [PySem.W.SL.e2766695959194262286x5, PySem.W.SL.e14018661285674007319x4, PySem.W.SL.e5856160107412720595x4, PySem.W.SL.e7174869446012820540x8, PySem.W.SL.e1438033511350832697x5, PySem.W.SL.e15992201931430999065x14, PySem.W.SL.e9222952809800978799x4, PySem.W.SL.e4674234679698826739x5, PySem.W.SL.e5991306692159431302x13, PySem.W.SL.e1378417608194177226x14, PySem.W.SL.e658472552662922059x5]
noncomputable def sv (x : Str) (t : Nat) : Value := .str x t
noncomputable def hk (P : Params) (x : Str) (t : Nat) (v : Value) : DictEntry := ⟨PyData.keyHash P x, .str x t, v⟩
noncomputable def stR (p : Program) (i : Nat) : Stmt := match p.main.body[i]? with | some s => s | none => default
noncomputable def fnR (p : Program) (i gl : Nat) (dV kV pm cdv : Value) : FuncData := match stR p i with
  | .FunctionDef n a b _ _ _ sc _ _ _ => { name := n, qualname := n, params := a, body := .stmts b, scope := sc, globals := gl, closure := [], defaults := dV, kwdefaults := kV, pyModule := pm, code := cdv }
  | _ => default
noncomputable def tenv (p : Program) : Env := { scope := p.main.scope, locals := mainNs, globals := mainNs, cells := [], code := .ref 13, frame := some 14 }
noncomputable def tcode (p : Program) : Code := .body (behindTheImports p) (tenv p)
noncomputable def o11v0 (z : Zs) (p : Program) (P : Params) : Obj := ⟨(.type z.tup), none, (.seq ⟨[]⟩ 0), ⟨[]⟩⟩
noncomputable def o12v0 (z : Zs) (p : Program) (P : Params) : Obj := ⟨.none, none, (.fields ⟨[]⟩), ⟨[]⟩⟩
noncomputable def o13v0 (z : Zs) (p : Program) (P : Params) : Obj := ⟨(.type z.cod), none, (.fields ⟨[(sv ⟨⟨[60, 109, 111, 100, 117, 108, 101, 62]⟩⟩ 182), (sv ⟨⟨[60, 109, 111, 100, 117, 108, 101, 62]⟩⟩ 183), (sv (Str.ofString "/claim/cut.py") 184), (.int 1 0), (.int 0 0), (.int 0 0), (.int 0 0), (.int 0 0), (.ref 11), (.bool false), (.int 181 0), (.ref 12), .none, .none, .none, .none, (.int 185 0), (.int 1 0), (sv (Str.ofString "/claim/cut.py") 186)]⟩), ⟨[]⟩⟩
noncomputable def o14v0 (z : Zs) (p : Program) (P : Params) : Obj := ⟨(.type z.frm), none, .plain, ⟨[(some (.ref 13)), (some (.ref 3)), (some (.ref 3)), none, (some (sv ⟨⟨[95, 95, 109, 97, 105, 110, 95, 95]⟩⟩ 164)), none, (some (.ref 0))]⟩⟩
noncomputable def T0 (z : Zs) (p : Program) (P : Params) : BT := (.node (boot_o_0 P) (.node (boot_o_1 P) (.node (boot_o_3 P) (.node (boot_o_7 P) .nil .nil) (.node (o11v0 z p P) .nil .nil)) (.node (boot_o_5 P) (.node (boot_o_9 P) .nil .nil) (.node (o13v0 z p P) .nil .nil))) (.node (boot_o_2 P) (.node (boot_o_4 P) (.node (boot_o_8 P) .nil .nil) (.node (o12v0 z p P) .nil .nil)) (.node (boot_o_6 P) (.node (boot_o_10 P) .nil .nil) (.node (o14v0 z p P) .nil .nil))))
noncomputable def L0 (z : Zs) (p : Program) (P : Params) : List Obj := [(boot_o_0 P), (boot_o_1 P), (boot_o_2 P), (boot_o_3 P), (boot_o_4 P), (boot_o_5 P), (boot_o_6 P), (boot_o_7 P), (boot_o_8 P), (boot_o_9 P), (boot_o_10 P), (o11v0 z p P), (o12v0 z p P), (o13v0 z p P), (o14v0 z p P)]
noncomputable def o3v1 (z : Zs) (p : Program) (P : Params) : Obj := ⟨(.type "dict"), none, (.dict ⟨[hk P ⟨⟨[95, 95, 110, 97, 109, 101, 95, 95]⟩⟩ 165 (sv ⟨⟨[99, 112, 121, 51, 49, 51, 46, 98, 105, 115, 101, 99, 116]⟩⟩ 187), hk P ⟨⟨[95, 95, 100, 111, 99, 95, 95]⟩⟩ 166 .none, hk P ⟨⟨[95, 95, 112, 97, 99, 107, 97, 103, 101, 95, 95]⟩⟩ 167 .none, hk P ⟨⟨[95, 95, 108, 111, 97, 100, 101, 114, 95, 95]⟩⟩ 168 (.builtin "__main__.__loader__#opaque"), hk P ⟨⟨[95, 95, 115, 112, 101, 99, 95, 95]⟩⟩ 169 .none, hk P ⟨⟨[95, 95, 97, 110, 110, 111, 116, 97, 116, 105, 111, 110, 115, 95, 95]⟩⟩ 170 (.ref 6), hk P ⟨⟨[95, 95, 98, 117, 105, 108, 116, 105, 110, 115, 95, 95]⟩⟩ 171 (.ref 4), hk P ⟨⟨[95, 95, 102, 105, 108, 101, 95, 95]⟩⟩ 173 (sv (Str.ofString "/claim/cut.py") 172), hk P ⟨⟨[95, 95, 99, 97, 99, 104, 101, 100, 95, 95]⟩⟩ 174 .none, hk P ⟨⟨[105, 110, 115, 111, 114, 116, 95, 108, 101, 102, 116]⟩⟩ 201 (.ref 23), hk P ⟨⟨[98, 105, 115, 101, 99, 116, 95, 108, 101, 102, 116]⟩⟩ 215 (.ref 32), hk P ⟨⟨[67, 82, 76, 70]⟩⟩ 217 (sv ⟨⟨[13, 10]⟩⟩ 216), hk P ⟨⟨[78, 76]⟩⟩ 219 (sv ⟨⟨[10]⟩⟩ 218)]⟩ 13), ⟨[]⟩⟩
noncomputable def o12v1 (z : Zs) (p : Program) (P : Params) : Obj := ⟨.none, none, (.fields ⟨[(.int 2 0), (.int 0 0), (.ref 22), (.int 8 0), (.int 0 0), (.ref 31)]⟩), ⟨[]⟩⟩
noncomputable def o15v1 (z : Zs) (p : Program) (P : Params) : Obj := ⟨(.type z.tup), none, (.seq ⟨[(.int 0 189), .none]⟩ 0), ⟨[]⟩⟩
noncomputable def o16v1 (z : Zs) (p : Program) (P : Params) : Obj := ⟨(.type z.dic), none, (.dict ⟨[hk P ⟨⟨[107, 101, 121]⟩⟩ 190 .none]⟩ 1), ⟨[]⟩⟩
noncomputable def o17v1 (z : Zs) (p : Program) (P : Params) : Obj := ⟨(.type z.tup), none, (.seq ⟨[]⟩ 0), ⟨[]⟩⟩
noncomputable def o18v1 (z : Zs) (p : Program) (P : Params) : Obj := ⟨.none, none, (.fields ⟨[]⟩), ⟨[]⟩⟩
noncomputable def o19v1 (z : Zs) (p : Program) (P : Params) : Obj := ⟨(.type z.tup), none, (.seq ⟨[(sv ⟨⟨[97]⟩⟩ 194), (sv ⟨⟨[120]⟩⟩ 195), (sv ⟨⟨[108, 111]⟩⟩ 196), (sv ⟨⟨[104, 105]⟩⟩ 197), (sv ⟨⟨[107, 101, 121]⟩⟩ 198)]⟩ 0), ⟨[]⟩⟩
noncomputable def o20v1 (z : Zs) (p : Program) (P : Params) : Obj := ⟨(.type z.tup), none, (.seq ⟨[]⟩ 0), ⟨[]⟩⟩
noncomputable def o21v1 (z : Zs) (p : Program) (P : Params) : Obj := ⟨.none, none, (.func (fnR p 1 0 .none .none .none .none)), ⟨[]⟩⟩
noncomputable def o22v1 (z : Zs) (p : Program) (P : Params) : Obj := ⟨(.type z.cod), none, (.fields ⟨[(sv ⟨⟨[105, 110, 115, 111, 114, 116, 95, 108, 101, 102, 116]⟩⟩ 191), (sv ⟨⟨[105, 110, 115, 111, 114, 116, 95, 108, 101, 102, 116]⟩⟩ 192), (sv (Str.ofString "/claim/cut.py") 193), (.int 2 0), (.int 4 0), (.int 0 0), (.int 1 0), (.int 3 0), (.ref 17), (.bool true), (.int 181 0), (.ref 18), .none, (.ref 19), (.ref 20), (.ref 21), (.int 199 0), (.int 2 0), (sv (Str.ofString "/claim/cut.py") 200)]⟩), ⟨[]⟩⟩
noncomputable def o23v1 (z : Zs) (p : Program) (P : Params) : Obj := ⟨(.type z.fn), none, (.func (fnR p 1 3 (.ref 15) (.ref 16) (sv ⟨⟨[99, 112, 121, 51, 49, 51, 46, 98, 105, 115, 101, 99, 116]⟩⟩ 187) (.ref 22))), ⟨[]⟩⟩
noncomputable def o24v1 (z : Zs) (p : Program) (P : Params) : Obj := ⟨(.type z.tup), none, (.seq ⟨[(.int 0 202), .none]⟩ 0), ⟨[]⟩⟩
noncomputable def o25v1 (z : Zs) (p : Program) (P : Params) : Obj := ⟨(.type z.dic), none, (.dict ⟨[hk P ⟨⟨[107, 101, 121]⟩⟩ 203 .none]⟩ 1), ⟨[]⟩⟩
noncomputable def o26v1 (z : Zs) (p : Program) (P : Params) : Obj := ⟨(.type z.tup), none, (.seq ⟨[]⟩ 0), ⟨[]⟩⟩
noncomputable def o27v1 (z : Zs) (p : Program) (P : Params) : Obj := ⟨.none, none, (.fields ⟨[]⟩), ⟨[]⟩⟩
noncomputable def o28v1 (z : Zs) (p : Program) (P : Params) : Obj := ⟨(.type z.tup), none, (.seq ⟨[(sv ⟨⟨[97]⟩⟩ 207), (sv ⟨⟨[120]⟩⟩ 208), (sv ⟨⟨[108, 111]⟩⟩ 209), (sv ⟨⟨[104, 105]⟩⟩ 210), (sv ⟨⟨[107, 101, 121]⟩⟩ 211), (sv ⟨⟨[109, 105, 100]⟩⟩ 212)]⟩ 0), ⟨[]⟩⟩
noncomputable def o29v1 (z : Zs) (p : Program) (P : Params) : Obj := ⟨(.type z.tup), none, (.seq ⟨[]⟩ 0), ⟨[]⟩⟩
noncomputable def o30v1 (z : Zs) (p : Program) (P : Params) : Obj := ⟨.none, none, (.func (fnR p 2 0 .none .none .none .none)), ⟨[]⟩⟩
noncomputable def o31v1 (z : Zs) (p : Program) (P : Params) : Obj := ⟨(.type z.cod), none, (.fields ⟨[(sv ⟨⟨[98, 105, 115, 101, 99, 116, 95, 108, 101, 102, 116]⟩⟩ 204), (sv ⟨⟨[98, 105, 115, 101, 99, 116, 95, 108, 101, 102, 116]⟩⟩ 205), (sv (Str.ofString "/claim/cut.py") 206), (.int 8 0), (.int 4 0), (.int 0 0), (.int 1 0), (.int 3 0), (.ref 26), (.bool true), (.int 181 0), (.ref 27), .none, (.ref 28), (.ref 29), (.ref 30), (.int 213 0), (.int 8 0), (sv (Str.ofString "/claim/cut.py") 214)]⟩), ⟨[]⟩⟩
noncomputable def o32v1 (z : Zs) (p : Program) (P : Params) : Obj := ⟨(.type z.fn), none, (.func (fnR p 2 3 (.ref 24) (.ref 25) (sv ⟨⟨[99, 112, 121, 51, 49, 51, 46, 98, 105, 115, 101, 99, 116]⟩⟩ 187) (.ref 31))), ⟨[]⟩⟩
noncomputable def T1 (z : Zs) (p : Program) (P : Params) : BT := (.node (boot_o_0 P) (.node (boot_o_1 P) (.node (o3v1 z p P) (.node (boot_o_7 P) (.node (o15v1 z p P) (.node (o31v1 z p P) .nil .nil) .nil) (.node (o23v1 z p P) .nil .nil)) (.node (o11v0 z p P) (.node (o19v1 z p P) .nil .nil) (.node (o27v1 z p P) .nil .nil))) (.node (boot_o_5 P) (.node (boot_o_9 P) (.node (o17v1 z p P) .nil .nil) (.node (o25v1 z p P) .nil .nil)) (.node (o13v0 z p P) (.node (o21v1 z p P) .nil .nil) (.node (o29v1 z p P) .nil .nil)))) (.node (boot_o_2 P) (.node (boot_o_4 P) (.node (boot_o_8 P) (.node (o16v1 z p P) (.node (o32v1 z p P) .nil .nil) .nil) (.node (o24v1 z p P) .nil .nil)) (.node (o12v1 z p P) (.node (o20v1 z p P) .nil .nil) (.node (o28v1 z p P) .nil .nil))) (.node (boot_o_6 P) (.node (boot_o_10 P) (.node (o18v1 z p P) .nil .nil) (.node (o26v1 z p P) .nil .nil)) (.node (o14v0 z p P) (.node (o22v1 z p P) .nil .nil) (.node (o30v1 z p P) .nil .nil)))))
noncomputable def o33v1a (z : Zs) (p : Program) (P : Params) : Obj := ⟨(.type z.rng), none, (.fields ⟨[(.int 0 221), (.int 256 220), (.int 1 222)]⟩), ⟨[]⟩⟩
noncomputable def o34v1a (z : Zs) (p : Program) (P : Params) : Obj := ⟨(.type z.rit), none, (.fields ⟨[(.int 1 0), (.int 255 0), (.int 1 0)]⟩), ⟨[]⟩⟩
noncomputable def o35v1a (z : Zs) (p : Program) (P : Params) : Obj := ⟨(.type z.lst), none, (.seq ⟨[(sv ⟨⟨[61, 48, 48]⟩⟩ 226)]⟩ 1), ⟨[]⟩⟩
noncomputable def o36v1a (z : Zs) (p : Program) (P : Params) : Obj := ⟨(.type z.dic), none, (.dict ⟨[hk P ⟨⟨[99]⟩⟩ 224 (.int 0 223)]⟩ 1), ⟨[]⟩⟩
noncomputable def T1a (z : Zs) (p : Program) (P : Params) : BT := (.node (boot_o_0 P) (.node (boot_o_1 P) (.node (o3v1 z p P) (.node (boot_o_7 P) (.node (o15v1 z p P) (.node (o31v1 z p P) .nil .nil) .nil) (.node (o23v1 z p P) .nil .nil)) (.node (o11v0 z p P) (.node (o19v1 z p P) (.node (o35v1a z p P) .nil .nil) .nil) (.node (o27v1 z p P) .nil .nil))) (.node (boot_o_5 P) (.node (boot_o_9 P) (.node (o17v1 z p P) (.node (o33v1a z p P) .nil .nil) .nil) (.node (o25v1 z p P) .nil .nil)) (.node (o13v0 z p P) (.node (o21v1 z p P) .nil .nil) (.node (o29v1 z p P) .nil .nil)))) (.node (boot_o_2 P) (.node (boot_o_4 P) (.node (boot_o_8 P) (.node (o16v1 z p P) (.node (o32v1 z p P) .nil .nil) .nil) (.node (o24v1 z p P) .nil .nil)) (.node (o12v1 z p P) (.node (o20v1 z p P) (.node (o36v1a z p P) .nil .nil) .nil) (.node (o28v1 z p P) .nil .nil))) (.node (boot_o_6 P) (.node (boot_o_10 P) (.node (o18v1 z p P) (.node (o34v1a z p P) .nil .nil) .nil) (.node (o26v1 z p P) .nil .nil)) (.node (o14v0 z p P) (.node (o22v1 z p P) .nil .nil) (.node (o30v1 z p P) .nil .nil)))))
noncomputable def o34v1b (z : Zs) (p : Program) (P : Params) : Obj := ⟨(.type z.rit), none, (.fields ⟨[(.int 65 0), (.int 191 0), (.int 1 0)]⟩), ⟨[]⟩⟩
noncomputable def o35v1b (z : Zs) (p : Program) (P : Params) : Obj := ⟨(.type z.lst), none, (.seq ⟨[(sv ⟨⟨[61, 48, 48]⟩⟩ 226), (sv ⟨⟨[61, 48, 49]⟩⟩ 230), (sv ⟨⟨[61, 48, 50]⟩⟩ 234), (sv ⟨⟨[61, 48, 51]⟩⟩ 238), (sv ⟨⟨[61, 48, 52]⟩⟩ 242), (sv ⟨⟨[61, 48, 53]⟩⟩ 246), (sv ⟨⟨[61, 48, 54]⟩⟩ 250), (sv ⟨⟨[61, 48, 55]⟩⟩ 254), (sv ⟨⟨[61, 48, 56]⟩⟩ 258), (sv ⟨⟨[61, 48, 57]⟩⟩ 262), (sv ⟨⟨[61, 48, 65]⟩⟩ 266), (sv ⟨⟨[61, 48, 66]⟩⟩ 270), (sv ⟨⟨[61, 48, 67]⟩⟩ 274), (sv ⟨⟨[61, 48, 68]⟩⟩ 278), (sv ⟨⟨[61, 48, 69]⟩⟩ 282), (sv ⟨⟨[61, 48, 70]⟩⟩ 286), (sv ⟨⟨[61, 49, 48]⟩⟩ 290), (sv ⟨⟨[61, 49, 49]⟩⟩ 294), (sv ⟨⟨[61, 49, 50]⟩⟩ 298), (sv ⟨⟨[61, 49, 51]⟩⟩ 302), (sv ⟨⟨[61, 49, 52]⟩⟩ 306), (sv ⟨⟨[61, 49, 53]⟩⟩ 310), (sv ⟨⟨[61, 49, 54]⟩⟩ 314), (sv ⟨⟨[61, 49, 55]⟩⟩ 318), (sv ⟨⟨[61, 49, 56]⟩⟩ 322), (sv ⟨⟨[61, 49, 57]⟩⟩ 326), (sv ⟨⟨[61, 49, 65]⟩⟩ 330), (sv ⟨⟨[61, 49, 66]⟩⟩ 334), (sv ⟨⟨[61, 49, 67]⟩⟩ 338), (sv ⟨⟨[61, 49, 68]⟩⟩ 342), (sv ⟨⟨[61, 49, 69]⟩⟩ 346), (sv ⟨⟨[61, 49, 70]⟩⟩ 350), (sv ⟨⟨[61, 50, 48]⟩⟩ 354), (sv ⟨⟨[61, 50, 49]⟩⟩ 358), (sv ⟨⟨[61, 50, 50]⟩⟩ 362), (sv ⟨⟨[61, 50, 51]⟩⟩ 366), (sv ⟨⟨[61, 50, 52]⟩⟩ 370), (sv ⟨⟨[61, 50, 53]⟩⟩ 374), (sv ⟨⟨[61, 50, 54]⟩⟩ 378), (sv ⟨⟨[61, 50, 55]⟩⟩ 382), (sv ⟨⟨[61, 50, 56]⟩⟩ 386), (sv ⟨⟨[61, 50, 57]⟩⟩ 390), (sv ⟨⟨[61, 50, 65]⟩⟩ 394), (sv ⟨⟨[61, 50, 66]⟩⟩ 398), (sv ⟨⟨[61, 50, 67]⟩⟩ 402), (sv ⟨⟨[61, 50, 68]⟩⟩ 406), (sv ⟨⟨[61, 50, 69]⟩⟩ 410), (sv ⟨⟨[61, 50, 70]⟩⟩ 414), (sv ⟨⟨[61, 51, 48]⟩⟩ 418), (sv ⟨⟨[61, 51, 49]⟩⟩ 422), (sv ⟨⟨[61, 51, 50]⟩⟩ 426), (sv ⟨⟨[61, 51, 51]⟩⟩ 430), (sv ⟨⟨[61, 51, 52]⟩⟩ 434), (sv ⟨⟨[61, 51, 53]⟩⟩ 438), (sv ⟨⟨[61, 51, 54]⟩⟩ 442), (sv ⟨⟨[61, 51, 55]⟩⟩ 446), (sv ⟨⟨[61, 51, 56]⟩⟩ 450), (sv ⟨⟨[61, 51, 57]⟩⟩ 454), (sv ⟨⟨[61, 51, 65]⟩⟩ 458), (sv ⟨⟨[61, 51, 66]⟩⟩ 462), (sv ⟨⟨[61, 51, 67]⟩⟩ 466), (sv ⟨⟨[61, 51, 68]⟩⟩ 470), (sv ⟨⟨[61, 51, 69]⟩⟩ 474), (sv ⟨⟨[61, 51, 70]⟩⟩ 478), (sv ⟨⟨[61, 52, 48]⟩⟩ 482)]⟩ 65), ⟨[]⟩⟩
noncomputable def o36v1b (z : Zs) (p : Program) (P : Params) : Obj := ⟨(.type z.dic), none, (.dict ⟨[hk P ⟨⟨[99]⟩⟩ 224 (.int 64 479)]⟩ 1), ⟨[]⟩⟩
noncomputable def T1b (z : Zs) (p : Program) (P : Params) : BT := (.node (boot_o_0 P) (.node (boot_o_1 P) (.node (o3v1 z p P) (.node (boot_o_7 P) (.node (o15v1 z p P) (.node (o31v1 z p P) .nil .nil) .nil) (.node (o23v1 z p P) .nil .nil)) (.node (o11v0 z p P) (.node (o19v1 z p P) (.node (o35v1b z p P) .nil .nil) .nil) (.node (o27v1 z p P) .nil .nil))) (.node (boot_o_5 P) (.node (boot_o_9 P) (.node (o17v1 z p P) (.node (o33v1a z p P) .nil .nil) .nil) (.node (o25v1 z p P) .nil .nil)) (.node (o13v0 z p P) (.node (o21v1 z p P) .nil .nil) (.node (o29v1 z p P) .nil .nil)))) (.node (boot_o_2 P) (.node (boot_o_4 P) (.node (boot_o_8 P) (.node (o16v1 z p P) (.node (o32v1 z p P) .nil .nil) .nil) (.node (o24v1 z p P) .nil .nil)) (.node (o12v1 z p P) (.node (o20v1 z p P) (.node (o36v1b z p P) .nil .nil) .nil) (.node (o28v1 z p P) .nil .nil))) (.node (boot_o_6 P) (.node (boot_o_10 P) (.node (o18v1 z p P) (.node (o34v1b z p P) .nil .nil) .nil) (.node (o26v1 z p P) .nil .nil)) (.node (o14v0 z p P) (.node (o22v1 z p P) .nil .nil) (.node (o30v1 z p P) .nil .nil)))))
noncomputable def o34v1c (z : Zs) (p : Program) (P : Params) : Obj := ⟨(.type z.rit), none, (.fields ⟨[(.int 129 0), (.int 127 0), (.int 1 0)]⟩), ⟨[]⟩⟩
noncomputable def o35v1c (z : Zs) (p : Program) (P : Params) : Obj := ⟨(.type z.lst), none, (.seq ⟨[(sv ⟨⟨[61, 48, 48]⟩⟩ 226), (sv ⟨⟨[61, 48, 49]⟩⟩ 230), (sv ⟨⟨[61, 48, 50]⟩⟩ 234), (sv ⟨⟨[61, 48, 51]⟩⟩ 238), (sv ⟨⟨[61, 48, 52]⟩⟩ 242), (sv ⟨⟨[61, 48, 53]⟩⟩ 246), (sv ⟨⟨[61, 48, 54]⟩⟩ 250), (sv ⟨⟨[61, 48, 55]⟩⟩ 254), (sv ⟨⟨[61, 48, 56]⟩⟩ 258), (sv ⟨⟨[61, 48, 57]⟩⟩ 262), (sv ⟨⟨[61, 48, 65]⟩⟩ 266), (sv ⟨⟨[61, 48, 66]⟩⟩ 270), (sv ⟨⟨[61, 48, 67]⟩⟩ 274), (sv ⟨⟨[61, 48, 68]⟩⟩ 278), (sv ⟨⟨[61, 48, 69]⟩⟩ 282), (sv ⟨⟨[61, 48, 70]⟩⟩ 286), (sv ⟨⟨[61, 49, 48]⟩⟩ 290), (sv ⟨⟨[61, 49, 49]⟩⟩ 294), (sv ⟨⟨[61, 49, 50]⟩⟩ 298), (sv ⟨⟨[61, 49, 51]⟩⟩ 302), (sv ⟨⟨[61, 49, 52]⟩⟩ 306), (sv ⟨⟨[61, 49, 53]⟩⟩ 310), (sv ⟨⟨[61, 49, 54]⟩⟩ 314), (sv ⟨⟨[61, 49, 55]⟩⟩ 318), (sv ⟨⟨[61, 49, 56]⟩⟩ 322), (sv ⟨⟨[61, 49, 57]⟩⟩ 326), (sv ⟨⟨[61, 49, 65]⟩⟩ 330), (sv ⟨⟨[61, 49, 66]⟩⟩ 334), (sv ⟨⟨[61, 49, 67]⟩⟩ 338), (sv ⟨⟨[61, 49, 68]⟩⟩ 342), (sv ⟨⟨[61, 49, 69]⟩⟩ 346), (sv ⟨⟨[61, 49, 70]⟩⟩ 350), (sv ⟨⟨[61, 50, 48]⟩⟩ 354), (sv ⟨⟨[61, 50, 49]⟩⟩ 358), (sv ⟨⟨[61, 50, 50]⟩⟩ 362), (sv ⟨⟨[61, 50, 51]⟩⟩ 366), (sv ⟨⟨[61, 50, 52]⟩⟩ 370), (sv ⟨⟨[61, 50, 53]⟩⟩ 374), (sv ⟨⟨[61, 50, 54]⟩⟩ 378), (sv ⟨⟨[61, 50, 55]⟩⟩ 382), (sv ⟨⟨[61, 50, 56]⟩⟩ 386), (sv ⟨⟨[61, 50, 57]⟩⟩ 390), (sv ⟨⟨[61, 50, 65]⟩⟩ 394), (sv ⟨⟨[61, 50, 66]⟩⟩ 398), (sv ⟨⟨[61, 50, 67]⟩⟩ 402), (sv ⟨⟨[61, 50, 68]⟩⟩ 406), (sv ⟨⟨[61, 50, 69]⟩⟩ 410), (sv ⟨⟨[61, 50, 70]⟩⟩ 414), (sv ⟨⟨[61, 51, 48]⟩⟩ 418), (sv ⟨⟨[61, 51, 49]⟩⟩ 422), (sv ⟨⟨[61, 51, 50]⟩⟩ 426), (sv ⟨⟨[61, 51, 51]⟩⟩ 430), (sv ⟨⟨[61, 51, 52]⟩⟩ 434), (sv ⟨⟨[61, 51, 53]⟩⟩ 438), (sv ⟨⟨[61, 51, 54]⟩⟩ 442), (sv ⟨⟨[61, 51, 55]⟩⟩ 446), (sv ⟨⟨[61, 51, 56]⟩⟩ 450), (sv ⟨⟨[61, 51, 57]⟩⟩ 454), (sv ⟨⟨[61, 51, 65]⟩⟩ 458), (sv ⟨⟨[61, 51, 66]⟩⟩ 462), (sv ⟨⟨[61, 51, 67]⟩⟩ 466), (sv ⟨⟨[61, 51, 68]⟩⟩ 470), (sv ⟨⟨[61, 51, 69]⟩⟩ 474), (sv ⟨⟨[61, 51, 70]⟩⟩ 478), (sv ⟨⟨[61, 52, 48]⟩⟩ 482), (sv ⟨⟨[61, 52, 49]⟩⟩ 486), (sv ⟨⟨[61, 52, 50]⟩⟩ 490), (sv ⟨⟨[61, 52, 51]⟩⟩ 494), (sv ⟨⟨[61, 52, 52]⟩⟩ 498), (sv ⟨⟨[61, 52, 53]⟩⟩ 502), (sv ⟨⟨[61, 52, 54]⟩⟩ 506), (sv ⟨⟨[61, 52, 55]⟩⟩ 510), (sv ⟨⟨[61, 52, 56]⟩⟩ 514), (sv ⟨⟨[61, 52, 57]⟩⟩ 518), (sv ⟨⟨[61, 52, 65]⟩⟩ 522), (sv ⟨⟨[61, 52, 66]⟩⟩ 526), (sv ⟨⟨[61, 52, 67]⟩⟩ 530), (sv ⟨⟨[61, 52, 68]⟩⟩ 534), (sv ⟨⟨[61, 52, 69]⟩⟩ 538), (sv ⟨⟨[61, 52, 70]⟩⟩ 542), (sv ⟨⟨[61, 53, 48]⟩⟩ 546), (sv ⟨⟨[61, 53, 49]⟩⟩ 550), (sv ⟨⟨[61, 53, 50]⟩⟩ 554), (sv ⟨⟨[61, 53, 51]⟩⟩ 558), (sv ⟨⟨[61, 53, 52]⟩⟩ 562), (sv ⟨⟨[61, 53, 53]⟩⟩ 566), (sv ⟨⟨[61, 53, 54]⟩⟩ 570), (sv ⟨⟨[61, 53, 55]⟩⟩ 574), (sv ⟨⟨[61, 53, 56]⟩⟩ 578), (sv ⟨⟨[61, 53, 57]⟩⟩ 582), (sv ⟨⟨[61, 53, 65]⟩⟩ 586), (sv ⟨⟨[61, 53, 66]⟩⟩ 590), (sv ⟨⟨[61, 53, 67]⟩⟩ 594), (sv ⟨⟨[61, 53, 68]⟩⟩ 598), (sv ⟨⟨[61, 53, 69]⟩⟩ 602), (sv ⟨⟨[61, 53, 70]⟩⟩ 606), (sv ⟨⟨[61, 54, 48]⟩⟩ 610), (sv ⟨⟨[61, 54, 49]⟩⟩ 614), (sv ⟨⟨[61, 54, 50]⟩⟩ 618), (sv ⟨⟨[61, 54, 51]⟩⟩ 622), (sv ⟨⟨[61, 54, 52]⟩⟩ 626), (sv ⟨⟨[61, 54, 53]⟩⟩ 630), (sv ⟨⟨[61, 54, 54]⟩⟩ 634), (sv ⟨⟨[61, 54, 55]⟩⟩ 638), (sv ⟨⟨[61, 54, 56]⟩⟩ 642), (sv ⟨⟨[61, 54, 57]⟩⟩ 646), (sv ⟨⟨[61, 54, 65]⟩⟩ 650), (sv ⟨⟨[61, 54, 66]⟩⟩ 654), (sv ⟨⟨[61, 54, 67]⟩⟩ 658), (sv ⟨⟨[61, 54, 68]⟩⟩ 662), (sv ⟨⟨[61, 54, 69]⟩⟩ 666), (sv ⟨⟨[61, 54, 70]⟩⟩ 670), (sv ⟨⟨[61, 55, 48]⟩⟩ 674), (sv ⟨⟨[61, 55, 49]⟩⟩ 678), (sv ⟨⟨[61, 55, 50]⟩⟩ 682), (sv ⟨⟨[61, 55, 51]⟩⟩ 686), (sv ⟨⟨[61, 55, 52]⟩⟩ 690), (sv ⟨⟨[61, 55, 53]⟩⟩ 694), (sv ⟨⟨[61, 55, 54]⟩⟩ 698), (sv ⟨⟨[61, 55, 55]⟩⟩ 702), (sv ⟨⟨[61, 55, 56]⟩⟩ 706), (sv ⟨⟨[61, 55, 57]⟩⟩ 710), (sv ⟨⟨[61, 55, 65]⟩⟩ 714), (sv ⟨⟨[61, 55, 66]⟩⟩ 718), (sv ⟨⟨[61, 55, 67]⟩⟩ 722), (sv ⟨⟨[61, 55, 68]⟩⟩ 726), (sv ⟨⟨[61, 55, 69]⟩⟩ 730), (sv ⟨⟨[61, 55, 70]⟩⟩ 734), (sv ⟨⟨[61, 56, 48]⟩⟩ 738)]⟩ 129), ⟨[]⟩⟩
noncomputable def o36v1c (z : Zs) (p : Program) (P : Params) : Obj := ⟨(.type z.dic), none, (.dict ⟨[hk P ⟨⟨[99]⟩⟩ 224 (.int 128 735)]⟩ 1), ⟨[]⟩⟩
noncomputable def T1c (z : Zs) (p : Program) (P : Params) : BT := (.node (boot_o_0 P) (.node (boot_o_1 P) (.node (o3v1 z p P) (.node (boot_o_7 P) (.node (o15v1 z p P) (.node (o31v1 z p P) .nil .nil) .nil) (.node (o23v1 z p P) .nil .nil)) (.node (o11v0 z p P) (.node (o19v1 z p P) (.node (o35v1c z p P) .nil .nil) .nil) (.node (o27v1 z p P) .nil .nil))) (.node (boot_o_5 P) (.node (boot_o_9 P) (.node (o17v1 z p P) (.node (o33v1a z p P) .nil .nil) .nil) (.node (o25v1 z p P) .nil .nil)) (.node (o13v0 z p P) (.node (o21v1 z p P) .nil .nil) (.node (o29v1 z p P) .nil .nil)))) (.node (boot_o_2 P) (.node (boot_o_4 P) (.node (boot_o_8 P) (.node (o16v1 z p P) (.node (o32v1 z p P) .nil .nil) .nil) (.node (o24v1 z p P) .nil .nil)) (.node (o12v1 z p P) (.node (o20v1 z p P) (.node (o36v1c z p P) .nil .nil) .nil) (.node (o28v1 z p P) .nil .nil))) (.node (boot_o_6 P) (.node (boot_o_10 P) (.node (o18v1 z p P) (.node (o34v1c z p P) .nil .nil) .nil) (.node (o26v1 z p P) .nil .nil)) (.node (o14v0 z p P) (.node (o22v1 z p P) .nil .nil) (.node (o30v1 z p P) .nil .nil)))))
noncomputable def o34v1d (z : Zs) (p : Program) (P : Params) : Obj := ⟨(.type z.rit), none, (.fields ⟨[(.int 193 0), (.int 63 0), (.int 1 0)]⟩), ⟨[]⟩⟩
noncomputable def o35v1d (z : Zs) (p : Program) (P : Params) : Obj := ⟨(.type z.lst), none, (.seq ⟨[(sv ⟨⟨[61, 48, 48]⟩⟩ 226), (sv ⟨⟨[61, 48, 49]⟩⟩ 230), (sv ⟨⟨[61, 48, 50]⟩⟩ 234), (sv ⟨⟨[61, 48, 51]⟩⟩ 238), (sv ⟨⟨[61, 48, 52]⟩⟩ 242), (sv ⟨⟨[61, 48, 53]⟩⟩ 246), (sv ⟨⟨[61, 48, 54]⟩⟩ 250), (sv ⟨⟨[61, 48, 55]⟩⟩ 254), (sv ⟨⟨[61, 48, 56]⟩⟩ 258), (sv ⟨⟨[61, 48, 57]⟩⟩ 262), (sv ⟨⟨[61, 48, 65]⟩⟩ 266), (sv ⟨⟨[61, 48, 66]⟩⟩ 270), (sv ⟨⟨[61, 48, 67]⟩⟩ 274), (sv ⟨⟨[61, 48, 68]⟩⟩ 278), (sv ⟨⟨[61, 48, 69]⟩⟩ 282), (sv ⟨⟨[61, 48, 70]⟩⟩ 286), (sv ⟨⟨[61, 49, 48]⟩⟩ 290), (sv ⟨⟨[61, 49, 49]⟩⟩ 294), (sv ⟨⟨[61, 49, 50]⟩⟩ 298), (sv ⟨⟨[61, 49, 51]⟩⟩ 302), (sv ⟨⟨[61, 49, 52]⟩⟩ 306), (sv ⟨⟨[61, 49, 53]⟩⟩ 310), (sv ⟨⟨[61, 49, 54]⟩⟩ 314), (sv ⟨⟨[61, 49, 55]⟩⟩ 318), (sv ⟨⟨[61, 49, 56]⟩⟩ 322), (sv ⟨⟨[61, 49, 57]⟩⟩ 326), (sv ⟨⟨[61, 49, 65]⟩⟩ 330), (sv ⟨⟨[61, 49, 66]⟩⟩ 334), (sv ⟨⟨[61, 49, 67]⟩⟩ 338), (sv ⟨⟨[61, 49, 68]⟩⟩ 342), (sv ⟨⟨[61, 49, 69]⟩⟩ 346), (sv ⟨⟨[61, 49, 70]⟩⟩ 350), (sv ⟨⟨[61, 50, 48]⟩⟩ 354), (sv ⟨⟨[61, 50, 49]⟩⟩ 358), (sv ⟨⟨[61, 50, 50]⟩⟩ 362), (sv ⟨⟨[61, 50, 51]⟩⟩ 366), (sv ⟨⟨[61, 50, 52]⟩⟩ 370), (sv ⟨⟨[61, 50, 53]⟩⟩ 374), (sv ⟨⟨[61, 50, 54]⟩⟩ 378), (sv ⟨⟨[61, 50, 55]⟩⟩ 382), (sv ⟨⟨[61, 50, 56]⟩⟩ 386), (sv ⟨⟨[61, 50, 57]⟩⟩ 390), (sv ⟨⟨[61, 50, 65]⟩⟩ 394), (sv ⟨⟨[61, 50, 66]⟩⟩ 398), (sv ⟨⟨[61, 50, 67]⟩⟩ 402), (sv ⟨⟨[61, 50, 68]⟩⟩ 406), (sv ⟨⟨[61, 50, 69]⟩⟩ 410), (sv ⟨⟨[61, 50, 70]⟩⟩ 414), (sv ⟨⟨[61, 51, 48]⟩⟩ 418), (sv ⟨⟨[61, 51, 49]⟩⟩ 422), (sv ⟨⟨[61, 51, 50]⟩⟩ 426), (sv ⟨⟨[61, 51, 51]⟩⟩ 430), (sv ⟨⟨[61, 51, 52]⟩⟩ 434), (sv ⟨⟨[61, 51, 53]⟩⟩ 438), (sv ⟨⟨[61, 51, 54]⟩⟩ 442), (sv ⟨⟨[61, 51, 55]⟩⟩ 446), (sv ⟨⟨[61, 51, 56]⟩⟩ 450), (sv ⟨⟨[61, 51, 57]⟩⟩ 454), (sv ⟨⟨[61, 51, 65]⟩⟩ 458), (sv ⟨⟨[61, 51, 66]⟩⟩ 462), (sv ⟨⟨[61, 51, 67]⟩⟩ 466), (sv ⟨⟨[61, 51, 68]⟩⟩ 470), (sv ⟨⟨[61, 51, 69]⟩⟩ 474), (sv ⟨⟨[61, 51, 70]⟩⟩ 478), (sv ⟨⟨[61, 52, 48]⟩⟩ 482), (sv ⟨⟨[61, 52, 49]⟩⟩ 486), (sv ⟨⟨[61, 52, 50]⟩⟩ 490), (sv ⟨⟨[61, 52, 51]⟩⟩ 494), (sv ⟨⟨[61, 52, 52]⟩⟩ 498), (sv ⟨⟨[61, 52, 53]⟩⟩ 502), (sv ⟨⟨[61, 52, 54]⟩⟩ 506), (sv ⟨⟨[61, 52, 55]⟩⟩ 510), (sv ⟨⟨[61, 52, 56]⟩⟩ 514), (sv ⟨⟨[61, 52, 57]⟩⟩ 518), (sv ⟨⟨[61, 52, 65]⟩⟩ 522), (sv ⟨⟨[61, 52, 66]⟩⟩ 526), (sv ⟨⟨[61, 52, 67]⟩⟩ 530), (sv ⟨⟨[61, 52, 68]⟩⟩ 534), (sv ⟨⟨[61, 52, 69]⟩⟩ 538), (sv ⟨⟨[61, 52, 70]⟩⟩ 542), (sv ⟨⟨[61, 53, 48]⟩⟩ 546), (sv ⟨⟨[61, 53, 49]⟩⟩ 550), (sv ⟨⟨[61, 53, 50]⟩⟩ 554), (sv ⟨⟨[61, 53, 51]⟩⟩ 558), (sv ⟨⟨[61, 53, 52]⟩⟩ 562), (sv ⟨⟨[61, 53, 53]⟩⟩ 566), (sv ⟨⟨[61, 53, 54]⟩⟩ 570), (sv ⟨⟨[61, 53, 55]⟩⟩ 574), (sv ⟨⟨[61, 53, 56]⟩⟩ 578), (sv ⟨⟨[61, 53, 57]⟩⟩ 582), (sv ⟨⟨[61, 53, 65]⟩⟩ 586), (sv ⟨⟨[61, 53, 66]⟩⟩ 590), (sv ⟨⟨[61, 53, 67]⟩⟩ 594), (sv ⟨⟨[61, 53, 68]⟩⟩ 598), (sv ⟨⟨[61, 53, 69]⟩⟩ 602), (sv ⟨⟨[61, 53, 70]⟩⟩ 606), (sv ⟨⟨[61, 54, 48]⟩⟩ 610), (sv ⟨⟨[61, 54, 49]⟩⟩ 614), (sv ⟨⟨[61, 54, 50]⟩⟩ 618), (sv ⟨⟨[61, 54, 51]⟩⟩ 622), (sv ⟨⟨[61, 54, 52]⟩⟩ 626), (sv ⟨⟨[61, 54, 53]⟩⟩ 630), (sv ⟨⟨[61, 54, 54]⟩⟩ 634), (sv ⟨⟨[61, 54, 55]⟩⟩ 638), (sv ⟨⟨[61, 54, 56]⟩⟩ 642), (sv ⟨⟨[61, 54, 57]⟩⟩ 646), (sv ⟨⟨[61, 54, 65]⟩⟩ 650), (sv ⟨⟨[61, 54, 66]⟩⟩ 654), (sv ⟨⟨[61, 54, 67]⟩⟩ 658), (sv ⟨⟨[61, 54, 68]⟩⟩ 662), (sv ⟨⟨[61, 54, 69]⟩⟩ 666), (sv ⟨⟨[61, 54, 70]⟩⟩ 670), (sv ⟨⟨[61, 55, 48]⟩⟩ 674), (sv ⟨⟨[61, 55, 49]⟩⟩ 678), (sv ⟨⟨[61, 55, 50]⟩⟩ 682), (sv ⟨⟨[61, 55, 51]⟩⟩ 686), (sv ⟨⟨[61, 55, 52]⟩⟩ 690), (sv ⟨⟨[61, 55, 53]⟩⟩ 694), (sv ⟨⟨[61, 55, 54]⟩⟩ 698), (sv ⟨⟨[61, 55, 55]⟩⟩ 702), (sv ⟨⟨[61, 55, 56]⟩⟩ 706), (sv ⟨⟨[61, 55, 57]⟩⟩ 710), (sv ⟨⟨[61, 55, 65]⟩⟩ 714), (sv ⟨⟨[61, 55, 66]⟩⟩ 718), (sv ⟨⟨[61, 55, 67]⟩⟩ 722), (sv ⟨⟨[61, 55, 68]⟩⟩ 726), (sv ⟨⟨[61, 55, 69]⟩⟩ 730), (sv ⟨⟨[61, 55, 70]⟩⟩ 734), (sv ⟨⟨[61, 56, 48]⟩⟩ 738), (sv ⟨⟨[61, 56, 49]⟩⟩ 742), (sv ⟨⟨[61, 56, 50]⟩⟩ 746), (sv ⟨⟨[61, 56, 51]⟩⟩ 750), (sv ⟨⟨[61, 56, 52]⟩⟩ 754), (sv ⟨⟨[61, 56, 53]⟩⟩ 758), (sv ⟨⟨[61, 56, 54]⟩⟩ 762), (sv ⟨⟨[61, 56, 55]⟩⟩ 766), (sv ⟨⟨[61, 56, 56]⟩⟩ 770), (sv ⟨⟨[61, 56, 57]⟩⟩ 774), (sv ⟨⟨[61, 56, 65]⟩⟩ 778), (sv ⟨⟨[61, 56, 66]⟩⟩ 782), (sv ⟨⟨[61, 56, 67]⟩⟩ 786), (sv ⟨⟨[61, 56, 68]⟩⟩ 790), (sv ⟨⟨[61, 56, 69]⟩⟩ 794), (sv ⟨⟨[61, 56, 70]⟩⟩ 798), (sv ⟨⟨[61, 57, 48]⟩⟩ 802), (sv ⟨⟨[61, 57, 49]⟩⟩ 806), (sv ⟨⟨[61, 57, 50]⟩⟩ 810), (sv ⟨⟨[61, 57, 51]⟩⟩ 814), (sv ⟨⟨[61, 57, 52]⟩⟩ 818), (sv ⟨⟨[61, 57, 53]⟩⟩ 822), (sv ⟨⟨[61, 57, 54]⟩⟩ 826), (sv ⟨⟨[61, 57, 55]⟩⟩ 830), (sv ⟨⟨[61, 57, 56]⟩⟩ 834), (sv ⟨⟨[61, 57, 57]⟩⟩ 838), (sv ⟨⟨[61, 57, 65]⟩⟩ 842), (sv ⟨⟨[61, 57, 66]⟩⟩ 846), (sv ⟨⟨[61, 57, 67]⟩⟩ 850), (sv ⟨⟨[61, 57, 68]⟩⟩ 854), (sv ⟨⟨[61, 57, 69]⟩⟩ 858), (sv ⟨⟨[61, 57, 70]⟩⟩ 862), (sv ⟨⟨[61, 65, 48]⟩⟩ 866), (sv ⟨⟨[61, 65, 49]⟩⟩ 870), (sv ⟨⟨[61, 65, 50]⟩⟩ 874), (sv ⟨⟨[61, 65, 51]⟩⟩ 878), (sv ⟨⟨[61, 65, 52]⟩⟩ 882), (sv ⟨⟨[61, 65, 53]⟩⟩ 886), (sv ⟨⟨[61, 65, 54]⟩⟩ 890), (sv ⟨⟨[61, 65, 55]⟩⟩ 894), (sv ⟨⟨[61, 65, 56]⟩⟩ 898), (sv ⟨⟨[61, 65, 57]⟩⟩ 902), (sv ⟨⟨[61, 65, 65]⟩⟩ 906), (sv ⟨⟨[61, 65, 66]⟩⟩ 910), (sv ⟨⟨[61, 65, 67]⟩⟩ 914), (sv ⟨⟨[61, 65, 68]⟩⟩ 918), (sv ⟨⟨[61, 65, 69]⟩⟩ 922), (sv ⟨⟨[61, 65, 70]⟩⟩ 926), (sv ⟨⟨[61, 66, 48]⟩⟩ 930), (sv ⟨⟨[61, 66, 49]⟩⟩ 934), (sv ⟨⟨[61, 66, 50]⟩⟩ 938), (sv ⟨⟨[61, 66, 51]⟩⟩ 942), (sv ⟨⟨[61, 66, 52]⟩⟩ 946), (sv ⟨⟨[61, 66, 53]⟩⟩ 950), (sv ⟨⟨[61, 66, 54]⟩⟩ 954), (sv ⟨⟨[61, 66, 55]⟩⟩ 958), (sv ⟨⟨[61, 66, 56]⟩⟩ 962), (sv ⟨⟨[61, 66, 57]⟩⟩ 966), (sv ⟨⟨[61, 66, 65]⟩⟩ 970), (sv ⟨⟨[61, 66, 66]⟩⟩ 974), (sv ⟨⟨[61, 66, 67]⟩⟩ 978), (sv ⟨⟨[61, 66, 68]⟩⟩ 982), (sv ⟨⟨[61, 66, 69]⟩⟩ 986), (sv ⟨⟨[61, 66, 70]⟩⟩ 990), (sv ⟨⟨[61, 67, 48]⟩⟩ 994)]⟩ 193), ⟨[]⟩⟩
noncomputable def o36v1d (z : Zs) (p : Program) (P : Params) : Obj := ⟨(.type z.dic), none, (.dict ⟨[hk P ⟨⟨[99]⟩⟩ 224 (.int 192 991)]⟩ 1), ⟨[]⟩⟩
noncomputable def T1d (z : Zs) (p : Program) (P : Params) : BT := (.node (boot_o_0 P) (.node (boot_o_1 P) (.node (o3v1 z p P) (.node (boot_o_7 P) (.node (o15v1 z p P) (.node (o31v1 z p P) .nil .nil) .nil) (.node (o23v1 z p P) .nil .nil)) (.node (o11v0 z p P) (.node (o19v1 z p P) (.node (o35v1d z p P) .nil .nil) .nil) (.node (o27v1 z p P) .nil .nil))) (.node (boot_o_5 P) (.node (boot_o_9 P) (.node (o17v1 z p P) (.node (o33v1a z p P) .nil .nil) .nil) (.node (o25v1 z p P) .nil .nil)) (.node (o13v0 z p P) (.node (o21v1 z p P) .nil .nil) (.node (o29v1 z p P) .nil .nil)))) (.node (boot_o_2 P) (.node (boot_o_4 P) (.node (boot_o_8 P) (.node (o16v1 z p P) (.node (o32v1 z p P) .nil .nil) .nil) (.node (o24v1 z p P) .nil .nil)) (.node (o12v1 z p P) (.node (o20v1 z p P) (.node (o36v1d z p P) .nil .nil) .nil) (.node (o28v1 z p P) .nil .nil))) (.node (boot_o_6 P) (.node (boot_o_10 P) (.node (o18v1 z p P) (.node (o34v1d z p P) .nil .nil) .nil) (.node (o26v1 z p P) .nil .nil)) (.node (o14v0 z p P) (.node (o22v1 z p P) .nil .nil) (.node (o30v1 z p P) .nil .nil)))))
noncomputable def o3v2 (z : Zs) (p : Program) (P : Params) : Obj := ⟨(.type "dict"), none, (.dict ⟨[hk P ⟨⟨[95, 95, 110, 97, 109, 101, 95, 95]⟩⟩ 165 (sv ⟨⟨[99, 112, 121, 51, 49, 51, 46, 98, 105, 115, 101, 99, 116]⟩⟩ 187), hk P ⟨⟨[95, 95, 100, 111, 99, 95, 95]⟩⟩ 166 .none, hk P ⟨⟨[95, 95, 112, 97, 99, 107, 97, 103, 101, 95, 95]⟩⟩ 167 .none, hk P ⟨⟨[95, 95, 108, 111, 97, 100, 101, 114, 95, 95]⟩⟩ 168 (.builtin "__main__.__loader__#opaque"), hk P ⟨⟨[95, 95, 115, 112, 101, 99, 95, 95]⟩⟩ 169 .none, hk P ⟨⟨[95, 95, 97, 110, 110, 111, 116, 97, 116, 105, 111, 110, 115, 95, 95]⟩⟩ 170 (.ref 6), hk P ⟨⟨[95, 95, 98, 117, 105, 108, 116, 105, 110, 115, 95, 95]⟩⟩ 171 (.ref 4), hk P ⟨⟨[95, 95, 102, 105, 108, 101, 95, 95]⟩⟩ 173 (sv (Str.ofString "/claim/cut.py") 172), hk P ⟨⟨[95, 95, 99, 97, 99, 104, 101, 100, 95, 95]⟩⟩ 174 .none, hk P ⟨⟨[105, 110, 115, 111, 114, 116, 95, 108, 101, 102, 116]⟩⟩ 201 (.ref 23), hk P ⟨⟨[98, 105, 115, 101, 99, 116, 95, 108, 101, 102, 116]⟩⟩ 215 (.ref 32), hk P ⟨⟨[67, 82, 76, 70]⟩⟩ 217 (sv ⟨⟨[13, 10]⟩⟩ 216), hk P ⟨⟨[78, 76]⟩⟩ 219 (sv ⟨⟨[10]⟩⟩ 218), hk P ⟨⟨[95, 81, 85, 79, 80, 82, 73, 95, 77, 65, 80]⟩⟩ 1247 (.ref 35)]⟩ 14), ⟨[]⟩⟩
noncomputable def o34v2 (z : Zs) (p : Program) (P : Params) : Obj := ⟨(.type z.rit), none, (.fields ⟨[(.int 256 0), (.int 0 0), (.int 1 0)]⟩), ⟨[]⟩⟩
noncomputable def o35v2 (z : Zs) (p : Program) (P : Params) : Obj := ⟨(.type z.lst), none, (.seq ⟨[(sv ⟨⟨[61, 48, 48]⟩⟩ 226), (sv ⟨⟨[61, 48, 49]⟩⟩ 230), (sv ⟨⟨[61, 48, 50]⟩⟩ 234), (sv ⟨⟨[61, 48, 51]⟩⟩ 238), (sv ⟨⟨[61, 48, 52]⟩⟩ 242), (sv ⟨⟨[61, 48, 53]⟩⟩ 246), (sv ⟨⟨[61, 48, 54]⟩⟩ 250), (sv ⟨⟨[61, 48, 55]⟩⟩ 254), (sv ⟨⟨[61, 48, 56]⟩⟩ 258), (sv ⟨⟨[61, 48, 57]⟩⟩ 262), (sv ⟨⟨[61, 48, 65]⟩⟩ 266), (sv ⟨⟨[61, 48, 66]⟩⟩ 270), (sv ⟨⟨[61, 48, 67]⟩⟩ 274), (sv ⟨⟨[61, 48, 68]⟩⟩ 278), (sv ⟨⟨[61, 48, 69]⟩⟩ 282), (sv ⟨⟨[61, 48, 70]⟩⟩ 286), (sv ⟨⟨[61, 49, 48]⟩⟩ 290), (sv ⟨⟨[61, 49, 49]⟩⟩ 294), (sv ⟨⟨[61, 49, 50]⟩⟩ 298), (sv ⟨⟨[61, 49, 51]⟩⟩ 302), (sv ⟨⟨[61, 49, 52]⟩⟩ 306), (sv ⟨⟨[61, 49, 53]⟩⟩ 310), (sv ⟨⟨[61, 49, 54]⟩⟩ 314), (sv ⟨⟨[61, 49, 55]⟩⟩ 318), (sv ⟨⟨[61, 49, 56]⟩⟩ 322), (sv ⟨⟨[61, 49, 57]⟩⟩ 326), (sv ⟨⟨[61, 49, 65]⟩⟩ 330), (sv ⟨⟨[61, 49, 66]⟩⟩ 334), (sv ⟨⟨[61, 49, 67]⟩⟩ 338), (sv ⟨⟨[61, 49, 68]⟩⟩ 342), (sv ⟨⟨[61, 49, 69]⟩⟩ 346), (sv ⟨⟨[61, 49, 70]⟩⟩ 350), (sv ⟨⟨[61, 50, 48]⟩⟩ 354), (sv ⟨⟨[61, 50, 49]⟩⟩ 358), (sv ⟨⟨[61, 50, 50]⟩⟩ 362), (sv ⟨⟨[61, 50, 51]⟩⟩ 366), (sv ⟨⟨[61, 50, 52]⟩⟩ 370), (sv ⟨⟨[61, 50, 53]⟩⟩ 374), (sv ⟨⟨[61, 50, 54]⟩⟩ 378), (sv ⟨⟨[61, 50, 55]⟩⟩ 382), (sv ⟨⟨[61, 50, 56]⟩⟩ 386), (sv ⟨⟨[61, 50, 57]⟩⟩ 390), (sv ⟨⟨[61, 50, 65]⟩⟩ 394), (sv ⟨⟨[61, 50, 66]⟩⟩ 398), (sv ⟨⟨[61, 50, 67]⟩⟩ 402), (sv ⟨⟨[61, 50, 68]⟩⟩ 406), (sv ⟨⟨[61, 50, 69]⟩⟩ 410), (sv ⟨⟨[61, 50, 70]⟩⟩ 414), (sv ⟨⟨[61, 51, 48]⟩⟩ 418), (sv ⟨⟨[61, 51, 49]⟩⟩ 422), (sv ⟨⟨[61, 51, 50]⟩⟩ 426), (sv ⟨⟨[61, 51, 51]⟩⟩ 430), (sv ⟨⟨[61, 51, 52]⟩⟩ 434), (sv ⟨⟨[61, 51, 53]⟩⟩ 438), (sv ⟨⟨[61, 51, 54]⟩⟩ 442), (sv ⟨⟨[61, 51, 55]⟩⟩ 446), (sv ⟨⟨[61, 51, 56]⟩⟩ 450), (sv ⟨⟨[61, 51, 57]⟩⟩ 454), (sv ⟨⟨[61, 51, 65]⟩⟩ 458), (sv ⟨⟨[61, 51, 66]⟩⟩ 462), (sv ⟨⟨[61, 51, 67]⟩⟩ 466), (sv ⟨⟨[61, 51, 68]⟩⟩ 470), (sv ⟨⟨[61, 51, 69]⟩⟩ 474), (sv ⟨⟨[61, 51, 70]⟩⟩ 478), (sv ⟨⟨[61, 52, 48]⟩⟩ 482), (sv ⟨⟨[61, 52, 49]⟩⟩ 486), (sv ⟨⟨[61, 52, 50]⟩⟩ 490), (sv ⟨⟨[61, 52, 51]⟩⟩ 494), (sv ⟨⟨[61, 52, 52]⟩⟩ 498), (sv ⟨⟨[61, 52, 53]⟩⟩ 502), (sv ⟨⟨[61, 52, 54]⟩⟩ 506), (sv ⟨⟨[61, 52, 55]⟩⟩ 510), (sv ⟨⟨[61, 52, 56]⟩⟩ 514), (sv ⟨⟨[61, 52, 57]⟩⟩ 518), (sv ⟨⟨[61, 52, 65]⟩⟩ 522), (sv ⟨⟨[61, 52, 66]⟩⟩ 526), (sv ⟨⟨[61, 52, 67]⟩⟩ 530), (sv ⟨⟨[61, 52, 68]⟩⟩ 534), (sv ⟨⟨[61, 52, 69]⟩⟩ 538), (sv ⟨⟨[61, 52, 70]⟩⟩ 542), (sv ⟨⟨[61, 53, 48]⟩⟩ 546), (sv ⟨⟨[61, 53, 49]⟩⟩ 550), (sv ⟨⟨[61, 53, 50]⟩⟩ 554), (sv ⟨⟨[61, 53, 51]⟩⟩ 558), (sv ⟨⟨[61, 53, 52]⟩⟩ 562), (sv ⟨⟨[61, 53, 53]⟩⟩ 566), (sv ⟨⟨[61, 53, 54]⟩⟩ 570), (sv ⟨⟨[61, 53, 55]⟩⟩ 574), (sv ⟨⟨[61, 53, 56]⟩⟩ 578), (sv ⟨⟨[61, 53, 57]⟩⟩ 582), (sv ⟨⟨[61, 53, 65]⟩⟩ 586), (sv ⟨⟨[61, 53, 66]⟩⟩ 590), (sv ⟨⟨[61, 53, 67]⟩⟩ 594), (sv ⟨⟨[61, 53, 68]⟩⟩ 598), (sv ⟨⟨[61, 53, 69]⟩⟩ 602), (sv ⟨⟨[61, 53, 70]⟩⟩ 606), (sv ⟨⟨[61, 54, 48]⟩⟩ 610), (sv ⟨⟨[61, 54, 49]⟩⟩ 614), (sv ⟨⟨[61, 54, 50]⟩⟩ 618), (sv ⟨⟨[61, 54, 51]⟩⟩ 622), (sv ⟨⟨[61, 54, 52]⟩⟩ 626), (sv ⟨⟨[61, 54, 53]⟩⟩ 630), (sv ⟨⟨[61, 54, 54]⟩⟩ 634), (sv ⟨⟨[61, 54, 55]⟩⟩ 638), (sv ⟨⟨[61, 54, 56]⟩⟩ 642), (sv ⟨⟨[61, 54, 57]⟩⟩ 646), (sv ⟨⟨[61, 54, 65]⟩⟩ 650), (sv ⟨⟨[61, 54, 66]⟩⟩ 654), (sv ⟨⟨[61, 54, 67]⟩⟩ 658), (sv ⟨⟨[61, 54, 68]⟩⟩ 662), (sv ⟨⟨[61, 54, 69]⟩⟩ 666), (sv ⟨⟨[61, 54, 70]⟩⟩ 670), (sv ⟨⟨[61, 55, 48]⟩⟩ 674), (sv ⟨⟨[61, 55, 49]⟩⟩ 678), (sv ⟨⟨[61, 55, 50]⟩⟩ 682), (sv ⟨⟨[61, 55, 51]⟩⟩ 686), (sv ⟨⟨[61, 55, 52]⟩⟩ 690), (sv ⟨⟨[61, 55, 53]⟩⟩ 694), (sv ⟨⟨[61, 55, 54]⟩⟩ 698), (sv ⟨⟨[61, 55, 55]⟩⟩ 702), (sv ⟨⟨[61, 55, 56]⟩⟩ 706), (sv ⟨⟨[61, 55, 57]⟩⟩ 710), (sv ⟨⟨[61, 55, 65]⟩⟩ 714), (sv ⟨⟨[61, 55, 66]⟩⟩ 718), (sv ⟨⟨[61, 55, 67]⟩⟩ 722), (sv ⟨⟨[61, 55, 68]⟩⟩ 726), (sv ⟨⟨[61, 55, 69]⟩⟩ 730), (sv ⟨⟨[61, 55, 70]⟩⟩ 734), (sv ⟨⟨[61, 56, 48]⟩⟩ 738), (sv ⟨⟨[61, 56, 49]⟩⟩ 742), (sv ⟨⟨[61, 56, 50]⟩⟩ 746), (sv ⟨⟨[61, 56, 51]⟩⟩ 750), (sv ⟨⟨[61, 56, 52]⟩⟩ 754), (sv ⟨⟨[61, 56, 53]⟩⟩ 758), (sv ⟨⟨[61, 56, 54]⟩⟩ 762), (sv ⟨⟨[61, 56, 55]⟩⟩ 766), (sv ⟨⟨[61, 56, 56]⟩⟩ 770), (sv ⟨⟨[61, 56, 57]⟩⟩ 774), (sv ⟨⟨[61, 56, 65]⟩⟩ 778), (sv ⟨⟨[61, 56, 66]⟩⟩ 782), (sv ⟨⟨[61, 56, 67]⟩⟩ 786), (sv ⟨⟨[61, 56, 68]⟩⟩ 790), (sv ⟨⟨[61, 56, 69]⟩⟩ 794), (sv ⟨⟨[61, 56, 70]⟩⟩ 798), (sv ⟨⟨[61, 57, 48]⟩⟩ 802), (sv ⟨⟨[61, 57, 49]⟩⟩ 806), (sv ⟨⟨[61, 57, 50]⟩⟩ 810), (sv ⟨⟨[61, 57, 51]⟩⟩ 814), (sv ⟨⟨[61, 57, 52]⟩⟩ 818), (sv ⟨⟨[61, 57, 53]⟩⟩ 822), (sv ⟨⟨[61, 57, 54]⟩⟩ 826), (sv ⟨⟨[61, 57, 55]⟩⟩ 830), (sv ⟨⟨[61, 57, 56]⟩⟩ 834), (sv ⟨⟨[61, 57, 57]⟩⟩ 838), (sv ⟨⟨[61, 57, 65]⟩⟩ 842), (sv ⟨⟨[61, 57, 66]⟩⟩ 846), (sv ⟨⟨[61, 57, 67]⟩⟩ 850), (sv ⟨⟨[61, 57, 68]⟩⟩ 854), (sv ⟨⟨[61, 57, 69]⟩⟩ 858), (sv ⟨⟨[61, 57, 70]⟩⟩ 862), (sv ⟨⟨[61, 65, 48]⟩⟩ 866), (sv ⟨⟨[61, 65, 49]⟩⟩ 870), (sv ⟨⟨[61, 65, 50]⟩⟩ 874), (sv ⟨⟨[61, 65, 51]⟩⟩ 878), (sv ⟨⟨[61, 65, 52]⟩⟩ 882), (sv ⟨⟨[61, 65, 53]⟩⟩ 886), (sv ⟨⟨[61, 65, 54]⟩⟩ 890), (sv ⟨⟨[61, 65, 55]⟩⟩ 894), (sv ⟨⟨[61, 65, 56]⟩⟩ 898), (sv ⟨⟨[61, 65, 57]⟩⟩ 902), (sv ⟨⟨[61, 65, 65]⟩⟩ 906), (sv ⟨⟨[61, 65, 66]⟩⟩ 910), (sv ⟨⟨[61, 65, 67]⟩⟩ 914), (sv ⟨⟨[61, 65, 68]⟩⟩ 918), (sv ⟨⟨[61, 65, 69]⟩⟩ 922), (sv ⟨⟨[61, 65, 70]⟩⟩ 926), (sv ⟨⟨[61, 66, 48]⟩⟩ 930), (sv ⟨⟨[61, 66, 49]⟩⟩ 934), (sv ⟨⟨[61, 66, 50]⟩⟩ 938), (sv ⟨⟨[61, 66, 51]⟩⟩ 942), (sv ⟨⟨[61, 66, 52]⟩⟩ 946), (sv ⟨⟨[61, 66, 53]⟩⟩ 950), (sv ⟨⟨[61, 66, 54]⟩⟩ 954), (sv ⟨⟨[61, 66, 55]⟩⟩ 958), (sv ⟨⟨[61, 66, 56]⟩⟩ 962), (sv ⟨⟨[61, 66, 57]⟩⟩ 966), (sv ⟨⟨[61, 66, 65]⟩⟩ 970), (sv ⟨⟨[61, 66, 66]⟩⟩ 974), (sv ⟨⟨[61, 66, 67]⟩⟩ 978), (sv ⟨⟨[61, 66, 68]⟩⟩ 982), (sv ⟨⟨[61, 66, 69]⟩⟩ 986), (sv ⟨⟨[61, 66, 70]⟩⟩ 990), (sv ⟨⟨[61, 67, 48]⟩⟩ 994), (sv ⟨⟨[61, 67, 49]⟩⟩ 998), (sv ⟨⟨[61, 67, 50]⟩⟩ 1002), (sv ⟨⟨[61, 67, 51]⟩⟩ 1006), (sv ⟨⟨[61, 67, 52]⟩⟩ 1010), (sv ⟨⟨[61, 67, 53]⟩⟩ 1014), (sv ⟨⟨[61, 67, 54]⟩⟩ 1018), (sv ⟨⟨[61, 67, 55]⟩⟩ 1022), (sv ⟨⟨[61, 67, 56]⟩⟩ 1026), (sv ⟨⟨[61, 67, 57]⟩⟩ 1030), (sv ⟨⟨[61, 67, 65]⟩⟩ 1034), (sv ⟨⟨[61, 67, 66]⟩⟩ 1038), (sv ⟨⟨[61, 67, 67]⟩⟩ 1042), (sv ⟨⟨[61, 67, 68]⟩⟩ 1046), (sv ⟨⟨[61, 67, 69]⟩⟩ 1050), (sv ⟨⟨[61, 67, 70]⟩⟩ 1054), (sv ⟨⟨[61, 68, 48]⟩⟩ 1058), (sv ⟨⟨[61, 68, 49]⟩⟩ 1062), (sv ⟨⟨[61, 68, 50]⟩⟩ 1066), (sv ⟨⟨[61, 68, 51]⟩⟩ 1070), (sv ⟨⟨[61, 68, 52]⟩⟩ 1074), (sv ⟨⟨[61, 68, 53]⟩⟩ 1078), (sv ⟨⟨[61, 68, 54]⟩⟩ 1082), (sv ⟨⟨[61, 68, 55]⟩⟩ 1086), (sv ⟨⟨[61, 68, 56]⟩⟩ 1090), (sv ⟨⟨[61, 68, 57]⟩⟩ 1094), (sv ⟨⟨[61, 68, 65]⟩⟩ 1098), (sv ⟨⟨[61, 68, 66]⟩⟩ 1102), (sv ⟨⟨[61, 68, 67]⟩⟩ 1106), (sv ⟨⟨[61, 68, 68]⟩⟩ 1110), (sv ⟨⟨[61, 68, 69]⟩⟩ 1114), (sv ⟨⟨[61, 68, 70]⟩⟩ 1118), (sv ⟨⟨[61, 69, 48]⟩⟩ 1122), (sv ⟨⟨[61, 69, 49]⟩⟩ 1126), (sv ⟨⟨[61, 69, 50]⟩⟩ 1130), (sv ⟨⟨[61, 69, 51]⟩⟩ 1134), (sv ⟨⟨[61, 69, 52]⟩⟩ 1138), (sv ⟨⟨[61, 69, 53]⟩⟩ 1142), (sv ⟨⟨[61, 69, 54]⟩⟩ 1146), (sv ⟨⟨[61, 69, 55]⟩⟩ 1150), (sv ⟨⟨[61, 69, 56]⟩⟩ 1154), (sv ⟨⟨[61, 69, 57]⟩⟩ 1158), (sv ⟨⟨[61, 69, 65]⟩⟩ 1162), (sv ⟨⟨[61, 69, 66]⟩⟩ 1166), (sv ⟨⟨[61, 69, 67]⟩⟩ 1170), (sv ⟨⟨[61, 69, 68]⟩⟩ 1174), (sv ⟨⟨[61, 69, 69]⟩⟩ 1178), (sv ⟨⟨[61, 69, 70]⟩⟩ 1182), (sv ⟨⟨[61, 70, 48]⟩⟩ 1186), (sv ⟨⟨[61, 70, 49]⟩⟩ 1190), (sv ⟨⟨[61, 70, 50]⟩⟩ 1194), (sv ⟨⟨[61, 70, 51]⟩⟩ 1198), (sv ⟨⟨[61, 70, 52]⟩⟩ 1202), (sv ⟨⟨[61, 70, 53]⟩⟩ 1206), (sv ⟨⟨[61, 70, 54]⟩⟩ 1210), (sv ⟨⟨[61, 70, 55]⟩⟩ 1214), (sv ⟨⟨[61, 70, 56]⟩⟩ 1218), (sv ⟨⟨[61, 70, 57]⟩⟩ 1222), (sv ⟨⟨[61, 70, 65]⟩⟩ 1226), (sv ⟨⟨[61, 70, 66]⟩⟩ 1230), (sv ⟨⟨[61, 70, 67]⟩⟩ 1234), (sv ⟨⟨[61, 70, 68]⟩⟩ 1238), (sv ⟨⟨[61, 70, 69]⟩⟩ 1242), (sv ⟨⟨[61, 70, 70]⟩⟩ 1246)]⟩ 256), ⟨[]⟩⟩
noncomputable def o36v2 (z : Zs) (p : Program) (P : Params) : Obj := ⟨(.type z.dic), none, (.dict ⟨[]⟩ 2), ⟨[]⟩⟩
noncomputable def o37v2 (z : Zs) (p : Program) (P : Params) : Obj := ⟨(.type z.tup), none, (.seq ⟨[]⟩ 0), ⟨[]⟩⟩
noncomputable def o38v2 (z : Zs) (p : Program) (P : Params) : Obj := ⟨(.type z.sti), none, (.fields ⟨[(.ref 37), .none, .none, .none, (.bool false), .none]⟩), ⟨[]⟩⟩
noncomputable def T2 (z : Zs) (p : Program) (P : Params) : BT := (.node (boot_o_0 P) (.node (boot_o_1 P) (.node (o3v2 z p P) (.node (boot_o_7 P) (.node (o15v1 z p P) (.node (o31v1 z p P) .nil .nil) .nil) (.node (o23v1 z p P) .nil .nil)) (.node (o11v0 z p P) (.node (o19v1 z p P) (.node (o35v2 z p P) .nil .nil) .nil) (.node (o27v1 z p P) .nil .nil))) (.node (boot_o_5 P) (.node (boot_o_9 P) (.node (o17v1 z p P) (.node (o33v1a z p P) .nil .nil) .nil) (.node (o25v1 z p P) .nil .nil)) (.node (o13v0 z p P) (.node (o21v1 z p P) (.node (o37v2 z p P) .nil .nil) .nil) (.node (o29v1 z p P) .nil .nil)))) (.node (boot_o_2 P) (.node (boot_o_4 P) (.node (boot_o_8 P) (.node (o16v1 z p P) (.node (o32v1 z p P) .nil .nil) .nil) (.node (o24v1 z p P) .nil .nil)) (.node (o12v1 z p P) (.node (o20v1 z p P) (.node (o36v2 z p P) .nil .nil) .nil) (.node (o28v1 z p P) .nil .nil))) (.node (boot_o_6 P) (.node (boot_o_10 P) (.node (o18v1 z p P) (.node (o34v2 z p P) .nil .nil) .nil) (.node (o26v1 z p P) .nil .nil)) (.node (o14v0 z p P) (.node (o22v1 z p P) (.node (o38v2 z p P) .nil .nil) .nil) (.node (o30v1 z p P) .nil .nil)))))
noncomputable def o3v3 (z : Zs) (p : Program) (P : Params) : Obj := ⟨(.type "dict"), none, (.dict ⟨[hk P ⟨⟨[95, 95, 110, 97, 109, 101, 95, 95]⟩⟩ 165 (sv ⟨⟨[99, 112, 121, 51, 49, 51, 46, 101, 109, 97, 105, 108, 46, 113, 117, 111, 112, 114, 105, 109, 105, 109, 101]⟩⟩ 1263), hk P ⟨⟨[95, 95, 100, 111, 99, 95, 95]⟩⟩ 166 .none, hk P ⟨⟨[95, 95, 112, 97, 99, 107, 97, 103, 101, 95, 95]⟩⟩ 167 .none, hk P ⟨⟨[95, 95, 108, 111, 97, 100, 101, 114, 95, 95]⟩⟩ 168 (.builtin "__main__.__loader__#opaque"), hk P ⟨⟨[95, 95, 115, 112, 101, 99, 95, 95]⟩⟩ 169 .none, hk P ⟨⟨[95, 95, 97, 110, 110, 111, 116, 97, 116, 105, 111, 110, 115, 95, 95]⟩⟩ 170 (.ref 6), hk P ⟨⟨[95, 95, 98, 117, 105, 108, 116, 105, 110, 115, 95, 95]⟩⟩ 171 (.ref 4), hk P ⟨⟨[95, 95, 102, 105, 108, 101, 95, 95]⟩⟩ 173 (sv (Str.ofString "/claim/cut.py") 172), hk P ⟨⟨[95, 95, 99, 97, 99, 104, 101, 100, 95, 95]⟩⟩ 174 .none, hk P ⟨⟨[105, 110, 115, 111, 114, 116, 95, 108, 101, 102, 116]⟩⟩ 201 (.ref 23), hk P ⟨⟨[98, 105, 115, 101, 99, 116, 95, 108, 101, 102, 116]⟩⟩ 215 (.ref 32), hk P ⟨⟨[67, 82, 76, 70]⟩⟩ 217 (sv ⟨⟨[13, 10]⟩⟩ 216), hk P ⟨⟨[78, 76]⟩⟩ 219 (sv ⟨⟨[10]⟩⟩ 218), hk P ⟨⟨[95, 81, 85, 79, 80, 82, 73, 95, 77, 65, 80]⟩⟩ 1247 (.ref 35), hk P ⟨⟨[95, 81, 85, 79, 80, 82, 73, 95, 72, 69, 65, 68, 69, 82, 95, 77, 65, 80]⟩⟩ 1248 (.ref 40), hk P ⟨⟨[95, 81, 85, 79, 80, 82, 73, 95, 66, 79, 68, 89, 95, 77, 65, 80]⟩⟩ 1249 (.ref 42), hk P ⟨⟨[97, 115, 99, 105, 105, 95, 108, 111, 119, 101, 114, 99, 97, 115, 101]⟩⟩ 1251 (sv ⟨⟨[97, 98, 99, 100, 101, 102, 103, 104, 105, 106, 107, 108, 109, 110, 111, 112, 113, 114, 115, 116, 117, 118, 119, 120, 121, 122]⟩⟩ 1250), hk P ⟨⟨[97, 115, 99, 105, 105, 95, 117, 112, 112, 101, 114, 99, 97, 115, 101]⟩⟩ 1253 (sv ⟨⟨[65, 66, 67, 68, 69, 70, 71, 72, 73, 74, 75, 76, 77, 78, 79, 80, 81, 82, 83, 84, 85, 86, 87, 88, 89, 90]⟩⟩ 1252), hk P ⟨⟨[97, 115, 99, 105, 105, 95, 108, 101, 116, 116, 101, 114, 115]⟩⟩ 1255 (sv ⟨⟨[97, 98, 99, 100, 101, 102, 103, 104, 105, 106, 107, 108, 109, 110, 111, 112, 113, 114, 115, 116, 117, 118, 119, 120, 121, 122, 65, 66, 67, 68, 69, 70, 71, 72, 73, 74, 75, 76, 77, 78, 79, 80, 81, 82, 83, 84, 85, 86, 87, 88, 89, 90]⟩⟩ 1254), hk P ⟨⟨[100, 105, 103, 105, 116, 115]⟩⟩ 1257 (sv ⟨⟨[48, 49, 50, 51, 52, 53, 54, 55, 56, 57]⟩⟩ 1256), hk P ⟨⟨[104, 101, 120, 100, 105, 103, 105, 116, 115]⟩⟩ 1262 (sv ⟨⟨[48, 49, 50, 51, 52, 53, 54, 55, 56, 57, 97, 98, 99, 100, 101, 102, 65, 66, 67, 68, 69, 70]⟩⟩ 1261)]⟩ 21), ⟨[]⟩⟩
noncomputable def o39v3 (z : Zs) (p : Program) (P : Params) : Obj := ⟨(.type z.sli), none, (.fields ⟨[.none, .none, .none]⟩), ⟨[]⟩⟩
noncomputable def o40v3 (z : Zs) (p : Program) (P : Params) : Obj := ⟨(.type z.lst), none, (.seq ⟨[(sv ⟨⟨[61, 48, 48]⟩⟩ 226), (sv ⟨⟨[61, 48, 49]⟩⟩ 230), (sv ⟨⟨[61, 48, 50]⟩⟩ 234), (sv ⟨⟨[61, 48, 51]⟩⟩ 238), (sv ⟨⟨[61, 48, 52]⟩⟩ 242), (sv ⟨⟨[61, 48, 53]⟩⟩ 246), (sv ⟨⟨[61, 48, 54]⟩⟩ 250), (sv ⟨⟨[61, 48, 55]⟩⟩ 254), (sv ⟨⟨[61, 48, 56]⟩⟩ 258), (sv ⟨⟨[61, 48, 57]⟩⟩ 262), (sv ⟨⟨[61, 48, 65]⟩⟩ 266), (sv ⟨⟨[61, 48, 66]⟩⟩ 270), (sv ⟨⟨[61, 48, 67]⟩⟩ 274), (sv ⟨⟨[61, 48, 68]⟩⟩ 278), (sv ⟨⟨[61, 48, 69]⟩⟩ 282), (sv ⟨⟨[61, 48, 70]⟩⟩ 286), (sv ⟨⟨[61, 49, 48]⟩⟩ 290), (sv ⟨⟨[61, 49, 49]⟩⟩ 294), (sv ⟨⟨[61, 49, 50]⟩⟩ 298), (sv ⟨⟨[61, 49, 51]⟩⟩ 302), (sv ⟨⟨[61, 49, 52]⟩⟩ 306), (sv ⟨⟨[61, 49, 53]⟩⟩ 310), (sv ⟨⟨[61, 49, 54]⟩⟩ 314), (sv ⟨⟨[61, 49, 55]⟩⟩ 318), (sv ⟨⟨[61, 49, 56]⟩⟩ 322), (sv ⟨⟨[61, 49, 57]⟩⟩ 326), (sv ⟨⟨[61, 49, 65]⟩⟩ 330), (sv ⟨⟨[61, 49, 66]⟩⟩ 334), (sv ⟨⟨[61, 49, 67]⟩⟩ 338), (sv ⟨⟨[61, 49, 68]⟩⟩ 342), (sv ⟨⟨[61, 49, 69]⟩⟩ 346), (sv ⟨⟨[61, 49, 70]⟩⟩ 350), (sv ⟨⟨[61, 50, 48]⟩⟩ 354), (sv ⟨⟨[61, 50, 49]⟩⟩ 358), (sv ⟨⟨[61, 50, 50]⟩⟩ 362), (sv ⟨⟨[61, 50, 51]⟩⟩ 366), (sv ⟨⟨[61, 50, 52]⟩⟩ 370), (sv ⟨⟨[61, 50, 53]⟩⟩ 374), (sv ⟨⟨[61, 50, 54]⟩⟩ 378), (sv ⟨⟨[61, 50, 55]⟩⟩ 382), (sv ⟨⟨[61, 50, 56]⟩⟩ 386), (sv ⟨⟨[61, 50, 57]⟩⟩ 390), (sv ⟨⟨[61, 50, 65]⟩⟩ 394), (sv ⟨⟨[61, 50, 66]⟩⟩ 398), (sv ⟨⟨[61, 50, 67]⟩⟩ 402), (sv ⟨⟨[61, 50, 68]⟩⟩ 406), (sv ⟨⟨[61, 50, 69]⟩⟩ 410), (sv ⟨⟨[61, 50, 70]⟩⟩ 414), (sv ⟨⟨[61, 51, 48]⟩⟩ 418), (sv ⟨⟨[61, 51, 49]⟩⟩ 422), (sv ⟨⟨[61, 51, 50]⟩⟩ 426), (sv ⟨⟨[61, 51, 51]⟩⟩ 430), (sv ⟨⟨[61, 51, 52]⟩⟩ 434), (sv ⟨⟨[61, 51, 53]⟩⟩ 438), (sv ⟨⟨[61, 51, 54]⟩⟩ 442), (sv ⟨⟨[61, 51, 55]⟩⟩ 446), (sv ⟨⟨[61, 51, 56]⟩⟩ 450), (sv ⟨⟨[61, 51, 57]⟩⟩ 454), (sv ⟨⟨[61, 51, 65]⟩⟩ 458), (sv ⟨⟨[61, 51, 66]⟩⟩ 462), (sv ⟨⟨[61, 51, 67]⟩⟩ 466), (sv ⟨⟨[61, 51, 68]⟩⟩ 470), (sv ⟨⟨[61, 51, 69]⟩⟩ 474), (sv ⟨⟨[61, 51, 70]⟩⟩ 478), (sv ⟨⟨[61, 52, 48]⟩⟩ 482), (sv ⟨⟨[61, 52, 49]⟩⟩ 486), (sv ⟨⟨[61, 52, 50]⟩⟩ 490), (sv ⟨⟨[61, 52, 51]⟩⟩ 494), (sv ⟨⟨[61, 52, 52]⟩⟩ 498), (sv ⟨⟨[61, 52, 53]⟩⟩ 502), (sv ⟨⟨[61, 52, 54]⟩⟩ 506), (sv ⟨⟨[61, 52, 55]⟩⟩ 510), (sv ⟨⟨[61, 52, 56]⟩⟩ 514), (sv ⟨⟨[61, 52, 57]⟩⟩ 518), (sv ⟨⟨[61, 52, 65]⟩⟩ 522), (sv ⟨⟨[61, 52, 66]⟩⟩ 526), (sv ⟨⟨[61, 52, 67]⟩⟩ 530), (sv ⟨⟨[61, 52, 68]⟩⟩ 534), (sv ⟨⟨[61, 52, 69]⟩⟩ 538), (sv ⟨⟨[61, 52, 70]⟩⟩ 542), (sv ⟨⟨[61, 53, 48]⟩⟩ 546), (sv ⟨⟨[61, 53, 49]⟩⟩ 550), (sv ⟨⟨[61, 53, 50]⟩⟩ 554), (sv ⟨⟨[61, 53, 51]⟩⟩ 558), (sv ⟨⟨[61, 53, 52]⟩⟩ 562), (sv ⟨⟨[61, 53, 53]⟩⟩ 566), (sv ⟨⟨[61, 53, 54]⟩⟩ 570), (sv ⟨⟨[61, 53, 55]⟩⟩ 574), (sv ⟨⟨[61, 53, 56]⟩⟩ 578), (sv ⟨⟨[61, 53, 57]⟩⟩ 582), (sv ⟨⟨[61, 53, 65]⟩⟩ 586), (sv ⟨⟨[61, 53, 66]⟩⟩ 590), (sv ⟨⟨[61, 53, 67]⟩⟩ 594), (sv ⟨⟨[61, 53, 68]⟩⟩ 598), (sv ⟨⟨[61, 53, 69]⟩⟩ 602), (sv ⟨⟨[61, 53, 70]⟩⟩ 606), (sv ⟨⟨[61, 54, 48]⟩⟩ 610), (sv ⟨⟨[61, 54, 49]⟩⟩ 614), (sv ⟨⟨[61, 54, 50]⟩⟩ 618), (sv ⟨⟨[61, 54, 51]⟩⟩ 622), (sv ⟨⟨[61, 54, 52]⟩⟩ 626), (sv ⟨⟨[61, 54, 53]⟩⟩ 630), (sv ⟨⟨[61, 54, 54]⟩⟩ 634), (sv ⟨⟨[61, 54, 55]⟩⟩ 638), (sv ⟨⟨[61, 54, 56]⟩⟩ 642), (sv ⟨⟨[61, 54, 57]⟩⟩ 646), (sv ⟨⟨[61, 54, 65]⟩⟩ 650), (sv ⟨⟨[61, 54, 66]⟩⟩ 654), (sv ⟨⟨[61, 54, 67]⟩⟩ 658), (sv ⟨⟨[61, 54, 68]⟩⟩ 662), (sv ⟨⟨[61, 54, 69]⟩⟩ 666), (sv ⟨⟨[61, 54, 70]⟩⟩ 670), (sv ⟨⟨[61, 55, 48]⟩⟩ 674), (sv ⟨⟨[61, 55, 49]⟩⟩ 678), (sv ⟨⟨[61, 55, 50]⟩⟩ 682), (sv ⟨⟨[61, 55, 51]⟩⟩ 686), (sv ⟨⟨[61, 55, 52]⟩⟩ 690), (sv ⟨⟨[61, 55, 53]⟩⟩ 694), (sv ⟨⟨[61, 55, 54]⟩⟩ 698), (sv ⟨⟨[61, 55, 55]⟩⟩ 702), (sv ⟨⟨[61, 55, 56]⟩⟩ 706), (sv ⟨⟨[61, 55, 57]⟩⟩ 710), (sv ⟨⟨[61, 55, 65]⟩⟩ 714), (sv ⟨⟨[61, 55, 66]⟩⟩ 718), (sv ⟨⟨[61, 55, 67]⟩⟩ 722), (sv ⟨⟨[61, 55, 68]⟩⟩ 726), (sv ⟨⟨[61, 55, 69]⟩⟩ 730), (sv ⟨⟨[61, 55, 70]⟩⟩ 734), (sv ⟨⟨[61, 56, 48]⟩⟩ 738), (sv ⟨⟨[61, 56, 49]⟩⟩ 742), (sv ⟨⟨[61, 56, 50]⟩⟩ 746), (sv ⟨⟨[61, 56, 51]⟩⟩ 750), (sv ⟨⟨[61, 56, 52]⟩⟩ 754), (sv ⟨⟨[61, 56, 53]⟩⟩ 758), (sv ⟨⟨[61, 56, 54]⟩⟩ 762), (sv ⟨⟨[61, 56, 55]⟩⟩ 766), (sv ⟨⟨[61, 56, 56]⟩⟩ 770), (sv ⟨⟨[61, 56, 57]⟩⟩ 774), (sv ⟨⟨[61, 56, 65]⟩⟩ 778), (sv ⟨⟨[61, 56, 66]⟩⟩ 782), (sv ⟨⟨[61, 56, 67]⟩⟩ 786), (sv ⟨⟨[61, 56, 68]⟩⟩ 790), (sv ⟨⟨[61, 56, 69]⟩⟩ 794), (sv ⟨⟨[61, 56, 70]⟩⟩ 798), (sv ⟨⟨[61, 57, 48]⟩⟩ 802), (sv ⟨⟨[61, 57, 49]⟩⟩ 806), (sv ⟨⟨[61, 57, 50]⟩⟩ 810), (sv ⟨⟨[61, 57, 51]⟩⟩ 814), (sv ⟨⟨[61, 57, 52]⟩⟩ 818), (sv ⟨⟨[61, 57, 53]⟩⟩ 822), (sv ⟨⟨[61, 57, 54]⟩⟩ 826), (sv ⟨⟨[61, 57, 55]⟩⟩ 830), (sv ⟨⟨[61, 57, 56]⟩⟩ 834), (sv ⟨⟨[61, 57, 57]⟩⟩ 838), (sv ⟨⟨[61, 57, 65]⟩⟩ 842), (sv ⟨⟨[61, 57, 66]⟩⟩ 846), (sv ⟨⟨[61, 57, 67]⟩⟩ 850), (sv ⟨⟨[61, 57, 68]⟩⟩ 854), (sv ⟨⟨[61, 57, 69]⟩⟩ 858), (sv ⟨⟨[61, 57, 70]⟩⟩ 862), (sv ⟨⟨[61, 65, 48]⟩⟩ 866), (sv ⟨⟨[61, 65, 49]⟩⟩ 870), (sv ⟨⟨[61, 65, 50]⟩⟩ 874), (sv ⟨⟨[61, 65, 51]⟩⟩ 878), (sv ⟨⟨[61, 65, 52]⟩⟩ 882), (sv ⟨⟨[61, 65, 53]⟩⟩ 886), (sv ⟨⟨[61, 65, 54]⟩⟩ 890), (sv ⟨⟨[61, 65, 55]⟩⟩ 894), (sv ⟨⟨[61, 65, 56]⟩⟩ 898), (sv ⟨⟨[61, 65, 57]⟩⟩ 902), (sv ⟨⟨[61, 65, 65]⟩⟩ 906), (sv ⟨⟨[61, 65, 66]⟩⟩ 910), (sv ⟨⟨[61, 65, 67]⟩⟩ 914), (sv ⟨⟨[61, 65, 68]⟩⟩ 918), (sv ⟨⟨[61, 65, 69]⟩⟩ 922), (sv ⟨⟨[61, 65, 70]⟩⟩ 926), (sv ⟨⟨[61, 66, 48]⟩⟩ 930), (sv ⟨⟨[61, 66, 49]⟩⟩ 934), (sv ⟨⟨[61, 66, 50]⟩⟩ 938), (sv ⟨⟨[61, 66, 51]⟩⟩ 942), (sv ⟨⟨[61, 66, 52]⟩⟩ 946), (sv ⟨⟨[61, 66, 53]⟩⟩ 950), (sv ⟨⟨[61, 66, 54]⟩⟩ 954), (sv ⟨⟨[61, 66, 55]⟩⟩ 958), (sv ⟨⟨[61, 66, 56]⟩⟩ 962), (sv ⟨⟨[61, 66, 57]⟩⟩ 966), (sv ⟨⟨[61, 66, 65]⟩⟩ 970), (sv ⟨⟨[61, 66, 66]⟩⟩ 974), (sv ⟨⟨[61, 66, 67]⟩⟩ 978), (sv ⟨⟨[61, 66, 68]⟩⟩ 982), (sv ⟨⟨[61, 66, 69]⟩⟩ 986), (sv ⟨⟨[61, 66, 70]⟩⟩ 990), (sv ⟨⟨[61, 67, 48]⟩⟩ 994), (sv ⟨⟨[61, 67, 49]⟩⟩ 998), (sv ⟨⟨[61, 67, 50]⟩⟩ 1002), (sv ⟨⟨[61, 67, 51]⟩⟩ 1006), (sv ⟨⟨[61, 67, 52]⟩⟩ 1010), (sv ⟨⟨[61, 67, 53]⟩⟩ 1014), (sv ⟨⟨[61, 67, 54]⟩⟩ 1018), (sv ⟨⟨[61, 67, 55]⟩⟩ 1022), (sv ⟨⟨[61, 67, 56]⟩⟩ 1026), (sv ⟨⟨[61, 67, 57]⟩⟩ 1030), (sv ⟨⟨[61, 67, 65]⟩⟩ 1034), (sv ⟨⟨[61, 67, 66]⟩⟩ 1038), (sv ⟨⟨[61, 67, 67]⟩⟩ 1042), (sv ⟨⟨[61, 67, 68]⟩⟩ 1046), (sv ⟨⟨[61, 67, 69]⟩⟩ 1050), (sv ⟨⟨[61, 67, 70]⟩⟩ 1054), (sv ⟨⟨[61, 68, 48]⟩⟩ 1058), (sv ⟨⟨[61, 68, 49]⟩⟩ 1062), (sv ⟨⟨[61, 68, 50]⟩⟩ 1066), (sv ⟨⟨[61, 68, 51]⟩⟩ 1070), (sv ⟨⟨[61, 68, 52]⟩⟩ 1074), (sv ⟨⟨[61, 68, 53]⟩⟩ 1078), (sv ⟨⟨[61, 68, 54]⟩⟩ 1082), (sv ⟨⟨[61, 68, 55]⟩⟩ 1086), (sv ⟨⟨[61, 68, 56]⟩⟩ 1090), (sv ⟨⟨[61, 68, 57]⟩⟩ 1094), (sv ⟨⟨[61, 68, 65]⟩⟩ 1098), (sv ⟨⟨[61, 68, 66]⟩⟩ 1102), (sv ⟨⟨[61, 68, 67]⟩⟩ 1106), (sv ⟨⟨[61, 68, 68]⟩⟩ 1110), (sv ⟨⟨[61, 68, 69]⟩⟩ 1114), (sv ⟨⟨[61, 68, 70]⟩⟩ 1118), (sv ⟨⟨[61, 69, 48]⟩⟩ 1122), (sv ⟨⟨[61, 69, 49]⟩⟩ 1126), (sv ⟨⟨[61, 69, 50]⟩⟩ 1130), (sv ⟨⟨[61, 69, 51]⟩⟩ 1134), (sv ⟨⟨[61, 69, 52]⟩⟩ 1138), (sv ⟨⟨[61, 69, 53]⟩⟩ 1142), (sv ⟨⟨[61, 69, 54]⟩⟩ 1146), (sv ⟨⟨[61, 69, 55]⟩⟩ 1150), (sv ⟨⟨[61, 69, 56]⟩⟩ 1154), (sv ⟨⟨[61, 69, 57]⟩⟩ 1158), (sv ⟨⟨[61, 69, 65]⟩⟩ 1162), (sv ⟨⟨[61, 69, 66]⟩⟩ 1166), (sv ⟨⟨[61, 69, 67]⟩⟩ 1170), (sv ⟨⟨[61, 69, 68]⟩⟩ 1174), (sv ⟨⟨[61, 69, 69]⟩⟩ 1178), (sv ⟨⟨[61, 69, 70]⟩⟩ 1182), (sv ⟨⟨[61, 70, 48]⟩⟩ 1186), (sv ⟨⟨[61, 70, 49]⟩⟩ 1190), (sv ⟨⟨[61, 70, 50]⟩⟩ 1194), (sv ⟨⟨[61, 70, 51]⟩⟩ 1198), (sv ⟨⟨[61, 70, 52]⟩⟩ 1202), (sv ⟨⟨[61, 70, 53]⟩⟩ 1206), (sv ⟨⟨[61, 70, 54]⟩⟩ 1210), (sv ⟨⟨[61, 70, 55]⟩⟩ 1214), (sv ⟨⟨[61, 70, 56]⟩⟩ 1218), (sv ⟨⟨[61, 70, 57]⟩⟩ 1222), (sv ⟨⟨[61, 70, 65]⟩⟩ 1226), (sv ⟨⟨[61, 70, 66]⟩⟩ 1230), (sv ⟨⟨[61, 70, 67]⟩⟩ 1234), (sv ⟨⟨[61, 70, 68]⟩⟩ 1238), (sv ⟨⟨[61, 70, 69]⟩⟩ 1242), (sv ⟨⟨[61, 70, 70]⟩⟩ 1246)]⟩ 0), ⟨[]⟩⟩
noncomputable def o41v3 (z : Zs) (p : Program) (P : Params) : Obj := ⟨(.type z.sli), none, (.fields ⟨[.none, .none, .none]⟩), ⟨[]⟩⟩
noncomputable def o42v3 (z : Zs) (p : Program) (P : Params) : Obj := ⟨(.type z.lst), none, (.seq ⟨[(sv ⟨⟨[61, 48, 48]⟩⟩ 226), (sv ⟨⟨[61, 48, 49]⟩⟩ 230), (sv ⟨⟨[61, 48, 50]⟩⟩ 234), (sv ⟨⟨[61, 48, 51]⟩⟩ 238), (sv ⟨⟨[61, 48, 52]⟩⟩ 242), (sv ⟨⟨[61, 48, 53]⟩⟩ 246), (sv ⟨⟨[61, 48, 54]⟩⟩ 250), (sv ⟨⟨[61, 48, 55]⟩⟩ 254), (sv ⟨⟨[61, 48, 56]⟩⟩ 258), (sv ⟨⟨[61, 48, 57]⟩⟩ 262), (sv ⟨⟨[61, 48, 65]⟩⟩ 266), (sv ⟨⟨[61, 48, 66]⟩⟩ 270), (sv ⟨⟨[61, 48, 67]⟩⟩ 274), (sv ⟨⟨[61, 48, 68]⟩⟩ 278), (sv ⟨⟨[61, 48, 69]⟩⟩ 282), (sv ⟨⟨[61, 48, 70]⟩⟩ 286), (sv ⟨⟨[61, 49, 48]⟩⟩ 290), (sv ⟨⟨[61, 49, 49]⟩⟩ 294), (sv ⟨⟨[61, 49, 50]⟩⟩ 298), (sv ⟨⟨[61, 49, 51]⟩⟩ 302), (sv ⟨⟨[61, 49, 52]⟩⟩ 306), (sv ⟨⟨[61, 49, 53]⟩⟩ 310), (sv ⟨⟨[61, 49, 54]⟩⟩ 314), (sv ⟨⟨[61, 49, 55]⟩⟩ 318), (sv ⟨⟨[61, 49, 56]⟩⟩ 322), (sv ⟨⟨[61, 49, 57]⟩⟩ 326), (sv ⟨⟨[61, 49, 65]⟩⟩ 330), (sv ⟨⟨[61, 49, 66]⟩⟩ 334), (sv ⟨⟨[61, 49, 67]⟩⟩ 338), (sv ⟨⟨[61, 49, 68]⟩⟩ 342), (sv ⟨⟨[61, 49, 69]⟩⟩ 346), (sv ⟨⟨[61, 49, 70]⟩⟩ 350), (sv ⟨⟨[61, 50, 48]⟩⟩ 354), (sv ⟨⟨[61, 50, 49]⟩⟩ 358), (sv ⟨⟨[61, 50, 50]⟩⟩ 362), (sv ⟨⟨[61, 50, 51]⟩⟩ 366), (sv ⟨⟨[61, 50, 52]⟩⟩ 370), (sv ⟨⟨[61, 50, 53]⟩⟩ 374), (sv ⟨⟨[61, 50, 54]⟩⟩ 378), (sv ⟨⟨[61, 50, 55]⟩⟩ 382), (sv ⟨⟨[61, 50, 56]⟩⟩ 386), (sv ⟨⟨[61, 50, 57]⟩⟩ 390), (sv ⟨⟨[61, 50, 65]⟩⟩ 394), (sv ⟨⟨[61, 50, 66]⟩⟩ 398), (sv ⟨⟨[61, 50, 67]⟩⟩ 402), (sv ⟨⟨[61, 50, 68]⟩⟩ 406), (sv ⟨⟨[61, 50, 69]⟩⟩ 410), (sv ⟨⟨[61, 50, 70]⟩⟩ 414), (sv ⟨⟨[61, 51, 48]⟩⟩ 418), (sv ⟨⟨[61, 51, 49]⟩⟩ 422), (sv ⟨⟨[61, 51, 50]⟩⟩ 426), (sv ⟨⟨[61, 51, 51]⟩⟩ 430), (sv ⟨⟨[61, 51, 52]⟩⟩ 434), (sv ⟨⟨[61, 51, 53]⟩⟩ 438), (sv ⟨⟨[61, 51, 54]⟩⟩ 442), (sv ⟨⟨[61, 51, 55]⟩⟩ 446), (sv ⟨⟨[61, 51, 56]⟩⟩ 450), (sv ⟨⟨[61, 51, 57]⟩⟩ 454), (sv ⟨⟨[61, 51, 65]⟩⟩ 458), (sv ⟨⟨[61, 51, 66]⟩⟩ 462), (sv ⟨⟨[61, 51, 67]⟩⟩ 466), (sv ⟨⟨[61, 51, 68]⟩⟩ 470), (sv ⟨⟨[61, 51, 69]⟩⟩ 474), (sv ⟨⟨[61, 51, 70]⟩⟩ 478), (sv ⟨⟨[61, 52, 48]⟩⟩ 482), (sv ⟨⟨[61, 52, 49]⟩⟩ 486), (sv ⟨⟨[61, 52, 50]⟩⟩ 490), (sv ⟨⟨[61, 52, 51]⟩⟩ 494), (sv ⟨⟨[61, 52, 52]⟩⟩ 498), (sv ⟨⟨[61, 52, 53]⟩⟩ 502), (sv ⟨⟨[61, 52, 54]⟩⟩ 506), (sv ⟨⟨[61, 52, 55]⟩⟩ 510), (sv ⟨⟨[61, 52, 56]⟩⟩ 514), (sv ⟨⟨[61, 52, 57]⟩⟩ 518), (sv ⟨⟨[61, 52, 65]⟩⟩ 522), (sv ⟨⟨[61, 52, 66]⟩⟩ 526), (sv ⟨⟨[61, 52, 67]⟩⟩ 530), (sv ⟨⟨[61, 52, 68]⟩⟩ 534), (sv ⟨⟨[61, 52, 69]⟩⟩ 538), (sv ⟨⟨[61, 52, 70]⟩⟩ 542), (sv ⟨⟨[61, 53, 48]⟩⟩ 546), (sv ⟨⟨[61, 53, 49]⟩⟩ 550), (sv ⟨⟨[61, 53, 50]⟩⟩ 554), (sv ⟨⟨[61, 53, 51]⟩⟩ 558), (sv ⟨⟨[61, 53, 52]⟩⟩ 562), (sv ⟨⟨[61, 53, 53]⟩⟩ 566), (sv ⟨⟨[61, 53, 54]⟩⟩ 570), (sv ⟨⟨[61, 53, 55]⟩⟩ 574), (sv ⟨⟨[61, 53, 56]⟩⟩ 578), (sv ⟨⟨[61, 53, 57]⟩⟩ 582), (sv ⟨⟨[61, 53, 65]⟩⟩ 586), (sv ⟨⟨[61, 53, 66]⟩⟩ 590), (sv ⟨⟨[61, 53, 67]⟩⟩ 594), (sv ⟨⟨[61, 53, 68]⟩⟩ 598), (sv ⟨⟨[61, 53, 69]⟩⟩ 602), (sv ⟨⟨[61, 53, 70]⟩⟩ 606), (sv ⟨⟨[61, 54, 48]⟩⟩ 610), (sv ⟨⟨[61, 54, 49]⟩⟩ 614), (sv ⟨⟨[61, 54, 50]⟩⟩ 618), (sv ⟨⟨[61, 54, 51]⟩⟩ 622), (sv ⟨⟨[61, 54, 52]⟩⟩ 626), (sv ⟨⟨[61, 54, 53]⟩⟩ 630), (sv ⟨⟨[61, 54, 54]⟩⟩ 634), (sv ⟨⟨[61, 54, 55]⟩⟩ 638), (sv ⟨⟨[61, 54, 56]⟩⟩ 642), (sv ⟨⟨[61, 54, 57]⟩⟩ 646), (sv ⟨⟨[61, 54, 65]⟩⟩ 650), (sv ⟨⟨[61, 54, 66]⟩⟩ 654), (sv ⟨⟨[61, 54, 67]⟩⟩ 658), (sv ⟨⟨[61, 54, 68]⟩⟩ 662), (sv ⟨⟨[61, 54, 69]⟩⟩ 666), (sv ⟨⟨[61, 54, 70]⟩⟩ 670), (sv ⟨⟨[61, 55, 48]⟩⟩ 674), (sv ⟨⟨[61, 55, 49]⟩⟩ 678), (sv ⟨⟨[61, 55, 50]⟩⟩ 682), (sv ⟨⟨[61, 55, 51]⟩⟩ 686), (sv ⟨⟨[61, 55, 52]⟩⟩ 690), (sv ⟨⟨[61, 55, 53]⟩⟩ 694), (sv ⟨⟨[61, 55, 54]⟩⟩ 698), (sv ⟨⟨[61, 55, 55]⟩⟩ 702), (sv ⟨⟨[61, 55, 56]⟩⟩ 706), (sv ⟨⟨[61, 55, 57]⟩⟩ 710), (sv ⟨⟨[61, 55, 65]⟩⟩ 714), (sv ⟨⟨[61, 55, 66]⟩⟩ 718), (sv ⟨⟨[61, 55, 67]⟩⟩ 722), (sv ⟨⟨[61, 55, 68]⟩⟩ 726), (sv ⟨⟨[61, 55, 69]⟩⟩ 730), (sv ⟨⟨[61, 55, 70]⟩⟩ 734), (sv ⟨⟨[61, 56, 48]⟩⟩ 738), (sv ⟨⟨[61, 56, 49]⟩⟩ 742), (sv ⟨⟨[61, 56, 50]⟩⟩ 746), (sv ⟨⟨[61, 56, 51]⟩⟩ 750), (sv ⟨⟨[61, 56, 52]⟩⟩ 754), (sv ⟨⟨[61, 56, 53]⟩⟩ 758), (sv ⟨⟨[61, 56, 54]⟩⟩ 762), (sv ⟨⟨[61, 56, 55]⟩⟩ 766), (sv ⟨⟨[61, 56, 56]⟩⟩ 770), (sv ⟨⟨[61, 56, 57]⟩⟩ 774), (sv ⟨⟨[61, 56, 65]⟩⟩ 778), (sv ⟨⟨[61, 56, 66]⟩⟩ 782), (sv ⟨⟨[61, 56, 67]⟩⟩ 786), (sv ⟨⟨[61, 56, 68]⟩⟩ 790), (sv ⟨⟨[61, 56, 69]⟩⟩ 794), (sv ⟨⟨[61, 56, 70]⟩⟩ 798), (sv ⟨⟨[61, 57, 48]⟩⟩ 802), (sv ⟨⟨[61, 57, 49]⟩⟩ 806), (sv ⟨⟨[61, 57, 50]⟩⟩ 810), (sv ⟨⟨[61, 57, 51]⟩⟩ 814), (sv ⟨⟨[61, 57, 52]⟩⟩ 818), (sv ⟨⟨[61, 57, 53]⟩⟩ 822), (sv ⟨⟨[61, 57, 54]⟩⟩ 826), (sv ⟨⟨[61, 57, 55]⟩⟩ 830), (sv ⟨⟨[61, 57, 56]⟩⟩ 834), (sv ⟨⟨[61, 57, 57]⟩⟩ 838), (sv ⟨⟨[61, 57, 65]⟩⟩ 842), (sv ⟨⟨[61, 57, 66]⟩⟩ 846), (sv ⟨⟨[61, 57, 67]⟩⟩ 850), (sv ⟨⟨[61, 57, 68]⟩⟩ 854), (sv ⟨⟨[61, 57, 69]⟩⟩ 858), (sv ⟨⟨[61, 57, 70]⟩⟩ 862), (sv ⟨⟨[61, 65, 48]⟩⟩ 866), (sv ⟨⟨[61, 65, 49]⟩⟩ 870), (sv ⟨⟨[61, 65, 50]⟩⟩ 874), (sv ⟨⟨[61, 65, 51]⟩⟩ 878), (sv ⟨⟨[61, 65, 52]⟩⟩ 882), (sv ⟨⟨[61, 65, 53]⟩⟩ 886), (sv ⟨⟨[61, 65, 54]⟩⟩ 890), (sv ⟨⟨[61, 65, 55]⟩⟩ 894), (sv ⟨⟨[61, 65, 56]⟩⟩ 898), (sv ⟨⟨[61, 65, 57]⟩⟩ 902), (sv ⟨⟨[61, 65, 65]⟩⟩ 906), (sv ⟨⟨[61, 65, 66]⟩⟩ 910), (sv ⟨⟨[61, 65, 67]⟩⟩ 914), (sv ⟨⟨[61, 65, 68]⟩⟩ 918), (sv ⟨⟨[61, 65, 69]⟩⟩ 922), (sv ⟨⟨[61, 65, 70]⟩⟩ 926), (sv ⟨⟨[61, 66, 48]⟩⟩ 930), (sv ⟨⟨[61, 66, 49]⟩⟩ 934), (sv ⟨⟨[61, 66, 50]⟩⟩ 938), (sv ⟨⟨[61, 66, 51]⟩⟩ 942), (sv ⟨⟨[61, 66, 52]⟩⟩ 946), (sv ⟨⟨[61, 66, 53]⟩⟩ 950), (sv ⟨⟨[61, 66, 54]⟩⟩ 954), (sv ⟨⟨[61, 66, 55]⟩⟩ 958), (sv ⟨⟨[61, 66, 56]⟩⟩ 962), (sv ⟨⟨[61, 66, 57]⟩⟩ 966), (sv ⟨⟨[61, 66, 65]⟩⟩ 970), (sv ⟨⟨[61, 66, 66]⟩⟩ 974), (sv ⟨⟨[61, 66, 67]⟩⟩ 978), (sv ⟨⟨[61, 66, 68]⟩⟩ 982), (sv ⟨⟨[61, 66, 69]⟩⟩ 986), (sv ⟨⟨[61, 66, 70]⟩⟩ 990), (sv ⟨⟨[61, 67, 48]⟩⟩ 994), (sv ⟨⟨[61, 67, 49]⟩⟩ 998), (sv ⟨⟨[61, 67, 50]⟩⟩ 1002), (sv ⟨⟨[61, 67, 51]⟩⟩ 1006), (sv ⟨⟨[61, 67, 52]⟩⟩ 1010), (sv ⟨⟨[61, 67, 53]⟩⟩ 1014), (sv ⟨⟨[61, 67, 54]⟩⟩ 1018), (sv ⟨⟨[61, 67, 55]⟩⟩ 1022), (sv ⟨⟨[61, 67, 56]⟩⟩ 1026), (sv ⟨⟨[61, 67, 57]⟩⟩ 1030), (sv ⟨⟨[61, 67, 65]⟩⟩ 1034), (sv ⟨⟨[61, 67, 66]⟩⟩ 1038), (sv ⟨⟨[61, 67, 67]⟩⟩ 1042), (sv ⟨⟨[61, 67, 68]⟩⟩ 1046), (sv ⟨⟨[61, 67, 69]⟩⟩ 1050), (sv ⟨⟨[61, 67, 70]⟩⟩ 1054), (sv ⟨⟨[61, 68, 48]⟩⟩ 1058), (sv ⟨⟨[61, 68, 49]⟩⟩ 1062), (sv ⟨⟨[61, 68, 50]⟩⟩ 1066), (sv ⟨⟨[61, 68, 51]⟩⟩ 1070), (sv ⟨⟨[61, 68, 52]⟩⟩ 1074), (sv ⟨⟨[61, 68, 53]⟩⟩ 1078), (sv ⟨⟨[61, 68, 54]⟩⟩ 1082), (sv ⟨⟨[61, 68, 55]⟩⟩ 1086), (sv ⟨⟨[61, 68, 56]⟩⟩ 1090), (sv ⟨⟨[61, 68, 57]⟩⟩ 1094), (sv ⟨⟨[61, 68, 65]⟩⟩ 1098), (sv ⟨⟨[61, 68, 66]⟩⟩ 1102), (sv ⟨⟨[61, 68, 67]⟩⟩ 1106), (sv ⟨⟨[61, 68, 68]⟩⟩ 1110), (sv ⟨⟨[61, 68, 69]⟩⟩ 1114), (sv ⟨⟨[61, 68, 70]⟩⟩ 1118), (sv ⟨⟨[61, 69, 48]⟩⟩ 1122), (sv ⟨⟨[61, 69, 49]⟩⟩ 1126), (sv ⟨⟨[61, 69, 50]⟩⟩ 1130), (sv ⟨⟨[61, 69, 51]⟩⟩ 1134), (sv ⟨⟨[61, 69, 52]⟩⟩ 1138), (sv ⟨⟨[61, 69, 53]⟩⟩ 1142), (sv ⟨⟨[61, 69, 54]⟩⟩ 1146), (sv ⟨⟨[61, 69, 55]⟩⟩ 1150), (sv ⟨⟨[61, 69, 56]⟩⟩ 1154), (sv ⟨⟨[61, 69, 57]⟩⟩ 1158), (sv ⟨⟨[61, 69, 65]⟩⟩ 1162), (sv ⟨⟨[61, 69, 66]⟩⟩ 1166), (sv ⟨⟨[61, 69, 67]⟩⟩ 1170), (sv ⟨⟨[61, 69, 68]⟩⟩ 1174), (sv ⟨⟨[61, 69, 69]⟩⟩ 1178), (sv ⟨⟨[61, 69, 70]⟩⟩ 1182), (sv ⟨⟨[61, 70, 48]⟩⟩ 1186), (sv ⟨⟨[61, 70, 49]⟩⟩ 1190), (sv ⟨⟨[61, 70, 50]⟩⟩ 1194), (sv ⟨⟨[61, 70, 51]⟩⟩ 1198), (sv ⟨⟨[61, 70, 52]⟩⟩ 1202), (sv ⟨⟨[61, 70, 53]⟩⟩ 1206), (sv ⟨⟨[61, 70, 54]⟩⟩ 1210), (sv ⟨⟨[61, 70, 55]⟩⟩ 1214), (sv ⟨⟨[61, 70, 56]⟩⟩ 1218), (sv ⟨⟨[61, 70, 57]⟩⟩ 1222), (sv ⟨⟨[61, 70, 65]⟩⟩ 1226), (sv ⟨⟨[61, 70, 66]⟩⟩ 1230), (sv ⟨⟨[61, 70, 67]⟩⟩ 1234), (sv ⟨⟨[61, 70, 68]⟩⟩ 1238), (sv ⟨⟨[61, 70, 69]⟩⟩ 1242), (sv ⟨⟨[61, 70, 70]⟩⟩ 1246)]⟩ 0), ⟨[]⟩⟩
noncomputable def T3 (z : Zs) (p : Program) (P : Params) : BT := (.node (boot_o_0 P) (.node (boot_o_1 P) (.node (o3v3 z p P) (.node (boot_o_7 P) (.node (o15v1 z p P) (.node (o31v1 z p P) .nil .nil) .nil) (.node (o23v1 z p P) (.node (o39v3 z p P) .nil .nil) .nil)) (.node (o11v0 z p P) (.node (o19v1 z p P) (.node (o35v2 z p P) .nil .nil) .nil) (.node (o27v1 z p P) .nil .nil))) (.node (boot_o_5 P) (.node (boot_o_9 P) (.node (o17v1 z p P) (.node (o33v1a z p P) .nil .nil) .nil) (.node (o25v1 z p P) (.node (o41v3 z p P) .nil .nil) .nil)) (.node (o13v0 z p P) (.node (o21v1 z p P) (.node (o37v2 z p P) .nil .nil) .nil) (.node (o29v1 z p P) .nil .nil)))) (.node (boot_o_2 P) (.node (boot_o_4 P) (.node (boot_o_8 P) (.node (o16v1 z p P) (.node (o32v1 z p P) .nil .nil) .nil) (.node (o24v1 z p P) (.node (o40v3 z p P) .nil .nil) .nil)) (.node (o12v1 z p P) (.node (o20v1 z p P) (.node (o36v2 z p P) .nil .nil) .nil) (.node (o28v1 z p P) .nil .nil))) (.node (boot_o_6 P) (.node (boot_o_10 P) (.node (o18v1 z p P) (.node (o34v2 z p P) .nil .nil) .nil) (.node (o26v1 z p P) (.node (o42v3 z p P) .nil .nil) .nil)) (.node (o14v0 z p P) (.node (o22v1 z p P) (.node (o38v2 z p P) .nil .nil) .nil) (.node (o30v1 z p P) .nil .nil)))))
noncomputable def o3v3a (z : Zs) (p : Program) (P : Params) : Obj := ⟨(.type "dict"), none, (.dict ⟨[hk P ⟨⟨[95, 95, 110, 97, 109, 101, 95, 95]⟩⟩ 165 (sv ⟨⟨[99, 112, 121, 51, 49, 51, 46, 101, 109, 97, 105, 108, 46, 113, 117, 111, 112, 114, 105, 109, 105, 109, 101]⟩⟩ 1263), hk P ⟨⟨[95, 95, 100, 111, 99, 95, 95]⟩⟩ 166 .none, hk P ⟨⟨[95, 95, 112, 97, 99, 107, 97, 103, 101, 95, 95]⟩⟩ 167 .none, hk P ⟨⟨[95, 95, 108, 111, 97, 100, 101, 114, 95, 95]⟩⟩ 168 (.builtin "__main__.__loader__#opaque"), hk P ⟨⟨[95, 95, 115, 112, 101, 99, 95, 95]⟩⟩ 169 .none, hk P ⟨⟨[95, 95, 97, 110, 110, 111, 116, 97, 116, 105, 111, 110, 115, 95, 95]⟩⟩ 170 (.ref 6), hk P ⟨⟨[95, 95, 98, 117, 105, 108, 116, 105, 110, 115, 95, 95]⟩⟩ 171 (.ref 4), hk P ⟨⟨[95, 95, 102, 105, 108, 101, 95, 95]⟩⟩ 173 (sv (Str.ofString "/claim/cut.py") 172), hk P ⟨⟨[95, 95, 99, 97, 99, 104, 101, 100, 95, 95]⟩⟩ 174 .none, hk P ⟨⟨[105, 110, 115, 111, 114, 116, 95, 108, 101, 102, 116]⟩⟩ 201 (.ref 23), hk P ⟨⟨[98, 105, 115, 101, 99, 116, 95, 108, 101, 102, 116]⟩⟩ 215 (.ref 32), hk P ⟨⟨[67, 82, 76, 70]⟩⟩ 217 (sv ⟨⟨[13, 10]⟩⟩ 216), hk P ⟨⟨[78, 76]⟩⟩ 219 (sv ⟨⟨[10]⟩⟩ 218), hk P ⟨⟨[95, 81, 85, 79, 80, 82, 73, 95, 77, 65, 80]⟩⟩ 1247 (.ref 35), hk P ⟨⟨[95, 81, 85, 79, 80, 82, 73, 95, 72, 69, 65, 68, 69, 82, 95, 77, 65, 80]⟩⟩ 1248 (.ref 40), hk P ⟨⟨[95, 81, 85, 79, 80, 82, 73, 95, 66, 79, 68, 89, 95, 77, 65, 80]⟩⟩ 1249 (.ref 42), hk P ⟨⟨[97, 115, 99, 105, 105, 95, 108, 111, 119, 101, 114, 99, 97, 115, 101]⟩⟩ 1251 (sv ⟨⟨[97, 98, 99, 100, 101, 102, 103, 104, 105, 106, 107, 108, 109, 110, 111, 112, 113, 114, 115, 116, 117, 118, 119, 120, 121, 122]⟩⟩ 1250), hk P ⟨⟨[97, 115, 99, 105, 105, 95, 117, 112, 112, 101, 114, 99, 97, 115, 101]⟩⟩ 1253 (sv ⟨⟨[65, 66, 67, 68, 69, 70, 71, 72, 73, 74, 75, 76, 77, 78, 79, 80, 81, 82, 83, 84, 85, 86, 87, 88, 89, 90]⟩⟩ 1252), hk P ⟨⟨[97, 115, 99, 105, 105, 95, 108, 101, 116, 116, 101, 114, 115]⟩⟩ 1255 (sv ⟨⟨[97, 98, 99, 100, 101, 102, 103, 104, 105, 106, 107, 108, 109, 110, 111, 112, 113, 114, 115, 116, 117, 118, 119, 120, 121, 122, 65, 66, 67, 68, 69, 70, 71, 72, 73, 74, 75, 76, 77, 78, 79, 80, 81, 82, 83, 84, 85, 86, 87, 88, 89, 90]⟩⟩ 1254), hk P ⟨⟨[100, 105, 103, 105, 116, 115]⟩⟩ 1257 (sv ⟨⟨[48, 49, 50, 51, 52, 53, 54, 55, 56, 57]⟩⟩ 1256), hk P ⟨⟨[104, 101, 120, 100, 105, 103, 105, 116, 115]⟩⟩ 1262 (sv ⟨⟨[48, 49, 50, 51, 52, 53, 54, 55, 56, 57, 97, 98, 99, 100, 101, 102, 65, 66, 67, 68, 69, 70]⟩⟩ 1261), hk P ⟨⟨[99]⟩⟩ 1273 (.int 45 1272)]⟩ 22), ⟨[]⟩⟩
noncomputable def o40v3a (z : Zs) (p : Program) (P : Params) : Obj := ⟨(.type z.lst), none, (.seq ⟨[(sv ⟨⟨[61, 48, 48]⟩⟩ 226), (sv ⟨⟨[61, 48, 49]⟩⟩ 230), (sv ⟨⟨[61, 48, 50]⟩⟩ 234), (sv ⟨⟨[61, 48, 51]⟩⟩ 238), (sv ⟨⟨[61, 48, 52]⟩⟩ 242), (sv ⟨⟨[61, 48, 53]⟩⟩ 246), (sv ⟨⟨[61, 48, 54]⟩⟩ 250), (sv ⟨⟨[61, 48, 55]⟩⟩ 254), (sv ⟨⟨[61, 48, 56]⟩⟩ 258), (sv ⟨⟨[61, 48, 57]⟩⟩ 262), (sv ⟨⟨[61, 48, 65]⟩⟩ 266), (sv ⟨⟨[61, 48, 66]⟩⟩ 270), (sv ⟨⟨[61, 48, 67]⟩⟩ 274), (sv ⟨⟨[61, 48, 68]⟩⟩ 278), (sv ⟨⟨[61, 48, 69]⟩⟩ 282), (sv ⟨⟨[61, 48, 70]⟩⟩ 286), (sv ⟨⟨[61, 49, 48]⟩⟩ 290), (sv ⟨⟨[61, 49, 49]⟩⟩ 294), (sv ⟨⟨[61, 49, 50]⟩⟩ 298), (sv ⟨⟨[61, 49, 51]⟩⟩ 302), (sv ⟨⟨[61, 49, 52]⟩⟩ 306), (sv ⟨⟨[61, 49, 53]⟩⟩ 310), (sv ⟨⟨[61, 49, 54]⟩⟩ 314), (sv ⟨⟨[61, 49, 55]⟩⟩ 318), (sv ⟨⟨[61, 49, 56]⟩⟩ 322), (sv ⟨⟨[61, 49, 57]⟩⟩ 326), (sv ⟨⟨[61, 49, 65]⟩⟩ 330), (sv ⟨⟨[61, 49, 66]⟩⟩ 334), (sv ⟨⟨[61, 49, 67]⟩⟩ 338), (sv ⟨⟨[61, 49, 68]⟩⟩ 342), (sv ⟨⟨[61, 49, 69]⟩⟩ 346), (sv ⟨⟨[61, 49, 70]⟩⟩ 350), (sv ⟨⟨[61, 50, 48]⟩⟩ 354), (sv ⟨⟨[61, 50, 49]⟩⟩ 358), (sv ⟨⟨[61, 50, 50]⟩⟩ 362), (sv ⟨⟨[61, 50, 51]⟩⟩ 366), (sv ⟨⟨[61, 50, 52]⟩⟩ 370), (sv ⟨⟨[61, 50, 53]⟩⟩ 374), (sv ⟨⟨[61, 50, 54]⟩⟩ 378), (sv ⟨⟨[61, 50, 55]⟩⟩ 382), (sv ⟨⟨[61, 50, 56]⟩⟩ 386), (sv ⟨⟨[61, 50, 57]⟩⟩ 390), (sv ⟨⟨[61, 50, 65]⟩⟩ 394), (sv ⟨⟨[61, 50, 66]⟩⟩ 398), (sv ⟨⟨[61, 50, 67]⟩⟩ 402), (sv ⟨⟨[45]⟩⟩ 1274), (sv ⟨⟨[61, 50, 69]⟩⟩ 410), (sv ⟨⟨[61, 50, 70]⟩⟩ 414), (sv ⟨⟨[61, 51, 48]⟩⟩ 418), (sv ⟨⟨[61, 51, 49]⟩⟩ 422), (sv ⟨⟨[61, 51, 50]⟩⟩ 426), (sv ⟨⟨[61, 51, 51]⟩⟩ 430), (sv ⟨⟨[61, 51, 52]⟩⟩ 434), (sv ⟨⟨[61, 51, 53]⟩⟩ 438), (sv ⟨⟨[61, 51, 54]⟩⟩ 442), (sv ⟨⟨[61, 51, 55]⟩⟩ 446), (sv ⟨⟨[61, 51, 56]⟩⟩ 450), (sv ⟨⟨[61, 51, 57]⟩⟩ 454), (sv ⟨⟨[61, 51, 65]⟩⟩ 458), (sv ⟨⟨[61, 51, 66]⟩⟩ 462), (sv ⟨⟨[61, 51, 67]⟩⟩ 466), (sv ⟨⟨[61, 51, 68]⟩⟩ 470), (sv ⟨⟨[61, 51, 69]⟩⟩ 474), (sv ⟨⟨[61, 51, 70]⟩⟩ 478), (sv ⟨⟨[61, 52, 48]⟩⟩ 482), (sv ⟨⟨[61, 52, 49]⟩⟩ 486), (sv ⟨⟨[61, 52, 50]⟩⟩ 490), (sv ⟨⟨[61, 52, 51]⟩⟩ 494), (sv ⟨⟨[61, 52, 52]⟩⟩ 498), (sv ⟨⟨[61, 52, 53]⟩⟩ 502), (sv ⟨⟨[61, 52, 54]⟩⟩ 506), (sv ⟨⟨[61, 52, 55]⟩⟩ 510), (sv ⟨⟨[61, 52, 56]⟩⟩ 514), (sv ⟨⟨[61, 52, 57]⟩⟩ 518), (sv ⟨⟨[61, 52, 65]⟩⟩ 522), (sv ⟨⟨[61, 52, 66]⟩⟩ 526), (sv ⟨⟨[61, 52, 67]⟩⟩ 530), (sv ⟨⟨[61, 52, 68]⟩⟩ 534), (sv ⟨⟨[61, 52, 69]⟩⟩ 538), (sv ⟨⟨[61, 52, 70]⟩⟩ 542), (sv ⟨⟨[61, 53, 48]⟩⟩ 546), (sv ⟨⟨[61, 53, 49]⟩⟩ 550), (sv ⟨⟨[61, 53, 50]⟩⟩ 554), (sv ⟨⟨[61, 53, 51]⟩⟩ 558), (sv ⟨⟨[61, 53, 52]⟩⟩ 562), (sv ⟨⟨[61, 53, 53]⟩⟩ 566), (sv ⟨⟨[61, 53, 54]⟩⟩ 570), (sv ⟨⟨[61, 53, 55]⟩⟩ 574), (sv ⟨⟨[61, 53, 56]⟩⟩ 578), (sv ⟨⟨[61, 53, 57]⟩⟩ 582), (sv ⟨⟨[61, 53, 65]⟩⟩ 586), (sv ⟨⟨[61, 53, 66]⟩⟩ 590), (sv ⟨⟨[61, 53, 67]⟩⟩ 594), (sv ⟨⟨[61, 53, 68]⟩⟩ 598), (sv ⟨⟨[61, 53, 69]⟩⟩ 602), (sv ⟨⟨[61, 53, 70]⟩⟩ 606), (sv ⟨⟨[61, 54, 48]⟩⟩ 610), (sv ⟨⟨[61, 54, 49]⟩⟩ 614), (sv ⟨⟨[61, 54, 50]⟩⟩ 618), (sv ⟨⟨[61, 54, 51]⟩⟩ 622), (sv ⟨⟨[61, 54, 52]⟩⟩ 626), (sv ⟨⟨[61, 54, 53]⟩⟩ 630), (sv ⟨⟨[61, 54, 54]⟩⟩ 634), (sv ⟨⟨[61, 54, 55]⟩⟩ 638), (sv ⟨⟨[61, 54, 56]⟩⟩ 642), (sv ⟨⟨[61, 54, 57]⟩⟩ 646), (sv ⟨⟨[61, 54, 65]⟩⟩ 650), (sv ⟨⟨[61, 54, 66]⟩⟩ 654), (sv ⟨⟨[61, 54, 67]⟩⟩ 658), (sv ⟨⟨[61, 54, 68]⟩⟩ 662), (sv ⟨⟨[61, 54, 69]⟩⟩ 666), (sv ⟨⟨[61, 54, 70]⟩⟩ 670), (sv ⟨⟨[61, 55, 48]⟩⟩ 674), (sv ⟨⟨[61, 55, 49]⟩⟩ 678), (sv ⟨⟨[61, 55, 50]⟩⟩ 682), (sv ⟨⟨[61, 55, 51]⟩⟩ 686), (sv ⟨⟨[61, 55, 52]⟩⟩ 690), (sv ⟨⟨[61, 55, 53]⟩⟩ 694), (sv ⟨⟨[61, 55, 54]⟩⟩ 698), (sv ⟨⟨[61, 55, 55]⟩⟩ 702), (sv ⟨⟨[61, 55, 56]⟩⟩ 706), (sv ⟨⟨[61, 55, 57]⟩⟩ 710), (sv ⟨⟨[61, 55, 65]⟩⟩ 714), (sv ⟨⟨[61, 55, 66]⟩⟩ 718), (sv ⟨⟨[61, 55, 67]⟩⟩ 722), (sv ⟨⟨[61, 55, 68]⟩⟩ 726), (sv ⟨⟨[61, 55, 69]⟩⟩ 730), (sv ⟨⟨[61, 55, 70]⟩⟩ 734), (sv ⟨⟨[61, 56, 48]⟩⟩ 738), (sv ⟨⟨[61, 56, 49]⟩⟩ 742), (sv ⟨⟨[61, 56, 50]⟩⟩ 746), (sv ⟨⟨[61, 56, 51]⟩⟩ 750), (sv ⟨⟨[61, 56, 52]⟩⟩ 754), (sv ⟨⟨[61, 56, 53]⟩⟩ 758), (sv ⟨⟨[61, 56, 54]⟩⟩ 762), (sv ⟨⟨[61, 56, 55]⟩⟩ 766), (sv ⟨⟨[61, 56, 56]⟩⟩ 770), (sv ⟨⟨[61, 56, 57]⟩⟩ 774), (sv ⟨⟨[61, 56, 65]⟩⟩ 778), (sv ⟨⟨[61, 56, 66]⟩⟩ 782), (sv ⟨⟨[61, 56, 67]⟩⟩ 786), (sv ⟨⟨[61, 56, 68]⟩⟩ 790), (sv ⟨⟨[61, 56, 69]⟩⟩ 794), (sv ⟨⟨[61, 56, 70]⟩⟩ 798), (sv ⟨⟨[61, 57, 48]⟩⟩ 802), (sv ⟨⟨[61, 57, 49]⟩⟩ 806), (sv ⟨⟨[61, 57, 50]⟩⟩ 810), (sv ⟨⟨[61, 57, 51]⟩⟩ 814), (sv ⟨⟨[61, 57, 52]⟩⟩ 818), (sv ⟨⟨[61, 57, 53]⟩⟩ 822), (sv ⟨⟨[61, 57, 54]⟩⟩ 826), (sv ⟨⟨[61, 57, 55]⟩⟩ 830), (sv ⟨⟨[61, 57, 56]⟩⟩ 834), (sv ⟨⟨[61, 57, 57]⟩⟩ 838), (sv ⟨⟨[61, 57, 65]⟩⟩ 842), (sv ⟨⟨[61, 57, 66]⟩⟩ 846), (sv ⟨⟨[61, 57, 67]⟩⟩ 850), (sv ⟨⟨[61, 57, 68]⟩⟩ 854), (sv ⟨⟨[61, 57, 69]⟩⟩ 858), (sv ⟨⟨[61, 57, 70]⟩⟩ 862), (sv ⟨⟨[61, 65, 48]⟩⟩ 866), (sv ⟨⟨[61, 65, 49]⟩⟩ 870), (sv ⟨⟨[61, 65, 50]⟩⟩ 874), (sv ⟨⟨[61, 65, 51]⟩⟩ 878), (sv ⟨⟨[61, 65, 52]⟩⟩ 882), (sv ⟨⟨[61, 65, 53]⟩⟩ 886), (sv ⟨⟨[61, 65, 54]⟩⟩ 890), (sv ⟨⟨[61, 65, 55]⟩⟩ 894), (sv ⟨⟨[61, 65, 56]⟩⟩ 898), (sv ⟨⟨[61, 65, 57]⟩⟩ 902), (sv ⟨⟨[61, 65, 65]⟩⟩ 906), (sv ⟨⟨[61, 65, 66]⟩⟩ 910), (sv ⟨⟨[61, 65, 67]⟩⟩ 914), (sv ⟨⟨[61, 65, 68]⟩⟩ 918), (sv ⟨⟨[61, 65, 69]⟩⟩ 922), (sv ⟨⟨[61, 65, 70]⟩⟩ 926), (sv ⟨⟨[61, 66, 48]⟩⟩ 930), (sv ⟨⟨[61, 66, 49]⟩⟩ 934), (sv ⟨⟨[61, 66, 50]⟩⟩ 938), (sv ⟨⟨[61, 66, 51]⟩⟩ 942), (sv ⟨⟨[61, 66, 52]⟩⟩ 946), (sv ⟨⟨[61, 66, 53]⟩⟩ 950), (sv ⟨⟨[61, 66, 54]⟩⟩ 954), (sv ⟨⟨[61, 66, 55]⟩⟩ 958), (sv ⟨⟨[61, 66, 56]⟩⟩ 962), (sv ⟨⟨[61, 66, 57]⟩⟩ 966), (sv ⟨⟨[61, 66, 65]⟩⟩ 970), (sv ⟨⟨[61, 66, 66]⟩⟩ 974), (sv ⟨⟨[61, 66, 67]⟩⟩ 978), (sv ⟨⟨[61, 66, 68]⟩⟩ 982), (sv ⟨⟨[61, 66, 69]⟩⟩ 986), (sv ⟨⟨[61, 66, 70]⟩⟩ 990), (sv ⟨⟨[61, 67, 48]⟩⟩ 994), (sv ⟨⟨[61, 67, 49]⟩⟩ 998), (sv ⟨⟨[61, 67, 50]⟩⟩ 1002), (sv ⟨⟨[61, 67, 51]⟩⟩ 1006), (sv ⟨⟨[61, 67, 52]⟩⟩ 1010), (sv ⟨⟨[61, 67, 53]⟩⟩ 1014), (sv ⟨⟨[61, 67, 54]⟩⟩ 1018), (sv ⟨⟨[61, 67, 55]⟩⟩ 1022), (sv ⟨⟨[61, 67, 56]⟩⟩ 1026), (sv ⟨⟨[61, 67, 57]⟩⟩ 1030), (sv ⟨⟨[61, 67, 65]⟩⟩ 1034), (sv ⟨⟨[61, 67, 66]⟩⟩ 1038), (sv ⟨⟨[61, 67, 67]⟩⟩ 1042), (sv ⟨⟨[61, 67, 68]⟩⟩ 1046), (sv ⟨⟨[61, 67, 69]⟩⟩ 1050), (sv ⟨⟨[61, 67, 70]⟩⟩ 1054), (sv ⟨⟨[61, 68, 48]⟩⟩ 1058), (sv ⟨⟨[61, 68, 49]⟩⟩ 1062), (sv ⟨⟨[61, 68, 50]⟩⟩ 1066), (sv ⟨⟨[61, 68, 51]⟩⟩ 1070), (sv ⟨⟨[61, 68, 52]⟩⟩ 1074), (sv ⟨⟨[61, 68, 53]⟩⟩ 1078), (sv ⟨⟨[61, 68, 54]⟩⟩ 1082), (sv ⟨⟨[61, 68, 55]⟩⟩ 1086), (sv ⟨⟨[61, 68, 56]⟩⟩ 1090), (sv ⟨⟨[61, 68, 57]⟩⟩ 1094), (sv ⟨⟨[61, 68, 65]⟩⟩ 1098), (sv ⟨⟨[61, 68, 66]⟩⟩ 1102), (sv ⟨⟨[61, 68, 67]⟩⟩ 1106), (sv ⟨⟨[61, 68, 68]⟩⟩ 1110), (sv ⟨⟨[61, 68, 69]⟩⟩ 1114), (sv ⟨⟨[61, 68, 70]⟩⟩ 1118), (sv ⟨⟨[61, 69, 48]⟩⟩ 1122), (sv ⟨⟨[61, 69, 49]⟩⟩ 1126), (sv ⟨⟨[61, 69, 50]⟩⟩ 1130), (sv ⟨⟨[61, 69, 51]⟩⟩ 1134), (sv ⟨⟨[61, 69, 52]⟩⟩ 1138), (sv ⟨⟨[61, 69, 53]⟩⟩ 1142), (sv ⟨⟨[61, 69, 54]⟩⟩ 1146), (sv ⟨⟨[61, 69, 55]⟩⟩ 1150), (sv ⟨⟨[61, 69, 56]⟩⟩ 1154), (sv ⟨⟨[61, 69, 57]⟩⟩ 1158), (sv ⟨⟨[61, 69, 65]⟩⟩ 1162), (sv ⟨⟨[61, 69, 66]⟩⟩ 1166), (sv ⟨⟨[61, 69, 67]⟩⟩ 1170), (sv ⟨⟨[61, 69, 68]⟩⟩ 1174), (sv ⟨⟨[61, 69, 69]⟩⟩ 1178), (sv ⟨⟨[61, 69, 70]⟩⟩ 1182), (sv ⟨⟨[61, 70, 48]⟩⟩ 1186), (sv ⟨⟨[61, 70, 49]⟩⟩ 1190), (sv ⟨⟨[61, 70, 50]⟩⟩ 1194), (sv ⟨⟨[61, 70, 51]⟩⟩ 1198), (sv ⟨⟨[61, 70, 52]⟩⟩ 1202), (sv ⟨⟨[61, 70, 53]⟩⟩ 1206), (sv ⟨⟨[61, 70, 54]⟩⟩ 1210), (sv ⟨⟨[61, 70, 55]⟩⟩ 1214), (sv ⟨⟨[61, 70, 56]⟩⟩ 1218), (sv ⟨⟨[61, 70, 57]⟩⟩ 1222), (sv ⟨⟨[61, 70, 65]⟩⟩ 1226), (sv ⟨⟨[61, 70, 66]⟩⟩ 1230), (sv ⟨⟨[61, 70, 67]⟩⟩ 1234), (sv ⟨⟨[61, 70, 68]⟩⟩ 1238), (sv ⟨⟨[61, 70, 69]⟩⟩ 1242), (sv ⟨⟨[61, 70, 70]⟩⟩ 1246)]⟩ 0), ⟨[]⟩⟩
noncomputable def o43v3a (z : Zs) (p : Program) (P : Params) : Obj := ⟨(.type z.bit), none, (.fields ⟨[(.bytes ⟨[45, 33, 42, 43, 47, 97, 98, 99, 100, 101, 102, 103, 104, 105, 106, 107, 108, 109, 110, 111, 112, 113, 114, 115, 116, 117, 118, 119, 120, 121, 122, 65, 66, 67, 68, 69, 70, 71, 72, 73, 74, 75, 76, 77, 78, 79, 80, 81, 82, 83, 84, 85, 86, 87, 88, 89, 90, 48, 49, 50, 51, 52, 53, 54, 55, 56, 57]⟩ 1271), (.int 1 0)]⟩), ⟨[]⟩⟩
noncomputable def T3a (z : Zs) (p : Program) (P : Params) : BT := (.node (boot_o_0 P) (.node (boot_o_1 P) (.node (o3v3a z p P) (.node (boot_o_7 P) (.node (o15v1 z p P) (.node (o31v1 z p P) .nil .nil) .nil) (.node (o23v1 z p P) (.node (o39v3 z p P) .nil .nil) .nil)) (.node (o11v0 z p P) (.node (o19v1 z p P) (.node (o35v2 z p P) .nil .nil) .nil) (.node (o27v1 z p P) (.node (o43v3a z p P) .nil .nil) .nil))) (.node (boot_o_5 P) (.node (boot_o_9 P) (.node (o17v1 z p P) (.node (o33v1a z p P) .nil .nil) .nil) (.node (o25v1 z p P) (.node (o41v3 z p P) .nil .nil) .nil)) (.node (o13v0 z p P) (.node (o21v1 z p P) (.node (o37v2 z p P) .nil .nil) .nil) (.node (o29v1 z p P) .nil .nil)))) (.node (boot_o_2 P) (.node (boot_o_4 P) (.node (boot_o_8 P) (.node (o16v1 z p P) (.node (o32v1 z p P) .nil .nil) .nil) (.node (o24v1 z p P) (.node (o40v3a z p P) .nil .nil) .nil)) (.node (o12v1 z p P) (.node (o20v1 z p P) (.node (o36v2 z p P) .nil .nil) .nil) (.node (o28v1 z p P) .nil .nil))) (.node (boot_o_6 P) (.node (boot_o_10 P) (.node (o18v1 z p P) (.node (o34v2 z p P) .nil .nil) .nil) (.node (o26v1 z p P) (.node (o42v3 z p P) .nil .nil) .nil)) (.node (o14v0 z p P) (.node (o22v1 z p P) (.node (o38v2 z p P) .nil .nil) .nil) (.node (o30v1 z p P) .nil .nil)))))
noncomputable def o3v3b (z : Zs) (p : Program) (P : Params) : Obj := ⟨(.type "dict"), none, (.dict ⟨[hk P ⟨⟨[95, 95, 110, 97, 109, 101, 95, 95]⟩⟩ 165 (sv ⟨⟨[99, 112, 121, 51, 49, 51, 46, 101, 109, 97, 105, 108, 46, 113, 117, 111, 112, 114, 105, 109, 105, 109, 101]⟩⟩ 1263), hk P ⟨⟨[95, 95, 100, 111, 99, 95, 95]⟩⟩ 166 .none, hk P ⟨⟨[95, 95, 112, 97, 99, 107, 97, 103, 101, 95, 95]⟩⟩ 167 .none, hk P ⟨⟨[95, 95, 108, 111, 97, 100, 101, 114, 95, 95]⟩⟩ 168 (.builtin "__main__.__loader__#opaque"), hk P ⟨⟨[95, 95, 115, 112, 101, 99, 95, 95]⟩⟩ 169 .none, hk P ⟨⟨[95, 95, 97, 110, 110, 111, 116, 97, 116, 105, 111, 110, 115, 95, 95]⟩⟩ 170 (.ref 6), hk P ⟨⟨[95, 95, 98, 117, 105, 108, 116, 105, 110, 115, 95, 95]⟩⟩ 171 (.ref 4), hk P ⟨⟨[95, 95, 102, 105, 108, 101, 95, 95]⟩⟩ 173 (sv (Str.ofString "/claim/cut.py") 172), hk P ⟨⟨[95, 95, 99, 97, 99, 104, 101, 100, 95, 95]⟩⟩ 174 .none, hk P ⟨⟨[105, 110, 115, 111, 114, 116, 95, 108, 101, 102, 116]⟩⟩ 201 (.ref 23), hk P ⟨⟨[98, 105, 115, 101, 99, 116, 95, 108, 101, 102, 116]⟩⟩ 215 (.ref 32), hk P ⟨⟨[67, 82, 76, 70]⟩⟩ 217 (sv ⟨⟨[13, 10]⟩⟩ 216), hk P ⟨⟨[78, 76]⟩⟩ 219 (sv ⟨⟨[10]⟩⟩ 218), hk P ⟨⟨[95, 81, 85, 79, 80, 82, 73, 95, 77, 65, 80]⟩⟩ 1247 (.ref 35), hk P ⟨⟨[95, 81, 85, 79, 80, 82, 73, 95, 72, 69, 65, 68, 69, 82, 95, 77, 65, 80]⟩⟩ 1248 (.ref 40), hk P ⟨⟨[95, 81, 85, 79, 80, 82, 73, 95, 66, 79, 68, 89, 95, 77, 65, 80]⟩⟩ 1249 (.ref 42), hk P ⟨⟨[97, 115, 99, 105, 105, 95, 108, 111, 119, 101, 114, 99, 97, 115, 101]⟩⟩ 1251 (sv ⟨⟨[97, 98, 99, 100, 101, 102, 103, 104, 105, 106, 107, 108, 109, 110, 111, 112, 113, 114, 115, 116, 117, 118, 119, 120, 121, 122]⟩⟩ 1250), hk P ⟨⟨[97, 115, 99, 105, 105, 95, 117, 112, 112, 101, 114, 99, 97, 115, 101]⟩⟩ 1253 (sv ⟨⟨[65, 66, 67, 68, 69, 70, 71, 72, 73, 74, 75, 76, 77, 78, 79, 80, 81, 82, 83, 84, 85, 86, 87, 88, 89, 90]⟩⟩ 1252), hk P ⟨⟨[97, 115, 99, 105, 105, 95, 108, 101, 116, 116, 101, 114, 115]⟩⟩ 1255 (sv ⟨⟨[97, 98, 99, 100, 101, 102, 103, 104, 105, 106, 107, 108, 109, 110, 111, 112, 113, 114, 115, 116, 117, 118, 119, 120, 121, 122, 65, 66, 67, 68, 69, 70, 71, 72, 73, 74, 75, 76, 77, 78, 79, 80, 81, 82, 83, 84, 85, 86, 87, 88, 89, 90]⟩⟩ 1254), hk P ⟨⟨[100, 105, 103, 105, 116, 115]⟩⟩ 1257 (sv ⟨⟨[48, 49, 50, 51, 52, 53, 54, 55, 56, 57]⟩⟩ 1256), hk P ⟨⟨[104, 101, 120, 100, 105, 103, 105, 116, 115]⟩⟩ 1262 (sv ⟨⟨[48, 49, 50, 51, 52, 53, 54, 55, 56, 57, 97, 98, 99, 100, 101, 102, 65, 66, 67, 68, 69, 70]⟩⟩ 1261), hk P ⟨⟨[99]⟩⟩ 1273 (.int 114 1338)]⟩ 22), ⟨[]⟩⟩
noncomputable def o40v3b (z : Zs) (p : Program) (P : Params) : Obj := ⟨(.type z.lst), none, (.seq ⟨[(sv ⟨⟨[61, 48, 48]⟩⟩ 226), (sv ⟨⟨[61, 48, 49]⟩⟩ 230), (sv ⟨⟨[61, 48, 50]⟩⟩ 234), (sv ⟨⟨[61, 48, 51]⟩⟩ 238), (sv ⟨⟨[61, 48, 52]⟩⟩ 242), (sv ⟨⟨[61, 48, 53]⟩⟩ 246), (sv ⟨⟨[61, 48, 54]⟩⟩ 250), (sv ⟨⟨[61, 48, 55]⟩⟩ 254), (sv ⟨⟨[61, 48, 56]⟩⟩ 258), (sv ⟨⟨[61, 48, 57]⟩⟩ 262), (sv ⟨⟨[61, 48, 65]⟩⟩ 266), (sv ⟨⟨[61, 48, 66]⟩⟩ 270), (sv ⟨⟨[61, 48, 67]⟩⟩ 274), (sv ⟨⟨[61, 48, 68]⟩⟩ 278), (sv ⟨⟨[61, 48, 69]⟩⟩ 282), (sv ⟨⟨[61, 48, 70]⟩⟩ 286), (sv ⟨⟨[61, 49, 48]⟩⟩ 290), (sv ⟨⟨[61, 49, 49]⟩⟩ 294), (sv ⟨⟨[61, 49, 50]⟩⟩ 298), (sv ⟨⟨[61, 49, 51]⟩⟩ 302), (sv ⟨⟨[61, 49, 52]⟩⟩ 306), (sv ⟨⟨[61, 49, 53]⟩⟩ 310), (sv ⟨⟨[61, 49, 54]⟩⟩ 314), (sv ⟨⟨[61, 49, 55]⟩⟩ 318), (sv ⟨⟨[61, 49, 56]⟩⟩ 322), (sv ⟨⟨[61, 49, 57]⟩⟩ 326), (sv ⟨⟨[61, 49, 65]⟩⟩ 330), (sv ⟨⟨[61, 49, 66]⟩⟩ 334), (sv ⟨⟨[61, 49, 67]⟩⟩ 338), (sv ⟨⟨[61, 49, 68]⟩⟩ 342), (sv ⟨⟨[61, 49, 69]⟩⟩ 346), (sv ⟨⟨[61, 49, 70]⟩⟩ 350), (sv ⟨⟨[61, 50, 48]⟩⟩ 354), (sv ⟨⟨[33]⟩⟩ 1277), (sv ⟨⟨[61, 50, 50]⟩⟩ 362), (sv ⟨⟨[61, 50, 51]⟩⟩ 366), (sv ⟨⟨[61, 50, 52]⟩⟩ 370), (sv ⟨⟨[61, 50, 53]⟩⟩ 374), (sv ⟨⟨[61, 50, 54]⟩⟩ 378), (sv ⟨⟨[61, 50, 55]⟩⟩ 382), (sv ⟨⟨[61, 50, 56]⟩⟩ 386), (sv ⟨⟨[61, 50, 57]⟩⟩ 390), (sv ⟨⟨[42]⟩⟩ 1280), (sv ⟨⟨[43]⟩⟩ 1283), (sv ⟨⟨[61, 50, 67]⟩⟩ 402), (sv ⟨⟨[45]⟩⟩ 1274), (sv ⟨⟨[61, 50, 69]⟩⟩ 410), (sv ⟨⟨[47]⟩⟩ 1286), (sv ⟨⟨[61, 51, 48]⟩⟩ 418), (sv ⟨⟨[61, 51, 49]⟩⟩ 422), (sv ⟨⟨[61, 51, 50]⟩⟩ 426), (sv ⟨⟨[61, 51, 51]⟩⟩ 430), (sv ⟨⟨[61, 51, 52]⟩⟩ 434), (sv ⟨⟨[61, 51, 53]⟩⟩ 438), (sv ⟨⟨[61, 51, 54]⟩⟩ 442), (sv ⟨⟨[61, 51, 55]⟩⟩ 446), (sv ⟨⟨[61, 51, 56]⟩⟩ 450), (sv ⟨⟨[61, 51, 57]⟩⟩ 454), (sv ⟨⟨[61, 51, 65]⟩⟩ 458), (sv ⟨⟨[61, 51, 66]⟩⟩ 462), (sv ⟨⟨[61, 51, 67]⟩⟩ 466), (sv ⟨⟨[61, 51, 68]⟩⟩ 470), (sv ⟨⟨[61, 51, 69]⟩⟩ 474), (sv ⟨⟨[61, 51, 70]⟩⟩ 478), (sv ⟨⟨[61, 52, 48]⟩⟩ 482), (sv ⟨⟨[61, 52, 49]⟩⟩ 486), (sv ⟨⟨[61, 52, 50]⟩⟩ 490), (sv ⟨⟨[61, 52, 51]⟩⟩ 494), (sv ⟨⟨[61, 52, 52]⟩⟩ 498), (sv ⟨⟨[61, 52, 53]⟩⟩ 502), (sv ⟨⟨[61, 52, 54]⟩⟩ 506), (sv ⟨⟨[61, 52, 55]⟩⟩ 510), (sv ⟨⟨[61, 52, 56]⟩⟩ 514), (sv ⟨⟨[61, 52, 57]⟩⟩ 518), (sv ⟨⟨[61, 52, 65]⟩⟩ 522), (sv ⟨⟨[61, 52, 66]⟩⟩ 526), (sv ⟨⟨[61, 52, 67]⟩⟩ 530), (sv ⟨⟨[61, 52, 68]⟩⟩ 534), (sv ⟨⟨[61, 52, 69]⟩⟩ 538), (sv ⟨⟨[61, 52, 70]⟩⟩ 542), (sv ⟨⟨[61, 53, 48]⟩⟩ 546), (sv ⟨⟨[61, 53, 49]⟩⟩ 550), (sv ⟨⟨[61, 53, 50]⟩⟩ 554), (sv ⟨⟨[61, 53, 51]⟩⟩ 558), (sv ⟨⟨[61, 53, 52]⟩⟩ 562), (sv ⟨⟨[61, 53, 53]⟩⟩ 566), (sv ⟨⟨[61, 53, 54]⟩⟩ 570), (sv ⟨⟨[61, 53, 55]⟩⟩ 574), (sv ⟨⟨[61, 53, 56]⟩⟩ 578), (sv ⟨⟨[61, 53, 57]⟩⟩ 582), (sv ⟨⟨[61, 53, 65]⟩⟩ 586), (sv ⟨⟨[61, 53, 66]⟩⟩ 590), (sv ⟨⟨[61, 53, 67]⟩⟩ 594), (sv ⟨⟨[61, 53, 68]⟩⟩ 598), (sv ⟨⟨[61, 53, 69]⟩⟩ 602), (sv ⟨⟨[61, 53, 70]⟩⟩ 606), (sv ⟨⟨[61, 54, 48]⟩⟩ 610), (sv ⟨⟨[97]⟩⟩ 1289), (sv ⟨⟨[98]⟩⟩ 1292), (sv ⟨⟨[99]⟩⟩ 1295), (sv ⟨⟨[100]⟩⟩ 1298), (sv ⟨⟨[101]⟩⟩ 1301), (sv ⟨⟨[102]⟩⟩ 1304), (sv ⟨⟨[103]⟩⟩ 1307), (sv ⟨⟨[104]⟩⟩ 1310), (sv ⟨⟨[105]⟩⟩ 1313), (sv ⟨⟨[106]⟩⟩ 1316), (sv ⟨⟨[107]⟩⟩ 1319), (sv ⟨⟨[108]⟩⟩ 1322), (sv ⟨⟨[109]⟩⟩ 1325), (sv ⟨⟨[110]⟩⟩ 1328), (sv ⟨⟨[111]⟩⟩ 1331), (sv ⟨⟨[112]⟩⟩ 1334), (sv ⟨⟨[113]⟩⟩ 1337), (sv ⟨⟨[114]⟩⟩ 1340), (sv ⟨⟨[61, 55, 51]⟩⟩ 686), (sv ⟨⟨[61, 55, 52]⟩⟩ 690), (sv ⟨⟨[61, 55, 53]⟩⟩ 694), (sv ⟨⟨[61, 55, 54]⟩⟩ 698), (sv ⟨⟨[61, 55, 55]⟩⟩ 702), (sv ⟨⟨[61, 55, 56]⟩⟩ 706), (sv ⟨⟨[61, 55, 57]⟩⟩ 710), (sv ⟨⟨[61, 55, 65]⟩⟩ 714), (sv ⟨⟨[61, 55, 66]⟩⟩ 718), (sv ⟨⟨[61, 55, 67]⟩⟩ 722), (sv ⟨⟨[61, 55, 68]⟩⟩ 726), (sv ⟨⟨[61, 55, 69]⟩⟩ 730), (sv ⟨⟨[61, 55, 70]⟩⟩ 734), (sv ⟨⟨[61, 56, 48]⟩⟩ 738), (sv ⟨⟨[61, 56, 49]⟩⟩ 742), (sv ⟨⟨[61, 56, 50]⟩⟩ 746), (sv ⟨⟨[61, 56, 51]⟩⟩ 750), (sv ⟨⟨[61, 56, 52]⟩⟩ 754), (sv ⟨⟨[61, 56, 53]⟩⟩ 758), (sv ⟨⟨[61, 56, 54]⟩⟩ 762), (sv ⟨⟨[61, 56, 55]⟩⟩ 766), (sv ⟨⟨[61, 56, 56]⟩⟩ 770), (sv ⟨⟨[61, 56, 57]⟩⟩ 774), (sv ⟨⟨[61, 56, 65]⟩⟩ 778), (sv ⟨⟨[61, 56, 66]⟩⟩ 782), (sv ⟨⟨[61, 56, 67]⟩⟩ 786), (sv ⟨⟨[61, 56, 68]⟩⟩ 790), (sv ⟨⟨[61, 56, 69]⟩⟩ 794), (sv ⟨⟨[61, 56, 70]⟩⟩ 798), (sv ⟨⟨[61, 57, 48]⟩⟩ 802), (sv ⟨⟨[61, 57, 49]⟩⟩ 806), (sv ⟨⟨[61, 57, 50]⟩⟩ 810), (sv ⟨⟨[61, 57, 51]⟩⟩ 814), (sv ⟨⟨[61, 57, 52]⟩⟩ 818), (sv ⟨⟨[61, 57, 53]⟩⟩ 822), (sv ⟨⟨[61, 57, 54]⟩⟩ 826), (sv ⟨⟨[61, 57, 55]⟩⟩ 830), (sv ⟨⟨[61, 57, 56]⟩⟩ 834), (sv ⟨⟨[61, 57, 57]⟩⟩ 838), (sv ⟨⟨[61, 57, 65]⟩⟩ 842), (sv ⟨⟨[61, 57, 66]⟩⟩ 846), (sv ⟨⟨[61, 57, 67]⟩⟩ 850), (sv ⟨⟨[61, 57, 68]⟩⟩ 854), (sv ⟨⟨[61, 57, 69]⟩⟩ 858), (sv ⟨⟨[61, 57, 70]⟩⟩ 862), (sv ⟨⟨[61, 65, 48]⟩⟩ 866), (sv ⟨⟨[61, 65, 49]⟩⟩ 870), (sv ⟨⟨[61, 65, 50]⟩⟩ 874), (sv ⟨⟨[61, 65, 51]⟩⟩ 878), (sv ⟨⟨[61, 65, 52]⟩⟩ 882), (sv ⟨⟨[61, 65, 53]⟩⟩ 886), (sv ⟨⟨[61, 65, 54]⟩⟩ 890), (sv ⟨⟨[61, 65, 55]⟩⟩ 894), (sv ⟨⟨[61, 65, 56]⟩⟩ 898), (sv ⟨⟨[61, 65, 57]⟩⟩ 902), (sv ⟨⟨[61, 65, 65]⟩⟩ 906), (sv ⟨⟨[61, 65, 66]⟩⟩ 910), (sv ⟨⟨[61, 65, 67]⟩⟩ 914), (sv ⟨⟨[61, 65, 68]⟩⟩ 918), (sv ⟨⟨[61, 65, 69]⟩⟩ 922), (sv ⟨⟨[61, 65, 70]⟩⟩ 926), (sv ⟨⟨[61, 66, 48]⟩⟩ 930), (sv ⟨⟨[61, 66, 49]⟩⟩ 934), (sv ⟨⟨[61, 66, 50]⟩⟩ 938), (sv ⟨⟨[61, 66, 51]⟩⟩ 942), (sv ⟨⟨[61, 66, 52]⟩⟩ 946), (sv ⟨⟨[61, 66, 53]⟩⟩ 950), (sv ⟨⟨[61, 66, 54]⟩⟩ 954), (sv ⟨⟨[61, 66, 55]⟩⟩ 958), (sv ⟨⟨[61, 66, 56]⟩⟩ 962), (sv ⟨⟨[61, 66, 57]⟩⟩ 966), (sv ⟨⟨[61, 66, 65]⟩⟩ 970), (sv ⟨⟨[61, 66, 66]⟩⟩ 974), (sv ⟨⟨[61, 66, 67]⟩⟩ 978), (sv ⟨⟨[61, 66, 68]⟩⟩ 982), (sv ⟨⟨[61, 66, 69]⟩⟩ 986), (sv ⟨⟨[61, 66, 70]⟩⟩ 990), (sv ⟨⟨[61, 67, 48]⟩⟩ 994), (sv ⟨⟨[61, 67, 49]⟩⟩ 998), (sv ⟨⟨[61, 67, 50]⟩⟩ 1002), (sv ⟨⟨[61, 67, 51]⟩⟩ 1006), (sv ⟨⟨[61, 67, 52]⟩⟩ 1010), (sv ⟨⟨[61, 67, 53]⟩⟩ 1014), (sv ⟨⟨[61, 67, 54]⟩⟩ 1018), (sv ⟨⟨[61, 67, 55]⟩⟩ 1022), (sv ⟨⟨[61, 67, 56]⟩⟩ 1026), (sv ⟨⟨[61, 67, 57]⟩⟩ 1030), (sv ⟨⟨[61, 67, 65]⟩⟩ 1034), (sv ⟨⟨[61, 67, 66]⟩⟩ 1038), (sv ⟨⟨[61, 67, 67]⟩⟩ 1042), (sv ⟨⟨[61, 67, 68]⟩⟩ 1046), (sv ⟨⟨[61, 67, 69]⟩⟩ 1050), (sv ⟨⟨[61, 67, 70]⟩⟩ 1054), (sv ⟨⟨[61, 68, 48]⟩⟩ 1058), (sv ⟨⟨[61, 68, 49]⟩⟩ 1062), (sv ⟨⟨[61, 68, 50]⟩⟩ 1066), (sv ⟨⟨[61, 68, 51]⟩⟩ 1070), (sv ⟨⟨[61, 68, 52]⟩⟩ 1074), (sv ⟨⟨[61, 68, 53]⟩⟩ 1078), (sv ⟨⟨[61, 68, 54]⟩⟩ 1082), (sv ⟨⟨[61, 68, 55]⟩⟩ 1086), (sv ⟨⟨[61, 68, 56]⟩⟩ 1090), (sv ⟨⟨[61, 68, 57]⟩⟩ 1094), (sv ⟨⟨[61, 68, 65]⟩⟩ 1098), (sv ⟨⟨[61, 68, 66]⟩⟩ 1102), (sv ⟨⟨[61, 68, 67]⟩⟩ 1106), (sv ⟨⟨[61, 68, 68]⟩⟩ 1110), (sv ⟨⟨[61, 68, 69]⟩⟩ 1114), (sv ⟨⟨[61, 68, 70]⟩⟩ 1118), (sv ⟨⟨[61, 69, 48]⟩⟩ 1122), (sv ⟨⟨[61, 69, 49]⟩⟩ 1126), (sv ⟨⟨[61, 69, 50]⟩⟩ 1130), (sv ⟨⟨[61, 69, 51]⟩⟩ 1134), (sv ⟨⟨[61, 69, 52]⟩⟩ 1138), (sv ⟨⟨[61, 69, 53]⟩⟩ 1142), (sv ⟨⟨[61, 69, 54]⟩⟩ 1146), (sv ⟨⟨[61, 69, 55]⟩⟩ 1150), (sv ⟨⟨[61, 69, 56]⟩⟩ 1154), (sv ⟨⟨[61, 69, 57]⟩⟩ 1158), (sv ⟨⟨[61, 69, 65]⟩⟩ 1162), (sv ⟨⟨[61, 69, 66]⟩⟩ 1166), (sv ⟨⟨[61, 69, 67]⟩⟩ 1170), (sv ⟨⟨[61, 69, 68]⟩⟩ 1174), (sv ⟨⟨[61, 69, 69]⟩⟩ 1178), (sv ⟨⟨[61, 69, 70]⟩⟩ 1182), (sv ⟨⟨[61, 70, 48]⟩⟩ 1186), (sv ⟨⟨[61, 70, 49]⟩⟩ 1190), (sv ⟨⟨[61, 70, 50]⟩⟩ 1194), (sv ⟨⟨[61, 70, 51]⟩⟩ 1198), (sv ⟨⟨[61, 70, 52]⟩⟩ 1202), (sv ⟨⟨[61, 70, 53]⟩⟩ 1206), (sv ⟨⟨[61, 70, 54]⟩⟩ 1210), (sv ⟨⟨[61, 70, 55]⟩⟩ 1214), (sv ⟨⟨[61, 70, 56]⟩⟩ 1218), (sv ⟨⟨[61, 70, 57]⟩⟩ 1222), (sv ⟨⟨[61, 70, 65]⟩⟩ 1226), (sv ⟨⟨[61, 70, 66]⟩⟩ 1230), (sv ⟨⟨[61, 70, 67]⟩⟩ 1234), (sv ⟨⟨[61, 70, 68]⟩⟩ 1238), (sv ⟨⟨[61, 70, 69]⟩⟩ 1242), (sv ⟨⟨[61, 70, 70]⟩⟩ 1246)]⟩ 0), ⟨[]⟩⟩
noncomputable def o43v3b (z : Zs) (p : Program) (P : Params) : Obj := ⟨(.type z.bit), none, (.fields ⟨[(.bytes ⟨[45, 33, 42, 43, 47, 97, 98, 99, 100, 101, 102, 103, 104, 105, 106, 107, 108, 109, 110, 111, 112, 113, 114, 115, 116, 117, 118, 119, 120, 121, 122, 65, 66, 67, 68, 69, 70, 71, 72, 73, 74, 75, 76, 77, 78, 79, 80, 81, 82, 83, 84, 85, 86, 87, 88, 89, 90, 48, 49, 50, 51, 52, 53, 54, 55, 56, 57]⟩ 1271), (.int 23 0)]⟩), ⟨[]⟩⟩
noncomputable def T3b (z : Zs) (p : Program) (P : Params) : BT := (.node (boot_o_0 P) (.node (boot_o_1 P) (.node (o3v3b z p P) (.node (boot_o_7 P) (.node (o15v1 z p P) (.node (o31v1 z p P) .nil .nil) .nil) (.node (o23v1 z p P) (.node (o39v3 z p P) .nil .nil) .nil)) (.node (o11v0 z p P) (.node (o19v1 z p P) (.node (o35v2 z p P) .nil .nil) .nil) (.node (o27v1 z p P) (.node (o43v3b z p P) .nil .nil) .nil))) (.node (boot_o_5 P) (.node (boot_o_9 P) (.node (o17v1 z p P) (.node (o33v1a z p P) .nil .nil) .nil) (.node (o25v1 z p P) (.node (o41v3 z p P) .nil .nil) .nil)) (.node (o13v0 z p P) (.node (o21v1 z p P) (.node (o37v2 z p P) .nil .nil) .nil) (.node (o29v1 z p P) .nil .nil)))) (.node (boot_o_2 P) (.node (boot_o_4 P) (.node (boot_o_8 P) (.node (o16v1 z p P) (.node (o32v1 z p P) .nil .nil) .nil) (.node (o24v1 z p P) (.node (o40v3b z p P) .nil .nil) .nil)) (.node (o12v1 z p P) (.node (o20v1 z p P) (.node (o36v2 z p P) .nil .nil) .nil) (.node (o28v1 z p P) .nil .nil))) (.node (boot_o_6 P) (.node (boot_o_10 P) (.node (o18v1 z p P) (.node (o34v2 z p P) .nil .nil) .nil) (.node (o26v1 z p P) (.node (o42v3 z p P) .nil .nil) .nil)) (.node (o14v0 z p P) (.node (o22v1 z p P) (.node (o38v2 z p P) .nil .nil) .nil) (.node (o30v1 z p P) .nil .nil)))))
noncomputable def o3v3c (z : Zs) (p : Program) (P : Params) : Obj := ⟨(.type "dict"), none, (.dict ⟨[hk P ⟨⟨[95, 95, 110, 97, 109, 101, 95, 95]⟩⟩ 165 (sv ⟨⟨[99, 112, 121, 51, 49, 51, 46, 101, 109, 97, 105, 108, 46, 113, 117, 111, 112, 114, 105, 109, 105, 109, 101]⟩⟩ 1263), hk P ⟨⟨[95, 95, 100, 111, 99, 95, 95]⟩⟩ 166 .none, hk P ⟨⟨[95, 95, 112, 97, 99, 107, 97, 103, 101, 95, 95]⟩⟩ 167 .none, hk P ⟨⟨[95, 95, 108, 111, 97, 100, 101, 114, 95, 95]⟩⟩ 168 (.builtin "__main__.__loader__#opaque"), hk P ⟨⟨[95, 95, 115, 112, 101, 99, 95, 95]⟩⟩ 169 .none, hk P ⟨⟨[95, 95, 97, 110, 110, 111, 116, 97, 116, 105, 111, 110, 115, 95, 95]⟩⟩ 170 (.ref 6), hk P ⟨⟨[95, 95, 98, 117, 105, 108, 116, 105, 110, 115, 95, 95]⟩⟩ 171 (.ref 4), hk P ⟨⟨[95, 95, 102, 105, 108, 101, 95, 95]⟩⟩ 173 (sv (Str.ofString "/claim/cut.py") 172), hk P ⟨⟨[95, 95, 99, 97, 99, 104, 101, 100, 95, 95]⟩⟩ 174 .none, hk P ⟨⟨[105, 110, 115, 111, 114, 116, 95, 108, 101, 102, 116]⟩⟩ 201 (.ref 23), hk P ⟨⟨[98, 105, 115, 101, 99, 116, 95, 108, 101, 102, 116]⟩⟩ 215 (.ref 32), hk P ⟨⟨[67, 82, 76, 70]⟩⟩ 217 (sv ⟨⟨[13, 10]⟩⟩ 216), hk P ⟨⟨[78, 76]⟩⟩ 219 (sv ⟨⟨[10]⟩⟩ 218), hk P ⟨⟨[95, 81, 85, 79, 80, 82, 73, 95, 77, 65, 80]⟩⟩ 1247 (.ref 35), hk P ⟨⟨[95, 81, 85, 79, 80, 82, 73, 95, 72, 69, 65, 68, 69, 82, 95, 77, 65, 80]⟩⟩ 1248 (.ref 40), hk P ⟨⟨[95, 81, 85, 79, 80, 82, 73, 95, 66, 79, 68, 89, 95, 77, 65, 80]⟩⟩ 1249 (.ref 42), hk P ⟨⟨[97, 115, 99, 105, 105, 95, 108, 111, 119, 101, 114, 99, 97, 115, 101]⟩⟩ 1251 (sv ⟨⟨[97, 98, 99, 100, 101, 102, 103, 104, 105, 106, 107, 108, 109, 110, 111, 112, 113, 114, 115, 116, 117, 118, 119, 120, 121, 122]⟩⟩ 1250), hk P ⟨⟨[97, 115, 99, 105, 105, 95, 117, 112, 112, 101, 114, 99, 97, 115, 101]⟩⟩ 1253 (sv ⟨⟨[65, 66, 67, 68, 69, 70, 71, 72, 73, 74, 75, 76, 77, 78, 79, 80, 81, 82, 83, 84, 85, 86, 87, 88, 89, 90]⟩⟩ 1252), hk P ⟨⟨[97, 115, 99, 105, 105, 95, 108, 101, 116, 116, 101, 114, 115]⟩⟩ 1255 (sv ⟨⟨[97, 98, 99, 100, 101, 102, 103, 104, 105, 106, 107, 108, 109, 110, 111, 112, 113, 114, 115, 116, 117, 118, 119, 120, 121, 122, 65, 66, 67, 68, 69, 70, 71, 72, 73, 74, 75, 76, 77, 78, 79, 80, 81, 82, 83, 84, 85, 86, 87, 88, 89, 90]⟩⟩ 1254), hk P ⟨⟨[100, 105, 103, 105, 116, 115]⟩⟩ 1257 (sv ⟨⟨[48, 49, 50, 51, 52, 53, 54, 55, 56, 57]⟩⟩ 1256), hk P ⟨⟨[104, 101, 120, 100, 105, 103, 105, 116, 115]⟩⟩ 1262 (sv ⟨⟨[48, 49, 50, 51, 52, 53, 54, 55, 56, 57, 97, 98, 99, 100, 101, 102, 65, 66, 67, 68, 69, 70]⟩⟩ 1261), hk P ⟨⟨[99]⟩⟩ 1273 (.int 78 1404)]⟩ 22), ⟨[]⟩⟩
noncomputable def o40v3c (z : Zs) (p : Program) (P : Params) : Obj := ⟨(.type z.lst), none, (.seq ⟨[(sv ⟨⟨[61, 48, 48]⟩⟩ 226), (sv ⟨⟨[61, 48, 49]⟩⟩ 230), (sv ⟨⟨[61, 48, 50]⟩⟩ 234), (sv ⟨⟨[61, 48, 51]⟩⟩ 238), (sv ⟨⟨[61, 48, 52]⟩⟩ 242), (sv ⟨⟨[61, 48, 53]⟩⟩ 246), (sv ⟨⟨[61, 48, 54]⟩⟩ 250), (sv ⟨⟨[61, 48, 55]⟩⟩ 254), (sv ⟨⟨[61, 48, 56]⟩⟩ 258), (sv ⟨⟨[61, 48, 57]⟩⟩ 262), (sv ⟨⟨[61, 48, 65]⟩⟩ 266), (sv ⟨⟨[61, 48, 66]⟩⟩ 270), (sv ⟨⟨[61, 48, 67]⟩⟩ 274), (sv ⟨⟨[61, 48, 68]⟩⟩ 278), (sv ⟨⟨[61, 48, 69]⟩⟩ 282), (sv ⟨⟨[61, 48, 70]⟩⟩ 286), (sv ⟨⟨[61, 49, 48]⟩⟩ 290), (sv ⟨⟨[61, 49, 49]⟩⟩ 294), (sv ⟨⟨[61, 49, 50]⟩⟩ 298), (sv ⟨⟨[61, 49, 51]⟩⟩ 302), (sv ⟨⟨[61, 49, 52]⟩⟩ 306), (sv ⟨⟨[61, 49, 53]⟩⟩ 310), (sv ⟨⟨[61, 49, 54]⟩⟩ 314), (sv ⟨⟨[61, 49, 55]⟩⟩ 318), (sv ⟨⟨[61, 49, 56]⟩⟩ 322), (sv ⟨⟨[61, 49, 57]⟩⟩ 326), (sv ⟨⟨[61, 49, 65]⟩⟩ 330), (sv ⟨⟨[61, 49, 66]⟩⟩ 334), (sv ⟨⟨[61, 49, 67]⟩⟩ 338), (sv ⟨⟨[61, 49, 68]⟩⟩ 342), (sv ⟨⟨[61, 49, 69]⟩⟩ 346), (sv ⟨⟨[61, 49, 70]⟩⟩ 350), (sv ⟨⟨[61, 50, 48]⟩⟩ 354), (sv ⟨⟨[33]⟩⟩ 1277), (sv ⟨⟨[61, 50, 50]⟩⟩ 362), (sv ⟨⟨[61, 50, 51]⟩⟩ 366), (sv ⟨⟨[61, 50, 52]⟩⟩ 370), (sv ⟨⟨[61, 50, 53]⟩⟩ 374), (sv ⟨⟨[61, 50, 54]⟩⟩ 378), (sv ⟨⟨[61, 50, 55]⟩⟩ 382), (sv ⟨⟨[61, 50, 56]⟩⟩ 386), (sv ⟨⟨[61, 50, 57]⟩⟩ 390), (sv ⟨⟨[42]⟩⟩ 1280), (sv ⟨⟨[43]⟩⟩ 1283), (sv ⟨⟨[61, 50, 67]⟩⟩ 402), (sv ⟨⟨[45]⟩⟩ 1274), (sv ⟨⟨[61, 50, 69]⟩⟩ 410), (sv ⟨⟨[47]⟩⟩ 1286), (sv ⟨⟨[61, 51, 48]⟩⟩ 418), (sv ⟨⟨[61, 51, 49]⟩⟩ 422), (sv ⟨⟨[61, 51, 50]⟩⟩ 426), (sv ⟨⟨[61, 51, 51]⟩⟩ 430), (sv ⟨⟨[61, 51, 52]⟩⟩ 434), (sv ⟨⟨[61, 51, 53]⟩⟩ 438), (sv ⟨⟨[61, 51, 54]⟩⟩ 442), (sv ⟨⟨[61, 51, 55]⟩⟩ 446), (sv ⟨⟨[61, 51, 56]⟩⟩ 450), (sv ⟨⟨[61, 51, 57]⟩⟩ 454), (sv ⟨⟨[61, 51, 65]⟩⟩ 458), (sv ⟨⟨[61, 51, 66]⟩⟩ 462), (sv ⟨⟨[61, 51, 67]⟩⟩ 466), (sv ⟨⟨[61, 51, 68]⟩⟩ 470), (sv ⟨⟨[61, 51, 69]⟩⟩ 474), (sv ⟨⟨[61, 51, 70]⟩⟩ 478), (sv ⟨⟨[61, 52, 48]⟩⟩ 482), (sv ⟨⟨[65]⟩⟩ 1367), (sv ⟨⟨[66]⟩⟩ 1370), (sv ⟨⟨[67]⟩⟩ 1373), (sv ⟨⟨[68]⟩⟩ 1376), (sv ⟨⟨[69]⟩⟩ 1379), (sv ⟨⟨[70]⟩⟩ 1382), (sv ⟨⟨[71]⟩⟩ 1385), (sv ⟨⟨[72]⟩⟩ 1388), (sv ⟨⟨[73]⟩⟩ 1391), (sv ⟨⟨[74]⟩⟩ 1394), (sv ⟨⟨[75]⟩⟩ 1397), (sv ⟨⟨[76]⟩⟩ 1400), (sv ⟨⟨[77]⟩⟩ 1403), (sv ⟨⟨[78]⟩⟩ 1406), (sv ⟨⟨[61, 52, 70]⟩⟩ 542), (sv ⟨⟨[61, 53, 48]⟩⟩ 546), (sv ⟨⟨[61, 53, 49]⟩⟩ 550), (sv ⟨⟨[61, 53, 50]⟩⟩ 554), (sv ⟨⟨[61, 53, 51]⟩⟩ 558), (sv ⟨⟨[61, 53, 52]⟩⟩ 562), (sv ⟨⟨[61, 53, 53]⟩⟩ 566), (sv ⟨⟨[61, 53, 54]⟩⟩ 570), (sv ⟨⟨[61, 53, 55]⟩⟩ 574), (sv ⟨⟨[61, 53, 56]⟩⟩ 578), (sv ⟨⟨[61, 53, 57]⟩⟩ 582), (sv ⟨⟨[61, 53, 65]⟩⟩ 586), (sv ⟨⟨[61, 53, 66]⟩⟩ 590), (sv ⟨⟨[61, 53, 67]⟩⟩ 594), (sv ⟨⟨[61, 53, 68]⟩⟩ 598), (sv ⟨⟨[61, 53, 69]⟩⟩ 602), (sv ⟨⟨[61, 53, 70]⟩⟩ 606), (sv ⟨⟨[61, 54, 48]⟩⟩ 610), (sv ⟨⟨[97]⟩⟩ 1289), (sv ⟨⟨[98]⟩⟩ 1292), (sv ⟨⟨[99]⟩⟩ 1295), (sv ⟨⟨[100]⟩⟩ 1298), (sv ⟨⟨[101]⟩⟩ 1301), (sv ⟨⟨[102]⟩⟩ 1304), (sv ⟨⟨[103]⟩⟩ 1307), (sv ⟨⟨[104]⟩⟩ 1310), (sv ⟨⟨[105]⟩⟩ 1313), (sv ⟨⟨[106]⟩⟩ 1316), (sv ⟨⟨[107]⟩⟩ 1319), (sv ⟨⟨[108]⟩⟩ 1322), (sv ⟨⟨[109]⟩⟩ 1325), (sv ⟨⟨[110]⟩⟩ 1328), (sv ⟨⟨[111]⟩⟩ 1331), (sv ⟨⟨[112]⟩⟩ 1334), (sv ⟨⟨[113]⟩⟩ 1337), (sv ⟨⟨[114]⟩⟩ 1340), (sv ⟨⟨[115]⟩⟩ 1343), (sv ⟨⟨[116]⟩⟩ 1346), (sv ⟨⟨[117]⟩⟩ 1349), (sv ⟨⟨[118]⟩⟩ 1352), (sv ⟨⟨[119]⟩⟩ 1355), (sv ⟨⟨[120]⟩⟩ 1358), (sv ⟨⟨[121]⟩⟩ 1361), (sv ⟨⟨[122]⟩⟩ 1364), (sv ⟨⟨[61, 55, 66]⟩⟩ 718), (sv ⟨⟨[61, 55, 67]⟩⟩ 722), (sv ⟨⟨[61, 55, 68]⟩⟩ 726), (sv ⟨⟨[61, 55, 69]⟩⟩ 730), (sv ⟨⟨[61, 55, 70]⟩⟩ 734), (sv ⟨⟨[61, 56, 48]⟩⟩ 738), (sv ⟨⟨[61, 56, 49]⟩⟩ 742), (sv ⟨⟨[61, 56, 50]⟩⟩ 746), (sv ⟨⟨[61, 56, 51]⟩⟩ 750), (sv ⟨⟨[61, 56, 52]⟩⟩ 754), (sv ⟨⟨[61, 56, 53]⟩⟩ 758), (sv ⟨⟨[61, 56, 54]⟩⟩ 762), (sv ⟨⟨[61, 56, 55]⟩⟩ 766), (sv ⟨⟨[61, 56, 56]⟩⟩ 770), (sv ⟨⟨[61, 56, 57]⟩⟩ 774), (sv ⟨⟨[61, 56, 65]⟩⟩ 778), (sv ⟨⟨[61, 56, 66]⟩⟩ 782), (sv ⟨⟨[61, 56, 67]⟩⟩ 786), (sv ⟨⟨[61, 56, 68]⟩⟩ 790), (sv ⟨⟨[61, 56, 69]⟩⟩ 794), (sv ⟨⟨[61, 56, 70]⟩⟩ 798), (sv ⟨⟨[61, 57, 48]⟩⟩ 802), (sv ⟨⟨[61, 57, 49]⟩⟩ 806), (sv ⟨⟨[61, 57, 50]⟩⟩ 810), (sv ⟨⟨[61, 57, 51]⟩⟩ 814), (sv ⟨⟨[61, 57, 52]⟩⟩ 818), (sv ⟨⟨[61, 57, 53]⟩⟩ 822), (sv ⟨⟨[61, 57, 54]⟩⟩ 826), (sv ⟨⟨[61, 57, 55]⟩⟩ 830), (sv ⟨⟨[61, 57, 56]⟩⟩ 834), (sv ⟨⟨[61, 57, 57]⟩⟩ 838), (sv ⟨⟨[61, 57, 65]⟩⟩ 842), (sv ⟨⟨[61, 57, 66]⟩⟩ 846), (sv ⟨⟨[61, 57, 67]⟩⟩ 850), (sv ⟨⟨[61, 57, 68]⟩⟩ 854), (sv ⟨⟨[61, 57, 69]⟩⟩ 858), (sv ⟨⟨[61, 57, 70]⟩⟩ 862), (sv ⟨⟨[61, 65, 48]⟩⟩ 866), (sv ⟨⟨[61, 65, 49]⟩⟩ 870), (sv ⟨⟨[61, 65, 50]⟩⟩ 874), (sv ⟨⟨[61, 65, 51]⟩⟩ 878), (sv ⟨⟨[61, 65, 52]⟩⟩ 882), (sv ⟨⟨[61, 65, 53]⟩⟩ 886), (sv ⟨⟨[61, 65, 54]⟩⟩ 890), (sv ⟨⟨[61, 65, 55]⟩⟩ 894), (sv ⟨⟨[61, 65, 56]⟩⟩ 898), (sv ⟨⟨[61, 65, 57]⟩⟩ 902), (sv ⟨⟨[61, 65, 65]⟩⟩ 906), (sv ⟨⟨[61, 65, 66]⟩⟩ 910), (sv ⟨⟨[61, 65, 67]⟩⟩ 914), (sv ⟨⟨[61, 65, 68]⟩⟩ 918), (sv ⟨⟨[61, 65, 69]⟩⟩ 922), (sv ⟨⟨[61, 65, 70]⟩⟩ 926), (sv ⟨⟨[61, 66, 48]⟩⟩ 930), (sv ⟨⟨[61, 66, 49]⟩⟩ 934), (sv ⟨⟨[61, 66, 50]⟩⟩ 938), (sv ⟨⟨[61, 66, 51]⟩⟩ 942), (sv ⟨⟨[61, 66, 52]⟩⟩ 946), (sv ⟨⟨[61, 66, 53]⟩⟩ 950), (sv ⟨⟨[61, 66, 54]⟩⟩ 954), (sv ⟨⟨[61, 66, 55]⟩⟩ 958), (sv ⟨⟨[61, 66, 56]⟩⟩ 962), (sv ⟨⟨[61, 66, 57]⟩⟩ 966), (sv ⟨⟨[61, 66, 65]⟩⟩ 970), (sv ⟨⟨[61, 66, 66]⟩⟩ 974), (sv ⟨⟨[61, 66, 67]⟩⟩ 978), (sv ⟨⟨[61, 66, 68]⟩⟩ 982), (sv ⟨⟨[61, 66, 69]⟩⟩ 986), (sv ⟨⟨[61, 66, 70]⟩⟩ 990), (sv ⟨⟨[61, 67, 48]⟩⟩ 994), (sv ⟨⟨[61, 67, 49]⟩⟩ 998), (sv ⟨⟨[61, 67, 50]⟩⟩ 1002), (sv ⟨⟨[61, 67, 51]⟩⟩ 1006), (sv ⟨⟨[61, 67, 52]⟩⟩ 1010), (sv ⟨⟨[61, 67, 53]⟩⟩ 1014), (sv ⟨⟨[61, 67, 54]⟩⟩ 1018), (sv ⟨⟨[61, 67, 55]⟩⟩ 1022), (sv ⟨⟨[61, 67, 56]⟩⟩ 1026), (sv ⟨⟨[61, 67, 57]⟩⟩ 1030), (sv ⟨⟨[61, 67, 65]⟩⟩ 1034), (sv ⟨⟨[61, 67, 66]⟩⟩ 1038), (sv ⟨⟨[61, 67, 67]⟩⟩ 1042), (sv ⟨⟨[61, 67, 68]⟩⟩ 1046), (sv ⟨⟨[61, 67, 69]⟩⟩ 1050), (sv ⟨⟨[61, 67, 70]⟩⟩ 1054), (sv ⟨⟨[61, 68, 48]⟩⟩ 1058), (sv ⟨⟨[61, 68, 49]⟩⟩ 1062), (sv ⟨⟨[61, 68, 50]⟩⟩ 1066), (sv ⟨⟨[61, 68, 51]⟩⟩ 1070), (sv ⟨⟨[61, 68, 52]⟩⟩ 1074), (sv ⟨⟨[61, 68, 53]⟩⟩ 1078), (sv ⟨⟨[61, 68, 54]⟩⟩ 1082), (sv ⟨⟨[61, 68, 55]⟩⟩ 1086), (sv ⟨⟨[61, 68, 56]⟩⟩ 1090), (sv ⟨⟨[61, 68, 57]⟩⟩ 1094), (sv ⟨⟨[61, 68, 65]⟩⟩ 1098), (sv ⟨⟨[61, 68, 66]⟩⟩ 1102), (sv ⟨⟨[61, 68, 67]⟩⟩ 1106), (sv ⟨⟨[61, 68, 68]⟩⟩ 1110), (sv ⟨⟨[61, 68, 69]⟩⟩ 1114), (sv ⟨⟨[61, 68, 70]⟩⟩ 1118), (sv ⟨⟨[61, 69, 48]⟩⟩ 1122), (sv ⟨⟨[61, 69, 49]⟩⟩ 1126), (sv ⟨⟨[61, 69, 50]⟩⟩ 1130), (sv ⟨⟨[61, 69, 51]⟩⟩ 1134), (sv ⟨⟨[61, 69, 52]⟩⟩ 1138), (sv ⟨⟨[61, 69, 53]⟩⟩ 1142), (sv ⟨⟨[61, 69, 54]⟩⟩ 1146), (sv ⟨⟨[61, 69, 55]⟩⟩ 1150), (sv ⟨⟨[61, 69, 56]⟩⟩ 1154), (sv ⟨⟨[61, 69, 57]⟩⟩ 1158), (sv ⟨⟨[61, 69, 65]⟩⟩ 1162), (sv ⟨⟨[61, 69, 66]⟩⟩ 1166), (sv ⟨⟨[61, 69, 67]⟩⟩ 1170), (sv ⟨⟨[61, 69, 68]⟩⟩ 1174), (sv ⟨⟨[61, 69, 69]⟩⟩ 1178), (sv ⟨⟨[61, 69, 70]⟩⟩ 1182), (sv ⟨⟨[61, 70, 48]⟩⟩ 1186), (sv ⟨⟨[61, 70, 49]⟩⟩ 1190), (sv ⟨⟨[61, 70, 50]⟩⟩ 1194), (sv ⟨⟨[61, 70, 51]⟩⟩ 1198), (sv ⟨⟨[61, 70, 52]⟩⟩ 1202), (sv ⟨⟨[61, 70, 53]⟩⟩ 1206), (sv ⟨⟨[61, 70, 54]⟩⟩ 1210), (sv ⟨⟨[61, 70, 55]⟩⟩ 1214), (sv ⟨⟨[61, 70, 56]⟩⟩ 1218), (sv ⟨⟨[61, 70, 57]⟩⟩ 1222), (sv ⟨⟨[61, 70, 65]⟩⟩ 1226), (sv ⟨⟨[61, 70, 66]⟩⟩ 1230), (sv ⟨⟨[61, 70, 67]⟩⟩ 1234), (sv ⟨⟨[61, 70, 68]⟩⟩ 1238), (sv ⟨⟨[61, 70, 69]⟩⟩ 1242), (sv ⟨⟨[61, 70, 70]⟩⟩ 1246)]⟩ 0), ⟨[]⟩⟩
noncomputable def o43v3c (z : Zs) (p : Program) (P : Params) : Obj := ⟨(.type z.bit), none, (.fields ⟨[(.bytes ⟨[45, 33, 42, 43, 47, 97, 98, 99, 100, 101, 102, 103, 104, 105, 106, 107, 108, 109, 110, 111, 112, 113, 114, 115, 116, 117, 118, 119, 120, 121, 122, 65, 66, 67, 68, 69, 70, 71, 72, 73, 74, 75, 76, 77, 78, 79, 80, 81, 82, 83, 84, 85, 86, 87, 88, 89, 90, 48, 49, 50, 51, 52, 53, 54, 55, 56, 57]⟩ 1271), (.int 45 0)]⟩), ⟨[]⟩⟩
noncomputable def T3c (z : Zs) (p : Program) (P : Params) : BT := (.node (boot_o_0 P) (.node (boot_o_1 P) (.node (o3v3c z p P) (.node (boot_o_7 P) (.node (o15v1 z p P) (.node (o31v1 z p P) .nil .nil) .nil) (.node (o23v1 z p P) (.node (o39v3 z p P) .nil .nil) .nil)) (.node (o11v0 z p P) (.node (o19v1 z p P) (.node (o35v2 z p P) .nil .nil) .nil) (.node (o27v1 z p P) (.node (o43v3c z p P) .nil .nil) .nil))) (.node (boot_o_5 P) (.node (boot_o_9 P) (.node (o17v1 z p P) (.node (o33v1a z p P) .nil .nil) .nil) (.node (o25v1 z p P) (.node (o41v3 z p P) .nil .nil) .nil)) (.node (o13v0 z p P) (.node (o21v1 z p P) (.node (o37v2 z p P) .nil .nil) .nil) (.node (o29v1 z p P) .nil .nil)))) (.node (boot_o_2 P) (.node (boot_o_4 P) (.node (boot_o_8 P) (.node (o16v1 z p P) (.node (o32v1 z p P) .nil .nil) .nil) (.node (o24v1 z p P) (.node (o40v3c z p P) .nil .nil) .nil)) (.node (o12v1 z p P) (.node (o20v1 z p P) (.node (o36v2 z p P) .nil .nil) .nil) (.node (o28v1 z p P) .nil .nil))) (.node (boot_o_6 P) (.node (boot_o_10 P) (.node (o18v1 z p P) (.node (o34v2 z p P) .nil .nil) .nil) (.node (o26v1 z p P) (.node (o42v3 z p P) .nil .nil) .nil)) (.node (o14v0 z p P) (.node (o22v1 z p P) (.node (o38v2 z p P) .nil .nil) .nil) (.node (o30v1 z p P) .nil .nil)))))
noncomputable def o3v4 (z : Zs) (p : Program) (P : Params) : Obj := ⟨(.type "dict"), none, (.dict ⟨[hk P ⟨⟨[95, 95, 110, 97, 109, 101, 95, 95]⟩⟩ 165 (sv ⟨⟨[99, 112, 121, 51, 49, 51, 46, 101, 109, 97, 105, 108, 46, 113, 117, 111, 112, 114, 105, 109, 105, 109, 101]⟩⟩ 1263), hk P ⟨⟨[95, 95, 100, 111, 99, 95, 95]⟩⟩ 166 .none, hk P ⟨⟨[95, 95, 112, 97, 99, 107, 97, 103, 101, 95, 95]⟩⟩ 167 .none, hk P ⟨⟨[95, 95, 108, 111, 97, 100, 101, 114, 95, 95]⟩⟩ 168 (.builtin "__main__.__loader__#opaque"), hk P ⟨⟨[95, 95, 115, 112, 101, 99, 95, 95]⟩⟩ 169 .none, hk P ⟨⟨[95, 95, 97, 110, 110, 111, 116, 97, 116, 105, 111, 110, 115, 95, 95]⟩⟩ 170 (.ref 6), hk P ⟨⟨[95, 95, 98, 117, 105, 108, 116, 105, 110, 115, 95, 95]⟩⟩ 171 (.ref 4), hk P ⟨⟨[95, 95, 102, 105, 108, 101, 95, 95]⟩⟩ 173 (sv (Str.ofString "/claim/cut.py") 172), hk P ⟨⟨[95, 95, 99, 97, 99, 104, 101, 100, 95, 95]⟩⟩ 174 .none, hk P ⟨⟨[105, 110, 115, 111, 114, 116, 95, 108, 101, 102, 116]⟩⟩ 201 (.ref 23), hk P ⟨⟨[98, 105, 115, 101, 99, 116, 95, 108, 101, 102, 116]⟩⟩ 215 (.ref 32), hk P ⟨⟨[67, 82, 76, 70]⟩⟩ 217 (sv ⟨⟨[13, 10]⟩⟩ 216), hk P ⟨⟨[78, 76]⟩⟩ 219 (sv ⟨⟨[10]⟩⟩ 218), hk P ⟨⟨[95, 81, 85, 79, 80, 82, 73, 95, 77, 65, 80]⟩⟩ 1247 (.ref 35), hk P ⟨⟨[95, 81, 85, 79, 80, 82, 73, 95, 72, 69, 65, 68, 69, 82, 95, 77, 65, 80]⟩⟩ 1248 (.ref 40), hk P ⟨⟨[95, 81, 85, 79, 80, 82, 73, 95, 66, 79, 68, 89, 95, 77, 65, 80]⟩⟩ 1249 (.ref 42), hk P ⟨⟨[97, 115, 99, 105, 105, 95, 108, 111, 119, 101, 114, 99, 97, 115, 101]⟩⟩ 1251 (sv ⟨⟨[97, 98, 99, 100, 101, 102, 103, 104, 105, 106, 107, 108, 109, 110, 111, 112, 113, 114, 115, 116, 117, 118, 119, 120, 121, 122]⟩⟩ 1250), hk P ⟨⟨[97, 115, 99, 105, 105, 95, 117, 112, 112, 101, 114, 99, 97, 115, 101]⟩⟩ 1253 (sv ⟨⟨[65, 66, 67, 68, 69, 70, 71, 72, 73, 74, 75, 76, 77, 78, 79, 80, 81, 82, 83, 84, 85, 86, 87, 88, 89, 90]⟩⟩ 1252), hk P ⟨⟨[97, 115, 99, 105, 105, 95, 108, 101, 116, 116, 101, 114, 115]⟩⟩ 1255 (sv ⟨⟨[97, 98, 99, 100, 101, 102, 103, 104, 105, 106, 107, 108, 109, 110, 111, 112, 113, 114, 115, 116, 117, 118, 119, 120, 121, 122, 65, 66, 67, 68, 69, 70, 71, 72, 73, 74, 75, 76, 77, 78, 79, 80, 81, 82, 83, 84, 85, 86, 87, 88, 89, 90]⟩⟩ 1254), hk P ⟨⟨[100, 105, 103, 105, 116, 115]⟩⟩ 1257 (sv ⟨⟨[48, 49, 50, 51, 52, 53, 54, 55, 56, 57]⟩⟩ 1256), hk P ⟨⟨[104, 101, 120, 100, 105, 103, 105, 116, 115]⟩⟩ 1262 (sv ⟨⟨[48, 49, 50, 51, 52, 53, 54, 55, 56, 57, 97, 98, 99, 100, 101, 102, 65, 66, 67, 68, 69, 70]⟩⟩ 1261), hk P ⟨⟨[99]⟩⟩ 1273 (.int 57 1470)]⟩ 22), ⟨[]⟩⟩
noncomputable def o40v4 (z : Zs) (p : Program) (P : Params) : Obj := ⟨(.type z.lst), none, (.seq ⟨[(sv ⟨⟨[61, 48, 48]⟩⟩ 226), (sv ⟨⟨[61, 48, 49]⟩⟩ 230), (sv ⟨⟨[61, 48, 50]⟩⟩ 234), (sv ⟨⟨[61, 48, 51]⟩⟩ 238), (sv ⟨⟨[61, 48, 52]⟩⟩ 242), (sv ⟨⟨[61, 48, 53]⟩⟩ 246), (sv ⟨⟨[61, 48, 54]⟩⟩ 250), (sv ⟨⟨[61, 48, 55]⟩⟩ 254), (sv ⟨⟨[61, 48, 56]⟩⟩ 258), (sv ⟨⟨[61, 48, 57]⟩⟩ 262), (sv ⟨⟨[61, 48, 65]⟩⟩ 266), (sv ⟨⟨[61, 48, 66]⟩⟩ 270), (sv ⟨⟨[61, 48, 67]⟩⟩ 274), (sv ⟨⟨[61, 48, 68]⟩⟩ 278), (sv ⟨⟨[61, 48, 69]⟩⟩ 282), (sv ⟨⟨[61, 48, 70]⟩⟩ 286), (sv ⟨⟨[61, 49, 48]⟩⟩ 290), (sv ⟨⟨[61, 49, 49]⟩⟩ 294), (sv ⟨⟨[61, 49, 50]⟩⟩ 298), (sv ⟨⟨[61, 49, 51]⟩⟩ 302), (sv ⟨⟨[61, 49, 52]⟩⟩ 306), (sv ⟨⟨[61, 49, 53]⟩⟩ 310), (sv ⟨⟨[61, 49, 54]⟩⟩ 314), (sv ⟨⟨[61, 49, 55]⟩⟩ 318), (sv ⟨⟨[61, 49, 56]⟩⟩ 322), (sv ⟨⟨[61, 49, 57]⟩⟩ 326), (sv ⟨⟨[61, 49, 65]⟩⟩ 330), (sv ⟨⟨[61, 49, 66]⟩⟩ 334), (sv ⟨⟨[61, 49, 67]⟩⟩ 338), (sv ⟨⟨[61, 49, 68]⟩⟩ 342), (sv ⟨⟨[61, 49, 69]⟩⟩ 346), (sv ⟨⟨[61, 49, 70]⟩⟩ 350), (sv ⟨⟨[95]⟩⟩ 1473), (sv ⟨⟨[33]⟩⟩ 1277), (sv ⟨⟨[61, 50, 50]⟩⟩ 362), (sv ⟨⟨[61, 50, 51]⟩⟩ 366), (sv ⟨⟨[61, 50, 52]⟩⟩ 370), (sv ⟨⟨[61, 50, 53]⟩⟩ 374), (sv ⟨⟨[61, 50, 54]⟩⟩ 378), (sv ⟨⟨[61, 50, 55]⟩⟩ 382), (sv ⟨⟨[61, 50, 56]⟩⟩ 386), (sv ⟨⟨[61, 50, 57]⟩⟩ 390), (sv ⟨⟨[42]⟩⟩ 1280), (sv ⟨⟨[43]⟩⟩ 1283), (sv ⟨⟨[61, 50, 67]⟩⟩ 402), (sv ⟨⟨[45]⟩⟩ 1274), (sv ⟨⟨[61, 50, 69]⟩⟩ 410), (sv ⟨⟨[47]⟩⟩ 1286), (sv ⟨⟨[48]⟩⟩ 1445), (sv ⟨⟨[49]⟩⟩ 1448), (sv ⟨⟨[50]⟩⟩ 1451), (sv ⟨⟨[51]⟩⟩ 1454), (sv ⟨⟨[52]⟩⟩ 1457), (sv ⟨⟨[53]⟩⟩ 1460), (sv ⟨⟨[54]⟩⟩ 1463), (sv ⟨⟨[55]⟩⟩ 1466), (sv ⟨⟨[56]⟩⟩ 1469), (sv ⟨⟨[57]⟩⟩ 1472), (sv ⟨⟨[61, 51, 65]⟩⟩ 458), (sv ⟨⟨[61, 51, 66]⟩⟩ 462), (sv ⟨⟨[61, 51, 67]⟩⟩ 466), (sv ⟨⟨[61, 51, 68]⟩⟩ 470), (sv ⟨⟨[61, 51, 69]⟩⟩ 474), (sv ⟨⟨[61, 51, 70]⟩⟩ 478), (sv ⟨⟨[61, 52, 48]⟩⟩ 482), (sv ⟨⟨[65]⟩⟩ 1367), (sv ⟨⟨[66]⟩⟩ 1370), (sv ⟨⟨[67]⟩⟩ 1373), (sv ⟨⟨[68]⟩⟩ 1376), (sv ⟨⟨[69]⟩⟩ 1379), (sv ⟨⟨[70]⟩⟩ 1382), (sv ⟨⟨[71]⟩⟩ 1385), (sv ⟨⟨[72]⟩⟩ 1388), (sv ⟨⟨[73]⟩⟩ 1391), (sv ⟨⟨[74]⟩⟩ 1394), (sv ⟨⟨[75]⟩⟩ 1397), (sv ⟨⟨[76]⟩⟩ 1400), (sv ⟨⟨[77]⟩⟩ 1403), (sv ⟨⟨[78]⟩⟩ 1406), (sv ⟨⟨[79]⟩⟩ 1409), (sv ⟨⟨[80]⟩⟩ 1412), (sv ⟨⟨[81]⟩⟩ 1415), (sv ⟨⟨[82]⟩⟩ 1418), (sv ⟨⟨[83]⟩⟩ 1421), (sv ⟨⟨[84]⟩⟩ 1424), (sv ⟨⟨[85]⟩⟩ 1427), (sv ⟨⟨[86]⟩⟩ 1430), (sv ⟨⟨[87]⟩⟩ 1433), (sv ⟨⟨[88]⟩⟩ 1436), (sv ⟨⟨[89]⟩⟩ 1439), (sv ⟨⟨[90]⟩⟩ 1442), (sv ⟨⟨[61, 53, 66]⟩⟩ 590), (sv ⟨⟨[61, 53, 67]⟩⟩ 594), (sv ⟨⟨[61, 53, 68]⟩⟩ 598), (sv ⟨⟨[61, 53, 69]⟩⟩ 602), (sv ⟨⟨[61, 53, 70]⟩⟩ 606), (sv ⟨⟨[61, 54, 48]⟩⟩ 610), (sv ⟨⟨[97]⟩⟩ 1289), (sv ⟨⟨[98]⟩⟩ 1292), (sv ⟨⟨[99]⟩⟩ 1295), (sv ⟨⟨[100]⟩⟩ 1298), (sv ⟨⟨[101]⟩⟩ 1301), (sv ⟨⟨[102]⟩⟩ 1304), (sv ⟨⟨[103]⟩⟩ 1307), (sv ⟨⟨[104]⟩⟩ 1310), (sv ⟨⟨[105]⟩⟩ 1313), (sv ⟨⟨[106]⟩⟩ 1316), (sv ⟨⟨[107]⟩⟩ 1319), (sv ⟨⟨[108]⟩⟩ 1322), (sv ⟨⟨[109]⟩⟩ 1325), (sv ⟨⟨[110]⟩⟩ 1328), (sv ⟨⟨[111]⟩⟩ 1331), (sv ⟨⟨[112]⟩⟩ 1334), (sv ⟨⟨[113]⟩⟩ 1337), (sv ⟨⟨[114]⟩⟩ 1340), (sv ⟨⟨[115]⟩⟩ 1343), (sv ⟨⟨[116]⟩⟩ 1346), (sv ⟨⟨[117]⟩⟩ 1349), (sv ⟨⟨[118]⟩⟩ 1352), (sv ⟨⟨[119]⟩⟩ 1355), (sv ⟨⟨[120]⟩⟩ 1358), (sv ⟨⟨[121]⟩⟩ 1361), (sv ⟨⟨[122]⟩⟩ 1364), (sv ⟨⟨[61, 55, 66]⟩⟩ 718), (sv ⟨⟨[61, 55, 67]⟩⟩ 722), (sv ⟨⟨[61, 55, 68]⟩⟩ 726), (sv ⟨⟨[61, 55, 69]⟩⟩ 730), (sv ⟨⟨[61, 55, 70]⟩⟩ 734), (sv ⟨⟨[61, 56, 48]⟩⟩ 738), (sv ⟨⟨[61, 56, 49]⟩⟩ 742), (sv ⟨⟨[61, 56, 50]⟩⟩ 746), (sv ⟨⟨[61, 56, 51]⟩⟩ 750), (sv ⟨⟨[61, 56, 52]⟩⟩ 754), (sv ⟨⟨[61, 56, 53]⟩⟩ 758), (sv ⟨⟨[61, 56, 54]⟩⟩ 762), (sv ⟨⟨[61, 56, 55]⟩⟩ 766), (sv ⟨⟨[61, 56, 56]⟩⟩ 770), (sv ⟨⟨[61, 56, 57]⟩⟩ 774), (sv ⟨⟨[61, 56, 65]⟩⟩ 778), (sv ⟨⟨[61, 56, 66]⟩⟩ 782), (sv ⟨⟨[61, 56, 67]⟩⟩ 786), (sv ⟨⟨[61, 56, 68]⟩⟩ 790), (sv ⟨⟨[61, 56, 69]⟩⟩ 794), (sv ⟨⟨[61, 56, 70]⟩⟩ 798), (sv ⟨⟨[61, 57, 48]⟩⟩ 802), (sv ⟨⟨[61, 57, 49]⟩⟩ 806), (sv ⟨⟨[61, 57, 50]⟩⟩ 810), (sv ⟨⟨[61, 57, 51]⟩⟩ 814), (sv ⟨⟨[61, 57, 52]⟩⟩ 818), (sv ⟨⟨[61, 57, 53]⟩⟩ 822), (sv ⟨⟨[61, 57, 54]⟩⟩ 826), (sv ⟨⟨[61, 57, 55]⟩⟩ 830), (sv ⟨⟨[61, 57, 56]⟩⟩ 834), (sv ⟨⟨[61, 57, 57]⟩⟩ 838), (sv ⟨⟨[61, 57, 65]⟩⟩ 842), (sv ⟨⟨[61, 57, 66]⟩⟩ 846), (sv ⟨⟨[61, 57, 67]⟩⟩ 850), (sv ⟨⟨[61, 57, 68]⟩⟩ 854), (sv ⟨⟨[61, 57, 69]⟩⟩ 858), (sv ⟨⟨[61, 57, 70]⟩⟩ 862), (sv ⟨⟨[61, 65, 48]⟩⟩ 866), (sv ⟨⟨[61, 65, 49]⟩⟩ 870), (sv ⟨⟨[61, 65, 50]⟩⟩ 874), (sv ⟨⟨[61, 65, 51]⟩⟩ 878), (sv ⟨⟨[61, 65, 52]⟩⟩ 882), (sv ⟨⟨[61, 65, 53]⟩⟩ 886), (sv ⟨⟨[61, 65, 54]⟩⟩ 890), (sv ⟨⟨[61, 65, 55]⟩⟩ 894), (sv ⟨⟨[61, 65, 56]⟩⟩ 898), (sv ⟨⟨[61, 65, 57]⟩⟩ 902), (sv ⟨⟨[61, 65, 65]⟩⟩ 906), (sv ⟨⟨[61, 65, 66]⟩⟩ 910), (sv ⟨⟨[61, 65, 67]⟩⟩ 914), (sv ⟨⟨[61, 65, 68]⟩⟩ 918), (sv ⟨⟨[61, 65, 69]⟩⟩ 922), (sv ⟨⟨[61, 65, 70]⟩⟩ 926), (sv ⟨⟨[61, 66, 48]⟩⟩ 930), (sv ⟨⟨[61, 66, 49]⟩⟩ 934), (sv ⟨⟨[61, 66, 50]⟩⟩ 938), (sv ⟨⟨[61, 66, 51]⟩⟩ 942), (sv ⟨⟨[61, 66, 52]⟩⟩ 946), (sv ⟨⟨[61, 66, 53]⟩⟩ 950), (sv ⟨⟨[61, 66, 54]⟩⟩ 954), (sv ⟨⟨[61, 66, 55]⟩⟩ 958), (sv ⟨⟨[61, 66, 56]⟩⟩ 962), (sv ⟨⟨[61, 66, 57]⟩⟩ 966), (sv ⟨⟨[61, 66, 65]⟩⟩ 970), (sv ⟨⟨[61, 66, 66]⟩⟩ 974), (sv ⟨⟨[61, 66, 67]⟩⟩ 978), (sv ⟨⟨[61, 66, 68]⟩⟩ 982), (sv ⟨⟨[61, 66, 69]⟩⟩ 986), (sv ⟨⟨[61, 66, 70]⟩⟩ 990), (sv ⟨⟨[61, 67, 48]⟩⟩ 994), (sv ⟨⟨[61, 67, 49]⟩⟩ 998), (sv ⟨⟨[61, 67, 50]⟩⟩ 1002), (sv ⟨⟨[61, 67, 51]⟩⟩ 1006), (sv ⟨⟨[61, 67, 52]⟩⟩ 1010), (sv ⟨⟨[61, 67, 53]⟩⟩ 1014), (sv ⟨⟨[61, 67, 54]⟩⟩ 1018), (sv ⟨⟨[61, 67, 55]⟩⟩ 1022), (sv ⟨⟨[61, 67, 56]⟩⟩ 1026), (sv ⟨⟨[61, 67, 57]⟩⟩ 1030), (sv ⟨⟨[61, 67, 65]⟩⟩ 1034), (sv ⟨⟨[61, 67, 66]⟩⟩ 1038), (sv ⟨⟨[61, 67, 67]⟩⟩ 1042), (sv ⟨⟨[61, 67, 68]⟩⟩ 1046), (sv ⟨⟨[61, 67, 69]⟩⟩ 1050), (sv ⟨⟨[61, 67, 70]⟩⟩ 1054), (sv ⟨⟨[61, 68, 48]⟩⟩ 1058), (sv ⟨⟨[61, 68, 49]⟩⟩ 1062), (sv ⟨⟨[61, 68, 50]⟩⟩ 1066), (sv ⟨⟨[61, 68, 51]⟩⟩ 1070), (sv ⟨⟨[61, 68, 52]⟩⟩ 1074), (sv ⟨⟨[61, 68, 53]⟩⟩ 1078), (sv ⟨⟨[61, 68, 54]⟩⟩ 1082), (sv ⟨⟨[61, 68, 55]⟩⟩ 1086), (sv ⟨⟨[61, 68, 56]⟩⟩ 1090), (sv ⟨⟨[61, 68, 57]⟩⟩ 1094), (sv ⟨⟨[61, 68, 65]⟩⟩ 1098), (sv ⟨⟨[61, 68, 66]⟩⟩ 1102), (sv ⟨⟨[61, 68, 67]⟩⟩ 1106), (sv ⟨⟨[61, 68, 68]⟩⟩ 1110), (sv ⟨⟨[61, 68, 69]⟩⟩ 1114), (sv ⟨⟨[61, 68, 70]⟩⟩ 1118), (sv ⟨⟨[61, 69, 48]⟩⟩ 1122), (sv ⟨⟨[61, 69, 49]⟩⟩ 1126), (sv ⟨⟨[61, 69, 50]⟩⟩ 1130), (sv ⟨⟨[61, 69, 51]⟩⟩ 1134), (sv ⟨⟨[61, 69, 52]⟩⟩ 1138), (sv ⟨⟨[61, 69, 53]⟩⟩ 1142), (sv ⟨⟨[61, 69, 54]⟩⟩ 1146), (sv ⟨⟨[61, 69, 55]⟩⟩ 1150), (sv ⟨⟨[61, 69, 56]⟩⟩ 1154), (sv ⟨⟨[61, 69, 57]⟩⟩ 1158), (sv ⟨⟨[61, 69, 65]⟩⟩ 1162), (sv ⟨⟨[61, 69, 66]⟩⟩ 1166), (sv ⟨⟨[61, 69, 67]⟩⟩ 1170), (sv ⟨⟨[61, 69, 68]⟩⟩ 1174), (sv ⟨⟨[61, 69, 69]⟩⟩ 1178), (sv ⟨⟨[61, 69, 70]⟩⟩ 1182), (sv ⟨⟨[61, 70, 48]⟩⟩ 1186), (sv ⟨⟨[61, 70, 49]⟩⟩ 1190), (sv ⟨⟨[61, 70, 50]⟩⟩ 1194), (sv ⟨⟨[61, 70, 51]⟩⟩ 1198), (sv ⟨⟨[61, 70, 52]⟩⟩ 1202), (sv ⟨⟨[61, 70, 53]⟩⟩ 1206), (sv ⟨⟨[61, 70, 54]⟩⟩ 1210), (sv ⟨⟨[61, 70, 55]⟩⟩ 1214), (sv ⟨⟨[61, 70, 56]⟩⟩ 1218), (sv ⟨⟨[61, 70, 57]⟩⟩ 1222), (sv ⟨⟨[61, 70, 65]⟩⟩ 1226), (sv ⟨⟨[61, 70, 66]⟩⟩ 1230), (sv ⟨⟨[61, 70, 67]⟩⟩ 1234), (sv ⟨⟨[61, 70, 68]⟩⟩ 1238), (sv ⟨⟨[61, 70, 69]⟩⟩ 1242), (sv ⟨⟨[61, 70, 70]⟩⟩ 1246)]⟩ 0), ⟨[]⟩⟩
noncomputable def o43v4 (z : Zs) (p : Program) (P : Params) : Obj := ⟨(.type z.bit), none, (.fields ⟨[.none, (.int 67 0)]⟩), ⟨[]⟩⟩
noncomputable def o44v4 (z : Zs) (p : Program) (P : Params) : Obj := ⟨(.type z.tup), none, (.seq ⟨[]⟩ 0), ⟨[]⟩⟩
noncomputable def o45v4 (z : Zs) (p : Program) (P : Params) : Obj := ⟨(.type z.sti), none, (.fields ⟨[(.ref 44), .none, .none, .none, (.bool false), .none]⟩), ⟨[]⟩⟩
noncomputable def T4 (z : Zs) (p : Program) (P : Params) : BT := (.node (boot_o_0 P) (.node (boot_o_1 P) (.node (o3v4 z p P) (.node (boot_o_7 P) (.node (o15v1 z p P) (.node (o31v1 z p P) .nil .nil) .nil) (.node (o23v1 z p P) (.node (o39v3 z p P) .nil .nil) .nil)) (.node (o11v0 z p P) (.node (o19v1 z p P) (.node (o35v2 z p P) .nil .nil) .nil) (.node (o27v1 z p P) (.node (o43v4 z p P) .nil .nil) .nil))) (.node (boot_o_5 P) (.node (boot_o_9 P) (.node (o17v1 z p P) (.node (o33v1a z p P) .nil .nil) .nil) (.node (o25v1 z p P) (.node (o41v3 z p P) .nil .nil) .nil)) (.node (o13v0 z p P) (.node (o21v1 z p P) (.node (o37v2 z p P) .nil .nil) .nil) (.node (o29v1 z p P) (.node (o45v4 z p P) .nil .nil) .nil)))) (.node (boot_o_2 P) (.node (boot_o_4 P) (.node (boot_o_8 P) (.node (o16v1 z p P) (.node (o32v1 z p P) .nil .nil) .nil) (.node (o24v1 z p P) (.node (o40v4 z p P) .nil .nil) .nil)) (.node (o12v1 z p P) (.node (o20v1 z p P) (.node (o36v2 z p P) .nil .nil) .nil) (.node (o28v1 z p P) (.node (o44v4 z p P) .nil .nil) .nil))) (.node (boot_o_6 P) (.node (boot_o_10 P) (.node (o18v1 z p P) (.node (o34v2 z p P) .nil .nil) .nil) (.node (o26v1 z p P) (.node (o42v3 z p P) .nil .nil) .nil)) (.node (o14v0 z p P) (.node (o22v1 z p P) (.node (o38v2 z p P) .nil .nil) .nil) (.node (o30v1 z p P) .nil .nil)))))
noncomputable def o3v4a (z : Zs) (p : Program) (P : Params) : Obj := ⟨(.type "dict"), none, (.dict ⟨[hk P ⟨⟨[95, 95, 110, 97, 109, 101, 95, 95]⟩⟩ 165 (sv ⟨⟨[99, 112, 121, 51, 49, 51, 46, 101, 109, 97, 105, 108, 46, 113, 117, 111, 112, 114, 105, 109, 105, 109, 101]⟩⟩ 1263), hk P ⟨⟨[95, 95, 100, 111, 99, 95, 95]⟩⟩ 166 .none, hk P ⟨⟨[95, 95, 112, 97, 99, 107, 97, 103, 101, 95, 95]⟩⟩ 167 .none, hk P ⟨⟨[95, 95, 108, 111, 97, 100, 101, 114, 95, 95]⟩⟩ 168 (.builtin "__main__.__loader__#opaque"), hk P ⟨⟨[95, 95, 115, 112, 101, 99, 95, 95]⟩⟩ 169 .none, hk P ⟨⟨[95, 95, 97, 110, 110, 111, 116, 97, 116, 105, 111, 110, 115, 95, 95]⟩⟩ 170 (.ref 6), hk P ⟨⟨[95, 95, 98, 117, 105, 108, 116, 105, 110, 115, 95, 95]⟩⟩ 171 (.ref 4), hk P ⟨⟨[95, 95, 102, 105, 108, 101, 95, 95]⟩⟩ 173 (sv (Str.ofString "/claim/cut.py") 172), hk P ⟨⟨[95, 95, 99, 97, 99, 104, 101, 100, 95, 95]⟩⟩ 174 .none, hk P ⟨⟨[105, 110, 115, 111, 114, 116, 95, 108, 101, 102, 116]⟩⟩ 201 (.ref 23), hk P ⟨⟨[98, 105, 115, 101, 99, 116, 95, 108, 101, 102, 116]⟩⟩ 215 (.ref 32), hk P ⟨⟨[67, 82, 76, 70]⟩⟩ 217 (sv ⟨⟨[13, 10]⟩⟩ 216), hk P ⟨⟨[78, 76]⟩⟩ 219 (sv ⟨⟨[10]⟩⟩ 218), hk P ⟨⟨[95, 81, 85, 79, 80, 82, 73, 95, 77, 65, 80]⟩⟩ 1247 (.ref 35), hk P ⟨⟨[95, 81, 85, 79, 80, 82, 73, 95, 72, 69, 65, 68, 69, 82, 95, 77, 65, 80]⟩⟩ 1248 (.ref 40), hk P ⟨⟨[95, 81, 85, 79, 80, 82, 73, 95, 66, 79, 68, 89, 95, 77, 65, 80]⟩⟩ 1249 (.ref 42), hk P ⟨⟨[97, 115, 99, 105, 105, 95, 108, 111, 119, 101, 114, 99, 97, 115, 101]⟩⟩ 1251 (sv ⟨⟨[97, 98, 99, 100, 101, 102, 103, 104, 105, 106, 107, 108, 109, 110, 111, 112, 113, 114, 115, 116, 117, 118, 119, 120, 121, 122]⟩⟩ 1250), hk P ⟨⟨[97, 115, 99, 105, 105, 95, 117, 112, 112, 101, 114, 99, 97, 115, 101]⟩⟩ 1253 (sv ⟨⟨[65, 66, 67, 68, 69, 70, 71, 72, 73, 74, 75, 76, 77, 78, 79, 80, 81, 82, 83, 84, 85, 86, 87, 88, 89, 90]⟩⟩ 1252), hk P ⟨⟨[97, 115, 99, 105, 105, 95, 108, 101, 116, 116, 101, 114, 115]⟩⟩ 1255 (sv ⟨⟨[97, 98, 99, 100, 101, 102, 103, 104, 105, 106, 107, 108, 109, 110, 111, 112, 113, 114, 115, 116, 117, 118, 119, 120, 121, 122, 65, 66, 67, 68, 69, 70, 71, 72, 73, 74, 75, 76, 77, 78, 79, 80, 81, 82, 83, 84, 85, 86, 87, 88, 89, 90]⟩⟩ 1254), hk P ⟨⟨[100, 105, 103, 105, 116, 115]⟩⟩ 1257 (sv ⟨⟨[48, 49, 50, 51, 52, 53, 54, 55, 56, 57]⟩⟩ 1256), hk P ⟨⟨[104, 101, 120, 100, 105, 103, 105, 116, 115]⟩⟩ 1262 (sv ⟨⟨[48, 49, 50, 51, 52, 53, 54, 55, 56, 57, 97, 98, 99, 100, 101, 102, 65, 66, 67, 68, 69, 70]⟩⟩ 1261), hk P ⟨⟨[99]⟩⟩ 1273 (.int 32 1477)]⟩ 22), ⟨[]⟩⟩
noncomputable def o42v4a (z : Zs) (p : Program) (P : Params) : Obj := ⟨(.type z.lst), none, (.seq ⟨[(sv ⟨⟨[61, 48, 48]⟩⟩ 226), (sv ⟨⟨[61, 48, 49]⟩⟩ 230), (sv ⟨⟨[61, 48, 50]⟩⟩ 234), (sv ⟨⟨[61, 48, 51]⟩⟩ 238), (sv ⟨⟨[61, 48, 52]⟩⟩ 242), (sv ⟨⟨[61, 48, 53]⟩⟩ 246), (sv ⟨⟨[61, 48, 54]⟩⟩ 250), (sv ⟨⟨[61, 48, 55]⟩⟩ 254), (sv ⟨⟨[61, 48, 56]⟩⟩ 258), (sv ⟨⟨[61, 48, 57]⟩⟩ 262), (sv ⟨⟨[61, 48, 65]⟩⟩ 266), (sv ⟨⟨[61, 48, 66]⟩⟩ 270), (sv ⟨⟨[61, 48, 67]⟩⟩ 274), (sv ⟨⟨[61, 48, 68]⟩⟩ 278), (sv ⟨⟨[61, 48, 69]⟩⟩ 282), (sv ⟨⟨[61, 48, 70]⟩⟩ 286), (sv ⟨⟨[61, 49, 48]⟩⟩ 290), (sv ⟨⟨[61, 49, 49]⟩⟩ 294), (sv ⟨⟨[61, 49, 50]⟩⟩ 298), (sv ⟨⟨[61, 49, 51]⟩⟩ 302), (sv ⟨⟨[61, 49, 52]⟩⟩ 306), (sv ⟨⟨[61, 49, 53]⟩⟩ 310), (sv ⟨⟨[61, 49, 54]⟩⟩ 314), (sv ⟨⟨[61, 49, 55]⟩⟩ 318), (sv ⟨⟨[61, 49, 56]⟩⟩ 322), (sv ⟨⟨[61, 49, 57]⟩⟩ 326), (sv ⟨⟨[61, 49, 65]⟩⟩ 330), (sv ⟨⟨[61, 49, 66]⟩⟩ 334), (sv ⟨⟨[61, 49, 67]⟩⟩ 338), (sv ⟨⟨[61, 49, 68]⟩⟩ 342), (sv ⟨⟨[61, 49, 69]⟩⟩ 346), (sv ⟨⟨[61, 49, 70]⟩⟩ 350), (sv ⟨⟨[32]⟩⟩ 1479), (sv ⟨⟨[61, 50, 49]⟩⟩ 358), (sv ⟨⟨[61, 50, 50]⟩⟩ 362), (sv ⟨⟨[61, 50, 51]⟩⟩ 366), (sv ⟨⟨[61, 50, 52]⟩⟩ 370), (sv ⟨⟨[61, 50, 53]⟩⟩ 374), (sv ⟨⟨[61, 50, 54]⟩⟩ 378), (sv ⟨⟨[61, 50, 55]⟩⟩ 382), (sv ⟨⟨[61, 50, 56]⟩⟩ 386), (sv ⟨⟨[61, 50, 57]⟩⟩ 390), (sv ⟨⟨[61, 50, 65]⟩⟩ 394), (sv ⟨⟨[61, 50, 66]⟩⟩ 398), (sv ⟨⟨[61, 50, 67]⟩⟩ 402), (sv ⟨⟨[61, 50, 68]⟩⟩ 406), (sv ⟨⟨[61, 50, 69]⟩⟩ 410), (sv ⟨⟨[61, 50, 70]⟩⟩ 414), (sv ⟨⟨[61, 51, 48]⟩⟩ 418), (sv ⟨⟨[61, 51, 49]⟩⟩ 422), (sv ⟨⟨[61, 51, 50]⟩⟩ 426), (sv ⟨⟨[61, 51, 51]⟩⟩ 430), (sv ⟨⟨[61, 51, 52]⟩⟩ 434), (sv ⟨⟨[61, 51, 53]⟩⟩ 438), (sv ⟨⟨[61, 51, 54]⟩⟩ 442), (sv ⟨⟨[61, 51, 55]⟩⟩ 446), (sv ⟨⟨[61, 51, 56]⟩⟩ 450), (sv ⟨⟨[61, 51, 57]⟩⟩ 454), (sv ⟨⟨[61, 51, 65]⟩⟩ 458), (sv ⟨⟨[61, 51, 66]⟩⟩ 462), (sv ⟨⟨[61, 51, 67]⟩⟩ 466), (sv ⟨⟨[61, 51, 68]⟩⟩ 470), (sv ⟨⟨[61, 51, 69]⟩⟩ 474), (sv ⟨⟨[61, 51, 70]⟩⟩ 478), (sv ⟨⟨[61, 52, 48]⟩⟩ 482), (sv ⟨⟨[61, 52, 49]⟩⟩ 486), (sv ⟨⟨[61, 52, 50]⟩⟩ 490), (sv ⟨⟨[61, 52, 51]⟩⟩ 494), (sv ⟨⟨[61, 52, 52]⟩⟩ 498), (sv ⟨⟨[61, 52, 53]⟩⟩ 502), (sv ⟨⟨[61, 52, 54]⟩⟩ 506), (sv ⟨⟨[61, 52, 55]⟩⟩ 510), (sv ⟨⟨[61, 52, 56]⟩⟩ 514), (sv ⟨⟨[61, 52, 57]⟩⟩ 518), (sv ⟨⟨[61, 52, 65]⟩⟩ 522), (sv ⟨⟨[61, 52, 66]⟩⟩ 526), (sv ⟨⟨[61, 52, 67]⟩⟩ 530), (sv ⟨⟨[61, 52, 68]⟩⟩ 534), (sv ⟨⟨[61, 52, 69]⟩⟩ 538), (sv ⟨⟨[61, 52, 70]⟩⟩ 542), (sv ⟨⟨[61, 53, 48]⟩⟩ 546), (sv ⟨⟨[61, 53, 49]⟩⟩ 550), (sv ⟨⟨[61, 53, 50]⟩⟩ 554), (sv ⟨⟨[61, 53, 51]⟩⟩ 558), (sv ⟨⟨[61, 53, 52]⟩⟩ 562), (sv ⟨⟨[61, 53, 53]⟩⟩ 566), (sv ⟨⟨[61, 53, 54]⟩⟩ 570), (sv ⟨⟨[61, 53, 55]⟩⟩ 574), (sv ⟨⟨[61, 53, 56]⟩⟩ 578), (sv ⟨⟨[61, 53, 57]⟩⟩ 582), (sv ⟨⟨[61, 53, 65]⟩⟩ 586), (sv ⟨⟨[61, 53, 66]⟩⟩ 590), (sv ⟨⟨[61, 53, 67]⟩⟩ 594), (sv ⟨⟨[61, 53, 68]⟩⟩ 598), (sv ⟨⟨[61, 53, 69]⟩⟩ 602), (sv ⟨⟨[61, 53, 70]⟩⟩ 606), (sv ⟨⟨[61, 54, 48]⟩⟩ 610), (sv ⟨⟨[61, 54, 49]⟩⟩ 614), (sv ⟨⟨[61, 54, 50]⟩⟩ 618), (sv ⟨⟨[61, 54, 51]⟩⟩ 622), (sv ⟨⟨[61, 54, 52]⟩⟩ 626), (sv ⟨⟨[61, 54, 53]⟩⟩ 630), (sv ⟨⟨[61, 54, 54]⟩⟩ 634), (sv ⟨⟨[61, 54, 55]⟩⟩ 638), (sv ⟨⟨[61, 54, 56]⟩⟩ 642), (sv ⟨⟨[61, 54, 57]⟩⟩ 646), (sv ⟨⟨[61, 54, 65]⟩⟩ 650), (sv ⟨⟨[61, 54, 66]⟩⟩ 654), (sv ⟨⟨[61, 54, 67]⟩⟩ 658), (sv ⟨⟨[61, 54, 68]⟩⟩ 662), (sv ⟨⟨[61, 54, 69]⟩⟩ 666), (sv ⟨⟨[61, 54, 70]⟩⟩ 670), (sv ⟨⟨[61, 55, 48]⟩⟩ 674), (sv ⟨⟨[61, 55, 49]⟩⟩ 678), (sv ⟨⟨[61, 55, 50]⟩⟩ 682), (sv ⟨⟨[61, 55, 51]⟩⟩ 686), (sv ⟨⟨[61, 55, 52]⟩⟩ 690), (sv ⟨⟨[61, 55, 53]⟩⟩ 694), (sv ⟨⟨[61, 55, 54]⟩⟩ 698), (sv ⟨⟨[61, 55, 55]⟩⟩ 702), (sv ⟨⟨[61, 55, 56]⟩⟩ 706), (sv ⟨⟨[61, 55, 57]⟩⟩ 710), (sv ⟨⟨[61, 55, 65]⟩⟩ 714), (sv ⟨⟨[61, 55, 66]⟩⟩ 718), (sv ⟨⟨[61, 55, 67]⟩⟩ 722), (sv ⟨⟨[61, 55, 68]⟩⟩ 726), (sv ⟨⟨[61, 55, 69]⟩⟩ 730), (sv ⟨⟨[61, 55, 70]⟩⟩ 734), (sv ⟨⟨[61, 56, 48]⟩⟩ 738), (sv ⟨⟨[61, 56, 49]⟩⟩ 742), (sv ⟨⟨[61, 56, 50]⟩⟩ 746), (sv ⟨⟨[61, 56, 51]⟩⟩ 750), (sv ⟨⟨[61, 56, 52]⟩⟩ 754), (sv ⟨⟨[61, 56, 53]⟩⟩ 758), (sv ⟨⟨[61, 56, 54]⟩⟩ 762), (sv ⟨⟨[61, 56, 55]⟩⟩ 766), (sv ⟨⟨[61, 56, 56]⟩⟩ 770), (sv ⟨⟨[61, 56, 57]⟩⟩ 774), (sv ⟨⟨[61, 56, 65]⟩⟩ 778), (sv ⟨⟨[61, 56, 66]⟩⟩ 782), (sv ⟨⟨[61, 56, 67]⟩⟩ 786), (sv ⟨⟨[61, 56, 68]⟩⟩ 790), (sv ⟨⟨[61, 56, 69]⟩⟩ 794), (sv ⟨⟨[61, 56, 70]⟩⟩ 798), (sv ⟨⟨[61, 57, 48]⟩⟩ 802), (sv ⟨⟨[61, 57, 49]⟩⟩ 806), (sv ⟨⟨[61, 57, 50]⟩⟩ 810), (sv ⟨⟨[61, 57, 51]⟩⟩ 814), (sv ⟨⟨[61, 57, 52]⟩⟩ 818), (sv ⟨⟨[61, 57, 53]⟩⟩ 822), (sv ⟨⟨[61, 57, 54]⟩⟩ 826), (sv ⟨⟨[61, 57, 55]⟩⟩ 830), (sv ⟨⟨[61, 57, 56]⟩⟩ 834), (sv ⟨⟨[61, 57, 57]⟩⟩ 838), (sv ⟨⟨[61, 57, 65]⟩⟩ 842), (sv ⟨⟨[61, 57, 66]⟩⟩ 846), (sv ⟨⟨[61, 57, 67]⟩⟩ 850), (sv ⟨⟨[61, 57, 68]⟩⟩ 854), (sv ⟨⟨[61, 57, 69]⟩⟩ 858), (sv ⟨⟨[61, 57, 70]⟩⟩ 862), (sv ⟨⟨[61, 65, 48]⟩⟩ 866), (sv ⟨⟨[61, 65, 49]⟩⟩ 870), (sv ⟨⟨[61, 65, 50]⟩⟩ 874), (sv ⟨⟨[61, 65, 51]⟩⟩ 878), (sv ⟨⟨[61, 65, 52]⟩⟩ 882), (sv ⟨⟨[61, 65, 53]⟩⟩ 886), (sv ⟨⟨[61, 65, 54]⟩⟩ 890), (sv ⟨⟨[61, 65, 55]⟩⟩ 894), (sv ⟨⟨[61, 65, 56]⟩⟩ 898), (sv ⟨⟨[61, 65, 57]⟩⟩ 902), (sv ⟨⟨[61, 65, 65]⟩⟩ 906), (sv ⟨⟨[61, 65, 66]⟩⟩ 910), (sv ⟨⟨[61, 65, 67]⟩⟩ 914), (sv ⟨⟨[61, 65, 68]⟩⟩ 918), (sv ⟨⟨[61, 65, 69]⟩⟩ 922), (sv ⟨⟨[61, 65, 70]⟩⟩ 926), (sv ⟨⟨[61, 66, 48]⟩⟩ 930), (sv ⟨⟨[61, 66, 49]⟩⟩ 934), (sv ⟨⟨[61, 66, 50]⟩⟩ 938), (sv ⟨⟨[61, 66, 51]⟩⟩ 942), (sv ⟨⟨[61, 66, 52]⟩⟩ 946), (sv ⟨⟨[61, 66, 53]⟩⟩ 950), (sv ⟨⟨[61, 66, 54]⟩⟩ 954), (sv ⟨⟨[61, 66, 55]⟩⟩ 958), (sv ⟨⟨[61, 66, 56]⟩⟩ 962), (sv ⟨⟨[61, 66, 57]⟩⟩ 966), (sv ⟨⟨[61, 66, 65]⟩⟩ 970), (sv ⟨⟨[61, 66, 66]⟩⟩ 974), (sv ⟨⟨[61, 66, 67]⟩⟩ 978), (sv ⟨⟨[61, 66, 68]⟩⟩ 982), (sv ⟨⟨[61, 66, 69]⟩⟩ 986), (sv ⟨⟨[61, 66, 70]⟩⟩ 990), (sv ⟨⟨[61, 67, 48]⟩⟩ 994), (sv ⟨⟨[61, 67, 49]⟩⟩ 998), (sv ⟨⟨[61, 67, 50]⟩⟩ 1002), (sv ⟨⟨[61, 67, 51]⟩⟩ 1006), (sv ⟨⟨[61, 67, 52]⟩⟩ 1010), (sv ⟨⟨[61, 67, 53]⟩⟩ 1014), (sv ⟨⟨[61, 67, 54]⟩⟩ 1018), (sv ⟨⟨[61, 67, 55]⟩⟩ 1022), (sv ⟨⟨[61, 67, 56]⟩⟩ 1026), (sv ⟨⟨[61, 67, 57]⟩⟩ 1030), (sv ⟨⟨[61, 67, 65]⟩⟩ 1034), (sv ⟨⟨[61, 67, 66]⟩⟩ 1038), (sv ⟨⟨[61, 67, 67]⟩⟩ 1042), (sv ⟨⟨[61, 67, 68]⟩⟩ 1046), (sv ⟨⟨[61, 67, 69]⟩⟩ 1050), (sv ⟨⟨[61, 67, 70]⟩⟩ 1054), (sv ⟨⟨[61, 68, 48]⟩⟩ 1058), (sv ⟨⟨[61, 68, 49]⟩⟩ 1062), (sv ⟨⟨[61, 68, 50]⟩⟩ 1066), (sv ⟨⟨[61, 68, 51]⟩⟩ 1070), (sv ⟨⟨[61, 68, 52]⟩⟩ 1074), (sv ⟨⟨[61, 68, 53]⟩⟩ 1078), (sv ⟨⟨[61, 68, 54]⟩⟩ 1082), (sv ⟨⟨[61, 68, 55]⟩⟩ 1086), (sv ⟨⟨[61, 68, 56]⟩⟩ 1090), (sv ⟨⟨[61, 68, 57]⟩⟩ 1094), (sv ⟨⟨[61, 68, 65]⟩⟩ 1098), (sv ⟨⟨[61, 68, 66]⟩⟩ 1102), (sv ⟨⟨[61, 68, 67]⟩⟩ 1106), (sv ⟨⟨[61, 68, 68]⟩⟩ 1110), (sv ⟨⟨[61, 68, 69]⟩⟩ 1114), (sv ⟨⟨[61, 68, 70]⟩⟩ 1118), (sv ⟨⟨[61, 69, 48]⟩⟩ 1122), (sv ⟨⟨[61, 69, 49]⟩⟩ 1126), (sv ⟨⟨[61, 69, 50]⟩⟩ 1130), (sv ⟨⟨[61, 69, 51]⟩⟩ 1134), (sv ⟨⟨[61, 69, 52]⟩⟩ 1138), (sv ⟨⟨[61, 69, 53]⟩⟩ 1142), (sv ⟨⟨[61, 69, 54]⟩⟩ 1146), (sv ⟨⟨[61, 69, 55]⟩⟩ 1150), (sv ⟨⟨[61, 69, 56]⟩⟩ 1154), (sv ⟨⟨[61, 69, 57]⟩⟩ 1158), (sv ⟨⟨[61, 69, 65]⟩⟩ 1162), (sv ⟨⟨[61, 69, 66]⟩⟩ 1166), (sv ⟨⟨[61, 69, 67]⟩⟩ 1170), (sv ⟨⟨[61, 69, 68]⟩⟩ 1174), (sv ⟨⟨[61, 69, 69]⟩⟩ 1178), (sv ⟨⟨[61, 69, 70]⟩⟩ 1182), (sv ⟨⟨[61, 70, 48]⟩⟩ 1186), (sv ⟨⟨[61, 70, 49]⟩⟩ 1190), (sv ⟨⟨[61, 70, 50]⟩⟩ 1194), (sv ⟨⟨[61, 70, 51]⟩⟩ 1198), (sv ⟨⟨[61, 70, 52]⟩⟩ 1202), (sv ⟨⟨[61, 70, 53]⟩⟩ 1206), (sv ⟨⟨[61, 70, 54]⟩⟩ 1210), (sv ⟨⟨[61, 70, 55]⟩⟩ 1214), (sv ⟨⟨[61, 70, 56]⟩⟩ 1218), (sv ⟨⟨[61, 70, 57]⟩⟩ 1222), (sv ⟨⟨[61, 70, 65]⟩⟩ 1226), (sv ⟨⟨[61, 70, 66]⟩⟩ 1230), (sv ⟨⟨[61, 70, 67]⟩⟩ 1234), (sv ⟨⟨[61, 70, 68]⟩⟩ 1238), (sv ⟨⟨[61, 70, 69]⟩⟩ 1242), (sv ⟨⟨[61, 70, 70]⟩⟩ 1246)]⟩ 0), ⟨[]⟩⟩
noncomputable def o46v4a (z : Zs) (p : Program) (P : Params) : Obj := ⟨(.type z.bit), none, (.fields ⟨[(.bytes ⟨[32, 33, 34, 35, 36, 37, 38, 39, 40, 41, 42, 43, 44, 45, 46, 47, 48, 49, 50, 51, 52, 53, 54, 55, 56, 57, 58, 59, 60, 62, 63, 64, 65, 66, 67, 68, 69, 70, 71, 72, 73, 74, 75, 76, 77, 78, 79, 80, 81, 82, 83, 84, 85, 86, 87, 88, 89, 90, 91, 92, 93, 94, 95, 96, 97, 98, 99, 100, 101, 102, 103, 104, 105, 106, 107, 108, 109, 110, 111, 112, 113, 114, 115, 116, 117, 118, 119, 120, 121, 122, 123, 124, 125, 126, 9]⟩ 1476), (.int 1 0)]⟩), ⟨[]⟩⟩
noncomputable def T4a (z : Zs) (p : Program) (P : Params) : BT := (.node (boot_o_0 P) (.node (boot_o_1 P) (.node (o3v4a z p P) (.node (boot_o_7 P) (.node (o15v1 z p P) (.node (o31v1 z p P) .nil .nil) .nil) (.node (o23v1 z p P) (.node (o39v3 z p P) .nil .nil) .nil)) (.node (o11v0 z p P) (.node (o19v1 z p P) (.node (o35v2 z p P) .nil .nil) .nil) (.node (o27v1 z p P) (.node (o43v4 z p P) .nil .nil) .nil))) (.node (boot_o_5 P) (.node (boot_o_9 P) (.node (o17v1 z p P) (.node (o33v1a z p P) .nil .nil) .nil) (.node (o25v1 z p P) (.node (o41v3 z p P) .nil .nil) .nil)) (.node (o13v0 z p P) (.node (o21v1 z p P) (.node (o37v2 z p P) .nil .nil) .nil) (.node (o29v1 z p P) (.node (o45v4 z p P) .nil .nil) .nil)))) (.node (boot_o_2 P) (.node (boot_o_4 P) (.node (boot_o_8 P) (.node (o16v1 z p P) (.node (o32v1 z p P) .nil .nil) .nil) (.node (o24v1 z p P) (.node (o40v4 z p P) .nil .nil) .nil)) (.node (o12v1 z p P) (.node (o20v1 z p P) (.node (o36v2 z p P) .nil .nil) .nil) (.node (o28v1 z p P) (.node (o44v4 z p P) .nil .nil) .nil))) (.node (boot_o_6 P) (.node (boot_o_10 P) (.node (o18v1 z p P) (.node (o34v2 z p P) .nil .nil) .nil) (.node (o26v1 z p P) (.node (o42v4a z p P) .nil .nil) .nil)) (.node (o14v0 z p P) (.node (o22v1 z p P) (.node (o38v2 z p P) .nil .nil) .nil) (.node (o30v1 z p P) (.node (o46v4a z p P) .nil .nil) .nil)))))
noncomputable def o3v4b (z : Zs) (p : Program) (P : Params) : Obj := ⟨(.type "dict"), none, (.dict ⟨[hk P ⟨⟨[95, 95, 110, 97, 109, 101, 95, 95]⟩⟩ 165 (sv ⟨⟨[99, 112, 121, 51, 49, 51, 46, 101, 109, 97, 105, 108, 46, 113, 117, 111, 112, 114, 105, 109, 105, 109, 101]⟩⟩ 1263), hk P ⟨⟨[95, 95, 100, 111, 99, 95, 95]⟩⟩ 166 .none, hk P ⟨⟨[95, 95, 112, 97, 99, 107, 97, 103, 101, 95, 95]⟩⟩ 167 .none, hk P ⟨⟨[95, 95, 108, 111, 97, 100, 101, 114, 95, 95]⟩⟩ 168 (.builtin "__main__.__loader__#opaque"), hk P ⟨⟨[95, 95, 115, 112, 101, 99, 95, 95]⟩⟩ 169 .none, hk P ⟨⟨[95, 95, 97, 110, 110, 111, 116, 97, 116, 105, 111, 110, 115, 95, 95]⟩⟩ 170 (.ref 6), hk P ⟨⟨[95, 95, 98, 117, 105, 108, 116, 105, 110, 115, 95, 95]⟩⟩ 171 (.ref 4), hk P ⟨⟨[95, 95, 102, 105, 108, 101, 95, 95]⟩⟩ 173 (sv (Str.ofString "/claim/cut.py") 172), hk P ⟨⟨[95, 95, 99, 97, 99, 104, 101, 100, 95, 95]⟩⟩ 174 .none, hk P ⟨⟨[105, 110, 115, 111, 114, 116, 95, 108, 101, 102, 116]⟩⟩ 201 (.ref 23), hk P ⟨⟨[98, 105, 115, 101, 99, 116, 95, 108, 101, 102, 116]⟩⟩ 215 (.ref 32), hk P ⟨⟨[67, 82, 76, 70]⟩⟩ 217 (sv ⟨⟨[13, 10]⟩⟩ 216), hk P ⟨⟨[78, 76]⟩⟩ 219 (sv ⟨⟨[10]⟩⟩ 218), hk P ⟨⟨[95, 81, 85, 79, 80, 82, 73, 95, 77, 65, 80]⟩⟩ 1247 (.ref 35), hk P ⟨⟨[95, 81, 85, 79, 80, 82, 73, 95, 72, 69, 65, 68, 69, 82, 95, 77, 65, 80]⟩⟩ 1248 (.ref 40), hk P ⟨⟨[95, 81, 85, 79, 80, 82, 73, 95, 66, 79, 68, 89, 95, 77, 65, 80]⟩⟩ 1249 (.ref 42), hk P ⟨⟨[97, 115, 99, 105, 105, 95, 108, 111, 119, 101, 114, 99, 97, 115, 101]⟩⟩ 1251 (sv ⟨⟨[97, 98, 99, 100, 101, 102, 103, 104, 105, 106, 107, 108, 109, 110, 111, 112, 113, 114, 115, 116, 117, 118, 119, 120, 121, 122]⟩⟩ 1250), hk P ⟨⟨[97, 115, 99, 105, 105, 95, 117, 112, 112, 101, 114, 99, 97, 115, 101]⟩⟩ 1253 (sv ⟨⟨[65, 66, 67, 68, 69, 70, 71, 72, 73, 74, 75, 76, 77, 78, 79, 80, 81, 82, 83, 84, 85, 86, 87, 88, 89, 90]⟩⟩ 1252), hk P ⟨⟨[97, 115, 99, 105, 105, 95, 108, 101, 116, 116, 101, 114, 115]⟩⟩ 1255 (sv ⟨⟨[97, 98, 99, 100, 101, 102, 103, 104, 105, 106, 107, 108, 109, 110, 111, 112, 113, 114, 115, 116, 117, 118, 119, 120, 121, 122, 65, 66, 67, 68, 69, 70, 71, 72, 73, 74, 75, 76, 77, 78, 79, 80, 81, 82, 83, 84, 85, 86, 87, 88, 89, 90]⟩⟩ 1254), hk P ⟨⟨[100, 105, 103, 105, 116, 115]⟩⟩ 1257 (sv ⟨⟨[48, 49, 50, 51, 52, 53, 54, 55, 56, 57]⟩⟩ 1256), hk P ⟨⟨[104, 101, 120, 100, 105, 103, 105, 116, 115]⟩⟩ 1262 (sv ⟨⟨[48, 49, 50, 51, 52, 53, 54, 55, 56, 57, 97, 98, 99, 100, 101, 102, 65, 66, 67, 68, 69, 70]⟩⟩ 1261), hk P ⟨⟨[99]⟩⟩ 1273 (.int 65 1573)]⟩ 22), ⟨[]⟩⟩
noncomputable def o42v4b (z : Zs) (p : Program) (P : Params) : Obj := ⟨(.type z.lst), none, (.seq ⟨[(sv ⟨⟨[61, 48, 48]⟩⟩ 226), (sv ⟨⟨[61, 48, 49]⟩⟩ 230), (sv ⟨⟨[61, 48, 50]⟩⟩ 234), (sv ⟨⟨[61, 48, 51]⟩⟩ 238), (sv ⟨⟨[61, 48, 52]⟩⟩ 242), (sv ⟨⟨[61, 48, 53]⟩⟩ 246), (sv ⟨⟨[61, 48, 54]⟩⟩ 250), (sv ⟨⟨[61, 48, 55]⟩⟩ 254), (sv ⟨⟨[61, 48, 56]⟩⟩ 258), (sv ⟨⟨[61, 48, 57]⟩⟩ 262), (sv ⟨⟨[61, 48, 65]⟩⟩ 266), (sv ⟨⟨[61, 48, 66]⟩⟩ 270), (sv ⟨⟨[61, 48, 67]⟩⟩ 274), (sv ⟨⟨[61, 48, 68]⟩⟩ 278), (sv ⟨⟨[61, 48, 69]⟩⟩ 282), (sv ⟨⟨[61, 48, 70]⟩⟩ 286), (sv ⟨⟨[61, 49, 48]⟩⟩ 290), (sv ⟨⟨[61, 49, 49]⟩⟩ 294), (sv ⟨⟨[61, 49, 50]⟩⟩ 298), (sv ⟨⟨[61, 49, 51]⟩⟩ 302), (sv ⟨⟨[61, 49, 52]⟩⟩ 306), (sv ⟨⟨[61, 49, 53]⟩⟩ 310), (sv ⟨⟨[61, 49, 54]⟩⟩ 314), (sv ⟨⟨[61, 49, 55]⟩⟩ 318), (sv ⟨⟨[61, 49, 56]⟩⟩ 322), (sv ⟨⟨[61, 49, 57]⟩⟩ 326), (sv ⟨⟨[61, 49, 65]⟩⟩ 330), (sv ⟨⟨[61, 49, 66]⟩⟩ 334), (sv ⟨⟨[61, 49, 67]⟩⟩ 338), (sv ⟨⟨[61, 49, 68]⟩⟩ 342), (sv ⟨⟨[61, 49, 69]⟩⟩ 346), (sv ⟨⟨[61, 49, 70]⟩⟩ 350), (sv ⟨⟨[32]⟩⟩ 1479), (sv ⟨⟨[33]⟩⟩ 1482), (sv ⟨⟨[34]⟩⟩ 1485), (sv ⟨⟨[35]⟩⟩ 1488), (sv ⟨⟨[36]⟩⟩ 1491), (sv ⟨⟨[37]⟩⟩ 1494), (sv ⟨⟨[38]⟩⟩ 1497), (sv ⟨⟨[39]⟩⟩ 1500), (sv ⟨⟨[40]⟩⟩ 1503), (sv ⟨⟨[41]⟩⟩ 1506), (sv ⟨⟨[42]⟩⟩ 1509), (sv ⟨⟨[43]⟩⟩ 1512), (sv ⟨⟨[44]⟩⟩ 1515), (sv ⟨⟨[45]⟩⟩ 1518), (sv ⟨⟨[46]⟩⟩ 1521), (sv ⟨⟨[47]⟩⟩ 1524), (sv ⟨⟨[48]⟩⟩ 1527), (sv ⟨⟨[49]⟩⟩ 1530), (sv ⟨⟨[50]⟩⟩ 1533), (sv ⟨⟨[51]⟩⟩ 1536), (sv ⟨⟨[52]⟩⟩ 1539), (sv ⟨⟨[53]⟩⟩ 1542), (sv ⟨⟨[54]⟩⟩ 1545), (sv ⟨⟨[55]⟩⟩ 1548), (sv ⟨⟨[56]⟩⟩ 1551), (sv ⟨⟨[57]⟩⟩ 1554), (sv ⟨⟨[58]⟩⟩ 1557), (sv ⟨⟨[59]⟩⟩ 1560), (sv ⟨⟨[60]⟩⟩ 1563), (sv ⟨⟨[61, 51, 68]⟩⟩ 470), (sv ⟨⟨[62]⟩⟩ 1566), (sv ⟨⟨[63]⟩⟩ 1569), (sv ⟨⟨[64]⟩⟩ 1572), (sv ⟨⟨[65]⟩⟩ 1575), (sv ⟨⟨[61, 52, 50]⟩⟩ 490), (sv ⟨⟨[61, 52, 51]⟩⟩ 494), (sv ⟨⟨[61, 52, 52]⟩⟩ 498), (sv ⟨⟨[61, 52, 53]⟩⟩ 502), (sv ⟨⟨[61, 52, 54]⟩⟩ 506), (sv ⟨⟨[61, 52, 55]⟩⟩ 510), (sv ⟨⟨[61, 52, 56]⟩⟩ 514), (sv ⟨⟨[61, 52, 57]⟩⟩ 518), (sv ⟨⟨[61, 52, 65]⟩⟩ 522), (sv ⟨⟨[61, 52, 66]⟩⟩ 526), (sv ⟨⟨[61, 52, 67]⟩⟩ 530), (sv ⟨⟨[61, 52, 68]⟩⟩ 534), (sv ⟨⟨[61, 52, 69]⟩⟩ 538), (sv ⟨⟨[61, 52, 70]⟩⟩ 542), (sv ⟨⟨[61, 53, 48]⟩⟩ 546), (sv ⟨⟨[61, 53, 49]⟩⟩ 550), (sv ⟨⟨[61, 53, 50]⟩⟩ 554), (sv ⟨⟨[61, 53, 51]⟩⟩ 558), (sv ⟨⟨[61, 53, 52]⟩⟩ 562), (sv ⟨⟨[61, 53, 53]⟩⟩ 566), (sv ⟨⟨[61, 53, 54]⟩⟩ 570), (sv ⟨⟨[61, 53, 55]⟩⟩ 574), (sv ⟨⟨[61, 53, 56]⟩⟩ 578), (sv ⟨⟨[61, 53, 57]⟩⟩ 582), (sv ⟨⟨[61, 53, 65]⟩⟩ 586), (sv ⟨⟨[61, 53, 66]⟩⟩ 590), (sv ⟨⟨[61, 53, 67]⟩⟩ 594), (sv ⟨⟨[61, 53, 68]⟩⟩ 598), (sv ⟨⟨[61, 53, 69]⟩⟩ 602), (sv ⟨⟨[61, 53, 70]⟩⟩ 606), (sv ⟨⟨[61, 54, 48]⟩⟩ 610), (sv ⟨⟨[61, 54, 49]⟩⟩ 614), (sv ⟨⟨[61, 54, 50]⟩⟩ 618), (sv ⟨⟨[61, 54, 51]⟩⟩ 622), (sv ⟨⟨[61, 54, 52]⟩⟩ 626), (sv ⟨⟨[61, 54, 53]⟩⟩ 630), (sv ⟨⟨[61, 54, 54]⟩⟩ 634), (sv ⟨⟨[61, 54, 55]⟩⟩ 638), (sv ⟨⟨[61, 54, 56]⟩⟩ 642), (sv ⟨⟨[61, 54, 57]⟩⟩ 646), (sv ⟨⟨[61, 54, 65]⟩⟩ 650), (sv ⟨⟨[61, 54, 66]⟩⟩ 654), (sv ⟨⟨[61, 54, 67]⟩⟩ 658), (sv ⟨⟨[61, 54, 68]⟩⟩ 662), (sv ⟨⟨[61, 54, 69]⟩⟩ 666), (sv ⟨⟨[61, 54, 70]⟩⟩ 670), (sv ⟨⟨[61, 55, 48]⟩⟩ 674), (sv ⟨⟨[61, 55, 49]⟩⟩ 678), (sv ⟨⟨[61, 55, 50]⟩⟩ 682), (sv ⟨⟨[61, 55, 51]⟩⟩ 686), (sv ⟨⟨[61, 55, 52]⟩⟩ 690), (sv ⟨⟨[61, 55, 53]⟩⟩ 694), (sv ⟨⟨[61, 55, 54]⟩⟩ 698), (sv ⟨⟨[61, 55, 55]⟩⟩ 702), (sv ⟨⟨[61, 55, 56]⟩⟩ 706), (sv ⟨⟨[61, 55, 57]⟩⟩ 710), (sv ⟨⟨[61, 55, 65]⟩⟩ 714), (sv ⟨⟨[61, 55, 66]⟩⟩ 718), (sv ⟨⟨[61, 55, 67]⟩⟩ 722), (sv ⟨⟨[61, 55, 68]⟩⟩ 726), (sv ⟨⟨[61, 55, 69]⟩⟩ 730), (sv ⟨⟨[61, 55, 70]⟩⟩ 734), (sv ⟨⟨[61, 56, 48]⟩⟩ 738), (sv ⟨⟨[61, 56, 49]⟩⟩ 742), (sv ⟨⟨[61, 56, 50]⟩⟩ 746), (sv ⟨⟨[61, 56, 51]⟩⟩ 750), (sv ⟨⟨[61, 56, 52]⟩⟩ 754), (sv ⟨⟨[61, 56, 53]⟩⟩ 758), (sv ⟨⟨[61, 56, 54]⟩⟩ 762), (sv ⟨⟨[61, 56, 55]⟩⟩ 766), (sv ⟨⟨[61, 56, 56]⟩⟩ 770), (sv ⟨⟨[61, 56, 57]⟩⟩ 774), (sv ⟨⟨[61, 56, 65]⟩⟩ 778), (sv ⟨⟨[61, 56, 66]⟩⟩ 782), (sv ⟨⟨[61, 56, 67]⟩⟩ 786), (sv ⟨⟨[61, 56, 68]⟩⟩ 790), (sv ⟨⟨[61, 56, 69]⟩⟩ 794), (sv ⟨⟨[61, 56, 70]⟩⟩ 798), (sv ⟨⟨[61, 57, 48]⟩⟩ 802), (sv ⟨⟨[61, 57, 49]⟩⟩ 806), (sv ⟨⟨[61, 57, 50]⟩⟩ 810), (sv ⟨⟨[61, 57, 51]⟩⟩ 814), (sv ⟨⟨[61, 57, 52]⟩⟩ 818), (sv ⟨⟨[61, 57, 53]⟩⟩ 822), (sv ⟨⟨[61, 57, 54]⟩⟩ 826), (sv ⟨⟨[61, 57, 55]⟩⟩ 830), (sv ⟨⟨[61, 57, 56]⟩⟩ 834), (sv ⟨⟨[61, 57, 57]⟩⟩ 838), (sv ⟨⟨[61, 57, 65]⟩⟩ 842), (sv ⟨⟨[61, 57, 66]⟩⟩ 846), (sv ⟨⟨[61, 57, 67]⟩⟩ 850), (sv ⟨⟨[61, 57, 68]⟩⟩ 854), (sv ⟨⟨[61, 57, 69]⟩⟩ 858), (sv ⟨⟨[61, 57, 70]⟩⟩ 862), (sv ⟨⟨[61, 65, 48]⟩⟩ 866), (sv ⟨⟨[61, 65, 49]⟩⟩ 870), (sv ⟨⟨[61, 65, 50]⟩⟩ 874), (sv ⟨⟨[61, 65, 51]⟩⟩ 878), (sv ⟨⟨[61, 65, 52]⟩⟩ 882), (sv ⟨⟨[61, 65, 53]⟩⟩ 886), (sv ⟨⟨[61, 65, 54]⟩⟩ 890), (sv ⟨⟨[61, 65, 55]⟩⟩ 894), (sv ⟨⟨[61, 65, 56]⟩⟩ 898), (sv ⟨⟨[61, 65, 57]⟩⟩ 902), (sv ⟨⟨[61, 65, 65]⟩⟩ 906), (sv ⟨⟨[61, 65, 66]⟩⟩ 910), (sv ⟨⟨[61, 65, 67]⟩⟩ 914), (sv ⟨⟨[61, 65, 68]⟩⟩ 918), (sv ⟨⟨[61, 65, 69]⟩⟩ 922), (sv ⟨⟨[61, 65, 70]⟩⟩ 926), (sv ⟨⟨[61, 66, 48]⟩⟩ 930), (sv ⟨⟨[61, 66, 49]⟩⟩ 934), (sv ⟨⟨[61, 66, 50]⟩⟩ 938), (sv ⟨⟨[61, 66, 51]⟩⟩ 942), (sv ⟨⟨[61, 66, 52]⟩⟩ 946), (sv ⟨⟨[61, 66, 53]⟩⟩ 950), (sv ⟨⟨[61, 66, 54]⟩⟩ 954), (sv ⟨⟨[61, 66, 55]⟩⟩ 958), (sv ⟨⟨[61, 66, 56]⟩⟩ 962), (sv ⟨⟨[61, 66, 57]⟩⟩ 966), (sv ⟨⟨[61, 66, 65]⟩⟩ 970), (sv ⟨⟨[61, 66, 66]⟩⟩ 974), (sv ⟨⟨[61, 66, 67]⟩⟩ 978), (sv ⟨⟨[61, 66, 68]⟩⟩ 982), (sv ⟨⟨[61, 66, 69]⟩⟩ 986), (sv ⟨⟨[61, 66, 70]⟩⟩ 990), (sv ⟨⟨[61, 67, 48]⟩⟩ 994), (sv ⟨⟨[61, 67, 49]⟩⟩ 998), (sv ⟨⟨[61, 67, 50]⟩⟩ 1002), (sv ⟨⟨[61, 67, 51]⟩⟩ 1006), (sv ⟨⟨[61, 67, 52]⟩⟩ 1010), (sv ⟨⟨[61, 67, 53]⟩⟩ 1014), (sv ⟨⟨[61, 67, 54]⟩⟩ 1018), (sv ⟨⟨[61, 67, 55]⟩⟩ 1022), (sv ⟨⟨[61, 67, 56]⟩⟩ 1026), (sv ⟨⟨[61, 67, 57]⟩⟩ 1030), (sv ⟨⟨[61, 67, 65]⟩⟩ 1034), (sv ⟨⟨[61, 67, 66]⟩⟩ 1038), (sv ⟨⟨[61, 67, 67]⟩⟩ 1042), (sv ⟨⟨[61, 67, 68]⟩⟩ 1046), (sv ⟨⟨[61, 67, 69]⟩⟩ 1050), (sv ⟨⟨[61, 67, 70]⟩⟩ 1054), (sv ⟨⟨[61, 68, 48]⟩⟩ 1058), (sv ⟨⟨[61, 68, 49]⟩⟩ 1062), (sv ⟨⟨[61, 68, 50]⟩⟩ 1066), (sv ⟨⟨[61, 68, 51]⟩⟩ 1070), (sv ⟨⟨[61, 68, 52]⟩⟩ 1074), (sv ⟨⟨[61, 68, 53]⟩⟩ 1078), (sv ⟨⟨[61, 68, 54]⟩⟩ 1082), (sv ⟨⟨[61, 68, 55]⟩⟩ 1086), (sv ⟨⟨[61, 68, 56]⟩⟩ 1090), (sv ⟨⟨[61, 68, 57]⟩⟩ 1094), (sv ⟨⟨[61, 68, 65]⟩⟩ 1098), (sv ⟨⟨[61, 68, 66]⟩⟩ 1102), (sv ⟨⟨[61, 68, 67]⟩⟩ 1106), (sv ⟨⟨[61, 68, 68]⟩⟩ 1110), (sv ⟨⟨[61, 68, 69]⟩⟩ 1114), (sv ⟨⟨[61, 68, 70]⟩⟩ 1118), (sv ⟨⟨[61, 69, 48]⟩⟩ 1122), (sv ⟨⟨[61, 69, 49]⟩⟩ 1126), (sv ⟨⟨[61, 69, 50]⟩⟩ 1130), (sv ⟨⟨[61, 69, 51]⟩⟩ 1134), (sv ⟨⟨[61, 69, 52]⟩⟩ 1138), (sv ⟨⟨[61, 69, 53]⟩⟩ 1142), (sv ⟨⟨[61, 69, 54]⟩⟩ 1146), (sv ⟨⟨[61, 69, 55]⟩⟩ 1150), (sv ⟨⟨[61, 69, 56]⟩⟩ 1154), (sv ⟨⟨[61, 69, 57]⟩⟩ 1158), (sv ⟨⟨[61, 69, 65]⟩⟩ 1162), (sv ⟨⟨[61, 69, 66]⟩⟩ 1166), (sv ⟨⟨[61, 69, 67]⟩⟩ 1170), (sv ⟨⟨[61, 69, 68]⟩⟩ 1174), (sv ⟨⟨[61, 69, 69]⟩⟩ 1178), (sv ⟨⟨[61, 69, 70]⟩⟩ 1182), (sv ⟨⟨[61, 70, 48]⟩⟩ 1186), (sv ⟨⟨[61, 70, 49]⟩⟩ 1190), (sv ⟨⟨[61, 70, 50]⟩⟩ 1194), (sv ⟨⟨[61, 70, 51]⟩⟩ 1198), (sv ⟨⟨[61, 70, 52]⟩⟩ 1202), (sv ⟨⟨[61, 70, 53]⟩⟩ 1206), (sv ⟨⟨[61, 70, 54]⟩⟩ 1210), (sv ⟨⟨[61, 70, 55]⟩⟩ 1214), (sv ⟨⟨[61, 70, 56]⟩⟩ 1218), (sv ⟨⟨[61, 70, 57]⟩⟩ 1222), (sv ⟨⟨[61, 70, 65]⟩⟩ 1226), (sv ⟨⟨[61, 70, 66]⟩⟩ 1230), (sv ⟨⟨[61, 70, 67]⟩⟩ 1234), (sv ⟨⟨[61, 70, 68]⟩⟩ 1238), (sv ⟨⟨[61, 70, 69]⟩⟩ 1242), (sv ⟨⟨[61, 70, 70]⟩⟩ 1246)]⟩ 0), ⟨[]⟩⟩
noncomputable def o46v4b (z : Zs) (p : Program) (P : Params) : Obj := ⟨(.type z.bit), none, (.fields ⟨[(.bytes ⟨[32, 33, 34, 35, 36, 37, 38, 39, 40, 41, 42, 43, 44, 45, 46, 47, 48, 49, 50, 51, 52, 53, 54, 55, 56, 57, 58, 59, 60, 62, 63, 64, 65, 66, 67, 68, 69, 70, 71, 72, 73, 74, 75, 76, 77, 78, 79, 80, 81, 82, 83, 84, 85, 86, 87, 88, 89, 90, 91, 92, 93, 94, 95, 96, 97, 98, 99, 100, 101, 102, 103, 104, 105, 106, 107, 108, 109, 110, 111, 112, 113, 114, 115, 116, 117, 118, 119, 120, 121, 122, 123, 124, 125, 126, 9]⟩ 1476), (.int 33 0)]⟩), ⟨[]⟩⟩
noncomputable def T4b (z : Zs) (p : Program) (P : Params) : BT := (.node (boot_o_0 P) (.node (boot_o_1 P) (.node (o3v4b z p P) (.node (boot_o_7 P) (.node (o15v1 z p P) (.node (o31v1 z p P) .nil .nil) .nil) (.node (o23v1 z p P) (.node (o39v3 z p P) .nil .nil) .nil)) (.node (o11v0 z p P) (.node (o19v1 z p P) (.node (o35v2 z p P) .nil .nil) .nil) (.node (o27v1 z p P) (.node (o43v4 z p P) .nil .nil) .nil))) (.node (boot_o_5 P) (.node (boot_o_9 P) (.node (o17v1 z p P) (.node (o33v1a z p P) .nil .nil) .nil) (.node (o25v1 z p P) (.node (o41v3 z p P) .nil .nil) .nil)) (.node (o13v0 z p P) (.node (o21v1 z p P) (.node (o37v2 z p P) .nil .nil) .nil) (.node (o29v1 z p P) (.node (o45v4 z p P) .nil .nil) .nil)))) (.node (boot_o_2 P) (.node (boot_o_4 P) (.node (boot_o_8 P) (.node (o16v1 z p P) (.node (o32v1 z p P) .nil .nil) .nil) (.node (o24v1 z p P) (.node (o40v4 z p P) .nil .nil) .nil)) (.node (o12v1 z p P) (.node (o20v1 z p P) (.node (o36v2 z p P) .nil .nil) .nil) (.node (o28v1 z p P) (.node (o44v4 z p P) .nil .nil) .nil))) (.node (boot_o_6 P) (.node (boot_o_10 P) (.node (o18v1 z p P) (.node (o34v2 z p P) .nil .nil) .nil) (.node (o26v1 z p P) (.node (o42v4b z p P) .nil .nil) .nil)) (.node (o14v0 z p P) (.node (o22v1 z p P) (.node (o38v2 z p P) .nil .nil) .nil) (.node (o30v1 z p P) (.node (o46v4b z p P) .nil .nil) .nil)))))
noncomputable def o3v4c (z : Zs) (p : Program) (P : Params) : Obj := ⟨(.type "dict"), none, (.dict ⟨[hk P ⟨⟨[95, 95, 110, 97, 109, 101, 95, 95]⟩⟩ 165 (sv ⟨⟨[99, 112, 121, 51, 49, 51, 46, 101, 109, 97, 105, 108, 46, 113, 117, 111, 112, 114, 105, 109, 105, 109, 101]⟩⟩ 1263), hk P ⟨⟨[95, 95, 100, 111, 99, 95, 95]⟩⟩ 166 .none, hk P ⟨⟨[95, 95, 112, 97, 99, 107, 97, 103, 101, 95, 95]⟩⟩ 167 .none, hk P ⟨⟨[95, 95, 108, 111, 97, 100, 101, 114, 95, 95]⟩⟩ 168 (.builtin "__main__.__loader__#opaque"), hk P ⟨⟨[95, 95, 115, 112, 101, 99, 95, 95]⟩⟩ 169 .none, hk P ⟨⟨[95, 95, 97, 110, 110, 111, 116, 97, 116, 105, 111, 110, 115, 95, 95]⟩⟩ 170 (.ref 6), hk P ⟨⟨[95, 95, 98, 117, 105, 108, 116, 105, 110, 115, 95, 95]⟩⟩ 171 (.ref 4), hk P ⟨⟨[95, 95, 102, 105, 108, 101, 95, 95]⟩⟩ 173 (sv (Str.ofString "/claim/cut.py") 172), hk P ⟨⟨[95, 95, 99, 97, 99, 104, 101, 100, 95, 95]⟩⟩ 174 .none, hk P ⟨⟨[105, 110, 115, 111, 114, 116, 95, 108, 101, 102, 116]⟩⟩ 201 (.ref 23), hk P ⟨⟨[98, 105, 115, 101, 99, 116, 95, 108, 101, 102, 116]⟩⟩ 215 (.ref 32), hk P ⟨⟨[67, 82, 76, 70]⟩⟩ 217 (sv ⟨⟨[13, 10]⟩⟩ 216), hk P ⟨⟨[78, 76]⟩⟩ 219 (sv ⟨⟨[10]⟩⟩ 218), hk P ⟨⟨[95, 81, 85, 79, 80, 82, 73, 95, 77, 65, 80]⟩⟩ 1247 (.ref 35), hk P ⟨⟨[95, 81, 85, 79, 80, 82, 73, 95, 72, 69, 65, 68, 69, 82, 95, 77, 65, 80]⟩⟩ 1248 (.ref 40), hk P ⟨⟨[95, 81, 85, 79, 80, 82, 73, 95, 66, 79, 68, 89, 95, 77, 65, 80]⟩⟩ 1249 (.ref 42), hk P ⟨⟨[97, 115, 99, 105, 105, 95, 108, 111, 119, 101, 114, 99, 97, 115, 101]⟩⟩ 1251 (sv ⟨⟨[97, 98, 99, 100, 101, 102, 103, 104, 105, 106, 107, 108, 109, 110, 111, 112, 113, 114, 115, 116, 117, 118, 119, 120, 121, 122]⟩⟩ 1250), hk P ⟨⟨[97, 115, 99, 105, 105, 95, 117, 112, 112, 101, 114, 99, 97, 115, 101]⟩⟩ 1253 (sv ⟨⟨[65, 66, 67, 68, 69, 70, 71, 72, 73, 74, 75, 76, 77, 78, 79, 80, 81, 82, 83, 84, 85, 86, 87, 88, 89, 90]⟩⟩ 1252), hk P ⟨⟨[97, 115, 99, 105, 105, 95, 108, 101, 116, 116, 101, 114, 115]⟩⟩ 1255 (sv ⟨⟨[97, 98, 99, 100, 101, 102, 103, 104, 105, 106, 107, 108, 109, 110, 111, 112, 113, 114, 115, 116, 117, 118, 119, 120, 121, 122, 65, 66, 67, 68, 69, 70, 71, 72, 73, 74, 75, 76, 77, 78, 79, 80, 81, 82, 83, 84, 85, 86, 87, 88, 89, 90]⟩⟩ 1254), hk P ⟨⟨[100, 105, 103, 105, 116, 115]⟩⟩ 1257 (sv ⟨⟨[48, 49, 50, 51, 52, 53, 54, 55, 56, 57]⟩⟩ 1256), hk P ⟨⟨[104, 101, 120, 100, 105, 103, 105, 116, 115]⟩⟩ 1262 (sv ⟨⟨[48, 49, 50, 51, 52, 53, 54, 55, 56, 57, 97, 98, 99, 100, 101, 102, 65, 66, 67, 68, 69, 70]⟩⟩ 1261), hk P ⟨⟨[99]⟩⟩ 1273 (.int 97 1669)]⟩ 22), ⟨[]⟩⟩
noncomputable def o42v4c (z : Zs) (p : Program) (P : Params) : Obj := ⟨(.type z.lst), none, (.seq ⟨[(sv ⟨⟨[61, 48, 48]⟩⟩ 226), (sv ⟨⟨[61, 48, 49]⟩⟩ 230), (sv ⟨⟨[61, 48, 50]⟩⟩ 234), (sv ⟨⟨[61, 48, 51]⟩⟩ 238), (sv ⟨⟨[61, 48, 52]⟩⟩ 242), (sv ⟨⟨[61, 48, 53]⟩⟩ 246), (sv ⟨⟨[61, 48, 54]⟩⟩ 250), (sv ⟨⟨[61, 48, 55]⟩⟩ 254), (sv ⟨⟨[61, 48, 56]⟩⟩ 258), (sv ⟨⟨[61, 48, 57]⟩⟩ 262), (sv ⟨⟨[61, 48, 65]⟩⟩ 266), (sv ⟨⟨[61, 48, 66]⟩⟩ 270), (sv ⟨⟨[61, 48, 67]⟩⟩ 274), (sv ⟨⟨[61, 48, 68]⟩⟩ 278), (sv ⟨⟨[61, 48, 69]⟩⟩ 282), (sv ⟨⟨[61, 48, 70]⟩⟩ 286), (sv ⟨⟨[61, 49, 48]⟩⟩ 290), (sv ⟨⟨[61, 49, 49]⟩⟩ 294), (sv ⟨⟨[61, 49, 50]⟩⟩ 298), (sv ⟨⟨[61, 49, 51]⟩⟩ 302), (sv ⟨⟨[61, 49, 52]⟩⟩ 306), (sv ⟨⟨[61, 49, 53]⟩⟩ 310), (sv ⟨⟨[61, 49, 54]⟩⟩ 314), (sv ⟨⟨[61, 49, 55]⟩⟩ 318), (sv ⟨⟨[61, 49, 56]⟩⟩ 322), (sv ⟨⟨[61, 49, 57]⟩⟩ 326), (sv ⟨⟨[61, 49, 65]⟩⟩ 330), (sv ⟨⟨[61, 49, 66]⟩⟩ 334), (sv ⟨⟨[61, 49, 67]⟩⟩ 338), (sv ⟨⟨[61, 49, 68]⟩⟩ 342), (sv ⟨⟨[61, 49, 69]⟩⟩ 346), (sv ⟨⟨[61, 49, 70]⟩⟩ 350), (sv ⟨⟨[32]⟩⟩ 1479), (sv ⟨⟨[33]⟩⟩ 1482), (sv ⟨⟨[34]⟩⟩ 1485), (sv ⟨⟨[35]⟩⟩ 1488), (sv ⟨⟨[36]⟩⟩ 1491), (sv ⟨⟨[37]⟩⟩ 1494), (sv ⟨⟨[38]⟩⟩ 1497), (sv ⟨⟨[39]⟩⟩ 1500), (sv ⟨⟨[40]⟩⟩ 1503), (sv ⟨⟨[41]⟩⟩ 1506), (sv ⟨⟨[42]⟩⟩ 1509), (sv ⟨⟨[43]⟩⟩ 1512), (sv ⟨⟨[44]⟩⟩ 1515), (sv ⟨⟨[45]⟩⟩ 1518), (sv ⟨⟨[46]⟩⟩ 1521), (sv ⟨⟨[47]⟩⟩ 1524), (sv ⟨⟨[48]⟩⟩ 1527), (sv ⟨⟨[49]⟩⟩ 1530), (sv ⟨⟨[50]⟩⟩ 1533), (sv ⟨⟨[51]⟩⟩ 1536), (sv ⟨⟨[52]⟩⟩ 1539), (sv ⟨⟨[53]⟩⟩ 1542), (sv ⟨⟨[54]⟩⟩ 1545), (sv ⟨⟨[55]⟩⟩ 1548), (sv ⟨⟨[56]⟩⟩ 1551), (sv ⟨⟨[57]⟩⟩ 1554), (sv ⟨⟨[58]⟩⟩ 1557), (sv ⟨⟨[59]⟩⟩ 1560), (sv ⟨⟨[60]⟩⟩ 1563), (sv ⟨⟨[61, 51, 68]⟩⟩ 470), (sv ⟨⟨[62]⟩⟩ 1566), (sv ⟨⟨[63]⟩⟩ 1569), (sv ⟨⟨[64]⟩⟩ 1572), (sv ⟨⟨[65]⟩⟩ 1575), (sv ⟨⟨[66]⟩⟩ 1578), (sv ⟨⟨[67]⟩⟩ 1581), (sv ⟨⟨[68]⟩⟩ 1584), (sv ⟨⟨[69]⟩⟩ 1587), (sv ⟨⟨[70]⟩⟩ 1590), (sv ⟨⟨[71]⟩⟩ 1593), (sv ⟨⟨[72]⟩⟩ 1596), (sv ⟨⟨[73]⟩⟩ 1599), (sv ⟨⟨[74]⟩⟩ 1602), (sv ⟨⟨[75]⟩⟩ 1605), (sv ⟨⟨[76]⟩⟩ 1608), (sv ⟨⟨[77]⟩⟩ 1611), (sv ⟨⟨[78]⟩⟩ 1614), (sv ⟨⟨[79]⟩⟩ 1617), (sv ⟨⟨[80]⟩⟩ 1620), (sv ⟨⟨[81]⟩⟩ 1623), (sv ⟨⟨[82]⟩⟩ 1626), (sv ⟨⟨[83]⟩⟩ 1629), (sv ⟨⟨[84]⟩⟩ 1632), (sv ⟨⟨[85]⟩⟩ 1635), (sv ⟨⟨[86]⟩⟩ 1638), (sv ⟨⟨[87]⟩⟩ 1641), (sv ⟨⟨[88]⟩⟩ 1644), (sv ⟨⟨[89]⟩⟩ 1647), (sv ⟨⟨[90]⟩⟩ 1650), (sv ⟨⟨[91]⟩⟩ 1653), (sv ⟨⟨[92]⟩⟩ 1656), (sv ⟨⟨[93]⟩⟩ 1659), (sv ⟨⟨[94]⟩⟩ 1662), (sv ⟨⟨[95]⟩⟩ 1665), (sv ⟨⟨[96]⟩⟩ 1668), (sv ⟨⟨[97]⟩⟩ 1671), (sv ⟨⟨[61, 54, 50]⟩⟩ 618), (sv ⟨⟨[61, 54, 51]⟩⟩ 622), (sv ⟨⟨[61, 54, 52]⟩⟩ 626), (sv ⟨⟨[61, 54, 53]⟩⟩ 630), (sv ⟨⟨[61, 54, 54]⟩⟩ 634), (sv ⟨⟨[61, 54, 55]⟩⟩ 638), (sv ⟨⟨[61, 54, 56]⟩⟩ 642), (sv ⟨⟨[61, 54, 57]⟩⟩ 646), (sv ⟨⟨[61, 54, 65]⟩⟩ 650), (sv ⟨⟨[61, 54, 66]⟩⟩ 654), (sv ⟨⟨[61, 54, 67]⟩⟩ 658), (sv ⟨⟨[61, 54, 68]⟩⟩ 662), (sv ⟨⟨[61, 54, 69]⟩⟩ 666), (sv ⟨⟨[61, 54, 70]⟩⟩ 670), (sv ⟨⟨[61, 55, 48]⟩⟩ 674), (sv ⟨⟨[61, 55, 49]⟩⟩ 678), (sv ⟨⟨[61, 55, 50]⟩⟩ 682), (sv ⟨⟨[61, 55, 51]⟩⟩ 686), (sv ⟨⟨[61, 55, 52]⟩⟩ 690), (sv ⟨⟨[61, 55, 53]⟩⟩ 694), (sv ⟨⟨[61, 55, 54]⟩⟩ 698), (sv ⟨⟨[61, 55, 55]⟩⟩ 702), (sv ⟨⟨[61, 55, 56]⟩⟩ 706), (sv ⟨⟨[61, 55, 57]⟩⟩ 710), (sv ⟨⟨[61, 55, 65]⟩⟩ 714), (sv ⟨⟨[61, 55, 66]⟩⟩ 718), (sv ⟨⟨[61, 55, 67]⟩⟩ 722), (sv ⟨⟨[61, 55, 68]⟩⟩ 726), (sv ⟨⟨[61, 55, 69]⟩⟩ 730), (sv ⟨⟨[61, 55, 70]⟩⟩ 734), (sv ⟨⟨[61, 56, 48]⟩⟩ 738), (sv ⟨⟨[61, 56, 49]⟩⟩ 742), (sv ⟨⟨[61, 56, 50]⟩⟩ 746), (sv ⟨⟨[61, 56, 51]⟩⟩ 750), (sv ⟨⟨[61, 56, 52]⟩⟩ 754), (sv ⟨⟨[61, 56, 53]⟩⟩ 758), (sv ⟨⟨[61, 56, 54]⟩⟩ 762), (sv ⟨⟨[61, 56, 55]⟩⟩ 766), (sv ⟨⟨[61, 56, 56]⟩⟩ 770), (sv ⟨⟨[61, 56, 57]⟩⟩ 774), (sv ⟨⟨[61, 56, 65]⟩⟩ 778), (sv ⟨⟨[61, 56, 66]⟩⟩ 782), (sv ⟨⟨[61, 56, 67]⟩⟩ 786), (sv ⟨⟨[61, 56, 68]⟩⟩ 790), (sv ⟨⟨[61, 56, 69]⟩⟩ 794), (sv ⟨⟨[61, 56, 70]⟩⟩ 798), (sv ⟨⟨[61, 57, 48]⟩⟩ 802), (sv ⟨⟨[61, 57, 49]⟩⟩ 806), (sv ⟨⟨[61, 57, 50]⟩⟩ 810), (sv ⟨⟨[61, 57, 51]⟩⟩ 814), (sv ⟨⟨[61, 57, 52]⟩⟩ 818), (sv ⟨⟨[61, 57, 53]⟩⟩ 822), (sv ⟨⟨[61, 57, 54]⟩⟩ 826), (sv ⟨⟨[61, 57, 55]⟩⟩ 830), (sv ⟨⟨[61, 57, 56]⟩⟩ 834), (sv ⟨⟨[61, 57, 57]⟩⟩ 838), (sv ⟨⟨[61, 57, 65]⟩⟩ 842), (sv ⟨⟨[61, 57, 66]⟩⟩ 846), (sv ⟨⟨[61, 57, 67]⟩⟩ 850), (sv ⟨⟨[61, 57, 68]⟩⟩ 854), (sv ⟨⟨[61, 57, 69]⟩⟩ 858), (sv ⟨⟨[61, 57, 70]⟩⟩ 862), (sv ⟨⟨[61, 65, 48]⟩⟩ 866), (sv ⟨⟨[61, 65, 49]⟩⟩ 870), (sv ⟨⟨[61, 65, 50]⟩⟩ 874), (sv ⟨⟨[61, 65, 51]⟩⟩ 878), (sv ⟨⟨[61, 65, 52]⟩⟩ 882), (sv ⟨⟨[61, 65, 53]⟩⟩ 886), (sv ⟨⟨[61, 65, 54]⟩⟩ 890), (sv ⟨⟨[61, 65, 55]⟩⟩ 894), (sv ⟨⟨[61, 65, 56]⟩⟩ 898), (sv ⟨⟨[61, 65, 57]⟩⟩ 902), (sv ⟨⟨[61, 65, 65]⟩⟩ 906), (sv ⟨⟨[61, 65, 66]⟩⟩ 910), (sv ⟨⟨[61, 65, 67]⟩⟩ 914), (sv ⟨⟨[61, 65, 68]⟩⟩ 918), (sv ⟨⟨[61, 65, 69]⟩⟩ 922), (sv ⟨⟨[61, 65, 70]⟩⟩ 926), (sv ⟨⟨[61, 66, 48]⟩⟩ 930), (sv ⟨⟨[61, 66, 49]⟩⟩ 934), (sv ⟨⟨[61, 66, 50]⟩⟩ 938), (sv ⟨⟨[61, 66, 51]⟩⟩ 942), (sv ⟨⟨[61, 66, 52]⟩⟩ 946), (sv ⟨⟨[61, 66, 53]⟩⟩ 950), (sv ⟨⟨[61, 66, 54]⟩⟩ 954), (sv ⟨⟨[61, 66, 55]⟩⟩ 958), (sv ⟨⟨[61, 66, 56]⟩⟩ 962), (sv ⟨⟨[61, 66, 57]⟩⟩ 966), (sv ⟨⟨[61, 66, 65]⟩⟩ 970), (sv ⟨⟨[61, 66, 66]⟩⟩ 974), (sv ⟨⟨[61, 66, 67]⟩⟩ 978), (sv ⟨⟨[61, 66, 68]⟩⟩ 982), (sv ⟨⟨[61, 66, 69]⟩⟩ 986), (sv ⟨⟨[61, 66, 70]⟩⟩ 990), (sv ⟨⟨[61, 67, 48]⟩⟩ 994), (sv ⟨⟨[61, 67, 49]⟩⟩ 998), (sv ⟨⟨[61, 67, 50]⟩⟩ 1002), (sv ⟨⟨[61, 67, 51]⟩⟩ 1006), (sv ⟨⟨[61, 67, 52]⟩⟩ 1010), (sv ⟨⟨[61, 67, 53]⟩⟩ 1014), (sv ⟨⟨[61, 67, 54]⟩⟩ 1018), (sv ⟨⟨[61, 67, 55]⟩⟩ 1022), (sv ⟨⟨[61, 67, 56]⟩⟩ 1026), (sv ⟨⟨[61, 67, 57]⟩⟩ 1030), (sv ⟨⟨[61, 67, 65]⟩⟩ 1034), (sv ⟨⟨[61, 67, 66]⟩⟩ 1038), (sv ⟨⟨[61, 67, 67]⟩⟩ 1042), (sv ⟨⟨[61, 67, 68]⟩⟩ 1046), (sv ⟨⟨[61, 67, 69]⟩⟩ 1050), (sv ⟨⟨[61, 67, 70]⟩⟩ 1054), (sv ⟨⟨[61, 68, 48]⟩⟩ 1058), (sv ⟨⟨[61, 68, 49]⟩⟩ 1062), (sv ⟨⟨[61, 68, 50]⟩⟩ 1066), (sv ⟨⟨[61, 68, 51]⟩⟩ 1070), (sv ⟨⟨[61, 68, 52]⟩⟩ 1074), (sv ⟨⟨[61, 68, 53]⟩⟩ 1078), (sv ⟨⟨[61, 68, 54]⟩⟩ 1082), (sv ⟨⟨[61, 68, 55]⟩⟩ 1086), (sv ⟨⟨[61, 68, 56]⟩⟩ 1090), (sv ⟨⟨[61, 68, 57]⟩⟩ 1094), (sv ⟨⟨[61, 68, 65]⟩⟩ 1098), (sv ⟨⟨[61, 68, 66]⟩⟩ 1102), (sv ⟨⟨[61, 68, 67]⟩⟩ 1106), (sv ⟨⟨[61, 68, 68]⟩⟩ 1110), (sv ⟨⟨[61, 68, 69]⟩⟩ 1114), (sv ⟨⟨[61, 68, 70]⟩⟩ 1118), (sv ⟨⟨[61, 69, 48]⟩⟩ 1122), (sv ⟨⟨[61, 69, 49]⟩⟩ 1126), (sv ⟨⟨[61, 69, 50]⟩⟩ 1130), (sv ⟨⟨[61, 69, 51]⟩⟩ 1134), (sv ⟨⟨[61, 69, 52]⟩⟩ 1138), (sv ⟨⟨[61, 69, 53]⟩⟩ 1142), (sv ⟨⟨[61, 69, 54]⟩⟩ 1146), (sv ⟨⟨[61, 69, 55]⟩⟩ 1150), (sv ⟨⟨[61, 69, 56]⟩⟩ 1154), (sv ⟨⟨[61, 69, 57]⟩⟩ 1158), (sv ⟨⟨[61, 69, 65]⟩⟩ 1162), (sv ⟨⟨[61, 69, 66]⟩⟩ 1166), (sv ⟨⟨[61, 69, 67]⟩⟩ 1170), (sv ⟨⟨[61, 69, 68]⟩⟩ 1174), (sv ⟨⟨[61, 69, 69]⟩⟩ 1178), (sv ⟨⟨[61, 69, 70]⟩⟩ 1182), (sv ⟨⟨[61, 70, 48]⟩⟩ 1186), (sv ⟨⟨[61, 70, 49]⟩⟩ 1190), (sv ⟨⟨[61, 70, 50]⟩⟩ 1194), (sv ⟨⟨[61, 70, 51]⟩⟩ 1198), (sv ⟨⟨[61, 70, 52]⟩⟩ 1202), (sv ⟨⟨[61, 70, 53]⟩⟩ 1206), (sv ⟨⟨[61, 70, 54]⟩⟩ 1210), (sv ⟨⟨[61, 70, 55]⟩⟩ 1214), (sv ⟨⟨[61, 70, 56]⟩⟩ 1218), (sv ⟨⟨[61, 70, 57]⟩⟩ 1222), (sv ⟨⟨[61, 70, 65]⟩⟩ 1226), (sv ⟨⟨[61, 70, 66]⟩⟩ 1230), (sv ⟨⟨[61, 70, 67]⟩⟩ 1234), (sv ⟨⟨[61, 70, 68]⟩⟩ 1238), (sv ⟨⟨[61, 70, 69]⟩⟩ 1242), (sv ⟨⟨[61, 70, 70]⟩⟩ 1246)]⟩ 0), ⟨[]⟩⟩
noncomputable def o46v4c (z : Zs) (p : Program) (P : Params) : Obj := ⟨(.type z.bit), none, (.fields ⟨[(.bytes ⟨[32, 33, 34, 35, 36, 37, 38, 39, 40, 41, 42, 43, 44, 45, 46, 47, 48, 49, 50, 51, 52, 53, 54, 55, 56, 57, 58, 59, 60, 62, 63, 64, 65, 66, 67, 68, 69, 70, 71, 72, 73, 74, 75, 76, 77, 78, 79, 80, 81, 82, 83, 84, 85, 86, 87, 88, 89, 90, 91, 92, 93, 94, 95, 96, 97, 98, 99, 100, 101, 102, 103, 104, 105, 106, 107, 108, 109, 110, 111, 112, 113, 114, 115, 116, 117, 118, 119, 120, 121, 122, 123, 124, 125, 126, 9]⟩ 1476), (.int 65 0)]⟩), ⟨[]⟩⟩
noncomputable def T4c (z : Zs) (p : Program) (P : Params) : BT := (.node (boot_o_0 P) (.node (boot_o_1 P) (.node (o3v4c z p P) (.node (boot_o_7 P) (.node (o15v1 z p P) (.node (o31v1 z p P) .nil .nil) .nil) (.node (o23v1 z p P) (.node (o39v3 z p P) .nil .nil) .nil)) (.node (o11v0 z p P) (.node (o19v1 z p P) (.node (o35v2 z p P) .nil .nil) .nil) (.node (o27v1 z p P) (.node (o43v4 z p P) .nil .nil) .nil))) (.node (boot_o_5 P) (.node (boot_o_9 P) (.node (o17v1 z p P) (.node (o33v1a z p P) .nil .nil) .nil) (.node (o25v1 z p P) (.node (o41v3 z p P) .nil .nil) .nil)) (.node (o13v0 z p P) (.node (o21v1 z p P) (.node (o37v2 z p P) .nil .nil) .nil) (.node (o29v1 z p P) (.node (o45v4 z p P) .nil .nil) .nil)))) (.node (boot_o_2 P) (.node (boot_o_4 P) (.node (boot_o_8 P) (.node (o16v1 z p P) (.node (o32v1 z p P) .nil .nil) .nil) (.node (o24v1 z p P) (.node (o40v4 z p P) .nil .nil) .nil)) (.node (o12v1 z p P) (.node (o20v1 z p P) (.node (o36v2 z p P) .nil .nil) .nil) (.node (o28v1 z p P) (.node (o44v4 z p P) .nil .nil) .nil))) (.node (boot_o_6 P) (.node (boot_o_10 P) (.node (o18v1 z p P) (.node (o34v2 z p P) .nil .nil) .nil) (.node (o26v1 z p P) (.node (o42v4c z p P) .nil .nil) .nil)) (.node (o14v0 z p P) (.node (o22v1 z p P) (.node (o38v2 z p P) .nil .nil) .nil) (.node (o30v1 z p P) (.node (o46v4c z p P) .nil .nil) .nil)))))
noncomputable def o3v5 (z : Zs) (p : Program) (P : Params) : Obj := ⟨(.type "dict"), none, (.dict ⟨[hk P ⟨⟨[95, 95, 110, 97, 109, 101, 95, 95]⟩⟩ 165 (sv ⟨⟨[99, 112, 121, 51, 49, 51, 46, 101, 109, 97, 105, 108, 46, 113, 117, 111, 112, 114, 105, 109, 105, 109, 101]⟩⟩ 1263), hk P ⟨⟨[95, 95, 100, 111, 99, 95, 95]⟩⟩ 166 .none, hk P ⟨⟨[95, 95, 112, 97, 99, 107, 97, 103, 101, 95, 95]⟩⟩ 167 .none, hk P ⟨⟨[95, 95, 108, 111, 97, 100, 101, 114, 95, 95]⟩⟩ 168 (.builtin "__main__.__loader__#opaque"), hk P ⟨⟨[95, 95, 115, 112, 101, 99, 95, 95]⟩⟩ 169 .none, hk P ⟨⟨[95, 95, 97, 110, 110, 111, 116, 97, 116, 105, 111, 110, 115, 95, 95]⟩⟩ 170 (.ref 6), hk P ⟨⟨[95, 95, 98, 117, 105, 108, 116, 105, 110, 115, 95, 95]⟩⟩ 171 (.ref 4), hk P ⟨⟨[95, 95, 102, 105, 108, 101, 95, 95]⟩⟩ 173 (sv (Str.ofString "/claim/cut.py") 172), hk P ⟨⟨[95, 95, 99, 97, 99, 104, 101, 100, 95, 95]⟩⟩ 174 .none, hk P ⟨⟨[105, 110, 115, 111, 114, 116, 95, 108, 101, 102, 116]⟩⟩ 201 (.ref 23), hk P ⟨⟨[98, 105, 115, 101, 99, 116, 95, 108, 101, 102, 116]⟩⟩ 215 (.ref 32), hk P ⟨⟨[67, 82, 76, 70]⟩⟩ 217 (sv ⟨⟨[13, 10]⟩⟩ 216), hk P ⟨⟨[78, 76]⟩⟩ 219 (sv ⟨⟨[10]⟩⟩ 218), hk P ⟨⟨[95, 81, 85, 79, 80, 82, 73, 95, 77, 65, 80]⟩⟩ 1247 (.ref 35), hk P ⟨⟨[95, 81, 85, 79, 80, 82, 73, 95, 72, 69, 65, 68, 69, 82, 95, 77, 65, 80]⟩⟩ 1248 (.ref 40), hk P ⟨⟨[95, 81, 85, 79, 80, 82, 73, 95, 66, 79, 68, 89, 95, 77, 65, 80]⟩⟩ 1249 (.ref 42), hk P ⟨⟨[97, 115, 99, 105, 105, 95, 108, 111, 119, 101, 114, 99, 97, 115, 101]⟩⟩ 1251 (sv ⟨⟨[97, 98, 99, 100, 101, 102, 103, 104, 105, 106, 107, 108, 109, 110, 111, 112, 113, 114, 115, 116, 117, 118, 119, 120, 121, 122]⟩⟩ 1250), hk P ⟨⟨[97, 115, 99, 105, 105, 95, 117, 112, 112, 101, 114, 99, 97, 115, 101]⟩⟩ 1253 (sv ⟨⟨[65, 66, 67, 68, 69, 70, 71, 72, 73, 74, 75, 76, 77, 78, 79, 80, 81, 82, 83, 84, 85, 86, 87, 88, 89, 90]⟩⟩ 1252), hk P ⟨⟨[97, 115, 99, 105, 105, 95, 108, 101, 116, 116, 101, 114, 115]⟩⟩ 1255 (sv ⟨⟨[97, 98, 99, 100, 101, 102, 103, 104, 105, 106, 107, 108, 109, 110, 111, 112, 113, 114, 115, 116, 117, 118, 119, 120, 121, 122, 65, 66, 67, 68, 69, 70, 71, 72, 73, 74, 75, 76, 77, 78, 79, 80, 81, 82, 83, 84, 85, 86, 87, 88, 89, 90]⟩⟩ 1254), hk P ⟨⟨[100, 105, 103, 105, 116, 115]⟩⟩ 1257 (sv ⟨⟨[48, 49, 50, 51, 52, 53, 54, 55, 56, 57]⟩⟩ 1256), hk P ⟨⟨[104, 101, 120, 100, 105, 103, 105, 116, 115]⟩⟩ 1262 (sv ⟨⟨[48, 49, 50, 51, 52, 53, 54, 55, 56, 57, 97, 98, 99, 100, 101, 102, 65, 66, 67, 68, 69, 70]⟩⟩ 1261), hk P ⟨⟨[99]⟩⟩ 1273 (.int 9 1759)]⟩ 22), ⟨[]⟩⟩
noncomputable def o42v5 (z : Zs) (p : Program) (P : Params) : Obj := ⟨(.type z.lst), none, (.seq ⟨[(sv ⟨⟨[61, 48, 48]⟩⟩ 226), (sv ⟨⟨[61, 48, 49]⟩⟩ 230), (sv ⟨⟨[61, 48, 50]⟩⟩ 234), (sv ⟨⟨[61, 48, 51]⟩⟩ 238), (sv ⟨⟨[61, 48, 52]⟩⟩ 242), (sv ⟨⟨[61, 48, 53]⟩⟩ 246), (sv ⟨⟨[61, 48, 54]⟩⟩ 250), (sv ⟨⟨[61, 48, 55]⟩⟩ 254), (sv ⟨⟨[61, 48, 56]⟩⟩ 258), (sv ⟨⟨[9]⟩⟩ 1761), (sv ⟨⟨[61, 48, 65]⟩⟩ 266), (sv ⟨⟨[61, 48, 66]⟩⟩ 270), (sv ⟨⟨[61, 48, 67]⟩⟩ 274), (sv ⟨⟨[61, 48, 68]⟩⟩ 278), (sv ⟨⟨[61, 48, 69]⟩⟩ 282), (sv ⟨⟨[61, 48, 70]⟩⟩ 286), (sv ⟨⟨[61, 49, 48]⟩⟩ 290), (sv ⟨⟨[61, 49, 49]⟩⟩ 294), (sv ⟨⟨[61, 49, 50]⟩⟩ 298), (sv ⟨⟨[61, 49, 51]⟩⟩ 302), (sv ⟨⟨[61, 49, 52]⟩⟩ 306), (sv ⟨⟨[61, 49, 53]⟩⟩ 310), (sv ⟨⟨[61, 49, 54]⟩⟩ 314), (sv ⟨⟨[61, 49, 55]⟩⟩ 318), (sv ⟨⟨[61, 49, 56]⟩⟩ 322), (sv ⟨⟨[61, 49, 57]⟩⟩ 326), (sv ⟨⟨[61, 49, 65]⟩⟩ 330), (sv ⟨⟨[61, 49, 66]⟩⟩ 334), (sv ⟨⟨[61, 49, 67]⟩⟩ 338), (sv ⟨⟨[61, 49, 68]⟩⟩ 342), (sv ⟨⟨[61, 49, 69]⟩⟩ 346), (sv ⟨⟨[61, 49, 70]⟩⟩ 350), (sv ⟨⟨[32]⟩⟩ 1479), (sv ⟨⟨[33]⟩⟩ 1482), (sv ⟨⟨[34]⟩⟩ 1485), (sv ⟨⟨[35]⟩⟩ 1488), (sv ⟨⟨[36]⟩⟩ 1491), (sv ⟨⟨[37]⟩⟩ 1494), (sv ⟨⟨[38]⟩⟩ 1497), (sv ⟨⟨[39]⟩⟩ 1500), (sv ⟨⟨[40]⟩⟩ 1503), (sv ⟨⟨[41]⟩⟩ 1506), (sv ⟨⟨[42]⟩⟩ 1509), (sv ⟨⟨[43]⟩⟩ 1512), (sv ⟨⟨[44]⟩⟩ 1515), (sv ⟨⟨[45]⟩⟩ 1518), (sv ⟨⟨[46]⟩⟩ 1521), (sv ⟨⟨[47]⟩⟩ 1524), (sv ⟨⟨[48]⟩⟩ 1527), (sv ⟨⟨[49]⟩⟩ 1530), (sv ⟨⟨[50]⟩⟩ 1533), (sv ⟨⟨[51]⟩⟩ 1536), (sv ⟨⟨[52]⟩⟩ 1539), (sv ⟨⟨[53]⟩⟩ 1542), (sv ⟨⟨[54]⟩⟩ 1545), (sv ⟨⟨[55]⟩⟩ 1548), (sv ⟨⟨[56]⟩⟩ 1551), (sv ⟨⟨[57]⟩⟩ 1554), (sv ⟨⟨[58]⟩⟩ 1557), (sv ⟨⟨[59]⟩⟩ 1560), (sv ⟨⟨[60]⟩⟩ 1563), (sv ⟨⟨[61, 51, 68]⟩⟩ 470), (sv ⟨⟨[62]⟩⟩ 1566), (sv ⟨⟨[63]⟩⟩ 1569), (sv ⟨⟨[64]⟩⟩ 1572), (sv ⟨⟨[65]⟩⟩ 1575), (sv ⟨⟨[66]⟩⟩ 1578), (sv ⟨⟨[67]⟩⟩ 1581), (sv ⟨⟨[68]⟩⟩ 1584), (sv ⟨⟨[69]⟩⟩ 1587), (sv ⟨⟨[70]⟩⟩ 1590), (sv ⟨⟨[71]⟩⟩ 1593), (sv ⟨⟨[72]⟩⟩ 1596), (sv ⟨⟨[73]⟩⟩ 1599), (sv ⟨⟨[74]⟩⟩ 1602), (sv ⟨⟨[75]⟩⟩ 1605), (sv ⟨⟨[76]⟩⟩ 1608), (sv ⟨⟨[77]⟩⟩ 1611), (sv ⟨⟨[78]⟩⟩ 1614), (sv ⟨⟨[79]⟩⟩ 1617), (sv ⟨⟨[80]⟩⟩ 1620), (sv ⟨⟨[81]⟩⟩ 1623), (sv ⟨⟨[82]⟩⟩ 1626), (sv ⟨⟨[83]⟩⟩ 1629), (sv ⟨⟨[84]⟩⟩ 1632), (sv ⟨⟨[85]⟩⟩ 1635), (sv ⟨⟨[86]⟩⟩ 1638), (sv ⟨⟨[87]⟩⟩ 1641), (sv ⟨⟨[88]⟩⟩ 1644), (sv ⟨⟨[89]⟩⟩ 1647), (sv ⟨⟨[90]⟩⟩ 1650), (sv ⟨⟨[91]⟩⟩ 1653), (sv ⟨⟨[92]⟩⟩ 1656), (sv ⟨⟨[93]⟩⟩ 1659), (sv ⟨⟨[94]⟩⟩ 1662), (sv ⟨⟨[95]⟩⟩ 1665), (sv ⟨⟨[96]⟩⟩ 1668), (sv ⟨⟨[97]⟩⟩ 1671), (sv ⟨⟨[98]⟩⟩ 1674), (sv ⟨⟨[99]⟩⟩ 1677), (sv ⟨⟨[100]⟩⟩ 1680), (sv ⟨⟨[101]⟩⟩ 1683), (sv ⟨⟨[102]⟩⟩ 1686), (sv ⟨⟨[103]⟩⟩ 1689), (sv ⟨⟨[104]⟩⟩ 1692), (sv ⟨⟨[105]⟩⟩ 1695), (sv ⟨⟨[106]⟩⟩ 1698), (sv ⟨⟨[107]⟩⟩ 1701), (sv ⟨⟨[108]⟩⟩ 1704), (sv ⟨⟨[109]⟩⟩ 1707), (sv ⟨⟨[110]⟩⟩ 1710), (sv ⟨⟨[111]⟩⟩ 1713), (sv ⟨⟨[112]⟩⟩ 1716), (sv ⟨⟨[113]⟩⟩ 1719), (sv ⟨⟨[114]⟩⟩ 1722), (sv ⟨⟨[115]⟩⟩ 1725), (sv ⟨⟨[116]⟩⟩ 1728), (sv ⟨⟨[117]⟩⟩ 1731), (sv ⟨⟨[118]⟩⟩ 1734), (sv ⟨⟨[119]⟩⟩ 1737), (sv ⟨⟨[120]⟩⟩ 1740), (sv ⟨⟨[121]⟩⟩ 1743), (sv ⟨⟨[122]⟩⟩ 1746), (sv ⟨⟨[123]⟩⟩ 1749), (sv ⟨⟨[124]⟩⟩ 1752), (sv ⟨⟨[125]⟩⟩ 1755), (sv ⟨⟨[126]⟩⟩ 1758), (sv ⟨⟨[61, 55, 70]⟩⟩ 734), (sv ⟨⟨[61, 56, 48]⟩⟩ 738), (sv ⟨⟨[61, 56, 49]⟩⟩ 742), (sv ⟨⟨[61, 56, 50]⟩⟩ 746), (sv ⟨⟨[61, 56, 51]⟩⟩ 750), (sv ⟨⟨[61, 56, 52]⟩⟩ 754), (sv ⟨⟨[61, 56, 53]⟩⟩ 758), (sv ⟨⟨[61, 56, 54]⟩⟩ 762), (sv ⟨⟨[61, 56, 55]⟩⟩ 766), (sv ⟨⟨[61, 56, 56]⟩⟩ 770), (sv ⟨⟨[61, 56, 57]⟩⟩ 774), (sv ⟨⟨[61, 56, 65]⟩⟩ 778), (sv ⟨⟨[61, 56, 66]⟩⟩ 782), (sv ⟨⟨[61, 56, 67]⟩⟩ 786), (sv ⟨⟨[61, 56, 68]⟩⟩ 790), (sv ⟨⟨[61, 56, 69]⟩⟩ 794), (sv ⟨⟨[61, 56, 70]⟩⟩ 798), (sv ⟨⟨[61, 57, 48]⟩⟩ 802), (sv ⟨⟨[61, 57, 49]⟩⟩ 806), (sv ⟨⟨[61, 57, 50]⟩⟩ 810), (sv ⟨⟨[61, 57, 51]⟩⟩ 814), (sv ⟨⟨[61, 57, 52]⟩⟩ 818), (sv ⟨⟨[61, 57, 53]⟩⟩ 822), (sv ⟨⟨[61, 57, 54]⟩⟩ 826), (sv ⟨⟨[61, 57, 55]⟩⟩ 830), (sv ⟨⟨[61, 57, 56]⟩⟩ 834), (sv ⟨⟨[61, 57, 57]⟩⟩ 838), (sv ⟨⟨[61, 57, 65]⟩⟩ 842), (sv ⟨⟨[61, 57, 66]⟩⟩ 846), (sv ⟨⟨[61, 57, 67]⟩⟩ 850), (sv ⟨⟨[61, 57, 68]⟩⟩ 854), (sv ⟨⟨[61, 57, 69]⟩⟩ 858), (sv ⟨⟨[61, 57, 70]⟩⟩ 862), (sv ⟨⟨[61, 65, 48]⟩⟩ 866), (sv ⟨⟨[61, 65, 49]⟩⟩ 870), (sv ⟨⟨[61, 65, 50]⟩⟩ 874), (sv ⟨⟨[61, 65, 51]⟩⟩ 878), (sv ⟨⟨[61, 65, 52]⟩⟩ 882), (sv ⟨⟨[61, 65, 53]⟩⟩ 886), (sv ⟨⟨[61, 65, 54]⟩⟩ 890), (sv ⟨⟨[61, 65, 55]⟩⟩ 894), (sv ⟨⟨[61, 65, 56]⟩⟩ 898), (sv ⟨⟨[61, 65, 57]⟩⟩ 902), (sv ⟨⟨[61, 65, 65]⟩⟩ 906), (sv ⟨⟨[61, 65, 66]⟩⟩ 910), (sv ⟨⟨[61, 65, 67]⟩⟩ 914), (sv ⟨⟨[61, 65, 68]⟩⟩ 918), (sv ⟨⟨[61, 65, 69]⟩⟩ 922), (sv ⟨⟨[61, 65, 70]⟩⟩ 926), (sv ⟨⟨[61, 66, 48]⟩⟩ 930), (sv ⟨⟨[61, 66, 49]⟩⟩ 934), (sv ⟨⟨[61, 66, 50]⟩⟩ 938), (sv ⟨⟨[61, 66, 51]⟩⟩ 942), (sv ⟨⟨[61, 66, 52]⟩⟩ 946), (sv ⟨⟨[61, 66, 53]⟩⟩ 950), (sv ⟨⟨[61, 66, 54]⟩⟩ 954), (sv ⟨⟨[61, 66, 55]⟩⟩ 958), (sv ⟨⟨[61, 66, 56]⟩⟩ 962), (sv ⟨⟨[61, 66, 57]⟩⟩ 966), (sv ⟨⟨[61, 66, 65]⟩⟩ 970), (sv ⟨⟨[61, 66, 66]⟩⟩ 974), (sv ⟨⟨[61, 66, 67]⟩⟩ 978), (sv ⟨⟨[61, 66, 68]⟩⟩ 982), (sv ⟨⟨[61, 66, 69]⟩⟩ 986), (sv ⟨⟨[61, 66, 70]⟩⟩ 990), (sv ⟨⟨[61, 67, 48]⟩⟩ 994), (sv ⟨⟨[61, 67, 49]⟩⟩ 998), (sv ⟨⟨[61, 67, 50]⟩⟩ 1002), (sv ⟨⟨[61, 67, 51]⟩⟩ 1006), (sv ⟨⟨[61, 67, 52]⟩⟩ 1010), (sv ⟨⟨[61, 67, 53]⟩⟩ 1014), (sv ⟨⟨[61, 67, 54]⟩⟩ 1018), (sv ⟨⟨[61, 67, 55]⟩⟩ 1022), (sv ⟨⟨[61, 67, 56]⟩⟩ 1026), (sv ⟨⟨[61, 67, 57]⟩⟩ 1030), (sv ⟨⟨[61, 67, 65]⟩⟩ 1034), (sv ⟨⟨[61, 67, 66]⟩⟩ 1038), (sv ⟨⟨[61, 67, 67]⟩⟩ 1042), (sv ⟨⟨[61, 67, 68]⟩⟩ 1046), (sv ⟨⟨[61, 67, 69]⟩⟩ 1050), (sv ⟨⟨[61, 67, 70]⟩⟩ 1054), (sv ⟨⟨[61, 68, 48]⟩⟩ 1058), (sv ⟨⟨[61, 68, 49]⟩⟩ 1062), (sv ⟨⟨[61, 68, 50]⟩⟩ 1066), (sv ⟨⟨[61, 68, 51]⟩⟩ 1070), (sv ⟨⟨[61, 68, 52]⟩⟩ 1074), (sv ⟨⟨[61, 68, 53]⟩⟩ 1078), (sv ⟨⟨[61, 68, 54]⟩⟩ 1082), (sv ⟨⟨[61, 68, 55]⟩⟩ 1086), (sv ⟨⟨[61, 68, 56]⟩⟩ 1090), (sv ⟨⟨[61, 68, 57]⟩⟩ 1094), (sv ⟨⟨[61, 68, 65]⟩⟩ 1098), (sv ⟨⟨[61, 68, 66]⟩⟩ 1102), (sv ⟨⟨[61, 68, 67]⟩⟩ 1106), (sv ⟨⟨[61, 68, 68]⟩⟩ 1110), (sv ⟨⟨[61, 68, 69]⟩⟩ 1114), (sv ⟨⟨[61, 68, 70]⟩⟩ 1118), (sv ⟨⟨[61, 69, 48]⟩⟩ 1122), (sv ⟨⟨[61, 69, 49]⟩⟩ 1126), (sv ⟨⟨[61, 69, 50]⟩⟩ 1130), (sv ⟨⟨[61, 69, 51]⟩⟩ 1134), (sv ⟨⟨[61, 69, 52]⟩⟩ 1138), (sv ⟨⟨[61, 69, 53]⟩⟩ 1142), (sv ⟨⟨[61, 69, 54]⟩⟩ 1146), (sv ⟨⟨[61, 69, 55]⟩⟩ 1150), (sv ⟨⟨[61, 69, 56]⟩⟩ 1154), (sv ⟨⟨[61, 69, 57]⟩⟩ 1158), (sv ⟨⟨[61, 69, 65]⟩⟩ 1162), (sv ⟨⟨[61, 69, 66]⟩⟩ 1166), (sv ⟨⟨[61, 69, 67]⟩⟩ 1170), (sv ⟨⟨[61, 69, 68]⟩⟩ 1174), (sv ⟨⟨[61, 69, 69]⟩⟩ 1178), (sv ⟨⟨[61, 69, 70]⟩⟩ 1182), (sv ⟨⟨[61, 70, 48]⟩⟩ 1186), (sv ⟨⟨[61, 70, 49]⟩⟩ 1190), (sv ⟨⟨[61, 70, 50]⟩⟩ 1194), (sv ⟨⟨[61, 70, 51]⟩⟩ 1198), (sv ⟨⟨[61, 70, 52]⟩⟩ 1202), (sv ⟨⟨[61, 70, 53]⟩⟩ 1206), (sv ⟨⟨[61, 70, 54]⟩⟩ 1210), (sv ⟨⟨[61, 70, 55]⟩⟩ 1214), (sv ⟨⟨[61, 70, 56]⟩⟩ 1218), (sv ⟨⟨[61, 70, 57]⟩⟩ 1222), (sv ⟨⟨[61, 70, 65]⟩⟩ 1226), (sv ⟨⟨[61, 70, 66]⟩⟩ 1230), (sv ⟨⟨[61, 70, 67]⟩⟩ 1234), (sv ⟨⟨[61, 70, 68]⟩⟩ 1238), (sv ⟨⟨[61, 70, 69]⟩⟩ 1242), (sv ⟨⟨[61, 70, 70]⟩⟩ 1246)]⟩ 0), ⟨[]⟩⟩
noncomputable def o46v5 (z : Zs) (p : Program) (P : Params) : Obj := ⟨(.type z.bit), none, (.fields ⟨[.none, (.int 95 0)]⟩), ⟨[]⟩⟩
noncomputable def o47v5 (z : Zs) (p : Program) (P : Params) : Obj := ⟨(.type z.tup), none, (.seq ⟨[]⟩ 0), ⟨[]⟩⟩
noncomputable def o48v5 (z : Zs) (p : Program) (P : Params) : Obj := ⟨(.type z.sti), none, (.fields ⟨[(.ref 47), .none, .none, .none, (.bool false), .none]⟩), ⟨[]⟩⟩
noncomputable def T5 (z : Zs) (p : Program) (P : Params) : BT := (.node (boot_o_0 P) (.node (boot_o_1 P) (.node (o3v5 z p P) (.node (boot_o_7 P) (.node (o15v1 z p P) (.node (o31v1 z p P) .nil .nil) (.node (o47v5 z p P) .nil .nil)) (.node (o23v1 z p P) (.node (o39v3 z p P) .nil .nil) .nil)) (.node (o11v0 z p P) (.node (o19v1 z p P) (.node (o35v2 z p P) .nil .nil) .nil) (.node (o27v1 z p P) (.node (o43v4 z p P) .nil .nil) .nil))) (.node (boot_o_5 P) (.node (boot_o_9 P) (.node (o17v1 z p P) (.node (o33v1a z p P) .nil .nil) .nil) (.node (o25v1 z p P) (.node (o41v3 z p P) .nil .nil) .nil)) (.node (o13v0 z p P) (.node (o21v1 z p P) (.node (o37v2 z p P) .nil .nil) .nil) (.node (o29v1 z p P) (.node (o45v4 z p P) .nil .nil) .nil)))) (.node (boot_o_2 P) (.node (boot_o_4 P) (.node (boot_o_8 P) (.node (o16v1 z p P) (.node (o32v1 z p P) .nil .nil) (.node (o48v5 z p P) .nil .nil)) (.node (o24v1 z p P) (.node (o40v4 z p P) .nil .nil) .nil)) (.node (o12v1 z p P) (.node (o20v1 z p P) (.node (o36v2 z p P) .nil .nil) .nil) (.node (o28v1 z p P) (.node (o44v4 z p P) .nil .nil) .nil))) (.node (boot_o_6 P) (.node (boot_o_10 P) (.node (o18v1 z p P) (.node (o34v2 z p P) .nil .nil) .nil) (.node (o26v1 z p P) (.node (o42v5 z p P) .nil .nil) .nil)) (.node (o14v0 z p P) (.node (o22v1 z p P) (.node (o38v2 z p P) .nil .nil) .nil) (.node (o30v1 z p P) (.node (o46v5 z p P) .nil .nil) .nil)))))
noncomputable def o3v6 (z : Zs) (p : Program) (P : Params) : Obj := ⟨(.type "dict"), none, (.dict ⟨[hk P ⟨⟨[95, 95, 110, 97, 109, 101, 95, 95]⟩⟩ 165 (sv ⟨⟨[108, 97, 119, 95, 107, 108, 48, 51, 51, 54, 95, 48, 49]⟩⟩ 1817), hk P ⟨⟨[95, 95, 100, 111, 99, 95, 95]⟩⟩ 166 .none, hk P ⟨⟨[95, 95, 112, 97, 99, 107, 97, 103, 101, 95, 95]⟩⟩ 167 .none, hk P ⟨⟨[95, 95, 108, 111, 97, 100, 101, 114, 95, 95]⟩⟩ 168 (.builtin "__main__.__loader__#opaque"), hk P ⟨⟨[95, 95, 115, 112, 101, 99, 95, 95]⟩⟩ 169 .none, hk P ⟨⟨[95, 95, 97, 110, 110, 111, 116, 97, 116, 105, 111, 110, 115, 95, 95]⟩⟩ 170 (.ref 6), hk P ⟨⟨[95, 95, 98, 117, 105, 108, 116, 105, 110, 115, 95, 95]⟩⟩ 171 (.ref 4), hk P ⟨⟨[95, 95, 102, 105, 108, 101, 95, 95]⟩⟩ 173 (sv (Str.ofString "/claim/cut.py") 172), hk P ⟨⟨[95, 95, 99, 97, 99, 104, 101, 100, 95, 95]⟩⟩ 174 .none, hk P ⟨⟨[105, 110, 115, 111, 114, 116, 95, 108, 101, 102, 116]⟩⟩ 201 (.ref 23), hk P ⟨⟨[98, 105, 115, 101, 99, 116, 95, 108, 101, 102, 116]⟩⟩ 215 (.ref 32), hk P ⟨⟨[67, 82, 76, 70]⟩⟩ 217 (sv ⟨⟨[13, 10]⟩⟩ 216), hk P ⟨⟨[78, 76]⟩⟩ 219 (sv ⟨⟨[10]⟩⟩ 218), hk P ⟨⟨[95, 81, 85, 79, 80, 82, 73, 95, 77, 65, 80]⟩⟩ 1247 (.ref 35), hk P ⟨⟨[95, 81, 85, 79, 80, 82, 73, 95, 72, 69, 65, 68, 69, 82, 95, 77, 65, 80]⟩⟩ 1248 (.ref 40), hk P ⟨⟨[95, 81, 85, 79, 80, 82, 73, 95, 66, 79, 68, 89, 95, 77, 65, 80]⟩⟩ 1249 (.ref 42), hk P ⟨⟨[97, 115, 99, 105, 105, 95, 108, 111, 119, 101, 114, 99, 97, 115, 101]⟩⟩ 1251 (sv ⟨⟨[97, 98, 99, 100, 101, 102, 103, 104, 105, 106, 107, 108, 109, 110, 111, 112, 113, 114, 115, 116, 117, 118, 119, 120, 121, 122]⟩⟩ 1250), hk P ⟨⟨[97, 115, 99, 105, 105, 95, 117, 112, 112, 101, 114, 99, 97, 115, 101]⟩⟩ 1253 (sv ⟨⟨[65, 66, 67, 68, 69, 70, 71, 72, 73, 74, 75, 76, 77, 78, 79, 80, 81, 82, 83, 84, 85, 86, 87, 88, 89, 90]⟩⟩ 1252), hk P ⟨⟨[97, 115, 99, 105, 105, 95, 108, 101, 116, 116, 101, 114, 115]⟩⟩ 1255 (sv ⟨⟨[97, 98, 99, 100, 101, 102, 103, 104, 105, 106, 107, 108, 109, 110, 111, 112, 113, 114, 115, 116, 117, 118, 119, 120, 121, 122, 65, 66, 67, 68, 69, 70, 71, 72, 73, 74, 75, 76, 77, 78, 79, 80, 81, 82, 83, 84, 85, 86, 87, 88, 89, 90]⟩⟩ 1254), hk P ⟨⟨[100, 105, 103, 105, 116, 115]⟩⟩ 1257 (sv ⟨⟨[48, 49, 50, 51, 52, 53, 54, 55, 56, 57]⟩⟩ 1256), hk P ⟨⟨[104, 101, 120, 100, 105, 103, 105, 116, 115]⟩⟩ 1262 (sv ⟨⟨[48, 49, 50, 51, 52, 53, 54, 55, 56, 57, 97, 98, 99, 100, 101, 102, 65, 66, 67, 68, 69, 70]⟩⟩ 1261), hk P ⟨⟨[117, 110, 113, 117, 111, 116, 101]⟩⟩ 1768 (.ref 55), hk P ⟨⟨[113, 117, 111, 116, 101]⟩⟩ 1775 (.ref 62), hk P ⟨⟨[95, 81, 85, 79, 80, 82, 73, 95, 66, 79, 68, 89, 95, 69, 78, 67, 79, 68, 69, 95, 77, 65, 80]⟩⟩ 1776 (.ref 64), hk P ⟨⟨[98, 111, 100, 121, 95, 101, 110, 99, 111, 100, 101]⟩⟩ 1803 (.ref 75), hk P ⟨⟨[100, 101, 99, 111, 100, 101]⟩⟩ 1816 (.ref 83), hk P ⟨⟨[95, 108, 97, 119, 95, 109, 111, 118, 101, 115]⟩⟩ 1830 (.ref 90), hk P ⟨⟨[95, 108, 97, 119, 95, 112, 117, 115, 104, 101, 100]⟩⟩ 1845 (.ref 97), hk P ⟨⟨[108, 97, 119]⟩⟩ 1851 (.ref 102)]⟩ 31), ⟨[]⟩⟩
noncomputable def o12v6 (z : Zs) (p : Program) (P : Params) : Obj := ⟨.none, none, (.fields ⟨[(.int 2 0), (.int 0 0), (.ref 22), (.int 8 0), (.int 0 0), (.ref 31), (.int 44 0), (.int 0 0), (.ref 54), (.int 46 0), (.int 0 0), (.ref 61), (.int 52 0), (.int 0 0), (.ref 74), (.int 90 0), (.int 0 0), (.ref 82), (.int 121 0), (.int 0 0), (.ref 89), (.int 130 0), (.int 0 0), (.ref 96), (.int 141 0), (.int 0 0), (.ref 101)]⟩), ⟨[]⟩⟩
noncomputable def o49v6 (z : Zs) (p : Program) (P : Params) : Obj := ⟨(.type z.tup), none, (.seq ⟨[]⟩ 0), ⟨[]⟩⟩
noncomputable def o50v6 (z : Zs) (p : Program) (P : Params) : Obj := ⟨.none, none, (.fields ⟨[]⟩), ⟨[]⟩⟩
noncomputable def o51v6 (z : Zs) (p : Program) (P : Params) : Obj := ⟨(.type z.tup), none, (.seq ⟨[(sv ⟨⟨[115]⟩⟩ 1765)]⟩ 0), ⟨[]⟩⟩
noncomputable def o52v6 (z : Zs) (p : Program) (P : Params) : Obj := ⟨(.type z.tup), none, (.seq ⟨[]⟩ 0), ⟨[]⟩⟩
noncomputable def o53v6 (z : Zs) (p : Program) (P : Params) : Obj := ⟨.none, none, (.func (fnR p 17 0 .none .none .none .none)), ⟨[]⟩⟩
noncomputable def o54v6 (z : Zs) (p : Program) (P : Params) : Obj := ⟨(.type z.cod), none, (.fields ⟨[(sv ⟨⟨[117, 110, 113, 117, 111, 116, 101]⟩⟩ 1762), (sv ⟨⟨[117, 110, 113, 117, 111, 116, 101]⟩⟩ 1763), (sv (Str.ofString "/claim/cut.py") 1764), (.int 44 0), (.int 1 0), (.int 0 0), (.int 0 0), (.int 3 0), (.ref 49), (.bool true), (.int 181 0), (.ref 50), .none, (.ref 51), (.ref 52), (.ref 53), (.int 1766 0), (.int 44 0), (sv (Str.ofString "/claim/cut.py") 1767)]⟩), ⟨[]⟩⟩
noncomputable def o55v6 (z : Zs) (p : Program) (P : Params) : Obj := ⟨(.type z.fn), none, (.func (fnR p 17 3 .none .none (sv ⟨⟨[99, 112, 121, 51, 49, 51, 46, 101, 109, 97, 105, 108, 46, 113, 117, 111, 112, 114, 105, 109, 105, 109, 101]⟩⟩ 1263) (.ref 54))), ⟨[]⟩⟩
noncomputable def o56v6 (z : Zs) (p : Program) (P : Params) : Obj := ⟨(.type z.tup), none, (.seq ⟨[]⟩ 0), ⟨[]⟩⟩
noncomputable def o57v6 (z : Zs) (p : Program) (P : Params) : Obj := ⟨.none, none, (.fields ⟨[]⟩), ⟨[]⟩⟩
noncomputable def o58v6 (z : Zs) (p : Program) (P : Params) : Obj := ⟨(.type z.tup), none, (.seq ⟨[(sv ⟨⟨[99]⟩⟩ 1772)]⟩ 0), ⟨[]⟩⟩
noncomputable def o59v6 (z : Zs) (p : Program) (P : Params) : Obj := ⟨(.type z.tup), none, (.seq ⟨[]⟩ 0), ⟨[]⟩⟩
noncomputable def o60v6 (z : Zs) (p : Program) (P : Params) : Obj := ⟨.none, none, (.func (fnR p 18 0 .none .none .none .none)), ⟨[]⟩⟩
noncomputable def o61v6 (z : Zs) (p : Program) (P : Params) : Obj := ⟨(.type z.cod), none, (.fields ⟨[(sv ⟨⟨[113, 117, 111, 116, 101]⟩⟩ 1769), (sv ⟨⟨[113, 117, 111, 116, 101]⟩⟩ 1770), (sv (Str.ofString "/claim/cut.py") 1771), (.int 46 0), (.int 1 0), (.int 0 0), (.int 0 0), (.int 3 0), (.ref 56), (.bool true), (.int 181 0), (.ref 57), .none, (.ref 58), (.ref 59), (.ref 60), (.int 1773 0), (.int 46 0), (sv (Str.ofString "/claim/cut.py") 1774)]⟩), ⟨[]⟩⟩
noncomputable def o62v6 (z : Zs) (p : Program) (P : Params) : Obj := ⟨(.type z.fn), none, (.func (fnR p 18 3 .none .none (sv ⟨⟨[99, 112, 121, 51, 49, 51, 46, 101, 109, 97, 105, 108, 46, 113, 117, 111, 112, 114, 105, 109, 105, 109, 101]⟩⟩ 1263) (.ref 61))), ⟨[]⟩⟩
noncomputable def o63v6 (z : Zs) (p : Program) (P : Params) : Obj := ⟨(.type z.sli), none, (.fields ⟨[.none, .none, .none]⟩), ⟨[]⟩⟩
noncomputable def o64v6 (z : Zs) (p : Program) (P : Params) : Obj := ⟨(.type z.lst), none, (.seq ⟨[(sv ⟨⟨[61, 48, 48]⟩⟩ 226), (sv ⟨⟨[61, 48, 49]⟩⟩ 230), (sv ⟨⟨[61, 48, 50]⟩⟩ 234), (sv ⟨⟨[61, 48, 51]⟩⟩ 238), (sv ⟨⟨[61, 48, 52]⟩⟩ 242), (sv ⟨⟨[61, 48, 53]⟩⟩ 246), (sv ⟨⟨[61, 48, 54]⟩⟩ 250), (sv ⟨⟨[61, 48, 55]⟩⟩ 254), (sv ⟨⟨[61, 48, 56]⟩⟩ 258), (sv ⟨⟨[9]⟩⟩ 1761), (sv ⟨⟨[10]⟩⟩ 1783), (sv ⟨⟨[61, 48, 66]⟩⟩ 270), (sv ⟨⟨[61, 48, 67]⟩⟩ 274), (sv ⟨⟨[13]⟩⟩ 1780), (sv ⟨⟨[61, 48, 69]⟩⟩ 282), (sv ⟨⟨[61, 48, 70]⟩⟩ 286), (sv ⟨⟨[61, 49, 48]⟩⟩ 290), (sv ⟨⟨[61, 49, 49]⟩⟩ 294), (sv ⟨⟨[61, 49, 50]⟩⟩ 298), (sv ⟨⟨[61, 49, 51]⟩⟩ 302), (sv ⟨⟨[61, 49, 52]⟩⟩ 306), (sv ⟨⟨[61, 49, 53]⟩⟩ 310), (sv ⟨⟨[61, 49, 54]⟩⟩ 314), (sv ⟨⟨[61, 49, 55]⟩⟩ 318), (sv ⟨⟨[61, 49, 56]⟩⟩ 322), (sv ⟨⟨[61, 49, 57]⟩⟩ 326), (sv ⟨⟨[61, 49, 65]⟩⟩ 330), (sv ⟨⟨[61, 49, 66]⟩⟩ 334), (sv ⟨⟨[61, 49, 67]⟩⟩ 338), (sv ⟨⟨[61, 49, 68]⟩⟩ 342), (sv ⟨⟨[61, 49, 69]⟩⟩ 346), (sv ⟨⟨[61, 49, 70]⟩⟩ 350), (sv ⟨⟨[32]⟩⟩ 1479), (sv ⟨⟨[33]⟩⟩ 1482), (sv ⟨⟨[34]⟩⟩ 1485), (sv ⟨⟨[35]⟩⟩ 1488), (sv ⟨⟨[36]⟩⟩ 1491), (sv ⟨⟨[37]⟩⟩ 1494), (sv ⟨⟨[38]⟩⟩ 1497), (sv ⟨⟨[39]⟩⟩ 1500), (sv ⟨⟨[40]⟩⟩ 1503), (sv ⟨⟨[41]⟩⟩ 1506), (sv ⟨⟨[42]⟩⟩ 1509), (sv ⟨⟨[43]⟩⟩ 1512), (sv ⟨⟨[44]⟩⟩ 1515), (sv ⟨⟨[45]⟩⟩ 1518), (sv ⟨⟨[46]⟩⟩ 1521), (sv ⟨⟨[47]⟩⟩ 1524), (sv ⟨⟨[48]⟩⟩ 1527), (sv ⟨⟨[49]⟩⟩ 1530), (sv ⟨⟨[50]⟩⟩ 1533), (sv ⟨⟨[51]⟩⟩ 1536), (sv ⟨⟨[52]⟩⟩ 1539), (sv ⟨⟨[53]⟩⟩ 1542), (sv ⟨⟨[54]⟩⟩ 1545), (sv ⟨⟨[55]⟩⟩ 1548), (sv ⟨⟨[56]⟩⟩ 1551), (sv ⟨⟨[57]⟩⟩ 1554), (sv ⟨⟨[58]⟩⟩ 1557), (sv ⟨⟨[59]⟩⟩ 1560), (sv ⟨⟨[60]⟩⟩ 1563), (sv ⟨⟨[61, 51, 68]⟩⟩ 470), (sv ⟨⟨[62]⟩⟩ 1566), (sv ⟨⟨[63]⟩⟩ 1569), (sv ⟨⟨[64]⟩⟩ 1572), (sv ⟨⟨[65]⟩⟩ 1575), (sv ⟨⟨[66]⟩⟩ 1578), (sv ⟨⟨[67]⟩⟩ 1581), (sv ⟨⟨[68]⟩⟩ 1584), (sv ⟨⟨[69]⟩⟩ 1587), (sv ⟨⟨[70]⟩⟩ 1590), (sv ⟨⟨[71]⟩⟩ 1593), (sv ⟨⟨[72]⟩⟩ 1596), (sv ⟨⟨[73]⟩⟩ 1599), (sv ⟨⟨[74]⟩⟩ 1602), (sv ⟨⟨[75]⟩⟩ 1605), (sv ⟨⟨[76]⟩⟩ 1608), (sv ⟨⟨[77]⟩⟩ 1611), (sv ⟨⟨[78]⟩⟩ 1614), (sv ⟨⟨[79]⟩⟩ 1617), (sv ⟨⟨[80]⟩⟩ 1620), (sv ⟨⟨[81]⟩⟩ 1623), (sv ⟨⟨[82]⟩⟩ 1626), (sv ⟨⟨[83]⟩⟩ 1629), (sv ⟨⟨[84]⟩⟩ 1632), (sv ⟨⟨[85]⟩⟩ 1635), (sv ⟨⟨[86]⟩⟩ 1638), (sv ⟨⟨[87]⟩⟩ 1641), (sv ⟨⟨[88]⟩⟩ 1644), (sv ⟨⟨[89]⟩⟩ 1647), (sv ⟨⟨[90]⟩⟩ 1650), (sv ⟨⟨[91]⟩⟩ 1653), (sv ⟨⟨[92]⟩⟩ 1656), (sv ⟨⟨[93]⟩⟩ 1659), (sv ⟨⟨[94]⟩⟩ 1662), (sv ⟨⟨[95]⟩⟩ 1665), (sv ⟨⟨[96]⟩⟩ 1668), (sv ⟨⟨[97]⟩⟩ 1671), (sv ⟨⟨[98]⟩⟩ 1674), (sv ⟨⟨[99]⟩⟩ 1677), (sv ⟨⟨[100]⟩⟩ 1680), (sv ⟨⟨[101]⟩⟩ 1683), (sv ⟨⟨[102]⟩⟩ 1686), (sv ⟨⟨[103]⟩⟩ 1689), (sv ⟨⟨[104]⟩⟩ 1692), (sv ⟨⟨[105]⟩⟩ 1695), (sv ⟨⟨[106]⟩⟩ 1698), (sv ⟨⟨[107]⟩⟩ 1701), (sv ⟨⟨[108]⟩⟩ 1704), (sv ⟨⟨[109]⟩⟩ 1707), (sv ⟨⟨[110]⟩⟩ 1710), (sv ⟨⟨[111]⟩⟩ 1713), (sv ⟨⟨[112]⟩⟩ 1716), (sv ⟨⟨[113]⟩⟩ 1719), (sv ⟨⟨[114]⟩⟩ 1722), (sv ⟨⟨[115]⟩⟩ 1725), (sv ⟨⟨[116]⟩⟩ 1728), (sv ⟨⟨[117]⟩⟩ 1731), (sv ⟨⟨[118]⟩⟩ 1734), (sv ⟨⟨[119]⟩⟩ 1737), (sv ⟨⟨[120]⟩⟩ 1740), (sv ⟨⟨[121]⟩⟩ 1743), (sv ⟨⟨[122]⟩⟩ 1746), (sv ⟨⟨[123]⟩⟩ 1749), (sv ⟨⟨[124]⟩⟩ 1752), (sv ⟨⟨[125]⟩⟩ 1755), (sv ⟨⟨[126]⟩⟩ 1758), (sv ⟨⟨[61, 55, 70]⟩⟩ 734), (sv ⟨⟨[61, 56, 48]⟩⟩ 738), (sv ⟨⟨[61, 56, 49]⟩⟩ 742), (sv ⟨⟨[61, 56, 50]⟩⟩ 746), (sv ⟨⟨[61, 56, 51]⟩⟩ 750), (sv ⟨⟨[61, 56, 52]⟩⟩ 754), (sv ⟨⟨[61, 56, 53]⟩⟩ 758), (sv ⟨⟨[61, 56, 54]⟩⟩ 762), (sv ⟨⟨[61, 56, 55]⟩⟩ 766), (sv ⟨⟨[61, 56, 56]⟩⟩ 770), (sv ⟨⟨[61, 56, 57]⟩⟩ 774), (sv ⟨⟨[61, 56, 65]⟩⟩ 778), (sv ⟨⟨[61, 56, 66]⟩⟩ 782), (sv ⟨⟨[61, 56, 67]⟩⟩ 786), (sv ⟨⟨[61, 56, 68]⟩⟩ 790), (sv ⟨⟨[61, 56, 69]⟩⟩ 794), (sv ⟨⟨[61, 56, 70]⟩⟩ 798), (sv ⟨⟨[61, 57, 48]⟩⟩ 802), (sv ⟨⟨[61, 57, 49]⟩⟩ 806), (sv ⟨⟨[61, 57, 50]⟩⟩ 810), (sv ⟨⟨[61, 57, 51]⟩⟩ 814), (sv ⟨⟨[61, 57, 52]⟩⟩ 818), (sv ⟨⟨[61, 57, 53]⟩⟩ 822), (sv ⟨⟨[61, 57, 54]⟩⟩ 826), (sv ⟨⟨[61, 57, 55]⟩⟩ 830), (sv ⟨⟨[61, 57, 56]⟩⟩ 834), (sv ⟨⟨[61, 57, 57]⟩⟩ 838), (sv ⟨⟨[61, 57, 65]⟩⟩ 842), (sv ⟨⟨[61, 57, 66]⟩⟩ 846), (sv ⟨⟨[61, 57, 67]⟩⟩ 850), (sv ⟨⟨[61, 57, 68]⟩⟩ 854), (sv ⟨⟨[61, 57, 69]⟩⟩ 858), (sv ⟨⟨[61, 57, 70]⟩⟩ 862), (sv ⟨⟨[61, 65, 48]⟩⟩ 866), (sv ⟨⟨[61, 65, 49]⟩⟩ 870), (sv ⟨⟨[61, 65, 50]⟩⟩ 874), (sv ⟨⟨[61, 65, 51]⟩⟩ 878), (sv ⟨⟨[61, 65, 52]⟩⟩ 882), (sv ⟨⟨[61, 65, 53]⟩⟩ 886), (sv ⟨⟨[61, 65, 54]⟩⟩ 890), (sv ⟨⟨[61, 65, 55]⟩⟩ 894), (sv ⟨⟨[61, 65, 56]⟩⟩ 898), (sv ⟨⟨[61, 65, 57]⟩⟩ 902), (sv ⟨⟨[61, 65, 65]⟩⟩ 906), (sv ⟨⟨[61, 65, 66]⟩⟩ 910), (sv ⟨⟨[61, 65, 67]⟩⟩ 914), (sv ⟨⟨[61, 65, 68]⟩⟩ 918), (sv ⟨⟨[61, 65, 69]⟩⟩ 922), (sv ⟨⟨[61, 65, 70]⟩⟩ 926), (sv ⟨⟨[61, 66, 48]⟩⟩ 930), (sv ⟨⟨[61, 66, 49]⟩⟩ 934), (sv ⟨⟨[61, 66, 50]⟩⟩ 938), (sv ⟨⟨[61, 66, 51]⟩⟩ 942), (sv ⟨⟨[61, 66, 52]⟩⟩ 946), (sv ⟨⟨[61, 66, 53]⟩⟩ 950), (sv ⟨⟨[61, 66, 54]⟩⟩ 954), (sv ⟨⟨[61, 66, 55]⟩⟩ 958), (sv ⟨⟨[61, 66, 56]⟩⟩ 962), (sv ⟨⟨[61, 66, 57]⟩⟩ 966), (sv ⟨⟨[61, 66, 65]⟩⟩ 970), (sv ⟨⟨[61, 66, 66]⟩⟩ 974), (sv ⟨⟨[61, 66, 67]⟩⟩ 978), (sv ⟨⟨[61, 66, 68]⟩⟩ 982), (sv ⟨⟨[61, 66, 69]⟩⟩ 986), (sv ⟨⟨[61, 66, 70]⟩⟩ 990), (sv ⟨⟨[61, 67, 48]⟩⟩ 994), (sv ⟨⟨[61, 67, 49]⟩⟩ 998), (sv ⟨⟨[61, 67, 50]⟩⟩ 1002), (sv ⟨⟨[61, 67, 51]⟩⟩ 1006), (sv ⟨⟨[61, 67, 52]⟩⟩ 1010), (sv ⟨⟨[61, 67, 53]⟩⟩ 1014), (sv ⟨⟨[61, 67, 54]⟩⟩ 1018), (sv ⟨⟨[61, 67, 55]⟩⟩ 1022), (sv ⟨⟨[61, 67, 56]⟩⟩ 1026), (sv ⟨⟨[61, 67, 57]⟩⟩ 1030), (sv ⟨⟨[61, 67, 65]⟩⟩ 1034), (sv ⟨⟨[61, 67, 66]⟩⟩ 1038), (sv ⟨⟨[61, 67, 67]⟩⟩ 1042), (sv ⟨⟨[61, 67, 68]⟩⟩ 1046), (sv ⟨⟨[61, 67, 69]⟩⟩ 1050), (sv ⟨⟨[61, 67, 70]⟩⟩ 1054), (sv ⟨⟨[61, 68, 48]⟩⟩ 1058), (sv ⟨⟨[61, 68, 49]⟩⟩ 1062), (sv ⟨⟨[61, 68, 50]⟩⟩ 1066), (sv ⟨⟨[61, 68, 51]⟩⟩ 1070), (sv ⟨⟨[61, 68, 52]⟩⟩ 1074), (sv ⟨⟨[61, 68, 53]⟩⟩ 1078), (sv ⟨⟨[61, 68, 54]⟩⟩ 1082), (sv ⟨⟨[61, 68, 55]⟩⟩ 1086), (sv ⟨⟨[61, 68, 56]⟩⟩ 1090), (sv ⟨⟨[61, 68, 57]⟩⟩ 1094), (sv ⟨⟨[61, 68, 65]⟩⟩ 1098), (sv ⟨⟨[61, 68, 66]⟩⟩ 1102), (sv ⟨⟨[61, 68, 67]⟩⟩ 1106), (sv ⟨⟨[61, 68, 68]⟩⟩ 1110), (sv ⟨⟨[61, 68, 69]⟩⟩ 1114), (sv ⟨⟨[61, 68, 70]⟩⟩ 1118), (sv ⟨⟨[61, 69, 48]⟩⟩ 1122), (sv ⟨⟨[61, 69, 49]⟩⟩ 1126), (sv ⟨⟨[61, 69, 50]⟩⟩ 1130), (sv ⟨⟨[61, 69, 51]⟩⟩ 1134), (sv ⟨⟨[61, 69, 52]⟩⟩ 1138), (sv ⟨⟨[61, 69, 53]⟩⟩ 1142), (sv ⟨⟨[61, 69, 54]⟩⟩ 1146), (sv ⟨⟨[61, 69, 55]⟩⟩ 1150), (sv ⟨⟨[61, 69, 56]⟩⟩ 1154), (sv ⟨⟨[61, 69, 57]⟩⟩ 1158), (sv ⟨⟨[61, 69, 65]⟩⟩ 1162), (sv ⟨⟨[61, 69, 66]⟩⟩ 1166), (sv ⟨⟨[61, 69, 67]⟩⟩ 1170), (sv ⟨⟨[61, 69, 68]⟩⟩ 1174), (sv ⟨⟨[61, 69, 69]⟩⟩ 1178), (sv ⟨⟨[61, 69, 70]⟩⟩ 1182), (sv ⟨⟨[61, 70, 48]⟩⟩ 1186), (sv ⟨⟨[61, 70, 49]⟩⟩ 1190), (sv ⟨⟨[61, 70, 50]⟩⟩ 1194), (sv ⟨⟨[61, 70, 51]⟩⟩ 1198), (sv ⟨⟨[61, 70, 52]⟩⟩ 1202), (sv ⟨⟨[61, 70, 53]⟩⟩ 1206), (sv ⟨⟨[61, 70, 54]⟩⟩ 1210), (sv ⟨⟨[61, 70, 55]⟩⟩ 1214), (sv ⟨⟨[61, 70, 56]⟩⟩ 1218), (sv ⟨⟨[61, 70, 57]⟩⟩ 1222), (sv ⟨⟨[61, 70, 65]⟩⟩ 1226), (sv ⟨⟨[61, 70, 66]⟩⟩ 1230), (sv ⟨⟨[61, 70, 67]⟩⟩ 1234), (sv ⟨⟨[61, 70, 68]⟩⟩ 1238), (sv ⟨⟨[61, 70, 69]⟩⟩ 1242), (sv ⟨⟨[61, 70, 70]⟩⟩ 1246)]⟩ 0), ⟨[]⟩⟩
noncomputable def o65v6 (z : Zs) (p : Program) (P : Params) : Obj := ⟨(.type z.bit), none, (.fields ⟨[.none, (.int 2 0)]⟩), ⟨[]⟩⟩
noncomputable def o66v6 (z : Zs) (p : Program) (P : Params) : Obj := ⟨(.type z.tup), none, (.seq ⟨[]⟩ 0), ⟨[]⟩⟩
noncomputable def o67v6 (z : Zs) (p : Program) (P : Params) : Obj := ⟨(.type z.sti), none, (.fields ⟨[(.ref 66), .none, .none, .none, (.bool false), .none]⟩), ⟨[]⟩⟩
noncomputable def o68v6 (z : Zs) (p : Program) (P : Params) : Obj := ⟨(.type z.tup), none, (.seq ⟨[(.int 76 1784), (sv ⟨⟨[10]⟩⟩ 218)]⟩ 0), ⟨[]⟩⟩
noncomputable def o69v6 (z : Zs) (p : Program) (P : Params) : Obj := ⟨(.type z.tup), none, (.seq ⟨[]⟩ 0), ⟨[]⟩⟩
noncomputable def o70v6 (z : Zs) (p : Program) (P : Params) : Obj := ⟨.none, none, (.fields ⟨[]⟩), ⟨[]⟩⟩
noncomputable def o71v6 (z : Zs) (p : Program) (P : Params) : Obj := ⟨(.type z.tup), none, (.seq ⟨[(sv ⟨⟨[98, 111, 100, 121]⟩⟩ 1788), (sv ⟨⟨[109, 97, 120, 108, 105, 110, 101, 108, 101, 110]⟩⟩ 1789), (sv ⟨⟨[101, 111, 108]⟩⟩ 1790), (sv ⟨⟨[115, 111, 102, 116, 95, 98, 114, 101, 97, 107]⟩⟩ 1791), (sv ⟨⟨[109, 97, 120, 108, 105, 110, 101, 108, 101, 110, 49]⟩⟩ 1792), (sv ⟨⟨[101, 110, 99, 111, 100, 101, 100, 95, 98, 111, 100, 121]⟩⟩ 1793), (sv ⟨⟨[97, 112, 112, 101, 110, 100]⟩⟩ 1794), (sv ⟨⟨[108, 105, 110, 101]⟩⟩ 1795), (sv ⟨⟨[115, 116, 97, 114, 116]⟩⟩ 1796), (sv ⟨⟨[108, 97, 115, 116, 115, 116, 97, 114, 116]⟩⟩ 1797), (sv ⟨⟨[115, 116, 111, 112]⟩⟩ 1798), (sv ⟨⟨[114, 111, 111, 109]⟩⟩ 1799), (sv ⟨⟨[113]⟩⟩ 1800)]⟩ 0), ⟨[]⟩⟩
noncomputable def o72v6 (z : Zs) (p : Program) (P : Params) : Obj := ⟨(.type z.tup), none, (.seq ⟨[]⟩ 0), ⟨[]⟩⟩
noncomputable def o73v6 (z : Zs) (p : Program) (P : Params) : Obj := ⟨.none, none, (.func (fnR p 22 0 .none .none .none .none)), ⟨[]⟩⟩
noncomputable def o74v6 (z : Zs) (p : Program) (P : Params) : Obj := ⟨(.type z.cod), none, (.fields ⟨[(sv ⟨⟨[98, 111, 100, 121, 95, 101, 110, 99, 111, 100, 101]⟩⟩ 1785), (sv ⟨⟨[98, 111, 100, 121, 95, 101, 110, 99, 111, 100, 101]⟩⟩ 1786), (sv (Str.ofString "/claim/cut.py") 1787), (.int 52 0), (.int 3 0), (.int 0 0), (.int 0 0), (.int 3 0), (.ref 69), (.bool true), (.int 181 0), (.ref 70), .none, (.ref 71), (.ref 72), (.ref 73), (.int 1801 0), (.int 52 0), (sv (Str.ofString "/claim/cut.py") 1802)]⟩), ⟨[]⟩⟩
noncomputable def o75v6 (z : Zs) (p : Program) (P : Params) : Obj := ⟨(.type z.fn), none, (.func (fnR p 22 3 (.ref 68) .none (sv ⟨⟨[99, 112, 121, 51, 49, 51, 46, 101, 109, 97, 105, 108, 46, 113, 117, 111, 112, 114, 105, 109, 105, 109, 101]⟩⟩ 1263) (.ref 74))), ⟨[]⟩⟩
noncomputable def o76v6 (z : Zs) (p : Program) (P : Params) : Obj := ⟨(.type z.tup), none, (.seq ⟨[(sv ⟨⟨[10]⟩⟩ 218)]⟩ 0), ⟨[]⟩⟩
noncomputable def o77v6 (z : Zs) (p : Program) (P : Params) : Obj := ⟨(.type z.tup), none, (.seq ⟨[]⟩ 0), ⟨[]⟩⟩
noncomputable def o78v6 (z : Zs) (p : Program) (P : Params) : Obj := ⟨.none, none, (.fields ⟨[]⟩), ⟨[]⟩⟩
noncomputable def o79v6 (z : Zs) (p : Program) (P : Params) : Obj := ⟨(.type z.tup), none, (.seq ⟨[(sv ⟨⟨[101, 110, 99, 111, 100, 101, 100]⟩⟩ 1807), (sv ⟨⟨[101, 111, 108]⟩⟩ 1808), (sv ⟨⟨[100, 101, 99, 111, 100, 101, 100]⟩⟩ 1809), (sv ⟨⟨[108, 105, 110, 101]⟩⟩ 1810), (sv ⟨⟨[105]⟩⟩ 1811), (sv ⟨⟨[110]⟩⟩ 1812), (sv ⟨⟨[99]⟩⟩ 1813)]⟩ 0), ⟨[]⟩⟩
noncomputable def o80v6 (z : Zs) (p : Program) (P : Params) : Obj := ⟨(.type z.tup), none, (.seq ⟨[]⟩ 0), ⟨[]⟩⟩
noncomputable def o81v6 (z : Zs) (p : Program) (P : Params) : Obj := ⟨.none, none, (.func (fnR p 23 0 .none .none .none .none)), ⟨[]⟩⟩
noncomputable def o82v6 (z : Zs) (p : Program) (P : Params) : Obj := ⟨(.type z.cod), none, (.fields ⟨[(sv ⟨⟨[100, 101, 99, 111, 100, 101]⟩⟩ 1804), (sv ⟨⟨[100, 101, 99, 111, 100, 101]⟩⟩ 1805), (sv (Str.ofString "/claim/cut.py") 1806), (.int 90 0), (.int 2 0), (.int 0 0), (.int 0 0), (.int 3 0), (.ref 77), (.bool true), (.int 181 0), (.ref 78), .none, (.ref 79), (.ref 80), (.ref 81), (.int 1814 0), (.int 90 0), (sv (Str.ofString "/claim/cut.py") 1815)]⟩), ⟨[]⟩⟩
noncomputable def o83v6 (z : Zs) (p : Program) (P : Params) : Obj := ⟨(.type z.fn), none, (.func (fnR p 23 3 (.ref 76) .none (sv ⟨⟨[99, 112, 121, 51, 49, 51, 46, 101, 109, 97, 105, 108, 46, 113, 117, 111, 112, 114, 105, 109, 105, 109, 101]⟩⟩ 1263) (.ref 82))), ⟨[]⟩⟩
noncomputable def o84v6 (z : Zs) (p : Program) (P : Params) : Obj := ⟨(.type z.tup), none, (.seq ⟨[]⟩ 0), ⟨[]⟩⟩
noncomputable def o85v6 (z : Zs) (p : Program) (P : Params) : Obj := ⟨.none, none, (.fields ⟨[]⟩), ⟨[]⟩⟩
noncomputable def o86v6 (z : Zs) (p : Program) (P : Params) : Obj := ⟨(.type z.tup), none, (.seq ⟨[(sv ⟨⟨[98, 101, 97, 100, 115]⟩⟩ 1822), (sv ⟨⟨[119, 105, 100, 116, 104]⟩⟩ 1823), (sv ⟨⟨[109, 111, 118, 101, 115]⟩⟩ 1824), (sv ⟨⟨[97, 116]⟩⟩ 1825), (sv ⟨⟨[103, 111, 97, 108]⟩⟩ 1826), (sv ⟨⟨[112, 108, 97, 99, 101]⟩⟩ 1827)]⟩ 0), ⟨[]⟩⟩
noncomputable def o87v6 (z : Zs) (p : Program) (P : Params) : Obj := ⟨(.type z.tup), none, (.seq ⟨[]⟩ 0), ⟨[]⟩⟩
noncomputable def o88v6 (z : Zs) (p : Program) (P : Params) : Obj := ⟨.none, none, (.func (fnR p 25 0 .none .none .none .none)), ⟨[]⟩⟩
noncomputable def o89v6 (z : Zs) (p : Program) (P : Params) : Obj := ⟨(.type z.cod), none, (.fields ⟨[(sv ⟨⟨[95, 108, 97, 119, 95, 109, 111, 118, 101, 115]⟩⟩ 1819), (sv ⟨⟨[95, 108, 97, 119, 95, 109, 111, 118, 101, 115]⟩⟩ 1820), (sv (Str.ofString "/claim/cut.py") 1821), (.int 121 0), (.int 2 0), (.int 0 0), (.int 0 0), (.int 3 0), (.ref 84), (.bool true), (.int 181 0), (.ref 85), .none, (.ref 86), (.ref 87), (.ref 88), (.int 1828 0), (.int 121 0), (sv (Str.ofString "/claim/cut.py") 1829)]⟩), ⟨[]⟩⟩
noncomputable def o90v6 (z : Zs) (p : Program) (P : Params) : Obj := ⟨(.type z.fn), none, (.func (fnR p 25 3 .none .none (sv ⟨⟨[108, 97, 119, 95, 107, 108, 48, 51, 51, 54, 95, 48, 49]⟩⟩ 1817) (.ref 89))), ⟨[]⟩⟩
noncomputable def o91v6 (z : Zs) (p : Program) (P : Params) : Obj := ⟨(.type z.tup), none, (.seq ⟨[]⟩ 0), ⟨[]⟩⟩
noncomputable def o92v6 (z : Zs) (p : Program) (P : Params) : Obj := ⟨.none, none, (.fields ⟨[]⟩), ⟨[]⟩⟩
noncomputable def o93v6 (z : Zs) (p : Program) (P : Params) : Obj := ⟨(.type z.tup), none, (.seq ⟨[(sv ⟨⟨[115, 116, 97, 114, 116]⟩⟩ 1834), (sv ⟨⟨[119, 105, 100, 116, 104]⟩⟩ 1835), (sv ⟨⟨[112, 105, 99, 107, 115]⟩⟩ 1836), (sv ⟨⟨[98, 101, 97, 100, 115]⟩⟩ 1837), (sv ⟨⟨[108, 101, 103, 115]⟩⟩ 1838), (sv ⟨⟨[109, 111, 118, 101, 115]⟩⟩ 1839), (sv ⟨⟨[97, 116]⟩⟩ 1840), (sv ⟨⟨[112, 108, 97, 99, 101]⟩⟩ 1841), (sv ⟨⟨[103, 111, 97, 108]⟩⟩ 1842)]⟩ 0), ⟨[]⟩⟩
noncomputable def o94v6 (z : Zs) (p : Program) (P : Params) : Obj := ⟨(.type z.tup), none, (.seq ⟨[]⟩ 0), ⟨[]⟩⟩
noncomputable def o95v6 (z : Zs) (p : Program) (P : Params) : Obj := ⟨.none, none, (.func (fnR p 26 0 .none .none .none .none)), ⟨[]⟩⟩
noncomputable def o96v6 (z : Zs) (p : Program) (P : Params) : Obj := ⟨(.type z.cod), none, (.fields ⟨[(sv ⟨⟨[95, 108, 97, 119, 95, 112, 117, 115, 104, 101, 100]⟩⟩ 1831), (sv ⟨⟨[95, 108, 97, 119, 95, 112, 117, 115, 104, 101, 100]⟩⟩ 1832), (sv (Str.ofString "/claim/cut.py") 1833), (.int 130 0), (.int 3 0), (.int 0 0), (.int 0 0), (.int 3 0), (.ref 91), (.bool true), (.int 181 0), (.ref 92), .none, (.ref 93), (.ref 94), (.ref 95), (.int 1843 0), (.int 130 0), (sv (Str.ofString "/claim/cut.py") 1844)]⟩), ⟨[]⟩⟩
noncomputable def o97v6 (z : Zs) (p : Program) (P : Params) : Obj := ⟨(.type z.fn), none, (.func (fnR p 26 3 .none .none (sv ⟨⟨[108, 97, 119, 95, 107, 108, 48, 51, 51, 54, 95, 48, 49]⟩⟩ 1817) (.ref 96))), ⟨[]⟩⟩
noncomputable def o98v6 (z : Zs) (p : Program) (P : Params) : Obj := ⟨(.type z.tup), none, (.seq ⟨[]⟩ 0), ⟨[]⟩⟩
noncomputable def o99v6 (z : Zs) (p : Program) (P : Params) : Obj := ⟨.none, none, (.fields ⟨[]⟩), ⟨[]⟩⟩
noncomputable def o100v6 (z : Zs) (p : Program) (P : Params) : Obj := ⟨.none, none, (.func (fnR p 27 0 .none .none .none .none)), ⟨[]⟩⟩
noncomputable def o101v6 (z : Zs) (p : Program) (P : Params) : Obj := ⟨(.type z.cod), none, (.fields ⟨[(sv ⟨⟨[108, 97, 119]⟩⟩ 1846), (sv ⟨⟨[108, 97, 119]⟩⟩ 1847), (sv (Str.ofString "/claim/cut.py") 1848), (.int 141 0), (.int 1 0), (.int 0 0), (.int 0 0), (.int 3 0), (.ref 98), (.bool true), (.int 181 0), (.ref 99), .none, .none, .none, (.ref 100), (.int 1849 0), (.int 141 0), (sv (Str.ofString "/claim/cut.py") 1850)]⟩), ⟨[]⟩⟩
noncomputable def o102v6 (z : Zs) (p : Program) (P : Params) : Obj := ⟨(.type z.fn), none, (.func (fnR p 27 3 .none .none (sv ⟨⟨[108, 97, 119, 95, 107, 108, 48, 51, 51, 54, 95, 48, 49]⟩⟩ 1817) (.ref 101))), ⟨[]⟩⟩
noncomputable def T6 (z : Zs) (p : Program) (P : Params) : BT := (.node (boot_o_0 P) (.node (boot_o_1 P) (.node (o3v6 z p P) (.node (boot_o_7 P) (.node (o15v1 z p P) (.node (o31v1 z p P) (.node (o63v6 z p P) .nil .nil) (.node (o95v6 z p P) .nil .nil)) (.node (o47v5 z p P) (.node (o79v6 z p P) .nil .nil) .nil)) (.node (o23v1 z p P) (.node (o39v3 z p P) (.node (o71v6 z p P) .nil .nil) .nil) (.node (o55v6 z p P) (.node (o87v6 z p P) .nil .nil) .nil))) (.node (o11v0 z p P) (.node (o19v1 z p P) (.node (o35v2 z p P) (.node (o67v6 z p P) .nil .nil) (.node (o99v6 z p P) .nil .nil)) (.node (o51v6 z p P) (.node (o83v6 z p P) .nil .nil) .nil)) (.node (o27v1 z p P) (.node (o43v4 z p P) (.node (o75v6 z p P) .nil .nil) .nil) (.node (o59v6 z p P) (.node (o91v6 z p P) .nil .nil) .nil)))) (.node (boot_o_5 P) (.node (boot_o_9 P) (.node (o17v1 z p P) (.node (o33v1a z p P) (.node (o65v6 z p P) .nil .nil) (.node (o97v6 z p P) .nil .nil)) (.node (o49v6 z p P) (.node (o81v6 z p P) .nil .nil) .nil)) (.node (o25v1 z p P) (.node (o41v3 z p P) (.node (o73v6 z p P) .nil .nil) .nil) (.node (o57v6 z p P) (.node (o89v6 z p P) .nil .nil) .nil))) (.node (o13v0 z p P) (.node (o21v1 z p P) (.node (o37v2 z p P) (.node (o69v6 z p P) .nil .nil) (.node (o101v6 z p P) .nil .nil)) (.node (o53v6 z p P) (.node (o85v6 z p P) .nil .nil) .nil)) (.node (o29v1 z p P) (.node (o45v4 z p P) (.node (o77v6 z p P) .nil .nil) .nil) (.node (o61v6 z p P) (.node (o93v6 z p P) .nil .nil) .nil))))) (.node (boot_o_2 P) (.node (boot_o_4 P) (.node (boot_o_8 P) (.node (o16v1 z p P) (.node (o32v1 z p P) (.node (o64v6 z p P) .nil .nil) (.node (o96v6 z p P) .nil .nil)) (.node (o48v5 z p P) (.node (o80v6 z p P) .nil .nil) .nil)) (.node (o24v1 z p P) (.node (o40v4 z p P) (.node (o72v6 z p P) .nil .nil) .nil) (.node (o56v6 z p P) (.node (o88v6 z p P) .nil .nil) .nil))) (.node (o12v6 z p P) (.node (o20v1 z p P) (.node (o36v2 z p P) (.node (o68v6 z p P) .nil .nil) (.node (o100v6 z p P) .nil .nil)) (.node (o52v6 z p P) (.node (o84v6 z p P) .nil .nil) .nil)) (.node (o28v1 z p P) (.node (o44v4 z p P) (.node (o76v6 z p P) .nil .nil) .nil) (.node (o60v6 z p P) (.node (o92v6 z p P) .nil .nil) .nil)))) (.node (boot_o_6 P) (.node (boot_o_10 P) (.node (o18v1 z p P) (.node (o34v2 z p P) (.node (o66v6 z p P) .nil .nil) (.node (o98v6 z p P) .nil .nil)) (.node (o50v6 z p P) (.node (o82v6 z p P) .nil .nil) .nil)) (.node (o26v1 z p P) (.node (o42v5 z p P) (.node (o74v6 z p P) .nil .nil) .nil) (.node (o58v6 z p P) (.node (o90v6 z p P) .nil .nil) .nil))) (.node (o14v0 z p P) (.node (o22v1 z p P) (.node (o38v2 z p P) (.node (o70v6 z p P) .nil .nil) (.node (o102v6 z p P) .nil .nil)) (.node (o54v6 z p P) (.node (o86v6 z p P) .nil .nil) .nil)) (.node (o30v1 z p P) (.node (o46v5 z p P) (.node (o78v6 z p P) .nil .nil) .nil) (.node (o62v6 z p P) (.node (o94v6 z p P) .nil .nil) .nil))))))
noncomputable def Lf (z : Zs) (p : Program) (P : Params) : List Obj := [(boot_o_0 P), (boot_o_1 P), (boot_o_2 P), (o3v6 z p P), (boot_o_4 P), (boot_o_5 P), (boot_o_6 P), (boot_o_7 P), (boot_o_8 P), (boot_o_9 P), (boot_o_10 P), (o11v0 z p P), (o12v6 z p P), (o13v0 z p P), (o14v0 z p P), (o15v1 z p P), (o16v1 z p P), (o17v1 z p P), (o18v1 z p P), (o19v1 z p P), (o20v1 z p P), (o21v1 z p P), (o22v1 z p P), (o23v1 z p P), (o24v1 z p P), (o25v1 z p P), (o26v1 z p P), (o27v1 z p P), (o28v1 z p P), (o29v1 z p P), (o30v1 z p P), (o31v1 z p P), (o32v1 z p P), (o33v1a z p P), (o34v2 z p P), (o35v2 z p P), (o36v2 z p P), (o37v2 z p P), (o38v2 z p P), (o39v3 z p P), (o40v4 z p P), (o41v3 z p P), (o42v5 z p P), (o43v4 z p P), (o44v4 z p P), (o45v4 z p P), (o46v5 z p P), (o47v5 z p P), (o48v5 z p P), (o49v6 z p P), (o50v6 z p P), (o51v6 z p P), (o52v6 z p P), (o53v6 z p P), (o54v6 z p P), (o55v6 z p P), (o56v6 z p P), (o57v6 z p P), (o58v6 z p P), (o59v6 z p P), (o60v6 z p P), (o61v6 z p P), (o62v6 z p P), (o63v6 z p P), (o64v6 z p P), (o65v6 z p P), (o66v6 z p P), (o67v6 z p P), (o68v6 z p P), (o69v6 z p P), (o70v6 z p P), (o71v6 z p P), (o72v6 z p P), (o73v6 z p P), (o74v6 z p P), (o75v6 z p P), (o76v6 z p P), (o77v6 z p P), (o78v6 z p P), (o79v6 z p P), (o80v6 z p P), (o81v6 z p P), (o82v6 z p P), (o83v6 z p P), (o84v6 z p P), (o85v6 z p P), (o86v6 z p P), (o87v6 z p P), (o88v6 z p P), (o89v6 z p P), (o90v6 z p P), (o91v6 z p P), (o92v6 z p P), (o93v6 z p P), (o94v6 z p P), (o95v6 z p P), (o96v6 z p P), (o97v6 z p P), (o98v6 z p P), (o99v6 z p P), (o100v6 z p P), (o101v6 z p P), (o102v6 z p P)]
theorem prime0 : (Nat.beq PySem.Challenge.pw_kl0336_01.main.body.length 28) = true := by k_qdec
noncomputable abbrev po : Program := PySem.Challenge.pw_kl0336_01
noncomputable abbrev pf : Program := PySem.W.Fast.tw16629095529801197708
theorem p_eq : po = pf := PySem.W.Fast.te16629095529801197708

/-! the head: the statements, some at a time -/
noncomputable abbrev Tr := Zs → Program → Params → BT
noncomputable abbrev RunF := (String → Option Builtin) → Program → World → Nat → Option Value → Nat → Nat → SharedT → Thread → Option (Flow × SharedT × Code × Pos)
noncomputable abbrev GoF := (String → Option Builtin) → Program → World → Nat → Option Value → Nat → Nat → SharedT → Thread → Option (SharedT × Thread)
noncomputable abbrev hp0 : Pos := ⟨0, 0, 0, 0⟩
noncomputable abbrev stA (T : Tr) (z : Zs) (p : Program) (w : World) (os : OsState) (n k : Nat) : SharedT := ⟨T z p w.params, n, {}, ⟨[]⟩, {}, k, os⟩
noncomputable abbrev th0 (p : Program) (i n : Nat) (pa : Pos) : Thread := piecesOf (((behindTheImports p).drop i).take n) (tenv p) (tcode p) pa [topFrame hp0]
noncomputable abbrev EndS (sg : RunF) (tb : String → Option Builtin) (z : Zs) (p : Program) (Ta Tb : Tr) (na ka nb kb N : Nat) (pb : Pos) (w : World) (os : OsState) (t : Thread) : Prop :=
  sg tb p w 11 (some (.ref 6)) 1 N (stA Ta z p w os na ka) t = some (.next, stA Tb z p w os nb kb, tcode p, pb)
noncomputable abbrev GoS (gg : GoF) (tb : String → Option Builtin) (z : Zs) (p : Program) (Ta Tb : Tr) (na ka nb kb n : Nat) (w : World) (os : OsState) (t t' : Thread) : Prop :=
  gg tb p w 11 (some (.ref 6)) 1 n (stA Ta z p w os na ka) t = some (stA Tb z p w os nb kb, t')
/-- the thread behind the first steps -/
noncomputable def thr (gg : GoF) (tb : String → Option Builtin) (z : Zs) (p : Program) (Ta : Tr) (na ka n i m : Nat) (pa : Pos) (w : World) (os : OsState) : Thread :=
  match gg tb p w 11 (some (.ref 6)) 1 n (stA Ta z p w os na ka) (th0 p i m pa) with
  | some (_, t) => t
  | none => th0 p i m pa
noncomputable abbrev sgF := @PySem.W.Fast.tw10110043849684766642
noncomputable abbrev goF := @PySem.W.Fast.tw10295753902157049106
noncomputable abbrev tbF := @PySem.W.Fast.tw14364793385576792824
noncomputable abbrev rI (w : World) (b : Bool) : World := w.withFollow "comprehension-iter-twice" b
noncomputable abbrev rS (w : World) (b : Bool) : World := w.withFollow "special-get-raises" b
noncomputable def thrM (gg : GoF) (tb : String → Option Builtin) (z : Zs) (p : Program) (w : World) (os : OsState) : Thread := thr gg tb z p T1 33 220 78 5 1 ⟨29, 0, 29, 2⟩ (rI (rS w true) true) os
noncomputable def thrH (gg : GoF) (tb : String → Option Builtin) (z : Zs) (p : Program) (w : World) (os : OsState) : Thread := thr gg tb z p T3 43 1265 88 14 2 ⟨38, 0, 38, 8⟩ (rS w true) os
noncomputable def thrB (gg : GoF) (tb : String → Option Builtin) (z : Zs) (p : Program) (w : World) (os : OsState) : Thread := thr gg tb z p T4 46 1476 54 16 1 ⟨41, 0, 41, 28⟩ (rS w true) os
theorem gp0 (w : World) (os : OsState) : EndS sgF tbF zf pf T0 T1 15 187 33 220 109 ⟨29, 0, 29, 2⟩ w os (th0 pf 0 5 ⟨0, 0, 0, 0⟩) := by kernel_rfl
theorem gp2 (w : World) (os : OsState) : EndS sgF tbF zf pf T2 T3 39 1248 43 1265 133 ⟨38, 0, 38, 8⟩ w os (th0 pf 6 8 ⟨30, 0, 30, 11⟩) := by kernel_rfl
theorem gp5f (w : World) (os : OsState) : EndS sgF tbF zf pf T5 T6 49 1762 103 1852 398 ⟨141, 0, 187, 15⟩ (rS w false) os (th0 pf 17 11 ⟨42, 9, 42, 110⟩) := by kernel_rfl
theorem gp5t (w : World) (os : OsState) : EndS sgF tbF zf pf T5 T6 49 1762 103 1852 398 ⟨141, 0, 187, 15⟩ (rS w true) os (th0 pf 17 11 ⟨42, 9, 42, 110⟩) := by kernel_rfl
theorem gp5 (w : World) (os : OsState) : EndS sgF tbF zf pf T5 T6 49 1762 103 1852 398 ⟨141, 0, 187, 15⟩ w os (th0 pf 17 11 ⟨42, 9, 42, 110⟩) := byRow2 "special-get-raises" (P := fun w => EndS sgF tbF zf pf T5 T6 49 1762 103 1852 398 ⟨141, 0, 187, 15⟩ w os (th0 pf 17 11 ⟨42, 9, 42, 110⟩)) (fun w => gp5f w os) (fun w => gp5t w os) w

/-! the head: the comprehension -/
theorem gmff (w : World) (os : OsState) : GoS goF tbF zf pf T1 T1a 33 220 37 227 88 (rI (rS w false) false) os (th0 pf 5 1 ⟨29, 0, 29, 2⟩) (thrM goF tbF zf pf (rI (rS w false) false) os) := by kernel_rfl
theorem gmft (w : World) (os : OsState) : GoS goF tbF zf pf T1 T1a 33 220 37 227 88 (rI (rS w true) false) os (th0 pf 5 1 ⟨29, 0, 29, 2⟩) (thrM goF tbF zf pf (rI (rS w true) false) os) := by kernel_rfl
theorem gmf (w : World) (os : OsState) : GoS goF tbF zf pf T1 T1a 33 220 37 227 88 (rI w false) os (th0 pf 5 1 ⟨29, 0, 29, 2⟩) (thrM goF tbF zf pf (rI w false) os) := byRow2 "special-get-raises" (P := fun w => GoS goF tbF zf pf T1 T1a 33 220 37 227 88 (rI w false) os (th0 pf 5 1 ⟨29, 0, 29, 2⟩) (thrM goF tbF zf pf (rI w false) os)) (fun w => gmff w os) (fun w => gmft w os) w
theorem gmtf (w : World) (os : OsState) : GoS goF tbF zf pf T1 T1a 33 220 37 227 78 (rI (rS w false) true) os (th0 pf 5 1 ⟨29, 0, 29, 2⟩) (thrM goF tbF zf pf (rI (rS w false) true) os) := by kernel_rfl
theorem gmtt (w : World) (os : OsState) : GoS goF tbF zf pf T1 T1a 33 220 37 227 78 (rI (rS w true) true) os (th0 pf 5 1 ⟨29, 0, 29, 2⟩) (thrM goF tbF zf pf (rI (rS w true) true) os) := by kernel_rfl
theorem gmt (w : World) (os : OsState) : GoS goF tbF zf pf T1 T1a 33 220 37 227 78 (rI w true) os (th0 pf 5 1 ⟨29, 0, 29, 2⟩) (thrM goF tbF zf pf (rI w true) os) := byRow2 "special-get-raises" (P := fun w => GoS goF tbF zf pf T1 T1a 33 220 37 227 78 (rI w true) os (th0 pf 5 1 ⟨29, 0, 29, 2⟩) (thrM goF tbF zf pf (rI w true) os)) (fun w => gmtf w os) (fun w => gmtt w os) w
theorem gm1b (w : World) (os : OsState) : GoS goF tbF zf pf T1a T1b 37 227 37 483 2368 w os (thrM goF tbF zf pf w os) (thrM goF tbF zf pf w os) := by kernel_rfl
theorem gm1c (w : World) (os : OsState) : GoS goF tbF zf pf T1b T1c 37 483 37 739 2368 w os (thrM goF tbF zf pf w os) (thrM goF tbF zf pf w os) := by kernel_rfl
theorem gm1d (w : World) (os : OsState) : GoS goF tbF zf pf T1c T1d 37 739 37 995 2368 w os (thrM goF tbF zf pf w os) (thrM goF tbF zf pf w os) := by kernel_rfl
theorem gme (w : World) (os : OsState) : EndS sgF tbF zf pf T1d T2 37 995 39 1248 2360 ⟨30, 0, 30, 11⟩ w os (thrM goF tbF zf pf w os) := by kernel_rfl

/-! the head: the two loops -/
theorem ghf (w : World) (os : OsState) : GoS goF tbF zf pf T3 T3a 43 1265 44 1275 88 (rS w false) os (th0 pf 14 2 ⟨38, 0, 38, 8⟩) (thrH goF tbF zf pf (rS w false) os) := by kernel_rfl
theorem ght (w : World) (os : OsState) : GoS goF tbF zf pf T3 T3a 43 1265 44 1275 88 (rS w true) os (th0 pf 14 2 ⟨38, 0, 38, 8⟩) (thrH goF tbF zf pf (rS w true) os) := by kernel_rfl
theorem gh (w : World) (os : OsState) : GoS goF tbF zf pf T3 T3a 43 1265 44 1275 88 w os (th0 pf 14 2 ⟨38, 0, 38, 8⟩) (thrH goF tbF zf pf w os) := byRow2 "special-get-raises" (P := fun w => GoS goF tbF zf pf T3 T3a 43 1265 44 1275 88 w os (th0 pf 14 2 ⟨38, 0, 38, 8⟩) (thrH goF tbF zf pf w os)) (fun w => ghf w os) (fun w => ght w os) w
theorem ghb (w : World) (os : OsState) : GoS goF tbF zf pf T3a T3b 44 1275 44 1341 990 w os (thrH goF tbF zf pf w os) (thrH goF tbF zf pf w os) := by kernel_rfl
theorem ghc (w : World) (os : OsState) : GoS goF tbF zf pf T3b T3c 44 1341 44 1407 990 w os (thrH goF tbF zf pf w os) (thrH goF tbF zf pf w os) := by kernel_rfl
theorem ghe (w : World) (os : OsState) : EndS sgF tbF zf pf T3c T4 44 1407 46 1476 1033 ⟨41, 0, 41, 28⟩ w os (thrH goF tbF zf pf w os) := by kernel_rfl

theorem gbf (w : World) (os : OsState) : GoS goF tbF zf pf T4 T4a 46 1476 47 1480 54 (rS w false) os (th0 pf 16 1 ⟨41, 0, 41, 28⟩) (thrB goF tbF zf pf (rS w false) os) := by kernel_rfl
theorem gbt (w : World) (os : OsState) : GoS goF tbF zf pf T4 T4a 46 1476 47 1480 54 (rS w true) os (th0 pf 16 1 ⟨41, 0, 41, 28⟩) (thrB goF tbF zf pf (rS w true) os) := by kernel_rfl
theorem gb (w : World) (os : OsState) : GoS goF tbF zf pf T4 T4a 46 1476 47 1480 54 w os (th0 pf 16 1 ⟨41, 0, 41, 28⟩) (thrB goF tbF zf pf w os) := byRow2 "special-get-raises" (P := fun w => GoS goF tbF zf pf T4 T4a 46 1476 47 1480 54 w os (th0 pf 16 1 ⟨41, 0, 41, 28⟩) (thrB goF tbF zf pf w os)) (fun w => gbf w os) (fun w => gbt w os) w
theorem gbb (w : World) (os : OsState) : GoS goF tbF zf pf T4a T4b 47 1480 47 1576 1440 w os (thrB goF tbF zf pf w os) (thrB goF tbF zf pf w os) := by kernel_rfl
theorem gbc (w : World) (os : OsState) : GoS goF tbF zf pf T4b T4c 47 1576 47 1672 1440 w os (thrB goF tbF zf pf w os) (thrB goF tbF zf pf w os) := by kernel_rfl
theorem gbe (w : World) (os : OsState) : EndS sgF tbF zf pf T4c T5 47 1672 49 1762 1369 ⟨42, 9, 42, 110⟩ w os (thrB goF tbF zf pf w os) := by kernel_rfl

/-! the head: the way in, the way out, the whole run -/
noncomputable abbrev PreS (tg : (String → Option Builtin) → Program → World → Nat → Option Value → Nat → Shared → Thread → Option (Shared × Thread)) (tb : String → Option Builtin) (dn : (String → Option Builtin) → Code → Sem Fin) (z : Zs) (p : Program) (w : World) (os : OsState) : Prop :=
  tg tb p w 11 (some (.ref 6)) 12 ⟨boot_heap w.params, ⟨[]⟩, boot_drawn, boot_toks, os⟩ (topStub p) = some (⟨⟨⟨L0 z p w.params⟩, {}⟩, ⟨[]⟩, {}, 187, os⟩, ⟨dn tb (tcode p), tcode p, hp0, [topFrame hp0]⟩)
noncomputable abbrev BlkS (sg : (String → Option Builtin) → Program → World → Nat → Option Value → Nat → Nat → Shared → Thread → Option (Flow × Shared × Code × Pos)) (tb : String → Option Builtin) (z : Zs) (p : Program) (w : World) (os : OsState) : Prop :=
  sg tb p w 11 (some (.ref 6)) 1 1 ⟨⟨⟨L0 z p w.params⟩, {}⟩, ⟨[]⟩, {}, 187, os⟩ (blockOf (behindTheImports p) (tenv p) (tcode p) hp0 [topFrame hp0]) = some (.next, (⟨T0 z p w.params, 15, {}, ⟨[]⟩, {}, 187, os⟩ : SharedT).abs, tcode p, hp0)
noncomputable def Hf (z : Zs) (p : Program) (P : Params) : Heap := ⟨⟨Lf z p P⟩, {}⟩
noncomputable abbrev FinS (tr : (String → Option Builtin) → Program → World → Nat → Option Value → Nat → Shared → Thread → Option Shared) (tb : String → Option Builtin) (z : Zs) (p : Program) (w : World) (os : OsState) : Prop :=
  tr tb p w 11 (some (.ref 6)) 2 (⟨T6 z p w.params, 103, {}, ⟨[]⟩, {}, 1852, os⟩ : SharedT).abs ⟨doneF .next, tcode p, ⟨141, 0, 187, 15⟩, [topFrame hp0]⟩ = some ⟨Hf z p w.params, ⟨[]⟩, {}, 1852, os⟩
noncomputable abbrev tgF := @PySem.W.Fast.tw15667345088766844465
noncomputable abbrev dnF := @PySem.W.Fast.tw11892475500146522536
noncomputable abbrev srF := @PySem.W.Fast.tw14374325043358763698
noncomputable abbrev trF := @PySem.W.Fast.tw14082659384304107361
theorem gpre (w : World) (os : OsState) : PreS tgF tbF dnF zf pf w os := by kernel_rfl
theorem gblk (w : World) (os : OsState) : BlkS srF tbF zf pf w os := by kernel_rfl
theorem gfin (w : World) (os : OsState) : FinS trF tbF zf pf w os := by kernel_rfl
theorem upre (w : World) (os : OsState) : PreS (@topGo) treeTable (@denote) zo po w os := by
  rw [PySem.W.Fast.te15667345088766844465, PySem.W.Fast.te11892475500146522536, PySem.W.Fast.te14364793385576792824, z_eq, p_eq]; exact gpre w os
theorem ublk (w : World) (os : OsState) : BlkS (@segRun) treeTable zo po w os := by
  rw [PySem.W.Fast.te14374325043358763698, PySem.W.Fast.te14364793385576792824, z_eq, p_eq]; exact gblk w os
theorem ufin (w : World) (os : OsState) : FinS (@topRun) treeTable zo po w os := by
  rw [PySem.W.Fast.te14082659384304107361, PySem.W.Fast.te14364793385576792824, z_eq, p_eq]; exact gfin w os

/-! the head: over the text itself -/
theorem ugp0 (w : World) (os : OsState) : EndS (@segRunT) treeTable zo po T0 T1 15 187 33 220 109 ⟨29, 0, 29, 2⟩ w os (th0 po 0 5 ⟨0, 0, 0, 0⟩) := by
  rw [PySem.W.Fast.te10110043849684766642, PySem.W.Fast.te14364793385576792824, z_eq, p_eq]; exact gp0 w os
theorem ugp2 (w : World) (os : OsState) : EndS (@segRunT) treeTable zo po T2 T3 39 1248 43 1265 133 ⟨38, 0, 38, 8⟩ w os (th0 po 6 8 ⟨30, 0, 30, 11⟩) := by
  rw [PySem.W.Fast.te10110043849684766642, PySem.W.Fast.te14364793385576792824, z_eq, p_eq]; exact gp2 w os
theorem ugp5 (w : World) (os : OsState) : EndS (@segRunT) treeTable zo po T5 T6 49 1762 103 1852 398 ⟨141, 0, 187, 15⟩ w os (th0 po 17 11 ⟨42, 9, 42, 110⟩) := by
  rw [PySem.W.Fast.te10110043849684766642, PySem.W.Fast.te14364793385576792824, z_eq, p_eq]; exact gp5 w os
theorem ugmf (w : World) (os : OsState) : GoS (@segGoT) treeTable zo po T1 T1a 33 220 37 227 88 (rI w false) os (th0 po 5 1 ⟨29, 0, 29, 2⟩) (thrM (@segGoT) treeTable zo po (rI w false) os) := by
  rw [PySem.W.Fast.te10295753902157049106, PySem.W.Fast.te14364793385576792824, z_eq, p_eq]; exact gmf w os
theorem ugmt (w : World) (os : OsState) : GoS (@segGoT) treeTable zo po T1 T1a 33 220 37 227 78 (rI w true) os (th0 po 5 1 ⟨29, 0, 29, 2⟩) (thrM (@segGoT) treeTable zo po (rI w true) os) := by
  rw [PySem.W.Fast.te10295753902157049106, PySem.W.Fast.te14364793385576792824, z_eq, p_eq]; exact gmt w os
theorem ugm1b (w : World) (os : OsState) : GoS (@segGoT) treeTable zo po T1a T1b 37 227 37 483 2368 w os (thrM (@segGoT) treeTable zo po w os) (thrM (@segGoT) treeTable zo po w os) := by
  rw [PySem.W.Fast.te10295753902157049106, PySem.W.Fast.te14364793385576792824, z_eq, p_eq]; exact gm1b w os
theorem ugm1c (w : World) (os : OsState) : GoS (@segGoT) treeTable zo po T1b T1c 37 483 37 739 2368 w os (thrM (@segGoT) treeTable zo po w os) (thrM (@segGoT) treeTable zo po w os) := by
  rw [PySem.W.Fast.te10295753902157049106, PySem.W.Fast.te14364793385576792824, z_eq, p_eq]; exact gm1c w os
theorem ugm1d (w : World) (os : OsState) : GoS (@segGoT) treeTable zo po T1c T1d 37 739 37 995 2368 w os (thrM (@segGoT) treeTable zo po w os) (thrM (@segGoT) treeTable zo po w os) := by
  rw [PySem.W.Fast.te10295753902157049106, PySem.W.Fast.te14364793385576792824, z_eq, p_eq]; exact gm1d w os
theorem ugme (w : World) (os : OsState) : EndS (@segRunT) treeTable zo po T1d T2 37 995 39 1248 2360 ⟨30, 0, 30, 11⟩ w os (thrM (@segGoT) treeTable zo po w os) := by
  rw [PySem.W.Fast.te10110043849684766642, PySem.W.Fast.te10295753902157049106, PySem.W.Fast.te14364793385576792824, z_eq, p_eq]; exact gme w os
theorem ugh (w : World) (os : OsState) : GoS (@segGoT) treeTable zo po T3 T3a 43 1265 44 1275 88 w os (th0 po 14 2 ⟨38, 0, 38, 8⟩) (thrH (@segGoT) treeTable zo po w os) := by
  rw [PySem.W.Fast.te10295753902157049106, PySem.W.Fast.te14364793385576792824, z_eq, p_eq]; exact gh w os
theorem ughb (w : World) (os : OsState) : GoS (@segGoT) treeTable zo po T3a T3b 44 1275 44 1341 990 w os (thrH (@segGoT) treeTable zo po w os) (thrH (@segGoT) treeTable zo po w os) := by
  rw [PySem.W.Fast.te10295753902157049106, PySem.W.Fast.te14364793385576792824, z_eq, p_eq]; exact ghb w os
theorem ughc (w : World) (os : OsState) : GoS (@segGoT) treeTable zo po T3b T3c 44 1341 44 1407 990 w os (thrH (@segGoT) treeTable zo po w os) (thrH (@segGoT) treeTable zo po w os) := by
  rw [PySem.W.Fast.te10295753902157049106, PySem.W.Fast.te14364793385576792824, z_eq, p_eq]; exact ghc w os
theorem ugb (w : World) (os : OsState) : GoS (@segGoT) treeTable zo po T4 T4a 46 1476 47 1480 54 w os (th0 po 16 1 ⟨41, 0, 41, 28⟩) (thrB (@segGoT) treeTable zo po w os) := by
  rw [PySem.W.Fast.te10295753902157049106, PySem.W.Fast.te14364793385576792824, z_eq, p_eq]; exact gb w os
theorem ugbb (w : World) (os : OsState) : GoS (@segGoT) treeTable zo po T4a T4b 47 1480 47 1576 1440 w os (thrB (@segGoT) treeTable zo po w os) (thrB (@segGoT) treeTable zo po w os) := by
  rw [PySem.W.Fast.te10295753902157049106, PySem.W.Fast.te14364793385576792824, z_eq, p_eq]; exact gbb w os
theorem ugbc (w : World) (os : OsState) : GoS (@segGoT) treeTable zo po T4b T4c 47 1576 47 1672 1440 w os (thrB (@segGoT) treeTable zo po w os) (thrB (@segGoT) treeTable zo po w os) := by
  rw [PySem.W.Fast.te10295753902157049106, PySem.W.Fast.te14364793385576792824, z_eq, p_eq]; exact gbc w os
theorem ughe (w : World) (os : OsState) : EndS (@segRunT) treeTable zo po T3c T4 44 1407 46 1476 1033 ⟨41, 0, 41, 28⟩ w os (thrH (@segGoT) treeTable zo po w os) := by
  rw [PySem.W.Fast.te10110043849684766642, PySem.W.Fast.te10295753902157049106, PySem.W.Fast.te14364793385576792824, z_eq, p_eq]; exact ghe w os
theorem ugbe (w : World) (os : OsState) : EndS (@segRunT) treeTable zo po T4c T5 47 1672 49 1762 1369 ⟨42, 9, 42, 110⟩ w os (thrB (@segGoT) treeTable zo po w os) := by
  rw [PySem.W.Fast.te10110043849684766642, PySem.W.Fast.te10295753902157049106, PySem.W.Fast.te14364793385576792824, z_eq, p_eq]; exact gbe w os
noncomputable abbrev PieceU (Ta Tb : Tr) (na ka nb kb N i n : Nat) (pa pb : Pos) (w : World) (os : OsState) : Prop :=
  segRun treeTable po w 11 (some (.ref 6)) 1 N (stA Ta zo po w os na ka).abs (th0 po i n pa) = some (.next, (stA Tb zo po w os nb kb).abs, tcode po, pb)
theorem umf (w : World) (os : OsState) : PieceU T1 T2 33 220 39 1248 (88 + (2368 + (2368 + (2368 + 2360)))) 5 1 ⟨29, 0, 29, 2⟩ ⟨30, 0, 30, 11⟩ (rI w false) os :=
  seg_go (segGo_of (ugmf w os)) (seg_go (segGo_of (ugm1b _ os)) (seg_go (segGo_of (ugm1c _ os)) (seg_go (segGo_of (ugm1d _ os)) (segRun_of (ugme _ os)))))
theorem umt (w : World) (os : OsState) : PieceU T1 T2 33 220 39 1248 (78 + (2368 + (2368 + (2368 + 2360)))) 5 1 ⟨29, 0, 29, 2⟩ ⟨30, 0, 30, 11⟩ (rI w true) os :=
  seg_go (segGo_of (ugmt w os)) (seg_go (segGo_of (ugm1b _ os)) (seg_go (segGo_of (ugm1c _ os)) (seg_go (segGo_of (ugm1d _ os)) (segRun_of (ugme _ os)))))
theorem uh (w : World) (os : OsState) : PieceU T3 T4 43 1265 46 1476 (88 + (990 + (990 + 1033))) 14 2 ⟨38, 0, 38, 8⟩ ⟨41, 0, 41, 28⟩ w os := seg_go (segGo_of (ugh w os)) (seg_go (segGo_of (ughb w os)) (seg_go (segGo_of (ughc w os)) (segRun_of (ughe w os))))
theorem ub (w : World) (os : OsState) : PieceU T4 T5 46 1476 49 1762 (54 + (1440 + (1440 + 1369))) 16 1 ⟨41, 0, 41, 28⟩ ⟨42, 9, 42, 110⟩ w os := seg_go (segGo_of (ugb w os)) (seg_go (segGo_of (ugbb w os)) (seg_go (segGo_of (ugbc w os)) (segRun_of (ugbe w os))))
theorem pieces_at {α : Type} (b : List α) (i n : Nat) : (b.drop i).take n ++ b.drop (i + n) = b.drop i := by
  rw [← List.drop_drop]; exact List.take_append_drop ..
theorem piece_at {Ta Tb : Tr} {na ka nb kb i n Np N : Nat} {pa pb : Pos} {w : World} {os : OsState} {r : Shared} (h : PieceU Ta Tb na ka nb kb Np i n pa pb w os)
    (k : topRun treeTable po w 11 (some (.ref 6)) N (stA Tb zo po w os nb kb).abs (restOf ((behindTheImports po).drop (i + n)) (tenv po) (tcode po) pb [topFrame hp0]) = some r) :
    topRun treeTable po w 11 (some (.ref 6)) (Np + N) (stA Ta zo po w os na ka).abs (restOf ((behindTheImports po).drop i) (tenv po) (tcode po) pa [topFrame hp0]) = some r := by
  have := piece_app h k
  rwa [pieces_at] at this
theorem cells_end : (behindTheImports po).drop 28 = [] := by kernel_rfl
theorem run_of {Nm N : Nat} (w : World) (os : OsState) (hm : PieceU T1 T2 33 220 39 1248 Nm 5 1 ⟨29, 0, 29, 2⟩ ⟨30, 0, 30, 11⟩ w os) (hN : N = 12 + (1 + (109 + (Nm + (133 + ((88 + (990 + (990 + 1033))) + ((54 + (1440 + (1440 + 1369))) + (398 + 2)))))))) : topRun treeTable po w 11 (some (.ref 6)) (N) ⟨boot_heap (w).params, ⟨[]⟩, boot_drawn, boot_toks, os⟩ (topStub po) = some ⟨Hf zo po (w).params, ⟨[]⟩, {}, 1852, os⟩ := by
  subst hN
  have e : topRun treeTable po w 11 (some (.ref 6)) 2 (stA T6 zo po w os 103 1852).abs (restOf ((behindTheImports po).drop (17 + 11)) (tenv po) (tcode po) ⟨141, 0, 187, 15⟩ [topFrame hp0]) = some ⟨Hf zo po w.params, ⟨[]⟩, {}, 1852, os⟩ := by
    rw [cells_end]; exact piece_nil (ufin w os)
  exact go_top (upre w os) (piece_block (ublk w os) (piece_at (i := 0) (segRun_of (ugp0 w os)) (piece_at hm (piece_at (segRun_of (ugp2 w os)) (piece_at (uh w os) (piece_at (ub w os) (piece_at (segRun_of (ugp5 w os)) e)))))))
theorem run_f (w : World) (os : OsState) : topRun treeTable po (rI w false) 11 (some (.ref 6)) (17611) ⟨boot_heap ((rI w false)).params, ⟨[]⟩, boot_drawn, boot_toks, os⟩ (topStub po) = some ⟨Hf zo po ((rI w false)).params, ⟨[]⟩, {}, 1852, os⟩ := run_of (rI w false) os (umf w os) (by omega)
theorem run_t (w : World) (os : OsState) : topRun treeTable po (rI w true) 11 (some (.ref 6)) (17601) ⟨boot_heap ((rI w true)).params, ⟨[]⟩, boot_drawn, boot_toks, os⟩ (topStub po) = some ⟨Hf zo po ((rI w true)).params, ⟨[]⟩, {}, 1852, os⟩ := run_of (rI w true) os (umt w os) (by omega)
theorem run_t' (w : World) (os : OsState) : topRun treeTable po (rI w true) 11 (some (.ref 6)) (17611) ⟨boot_heap ((rI w true)).params, ⟨[]⟩, boot_drawn, boot_toks, os⟩ (topStub po) = some ⟨Hf zo po ((rI w true)).params, ⟨[]⟩, {}, 1852, os⟩ := topRun_mono 10 17601 _ _ _ (run_t w os)
theorem run_top (w : World) (os : OsState) : topRun treeTable po w 11 (some (.ref 6)) (17611) ⟨boot_heap (w).params, ⟨[]⟩, boot_drawn, boot_toks, os⟩ (topStub po) = some ⟨Hf zo po (w).params, ⟨[]⟩, {}, 1852, os⟩ :=
  byRow2 "comprehension-iter-twice" (P := fun w => topRun treeTable po w 11 (some (.ref 6)) (17611) ⟨boot_heap (w).params, ⟨[]⟩, boot_drawn, boot_toks, os⟩ (topStub po) = some ⟨Hf zo po (w).params, ⟨[]⟩, {}, 1852, os⟩) (fun w => run_f w os) (fun w => run_t' w os) w

/-! the head: the looks at its end -/
noncomputable def qv (p : Program) : Program := view p [27]
noncomputable def lo : List Str := [⟨⟨[105, 110, 115, 111, 114, 116, 95, 108, 101, 102, 116]⟩⟩, ⟨⟨[98, 105, 115, 101, 99, 116, 95, 108, 101, 102, 116]⟩⟩, ⟨⟨[67, 82, 76, 70]⟩⟩, ⟨⟨[78, 76]⟩⟩, ⟨⟨[95, 81, 85, 79, 80, 82, 73, 95, 77, 65, 80]⟩⟩, ⟨⟨[95, 81, 85, 79, 80, 82, 73, 95, 72, 69, 65, 68, 69, 82, 95, 77, 65, 80]⟩⟩, ⟨⟨[95, 81, 85, 79, 80, 82, 73, 95, 66, 79, 68, 89, 95, 77, 65, 80]⟩⟩, ⟨⟨[97, 115, 99, 105, 105, 95, 108, 111, 119, 101, 114, 99, 97, 115, 101]⟩⟩, ⟨⟨[97, 115, 99, 105, 105, 95, 117, 112, 112, 101, 114, 99, 97, 115, 101]⟩⟩, ⟨⟨[97, 115, 99, 105, 105, 95, 108, 101, 116, 116, 101, 114, 115]⟩⟩, ⟨⟨[100, 105, 103, 105, 116, 115]⟩⟩, ⟨⟨[104, 101, 120, 100, 105, 103, 105, 116, 115]⟩⟩, ⟨⟨[117, 110, 113, 117, 111, 116, 101]⟩⟩, ⟨⟨[113, 117, 111, 116, 101]⟩⟩, ⟨⟨[95, 81, 85, 79, 80, 82, 73, 95, 66, 79, 68, 89, 95, 69, 78, 67, 79, 68, 69, 95, 77, 65, 80]⟩⟩, ⟨⟨[98, 111, 100, 121, 95, 101, 110, 99, 111, 100, 101]⟩⟩, ⟨⟨[100, 101, 99, 111, 100, 101]⟩⟩, ⟨⟨[95, 108, 97, 119, 95, 109, 111, 118, 101, 115]⟩⟩, ⟨⟨[95, 108, 97, 119, 95, 112, 117, 115, 104, 101, 100]⟩⟩]
noncomputable abbrev LkA (im : List Stmt → List Str) (z : Zs) (p : Program) (w : World) (os : OsState) : Prop :=
  (staticsOk (im p.main.body) (boot_heap w.params) (Hf z p w.params) && namesBound p (Hf z p w.params) && gensDone ⟨Hf z p w.params, ⟨[]⟩, {}, 1852, os⟩ && laidKept (boot_heap w.params) (Hf z p w.params)) = true
noncomputable abbrev imF := @PySem.W.Fast.tw5923862056798008813
noncomputable abbrev snF := @PySem.W.Fast.tw4187177175401517315
theorem lkA (w : World) (os : OsState) : LkA imF zf pf w os := by kernel_rfl
theorem lkB (w : World) (os : OsState) : snF (qv pf) lo (imF pf.main.body) (fun _ => true) true ⟨Hf zf pf w.params, ⟨[]⟩, {}, 1852, os⟩ = openGood (qv pf) lo := by kernel_rfl
theorem ukA (w : World) (os : OsState) : LkA (@importedModules) zo po w os := by
  rw [PySem.W.Fast.te5923862056798008813, z_eq, p_eq]; exact lkA w os
theorem ukB (w : World) (os : OsState) : openSeen (qv po) lo (importedModules po.main.body) (fun _ => true) true ⟨Hf zo po w.params, ⟨[]⟩, {}, 1852, os⟩ = openGood (qv po) lo := by
  rw [PySem.W.Fast.te4187177175401517315, PySem.W.Fast.te5923862056798008813, z_eq, p_eq]; exact lkB w os

/-! the head: joined -/
noncomputable abbrev ieF := @PySem.W.Fast.tw10274390034422433532
noncomputable abbrev stF := @PySem.W.Fast.tw1435165496053646825
theorem boot_f (w : World) : (ieF tbF (PySem.W.opening pf) w 600 (stF (PySem.W.opening pf)).1 (stF (PySem.W.opening pf)).2).map (fun s => (s.heap, s.gens, s.drawn, s.toks)) = some (boot_heap w.params, ⟨[]⟩, boot_drawn, boot_toks) := by kernel_rfl
theorem boot_u (w : World) : (importEnds treeTable (PySem.W.opening po) w 600 (start (PySem.W.opening po)).1 (start (PySem.W.opening po)).2).map (fun s => (s.heap, s.gens, s.drawn, s.toks)) = some (boot_heap w.params, ⟨[]⟩, boot_drawn, boot_toks) := by
  rw [PySem.W.Fast.te10274390034422433532, PySem.W.Fast.te1435165496053646825, PySem.W.Fast.te14364793385576792824, p_eq]; exact boot_f w
theorem op_fence (s : Shared) : fenceModules? po s = some s := by kernel_rfl
theorem op_open (w : World) : (fencedOpening treeTable po w 40000).map (fun s => (s.heap, s.gens, s.drawn, s.toks)) = some (boot_heap w.params, ⟨[]⟩, boot_drawn, boot_toks) := by
  obtain ⟨s, hs, hv⟩ := Option.map_eq_some_iff.mp (boot_u w)
  have m := importEnds_mono (40000 - 600) _ _ _ _ hs
  rw [show 600 + (40000 - 600) = 40000 by omega] at m
  unfold fencedOpening
  rw [m]
  show ((fenceModules? po s)).map _ = _
  rw [op_fence s]
  exact congrArg some hv
theorem op_size (w : World) : ((boot_heap w.params).isNs mainGlobals && (⟨[]⟩ : Array GenState).size == 0, (boot_heap w.params).objs.size, (boot_heap w.params).nsMap mainGlobals "__annotations__") = (true, 11, some (.ref 6)) := by kernel_rfl
theorem left_top : LeftO po (qv po) lo (fun _ => true) (fun s => s.heap) (fun w => Hf zo po w.params) 40000 :=
  LeftO.of_pieces (H₀ := boot_heap) (H₁ := Hf zo po) op_open op_size run_top (by rfl) (fun w => by
    funext os
    exact Prod.ext (ukA w os) (Prod.ext (ukB w os) rfl))

/-! the head: what it lays for the walk -/
section
variable (P : Params)
theorem hf_isG : (Hf zo po P).isNs mainGlobals = true := by kernel_rfl
theorem hf_isB : (Hf zo po P).isNs builtinsNs = true := by kernel_rfl
theorem hf_gl : GLs.map (fun p => (Hf zo po P).nsMap mainGlobals p.1) = GLs.map (fun p => some p.2) := by kernel_rfl
theorem hf_gb : BLs.map (fun p => (Hf zo po P).nsMap mainGlobals p.1) = BLs.map (fun _ => none) := by kernel_rfl
theorem hf_bb : BLs.map (fun p => (Hf zo po P).nsMap builtinsNs p.1) = BLs.map (fun p => some p.2) := by kernel_rfl
theorem hf_law : (Hf zo po P).nsMap mainGlobals "law" = some (.ref 102) := by kernel_rfl
theorem hf_lim : (Hf zo po P).noLimitOk = true := by kernel_rfl
end
noncomputable def pmAt (h : Heap) (f : Nat) : Value := match h.get? f with | some o => (match o.data with | .func fd => fd.pyModule | _ => .none) | none => .none
theorem fn_of {h : Heap} {f i : Nat} {dV kV cdv : Value} (e : (h.get? f).map (·.data) = some (.func (fdAt i dV kV (pmAt h f) cdv))) (c : h.codeRecOk cdv (nameAt i) = true) : FnIs h f i dV kV cdv :=
  ⟨let ⟨o, a, b⟩ := Option.map_eq_some_iff.mp e; ⟨o, _, a, b⟩, .of_ok c⟩
noncomputable def seqAt (h : Heap) (f : Nat) : Array Value := match h.get? f with | some o => (match o.data with | .seq xs _ => xs | _ => #[]) | none => #[]
theorem list_of {h : Heap} {l n : Nat} (e : h.get? l = some ⟨.type "list", none, .seq (seqAt h l) n, #[]⟩) : h.IsList l (seqAt h l) := ⟨_, e, rfl, n, rfl⟩
noncomputable def tabChk (items : Array Value) : Bool := items.size == 256 && (List.range 256).all fun c => match items[c]? with | some (.str x _) => decide (x = ⟨(enc c).toArray⟩) | _ => false
theorem tab_of {items : Array Value} (h : tabChk items = true) : items.size = 256 ∧ ∀ c, c < 256 → ∃ t, items[c]? = some (.str ⟨(enc c).toArray⟩ t) := by
  unfold tabChk at h
  rw [Bool.and_eq_true, List.all_eq_true] at h
  refine ⟨by simpa using h.1, fun c hc => ?_⟩
  have := h.2 c (List.mem_range.mpr hc)
  split at this
  · rename_i x t e
    exact ⟨t, by rw [e, of_decide_eq_true this]⟩
  · cases this
section
variable (P : Params)
theorem hf_fns : FnIs (Hf zo po P) 23 1 (.ref 15) (.ref 16) (.ref 22) ∧ FnIs (Hf zo po P) 32 2 (.ref 24) (.ref 25) (.ref 31) ∧ FnIs (Hf zo po P) 55 17 .none .none (.ref 54) ∧ FnIs (Hf zo po P) 75 22 (.ref 68) .none (.ref 74) ∧
    FnIs (Hf zo po P) 83 23 (.ref 76) .none (.ref 82) ∧ FnIs (Hf zo po P) 90 25 .none .none (.ref 89) ∧ FnIs (Hf zo po P) 97 26 .none .none (.ref 96) ∧ FnIs (Hf zo po P) 102 27 .none .none (.ref 101) :=
  ⟨fn_of (by kernel_rfl) (by kernel_rfl), fn_of (by kernel_rfl) (by kernel_rfl), fn_of (by kernel_rfl) (by kernel_rfl), fn_of (by kernel_rfl) (by kernel_rfl),
   fn_of (by kernel_rfl) (by kernel_rfl), fn_of (by kernel_rfl) (by kernel_rfl), fn_of (by kernel_rfl) (by kernel_rfl), fn_of (by kernel_rfl) (by kernel_rfl)⟩
theorem hf_tab : tabChk (seqAt (Hf zo po P) 64) = true := by kernel_rfl
theorem hf_list : (Hf zo po P).get? 64 = some ⟨.type "list", none, .seq (seqAt (Hf zo po P) 64) 0, #[]⟩ := by kernel_rfl
theorem hf_tx : TX (Hf zo po P) where
  gd := ⟨⟨_, .of_isNs (hf_isG P), List.map_inj_left.mp (hf_gl P), List.map_inj_left.mp (hf_gb P)⟩, ⟨_, .of_isNs (hf_isB P), List.map_inj_left.mp (hf_bb P)⟩, .of_ok (hf_lim P), fun p hp => nomatch hp⟩
  fI := (hf_fns P).1
  fB := (hf_fns P).2.1
  fU := (hf_fns P).2.2.1
  fE := (hf_fns P).2.2.2.1
  fD := (hf_fns P).2.2.2.2.1
  fM := (hf_fns P).2.2.2.2.2.1
  fP := (hf_fns P).2.2.2.2.2.2.1
  d15 := ⟨189, by kernel_rfl⟩
  d16 := ⟨PyData.keyHash P ⟨⟨[107, 101, 121]⟩⟩, 190, 1, by kernel_rfl⟩
  d24 := ⟨202, by kernel_rfl⟩
  d25 := ⟨PyData.keyHash P ⟨⟨[107, 101, 121]⟩⟩, 203, 1, by kernel_rfl⟩
  d68 := ⟨1784, 218, by kernel_rfl⟩
  d76 := ⟨218, by kernel_rfl⟩
  tab := ⟨_, list_of (hf_list P), tab_of (hf_tab P)⟩
end

/-! joined -/
theorem law_row (said : PySem.Challenge.rw_kl0336_01.row.wellSaid = true) : PySem.Challenge.rw_kl0336_01.row.Holds := by
  refine holds_open (q := qv po) (loose := lo) (Xt := fun _ => true) (XP := fun _ _ => True) (Yf := fun s => s.heap) (Ya := fun w => Hf zo po w.params) (YP := fun w h => ∀ b o, (Hf zo po w.params).get? b = some o → h.get? b = some o) (N := 40000)
    left_top ?hY ?hYk (fun _ _ => trivial) (fun _ _ _ _ _ => trivial) (by rfl) (by rfl) (by rfl) (fun s _ => recFacts_nil rfl) (by rfl) said (by decide +kernel) ⟨rfl, rfl, rfl, rfl, rfl, by decide +kernel⟩ ?hw ?hc
  case hY => intro w s e b o h; rw [e]; exact h
  case hYk => intro w h h' k kk b o e; exact kk _ _ (k _ _ e)
  case hw => w_witness2
  case hc =>
    intro w s₀ s₁ mg mb G Y a o pm cd doc dV kV ho hd hcd hD hmg hg args vals as hpre hlay hrd hwl hlo
    have T : TX s₁.heap := (hf_tx w.params).keeps Y
    have F := (hf_fns w.params).2.2.2.2.2.2.2.keeps Y
    have e1 : mg = s₁.heap.nsMap mainGlobals := Heap.Ns.eq_nsMap G.T.g
    have e2 : (Hf zo po w.params).nsMap mainGlobals = s₁.heap.nsMap mainGlobals := Heap.Ns.eq_nsMap ((Heap.Ns.of_isNs (hf_isG w.params)).keeps Y)
    have e3 : mg ("law" : Str) = some (.ref a) := hmg
    rw [e1, ← e2, hf_law] at e3
    obtain rfl : (102 : Nat) = a := by simpa using e3
    wrow_args hpre hlay hrd hwl hlo
    rename IntsAre _ _ => hi
    rename Heap.IsList _ _ _ => hl
    refine enter_call (law_call ⟨rfl, by decide +kernel, by decide +kernel⟩ T F hl hi (by omega) fun s' k => ?_)
    refine GoodW.toG ⟨.inl ⟨.bool true, .bool true, [], rfl, fun _ => rfl, .bool true, ?_, fun _ => ⟨.nil, fun _ h => nomatch h⟩⟩, k.keep, k.os, k.gens.trans hg⟩
    kernel_rfl

end Mine

theorem PySem.Challenge.cw_kl0336_01_holds : PySem.Challenge.rw_kl0336_01.Holds := by
  o_law
  exact Mine.law_row (by assumption)
