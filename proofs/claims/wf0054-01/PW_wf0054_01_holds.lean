import PyProof.Rows.All
import Wide.All
import OpenK.AllK
import Wide.FinOn
import Lean
import PySem.Challenge.RW_wf0054_01
set_option Elab.async false
set_option maxRecDepth 100000
namespace Mine
/-- how the bracket machine stands: the open brackets (the newest first; a bracket's index, the depth within it), the counts, the sum of the boxes -/
structure MS where
  st : List (Nat × Nat)
  cs : List Int
  mv : Int
noncomputable def bumpS (i : Nat) : List (Nat × Nat) → List (Nat × Nat)
  | [] => []
  | (s, j) :: r => (s, max j i) :: r
/-- a pair counted -/
noncomputable def tally (cs : List Int) (d : Nat) : List Int := (if cs.length = d then cs ++ [0] else cs).set d ((if cs.length = d then cs ++ [0] else cs).getD d 0 + 1)
noncomputable def mvStep (x k : Nat) (σ : MS) : MS :=
  if x.testBit (k % 32) then ⟨(k, 0) :: σ.st, σ.cs, σ.mv⟩
  else match σ.st with
    | [] => σ
    | (s, i) :: r => if s < 32 then ⟨bumpS (i + 1) r, tally σ.cs i, σ.mv + 2 ^ (k % 32)⟩ else ⟨bumpS (i + 1) r, σ.cs, σ.mv⟩
noncomputable def mvRun (x : Nat) : Nat → MS
  | 0 => ⟨[], [], 0⟩
  | k + 1 => mvStep x k (mvRun x k)
/-- the counts reach as far as they are asked -/
noncomputable def MvOk (x : Nat) : Prop := ∀ k s i r, k < 64 → x.testBit (k % 32) = false → (mvRun x k).st = (s, i) :: r → s < 32 → i ≤ (mvRun x k).cs.length
noncomputable def mvF (x : Nat) : List Int := (mvRun x 64).mv :: (mvRun x 64).cs
structure MvB (k : Nat) (σ : MS) : Prop where
  st : σ.st.length ≤ k
  cs : σ.cs.length ≤ k
  each : ∀ p ∈ σ.st, p.1 < k ∧ p.2 ≤ k
theorem bump_len (i : Nat) (r : List (Nat × Nat)) : (bumpS i r).length = r.length := by
  cases r <;> rfl
theorem bump_mem {i k : Nat} {r : List (Nat × Nat)} (h : ∀ p ∈ r, p.1 < k ∧ p.2 ≤ k) (hi : i ≤ k + 1) : ∀ p ∈ bumpS i r, p.1 < k + 1 ∧ p.2 ≤ k + 1 := by
  cases r with
  | nil => intro p hp; cases hp
  | cons q r =>
    intro p hp
    rcases List.mem_cons.mp hp with rfl | hp
    · have := h q (.head _)
      show q.1 < k + 1 ∧ max q.2 i ≤ k + 1
      omega
    · have := h p (.tail _ hp)
      omega
theorem tally_len (cs : List Int) (d : Nat) : (tally cs d).length ≤ cs.length + 1 := by
  unfold tally
  rw [List.length_set]
  split
  · simp
  · omega
theorem mv_step_b {x k : Nat} {σ : MS} (h : MvB k σ) : MvB (k + 1) (mvStep x k σ) := by
  obtain ⟨h1, h2, h3⟩ := h
  unfold mvStep
  split
  · refine ⟨by simpa using h1, by simp; omega, ?_⟩
    intro p hp
    rcases List.mem_cons.mp hp with rfl | hp
    · exact ⟨Nat.lt_succ_self _, Nat.zero_le _⟩
    · have := h3 p hp; omega
  · split
    · exact ⟨by omega, by omega, fun p hp => by have := h3 p hp; omega⟩
    · rename_i s i r he
      rw [he] at h1 h3
      simp only [List.length_cons] at h1
      have hr : ∀ p ∈ bumpS (i + 1) r, p.1 < k + 1 ∧ p.2 ≤ k + 1 := bump_mem (fun p hp => h3 p (.tail _ hp)) (by have := h3 _ (.head _); omega)
      split
      · exact ⟨by simp [bump_len]; omega, Nat.le_trans (tally_len _ _) (by omega), hr⟩
      · exact ⟨by simp [bump_len]; omega, by simp; omega, hr⟩
theorem mv_run_b (x : Nat) : ∀ k, MvB k (mvRun x k)
  | 0 => ⟨Nat.le_refl _, Nat.le_refl _, fun p hp => by cases hp⟩
  | k + 1 => mv_step_b (mv_run_b x k)
theorem mv_on {x k : Nat} (h : x.testBit (k % 32) = true) : mvRun x (k + 1) = ⟨(k, 0) :: (mvRun x k).st, (mvRun x k).cs, (mvRun x k).mv⟩ := by
  show mvStep x k _ = _
  unfold mvStep
  rw [if_pos h]
theorem mv_nil {x k : Nat} (h : x.testBit (k % 32) = false) (e : (mvRun x k).st = []) : mvRun x (k + 1) = mvRun x k := by
  show mvStep x k _ = _
  unfold mvStep
  rw [if_neg (by rw [h]; exact Bool.false_ne_true), e]
theorem mv_pop {x k s i : Nat} {r : List (Nat × Nat)} (h : x.testBit (k % 32) = false) (e : (mvRun x k).st = (s, i) :: r) :
    mvRun x (k + 1) = if s < 32 then ⟨bumpS (i + 1) r, tally (mvRun x k).cs i, (mvRun x k).mv + 2 ^ (k % 32)⟩ else ⟨bumpS (i + 1) r, (mvRun x k).cs, (mvRun x k).mv⟩ := by
  show mvStep x k _ = _
  unfold mvStep
  rw [if_neg (by rw [h]; exact Bool.false_ne_true), e]
end Mine
namespace Mine
namespace Ring
/-- the next one, or what comes behind -/
noncomputable def hd : List Bool → Bool → Bool
  | [], n => n
  | x :: _, _ => x
/-- the last one, or what came ahead -/
noncomputable def lt : Bool → List Bool → Bool
  | p, [] => p
  | _, x :: r => lt x r
noncomputable def keep (p x n : Bool) : List Bool := if (p && !x) || (x && !n) then [] else [x]
/-- a ring's piece without its falls; p stands ahead, n behind -/
noncomputable def thin (p : Bool) : List Bool → Bool → List Bool
  | [], _ => []
  | x :: r, n => keep p x (hd r n) ++ thin x r n
noncomputable def falls (p : Bool) : List Bool → Nat
  | [] => 0
  | x :: r => (if p && !x then 1 else 0) + falls x r
noncomputable def cyc (r : List Bool) : List Bool := thin (lt false r) r (hd r false)
noncomputable def cnt (r : List Bool) : Nat := falls (lt false r) r
theorem hd_app (u v : List Bool) (n : Bool) : hd (u ++ v) n = hd u (hd v n) := by cases u <;> rfl
theorem lt_app (p : Bool) (u v : List Bool) : lt p (u ++ v) = lt (lt p u) v := by
  induction u generalizing p with
  | nil => rfl
  | cons x r ih => exact ih x
theorem lt_ne (p q : Bool) {u : List Bool} (h : u ≠ []) : lt p u = lt q u := by
  cases u with
  | nil => exact absurd rfl h
  | cons x r => rfl
theorem hd_ne (p q : Bool) {u : List Bool} (h : u ≠ []) : hd u p = hd u q := by
  cases u with
  | nil => exact absurd rfl h
  | cons x r => rfl
theorem thin_app (p n : Bool) (u v : List Bool) : thin p (u ++ v) n = thin p u (hd v n) ++ thin (lt p u) v n := by
  induction u generalizing p with
  | nil => rfl
  | cons x r ih =>
    show keep p x (hd (r ++ v) n) ++ thin x (r ++ v) n = _
    rw [ih, hd_app, ← List.append_assoc]
    rfl
theorem falls_app (p : Bool) (u v : List Bool) : falls p (u ++ v) = falls p u + falls (lt p u) v := by
  induction u generalizing p with
  | nil => simp [falls, lt]
  | cons x r ih =>
    show _ + falls x (r ++ v) = _ + falls x r + falls (lt x r) v
    rw [ih, Nat.add_assoc]
/-- turned to another place -/
noncomputable def Rot (a b : List Bool) : Prop := ∃ u v, a = u ++ v ∧ b = v ++ u
theorem Rot.refl (a : List Bool) : Rot a a := ⟨a, [], (List.append_nil a).symm, rfl⟩
theorem Rot.cyc {a b : List Bool} (h : Rot a b) : Rot (cyc a) (cyc b) := by
  obtain ⟨u, v, rfl, rfl⟩ := h
  by_cases hu : u = []
  · subst hu; rw [List.append_nil]; exact Rot.refl _
  by_cases hv : v = []
  · subst hv; rw [List.append_nil]; exact Rot.refl _
  refine ⟨thin (lt false v) u (hd v false), thin (lt false u) v (hd u false), ?_, ?_⟩
  · unfold Ring.cyc
    rw [thin_app, lt_app, hd_app, hd_ne _ false hv, hd_ne _ false hu, lt_ne _ false hv, lt_ne _ false hu]
  · unfold Ring.cyc
    rw [thin_app, lt_app, hd_app, hd_ne _ false hu, hd_ne _ false hv, lt_ne _ false hu, lt_ne _ false hv]
theorem Rot.cnt {a b : List Bool} (h : Rot a b) : cnt a = cnt b := by
  obtain ⟨u, v, rfl, rfl⟩ := h
  by_cases hu : u = []
  · subst hu; rw [List.append_nil]; rfl
  by_cases hv : v = []
  · subst hv; rw [List.append_nil]; rfl
  unfold Ring.cnt
  rw [falls_app, falls_app, lt_app, lt_app, lt_ne (lt false u) false hv, lt_ne (lt false v) false hu, lt_ne (lt false u) false hv, Nat.add_comm]
theorem Rot.any {a b : List Bool} (h : Rot a b) : a.any id = b.any id := by
  obtain ⟨u, v, rfl, rfl⟩ := h
  rw [List.any_append, List.any_append, Bool.or_comm]
/-- the rounds' counts -/
noncomputable def sol : Nat → List Bool → List Nat
  | 0, _ => []
  | f + 1, r => if r.any id = true then cnt r :: sol f (cyc r) else []
theorem Rot.sol (f : Nat) {a b : List Bool} (h : Rot a b) : sol f a = sol f b := by
  induction f generalizing a b with
  | zero => rfl
  | succ f ih =>
    unfold Ring.sol
    rw [h.any, h.cnt, ih h.cyc]
/-- the ring by its like neighbours -/
noncomputable def pair (p : Bool) : List Bool → List Bool
  | [] => []
  | x :: r => (if p == x then [x] else []) ++ pair x r
noncomputable def both (p n : Bool) : List Bool := if p && n then [true] else []
theorem thin_pair (p n : Bool) (r : List Bool) : both p (hd r n) ++ thin p r n = pair p r ++ both (lt p r) n := by
  induction r generalizing p with
  | nil => simp [thin, pair, hd, lt]
  | cons x r ih =>
    have := ih x
    show both p x ++ (keep p x (hd r n) ++ thin x r n) = (_ ++ pair x r) ++ both (lt x r) n
    rw [List.append_assoc, ← this]
    cases p <;> cases x <;> simp [both, keep] <;> cases hd r n <;> simp
noncomputable def pc (r : List Bool) : List Bool := pair (lt false r) r
theorem cyc_pc (r : List Bool) : Rot (cyc r) (pc r) := by
  by_cases hr : r = []
  · subst hr; exact Rot.refl _
  have h := thin_pair (lt false r) (hd r false) r
  rw [hd_ne (hd r false) false hr, lt_ne (lt false r) false hr] at h
  show Rot (thin _ _ _) (pair _ _)
  generalize thin (lt false r) r (hd r false) = a at *
  generalize pair (lt false r) r = b at *
  unfold both at h
  split at h
  · cases b with
    | nil =>
      have := congrArg List.length h
      simp at this
      subst this
      exact Rot.refl _
    | cons x s =>
      simp at h
      obtain ⟨h1, h2⟩ := h
      refine ⟨s, [true], h2, ?_⟩
      rw [h1]; rfl
  · simp at h
    subst h
    exact Rot.refl _
noncomputable def neg (r : List Bool) : List Bool := r.map (!·)
theorem lt_neg (p : Bool) (r : List Bool) : lt (!p) (neg r) = !(lt p r) := by
  induction r generalizing p with
  | nil => rfl
  | cons x r ih => exact ih x
theorem pair_neg (p : Bool) (r : List Bool) : pair (!p) (neg r) = neg (pair p r) := by
  induction r generalizing p with
  | nil => rfl
  | cons x r ih =>
    show (if ((!p) == (!x)) = true then [!x] else []) ++ pair (!x) (neg r) = neg (_ ++ pair x r)
    rw [ih]
    cases p <;> cases x <;> simp [neg]
theorem pc_neg (r : List Bool) : pc (neg r) = neg (pc r) := by
  by_cases hr : r = []
  · subst hr; rfl
  have hn : neg r ≠ [] := by intro e; exact hr (by simpa [neg] using e)
  unfold pc
  rw [← pair_neg, ← lt_neg, lt_ne (!false) false hn]
theorem Rot.neg {a b : List Bool} (h : Rot a b) : Rot (neg a) (neg b) := by
  obtain ⟨u, v, rfl, rfl⟩ := h
  exact ⟨Ring.neg u, Ring.neg v, by simp [Ring.neg], by simp [Ring.neg]⟩
theorem Rot.symm {a b : List Bool} (h : Rot a b) : Rot b a := by
  obtain ⟨u, v, rfl, rfl⟩ := h
  exact ⟨v, u, rfl, rfl⟩
/-- the falls and the rises of a ring, up to its ends -/
theorem falls_neg (p : Bool) (r : List Bool) : falls p r + (lt p r).toNat = falls (!p) (neg r) + p.toNat := by
  induction r generalizing p with
  | nil => simp [falls, neg, lt]
  | cons x r ih =>
    have := ih x
    show (_ + falls x r) + (lt x r).toNat = ((if ((!p) && !(!x)) = true then 1 else 0) + falls (!x) (neg r)) + p.toNat
    cases p <;> cases x <;> simp at * <;> omega
theorem cnt_neg (r : List Bool) : cnt (neg r) = cnt r := by
  by_cases hr : r = []
  · subst hr; rfl
  have hn : neg r ≠ [] := by intro e; exact hr (by simpa [neg] using e)
  have h := falls_neg (lt false r) r
  rw [lt_ne (lt false r) false hr] at h
  unfold cnt
  rw [← lt_ne (!false) false hn, lt_neg]
  omega
/-- a carrier that holds h: what it leaves, and what it holds then -/
noncomputable def car : Nat → List Bool → List Bool
  | _, [] => []
  | h, true :: r => false :: car (h + 1) r
  | 0, false :: r => false :: car 0 r
  | h + 1, false :: r => true :: car h r
noncomputable def run : Nat → List Bool → Nat
  | h, [] => h
  | h, true :: r => run (h + 1) r
  | 0, false :: r => run 0 r
  | h + 1, false :: r => run h r
/-- without each fall, straight -/
noncomputable def e10 : List Bool → List Bool
  | [] => []
  | true :: false :: r => e10 r
  | x :: r => x :: e10 r
noncomputable def c10 : List Bool → Nat
  | [] => 0
  | true :: false :: r => c10 r + 1
  | _ :: r => c10 r
noncomputable def e01 (r : List Bool) : List Bool := neg (e10 (neg r))
theorem run_app (h : Nat) (u v : List Bool) : run h (u ++ v) = run (run h u) v := by
  induction u generalizing h with
  | nil => rfl
  | cons x r ih => cases x <;> cases h <;> exact ih _
theorem car_app (h : Nat) (u v : List Bool) : car h (u ++ v) = car h u ++ car (run h u) v := by
  induction u generalizing h with
  | nil => rfl
  | cons x r ih => cases x <;> cases h <;> simp [car, run, ih]
theorem run_e10 (h : Nat) (r : List Bool) : run h (e10 r) = run h r := by
  fun_induction e10 r generalizing h with
  | case1 => rfl
  | case2 r ih => rw [ih]; rfl
  | case3 x r hn ih => cases x <;> cases h <;> exact ih _
theorem thin_e10 (p : Bool) (r : List Bool) (h : p = true → hd r true = true) : thin p r true = e10 r := by
  fun_induction e10 r generalizing p with
  | case1 => rfl
  | case2 r ih =>
    show keep p true false ++ (keep true false (hd r true) ++ thin false r true) = _
    rw [ih false (by simp)]
    simp [keep]
  | case3 x r hn ih =>
    show keep p x (hd r true) ++ thin x r true = x :: e10 r
    cases x with
    | false =>
      rw [ih false (by simp)]
      cases p
      · simp [keep]
      · simp [hd] at h
    | true =>
      cases r with
      | nil => simp [keep, hd, thin, e10]
      | cons y r =>
        cases y with
        | false => exact absurd rfl (hn r rfl)
        | true =>
          rw [ih true (fun _ => rfl)]
          simp [keep, hd]
theorem falls_c10 (p : Bool) (r : List Bool) (h : p = true → hd r true = true) : falls p r = c10 r := by
  fun_induction c10 r generalizing p with
  | case1 => rfl
  | case2 r ih =>
    show _ + (_ + falls false r) = _
    rw [ih false (by simp)]
    simp; omega
  | case3 x r hn ih =>
    show _ + falls x r = c10 r
    cases x with
    | false =>
      rw [ih false (by simp)]
      cases p
      · simp
      · simp [hd] at h
    | true =>
      cases r with
      | nil => simp [falls, c10]
      | cons y r =>
        cases y with
        | false => exact absurd rfl (hn r rfl)
        | true =>
          rw [ih true (fun _ => rfl)]
          simp
/-- nothing ends on a ball -/
theorem thin_last (p n m : Bool) (r : List Bool) (h : lt p r = false) (hr : r ≠ []) : thin p r n = thin p r m := by
  induction r generalizing p with
  | nil => exact absurd rfl hr
  | cons x r ih =>
    show keep p x (hd r n) ++ thin x r n = keep p x (hd r m) ++ thin x r m
    cases r with
    | nil =>
      have : x = false := h
      subst this
      simp [keep, hd, thin]
    | cons y r =>
      rw [ih x h (by simp)]
      rfl
theorem run_last {h : Nat} {r : List Bool} (p : Bool) (hp : p = true → 0 < h) (e : run h r = 0) : lt p r = false := by
  induction r generalizing p h with
  | nil =>
    have : h = 0 := e
    subst this
    cases p
    · rfl
    · exact absurd (hp rfl) (by omega)
  | cons x r ih =>
    cases x with
    | false => cases h <;> exact ih false (by simp) e
    | true => exact ih (h := h + 1) true (by simp) e
theorem calm_cyc {r : List Bool} (e : run 0 r = 0) : cyc r = e10 r ∧ cnt r = c10 r := by
  have hl : lt false r = false := run_last false (by simp) e
  refine ⟨?_, ?_⟩
  · unfold cyc
    rw [hl]
    by_cases hr : r = []
    · subst hr; rfl
    rw [thin_last false _ true r hl hr]
    exact thin_e10 _ _ (by simp)
  · unfold cnt
    rw [hl]
    exact falls_c10 _ _ (by simp)
theorem head_cyc {r : List Bool} (e : hd r true = true) : cyc r = e10 r ∧ cnt r = c10 r := by
  by_cases hr : r = []
  · subst hr; exact ⟨rfl, rfl⟩
  refine ⟨?_, ?_⟩
  · unfold cyc
    rw [hd_ne false true hr, e]
    exact thin_e10 _ _ (fun _ => e)
  · exact falls_c10 _ _ (fun _ => e)
theorem car_head (r : List Bool) : hd (car 0 r) false = false := by
  cases r with
  | nil => rfl
  | cons x r => cases x <;> rfl
/-- what the carrier leaves loses its rises as the ring loses its falls -/
theorem e01_car (h : Nat) (r : List Bool) : e01 (car h r) = car h (e10 r) := by
  fun_induction e10 r generalizing h with
  | case1 => rfl
  | case2 r ih =>
    show neg (e10 (true :: false :: neg (car h r))) = _
    exact ih h
  | case3 x r hn ih =>
    cases x with
    | false =>
      cases h with
      | zero =>
        have := ih 0
        show neg (e10 (true :: neg (car 0 r))) = false :: car 0 (e10 r)
        rw [← this]
        have hh := car_head r
        cases q : car 0 r with
        | nil => rfl
        | cons y t =>
          rw [q] at hh
          have : y = false := hh
          subst this
          rfl
      | succ h =>
        show neg (e10 (false :: neg (car h r))) = true :: car h (e10 r)
        rw [← ih h]
        rfl
    | true =>
      cases r with
      | nil => rfl
      | cons y r =>
        cases y with
        | false => exact absurd rfl (hn r rfl)
        | true =>
          show neg (e10 (true :: true :: neg (car (h + 1 + 1) r))) = false :: car (h + 1) (e10 (true :: r))
          rw [← ih (h + 1)]
          rfl
theorem c01_car (h : Nat) (r : List Bool) : c10 (neg (car h r)) = c10 r := by
  fun_induction c10 r generalizing h with
  | case1 => rfl
  | case2 r ih =>
    show c10 (true :: false :: neg (car h r)) = _
    show c10 (neg (car h r)) + 1 = _
    rw [ih h]
  | case3 x r hn ih =>
    cases x with
    | false =>
      cases h with
      | zero =>
        have := ih 0
        show c10 (true :: neg (car 0 r)) = c10 r
        rw [← this]
        have hh := car_head r
        cases q : car 0 r with
        | nil => rfl
        | cons y t =>
          rw [q] at hh
          have : y = false := hh
          subst this
          rfl
      | succ h => exact ih h
    | true =>
      cases r with
      | nil => rfl
      | cons y r =>
        cases y with
        | false => exact absurd rfl (hn r rfl)
        | true =>
          have := ih (h + 1)
          exact this
theorem neg_neg (r : List Bool) : neg (neg r) = r := by
  induction r with
  | nil => rfl
  | cons x r ih =>
    show (!(!x)) :: neg (neg r) = x :: r
    rw [ih, Bool.not_not]
theorem car_any {h : Nat} {r : List Bool} (e : run h r = 0) : (car h r).any id = (decide (0 < h) || r.any id) := by
  induction r generalizing h with
  | nil =>
    have : h = 0 := e
    subst this
    rfl
  | cons x r ih =>
    cases x with
    | false =>
      cases h with
      | zero =>
        have := ih (h := 0) e
        simpa [car] using this
      | succ h => simp [car]
    | true =>
      have := ih (h := h + 1) e
      simp [car] at this ⊢
      exact this
/-- no stroke makes or breaks a soliton -/
theorem sol_car (f : Nat) {r : List Bool} (e : run 0 r = 0) : sol f (car 0 r) = sol f r := by
  induction f generalizing r with
  | zero => rfl
  | succ f ih =>
    obtain ⟨h1, h2⟩ := calm_cyc e
    have hh : hd (neg (car 0 r)) true = true := by
      have := car_head r
      cases q : car 0 r with
      | nil => rfl
      | cons y t =>
        rw [q] at this
        have : y = false := this
        subst this
        rfl
    obtain ⟨h3, h4⟩ := head_cyc hh
    have e1 : cnt (car 0 r) = cnt r := by rw [← cnt_neg, h4, c01_car, h2]
    have e2 : sol f (cyc (car 0 r)) = sol f (cyc r) := by
      rw [Rot.sol f (cyc_pc _)]
      have : pc (car 0 r) = neg (pc (neg (car 0 r))) := by rw [pc_neg, neg_neg]
      rw [this, Rot.sol f (Rot.neg (Rot.symm (cyc_pc _))), h3]
      show sol f (e01 (car 0 r)) = _
      rw [e01_car, ih (by rw [run_e10]; exact e), h1]
    unfold sol
    rw [e1, e2, car_any e]
    simp
/-- a ring with no more balls than empty boxes has a place from which the carrier comes home empty -/
noncomputable def bal : List Bool → Int
  | [] => 0
  | true :: r => 1 + bal r
  | false :: r => bal r - 1
theorem bal_app (u v : List Bool) : bal (u ++ v) = bal u + bal v := by
  induction u with
  | nil => simp [bal]
  | cons x r ih => cases x <;> simp [bal, ih] <;> omega
theorem low_point (w : List Bool) : ∃ u v, w = u ++ v ∧ bal u ≤ 0 ∧ 0 ≤ bal v ∧ (∀ h : Nat, (run h u : Int) = max (h + bal u) 0) ∧ (∀ h : Nat, (run h v : Int) = h + bal v) := by
  suffices H : ∀ (r u v : List Bool), bal u ≤ 0 → 0 ≤ bal v → (∀ h : Nat, (run h u : Int) = max (h + bal u) 0) → (∀ h : Nat, (run h v : Int) = h + bal v) →
      ∃ u' v', u ++ v ++ r = u' ++ v' ∧ bal u' ≤ 0 ∧ 0 ≤ bal v' ∧ (∀ h : Nat, (run h u' : Int) = max (h + bal u') 0) ∧ (∀ h : Nat, (run h v' : Int) = h + bal v') by
    have := H w [] [] (by simp [bal]) (by simp [bal]) (by intro h; simp [run, bal]) (by intro h; simp [run, bal])
    simpa using this
  intro r
  induction r with
  | nil => intro u v a b c d; exact ⟨u, v, by simp, a, b, c, d⟩
  | cons x r ih =>
    intro u v a b c d
    cases x with
    | true =>
      have := ih u (v ++ [true]) a (by rw [bal_app]; simp [bal]; omega) c (by
        intro h
        rw [run_app, bal_app]
        have := d h
        simp [run, bal]
        omega)
      simpa using this
    | false =>
      by_cases hv : 0 < bal v
      · have := ih u (v ++ [false]) a (by rw [bal_app]; simp [bal]; omega) c (by
          intro h
          rw [run_app, bal_app]
          have := d h
          cases q : run h v with
          | zero => rw [q] at this; omega
          | succ k => rw [q] at this; simp [run, bal]; omega)
        simpa using this
      · have := ih (u ++ v ++ [false]) [] (by rw [bal_app, bal_app]; simp [bal]; omega) (by simp [bal]) (by
          intro h
          rw [run_app, run_app, bal_app, bal_app]
          have h1 := c h
          have h2 := d (run h u)
          cases q : run (run h u) v with
          | zero => rw [q] at h2; simp [run, bal]; omega
          | succ k => rw [q] at h2; simp [run, bal]; omega) (by intro h; simp [run, bal])
        simpa using this
theorem calm_point {w : List Bool} (hw : bal w ≤ 0) : ∃ u v, w = u ++ v ∧ run 0 u = 0 ∧ run 0 (v ++ u) = 0 := by
  obtain ⟨u, v, rfl, a, b, c, d⟩ := low_point w
  rw [bal_app] at hw
  refine ⟨u, v, rfl, ?_, ?_⟩
  · have := c 0; omega
  · rw [run_app]
    have h1 := d 0
    have h2 := c (run 0 v)
    omega
end Ring
end Mine
namespace Mine
namespace Ring
/-- one sign of the bracket machine, by its bit -/
noncomputable def mvB (b : Bool) (k : Nat) (σ : MS) : MS :=
  if b then ⟨(k, 0) :: σ.st, σ.cs, σ.mv⟩
  else match σ.st with
    | [] => σ
    | (s, i) :: r => if s < 32 then ⟨bumpS (i + 1) r, tally σ.cs i, σ.mv + 2 ^ (k % 32)⟩ else ⟨bumpS (i + 1) r, σ.cs, σ.mv⟩
noncomputable def mrun : Nat → MS → List Bool → MS
  | _, σ, [] => σ
  | k, σ, b :: r => mrun (k + 1) (mvB b k σ) r
noncomputable def okRun : Nat → MS → List Bool → Prop
  | _, _, [] => True
  | k, σ, b :: r => (b = false → ∀ s i t, σ.st = (s, i) :: t → s < 32 → i ≤ σ.cs.length) ∧ okRun (k + 1) (mvB b k σ) r
theorem mrun_app (k : Nat) (σ : MS) (u v : List Bool) : mrun k σ (u ++ v) = mrun (k + u.length) (mrun k σ u) v := by
  induction u generalizing k σ with
  | nil => rfl
  | cons b r ih =>
    show mrun (k + 1) (mvB b k σ) (r ++ v) = mrun (k + (r.length + 1)) (mrun (k + 1) (mvB b k σ) r) v
    rw [ih, Nat.add_assoc, Nat.add_comm 1]
theorem okRun_app (k : Nat) (σ : MS) (u v : List Bool) : okRun k σ (u ++ v) ↔ okRun k σ u ∧ okRun (k + u.length) (mrun k σ u) v := by
  induction u generalizing k σ with
  | nil => simp [okRun, mrun]
  | cons b r ih =>
    show (_ ∧ okRun (k + 1) (mvB b k σ) (r ++ v)) ↔ (_ ∧ okRun (k + 1) (mvB b k σ) r) ∧ okRun (k + (r.length + 1)) (mrun (k + 1) (mvB b k σ) r) v
    rw [ih, Nat.add_assoc, Nat.add_comm 1, and_assoc]
/-- what comes shut: whether counted, how deep, at which box -/
noncomputable def bmp (i : Nat) : List (Bool × Nat) → List (Bool × Nat)
  | [] => []
  | (g, j) :: r => (g, max j i) :: r
noncomputable def evs (f : Bool) : Nat → List (Bool × Nat) → List Bool → List (Bool × Nat × Nat)
  | _, _, [] => []
  | p, st, true :: r => evs f (p + 1) ((f, 0) :: st) r
  | p, [], false :: r => evs f (p + 1) [] r
  | p, (g, i) :: st, false :: r => (g, i, p) :: evs f (p + 1) (bmp (i + 1) st) r
noncomputable def fin (f : Bool) : List (Bool × Nat) → List Bool → List (Bool × Nat)
  | st, [] => st
  | st, true :: r => fin f ((f, 0) :: st) r
  | [], false :: r => fin f [] r
  | (_, i) :: st, false :: r => fin f (bmp (i + 1) st) r
noncomputable def wsum (w : Nat → Nat → Int) : List (Bool × Nat × Nat) → Int
  | [] => 0
  | (g, i, p) :: r => (if g then w i p else 0) + wsum w r
noncomputable def wun (w : Nat → Nat → Int) : List (Bool × Nat × Nat) → Int
  | [] => 0
  | (g, i, p) :: r => (if g then 0 else w i p) + wun w r
noncomputable def wall (w : Nat → Nat → Int) : List (Bool × Nat × Nat) → Int
  | [] => 0
  | (_, i, p) :: r => w i p + wall w r
theorem wall_split (w : Nat → Nat → Int) (l : List (Bool × Nat × Nat)) : wall w l = wsum w l + wun w l := by
  induction l with
  | nil => rfl
  | cons e r ih =>
    obtain ⟨g, i, p⟩ := e
    cases g <;> simp [wall, wsum, wun, ih] <;> omega
theorem wall_app (w : Nat → Nat → Int) (a b : List (Bool × Nat × Nat)) : wall w (a ++ b) = wall w a + wall w b := by
  induction a with
  | nil => simp [wall]
  | cons e r ih => simp [wall, ih, Int.add_assoc]
noncomputable def fl (st : List (Nat × Nat)) : List (Bool × Nat) := st.map fun p => (decide (p.1 < 32), p.2)
theorem fl_bump (i : Nat) (st : List (Nat × Nat)) : fl (bumpS i st) = bmp i (fl st) := by cases st <;> rfl
noncomputable def cw (d : Nat) : Nat → Nat → Int := fun i _ => if i = d then 1 else 0
noncomputable def pw : Nat → Nat → Int := fun _ p => 2 ^ p
noncomputable def Pos (cs : List Int) : Prop := ∀ c ∈ cs, 0 < c
noncomputable def Inv (σ : MS) : Prop := ∀ q ∈ σ.st, q.2 ≤ σ.cs.length
theorem getD_app0 (cs : List Int) (d : Nat) : (cs ++ [0]).getD d 0 = cs.getD d 0 := by
  rw [List.getD_eq_getElem?_getD, List.getD_eq_getElem?_getD]
  rcases Nat.lt_trichotomy d cs.length with h | h | h
  · rw [List.getElem?_append_left h]
  · subst h
    rw [List.getElem?_append_right (Nat.le_refl _)]
    simp
  · rw [List.getElem?_append_right (by omega), List.getElem?_eq_none (by simp; omega), List.getElem?_eq_none (by omega)]
theorem tally_getD {cs : List Int} {d : Nat} (h : d ≤ cs.length) (e : Nat) : (tally cs d).getD e 0 = cs.getD e 0 + cw e d 0 := by
  have key : ∀ c : List Int, d < c.length → (c.set d (c.getD d 0 + 1)).getD e 0 = c.getD e 0 + cw e d 0 := by
    intro c hc
    rw [List.getD_eq_getElem?_getD, List.getElem?_set]
    unfold cw
    by_cases he : d = e
    · subst he
      simp [hc, List.getD_eq_getElem?_getD]
    · simp [he, List.getD_eq_getElem?_getD]
  unfold tally
  by_cases hd : cs.length = d
  · simp only [hd, if_true]
    rw [key _ (by simp; omega), getD_app0]
  · simp only [hd, if_false]
    exact key _ (by omega)
theorem tally_len' {cs : List Int} {d : Nat} (h : d ≤ cs.length) : d < (tally cs d).length ∧ cs.length ≤ (tally cs d).length := by
  unfold tally
  rw [List.length_set]
  split
  · simp; omega
  · omega
theorem tally_pos {cs : List Int} {d : Nat} (h : d ≤ cs.length) (hp : Pos cs) : Pos (tally cs d) := by
  intro c hc
  obtain ⟨e, he, rfl⟩ := List.getElem_of_mem hc
  have h1 := tally_getD h e
  have h2 : (tally cs d).getD e 0 = (tally cs d)[e] := by
    rw [List.getD_eq_getElem?_getD, List.getElem?_eq_getElem he]; rfl
  rw [← h2, h1]
  unfold cw
  by_cases hd : d = e
  · have : 0 ≤ cs.getD e 0 := by
      rw [List.getD_eq_getElem?_getD]
      cases q : cs[e]? with
      | none => exact Int.le_refl _
      | some x => exact Int.le_of_lt (hp x (List.mem_of_getElem? q))
    rw [if_pos hd]; omega
  · simp only [hd, if_false]
    have hlt : e < cs.length := by
      unfold tally at he
      rw [List.length_set] at he
      split at he
      · simp at he; omega
      · exact he
    rw [List.getD_eq_getElem?_getD, List.getElem?_eq_getElem hlt]
    have := hp _ (List.getElem_mem hlt)
    simpa using this
theorem inv_bump {c i : Nat} {r : List (Nat × Nat)} (h : ∀ q ∈ r, q.2 ≤ c) (hi : i ≤ c) : ∀ q ∈ bumpS i r, q.2 ≤ c := by
  cases r with
  | nil => intro q hq; cases hq
  | cons a r =>
    intro q hq
    rcases List.mem_cons.mp hq with rfl | hq
    · have := h a (.head _)
      show max a.2 i ≤ c
      omega
    · exact h q (.tail _ hq)
structure Told (f : Bool) (p k : Nat) (σ : MS) (l : List Bool) : Prop where
  cs : ∀ d, (mrun k σ l).cs.getD d 0 = σ.cs.getD d 0 + wsum (cw d) (evs f p (fl σ.st) l)
  mv : (mrun k σ l).mv = σ.mv + wsum pw (evs f p (fl σ.st) l)
  st : fl (mrun k σ l).st = fin f (fl σ.st) l
  inv : Inv (mrun k σ l)
  pos : Pos (mrun k σ l).cs
  ok : okRun k σ l
  up : σ.cs.length ≤ (mrun k σ l).cs.length
  in' : ∀ e ∈ evs f p (fl σ.st) l, e.2.1 < (mrun k σ l).cs.length
theorem told (f : Bool) : ∀ (l : List Bool) (p k : Nat) (σ : MS), (∀ j < l.length, decide (k + j < 32) = f) → (∀ j < l.length, (k + j) % 32 = p + j) → Inv σ → Pos σ.cs →
    (∀ e ∈ evs f p (fl σ.st) l, e.1 = false → e.2.1 < σ.cs.length) → Told f p k σ l := by
  intro l
  induction l with
  | nil =>
    intro p k σ _ _ hi hp _
    exact ⟨fun d => by simp [mrun, evs, wsum], by simp [mrun, evs, wsum], rfl, hi, hp, trivial, Nat.le_refl _, fun e he => by cases he⟩
  | cons b l ih =>
    intro p k σ h1 h2 hi hp hu
    have hk : decide (k < 32) = f := h1 0 (Nat.succ_pos _)
    have hm : k % 32 = p := h2 0 (Nat.succ_pos _)
    have h1' : ∀ j < l.length, decide (k + 1 + j < 32) = f := fun j hj => by
      have := h1 (j + 1) (Nat.succ_lt_succ hj)
      rwa [show k + (j + 1) = k + 1 + j by omega] at this
    have h2' : ∀ j < l.length, (k + 1 + j) % 32 = p + 1 + j := fun j hj => by
      have := h2 (j + 1) (Nat.succ_lt_succ hj)
      rw [show k + (j + 1) = k + 1 + j by omega] at this
      omega
    obtain ⟨st, cs, mv⟩ := σ
    cases b with
    | true =>
      have e : mvB true k ⟨st, cs, mv⟩ = ⟨(k, 0) :: st, cs, mv⟩ := rfl
      have e2 : fl ((k, 0) :: st) = (f, 0) :: fl st := by rw [← hk]; rfl
      have T := ih (p + 1) (k + 1) ⟨(k, 0) :: st, cs, mv⟩ h1' h2' (by
        intro q hq
        rcases List.mem_cons.mp hq with rfl | hq
        · exact Nat.zero_le _
        · exact hi q hq) hp (by
        intro x hx
        rw [e2] at hx
        exact hu x hx)
      obtain ⟨a1, a2, a3, a4, a5, a6, a7, a8⟩ := T
      rw [e2] at *
      exact ⟨a1, a2, a3, a4, a5, ⟨fun h => (by cases h), a6⟩, a7, a8⟩
    | false =>
      cases st with
      | nil =>
        have T := ih (p + 1) (k + 1) ⟨[], cs, mv⟩ h1' h2' hi hp hu
        obtain ⟨a1, a2, a3, a4, a5, a6, a7, a8⟩ := T
        exact ⟨a1, a2, a3, a4, a5, ⟨fun _ s i t h => (by cases h), a6⟩, a7, a8⟩
      | cons q r =>
        obtain ⟨s, i⟩ := q
        have hii : i ≤ cs.length := hi (s, i) (.head _)
        have hrr : ∀ q ∈ r, q.2 ≤ cs.length := fun q hq => hi q (.tail _ hq)
        by_cases hs : s < 32
        · have e : mvB false k ⟨(s, i) :: r, cs, mv⟩ = ⟨bumpS (i + 1) r, tally cs i, mv + 2 ^ (k % 32)⟩ := by
            show (if s < 32 then _ else _) = _
            rw [if_pos hs]
          have e3 : evs f p (fl ((s, i) :: r)) (false :: l) = (true, i, p) :: evs f (p + 1) (fl (bumpS (i + 1) r)) l := by
            rw [fl_bump]
            show (decide (s < 32), i, p) :: _ = _
            rw [decide_eq_true hs]
            rfl
          obtain ⟨t1, t2⟩ := tally_len' hii
          have T := ih (p + 1) (k + 1) ⟨bumpS (i + 1) r, tally cs i, mv + 2 ^ (k % 32)⟩ h1' h2' (inv_bump (fun q hq => Nat.le_trans (hrr q hq) t2) (by show i + 1 ≤ (tally cs i).length; omega)) (tally_pos hii hp) (by
            intro x hx hf
            exact Nat.lt_of_lt_of_le (hu x (by rw [e3]; exact .tail _ hx) hf) t2)
          obtain ⟨a1, a2, a3, a4, a5, a6, a7, a8⟩ := T
          refine ⟨fun d => ?_, ?_, ?_, ?_, ?_, ⟨fun _ s' i' t' h h' => ?_, ?_⟩, ?_, ?_⟩
          · show (mrun (k + 1) (mvB false k _) l).cs.getD d 0 = _
            rw [e, a1 d, e3, tally_getD hii]
            show _ = cs.getD d 0 + ((if true = true then cw d i p else 0) + _)
            simp [cw]; omega
          · show (mrun (k + 1) (mvB false k _) l).mv = _
            rw [e, a2, e3, hm]
            show _ = mv + ((if true = true then pw i p else 0) + _)
            simp [pw]; omega
          · show fl (mrun (k + 1) (mvB false k _) l).st = _
            rw [e, a3, fl_bump]
            rfl
          · show Inv (mrun (k + 1) (mvB false k _) l)
            rw [e]; exact a4
          · show Pos (mrun (k + 1) (mvB false k _) l).cs
            rw [e]; exact a5
          · cases h; exact hii
          · show okRun (k + 1) (mvB false k _) l
            rw [e]; exact a6
          · show cs.length ≤ (mrun (k + 1) (mvB false k _) l).cs.length
            rw [e]; exact Nat.le_trans t2 a7
          · intro x hx
            show x.2.1 < (mrun (k + 1) (mvB false k _) l).cs.length
            rw [e]
            rw [e3] at hx
            rcases List.mem_cons.mp hx with rfl | hx
            · exact Nat.lt_of_lt_of_le t1 a7
            · exact a8 x hx
        · have e : mvB false k ⟨(s, i) :: r, cs, mv⟩ = ⟨bumpS (i + 1) r, cs, mv⟩ := by
            show (if s < 32 then _ else _) = _
            rw [if_neg hs]
          have e3 : evs f p (fl ((s, i) :: r)) (false :: l) = (false, i, p) :: evs f (p + 1) (fl (bumpS (i + 1) r)) l := by
            rw [fl_bump]
            show (decide (s < 32), i, p) :: _ = _
            rw [decide_eq_false hs]
            rfl
          have hlt : i < cs.length := hu (false, i, p) (by rw [e3]; exact .head _) rfl
          have T := ih (p + 1) (k + 1) ⟨bumpS (i + 1) r, cs, mv⟩ h1' h2' (inv_bump hrr hlt) hp (by
            intro x hx hf
            exact hu x (by rw [e3]; exact .tail _ hx) hf)
          obtain ⟨a1, a2, a3, a4, a5, a6, a7, a8⟩ := T
          refine ⟨fun d => ?_, ?_, ?_, ?_, ?_, ⟨fun _ s' i' t' h h' => ?_, ?_⟩, ?_, ?_⟩
          · show (mrun (k + 1) (mvB false k _) l).cs.getD d 0 = _
            rw [e, a1 d, e3]
            show _ = cs.getD d 0 + ((if false = true then cw d i p else 0) + _)
            simp
          · show (mrun (k + 1) (mvB false k _) l).mv = _
            rw [e, a2, e3]
            show _ = mv + ((if false = true then pw i p else 0) + _)
            simp
          · show fl (mrun (k + 1) (mvB false k _) l).st = _
            rw [e, a3, fl_bump]
            rfl
          · show Inv (mrun (k + 1) (mvB false k _) l)
            rw [e]; exact a4
          · show Pos (mrun (k + 1) (mvB false k _) l).cs
            rw [e]; exact a5
          · cases h; exact absurd h' hs
          · show okRun (k + 1) (mvB false k _) l
            rw [e]; exact a6
          · show cs.length ≤ (mrun (k + 1) (mvB false k _) l).cs.length
            rw [e]; exact a7
          · intro x hx
            show x.2.1 < (mrun (k + 1) (mvB false k _) l).cs.length
            rw [e]
            rw [e3] at hx
            rcases List.mem_cons.mp hx with rfl | hx
            · exact Nat.lt_of_lt_of_le hlt a7
            · exact a8 x hx
/-- nothing counted: nothing changes -/
theorem quiet : ∀ (l : List Bool) (k : Nat) (σ : MS), 32 ≤ k → (∀ q ∈ σ.st, 32 ≤ q.1) → okRun k σ l ∧ (mrun k σ l).cs = σ.cs ∧ (mrun k σ l).mv = σ.mv := by
  intro l
  induction l with
  | nil => intro k σ _ _; exact ⟨trivial, rfl, rfl⟩
  | cons b l ih =>
    intro k σ hk hs
    obtain ⟨st, cs, mv⟩ := σ
    cases b with
    | true =>
      obtain ⟨a, b, c⟩ := ih (k + 1) ⟨(k, 0) :: st, cs, mv⟩ (by omega) (by
        intro q hq
        rcases List.mem_cons.mp hq with rfl | hq
        · exact hk
        · exact hs q hq)
      exact ⟨⟨fun h => by (cases h), a⟩, b, c⟩
    | false =>
      cases st with
      | nil =>
        obtain ⟨a, b, c⟩ := ih (k + 1) ⟨[], cs, mv⟩ (by omega) hs
        exact ⟨⟨fun _ s i t h => by (cases h), a⟩, b, c⟩
      | cons q r =>
        obtain ⟨s, i⟩ := q
        have h32 : 32 ≤ s := hs (s, i) (.head _)
        have e : mvB false k ⟨(s, i) :: r, cs, mv⟩ = ⟨bumpS (i + 1) r, cs, mv⟩ := by
          show (if s < 32 then _ else _) = _
          rw [if_neg (by omega)]
        obtain ⟨a, b, c⟩ := ih (k + 1) ⟨bumpS (i + 1) r, cs, mv⟩ (by omega) (by
          cases r with
          | nil => intro q hq; cases hq
          | cons y r =>
            intro q hq
            rcases List.mem_cons.mp hq with rfl | hq
            · exact hs y (.tail _ (.head _))
            · exact hs q (.tail _ (.tail _ hq)))
        refine ⟨⟨fun _ s' i' t' h h' => ?_, ?_⟩, ?_, ?_⟩
        · cases h; omega
        · show okRun (k + 1) (mvB false k _) l
          rw [e]; exact a
        · show (mrun (k + 1) (mvB false k _) l).cs = _
          rw [e]; exact b
        · show (mrun (k + 1) (mvB false k _) l).mv = _
          rw [e]; exact c
/-- the flags do not matter to what comes shut -/
noncomputable def un (l : List (Bool × Nat)) : List Nat := l.map (·.2)
theorem un_bmp (i : Nat) (a : List (Bool × Nat)) (b : List (Bool × Nat)) (h : un a = un b) : un (bmp i a) = un (bmp i b) := by
  cases a with
  | nil =>
    cases b with
    | nil => rfl
    | cons y b => cases h
  | cons x a =>
    cases b with
    | nil => cases h
    | cons y b =>
      have h1 : x.2 = y.2 := (List.cons.inj h).1
      have h2 : un a = un b := (List.cons.inj h).2
      show max x.2 i :: un a = max y.2 i :: un b
      rw [h1, h2]
theorem evs_free (f g : Bool) (w : Nat → Nat → Int) : ∀ (l : List Bool) (p : Nat) (a b : List (Bool × Nat)), un a = un b → wall w (evs f p a l) = wall w (evs g p b l) ∧ un (fin f a l) = un (fin g b l) := by
  intro l
  induction l with
  | nil => intro p a b h; exact ⟨rfl, h⟩
  | cons x l ih =>
    intro p a b h
    cases x with
    | true =>
      exact ih (p + 1) ((f, 0) :: a) ((g, 0) :: b) (by show 0 :: un a = 0 :: un b; rw [h])
    | false =>
      cases a with
      | nil =>
        cases b with
        | nil => exact ih (p + 1) [] [] rfl
        | cons y b => cases h
      | cons x a =>
        cases b with
        | nil => cases h
        | cons y b =>
          obtain ⟨x1, x2⟩ := x
          obtain ⟨y1, y2⟩ := y
          have h1 : x2 = y2 := (List.cons.inj h).1
          have h2 : un a = un b := (List.cons.inj h).2
          subst h1
          obtain ⟨q1, q2⟩ := ih (p + 1) (bmp (x2 + 1) a) (bmp (x2 + 1) b) (un_bmp _ _ _ h2)
          exact ⟨by show w x2 p + _ = w x2 p + _; rw [q1], q2⟩
/-- the second time around, what opened there comes shut as the first time -/
theorem evs_twin : ∀ (l : List Bool) (p : Nat) (a : List Nat) (B : List (Bool × Nat)), (∀ q ∈ B, q.1 = true) →
    (evs false p (a.map (fun i => (false, i)) ++ B) l).filter (fun e => !e.1) = (evs true p (a.map (fun i => (true, i))) l).map (fun e => (false, e.2)) := by
  intro l
  induction l with
  | nil => intro p a B _; rfl
  | cons x l ih =>
    intro p a B hB
    cases x with
    | true => exact ih (p + 1) (0 :: a) B hB
    | false =>
      cases a with
      | nil =>
        cases B with
        | nil => exact ih (p + 1) [] [] hB
        | cons y B =>
          obtain ⟨g, i⟩ := y
          have hg : g = true := hB (g, i) (.head _)
          subst hg
          have := ih (p + 1) [] (bmp (i + 1) B) (by
            cases B with
            | nil => intro q hq; cases hq
            | cons z B =>
              intro q hq
              rcases List.mem_cons.mp hq with rfl | hq
              · exact hB z (.tail _ (.head _))
              · exact hB q (.tail _ (.tail _ hq)))
          show ((true, i, p) :: evs false (p + 1) (bmp (i + 1) B) l).filter _ = _
          rw [List.filter_cons_of_neg (by simp)]
          exact this
      | cons i a =>
        show ((false, i, p) :: evs false (p + 1) (bmp (i + 1) (a.map (fun i => (false, i)) ++ B)) l).filter _ = (false, i, p) :: (evs true (p + 1) (bmp (i + 1) (a.map (fun i => (true, i)))) l).map _
        rw [List.filter_cons_of_pos (by simp)]
        congr 1
        cases a with
        | nil =>
          exact ih (p + 1) [] (bmp (i + 1) B) (by
            cases B with
            | nil => intro q hq; cases hq
            | cons z B =>
              intro q hq
              rcases List.mem_cons.mp hq with rfl | hq
              · exact hB z (.head _)
              · exact hB q (.tail _ hq))
        | cons j a => exact ih (p + 1) (max j (i + 1) :: a) B hB
theorem wun_filter (w : Nat → Nat → Int) (l : List (Bool × Nat × Nat)) : wun w l = wall w (l.filter fun e => !e.1) := by
  induction l with
  | nil => rfl
  | cons e r ih =>
    obtain ⟨g, i, p⟩ := e
    cases g
    · rw [List.filter_cons_of_pos (by rfl)]; simp [wun, wall, ih]
    · rw [List.filter_cons_of_neg (by simp)]; simp [wun, ih]
theorem wall_map (w : Nat → Nat → Int) (l : List (Bool × Nat × Nat)) : wall w (l.map fun e => (false, e.2)) = wall w l := by
  induction l with
  | nil => rfl
  | cons e r ih => simp [wall, ih]
theorem all_flagged : ∀ (l : List Bool) (p : Nat) (st : List (Bool × Nat)), (∀ q ∈ st, q.1 = true) → (∀ e ∈ evs true p st l, e.1 = true) ∧ ∀ q ∈ fin true st l, q.1 = true := by
  intro l
  induction l with
  | nil => intro p st h; exact ⟨fun e he => (by cases he), h⟩
  | cons x l ih =>
    intro p st h
    cases x with
    | true =>
      exact ih (p + 1) ((true, 0) :: st) (by
        intro q hq
        rcases List.mem_cons.mp hq with rfl | hq
        · rfl
        · exact h q hq)
    | false =>
      cases st with
      | nil => exact ih (p + 1) [] h
      | cons y st =>
        obtain ⟨g, i⟩ := y
        have hg : g = true := h (g, i) (.head _)
        have := ih (p + 1) (bmp (i + 1) st) (by
          cases st with
          | nil => intro q hq; cases hq
          | cons z st =>
            intro q hq
            rcases List.mem_cons.mp hq with rfl | hq
            · exact h z (.tail _ (.head _))
            · exact h q (.tail _ (.tail _ hq)))
        refine ⟨fun e he => ?_, this.2⟩
        rcases List.mem_cons.mp he with rfl | he
        · exact hg
        · exact this.1 e he
theorem wsum_flagged (w : Nat → Nat → Int) : ∀ (l : List (Bool × Nat × Nat)), (∀ e ∈ l, e.1 = true) → wsum w l = wall w l
  | [], _ => rfl
  | (g, i, p) :: r, h => by
    have hg : g = true := h (g, i, p) (.head _)
    subst hg
    have := wsum_flagged w r fun e he => h e (.tail _ he)
    simp [wsum, wall, this]
theorem evs_app (f : Bool) : ∀ (u v : List Bool) (p : Nat) (st : List (Bool × Nat)), evs f p st (u ++ v) = evs f p st u ++ evs f (p + u.length) (fin f st u) v := by
  intro u
  induction u with
  | nil => intro v p st; rfl
  | cons x u ih =>
    intro v p st
    have e : p + (x :: u).length = p + 1 + u.length := by simp; omega
    rw [e]
    cases x with
    | true => exact ih v (p + 1) _
    | false =>
      cases st with
      | nil => exact ih v (p + 1) []
      | cons y st =>
        obtain ⟨g, i⟩ := y
        show (g, i, p) :: evs f (p + 1) (bmp (i + 1) st) (u ++ v) = (g, i, p) :: (_ ++ _)
        rw [ih v (p + 1) (bmp (i + 1) st)]
        rfl
theorem bmp_len (i : Nat) (st : List (Bool × Nat)) : (bmp i st).length = st.length := by cases st <;> rfl
theorem fin_len (f : Bool) : ∀ (l : List Bool) (st : List (Bool × Nat)), (fin f st l).length = run st.length l := by
  intro l
  induction l with
  | nil => intro st; rfl
  | cons x l ih =>
    intro st
    cases x with
    | true => exact ih _
    | false =>
      cases st with
      | nil => exact ih []
      | cons y st =>
        have := ih (bmp (y.2 + 1) st)
        rw [bmp_len] at this
        exact this
/-- a ring as a number -/
noncomputable def val : Nat → List Bool → Int
  | _, [] => 0
  | p, b :: r => (if b then 2 ^ p else 0) + val (p + 1) r
theorem val_app (u v : List Bool) (p : Nat) : val p (u ++ v) = val p u + val (p + u.length) v := by
  induction u generalizing p with
  | nil => simp [val]
  | cons b r ih =>
    show _ + val (p + 1) (r ++ v) = _ + val (p + 1) r + val (p + (r.length + 1)) v
    rw [ih, show p + (r.length + 1) = p + 1 + r.length by omega]
    omega
theorem evs_val (f : Bool) : ∀ (l : List Bool) (p : Nat) (st : List (Bool × Nat)), wall pw (evs f p st l) = val p (car st.length l) := by
  intro l
  induction l with
  | nil => intro p st; rfl
  | cons x l ih =>
    intro p st
    cases x with
    | true =>
      rw [show evs f p st (true :: l) = evs f (p + 1) ((f, 0) :: st) l by cases st <;> rfl, ih]
      simp [car, val]
    | false =>
      cases st with
      | nil =>
        have := ih (p + 1) []
        show wall pw (evs f (p + 1) [] l) = _
        rw [this]
        simp [car, val]
      | cons y st =>
        have := ih (p + 1) (bmp (y.2 + 1) st)
        rw [bmp_len] at this
        show pw _ p + wall pw (evs f (p + 1) (bmp (y.2 + 1) st) l) = _
        rw [this]
        simp [car, val, pw]
end Ring
end Mine
namespace Mine
namespace Ring
noncomputable def bmpN (i : Nat) : List Nat → List Nat
  | [] => []
  | j :: r => max j i :: r
/-- how many come shut that deep -/
noncomputable def dc (d : Nat) : List Nat → List Bool → Int
  | _, [] => 0
  | st, true :: r => dc d (0 :: st) r
  | [], false :: r => dc d [] r
  | i :: st, false :: r => (if i = d then 1 else 0) + dc d (bmpN (i + 1) st) r
theorem un_bmpN (i : Nat) (st : List (Bool × Nat)) : un (bmp i st) = bmpN i (un st) := by cases st <;> rfl
theorem evs_dc (f : Bool) (d : Nat) : ∀ (l : List Bool) (p : Nat) (st : List (Bool × Nat)), wall (cw d) (evs f p st l) = dc d (un st) l := by
  intro l
  induction l with
  | nil => intro p st; rfl
  | cons x l ih =>
    intro p st
    cases x with
    | true =>
      rw [show evs f p st (true :: l) = evs f (p + 1) ((f, 0) :: st) l by cases st <;> rfl, ih]
      rw [show dc d (un st) (true :: l) = dc d (0 :: un st) l by cases un st <;> rfl]
      rfl
    | false =>
      cases st with
      | nil => exact ih (p + 1) []
      | cons y st =>
        have := ih (p + 1) (bmp (y.2 + 1) st)
        rw [un_bmpN] at this
        show cw d y.2 p + wall (cw d) (evs f (p + 1) (bmp (y.2 + 1) st) l) = (if y.2 = d then 1 else 0) + dc d (bmpN (y.2 + 1) (un st)) l
        rw [this]
        rfl
theorem dc_true (d : Nat) (st : List Nat) (r : List Bool) : dc d st (true :: r) = dc d (0 :: st) r := by cases st <;> rfl
theorem bmp_one (st : List Nat) : (bmpN 1 st).map (· - 1) = st.map (· - 1) := by
  cases st with
  | nil => rfl
  | cons j r =>
    show (max j 1 - 1) :: _ = (j - 1) :: _
    rw [show max j 1 - 1 = j - 1 by omega]
theorem bmp_pred (i : Nat) (st : List Nat) : (bmpN (i + 1) st).map (· - 1) = bmpN i (st.map (· - 1)) := by
  cases st with
  | nil => rfl
  | cons j r =>
    show (max j (i + 1) - 1) :: _ = max (j - 1) i :: _
    rw [show max j (i + 1) - 1 = max (j - 1) i by omega]
theorem bmp_top {i j : Nat} {st t : List Nat} (h : bmpN (i + 1) st = j :: t) : 1 ≤ j := by
  cases st with
  | nil => cases h
  | cons k r =>
    have : max k (i + 1) = j := (List.cons.inj h).1
    omega
theorem dc_down (st : List Nat) (r : List Bool) (hI : ∀ i t, st = i :: t → 1 ≤ i ∨ hd r true = true) : dc 0 st r = c10 r ∧ ∀ d, dc (d + 1) st r = dc d (st.map (· - 1)) (e10 r) := by
  fun_induction e10 r generalizing st with
  | case1 => exact ⟨by cases st <;> rfl, fun d => by cases st <;> rfl⟩
  | case2 r ih =>
    obtain ⟨h1, h2⟩ := ih (bmpN 1 st) (fun i t e => .inl (bmp_top (i := 0) e))
    constructor
    · rw [dc_true]
      show (if (0 : Nat) = 0 then (1 : Int) else 0) + dc 0 (bmpN 1 st) r = ((c10 r + 1 : Nat) : Int)
      rw [h1]
      simp; omega
    · intro d
      rw [dc_true]
      show (if (0 : Nat) = d + 1 then (1 : Int) else 0) + dc (d + 1) (bmpN 1 st) r = _
      rw [h2 d, bmp_one]
      simp
  | case3 x r hn ih =>
    cases x with
    | true =>
      have hh : hd r true = true := by
        cases r with
        | nil => rfl
        | cons y r =>
          cases y with
          | true => rfl
          | false => exact absurd rfl (hn r rfl)
      obtain ⟨h1, h2⟩ := ih (0 :: st) (fun _ _ _ => .inr hh)
      have hc : c10 (true :: r) = c10 r := by
        cases r with
        | nil => rfl
        | cons y r =>
          cases y with
          | true => rfl
          | false => exact absurd rfl (hn r rfl)
      constructor
      · rw [dc_true, h1, hc]
      · intro d
        rw [dc_true, dc_true, h2 d]
        rfl
    | false =>
      cases st with
      | nil =>
        obtain ⟨h1, h2⟩ := ih [] (fun _ _ e => by cases e)
        exact ⟨h1, h2⟩
      | cons i t =>
        have hi : 1 ≤ i := by
          rcases hI i t rfl with h | h
          · exact h
          · cases h
        obtain ⟨h1, h2⟩ := ih (bmpN (i + 1) t) (fun j s e => .inl (bmp_top e))
        constructor
        · show (if i = 0 then (1 : Int) else 0) + dc 0 (bmpN (i + 1) t) r = (c10 r : Int)
          rw [h1, if_neg (by omega)]
          simp
        · intro d
          show (if i = d + 1 then (1 : Int) else 0) + dc (d + 1) (bmpN (i + 1) t) r = (if i - 1 = d then (1 : Int) else 0) + dc d (bmpN (i - 1 + 1) (t.map (· - 1))) (e10 r)
          rw [h2 d, bmp_pred, show i - 1 + 1 = i by omega]
          by_cases h : i = d + 1
          · rw [if_pos h, if_pos (by omega)]
          · rw [if_neg h, if_neg (by omega)]
noncomputable def ones : List Bool → Nat
  | [] => 0
  | b :: r => (if b then 1 else 0) + ones r
theorem ones_app (u v : List Bool) : ones (u ++ v) = ones u + ones v := by
  induction u with
  | nil => simp [ones]
  | cons b r ih => simp [ones, ih, Nat.add_assoc]
theorem ones_e10 (r : List Bool) : ones (e10 r) + c10 r = ones r := by
  fun_induction e10 r with
  | case1 => rfl
  | case2 r ih => simp [ones, c10]; omega
  | case3 x r hn ih =>
    have hc : c10 (x :: r) = c10 r := by
      cases x with
      | false => rfl
      | true =>
        cases r with
        | nil => rfl
        | cons y r =>
          cases y with
          | true => rfl
          | false => exact absurd rfl (hn r rfl)
    rw [hc]
    simp [ones]; omega
theorem c10_ones {r : List Bool} (h : c10 (true :: r) = 0) : ∀ k, 0 < run k (true :: r) := by
  induction r with
  | nil => intro k; exact Nat.succ_pos k
  | cons y r ih =>
    cases y with
    | false => exact absurd h (by simp [c10])
    | true =>
      intro k
      exact ih (by simpa [c10] using h) (k + 1)
theorem c10_pos {r : List Bool} (e : run 0 r = 0) (h : c10 r = 0) : ones r = 0 := by
  induction r with
  | nil => rfl
  | cons x r ih =>
    cases x with
    | true =>
      have := c10_ones h 0
      omega
    | false =>
      have := ih e (by simpa [c10] using h)
      simp [ones, this]
theorem any_ones (r : List Bool) : r.any id = true ↔ 0 < ones r := by
  induction r with
  | nil => simp [ones]
  | cons x r ih => cases x <;> simp [ones] at * <;> first | exact ih | omega
theorem dc_none {r : List Bool} (h : ones r = 0) (d : Nat) : dc d [] r = 0 := by
  induction r with
  | nil => rfl
  | cons x r ih =>
    cases x with
    | true => simp [ones] at h
    | false => exact ih (by simpa [ones] using h)
theorem sol_dc : ∀ (f : Nat) (r : List Bool), run 0 r = 0 → ones r < f → (∀ d, (((sol f r).getD d 0 : Nat) : Int) = dc d [] r) ∧ ∀ c ∈ sol f r, 0 < c := by
  intro f
  induction f with
  | zero => intro r _ h; exact absurd h (Nat.not_lt_zero _)
  | succ f ih =>
    intro r e h
    unfold sol
    by_cases ha : r.any id = true
    · rw [if_pos ha]
      have ho := (any_ones r).mp ha
      obtain ⟨h1, h2⟩ := calm_cyc e
      have hc : 0 < c10 r := by
        rcases Nat.eq_zero_or_pos (c10 r) with q | q
        · have := c10_pos e q; omega
        · exact q
      have ho2 := ones_e10 r
      obtain ⟨a, b⟩ := ih (e10 r) (by rw [run_e10]; exact e) (by omega)
      obtain ⟨d1, d2⟩ := dc_down [] r (fun _ _ e => by cases e)
      rw [h1, h2]
      refine ⟨fun d => ?_, fun c hc' => ?_⟩
      · cases d with
        | zero => rw [d1]; rfl
        | succ d => rw [d2 d]; exact a d
      · rcases List.mem_cons.mp hc' with rfl | hc'
        · exact hc
        · exact b c hc'
    · rw [if_neg ha]
      have ho : ones r = 0 := by
        rcases Nat.eq_zero_or_pos (ones r) with q | q
        · exact q
        · exact absurd ((any_ones r).mpr q) ha
      exact ⟨fun d => by rw [dc_none ho]; rfl, fun c hc => by cases hc⟩
theorem pos_ext : ∀ (a b : List Int), Pos a → Pos b → (∀ d, a.getD d 0 = b.getD d 0) → a = b
  | [], [], _, _, _ => rfl
  | [], y :: b, _, hb, h => by
    have h1 := hb y (.head _)
    have h2 : (0 : Int) = y := h 0
    omega
  | x :: a, [], ha, _, h => by
    have h1 := ha x (.head _)
    have h2 : x = (0 : Int) := h 0
    omega
  | x :: a, y :: b, ha, hb, h => by
    have h0 : x = y := h 0
    rw [h0, pos_ext a b (fun c hc => ha c (.tail _ hc)) (fun c hc => hb c (.tail _ hc)) fun d => h (d + 1)]
theorem car_len (h : Nat) (r : List Bool) : (car h r).length = r.length := by
  induction r generalizing h with
  | nil => rfl
  | cons x r ih => cases x <;> cases h <;> simp [car, ih]
theorem car_ones (h : Nat) (r : List Bool) : ones (car h r) + run h r = h + ones r := by
  induction r generalizing h with
  | nil => simp [car, run, ones]
  | cons x r ih =>
    cases x with
    | true => have := ih (h + 1); simp [car, run, ones] at *; omega
    | false =>
      cases h with
      | zero => have := ih 0; simp [car, run, ones] at *; omega
      | succ h => have := ih h; simp [car, run, ones] at *; omega
theorem bal_ones (r : List Bool) : bal r = 2 * (ones r : Int) - r.length := by
  induction r with
  | nil => rfl
  | cons x r ih => cases x <;> simp [bal, ones, ih] <;> omega
structure Step (w : List Bool) : Prop where
  ok : okRun 0 ⟨[], [], 0⟩ (w ++ w)
  cs : (mrun 0 ⟨[], [], 0⟩ (w ++ w)).cs = (sol 33 w).map (fun c : Nat => (c : Int))
  mv : (mrun 0 ⟨[], [], 0⟩ (w ++ w)).mv = val 0 (car (run 0 w) w)
  sol : sol 33 (car (run 0 w) w) = sol 33 w
  ones : ones (car (run 0 w) w) = ones w
theorem getD_map_nat (l : List Nat) (d : Nat) : (l.map (fun c : Nat => (c : Int))).getD d 0 = ((l.getD d 0 : Nat) : Int) := by
  rw [List.getD_eq_getElem?_getD, List.getD_eq_getElem?_getD, List.getElem?_map]
  cases l[d]? <;> rfl
theorem step {w : List Bool} (hlen : w.length = 32) (h16 : ones w ≤ 16) : Step w := by
  obtain ⟨u, v, rfl, hu, hvu⟩ := calm_point (w := w) (by rw [bal_ones]; omega)
  rw [List.length_append] at hlen
  have hrw : run 0 (u ++ v) = run 0 v := by rw [run_app, hu]
  have hvu' : run (run 0 v) u = 0 := by rw [← run_app]; exact hvu
  -- the pieces
  have T1 := told true u 0 0 ⟨[], [], 0⟩ (fun j hj => decide_eq_true (by omega)) (fun j hj => by omega) (fun q hq => by cases hq) (fun c hc => by cases hc) (fun e he hf => by
    have := (all_flagged u 0 [] (fun q hq => by cases hq)).1 e he
    rw [this] at hf; cases hf)
  have s1 : fl (mrun 0 ⟨[], [], 0⟩ u).st = [] := by
    rw [T1.st]
    refine List.eq_nil_of_length_eq_zero ?_
    rw [fin_len]; exact hu
  generalize hσ1 : mrun 0 ⟨[], [], 0⟩ u = σ1 at *
  have T2 := told true v u.length u.length σ1 (fun j hj => decide_eq_true (by omega)) (fun j hj => by omega) (hσ1 ▸ T1.inv) (hσ1 ▸ T1.pos) (fun e he hf => by
    rw [s1] at he
    have := (all_flagged v u.length [] (fun q hq => by cases hq)).1 e he
    rw [this] at hf; cases hf)
  have s2 : fl (mrun u.length σ1 v).st = fin true [] v := by rw [T2.st, s1]
  have b2 : ∀ q ∈ fin true [] v, q.1 = true := (all_flagged v 0 [] (fun q hq => by cases hq)).2
  generalize hσ2 : mrun u.length σ1 v = σ2 at *
  have T3 := told false u 0 32 σ2 (fun j hj => decide_eq_false (by omega)) (fun j hj => by omega) (hσ2 ▸ T2.inv) (hσ2 ▸ T2.pos) (fun e he hf => by
    rw [s2] at he
    have h1 : e ∈ (evs false 0 (([] : List Nat).map (fun i => (false, i)) ++ fin true [] v) u).filter (fun e => !e.1) := List.mem_filter.mpr ⟨he, by rw [hf]; rfl⟩
    rw [evs_twin u 0 [] _ b2] at h1
    obtain ⟨e', he', rfl⟩ := List.mem_map.mp h1
    have h2 := T1.in' e' he'
    rw [hσ1] at h2
    have h3 := T2.up
    rw [hσ2] at h3
    exact Nat.lt_of_lt_of_le h2 h3)
  have s3 : fl (mrun 32 σ2 u).st = [] := by
    rw [T3.st, s2]
    refine List.eq_nil_of_length_eq_zero ?_
    rw [fin_len, fin_len]; exact hvu'
  generalize hσ3 : mrun 32 σ2 u = σ3 at *
  have n3 : σ3.st = [] := by
    unfold fl at s3
    exact List.map_eq_nil_iff.mp s3
  obtain ⟨q1, q2, q3⟩ := quiet v (32 + u.length) σ3 (by omega) (by rw [n3]; intro q hq; cases hq)
  -- the whole
  have e1 : mrun 0 ⟨[], [], 0⟩ (u ++ v) = σ2 := by rw [mrun_app, hσ1, Nat.zero_add, hσ2]
  have e32 : 0 + (u ++ v).length = 32 := by rw [List.length_append]; omega
  have eA : mrun 0 ⟨[], [], 0⟩ ((u ++ v) ++ (u ++ v)) = mrun (32 + u.length) σ3 v := by
    rw [mrun_app, e1, e32, mrun_app, hσ3]
  have hB : (fin true [] v).length = run 0 v := fin_len true v []
  have key : ∀ w : Nat → Nat → Int, wsum w (evs true 0 [] u) + wsum w (evs true u.length [] v) + wsum w (evs false 0 (fin true [] v) u) = wall w (evs true u.length [] v) + wall w (evs false 0 (fin true [] v) u) := by
    intro w
    have e1 := wsum_flagged w _ (all_flagged u 0 [] (fun q hq => by cases hq)).1
    have e2 := wsum_flagged w _ (all_flagged v u.length [] (fun q hq => by cases hq)).1
    have e3 := wall_split w (evs false 0 (fin true [] v) u)
    have e4 := wun_filter w (evs false 0 (fin true [] v) u)
    have e5 := evs_twin u 0 [] _ b2
    simp only [List.map_nil, List.nil_append] at e5
    rw [e5, wall_map] at e4
    omega
  have hcs : ∀ d, σ3.cs.getD d 0 = dc d [] (v ++ u) := by
    intro d
    have a1 := T1.cs d
    have a2 := T2.cs d
    have a3 := T3.cs d
    rw [hσ1] at a1
    rw [hσ2, s1] at a2
    rw [hσ3, s2] at a3
    have a0 : ([] : List Int).getD d 0 = 0 := rfl
    have k := key (cw d)
    have z : dc d [] (v ++ u) = wall (cw d) (evs true u.length [] v) + wall (cw d) (evs false 0 (fin true [] v) u) := by
      rw [← show un [] = [] from rfl, ← evs_dc true d (v ++ u) 0 [], evs_app, wall_app, evs_dc, evs_dc, evs_dc, evs_dc]
    rw [z, ← k, a3, a2, a1, a0]
    show (0 + wsum (cw d) (evs true 0 (fl []) u)) + _ + _ = _
    rw [show fl [] = [] from rfl, Int.zero_add]
  have hmv : σ3.mv = val 0 (car (run 0 v) u ++ car 0 v) := by
    have a1 := T1.mv
    have a2 := T2.mv
    have a3 := T3.mv
    rw [hσ1] at a1
    rw [hσ2, s1] at a2
    rw [hσ3, s2] at a3
    have k := key pw
    rw [evs_val, evs_val, hB] at k
    rw [val_app, car_len, Nat.zero_add, a3, a2, a1]
    show (0 + wsum pw (evs true 0 (fl []) u)) + _ + _ = _
    rw [show fl [] = [] from rfl]
    have k' : wsum pw (evs true 0 [] u) + wsum pw (evs true u.length [] v) + wsum pw (evs false 0 (fin true [] v) u) = val u.length (car 0 v) + val 0 (car (run 0 v) u) := k
    omega
  have ho : ones (v ++ u) < 33 := by rw [ones_app]; rw [ones_app] at h16; omega
  have hR : Rot (u ++ v) (v ++ u) := ⟨u, v, rfl, rfl⟩
  have hcar : car (run 0 (u ++ v)) (u ++ v) = car (run 0 v) u ++ car 0 v := by rw [hrw, car_app, hvu']
  have hR2 : Rot (car (run 0 (u ++ v)) (u ++ v)) (car 0 (v ++ u)) := ⟨car (run 0 v) u, car 0 v, hcar, by rw [car_app]⟩
  obtain ⟨d1, d2⟩ := sol_dc 33 (v ++ u) hvu ho
  refine ⟨?_, ?_, ?_, ?_, ?_⟩
  · refine (okRun_app ..).mpr ⟨(okRun_app ..).mpr ⟨T1.ok, ?_⟩, ?_⟩
    · rw [Nat.zero_add, hσ1]; exact T2.ok
    · rw [e1, e32]
      exact (okRun_app ..).mpr ⟨T3.ok, by rw [hσ3]; exact q1⟩
  · rw [eA, q2]
    refine pos_ext _ _ (hσ3 ▸ T3.pos) ?_ fun d => ?_
    · intro c hc
      obtain ⟨k, hk, rfl⟩ := List.mem_map.mp hc
      rw [hR.sol] at hk
      have := d2 k hk
      omega
    · rw [hcs d, getD_map_nat, hR.sol]
      exact (d1 d).symm
  · rw [eA, q3, hmv, hcar]
  · rw [hR2.sol, hR.sol, sol_car 33 hvu]
  · have := car_ones (run 0 (u ++ v)) (u ++ v)
    have e : run (run 0 (u ++ v)) (u ++ v) = run 0 (u ++ v) := by rw [hrw, run_app, hvu']
    rw [e] at this
    omega
end Ring
end Mine
namespace Mine
open PySem PySem.StrLaws PySem.Builtin PySem.Builtin.Str
abbrev sepC : PySem.Str := ⟨#[44, 32]⟩
/-- each comma is followed by a blank -/
noncomputable def Tied (l : List Nat) : Prop := ∀ j, l[j]? = some 44 → l[j + 1]? = some 32
theorem tied_free {l : List Nat} (h : 44 ∉ l) : Tied l := fun j hj => absurd (List.mem_of_getElem? hj) h
theorem tied_glue {a r : List Nat} (h : 44 ∉ a) (hr : Tied r) : Tied (a ++ 44 :: 32 :: r) := by
  intro j hj
  rcases Nat.lt_trichotomy j a.length with h1 | h1 | h1
  · rw [List.getElem?_append_left h1] at hj
    exact absurd (List.mem_of_getElem? hj) h
  · subst h1
    rw [List.getElem?_append_right (by omega)]
    simp
  · rw [List.getElem?_append_right (by omega)] at hj ⊢
    obtain ⟨k, rfl⟩ : ∃ k, j = a.length + 1 + k := ⟨j - (a.length + 1), by omega⟩
    have e1 : a.length + 1 + k - a.length = k + 1 := by omega
    have e2 : a.length + 1 + k + 1 - a.length = k + 2 := by omega
    rw [e1] at hj
    rw [e2]
    cases k with
    | zero => simp at hj
    | succ k =>
      simp only [List.getElem?_cons_succ] at hj ⊢
      exact hr k hj
theorem join_list (y : PySem.Str) (r : List PySem.Str) (hr : r ≠ []) : (Str.join sepC (y :: r)).cps.toList = y.cps.toList ++ 44 :: 32 :: (Str.join sepC r).cps.toList := by
  cases r with
  | nil => exact absurd rfl hr
  | cons z r =>
    show (y ++ sepC ++ Str.join sepC (z :: r)).cps.toList = _
    simp [Str.cps_append]
theorem tied_join : ∀ (ys : List PySem.Str), (∀ y ∈ ys, 44 ∉ y.cps.toList) → Tied (Str.join sepC ys).cps.toList
  | [], _ => tied_free (by show 44 ∉ (Str.empty).cps.toList; decide)
  | [y], h => tied_free (h y (.head _))
  | y :: z :: r, h => by
    rw [join_list y (z :: r) (by simp)]
    exact tied_glue (h y (.head _)) (tied_join (z :: r) fun q hq => h q (.tail _ hq))

theorem cut_same {a b r1 r2 : List Nat} (ha : 44 ∉ a) (hb : 44 ∉ b) (h1 : r1 = [] ∨ r1.head? = some 44) (h2 : r2 = [] ∨ r2.head? = some 44) (e : a ++ r1 = b ++ r2) : a = b ∧ r1 = r2 := by
  induction a generalizing b with
  | nil =>
    cases b with
    | nil => exact ⟨rfl, e⟩
    | cons x b =>
      exfalso
      simp only [List.nil_append, List.cons_append] at e
      rcases h1 with h | h
      · rw [h] at e; cases e
      · rw [e] at h
        simp only [List.head?_cons, Option.some.injEq] at h
        exact hb (by rw [h]; exact .head _)
  | cons x a ih =>
    cases b with
    | nil =>
      exfalso
      simp only [List.nil_append, List.cons_append] at e
      rcases h2 with h | h
      · rw [h] at e; cases e
      · rw [← e] at h
        simp only [List.head?_cons, Option.some.injEq] at h
        exact ha (by rw [h]; exact .head _)
    | cons z b =>
      simp only [List.cons_append, List.cons.injEq] at e
      obtain ⟨rfl, e⟩ := e
      obtain ⟨q1, q2⟩ := ih (fun h => ha (.tail _ h)) (fun h => hb (.tail _ h)) e
      exact ⟨by rw [q1], q2⟩
theorem str_ext {x y : PySem.Str} (h : x.cps.toList = y.cps.toList) : x = y := Str.ext' (Array.toList_inj.mp h)
theorem join_inj : ∀ (ys zs : List PySem.Str), ys ≠ [] → zs ≠ [] → (∀ y ∈ ys, 44 ∉ y.cps.toList) → (∀ y ∈ zs, 44 ∉ y.cps.toList) → Str.join sepC ys = Str.join sepC zs → ys = zs
  | [], _, h, _, _, _, _ => absurd rfl h
  | _ :: _, [], _, h, _, _, _ => absurd rfl h
  | y :: r, z :: q, _, _, hy, hz, e => by
    have e' : (Str.join sepC (y :: r)).cps.toList = (Str.join sepC (z :: q)).cps.toList := by rw [e]
    have tl : ∀ (y : PySem.Str) (r : List PySem.Str), ∃ t : List Nat, (Str.join sepC (y :: r)).cps.toList = y.cps.toList ++ t ∧ (t = [] ∨ t.head? = some 44) ∧ (r = [] → t = []) ∧ (r ≠ [] → t = 44 :: 32 :: (Str.join sepC r).cps.toList) := by
      intro y r
      by_cases hr : r = []
      · subst hr; exact ⟨[], by show y.cps.toList = _; simp, .inl rfl, fun _ => rfl, fun h => absurd rfl h⟩
      · exact ⟨_, join_list y r hr, .inr rfl, fun h => absurd h hr, fun _ => rfl⟩
    obtain ⟨t1, a1, b1, c1, d1⟩ := tl y r
    obtain ⟨t2, a2, b2, c2, d2⟩ := tl z q
    rw [a1, a2] at e'
    obtain ⟨q1, q2⟩ := cut_same (hy y (.head _)) (hz z (.head _)) b1 b2 e'
    have ey := str_ext q1
    subst ey
    by_cases hr : r = []
    · by_cases hq : q = []
      · rw [hr, hq]
      · rw [c1 hr, d2 hq] at q2; cases q2
    · by_cases hq : q = []
      · rw [d1 hr, c2 hq] at q2; cases q2
      · rw [d1 hr, d2 hq] at q2
        simp only [List.cons.injEq, true_and] at q2
        rw [join_inj r q hr hq (fun p hp => hy p (.tail _ hp)) (fun p hp => hz p (.tail _ hp)) (str_ext q2)]

theorem at_comma {x : PySem.Str} (ht : Tied x.cps.toList) {j : Nat} (hj : x.cps.toList[j]? = some 44) : At x sepC x.length j := by
  have h2 := ht j hj
  have l2 := (List.getElem?_eq_some_iff.mp h2)
  obtain ⟨l2, e2⟩ := l2
  obtain ⟨l1, e1⟩ := List.getElem?_eq_some_iff.mp hj
  have hn : x.cps.toList.length = x.length := by simp [Str.length]
  refine ⟨by show j + 2 ≤ x.length; omega, ?_⟩
  rw [subAt_eq]
  have e3 : (x.cps.toList.drop j).take 2 = [44, 32] := by
    rw [List.drop_eq_getElem_cons l1, e1, List.drop_eq_getElem_cons l2, e2]
    simp
  show ((x.cps.toList.drop j).take 2 == [44, 32]) = true
  rw [e3]
  rfl
theorem piece_free {x : PySem.Str} (ht : Tied x.cps.toList) {a b : Nat} (hn : ∀ k, a ≤ k → k < b → ¬ At x sepC x.length k) : 44 ∉ (strSub x a b).cps.toList := by
  intro hm
  rw [strSub_toList] at hm
  obtain ⟨j, hj⟩ := List.getElem?_of_mem hm
  have hlt : j < b - a := by
    have h1 : j < ((x.cps.toList.drop a).take (b - a)).length := (List.getElem?_eq_some_iff.mp hj).1
    simp at h1
    omega
  rw [List.getElem?_take_of_lt hlt, List.getElem?_drop] at hj
  exact hn (a + j) (by omega) (by omega) (at_comma ht hj)
theorem pieces_free {x : PySem.Str} (ht : Tied x.cps.toList) : ∀ (cuts : List Nat) (a f : Nat), ChainG x sepC x.length a cuts f → (∀ k, f ≤ k → ¬ At x sepC x.length k) → ∀ p ∈ partsFrom x sepC.length a cuts, 44 ∉ p.cps.toList
  | [], a, f, h, hn, p, hp => by
    have e : f = a := h
    subst e
    rw [List.mem_singleton.mp hp]
    exact piece_free ht fun k h1 _ => hn k h1
  | d :: r, a, f, h, hn, p, hp => by
    rcases List.mem_cons.mp hp with rfl | hp'
    · exact piece_free ht h.2.2.1
    · exact pieces_free ht r _ f h.2.2.2 hn p hp'
theorem split_tied {x : PySem.Str} (ht : Tied x.cps.toList) : (∀ p ∈ Txt.split x sepC, 44 ∉ p.cps.toList) ∧ Txt.split x sepC ≠ [] := by
  obtain ⟨f, hG, hn⟩ := occ_tight x sepC (by show 1 ≤ 2; decide)
  have whole : (∀ k, ¬ At x sepC x.length k) → 44 ∉ x.cps.toList := by
    intro h hm
    obtain ⟨j, hj⟩ := List.getElem?_of_mem hm
    exact h j (at_comma ht hj)
  unfold Txt.split
  split
  · rename_i hc
    refine ⟨fun p hp => ?_, by simp⟩
    rw [List.mem_singleton.mp hp]
    refine whole fun k hA => ?_
    rw [Bool.or_eq_true, decide_eq_true_eq, decide_eq_true_eq] at hc
    rcases hc with h | h
    · have := hA.1; omega
    · have e : Builtin.Str.strKind sepC = 1 := by decide +kernel
      rw [e] at h
      have : 1 ≤ Builtin.Str.strKind x := by unfold Builtin.Str.strKind; split <;> (try split) <;> decide
      omega
  · split
    · rename_i he
      refine ⟨fun p hp => ?_, by simp⟩
      rw [List.mem_singleton.mp hp]
      have e0 : occurrences x sepC 0 x.length (x.length + 1) = [] := List.isEmpty_iff.mp he
      rw [e0] at hG
      have ef : f = 0 := hG
      subst ef
      exact whole fun k => hn k (Nat.zero_le _)
    · rw [partsBetween_eq]
      refine ⟨pieces_free ht _ 0 f hG hn, ?_⟩
      obtain ⟨p, r, e⟩ := partsFrom_ne x sepC.length 0 (occurrences x sepC 0 x.length (x.length + 1))
      rw [e]; simp
theorem split_join {ys : List PySem.Str} (h0 : ys ≠ []) (h : ∀ y ∈ ys, 44 ∉ y.cps.toList) : Txt.split (Txt.join sepC ys) sepC = ys := by
  unfold Txt.join
  rw [glued_eq_join]
  obtain ⟨h1, h2⟩ := split_tied (tied_join ys h)
  exact join_inj _ _ h2 h0 h1 h (join_split _ _)
end Mine
open PySem PySem.W PyProof.Rows PySem.Calls
namespace Mine
open PySem PySem.W PyProof.Rows
/- the top's written heap and its view alone (gen.heap_1, gen.view_1): the head's own proof is run at the end, in the law itself -/
section
local macro_rules | `(tactic| first | refine $_t:term | fail $_s:str) => `(tactic| assumption)
set_option maxRecDepth 100000 in
set_option maxHeartbeats 8000000 in
theorem gen (h : PySem.Challenge.rw_wf0054_01.row.Holds) : PySem.Challenge.rw_wf0054_01.row.Holds := by k_head
end
end Mine
local macro_rules | `(tactic| walk_at $s:str) => `(tactic| k_extra $s)
namespace Mine
open PySem PySem.W PyProof.Rows PySem.Calls

section
variable {prog : Program} {w : World} {A₀ A : Around} {s : Shared} {base h₀ : Heap} {outer : List Env} {L : Addr} {m mg mb : Str → Option Value} {env : Env} {K : Frag} {p : Program} {loose : List Str} {mean : ExcName → Option Value}
  {R : Result → Shared → Prop} {name qual : Str} {params : Arguments} {body : List Stmt} {scope : Scope} {dV kV doc pm cdv ct oc : Value} {an od : Option Addr} {osl : Array (Option Value)} {f : Addr} {args : Args} {binds : List (Str × Value)}

theorem below_full (B : Below A₀ base outer h₀) (F : Fr h₀ L s.heap m) (hA : A.frames = some (env :: outer)) (hf : env.frame = some L) (hke : env.scope.kind = .function) :
    Below A base (env :: outer) s.heap := by
  have B₁ := pushX B F hf hke
  exact ⟨hA, B₁.stays, B₁.frames⟩

theorem enter_plain (B : Below A₀ base outer h₀) (F : Fr h₀ L s.heap m) (X₀ : K.In h₀) (T : Top p loose mean mg mb h₀) (hA : A.frames = some (env :: outer)) (hf : env.frame = some L) (hke : env.scope.kind = .function)
    (ho : K.lookup f = some ⟨oc, od, .func (fnOf name qual params body scope dV kV doc pm an cdv ct), osl⟩) (hcd : codeIn K cdv qual = true) (hroom : A.depth < recursionLimit)
    (hbind : BindsTo s (fnOf name qual params body scope dV kV doc pm an cdv ct) args binds) (hloc : ∀ y ∈ binds, scope.names.lookup y.1 = some .local)
    (h : ∀ L' h₁, Fr s.heap L' h₁ (fun y => binds.reverse.lookup y) → News s.heap L' h₁ [] → Below A base (env :: outer) s.heap → K.In s.heap → Top p loose mean mg mb s.heap →
      wpAny (model prog w) (A.deeper (envOf qual scope L' f cdv)) (execs body (envOf qual scope L' f cdv))
        (fun fl s' => R (.ok (.ret (match fl with | .ret v => v | _ => .none))) s')
        (fun e s' => wpAny (model prog w) (A.deeper (envOf qual scope L' f cdv)) (leaving (envOf qual scope L' f cdv) e) (fun _ s'' => R (.error e) s'') (fun e' s'' => R (.error e') s'') s')
        { s with heap := h₁, toks := s.toks + binds.length })
    (hco : scope.isCoroutine = false) (hgen : scope.isGenerator = false) (hk : scope.kind = .function)
    (hcell : ∀ x ∈ scope.names, x.2 ≠ .cell) : codeAny (model prog w) A (.call (.ref f) args) R s := by
  have X := X₀.keeps F.keep
  refine codeAny_call_def (fd := fnOf name qual params body scope dV kV doc pm an cdv ct) (body := body) (binds := binds) hroom (X _ _ ho) rfl (T.nolimit.keeps F.keep) (codeRec_of X hcd) rfl hbind hcell hloc (fun h₁ hns hk₁ => ?_) hco hgen hk
  exact h s.heap.objs.size h₁ ⟨hns, hk₁, Nat.le_refl _⟩ News.nil (below_full B F hA hf hke) X (T.keeps F.keep)

theorem enter_cells (B : Below A₀ base outer h₀) (F : Fr h₀ L s.heap m) (X₀ : K.In h₀) (T : Top p loose mean mg mb h₀) (hA : A.frames = some (env :: outer)) (hf : env.frame = some L) (hke : env.scope.kind = .function)
    (ho : K.lookup f = some ⟨oc, od, .func (fnOf name qual params body scope dV kV doc pm an cdv ct), osl⟩) (hcd : codeIn K cdv qual = true) (hroom : A.depth < recursionLimit)
    (hbind : BindsTo s (fnOf name qual params body scope dV kV doc pm an cdv ct) args binds) (hkind : (binds.all fun y => scope.names.lookup y.1 == some .local || scope.names.lookup y.1 == some .cell) = true)
    (hnd : ((cellsFrom 0 scope.names []).map (·.1)).Nodup)
    (h : ∀ L' h₁ tk cells, Fr s.heap L' h₁ (bindL (envOfC qual scope L' f cdv).kindOf binds fun _ => none) → News s.heap L' h₁ (cells ++ []) →
      CellsAre (bindC (envOfC qual scope L' f cdv).kindOf binds fun _ => none) (cellsFrom (L' + 1) scope.names []) cells → Below A base (env :: outer) s.heap → K.In s.heap → Top p loose mean mg mb s.heap →
      wpAny (model prog w) (A.deeper (envOfC qual scope L' f cdv)) (execs body (envOfC qual scope L' f cdv))
        (fun fl s' => R (.ok (.ret (match fl with | .ret v => v | _ => .none))) s')
        (fun e s' => wpAny (model prog w) (A.deeper (envOfC qual scope L' f cdv)) (leaving (envOfC qual scope L' f cdv) e) (fun _ s'' => R (.error e) s'') (fun e' s'' => R (.error e') s'') s')
        { s with heap := h₁, toks := tk })
    (hco : scope.isCoroutine = false) (hgen : scope.isGenerator = false) (hk : scope.kind = .function) : codeAny (model prog w) A (.call (.ref f) args) R s := by
  have X := X₀.keeps F.keep
  refine codeAny_call_function hroom (X _ _ ho) rfl hco hgen rfl (codeRec_of X hcd) (hbind _ _ _ _ ?_)
  refine wpAny_newFunctionEnv_cells hk (kindsX hkind _) fun env' he s' x => ?_
  subst he
  refine ⟨(T.nolimit.keeps F.keep).keeps x.toInCall.keep, codeAny_func ?_⟩
  obtain ⟨h₁, tk, rfl, _⟩ := x.done
  have hk₁ := x.toInCall.keep
  obtain ⟨cells, NC, Y⟩ := Cl.news (h₀ := s.heap) (Nat.le_refl _) fun n c hm => ⟨x.cell n c (lookup_of_mem_nodup (cellsFrom_names scope.names 0 (s.heap.objs.size + 1) [] [] rfl ▸ hnd) hm), x.above n c hm⟩
  refine h s.heap.objs.size h₁ tk cells ⟨x.toInCall.ns, hk₁, Nat.le_refl _⟩ (fun q hq => ?_) Y (below_full B F hA hf hke) X (T.keeps F.keep)
  rw [List.append_nil] at hq
  exact NC q hq
end

theorem home {h₀ g h' : Heap} {L L' : Addr} {m m' : Str → Option Value} {news led : List (Addr × Obj)} (F : Fr h₀ L g m) (N : News h₀ L g news) (F' : Fr g L' h' m') (N' : News g L' h' led) :
    Fr h₀ L h' m ∧ News h₀ L h' (led ++ news) ∧ ∀ p ∈ led, LCg.Off1 p.1 news := by
  refine ⟨F.keeps F'.keep, fun p hp => ?_, fun p hp => ?_⟩
  · rcases List.mem_append.mp hp with hp | hp
    · have z := N' p hp
      obtain ⟨oL, _, _, hL, _⟩ := F.ns
      refine ⟨z.1, fun q => ?_, ?_⟩
      · rw [q, hL] at z; cases z.2.2
      · cases q : h₀.get? p.1 with
        | none => rfl
        | some o => have := F.keep _ _ q; rw [z.2.2] at this; cases this
    · exact N.grown F'.keep p hp
  · have z := (N' p hp).2.2
    have key : ∀ l : List (Addr × Obj), (∀ q ∈ l, g.get? q.1 = some q.2) → LCg.Off1 p.1 l := by
      intro l
      induction l with
      | nil => intro _; trivial
      | cons q r ih =>
        intro hl
        refine ⟨fun e => ?_, ih fun x hx => hl x (.tail _ hx)⟩
        have := hl q (.head _)
        rw [e, z] at this; cases this
    exact key news fun q hq => (N q hq).1

theorem home0 {h₀ g h' : Heap} {L L' : Addr} {m m' : Str → Option Value} {news led : List (Addr × Obj)} (F : Fr h₀ L g m) (N : News h₀ L g news) (F' : Fr g L' h' m') (_N' : News g L' h' led) :
    Fr h₀ L h' m ∧ News h₀ L h' news := ⟨F.keeps F'.keep, N.grown F'.keep⟩
theorem home1 {h₀ g h' : Heap} {L L' : Addr} {m m' : Str → Option Value} {news led : List (Addr × Obj)} (F : Fr h₀ L g m) (N : News h₀ L g news) (F' : Fr g L' h' m') (N' : News g L' h' led)
    (D : Addr) (o : Obj) (hm : (D, o) ∈ led) : Fr h₀ L h' m ∧ News h₀ L h' ((D, o) :: news) ∧ LCg.Off1 D news := by
  obtain ⟨a, b, c⟩ := home F N F' N'
  refine ⟨a, fun p hp => ?_, c _ hm⟩
  rcases List.mem_cons.mp hp with rfl | hp
  · exact b _ (List.mem_append_left _ hm)
  · exact b _ (List.mem_append_right _ hp)

/-- a stop for the walk -/
noncomputable def Halt (P : Prop) : Prop := P
theorem Halt.go {P : Prop} (h : Halt P) : P := h
theorem Fr_known {h₀ h : Heap} {L : Addr} {m : Str → Option Value} {x : Str} {v : Value} (F : Fr h₀ L h m) (hk : m x = some v) : Fr h₀ L h (fun y => if y = x then some v else m y) := by
  have e : (fun y => if y = x then some v else m y) = m := by
    funext y
    by_cases q : y = x
    · rw [if_pos q, q, hk]
    · rw [if_neg q]
  rw [e]
  exact F
theorem Fr_knownL {h₀ h : Heap} {L : Addr} {m : Str → Option Value} (ps : List (Str × Value)) (F : Fr h₀ L h m) (hk : ∀ p ∈ ps, m p.1 = some p.2) : Fr h₀ L h (kstB m ps) := by
  have e : kstB m ps = m := funext fun z => kstB_eq hk fun _ => rfl
  rw [e]
  exact F
theorem all1 {α : Type} {P : α → Prop} {a : α} (h1 : P a) : ∀ p ∈ [a], P p := List.forall_mem_cons.mpr ⟨h1, List.forall_mem_nil _⟩
theorem all2 {α : Type} {P : α → Prop} {a b : α} (h1 : P a) (h2 : P b) : ∀ p ∈ [a, b], P p := List.forall_mem_cons.mpr ⟨h1, List.forall_mem_cons.mpr ⟨h2, List.forall_mem_nil _⟩⟩
theorem all3 {α : Type} {P : α → Prop} {a b c : α} (h1 : P a) (h2 : P b) (h3 : P c) : ∀ p ∈ [a, b, c], P p := List.forall_mem_cons.mpr ⟨h1, all2 h2 h3⟩
theorem all4 {α : Type} {P : α → Prop} {a b c d : α} (h1 : P a) (h2 : P b) (h3 : P c) (h4 : P d) : ∀ p ∈ [a, b, c, d], P p := List.forall_mem_cons.mpr ⟨h1, all3 h2 h3 h4⟩
theorem all5 {α : Type} {P : α → Prop} {a b c d e : α} (h1 : P a) (h2 : P b) (h3 : P c) (h4 : P d) (h5 : P e) : ∀ p ∈ [a, b, c, d, e], P p := List.forall_mem_cons.mpr ⟨h1, all4 h2 h3 h4 h5⟩
theorem all6 {α : Type} {P : α → Prop} {a b c d e f : α} (h1 : P a) (h2 : P b) (h3 : P c) (h4 : P d) (h5 : P e) (h6 : P f) : ∀ p ∈ [a, b, c, d, e, f], P p := List.forall_mem_cons.mpr ⟨h1, all5 h2 h3 h4 h5 h6⟩
theorem news_sub {h₀ h : Heap} {L : Addr} {led nx : List (Addr × Obj)} (N : News h₀ L h led) (hs : ∀ p ∈ nx, p ∈ led) : News h₀ L h nx := fun p hp => N p (hs p hp)

noncomputable def MyMark : Prop := True
theorem myMark : MyMark := trivial
/-- two addresses that differ, kept from omega's eyes -/
noncomputable def Apart (a b : Nat) : Prop := a ≠ b
theorem Apart.ne {a b : Nat} (h : Apart a b) : a ≠ b := h
theorem Apart.ne' {a b : Nat} (h : Apart a b) : b ≠ a := fun e => h e.symm
theorem off1_cons {D : Addr} {p : Addr × Obj} {r : List (Addr × Obj)} : LCg.Off1 D (p :: r) = (Apart p.1 D ∧ LCg.Off1 D r) := rfl
theorem off1_nil {D : Addr} : LCg.Off1 D [] = True := rfl

end Mine

local macro_rules | `(tactic| k_ne) => `(tactic| first | exact Mine.Apart.ne (by assumption) | exact Mine.Apart.ne' (by assumption))

namespace Mine
open PySem PySem.W PyProof.Rows PySem.Calls

noncomputable def fGt (a b : UInt64) : Bool := Float64.cmp a b == some Ordering.gt
noncomputable def fLt (a b : UInt64) : Bool := Float64.cmp a b == some Ordering.lt
noncomputable def max3 (a b c : UInt64) : UInt64 := let u := if fGt b a then b else a; if fGt c u then c else u
noncomputable def min3 (a b c : UInt64) : UInt64 := let u := if fLt b a then b else a; if fLt c u then c else u

noncomputable def fl3 (a b c : UInt64) (i : Nat) : UInt64 := match i with | 0 => a | 1 => b | _ => c
noncomputable def IsF (x : UInt64) (v : Value) : Prop := ∃ t, v = .float x t


theorem best3 (bt : Nat → Nat → Bool) : argBest bt 2 = (if bt 2 (if bt 1 0 then 1 else 0) then 2 else (if bt 1 0 then 1 else 0)) := by
  simp [argBest]

theorem best_max (a b c : UInt64) : fl3 a b c (argBest (fun i j => fGt (fl3 a b c i) (fl3 a b c j)) 2) = max3 a b c := by
  rw [best3]
  simp only [max3, fl3]
  cases h1 : fGt b a
  · simp; cases h2 : fGt c a <;> simp
  · simp; cases h2 : fGt c b <;> simp
theorem best_min (a b c : UInt64) : fl3 a b c (argBest (fun i j => fLt (fl3 a b c i) (fl3 a b c j)) 2) = min3 a b c := by
  rw [best3]
  simp only [min3, fl3]
  cases h1 : fLt b a
  · simp; cases h2 : fLt c a <;> simp
  · simp; cases h2 : fLt c b <;> simp

section
variable {prog : Program} {w : World} {A : Around} {E : Value → Shared → Prop} {s : Shared}

/-- the tuple of three floats that the call lays out, walked by the loop -/
theorem three_walk {a b c : UInt64} {t u r : Tok} (hh : A.handled = none) (op : CmpOp) (bt : UInt64 → UInt64 → Bool)
    (hop : ∀ (x y : UInt64) (tx ty : Tok) (s : Shared) (Q : Value → Shared → Prop) (E : Value → Shared → Prop), Q (.bool (bt x y)) s → wpAny (model prog w) A (richCompare op (.float x tx) (.float y ty)) Q E s)
    {Q : Value → Shared → Prop}
    (h : ∀ v h' tk, IsF (fl3 a b c (argBest (fun i j => bt (fl3 a b c i) (fl3 a b c j)) 2)) v → (∀ l o, s.heap.get? l = some o → h'.get? l = some o) → Q v { s with heap := h', toks := tk }) :
    wpAny (model prog w) A (pyIter (.ref s.heap.objs.size)) (fun it s₂ => ∃ I fp wr n P St bt, it = .ref I ∧ Walks prog w A I fp wr n P St ∧ St 0 s₂.heap ∧ (∀ b ∈ fp, b < s₂.heap.objs.size) ∧ 0 < n ∧ CmpOf prog w A op P bt ∧
      ∀ v h' tk, P (argBest bt (n - 1)) v → (∀ b o, b ∉ wr → s₂.heap.get? b = some o → h'.get? b = some o) → Q v { s₂ with heap := h', toks := tk }) E
      { s with heap := s.heap.push { cls := .type "tuple", data := .seq #[.float a t, .float b u, .float c r] } } := by
  have hT : (s.heap.push { cls := .type "tuple", data := .seq #[.float a t, .float b u, .float c r] }).IsTuple s.heap.objs.size #[.float a t, .float b u, .float c r] := ⟨_, Heap.get?_push_size _ rfl, rfl, 0, rfl⟩
  refine wpAny_pyIter_tuple hT ?_
  have hsz : (s.heap.push { cls := .type "tuple", data := .seq #[.float a t, .float b u, .float c r] }).objs.size = s.heap.objs.size + 1 := Heap.size_push ..
  have hP : ∀ i v, (#[Value.float a t, .float b u, .float c r])[i]? = some v → IsF (fl3 a b c i) v := by
    intro i v e
    rcases i with _ | _ | _ | i
    · exact ⟨t, (Option.some.inj e).symm⟩
    · exact ⟨u, (Option.some.inj e).symm⟩
    · exact ⟨r, (Option.some.inj e).symm⟩
    · simp at e
  refine ⟨_, [_, s.heap.objs.size], [_], _, _, _, fun i j => bt (fl3 a b c i) (fl3 a b c j), rfl, Walks.tuple hh _ s.heap.objs.size (by rw [hsz]; exact Nat.ne_of_lt (Nat.lt_succ_self _)) #[.float a t, .float b u, .float c r],
    ⟨⟨_, Heap.get?_push_size _ rfl, rfl, rfl⟩, hT.push _⟩, fun l hl => ?_, by show 0 < 3; decide, ?_, fun v h' tk hv hk => ?_⟩
  · show l < ((s.heap.push _).push _).objs.size
    rw [Heap.size_push, hsz]
    simp only [List.mem_cons, List.not_mem_nil, or_false] at hl
    rcases hl with rfl | rfl
    · rw [hsz]; exact Nat.lt_succ_self _
    · exact Nat.lt_succ_of_lt (Nat.lt_succ_self _)
  · intro i j vi vj s' Q' E' hi hj hq
    obtain ⟨ti, rfl⟩ := hP i vi hi
    obtain ⟨tj, rfl⟩ := hP j vj hj
    exact hop _ _ _ _ _ _ _ hq
  · refine h v h' tk (hP _ _ hv) fun l o e => ?_
    refine hk l o (fun hm => ?_) (Heap.get?_push_of_some _ (Heap.get?_push_of_some _ e))
    rw [List.mem_singleton.mp hm, hsz] at e
    exact absurd (Heap.lt_size e) (Nat.not_lt.mpr (Nat.le_succ _))

theorem max_three {a b c : UInt64} {t u r : Tok} {Q : Value → Shared → Prop} (hh : A.handled = none)
    (h : ∀ t' h' tk, (∀ l o, s.heap.get? l = some o → h'.get? l = some o) → Q (.float (max3 a b c) t') { s with heap := h', toks := tk }) :
    wpAny (model prog w) A (call (.builtin "max") [.float a t, .float b u, .float c r]) Q E s := by
  refine call_max_three (three_walk (A := A.in1) (t := t) (u := u) (r := r) hh .Gt fGt (fun x y tx ty s' Q' E' hq => AutoFloatOps.gt_0 hq) (Q := Q) fun v h' tk hv hk => ?_)
  obtain ⟨t', rfl⟩ := hv
  rw [best_max]
  exact h t' h' tk hk

theorem min_three {a b c : UInt64} {t u r : Tok} {Q : Value → Shared → Prop} (hh : A.handled = none)
    (h : ∀ t' h' tk, (∀ l o, s.heap.get? l = some o → h'.get? l = some o) → Q (.float (min3 a b c) t') { s with heap := h', toks := tk }) :
    wpAny (model prog w) A (call (.builtin "min") [.float a t, .float b u, .float c r]) Q E s := by
  refine call_min_three (three_walk (A := A.in1) (t := t) (u := u) (r := r) hh .Lt fLt (fun x y tx ty s' Q' E' hq => AutoFloatOps.lt_0 hq) (Q := Q) fun v h' tk hv hk => ?_)
  obtain ⟨t', rfl⟩ := hv
  rw [best_min]
  exact h t' h' tk hk
end

theorem max_threeN {prog : Program} {w : World} {A : Around} {E : Value → Shared → Prop} {s : Shared} {h₀ : Heap} {L : Addr} {m : Str → Option Value} {news : List (Addr × Obj)} {a b c : UInt64} {t u r : Tok} {Q : Value → Shared → Prop}
    (hh : A.handled = none) (F : Fr h₀ L s.heap m) (N : News h₀ L s.heap news)
    (h : ∀ t' h' tk, Fr h₀ L h' m → News h₀ L h' news → Q (.float (max3 a b c) t') { s with heap := h', toks := tk }) :
    wpAny (model prog w) A (call (.builtin "max") [.float a t, .float b u, .float c r]) Q E s :=
  max_three hh fun t' h' tk hk => h t' h' tk (F.keeps hk) (N.grown hk)
theorem min_threeN {prog : Program} {w : World} {A : Around} {E : Value → Shared → Prop} {s : Shared} {h₀ : Heap} {L : Addr} {m : Str → Option Value} {news : List (Addr × Obj)} {a b c : UInt64} {t u r : Tok} {Q : Value → Shared → Prop}
    (hh : A.handled = none) (F : Fr h₀ L s.heap m) (N : News h₀ L s.heap news)
    (h : ∀ t' h' tk, Fr h₀ L h' m → News h₀ L h' news → Q (.float (min3 a b c) t') { s with heap := h', toks := tk }) :
    wpAny (model prog w) A (call (.builtin "min") [.float a t, .float b u, .float c r]) Q E s :=
  min_three hh fun t' h' tk hk => h t' h' tk (F.keeps hk) (N.grown hk)
end Mine

namespace Mine
open PySem PySem.W PyProof.Rows PySem.Calls
section
variable {prog : Program} {w : World} {A : Around} {E : Value → Shared → Prop} {s : Shared} {h₀ : Heap} {L D b : Addr} {m : Str → Option Value} {news : List (Addr × Obj)} {g : Obj → List (Addr × Obj)} {its its2 : Array Value} {n n2 : Nat}

theorem fillI_list : fillsInplaceSlot (.type "list") "add" (Operator.Add == .Add) = pure false := by
  unfold fillsInplaceSlot
  show (typeLookup (.type "list") (dunderI "add") >>= fun fi => pure (fi.isSome && !isSeqSlot fi)) = pure false
  rw [PySem.F.slot_list_iadd.lookup]
  show (pure (true && !isSeqSlotId "list.__iadd__") : Sem Bool) = pure false
  rw [show isSeqSlotId "list.__iadd__" = true from by decide +kernel]
  rfl
theorem seqI_list : seqSlot? (.type "list") (dunderI "add") = pure (some (.builtin "list.__iadd__")) :=
  PyProof.Rows.seqSlot_of PySem.F.slot_list_iadd.lookup (by show isSeqSlotId "list.__iadd__" = true; decide +kernel)

theorem iadd_list {Q : Value → Shared → Prop} (F : Fr h₀ L s.heap m) (N : News h₀ L s.heap news) (hb : (b, W.listOf its2 n2) ∈ news) (U : UpdF D (W.listOf its n) news g) (hsz : its.size + its2.size ≤ sizeLine)
    (h : ∀ h' n', Fr h₀ L h' m → News h₀ L h' (g (W.listOf (its ++ its2) n')) → Q (.ref D) { s with heap := h' }) :
    wpAny (model prog w) A (inplaceOp .Add (.ref D) (.ref b)) Q E s := by
  obtain ⟨pre, post, rfl, hg, a, c⟩ := U.split
  have z := N (D, W.listOf its n) (List.mem_append.mpr (.inr (.head _)))
  have zb := (N _ hb).1
  unfold inplaceOp
  refine wpAny_holding ?_
  have tD : s.TypeIs (.ref D) "list" := ⟨_, z.1, rfl⟩
  have tb : s.TypeIs (.ref b) "list" := ⟨_, zb, rfl⟩
  refine wpAny_bind (wpAny_typeOf tD (wpAny_bind (wpAny_of_eq fillI_list ?_)))
  show wpAny _ A (if false = true then _ else _) Q E s
  rw [if_neg Bool.false_ne_true]
  refine wpAny_bind (binaryOp1_none (nm := "add") tD tb noFill_list_add ?_)
  refine wpAny_bind (wpAny_of_eq seqI_list ?_)
  refine wpAny_bind (wpAny_rule ?_)
  refine call_meets PySem.F.slot_list_iadd tD PySem.F.entry_list_iadd (PySem.F.args_list_iadd_2 _ _) (PySem.AutoSeq1.list___iadd___list_list_0 D its n b its2 n2 (extend_door hsz) (Nat.le_trans (Nat.le_add_right _ _) hsz) (Nat.le_succ_of_le hsz)) ⟨z.1, zb, ?_⟩
  have ho' : (s.heap.update D (Obj.mapSeq fun x => x ++ its2)).get? D = some { cls := .type "list", data := .seq (its ++ its2) (if (its ++ its2).size == its.size then n else n + 1) } := by
    rw [Heap.get?_update_self _ z.1 (by rw [mapSeq_app]; rfl), mapSeq_app]
  exact h _ _ (F.change (Heap.SameBut.update ..) z.2.1 z.2.2) (by rw [hg]; exact N.setAt a c (Heap.SameBut.update ..) ho')
theorem insert0 {us : List Value} {news' : List (Addr × Obj)} {u : Tok} {y : Value} {Q : Value → Shared → Prop} (F : Fr h₀ L s.heap m) (N : News h₀ L s.heap news) (U : Upd D (W.listOf us.toArray n) (W.listOf (y :: us).toArray (n + 1)) news news') (hz : us.length ≤ sizeLine)
    (h : ∀ h', Fr h₀ L h' m → News h₀ L h' news' → Q .none { s with heap := h' }) : wpAny (model prog w) A (call (.builtin "list.insert") [.ref D, .int 0 u, y]) Q E s := by
  refine kl_insert (its := us.toArray) F N (by decide) ?_ U (by simpa using hz) h
  show kl_ins us 0 y = y :: us
  unfold kl_ins
  simp
/-- an item at any place of a list of ints, from the front or from behind -/
noncomputable def itemI (r : List Int) (i : Int) : Int := r.getD (if i < 0 then i + r.length else i).toNat 0
theorem item_ints {value slice : Expr} {us : List Value} {ring : List Int} {k : Int} {u : Tok} {Q : Value → Shared → Prop} (N : News h₀ L s.heap news) (hm : (D, W.listOf us.toArray n) ∈ news) (hi : IntsAre us ring) (h0 : -(ring.length : Int) ≤ k) (h1 : k < ring.length) (hb : (ring.length : Int) < 2 ^ 62)
    (h : ∀ t, Q (.int (itemI ring k) t) s)
    (hs : subscripted slice false (.ref D) (.int k u) = operate [.ref D, .int k u] (getItem (.ref D) (.int k u)) := by with_unfolding_all rfl) (hg : ∀ r, letTemporaryGo value (.ref D) r = pure () := by intro _; with_unfolding_all rfl) :
    wpAny (model prog w) A (subscriptTail value slice (.ref D) (.int k u)) Q E s := by
  have el : us.length = ring.length := hi.length
  by_cases hk : k < 0
  · have e : itemI ring k = ring[(k + (ring.length : Int)).toNat]'(by omega) := by
      unfold itemI
      rw [if_pos hk, List.getD_eq_getElem?_getD, List.getElem?_eq_getElem (by omega)]
      rfl
    obtain ⟨t, hx⟩ := hi.get (k + (ring.length : Int)).toNat _ (List.getElem?_eq_getElem (by omega))
    rw [← e] at hx
    exact kim_back N hm rfl rfl hk (by rw [el]; exact h0) (by omega) (by rw [el]; exact hx) (h t) hs hg
  · have e : itemI ring k = ring[k.toNat]'(by omega) := by
      unfold itemI
      rw [if_neg hk, List.getD_eq_getElem?_getD, List.getElem?_eq_getElem (by omega)]
      rfl
    obtain ⟨t, hx⟩ := hi.get k.toNat _ (List.getElem?_eq_getElem (by omega))
    rw [← e] at hx
    exact kim_list N hm rfl rfl (by omega) (by omega) hx (h t) hs hg
end
end Mine


namespace Mine
open PySem PySem.W PyProof.Rows PySem.Calls

/-- what a namespace that is written out does not hold -/
theorem absent_of {K : Frag} {h : Heap} {a : Addr} {mg : Str → Option Value} {n : Str} (X : K.In h) (G : h.Ns a mg) (e : nsIn K a n = some none) : mg n = none := by
  obtain ⟨o, es, ep, ho, hd, hk, hf⟩ := G
  unfold nsIn at e
  cases q : K.lookup a with
  | none => rw [q] at e; cases e
  | some o2 =>
    have ho2 := X _ _ q
    rw [ho] at ho2
    cases ho2
    rw [q] at e
    obtain ⟨c, d, dt, sl⟩ := o
    cases hd
    simp only at e
    cases hfind : es.toList.find? (·.key.isStr n) with
    | some en => rw [hfind] at e; cases e
    | none =>
      rw [← hf]
      unfold nsFind findBy
      rw [← Array.find?_toList, hfind]
      rfl

noncomputable def Unbooked (h : Heap) : Prop := ∃ mc, h.Ns cStatics mc ∧ mc sharingNotToldKey = none
theorem Unbooked.of {K : Frag} {p : Program} {loose : List Str} {mean : ExcName → Option Value} {mg mb : Str → Option Value} {h₀ h : Heap} {L : Addr} {m : Str → Option Value} (X : K.In h₀) (T : Top p loose mean mg mb h₀) (F : Fr h₀ L h m)
    (e : nsIn K cStatics sharingNotToldKey = some none) : Unbooked h := by
  obtain ⟨mc, hn, _⟩ := T.nodigits
  exact ⟨mc, hn.keeps F.keep, absent_of X hn e⟩

theorem isSame_floats {M : Model} {A : Around} {E : Value → Shared → Prop} {s : Shared} {a b : UInt64} {u v : Tok} {Q : Bool → Shared → Prop}
    (h1 : u ≠ 0) (h2 : v ≠ 0) (hb : Unbooked s.heap) (hq : ∀ b, Q b s) : wpAny M A (isSame (.float a u) (.float b v)) Q E s := by
  obtain ⟨mc, hn, hk⟩ := hb
  have told : ∀ (t : Tok) (Q' : Bool → Shared → Prop), Q' false s → wpAny M A (sharingNotTold t) Q' E s := by
    intro t Q' h
    unfold sharingNotTold
    refine wpAny_bind (wpAny_nsGet hn ?_)
    rw [hk]
    exact wpAny_pure h
  show wpAny M A (isSame.created (a == b && !Float64.isNaN a) u v) Q E s
  have z : (u == 0 || v == 0) = false := by
    rw [Bool.or_eq_false_iff]
    exact ⟨beq_eq_false_iff_ne.mpr h1, beq_eq_false_iff_ne.mpr h2⟩
  unfold isSame.created
  rw [z]
  simp only [Bool.false_eq_true, if_false]
  refine wpAny_ite ?_
  split
  · exact wpAny_pure (hq _)
  · refine wpAny_ite ?_
    split
    · exact wpAny_pure (hq _)
    · refine wpAny_bind (told _ _ ?_)
      simp only [Bool.false_eq_true, if_false]
      refine wpAny_bind (told _ _ ?_)
      simp only [Bool.false_eq_true, if_false]
      exact wpAny_bind (wpAny_rule (wpAny_bind (wpAny_askSetting (wpAny_pure (hq _)))))

open SeqAt in
theorem eqAt_float {A : Around} {s : Shared} {a b : UInt64} {u v : Tok} (h1 : u ≠ 0) (h2 : v ≠ 0) (hb : Unbooked s.heap) (h : (Float64.cmp a b == some Ordering.eq) = true) : EqAt A s (.float a u) (.float b v) true := fun prog w E Q hq => by
  unfold eqBool
  refine wpAny_holding ?_
  refine wpAny_ite_split (fun _ => wpAny_bind (wpAny_rule (wpAny_pure hq))) (fun _ => ?_)
  simp only
  refine wpAny_bind (isSame_floats h1 h2 hb fun k => ?_)
  cases k with
  | true => exact wpAny_pure hq
  | false =>
    simp only [Bool.false_eq_true, if_false]
    refine wpAny_bind (m := richCompare .Eq (.float a u) (.float b v)) ?_
    refine wpAny_mono (AutoFloatOps.eq_0 (Q := fun r s' => r = .bool true ∧ s' = s) (E := E) ?_) (fun r s' hr => ?_) fun _ _ e => e
    · rw [h]; exact ⟨rfl, rfl⟩
    · obtain ⟨rfl, rfl⟩ := hr
      exact wpAny_truthy_bool hq

open SeqAt in
inductive AllEq (s : Shared) : List Value → List Value → Prop
  | nil : AllEq s [] []
  | cons {x y : Value} {xs ys : List Value} : (∀ A, EqAt A s x y true) → AllEq s xs ys → AllEq s (x :: xs) (y :: ys)
open SeqAt in
theorem AllEq.at {s : Shared} : ∀ {xs ys : List Value}, AllEq s xs ys → xs.length = ys.length ∧ ∀ (A : Around) j (h1 : j < xs.length) (h2 : j < ys.length), EqAt A s xs[j] ys[j] true
  | _, _, .nil => ⟨rfl, fun _ j h1 _ => absurd h1 (Nat.not_lt_zero _)⟩
  | _, _, .cons h r => by
    obtain ⟨e, k⟩ := r.at
    refine ⟨by simp [e], fun A j h1 h2 => ?_⟩
    cases j with
    | zero => exact h A
    | succ j => exact k A j (by simpa using h1) (by simpa using h2)

theorem all_tt (n : Nat) : (List.range n).all (fun _ => true) = true := List.all_eq_true.mpr fun _ _ => rfl
section
variable {prog : Program} {w : World} {A : Around} {E : Value → Shared → Prop} {s : Shared} {h₀ : Heap} {L : Addr} {news : List (Addr × Obj)} {a b : Addr} {xs ys : List Value} {n n2 : Nat}
open SeqAt
theorem ne_lists_same {Q : Value → Shared → Prop} (N : News h₀ L s.heap news) (ha : (a, W.listOf xs.toArray n) ∈ news) (hb : (b, W.listOf ys.toArray n2) ∈ news) (hu : A.units < cLine) (h : AllEq s xs ys) (hQ : Q (.bool false) s) :
    wpAny (model prog w) A (compareOp .NotEq (.ref a) (.ref b)) Q E s := by
  obtain ⟨e, k⟩ := h.at
  have la : s.heap.IsList a xs.toArray := ⟨_, (N _ ha).1, rfl, _, rfl⟩
  have lb : s.heap.IsList b ys.toArray := ⟨_, (N _ hb).1, rfl, _, rfl⟩
  refine RcNeAt.lists la lb (by simpa using e) hu (e := fun _ => true) (fun j h1 h2 => ?_) prog w E Q ?_
  · simpa using k A.in1 j (by simpa using h1) (by simpa using h2)
  · rw [all_tt]; exact hQ
theorem ne_tuples_same {Q : Value → Shared → Prop} (N : News h₀ L s.heap news) (ha : (a, ({ cls := .type "tuple", data := .seq xs.toArray n } : Obj)) ∈ news) (hb : (b, ({ cls := .type "tuple", data := .seq ys.toArray n2 } : Obj)) ∈ news) (hu : A.units < cLine) (h : AllEq s xs ys) (hQ : Q (.bool false) s) :
    wpAny (model prog w) A (compareOp .NotEq (.ref a) (.ref b)) Q E s := by
  obtain ⟨e, k⟩ := h.at
  have la : s.heap.IsTuple a xs.toArray := ⟨_, (N _ ha).1, rfl, _, rfl⟩
  have lb : s.heap.IsTuple b ys.toArray := ⟨_, (N _ hb).1, rfl, _, rfl⟩
  refine RcNeAt.tuples la lb hu (e := fun _ => true) (fun j h1 h2 => ?_) prog w E Q ?_
  · simpa using k A.in1 j (by simpa using h1) (by simpa using h2)
  · rw [all_tt]; simpa [e] using hQ
end
theorem eqAt_bool {s : Shared} {x y : Bool} (h : x = y) : ∀ A, SeqAt.EqAt A s (.bool x) (.bool y) true := fun A => by
  subst h
  have := SeqAt.EqAt.bool_bool (A := A) (s := s) x x
  simpa using this

theorem gen_toks {M : Model} {A : Around} {env : Env} {body : List Stmt} {Q : Flow → Shared → Prop} {E : Value → Shared → Prop} {hp : Heap} {gens : Array GenState} {drawn : Drawn} {X : Nat} {os : OsState}
    (h : ∀ tk : Nat, 0 < tk → wpAny M A (execs body env) Q E ⟨hp, gens, drawn, tk, os⟩) : wpAny M A (execs body env) Q E ⟨hp, gens, drawn, X + 1, os⟩ := h _ (Nat.succ_pos _)
end Mine

namespace Mine
open PySem PySem.W PyProof.Rows PySem.Calls

noncomputable def TurnEnd (h₀ : Heap) (L I : Addr) (oI : Obj) (J : (Str → Option Value) → List (Addr × Obj) → Prop) (s₁ : Shared) (Q : Flow → Shared → Prop) (f : Flow) (s₂ : Shared) : Prop :=
  match f with
  | .ret v => Q (.ret v) s₂
  | .brk => Q .next s₂
  | _ => ∃ h' tk m' nx, s₂ = { s₁ with heap := h', toks := tk } ∧ Fr h₀ L h' m' ∧ News h₀ L h' ((I, oI) :: nx) ∧ (∀ p ∈ nx, p.1 ≠ I) ∧ J m' nx

theorem turn_end {h₀ h' : Heap} {L I : Addr} {oI : Obj} {J : (Str → Option Value) → List (Addr × Obj) → Prop} {s₁ : Shared} {tk : Nat} {m' : Str → Option Value} {led nx : List (Addr × Obj)}
    (F : Fr h₀ L h' m') (N : News h₀ L h' led) (hs : ∀ p ∈ (I, oI) :: nx, p ∈ led) (ha : ∀ p ∈ nx, p.1 ≠ I) (hj : J m' nx) :
    ∃ h'' tk' m'' nx', ({ s₁ with heap := h', toks := tk } : Shared) = { s₁ with heap := h'', toks := tk' } ∧ Fr h₀ L h'' m'' ∧ News h₀ L h'' ((I, oI) :: nx') ∧ (∀ p ∈ nx', p.1 ≠ I) ∧ J m'' nx' :=
  ⟨h', tk, m', nx, rfl, F, fun p hp => N p (hs p hp), ha, hj⟩

section
variable {prog : Program} {w : World} {A : Around} {E : Value → Shared → Prop} {s : Shared} {env : Env} {h₀ : Heap} {x : Str} {body orelse : List Stmt} {Q : Flow → Shared → Prop}

noncomputable def LoopR (prog : Program) (w : World) (A : Around) (env : Env) (x : Str) (px : Pos) (body orelse : List Stmt) (Q : Flow → Shared → Prop) (E : Value → Shared → Prop) (xv : Value) (s₁ : Shared) : Prop :=
  wpAny (model prog w) A (pyIter xv) (fun it s₂ => codeAny (model prog w) A (.forLoop (.Name x px) it body orelse env) (fun r s' => match r with | .ok f => Q f s' | .error e => cameBackBy (model prog w) A env E e s') s₂) E s₁

theorem For_R {px pos : Pos} {iter : Expr} (h : wpAny (model prog w) A (eval iter env) (LoopR prog w A env x px body orelse Q E) E s)
    (hs : ∀ x, foldedSetIterable iter env x = pure x := by intro _; rfl) :
    wpAny (model prog w) A (exec (.For (.Name x px) iter body orelse pos) env) Q E s := wpAny_For h hs

theorem loopR_range {px : Pos} {r : Addr} {a₀ b₀ : Int} {t₀ u₀ v₀ : Tok} {n : Nat} {m₀ : Str → Option Value} {news : List (Addr × Obj)} (J : Nat → (Str → Option Value) → List (Addr × Obj) → Prop)
    (hh : A.handled = none) (hx : env.kindOf x = some .local) (hp : (env.scope.kind == .class || (env.scope.kind == .module && env.locals != env.globals)) = false) (hE : PassesOwn (model prog w) A env E)
    (hr : IsRange s.heap r a₀ b₀ 1 t₀ u₀ v₀) (hsmall : Builtin.Range.small a₀ b₀ 1 = true) (hn : Builtin.Range.rangeSize a₀ b₀ 1 = (n : Int)) (F : Fr h₀ env.locals s.heap m₀) (N : News h₀ env.locals s.heap news) (h0 : J 0 m₀ news)
    (turn : ∀ i t m₁ nx h tk I oI, i < n → J i m₁ nx → (∀ p ∈ nx, p.1 ≠ I) → Fr h₀ env.locals h (fun y => if y = x then some (.int (a₀ + (i : Int)) t) else m₁ y) → News h₀ env.locals h ((I, oI) :: nx) →
      wpAny (model prog w) A (execs body env) (TurnEnd h₀ env.locals I oI (J (i + 1)) { s with heap := h, toks := tk } Q) E { s with heap := h, toks := tk })
    (done : ∀ m₁ nx h tk, J n m₁ nx → Fr h₀ env.locals h m₁ → News h₀ env.locals h nx → wpAny (model prog w) A (execs orelse env) Q E { s with heap := h, toks := tk }) :
    LoopR prog w A env x px body orelse Q E (.ref r) s := by
  unfold LoopR
  refine wpAny_pyIter_range hr hsmall ?_
  generalize hI : s.heap.objs.size = I
  have hLI : env.locals ≠ I := by rw [← hI]; exact Nat.ne_of_lt F.ns.lt
  have hI₀ : h₀.get? I = none := by rw [← hI]; exact next_is_new F
  have hIt : ∀ i, i < n → ∀ (h : Heap), IsRangeIter h I (a₀ + (i : Nat) * 1) ((n : Int) - (i : Nat)) 1 → ∃ o, h.get? I = some o := fun i _ h st => ⟨_, st⟩
  have W := Walks.range (prog := prog) (w := w) hh I a₀ 1 n
  refine codeAny_forLoop
    (fun k s' => ∃ h' tk m' nx i, s' = { s with heap := h', toks := tk } ∧ IsRangeIter h' I (a₀ + (i : Nat) * 1) ((n : Int) - (i : Nat)) 1 ∧ Fr h₀ env.locals h' m' ∧ News h₀ env.locals h' nx ∧ (∀ p ∈ nx, p.1 ≠ I) ∧ J i m' nx ∧ i ≤ n ∧ k = n + 1 - i) ?_ (n + 1)
    ⟨_, s.toks, m₀, news, 0, rfl, ?_, F.push _, (fun p hp => ⟨Heap.get?_push_of_some _ (N p hp).1, (N p hp).2⟩), (fun p hp => by rw [← hI]; exact Nat.ne_of_lt (Heap.lt_size (N p hp).1)), h0, Nat.zero_le _, rfl⟩
  · rintro k s' ⟨h', tk, m', nx, i, rfl, hst, F', N', hoff, hJ, hi, rfl⟩
    by_cases hlt : i < n
    · refine W.item i _ _ _ hlt hst fun v h₁ tk₁ hv hst₁ hk₁ => ?_
      obtain ⟨t, rfl⟩ := hv
      have F₁ := LCg.fr_but F' hk₁ hLI hI₀
      have N₁ := LCg.news_but N' hk₁ hoff
      refine wpAny_assign_Name (wpAny_storeName_local hx F₁.ns (fun h₂ hn₂ hs₂ => ?_) hp)
      have F₂ := F₁.set hn₂ hs₂
      have N₂ := N₁.set hs₂
      have zI : h₁.get? I = some _ := hst₁
      have zI₂ := hs₂.extBut I _ (Ne.symm hLI) zI
      have NI : News h₀ env.locals h₂ ((I, _) :: nx) := fun p hp => by
        rcases List.mem_cons.mp hp with rfl | hp
        · exact ⟨zI₂, Ne.symm hLI, hI₀⟩
        · exact N₂ p hp
      have e1 : a₀ + (i : Int) * 1 = a₀ + (i : Int) := by omega
      rw [e1] at F₂
      refine wpAny_passesOwn hE (wpAny_mono (turn i t m' nx h₂ _ I _ hlt hJ hoff F₂ NI) (fun f s₃ h₃ => ?_) fun _ _ e => e)
      cases f with
      | ret v => exact h₃
      | brk => exact h₃
      | next =>
        obtain ⟨h₄, tk₄, m₄, nx₄, rfl, F₄, N₄, off₄, J₄⟩ := h₃
        exact ⟨n + 1 - (i + 1), by omega, h₄, tk₄, m₄, nx₄, i + 1, rfl, (N₄ _ (.head _)).1, F₄, (fun p hp => N₄ p (.tail _ hp)), off₄, J₄, hlt, rfl⟩
      | cont =>
        obtain ⟨h₄, tk₄, m₄, nx₄, rfl, F₄, N₄, off₄, J₄⟩ := h₃
        exact ⟨n + 1 - (i + 1), by omega, h₄, tk₄, m₄, nx₄, i + 1, rfl, (N₄ _ (.head _)).1, F₄, (fun p hp => N₄ p (.tail _ hp)), off₄, J₄, hlt, rfl⟩
    · obtain rfl : i = n := by omega
      refine W.done _ _ _ hst fun h₁ tk₁ hk₁ => ?_
      exact wpAny_passesOwn hE (done m' nx h₁ tk₁ hJ (LCg.fr_but F' hk₁ hLI hI₀) (LCg.news_but N' hk₁ hoff))
  · show IsRangeIter _ _ _ _ _
    rw [hn, ← hI]
    simpa using Heap.get?_push_size _ rfl
end
end Mine
namespace Mine
open PySem PySem.W PyProof.Rows PySem.Calls
section
variable {prog : Program} {w : World} {A : Around} {E : Value → Shared → Prop} {s : Shared} {env : Env} {h₀ : Heap} {x : Str} {body orelse : List Stmt} {Q : Flow → Shared → Prop}
theorem loopR_list {px : Pos} {l : Addr} {vs : List Value} {ns : List Int} {c : Nat} {m₀ : Str → Option Value} {news : List (Addr × Obj)} (J : Nat → (Str → Option Value) → List (Addr × Obj) → Prop)
    (hh : A.handled = none) (hx : env.kindOf x = some .local) (hp : (env.scope.kind == .class || (env.scope.kind == .module && env.locals != env.globals)) = false) (hE : PassesOwn (model prog w) A env E)
    (hi : IntsAre vs ns) (F : Fr h₀ env.locals s.heap m₀) (N : News h₀ env.locals s.heap news) (hJl : ∀ i m nx, J i m nx → (l, W.listOf vs.toArray c) ∈ nx) (h0 : J 0 m₀ news)
    (turn : ∀ i a t m₁ nx h tk I oI, ns[i]? = some a → J i m₁ nx → (∀ p ∈ nx, p.1 ≠ I) → Fr h₀ env.locals h (fun y => if y = x then some (.int a t) else m₁ y) → News h₀ env.locals h ((I, oI) :: nx) →
      wpAny (model prog w) A (execs body env) (TurnEnd h₀ env.locals I oI (J (i + 1)) { s with heap := h, toks := tk } Q) E { s with heap := h, toks := tk })
    (done : ∀ m₁ nx h tk, J ns.length m₁ nx → Fr h₀ env.locals h m₁ → News h₀ env.locals h nx → wpAny (model prog w) A (execs orelse env) Q E { s with heap := h, toks := tk }) :
    LoopR prog w A env x px body orelse Q E (.ref l) s := by
  unfold LoopR
  have hml := hJl 0 m₀ news h0
  have hls : s.heap.IsList l vs.toArray := News.isList N hml
  refine wpAny_pyIter_list hls ?_
  have hlt : l < s.heap.objs.size := Heap.lt_size (N _ hml).1
  generalize hI : s.heap.objs.size = I at *
  have hLI : env.locals ≠ I := by rw [← hI]; exact Nat.ne_of_lt F.ns.lt
  have hI₀ : h₀.get? I = none := by rw [← hI]; exact next_is_new F
  have hne : l ≠ I := Nat.ne_of_lt hlt
  have W := Walks.list (prog := prog) (w := w) hh I l hne vs.toArray
  have hlen : vs.toArray.size = ns.length := by simp [hi.length]
  rw [hlen] at W
  have F0 : Fr h₀ env.locals (s.heap.push { cls := .type "list_iterator", data := .fields #[.ref l, .int 0 0] }) m₀ := F.push _
  refine codeAny_forLoop
    (fun k s' => ∃ h' tk m' nx i, s' = { s with heap := h', toks := tk } ∧ h'.IsListIter I l i ∧ Fr h₀ env.locals h' m' ∧ News h₀ env.locals h' nx ∧ (∀ p ∈ nx, p.1 ≠ I) ∧ J i m' nx ∧ i ≤ ns.length ∧ k = ns.length + 1 - i) ?_ (ns.length + 1)
    ⟨_, s.toks, m₀, news, 0, rfl, ?_, F0, (fun p hp => ⟨Heap.get?_push_of_some _ (N p hp).1, (N p hp).2⟩), (fun p hp => by rw [← hI]; exact Nat.ne_of_lt (Heap.lt_size (N p hp).1)), h0, Nat.zero_le _, rfl⟩
  · rintro k s' ⟨h', tk, m', nx, i, rfl, hst, F', N', hoff, hJ, hi', rfl⟩
    have hl' : h'.IsList l vs.toArray := News.isList N' (hJl i m' nx hJ)
    by_cases hlt : i < ns.length
    · refine W.item i _ _ _ hlt ⟨hst, hl'⟩ fun v h₁ tk₁ hv hst₁ hk₁ => ?_
      obtain ⟨t, hxv⟩ := hi.get i ns[i] (by simp [hlt])
      have hv' : v = .int ns[i] t := by
        have hP' : vs[i]? = some v := by simpa using hv
        rw [hxv] at hP'; exact (Option.some.inj hP').symm
      subst hv'
      have F₁ := LCg.fr_but F' (fun b o hb => hk₁ b o hb) hLI hI₀
      have N₁ := LCg.news_but N' (fun b o hb => hk₁ b o hb) hoff
      obtain ⟨oI, zI, zc, zd⟩ := hst₁.1
      refine wpAny_assign_Name (wpAny_storeName_local hx F₁.ns (fun h₂ hn₂ hs₂ => ?_) hp)
      have F₂ := F₁.set hn₂ hs₂
      have N₂ := N₁.set hs₂
      have zI₂ := hs₂.extBut I _ (Ne.symm hLI) zI
      have NI : News h₀ env.locals h₂ ((I, oI) :: nx) := fun p hp => by
        rcases List.mem_cons.mp hp with rfl | hp
        · exact ⟨zI₂, Ne.symm hLI, hI₀⟩
        · exact N₂ p hp
      refine wpAny_passesOwn hE (wpAny_mono (turn i ns[i] t m' nx h₂ _ I oI (by simp [hlt]) hJ hoff F₂ NI) (fun f s₃ h₃ => ?_) fun _ _ e => e)
      cases f with
      | ret v => exact h₃
      | brk => exact h₃
      | next =>
        obtain ⟨h₄, tk₄, m₄, nx₄, rfl, F₄, N₄, off₄, J₄⟩ := h₃
        exact ⟨ns.length + 1 - (i + 1), by omega, h₄, tk₄, m₄, nx₄, i + 1, rfl, ⟨oI, (N₄ _ (.head _)).1, zc, zd⟩, F₄, (fun p hp => N₄ p (.tail _ hp)), off₄, J₄, hlt, rfl⟩
      | cont =>
        obtain ⟨h₄, tk₄, m₄, nx₄, rfl, F₄, N₄, off₄, J₄⟩ := h₃
        exact ⟨ns.length + 1 - (i + 1), by omega, h₄, tk₄, m₄, nx₄, i + 1, rfl, ⟨oI, (N₄ _ (.head _)).1, zc, zd⟩, F₄, (fun p hp => N₄ p (.tail _ hp)), off₄, J₄, hlt, rfl⟩
    · obtain rfl : i = ns.length := by omega
      refine W.done _ _ _ ⟨hst, hl'⟩ fun h₁ tk₁ hk₁ => ?_
      exact wpAny_passesOwn hE (done m' nx h₁ tk₁ hJ (LCg.fr_but F' hk₁ hLI hI₀) (LCg.news_but N' hk₁ hoff))
  · rw [← hI]
    exact ⟨_, Heap.get?_push_size _ rfl, rfl, rfl⟩
end
end Mine
namespace Mine
open PySem PySem.W PyProof.Rows PySem.Calls PyProof.Rows.LCg PyProof.Rows.LCt
section
variable {prog : Program} {w : World} {A : Around} {s : Shared} {h₀ : Heap} {L : Addr} {m : Str → Option Value} {env : Env}
/-- a comprehension with a test, by what holds of the list so far -/
theorem compT_inv {ct elt : Expr} {x : Str} {scope : Scope} {cl : List (Str × Addr)} {S : List (Addr × Obj) → Prop} {P : Nat → Value → Prop} {Fin : List Value → List (Addr × Obj) → Prop} {n : Nat} {news : List (Addr × Obj)}
    (J : Nat → List Value → Prop) (h0 : J 0 [])
    (turn : ∀ i ys v I oI C oC D m₂ h tk (E' : Value → Shared → Prop), i < n → J i ys → P i v → NsObj oC m₂ → m₂ x = some v → Fr h₀ L h m → News h₀ L h ((I, oI) :: (C, oC) :: (D, lst ys) :: news) → Off3 I C D news → ((@Ne Nat I C) ∧ (@Ne Nat I D) ∧ (@Ne Nat C D)) →
      wpAny (model prog w) A (isTrue ct (compEnvC scope cl C env) (eval ct (compEnvC scope cl C env))) (fun ok s' => if ok = true then
        wpAny (model prog w) A (eval elt (compEnvC scope cl C env)) (CompEnd h₀ L m { s with heap := h, toks := tk } I oI C oC D (lst ys) S (fun y news' => news' = news ∧ J (i + 1) (ys ++ [y]))) E' s'
        else CompEnd h₀ L m { s with heap := h, toks := tk } I oI C oC D (lst ys) S (fun _ news' => news' = news ∧ J (i + 1) ys) Value.none s') E' { s with heap := h, toks := tk })
    (fin : ∀ ys, J n ys → Fin ys news) : CompRestT prog w A h₀ L m env ct elt x scope cl s S P Fin n 0 [] news := by
  have key : ∀ k i ys, i + k = n → J i ys → CompRestT prog w A h₀ L m env ct elt x scope cl s S P Fin k i ys news := by
    intro k
    induction k with
    | zero =>
      intro i ys hi hJ
      exact CompRestT.zero (fin ys (by rw [← hi]; exact hJ))
    | succ k ih =>
      intro i ys hi hJ
      refine CompRestT.succ fun v I oI C oC D m₂ h tk E' hP hC hx F N off ne => ?_
      refine wpAny_mono (turn i ys v I oI C oC D m₂ h tk E' (by omega) hJ hP hC hx F N off ne) (fun ok s' q => ?_) fun _ _ e => e
      cases ok with
      | true =>
        simp only [if_true] at q ⊢
        refine wpAny_mono q (fun y s₂ z => ?_) fun _ _ e => e
        obtain ⟨h', tk', news', e, F', N', off', hS, rfl, hJ'⟩ := z
        exact ⟨h', tk', _, e, F', N', off', hS, ih (i + 1) _ (by omega) hJ'⟩
      | false =>
        simp only [Bool.false_eq_true, if_false] at q ⊢
        obtain ⟨h', tk', news', e, F', N', off', hS, rfl, hJ'⟩ := q
        exact ⟨h', tk', _, e, F', N', off', hS, ih (i + 1) _ (by omega) hJ'⟩
  exact key n 0 [] (Nat.zero_add n) h0
/-- a comprehension without a test -/
theorem compU_inv {elt : Expr} {x : Str} {scope : Scope} {cl : List (Str × Addr)} {S : List (Addr × Obj) → Prop} {P : Nat → Value → Prop} {Fin : List Value → List (Addr × Obj) → Prop} {n : Nat} {news : List (Addr × Obj)}
    (J : Nat → List Value → Prop) (h0 : J 0 [])
    (turn : ∀ i ys v I oI C oC D m₂ h tk (E' : Value → Shared → Prop), i < n → J i ys → P i v → NsObj oC m₂ → m₂ x = some v → Fr h₀ L h m → News h₀ L h ((I, oI) :: (C, oC) :: (D, lst ys) :: news) → Off3 I C D news → ((@Ne Nat I C) ∧ (@Ne Nat I D) ∧ (@Ne Nat C D)) →
      wpAny (model prog w) A (eval elt (compEnvC scope cl C env)) (CompEnd h₀ L m { s with heap := h, toks := tk } I oI C oC D (lst ys) S (fun y news' => news' = news ∧ J (i + 1) (ys ++ [y]))) E' { s with heap := h, toks := tk })
    (fin : ∀ ys, J n ys → Fin ys news) : CompRest prog w A h₀ L m env elt x scope cl s S P Fin n 0 [] news := by
  have key : ∀ k i ys, i + k = n → J i ys → CompRest prog w A h₀ L m env elt x scope cl s S P Fin k i ys news := by
    intro k
    induction k with
    | zero =>
      intro i ys hi hJ
      exact CompRest.zero (fin ys (by rw [← hi]; exact hJ))
    | succ k ih =>
      intro i ys hi hJ
      refine CompRest.succ fun v I oI C oC D m₂ h tk E' hP hC hx F N off ne => ?_
      refine wpAny_mono (turn i ys v I oI C oC D m₂ h tk E' (by omega) hJ hP hC hx F N off ne) (fun y s₂ z => ?_) fun _ _ e => e
      obtain ⟨h', tk', news', e, F', N', off', hS, rfl, hJ'⟩ := z
      exact ⟨h', tk', _, e, F', N', off', hS, ih (i + 1) _ (by omega) hJ'⟩
  exact key n 0 [] (Nat.zero_add n) h0
end
theorem ks_succ (a : Int) (n : Nat) : rangeKs a (n + 1) = rangeKs a n ++ [a + (n : Int)] := by
  unfold rangeKs
  rw [List.range_succ, List.map_append]
  rfl
theorem filt_in {p : Int → Bool} {i : Nat} {ys : List Value} {t : Tok} (h : IntsAre ys ((rangeKs 0 i).filter p)) (hp : p (0 + (i : Int)) = true) : IntsAre (ys ++ [.int (0 + (i : Int)) t]) ((rangeKs 0 (i + 1)).filter p) := by
  rw [ks_succ, List.filter_append, List.filter_cons_of_pos hp]
  exact h.append (.cons _ _ .nil)
theorem filt_out {p : Int → Bool} {i : Nat} {ys : List Value} (h : IntsAre ys ((rangeKs 0 i).filter p)) (hp : p (0 + (i : Int)) = false) : IntsAre ys ((rangeKs 0 (i + 1)).filter p) := by
  rw [ks_succ, List.filter_append, List.filter_cons_of_neg (by rw [hp]; exact Bool.false_ne_true), List.filter_nil, List.append_nil]
  exact h
theorem filtm_in {p : Int → Bool} {f : Int → Int} {i : Nat} {ys : List Value} {t : Tok} (h : IntsAre ys (((rangeKs 0 i).filter p).map f)) (hp : p (0 + (i : Int)) = true) : IntsAre (ys ++ [.int (f (0 + (i : Int))) t]) (((rangeKs 0 (i + 1)).filter p).map f) := by
  rw [ks_succ, List.filter_append, List.filter_cons_of_pos hp, List.map_append]
  exact h.append (.cons _ _ .nil)
theorem filtm_out {p : Int → Bool} {f : Int → Int} {i : Nat} {ys : List Value} (h : IntsAre ys (((rangeKs 0 i).filter p).map f)) (hp : p (0 + (i : Int)) = false) : IntsAre ys (((rangeKs 0 (i + 1)).filter p).map f) := by
  rw [ks_succ, List.filter_append, List.filter_cons_of_neg (by rw [hp]; exact Bool.false_ne_true), List.filter_nil, List.append_nil]
  exact h
end Mine
namespace Mine
open PySem PySem.W PyProof.Rows PySem.Calls PyProof.V
noncomputable def flagL : List (Int × String) := [(1, "OPTIMIZED"), (2, "NEWLOCALS"), (4, "VARARGS"), (8, "VARKEYWORDS"), (16, "NESTED"), (32, "GENERATOR"), (64, "NOFREE"), (128, "COROUTINE"), (256, "ITERABLE_COROUTINE"), (512, "ASYNC_GENERATOR")]
noncomputable def flagD : List (PyData × PyData) := flagL.map fun p => (.int p.1, .str (Str.ofString p.2))
noncomputable def flagName (i : Nat) : Str := match flagL[i]? with | some p => Str.ofString p.2 | none => PySem.baseText "0x" 16 (2 ^ i)

theorem flagTab : ∀ (prog : Program) (w : World) (h : Heap), (Mine.gen.heap_1 w.params).In h → PySem.Challenge.rw_wf0054_01 = PySem.Challenge.rw_wf0054_01 → IntTab prog w h 29 flagD := by
  k_fill
  intro prog w h X _
  refine ⟨by decide, [(1, .str (Str.ofString "OPTIMIZED") 225), (2, .str (Str.ofString "NEWLOCALS") 227), (4, .str (Str.ofString "VARARGS") 229), (8, .str (Str.ofString "VARKEYWORDS") 231), (16, .str (Str.ofString "NESTED") 233), (32, .str (Str.ofString "GENERATOR") 235), (64, .str (Str.ofString "NOFREE") 237), (128, .str (Str.ofString "COROUTINE") 239), (256, .str (Str.ofString "ITERABLE_COROUTINE") 241), (512, .str (Str.ofString "ASYNC_GENERATOR") 243)], ⟨_, _, _, X 29 _ (by k_is), ⟨rfl, rfl, rfl⟩, rfl, ?_, ?_, by decide⟩, ?_⟩
  · intro e he
    simp only [List.mem_toArray, List.mem_cons, List.not_mem_nil, or_false] at he
    rcases he with rfl | rfl | rfl | rfl | rfl | rfl | rfl | rfl | rfl | rfl
    · exact ⟨1, by with_unfolding_all rfl, by with_unfolding_all rfl⟩
    · exact ⟨2, by with_unfolding_all rfl, by with_unfolding_all rfl⟩
    · exact ⟨4, by with_unfolding_all rfl, by with_unfolding_all rfl⟩
    · exact ⟨8, by with_unfolding_all rfl, by with_unfolding_all rfl⟩
    · exact ⟨16, by with_unfolding_all rfl, by with_unfolding_all rfl⟩
    · exact ⟨32, by with_unfolding_all rfl, by with_unfolding_all rfl⟩
    · exact ⟨64, by with_unfolding_all rfl, by with_unfolding_all rfl⟩
    · exact ⟨128, by with_unfolding_all rfl, by with_unfolding_all rfl⟩
    · exact ⟨256, by with_unfolding_all rfl, by with_unfolding_all rfl⟩
    · exact ⟨512, by with_unfolding_all rfl, by with_unfolding_all rfl⟩
  · repeat (first | exact Pairs.nil | refine Pairs.cons (by rfl) rfl ?_)
  · repeat (first | exact FlatPairs.nil | refine FlatPairs.cons (Flat.str _ _) ?_)
theorem flag_look : ∀ (i : Nat), i < 32 → (Spec.lookup (.int ((2 : Int) ^ i)) flagD).getD (.str (baseText "0x" 16 ((2 : Int) ^ i))) = .str (flagName i)
  | 0, _ => rfl
  | 1, _ => rfl
  | 2, _ => rfl
  | 3, _ => rfl
  | 4, _ => rfl
  | 5, _ => rfl
  | 6, _ => rfl
  | 7, _ => rfl
  | 8, _ => rfl
  | 9, _ => rfl
  | 10, _ => rfl
  | 11, _ => rfl
  | 12, _ => rfl
  | 13, _ => rfl
  | 14, _ => rfl
  | 15, _ => rfl
  | 16, _ => rfl
  | 17, _ => rfl
  | 18, _ => rfl
  | 19, _ => rfl
  | 20, _ => rfl
  | 21, _ => rfl
  | 22, _ => rfl
  | 23, _ => rfl
  | 24, _ => rfl
  | 25, _ => rfl
  | 26, _ => rfl
  | 27, _ => rfl
  | 28, _ => rfl
  | 29, _ => rfl
  | 30, _ => rfl
  | 31, _ => rfl
  | n + 32, h => absurd h (by omega)
theorem baseText_le {i : Nat} (hi : i < 32) : (baseText "0x" 16 ((2 : Int) ^ i)).length ≤ 20 := by
  have key : ((List.range 32).all fun i => decide ((baseText "0x" 16 ((2 : Int) ^ i)).length ≤ 20)) = true := by decide +kernel
  exact of_decide_eq_true (List.all_eq_true.mp key i (List.mem_range.mpr hi))
theorem pow_key (i : Nat) : (1 * 2 ^ (0 + (i : Int)).toNat : Int) = 2 ^ i := by
  rw [Int.one_mul]
  congr 1
  omega
theorem hex_fits {i : Nat} (hi : i < 32) : (baseText "0x" 16 (1 * 2 ^ (0 + (i : Int)).toNat)).length ≤ sizeLine := by
  rw [pow_key]
  refine Nat.le_trans (baseText_le hi) ?_
  rw [PySem.sizeLine_eq]; omega
section
variable {prog : Program} {w : World} {A : Around} {E : Value → Shared → Prop} {s : Shared} {i : Nat} {t1 t2 : Tok}
theorem get_flag {Q : Value → Shared → Prop} (X : (Mine.gen.heap_1 w.params).In s.heap) (hi : i < 32) (h : ∀ t, Q (.str (flagName i) t) { s with toks := s.toks + 1 }) :
    wpAny (model prog w) A (call (.builtin "dict.get") [.ref 29, .int (1 * 2 ^ (0 + (i : Int)).toNat) t1, .str (baseText "0x" 16 (1 * 2 ^ (0 + (i : Int)).toNat)) t2]) Q E s := by
  rw [pow_key]
  refine call_get2_intTab (flagTab prog w s.heap X rfl) (Flat.str _ _) fun v hv => ?_
  rw [flag_look i hi] at hv
  have hv' := hv s.heap
  cases hv'
  exact h _
end
end Mine
namespace Mine
open PySem PySem.W PyProof.Rows PySem.Calls
theorem lt_off {d : Addr} : ∀ {l : List (Addr × Obj)}, AllLt d l → LCg.Off1 d l
  | [], _ => trivial
  | _ :: _, h => ⟨Nat.ne_of_lt h.1, lt_off h.2⟩
theorem off_all {d : Addr} {l : List (Addr × Obj)} (h : LCg.Off1 d l) : ∀ p ∈ l, p.1 ≠ d := by
  induction l with
  | nil => intro p hp; cases hp
  | cons q r ih =>
    intro p hp
    rcases List.mem_cons.mp hp with rfl | hp
    · exact h.1
    · exact ih h.2 p hp
theorem all_off {d : Addr} : ∀ {l : List (Addr × Obj)}, (∀ p ∈ l, p.1 ≠ d) → LCg.Off1 d l
  | [], _ => trivial
  | _ :: _, h => ⟨h _ (.head _), all_off fun p hp => h p (.tail _ hp)⟩
end Mine
namespace Mine
open PySem PySem.W PyProof.Rows PySem.Calls
/-- the object of an iterator that stands at place i of the list l -/
noncomputable def litO (l : Addr) (i : Nat) : Obj := { cls := .type "list_iterator", data := .fields #[.ref l, .int i 0] }
section
variable {prog : Program} {w : World} {A : Around} {E : Value → Shared → Prop} {s : Shared} {h₀ : Heap} {L l it : Addr} {m : Str → Option Value} {news pre post : List (Addr × Obj)} {n i : Nat} {xs : List Value} {x : Value}
theorem iter_list {Q : Value → Shared → Prop} (F : Fr h₀ L s.heap m) (N : News h₀ L s.heap news) (hl : s.heap.IsList l xs.toArray)
    (h : ∀ (I : Addr) h', Fr h₀ L h' m → News h₀ L h' ((I, litO l 0) :: news) → LCg.Off1 I news → (∀ b o, s.heap.get? b = some o → h'.get? b = some o) → Q (.ref I) { s with heap := h' }) :
    wpAny (model prog w) A (call (.builtin "iter") [.ref l]) Q E s := by
  refine call_function_entry (by decide +kernel) (by decide +kernel) kdk_entry_iter (kdk_args_iter _) ?_
  unfold Builtin.«iter»
  refine wpAny_bind (m := someArgs "iter" 1 2 _) (wpAny_of_eq (a := [Value.ref l]) (by first | rfl | kernel_rfl!) ?_)
  show wpAny _ _ (pyIter (.ref l) >>= _) _ _ _
  refine wpAny_bind (wpAny_pyIter_list hl ?_)
  refine wpAny_pure ⟨_, rfl, h _ _ (F.push _) (News.push F N _ rfl) ?_ (fun b o e => Heap.get?_push_of_some _ e)⟩
  have key : ∀ r : List (Addr × Obj), (∀ q ∈ r, q.1 < s.heap.objs.size) → LCg.Off1 s.heap.objs.size r := by
    intro r
    induction r with
    | nil => intro _; trivial
    | cons q r ih => exact fun hr => ⟨Nat.ne_of_lt (hr _ (.head _)), ih fun p hp => hr p (.tail _ hp)⟩
  exact key _ fun q hq => Heap.lt_size (N q hq).1
theorem lit_at {h : Heap} {io : Obj} (e : io = litO l i) (ho : h.get? it = some io) : h.IsListIter it l i := ⟨io, ho, by rw [e]; rfl, by rw [e]; rfl⟩
theorem next_item {Q : Value → Shared → Prop} (hit : s.heap.IsListIter it l i) (hl : s.heap.IsList l xs.toArray) (hx : xs[i]? = some x)
    (h : ∀ h', h'.get? it = some { (litO l (i + 1)) with dict := ((s.heap.get? it).bind (·.dict)), slots := ((s.heap.get? it).map (·.slots)).getD #[] } → Heap.SameBut it s.heap h' → Q x { s with heap := h' }) :
    wpAny (model prog w) A (call (.builtin "next") [.ref it]) Q E s := by
  obtain ⟨o, ho, hc, hd⟩ := id hit
  obtain ⟨ol, hol, _, nl, hdl⟩ := hl
  refine call_function_entry (by decide +kernel) (by decide +kernel) kdk_entry_next (kdk_args_next _) ?_
  unfold Builtin.«next»
  refine wpAny_bind (m := someArgs "next" 1 2 _) (wpAny_of_eq (a := [Value.ref it]) (by first | rfl | kernel_rfl!) ?_)
  dsimp only
  refine wpAny_bind (wpAny_specialOf (name := Str.ofString "__next__") hit.typeIs slot_listiter_next.lookup ?_)
  refine wpAny_ite_split (fun hab => absurd hab (by decide)) (fun _ => ?_)
  refine wpAny_bind (wpAny_callSpecial?_slot (name := Str.ofString "__next__") hit.typeIs slot_listiter_next
    (wpAny_call_entry slot_listiter_next hit.typeIs entry_listiter_next ?_ (args_listiter_next _)))
  show wpAny _ _ (field (.ref it) 0 >>= _) _ _ s
  refine wpAny_bind (wpAny_field ho hd (x := .ref l) rfl ?_)
  show wpAny _ _ (if (Value.ref l == Value.none) = true then _ else _) _ _ s
  rw [if_neg (show ¬ ((Value.ref l == Value.none) = true) from Bool.false_ne_true)]
  show wpAny _ _ (field (.ref it) 1 >>= _) _ _ s
  refine wpAny_bind (wpAny_field ho hd (x := .int i 0) rfl ?_)
  show wpAny _ _ (seqItems? (.ref l) >>= _) _ _ s
  refine wpAny_bind (wpAny_seqItems hol hdl ?_)
  have hx' : xs.toArray[i]? = some x := by simpa using hx
  simp only [Int.toNat_natCast, hx']
  refine wpAny_bind (wpAny_setField ho hd (by simp) (wpAny_pure ⟨x, rfl, wpAny_pure ⟨_, rfl, h _ ?_ (Heap.SameBut.update ..)⟩⟩))
  rw [Heap.get?_update_self _ ho (Obj.isFreed_of_fields (Obj.data_mapFields hd _)), ho]
  obtain ⟨c, d, dt, sl⟩ := o
  cases hc
  cases hd
  simp [litO, Obj.mapFields, rawInt]
theorem next_end {Q : Value → Shared → Prop} (hh : A.handled = none) (hit : s.heap.IsListIter it l i) (hl : s.heap.IsList l xs.toArray) (hx : xs[i]? = none)
    (h : ∀ h₁ h' e, h₁.get? it = some (Obj.mapFields (·.setIfInBounds 0 .none) ((s.heap.get? it).getD default)) → Heap.SameBut it s.heap h₁ → Heap.NewExc h₁ h' e "StopIteration" → E (.ref e) { s with heap := h' }) :
    wpAny (model prog w) A (call (.builtin "next") [.ref it]) Q E s := by
  obtain ⟨o, ho, hc, hd⟩ := id hit
  obtain ⟨ol, hol, _, nl, hdl⟩ := hl
  refine call_function_entry (by decide +kernel) (by decide +kernel) kdk_entry_next (kdk_args_next _) ?_
  unfold Builtin.«next»
  refine wpAny_bind (m := someArgs "next" 1 2 _) (wpAny_of_eq (a := [Value.ref it]) (by first | rfl | kernel_rfl!) ?_)
  dsimp only
  refine wpAny_bind (wpAny_specialOf (name := Str.ofString "__next__") hit.typeIs slot_listiter_next.lookup ?_)
  refine wpAny_ite_split (fun hab => absurd hab (by decide)) (fun _ => ?_)
  refine wpAny_bind (wpAny_callSpecial?_slot (name := Str.ofString "__next__") hit.typeIs slot_listiter_next
    (wpAny_call_entry slot_listiter_next hit.typeIs entry_listiter_next ?_ (args_listiter_next _)))
  show wpAny _ _ (field (.ref it) 0 >>= _) _ _ s
  refine wpAny_bind (wpAny_field ho hd (x := .ref l) rfl ?_)
  show wpAny _ _ (if (Value.ref l == Value.none) = true then _ else _) _ _ s
  rw [if_neg (show ¬ ((Value.ref l == Value.none) = true) from Bool.false_ne_true)]
  show wpAny _ _ (field (.ref it) 1 >>= _) _ _ s
  refine wpAny_bind (wpAny_field ho hd (x := .int i 0) rfl ?_)
  show wpAny _ _ (seqItems? (.ref l) >>= _) _ _ s
  refine wpAny_bind (wpAny_seqItems hol hdl ?_)
  have hx' : xs.toArray[i]? = none := by simpa using hx
  simp only [Int.toNat_natCast, hx']
  refine wpAny_bind (wpAny_rule (wpAny_bind (wpAny_setField ho hd (by simp) ?_)))
  show wpAny _ _ (newExc (.type "StopIteration") [] >>= _) _ _ _
  refine wpAny_bind ?_
  simp only [newExc, newTuple]
  refine wpAny_bind (wpAny_newObj_type ?_ (by size_fits))
  refine wpAny_bind (m := firstArgMember _ _) (wpAny_of_eq (a := Value.none) (by first | rfl | (simp only [firstArgMember]; rfl)) ?_)
  refine wpAny_newObj_type ?_ (by size_fits)
  simp only [raiseNew]
  refine wpAny_bind (wpAny_handled ?_)
  first | rw [show A.in1.handled = none from hh] | rw [hh]
  refine wpAny_bind (wpAny_pure (wpAny_throw ?_))
  refine h _ _ _ ?_ (Heap.SameBut.update ..) ⟨fun b o e => Heap.get?_push_of_some _ (Heap.get?_push_of_some _ e), ?_, _, _, Heap.get?_push_size _ rfl, rfl, rfl⟩
  · rw [Heap.get?_update_self _ ho (Obj.isFreed_of_fields (Obj.data_mapFields hd _)), ho]
    rfl
  rw [Heap.size_push]
  cases q : (s.heap.update it _).get? ((s.heap.update it _).objs.size + 1) with
  | none => rfl
  | some o => exact absurd (Heap.lt_size q) (Nat.not_lt.mpr (Nat.le_succ _))
theorem next_itemN {Q : Value → Shared → Prop} {g : Obj → List (Addr × Obj)} (F : Fr h₀ L s.heap m) (N : News h₀ L s.heap news) (U : UpdF it (litO l i) news g) (hl : s.heap.IsList l xs.toArray) (hx : xs[i]? = some x)
    (h : ∀ h', Fr h₀ L h' m → News h₀ L h' (g (litO l (i + 1))) → Q x { s with heap := h' }) :
    wpAny (model prog w) A (call (.builtin "next") [.ref it]) Q E s := by
  obtain ⟨pre, post, rfl, hg, a, b⟩ := U.split
  have hm := N (it, litO l i) (List.mem_append_right _ (.head _))
  refine next_item (lit_at rfl hm.1) hl hx fun h' ho' hs => ?_
  rw [hm.1] at ho'
  exact h h' (F.change hs hm.2.1 hm.2.2) (hg _ ▸ N.setIn a b hs ho')
theorem next_endN {Q : Value → Shared → Prop} {g : Obj → List (Addr × Obj)} (hh : A.handled = none) (F : Fr h₀ L s.heap m) (N : News h₀ L s.heap news) (U : UpdF it (litO l i) news g) (hl : s.heap.IsList l xs.toArray) (hx : xs[i]? = none)
    (h : ∀ h₁ h' e o', Fr h₀ L h₁ m → News h₀ L h₁ (g o') → Heap.NewExc h₁ h' e "StopIteration" → E (.ref e) { s with heap := h' }) :
    wpAny (model prog w) A (call (.builtin "next") [.ref it]) Q E s := by
  obtain ⟨pre, post, rfl, hg, a, b⟩ := U.split
  have hm := N (it, litO l i) (List.mem_append_right _ (.head _))
  refine next_end hh (lit_at rfl hm.1) hl hx fun h₁ h' e ho' hs hX => ?_
  exact h h₁ h' e _ (F.change hs hm.2.1 hm.2.2) (hg _ ▸ N.setIn a b hs ho') hX
theorem next_itemH {Q : Value → Shared → Prop} {us : List Value} {ns zs : List Int} {c : Nat} {b : Int} {rest : List (Addr × Obj)} (F : Fr h₀ L s.heap m) (N : News h₀ L s.heap ((it, litO l i) :: rest)) (hoff : ∀ p ∈ rest, p.1 ≠ it) (hm : (l, W.listOf us.toArray c) ∈ rest)
    (hi : IntsAre us ns) (hd : ns.drop i = b :: zs)
    (h : ∀ t h', ns.drop (i + 1) = zs → Fr h₀ L h' m → News h₀ L h' ((it, litO l (i + 1)) :: rest) → Q (.int b t) { s with heap := h' }) :
    wpAny (model prog w) A (call (.builtin "next") [.ref it]) Q E s := by
  have hb : ns[i]? = some b := by
    have := congrArg List.head? hd
    rw [List.head?_drop] at this
    exact this
  have hz : ns.drop (i + 1) = zs := by
    have := congrArg List.tail hd
    rw [List.tail_drop] at this
    exact this
  obtain ⟨t, hx⟩ := hi.get i b hb
  exact next_itemN F N (.head hoff) (News.isList N (.tail _ hm)) hx fun h' F' N' => h t h' hz F' N'
theorem next_endH {Q : Value → Shared → Prop} {us : List Value} {ns : List Int} {c : Nat} {rest : List (Addr × Obj)} (hh : A.handled = none) (F : Fr h₀ L s.heap m) (N : News h₀ L s.heap ((it, litO l i) :: rest)) (hoff : ∀ p ∈ rest, p.1 ≠ it) (hm : (l, W.listOf us.toArray c) ∈ rest)
    (hi : IntsAre us ns) (hd : ns.drop i = [])
    (h : ∀ h₁ h' e, Fr h₀ L h₁ m → News h₀ L h₁ rest → Heap.NewExc h₁ h' e "StopIteration" → E (.ref e) { s with heap := h' }) :
    wpAny (model prog w) A (call (.builtin "next") [.ref it]) Q E s := by
  have hb : us[i]? = none := by
    rw [List.getElem?_eq_none_iff, hi.length]
    exact List.drop_eq_nil_iff.mp hd
  exact next_endN hh F N (.head hoff) (News.isList N (.tail _ hm)) hb fun h₁ h' e o' F' N' X => h h₁ h' e F' (fun p hp => N' p (.tail _ hp)) X
end
section
variable {prog : Program} {w : World} {A₀ A : Around} {s : Shared} {base h₀ : Heap} {outer : List Env} {L : Addr} {m mg mb : Str → Option Value} {env : Env} {K : Frag} {p : Program} {loose : List Str} {mean : ExcName → Option Value} {news : List (Addr × Obj)}
  {R : Result → Shared → Prop} {name qual : Str} {params : Arguments} {body : List Stmt} {scope : Scope} {dV kV doc pm cdv ct oc : Value} {an od : Option Addr} {osl : Array (Option Value)} {f : Addr} {args : Args} {binds : List (Str × Value)}
/-- entering a def that keeps the caller's ledger: the ledger is hidden from the heap below -/
theorem enter_hide (B : Below A₀ base outer h₀) (F : Fr h₀ L s.heap m) (X₀ : K.In h₀) (N : News h₀ L s.heap news) (T : Top p loose mean mg mb h₀) (hA : A.frames = some (env :: outer)) (hf : env.frame = some L) (hke : env.scope.kind = .function)
    (ho : K.lookup f = some ⟨oc, od, .func (fnOf name qual params body scope dV kV doc pm an cdv ct), osl⟩) (hcd : codeIn K cdv qual = true) (hroom : A.depth < recursionLimit)
    (hbind : BindsTo s (fnOf name qual params body scope dV kV doc pm an cdv ct) args binds) (hloc : ∀ y ∈ binds, scope.names.lookup y.1 = some .local)
    (h : ∀ g L' h₁, Fr h₀ L g m → Fr g L' h₁ (fun y => binds.reverse.lookup y) → News g L' h₁ news → Below A base (env :: outer) g → K.In g → Top p loose mean mg mb g →
      wpAny (model prog w) (A.deeper (envOf qual scope L' f cdv)) (execs body (envOf qual scope L' f cdv))
        (fun fl s' => R (.ok (.ret (match fl with | .ret v => v | _ => .none))) s')
        (fun e s' => wpAny (model prog w) (A.deeper (envOf qual scope L' f cdv)) (leaving (envOf qual scope L' f cdv) e) (fun _ s'' => R (.error e) s'') (fun e' s'' => R (.error e') s'') s')
        { s with heap := h₁, toks := s.toks + binds.length })
    (hco : scope.isCoroutine = false) (hgen : scope.isGenerator = false) (hk : scope.kind = .function)
    (hcell : ∀ x ∈ scope.names, x.2 ≠ .cell) : codeAny (model prog w) A (.call (.ref f) args) R s := by
  have X := X₀.keeps F.keep
  have nm : ∀ b o, h₀.get? b = some o → b ∉ news.map (·.1) := fun b o e q => by
    obtain ⟨y, hy, rfl⟩ := List.mem_map.mp q
    rw [(N y hy).2.2] at e; cases e
  have st : ∀ b o, h₀.get? b = some o → (hideAll s.heap (news.map (·.1))).get? b = some o := fun b o e => hideAll_get _ (F.keep b o e) (nm b o e)
  obtain ⟨oL, es, ep, hL, hLd, hLk, hLf⟩ := F.ns
  have nL : L ∉ news.map (·.1) := fun q => by
    obtain ⟨y, hy, e⟩ := List.mem_map.mp q
    exact (N y hy).2.1 e
  have hLg := hideAll_get (news.map (·.1)) hL nL
  have Fg : Fr h₀ L (hideAll s.heap (news.map (·.1))) m := ⟨⟨oL, es, ep, hLg, hLd, hLk, hLf⟩, st, F.above⟩
  have B₁ := below_full (s := { s with heap := hideAll s.heap (news.map (·.1)) }) B Fg hA hf hke
  refine codeAny_call_def (fd := fnOf name qual params body scope dV kV doc pm an cdv ct) (body := body) (binds := binds) hroom (X _ _ ho) rfl (T.nolimit.keeps F.keep) (codeRec_of X hcd) rfl hbind hcell hloc (fun h₁ hns hk₁ => ?_) hco hgen hk
  exact h (hideAll s.heap (news.map (·.1))) s.heap.objs.size h₁ Fg ⟨hns, fun b o e => hk₁ b o (of_hideAll _ e), Nat.le_of_eq (hideAll_size _ _)⟩
    (fun y hy => ⟨hk₁ _ _ (N y hy).1, Nat.ne_of_lt (Heap.lt_size (N y hy).1), hideAll_none _ (List.mem_map_of_mem hy)⟩) B₁ (X₀.keeps st) (T.keeps st)
theorem home_g {h₀ g h' : Heap} {L L' : Addr} {m m' : Str → Option Value} {led : List (Addr × Obj)} (F : Fr h₀ L g m) (F' : Fr g L' h' m') (N' : News g L' h' led) : Fr h₀ L h' m ∧ News h₀ L h' led := by
  refine ⟨F.keeps F'.keep, fun p hp => ?_⟩
  have z := N' p hp
  obtain ⟨oL, _, _, hL, _⟩ := F.ns
  refine ⟨z.1, fun q => ?_, ?_⟩
  · rw [q, hL] at z; cases z.2.2
  · cases q : h₀.get? p.1 with
    | none => rfl
    | some o => have := F.keep _ _ q; rw [z.2.2] at this; cases this
end
end Mine
namespace Mine
open PySem PySem.W PyProof.Rows PySem.Calls
theorem isExc_Stop : isSubtype (.type "StopIteration") (.type "BaseException") = pure true := by rw [isSubtype_type]; kernel_rfl
theorem notTuple_Stop : isSubtype (.type ((Manifest.find? "StopIteration").elim "type" fun y => y.metatype)) (.type "tuple") = pure false := by rw [isSubtype_type]; kernel_rfl
theorem mem_one {L b : Addr} {env : Env} (hf : env.frame = some L) (hm : b ∈ [env].filterMap (·.frame)) : b = L := by
  obtain ⟨e, he, hb⟩ := List.mem_filterMap.mp hm
  obtain rfl := List.mem_singleton.mp he
  rw [hf] at hb
  exact (Option.some.inj hb).symm
section
variable {prog : Program} {w : World} {A₀ A : Around} {s : Shared} {base h₀ : Heap} {L : Addr} {m mg mb : Str → Option Value} {env : Env} {K : Frag} {p : Program} {loose : List Str} {mean : ExcName → Option Value} {news : List (Addr × Obj)}
  {R : Result → Shared → Prop} {name qual : Str} {params : Arguments} {body : List Stmt} {scope : Scope} {dV kV doc pm cdv ct oc : Value} {an od : Option Addr} {osl : Array (Option Value)} {f : Addr} {args : Args} {binds : List (Str × Value)}
/-- entering, from the law's own frame, a def that catches -/
theorem enter_try (B : Below A₀ base [] h₀) (F : Fr h₀ L s.heap m) (X₀ : K.In h₀) (N : News h₀ L s.heap news) (T : Top p loose mean mg mb h₀) (hA : A.frames = some [env]) (hf : env.frame = some L) (hke : env.scope.kind = .function)
    (ho : K.lookup f = some ⟨oc, od, .func (fnOf name qual params body scope dV kV doc pm an cdv ct), osl⟩) (hcd : codeIn K cdv qual = true) (hroom : A.depth < recursionLimit)
    (hbind : BindsTo s (fnOf name qual params body scope dV kV doc pm an cdv ct) args binds) (hloc : ∀ y ∈ binds, scope.names.lookup y.1 = some .local)
    (h : ∀ g L' h₁, Fr h₀ L g m → Fr g L' h₁ (fun y => binds.reverse.lookup y) → News g L' h₁ news → Below A base [env] g → K.In g → Top p loose mean mg mb g → KtsDicts ([env].filterMap (·.frame)) g →
      wpAny (model prog w) (A.deeper (envOf qual scope L' f cdv)) (execs body (envOf qual scope L' f cdv))
        (fun fl s' => LeaveS0 ([env].filterMap (·.frame)) h₀ L m g R (match fl with | .ret v => v | _ => .none) s')
        (fun e s' => wpAny (model prog w) (A.deeper (envOf qual scope L' f cdv)) (leaving (envOf qual scope L' f cdv) e) (fun _ s'' => R (.error e) s'') (fun e' s'' => R (.error e') s'') s')
        { s with heap := h₁, toks := s.toks + binds.length })
    (hco : scope.isCoroutine = false) (hgen : scope.isGenerator = false) (hk : scope.kind = .function)
    (hcell : ∀ x ∈ scope.names, x.2 ≠ .cell) : codeAny (model prog w) A (.call (.ref f) args) R s := by
  have X := X₀.keeps F.keep
  have nm : ∀ b o, h₀.get? b = some o → b ∉ news.map (·.1) := fun b o e q => by
    obtain ⟨y, hy, rfl⟩ := List.mem_map.mp q
    rw [(N y hy).2.2] at e; cases e
  have st : ∀ b o, h₀.get? b = some o → (hideAll s.heap (news.map (·.1))).get? b = some o := fun b o e => hideAll_get _ (F.keep b o e) (nm b o e)
  obtain ⟨oL, es, ep, hL, hLd, hLk, hLf⟩ := F.ns
  have nL : L ∉ news.map (·.1) := fun q => by
    obtain ⟨y, hy, e⟩ := List.mem_map.mp q
    exact (N y hy).2.1 e
  have hLg := hideAll_get (news.map (·.1)) hL nL
  have Fg : Fr h₀ L (hideAll s.heap (news.map (·.1))) m := ⟨⟨oL, es, ep, hLg, hLd, hLk, hLf⟩, st, F.above⟩
  have B₁ := below_full (s := { s with heap := hideAll s.heap (news.map (·.1)) }) B Fg hA hf hke
  refine codeAny_call_def (fd := fnOf name qual params body scope dV kV doc pm an cdv ct) (body := body) (binds := binds) hroom (X _ _ ho) rfl (T.nolimit.keeps F.keep) (codeRec_of X hcd) rfl hbind hcell hloc (fun h₁ hns hk₁ => ?_) hco hgen hk
  refine wpAny_mono (h (hideAll s.heap (news.map (·.1))) s.heap.objs.size h₁ Fg ⟨hns, fun b o e => hk₁ b o (of_hideAll _ e), Nat.le_of_eq (hideAll_size _ _)⟩
    (fun y hy => ⟨hk₁ _ _ (N y hy).1, Nat.ne_of_lt (Heap.lt_size (N y hy).1), hideAll_none _ (List.mem_map_of_mem hy)⟩) B₁ (X₀.keeps st) (T.keeps st) (fun b hb => ?_)) (fun fl s' hl => ?_) fun _ _ y => y
  · rw [mem_one hf hb]
    exact ⟨oL, es, ep, hLg, hLd⟩
  obtain ⟨g', L', m', news', T', F', N', k⟩ := hl
  have nL₀ : h₀.get? L = none := kts_self F
  obtain ⟨sl, hs⟩ := T'.up hLg
  refine k ⟨⟨_, es, ep, F'.keep _ _ hs, hLd, hLk, hLf⟩, fun b o e => F'.keep b o (T'.other b o (st b o e) (fun q => by
    rw [mem_one hf q, nL₀] at e
    cases e)), F.above⟩ fun y hy => ⟨(N' y hy).1, fun q => ?_, ?_⟩
  · have := (N' y hy).2.2; rw [q, hs] at this; cases this
  · cases q : h₀.get? y.1 with
    | none => rfl
    | some o =>
      obtain ⟨sl', hs'⟩ := T'.up (st _ _ q)
      have := (N' y hy).2.2
      rw [hs'] at this
      cases this
end
end Mine
namespace Mine
open PySem PySem.W PyProof.Rows PySem.Calls

theorem c4_last {c : Nat} (h : c < 65040) : ([65534, 65535].any fun x => x == Builtin.bitAnd (c : Int) 65535) = false := by
  have e : Builtin.bitAnd (c : Int) 65535 = ((c &&& 65535 : Nat) : Int) := rfl
  rw [e, show (65535 : Nat) = 2 ^ 16 - 1 from rfl, Nat.and_two_pow_sub_one_eq_mod]
  have : c % 2 ^ 16 = c := Nat.mod_eq_of_lt (by omega)
  rw [this]
  simp only [List.any_cons, List.any_nil, Bool.or_false, Bool.or_eq_false_iff, beq_eq_false_iff_ne]
  omega
set_option maxRecDepth 100000 in
set_option maxHeartbeats 8000000 in
theorem isT_tells : ∀ (w : World) (loose : List Str) (mean : ExcName → Option Value) (mg mb : Str → Option Value) (dp un : Nat) (gd : Option (List Code)) (cn : Str) (cs : Scope) (a : Addr) (ccd : Value) (cl : List (Str × Addr)) (outer : List Env) (A₀ : Around) (base h₀ : Heap) (L : Addr) (m : Str → Option Value) (news : List (Addr × Obj)) (s : Shared)
   (x : Int) (t : Tok) (Q E : Value → Shared → Prop),
   Below A₀ base outer h₀ → Fr h₀ L s.heap m → (Mine.gen.heap_1 w.params).In h₀ → News h₀ L s.heap news → Top Mine.gen.view_1 loose mean mg mb h₀ → cs.kind = .function → dp + 2 < recursionLimit → un + 16 < cLine →
   (∀ (h' : Heap) (tk' : Nat), Fr h₀ L h' m → News h₀ L h' news → Q (.bool (decide (x < 256))) { s with heap := h', toks := tk' }) →
   wpAny (model PySem.Challenge.rw_wf0054_01.row.prog w) (ktrTop dp un gd cn cs L a ccd cl outer) (call (.ref 60) [.int x t]) Q E s := by
  k_fill
  intro w loose mean mg mb dp un gd cn cs a ccd cl outer A₀ base h₀ L m news s x t Q E B F X N T hk hd hu  ret
  k_with_none
  k_with "my split" => repeat (rename (Mine.Apart _ _ ∧ _) => z'; obtain ⟨_, _⟩ := z')
  k_with "my fine" => ((unfold LCg.FinE); intro D' h' tk' F' N' o1'; (simp only [Mine.off1_cons, Mine.off1_nil, and_true] at o1'); (try (simp only [List.nil_append, List.cons_append] at N')); walk_at "my split"; (try dsimp only))
  k_with "my enter" => first   | (refine' Mine.enter_plain (by k_asm) (by k_asm) (by k_asm) (by k_asm) (by exact rfl) (by exact rfl) (by assumption) (by k_is) (by k_is) (by ktr_room) (by exact BindsTo.of_eq rfl) (by exact locs rfl) ?_ (by exact rfl) (by exact rfl) (by exact rfl) (by decide); k_whole; intro L' h' F' N' B' X' T'; (try dsimp only); (try k_fold))   | (refine' Mine.enter_cells (by k_asm) (by k_asm) (by k_asm) (by k_asm) (by exact rfl) (by exact rfl) (by assumption) (by k_is) (by k_is) (by ktr_room) (by exact BindsTo.of_eq rfl) (by exact rfl) (by decide +kernel) ?_ (by exact rfl) (by exact rfl) (by exact rfl); k_whole; intro L' h' tk' cells' F' N' Y' B' X' T'; k_cells Y'; (try simp only [List.cons_append, List.nil_append] at N'); (try dsimp only); (try k_fold))
  k_with "call builtin:max" => (k_here; (with_reducible show wpAny _ _ (call (Value.builtin "max") [Value.float _ _, Value.float _ _, Value.float _ _]) _ _ _); k_dflt (refine' Mine.max_threeN (by rfl) (by k_asm) (by k_asm) ?_; k_whole); intro t' h' tk' F' N')
  k_with "call builtin:min" => (k_here; (with_reducible show wpAny _ _ (call (Value.builtin "min") [Value.float _ _, Value.float _ _, Value.float _ _]) _ _ _); k_dflt (refine' Mine.min_threeN (by rfl) (by k_asm) (by k_asm) ?_; k_whole); intro t' h' tk' F' N')
  k_with "call builtin:list.insert" => (k_here; k_dflt (refine' Mine.insert0 (by k_asm) (by k_asm) (by k_upd) (by size_fits) ?_; k_whole); intro h' F' N'; (try dsimp only))
  k_with "inplaceOp Add ref" => (k_here; (with_reducible show wpAny _ _ (inplaceOp Operator.Add (Value.ref _) (Value.ref _)) _ _ _); k_dflt (refine' Mine.iadd_list (by k_asm) (by k_asm) (by k_mem) (by k_updF) (by size_fits) ?_; k_whole); intro h' n' F' N'; (try simp only [List.append_toArray, List.cons_append, List.nil_append] at N'); (try dsimp only))
  k_with "inplaceOp Add ref ref" => walk_at "inplaceOp Add ref"
  k_with "my item" => (k_here; (with_reducible show wpAny _ _ (subscriptTail _ _ (Value.ref _) (Value.int _ _)) _ _ _); k_dflt (refine' Mine.item_ints (by k_asm) (by k_mem) (by assumption) (by omega) (by omega) (by omega) ?_; k_whole); intro t')
  k_with "my len" => (k_here; (with_reducible show wpAny _ _ (call (Value.builtin "len") [Value.ref _]) _ _ _); k_dflt (refine' kst_len (by k_asm) (by k_mem) (by exact IntsAre.length (by assumption)) (by omega) ?_; k_whole))
  k_with "my toks" => (k_here; (with_reducible refine Mine.gen_toks ?_); intro tk9' htk9')
  w_top off
  refine wpAny_call ?_
  k_dflt walk_at "my enter"
  k_steps
  all_goals ((rename Fr _ _ _ _ => F9); (rename News _ _ _ _ => N9); have H9 := home0 F N F9 N9)
  all_goals (first | exact ret _ _ H9.1 H9.2 | skip)
set_option maxRecDepth 100000 in
set_option maxHeartbeats 8000000 in
theorem isN_tells : ∀ (w : World) (loose : List Str) (mean : ExcName → Option Value) (mg mb : Str → Option Value) (dp un : Nat) (gd : Option (List Code)) (cn : Str) (cs : Scope) (a : Addr) (ccd : Value) (cl : List (Str × Addr)) (outer : List Env) (A₀ : Around) (base h₀ : Heap) (L : Addr) (m : Str → Option Value) (news : List (Addr × Obj)) (s : Shared)
   (x : Int) (t : Tok) (Q E : Value → Shared → Prop),
   Below A₀ base outer h₀ → Fr h₀ L s.heap m → (Mine.gen.heap_1 w.params).In h₀ → News h₀ L s.heap news → Top Mine.gen.view_1 loose mean mg mb h₀ → cs.kind = .function → dp + 2 < recursionLimit → un + 16 < cLine →
   (∀ (h' : Heap) (tk' : Nat), Fr h₀ L h' m → News h₀ L h' news → Q (.bool (decide (256 ≤ x))) { s with heap := h', toks := tk' }) →
   wpAny (model PySem.Challenge.rw_wf0054_01.row.prog w) (ktrTop dp un gd cn cs L a ccd cl outer) (call (.ref 67) [.int x t]) Q E s := by
  k_fill
  intro w loose mean mg mb dp un gd cn cs a ccd cl outer A₀ base h₀ L m news s x t Q E B F X N T hk hd hu  ret
  k_with_none
  k_with "my split" => repeat (rename (Mine.Apart _ _ ∧ _) => z'; obtain ⟨_, _⟩ := z')
  k_with "my fine" => ((unfold LCg.FinE); intro D' h' tk' F' N' o1'; (simp only [Mine.off1_cons, Mine.off1_nil, and_true] at o1'); (try (simp only [List.nil_append, List.cons_append] at N')); walk_at "my split"; (try dsimp only))
  k_with "my enter" => first   | (refine' Mine.enter_plain (by k_asm) (by k_asm) (by k_asm) (by k_asm) (by exact rfl) (by exact rfl) (by assumption) (by k_is) (by k_is) (by ktr_room) (by exact BindsTo.of_eq rfl) (by exact locs rfl) ?_ (by exact rfl) (by exact rfl) (by exact rfl) (by decide); k_whole; intro L' h' F' N' B' X' T'; (try dsimp only); (try k_fold))   | (refine' Mine.enter_cells (by k_asm) (by k_asm) (by k_asm) (by k_asm) (by exact rfl) (by exact rfl) (by assumption) (by k_is) (by k_is) (by ktr_room) (by exact BindsTo.of_eq rfl) (by exact rfl) (by decide +kernel) ?_ (by exact rfl) (by exact rfl) (by exact rfl); k_whole; intro L' h' tk' cells' F' N' Y' B' X' T'; k_cells Y'; (try simp only [List.cons_append, List.nil_append] at N'); (try dsimp only); (try k_fold))
  k_with "call builtin:max" => (k_here; (with_reducible show wpAny _ _ (call (Value.builtin "max") [Value.float _ _, Value.float _ _, Value.float _ _]) _ _ _); k_dflt (refine' Mine.max_threeN (by rfl) (by k_asm) (by k_asm) ?_; k_whole); intro t' h' tk' F' N')
  k_with "call builtin:min" => (k_here; (with_reducible show wpAny _ _ (call (Value.builtin "min") [Value.float _ _, Value.float _ _, Value.float _ _]) _ _ _); k_dflt (refine' Mine.min_threeN (by rfl) (by k_asm) (by k_asm) ?_; k_whole); intro t' h' tk' F' N')
  k_with "call builtin:list.insert" => (k_here; k_dflt (refine' Mine.insert0 (by k_asm) (by k_asm) (by k_upd) (by size_fits) ?_; k_whole); intro h' F' N'; (try dsimp only))
  k_with "inplaceOp Add ref" => (k_here; (with_reducible show wpAny _ _ (inplaceOp Operator.Add (Value.ref _) (Value.ref _)) _ _ _); k_dflt (refine' Mine.iadd_list (by k_asm) (by k_asm) (by k_mem) (by k_updF) (by size_fits) ?_; k_whole); intro h' n' F' N'; (try simp only [List.append_toArray, List.cons_append, List.nil_append] at N'); (try dsimp only))
  k_with "inplaceOp Add ref ref" => walk_at "inplaceOp Add ref"
  k_with "my item" => (k_here; (with_reducible show wpAny _ _ (subscriptTail _ _ (Value.ref _) (Value.int _ _)) _ _ _); k_dflt (refine' Mine.item_ints (by k_asm) (by k_mem) (by assumption) (by omega) (by omega) (by omega) ?_; k_whole); intro t')
  k_with "my len" => (k_here; (with_reducible show wpAny _ _ (call (Value.builtin "len") [Value.ref _]) _ _ _); k_dflt (refine' kst_len (by k_asm) (by k_mem) (by exact IntsAre.length (by assumption)) (by omega) ?_; k_whole))
  k_with "my toks" => (k_here; (with_reducible refine Mine.gen_toks ?_); intro tk9' htk9')
  w_top off
  refine wpAny_call ?_
  k_dflt walk_at "my enter"
  k_steps
  all_goals ((rename Fr _ _ _ _ => F9); (rename News _ _ _ _ => N9); have H9 := home0 F N F9 N9)
  all_goals (first | exact ret _ _ H9.1 H9.2 | skip)
set_option maxRecDepth 100000 in
set_option maxHeartbeats 8000000 in
theorem c4_tells : ∀ (w : World) (loose : List Str) (mean : ExcName → Option Value) (mg mb : Str → Option Value) (dp un : Nat) (gd : Option (List Code)) (cn : Str) (cs : Scope) (a : Addr) (ccd : Value) (cl : List (Str × Addr)) (outer : List Env) (A₀ : Around) (base h₀ : Heap) (L : Addr) (m : Str → Option Value) (news : List (Addr × Obj)) (s : Shared)
   (c : Nat) (t : Tok) (Q E : Value → Shared → Prop),
   Below A₀ base outer h₀ → Fr h₀ L s.heap m → (Mine.gen.heap_1 w.params).In h₀ → News h₀ L s.heap news → Top Mine.gen.view_1 loose mean mg mb h₀ → cs.kind = .function → dp + 2 < recursionLimit → un + 16 < cLine →
   (64976 ≤ c) →
   (c < 65040) →
   (∀ (h' : Heap) (tk' : Nat), Fr h₀ L h' m → News h₀ L h' news → Q (.bool (decide (c < 65008))) { s with heap := h', toks := tk' }) →
   wpAny (model PySem.Challenge.rw_wf0054_01.row.prog w) (ktrTop dp un gd cn cs L a ccd cl outer) (call (.ref 50) [.str ⟨#[c]⟩ t]) Q E s := by
  k_fill
  intro w loose mean mg mb dp un gd cn cs a ccd cl outer A₀ base h₀ L m news s c t Q E B F X N T hk hd hu hc0 hc1 ret
  k_with_none
  k_with "my split" => repeat (rename (Mine.Apart _ _ ∧ _) => z'; obtain ⟨_, _⟩ := z')
  k_with "my fine" => ((unfold LCg.FinE); intro D' h' tk' F' N' o1'; (simp only [Mine.off1_cons, Mine.off1_nil, and_true] at o1'); (try (simp only [List.nil_append, List.cons_append] at N')); walk_at "my split"; (try dsimp only))
  k_with "my enter" => first   | (refine' Mine.enter_plain (by k_asm) (by k_asm) (by k_asm) (by k_asm) (by exact rfl) (by exact rfl) (by assumption) (by k_is) (by k_is) (by ktr_room) (by exact BindsTo.of_eq rfl) (by exact locs rfl) ?_ (by exact rfl) (by exact rfl) (by exact rfl) (by decide); k_whole; intro L' h' F' N' B' X' T'; (try dsimp only); (try k_fold))   | (refine' Mine.enter_cells (by k_asm) (by k_asm) (by k_asm) (by k_asm) (by exact rfl) (by exact rfl) (by assumption) (by k_is) (by k_is) (by ktr_room) (by exact BindsTo.of_eq rfl) (by exact rfl) (by decide +kernel) ?_ (by exact rfl) (by exact rfl) (by exact rfl); k_whole; intro L' h' tk' cells' F' N' Y' B' X' T'; k_cells Y'; (try simp only [List.cons_append, List.nil_append] at N'); (try dsimp only); (try k_fold))
  k_with "call builtin:max" => (k_here; (with_reducible show wpAny _ _ (call (Value.builtin "max") [Value.float _ _, Value.float _ _, Value.float _ _]) _ _ _); k_dflt (refine' Mine.max_threeN (by rfl) (by k_asm) (by k_asm) ?_; k_whole); intro t' h' tk' F' N')
  k_with "call builtin:min" => (k_here; (with_reducible show wpAny _ _ (call (Value.builtin "min") [Value.float _ _, Value.float _ _, Value.float _ _]) _ _ _); k_dflt (refine' Mine.min_threeN (by rfl) (by k_asm) (by k_asm) ?_; k_whole); intro t' h' tk' F' N')
  k_with "call builtin:list.insert" => (k_here; k_dflt (refine' Mine.insert0 (by k_asm) (by k_asm) (by k_upd) (by size_fits) ?_; k_whole); intro h' F' N'; (try dsimp only))
  k_with "inplaceOp Add ref" => (k_here; (with_reducible show wpAny _ _ (inplaceOp Operator.Add (Value.ref _) (Value.ref _)) _ _ _); k_dflt (refine' Mine.iadd_list (by k_asm) (by k_asm) (by k_mem) (by k_updF) (by size_fits) ?_; k_whole); intro h' n' F' N'; (try simp only [List.append_toArray, List.cons_append, List.nil_append] at N'); (try dsimp only))
  k_with "inplaceOp Add ref ref" => walk_at "inplaceOp Add ref"
  k_with "my item" => (k_here; (with_reducible show wpAny _ _ (subscriptTail _ _ (Value.ref _) (Value.int _ _)) _ _ _); k_dflt (refine' Mine.item_ints (by k_asm) (by k_mem) (by assumption) (by omega) (by omega) (by omega) ?_; k_whole); intro t')
  k_with "my len" => (k_here; (with_reducible show wpAny _ _ (call (Value.builtin "len") [Value.ref _]) _ _ _); k_dflt (refine' kst_len (by k_asm) (by k_mem) (by exact IntsAre.length (by assumption)) (by omega) ?_; k_whole))
  k_with "my toks" => (k_here; (with_reducible refine Mine.gen_toks ?_); intro tk9' htk9')
  w_top off
  refine wpAny_call ?_
  k_dflt walk_at "my enter"
  k_steps
  all_goals ((rename Fr _ _ _ _ => F9); (rename News _ _ _ _ => N9); have H9 := home0 F N F9 N9)
  · have e : decide (c < 65008) = true := by simp; omega
    rw [e] at ret
    exact ret _ _ H9.1 H9.2
  · have e : decide (c < 65008) = false := by simp; omega
    have e2 : ([65534, 65535].any fun x => x == Builtin.bitAnd (↑c) 65535) = false := c4_last hc1
    rw [e] at ret
    rw [e2]
    exact ret _ _ H9.1 H9.2
end Mine
namespace Mine
open PySem PySem.W PyProof.Rows PySem.Calls

noncomputable def hlsO (r g b : UInt64) : Option (UInt64 × UInt64 × UInt64) :=
  if (Float64.cmp (min3 r g b) (max3 r g b) == some Ordering.eq) = true then some (0, Float64.div (Float64.add (max3 r g b) (min3 r g b)) 4611686018427387904, 0) else
  if (Float64.cmp (Float64.div (Float64.add (max3 r g b) (min3 r g b)) 4611686018427387904) 4602678819172646912 == some Ordering.lt || Float64.cmp (Float64.div (Float64.add (max3 r g b) (min3 r g b)) 4611686018427387904) 4602678819172646912 == some Ordering.eq) = true then
    if Float64.isZero (Float64.add (max3 r g b) (min3 r g b)) = true then none else
    hlsH r g b (Float64.div (Float64.sub (max3 r g b) (min3 r g b)) (Float64.add (max3 r g b) (min3 r g b)))
  else
    if Float64.isZero (Float64.sub (Float64.sub 4611686018427387904 (max3 r g b)) (min3 r g b)) = true then none else
    hlsH r g b (Float64.div (Float64.sub (max3 r g b) (min3 r g b)) (Float64.sub (Float64.sub 4611686018427387904 (max3 r g b)) (min3 r g b)))
where
  hlsH (r g b s : UInt64) : Option (UInt64 × UInt64 × UInt64) :=
    if Float64.isZero (Float64.sub (max3 r g b) (min3 r g b)) = true then none else
    if (Float64.cmp r (max3 r g b) == some Ordering.eq) = true then
      hlsE r g b s (Float64.sub (Float64.div (Float64.sub (max3 r g b) b) (Float64.sub (max3 r g b) (min3 r g b))) (Float64.div (Float64.sub (max3 r g b) g) (Float64.sub (max3 r g b) (min3 r g b))))
    else if (Float64.cmp g (max3 r g b) == some Ordering.eq) = true then
      hlsE r g b s (Float64.sub (Float64.add 4611686018427387904 (Float64.div (Float64.sub (max3 r g b) r) (Float64.sub (max3 r g b) (min3 r g b)))) (Float64.div (Float64.sub (max3 r g b) b) (Float64.sub (max3 r g b) (min3 r g b))))
    else
      hlsE r g b s (Float64.sub (Float64.add 4616189618054758400 (Float64.div (Float64.sub (max3 r g b) g) (Float64.sub (max3 r g b) (min3 r g b)))) (Float64.div (Float64.sub (max3 r g b) r) (Float64.sub (max3 r g b) (min3 r g b))))
  hlsE (r g b s h : UInt64) : Option (UInt64 × UInt64 × UInt64) :=
    some ((Float64.divmod (Float64.div h 4618441417868443648) 4607182418800017408).snd, Float64.div (Float64.add (max3 r g b) (min3 r g b)) 4611686018427387904, s)

noncomputable def hsvO (h s v : UInt64) : Option (UInt64 × UInt64 × UInt64) :=
  if (Float64.cmp s 0 == some Ordering.eq) = true then some (v, v, v) else
  if Float64.isNaN (Float64.mul h 4618441417868443648) = true then none else
  if Float64.isInf (Float64.mul h 4618441417868443648) = true then none else
  if 2 ^ 1024 - 2 ^ 970 ≤ (Flt.toInt Float64.truncOf (Float64.mul h 4618441417868443648)).natAbs then none else
  hsvI s v (Flt.toInt Float64.truncOf (Float64.mul h 4618441417868443648)) (Float64.sub (Float64.mul h 4618441417868443648) (Float64.ofInt (Flt.toInt Float64.truncOf (Float64.mul h 4618441417868443648))))
where
  hsvI (s v : UInt64) (i : Int) (f : UInt64) : Option (UInt64 × UInt64 × UInt64) :=
    if i.fmod 6 = 0 then some (v, Float64.mul v (Float64.sub 4607182418800017408 (Float64.mul s (Float64.sub 4607182418800017408 f))), Float64.mul v (Float64.sub 4607182418800017408 s)) else
    if i.fmod 6 = 1 then some (Float64.mul v (Float64.sub 4607182418800017408 (Float64.mul s f)), v, Float64.mul v (Float64.sub 4607182418800017408 s)) else
    if i.fmod 6 = 2 then some (Float64.mul v (Float64.sub 4607182418800017408 s), v, Float64.mul v (Float64.sub 4607182418800017408 (Float64.mul s (Float64.sub 4607182418800017408 f)))) else
    if i.fmod 6 = 3 then some (Float64.mul v (Float64.sub 4607182418800017408 s), Float64.mul v (Float64.sub 4607182418800017408 (Float64.mul s f)), v) else
    if i.fmod 6 = 4 then some (Float64.mul v (Float64.sub 4607182418800017408 (Float64.mul s (Float64.sub 4607182418800017408 f))), Float64.mul v (Float64.sub 4607182418800017408 s), v) else
    if i.fmod 6 = 5 then some (v, Float64.mul v (Float64.sub 4607182418800017408 s), Float64.mul v (Float64.sub 4607182418800017408 (Float64.mul s f))) else none
theorem fin_nan {x : UInt64} (h : Float64.isFinite x = true) : ¬ Float64.isNaN x = true := by
  unfold Float64.isFinite at h; unfold Float64.isNaN; cases h9 : Float64.decode x <;> rw [h9] at h <;> simp_all
theorem inf_nan {x : UInt64} (h : Float64.isInf x = true) : ¬ Float64.isNaN x = true := by
  unfold Float64.isInf at h; unfold Float64.isNaN; cases h9 : Float64.decode x <;> rw [h9] at h <;> simp_all
theorem fin_inf {x : UInt64} (h : Float64.isFinite x = true) : ¬ Float64.isInf x = true := by
  unfold Float64.isFinite at h; unfold Float64.isInf; cases h9 : Float64.decode x <;> rw [h9] at h <;> simp_all
end Mine
namespace Mine
open PySem PySem.W PyProof.Rows PySem.Calls
set_option maxRecDepth 100000 in
set_option maxHeartbeats 8000000 in
theorem rgb_tells : ∀ (w : World) (loose : List Str) (mean : ExcName → Option Value) (mg mb : Str → Option Value) (dp un : Nat) (gd : Option (List Code)) (cn : Str) (cs : Scope) (a : Addr) (ccd : Value) (cl : List (Str × Addr)) (outer : List Env) (A₀ : Around) (base h₀ : Heap) (L : Addr) (m : Str → Option Value) (news : List (Addr × Obj)) (s : Shared)
   (r : UInt64) (g : UInt64) (b : UInt64) (vh : UInt64) (vl : UInt64) (vs : UInt64) (t1 : Tok) (t2 : Tok) (t3 : Tok) (Q E : Value → Shared → Prop),
   Below A₀ base outer h₀ → Fr h₀ L s.heap m → (Mine.gen.heap_1 w.params).In h₀ → News h₀ L s.heap news → Top Mine.gen.view_1 loose mean mg mb h₀ → cs.kind = .function → dp + 2 < recursionLimit → un + 16 < cLine →
   (hlsO r g b = some (vh, vl, vs)) →
   (∀ (D : Addr) (u0 : Tok) (u1 : Tok) (u2 : Tok) (h' : Heap) (tk' : Nat), u0 ≠ 0 → u1 ≠ 0 → u2 ≠ 0 → 0 < tk' → Fr h₀ L h' m → News h₀ L h' ((D, { cls := .type "tuple", data := .seq #[.float vh u0, .float vl u1, .float vs u2] }) :: news) → LCg.Off1 D news → Q (.ref D) { s with heap := h', toks := tk' }) →
   wpAny (model PySem.Challenge.rw_wf0054_01.row.prog w) (ktrTop dp un gd cn cs L a ccd cl outer) (call (.ref 21) [.float r t1, .float g t2, .float b t3]) Q E s := by
  k_fill
  intro w loose mean mg mb dp un gd cn cs a ccd cl outer A₀ base h₀ L m news s r g b vh vl vs t1 t2 t3 Q E B F X N T hk hd hu hc0 ret
  k_with_none
  k_with "my split" => repeat (rename (Mine.Apart _ _ ∧ _) => z'; obtain ⟨_, _⟩ := z')
  k_with "my fine" => ((unfold LCg.FinE); intro D' h' tk' F' N' o1'; (simp only [Mine.off1_cons, Mine.off1_nil, and_true] at o1'); (try (simp only [List.nil_append, List.cons_append] at N')); walk_at "my split"; (try dsimp only))
  k_with "my enter" => first   | (refine' Mine.enter_plain (by k_asm) (by k_asm) (by k_asm) (by k_asm) (by exact rfl) (by exact rfl) (by assumption) (by k_is) (by k_is) (by ktr_room) (by exact BindsTo.of_eq rfl) (by exact locs rfl) ?_ (by exact rfl) (by exact rfl) (by exact rfl) (by decide); k_whole; intro L' h' F' N' B' X' T'; (try dsimp only); (try k_fold))   | (refine' Mine.enter_cells (by k_asm) (by k_asm) (by k_asm) (by k_asm) (by exact rfl) (by exact rfl) (by assumption) (by k_is) (by k_is) (by ktr_room) (by exact BindsTo.of_eq rfl) (by exact rfl) (by decide +kernel) ?_ (by exact rfl) (by exact rfl) (by exact rfl); k_whole; intro L' h' tk' cells' F' N' Y' B' X' T'; k_cells Y'; (try simp only [List.cons_append, List.nil_append] at N'); (try dsimp only); (try k_fold))
  k_with "call builtin:max" => (k_here; (with_reducible show wpAny _ _ (call (Value.builtin "max") [Value.float _ _, Value.float _ _, Value.float _ _]) _ _ _); k_dflt (refine' Mine.max_threeN (by rfl) (by k_asm) (by k_asm) ?_; k_whole); intro t' h' tk' F' N')
  k_with "call builtin:min" => (k_here; (with_reducible show wpAny _ _ (call (Value.builtin "min") [Value.float _ _, Value.float _ _, Value.float _ _]) _ _ _); k_dflt (refine' Mine.min_threeN (by rfl) (by k_asm) (by k_asm) ?_; k_whole); intro t' h' tk' F' N')
  k_with "call builtin:list.insert" => (k_here; k_dflt (refine' Mine.insert0 (by k_asm) (by k_asm) (by k_upd) (by size_fits) ?_; k_whole); intro h' F' N'; (try dsimp only))
  k_with "inplaceOp Add ref" => (k_here; (with_reducible show wpAny _ _ (inplaceOp Operator.Add (Value.ref _) (Value.ref _)) _ _ _); k_dflt (refine' Mine.iadd_list (by k_asm) (by k_asm) (by k_mem) (by k_updF) (by size_fits) ?_; k_whole); intro h' n' F' N'; (try simp only [List.append_toArray, List.cons_append, List.nil_append] at N'); (try dsimp only))
  k_with "inplaceOp Add ref ref" => walk_at "inplaceOp Add ref"
  k_with "my item" => (k_here; (with_reducible show wpAny _ _ (subscriptTail _ _ (Value.ref _) (Value.int _ _)) _ _ _); k_dflt (refine' Mine.item_ints (by k_asm) (by k_mem) (by assumption) (by omega) (by omega) (by omega) ?_; k_whole); intro t')
  k_with "my len" => (k_here; (with_reducible show wpAny _ _ (call (Value.builtin "len") [Value.ref _]) _ _ _); k_dflt (refine' kst_len (by k_asm) (by k_mem) (by exact IntsAre.length (by assumption)) (by omega) ?_; k_whole))
  k_with "my toks" => (k_here; (with_reducible refine Mine.gen_toks ?_); intro tk9' htk9')
  k_with "execs cons" => walk_at "my toks"
  k_with "execs nil" => walk_at "my toks"
  w_top off
  refine wpAny_call ?_
  k_dflt walk_at "my enter"
  k_steps
  all_goals ((rename Fr _ _ _ _ => F9); (rename News _ _ _ _ => N9); have H9 := home1 F N F9 N9)
  all_goals (
    have e9 := hc0
    unfold hlsO at e9
    (try unfold hlsO.hlsH at e9)
    (try unfold hlsO.hlsE at e9)
    repeat (first | (rw [if_pos] at e9; rotate_left; assumption) | (rw [if_neg] at e9; rotate_left; (first | assumption | exact ne_true_of_eq_false (by assumption) | exact fin_nan (by assumption) | exact fin_inf (by assumption) | exact inf_nan (by assumption) | exact Nat.not_le.mpr (by assumption))))
    (first | (cases e9; done) | (simp only [Option.some.injEq, Prod.mk.injEq] at e9; obtain ⟨e91, e92, e93⟩ := e9; subst e91 e92 e93)))
  all_goals (obtain ⟨G1, G2, G3⟩ := H9 _ _ (.head _); exact ret _ _ _ _ _ _ (by first | exact Nat.succ_ne_zero _ | exact Nat.ne_of_gt (by assumption)) (by first | exact Nat.succ_ne_zero _ | exact Nat.ne_of_gt (by assumption)) (by first | exact Nat.succ_ne_zero _ | exact Nat.ne_of_gt (by assumption)) (by first | assumption | exact Nat.succ_pos _) G1 G2 G3)
end Mine
namespace Mine
open PySem PySem.W PyProof.Rows PySem.Calls
set_option maxRecDepth 100000 in
set_option maxHeartbeats 8000000 in
theorem hsv_tells : ∀ (w : World) (loose : List Str) (mean : ExcName → Option Value) (mg mb : Str → Option Value) (dp un : Nat) (gd : Option (List Code)) (cn : Str) (cs : Scope) (a : Addr) (ccd : Value) (cl : List (Str × Addr)) (outer : List Env) (A₀ : Around) (base h₀ : Heap) (L : Addr) (m : Str → Option Value) (news : List (Addr × Obj)) (s : Shared)
   (h : UInt64) (sa : UInt64) (v : UInt64) (vh : UInt64) (vl : UInt64) (vs : UInt64) (t1 : Tok) (t2 : Tok) (t3 : Tok) (Q E : Value → Shared → Prop),
   Below A₀ base outer h₀ → Fr h₀ L s.heap m → (Mine.gen.heap_1 w.params).In h₀ → News h₀ L s.heap news → Top Mine.gen.view_1 loose mean mg mb h₀ → cs.kind = .function → dp + 2 < recursionLimit → un + 16 < cLine →
   (hsvO h sa v = some (vh, vl, vs)) →
   (∀ (D : Addr) (u0 : Tok) (u1 : Tok) (u2 : Tok) (h' : Heap) (tk' : Nat), Fr h₀ L h' m → News h₀ L h' ((D, { cls := .type "tuple", data := .seq #[.float vh u0, .float vl u1, .float vs u2] }) :: news) → LCg.Off1 D news → Q (.ref D) { s with heap := h', toks := tk' }) →
   wpAny (model PySem.Challenge.rw_wf0054_01.row.prog w) (ktrTop dp un gd cn cs L a ccd cl outer) (call (.ref 28) [.float h t1, .float sa t2, .float v t3]) Q E s := by
  k_fill
  intro w loose mean mg mb dp un gd cn cs a ccd cl outer A₀ base h₀ L m news s h sa v vh vl vs t1 t2 t3 Q E B F X N T hk hd hu hc0 ret
  k_with_none
  k_with "my split" => repeat (rename (Mine.Apart _ _ ∧ _) => z'; obtain ⟨_, _⟩ := z')
  k_with "my fine" => ((unfold LCg.FinE); intro D' h' tk' F' N' o1'; (simp only [Mine.off1_cons, Mine.off1_nil, and_true] at o1'); (try (simp only [List.nil_append, List.cons_append] at N')); walk_at "my split"; (try dsimp only))
  k_with "my enter" => first   | (refine' Mine.enter_plain (by k_asm) (by k_asm) (by k_asm) (by k_asm) (by exact rfl) (by exact rfl) (by assumption) (by k_is) (by k_is) (by ktr_room) (by exact BindsTo.of_eq rfl) (by exact locs rfl) ?_ (by exact rfl) (by exact rfl) (by exact rfl) (by decide); k_whole; intro L' h' F' N' B' X' T'; (try dsimp only); (try k_fold))   | (refine' Mine.enter_cells (by k_asm) (by k_asm) (by k_asm) (by k_asm) (by exact rfl) (by exact rfl) (by assumption) (by k_is) (by k_is) (by ktr_room) (by exact BindsTo.of_eq rfl) (by exact rfl) (by decide +kernel) ?_ (by exact rfl) (by exact rfl) (by exact rfl); k_whole; intro L' h' tk' cells' F' N' Y' B' X' T'; k_cells Y'; (try simp only [List.cons_append, List.nil_append] at N'); (try dsimp only); (try k_fold))
  k_with "call builtin:max" => (k_here; (with_reducible show wpAny _ _ (call (Value.builtin "max") [Value.float _ _, Value.float _ _, Value.float _ _]) _ _ _); k_dflt (refine' Mine.max_threeN (by rfl) (by k_asm) (by k_asm) ?_; k_whole); intro t' h' tk' F' N')
  k_with "call builtin:min" => (k_here; (with_reducible show wpAny _ _ (call (Value.builtin "min") [Value.float _ _, Value.float _ _, Value.float _ _]) _ _ _); k_dflt (refine' Mine.min_threeN (by rfl) (by k_asm) (by k_asm) ?_; k_whole); intro t' h' tk' F' N')
  k_with "call builtin:list.insert" => (k_here; k_dflt (refine' Mine.insert0 (by k_asm) (by k_asm) (by k_upd) (by size_fits) ?_; k_whole); intro h' F' N'; (try dsimp only))
  k_with "inplaceOp Add ref" => (k_here; (with_reducible show wpAny _ _ (inplaceOp Operator.Add (Value.ref _) (Value.ref _)) _ _ _); k_dflt (refine' Mine.iadd_list (by k_asm) (by k_asm) (by k_mem) (by k_updF) (by size_fits) ?_; k_whole); intro h' n' F' N'; (try simp only [List.append_toArray, List.cons_append, List.nil_append] at N'); (try dsimp only))
  k_with "inplaceOp Add ref ref" => walk_at "inplaceOp Add ref"
  k_with "my item" => (k_here; (with_reducible show wpAny _ _ (subscriptTail _ _ (Value.ref _) (Value.int _ _)) _ _ _); k_dflt (refine' Mine.item_ints (by k_asm) (by k_mem) (by assumption) (by omega) (by omega) (by omega) ?_; k_whole); intro t')
  k_with "my len" => (k_here; (with_reducible show wpAny _ _ (call (Value.builtin "len") [Value.ref _]) _ _ _); k_dflt (refine' kst_len (by k_asm) (by k_mem) (by exact IntsAre.length (by assumption)) (by omega) ?_; k_whole))
  k_with "my toks" => (k_here; (with_reducible refine Mine.gen_toks ?_); intro tk9' htk9')
  w_top off
  refine wpAny_call ?_
  k_dflt walk_at "my enter"
  k_steps
  all_goals ((rename Fr _ _ _ _ => F9); (rename News _ _ _ _ => N9); have H9 := home1 F N F9 N9)
  all_goals (
    have e9 := hc0
    unfold hsvO at e9
    (try unfold hsvO.hsvI at e9)
    repeat (first | (rw [if_pos] at e9; rotate_left; assumption) | (rw [if_neg] at e9; rotate_left; (first | assumption | exact ne_true_of_eq_false (by assumption) | exact fin_nan (by assumption) | exact fin_inf (by assumption) | exact inf_nan (by assumption) | exact Nat.not_le.mpr (by assumption))))
    (first | (cases e9; done) | (simp only [Option.some.injEq, Prod.mk.injEq] at e9; obtain ⟨e91, e92, e93⟩ := e9; subst e91 e92 e93)))
  all_goals (obtain ⟨G1, G2, G3⟩ := H9 _ _ (.head _); exact ret _ _ _ _ _ _ G1 G2 G3)
end Mine
namespace Mine
open PySem PySem.W PyProof.Rows PySem.Calls
noncomputable def fr (a b : Int) : UInt64 := Float64.ofFrac (decide (a < 0) != decide (b < 0)) a.natAbs b.natAbs
noncomputable def feq (a b : UInt64) : Bool := Float64.cmp a b == some Ordering.eq
noncomputable def boxDen (sh lv : Int) : Int := if lv * (8 - sh) < 17 then lv * (8 - sh) else 32 - lv * (8 - sh)
noncomputable def boxChk (b sh lv : Int) : Bool :=
  !(boxDen sh lv == 0) && !Float64.isInf (fr (sh * lv) (boxDen sh lv)) && !Float64.isInf (fr b 32) && !Float64.isInf (fr sh 4) && !Float64.isInf (fr lv 4) && !Float64.isInf (fr (b.fmod 32) 32) && !Float64.isInf (fr (lv * (8 - sh)) 32) &&
  match hsvO (fr b 32) (fr sh 4) (fr lv 4) with
  | none => false
  | some (r, g, bb) => match hlsO r g bb with
    | none => false
    | some (h, l, s) => feq h (fr (b.fmod 32) 32) && feq l (fr (lv * (8 - sh)) 32) && feq s (fr (sh * lv) (boxDen sh lv))
noncomputable def boxRow (sh lv : Nat) : Bool := (List.range 32).all fun b => boxChk b sh lv
theorem bx11 : boxRow 1 1 = true := by decide +kernel
theorem bx12 : boxRow 1 2 = true := by decide +kernel
theorem bx13 : boxRow 1 3 = true := by decide +kernel
theorem bx14 : boxRow 1 4 = true := by decide +kernel
theorem bx21 : boxRow 2 1 = true := by decide +kernel
theorem bx22 : boxRow 2 2 = true := by decide +kernel
theorem bx23 : boxRow 2 3 = true := by decide +kernel
theorem bx24 : boxRow 2 4 = true := by decide +kernel
theorem bx31 : boxRow 3 1 = true := by decide +kernel
theorem bx32 : boxRow 3 2 = true := by decide +kernel
theorem bx33 : boxRow 3 3 = true := by decide +kernel
theorem bx34 : boxRow 3 4 = true := by decide +kernel
theorem bx41 : boxRow 4 1 = true := by decide +kernel
theorem bx42 : boxRow 4 2 = true := by decide +kernel
theorem bx43 : boxRow 4 3 = true := by decide +kernel
theorem bx44 : boxRow 4 4 = true := by decide +kernel
theorem box_rows {i j : Nat} (hi : i < 4) (hj : j < 4) : boxRow (i + 1) (j + 1) = true := by
  match i, j, hi, hj with
  | 0, 0, _, _ => exact bx11
  | 0, 1, _, _ => exact bx12
  | 0, 2, _, _ => exact bx13
  | 0, 3, _, _ => exact bx14
  | 1, 0, _, _ => exact bx21
  | 1, 1, _, _ => exact bx22
  | 1, 2, _, _ => exact bx23
  | 1, 3, _, _ => exact bx24
  | 2, 0, _, _ => exact bx31
  | 2, 1, _, _ => exact bx32
  | 2, 2, _, _ => exact bx33
  | 2, 3, _, _ => exact bx34
  | 3, 0, _, _ => exact bx41
  | 3, 1, _, _ => exact bx42
  | 3, 2, _, _ => exact bx43
  | 3, 3, _, _ => exact bx44
theorem box_all {b sh lv : Int} (h0 : 0 ≤ b) (h1 : b < 32) (h2 : 1 ≤ sh) (h3 : sh ≤ 4) (h4 : 1 ≤ lv) (h5 : lv ≤ 4) : boxChk b sh lv = true := by
  have k2 := box_rows (i := (sh - 1).toNat) (j := (lv - 1).toNat) (by omega) (by omega)
  have k3 := List.all_eq_true.mp k2 b.toNat (List.mem_range.mpr (by omega))
  have e1 : ((b.toNat : Nat) : Int) = b := by omega
  have e2 : (((sh - 1).toNat + 1 : Nat) : Int) = sh := by omega
  have e3 : (((lv - 1).toNat + 1 : Nat) : Int) = lv := by omega
  rw [e1, e2, e3] at k3
  exact k3
/-- what the box's floats come to -/
structure BoxF (b sh lv : Int) (r g bb h l s : UInt64) : Prop where
  den : boxDen sh lv ≠ 0
  f1 : Float64.isInf (fr (sh * lv) (boxDen sh lv)) = false
  f2 : Float64.isInf (fr b 32) = false
  f3 : Float64.isInf (fr sh 4) = false
  f4 : Float64.isInf (fr lv 4) = false
  f5 : Float64.isInf (fr (b.fmod 32) 32) = false
  f6 : Float64.isInf (fr (lv * (8 - sh)) 32) = false
  hsv : hsvO (fr b 32) (fr sh 4) (fr lv 4) = some (r, g, bb)
  hls : hlsO r g bb = some (h, l, s)
  e1 : (Float64.cmp h (fr (b.fmod 32) 32) == some Ordering.eq) = true
  e2 : (Float64.cmp l (fr (lv * (8 - sh)) 32) == some Ordering.eq) = true
  e3 : (Float64.cmp s (fr (sh * lv) (boxDen sh lv)) == some Ordering.eq) = true
theorem boxF0 {b sh lv : Int} (h0 : 0 ≤ b) (h1 : b < 32) (h2 : 1 ≤ sh) (h3 : sh ≤ 4) (h4 : 1 ≤ lv) (h5 : lv ≤ 4) : ∃ r g bb h l s, BoxF b sh lv r g bb h l s := by
  have k := box_all h0 h1 h2 h3 h4 h5
  unfold boxChk at k
  simp only [Bool.and_eq_true, Bool.not_eq_true', beq_eq_false_iff_ne] at k
  obtain ⟨⟨⟨⟨⟨⟨⟨k1, k2⟩, k3⟩, k4⟩, k5⟩, k6⟩, k7⟩, k8⟩ := k
  cases q1 : hsvO (fr b 32) (fr sh 4) (fr lv 4) with
  | none => rw [q1] at k8; cases k8
  | some v =>
    obtain ⟨r, g, bb⟩ := v
    rw [q1] at k8
    simp only at k8
    cases q2 : hlsO r g bb with
    | none => rw [q2] at k8; cases k8
    | some v =>
      obtain ⟨h, l, s⟩ := v
      rw [q2] at k8
      simp only [Bool.and_eq_true, feq] at k8
      exact ⟨r, g, bb, h, l, s, k1, k2, k3, k4, k5, k6, k7, q1, q2, k8.1.1, k8.1.2, k8.2⟩
/-- a whole turn further the colour is the same -/
noncomputable def hueX (b : Int) : UInt64 := Float64.mul (fr b 32) 4618441417868443648
noncomputable def hueI (b : Int) : Int := Flt.toInt Float64.truncOf (hueX b)
noncomputable def hueF (b : Int) : UInt64 := Float64.sub (hueX b) (Float64.ofInt (hueI b))
noncomputable def hueOk (b : Int) : Bool := !Float64.isNaN (hueX b) && !Float64.isInf (hueX b) && decide ((hueI b).natAbs < 1000)
noncomputable def turnChk (b : Int) : Bool := hueOk b && hueOk (b + 32) && !Float64.isInf (fr (b + 32) 32) && (hueI b).fmod 6 == (hueI (b + 32)).fmod 6 && hueF b == hueF (b + 32) && (b + 32).fmod 32 == b.fmod 32
theorem turn_all : ((List.range 32).all fun b : Nat => turnChk b) = true := by decide +kernel
theorem hsvO_at {b : Int} {s v : UInt64} (h : hueOk b = true) : hsvO (fr b 32) s v = if (Float64.cmp s 0 == some Ordering.eq) = true then some (v, v, v) else hsvO.hsvI s v (hueI b) (hueF b) := by
  unfold hueOk at h
  simp only [Bool.and_eq_true, Bool.not_eq_true', decide_eq_true_eq] at h
  obtain ⟨⟨h1, h2⟩, h3⟩ := h
  have h4 : ¬ (2 ^ 1024 - 2 ^ 970 ≤ (hueI b).natAbs) := fun q => absurd (Nat.lt_of_le_of_lt q h3) (by decide +kernel)
  have e1 : ¬ Float64.isNaN (hueX b) = true := by rw [h1]; exact Bool.false_ne_true
  have e2 : ¬ Float64.isInf (hueX b) = true := by rw [h2]; exact Bool.false_ne_true
  show (if (Float64.cmp s 0 == some Ordering.eq) = true then some (v, v, v) else
    if Float64.isNaN (hueX b) = true then none else if Float64.isInf (hueX b) = true then none else
    if 2 ^ 1024 - 2 ^ 970 ≤ (hueI b).natAbs then none else hsvO.hsvI s v (hueI b) (hueF b)) = _
  rw [if_neg e1, if_neg e2, if_neg h4]
theorem hsvI_mod {s v f : UInt64} {i j : Int} (h : i.fmod 6 = j.fmod 6) : hsvO.hsvI s v i f = hsvO.hsvI s v j f := by
  unfold hsvO.hsvI
  rw [h]
theorem boxF {b sh lv : Int} (h0 : 0 ≤ b) (h1 : b < 64) (h2 : 1 ≤ sh) (h3 : sh ≤ 4) (h4 : 1 ≤ lv) (h5 : lv ≤ 4) : ∃ r g bb h l s, BoxF b sh lv r g bb h l s := by
  by_cases hb : b < 32
  · exact boxF0 h0 hb h2 h3 h4 h5
  · obtain ⟨r, g, bb, h, l, s, B⟩ := boxF0 (b := b - 32) (by omega) (by omega) h2 h3 h4 h5
    have k := List.all_eq_true.mp turn_all (b - 32).toNat (List.mem_range.mpr (by omega))
    have e1 : (((b - 32).toNat : Nat) : Int) = b - 32 := by omega
    rw [e1] at k
    unfold turnChk at k
    rw [show b - 32 + 32 = b by omega] at k
    simp only [Bool.and_eq_true, Bool.not_eq_true', beq_iff_eq] at k
    obtain ⟨⟨⟨⟨⟨k1, k2⟩, k3⟩, k4⟩, k5⟩, k6⟩ := k
    obtain ⟨c1, c2, c3, c4, c5, c6, c7, c8, c9, ca, cb, cc⟩ := B
    rw [hsvO_at k1] at c8
    refine ⟨r, g, bb, h, l, s, c1, c2, k3, c4, c5, ?_, c7, ?_, c9, ?_, cb, cc⟩
    · rw [k6]; exact c6
    · rw [hsvO_at k2, ← c8, k5, hsvI_mod k4]
    · rw [k6]; exact ca
end Mine
namespace Mine
open PySem PySem.W PyProof.Rows PySem.Calls

theorem div_fr {prog : Program} {w : World} {A : Around} {E : Value → Shared → Prop} {s : Shared} {a b : Int} {t u : Tok} {Q : Value → Shared → Prop} (hb : b ≠ 0) (hi : Float64.isInf (fr a b) = false) (h : Q (.float (fr a b) s.toks) { s with toks := s.toks + 1 }) :
    wpAny (model prog w) A (binaryOp .Div (.int a t) (.int b u)) Q E s := AutoIntOps.truediv_2 (by simpa using hb) (by unfold fr at hi; rw [hi]; exact Bool.false_ne_true) h
theorem den_lt {sh lv : Int} (h : lv * (8 - sh) < 17) : boxDen sh lv = lv * (8 - sh) := by unfold boxDen; rw [if_pos h]
theorem den_ge {sh lv : Int} (h : ¬ lv * (8 - sh) < 17) : boxDen sh lv = 32 - lv * (8 - sh) := by unfold boxDen; rw [if_neg h]
set_option maxRecDepth 100000 in
set_option maxHeartbeats 8000000 in
theorem box_tells : ∀ (w : World) (loose : List Str) (mean : ExcName → Option Value) (mg mb : Str → Option Value) (dp un : Nat) (gd : Option (List Code)) (cn : Str) (cs : Scope) (a : Addr) (ccd : Value) (cl : List (Str × Addr)) (outer : List Env) (A₀ : Around) (base h₀ : Heap) (L : Addr) (m : Str → Option Value) (news : List (Addr × Obj)) (s : Shared)
   (b : Int) (sh : Int) (lv : Int) (t1 : Tok) (t2 : Tok) (t3 : Tok) (Q E : Value → Shared → Prop),
   Below A₀ base outer h₀ → Fr h₀ L s.heap m → (Mine.gen.heap_1 w.params).In h₀ → News h₀ L s.heap news → Top Mine.gen.view_1 loose mean mg mb h₀ → cs.kind = .function → dp + 4 < recursionLimit → un + 32 < cLine →
   (0 ≤ b) →
   (b < 64) →
   (1 ≤ sh) →
   (sh ≤ 4) →
   (1 ≤ lv) →
   (lv ≤ 4) →
   (∀ (t : Tok) (h' : Heap) (tk' : Nat), Fr h₀ L h' m → News h₀ L h' news → Q (.int (b.fmod 32) t) { s with heap := h', toks := tk' }) →
   wpAny (model PySem.Challenge.rw_wf0054_01.row.prog w) (ktrTop dp un gd cn cs L a ccd cl outer) (call (.ref 74) [.int b t1, .int sh t2, .int lv t3]) Q E s := by
  k_fill
  intro w loose mean mg mb dp un gd cn cs a ccd cl outer A₀ base h₀ L m news s b sh lv t1 t2 t3 Q E B F X N T hk hd hu hc0 hc1 hc2 hc3 hc4 hc5 ret
  k_with_none
  k_with "my split" => repeat (rename (Mine.Apart _ _ ∧ _) => z'; obtain ⟨_, _⟩ := z')
  k_with "my fine" => ((unfold LCg.FinE); intro D' h' tk' F' N' o1'; (simp only [Mine.off1_cons, Mine.off1_nil, and_true] at o1'); (try (simp only [List.nil_append, List.cons_append] at N')); walk_at "my split"; (try dsimp only))
  k_with "my enter" => first   | (refine' Mine.enter_plain (by k_asm) (by k_asm) (by k_asm) (by k_asm) (by exact rfl) (by exact rfl) (by assumption) (by k_is) (by k_is) (by ktr_room) (by exact BindsTo.of_eq rfl) (by exact locs rfl) ?_ (by exact rfl) (by exact rfl) (by exact rfl) (by decide); k_whole; intro L' h' F' N' B' X' T'; (try dsimp only); (try k_fold))   | (refine' Mine.enter_cells (by k_asm) (by k_asm) (by k_asm) (by k_asm) (by exact rfl) (by exact rfl) (by assumption) (by k_is) (by k_is) (by ktr_room) (by exact BindsTo.of_eq rfl) (by exact rfl) (by decide +kernel) ?_ (by exact rfl) (by exact rfl) (by exact rfl); k_whole; intro L' h' tk' cells' F' N' Y' B' X' T'; k_cells Y'; (try simp only [List.cons_append, List.nil_append] at N'); (try dsimp only); (try k_fold))
  k_with "call builtin:max" => (k_here; (with_reducible show wpAny _ _ (call (Value.builtin "max") [Value.float _ _, Value.float _ _, Value.float _ _]) _ _ _); k_dflt (refine' Mine.max_threeN (by rfl) (by k_asm) (by k_asm) ?_; k_whole); intro t' h' tk' F' N')
  k_with "call builtin:min" => (k_here; (with_reducible show wpAny _ _ (call (Value.builtin "min") [Value.float _ _, Value.float _ _, Value.float _ _]) _ _ _); k_dflt (refine' Mine.min_threeN (by rfl) (by k_asm) (by k_asm) ?_; k_whole); intro t' h' tk' F' N')
  k_with "call builtin:list.insert" => (k_here; k_dflt (refine' Mine.insert0 (by k_asm) (by k_asm) (by k_upd) (by size_fits) ?_; k_whole); intro h' F' N'; (try dsimp only))
  k_with "inplaceOp Add ref" => (k_here; (with_reducible show wpAny _ _ (inplaceOp Operator.Add (Value.ref _) (Value.ref _)) _ _ _); k_dflt (refine' Mine.iadd_list (by k_asm) (by k_asm) (by k_mem) (by k_updF) (by size_fits) ?_; k_whole); intro h' n' F' N'; (try simp only [List.append_toArray, List.cons_append, List.nil_append] at N'); (try dsimp only))
  k_with "inplaceOp Add ref ref" => walk_at "inplaceOp Add ref"
  k_with "my item" => (k_here; (with_reducible show wpAny _ _ (subscriptTail _ _ (Value.ref _) (Value.int _ _)) _ _ _); k_dflt (refine' Mine.item_ints (by k_asm) (by k_mem) (by assumption) (by omega) (by omega) (by omega) ?_; k_whole); intro t')
  k_with "my len" => (k_here; (with_reducible show wpAny _ _ (call (Value.builtin "len") [Value.ref _]) _ _ _); k_dflt (refine' kst_len (by k_asm) (by k_mem) (by exact IntsAre.length (by assumption)) (by omega) ?_; k_whole))
  k_with "my toks" => (k_here; (with_reducible refine Mine.gen_toks ?_); intro tk9' htk9')
  k_with "execs cons" => walk_at "my toks"
  k_with "execs nil" => walk_at "my toks"
  k_with "call ref" => (k_here; k_dflt (refine' Mine.isT_tells _ _ _ _ _ _ _ _ _ _ _ _ _ _ _ _ _ _ _ _ _ _ _ _ _ (by k_asm) (by k_asm) (by k_asm) (by k_asm) (by k_asm) (by first | exact rfl | assumption) (by ktr_room) (by ktr_units)  ?_; k_whole); intro h9' tk9' F9' N9'; (try dsimp only); (try k_fold))
  k_with "call ref" => (k_here; k_dflt (refine' Mine.isN_tells _ _ _ _ _ _ _ _ _ _ _ _ _ _ _ _ _ _ _ _ _ _ _ _ _ (by k_asm) (by k_asm) (by k_asm) (by k_asm) (by k_asm) (by first | exact rfl | assumption) (by ktr_room) (by ktr_units)  ?_; k_whole); intro h9' tk9' F9' N9'; (try dsimp only); (try k_fold))
  k_with "call ref" => (k_here; k_dflt (refine' Mine.c4_tells _ _ _ _ _ _ _ _ _ _ _ _ _ _ _ _ _ _ _ _ _ _ _ _ _ (by k_asm) (by k_asm) (by k_asm) (by k_asm) (by k_asm) (by first | exact rfl | assumption) (by ktr_room) (by ktr_units) (by omega) (by omega) ?_; k_whole); intro h9' tk9' F9' N9'; (try dsimp only); (try k_fold))
  k_with "call ref" => (k_here; k_dflt (refine' Mine.hsv_tells _ _ _ _ _ _ _ _ _ _ _ _ _ _ _ _ _ _ _ _ _ _ _ _ _ _ _ _ _ _ _ _ (by k_asm) (by k_asm) (by k_asm) (by k_asm) (by k_asm) (by first | exact rfl | assumption) (by ktr_room) (by ktr_units) (by exact BoxF.hsv (by assumption)) ?_; k_whole); intro D9' u0' u1' u2' h9' tk9' F9' N9' o9'; (try simp only [LCg.Off1, and_true] at o9'); (try dsimp only); (try k_fold))
  k_with "call ref" => (k_here; k_dflt (refine' Mine.rgb_tells _ _ _ _ _ _ _ _ _ _ _ _ _ _ _ _ _ _ _ _ _ _ _ _ _ _ _ _ _ _ _ _ (by k_asm) (by k_asm) (by k_asm) (by k_asm) (by k_asm) (by first | exact rfl | assumption) (by ktr_room) (by ktr_units) (by exact BoxF.hls (by assumption)) ?_; k_whole); intro D9' u0' u1' u2' h9' tk9' hu0' hu1' hu2' htk9' F9' N9' o9'; (try simp only [LCg.Off1, and_true] at o9'); (try dsimp only); (try k_fold))
  k_with "my fin" => first | exact BoxF.f2 (by assumption) | exact BoxF.f3 (by assumption) | exact BoxF.f4 (by assumption) | exact BoxF.f5 (by assumption) | exact BoxF.f6 (by assumption)
  k_with "binaryOp Div int int" => (k_here; (first   | refine div_fr (by decide) (by walk_at "my fin") ?_   | (rw [← den_lt (by assumption)]; refine div_fr (BoxF.den (by assumption)) (BoxF.f1 (by assumption)) ?_)   | (rw [← den_ge (by assumption)]; refine div_fr (BoxF.den (by assumption)) (BoxF.f1 (by assumption)) ?_)))
  k_with "my alleq" => repeat (first | exact AllEq.nil | refine AllEq.cons (eqAt_bool (by first | exact decide_eq_decide.mpr (by omega) | exact decide_eq_true (by omega))) ?_ | refine AllEq.cons (fun A => eqAt_float (by first | exact Nat.succ_ne_zero _ | exact Nat.ne_of_gt (by assumption) | assumption) (by first | exact Nat.succ_ne_zero _ | exact Nat.ne_of_gt (by assumption) | assumption) (Unbooked.of (by k_asm) (by k_asm) (by k_asm) (by k_is)) (by first | exact BoxF.e1 (by assumption) | exact BoxF.e2 (by assumption) | exact BoxF.e3 (by assumption))) ?_)
  k_with "compareOp NotEq ref ref" => (k_here; (with_reducible show wpAny _ _ (compareOp CmpOp.NotEq (Value.ref _) (Value.ref _)) _ _ _); k_dflt (first   | (refine' ne_lists_same (by k_asm) (by k_mem) (by k_mem) (by ktr_units) (by walk_at "my alleq") ?_; k_whole)   | (refine' ne_tuples_same (by k_asm) (by k_mem) (by k_mem) (by ktr_units) (by walk_at "my alleq") ?_; k_whole)))
  w_top off
  have hm0 := fmod_lo b (n := 32) (by decide)
  have hm1 := fmod_hi b (n := 32) (by decide)
  obtain ⟨fr', fg', fb', fh', fl', fs', hBox⟩ := boxF hc0 hc1 hc2 hc3 hc4 hc5
  refine wpAny_call ?_
  k_dflt walk_at "my enter"
  k_steps
  all_goals ((rename Fr _ _ _ _ => F9); (rename News _ _ _ _ => N9); have H9 := home0 F N F9 N9)
  all_goals (first | exact ret _ _ _ H9.1 H9.2 | skip)
end Mine
namespace Mine
open PySem PySem.W PyProof.Rows PySem.Calls

noncomputable def cartStep (n : Int) (σ : Int × Int × Unit) (k : Int) : Int × Int × Unit :=
  if (Builtin.bitAnd (n.fdiv (2 ^ (k.fmod 32).toNat)) 1 != 0) = true then (σ.fst, σ.snd.fst + 1, ())
  else if 0 < σ.snd.fst then
    if 31 < k then (σ.fst + 2 ^ (k - 32).toNat, σ.snd.fst - 1, ()) else (σ.fst, σ.snd.fst - 1, ())
  else (σ.fst, σ.snd.fst, ())
noncomputable def cartF (n : Int) : Int := (List.foldl (cartStep n) (0, 0, ()) (rangeInts 0 1 (64 - 0 : Int).toNat)).fst
set_option maxRecDepth 100000 in
set_option maxHeartbeats 8000000 in
theorem carted_tells : ∀ (w : World) (loose : List Str) (mean : ExcName → Option Value) (mg mb : Str → Option Value) (dp un : Nat) (gd : Option (List Code)) (cn : Str) (cs : Scope) (a : Addr) (ccd : Value) (cl : List (Str × Addr)) (outer : List Env) (A₀ : Around) (base h₀ : Heap) (L : Addr) (m : Str → Option Value) (news : List (Addr × Obj)) (s : Shared)
   (n : Int) (t : Tok) (Q E : Value → Shared → Prop),
   Below A₀ base outer h₀ → Fr h₀ L s.heap m → (Mine.gen.heap_1 w.params).In h₀ → News h₀ L s.heap news → Top Mine.gen.view_1 loose mean mg mb h₀ → cs.kind = .function → dp + 2 < recursionLimit → un + 16 < cLine →
   (0 ≤ n) →
   (n < 2 ^ 32) →
   (∀ (t : Tok) (h' : Heap) (tk' : Nat), Fr h₀ L h' m → News h₀ L h' news → Q (.int (cartF n) t) { s with heap := h', toks := tk' }) →
   wpAny (model PySem.Challenge.rw_wf0054_01.row.prog w) (ktrTop dp un gd cn cs L a ccd cl outer) (call (.ref 105) [.int n t]) Q E s := by
  k_fill
  intro w loose mean mg mb dp un gd cn cs a ccd cl outer A₀ base h₀ L m news s n t Q E B F X N T hk hd hu hc0 hc1 ret
  k_with_none
  k_with "my split" => repeat (rename (Mine.Apart _ _ ∧ _) => z'; obtain ⟨_, _⟩ := z')
  k_with "my fine" => ((unfold LCg.FinE); intro D' h' tk' F' N' o1'; (simp only [Mine.off1_cons, Mine.off1_nil, and_true] at o1'); (try (simp only [List.nil_append, List.cons_append] at N')); walk_at "my split"; (try dsimp only))
  k_with "my enter" => first   | (refine' Mine.enter_plain (by k_asm) (by k_asm) (by k_asm) (by k_asm) (by exact rfl) (by exact rfl) (by assumption) (by k_is) (by k_is) (by ktr_room) (by exact BindsTo.of_eq rfl) (by exact locs rfl) ?_ (by exact rfl) (by exact rfl) (by exact rfl) (by decide); k_whole; intro L' h' F' N' B' X' T'; (try dsimp only); (try k_fold))   | (refine' Mine.enter_cells (by k_asm) (by k_asm) (by k_asm) (by k_asm) (by exact rfl) (by exact rfl) (by assumption) (by k_is) (by k_is) (by ktr_room) (by exact BindsTo.of_eq rfl) (by exact rfl) (by decide +kernel) ?_ (by exact rfl) (by exact rfl) (by exact rfl); k_whole; intro L' h' tk' cells' F' N' Y' B' X' T'; k_cells Y'; (try simp only [List.cons_append, List.nil_append] at N'); (try dsimp only); (try k_fold))
  k_with "call builtin:max" => (k_here; (with_reducible show wpAny _ _ (call (Value.builtin "max") [Value.float _ _, Value.float _ _, Value.float _ _]) _ _ _); k_dflt (refine' Mine.max_threeN (by rfl) (by k_asm) (by k_asm) ?_; k_whole); intro t' h' tk' F' N')
  k_with "call builtin:min" => (k_here; (with_reducible show wpAny _ _ (call (Value.builtin "min") [Value.float _ _, Value.float _ _, Value.float _ _]) _ _ _); k_dflt (refine' Mine.min_threeN (by rfl) (by k_asm) (by k_asm) ?_; k_whole); intro t' h' tk' F' N')
  k_with "call builtin:list.insert" => (k_here; k_dflt (refine' Mine.insert0 (by k_asm) (by k_asm) (by k_upd) (by size_fits) ?_; k_whole); intro h' F' N'; (try dsimp only))
  k_with "inplaceOp Add ref" => (k_here; (with_reducible show wpAny _ _ (inplaceOp Operator.Add (Value.ref _) (Value.ref _)) _ _ _); k_dflt (refine' Mine.iadd_list (by k_asm) (by k_asm) (by k_mem) (by k_updF) (by size_fits) ?_; k_whole); intro h' n' F' N'; (try simp only [List.append_toArray, List.cons_append, List.nil_append] at N'); (try dsimp only))
  k_with "inplaceOp Add ref ref" => walk_at "inplaceOp Add ref"
  k_with "my item" => (k_here; (with_reducible show wpAny _ _ (subscriptTail _ _ (Value.ref _) (Value.int _ _)) _ _ _); k_dflt (refine' Mine.item_ints (by k_asm) (by k_mem) (by assumption) (by omega) (by omega) (by omega) ?_; k_whole); intro t')
  k_with "my len" => (k_here; (with_reducible show wpAny _ _ (call (Value.builtin "len") [Value.ref _]) _ _ _); k_dflt (refine' kst_len (by k_asm) (by k_mem) (by exact IntsAre.length (by assumption)) (by omega) ?_; k_whole))
  k_with "my toks" => (k_here; (with_reducible refine Mine.gen_toks ?_); intro tk9' htk9')
  w_top off
  refine wpAny_call ?_
  k_dflt walk_at "my enter"
  k_steps
  all_goals ((rename Fr _ _ _ _ => F9); (rename News _ _ _ _ => N9); have H9 := home0 F N F9 N9)
  all_goals (first | exact ret _ _ _ H9.1 H9.2 | skip)
end Mine
namespace Mine
open PySem PySem.W PyProof.Rows PySem.Calls

noncomputable def octHi (n : Int) : List Int := if _h : n ≤ 63 then [] else octHi (n.fdiv 64) ++ [64 + (n.fdiv 64).fmod 64]
termination_by n.toNat
decreasing_by rw [Int.fdiv_eq_ediv_of_nonneg _ (by decide)]; omega
noncomputable def octF (n : Int) : List Int := octHi n ++ [n.fmod 64]
structure OctInv (n k : Int) (o : List Int) : Prop where
  nn : 0 ≤ k
  eq : octHi k ++ o = octF n
  le : (octF n).length ≤ 20
theorem octHi_len : ∀ (j : Nat) (n : Int), n < 64 ^ (j + 1) → (octHi n).length ≤ j := by
  intro j
  induction j with
  | zero => intro n h; unfold octHi; rw [dif_pos (by omega)]; exact Nat.le_refl _
  | succ j ih =>
    intro n h
    unfold octHi
    split
    · exact Nat.zero_le _
    · rw [List.length_append, List.length_singleton]
      refine Nat.succ_le_succ (ih _ ?_)
      rw [Int.fdiv_eq_ediv_of_nonneg _ (by decide)]
      have e : (64 : Int) ^ (j + 1 + 1) = 64 ^ (j + 1) * 64 := Int.pow_succ _ _
      omega
theorem oct_start {n : Int} (h0 : 0 ≤ n) (h1 : n < 2 ^ 32) : OctInv n n [n.fmod 64] := by
  refine ⟨h0, rfl, ?_⟩
  have := octHi_len 18 n (by omega)
  unfold octF
  rw [List.length_append, List.length_singleton]
  omega
theorem oct_step {n k : Int} {o : List Int} (h : OctInv n k o) (hk : 63 < k) : OctInv n (k.fdiv 64) ((64 + (k.fdiv 64).fmod 64) :: o) := by
  obtain ⟨h0, h1, h2⟩ := h
  refine ⟨by rw [Int.fdiv_eq_ediv_of_nonneg _ (by decide)]; omega, ?_, h2⟩
  rw [octHi, dif_neg (by omega)] at h1
  rw [← h1]
  simp
theorem oct_len {n k : Int} {o : List Int} (h : OctInv n k o) : o.length ≤ 20 := by
  obtain ⟨h0, h1, h2⟩ := h
  rw [← h1, List.length_append] at h2
  omega
theorem oct_end {n k : Int} {o : List Int} (h : OctInv n k o) (hk : ¬ 63 < k) : o = octF n := by
  obtain ⟨h0, h1, h2⟩ := h
  rw [octHi, dif_pos (by omega)] at h1
  exact h1
set_option maxRecDepth 100000 in
set_option maxHeartbeats 8000000 in
theorem oct_tells : ∀ (w : World) (loose : List Str) (mean : ExcName → Option Value) (mg mb : Str → Option Value) (dp un : Nat) (gd : Option (List Code)) (cn : Str) (cs : Scope) (a : Addr) (ccd : Value) (cl : List (Str × Addr)) (outer : List Env) (A₀ : Around) (base h₀ : Heap) (L : Addr) (m : Str → Option Value) (news : List (Addr × Obj)) (s : Shared)
   (n : Int) (t : Tok) (Q E : Value → Shared → Prop),
   Below A₀ base outer h₀ → Fr h₀ L s.heap m → (Mine.gen.heap_1 w.params).In h₀ → News h₀ L s.heap news → Top Mine.gen.view_1 loose mean mg mb h₀ → cs.kind = .function → dp + 2 < recursionLimit → un + 16 < cLine →
   (0 ≤ n) →
   (n < 2 ^ 32) →
   (∀ (D : Addr) (us : List Value) (c : Nat) (h' : Heap) (tk' : Nat), Fr h₀ L h' m → News h₀ L h' ((D, W.listOf us.toArray c) :: news) → LCg.Off1 D news → IntsAre us (octF n) → Q (.ref D) { s with heap := h', toks := tk' }) →
   wpAny (model PySem.Challenge.rw_wf0054_01.row.prog w) (ktrTop dp un gd cn cs L a ccd cl outer) (call (.ref 91) [.int n t]) Q E s := by
  k_fill
  intro w loose mean mg mb dp un gd cn cs a ccd cl outer A₀ base h₀ L m news s n t Q E B F X N T hk hd hu hc0 hc1 ret
  k_with_none
  k_with "my split" => repeat (rename (Mine.Apart _ _ ∧ _) => z'; obtain ⟨_, _⟩ := z')
  k_with "my fine" => ((unfold LCg.FinE); intro D' h' tk' F' N' o1'; (simp only [Mine.off1_cons, Mine.off1_nil, and_true] at o1'); (try (simp only [List.nil_append, List.cons_append] at N')); walk_at "my split"; (try dsimp only))
  k_with "my enter" => first   | (refine' Mine.enter_plain (by k_asm) (by k_asm) (by k_asm) (by k_asm) (by exact rfl) (by exact rfl) (by assumption) (by k_is) (by k_is) (by ktr_room) (by exact BindsTo.of_eq rfl) (by exact locs rfl) ?_ (by exact rfl) (by exact rfl) (by exact rfl) (by decide); k_whole; intro L' h' F' N' B' X' T'; (try dsimp only); (try k_fold))   | (refine' Mine.enter_cells (by k_asm) (by k_asm) (by k_asm) (by k_asm) (by exact rfl) (by exact rfl) (by assumption) (by k_is) (by k_is) (by ktr_room) (by exact BindsTo.of_eq rfl) (by exact rfl) (by decide +kernel) ?_ (by exact rfl) (by exact rfl) (by exact rfl); k_whole; intro L' h' tk' cells' F' N' Y' B' X' T'; k_cells Y'; (try simp only [List.cons_append, List.nil_append] at N'); (try dsimp only); (try k_fold))
  k_with "call builtin:max" => (k_here; (with_reducible show wpAny _ _ (call (Value.builtin "max") [Value.float _ _, Value.float _ _, Value.float _ _]) _ _ _); k_dflt (refine' Mine.max_threeN (by rfl) (by k_asm) (by k_asm) ?_; k_whole); intro t' h' tk' F' N')
  k_with "call builtin:min" => (k_here; (with_reducible show wpAny _ _ (call (Value.builtin "min") [Value.float _ _, Value.float _ _, Value.float _ _]) _ _ _); k_dflt (refine' Mine.min_threeN (by rfl) (by k_asm) (by k_asm) ?_; k_whole); intro t' h' tk' F' N')
  k_with "call builtin:list.insert" => (k_here; k_dflt (refine' Mine.insert0 (by k_asm) (by k_asm) (by k_upd) (by size_fits) ?_; k_whole); intro h' F' N'; (try dsimp only))
  k_with "inplaceOp Add ref" => (k_here; (with_reducible show wpAny _ _ (inplaceOp Operator.Add (Value.ref _) (Value.ref _)) _ _ _); k_dflt (refine' Mine.iadd_list (by k_asm) (by k_asm) (by k_mem) (by k_updF) (by size_fits) ?_; k_whole); intro h' n' F' N'; (try simp only [List.append_toArray, List.cons_append, List.nil_append] at N'); (try dsimp only))
  k_with "inplaceOp Add ref ref" => walk_at "inplaceOp Add ref"
  k_with "my item" => (k_here; (with_reducible show wpAny _ _ (subscriptTail _ _ (Value.ref _) (Value.int _ _)) _ _ _); k_dflt (refine' Mine.item_ints (by k_asm) (by k_mem) (by assumption) (by omega) (by omega) (by omega) ?_; k_whole); intro t')
  k_with "my len" => (k_here; (with_reducible show wpAny _ _ (call (Value.builtin "len") [Value.ref _]) _ _ _); k_dflt (refine' kst_len (by k_asm) (by k_mem) (by exact IntsAre.length (by assumption)) (by omega) ?_; k_whole))
  k_with "my toks" => (k_here; (with_reducible refine Mine.gen_toks ?_); intro tk9' htk9')
  k_with "exec While Compare cons nil" => refine Halt.go ?_
  w_top off
  refine wpAny_call ?_
  k_dflt walk_at "my enter"
  refine wpAny_noRaise ?_
  k_steps
  unfold Halt
  (rename Fr _ _ _ _ => F1); (rename News _ _ _ _ => N1)
  refine While_inv2 (fun k m nx => ∃ (D : Addr) (number : Int) (o : List Int) (us : List Value) (c : Nat) (t : Tok), nx = [(D, W.listOf us.toArray c)] ∧ IntsAre us o ∧ OctInv n number o ∧ k = number.toNat ∧ m (Str.ofString "number") = some (.int number t) ∧ m (Str.ofString "octets") = some (.ref D)) (n₀ := n.toNat) F1 N1 ?_ ?_ (hE := PassesOwn.never)
  · exact ⟨_, n, [n.fmod 64], _, _, _, rfl, .cons _ _ .nil, oct_start hc0 hc1, rfl, rfl, rfl⟩
  · clear F1 N1
    rintro k m₁ nx h₁ tk₁ F2 N2 ⟨D, number, o, us, c, t, rfl, hi, ho, rfl, hm1, hm2⟩
    have F3 := Fr_knownL [(Str.ofString "number", .int number t), (Str.ofString "octets", .ref D)] F2 (all2 hm1 hm2)
    clear F2
    have hl : us.length ≤ 20 := hi.length ▸ oct_len ho
    k_steps
    · (rename Fr _ _ _ _ => F1); (rename News _ _ _ _ => N1)
      refine ⟨_, _, _, _, _, rfl, F1, N1, ?_, _, _, _, _, _, _, rfl, .cons _ _ hi, oct_step ho (by assumption), rfl, rfl, rfl⟩
      rw [Int.fdiv_eq_ediv_of_nonneg _ (by decide)]
      omega
    · (rename Fr _ _ _ _ => F1); (rename News _ _ _ _ => N1)
      obtain ⟨G1, G2, G3⟩ := home1 F N F1 N1 _ _ (.head _)
      exact ret _ _ _ _ _ G1 G2 G3 (oct_end ho (by assumption) ▸ hi)
end Mine
namespace Mine
open PySem PySem.W PyProof.Rows PySem.Calls PyProof.Rows.LCg PyProof.Rows.LCt
noncomputable def ringOf (n : Int) : List Int := (rangeKs 0 (32 - 0 : Int).toNat).map (fun k => Builtin.bitAnd (n.fdiv (2 ^ k.toNat)) 1)
noncomputable def isFall (r : List Int) (k : Int) : Bool := itemI r (k - 1) == 1 && itemI r k == 0
noncomputable def fallsOf (r : List Int) : List Int := (rangeKs 0 r.length).filter (isFall r)
theorem fall_tt {r : List Int} {k : Int} (h1 : itemI r (k - 1) = 1) (h2 : itemI r k = 0) : isFall r k = true := by unfold isFall; rw [h1, h2]; rfl
theorem fall_ff2 {r : List Int} {k : Int} (h2 : itemI r k ≠ 0) : isFall r k = false := by
  unfold isFall
  rw [Bool.and_eq_false_iff]
  exact .inr (beq_eq_false_iff_ne.mpr h2)
theorem fall_ff1 {r : List Int} {k : Int} (h1 : itemI r (k - 1) ≠ 1) : isFall r k = false := by
  unfold isFall
  rw [Bool.and_eq_false_iff]
  exact .inl (beq_eq_false_iff_ne.mpr h1)
theorem falls_le (r : List Int) : (fallsOf r).length ≤ r.length := by
  unfold fallsOf
  refine Nat.le_trans (List.length_filter_le _ _) ?_
  rw [rangeKs_length]; exact Nat.le_refl _
noncomputable def stays (r : List Int) (k : Int) : Bool := !((fallsOf r).any fun x => x == k) && !((fallsOf r).any fun x => x == (k + 1).fmod r.length)
theorem stays_1 {r : List Int} {k : Int} (h : ((fallsOf r).any fun x => x == k) = true) : stays r k = false := by unfold stays; rw [h]; rfl
theorem stays_2 {r : List Int} {k : Int} (h : ((fallsOf r).any fun x => x == (k + 1).fmod r.length) = true) : stays r k = false := by unfold stays; rw [h, Bool.not_true, Bool.and_false]
theorem stays_3 {r : List Int} {k : Int} (h1 : ((fallsOf r).any fun x => x == k) = false) (h2 : ((fallsOf r).any fun x => x == (k + 1).fmod r.length) = false) : stays r k = true := by unfold stays; rw [h1, h2]; rfl
noncomputable def ringNext (r : List Int) : List Int := ((rangeKs 0 r.length).filter (stays r)).map (itemI r)
noncomputable def solRun : Nat → List Int → List Int
  | 0, _ => []
  | f + 1, r => if r.any (fun x => x == 1) = true then ((fallsOf r).length : Int) :: solRun f (ringNext r) else []
noncomputable def solF (n : Int) : List Int := solRun 33 (ringOf n)
end Mine
namespace Mine
open PySem PySem.W PyProof.Rows PySem.Calls
namespace Ring
noncomputable def b2i (b : Bool) : Int := if b then 1 else 0
noncomputable def toI (b : List Bool) : List Int := b.map b2i
theorem toI_len (b : List Bool) : (toI b).length = b.length := List.length_map ..
theorem toI_get (b : List Bool) {k : Nat} (h : k < b.length) : (toI b).getD k 0 = b2i (b.getD k false) := by
  unfold toI
  rw [List.getD_eq_getElem?_getD, List.getD_eq_getElem?_getD, List.getElem?_map, List.getElem?_eq_getElem h]
  rfl
noncomputable def prevB (b : List Bool) (k : Nat) : Bool := if k = 0 then lt false b else b.getD (k - 1) false
noncomputable def fallB (b : List Bool) (k : Nat) : Bool := prevB b k && !(b.getD k false)
noncomputable def keepAt (b : List Bool) (k : Nat) : List Bool := if fallB b k || fallB b ((k + 1) % b.length) then [] else [b.getD k false]
theorem lt_get (p : Bool) : ∀ (b : List Bool), b ≠ [] → lt p b = b.getD (b.length - 1) false
  | [], h => absurd rfl h
  | [_], _ => rfl
  | x :: y :: r, _ => by
    have := lt_get x (y :: r) (by simp)
    show lt x (y :: r) = _
    rw [this]
    rfl
theorem prev_at (p : Bool) (pre suf : List Bool) (h : pre ≠ []) : (pre ++ suf).getD (pre.length - 1) false = lt p pre := by
  rw [lt_get p pre h, List.getD_eq_getElem?_getD, List.getD_eq_getElem?_getD, List.getElem?_append_left]
  have : 0 < pre.length := List.length_pos_iff.mpr h
  omega
theorem get_at (pre suf : List Bool) (x : Bool) : (pre ++ x :: suf).getD pre.length false = x := by
  rw [List.getD_eq_getElem?_getD, List.getElem?_append_right (Nat.le_refl _)]
  simp
theorem prevB_at (pre suf : List Bool) : prevB (pre ++ suf) pre.length = lt (lt false (pre ++ suf)) pre := by
  unfold prevB
  by_cases h : pre = []
  · subst h; rfl
  · have : pre.length ≠ 0 := fun e => h (List.eq_nil_of_length_eq_zero e)
    rw [if_neg this, prev_at (lt false (pre ++ suf)) pre suf h]
theorem fallB_at (pre suf : List Bool) (x : Bool) : fallB (pre ++ x :: suf) pre.length = (lt (lt false (pre ++ x :: suf)) pre && !x) := by
  unfold fallB
  rw [prevB_at, get_at]
theorem fallB_next (pre suf : List Bool) (x : Bool) : fallB (pre ++ x :: suf) ((pre.length + 1) % (pre ++ x :: suf).length) = (x && !(hd suf (hd (pre ++ x :: suf) false))) := by
  have hn : (pre ++ x :: suf).length = pre.length + 1 + suf.length := by rw [List.length_append, List.length_cons]; omega
  cases suf with
  | nil =>
    rw [hn, show (pre.length + 1) % (pre.length + 1 + ([] : List Bool).length) = 0 by simp]
    unfold fallB prevB
    rw [if_pos rfl]
    have e1 : lt false (pre ++ [x]) = x := by rw [lt_app]; rfl
    have e2 : (pre ++ [x]).getD 0 false = hd (pre ++ [x]) false := by cases pre <;> rfl
    rw [e1, e2]
    rfl
  | cons y t =>
    rw [hn, Nat.mod_eq_of_lt (by rw [List.length_cons]; omega)]
    have e : pre ++ x :: y :: t = (pre ++ [x]) ++ y :: t := by simp
    have e2 : pre.length + 1 = (pre ++ [x]).length := by simp
    rw [e, e2, fallB_at, lt_app]
    rfl
theorem thin_idx : ∀ (suf pre : List Bool), (List.range' pre.length suf.length).flatMap (keepAt (pre ++ suf)) = thin (lt (lt false (pre ++ suf)) pre) suf (hd (pre ++ suf) false) := by
  intro suf
  induction suf with
  | nil => intro pre; rfl
  | cons x t ih =>
    intro pre
    rw [List.length_cons, List.range'_succ, List.flatMap_cons]
    have e : pre ++ x :: t = (pre ++ [x]) ++ t := by simp
    have h := ih (pre ++ [x])
    rw [← e, List.length_append, List.length_singleton, lt_app] at h
    rw [h]
    show keepAt _ _ ++ _ = keep _ _ _ ++ _
    congr 1
    unfold keepAt keep
    rw [fallB_at, fallB_next, get_at]
theorem falls_idx : ∀ (suf pre : List Bool), ((List.range' pre.length suf.length).filter (fallB (pre ++ suf))).length = falls (lt (lt false (pre ++ suf)) pre) suf := by
  intro suf
  induction suf with
  | nil => intro pre; rfl
  | cons x t ih =>
    intro pre
    rw [List.length_cons, List.range'_succ]
    have e : pre ++ x :: t = (pre ++ [x]) ++ t := by simp
    have h := ih (pre ++ [x])
    rw [← e, List.length_append, List.length_singleton, lt_app] at h
    have hf := fallB_at pre t x
    show _ = (if (lt (lt false (pre ++ x :: t)) pre && !x) = true then 1 else 0) + falls x t
    rw [← hf]
    by_cases q : fallB (pre ++ x :: t) pre.length = true
    · rw [List.filter_cons_of_pos q, if_pos q, List.length_cons, h]
      show falls x t + 1 = _
      omega
    · rw [List.filter_cons_of_neg q, if_neg q, h]
      show falls x t = _
      omega
theorem range_range' (n : Nat) : List.range n = List.range' 0 n := List.range_eq_range'
theorem itemI_pos (b : List Bool) {k : Nat} (h : k < b.length) : itemI (toI b) (0 + (k : Int)) = b2i (b.getD k false) := by
  unfold itemI
  rw [if_neg (by omega), show (0 + (k : Int)).toNat = k by omega, toI_get b h]
theorem itemI_prev (b : List Bool) {k : Nat} (h : k < b.length) : itemI (toI b) (0 + (k : Int) - 1) = b2i (prevB b k) := by
  unfold itemI prevB
  by_cases hk : k = 0
  · subst hk
    rw [if_pos (by omega), toI_len, show (0 + ((0 : Nat) : Int) - 1 + (b.length : Int)).toNat = b.length - 1 by omega, toI_get b (by omega), if_pos rfl, lt_get false b (by intro e; subst e; exact absurd h (Nat.not_lt_zero _))]
  · rw [if_neg (by omega), show (0 + (k : Int) - 1).toNat = k - 1 by omega, toI_get b (by omega), if_neg hk]
theorem isFall_B (b : List Bool) {k : Nat} (h : k < b.length) : isFall (toI b) (0 + (k : Int)) = fallB b k := by
  unfold isFall fallB
  rw [itemI_pos b h, itemI_prev b h]
  cases prevB b k <;> cases b.getD k false <;> rfl
theorem falls_any (b : List Bool) {k : Nat} (h : k < b.length) (z : Int) (hz : z = (k : Int)) : ((fallsOf (toI b)).any fun x => x == z) = fallB b k := by
  subst hz
  rw [Bool.eq_iff_iff, List.any_eq_true]
  unfold fallsOf rangeKs
  constructor
  · rintro ⟨x, hx, he⟩
    obtain ⟨h1, h2⟩ := List.mem_filter.mp hx
    have : x = (k : Int) := eq_of_beq he
    subst this
    have h3 := isFall_B b h
    rw [Int.zero_add] at h3
    rw [← h3]; exact h2
  · intro q
    refine ⟨0 + (k : Int), List.mem_filter.mpr ⟨List.mem_map.mpr ⟨k, List.mem_range.mpr (by rw [toI_len]; exact h), rfl⟩, by rw [isFall_B b h]; exact q⟩, by simp⟩
theorem stays_B (b : List Bool) {k : Nat} (h : k < b.length) : stays (toI b) (0 + (k : Int)) = !(fallB b k || fallB b ((k + 1) % b.length)) := by
  unfold stays
  rw [falls_any b h _ (by omega), falls_any b (k := (k + 1) % b.length) (Nat.mod_lt _ (by omega)) _ (by rw [toI_len, show (0 + (k : Int) + 1) = ((k + 1 : Nat) : Int) by omega]; exact (Int.ofNat_fmod _ _).symm)]
  cases fallB b k <;> cases fallB b ((k + 1) % b.length) <;> rfl
theorem filter_flat {α β : Type} (P : α → Bool) (f : α → β) (l : List α) : (l.filter P).map f = l.flatMap fun k => if P k = true then [f k] else [] := by
  induction l with
  | nil => rfl
  | cons a r ih =>
    rw [List.flatMap_cons, ← ih]
    by_cases h : P a = true
    · rw [List.filter_cons_of_pos h, if_pos h]; rfl
    · rw [List.filter_cons_of_neg h, if_neg h]; rfl
theorem flat_congr {α β : Type} {f g : α → List β} : ∀ {l : List α}, (∀ a ∈ l, f a = g a) → l.flatMap f = l.flatMap g
  | [], _ => rfl
  | a :: r, h => by rw [List.flatMap_cons, List.flatMap_cons, h a (.head _), flat_congr fun x hx => h x (.tail _ hx)]
theorem ringNext_B (b : List Bool) : ringNext (toI b) = toI (cyc b) := by
  have h := thin_idx b []
  simp only [List.nil_append, List.length_nil] at h
  show _ = toI (thin (lt (lt false b) []) b (hd b false))
  rw [← h, ← range_range']
  unfold ringNext rangeKs
  rw [filter_flat, toI_len, List.flatMap_map]
  unfold toI
  rw [List.map_flatMap]
  refine flat_congr fun k hk => ?_
  have hk' := List.mem_range.mp hk
  have e1 := stays_B b hk'
  have e2 := itemI_pos b hk'
  unfold toI at e1 e2
  rw [e1, e2]
  unfold keepAt
  cases fallB b k || fallB b ((k + 1) % b.length) <;> rfl
theorem fallsOf_B (b : List Bool) : (fallsOf (toI b)).length = cnt b := by
  have h := falls_idx b []
  simp only [List.nil_append, List.length_nil] at h
  show _ = falls (lt (lt false b) []) b
  rw [← h, ← range_range']
  unfold fallsOf rangeKs
  rw [toI_len, List.filter_map, List.length_map]
  congr 1
  refine List.filter_congr fun k hk => ?_
  exact isFall_B b (List.mem_range.mp hk)
theorem any_B (b : List Bool) : (toI b).any (fun x => x == 1) = b.any id := by
  unfold toI
  rw [List.any_map]
  congr 1
  funext x
  cases x <;> rfl
theorem solRun_B : ∀ (f : Nat) (b : List Bool), solRun f (toI b) = (sol f b).map (fun c : Nat => (c : Int))
  | 0, _ => rfl
  | f + 1, b => by
    unfold solRun sol
    rw [any_B, fallsOf_B, ringNext_B, solRun_B f]
    by_cases h : b.any id = true
    · rw [if_pos h, if_pos h]; rfl
    · rw [if_neg h, if_neg h]; rfl
/-- a number's bits -/
noncomputable def bitsN (x : Nat) : List Bool := (List.range 32).map x.testBit
theorem bitsN_len (x : Nat) : (bitsN x).length = 32 := by unfold bitsN; rw [List.length_map, List.length_range]
theorem and_one (q : Nat) : Builtin.bitAnd (q : Int) 1 = if q % 2 = 1 then 1 else 0 := by
  show ((q &&& 1 : Nat) : Int) = _
  rw [Nat.and_one_is_mod]
  rcases Nat.mod_two_eq_zero_or_one q with h | h <;> rw [h] <;> rfl
theorem bit_at (x k : Nat) : Builtin.bitAnd ((x : Int).fdiv (2 ^ k)) 1 = b2i (x.testBit k) := by
  have e : (x : Int).fdiv (2 ^ k) = ((x / 2 ^ k : Nat) : Int) := by
    have : ((2 : Int) ^ k) = ((2 ^ k : Nat) : Int) := by push_cast; rfl
    rw [this]
    exact (Int.ofNat_fdiv x (2 ^ k)).symm
  rw [e, and_one, Nat.testBit_eq_decide_div_mod_eq]
  unfold b2i
  by_cases h : x / 2 ^ k % 2 = 1
  · rw [if_pos h, if_pos (decide_eq_true h)]
  · rw [if_neg h, if_neg (by rw [decide_eq_false h]; exact Bool.false_ne_true)]
theorem ringOf_B (x : Nat) : ringOf (x : Int) = toI (bitsN x) := by
  unfold ringOf rangeKs toI bitsN
  rw [List.map_map, List.map_map]
  show (List.range 32).map _ = _
  refine List.map_congr_left fun k _ => ?_
  show Builtin.bitAnd ((x : Int).fdiv (2 ^ (0 + (k : Int)).toNat)) 1 = _
  rw [show (0 + (k : Int)).toNat = k by omega, bit_at]
  rfl
theorem solF_B (x : Nat) : solF (x : Int) = (sol 33 (bitsN x)).map (fun c : Nat => (c : Int)) := by
  unfold solF
  rw [ringOf_B, solRun_B]
theorem sum_B (b : List Bool) : (toI b).sum = (ones b : Int) := by
  induction b with
  | nil => rfl
  | cons x r ih =>
    show b2i x + (toI r).sum = ((ones (x :: r) : Nat) : Int)
    rw [ih]
    cases x <;> simp [b2i, ones]
theorem len_e10 (r : List Bool) : (e10 r).length + 2 * c10 r = r.length := by
  fun_induction e10 r with
  | case1 => rfl
  | case2 r ih => simp [c10]; omega
  | case3 x r hn ih =>
    have hc : c10 (x :: r) = c10 r := by
      cases x with
      | false => rfl
      | true =>
        cases r with
        | nil => rfl
        | cons y r =>
          cases y with
          | true => rfl
          | false => exact absurd rfl (hn r rfl)
    rw [hc]
    simp; omega
theorem rot_len {a b : List Bool} (h : Rot a b) : a.length = b.length ∧ ones a = ones b := by
  obtain ⟨u, v, rfl, rfl⟩ := h
  rw [List.length_append, List.length_append, ones_app, ones_app]
  omega
theorem cyc_less {b : List Bool} (h : 2 * ones b ≤ b.length) : ones (cyc b) + cnt b = ones b ∧ (cyc b).length + 2 * cnt b = b.length ∧ (0 < ones b → 0 < cnt b) := by
  obtain ⟨u, v, rfl, hu, hvu⟩ := calm_point (w := b) (by rw [bal_ones]; omega)
  have hR : Rot (u ++ v) (v ++ u) := ⟨u, v, rfl, rfl⟩
  obtain ⟨h1, h2⟩ := rot_len hR
  obtain ⟨h3, h4⟩ := rot_len hR.cyc
  obtain ⟨h5, h6⟩ := calm_cyc hvu
  have h7 := hR.cnt
  have h8 := ones_e10 (v ++ u)
  have h9 := len_e10 (v ++ u)
  rw [h3, h4, h7, h5, h6, h1, h2]
  refine ⟨h8, h9, fun q => ?_⟩
  rcases Nat.eq_zero_or_pos (c10 (v ++ u)) with z | z
  · have := c10_pos hvu z; omega
  · exact z
end Ring
/-- how a ring of the rounds stands -/
structure SolOk (r : List Int) (f : Nat) : Prop where
  le : r.length ≤ 32
  ok : ∃ b : List Bool, r = Ring.toI b ∧ 2 * Ring.ones b ≤ b.length ∧ Ring.ones b < f
theorem sol_next {r : List Int} {f : Nat} (h : SolOk r (f + 1)) (h1 : r.any (fun x => x == 1) = true) : SolOk (ringNext r) f := by
  obtain ⟨hl, b, rfl, h2, h3⟩ := h
  rw [Ring.any_B] at h1
  have ho := (Ring.any_ones b).mp h1
  obtain ⟨c1, c2, c3⟩ := Ring.cyc_less h2
  have c4 := c3 ho
  rw [Ring.toI_len] at hl
  rw [Ring.ringNext_B]
  exact ⟨by rw [Ring.toI_len]; omega, Ring.cyc b, rfl, by omega, by omega⟩
theorem sol_start {n : Int} (h : 0 ≤ n) (_h1 : n < 2 ^ 32) (h2 : (ringOf n).sum ≤ 16) : SolOk (ringOf n) 33 := by
  obtain ⟨x, rfl⟩ := Int.eq_ofNat_of_zero_le h
  have e : ringOf (x : Int) = Ring.toI (Ring.bitsN x) := Ring.ringOf_B x
  rw [e, Ring.sum_B] at h2
  rw [e]
  have hl := Ring.bitsN_len x
  exact ⟨by rw [Ring.toI_len, hl]; exact Nat.le_refl _, Ring.bitsN x, rfl, by omega, by omega⟩
theorem sol_last {r : List Int} (h : SolOk r 0) : r.any (fun x => x == 1) = false := by
  obtain ⟨_, b, _, _, h3⟩ := h
  exact absurd h3 (Nat.not_lt_zero _)
end Mine
namespace Mine
open PySem PySem.W PyProof.Rows PySem.Calls PyProof.Rows.LCg PyProof.Rows.LCt

theorem nd9 {h₀ h : Heap} {L : Addr} {r f b a x y z : Addr × Obj} (N : News h₀ L h [r, f, b, a, x, y, z]) : News h₀ L h [b, r, x, y, z] := fun p hp => N p (by
  simp only [List.mem_cons, List.not_mem_nil, or_false] at hp ⊢
  rcases hp with h | h | h | h | h <;> simp [h])
noncomputable def SolJ (n : Int) (L' : Addr) (k : Nat) (m : Str → Option Value) (nx : List (Addr × Obj)) : Prop :=
  ∃ (B A : Addr) (ring cs : List Int) (us vs : List Value) (c1 c2 : Nat) (oF oR oN : Obj) (vF : Option Value) (t : Tok),
    nx = [(B, W.listOf vs.toArray c2), (A, W.listOf us.toArray c1), (L' + 1 + 1 + 1, oF), (L' + 1 + 1, oR), (L' + 1, oN)] ∧
    oF.data = .cell vF ∧ oR.data = .cell (some (.ref A)) ∧ oN.data = .cell (some (.int n t)) ∧
    (Apart B A ∧ Apart B (L' + 1) ∧ Apart B (L' + 1 + 1) ∧ Apart B (L' + 1 + 1 + 1) ∧ Apart A (L' + 1) ∧ Apart A (L' + 1 + 1) ∧ Apart A (L' + 1 + 1 + 1)) ∧
    IntsAre us ring ∧ IntsAre vs cs ∧ SolOk ring k ∧ cs ++ solRun k ring = solF n ∧ cs.length + k ≤ 33 ∧ m (Str.ofString "counts") = some (.ref B)
set_option maxRecDepth 100000 in
set_option maxHeartbeats 8000000 in
theorem sol_tells : ∀ (w : World) (loose : List Str) (mean : ExcName → Option Value) (mg mb : Str → Option Value) (dp un : Nat) (gd : Option (List Code)) (cn : Str) (cs : Scope) (a : Addr) (ccd : Value) (cl : List (Str × Addr)) (outer : List Env) (A₀ : Around) (base h₀ : Heap) (L : Addr) (m : Str → Option Value) (news : List (Addr × Obj)) (s : Shared)
   (n : Int) (t : Tok) (Q E : Value → Shared → Prop),
   Below A₀ base outer h₀ → Fr h₀ L s.heap m → (Mine.gen.heap_1 w.params).In h₀ → News h₀ L s.heap news → Top Mine.gen.view_1 loose mean mg mb h₀ → cs.kind = .function → dp + 4 < recursionLimit → un + 200 < cLine →
   (0 ≤ n) →
   (n < 2 ^ 32) →
   ((ringOf n).sum ≤ 16) →
   (∀ (D : Addr) (us : List Value) (c : Nat) (h' : Heap) (tk' : Nat), Fr h₀ L h' m → News h₀ L h' ((D, W.listOf us.toArray c) :: news) → LCg.Off1 D news → IntsAre us (solF n) → Q (.ref D) { s with heap := h', toks := tk' }) →
   wpAny (model PySem.Challenge.rw_wf0054_01.row.prog w) (ktrTop dp un gd cn cs L a ccd cl outer) (call (.ref 110) [.int n t]) Q E s := by
  k_fill
  intro w loose mean mg mb dp un gd cn cs a ccd cl outer A₀ base h₀ L m news s n t Q E B F X N T hk hd hu hc0 hc1 hc2 ret
  k_with_none
  k_with "my split" => repeat (rename (Mine.Apart _ _ ∧ _) => z'; obtain ⟨_, _⟩ := z')
  k_with "my fine" => ((unfold LCg.FinE); intro D' h' tk' F' N' o1'; (simp only [Mine.off1_cons, Mine.off1_nil, and_true] at o1'); (try (simp only [List.nil_append, List.cons_append] at N')); walk_at "my split"; (try dsimp only))
  k_with "my enter" => first   | (refine' Mine.enter_plain (by k_asm) (by k_asm) (by k_asm) (by k_asm) (by exact rfl) (by exact rfl) (by assumption) (by k_is) (by k_is) (by ktr_room) (by exact BindsTo.of_eq rfl) (by exact locs rfl) ?_ (by exact rfl) (by exact rfl) (by exact rfl) (by decide); k_whole; intro L' h' F' N' B' X' T'; (try dsimp only); (try k_fold))   | (refine' Mine.enter_cells (by k_asm) (by k_asm) (by k_asm) (by k_asm) (by exact rfl) (by exact rfl) (by assumption) (by k_is) (by k_is) (by ktr_room) (by exact BindsTo.of_eq rfl) (by exact rfl) (by decide +kernel) ?_ (by exact rfl) (by exact rfl) (by exact rfl); k_whole; intro L' h' tk' cells' F' N' Y' B' X' T'; k_cells Y'; (try simp only [List.cons_append, List.nil_append] at N'); (try dsimp only); (try k_fold))
  k_with "call builtin:max" => (k_here; (with_reducible show wpAny _ _ (call (Value.builtin "max") [Value.float _ _, Value.float _ _, Value.float _ _]) _ _ _); k_dflt (refine' Mine.max_threeN (by rfl) (by k_asm) (by k_asm) ?_; k_whole); intro t' h' tk' F' N')
  k_with "call builtin:min" => (k_here; (with_reducible show wpAny _ _ (call (Value.builtin "min") [Value.float _ _, Value.float _ _, Value.float _ _]) _ _ _); k_dflt (refine' Mine.min_threeN (by rfl) (by k_asm) (by k_asm) ?_; k_whole); intro t' h' tk' F' N')
  k_with "call builtin:list.insert" => (k_here; k_dflt (refine' Mine.insert0 (by k_asm) (by k_asm) (by k_upd) (by size_fits) ?_; k_whole); intro h' F' N'; (try dsimp only))
  k_with "inplaceOp Add ref" => (k_here; (with_reducible show wpAny _ _ (inplaceOp Operator.Add (Value.ref _) (Value.ref _)) _ _ _); k_dflt (refine' Mine.iadd_list (by k_asm) (by k_asm) (by k_mem) (by k_updF) (by size_fits) ?_; k_whole); intro h' n' F' N'; (try simp only [List.append_toArray, List.cons_append, List.nil_append] at N'); (try dsimp only))
  k_with "inplaceOp Add ref ref" => walk_at "inplaceOp Add ref"
  k_with "my item" => (k_here; (with_reducible show wpAny _ _ (subscriptTail _ _ (Value.ref _) (Value.int _ _)) _ _ _); k_dflt (refine' Mine.item_ints (by k_asm) (by k_mem) (by assumption) (by omega) (by omega) (by omega) ?_; k_whole); intro t')
  k_with "my len" => (k_here; (with_reducible show wpAny _ _ (call (Value.builtin "len") [Value.ref _]) _ _ _); k_dflt (refine' kst_len (by k_asm) (by k_mem) (by exact IntsAre.length (by assumption)) (by omega) ?_; k_whole))
  k_with "my toks" => (k_here; (with_reducible refine Mine.gen_toks ?_); intro tk9' htk9')
  k_with "FinE" => walk_at "my fine"
  k_with "CompEnd" => ((rename MyMark => hM9); refine Halt.go ?_)
  k_with "exec While Compare cons nil" => refine Halt.go ?_
  k_with "eval ListComp" => (k_here; lct_look; k_dflt (refine LCt.ListComp_T (F₀ := by k_asm) (by with_unfolding_all rfl) (by decide) (by rfl) (by decide) (by rfl) ?_); k_dflt lct_toSrc)
  k_with "call builtin:len" => walk_at "my len"
  k_with "subscriptTail" => walk_at "my item"
  k_with "CompSrcT" => (k_here; k_dflt (refine LCt.CompSrcT.range (by rfl) (by k_asm) (by k_asm) (by assumption) (small_one (by omega) (by omega) (by omega) (by omega)) (rangeSize_nat _ _) (by rw [PySem.sizeLine_eq]; omega) ?_; intro g'; refine Halt.go ?_))
  w_top off
  refine wpAny_call ?_
  k_dflt (refine' Mine.enter_cells ?k1 ?k2 ?k3 ?k5 ?kA ?kF ?kK ?k6 ?k7 ?k8 ?k9 ?kB ?kD ?_ ?c2 ?c3 ?c4; (case kA => exact rfl); (case kF => exact rfl); (case kK => assumption); (case k1 => k_asm); (case k2 => k_asm); (case k3 => k_asm); (case k5 => k_asm); (case k6 => k_is); (case k7 => k_is); (case k8 => ktr_room); (case k9 => exact BindsTo.of_eq rfl); (case kB => exact rfl); (case kD => decide +kernel); (case c2 => exact rfl); (case c3 => exact rfl); (case c4 => exact rfl); k_whole)
  intro L' h' tk' cells' F' N' Y' B' X' T'
  obtain ⟨o1', o2', o3', hE', d1', d2', d3'⟩ := CellsAre.three Y'
  subst hE'
  clear Y'
  simp only [List.cons_append, List.nil_append] at N'
  (try dsimp only)
  k_fold
  refine wpAny_noRaise ?_

  k_steps
  unfold Halt
  (rename Fr _ _ _ _ => F1); (rename News _ _ _ _ => N1)
  refine While_inv2 (SolJ n L') (n₀ := 33) F1 N1 ?_ ?_ (hE := PassesOwn.never)
  · refine ⟨_, _, ringOf n, [], _, _, _, _, _, _, _, _, _, rfl, d1', by assumption, d3', ⟨?_, ?_, ?_, ?_, ?_, ?_, ?_⟩, by assumption, .nil, sol_start hc0 hc1 hc2, rfl, by decide, rfl⟩
    all_goals (first | assumption | exact Apart.ne' (by assumption) | (show @Ne Nat _ _; omega))
  · clear F1 N1
    rintro k m₁ nx h₁ tk₁ F2 N2 ⟨B, A, ring, cs, us, vs, c1, c2, oF, oR, oN, vF, t', rfl, q1, q2, q3, ⟨ne1, ne2, ne3, ne4, ne5, ne6, ne7⟩, hi, hj, hk, hs, hl, hm⟩
    have F3 := Fr_knownL [(Str.ofString "counts", .ref B)] F2 (all1 hm)
    clear F2
    have hl1 : us.length ≤ 32 := hi.length ▸ hk.le
    have hl2 : ring.length ≤ 32 := hk.le
    repeat (rename (IsRange _ _ _ _ _ _ _ _) => z'; clear z')
    k_steps
    · unfold Halt
      refine compT_inv (fun i ys => IntsAre ys ((rangeKs 0 i).filter (isFall ring))) .nil ?_ ?_
      · rintro i ys v I oI C oC D m₂ h tk E' hlt hJ ⟨t9, rfl⟩ hC hx Fq Nq off ne2
        have mk9 := myMark
        k_steps
        all_goals (unfold Halt; refine CompEnd.intro Fq Nq _ (fun _ h => h) off trivial ⟨rfl, ?_⟩)
        · exact filt_in hJ (fall_tt (by assumption) (by assumption))
        · exact filt_out hJ (fall_ff2 (by assumption))
        · exact filt_out hJ (fall_ff1 (by assumption))
      · intro ys hys
        have hys9 : IntsAre ys (fallsOf ring) := by
          have e9 : ((ring.length : Int) - 0).toNat = ring.length := by omega
          rw [e9] at hys
          exact hys
        clear hys
        have hlf : (fallsOf ring).length ≤ 32 := Nat.le_trans (falls_le ring) hl2
        k_steps
        unfold Halt
        refine compT_inv (fun i ys => IntsAre ys (((rangeKs 0 i).filter (stays ring)).map (itemI ring))) .nil ?_ ?_
        · rintro i ys v I oI C oC D m₂ h tk E' hlt hJ ⟨t9, rfl⟩ hC hx Fq Nq off ne2
          have mk9 := myMark
          k_steps
          all_goals (unfold Halt; refine CompEnd.intro Fq Nq _ (fun _ h => h) off trivial ⟨rfl, ?_⟩)
          · exact filtm_out hJ (stays_1 (by assumption))
          · exact filtm_out hJ (stays_2 (by assumption))
          · exact filtm_in hJ (stays_3 (by assumption) (by assumption))
        · intro ys hys
          have hys8 : IntsAre ys (ringNext ring) := by
            have e9 : ((ring.length : Int) - 0).toNat = ring.length := by omega
            rw [e9] at hys
            exact hys
          clear hys
          k_steps
          (rename Fr _ _ _ _ => F9); (rename News _ _ _ _ => N9)
          simp only [List.push_toArray] at N9
          cases k with
          | zero =>
            have := sol_last hk
            simp_all
          | succ k =>
            refine ⟨_, _, _, _, k, rfl, F9, nd9 N9, Nat.lt_succ_self _, ⟨_, _, ringNext ring, cs ++ [((fallsOf ring).length : Int)], _, _, _, _, _, _, _, _, _, rfl, by assumption, by assumption, by assumption, ⟨?_, ?_, ?_, ?_, ?_, ?_, ?_⟩, hys8, hj.append (.cons _ _ .nil), sol_next hk (by assumption), ?_, ?_, rfl⟩⟩
            all_goals (first | assumption | exact Apart.ne' (by assumption) | skip)
            · rw [← hs, solRun, if_pos (by assumption), List.append_assoc]; rfl
            · rw [List.length_append]; simp; omega
    · (rename Fr _ _ _ _ => F9); (rename News _ _ _ _ => N9)
      obtain ⟨G1, G2, G3⟩ := home1 F N F9 N9 _ _ (.head _)
      have e9 : cs = solF n := by
        rw [← hs]
        cases k with
        | zero => rw [solRun, List.append_nil]
        | succ k => rw [solRun, if_neg (ne_true_of_eq_false (by assumption)), List.append_nil]
      exact ret _ _ _ _ _ G1 G2 G3 (e9 ▸ hj)
end Mine
namespace Mine
open PySem PySem.W PyProof.Rows PySem.Calls PyProof.Rows.LCg PyProof.Rows.LCt

noncomputable def pfRest (N i : Nat) : Nat := (N >>> i) <<< i
noncomputable def pfNames (N i : Nat) : List Str := ((List.range i).filter N.testBit).map flagName
noncomputable def PfJ (N : Nat) (i : Nat) (m : Str → Option Value) (nx : List (Addr × Obj)) : Prop :=
  ∃ (D : Addr) (vs : List Value) (c : Nat) (t : Tok), nx = [(D, W.listOf vs.toArray c)] ∧ StrsAre vs (pfNames N i) ∧ m (Str.ofString "flags") = some (.int (pfRest N i : Nat) t) ∧ m (Str.ofString "names") = some (.ref D) ∧ (N = 0 ∨ pfRest N i ≠ 0)
theorem pf_half (N i : Nat) : N >>> i = 2 * (N >>> (i + 1)) + (if N.testBit i then 1 else 0) := by
  rw [Nat.shiftRight_succ, Nat.testBit_eq_decide_div_mod_eq, ← Nat.shiftRight_eq_div_pow]
  by_cases h : N >>> i % 2 = 1
  · simp [h]; omega
  · simp [h]; omega
theorem pf_step (N i : Nat) : pfRest N i = pfRest N (i + 1) + (if N.testBit i then 2 ^ i else 0) := by
  unfold pfRest
  rw [pf_half N i, Nat.shiftLeft_eq, Nat.shiftLeft_eq, Nat.add_mul, Nat.pow_succ]
  generalize N >>> (i + 1) = q
  have e : 2 * q * 2 ^ i = q * (2 ^ i * 2) := by rw [Nat.mul_comm 2 q, Nat.mul_assoc, Nat.mul_comm 2]
  rw [e]
  cases N.testBit i <;> simp
theorem pf_same {N i : Nat} (h : N.testBit i = false) : pfRest N (i + 1) = pfRest N i := by
  have := pf_step N i
  rw [h] at this
  simpa using this.symm
theorem pf_and (N i : Nat) : Builtin.bitAnd ((pfRest N i : Nat) : Int) (1 * 2 ^ (0 + (i : Int)).toNat) = if N.testBit i then ((2 ^ i : Nat) : Int) else 0 := by
  rw [pow_key]
  have e : ((2 : Int) ^ i) = ((2 ^ i : Nat) : Int) := by push_cast; rfl
  rw [e]
  show ((pfRest N i &&& 2 ^ i : Nat) : Int) = _
  have e2 : (pfRest N i &&& 2 ^ i : Nat) = if N.testBit i then 2 ^ i else 0 := by
    apply Nat.eq_of_testBit_eq
    intro j
    unfold pfRest
    simp only [Nat.testBit_and, Nat.testBit_shiftLeft, Nat.testBit_shiftRight, Nat.testBit_two_pow]
    by_cases h1 : i = j
    · subst h1
      cases q : N.testBit i <;> simp [q, Nat.testBit_two_pow]
    · cases q : N.testBit i <;> simp [h1, Nat.testBit_two_pow]
  rw [e2]
  cases N.testBit i <;> simp
theorem pf_xor {N i : Nat} (h : N.testBit i = true) : Builtin.bitXor ((pfRest N i : Nat) : Int) (1 * 2 ^ (0 + (i : Int)).toNat) = ((pfRest N (i + 1) : Nat) : Int) := by
  rw [bitXor_and, pf_and, h, pow_key, pf_step N i, h]
  have e : ((2 : Int) ^ i) = ((2 ^ i : Nat) : Int) := by push_cast; rfl
  rw [e]
  simp only [if_true]
  generalize 2 ^ i = z
  omega
theorem pfNames_in {N i : Nat} (h : N.testBit i = true) : pfNames N (i + 1) = pfNames N i ++ [flagName i] := by
  unfold pfNames
  rw [List.range_succ, List.filter_append, List.map_append, List.filter_cons_of_pos h]
  rfl
theorem pfNames_out {N i : Nat} (h : N.testBit i = false) : pfNames N (i + 1) = pfNames N i := by
  unfold pfNames
  rw [List.range_succ, List.filter_append, List.filter_cons_of_neg (by rw [h]; exact Bool.false_ne_true)]
  simp
theorem pf_bit {N i : Nat} (h : Builtin.bitAnd ((pfRest N i : Nat) : Int) (1 * 2 ^ (0 + (i : Int)).toNat) ≠ 0) : N.testBit i = true := by
  rw [pf_and] at h
  cases q : N.testBit i with
  | true => rfl
  | false => rw [q] at h; exact absurd rfl h
theorem pf_nobit {N i : Nat} (h : Builtin.bitAnd ((pfRest N i : Nat) : Int) (1 * 2 ^ (0 + (i : Int)).toNat) = 0) : N.testBit i = false := by
  rw [pf_and] at h
  cases q : N.testBit i with
  | false => rfl
  | true =>
    rw [q] at h
    have : 0 < 2 ^ i := Nat.two_pow_pos i
    simp only [if_true] at h
    omega
theorem pf_zero {N i : Nat} (h : pfRest N i = 0) (hi : i ≤ 32) : pfNames N 32 = pfNames N i := by
  have key : ∀ k, i + k ≤ 32 → pfNames N (i + k) = pfNames N i := by
    intro k
    induction k with
    | zero => intro _; rfl
    | succ k ih =>
      intro hk
      have hb : N.testBit (i + k) = false := by
        have z : (pfRest N i).testBit (i + k) = false := by rw [h]; exact Nat.zero_testBit _
        unfold pfRest at z
        rw [Nat.testBit_shiftLeft, Nat.testBit_shiftRight] at z
        have e1 : i + (i + k - i) = i + k := by omega
        simpa [e1] using z
      show pfNames N (i + k + 1) = _
      rw [pfNames_out hb]
      exact ih (by omega)
  have := key (32 - i) (by omega)
  rw [show i + (32 - i) = 32 by omega] at this
  exact this
noncomputable def pfAll (N : Nat) : List Str := if N = 0 then [baseText "0x" 16 0] else pfNames N 32
theorem flag_len : ∀ {i : Nat}, i < 32 → (flagName i).length ≤ 20 := by
  have key : ((List.range 32).all fun i => decide ((flagName i).length ≤ 20)) = true := by decide +kernel
  exact fun {i} hi => of_decide_eq_true (List.all_eq_true.mp key i (List.mem_range.mpr hi))
theorem weight_le (ys : List Str) (h : ∀ y ∈ ys, y.length ≤ 20) : (ys.map (·.length)).sum + ys.length ≤ 21 * ys.length := by
  induction ys with
  | nil => simp
  | cons y r ih =>
    have h1 := h y (.head _)
    have h2 := ih fun z hz => h z (.tail _ hz)
    simp only [List.map_cons, List.sum_cons, List.length_cons]
    omega
theorem pf_weight {N i : Nat} (hi : i ≤ 32) : ((pfNames N i).map (·.length)).sum + (pfNames N i).length ≤ 1048576 := by
  refine Nat.le_trans (weight_le _ fun y hy => ?_) ?_
  · obtain ⟨j, hj, rfl⟩ := List.mem_map.mp hy
    have := List.mem_range.mp (List.mem_filter.mp hj).1
    exact flag_len (by omega)
  · unfold pfNames
    rw [List.length_map]
    have := List.length_filter_le N.testBit (List.range i)
    rw [List.length_range] at this
    omega
theorem pf_last {N : Nat} (h : N < 2 ^ 32) : pfRest N 32 = 0 := by
  unfold pfRest
  rw [Nat.shiftRight_eq_div_pow, Nat.div_eq_of_lt h, Nat.zero_shiftLeft]
set_option maxRecDepth 100000 in
set_option maxHeartbeats 8000000 in
theorem pf_tells : ∀ (w : World) (loose : List Str) (mean : ExcName → Option Value) (mg mb : Str → Option Value) (dp un : Nat) (gd : Option (List Code)) (cn : Str) (cs : Scope) (a : Addr) (ccd : Value) (cl : List (Str × Addr)) (outer : List Env) (A₀ : Around) (base h₀ : Heap) (L : Addr) (m : Str → Option Value) (news : List (Addr × Obj)) (s : Shared)
   (x : Nat) (t : Tok) (Q E : Value → Shared → Prop),
   Below A₀ base outer h₀ → Fr h₀ L s.heap m → (Mine.gen.heap_1 w.params).In h₀ → News h₀ L s.heap news → Top Mine.gen.view_1 loose mean mg mb h₀ → cs.kind = .function → dp + 4 < recursionLimit → un + 200 < cLine →
   (x < 2 ^ 32) →
   (∀ (t : Tok) (h' : Heap) (tk' : Nat), Fr h₀ L h' m → News h₀ L h' news → Q (.str (Txt.join (Str.ofString ", ") (pfAll x)) t) { s with heap := h', toks := tk' }) →
   wpAny (model PySem.Challenge.rw_wf0054_01.row.prog w) (ktrTop dp un gd cn cs L a ccd cl outer) (call (.ref 36) [.int (x : Int) t]) Q E s := by
  k_fill
  intro w loose mean mg mb dp un gd cn cs a ccd cl outer A₀ base h₀ L m news s x t Q E B F X N T hk hd hu hc0 ret
  k_with_none
  k_with "my split" => repeat (rename (Mine.Apart _ _ ∧ _) => z'; obtain ⟨_, _⟩ := z')
  k_with "my fine" => ((unfold LCg.FinE); intro D' h' tk' F' N' o1'; (simp only [Mine.off1_cons, Mine.off1_nil, and_true] at o1'); (try (simp only [List.nil_append, List.cons_append] at N')); walk_at "my split"; (try dsimp only))
  k_with "my enter" => first   | (refine' Mine.enter_plain (by k_asm) (by k_asm) (by k_asm) (by k_asm) (by exact rfl) (by exact rfl) (by assumption) (by k_is) (by k_is) (by ktr_room) (by exact BindsTo.of_eq rfl) (by exact locs rfl) ?_ (by exact rfl) (by exact rfl) (by exact rfl) (by decide); k_whole; intro L' h' F' N' B' X' T'; (try dsimp only); (try k_fold))   | (refine' Mine.enter_cells (by k_asm) (by k_asm) (by k_asm) (by k_asm) (by exact rfl) (by exact rfl) (by assumption) (by k_is) (by k_is) (by ktr_room) (by exact BindsTo.of_eq rfl) (by exact rfl) (by decide +kernel) ?_ (by exact rfl) (by exact rfl) (by exact rfl); k_whole; intro L' h' tk' cells' F' N' Y' B' X' T'; k_cells Y'; (try simp only [List.cons_append, List.nil_append] at N'); (try dsimp only); (try k_fold))
  k_with "call builtin:max" => (k_here; (with_reducible show wpAny _ _ (call (Value.builtin "max") [Value.float _ _, Value.float _ _, Value.float _ _]) _ _ _); k_dflt (refine' Mine.max_threeN (by rfl) (by k_asm) (by k_asm) ?_; k_whole); intro t' h' tk' F' N')
  k_with "call builtin:min" => (k_here; (with_reducible show wpAny _ _ (call (Value.builtin "min") [Value.float _ _, Value.float _ _, Value.float _ _]) _ _ _); k_dflt (refine' Mine.min_threeN (by rfl) (by k_asm) (by k_asm) ?_; k_whole); intro t' h' tk' F' N')
  k_with "call builtin:list.insert" => (k_here; k_dflt (refine' Mine.insert0 (by k_asm) (by k_asm) (by k_upd) (by size_fits) ?_; k_whole); intro h' F' N'; (try dsimp only))
  k_with "inplaceOp Add ref" => (k_here; (with_reducible show wpAny _ _ (inplaceOp Operator.Add (Value.ref _) (Value.ref _)) _ _ _); k_dflt (refine' Mine.iadd_list (by k_asm) (by k_asm) (by k_mem) (by k_updF) (by size_fits) ?_; k_whole); intro h' n' F' N'; (try simp only [List.append_toArray, List.cons_append, List.nil_append] at N'); (try dsimp only))
  k_with "inplaceOp Add ref ref" => walk_at "inplaceOp Add ref"
  k_with "my item" => (k_here; (with_reducible show wpAny _ _ (subscriptTail _ _ (Value.ref _) (Value.int _ _)) _ _ _); k_dflt (refine' Mine.item_ints (by k_asm) (by k_mem) (by assumption) (by omega) (by omega) (by omega) ?_; k_whole); intro t')
  k_with "my len" => (k_here; (with_reducible show wpAny _ _ (call (Value.builtin "len") [Value.ref _]) _ _ _); k_dflt (refine' kst_len (by k_asm) (by k_mem) (by exact IntsAre.length (by assumption)) (by omega) ?_; k_whole))
  k_with "my toks" => (k_here; (with_reducible refine Mine.gen_toks ?_); intro tk9' htk9')
  k_with "call builtin:str.join" => (k_here; k_dflt (refine' join_listW (by exact News.isList (by k_asm) (by k_mem)) (by first | assumption | exact StrsAre.cons _ _ .nil) (by decide) (by assumption) ?_); intro t' tk')
  k_with "exec For Name Call cons cons" => refine For_R ?_
  k_with "call builtin:hex" => (k_here; first | refine P.hex_of_int ?_ (hsz := hex_fits (by assumption)) | refine P.hex_of_int ?_ (hsz := by decide +kernel))
  k_with "call builtin:dict.get" => (k_here; k_dflt (refine get_flag (Frag.In.keeps (by k_asm) (Fr.keep (by k_asm))) (by assumption) ?_); intro t')
  w_top off
  refine wpAny_call ?_
  k_dflt (refine' Mine.enter_plain ?k1 ?k2 ?k3 ?k5 ?kA ?kF ?kK ?k6 ?k7 ?k8 ?k9 ?kB ?_ ?c2 ?c3 ?c4 ?c5; (case kA => exact rfl); (case kF => exact rfl); (case kK => assumption); (case k1 => k_asm); (case k2 => k_asm); (case k3 => k_asm); (case k5 => k_asm); (case k6 => k_is); (case k7 => k_is); (case k8 => ktr_room); (case k9 => exact BindsTo.of_eq rfl); (case c5 => decide); (case kB => exact locs rfl); (case c2 => exact rfl); (case c3 => exact rfl); (case c4 => exact rfl); k_whole)
  intro L' h' F' N' B' X' T'
  (try dsimp only)
  k_fold
  refine wpAny_noRaise ?_

  k_steps
  (rename Fr _ _ _ _ => F1); (rename News _ _ _ _ => N1); (rename IsRange _ _ _ _ _ _ _ _ => R1)
  refine loopR_range (PfJ x) rfl rfl rfl PassesOwn.never R1 (by decide) rfl F1 N1 ?_ ?_ ?_
  · exact ⟨_, [], _, _, rfl, .nil, by unfold pfRest; rfl, rfl, (Nat.eq_zero_or_pos x).imp id fun h => by unfold pfRest; exact Nat.ne_of_gt h⟩
  · clear F1 N1 R1
    rintro i t9 m₁ nx h tk I oI hi ⟨D, vs, c, t8, rfl, hs, hm1, hm2, hz⟩ ha F2 N2
    have F3 := Fr_knownL [(Str.ofString "flags", .int (pfRest x i : Nat) t8), (Str.ofString "names", .ref D)] F2 (all2 hm1 hm2)
    clear F2
    have N3 : News s.heap L' h [(I, oI), (D, W.listOf vs.toArray c)] := N2
    clear N2
    have hi32 : i < 32 := hi
    have hDI : Apart D I := ha _ (.head _)
    clear ha
    clear hi
    have hvl : vs.length ≤ 32 := by
      rw [hs.length]; unfold pfNames; rw [List.length_map]; exact Nat.le_trans (List.length_filter_le _ _) (by rw [List.length_range]; omega)
    k_steps
    · (rename Fr _ _ _ _ => F9); (rename News _ _ _ _ => N9)
      simp only [List.push_toArray] at N9
      have hb := pf_bit (N := x) (i := i) (by assumption)
      rename_i hx
      refine turn_end F9 N9 (fun _ h => h) (List.forall_mem_cons.mpr ⟨hDI.ne, List.forall_mem_nil _⟩) ⟨_, _, _, _, rfl, pfNames_in hb ▸ hs.append' (.cons _ _ .nil), by rw [← pf_xor hb]; rfl, rfl, .inr fun h9 => hx ?_⟩
      rw [pf_xor hb, h9]; rfl
    · (rename Fr _ _ _ _ => F9); (rename News _ _ _ _ => N9)
      simp only [List.push_toArray] at N9
      have hb := pf_bit (N := x) (i := i) (by assumption)
      rename_i hx
      have hx' : pfRest x (i + 1) = 0 := by
        rw [pf_xor hb] at hx
        exact Int.ofNat_eq_zero.mp hx
      have hs' : ∀ t : Tok, StrsAre (vs ++ [.str (flagName i) t]) (pfNames x (i + 1)) := fun t => pfNames_in hb ▸ hs.append' (.cons _ _ .nil)
      have hw' : ((pfNames x (i + 1)).map (·.length)).sum + (pfNames x (i + 1)).length ≤ 1048576 := pf_weight (by omega)
      have e0 : x ≠ 0 := by
        intro h9
        rw [h9] at hb
        simp at hb
      have e1 : pfAll x = pfNames x (i + 1) := by
        unfold pfAll
        rw [if_neg e0, pf_zero hx' (by omega)]
      rw [e1] at ret
      dsimp only [TurnEnd]
      k_steps
      k_dflt (refine' join_listW ?kj1 ?kj2 ?kj3 ?kj4 ?_)
      case kj1 => exact News.isList (by k_asm) (by k_mem)
      case kj2 => exact hs' _
      case kj3 => decide
      case kj4 => assumption
      intro t' tk'
      k_steps
      (rename Fr _ _ _ _ => F9); (rename News _ _ _ _ => N9)
      have H9 := home0 F N F9 N9
      exact ret _ _ _ H9.1 H9.2
    · (rename Fr _ _ _ _ => F9); (rename News _ _ _ _ => N9)
      have hb := pf_nobit (N := x) (i := i) (by assumption)
      exact turn_end F9 N9 (fun _ h => h) (List.forall_mem_cons.mpr ⟨hDI.ne, List.forall_mem_nil _⟩) ⟨_, _, _, _, rfl, (pfNames_out hb).symm ▸ hs, by rw [pf_same hb]; rfl, rfl, by rw [pf_same hb]; exact hz⟩
  · rintro m₁ nx h tk ⟨D, vs, c, t8, rfl, hs, hm1, hm2, hz⟩ F2 N2
    have e0 : x = 0 := hz.elim id fun h => absurd (pf_last hc0) h
    subst e0
    have F3 := Fr_knownL [(Str.ofString "flags", .int (pfRest 0 32 : Nat) t8), (Str.ofString "names", .ref D)] F2 (all2 hm1 hm2)
    clear F2
    have hl0 : vs.length ≤ 32 := by rw [hs.length]; decide
    have ez : pfRest 0 32 = 0 := rfl
    rw [ez] at F3
    have hw' : (([baseText "0x" 16 ((0 : Nat) : Int)]).map (·.length)).sum + ([baseText "0x" 16 ((0 : Nat) : Int)]).length ≤ 1048576 := by decide +kernel
    have hv : vs = [] := by cases hs; rfl
    subst hv
    have hs' : ∀ t, StrsAre [.str (baseText "0x" 16 ((0 : Nat) : Int)) t] [baseText "0x" 16 ((0 : Nat) : Int)] := fun t => .cons _ _ .nil
    k_steps
    (rename Fr _ _ _ _ => F9); (rename News _ _ _ _ => N9)
    have H9 := home0 F N F9 N9
    exact ret _ _ _ H9.1 H9.2
end Mine
namespace Mine
open PySem PySem.W PyProof.Rows PySem.Calls
section
variable {prog : Program} {w : World} {A : Around} {E : Value → Shared → Prop} {s : Shared} {h₀ : Heap} {L D b : Addr} {m : Str → Option Value} {news : List (Addr × Obj)} {n n2 : Nat}
theorem hide3 {h : Heap} {a b c d : Addr × Obj} {xs : List Value} (N : News h₀ L h [a, b, (D, W.listOf xs.toArray n), c, d]) (P : List Value → Prop) (hp : P xs) : ∃ ys, P ys ∧ News h₀ L h [(D, W.listOf ys.toArray n), c, d] :=
  ⟨xs, hp, fun p hp => N p (.tail _ (.tail _ hp))⟩
theorem strs_at {us : List Value} {ys : List Str} (h : StrsAre us ys) {k : Nat} (hk : k < ys.length) : ∃ t, us[k]? = some (.str (ys.getD k Str.empty) t) := by
  refine h.get k _ ?_
  rw [List.getD_eq_getElem?_getD, List.getElem?_eq_getElem hk]
  rfl
theorem item_strs {value slice : Expr} {us : List Value} {ys : List Str} {k : Int} {u : Tok} {Q : Value → Shared → Prop} (N : News h₀ L s.heap news) (hm : (D, W.listOf us.toArray n) ∈ news) (hi : StrsAre us ys) (h0 : 0 ≤ k) (h1 : k < ys.length) (hb : (ys.length : Int) < 2 ^ 62)
    (h : ∀ t, Q (.str (ys.getD k.toNat Str.empty) t) s)
    (hs : subscripted slice false (.ref D) (.int k u) = operate [.ref D, .int k u] (getItem (.ref D) (.int k u)) := by with_unfolding_all rfl) (hg : ∀ r, letTemporaryGo value (.ref D) r = pure () := by intro _; with_unfolding_all rfl) :
    wpAny (model prog w) A (subscriptTail value slice (.ref D) (.int k u)) Q E s := by
  obtain ⟨t, hx⟩ := strs_at hi (k := k.toNat) (by omega)
  exact kim_list N hm rfl rfl h0 (by omega) hx (h t) hs hg
theorem join_len : ∀ ys : List Str, (Str.join sepC ys).length ≤ (ys.map (·.length)).sum + 2 * ys.length
  | [] => by show (Str.empty).length ≤ _; exact Nat.zero_le _
  | [y] => by show y.length ≤ _; simp
  | y :: z :: r => by
    have e := congrArg List.length (join_list y (z :: r) (by simp))
    have ih := join_len (z :: r)
    simp only [List.length_append, List.length_cons, Array.length_toList] at e
    simp only [List.map_cons, List.sum_cons, List.length_cons] at ih ⊢
    unfold Str.length at ih ⊢
    omega
theorem name_free : ∀ {i : Nat}, i < 32 → 44 ∉ (flagName i).cps.toList := by
  have key : ((List.range 32).all fun i => !(flagName i).cps.toList.contains 44) = true := by decide +kernel
  intro i hi hm
  have := List.all_eq_true.mp key i (List.mem_range.mpr hi)
  rw [List.contains_iff_mem.mpr hm] at this
  cases this
theorem name_inj : ∀ {i j : Nat}, i < 32 → j < 32 → flagName i = flagName j → i = j := by
  have key : ((List.range 32).all fun i => (List.range 32).all fun j => (i == j) || !(flagName i == flagName j)) = true := by decide +kernel
  intro i j hi hj e
  have := List.all_eq_true.mp (List.all_eq_true.mp key i (List.mem_range.mpr hi)) j (List.mem_range.mpr hj)
  rw [e, beq_self_eq_true] at this
  simpa using this
theorem name_ne0 : ∀ {i : Nat}, i < 32 → flagName i ≠ baseText "0x" 16 0 := by
  have key : ((List.range 32).all fun i => !(flagName i == baseText "0x" 16 0)) = true := by decide +kernel
  intro i hi e
  have := List.all_eq_true.mp key i (List.mem_range.mpr hi)
  rw [e, beq_self_eq_true] at this
  cases this
theorem hex0 : baseText "0x" 16 0 = Str.ofString "0x0" := by decide +kernel
theorem sep_is : Str.ofString ", " = sepC := by decide +kernel
theorem pf_free {N : Nat} : ∀ y ∈ pfAll N, 44 ∉ y.cps.toList := by
  intro y hy
  unfold pfAll at hy
  split at hy
  · rw [List.mem_singleton.mp hy]; decide +kernel
  · obtain ⟨j, hj, rfl⟩ := List.mem_map.mp hy
    exact name_free (List.mem_range.mp (List.mem_filter.mp hj).1)
theorem pf_ne {N : Nat} (hN : N < 2 ^ 32) : pfAll N ≠ [] := by
  unfold pfAll
  split
  · simp
  · rename_i h0
    intro h
    unfold pfNames at h
    have h' := List.map_eq_nil_iff.mp h
    refine h0 (Nat.eq_of_testBit_eq fun i => ?_)
    rw [Nat.zero_testBit]
    by_cases hi : i < 32
    · have := List.filter_eq_nil_iff.mp h' i (List.mem_range.mpr hi)
      simpa using this
    · exact Nat.testBit_lt_two_pow (Nat.lt_of_lt_of_le hN (Nat.pow_le_pow_right (by decide) (Nat.le_of_not_lt hi)))
theorem pf_split {N : Nat} (hN : N < 2 ^ 32) : Txt.split (Txt.join (Str.ofString ", ") (pfAll N)) (Str.ofString ", ") = pfAll N := by
  rw [sep_is]
  exact split_join (pf_ne hN) pf_free
theorem pf_short {N : Nat} : (Txt.join (Str.ofString ", ") (pfAll N)).length + 2 ≤ sizeLine := by
  rw [sep_is]
  unfold Txt.join
  rw [StrLaws.glued_eq_join]
  have h1 := join_len (pfAll N)
  have h2 : ((pfAll N).map (·.length)).sum + (pfAll N).length ≤ 1048576 := by
    unfold pfAll
    split
    · decide +kernel
    · exact pf_weight (Nat.le_refl _)
  rw [PySem.sizeLine_eq]
  omega
theorem any_name {N i : Nat} (hi : i < 32) : (pfAll N).any (· == flagName i) = N.testBit i := by
  rw [Bool.eq_iff_iff, List.any_eq_true]
  constructor
  · rintro ⟨y, hy, he⟩
    have he' := eq_of_beq he
    subst he'
    unfold pfAll at hy
    split at hy
    · exact absurd (List.mem_singleton.mp hy) (name_ne0 hi)
    · obtain ⟨j, hj, e⟩ := List.mem_map.mp hy
      obtain ⟨h1, h2⟩ := List.mem_filter.mp hj
      rw [← name_inj (List.mem_range.mp h1) hi e]
      exact h2
  · intro hb
    refine ⟨_, ?_, beq_self_eq_true _⟩
    unfold pfAll
    rw [if_neg (by intro h; rw [h, Nat.zero_testBit] at hb; cases hb)]
    exact List.mem_map.mpr ⟨i, List.mem_filter.mpr ⟨List.mem_range.mpr hi, hb⟩, rfl⟩
open SeqAt
theorem strs_same : ∀ {xs ys : List Value} {ss : List Str}, StrsAre xs ss → StrsAre ys ss → AllEq s xs ys
  | _, _, _, .nil, .nil => .nil
  | _, _, _, .cons y t h, .cons _ u k => .cons (fun A => by
      have := EqAt.str_str (A := A) (s := s) y t y u
      simpa using this) (strs_same h k)
theorem eq_lists_same {xs ys : List Value} {a : Addr} {Q : Value → Shared → Prop} (N : News h₀ L s.heap news) (ha : (a, W.listOf xs.toArray n) ∈ news) (hb : (b, W.listOf ys.toArray n2) ∈ news) (hu : A.units < cLine) (h : AllEq s xs ys) (hQ : Q (.bool true) s) :
    wpAny (model prog w) A (compareOp .Eq (.ref a) (.ref b)) Q E s := by
  obtain ⟨e, k⟩ := h.at
  have la : s.heap.IsList a xs.toArray := ⟨_, (N _ ha).1, rfl, _, rfl⟩
  have lb : s.heap.IsList b ys.toArray := ⟨_, (N _ hb).1, rfl, _, rfl⟩
  refine eq_listAt la lb (by simpa using e) hu (e := fun _ => true) (fun j h1 h2 => ?_) ?_
  · simpa using k A.in1 j (by simpa using h1) (by simpa using h2)
  · rw [all_tt]; exact hQ
end
noncomputable def words32 : List Str := (List.range 32).map flagName
theorem words_get {k : Nat} (hk : k < 32) : words32.getD k Str.empty = flagName k := by
  unfold words32
  rw [List.getD_eq_getElem?_getD, List.getElem?_map, List.getElem?_range hk]
  rfl
theorem words_split : words32 = [Str.ofString "OPTIMIZED", Str.ofString "NEWLOCALS", Str.ofString "VARARGS", Str.ofString "VARKEYWORDS", Str.ofString "NESTED", Str.ofString "GENERATOR", Str.ofString "NOFREE", Str.ofString "COROUTINE", Str.ofString "ITERABLE_COROUTINE", Str.ofString "ASYNC_GENERATOR"] ++ (List.range 22).map (fun j => flagName (10 + j)) := rfl
end Mine
namespace Mine
open PySem PySem.W PyProof.Rows PySem.Calls PyProof.Rows.LCg PyProof.Rows.LCt

noncomputable def ballsF (N : Nat) : List Int := (rangeKs 0 32).filter (fun k => N.testBit k.toNat)
theorem pow_ten (i : Nat) : (2 ^ (10 + (i : Int)).toNat : Int) = 2 ^ (10 + i) := by
  congr 1
theorem hex_ten {i : Nat} (hi : i < 22) : baseText "0x" 16 (2 ^ (10 + (i : Int)).toNat) = flagName (10 + i) := by
  rw [pow_ten]
  unfold flagName
  rw [List.getElem?_eq_none (by show 10 ≤ 10 + i; omega)]
theorem hex_ten_le {i : Nat} (hi : i < 22) : (baseText "0x" 16 (2 ^ (10 + (i : Int)).toNat)).length ≤ sizeLine := by
  rw [hex_ten hi]
  refine Nat.le_trans (flag_len (by omega)) ?_
  rw [PySem.sizeLine_eq]; omega
theorem int_at {us : List Value} {ns : List Int} (h : IntsAre us ns) {i : Nat} {v : Value} (hv : us.toArray[i]? = some v) : ∃ b t, ns[i]? = some b ∧ v = .int b t := by
  have hv' : us[i]? = some v := by simpa using hv
  have hi := (List.getElem?_eq_some_iff.mp hv').1
  rw [h.length] at hi
  obtain ⟨t, e⟩ := h.get i _ (List.getElem?_eq_getElem hi)
  rw [hv'] at e
  exact ⟨_, t, List.getElem?_eq_getElem hi, Option.some.inj e⟩
theorem balls_range {N i : Nat} {b : Int} (h : (ballsF N)[i]? = some b) : 0 ≤ b ∧ b < 32 := by
  have := List.mem_of_getElem? h
  have := (List.mem_filter.mp this).1
  unfold rangeKs at this
  obtain ⟨k, hk, rfl⟩ := List.mem_map.mp this
  have := List.mem_range.mp hk
  omega
theorem balls_names {N : Nat} : (ballsF N).map (fun k => flagName k.toNat) = pfNames N 32 := by
  unfold ballsF pfNames rangeKs
  rw [List.filter_map, List.map_map]
  have e1 : ((fun k : Int => N.testBit k.toNat) ∘ fun i : Nat => (0 : Int) + (i : Int)) = N.testBit := by
    funext i; simp
  have e2 : ((fun k : Int => flagName k.toNat) ∘ fun i : Nat => (0 : Int) + (i : Int)) = flagName := by
    funext i; simp
  rw [e1, e2]
set_option maxRecDepth 100000 in
set_option maxHeartbeats 8000000 in
theorem balls_tells : ∀ (w : World) (loose : List Str) (mean : ExcName → Option Value) (mg mb : Str → Option Value) (dp un : Nat) (gd : Option (List Code)) (cn : Str) (cs : Scope) (a : Addr) (ccd : Value) (cl : List (Str × Addr)) (outer : List Env) (A₀ : Around) (base h₀ : Heap) (L : Addr) (m : Str → Option Value) (news : List (Addr × Obj)) (s : Shared)
   (x : Nat) (t : Tok) (Q E : Value → Shared → Prop),
   Below A₀ base outer h₀ → Fr h₀ L s.heap m → (Mine.gen.heap_1 w.params).In h₀ → News h₀ L s.heap news → Top Mine.gen.view_1 loose mean mg mb h₀ → cs.kind = .function → dp + 6 < recursionLimit → un + 300 < cLine →
   (x < 2 ^ 32) →
   (∀ (D : Addr) (us : List Value) (c : Nat) (h' : Heap) (tk' : Nat), Fr h₀ L h' m → News h₀ L h' ((D, W.listOf us.toArray c) :: news) → LCg.Off1 D news → IntsAre us (ballsF x) → Q (.ref D) { s with heap := h', toks := tk' }) →
   wpAny (model PySem.Challenge.rw_wf0054_01.row.prog w) (ktrTop dp un gd cn cs L a ccd cl outer) (call (.ref 79) [.int (x : Int) t]) Q E s := by
  k_fill
  intro w loose mean mg mb dp un gd cn cs a ccd cl outer A₀ base h₀ L m news s x t Q E B F X N T hk hd hu hc0 ret
  k_with_none
  k_with "my split" => repeat (rename (Mine.Apart _ _ ∧ _) => z'; obtain ⟨_, _⟩ := z')
  k_with "my fine" => ((unfold LCg.FinE); intro D' h' tk' F' N' o1'; (simp only [Mine.off1_cons, Mine.off1_nil, and_true] at o1'); (try (simp only [List.nil_append, List.cons_append] at N')); walk_at "my split"; (try dsimp only))
  k_with "my enter" => first   | (refine' Mine.enter_plain (by k_asm) (by k_asm) (by k_asm) (by k_asm) (by exact rfl) (by exact rfl) (by assumption) (by k_is) (by k_is) (by ktr_room) (by exact BindsTo.of_eq rfl) (by exact locs rfl) ?_ (by exact rfl) (by exact rfl) (by exact rfl) (by decide); k_whole; intro L' h' F' N' B' X' T'; (try dsimp only); (try k_fold))   | (refine' Mine.enter_cells (by k_asm) (by k_asm) (by k_asm) (by k_asm) (by exact rfl) (by exact rfl) (by assumption) (by k_is) (by k_is) (by ktr_room) (by exact BindsTo.of_eq rfl) (by exact rfl) (by decide +kernel) ?_ (by exact rfl) (by exact rfl) (by exact rfl); k_whole; intro L' h' tk' cells' F' N' Y' B' X' T'; k_cells Y'; (try simp only [List.cons_append, List.nil_append] at N'); (try dsimp only); (try k_fold))
  k_with "call builtin:max" => (k_here; (with_reducible show wpAny _ _ (call (Value.builtin "max") [Value.float _ _, Value.float _ _, Value.float _ _]) _ _ _); k_dflt (refine' Mine.max_threeN (by rfl) (by k_asm) (by k_asm) ?_; k_whole); intro t' h' tk' F' N')
  k_with "call builtin:min" => (k_here; (with_reducible show wpAny _ _ (call (Value.builtin "min") [Value.float _ _, Value.float _ _, Value.float _ _]) _ _ _); k_dflt (refine' Mine.min_threeN (by rfl) (by k_asm) (by k_asm) ?_; k_whole); intro t' h' tk' F' N')
  k_with "call builtin:list.insert" => (k_here; k_dflt (refine' Mine.insert0 (by k_asm) (by k_asm) (by k_upd) (by size_fits) ?_; k_whole); intro h' F' N'; (try dsimp only))
  k_with "inplaceOp Add ref" => (k_here; (with_reducible show wpAny _ _ (inplaceOp Operator.Add (Value.ref _) (Value.ref _)) _ _ _); k_dflt (refine' Mine.iadd_list (by k_asm) (by k_asm) (by k_mem) (by k_updF) (by size_fits) ?_; k_whole); intro h' n' F' N'; (try simp only [List.append_toArray, List.cons_append, List.nil_append] at N'); (try dsimp only))
  k_with "inplaceOp Add ref ref" => walk_at "inplaceOp Add ref"
  k_with "my item" => (k_here; (with_reducible show wpAny _ _ (subscriptTail _ _ (Value.ref _) (Value.int _ _)) _ _ _); k_dflt (refine' Mine.item_ints (by k_asm) (by k_mem) (by assumption) (by omega) (by omega) (by omega) ?_; k_whole); intro t')
  k_with "my len" => (k_here; (with_reducible show wpAny _ _ (call (Value.builtin "len") [Value.ref _]) _ _ _); k_dflt (refine' kst_len (by k_asm) (by k_mem) (by exact IntsAre.length (by assumption)) (by omega) ?_; k_whole))
  k_with "my toks" => (k_here; (with_reducible refine Mine.gen_toks ?_); intro tk9' htk9')
  k_with "call builtin:hex" => (k_here; refine P.hex_of_int ?_ (hsz := hex_ten_le (by assumption)))
  k_with "FinE" => walk_at "my fine"
  k_with "CompEnd" => ((rename MyMark => hM9); refine Halt.go ?_)
  k_with "eval ListComp" => (k_here; lct_look; k_dflt (refine LCt.ListComp_T (F₀ := by k_asm) (by with_unfolding_all rfl) (by decide) (by rfl) (by decide) (by rfl) ?_); k_dflt lct_toSrc)
  k_with "eval ListComp" => (k_here; lcg_look; k_dflt (refine LCg.ListComp_U (F₀ := by k_asm) (by with_unfolding_all rfl) (by decide) (by rfl) (by decide) (by rfl) ?_); k_dflt lcg_toSrc)
  k_with "CompSrcT" => (k_here; k_dflt (refine LCt.CompSrcT.range (by rfl) (by k_asm) (by k_asm) (by assumption) (small_one (by omega) (by omega) (by omega) (by omega)) (rangeSize_nat _ _) (by rw [PySem.sizeLine_eq]; omega) ?_; intro g'; refine Halt.go ?_))
  k_with "CompSrc" => (k_here; k_dflt (refine LCg.CompSrc.range (by rfl) (by k_asm) (by k_asm) (by assumption) (small_one (by omega) (by omega) (by omega) (by omega)) (rangeSize_nat _ _) (by rw [PySem.sizeLine_eq]; omega) ?_; intro g'; refine Halt.go ?_))
  k_with "call builtin:str.split" => refine Halt.go ?_
  k_with "CompSrc" => (k_here; k_dflt (refine LCg.CompSrc.ledger (by rfl) (by k_asm) (by k_asm) (by k_mem) (by rw [List.size_toArray, PySem.sizeLine_eq]; omega) ?_; intro g'; refine Halt.go ?_))
  k_with "truthy ref" => refine Halt.go ?_
  k_with "compareOp Eq ref ref" => refine Halt.go ?_
  k_with "subscriptTail" => (k_here; (with_reducible show wpAny _ _ (subscriptTail _ _ (Value.ref _) (Value.int _ _)) _ _ _); k_dflt (refine' Mine.item_strs (by k_asm) (by k_mem) (by assumption) (by omega) (by omega) (by omega) ?_; k_whole); intro t')
  k_with "call ref" => (k_here; k_dflt (refine' Mine.pf_tells _ _ _ _ _ _ _ _ _ _ _ _ _ _ _ _ _ _ _ _ _ _ _ _ _ (by k_asm) (by k_asm) (by k_asm) (by k_asm) (by k_asm) (by first | exact rfl | assumption) (by ktr_room) (by ktr_units) (by assumption) ?_; k_whole); intro t9' h9' tk9' F9' N9'; (try dsimp only); (try k_fold))
  w_top off
  refine wpAny_call ?_
  k_dflt (refine' Mine.enter_cells ?k1 ?k2 ?k3 ?k5 ?kA ?kF ?kK ?k6 ?k7 ?k8 ?k9 ?kB ?kD ?_ ?c2 ?c3 ?c4; (case kA => exact rfl); (case kF => exact rfl); (case kK => assumption); (case k1 => k_asm); (case k2 => k_asm); (case k3 => k_asm); (case k5 => k_asm); (case k6 => k_is); (case k7 => k_is); (case k8 => ktr_room); (case k9 => exact BindsTo.of_eq rfl); (case kB => exact rfl); (case kD => decide +kernel); (case c2 => exact rfl); (case c3 => exact rfl); (case c4 => exact rfl); k_whole)
  intro L' h' tk' cells' F' N' Y' B' X' T'
  obtain ⟨o1', o2', hE', d1', d2'⟩ := CellsAre.two Y'
  subst hE'
  clear Y'
  simp only [List.cons_append, List.nil_append] at N'
  (try dsimp only)
  k_fold
  refine wpAny_noRaise ?_

  k_steps
  unfold Halt
  refine compU_inv (fun i ys => StrsAre ys ((List.range i).map (fun j => flagName (10 + j)))) .nil ?_ ?_
  · rintro i ys v I oI C oC D m₂ h tk E' hlt hJ ⟨t9, rfl⟩ hC hx Fq Nq off ne2
    have h22 : i < 22 := hlt
    have mk9 := myMark
    k_steps
    unfold Halt
    refine CompEnd.intro Fq Nq _ (fun _ h => h) off trivial ⟨rfl, ?_⟩
    rw [hex_ten h22, List.range_succ, List.map_append]
    exact hJ.append' (.cons _ _ .nil)
  · intro ys hys
    have hl9 : ys.length ≤ 22 := by
      have e9 := hys.length
      rw [List.length_map, List.length_range] at e9
      rw [e9]; decide
    k_steps
    unfold Halt
    (rename Fr _ _ _ _ => F1); (rename News _ _ _ _ => N1)
    have hys' : StrsAre ys ((List.range 22).map (fun j => flagName (10 + j))) := hys
    obtain ⟨ws, hws, N2⟩ := hide3 N1 (fun ys => StrsAre ys words32) (by rw [words_split]; repeat (first | exact hys' | refine StrsAre.cons _ _ ?_))
    clear N1 hys hys' hl9
    refine KSpl.split1 F1 N2 (by decide) ?_ pf_short
    clear F1 N2
    intro D9 l9 h9 k9 e9 hS9 F1 N1 lt9
    rw [e9, pf_split hc0] at hS9
    generalize strValues l9 = ts at hS9 N1 ⊢
    clear e9
    have hw9 : words32.length = 32 := rfl
    have hp9 : (pfAll x).length ≤ 32 := by
      unfold pfAll; split
      · decide
      · unfold pfNames; rw [List.length_map]; exact Nat.le_trans (List.length_filter_le _ _) (by rw [List.length_range]; decide)
    k_steps
    unfold Halt
    refine compT_inv (fun i ys => IntsAre ys ((rangeKs 0 i).filter (fun k => x.testBit k.toNat))) .nil ?_ ?_
    · rintro i ys v I oI C oC D m₂ h tk E' hlt hJ ⟨t9, rfl⟩ hC hx Fq Nq off ne2
      have h32 : i < 32 := hlt
      have mk9 := myMark
      repeat (rename (IsRange _ _ _ _ _ _ _ _) => z'; clear z')
      k_steps
      all_goals (have e9 : words32.getD (0 + (i : Int)).toNat Str.empty = flagName i := by rw [show (0 + (i : Int)).toNat = i by omega]; exact words_get h32)
      all_goals (have e8 : (0 + (i : Int)).toNat = i := by omega)
      all_goals (rename (List.any _ _ = _) => q9; rw [e9, any_name h32] at q9)
      all_goals (unfold Halt; refine CompEnd.intro Fq Nq _ (fun _ h => h) off trivial ⟨rfl, ?_⟩)
      · exact filt_in hJ (by rw [e8]; exact q9)
      · exact filt_out hJ (by rw [e8]; exact q9)
    · intro ys hys
      have hys' : IntsAre ys (ballsF x) := hys
      clear hys
      have hl9 : ys.length ≤ 32 := by
        rw [hys'.length]; unfold ballsF; exact Nat.le_trans (List.length_filter_le _ _) (by decide)
      k_steps
      unfold Halt
      refine compU_inv (fun i zs => StrsAre zs (((ballsF x).take i).map (fun k => flagName k.toNat))) .nil ?_ ?_
      · rintro i zs v I oI C oC D m₂ h tk E' hlt hJ hv hC hx Fq Nq off ne2
        obtain ⟨b, t9, hb, rfl⟩ := int_at hys' hv
        have hb1 := (balls_range hb).1
        have hb2 := (balls_range hb).2
        have mk9 := myMark
        k_steps
        unfold Halt
        refine CompEnd.intro Fq Nq _ (fun _ h => h) off (.inr ⟨_, by k_mem, rfl, _, rfl⟩) ⟨rfl, ?_⟩
        have e9 : words32.getD b.toNat Str.empty = flagName b.toNat := words_get (by omega)
        rw [e9, List.take_succ, hb, List.map_append]
        exact hJ.append' (.cons _ _ .nil)
      · intro zs hzs
        have hzs' : StrsAre zs ((ballsF x).map (fun k => flagName k.toNat)) := by
          have e9 : (ballsF x).take ys.toArray.size = ballsF x := by
            rw [List.size_toArray, hys'.length, List.take_length]
          rw [← e9]
          exact hzs
        clear hzs
        k_steps
        unfold Halt
        (rename Fr _ _ _ _ => F9); (rename News _ _ _ _ => N9)
        have hz8 : zs.length ≤ 32 := by rw [hzs'.length, List.length_map, ← hys'.length]; exact hl9
        refine wpAny_truthy_list (News.isList N9 (.head _)) (by rw [List.size_toArray]; omega) ?_
        by_cases h0 : x = 0
        · subst h0
          have e0 : zs = [] := by cases hzs'; rfl
          subst e0
          have ehx : pfAll 0 = [Str.ofString "0x0"] := by show [baseText "0x" 16 0] = _; rw [hex0]
          rw [ehx] at hS9
          (try dsimp only)
          k_steps
          unfold Halt
          (rename Fr _ _ _ _ => F8); (rename News _ _ _ _ => N8)
          k_dflt (refine eq_lists_same N8 (by k_mem) (by k_mem) (by ktr_units) (strs_same hS9 (.cons _ _ .nil)) ?_)
          (try dsimp only)
          k_steps
          obtain ⟨G1, G2, G3⟩ := home1 F N F8 N8 _ _ (by k_mem : (_, lst ys) ∈ _)
          exact ret _ _ _ _ _ G1 G2 G3 hys'
        · have hne : zs.isEmpty = false := by
            cases zs with
            | nil =>
              exfalso
              rw [balls_names] at hzs'
              have : pfNames x 32 = [] := List.eq_nil_of_length_eq_zero hzs'.length.symm
              exact pf_ne hc0 (by unfold pfAll; rw [if_neg h0]; exact this)
            | cons _ _ => rfl
          rw [List.isEmpty_toArray, hne]
          have ehx : pfAll x = (ballsF x).map (fun k => flagName k.toNat) := by unfold pfAll; rw [if_neg h0, balls_names]
          rw [ehx] at hS9
          (try dsimp only)
          k_steps
          unfold Halt
          (rename Fr _ _ _ _ => F8); (rename News _ _ _ _ => N8)
          k_dflt (refine eq_lists_same N8 (by k_mem) (by k_mem) (by ktr_units) (strs_same hS9 hzs') ?_)
          (try dsimp only)
          k_steps
          obtain ⟨G1, G2, G3⟩ := home1 F N F8 N8 _ _ (by k_mem : (_, lst ys) ∈ _)
          exact ret _ _ _ _ _ G1 G2 G3 hys'
end Mine
namespace Mine
open PySem PySem.W PyProof.Rows PySem.Calls PyProof.Rows.LCg PyProof.Rows.LCt

/-- what _parse_varint does from a value and the octet read last on -/
inductive VRun : Int → Int → List Int → Int → List Int → Prop
  | done {v b : Int} {tl : List Int} : Builtin.bitAnd b 64 = 0 → VRun v b tl v tl
  | more {v b b' n : Int} {zs tl : List Int} : Builtin.bitAnd b 64 ≠ 0 → (Builtin.Int.intBits v : Int) + 6 ≤ 2 ^ 27 → VRun (Builtin.bitOr (v * 2 ^ (6 : Int).toNat) (Builtin.bitAnd b' 63)) b' zs n tl → VRun v b (b' :: zs) n tl
theorem VRun.off {v b n : Int} {zs tl : List Int} (h : VRun v b zs n tl) (e : Builtin.bitAnd b 64 = 0) : n = v ∧ tl = zs := by
  cases h with
  | done _ => exact ⟨rfl, rfl⟩
  | more h _ _ => exact absurd e h
theorem VRun.on {v b n : Int} {zs tl : List Int} (h : VRun v b zs n tl) (e : Builtin.bitAnd b 64 ≠ 0) : ∃ b' zs', zs = b' :: zs' ∧ (Builtin.Int.intBits v : Int) + 6 ≤ 2 ^ 27 ∧ VRun (Builtin.bitOr (v * 2 ^ (6 : Int).toNat) (Builtin.bitAnd b' 63)) b' zs' n tl := by
  cases h with
  | done h => exact absurd h e
  | more _ k h => exact ⟨_, _, rfl, k, h⟩
noncomputable def VarJ (I O : Addr) (ns : List Int) (n : Int) (tl : List Int) (rest : List (Addr × Obj)) (k : Nat) (m : Str → Option Value) (nx : List (Addr × Obj)) : Prop :=
  ∃ (i : Nat) (v b : Int) (zs : List Int) (t1 t2 : Tok), nx = (I, litO O i) :: rest ∧ ns.drop i = zs ∧ VRun v b zs n tl ∧ zs.length = k ∧ m (Str.ofString "iterator") = some (.ref I) ∧ m (Str.ofString "b") = some (.int b t1) ∧ m (Str.ofString "val") = some (.int v t2)
set_option maxRecDepth 100000 in
set_option maxHeartbeats 8000000 in
theorem pv_tells : ∀ (w : World) (loose : List Str) (mean : ExcName → Option Value) (mg mb : Str → Option Value) (dp un : Nat) (gd : Option (List Code)) (cn : Str) (cs : Scope) (a : Addr) (ccd : Value) (cl : List (Str × Addr)) (outer : List Env) (A₀ : Around) (base h₀ : Heap) (L : Addr) (m : Str → Option Value) (news : List (Addr × Obj)) (s : Shared)
   (I O : Addr) (i c : Nat) (us : List Value) (ns zs tl : List Int) (n b : Int) (rest : List (Addr × Obj)) (Q E : Value → Shared → Prop),
   Below A₀ base outer h₀ → Fr h₀ L s.heap m → (Mine.gen.heap_1 w.params).In h₀ → News h₀ L s.heap news → Top Mine.gen.view_1 loose mean mg mb h₀ → cs.kind = .function → dp + 2 < recursionLimit → un + 16 < cLine →
   (news = (I, litO O i) :: rest) →
   (∀ p ∈ rest, p.1 ≠ I) →
   ((O, W.listOf us.toArray c) ∈ rest) →
   (IntsAre us ns) →
   (ns.drop i = b :: zs) →
   (VRun (Builtin.bitAnd b 63) b zs n tl) →
   (∀ (t : Tok) (j : Nat) (h' : Heap) (tk' : Nat), ns.drop j = tl → Fr h₀ L h' m → News h₀ L h' ((I, litO O j) :: rest) → Q (.int n t) { s with heap := h', toks := tk' }) →
   wpAny (model PySem.Challenge.rw_wf0054_01.row.prog w) (ktrTop dp un gd cn cs L a ccd cl outer) (call (.ref 43) [.ref I]) Q E s := by
  k_fill
  intro w loose mean mg mb dp un gd cn cs a ccd cl outer A₀ base h₀ L m news s I O i c us ns zs tl n b rest Q E B F X N T hk hd hu hc0 hc1 hc2 hc3 hc4 hc5 ret
  k_with_none
  k_with "my split" => repeat (rename (Mine.Apart _ _ ∧ _) => z'; obtain ⟨_, _⟩ := z')
  k_with "my fine" => ((unfold LCg.FinE); intro D' h' tk' F' N' o1'; (simp only [Mine.off1_cons, Mine.off1_nil, and_true] at o1'); (try (simp only [List.nil_append, List.cons_append] at N')); walk_at "my split"; (try dsimp only))
  k_with "my enter" => first   | (refine' Mine.enter_plain (by k_asm) (by k_asm) (by k_asm) (by k_asm) (by exact rfl) (by exact rfl) (by assumption) (by k_is) (by k_is) (by ktr_room) (by exact BindsTo.of_eq rfl) (by exact locs rfl) ?_ (by exact rfl) (by exact rfl) (by exact rfl) (by decide); k_whole; intro L' h' F' N' B' X' T'; (try dsimp only); (try k_fold))   | (refine' Mine.enter_cells (by k_asm) (by k_asm) (by k_asm) (by k_asm) (by exact rfl) (by exact rfl) (by assumption) (by k_is) (by k_is) (by ktr_room) (by exact BindsTo.of_eq rfl) (by exact rfl) (by decide +kernel) ?_ (by exact rfl) (by exact rfl) (by exact rfl); k_whole; intro L' h' tk' cells' F' N' Y' B' X' T'; k_cells Y'; (try simp only [List.cons_append, List.nil_append] at N'); (try dsimp only); (try k_fold))
  k_with "call builtin:max" => (k_here; (with_reducible show wpAny _ _ (call (Value.builtin "max") [Value.float _ _, Value.float _ _, Value.float _ _]) _ _ _); k_dflt (refine' Mine.max_threeN (by rfl) (by k_asm) (by k_asm) ?_; k_whole); intro t' h' tk' F' N')
  k_with "call builtin:min" => (k_here; (with_reducible show wpAny _ _ (call (Value.builtin "min") [Value.float _ _, Value.float _ _, Value.float _ _]) _ _ _); k_dflt (refine' Mine.min_threeN (by rfl) (by k_asm) (by k_asm) ?_; k_whole); intro t' h' tk' F' N')
  k_with "call builtin:list.insert" => (k_here; k_dflt (refine' Mine.insert0 (by k_asm) (by k_asm) (by k_upd) (by size_fits) ?_; k_whole); intro h' F' N'; (try dsimp only))
  k_with "inplaceOp Add ref" => (k_here; (with_reducible show wpAny _ _ (inplaceOp Operator.Add (Value.ref _) (Value.ref _)) _ _ _); k_dflt (refine' Mine.iadd_list (by k_asm) (by k_asm) (by k_mem) (by k_updF) (by size_fits) ?_; k_whole); intro h' n' F' N'; (try simp only [List.append_toArray, List.cons_append, List.nil_append] at N'); (try dsimp only))
  k_with "inplaceOp Add ref ref" => walk_at "inplaceOp Add ref"
  k_with "my item" => (k_here; (with_reducible show wpAny _ _ (subscriptTail _ _ (Value.ref _) (Value.int _ _)) _ _ _); k_dflt (refine' Mine.item_ints (by k_asm) (by k_mem) (by assumption) (by omega) (by omega) (by omega) ?_; k_whole); intro t')
  k_with "my len" => (k_here; (with_reducible show wpAny _ _ (call (Value.builtin "len") [Value.ref _]) _ _ _); k_dflt (refine' kst_len (by k_asm) (by k_mem) (by exact IntsAre.length (by assumption)) (by omega) ?_; k_whole))
  k_with "my toks" => (k_here; (with_reducible refine Mine.gen_toks ?_); intro tk9' htk9')
  k_with "call builtin:next" => (k_here; k_dflt (refine' next_itemH (by k_asm) (by k_asm) (by assumption) (by assumption) (by assumption) (by assumption) ?_; k_whole); intro t' h' z' F' N')
  k_with "inplaceOp LShift int int" => (k_here; refine Halt.go ?_)
  k_with "exec While" => refine Halt.go ?_
  w_top off
  refine wpAny_call ?_
  subst hc0
  k_dflt (refine' Mine.enter_hide ?k1 ?k2 ?k3 ?k4 ?k5 ?kA ?kF ?kK ?k6 ?k7 ?k8 ?k9 ?kB ?_ ?c2 ?c3 ?c4 ?c5; (case kA => exact rfl); (case kF => exact rfl); (case kK => assumption); (case k1 => k_asm); (case k2 => k_asm); (case k3 => k_asm); (case k4 => k_asm); (case k5 => k_asm); (case k6 => k_is); (case k7 => k_is); (case k8 => ktr_room); (case k9 => exact BindsTo.of_eq rfl); (case c5 => decide); (case kB => exact locs rfl); (case c2 => exact rfl); (case c3 => exact rfl); (case c4 => exact rfl); k_whole)
  intro g' L' h' Fg' F' N' B' X' T'
  (try dsimp only)
  k_fold
  refine wpAny_noRaise ?_

  k_steps
  unfold Halt
  (rename Fr _ _ _ _ => F1); (rename News _ _ _ _ => N1)
  refine While_inv2 (VarJ I O ns n tl rest) (n₀ := zs.length) F1 N1 ?_ ?_ (hE := PassesOwn.never)
  · exact ⟨_, _, _, zs, _, _, rfl, by assumption, hc5, rfl, rfl, rfl, rfl⟩
  · clear F1 N1
    rintro k m₁ nx h₁ tk₁ F2 N2 ⟨i1, v1, b1, zs1, t1, t2, rfl, hd1, hr1, hk1, hm1, hm2, hm3⟩
    have F3 := Fr_knownL [(Str.ofString "iterator", .ref I), (Str.ofString "b", .int b1 t1), (Str.ofString "val", .int v1 t2)] F2 (all3 hm1 hm2 hm3)
    clear F2
    k_steps
    · unfold Halt
      obtain ⟨b2, zs2, rfl, hv2, hr2⟩ := hr1.on (by assumption)
      refine ilshift_int (by decide) hv2 ?_
      k_steps
      (rename Fr _ _ _ _ => F9); (rename News _ _ _ _ => N9)
      exact ⟨_, _, _, _, zs2.length, rfl, F9, N9, by rw [← hk1]; exact Nat.lt_succ_self _, _, _, _, zs2, _, _, rfl, by assumption, hr2, rfl, rfl, rfl, rfl⟩
    · obtain ⟨rfl, rfl⟩ := hr1.off (by assumption)
      (rename Fr _ _ _ _ => F9); (rename News _ _ _ _ => N9)
      obtain ⟨H8, H9⟩ := home_g Fg' F9 N9
      exact ret _ _ _ _ hd1 H8 H9
end Mine
namespace Mine
open PySem PySem.W PyProof.Rows PySem.Calls PyProof.Rows.LCg PyProof.Rows.LCt

set_option maxRecDepth 100000 in
set_option maxHeartbeats 8000000 in
theorem pv_ends : ∀ (w : World) (loose : List Str) (mean : ExcName → Option Value) (mg mb : Str → Option Value) (dp un : Nat) (gd : Option (List Code)) (cn : Str) (cs : Scope) (a : Addr) (ccd : Value) (cl : List (Str × Addr)) (outer : List Env) (A₀ : Around) (base h₀ : Heap) (L : Addr) (m : Str → Option Value) (news : List (Addr × Obj)) (s : Shared)
   (I O : Addr) (i c : Nat) (us : List Value) (ns : List Int) (rest : List (Addr × Obj)) (Q E : Value → Shared → Prop),
   Below A₀ base outer h₀ → Fr h₀ L s.heap m → (Mine.gen.heap_1 w.params).In h₀ → News h₀ L s.heap news → Top Mine.gen.view_1 loose mean mg mb h₀ → cs.kind = .function → dp + 2 < recursionLimit → un + 16 < cLine →
   (news = (I, litO O i) :: rest) →
   (∀ p ∈ rest, p.1 ≠ I) →
   ((O, W.listOf us.toArray c) ∈ rest) →
   (IntsAre us ns) →
   (ns.drop i = []) →
   (∀ (e : Addr) (h' : Heap) (tk' : Nat) (g' : Heap), Fr h₀ L g' m → RaisedSN base g' (envX cn cs L a ccd cl :: outer) e (.type "StopIteration") rest h' → g'.UpToSlots h' → E (.ref e) { s with heap := h', toks := tk' }) →
   wpAny (model PySem.Challenge.rw_wf0054_01.row.prog w) (ktrTop dp un gd cn cs L a ccd cl outer) (call (.ref 43) [.ref I]) Q E s := by
  k_fill
  intro w loose mean mg mb dp un gd cn cs a ccd cl outer A₀ base h₀ L m news s I O i c us ns rest Q E B F X N T hk hd hu hc0 hc1 hc2 hc3 hc4 ret
  k_with_none
  k_with "my split" => repeat (rename (Mine.Apart _ _ ∧ _) => z'; obtain ⟨_, _⟩ := z')
  k_with "my fine" => ((unfold LCg.FinE); intro D' h' tk' F' N' o1'; (simp only [Mine.off1_cons, Mine.off1_nil, and_true] at o1'); (try (simp only [List.nil_append, List.cons_append] at N')); walk_at "my split"; (try dsimp only))
  k_with "my enter" => first   | (refine' Mine.enter_plain (by k_asm) (by k_asm) (by k_asm) (by k_asm) (by exact rfl) (by exact rfl) (by assumption) (by k_is) (by k_is) (by ktr_room) (by exact BindsTo.of_eq rfl) (by exact locs rfl) ?_ (by exact rfl) (by exact rfl) (by exact rfl) (by decide); k_whole; intro L' h' F' N' B' X' T'; (try dsimp only); (try k_fold))   | (refine' Mine.enter_cells (by k_asm) (by k_asm) (by k_asm) (by k_asm) (by exact rfl) (by exact rfl) (by assumption) (by k_is) (by k_is) (by ktr_room) (by exact BindsTo.of_eq rfl) (by exact rfl) (by decide +kernel) ?_ (by exact rfl) (by exact rfl) (by exact rfl); k_whole; intro L' h' tk' cells' F' N' Y' B' X' T'; k_cells Y'; (try simp only [List.cons_append, List.nil_append] at N'); (try dsimp only); (try k_fold))
  k_with "call builtin:max" => (k_here; (with_reducible show wpAny _ _ (call (Value.builtin "max") [Value.float _ _, Value.float _ _, Value.float _ _]) _ _ _); k_dflt (refine' Mine.max_threeN (by rfl) (by k_asm) (by k_asm) ?_; k_whole); intro t' h' tk' F' N')
  k_with "call builtin:min" => (k_here; (with_reducible show wpAny _ _ (call (Value.builtin "min") [Value.float _ _, Value.float _ _, Value.float _ _]) _ _ _); k_dflt (refine' Mine.min_threeN (by rfl) (by k_asm) (by k_asm) ?_; k_whole); intro t' h' tk' F' N')
  k_with "call builtin:list.insert" => (k_here; k_dflt (refine' Mine.insert0 (by k_asm) (by k_asm) (by k_upd) (by size_fits) ?_; k_whole); intro h' F' N'; (try dsimp only))
  k_with "inplaceOp Add ref" => (k_here; (with_reducible show wpAny _ _ (inplaceOp Operator.Add (Value.ref _) (Value.ref _)) _ _ _); k_dflt (refine' Mine.iadd_list (by k_asm) (by k_asm) (by k_mem) (by k_updF) (by size_fits) ?_; k_whole); intro h' n' F' N'; (try simp only [List.append_toArray, List.cons_append, List.nil_append] at N'); (try dsimp only))
  k_with "inplaceOp Add ref ref" => walk_at "inplaceOp Add ref"
  k_with "my item" => (k_here; (with_reducible show wpAny _ _ (subscriptTail _ _ (Value.ref _) (Value.int _ _)) _ _ _); k_dflt (refine' Mine.item_ints (by k_asm) (by k_mem) (by assumption) (by omega) (by omega) (by omega) ?_; k_whole); intro t')
  k_with "my len" => (k_here; (with_reducible show wpAny _ _ (call (Value.builtin "len") [Value.ref _]) _ _ _); k_dflt (refine' kst_len (by k_asm) (by k_mem) (by exact IntsAre.length (by assumption)) (by omega) ?_; k_whole))
  k_with "my toks" => (k_here; (with_reducible refine Mine.gen_toks ?_); intro tk9' htk9')
  k_with "call builtin:next" => (k_here; k_dflt (refine' next_endH (by exact rfl) (by k_asm) (by k_asm) (by assumption) (by assumption) (by assumption) (by assumption) ?_; k_whole); intro h1' h' e' F1' N1' X1')
  k_with "leaving ref" => (k_here; (rename Heap.NewExc _ _ _ _ => hX9); (refine' leave_newS (by assumption) hX9 (by assumption) (by assumption) ?_; k_whole); intro h' R' RN' U'; (try dsimp only at R' U' ⊢))
  w_top off
  refine wpAny_call ?_
  subst hc0
  k_dflt (refine' Mine.enter_hide ?k1 ?k2 ?k3 ?k4 ?k5 ?kA ?kF ?kK ?k6 ?k7 ?k8 ?k9 ?kB ?_ ?c2 ?c3 ?c4 ?c5; (case kA => exact rfl); (case kF => exact rfl); (case kK => assumption); (case k1 => k_asm); (case k2 => k_asm); (case k3 => k_asm); (case k4 => k_asm); (case k5 => k_asm); (case k6 => k_is); (case k7 => k_is); (case k8 => ktr_room); (case k9 => exact BindsTo.of_eq rfl); (case c5 => decide); (case kB => exact locs rfl); (case c2 => exact rfl); (case c3 => exact rfl); (case c4 => exact rfl); k_whole)
  intro g' L' h' Fg' F' N' B' X' T'
  (try dsimp only)
  k_fold

  k_steps
  exact ret _ _ _ _ Fg' (by assumption) (by assumption)
end Mine
namespace Mine
open PySem PySem.W PyProof.Rows PySem.Calls PyProof.Rows.LCg PyProof.Rows.LCt

/-- what _law_read reads off a tape -/
inductive RdRun : List Int → List Int → Prop
  | nil : RdRun [] []
  | cons {b n : Int} {zs tl out : List Int} : VRun (Builtin.bitAnd b 63) b zs n tl → RdRun tl out → RdRun (b :: zs) (n :: out)
theorem VRun.le {v b n : Int} {zs tl : List Int} (h : VRun v b zs n tl) : tl.length ≤ zs.length := by
  induction h with
  | done _ => exact Nat.le_refl _
  | more _ _ _ ih => exact Nat.le_succ_of_le ih
theorem RdRun.off {out : List Int} (h : RdRun [] out) : out = [] := by cases h; rfl
theorem RdRun.on {b : Int} {zs out : List Int} (h : RdRun (b :: zs) out) : ∃ n tl rest, VRun (Builtin.bitAnd b 63) b zs n tl ∧ RdRun tl rest ∧ out = n :: rest := by
  cases h with
  | cons h1 h2 => exact ⟨_, _, _, h1, h2, rfl⟩
noncomputable def ReadJ (I O : Addr) (ns out : List Int) (news : List (Addr × Obj)) (k : Nat) (m : Str → Option Value) (nx : List (Addr × Obj)) : Prop :=
  ∃ (i c : Nat) (D : Addr) (vs : List Value) (zs got rest : List Int), nx = (I, litO O i) :: (D, W.listOf vs.toArray c) :: news ∧ IntsAre vs got ∧ ns.drop i = zs ∧ RdRun zs rest ∧ out = got ++ rest ∧ zs.length = k ∧ (∀ p ∈ (D, W.listOf vs.toArray c) :: news, p.1 ≠ I) ∧ LCg.Off1 D news ∧ m (Str.ofString "tape") = some (.ref I) ∧ m (Str.ofString "told") = some (.ref D)
local macro_rules | `(tactic| k_all) => `(tactic| first | assumption | exact off_all (by assumption))
set_option maxRecDepth 100000 in
set_option maxHeartbeats 8000000 in
theorem read_tells : ∀ (w : World) (loose : List Str) (mean : ExcName → Option Value) (mg mb : Str → Option Value) (dp un : Nat) (gd : Option (List Code)) (cn : Str) (cs : Scope) (a : Addr) (ccd : Value) (cl : List (Str × Addr)) (A₀ : Around) (base h₀ : Heap) (L : Addr) (m : Str → Option Value) (news : List (Addr × Obj)) (s : Shared)
   (O : Addr) (c : Nat) (us : List Value) (ns out : List Int) (Q E : Value → Shared → Prop),
   Below A₀ base [] h₀ → Fr h₀ L s.heap m → (Mine.gen.heap_1 w.params).In h₀ → News h₀ L s.heap news → Top Mine.gen.view_1 loose mean mg mb h₀ → cs.kind = .function → dp + 4 < recursionLimit → un + 64 < cLine →
   ((O, W.listOf us.toArray c) ∈ news) →
   (IntsAre us ns) →
   (RdRun ns out) →
   (out.length ≤ 1000) →
   ((Mine.gen.heap_1 w.params).In base) →
   (Top Mine.gen.view_1 loose mean mg mb base) →
   (∀ (D : Addr) (vs : List Value) (c' : Nat) (h' : Heap) (tk' : Nat), Fr h₀ L h' m → News h₀ L h' ((D, W.listOf vs.toArray c') :: news) → LCg.Off1 D news → IntsAre vs out → Q (.ref D) { s with heap := h', toks := tk' }) →
   wpAny (model PySem.Challenge.rw_wf0054_01.row.prog w) (ktrTop dp un gd cn cs L a ccd cl []) (call (.ref 98) [.ref O]) Q E s := by
  k_fill
  intro w loose mean mg mb dp un gd cn cs a ccd cl A₀ base h₀ L m news s O c us ns out Q E B F X N T hk hd hu hc0 hc1 hc2 hc3 hc4 hc5 ret
  k_with_none
  k_with "my split" => repeat (rename (Mine.Apart _ _ ∧ _) => z'; obtain ⟨_, _⟩ := z')
  k_with "my fine" => ((unfold LCg.FinE); intro D' h' tk' F' N' o1'; (simp only [Mine.off1_cons, Mine.off1_nil, and_true] at o1'); (try (simp only [List.nil_append, List.cons_append] at N')); walk_at "my split"; (try dsimp only))
  k_with "my enter" => first   | (refine' Mine.enter_plain (by k_asm) (by k_asm) (by k_asm) (by k_asm) (by exact rfl) (by exact rfl) (by assumption) (by k_is) (by k_is) (by ktr_room) (by exact BindsTo.of_eq rfl) (by exact locs rfl) ?_ (by exact rfl) (by exact rfl) (by exact rfl) (by decide); k_whole; intro L' h' F' N' B' X' T'; (try dsimp only); (try k_fold))   | (refine' Mine.enter_cells (by k_asm) (by k_asm) (by k_asm) (by k_asm) (by exact rfl) (by exact rfl) (by assumption) (by k_is) (by k_is) (by ktr_room) (by exact BindsTo.of_eq rfl) (by exact rfl) (by decide +kernel) ?_ (by exact rfl) (by exact rfl) (by exact rfl); k_whole; intro L' h' tk' cells' F' N' Y' B' X' T'; k_cells Y'; (try simp only [List.cons_append, List.nil_append] at N'); (try dsimp only); (try k_fold))
  k_with "call builtin:max" => (k_here; (with_reducible show wpAny _ _ (call (Value.builtin "max") [Value.float _ _, Value.float _ _, Value.float _ _]) _ _ _); k_dflt (refine' Mine.max_threeN (by rfl) (by k_asm) (by k_asm) ?_; k_whole); intro t' h' tk' F' N')
  k_with "call builtin:min" => (k_here; (with_reducible show wpAny _ _ (call (Value.builtin "min") [Value.float _ _, Value.float _ _, Value.float _ _]) _ _ _); k_dflt (refine' Mine.min_threeN (by rfl) (by k_asm) (by k_asm) ?_; k_whole); intro t' h' tk' F' N')
  k_with "call builtin:list.insert" => (k_here; k_dflt (refine' Mine.insert0 (by k_asm) (by k_asm) (by k_upd) (by size_fits) ?_; k_whole); intro h' F' N'; (try dsimp only))
  k_with "inplaceOp Add ref" => (k_here; (with_reducible show wpAny _ _ (inplaceOp Operator.Add (Value.ref _) (Value.ref _)) _ _ _); k_dflt (refine' Mine.iadd_list (by k_asm) (by k_asm) (by k_mem) (by k_updF) (by size_fits) ?_; k_whole); intro h' n' F' N'; (try simp only [List.append_toArray, List.cons_append, List.nil_append] at N'); (try dsimp only))
  k_with "inplaceOp Add ref ref" => walk_at "inplaceOp Add ref"
  k_with "my item" => (k_here; (with_reducible show wpAny _ _ (subscriptTail _ _ (Value.ref _) (Value.int _ _)) _ _ _); k_dflt (refine' Mine.item_ints (by k_asm) (by k_mem) (by assumption) (by omega) (by omega) (by omega) ?_; k_whole); intro t')
  k_with "my len" => (k_here; (with_reducible show wpAny _ _ (call (Value.builtin "len") [Value.ref _]) _ _ _); k_dflt (refine' kst_len (by k_asm) (by k_mem) (by exact IntsAre.length (by assumption)) (by omega) ?_; k_whole))
  k_with "my toks" => (k_here; (with_reducible refine Mine.gen_toks ?_); intro tk9' htk9')
  k_with "call builtin:iter" => (k_here; k_dflt (refine' iter_list (by k_asm) (by k_asm) (by exact News.isList (by k_asm) (by assumption)) ?_; k_whole); intro I9 h' F' N' o' K')
  k_with "call ref" => (k_here; k_dflt (refine' Mine.pv_tells _ _ _ _ _ _ _ _ _ _ _ _ _ _ _ _ _ _ _ _ _ _ _ _ _ _ _ _ _ _ _ _ _ _ (by k_asm) (by k_asm) (by k_asm) (by k_asm) (by k_asm) (by first | exact rfl | assumption) (by ktr_room) (by ktr_units) (by exact rfl) (by assumption) (by exact .tail _ (by assumption)) (by assumption) (by assumption) (by assumption) ?_; k_whole); intro t9' j9' h9' tk9' d9' F9' N9'; (try dsimp only); (try k_fold))
  k_with "call ref" => (k_here; k_dflt (refine' Mine.pv_ends _ _ _ _ _ _ _ _ _ _ _ _ _ _ _ _ _ _ _ _ _ _ _ _ _ _ _ _ _ _ (by k_asm) (by k_asm) (by k_asm) (by k_asm) (by k_asm) (by first | exact rfl | assumption) (by ktr_room) (by ktr_units) (by exact rfl) (by assumption) (by exact .tail _ (by assumption)) (by assumption) (by assumption) ?_; k_whole); intro e9' h9' tk9' g9' F9' R9' U9'; refine Halt.go ?_)
  k_with "exec While" => refine Halt.go ?_
  w_top off
  refine wpAny_call ?_
  k_dflt (refine' Mine.enter_try ?k1 ?k2 ?k3 ?k4 ?k5 ?kA ?kF ?kK ?k6 ?k7 ?k8 ?k9 ?kB ?_ ?c2 ?c3 ?c4 ?c5; (case kA => exact rfl); (case kF => exact rfl); (case kK => assumption); (case k1 => k_asm); (case k2 => k_asm); (case k3 => k_asm); (case k4 => k_asm); (case k5 => k_asm); (case k6 => k_is); (case k7 => k_is); (case k8 => ktr_room); (case k9 => exact BindsTo.of_eq rfl); (case c5 => decide); (case kB => exact locs rfl); (case c2 => exact rfl); (case c3 => exact rfl); (case c4 => exact rfl); k_whole)
  intro g' L' h' Fg' F' N' B' X' T' D'
  (try dsimp only)
  k_fold

  k_steps
  unfold Halt
  (rename Fr _ _ _ _ => F1); (rename News _ _ _ _ => N1)
  rename (@LT.lt Nat _ _ _ ∧ AllLt _ news) => q9
  rename LCg.Off1 _ news => q7
  obtain ⟨I, D0, mp, F8, e8, e7, N8, q5, q6⟩ : ∃ I D0 mp, Fr g' L' _ mp ∧ mp (Str.ofString "tape") = some (.ref I) ∧ mp (Str.ofString "told") = some (.ref D0) ∧ News g' L' _ ((I, litO O 0) :: (D0, W.listOf ([] : List Value).toArray 0) :: news) ∧ (∀ p ∈ (D0, W.listOf ([] : List Value).toArray 0) :: news, p.1 ≠ I) ∧ LCg.Off1 D0 news := ⟨_, _, _, F1, rfl, rfl, news_sub N1 (fun _ h => by
    rcases List.mem_cons.mp h with rfl | h
    · exact .tail _ (.tail _ (.head _))
    · rcases List.mem_cons.mp h with rfl | h
      · exact .tail _ (.head _)
      · exact .tail _ (.tail _ (.tail _ h))), fun p hp => (by
    rcases List.mem_cons.mp hp with rfl | hp
    · exact Nat.ne_of_gt q9.1
    · exact off_all q7 p hp), lt_off q9.2⟩
  refine While_inv2 (ReadJ I O ns out news) (n₀ := ns.length) F8 N8 ?_ ?_ (hE := by passes_own)
  · exact ⟨0, 0, _, [], ns, [], out, rfl, .nil, rfl, hc2, rfl, rfl, q5, q6, e8, e7⟩
  · clear F8 F1 N1 N8 q9 q7 q5 q6
    rintro k m₁ nx h₁ tk₁ F2 N2 ⟨i, c2, D, vs, zs, got, rest, rfl, hi2, hd2, hr2, ho2, hk2, hf2, hf3, hm1, hm2⟩
    have F3 := Fr_knownL [(Str.ofString "tape", .ref I), (Str.ofString "told", .ref D)] F2 (all2 hm1 hm2)
    clear F2
    have hDI : Apart D I := hf2 _ (.head _)
    have hl9 : vs.length ≤ 1000 := by
      rw [hi2.length]
      have := congrArg List.length ho2
      rw [List.length_append] at this
      omega
    cases zs with
    | nil =>
      obtain rfl := hr2.off
      rw [List.append_nil] at ho2
      subst ho2
      k_steps
      unfold Halt
      rename RaisedSN _ _ _ _ _ _ _ => R9
      rename Heap.UpToSlots _ _ => U9
      refine caught_SN0 (T' := "StopIteration") R9 (by assumption) B' U9 hc4 hc5 D' KtsTurn.refl (by k_is) PyProof.Rows.Boot.«StopIteration» (by decide) isExc_Stop notTuple_Stop isSubtype_stop ?_
      clear R9 U9 N2 F3
      intro h' g2 T2 F2 N2 K2 X2 P2 D2
      k_steps
      exact ret _ _ _ _ _ (by assumption) (by assumption) hf3 hi2
    | cons b zs =>
      obtain ⟨n, tl, rest', hv2, hr3, rfl⟩ := hr2.on
      k_steps
      (rename Fr _ _ _ _ => F9); (rename News _ _ _ _ => N9)
      simp only [List.push_toArray] at N9
      refine ⟨_, _, _, _, tl.length, rfl, F9, N9, ?_, _, _, _, _, tl, got ++ [n], rest', rfl, hi2.append (.cons _ _ .nil), by assumption, hr3, ?_, rfl, ?_, hf3, rfl, rfl⟩
      · rw [← hk2]; exact Nat.lt_succ_of_le hv2.le
      · rw [ho2, List.append_assoc]; rfl
      · intro p hp
        rcases List.mem_cons.mp hp with rfl | hp
        · exact hDI.ne
        · exact hf2 p (.tail _ hp)
end Mine
namespace Mine
open PySem PySem.W PyProof.Rows PySem.Calls PyProof.V
/-- the sign of a box, by its place and whether it holds a ball -/
noncomputable def chF (x k : Nat) : Nat := if x.testBit k then [40, 91, 123].getD (k % 3) 0 else [41, 93, 125].getD (k % 3) 0
noncomputable def chS (x k : Nat) : Str := ⟨#[chF x k]⟩
noncomputable def kindF (x k : Nat) : Int := if x.testBit k then [7, 9, 25].getD (k % 3) 0 else [8, 10, 26].getD (k % 3) 0
theorem kindF_on {x k : Nat} (h : x.testBit k = true) : ([7, 9, 25].any fun z => z == kindF x k) = true := by
  unfold kindF
  rw [if_pos h]
  have : k % 3 < 3 := Nat.mod_lt _ (by decide)
  match k % 3, this with
  | 0, _ => rfl
  | 1, _ => rfl
  | 2, _ => rfl
theorem kindF_off {x k : Nat} (h : x.testBit k = false) : ([7, 9, 25].any fun z => z == kindF x k) = false ∧ ([8, 10, 26].any fun z => z == kindF x k) = true := by
  unfold kindF
  rw [if_neg (by rw [h]; exact Bool.false_ne_true)]
  have : k % 3 < 3 := Nat.mod_lt _ (by decide)
  match k % 3, this with
  | 0, _ => exact ⟨rfl, rfl⟩
  | 1, _ => exact ⟨rfl, rfl⟩
  | 2, _ => exact ⟨rfl, rfl⟩
/-- the table of the signs -/
noncomputable def KindTab (h : Heap) : Prop := ∃ (o : Obj) (es : Array DictEntry) (ep : Nat), h.get? 51 = some o ∧ o.cls = .type "dict" ∧ o.data = .dict es ep ∧ (es.all fun e => isExactStrKey e.key) = true ∧
  ∀ p ∈ ([(40, 7), (91, 9), (123, 25), (41, 8), (93, 10), (125, 26)] : List (Nat × Int)), ∃ e t, es.toList.find? (fun e => e.key.isStr ⟨#[p.1]⟩) = some e ∧ e.val = .int p.2 t
theorem kindTab : ∀ (w : World) (h : Heap), (Mine.gen.heap_1 w.params).In h → PySem.Challenge.rw_wf0054_01 = PySem.Challenge.rw_wf0054_01 → KindTab h := by
  k_fill
  intro w h X _
  refine ⟨_, _, _, X 51 _ (by k_is), rfl, rfl, by rw [← Array.all_toList]; rfl, ?_⟩
  intro p hp
  simp only [List.mem_cons, List.not_mem_nil, or_false] at hp
  rcases hp with rfl | rfl | rfl | rfl | rfl | rfl
  all_goals exact ⟨_, _, by rfl, by rfl⟩
theorem KindTab.at {h : Heap} (T : KindTab h) (x k : Nat) : ∃ (o : Obj) (es : Array DictEntry) (ep : Nat), h.get? 51 = some o ∧ o.cls = .type "dict" ∧ o.data = .dict es ep ∧ (es.all fun e => isExactStrKey e.key) = true ∧
    ∃ e t, es.toList.find? (fun e => e.key.isStr (chS x k)) = some e ∧ e.val = .int (kindF x k) t := by
  obtain ⟨o, es, ep, a, b, c, d, f⟩ := T
  refine ⟨o, es, ep, a, b, c, d, ?_⟩
  unfold chS chF kindF
  have : k % 3 < 3 := Nat.mod_lt _ (by decide)
  cases x.testBit k
  · match k % 3, this with
    | 0, _ => exact f (41, 8) (by simp)
    | 1, _ => exact f (93, 10) (by simp)
    | 2, _ => exact f (125, 26) (by simp)
  · match k % 3, this with
    | 0, _ => exact f (40, 7) (by simp)
    | 1, _ => exact f (91, 9) (by simp)
    | 2, _ => exact f (123, 25) (by simp)
section
variable {prog : Program} {w : World} {A : Around} {E : Value → Shared → Prop} {s : Shared}
theorem kind_get {d : Addr} {o : Obj} {es : Array DictEntry} {ep : Nat} {k : Str} {tk : Tok} {e : DictEntry} {Q : Option Value → Shared → Prop} (ho : s.heap.get? d = some o) (hd : o.data = .dict es ep) (hall : (es.all fun e => isExactStrKey e.key) = true)
    (hf : es.toList.find? (fun e => e.key.isStr k) = some e) (h : Q (some e.val) { s with toks := s.toks + 1 }) : wpAny (model prog w) A (dictGet d (.str k tk)) Q E s := by
  unfold dictGet
  try with_reducible refine wpAny_holding ?_
  refine wpAny_bind (wpAny_pyHash_str (wpAny_bind (KTD.kt_dictFind_strs (s := { s with toks := s.toks + 1 }) ho hd hall ?_)))
  have hq : Q (findBy (fun k v => v.isStr k) es k) { s with toks := s.toks + 1 } := by
    have hf' : findBy (fun k v => v.isStr k) es k = (es.toList.find? fun e => e.key.isStr k).map (·.val) := by
      obtain ⟨l⟩ := es
      simp [findBy]
    rw [hf', hf]
    exact h
  rw [findBy_of_findIdx?] at hq
  cases hi : es.findIdx? fun e => e.key.isStr k with
  | none => rw [hi] at hq; exact wpAny_pure hq
  | some i => rw [hi] at hq; exact wpAny_bind (wpAny_dictEntries (s := { s with toks := s.toks + 1 }) ho hd (wpAny_pure hq))
theorem kind_item {value slice : Expr} {x k : Nat} {tk : Tok} {Q : Value → Shared → Prop} (T : KindTab s.heap) (h : ∀ t, Q (.int (kindF x k) t) { s with toks := s.toks + 1 })
    (hs : subscripted slice false (.ref 51) (.str (chS x k) tk) = operate [.ref 51, .str (chS x k) tk] (getItem (.ref 51) (.str (chS x k) tk)) := by with_unfolding_all rfl) (hg : ∀ r, letTemporaryGo value (.ref 51) r = pure () := by intro _; with_unfolding_all rfl) :
    wpAny (model prog w) A (subscriptTail value slice (.ref 51) (.str (chS x k) tk)) Q E s := by
  obtain ⟨o, es, ep, ho, hc, hd, ha, e, t, he, hv⟩ := T.at x k
  have hT : s.TypeIs (.ref 51) "dict" := ⟨o, ho, hc⟩
  refine subscriptTail_builtin hT slot_dict_getitem.lookup ?_ hs hg
  unfold getItem
  try with_reducible refine wpAny_holding ?_
  refine wpAny_bind (wpAny_sequenceKey hT (by decide) ?_)
  refine wpAny_bind (wpAny_callSpecial?_slot (name := Str.ofString "__getitem__") hT slot_dict_getitem
    (wpAny_call_entry slot_dict_getitem hT entry_dict_getitem ?_ (args_dict_getitem _ _)))
  show wpAny _ _ (dictGet 51 (.str (chS x k) tk) >>= _) _ _ s
  refine wpAny_bind (kind_get ho hd ha he ?_)
  rw [hv]
  exact wpAny_pure ⟨_, rfl, wpAny_pure (h t)⟩
end
/-- the ring as a text -/
theorem item_open {i : Nat} : Txt.item (Str.ofString "([{") ((0 + (i : Int)).fmod 3) = ⟨#[[40, 91, 123].getD (i % 3) 0]⟩ := by
  have e : (0 + (i : Int)).fmod 3 = ((i % 3 : Nat) : Int) := by rw [Int.zero_add]; exact (Int.ofNat_fmod i 3).symm
  rw [e]
  have : i % 3 < 3 := Nat.mod_lt _ (by decide)
  match i % 3, this with
  | 0, _ => rfl
  | 1, _ => rfl
  | 2, _ => rfl
theorem item_shut {i : Nat} : Txt.item (Str.ofString ")]}") ((0 + (i : Int)).fmod 3) = ⟨#[[41, 93, 125].getD (i % 3) 0]⟩ := by
  have e : (0 + (i : Int)).fmod 3 = ((i % 3 : Nat) : Int) := by rw [Int.zero_add]; exact (Int.ofNat_fmod i 3).symm
  rw [e]
  have : i % 3 < 3 := Nat.mod_lt _ (by decide)
  match i % 3, this with
  | 0, _ => rfl
  | 1, _ => rfl
  | 2, _ => rfl
noncomputable def textF (x : Nat) : Str := Txt.join (Str.ofString "") ((List.range 32).map (chS x))
theorem join_signs (f : Nat → Nat) : ∀ l : List Nat, (Str.join ⟨#[]⟩ (l.map fun k => (⟨#[f k]⟩ : Str))).cps.toList = l.map f
  | [] => rfl
  | [a] => rfl
  | a :: b :: r => by
    have := join_signs f (b :: r)
    show (_ ++ _ ++ Str.join _ (_ :: _) : Str).cps.toList = _
    simp only [List.map_cons] at this ⊢
    simp [Str.cps_append, this]
theorem textF_cps (x : Nat) : (textF x).cps.toList = (List.range 32).map (chF x) := by
  unfold textF Txt.join
  rw [PySem.StrLaws.glued_eq_join]
  exact join_signs (chF x) _
theorem textF_len (x : Nat) : (textF x).length = 32 := by
  show (textF x).cps.size = 32
  rw [← Array.length_toList, textF_cps, List.length_map, List.length_range]
theorem item_sign {x i : Nat} : Txt.item (textF x) ((0 + (i : Int)).fmod 32) = chS x (i % 32) := by
  have e : (0 + (i : Int)).fmod 32 = ((i % 32 : Nat) : Int) := by rw [Int.zero_add]; exact (Int.ofNat_fmod i 32).symm
  rw [e]
  have h : i % 32 < 32 := Nat.mod_lt _ (by decide)
  generalize i % 32 = j at h
  unfold Txt.item Txt.charAt chS
  have e2 : seqIndex? (j : Int) (textF x).length = some j := by
    unfold seqIndex?
    rw [textF_len]
    have n : ¬ ((j : Int) < 0) := by omega
    simp only [n, if_false]
    have : (decide (0 ≤ (j : Int)) && decide ((j : Int) < ((32 : Nat) : Int))) = true := by
      rw [Bool.and_eq_true, decide_eq_true_eq, decide_eq_true_eq]; omega
    rw [this]
    rfl
  rw [e2]
  have e3 : (textF x).cps[j]? = some (chF x j) := by
    rw [← Array.getElem?_toList, textF_cps, List.getElem?_map, List.getElem?_range h]
    rfl
  show (⟨#[((textF x).cps[j]?).getD 0]⟩ : Str) = _
  rw [e3]
  rfl
end Mine
namespace Mine
open PySem PySem.W PyProof.Rows PySem.Calls PyProof.Rows.LCg PyProof.Rows.LCt

theorem balls_ne (x : Nat) : ¬ ballsF x = [-1] := by
  intro h
  have := balls_range (N := x) (i := 0) (b := -1) (by rw [h]; rfl)
  omega
theorem any_ball {x i : Nat} (hi : i < 32) : ((ballsF x).any fun z => z == 0 + (i : Int)) = x.testBit i := by
  rw [Bool.eq_iff_iff, List.any_eq_true]
  unfold ballsF rangeKs
  constructor
  · rintro ⟨z, hz, he⟩
    obtain ⟨h1, h2⟩ := List.mem_filter.mp hz
    have : z = 0 + (i : Int) := eq_of_beq he
    subst this
    simpa using h2
  · intro h
    exact ⟨0 + (i : Int), List.mem_filter.mpr ⟨List.mem_map.mpr ⟨i, List.mem_range.mpr hi, rfl⟩, by simpa using h⟩, beq_self_eq_true _⟩
theorem sign_in {x i : Nat} (h : x.testBit i = true) : (⟨#[[40, 91, 123].getD (i % 3) 0]⟩ : Str) = chS x i := by unfold chS chF; rw [if_pos h]
theorem sign_out {x i : Nat} (h : x.testBit i = false) : (⟨#[[41, 93, 125].getD (i % 3) 0]⟩ : Str) = chS x i := by unfold chS chF; rw [if_neg (by rw [h]; exact Bool.false_ne_true)]
theorem signs_w (x : Nat) : (((List.range 32).map (chS x)).map (·.length)).sum + ((List.range 32).map (chS x)).length ≤ 1048576 := by
  refine Nat.le_trans (weight_le _ fun y hy => ?_) ?_
  · obtain ⟨k, _, rfl⟩ := List.mem_map.mp hy
    exact (by decide : 1 ≤ 20)
  · rw [List.length_map, List.length_range]; decide
theorem news_mv {h₀ h : Heap} {L : Addr} {a b c : Addr × Obj} {r : List (Addr × Obj)} (N : News h₀ L h (a :: b :: c :: r)) : News h₀ L h [c, b] := fun p hp => N p (by
  simp only [List.mem_cons, List.not_mem_nil, or_false] at hp ⊢
  rcases hp with h | h <;> simp [h])
theorem all_cons {a b : Addr} {o : Obj} {led : List (Addr × Obj)} (h : Apart a b) (hl : ∀ p ∈ led, p.1 ≠ b) : ∀ p ∈ (a, o) :: led, p.1 ≠ b := List.forall_mem_cons.mpr ⟨h.ne, hl⟩
/-- the open brackets as they lie: the list's references, their lists -/
inductive Stk : List (Nat × Nat) → List Value → List (Addr × Obj) → Prop
  | nil : Stk [] [] []
  | cons {a : Addr} {s n c : Nat} {t1 t2 : Tok} {st : List (Nat × Nat)} {ws : List Value} {led : List (Addr × Obj)} : Stk st ws led → (∀ p ∈ led, p.1 ≠ a) → Stk ((s, n) :: st) (ws ++ [.ref a]) ((a, W.listOf #[.int (s : Int) t1, .int (n : Int) t2] c) :: led)
theorem Stk.len {st : List (Nat × Nat)} {ws : List Value} {led : List (Addr × Obj)} (h : Stk st ws led) : ws.length = st.length := by
  induction h with
  | nil => rfl
  | cons _ _ ih => rw [List.length_append, ih]; rfl
noncomputable def MvJ (x : Nat) (sh lv : Int) (i : Nat) (m : Str → Option Value) (nx : List (Addr × Obj)) : Prop :=
  ∃ (Wa C : Addr) (ws us : List Value) (c1 c2 : Nat) (led : List (Addr × Obj)) (t1 t2 t3 t4 : Tok), nx = (Wa, W.listOf ws.toArray c1) :: (C, W.listOf us.toArray c2) :: led ∧ Stk (mvRun x i).st ws led ∧ IntsAre us (mvRun x i).cs ∧ Apart Wa C ∧ (∀ p ∈ led, p.1 ≠ Wa) ∧ (∀ p ∈ led, p.1 ≠ C) ∧
    m (Str.ofString "waiting") = some (.ref Wa) ∧ m (Str.ofString "counts") = some (.ref C) ∧ m (Str.ofString "moved") = some (.int (mvRun x i).mv t1) ∧ m (Str.ofString "text") = some (.str (textF x) t2) ∧ m (Str.ofString "share") = some (.int sh t3) ∧ m (Str.ofString "level") = some (.int lv t4)
theorem place_nat (i : Nat) : ((0 + (i : Int)).fmod 32).toNat = i % 32 := by
  have e : (0 + (i : Int)).fmod 32 = ((i % 32 : Nat) : Int) := by rw [Int.zero_add]; exact (Int.ofNat_fmod i 32).symm
  rw [e]; rfl
theorem mv_popA {x i s n : Nat} {r : List (Nat × Nat)} {ks : List Int} {mv : Int} (hb : x.testBit (i % 32) = false) (hR : mvRun x i = ⟨(s, n) :: r, ks, mv⟩) (hs : (s : Int) < 32) (hl : (ks.length : Int) = n) :
    mvRun x (i + 1) = ⟨bumpS (n + 1) r, (ks ++ [0]).set n ((ks ++ [0]).getD n 0 + 1), mv + 2 ^ ((0 + (i : Int)).fmod 32).toNat⟩ := by
  rw [mv_pop hb (by rw [hR]), if_pos (by omega), hR, place_nat]
  unfold tally
  simp only [if_pos (show ks.length = n by omega)]
theorem mv_popB {x i s n : Nat} {r : List (Nat × Nat)} {ks : List Int} {mv : Int} (hb : x.testBit (i % 32) = false) (hR : mvRun x i = ⟨(s, n) :: r, ks, mv⟩) (hs : (s : Int) < 32) (hl : (ks.length : Int) ≠ n) :
    mvRun x (i + 1) = ⟨bumpS (n + 1) r, ks.set n (ks.getD n 0 + 1), mv + 2 ^ ((0 + (i : Int)).fmod 32).toNat⟩ := by
  rw [mv_pop hb (by rw [hR]), if_pos (by omega), hR, place_nat]
  unfold tally
  simp only [if_neg (show ¬ ks.length = n by omega)]
theorem mv_popC {x i s n : Nat} {r : List (Nat × Nat)} {ks : List Int} {mv : Int} (hb : x.testBit (i % 32) = false) (hR : mvRun x i = ⟨(s, n) :: r, ks, mv⟩) (hs : ¬ (s : Int) < 32) :
    mvRun x (i + 1) = ⟨bumpS (n + 1) r, ks, mv⟩ := by
  rw [mv_pop hb (by rw [hR]), if_neg (by omega), hR]
theorem stk_bump {a : Addr} {s2 n2 n1 c : Nat} {t1 t2 : Tok} {st : List (Nat × Nat)} {ws : List Value} {led : List (Addr × Obj)} (h : Stk st ws led) (ha : ∀ p ∈ led, p.1 ≠ a) :
    Stk (bumpS (n1 + 1) ((s2, n2) :: st)) (ws ++ [.ref a]) ((a, W.listOf #[.int (s2 : Int) t1, .int (if (n1 : Int) + 1 > (n2 : Int) then (n1 : Int) + 1 else (n2 : Int)) t2] c) :: led) := by
  have e : (if (n1 : Int) + 1 > (n2 : Int) then (n1 : Int) + 1 else (n2 : Int)) = ((max n2 (n1 + 1) : Nat) : Int) := by
    split <;> omega
  rw [e]
  exact .cons h ha
section
variable {h₀ h' : Heap} {L I Wa C l : Addr} {oI : Obj} {m' : Str → Option Value} {d z y1 y2 y3 y4 : Addr × Obj} {ws us : List Value} {k1 k2 c0 x i n1 s1 tk : Nat} {led : List (Addr × Obj)} {sh lv mv mvv : Int} {t9 t0 u1 u2 u3 u4 : Tok} {ks ks' : List Int} {st r : List (Nat × Nat)} {sp : Shared}
theorem end_on (hb : x.testBit (i % 32) = true) (hR : mvRun x i = ⟨st, ks, mv⟩) (F : Fr h₀ L h' m') (N : News h₀ L h' ((l, W.listOf #[.int (0 + (i : Int)) t9, .int 0 t0] c0) :: d :: (I, oI) :: (Wa, W.listOf (ws.toArray.push (.ref l)) k1) :: (C, W.listOf us.toArray k2) :: led))
    (hlt : d.1 < l ∧ I < l ∧ Wa < l ∧ C < l ∧ AllLt l led) (hs : Stk st ws led) (hu : IntsAre us ks) (hWC : Apart Wa C) (hW : ∀ p ∈ led, p.1 ≠ Wa) (hC : ∀ p ∈ led, p.1 ≠ C) (hLI : ∀ p ∈ led, p.1 ≠ I) (hWI : Apart Wa I) (hCI : Apart C I)
    (hm1 : m' (Str.ofString "waiting") = some (.ref Wa)) (hm2 : m' (Str.ofString "counts") = some (.ref C)) (hm3 : m' (Str.ofString "moved") = some (.int mv u1)) (hm4 : m' (Str.ofString "text") = some (.str (textF x) u2)) (hm5 : m' (Str.ofString "share") = some (.int sh u3)) (hm6 : m' (Str.ofString "level") = some (.int lv u4)) :
    ∃ h'' tk' m'' nx', ({ sp with heap := h', toks := tk } : Shared) = { sp with heap := h'', toks := tk' } ∧ Fr h₀ L h'' m'' ∧ News h₀ L h'' ((I, oI) :: nx') ∧ (∀ p ∈ nx', p.1 ≠ I) ∧ MvJ x sh lv (i + 1) m'' nx' := by
  have e : (ws.toArray.push (Value.ref l)) = (ws ++ [Value.ref l]).toArray := by simp
  rw [e, Int.zero_add] at N
  obtain ⟨_, l1, l2, l3, l4⟩ := hlt
  refine turn_end (nx := (Wa, W.listOf (ws ++ [Value.ref l]).toArray k1) :: (C, W.listOf us.toArray k2) :: (l, W.listOf #[Value.int (i : Int) t9, Value.int 0 t0] c0) :: led) F N ?_ ?_ ⟨Wa, C, ws ++ [.ref l], us, k1, k2, _, u1, u2, u3, u4, rfl, by rw [mv_on hb, hR]; exact Stk.cons (t1 := t9) (t2 := t0) (c := c0) hs (off_all (lt_off l4)), by rw [mv_on hb, hR]; exact hu, hWC, ?_, ?_, hm1, hm2, by rw [mv_on hb, hR]; exact hm3, hm4, hm5, hm6⟩
  · intro p hp
    simp only [List.mem_cons] at hp ⊢
    rcases hp with h | h | h | h | h <;> simp [h]
  · intro p hp
    rcases List.mem_cons.mp hp with rfl | hp
    · exact hWI.ne
    rcases List.mem_cons.mp hp with rfl | hp
    · exact hCI.ne
    rcases List.mem_cons.mp hp with rfl | hp
    · exact Nat.ne_of_gt l1
    exact hLI p hp
  · intro p hp
    rcases List.mem_cons.mp hp with rfl | hp
    · exact Nat.ne_of_gt l2
    exact hW p hp
  · intro p hp
    rcases List.mem_cons.mp hp with rfl | hp
    · exact Nat.ne_of_gt l3
    exact hC p hp
theorem end_keep (hn : mvRun x (i + 1) = ⟨r, ks', mvv⟩) (F : Fr h₀ L h' m') (N : News h₀ L h' (y1 :: y2 :: y3 :: y4 :: (I, oI) :: (Wa, W.listOf ws.toArray k1) :: (C, W.listOf us.toArray k2) :: led))
    (hs : Stk r ws led) (hu : IntsAre us ks') (hWC : Apart Wa C) (hW : ∀ p ∈ led, p.1 ≠ Wa) (hC : ∀ p ∈ led, p.1 ≠ C) (hLI : ∀ p ∈ led, p.1 ≠ I) (hWI : Apart Wa I) (hCI : Apart C I)
    (hm1 : m' (Str.ofString "waiting") = some (.ref Wa)) (hm2 : m' (Str.ofString "counts") = some (.ref C)) (hm3 : m' (Str.ofString "moved") = some (.int mvv u1)) (hm4 : m' (Str.ofString "text") = some (.str (textF x) u2)) (hm5 : m' (Str.ofString "share") = some (.int sh u3)) (hm6 : m' (Str.ofString "level") = some (.int lv u4)) :
    ∃ h'' tk' m'' nx', ({ sp with heap := h', toks := tk } : Shared) = { sp with heap := h'', toks := tk' } ∧ Fr h₀ L h'' m'' ∧ News h₀ L h'' ((I, oI) :: nx') ∧ (∀ p ∈ nx', p.1 ≠ I) ∧ MvJ x sh lv (i + 1) m'' nx' := by
  refine turn_end (nx := (Wa, W.listOf ws.toArray k1) :: (C, W.listOf us.toArray k2) :: led) F N ?_ ?_ ⟨Wa, C, ws, us, k1, k2, led, u1, u2, u3, u4, rfl, by rw [hn]; exact hs, by rw [hn]; exact hu, hWC, hW, hC, hm1, hm2, by rw [hn]; exact hm3, hm4, hm5, hm6⟩
  · intro p hp
    simp only [List.mem_cons] at hp ⊢
    rcases hp with h | h | h | h <;> simp [h]
  · intro p hp
    rcases List.mem_cons.mp hp with rfl | hp
    · exact hWI.ne
    rcases List.mem_cons.mp hp with rfl | hp
    · exact hCI.ne
    exact hLI p hp
theorem news_drop {h₀ h' : Heap} {L : Addr} {a b c e f g k z : Addr × Obj} {led : List (Addr × Obj)} (N : News h₀ L h' (a :: b :: c :: e :: f :: g :: k :: z :: led)) : News h₀ L h' (a :: b :: c :: e :: f :: g :: k :: led) := fun p hp => N p (by
  simp only [List.mem_cons] at hp ⊢
  rcases hp with h | h | h | h | h | h | h | h <;> simp [h])
end
local macro_rules | `(tactic| k_all) => `(tactic| first | assumption)
section
variable {prog : Program} {w : World} {A : Around} {E : Value → Shared → Prop} {s : Shared} {h₀ : Heap} {L a b : Addr} {m : Str → Option Value} {news : List (Addr × Obj)} {n n2 : Nat} {xs : List Value} {y : Value}
theorem ne_emp {Q : Value → Shared → Prop} (N : News h₀ L s.heap news) (ha : (a, W.listOf #[] n) ∈ news) (hb : (b, W.listOf #[] n2) ∈ news) (hu : A.units < cLine) (hQ : Q (.bool false) s) :
    wpAny (model prog w) A (compareOp .NotEq (.ref a) (.ref b)) Q E s := ne_lists_same (xs := []) (ys := []) N ha hb hu .nil hQ
theorem ne_app {Q : Value → Shared → Prop} (N : News h₀ L s.heap news) (ha : (a, W.listOf (xs ++ [y]).toArray n) ∈ news) (hb : (b, W.listOf #[] n2) ∈ news) (hu : A.units < cLine) (hQ : Q (.bool true) s) :
    wpAny (model prog w) A (compareOp .NotEq (.ref a) (.ref b)) Q E s := by
  have la : s.heap.IsList a (xs ++ [y]).toArray := ⟨_, (N _ ha).1, rfl, _, rfl⟩
  have lb : s.heap.IsList b #[] := ⟨_, (N _ hb).1, rfl, _, rfl⟩
  exact SeqAt.RcNeAt.lists_lengths la lb (by simp) hu prog w E Q hQ
theorem append_ints {us : List Value} {ks : List Int} {k : Int} {t : Tok} {Q : Value → Shared → Prop} {news' : List (Addr × Obj)} (F : Fr h₀ L s.heap m) (N : News h₀ L s.heap news) (U : Upd a (W.listOf us.toArray n) (W.listOf (us ++ [Value.int k t]).toArray (n + 1)) news news') (hi : IntsAre us ks) (hz : us.length ≤ 1000)
    (h : ∀ h', Fr h₀ L h' m → News h₀ L h' news' → IntsAre (us ++ [Value.int k t]) (ks ++ [k]) → (ks ++ [k]).length = ks.length + 1 → Q .none { s with heap := h' }) : wpAny (model prog w) A (call (.builtin "list.append") [.ref a, .int k t]) Q E s := by
  have e : us.toArray.push (Value.int k t) = (us ++ [Value.int k t]).toArray := by simp
  rw [← e] at U
  exact append_K F N U (fun h' F' N' => h h' F' N' (hi.append (.cons _ _ .nil)) (by simp)) (by rw [List.size_toArray, PySem.sizeLine_eq]; omega)
theorem last_app : ∀ (xs : List Value) (y : Value), kl_last (xs ++ [y]).toArray.toList = some (xs, y) := by
  intro xs y
  rw [List.toList_toArray]
  induction xs with
  | nil => rfl
  | cons x r ih => simp only [List.cons_append, kl_last, ih]
theorem pop_app {Q : Value → Shared → Prop} {news' : List (Addr × Obj)} (F : Fr h₀ L s.heap m) (N : News h₀ L s.heap news) (U : Upd a (W.listOf (xs ++ [y]).toArray n) (W.listOf xs.toArray (n + 1)) news news') (hz : xs.length ≤ 1000)
    (h : ∀ h', Fr h₀ L h' m → News h₀ L h' news' → Q y { s with heap := h' }) : wpAny (model prog w) A (call (.builtin "list.pop") [.ref a]) Q E s :=
  kl_pop F N (last_app xs y) U (by rw [List.toList_toArray, List.length_append, PySem.sizeLine_eq]; simp; omega) h
theorem item_last {value slice : Expr} {u : Tok} {Q : Value → Shared → Prop} (N : News h₀ L s.heap news) (hm : (a, W.listOf (xs ++ [y]).toArray n) ∈ news) (hz : xs.length ≤ 1000) (h : Q y s)
    (hs : subscripted slice false (.ref a) (.int (-1) u) = operate [.ref a, .int (-1) u] (getItem (.ref a) (.int (-1) u)) := by with_unfolding_all rfl) (hg : ∀ r, letTemporaryGo value (.ref a) r = pure () := by intro _; with_unfolding_all rfl) :
    wpAny (model prog w) A (subscriptTail value slice (.ref a) (.int (-1) u)) Q E s := by
  refine kim_back N hm rfl rfl (by decide) (by rw [List.length_append]; simp; omega) (by decide) ?_ h hs hg
  rw [List.length_append, List.length_singleton]
  have e : (-1 + ((xs.length + 1 : Nat) : Int)).toNat = xs.length := by omega
  rw [e]
  simp
end
set_option maxRecDepth 100000 in
set_option maxHeartbeats 8000000 in
theorem moved_tells : ∀ (w : World) (loose : List Str) (mean : ExcName → Option Value) (mg mb : Str → Option Value) (dp un : Nat) (gd : Option (List Code)) (cn : Str) (cs : Scope) (a : Addr) (ccd : Value) (cl : List (Str × Addr)) (outer : List Env) (A₀ : Around) (base h₀ : Heap) (L : Addr) (m : Str → Option Value) (news : List (Addr × Obj)) (s : Shared)
   (x : Nat) (sh lv : Int) (t1 t2 t3 : Tok) (Q E : Value → Shared → Prop),
   Below A₀ base outer h₀ → Fr h₀ L s.heap m → (Mine.gen.heap_1 w.params).In h₀ → News h₀ L s.heap news → Top Mine.gen.view_1 loose mean mg mb h₀ → cs.kind = .function → dp + 8 < recursionLimit → un + 400 < cLine →
   (x < 2 ^ 32) →
   (1 ≤ sh) →
   (sh ≤ 4) →
   (1 ≤ lv) →
   (lv ≤ 4) →
   (MvOk x) →
   (∀ (D : Addr) (us : List Value) (c : Nat) (h' : Heap) (tk' : Nat), Fr h₀ L h' m → News h₀ L h' ((D, W.listOf us.toArray c) :: news) → LCg.Off1 D news → IntsAre us (mvF x) → Q (.ref D) { s with heap := h', toks := tk' }) →
   wpAny (model PySem.Challenge.rw_wf0054_01.row.prog w) (ktrTop dp un gd cn cs L a ccd cl outer) (call (.ref 84) [.int (x : Int) t1, .int sh t2, .int lv t3]) Q E s := by
  k_fill
  intro w loose mean mg mb dp un gd cn cs a ccd cl outer A₀ base h₀ L m news s x sh lv t1 t2 t3 Q E B F X N T hk hd hu hc0 hc1 hc2 hc3 hc4 hc5 ret
  k_with_none
  k_with "my split" => repeat (rename (Mine.Apart _ _ ∧ _) => z'; obtain ⟨_, _⟩ := z')
  k_with "my fine" => ((unfold LCg.FinE); intro D' h' tk' F' N' o1'; (simp only [Mine.off1_cons, Mine.off1_nil, and_true] at o1'); (try (simp only [List.nil_append, List.cons_append] at N')); walk_at "my split"; (try dsimp only))
  k_with "my enter" => first   | (refine' Mine.enter_plain (by k_asm) (by k_asm) (by k_asm) (by k_asm) (by exact rfl) (by exact rfl) (by assumption) (by k_is) (by k_is) (by ktr_room) (by exact BindsTo.of_eq rfl) (by exact locs rfl) ?_ (by exact rfl) (by exact rfl) (by exact rfl) (by decide); k_whole; intro L' h' F' N' B' X' T'; (try dsimp only); (try k_fold))   | (refine' Mine.enter_cells (by k_asm) (by k_asm) (by k_asm) (by k_asm) (by exact rfl) (by exact rfl) (by assumption) (by k_is) (by k_is) (by ktr_room) (by exact BindsTo.of_eq rfl) (by exact rfl) (by decide +kernel) ?_ (by exact rfl) (by exact rfl) (by exact rfl); k_whole; intro L' h' tk' cells' F' N' Y' B' X' T'; k_cells Y'; (try simp only [List.cons_append, List.nil_append] at N'); (try dsimp only); (try k_fold))
  k_with "call builtin:max" => (k_here; (with_reducible show wpAny _ _ (call (Value.builtin "max") [Value.float _ _, Value.float _ _, Value.float _ _]) _ _ _); k_dflt (refine' Mine.max_threeN (by rfl) (by k_asm) (by k_asm) ?_; k_whole); intro t' h' tk' F' N')
  k_with "call builtin:min" => (k_here; (with_reducible show wpAny _ _ (call (Value.builtin "min") [Value.float _ _, Value.float _ _, Value.float _ _]) _ _ _); k_dflt (refine' Mine.min_threeN (by rfl) (by k_asm) (by k_asm) ?_; k_whole); intro t' h' tk' F' N')
  k_with "call builtin:list.insert" => (k_here; k_dflt (refine' Mine.insert0 (by k_asm) (by k_asm) (by k_upd) (by size_fits) ?_; k_whole); intro h' F' N'; (try dsimp only))
  k_with "inplaceOp Add ref" => (k_here; (with_reducible show wpAny _ _ (inplaceOp Operator.Add (Value.ref _) (Value.ref _)) _ _ _); k_dflt (refine' Mine.iadd_list (by k_asm) (by k_asm) (by k_mem) (by k_updF) (by size_fits) ?_; k_whole); intro h' n' F' N'; (try simp only [List.append_toArray, List.cons_append, List.nil_append] at N'); (try dsimp only))
  k_with "inplaceOp Add ref ref" => walk_at "inplaceOp Add ref"
  k_with "my item" => (k_here; (with_reducible show wpAny _ _ (subscriptTail _ _ (Value.ref _) (Value.int _ _)) _ _ _); k_dflt (refine' Mine.item_ints (by k_asm) (by k_mem) (by assumption) (by omega) (by omega) (by omega) ?_; k_whole); intro t')
  k_with "my len" => (k_here; (with_reducible show wpAny _ _ (call (Value.builtin "len") [Value.ref _]) _ _ _); k_dflt (refine' kst_len (by k_asm) (by k_mem) (by exact IntsAre.length (by assumption)) (by omega) ?_; k_whole))
  k_with "my toks" => (k_here; (with_reducible refine Mine.gen_toks ?_); intro tk9' htk9')
  k_with "subscriptTail" => ((rename MyMark => hM9); refine Halt.go ?_)
  k_with "call builtin:str.join" => (k_here; k_dflt (refine' join_listW (by exact News.isList (by k_asm) (by k_mem)) (by assumption) (by decide) (by exact signs_w _) ?_); intro t' tk')
  k_with "subscriptTail" => (k_here; (with_reducible show wpAny _ _ (subscriptTail _ _ (Value.ref 51) (Value.str _ _)) _ _ _); (try rw [item_sign]); k_dflt (refine kind_item (kindTab _ _ (Frag.In.keeps (by k_asm) (Fr.keep (by k_asm))) rfl) ?_); intro t')
  k_with "subscriptTail" => (k_here; (with_reducible show wpAny _ _ (subscriptTail _ _ (Value.str (textF _) _) (Value.int (Int.fmod _ _) _)) _ _ _); k_dflt (refine item_str_fmod (by decide) (by rw [textF_len]; decide) (by rw [textF_len]; decide) ?_); intro _; (try rw [item_sign]))
  k_with "subscriptTail" => (k_here; (with_reducible show wpAny _ _ (subscriptTail _ _ (Value.ref _) (Value.int (-1) _)) _ _ _); k_dflt (refine' item_last (by k_asm) (by k_mem) (by omega) ?_; k_whole))
  k_with "call builtin:list.append" => (k_here; (with_reducible show wpAny _ _ (call (Value.builtin _) [Value.ref _, Value.int _ _]) _ _ _); k_dflt (refine' append_ints (by k_asm) (by k_asm) (by k_upd) (by assumption) (by omega) ?_; k_whole); intro h' F' N' hi' hl'; (try dsimp only))
  k_with "call builtin:list.pop" => (k_here; k_dflt (refine' pop_app (by k_asm) (by k_asm) (by k_upd) (by omega) ?_; k_whole); intro h' F' N'; (try dsimp only))
  k_with "compareOp NotEq ref ref" => (k_here; (with_reducible show wpAny _ _ (compareOp CmpOp.NotEq (Value.ref _) (Value.ref _)) _ _ _); k_dflt (first   | (refine' ne_emp (by k_asm) (by k_mem) (by k_mem) (by ktr_units) ?_; k_whole)   | (refine' ne_app (by k_asm) (by k_mem) (by k_mem) (by ktr_units) ?_; k_whole)))
  k_with "call builtin:len" => walk_at "my len"
  k_with "FinE" => walk_at "my fine"
  k_with "CompEnd" => ((rename MyMark => hM9); refine Halt.go ?_)
  k_with "eval ListComp" => (k_here; lcg_look; k_dflt (refine LCg.ListComp_U (F₀ := by k_asm) (by with_unfolding_all rfl) (by decide) (by rfl) (by decide) (by rfl) ?_); k_dflt lcg_toSrc)
  k_with "CompSrc" => (k_here; k_dflt (refine LCg.CompSrc.range (by rfl) (by k_asm) (by k_asm) (by assumption) (small_one (by omega) (by omega) (by omega) (by omega)) (rangeSize_nat _ _) (by rw [PySem.sizeLine_eq]; omega) ?_; intro g'; refine Halt.go ?_))
  k_with "exec For Name Call cons nil" => refine Halt.go ?_
  k_with "call ref" => (k_here; k_dflt (refine' Mine.balls_tells _ _ _ _ _ _ _ _ _ _ _ _ _ _ _ _ _ _ _ _ _ _ _ _ _ (by k_asm) (by k_asm) (by k_asm) (by k_asm) (by k_asm) (by first | exact rfl | assumption) (by ktr_room) (by ktr_units) (by assumption) ?_; k_whole); intro D9' us9' c9' h9' tk9' F9' N9' o9' hi9'; (try simp only [LCg.Off1, and_true] at o9'); (try dsimp only); (try k_fold))
  k_with "call ref" => (k_here; k_dflt (refine' Mine.box_tells _ _ _ _ _ _ _ _ _ _ _ _ _ _ _ _ _ _ _ _ _ _ _ _ _ _ _ _ _ (by k_asm) (by k_asm) (by k_asm) (by k_asm) (by k_asm) (by first | exact rfl | assumption) (by ktr_room) (by ktr_units) (by omega) (by omega) (by omega) (by omega) (by omega) (by omega) ?_; k_whole); intro t9' h9' tk9' F9' N9'; (try dsimp only); (try k_fold))
  w_top off
  refine wpAny_call ?_
  k_dflt (refine' Mine.enter_cells ?k1 ?k2 ?k3 ?k5 ?kA ?kF ?kK ?k6 ?k7 ?k8 ?k9 ?kB ?kD ?_ ?c2 ?c3 ?c4; (case kA => exact rfl); (case kF => exact rfl); (case kK => assumption); (case k1 => k_asm); (case k2 => k_asm); (case k3 => k_asm); (case k5 => k_asm); (case k6 => k_is); (case k7 => k_is); (case k8 => ktr_room); (case k9 => exact BindsTo.of_eq rfl); (case kB => exact rfl); (case kD => decide +kernel); (case c2 => exact rfl); (case c3 => exact rfl); (case c4 => exact rfl); k_whole)
  intro L' h' tk' cells' F' N' Y' B' X' T'
  obtain ⟨o1', hE', d1'⟩ := CellsAre.one Y'
  subst hE'
  clear Y'
  simp only [List.cons_append, List.nil_append] at N'
  (try dsimp only)
  k_fold
  refine wpAny_noRaise ?_

  have hne9 := balls_ne x
  k_steps
  unfold Halt
  refine compU_inv (fun i ys => StrsAre ys ((List.range i).map (chS x))) .nil ?_ ?_
  · rintro i ys v I oI C oC D m₂ h tk E' hlt hJ ⟨t9, rfl⟩ hC hx Fq Nq off ne2
    have h32 : i < 32 := hlt
    have mk9 := myMark
    repeat (rename (IsRange _ _ _ _ _ _ _ _) => z'; clear z')
    k_steps
    · unfold Halt
      rename (List.any _ _ = _) => q9
      rw [any_ball h32] at q9
      refine item_str_fmod (by decide) (by decide) (by decide) ?_
      intro _
      rw [item_open, sign_in q9]
      k_steps
      unfold Halt
      refine CompEnd.intro Fq Nq _ (fun _ h => h) off trivial ⟨rfl, ?_⟩
      rw [List.range_succ, List.map_append]
      exact hJ.append' (.cons _ _ .nil)
    · unfold Halt
      rename (List.any _ _ = _) => q9
      rw [any_ball h32] at q9
      refine item_str_fmod (by decide) (by decide) (by decide) ?_
      intro _
      rw [item_shut, sign_out q9]
      k_steps
      unfold Halt
      refine CompEnd.intro Fq Nq _ (fun _ h => h) off trivial ⟨rfl, ?_⟩
      rw [List.range_succ, List.map_append]
      exact hJ.append' (.cons _ _ .nil)
  · intro ys hys
    have hys' : StrsAre ys ((List.range 32).map (chS x)) := hys
    clear hys
    repeat (rename (IsRange _ _ _ _ _ _ _ _) => z'; clear z')
    have hl9 : ys.length = 32 := by rw [hys'.length, List.length_map, List.length_range]
    k_steps
    unfold Halt
    refine For_R ?_
    k_steps
    (rename Fr _ _ _ _ => F1); (rename News _ _ _ _ => N1); (rename IsRange _ _ _ _ _ _ _ _ => R1)
    refine loopR_range (n := 64) (MvJ x sh lv) rfl rfl rfl PassesOwn.never R1 (by decide) rfl F1 (news_mv N1) ?_ ?_ ?_
    · refine ⟨_, _, [], [], 0, 0, [], _, _, _, _, rfl, .nil, .nil, ?_, List.forall_mem_nil _, List.forall_mem_nil _, rfl, rfl, rfl, rfl, rfl, rfl⟩
      show @Ne Nat _ _
      omega
    · clear F1 N1 R1
      repeat (rename (_ < _ ∧ _) => z'; clear z')
      repeat (rename (Apart _ _) => z'; clear z')
      clear hys' hl9 hne9
      rintro i t9 m₁ nx h tk I oI hi ⟨Wa, C, ws, us, c1, c2, led, t1, t2, t3, t4, rfl, hs, hu2, hWC, hW, hC, hm1, hm2, hm3, hm4, hm5, hm6⟩ ha F2 N2
      have F3 := Fr_knownL [(Str.ofString "waiting", .ref Wa), (Str.ofString "counts", .ref C), (Str.ofString "moved", .int (mvRun x i).mv t1), (Str.ofString "text", .str (textF x) t2), (Str.ofString "share", .int sh t3), (Str.ofString "level", .int lv t4)] F2 (all6 hm1 hm2 hm3 hm4 hm5 hm6)
      clear F2
      have h64 : i < 64 := hi
      clear hi
      have hWI : Apart Wa I := ha _ (.head _)
      have hCI : Apart C I := ha _ (.tail _ (.head _))
      have hLI : ∀ p ∈ led, p.1 ≠ I := fun p hp => ha p (.tail _ (.tail _ hp))
      clear ha
      have hb9 := mv_run_b x i
      have hl1 : ws.length ≤ 64 := by rw [hs.len]; exact Nat.le_trans hb9.st (Nat.le_of_lt h64)
      have hl2 : us.length ≤ 64 := by rw [hu2.length]; exact Nat.le_trans hb9.cs (Nat.le_of_lt h64)
      have hl3 : (mvRun x i).cs.length ≤ 64 := Nat.le_trans hb9.cs (Nat.le_of_lt h64)
      generalize hR : (mvRun x i) = σ at *
      obtain ⟨st, ks, mv⟩ := σ
      (try dsimp only at *)
      cases hb : x.testBit (i % 32) with
      | true =>
        have hk9 := kindF_on hb
        k_steps
        (rename Fr _ _ _ _ => F9); (rename News _ _ _ _ => N9)
        exact end_on hb hR F9 N9 (by assumption) hs hu2 hWC hW hC hLI hWI hCI rfl rfl rfl rfl rfl rfl
      | false =>
        obtain ⟨hk9, hk8⟩ := kindF_off hb
        cases hs with
        | nil =>
          k_steps
          (rename Fr _ _ _ _ => F9); (rename News _ _ _ _ => N9)
          exact end_keep (by rw [mv_nil hb (by rw [hR]), hR]) F9 N9 .nil hu2 hWC hW hC hLI hWI hCI rfl rfl rfl rfl rfl rfl
        | cons hs hA =>
          rename_i a1 s1 n1 k1 u1 u2 st ws led
          have hla : ws.length ≤ 64 := by rw [List.length_append] at hl1; omega
          have hok : s1 < 32 → n1 ≤ ks.length := by
            have := hc5 i s1 n1 st h64 hb (by rw [hR])
            rw [hR] at this
            exact this
          have hA1 : Apart a1 Wa := hW _ (.head _)
          have hA2 : Apart a1 C := hC _ (.head _)
          have hA3 : Apart a1 I := hLI _ (.head _)
          have hW' : ∀ p ∈ led, p.1 ≠ Wa := fun p hp => hW p (.tail _ hp)
          have hC' : ∀ p ∈ led, p.1 ≠ C := fun p hp => hC p (.tail _ hp)
          have hLI' : ∀ p ∈ led, p.1 ≠ I := fun p hp => hLI p (.tail _ hp)
          clear hW hC hLI
          cases hs with
          | nil =>
            k_steps
            · (rename Fr _ _ _ _ => F9); (rename News _ _ _ _ => N9)
              exact end_keep (mv_popA hb hR (by assumption) (by assumption)) F9 (news_drop N9) .nil (by assumption) hWC hW' hC' hLI' hWI hCI rfl rfl rfl rfl rfl rfl
            · (rename Fr _ _ _ _ => F9); (rename News _ _ _ _ => N9)
              exact end_keep (mv_popB hb hR (by assumption) (by assumption)) F9 (news_drop N9) .nil (by assumption) hWC hW' hC' hLI' hWI hCI rfl rfl rfl rfl rfl rfl
            · (rename Fr _ _ _ _ => F9); (rename News _ _ _ _ => N9)
              exact end_keep (mv_popC hb hR (by assumption)) F9 (news_drop N9) .nil hu2 hWC hW' hC' hLI' hWI hCI rfl rfl rfl rfl rfl rfl
          | cons hs2 hA2' =>
            rename_i a2 s2 n2 k2 u3 u4 st ws led
            have hlb : ws.length ≤ 64 := by rw [List.length_append] at hla; omega
            have hB1 : Apart a2 Wa := hW' _ (.head _)
            have hB2 : Apart a2 C := hC' _ (.head _)
            have hB3 : Apart a2 I := hLI' _ (.head _)
            have hB4 : Apart a2 a1 := hA _ (.head _)
            have hA' : ∀ p ∈ led, p.1 ≠ a1 := fun p hp => hA p (.tail _ hp)
            clear hA
            have hW'' : ∀ p ∈ led, p.1 ≠ Wa := fun p hp => hW' p (.tail _ hp)
            have hC'' : ∀ p ∈ led, p.1 ≠ C := fun p hp => hC' p (.tail _ hp)
            have hLI'' : ∀ p ∈ led, p.1 ≠ I := fun p hp => hLI' p (.tail _ hp)
            clear hW' hC' hLI'
            k_steps
            · (rename Fr _ _ _ _ => F9); (rename News _ _ _ _ => N9)
              exact end_keep (mv_popA hb hR (by assumption) (by assumption)) F9 (news_drop N9) (stk_bump hs2 hA2') (by assumption) hWC (all_cons hB1 hW'') (all_cons hB2 hC'') (all_cons hB3 hLI'') hWI hCI rfl rfl rfl rfl rfl rfl
            · (rename Fr _ _ _ _ => F9); (rename News _ _ _ _ => N9)
              exact end_keep (mv_popB hb hR (by assumption) (by assumption)) F9 (news_drop N9) (stk_bump hs2 hA2') (by assumption) hWC (all_cons hB1 hW'') (all_cons hB2 hC'') (all_cons hB3 hLI'') hWI hCI rfl rfl rfl rfl rfl rfl
            · (rename Fr _ _ _ _ => F9); (rename News _ _ _ _ => N9)
              exact end_keep (mv_popC hb hR (by assumption)) F9 (news_drop N9) (stk_bump hs2 hA2') hu2 hWC (all_cons hB1 hW'') (all_cons hB2 hC'') (all_cons hB3 hLI'') hWI hCI rfl rfl rfl rfl rfl rfl
    · clear F1 N1 R1
      repeat (rename (_ < _ ∧ _) => z'; clear z')
      repeat (rename (Apart _ _) => z'; clear z')
      clear hys' hl9 hne9
      rintro m₁ nx h tk ⟨Wa, C, ws, us, c1, c2, led, t1, t2, t3, t4, rfl, hs, hu2, hWC, hW, hC, hm1, hm2, hm3, hm4, hm5, hm6⟩ F2 N2
      have F3 := Fr_knownL [(Str.ofString "counts", .ref C), (Str.ofString "moved", .int (mvRun x 64).mv t1)] F2 (all2 hm2 hm3)
      clear F2
      have hb9 := mv_run_b x 64
      have hl2 : us.length ≤ 64 := by rw [hu2.length]; exact hb9.cs
      k_steps
      (rename Fr _ _ _ _ => F9); (rename News _ _ _ _ => N9)
      obtain ⟨G1, G2, G3⟩ := home1 F N F9 N9 _ _ (.head _)
      have hr9 : IntsAre ([Value.int (mvRun x 64).mv t1] ++ us) (mvF x) := IntsAre.cons _ _ hu2
      exact ret _ _ 0 _ _ G1 G2 G3 hr9
end Mine
namespace Mine
open PySem PySem.W PyProof.Rows PySem.Calls
namespace Ring
noncomputable def ini : MS := ⟨[], [], 0⟩
noncomputable def bitsTo (x k : Nat) : List Bool := (List.range k).map fun j => x.testBit (j % 32)
theorem bitsTo_len (x k : Nat) : (bitsTo x k).length = k := by unfold bitsTo; rw [List.length_map, List.length_range]
theorem mvRun_B (x : Nat) : ∀ k, mvRun x k = mrun 0 ini (bitsTo x k)
  | 0 => rfl
  | k + 1 => by
    have e : bitsTo x (k + 1) = bitsTo x k ++ [x.testBit (k % 32)] := by unfold bitsTo; rw [List.range_succ, List.map_append]; rfl
    rw [e, mrun_app, ← mvRun_B x k, bitsTo_len, Nat.zero_add]
    rfl
theorem bitsTo_two (x : Nat) : bitsTo x 64 = bitsN x ++ bitsN x := by
  have a1 : (List.range 32).map (fun j => x.testBit (j % 32)) = (List.range 32).map x.testBit :=
    List.map_congr_left fun j hj => by rw [Nat.mod_eq_of_lt (List.mem_range.mp hj)]
  have a2 : (List.range 32).map ((fun j => x.testBit (j % 32)) ∘ fun j => 32 + j) = (List.range 32).map x.testBit :=
    List.map_congr_left fun j hj => by
      have := List.mem_range.mp hj
      show x.testBit ((32 + j) % 32) = x.testBit j
      rw [show (32 + j) % 32 = j by omega]
  unfold bitsTo bitsN
  rw [show (64 : Nat) = 32 + 32 from rfl, List.range_add, List.map_append, List.map_map, a1, a2]
theorem bitsN_get (x j : Nat) (h : j < (bitsN x).length) : (bitsN x)[j] = x.testBit j := by
  simp [bitsN]
theorem bitsTo_cut (x : Nat) {k : Nat} (h : k < 64) : ∃ r, bitsTo x 64 = bitsTo x k ++ x.testBit (k % 32) :: r := by
  unfold bitsTo
  obtain ⟨m, hm⟩ : ∃ m, 64 = k + (m + 1) := ⟨63 - k, by omega⟩
  refine ⟨((List.range m).map fun j => k + (j + 1)).map fun j => x.testBit (j % 32), ?_⟩
  rw [hm, List.range_add, List.map_append, List.range_succ_eq_map, List.map_cons, List.map_map, List.map_cons]
  rfl
theorem mvOk_of {x : Nat} (h : okRun 0 ini (bitsN x ++ bitsN x)) : MvOk x := by
  intro k s i r hk hb hs h32
  rw [← bitsTo_two] at h
  obtain ⟨t, ht⟩ := bitsTo_cut x hk
  rw [ht, okRun_app, ← mvRun_B] at h
  exact h.2.1 hb s i r hs h32
/-- the cart -/
theorem cart_step (x i held : Nat) (laid : Int) : cartStep (x : Int) (laid, (held : Int), ()) (0 + ((i : Nat) : Int) * 1) =
    if x.testBit (i % 32) = true then (laid, ((held + 1 : Nat) : Int), ())
    else if 0 < held then (if 31 < i then (laid + 2 ^ (i - 32), ((held - 1 : Nat) : Int), ()) else (laid, ((held - 1 : Nat) : Int), ()))
    else (laid, (held : Int), ()) := by
  unfold cartStep
  have e0 : (0 : Int) + (i : Int) * 1 = (i : Int) := by omega
  have e1 : ((i : Int).fmod 32).toNat = i % 32 := by
    have : (i : Int).fmod 32 = ((i % 32 : Nat) : Int) := (Int.ofNat_fmod i 32).symm
    rw [this]; rfl
  rw [e0, e1, bit_at]
  by_cases hb : x.testBit (i % 32) = true
  · rw [hb]; simp [b2i]
  · rw [if_neg hb]
    have : x.testBit (i % 32) = false := by simpa using hb
    rw [this]
    simp only [b2i, Bool.false_eq_true, if_false, bne_self_eq_false]
    by_cases hh : 0 < held
    · rw [if_pos hh, if_pos (by omega)]
      by_cases hi : 31 < i
      · rw [if_pos hi, if_pos (by omega)]
        have e2 : ((i : Int) - 32).toNat = i - 32 := by omega
        have e3 : (held : Int) - 1 = ((held - 1 : Nat) : Int) := by omega
        rw [e2, e3]
      · rw [if_neg hi, if_neg (by omega)]
        have e3 : (held : Int) - 1 = ((held - 1 : Nat) : Int) := by omega
        rw [e3]
    · rw [if_neg hh, if_neg (by omega)]
theorem cart_fold (x : Nat) : ∀ (l : List Bool) (k held : Nat) (laid : Int), (∀ j (h : j < l.length), l[j] = x.testBit ((k + j) % 32)) →
    (k + l.length ≤ 32 → List.foldl (cartStep (x : Int)) (laid, (held : Int), ()) ((List.range' k l.length).map fun i : Nat => (0 : Int) + (i : Int) * 1) = (laid, ((run held l : Nat) : Int), ())) ∧
    (32 ≤ k → List.foldl (cartStep (x : Int)) (laid, (held : Int), ()) ((List.range' k l.length).map fun i : Nat => (0 : Int) + (i : Int) * 1) = (laid + val (k - 32) (car held l), ((run held l : Nat) : Int), ())) := by
  intro l
  induction l with
  | nil => intro k held laid _; exact ⟨fun _ => rfl, fun _ => by simp [car, run, val]⟩
  | cons b l ih =>
    intro k held laid hb
    have hb0 : b = x.testBit (k % 32) := hb 0 (Nat.succ_pos _)
    have hb' : ∀ j (h : j < l.length), l[j] = x.testBit ((k + 1 + j) % 32) := fun j hj => by
      have := hb (j + 1) (Nat.succ_lt_succ hj)
      rw [show k + (j + 1) = k + 1 + j by omega] at this
      exact this
    rw [List.length_cons, List.range'_succ, List.map_cons, List.foldl_cons, cart_step, ← hb0]
    cases b with
    | true =>
      simp only [if_true]
      obtain ⟨h1, h2⟩ := ih (k + 1) (held + 1) laid hb'
      refine ⟨fun hk => ?_, fun hk => ?_⟩
      · rw [h1 (by omega)]; rfl
      · rw [h2 (by omega)]
        show _ = (laid + (_ + val (k - 32 + 1) (car (held + 1) l)), _, ())
        rw [show k + 1 - 32 = k - 32 + 1 by omega]
        simp [run]
    | false =>
      simp only [Bool.false_eq_true, if_false]
      cases held with
      | zero =>
        simp only [Nat.lt_irrefl, if_false]
        obtain ⟨h1, h2⟩ := ih (k + 1) 0 laid hb'
        refine ⟨fun hk => ?_, fun hk => ?_⟩
        · rw [h1 (by omega)]; rfl
        · rw [h2 (by omega)]
          show _ = (laid + (_ + val (k - 32 + 1) (car 0 l)), _, ())
          rw [show k + 1 - 32 = k - 32 + 1 by omega]
          simp [run]
      | succ held =>
        simp only [Nat.succ_pos, if_true, Nat.add_sub_cancel]
        refine ⟨fun hk => ?_, fun hk => ?_⟩
        · rw [if_neg (by omega), (ih (k + 1) held laid hb').1 (by omega)]; rfl
        · rw [if_pos (by omega), (ih (k + 1) held (laid + 2 ^ (k - 32)) hb').2 (by omega)]
          show _ = (laid + (_ + val (k - 32 + 1) (car held l)), _, ())
          rw [show k + 1 - 32 = k - 32 + 1 by omega]
          simp [run]; omega
theorem cartF_B (x : Nat) : cartF (x : Int) = val 0 (car (run 0 (bitsN x)) (bitsN x)) := by
  have hg : ∀ (k : Nat), (k = 0 ∨ k = 32) → ∀ j (h : j < (bitsN x).length), (bitsN x)[j] = x.testBit ((k + j) % 32) := by
    intro k hk j h
    have h' : j < 32 := by rw [bitsN_len] at h; exact h
    rw [bitsN_get]
    rcases hk with rfl | rfl
    · rw [show (0 + j) % 32 = j by omega]
    · rw [show (32 + j) % 32 = j by omega]
  unfold cartF rangeInts
  show (List.foldl (cartStep (x : Int)) (0, 0, ()) ((List.range 64).map fun i : Nat => (0 : Int) + (i : Int) * 1)).fst = _
  have e : List.range 64 = List.range' 0 32 ++ List.range' 32 32 := by rw [List.range_eq_range']; rfl
  rw [e, List.map_append, List.foldl_append]
  have h1 := (cart_fold x (bitsN x) 0 0 0 (hg 0 (.inl rfl))).1 (by rw [bitsN_len]; decide)
  rw [bitsN_len] at h1
  have h2 := (cart_fold x (bitsN x) 32 (run 0 (bitsN x)) 0 (hg 32 (.inr rfl))).2 (Nat.le_refl _)
  rw [bitsN_len] at h2
  have z : ((0 : Nat) : Int) = 0 := rfl
  rw [z] at h1
  rw [h1, h2]
  show (0 : Int) + val 0 _ = _
  omega
noncomputable def nval : List Bool → Nat
  | [] => 0
  | b :: r => (if b then 1 else 0) + 2 * nval r
theorem val_nval : ∀ (l : List Bool) (p : Nat), val p l = ((2 ^ p * nval l : Nat) : Int)
  | [], p => by simp [val, nval]
  | b :: r, p => by
    unfold val nval
    rw [val_nval r (p + 1)]
    have e : ((2 : Int) ^ p) = ((2 ^ p : Nat) : Int) := by push_cast; rfl
    cases b
    · simp only [Bool.false_eq_true, if_false, Int.zero_add, Nat.zero_add]
      rw [Nat.pow_succ, Nat.mul_assoc]
    · simp only [if_true]
      rw [e, Nat.mul_add, Nat.mul_one, Nat.pow_succ, Nat.mul_assoc]
      push_cast
      rfl
theorem nval_lt : ∀ l : List Bool, nval l < 2 ^ l.length
  | [] => Nat.one_pos
  | b :: r => by
    have := nval_lt r
    unfold nval
    rw [List.length_cons, Nat.pow_succ]
    cases b <;> simp <;> omega
theorem nval_bit : ∀ (l : List Bool) (i : Nat), (nval l).testBit i = l.getD i false
  | [], i => by show (0 : Nat).testBit i = _; rw [Nat.zero_testBit]; rfl
  | b :: r, 0 => by
    rw [Nat.testBit_zero]
    unfold nval
    cases b <;> simp <;> omega
  | b :: r, i + 1 => by
    rw [Nat.testBit_succ]
    have : nval (b :: r) / 2 = nval r := by
      have e : nval (b :: r) = (if b then 1 else 0) + 2 * nval r := rfl
      rw [e]
      cases b <;> simp <;> omega
    rw [this, nval_bit r i]
    rfl
theorem bits_nval {l : List Bool} (h : l.length = 32) : bitsN (nval l) = l := by
  apply List.ext_getElem
  · rw [bitsN_len, h]
  · intro i h1 h2
    rw [bitsN_get, nval_bit, List.getD_eq_getElem?_getD, List.getElem?_eq_getElem h2]
    rfl
end Ring
/-- what a stroke does -/
theorem law_step {x : Nat} (hp : (ringOf (x : Int)).sum ≤ 16) :
    ∃ y : Nat, y < 2 ^ 32 ∧ cartF (x : Int) = (y : Int) ∧ mvF x = (y : Int) :: solF (x : Int) ∧ MvOk x ∧ solF (y : Int) = solF (x : Int) ∧ (ringOf (y : Int)).sum ≤ 16 := by
  rw [Ring.ringOf_B, Ring.sum_B] at hp
  have hl := Ring.bitsN_len x
  obtain ⟨h1, h2, h3, h4, h5⟩ := Ring.step hl (by omega)
  generalize hc : Ring.car (Ring.run 0 (Ring.bitsN x)) (Ring.bitsN x) = c at *
  have hcl : c.length = 32 := by rw [← hc, Ring.car_len, hl]
  have e1 : cartF (x : Int) = (Ring.nval c : Nat) := by
    rw [Ring.cartF_B, hc, Ring.val_nval]; simp
  refine ⟨Ring.nval c, hcl ▸ Ring.nval_lt c, e1, ?_, Ring.mvOk_of h1, ?_, ?_⟩
  · unfold mvF
    rw [Ring.mvRun_B, Ring.bitsTo_two, Ring.solF_B]
    show (Ring.mrun 0 ⟨[], [], 0⟩ _).mv :: (Ring.mrun 0 ⟨[], [], 0⟩ _).cs = _
    rw [h2, h3, Ring.val_nval]
    simp
  · rw [Ring.solF_B, Ring.solF_B, Ring.bits_nval hcl, h4]
  · rw [Ring.ringOf_B, Ring.sum_B, Ring.bits_nval hcl]
    omega
theorem sol_small : ∀ (f : Nat) (r : List Int), SolOk r f → (solRun f r).length ≤ f ∧ ∀ c ∈ solRun f r, 0 ≤ c ∧ c ≤ 32
  | 0, _, _ => ⟨Nat.le_refl _, fun c hc => by cases hc⟩
  | f + 1, r, h => by
    unfold solRun
    by_cases q : r.any (fun x => x == 1) = true
    · rw [if_pos q]
      obtain ⟨a, b⟩ := sol_small f (ringNext r) (sol_next h q)
      refine ⟨Nat.succ_le_succ a, fun c hc => ?_⟩
      rcases List.mem_cons.mp hc with rfl | hc
      · have := falls_le r
        have := h.le
        omega
      · exact b c hc
    · rw [if_neg q]
      exact ⟨Nat.zero_le _, fun c hc => by cases hc⟩
theorem solF_small {x : Nat} (hx : x < 2 ^ 32) (hp : (ringOf (x : Int)).sum ≤ 16) : (solF (x : Int)).length ≤ 33 ∧ ∀ c ∈ solF (x : Int), 0 ≤ c ∧ c ≤ 32 :=
  sol_small 33 _ (sol_start (by omega) (by omega) hp)
end Mine
namespace Mine
open PySem PySem.W PyProof.Rows PySem.Calls
theorem or_nat (a b : Nat) : Builtin.bitOr (a : Int) (b : Int) = ((a ||| b : Nat) : Int) := by
  have n1 : ∀ x : Int, Builtin.bitNot (Builtin.bitNot x) = x := by intro x; unfold Builtin.bitNot; omega
  have n2 : ∀ a : Nat, decide (0 ≤ Builtin.bitNot (a : Int)) = false := by intro a; unfold Builtin.bitNot; exact decide_eq_false (by omega)
  unfold Builtin.bitOr Builtin.bitAnd
  rw [n2, n2]
  simp only [n1, Int.toNat_natCast]
theorem and_nat (a b : Nat) : Builtin.bitAnd (a : Int) (b : Int) = ((a &&& b : Nat) : Int) := rfl
theorem and63 (a : Nat) : Builtin.bitAnd (a : Int) 63 = ((a % 64 : Nat) : Int) := by
  have := and_nat a 63
  rw [show (63 : Nat) = 2 ^ 6 - 1 from rfl, Nat.and_two_pow_sub_one_eq_mod] at this
  exact this
theorem and_64 (a : Nat) : a &&& 64 = if a.testBit 6 then 64 else 0 := by
  apply Nat.eq_of_testBit_eq
  intro j
  rw [Nat.testBit_and]
  by_cases h1 : 6 = j
  · subst h1
    have k : Nat.testBit 64 6 = true := by decide
    rw [k]
    cases a.testBit 6
    · rfl
    · exact k.symm
  · have k : Nat.testBit 64 j = false := by
      rw [show (64 : Nat) = 2 ^ 6 from rfl, Nat.testBit_two_pow]
      exact decide_eq_false h1
    rw [k, Bool.and_false]
    cases a.testBit 6
    · exact (Nat.zero_testBit j).symm
    · exact k.symm
theorem and64_off {a : Nat} (h : a < 64) : Builtin.bitAnd (a : Int) 64 = 0 := by
  have e : (a &&& 64 : Nat) = 0 := by
    rw [and_64]
    have hb : a.testBit 6 = false := Nat.testBit_lt_two_pow (by omega)
    rw [hb]; rfl
  have := and_nat a 64
  rw [e] at this
  exact this
theorem and64_on {a : Nat} (h : a < 64) : Builtin.bitAnd ((64 + a : Nat) : Int) 64 ≠ 0 := by
  have e : ((64 + a) &&& 64 : Nat) = 64 := by
    rw [and_64]
    have hb : (64 + a).testBit 6 = true := by
      rw [Nat.testBit_eq_decide_div_mod_eq]
      exact decide_eq_true (by omega)
    rw [hb]; rfl
  have := and_nat (64 + a) 64
  rw [e] at this
  rw [show (64 : Int) = ((64 : Nat) : Int) from rfl, this]
  decide
theorem or_low (q m : Nat) (h : m < 64) : Builtin.bitOr ((q : Int) * 2 ^ (6 : Int).toNat) (m : Int) = ((q * 64 + m : Nat) : Int) := by
  have e1 : (q : Int) * 2 ^ (6 : Int).toNat = ((q * 64 : Nat) : Int) := by push_cast; rfl
  rw [e1, or_nat]
  congr 1
  have := Nat.shiftLeft_add_eq_or_of_lt (b := m) (i := 6) (by omega) q
  rw [Nat.shiftLeft_eq] at this
  exact this.symm
noncomputable def RdOne (l : List Int) (n : Int) (tl : List Int) : Prop := ∃ b zs, l = b :: zs ∧ VRun (Builtin.bitAnd b 63) b zs n tl
theorem octHi_nat (x : Nat) : octHi (x : Int) = if x ≤ 63 then [] else octHi ((x / 64 : Nat) : Int) ++ [((64 + x / 64 % 64 : Nat) : Int)] := by
  rw [octHi]
  by_cases h : x ≤ 63
  · rw [dif_pos (by omega), if_pos h]
  · rw [dif_neg (by omega), if_neg h]
    have e1 : (x : Int).fdiv 64 = ((x / 64 : Nat) : Int) := (Int.ofNat_fdiv x 64).symm
    have e2 : ((x / 64 : Nat) : Int).fmod 64 = ((x / 64 % 64 : Nat) : Int) := (Int.ofNat_fmod (x / 64) 64).symm
    rw [e1, e2]
    push_cast
    rfl
theorem bits_small {v : Nat} (h : v < 2 ^ 32) : (Builtin.Int.intBits (v : Int) : Int) + 6 ≤ 2 ^ 27 := by
  have : Builtin.Int.intBits (v : Int) ≤ 32 := PySem.intBits_le_iff.mpr (by simpa using h)
  omega
theorem oct_run : ∀ (x : Nat), x < 2 ^ 32 → ∀ (c : Nat) (zs : List Int) (n : Int) (tl : List Int), c % 64 = x % 64 → VRun (x : Int) (c : Int) zs n tl → RdOne (octHi (x : Int) ++ (c : Int) :: zs) n tl := by
  intro x
  induction x using Nat.strongRecOn with
  | _ x ih =>
    intro hx c zs n tl hc hr
    rw [octHi_nat]
    by_cases h : x ≤ 63
    · rw [if_pos h]
      refine ⟨_, _, rfl, ?_⟩
      rw [and63, hc, Nat.mod_eq_of_lt (by omega)]
      exact hr
    · rw [if_neg h, List.append_assoc]
      refine ih (x / 64) (by omega) (by omega) (64 + x / 64 % 64) ((c : Int) :: zs) n tl (by omega) ?_
      refine VRun.more (and64_on (Nat.mod_lt _ (by decide))) (bits_small (by omega)) ?_
      rw [and63, hc, or_low _ _ (Nat.mod_lt _ (by decide)), show x / 64 * 64 + x % 64 = x by omega]
      exact hr
theorem oct_one {x : Nat} (hx : x < 2 ^ 32) (zs : List Int) : RdOne (octF (x : Int) ++ zs) (x : Int) zs := by
  unfold octF
  have e : (x : Int).fmod 64 = ((x % 64 : Nat) : Int) := (Int.ofNat_fmod x 64).symm
  rw [List.append_assoc, e]
  exact oct_run x hx (x % 64) zs _ _ (by omega) (.done (and64_off (Nat.mod_lt _ (by decide))))
theorem rd_oct {f : Int} (h0 : 0 ≤ f) (h1 : f < 2 ^ 32) {zs out : List Int} (h : RdRun zs out) : RdRun (octF f ++ zs) (f :: out) := by
  obtain ⟨x, rfl⟩ := Int.eq_ofNat_of_zero_le h0
  obtain ⟨b, t, e, hv⟩ := oct_one (x := x) (by omega) zs
  rw [e]
  exact .cons hv h
/-- figures written in octets -/
noncomputable def octL : List Int → List Int
  | [] => []
  | f :: r => octF f ++ octL r
theorem octL_app (a b : List Int) : octL (a ++ b) = octL a ++ octL b := by
  induction a with
  | nil => rfl
  | cons f r ih => simp [octL, ih]
theorem rd_all : ∀ (l : List Int), (∀ f ∈ l, 0 ≤ f ∧ f < 2 ^ 32) → RdRun (octL l) l
  | [], _ => .nil
  | f :: r, h => rd_oct (h f (.head _)).1 (h f (.head _)).2 (rd_all r fun g hg => h g (.tail _ hg))
theorem octF_len {f : Int} (h0 : 0 ≤ f) (h1 : f < 2 ^ 32) : (octF f).length ≤ 20 := (oct_start h0 h1).le
theorem octL_len : ∀ (l : List Int), (∀ f ∈ l, 0 ≤ f ∧ f < 2 ^ 32) → (octL l).length ≤ 20 * l.length
  | [], _ => Nat.le_refl _
  | f :: r, h => by
    have h1 := octF_len (h f (.head _)).1 (h f (.head _)).2
    have h2 := octL_len r fun g hg => h g (.tail _ hg)
    unfold octL
    rw [List.length_append, List.length_cons]
    omega
end Mine
namespace Mine
open PySem PySem.W PyProof.Rows PySem.Calls PyProof.Rows.LCg PyProof.Rows.LCt

section
variable {prog : Program} {w : World} {A : Around} {E : Value → Shared → Prop} {s : Shared} {h₀ : Heap} {L l : Addr} {m : Str → Option Value} {news : List (Addr × Obj)}
theorem ints_each : ∀ {vs : List Value} {ns : List Int}, IntsAre vs ns → ∀ v ∈ vs, ∃ i t, v = .int i t
  | _, _, .nil, _, h => by cases h
  | _, _, .cons i t r, _, .head _ => ⟨_, _, rfl⟩
  | _, _, .cons i t r, _, .tail _ h => ints_each r _ h
theorem pick_ints {ws : List Value} {ks : List Int} {lo hi st : Option Int} (h : IntsAre ws ks) : ∃ ns, IntsAre (slicePick ws.toArray lo hi st).toList ns := by
  refine ⟨_, intsAre_ofList _ fun v hv => ?_⟩
  unfold slicePick at hv
  rw [List.toList_toArray] at hv
  obtain ⟨i, _, hi⟩ := List.mem_filterMap.mp hv
  have : v ∈ ws := by
    have := Array.mem_of_getElem? hi
    simpa using this
  exact ints_each h v this
theorem sum_pick {ws : List Value} {ks : List Int} {lo hi st : Option Int} {Q : Value → Shared → Prop} (hh : A.handled = none) (F : Fr h₀ L s.heap m) (N : News h₀ L s.heap ((l, ({ cls := .type "list", data := .seq (slicePick ws.toArray lo hi st) } : Obj)) :: news)) (hI : IntsAre ws ks)
    (h : ∀ S h' tk t', Fr h₀ L h' m → News h₀ L h' news → Q (.int S t') { s with heap := h', toks := tk }) : wpAny (model prog w) A (call (.builtin "sum") [.ref l]) Q E s := by
  obtain ⟨ns, hn⟩ := pick_ints (lo := lo) (hi := hi) (st := st) hI
  have hl : s.heap.IsList l (slicePick ws.toArray lo hi st).toList.toArray := by
    rw [Array.toArray_toList]
    exact ⟨_, (N _ (.head _)).1, rfl, _, rfl⟩
  exact sumK hh F (fun p hp => N p (.tail _ hp)) hl hn fun h' tk t' F' N' => h _ h' tk t' F' N'
theorem mod_nat {a b : Int} {t u : Tok} {Q : Value → Shared → Prop} (hb : 0 < b) (h : ∀ x : Nat, (x : Int) < b → Q (.int (x : Int) s.toks) { s with toks := s.toks + 1 }) : wpAny (model prog w) A (binaryOp .Mod (.int a t) (.int b u)) Q E s := by
  refine mod_int' (by omega) ?_
  have h0 := Int.fmod_nonneg_of_pos a hb
  have h1 := Int.fmod_lt_of_pos a hb
  obtain ⟨x, hx⟩ := Int.eq_ofNat_of_zero_le h0
  rw [hx] at h1 ⊢
  exact h x h1
theorem div_nat {z : Nat} {t u : Tok} {Q : Value → Shared → Prop} (hz : (z : Int) < 16) (h : Q (.int ((z / 4 : Nat) : Int) s.toks) { s with toks := s.toks + 1 }) : wpAny (model prog w) A (binaryOp .FloorDiv (.int (z : Int) t) (.int 4 u)) Q E s := by
  have e : (z : Int).fdiv 4 = ((z / 4 : Nat) : Int) := (Int.ofNat_fdiv z 4).symm
  exact floordiv_int (by decide) (by rw [e]; exact h) (Or.inl (PyProof.noPylong_small (by omega)))
theorem ring_comp {x : Nat} (hx : x < 2 ^ 32) : (ringOf (x : Int)).sum + (ringOf ((2 ^ 32 - (x + 1) : Nat) : Int)).sum = 32 := by
  have key : ∀ b : List Bool, Ring.ones b + Ring.ones (Ring.neg b) = b.length := by
    intro b
    induction b with
    | nil => rfl
    | cons y r ih =>
      show _ + Ring.ones ((!y) :: Ring.neg r) = r.length + 1
      rw [← ih]
      cases y <;> simp [Ring.ones] <;> omega
  have e : Ring.bitsN (2 ^ 32 - (x + 1)) = Ring.neg (Ring.bitsN x) := by
    unfold Ring.bitsN Ring.neg
    rw [List.map_map]
    refine List.map_congr_left fun k hk => ?_
    have hk' := List.mem_range.mp hk
    show (2 ^ 32 - (x + 1)).testBit k = !(x.testBit k)
    rw [Nat.testBit_two_pow_sub_succ hx, decide_eq_true hk']
    rfl
  rw [Ring.ringOf_B, Ring.ringOf_B, Ring.sum_B, Ring.sum_B, e]
  have := key (Ring.bitsN x)
  rw [Ring.bitsN_len] at this
  omega
noncomputable def LawJ (sl : List Int) (c : Addr) (i : Nat) (m : Str → Option Value) (nx : List (Addr × Obj)) : Prop :=
  ∃ (O D S : Addr) (os ds ss : List Value) (c1 c2 c3 : Nat) (oN : Obj) (y z : Nat) (acc : List Int) (t1 t2 t3 : Tok),
    nx = [(O, W.listOf os.toArray c1), (D, W.listOf ds.toArray c2), (S, W.listOf ss.toArray c3), (c, oN)] ∧ oN.data = .cell (some (.int (y : Int) t1)) ∧ IntsAre os (octL acc) ∧ IntsAre ds acc ∧ IntsAre ss sl ∧
    y < 2 ^ 32 ∧ (ringOf (y : Int)).sum ≤ 16 ∧ solF (y : Int) = sl ∧ (∀ f ∈ acc, 0 ≤ f ∧ f < 2 ^ 32) ∧ acc.length ≤ 34 * i ∧ (Apart O D ∧ Apart O S ∧ Apart O c ∧ Apart D S ∧ Apart D c ∧ Apart S c) ∧
    m (Str.ofString "octets") = some (.ref O) ∧ m (Str.ofString "due") = some (.ref D) ∧ m (Str.ofString "solitons") = some (.ref S) ∧ m (Str.ofString "cart") = some (.int (y : Int) t2) ∧ m (Str.ofString "paint") = some (.int (z : Int) t3) ∧ (z : Int) < 16
theorem row_ne (y : Nat) (sl : List Int) : ¬ ((y : Int) :: sl) = [-1] := by
  intro h
  have := (List.cons.inj h).1
  omega
noncomputable def NumAt (h₀ : Heap) (L c : Addr) (m : Str → Option Value) (s₁ : Shared) (f : Flow) (s₂ : Shared) : Prop :=
  f = .next ∧ ∃ (h' : Heap) (tk' y : Nat) (o : Obj) (tt : Tok), s₂ = { s₁ with heap := h', toks := tk' } ∧ y < 2 ^ 32 ∧ (ringOf (y : Int)).sum ≤ 16 ∧ o.data = .cell (some (.int (y : Int) tt)) ∧ Fr h₀ L h' m ∧ News h₀ L h' [(c, o)]
theorem num_big {h' : Heap} {tk' x c : Nat} {D D2 : Addr} {lo l2 o : Obj} {tt : Tok} {L : Addr} (F : Fr h₀ L h' m) (N : News h₀ L h' [(D, lo), (D2, l2), (c, o)]) (hx : (x : Int) < 2 ^ Int.toNat 32) (h16 : 16 < (ringOf (x : Int)).sum) (ho : o.data = .cell (some (.int (2 ^ Int.toNat 32 - 1 - (x : Int)) tt))) :
    NumAt h₀ L c m s .next { s with heap := h', toks := tk' } := by
  have hx' : x < 2 ^ 32 := by
    have : (x : Int) < 2 ^ 32 := hx
    omega
  have h1 := ring_comp hx'
  have e : (2 ^ Int.toNat 32 - 1 - (x : Int)) = ((2 ^ 32 - (x + 1) : Nat) : Int) := by
    show (2 ^ 32 - 1 - (x : Int)) = _
    omega
  rw [e] at ho
  exact ⟨rfl, h', tk', _, o, tt, rfl, by omega, by omega, ho, F, news_sub N fun p hp => by rw [List.mem_singleton.mp hp]; exact .tail _ (.tail _ (.head _))⟩
theorem num_small {h' : Heap} {tk' x c : Nat} {D D2 : Addr} {lo l2 o : Obj} {tt : Tok} {L : Addr} (F : Fr h₀ L h' m) (N : News h₀ L h' [(D, lo), (D2, l2), (c, o)]) (hx : (x : Int) < 2 ^ Int.toNat 32) (h16 : ¬ 16 < (ringOf (x : Int)).sum) (ho : o.data = .cell (some (.int (x : Int) tt))) :
    NumAt h₀ L c m s .next { s with heap := h', toks := tk' } := by
  have hx' : x < 2 ^ 32 := by
    have : (x : Int) < 2 ^ 32 := hx
    omega
  exact ⟨rfl, h', tk', _, o, tt, rfl, hx', by omega, ho, F, news_sub N fun p hp => by rw [List.mem_singleton.mp hp]; exact .tail _ (.tail _ (.head _))⟩
theorem cut_num {t : Sem Flow} {Q : Flow → Shared → Prop} {D c : Addr} {lo o : Obj} (F : Fr h₀ L s.heap m) (_N : News h₀ L s.heap [(D, lo), (c, o)]) (h1 : wpAny (model prog w) A t (NumAt h₀ L c m s) E s)
    (h2 : ∀ (h' : Heap) (tk' y : Nat) (o' : Obj) (tt : Tok), y < 2 ^ 32 → (ringOf (y : Int)).sum ≤ 16 → o'.data = .cell (some (.int (y : Int) tt)) → Fr h₀ L h' m → News h₀ L h' [(c, o')] → Q .next { s with heap := h', toks := tk' }) : wpAny (model prog w) A t Q E s :=
  wpAny_mono h1 (fun f s' ⟨hf, h', tk', y, o', tt, hs, a, b, d, e, g⟩ => by subst hf; subst hs; exact h2 h' tk' y o' tt a b d e g) fun _ _ e => e
end
theorem news_law {h₀ h : Heap} {L : Addr} {t a b d e : Addr × Obj} (N : News h₀ L h [t, a, b, d, e]) : News h₀ L h [b, a, d, e] := fun p hp => N p (by
  simp only [List.mem_cons, List.not_mem_nil, or_false] at hp ⊢
  rcases hp with h | h | h | h <;> simp [h])
noncomputable def FigJ (O : Addr) (rest : List (Addr × Obj)) (acc figs : List Int) (vD vS vC vR vP : Value) (i : Nat) (m : Str → Option Value) (nx : List (Addr × Obj)) : Prop :=
  ∃ (os : List Value) (c1 : Nat), nx = (O, W.listOf os.toArray c1) :: rest ∧ IntsAre os (octL (acc ++ figs.take i)) ∧ m (Str.ofString "octets") = some (.ref O) ∧ m (Str.ofString "due") = some vD ∧ m (Str.ofString "solitons") = some vS ∧ m (Str.ofString "cart") = some vC ∧ m (Str.ofString "row") = some vR ∧ m (Str.ofString "paint") = some vP
theorem loopR_fig {prog : Program} {w : World} {A : Around} {E : Value → Shared → Prop} {s : Shared} {env : Env} {h₀ : Heap} {x : Str} {body orelse : List Stmt} {Q : Flow → Shared → Prop} {px : Pos} {l : Addr} {vs : List Value} {c : Nat} {m₀ : Str → Option Value} {news : List (Addr × Obj)}
    (O : Addr) (rest : List (Addr × Obj)) (acc figs : List Int) (vD vS vC vR vP : Value)
    (hh : A.handled = none) (hx : env.kindOf x = some .local) (hp : (env.scope.kind == .class || (env.scope.kind == .module && env.locals != env.globals)) = false) (hE : PassesOwn (model prog w) A env E)
    (F : Fr h₀ env.locals s.heap m₀) (N : News h₀ env.locals s.heap news) (h0 : FigJ O rest acc figs vD vS vC vR vP 0 m₀ news) (hi : IntsAre vs figs) (hl : (l, W.listOf vs.toArray c) ∈ rest) (hoff : ∀ p ∈ rest, p.1 ≠ O)
    (turn : ∀ i a t m₁ nx h tk I oI, (∀ p ∈ rest, p.1 ≠ O) → figs[i]? = some a → FigJ O rest acc figs vD vS vC vR vP i m₁ nx → (∀ p ∈ nx, p.1 ≠ I) → Fr h₀ env.locals h (fun y => if y = x then some (.int a t) else m₁ y) → News h₀ env.locals h ((I, oI) :: nx) →
      wpAny (model prog w) A (execs body env) (TurnEnd h₀ env.locals I oI (FigJ O rest acc figs vD vS vC vR vP (i + 1)) { s with heap := h, toks := tk } Q) E { s with heap := h, toks := tk })
    (done : ∀ m₁ nx h tk, (∀ p ∈ rest, p.1 ≠ O) → FigJ O rest acc figs vD vS vC vR vP figs.length m₁ nx → Fr h₀ env.locals h m₁ → News h₀ env.locals h nx → wpAny (model prog w) A (execs orelse env) Q E { s with heap := h, toks := tk }) :
    LoopR prog w A env x px body orelse Q E (.ref l) s :=
  loopR_list (FigJ O rest acc figs vD vS vC vR vP) hh hx hp hE hi F N (fun i m nx h => by obtain ⟨os, c1, e, _⟩ := h; rw [e]; exact List.Mem.tail _ hl) h0 (fun i a t m₁ nx h tk I oI => turn i a t m₁ nx h tk I oI hoff) (fun m₁ nx h tk => done m₁ nx h tk hoff)
theorem news_fig {h₀ h : Heap} {L : Addr} {f a b d r i o e g k : Addr × Obj} (N : News h₀ L h [f, a, b, d, r, i, o, e, g, k]) : News h₀ L h (o :: [f, r, i, e, g, k]) := fun p hp => N p (by
  simp only [List.mem_cons, List.not_mem_nil, or_false] at hp ⊢
  rcases hp with h | h | h | h | h | h | h <;> simp [h])
theorem take_next {l : List Int} {i : Nat} {a : Int} (h : l[i]? = some a) : l.take (i + 1) = l.take i ++ [a] := by
  rw [List.take_add_one, h]; rfl
theorem octL_next (acc : List Int) {figs : List Int} {i : Nat} {a : Int} (h : figs[i]? = some a) : octL (acc ++ figs.take (i + 1)) = octL (acc ++ figs.take i) ++ octF a := by
  rw [take_next h, ← List.append_assoc, octL_app]
  show _ ++ (octF a ++ []) = _
  rw [List.append_nil]
theorem octs_short {os : List Value} {l : List Int} (h : IntsAre os (octL l)) (hl : (∀ f ∈ l, 0 ≤ f ∧ f < 2 ^ 32) ∧ l.length ≤ 120) : os.length ≤ 2400 := by
  rw [h.length]
  have := octL_len l hl.1
  omega
theorem oct_short {us : List Value} {n : Int} (h : IntsAre us (octF n)) (h0 : 0 ≤ n) (h1 : n < 2 ^ 32) : us.length ≤ 20 := by
  rw [h.length]; exact octF_len h0 h1
theorem acc_small {acc sl : List Int} {y : Int} (hl : acc.length ≤ 34 * 2) (ha : ∀ f ∈ acc, 0 ≤ f ∧ f < 2 ^ 32) (hf : ∀ f ∈ y :: sl, 0 ≤ f ∧ f < 2 ^ 32) (hs : sl.length ≤ 33) (j : Nat) :
    (∀ f ∈ acc ++ (y :: sl).take j, 0 ≤ f ∧ f < 2 ^ 32) ∧ (acc ++ (y :: sl).take j).length ≤ 120 := by
  refine ⟨fun f h => ?_, ?_⟩
  · rcases List.mem_append.mp h with h | h
    · exact ha f h
    · exact hf f (List.mem_of_mem_take h)
  · rw [List.length_append]
    have := List.length_take (i := j) (l := y :: sl)
    rw [List.length_cons] at this
    omega
theorem end_fig {h₀ h' : Heap} {L I O : Addr} {oI : Obj} {m' : Str → Option Value} {t : Addr × Obj} {rest : List (Addr × Obj)} {os us : List Value} {acc figs : List Int} {vD vS vC vR vP : Value} {j n tk : Nat} {a : Int} {sp : Shared}
    (F : Fr h₀ L h' m') (N : News h₀ L h' (t :: (I, oI) :: (O, W.listOf (os ++ us).toArray n) :: rest)) (hI : ∀ p ∈ rest, p.1 ≠ I) (hOI : Apart O I) (hos : IntsAre os (octL (acc ++ figs.take j))) (hus : IntsAre us (octF a)) (hja : figs[j]? = some a)
    (h1 : m' (Str.ofString "octets") = some (.ref O)) (h2 : m' (Str.ofString "due") = some vD) (h3 : m' (Str.ofString "solitons") = some vS) (h4 : m' (Str.ofString "cart") = some vC) (h5 : m' (Str.ofString "row") = some vR) (h6 : m' (Str.ofString "paint") = some vP) :
    ∃ h'' tk' m'' nx', ({ sp with heap := h', toks := tk } : Shared) = { sp with heap := h'', toks := tk' } ∧ Fr h₀ L h'' m'' ∧ News h₀ L h'' ((I, oI) :: nx') ∧ (∀ p ∈ nx', p.1 ≠ I) ∧ FigJ O rest acc figs vD vS vC vR vP (j + 1) m'' nx' := by
  refine turn_end (nx := (O, W.listOf (os ++ us).toArray n) :: rest) F N (fun p hp => .tail _ hp) (all_cons hOI hI) ⟨os ++ us, n, rfl, ?_, h1, h2, h3, h4, h5, h6⟩
  rw [octL_next acc hja]
  exact hos.append hus
theorem end_law {h₀ h' : Heap} {L I O D S c : Addr} {oI oN : Obj} {m' : Str → Option Value} {e1 e2 e3 e4 : Addr × Obj} {os ds ws ss : List Value} {acc sl : List Int} {c1 c2 c3 i tk y y' z : Nat} {t1 t2 t3 : Tok} {sp : Shared}
    (F : Fr h₀ L h' m') (N : News h₀ L h' [e1, e2, (O, W.listOf os.toArray c1), e3, e4, (I, oI), (D, W.listOf (ds ++ ws).toArray c2), (S, W.listOf ss.toArray c3), (c, oN)])
    (hoN : oN.data = .cell (some (.int (y' : Int) t1))) (hos : IntsAre os (octL (acc ++ (y : Int) :: sl))) (hds : IntsAre ds acc) (hws : IntsAre ws ([(y : Int)] ++ sl)) (hss : IntsAre ss sl) (hy' : y' < 2 ^ 32) (hpop : (ringOf (y' : Int)).sum ≤ 16) (hsol : solF (y' : Int) = sl)
    (hacc : ∀ f ∈ acc, 0 ≤ f ∧ f < 2 ^ 32) (hfig : ∀ f ∈ (y : Int) :: sl, 0 ≤ f ∧ f < 2 ^ 32) (hal : acc.length ≤ 34 * i) (hsl : sl.length ≤ 33) (hap : Apart O D ∧ Apart O S ∧ Apart O c ∧ Apart D S ∧ Apart D c ∧ Apart S c) (b1 : Apart O I) (b2 : Apart D I) (b3 : Apart S I) (b4 : Apart c I)
    (h1 : m' (Str.ofString "octets") = some (.ref O)) (h2 : m' (Str.ofString "due") = some (.ref D)) (h3 : m' (Str.ofString "solitons") = some (.ref S)) (h4 : m' (Str.ofString "cart") = some (.int (y' : Int) t2)) (h5 : m' (Str.ofString "paint") = some (.int (z : Int) t3)) (hz : (z : Int) < 16) :
    ∃ h'' tk' m'' nx', ({ sp with heap := h', toks := tk } : Shared) = { sp with heap := h'', toks := tk' } ∧ Fr h₀ L h'' m'' ∧ News h₀ L h'' ((I, oI) :: nx') ∧ (∀ p ∈ nx', p.1 ≠ I) ∧ LawJ sl c (i + 1) m'' nx' := by
  refine turn_end (nx := [(O, W.listOf os.toArray c1), (D, W.listOf (ds ++ ws).toArray c2), (S, W.listOf ss.toArray c3), (c, oN)]) F N ?_ ?_ ⟨O, D, S, os, ds ++ ws, ss, c1, c2, c3, oN, y', z, acc ++ (y : Int) :: sl, t1, t2, t3, rfl, hoN, hos, hds.append hws, hss, hy', hpop, hsol, ?_, ?_, hap, h1, h2, h3, h4, h5, hz⟩
  · intro p hp
    simp only [List.mem_cons, List.not_mem_nil, or_false] at hp ⊢
    rcases hp with h | h | h | h | h <;> simp [h]
  · exact all_cons b1 (all_cons b2 (all_cons b3 (all_cons b4 (List.forall_mem_nil _))))
  · intro f hf
    rcases List.mem_append.mp hf with hf | hf
    · exact hacc f hf
    · exact hfig f hf
  · rw [List.length_append, List.length_cons]
    omega
theorem rd_last {acc : List Int} {y : Nat} (ha : ∀ f ∈ acc, 0 ≤ f ∧ f < 2 ^ 32) (hy : y < 2 ^ 32) : RdRun (octL acc ++ octF (y : Int)) (acc ++ [(y : Int)]) := by
  have h := rd_all (acc ++ [(y : Int)]) fun f hf => by
    rcases List.mem_append.mp hf with hf | hf
    · exact ha f hf
    · have : f = (y : Int) := List.mem_singleton.mp hf
      subst this
      omega
  rw [octL_app] at h
  have e : octL [(y : Int)] = octF (y : Int) := List.append_nil _
  rw [e] at h
  exact h
theorem loopR_law {prog : Program} {w : World} {A : Around} {E : Value → Shared → Prop} {s : Shared} {env : Env} {h₀ : Heap} {x : Str} {body orelse : List Stmt} {Q : Flow → Shared → Prop} {px : Pos} {r : Addr} {a₀ b₀ : Int} {t₀ u₀ v₀ : Tok} {n : Nat} {m₀ : Str → Option Value} {news : List (Addr × Obj)} (sl : List Int)
    (hh : A.handled = none) (hx : env.kindOf x = some .local) (hp : (env.scope.kind == .class || (env.scope.kind == .module && env.locals != env.globals)) = false) (hE : PassesOwn (model prog w) A env E)
    (hr : IsRange s.heap r a₀ b₀ 1 t₀ u₀ v₀) (hsmall : Builtin.Range.small a₀ b₀ 1 = true) (hn : Builtin.Range.rangeSize a₀ b₀ 1 = (n : Int)) (F : Fr h₀ env.locals s.heap m₀) (N : News h₀ env.locals s.heap news) (h0 : LawJ sl (env.locals + 1) 0 m₀ news)
    (turn : ∀ i t m₁ nx h tk I oI, i < n → LawJ sl (env.locals + 1) i m₁ nx → (∀ p ∈ nx, p.1 ≠ I) → Fr h₀ env.locals h (fun y => if y = x then some (.int (a₀ + (i : Int)) t) else m₁ y) → News h₀ env.locals h ((I, oI) :: nx) →
      wpAny (model prog w) A (execs body env) (TurnEnd h₀ env.locals I oI (LawJ sl (env.locals + 1) (i + 1)) { s with heap := h, toks := tk } Q) E { s with heap := h, toks := tk })
    (done : ∀ m₁ nx h tk, LawJ sl (env.locals + 1) n m₁ nx → Fr h₀ env.locals h m₁ → News h₀ env.locals h nx → wpAny (model prog w) A (execs orelse env) Q E { s with heap := h, toks := tk }) :
    LoopR prog w A env x px body orelse Q E (.ref r) s := loopR_range (LawJ sl (env.locals + 1)) hh hx hp hE hr hsmall hn F N h0 turn done
local macro_rules | `(tactic| k_ne) => `(tactic| ((try dsimp only); first | exact Mine.Apart.ne (by with_reducible assumption) | exact Mine.Apart.ne' (by with_reducible assumption) | (show @Ne Nat _ _; omega)))
local macro_rules | `(tactic| k_all) => `(tactic| first | with_reducible assumption)

/- names taken ahead: for these parts of the top the library's twins would lay congruence proofs that grow with the square of the texts in them; the kernel looks at them as they stand -/
theorem law_holds.tw5389484754426515990 : True := trivial
theorem law_holds.tw15759456685926392790 : True := trivial
theorem law_holds.tw16284226232216143923 : True := trivial
theorem law_holds.tw16672782959439432188 : True := trivial
theorem law_holds.tw9645634856123762962 : True := trivial
theorem law_holds.tw9853128532771029439 : True := trivial
theorem law_holds.tw12831907817818079685 : True := trivial
theorem law_holds.tw179590077315354965 : True := trivial
theorem law_holds.tw11245189051238082039 : True := trivial
theorem law_holds.tw13766487248619392586 : True := trivial
theorem law_holds.tw1832781179975386347 : True := trivial
theorem law_holds.tw8957123355933967898 : True := trivial
theorem law_holds.tw10794124079692012287 : True := trivial
theorem law_holds.tw17273243488114572446 : True := trivial
set_option maxRecDepth 100000 in
set_option maxHeartbeats 8000000 in
set_option Elab.async true in
theorem law_holds : PySem.Challenge.rw_wf0054_01.Holds := by
  w_on; o_law; k_head; (case hw => w_witness2)
  show WalkO Mine.gen.view_1 _ (XL Mine.gen.view_1 _) (Hook.says (kHook Mine.gen.heap_1 _ _)) _ _ _ _
  k_go0; (all_goals try k_fold)
  k_with_none
  k_with "my split" => repeat (rename (Mine.Apart _ _ ∧ _) => z'; obtain ⟨_, _⟩ := z')
  k_with "my fine" => ((unfold LCg.FinE); intro D' h' tk' F' N' o1'; (simp only [Mine.off1_cons, Mine.off1_nil, and_true] at o1'); (try (simp only [List.nil_append, List.cons_append] at N')); walk_at "my split"; (try dsimp only))
  k_with "my enter" => first   | (refine' Mine.enter_plain (by k_asm) (by k_asm) (by k_asm) (by k_asm) (by exact rfl) (by exact rfl) (by assumption) (by k_is) (by k_is) (by ktr_room) (by exact BindsTo.of_eq rfl) (by exact locs rfl) ?_ (by exact rfl) (by exact rfl) (by exact rfl) (by decide); k_whole; intro L' h' F' N' B' X' T'; (try dsimp only); (try k_fold))   | (refine' Mine.enter_cells (by k_asm) (by k_asm) (by k_asm) (by k_asm) (by exact rfl) (by exact rfl) (by assumption) (by k_is) (by k_is) (by ktr_room) (by exact BindsTo.of_eq rfl) (by exact rfl) (by decide +kernel) ?_ (by exact rfl) (by exact rfl) (by exact rfl); k_whole; intro L' h' tk' cells' F' N' Y' B' X' T'; k_cells Y'; (try simp only [List.cons_append, List.nil_append] at N'); (try dsimp only); (try k_fold))
  k_with "call builtin:max" => (k_here; (with_reducible show wpAny _ _ (call (Value.builtin "max") [Value.float _ _, Value.float _ _, Value.float _ _]) _ _ _); k_dflt (refine' Mine.max_threeN (by rfl) (by k_asm) (by k_asm) ?_; k_whole); intro t' h' tk' F' N')
  k_with "call builtin:min" => (k_here; (with_reducible show wpAny _ _ (call (Value.builtin "min") [Value.float _ _, Value.float _ _, Value.float _ _]) _ _ _); k_dflt (refine' Mine.min_threeN (by rfl) (by k_asm) (by k_asm) ?_; k_whole); intro t' h' tk' F' N')
  k_with "call builtin:list.insert" => (k_here; k_dflt (refine' Mine.insert0 (by k_asm) (by k_asm) (by k_upd) (by size_fits) ?_; k_whole); intro h' F' N'; (try dsimp only))
  k_with "inplaceOp Add ref" => (k_here; (with_reducible show wpAny _ _ (inplaceOp Operator.Add (Value.ref _) (Value.ref _)) _ _ _); k_dflt (refine' Mine.iadd_list (by k_asm) (by k_asm) (by k_mem) (by k_updF) (by size_fits) ?_; k_whole); intro h' n' F' N'; (try simp only [List.append_toArray, List.cons_append, List.nil_append] at N'); (try dsimp only))
  k_with "inplaceOp Add ref ref" => walk_at "inplaceOp Add ref"
  k_with "my item" => (k_here; (with_reducible show wpAny _ _ (subscriptTail _ _ (Value.ref _) (Value.int _ _)) _ _ _); k_dflt (refine' Mine.item_ints (by k_asm) (by k_mem) (by assumption) (by omega) (by omega) (by omega) ?_; k_whole); intro t')
  k_with "my len" => (k_here; (with_reducible show wpAny _ _ (call (Value.builtin "len") [Value.ref _]) _ _ _); k_dflt (refine' kst_len (by k_asm) (by k_mem) (by exact IntsAre.length (by assumption)) (by omega) ?_; k_whole))
  k_with "my toks" => (k_here; (with_reducible refine Mine.gen_toks ?_); intro tk9' htk9')
  k_with "binaryOp FloorDiv int int" => (k_here; k_dflt (refine' div_nat (by assumption) ?_; k_whole); (try dsimp only))
  k_with "binaryOp Mod int int" => (k_here; k_dflt (refine' mod_nat (by first | decide | omega) ?_; k_whole); intro x' hx'; (try dsimp only))
  k_with "call ref" => refine Halt.go ?_
  k_with "exec For Name BinOp cons nil" => refine Halt.go ?_
  k_with "call ref" => (k_here; k_dflt (refine' Mine.moved_tells _ _ _ _ _ _ _ _ _ _ _ _ _ _ _ _ _ _ _ _ _ _ _ _ _ _ _ _ _ (by k_asm) (by k_asm) (by k_asm) (by k_asm) (by k_asm) (by first | exact rfl | assumption) (by ktr_room) (by ktr_units) (by omega) (by omega) (by omega) (by omega) (by omega) (by assumption) ?_; k_whole); intro D9' us9' c9' h9' tk9' F9' N9' o9' hi9'; (rename (mvF _ = _) => hm8); rw [hm8] at hi9'; (try simp only [Mine.off1_cons, Mine.off1_nil, and_true] at o9'); (try walk_at "my split"); (try dsimp only); (try k_fold))
  k_with "call ref" => (k_here; k_dflt (refine' Mine.oct_tells _ _ _ _ _ _ _ _ _ _ _ _ _ _ _ _ _ _ _ _ _ _ _ _ _ (by k_asm) (by k_asm) (by k_asm) (by k_asm) (by k_asm) (by first | exact rfl | assumption) (by ktr_room) (by ktr_units) (by omega) (by omega) ?_; k_whole); intro D9' us9' c9' h9' tk9' F9' N9' o9' hi9'; (have hl9' := oct_short hi9' (by omega) (by omega)); (try simp only [Mine.off1_cons, Mine.off1_nil, and_true] at o9'); (try walk_at "my split"); (try dsimp only); (try k_fold))
  k_with "call ref" => (k_here; k_dflt (refine' Mine.carted_tells _ _ _ _ _ _ _ _ _ _ _ _ _ _ _ _ _ _ _ _ _ _ _ _ _ (by k_asm) (by k_asm) (by k_asm) (by k_asm) (by k_asm) (by first | exact rfl | assumption) (by ktr_room) (by ktr_units) (by omega) (by omega) ?_; k_whole); intro t9' h9' tk9' F9' N9'; (rename (cartF _ = _) => hm8); rw [hm8]; (try dsimp only); (try k_fold))
  k_with "call ref" => (k_here; k_dflt (refine' Mine.read_tells _ _ _ _ _ _ _ _ _ _ _ _ _ _ _ _ _ _ _ _ _ _ _ _ _ _ _ (by k_asm) (by k_asm) (by k_asm) (by k_asm) (by k_asm) (by first | exact rfl | assumption) (by ktr_room) (by ktr_units) (by k_mem) (by assumption) (by with_reducible assumption) (by with_reducible assumption) (by k_asm) (by k_asm) ?_; k_whole); intro D9' us9' c9' h9' tk9' F9' N9' o9' hi9'; (try simp only [Mine.off1_cons, Mine.off1_nil, and_true] at o9'); (try walk_at "my split"); (try dsimp only); (try k_fold))
  k_with "exec If" => (k_here; (with_reducible rename MyMark => hM9); refine Halt.go ?_)
  k_with "exec For Name Call cons nil" => refine Halt.go ?_
  k_with "call builtin:sum" => (k_here; k_dflt (refine' sum_pick (by with_unfolding_all rfl) (by k_asm) (by k_asm) (by assumption) ?_; k_whole); intro S' h' tk' t' F' N'; (try dsimp only))
  k_with "call ref" => (k_here; k_dflt (refine' Mine.sol_tells _ _ _ _ _ _ _ _ _ _ _ _ _ _ _ _ _ _ _ _ _ _ _ _ _ (by k_asm) (by k_asm) (by k_asm) (by k_asm) (by k_asm) (by first | exact rfl | assumption) (by ktr_room) (by ktr_units) (by omega) (by omega) (by assumption) ?_; k_whole); intro D9' us9' c9' h9' tk9' F9' N9' o9' hi9'; (try simp only [Mine.off1_cons, Mine.off1_nil, and_true] at o9'); (try walk_at "my split"); (try dsimp only); (try k_fold))
  have mk9 := myMark
  k_steps
  unfold Halt
  rename MyMark => z9
  clear z9
  (rename Fr _ _ _ _ => F1); (rename News _ _ _ _ => N1)
  refine cut_num F1 N1 ?_ ?_
  · k_steps
    · (rename Fr _ _ _ _ => F9); (rename News _ _ _ _ => N9)
      with_reducible rename (_ < (2 : Int) ^ Int.toNat 32) => hx9
      with_reducible rename ((16 : Int) < List.sum _) => h16
      with_reducible rename (Obj.data _ = _) => ho9
      exact num_big F9 N9 hx9 h16 ho9
    · (rename Fr _ _ _ _ => F9); (rename News _ _ _ _ => N9)
      with_reducible rename (_ < (2 : Int) ^ Int.toNat 32) => hx9
      with_reducible rename (¬ (16 : Int) < List.sum _) => h16
      with_reducible rename (Obj.data _ = _) => ho9
      exact num_small F9 N9 hx9 h16 ho9
  · clear F1 N1
    intro h₂ tk₂ y o₂ tt₂ hy hr ho₂ F₂ N₂
    k_steps
    unfold Halt
    refine For_R ?_
    k_steps
    (rename Fr _ _ _ _ => F1); (rename News _ _ _ _ => N1); (rename IsRange _ _ _ _ _ _ _ _ => R1)
    rename (_ < (16 : Int)) => hz
    rename (_ < (3 : Int)) => hst
    obtain ⟨hs33, hsl⟩ := solF_small hy hr
    generalize hslE : solF (y : Int) = sl at *
    refine loopR_law sl rfl rfl rfl (by passes_own) R1 (small_one (by omega) (by omega) (by omega) (by omega)) (rangeSize_nat _ _) F1 (news_law N1) ?h0 ?turn ?done
    case h0 =>
      refine ⟨_, _, _, [], [], _, _, _, _, _, y, _, [], _, _, _, rfl, ho₂, .nil, .nil, by assumption, hy, hr, hslE, (fun f hf => by cases hf), Nat.zero_le _, ⟨?_, ?_, ?_, ?_, ?_, ?_⟩, rfl, rfl, rfl, rfl, rfl, hz⟩
      all_goals ((try dsimp only [envOfC]); first | (with_reducible assumption) | exact Apart.ne' (by with_reducible assumption) | (show @Ne Nat _ _; omega))
    case turn =>
      clear F1 N1 R1
      rintro i t9 m₁ nx h tk I oI hi ⟨O, D, S, os, ds, ss, c1, c2, c3, oN, y, z, acc, t1, t2, t3, rfl, q1, hos, hds, hss, hy, hr, hsl2, hacc, hal, ⟨a1, a2, a3, a4, a5, a6⟩, hm1, hm2, hm3, hm4, hm5, hz⟩ ha F2 N2
      have F3 := Fr_knownL [(Str.ofString "octets", .ref O), (Str.ofString "due", .ref D), (Str.ofString "solitons", .ref S), (Str.ofString "cart", .int (y : Int) t2), (Str.ofString "paint", .int (z : Int) t3)] F2 (all5 hm1 hm2 hm3 hm4 hm5)
      clear F2
      dsimp only [envOfC] at N2 F3 a3 a5 a6
      have b1 : Apart O I := ha _ (.head _)
      have b2 : Apart D I := ha _ (.tail _ (.head _))
      have b3 : Apart S I := ha _ (.tail _ (.tail _ (.head _)))
      have b4 : Apart _ _ := ha _ (.tail _ (.tail _ (.tail _ (.head _))))
      dsimp only [envOfC] at b4
      clear ha
      obtain ⟨y', hy', hcart, hmv, hok, hsol, hpop⟩ := law_step hr
      rw [hsl2] at hmv hsol
      have hne := row_ne y' sl
      k_steps
      unfold Halt
      refine For_R ?_
      k_steps
      (rename Fr _ _ _ _ => F1); (rename News _ _ _ _ => N1); (try simp only at N1)
      have hfig : ∀ f ∈ (y : Int) :: sl, 0 ≤ f ∧ f < 2 ^ 32 := by
        intro f hf
        rcases List.mem_cons.mp hf with rfl | hf
        · omega
        · have := hsl f hf; omega
      have hal3 : acc.length ≤ 34 * 2 := by omega
      refine loopR_fig O _ acc ((y : Int) :: sl) _ _ _ _ _ rfl rfl rfl (by passes_own) F1 (news_fig N1) ⟨os, c1, rfl, by rw [List.take_zero, List.append_nil]; exact hos, rfl, rfl, rfl, rfl, rfl, rfl⟩ (by assumption) (.head _) ?hoff ?turn2 ?done2
      case hoff =>
        refine List.forall_mem_cons.mpr ⟨?_, List.forall_mem_cons.mpr ⟨?_, List.forall_mem_cons.mpr ⟨?_, List.forall_mem_cons.mpr ⟨?_, List.forall_mem_cons.mpr ⟨?_, List.forall_mem_cons.mpr ⟨?_, List.forall_mem_nil _⟩⟩⟩⟩⟩⟩
        all_goals ((try dsimp only); first | exact Mine.Apart.ne (by with_reducible assumption) | exact Mine.Apart.ne' (by with_reducible assumption) | (show @Ne Nat _ _; omega))
      case turn2 =>
        clear F1 N1
        rintro j a t8 m₂ nx h tk I2 oI2 hoff hja ⟨os, c1, rfl, hos, hn1, hn2, hn3, hn4, hn5, hn6⟩ ha F2 N2
        have F3 := Fr_knownL [(Str.ofString "octets", .ref O)] F2 (all1 hn1)
        clear F2
        have hfa := hfig a (List.mem_of_getElem? hja)
        have hf0 := hfa.1
        have hf1 := hfa.2
        have d1 : Apart O I2 := ha _ (.head _)
        have d2 := (List.forall_mem_cons.mp ha).2
        clear ha
        have hlo := octs_short hos (acc_small hal3 hacc hfig hs33 j)
        k_steps
        (rename Fr _ _ _ _ => F9); (rename News _ _ _ _ => N9)
        exact end_fig F9 N9 d2 d1 hos (by assumption) hja rfl hn2 hn3 hn4 hn5 hn6
      case done2 =>
        clear F1 N1
        rintro m₂ nx h tk hoff ⟨os, c1, rfl, hos, hn1, hn2, hn3, hn4, hn5, hn6⟩ F2 N2
        rw [List.take_length] at hos
        have F3 := Fr_knownL [(Str.ofString "octets", .ref O), (Str.ofString "due", .ref D), (Str.ofString "solitons", .ref S), (Str.ofString "cart", .int (y : Int) t2), (Str.ofString "row", _), (Str.ofString "paint", .int (z : Int) t3)] F2 (all6 hn1 hn2 hn3 hn4 hn5 hn6)
        clear F2
        dsimp only [envOfC] at N2 F3
        have hdl : ds.length ≤ 68 := by rw [hds.length]; omega
        have hsl9 : ss.length ≤ 33 := by rw [hss.length]; exact hs33
        k_steps
        unfold Halt
        k_dflt (refine' Mine.carted_tells _ _ _ _ _ _ _ _ _ _ _ _ _ _ _ _ _ _ _ _ _ _ _ _ _ ?k1 ?k2 ?k3 ?k4 ?k5 ?k6 ?k7 ?k8 ?c0 ?c1 ?_; (case k1 => k_asm); (case k2 => k_asm); (case k3 => k_asm); (case k4 => k_asm); (case k5 => k_asm); (case k6 => first | exact rfl | assumption); (case k7 => ktr_room); (case k8 => ktr_units); (case c0 => omega); (case c1 => omega); k_whole)
        intro t7 h7 tk7 F7 N7
        rw [hcart]
        k_steps
        (rename Fr _ _ _ _ => F9); (rename News _ _ _ _ => N9)
        with_reducible rename (Obj.data _ = Data.cell (some (Value.int (List.getD _ _ _) _))) => ho9
        exact end_law F9 N9 ho9 hos hds (by assumption) hss hy' hpop hsol hacc hfig hal hs33 ⟨a1, a2, a3, a4, a5, a6⟩ b1 b2 b3 b4 rfl rfl rfl rfl rfl hz
    case done =>
      clear F1 N1 R1
      rintro m₁ nx h tk ⟨O, D, S, os, ds, ss, c1, c2, c3, oN, y, z, acc, t1, t2, t3, rfl, q1, hos, hds, hss, hy, hr, hsl2, hacc, hal, ⟨a1, a2, a3, a4, a5, a6⟩, hm1, hm2, hm3, hm4, hm5, hz⟩ F2 N2
      have F3 := Fr_knownL [(Str.ofString "octets", .ref O), (Str.ofString "due", .ref D), (Str.ofString "cart", .int (y : Int) t2)] F2 (all3 hm1 hm2 hm4)
      clear F2
      dsimp only [envOfC] at N2 F3 a3 a5 a6
      have hal3 : acc.length ≤ 34 * 3 := by omega
      have hlo := octs_short hos ⟨hacc, by omega⟩
      have hdl : ds.length ≤ 102 := by rw [hds.length]; exact hal3
      have hrd : RdRun (octL acc ++ octF (y : Int)) (acc ++ [(y : Int)]) := rd_last hacc hy
      have hln : (acc ++ [(y : Int)]).length ≤ 1000 := by rw [List.length_append, List.length_singleton]; omega
      k_steps
      unfold Halt
      have hin := hos.append (by assumption : IntsAre _ (octF (y : Int)))
      k_dflt (refine' Mine.read_tells _ _ _ _ _ _ _ _ _ _ _ _ _ _ _ _ _ _ _ _ _ _ _ _ _ _ _ ?k1 ?k2 ?k3 ?k4 ?k5 ?k6 ?k7 ?k8 ?c0 ?c1 ?c2 ?c3 ?c4 ?c5 ?_; (case k1 => k_asm); (case k2 => k_asm); (case k3 => k_asm); (case k4 => k_asm); (case k5 => k_asm); (case k6 => first | exact rfl | assumption); (case k7 => ktr_room); (case k8 => ktr_units); (case c0 => exact .head _); (case c1 => exact hin); (case c2 => exact hrd); (case c3 => exact hln); (case c4 => k_asm); (case c5 => k_asm); k_whole)
      intro R vs7 c7 h7 tk7 F7 N7 o7 hi7
      (try simp only [Mine.off1_cons, Mine.off1_nil, and_true] at o7)
      (try dsimp only)
      (try k_fold)
      k_steps

end Mine
set_option maxRecDepth 100000 in
set_option maxHeartbeats 8000000 in
theorem PySem.Challenge.cw_wf0054_01_holds : PySem.Challenge.rw_wf0054_01.Holds := by
  exact Mine.law_holds
