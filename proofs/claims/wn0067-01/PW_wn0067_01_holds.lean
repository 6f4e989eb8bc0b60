import PyProof.Rows.All
import Wide.All
import OpenK.AllK
import Wide.FinOn
import PySem.Sre
import Lean
import PySem.Challenge.RW_wn0067_01
set_option Elab.async false
set_option linter.all false
set_option rowWalk.seconds 0

section
set_option autoImplicit false
namespace Mine
/-! the hands, over lists of signs -/
def P : List Nat → List Nat
  | [] => []
  | [c] => if c = 34 then [] else [c]
  | c :: d :: r => if c = 34 then (if d = 34 then 34 :: P r else []) else c :: P (d :: r)
def Fx : List Nat → List Nat
  | [] => []
  | [c] => if c = 13 ∨ c = 10 then [13, 10] else [c]
  | c :: d :: r => if c = 13 then (if d = 10 then 13 :: 10 :: Fx r else 13 :: 10 :: Fx (d :: r)) else if c = 10 then 13 :: 10 :: Fx (d :: r) else c :: Fx (d :: r)
def Dx : Bool → List Nat → List Nat
  | _, [] => []
  | b, c :: r => if b = true ∧ c = 46 then 46 :: 46 :: Dx false r else c :: Dx (decide (c = 10)) r
def nm (h c : Nat) : Option (List Nat) :=
  if h = 3 then (if c = 38 then some [97, 109, 112, 59] else if c = 60 then some [108, 116, 59] else if c = 62 then some [103, 116, 59] else none)
  else if h = 4 then (if c = 38 then some [97, 109, 112, 59] else if c = 60 then some [108, 116, 59] else if c = 62 then some [103, 116, 59] else if c = 34 then some [113, 117, 111, 116, 59]
    else if c = 9 then some [35, 48, 57, 59] else if c = 10 then some [35, 49, 48, 59] else if c = 13 then some [35, 49, 51, 59] else none)
  else if h = 5 then (if c = 38 then some [97, 109, 112, 59] else if c = 62 then some [103, 116, 59] else if c = 34 then some [113, 117, 111, 116, 59] else none)
  else if h = 6 then (if c = 38 then some [97, 109, 112, 59] else if c = 60 then some [108, 116, 59] else if c = 62 then some [103, 116, 59] else if c = 13 then some [35, 120, 68, 59] else none)
  else if h = 7 then (if c = 38 then some [97, 109, 112, 59] else if c = 60 then some [108, 116, 59] else if c = 34 then some [113, 117, 111, 116, 59]
    else if c = 9 then some [35, 120, 57, 59] else if c = 10 then some [35, 120, 65, 59] else if c = 13 then some [35, 120, 68, 59] else none)
  else none
def spells (h : Nat) : Bool := h == 3 || h == 4 || h == 5 || h == 6 || h == 7
def esc1 (h c : Nat) : List Nat := match nm h c with | some n => 38 :: n | none => [c]
def esc (h : Nat) (l : List Nat) : List Nat := l.flatMap (esc1 h)
def hand (h : Nat) (l : List Nat) : List Nat :=
  if h = 0 then P l else if h = 1 then Dx true (Fx l) else if h = 2 then Fx l
  else if h = 8 then Dx true l else esc h l
/-! the law's own reckoning -/
def rep (n : Nat) : List Nat := List.replicate n 34
def divd (m : Nat) : Nat → List Nat → List Nat
  | run, [] => rep (run / m)
  | run, c :: r => if c = 34 then divd m (run + 1) r else if run % m ≠ 0 then rep (run / m) else rep (run / m) ++ c :: divd m 0 r
def amps : Nat → List Nat
  | 0 => []
  | n + 1 => [97, 109, 112, 59] ++ amps n
def way : List Nat → Nat → List Nat
  | [], c => [c]
  | h :: hs, c => match nm h c with
    | some n => 38 :: (amps (hs.countP spells) ++ n)
    | none => way hs c
def isD (h : Nat) : Bool := h == 1 || h == 8
def isF (h : Nat) : Bool := h == 1 || h == 2
def bareF (h : Nat) (bare : List Nat) : List Nat := if bare ≠ [] ∧ isF h = true then [13, 10] else bare
def endw : List Nat → List Nat → List Nat × Nat
  | [], bare => (bare, 0)
  | h :: hs, bare =>
    let b1 := bareF h bare
    let r := endw hs (b1.filter fun c => (nm h c).isNone)
    ((b1.filter fun c => (nm h c).isSome).flatMap (way (h :: hs)) ++ r.1, (if b1.getLast? = some 10 ∧ isD h = true then 1 else 0) + r.2)
def tell (hs : List Nat) : Nat → List Nat → List Nat
  | _, [] => []
  | n, [c] => if c = 13 ∨ c = 10 then (endw hs [c]).1 else (if c = 46 then List.replicate n 46 else []) ++ way hs c
  | n, c :: d :: r =>
    if c = 13 then (if d = 10 then (endw hs [13, 10]).1 ++ tell hs (endw hs [13, 10]).2 r else (endw hs [13]).1 ++ tell hs (endw hs [13]).2 (d :: r))
    else if c = 10 then (endw hs [10]).1 ++ tell hs (endw hs [10]).2 (d :: r)
    else (if c = 46 then List.replicate n 46 else []) ++ way hs c ++ tell hs 0 (d :: r)
def spellsQ (h : Nat) : Bool := h == 4 || h == 5 || h == 7
def zeros : List Nat → Nat
  | [] => 0
  | h :: r => if spellsQ h then 0 else (if h = 0 then 1 else 0) + zeros r
def hands (row : List Nat) : List Nat := row.filter (· != 0)
def told (l row : List Nat) : List Nat := tell (hands row) ((hands row).countP isD) (divd (2 ^ zeros row) 0 l)
/-! P is one division by two -/
theorem rep_succ (n : Nat) : rep (n + 1) = 34 :: rep n := rfl
theorem P_rep (k : Nat) : ∀ l, P (rep (2 * k) ++ l) = rep k ++ P l := by
  induction k with
  | zero => intro l; rfl
  | succ k ih =>
    intro l
    have : rep (2 * (k + 1)) = 34 :: 34 :: rep (2 * k) := rfl
    rw [this]; simp only [List.cons_append, P, if_true, ih, rep_succ]
theorem P_cons {c : Nat} (hc : c ≠ 34) (l : List Nat) : P (c :: l) = c :: P l := by
  cases l with
  | nil => simp [P, hc]
  | cons d r => simp [P, hc]
theorem P_one {l : List Nat} (h : ∀ r, l ≠ 34 :: r) : P (34 :: l) = [] := by
  cases l with
  | nil => simp [P]
  | cons d r =>
    have : d ≠ 34 := fun e => h r (by rw [e])
    simp [P, this]
theorem rep_cons_comm (n : Nat) (l : List Nat) : rep n ++ 34 :: l = rep (n + 1) ++ l := by
  induction n with
  | zero => rfl
  | succ n ih => rw [rep_succ, List.cons_append, ih, rep_succ (n + 1), List.cons_append]
theorem P_eq : ∀ (l : List Nat) (run : Nat), P (rep run ++ l) = divd 2 run l := by
  intro l
  induction l with
  | nil =>
    intro run
    simp only [divd, List.append_nil]
    rcases Nat.mod_two_eq_zero_or_one run with h | h
    · obtain ⟨k, rfl⟩ : ∃ k, run = 2 * k := ⟨run / 2, by omega⟩
      have := P_rep k []
      simp only [List.append_nil, P] at this
      rw [this, Nat.mul_div_cancel_left _ (by decide)]
    · obtain ⟨k, rfl⟩ : ∃ k, run = 2 * k + 1 := ⟨run / 2, by omega⟩
      have : rep (2 * k + 1) = rep (2 * k) ++ [34] := by rw [rep_cons_comm]; simp
      rw [this, P_rep]
      have e : (2 * k + 1) / 2 = k := by omega
      simp [P, e]
  | cons c r ih =>
    intro run
    by_cases hc : c = 34
    · subst hc
      rw [rep_cons_comm, ih]; simp [divd]
    · rw [divd, if_neg hc]
      rcases Nat.mod_two_eq_zero_or_one run with h | h
      · obtain ⟨k, rfl⟩ : ∃ k, run = 2 * k := ⟨run / 2, by omega⟩
        rw [P_rep, P_cons hc, if_neg (by omega), Nat.mul_div_cancel_left _ (by decide)]
        have := ih 0
        simp only [rep, List.replicate_zero, List.nil_append] at this ⊢
        rw [this]
      · obtain ⟨k, rfl⟩ : ∃ k, run = 2 * k + 1 := ⟨run / 2, by omega⟩
        have : rep (2 * k + 1) ++ c :: r = rep (2 * k) ++ 34 :: c :: r := by rw [rep_cons_comm]
        rw [this, P_rep, P_one (by intro q e; injection e with e1 _; exact hc e1), if_pos (by omega)]
        have e : (2 * k + 1) / 2 = k := by omega
        rw [e]; simp
theorem P_div (l : List Nat) : P l = divd 2 0 l := P_eq l 0
/-! two divisions are one -/
theorem divd_rep (m : Nat) : ∀ (k run : Nat) (l : List Nat), divd m run (rep k ++ l) = divd m (run + k) l := by
  intro k
  induction k with
  | zero => intro run l; rfl
  | succ k ih => intro run l; rw [rep_succ, List.cons_append, divd, if_pos rfl, ih]; congr 1; omega
theorem divd_two (m : Nat) (hm : 0 < m) : ∀ (l : List Nat) (run : Nat), divd m 0 (divd 2 run l) = divd (2 * m) run l := by
  intro l
  induction l with
  | nil =>
    intro run
    have := divd_rep m (run / 2) 0 []
    simp only [List.append_nil, Nat.zero_add] at this
    rw [divd, this]; simp only [divd, Nat.div_div_eq_div_mul]
  | cons c r ih =>
    intro run
    by_cases hc : c = 34
    · subst hc; simp only [divd, if_true]; exact ih _
    · simp only [divd, if_neg hc]
      by_cases h : run % 2 = 0
      · obtain ⟨k, rfl⟩ : ∃ k, run = 2 * k := ⟨run / 2, by omega⟩
        have e1 : 2 * k / 2 = k := by omega
        have e2 : 2 * k % (2 * m) = 2 * (k % m) := Nat.mul_mod_mul_left 2 k m
        have e3 : 2 * k / (2 * m) = k / m := Nat.mul_div_mul_left k m (by decide)
        rw [if_neg (by omega), e1, divd_rep, Nat.zero_add, divd, if_neg hc, e2, e3, ih]
        by_cases hk : k % m = 0
        · rw [if_neg (by omega), if_neg (by omega)]
        · rw [if_pos hk, if_pos (by omega)]
      · have hne : run % (2 * m) ≠ 0 := fun e => h (by
          have := Nat.mod_mod_of_dvd run (Nat.dvd_mul_right 2 m)
          rw [e] at this; simpa using this.symm)
        rw [if_pos h, if_pos hne]
        have := divd_rep m (run / 2) 0 []
        simp only [List.append_nil, Nat.zero_add] at this
        rw [this]; simp only [divd, Nat.div_div_eq_div_mul]
theorem divd_pow (k : Nat) (l : List Nat) : divd (2 ^ k) 0 (P l) = divd (2 ^ (k + 1)) 0 l := by
  rw [P_div, divd_two _ (Nat.pow_pos (by decide)), Nat.pow_succ, Nat.mul_comm]
theorem divd_one : ∀ l run, divd 1 run l = rep run ++ l := by
  intro l
  induction l with
  | nil => intro run; simp [divd]
  | cons c r ih =>
    intro run
    by_cases hc : c = 34
    · subst hc; rw [divd, if_pos rfl, ih, rep_cons_comm]
    · rw [divd, if_neg hc, ih]; simp [Nat.mod_one, rep]
theorem divd_none (m : Nat) (hm : 0 < m) : ∀ l, 34 ∉ l → divd m 0 l = l := by
  intro l
  induction l with
  | nil => intro _; simp [divd, rep]
  | cons c r ih =>
    intro h
    have hc : c ≠ 34 := fun e => h (by simp [e])
    rw [divd, if_neg hc, ih (fun x => h (List.mem_cons_of_mem _ x))]
    simp [rep]
/-! what goes sign by sign and leaves the quotes commutes with the division -/
structure Tr (σ : Type) where
  out : σ → Nat → List Nat
  next : σ → Nat → σ
  home : σ
def Tr.run {σ : Type} (T : Tr σ) : σ → List Nat → List Nat
  | _, [] => []
  | s, c :: r => T.out s c ++ T.run (T.next s c) r
structure Tr.Ok {σ : Type} (T : Tr σ) : Prop where
  q : ∀ s, T.out s 34 = [34]
  nq : ∀ s, T.next s 34 = T.home
  none : ∀ s c, c ≠ 34 → 34 ∉ T.out s c
  some : ∀ c, c ≠ 34 → T.out T.home c ≠ []
theorem Tr.run_rep {σ : Type} {T : Tr σ} (ok : T.Ok) (s : σ) (l : List Nat) : ∀ k, T.run s (rep (k + 1) ++ l) = rep (k + 1) ++ T.run T.home l := by
  intro k
  induction k generalizing s with
  | zero => show T.out s 34 ++ T.run (T.next s 34) l = _; rw [ok.q, ok.nq]; rfl
  | succ k ih => show T.out s 34 ++ T.run (T.next s 34) (rep (k + 1) ++ l) = _; rw [ok.q, ok.nq, ih]; rfl
theorem divd_free (m : Nat) : ∀ (a l : List Nat), 34 ∉ a → divd m 0 (a ++ l) = a ++ divd m 0 l := by
  intro a
  induction a with
  | nil => intro l _; rfl
  | cons c a ih =>
    intro l h
    have hc : c ≠ 34 := fun e => h (by simp [e])
    rw [List.cons_append, divd, if_neg hc, ih l (fun x => h (List.mem_cons_of_mem _ x))]
    simp [rep]
theorem Tr.comm {σ : Type} {T : Tr σ} (ok : T.Ok) (m : Nat) : ∀ (l : List Nat),
    (∀ s, divd m 0 (T.run s l) = T.run s (divd m 0 l)) ∧ ∀ (s : σ) (run : Nat), 0 < run → divd m run (T.run T.home l) = T.run s (divd m run l) := by
  intro l
  have nilrun : ∀ (s : σ) (k : Nat), T.run s (rep k) = rep k := by
    intro s k
    cases k with
    | zero => rfl
    | succ k => have := Tr.run_rep ok s [] k; simpa [Tr.run] using this
  induction l with
  | nil => exact ⟨fun s => by simp [Tr.run, divd, rep], fun s run _ => by simp only [Tr.run, divd]; exact (nilrun s _).symm⟩
  | cons c r ih =>
    refine ⟨fun s => ?_, fun s run hr => ?_⟩
    · by_cases hc : c = 34
      · subst hc
        show divd m 0 (T.out s 34 ++ T.run (T.next s 34) r) = _
        rw [ok.q, ok.nq]
        simp only [List.singleton_append, divd, if_true]
        exact ih.2 s 1 (by decide)
      · show divd m 0 (T.out s c ++ T.run (T.next s c) r) = _
        rw [divd_free m _ _ (ok.none s c hc), ih.1, divd, if_neg hc]
        simp [rep, Tr.run]
    · by_cases hc : c = 34
      · subst hc
        show divd m run (T.out T.home 34 ++ T.run (T.next T.home 34) r) = _
        rw [ok.q, ok.nq]
        simp only [List.singleton_append, divd, if_true]
        exact ih.2 s (run + 1) (by omega)
      · show divd m run (T.out T.home c ++ T.run (T.next T.home c) r) = _
        rw [divd, if_neg hc]
        have hne := ok.some c hc
        have hno := ok.none T.home c hc
        cases ho : T.out T.home c with
        | nil => exact absurd ho hne
        | cons d o =>
          rw [ho] at hno
          have hd : d ≠ 34 := fun e => hno (by simp [e])
          rw [List.cons_append, divd, if_neg hd]
          by_cases h : run % m = 0
          · rw [if_neg (by omega), if_neg (by omega)]
            have hpos : 0 < run / m := by
              have := Nat.div_add_mod run m
              rw [h] at this
              rcases Nat.eq_zero_or_pos (run / m) with e | e
              · rw [e] at this; simp at this; omega
              · exact e
            obtain ⟨k, hk⟩ : ∃ k, run / m = k + 1 := ⟨run / m - 1, by omega⟩
            rw [hk, Tr.run_rep ok]
            show _ = rep (k + 1) ++ (T.out T.home c ++ T.run (T.next T.home c) (divd m 0 r))
            rw [ho, divd_free m o _ (fun x => hno (List.mem_cons_of_mem _ x)), ih.1]
            rfl
          · rw [if_pos h, if_pos h, nilrun]
def trE (h : Nat) : Tr Unit := ⟨fun _ c => esc1 h c, fun _ _ => (), ()⟩
def trD : Tr Bool := ⟨fun b c => if b = true ∧ c = 46 then [46, 46] else [c], fun _ c => decide (c = 10), false⟩
def trF : Tr Bool := ⟨fun b c => if c = 13 then [13, 10] else if c = 10 then (if b then [] else [13, 10]) else [c], fun _ c => decide (c = 13), false⟩
theorem trE_run (h : Nat) : ∀ l u, (trE h).run u l = esc h l := by
  intro l
  induction l with
  | nil => intro u; rfl
  | cons c r ih => intro u; show esc1 h c ++ (trE h).run () r = _; rw [ih]; rfl
theorem trD_run : ∀ l b, trD.run b l = Dx b l := by
  intro l
  induction l with
  | nil => intro b; rfl
  | cons c r ih =>
    intro b
    show (if b = true ∧ c = 46 then [46, 46] else [c]) ++ trD.run (decide (c = 10)) r = _
    rw [ih, Dx]
    split
    · rename_i e; simp [e.2]
    · rfl
theorem Fx_cons (c : Nat) (l : List Nat) : Fx (c :: l) = if c = 13 then 13 :: 10 :: Fx (if l.head? = some 10 then l.tail else l) else if c = 10 then 13 :: 10 :: Fx l else c :: Fx l := by
  cases l with
  | nil =>
    simp only [Fx]
    by_cases h : c = 13
    · simp [h, Fx]
    · by_cases h' : c = 10
      · simp [h', Fx]
      · simp [h, h', Fx]
  | cons d r =>
    simp only [Fx]
    by_cases h : c = 13
    · by_cases h' : d = 10
      · simp [h, h']
      · simp [h, h']
    · simp [h]
theorem trF_run : ∀ l, trF.run false l = Fx l ∧ trF.run true l = Fx (if l.head? = some 10 then l.tail else l) := by
  intro l
  induction l with
  | nil => exact ⟨rfl, rfl⟩
  | cons c r ih =>
    have step : ∀ b, trF.run b (c :: r) = (if c = 13 then [13, 10] else if c = 10 then (if b = true then [] else [13, 10]) else [c]) ++ trF.run (decide (c = 13)) r := fun b => rfl
    constructor
    · rw [step, Fx_cons]
      by_cases h : c = 13
      · simp only [h, if_true, decide_true]; rw [ih.2]; rfl
      · simp only [h, if_false, decide_false]; rw [ih.1]
        by_cases h' : c = 10 <;> simp [h']
    · rw [step]
      by_cases h : c = 13
      · subst h; simp only [if_true, decide_true, List.head?_cons]; rw [ih.2]; simp [Fx_cons]
      · simp only [h, if_false, decide_false]; rw [ih.1]
        by_cases h' : c = 10
        · simp [h']
        · simp only [h', if_false, List.head?_cons, Option.some.injEq]; rw [Fx_cons]; simp [h, h']
theorem trD_ok : trD.Ok where
  q := by intro s; simp [trD]
  nq := by intro s; rfl
  none := by intro s c hc; simp only [trD]; split <;> simp [Ne.symm hc]
  some := by intro c hc; simp [trD]
theorem trF_ok : trF.Ok where
  q := by intro s; simp [trF]
  nq := by intro s; rfl
  none := by intro s c hc; simp only [trF]; split; simp; split; (split <;> simp); simp [Ne.symm hc]
  some := by intro c hc; simp only [trF]; split; simp; split <;> simp
theorem nm_noq {h c : Nat} {n : List Nat} (e : nm h c = some n) : 34 ∉ n := by
  unfold nm at e
  repeat' split at e
  all_goals first | (cases e; decide) | cases e
theorem trE_ok {h : Nat} (hq : spellsQ h = false) : (trE h).Ok where
  q := by
    intro s
    have : nm h 34 = none := by
      simp only [spellsQ, Bool.or_eq_false_iff, beq_eq_false_iff_ne] at hq
      unfold nm
      simp [hq.1.1, hq.1.2, hq.2]
    show esc1 h 34 = [34]
    rw [esc1, this]
  nq := by intro s; rfl
  none := by
    intro s c hc
    show 34 ∉ esc1 h c
    unfold esc1
    split
    · rename_i n e; have := nm_noq e; simp [this]
    · simp [Ne.symm hc]
  some := by intro c _; show esc1 h c ≠ []; unfold esc1; split <;> simp
theorem hand_comm {h : Nat} (h0 : h ≠ 0) (hq : spellsQ h = false) (m : Nat) (l : List Nat) : divd m 0 (hand h l) = hand h (divd m 0 l) := by
  have eD : ∀ l, divd m 0 (Dx true l) = Dx true (divd m 0 l) := fun l => by rw [← trD_run, ← trD_run, (Tr.comm trD_ok m l).1]
  have eF : ∀ l, divd m 0 (Fx l) = Fx (divd m 0 l) := fun l => by rw [← (trF_run _).1, ← (trF_run _).1, (Tr.comm trF_ok m l).1]
  unfold hand
  rw [if_neg h0, if_neg h0]
  split
  · rw [eD, eF]
  split
  · exact eF l
  split
  · exact eD l
  · rw [← trE_run h l (), ← trE_run h _ (), (Tr.comm (trE_ok hq) m l).1]
theorem esc_free {h : Nat} (hq : spellsQ h = true) (l : List Nat) : 34 ∉ esc h l := by
  intro hm
  obtain ⟨c, _, hc⟩ := List.mem_flatMap.mp hm
  unfold esc1 at hc
  split at hc
  · rename_i n e
    rcases List.mem_cons.mp hc with hc | hc
    · cases hc
    · exact nm_noq e hc
  · rename_i e
    simp only [List.mem_singleton] at hc
    subst hc
    simp only [spellsQ, Bool.or_eq_true, beq_iff_eq] at hq
    unfold nm at e
    rcases hq with (hq | hq) | hq <;> simp [hq] at e
theorem run_free {σ : Type} {T : Tr σ} (hn : ∀ s c, c ≠ 34 → 34 ∉ T.out s c) : ∀ (l : List Nat) (s : σ), 34 ∉ l → 34 ∉ T.run s l := by
  intro l
  induction l with
  | nil => intro s h; exact h
  | cons c r ih =>
    intro s h
    show 34 ∉ T.out s c ++ T.run (T.next s c) r
    simp only [List.mem_cons, not_or] at h
    simp only [List.mem_append, not_or]
    exact ⟨hn s c (Ne.symm h.1), ih _ h.2⟩
theorem hand_free {h : Nat} (l : List Nat) (hl : 34 ∉ l) : 34 ∉ hand h l := by
  have fD : ∀ l, 34 ∉ l → 34 ∉ Dx true l := fun l h => by rw [← trD_run]; exact run_free trD_ok.none l _ h
  have fF : ∀ l, 34 ∉ l → 34 ∉ Fx l := fun l h => by rw [← (trF_run l).1]; exact run_free trF_ok.none l _ h
  unfold hand
  split
  · rw [P_div, divd_none 2 (by decide) l hl]; exact hl
  split
  · exact fD _ (fF _ hl)
  split
  · exact fF _ hl
  split
  · exact fD _ hl
  · cases hq : spellsQ h with
    | true => exact esc_free hq l
    | false => rw [← trE_run h l ()]; exact run_free (trE_ok hq).none l _ hl
def fold (row : List Nat) (l : List Nat) : List Nat := row.foldl (fun t h => hand h t) l
theorem fold_cons (h : Nat) (r l : List Nat) : fold (h :: r) l = fold r (hand h l) := rfl
theorem fold_free : ∀ (row l : List Nat), 34 ∉ l → fold row l = fold (hands row) l := by
  intro row
  induction row with
  | nil => intro l _; rfl
  | cons h r ih =>
    intro l hl
    by_cases h0 : h = 0
    · subst h0
      have : hand 0 l = l := by unfold hand; rw [if_pos rfl, P_div, divd_none 2 (by decide) l hl]
      rw [fold_cons, this, ih l hl]
      simp [hands]
    · rw [fold_cons, ih _ (hand_free l hl)]
      simp [hands, h0, fold_cons]
theorem fold_div : ∀ (row l : List Nat), fold row l = fold (hands row) (divd (2 ^ zeros row) 0 l) := by
  intro row
  induction row with
  | nil => intro l; show l = divd (2 ^ 0) 0 l; rw [Nat.pow_zero, divd_one]; rfl
  | cons h r ih =>
    intro l
    rw [fold_cons]
    by_cases h0 : h = 0
    · subst h0
      have e : hand 0 l = P l := rfl
      have z : zeros (0 :: r) = zeros r + 1 := by simp [zeros, spellsQ]; omega
      rw [e, ih, divd_pow, z]
      simp [hands]
    · have hh : hands (h :: r) = h :: hands r := by simp [hands, h0]
      rw [hh, fold_cons]
      cases hq : spellsQ h with
      | true =>
        have z : zeros (h :: r) = 0 := by simp [zeros, hq]
        rw [z, Nat.pow_zero, divd_one]
        have e : hand h l = esc h l := by
          unfold hand
          simp only [spellsQ, Bool.or_eq_true, beq_iff_eq] at hq
          rw [if_neg h0, if_neg (by omega), if_neg (by omega), if_neg (by omega)]
        show fold r (hand h l) = fold (hands r) (hand h l)
        rw [e]; exact fold_free r _ (esc_free hq l)
      | false =>
        have z : zeros (h :: r) = zeros r := by simp [zeros, hq, h0]
        rw [ih, z, hand_comm h0 hq]
/-! the hands one after the other, and the telling -/
theorem tell_cons (hs : List Nat) (n c : Nat) (l : List Nat) : tell hs n (c :: l) =
    if c = 13 then (if l.head? = some 10 then (endw hs [13, 10]).1 ++ tell hs (endw hs [13, 10]).2 l.tail else (endw hs [13]).1 ++ tell hs (endw hs [13]).2 l)
    else if c = 10 then (endw hs [10]).1 ++ tell hs (endw hs [10]).2 l
    else (if c = 46 then List.replicate n 46 else []) ++ way hs c ++ tell hs 0 l := by
  cases l with
  | nil =>
    simp only [tell, List.append_nil, List.head?_nil]
    by_cases h : c = 13
    · subst h; simp
    · by_cases h' : c = 10
      · subst h'; simp
      · simp [h, h']
  | cons d r =>
    simp only [tell, List.head?_cons, List.tail_cons, Option.some.injEq]
theorem tell_rn (hs : List Nat) (n : Nat) (l : List Nat) : tell hs n (13 :: 10 :: l) = (endw hs [13, 10]).1 ++ tell hs (endw hs [13, 10]).2 l := by
  rw [tell_cons]; simp
theorem tell_r (hs : List Nat) (n : Nat) (l : List Nat) (h : l.head? ≠ some 10) : tell hs n (13 :: l) = (endw hs [13]).1 ++ tell hs (endw hs [13]).2 l := by
  rw [tell_cons]; simp [h]
theorem tell_n (hs : List Nat) (n : Nat) (l : List Nat) : tell hs n (10 :: l) = (endw hs [10]).1 ++ tell hs (endw hs [10]).2 l := by
  rw [tell_cons]; simp
theorem tell_c (hs : List Nat) (n c : Nat) (l : List Nat) (h1 : c ≠ 13) (h2 : c ≠ 10) (h3 : c ≠ 46) : tell hs n (c :: l) = way hs c ++ tell hs 0 l := by
  rw [tell_cons]; simp [h1, h2, h3]
theorem tell_dot (hs : List Nat) (n : Nat) (l : List Nat) : tell hs n (46 :: l) = List.replicate n 46 ++ way hs 46 ++ tell hs 0 l := by
  rw [tell_cons]; simp
/-- an induction by line ends -/
theorem ends_ind {p : List Nat → Prop} (nil : p []) (rn : ∀ l, p l → p (13 :: 10 :: l)) (r : ∀ l, l.head? ≠ some 10 → p l → p (13 :: l)) (n : ∀ l, p l → p (10 :: l))
    (dot : ∀ l, p l → p (46 :: l)) (c : ∀ c l, c ≠ 13 → c ≠ 10 → c ≠ 46 → p l → p (c :: l)) : ∀ l, p l := by
  have main : ∀ k l, l.length ≤ k → p l := by
    intro k
    induction k with
    | zero => intro l h; cases l with
      | nil => exact nil
      | cons => simp at h
    | succ k ih =>
      intro l h
      cases l with
      | nil => exact nil
      | cons d t =>
        have ht : t.length ≤ k := by simpa using h
        by_cases h1 : d = 13
        · subst h1
          by_cases h2 : t.head? = some 10
          · cases t with
            | nil => simp at h2
            | cons e u =>
              simp only [List.head?_cons, Option.some.injEq] at h2
              subst h2
              exact rn u (ih u (by simp at ht; omega))
          · exact r t h2 (ih t ht)
        · by_cases h2 : d = 10
          · subst h2; exact n t (ih t ht)
          · by_cases h3 : d = 46
            · subst h3; exact dot t (ih t ht)
            · exact c d t h1 h2 h3 (ih t ht)
  exact fun l => main l.length l (Nat.le_refl _)
theorem nm_dot (h : Nat) : nm h 46 = none := by
  unfold nm; repeat' split
  all_goals first | rfl | contradiction
theorem way_dot : ∀ hs, way hs 46 = [46] := by
  intro hs
  induction hs with
  | nil => rfl
  | cons h hs ih => rw [way, nm_dot]; exact ih
theorem endw_nil : ∀ hs, endw hs [] = ([], 0) := by
  intro hs
  induction hs with
  | nil => rfl
  | cons h hs ih => simp [endw, bareF, ih]
theorem nm_none {h : Nat} (hs : spells h = false) (c : Nat) : nm h c = none := by
  simp only [spells, Bool.or_eq_false_iff, beq_eq_false_iff_ne] at hs
  unfold nm
  simp [hs.1.1.1.1, hs.1.1.1.2, hs.1.1.2, hs.1.2, hs.2]
theorem filt_ff (l : List Nat) : l.filter (fun _ => false) = [] := List.filter_eq_nil_iff.mpr (fun _ _ => Bool.false_ne_true)
theorem filt_tt (l : List Nat) : l.filter (fun _ => true) = l := List.filter_eq_self.mpr (fun _ _ => rfl)
/-- line ends made both signs -/
theorem endw_F (hs bare : List Nat) (hb : bare ≠ []) : endw (2 :: hs) bare = endw hs [13, 10] := by
  have e : bareF 2 bare = [13, 10] := by simp [bareF, hb, isF]
  have n2 : ∀ c, nm 2 c = none := nm_none rfl
  simp only [endw, e, n2, isD]
  simp
theorem way_F (hs : List Nat) (c : Nat) : way (2 :: hs) c = way hs c := by rw [way, nm_none rfl]
theorem sim_F (hs : List Nat) : ∀ (l : List Nat) (n : Nat), tell (2 :: hs) n l = tell hs n (Fx l) := by
  intro l
  induction l using ends_ind with
  | nil => intro n; rfl
  | rn l ih => intro n; rw [tell_rn, Fx_cons, endw_F _ _ (by simp), ih]; simp [tell_rn]
  | r l h ih => intro n; rw [tell_r _ _ _ h, Fx_cons, endw_F _ _ (by simp), ih]; simp [tell_rn, h]
  | n l ih => intro n; rw [tell_n, Fx_cons, endw_F _ _ (by simp), ih]; simp [tell_rn]
  | dot l ih => intro n; rw [tell_dot, Fx_cons, way_F, ih]; simp [tell_dot]
  | c c l h1 h2 h3 ih => intro n; rw [tell_c _ _ _ _ h1 h2 h3, Fx_cons, way_F, ih]; simp [h1, h2, tell_c _ _ _ _ h1 h2 h3]
/-- dots made two -/
theorem endw_D (hs bare : List Nat) : endw (8 :: hs) bare = ((endw hs bare).1, (if bare.getLast? = some 10 then 1 else 0) + (endw hs bare).2) := by
  have e : bareF 8 bare = bare := by simp [bareF, isF]
  have n8 : ∀ c, nm 8 c = none := nm_none rfl
  simp only [endw, e, n8, isD, Option.isSome_none, Option.isNone_none, filt_ff, filt_tt, List.flatMap_nil, List.nil_append]
  simp
theorem way_D (hs : List Nat) (c : Nat) : way (8 :: hs) c = way hs c := by rw [way, nm_none rfl]
theorem Dx_head {b : Bool} {l : List Nat} (h : l.head? ≠ some 10) : (Dx b l).head? ≠ some 10 := by
  cases l with
  | nil => simpa [Dx] using h
  | cons c r => simp only [Dx]; split <;> simp_all
theorem sim_D (hs : List Nat) : ∀ (l : List Nat) (b : Bool) (n : Nat), tell (8 :: hs) ((if b then 1 else 0) + n) l = tell hs n (Dx b l) := by
  intro l
  induction l using ends_ind with
  | nil => intro b n; rfl
  | rn l ih =>
    intro b n
    have := ih true (endw hs [13, 10]).2
    simp only [if_true] at this
    rw [tell_rn, endw_D]
    simp only [Dx, show ¬ (b = true ∧ (13 : Nat) = 46) from fun h => by simp at h, show ¬ (decide ((13 : Nat) = 10) = true ∧ (10 : Nat) = 46) from fun h => by simp at h, if_false, decide_true]
    rw [tell_rn, ← this]; simp
  | r l h ih =>
    intro b n
    have := ih false (endw hs [13]).2
    simp only [Bool.false_eq_true, if_false] at this
    rw [tell_r _ _ _ h, endw_D]
    simp only [Dx, show ¬ (b = true ∧ (13 : Nat) = 46) from fun h => by simp at h, if_false, show decide ((13 : Nat) = 10) = false from rfl]
    rw [tell_r _ _ _ (Dx_head h), ← this]; simp
  | n l ih =>
    intro b n
    have := ih true (endw hs [10]).2
    simp only [if_true] at this
    rw [tell_n, endw_D]
    simp only [Dx, show ¬ (b = true ∧ (10 : Nat) = 46) from fun h => by simp at h, if_false, decide_true]
    rw [tell_n, ← this]; simp
  | dot l ih =>
    intro b n
    have := ih false 0
    simp only [Bool.false_eq_true, if_false, Nat.zero_add] at this
    rw [tell_dot, way_D, way_dot]
    cases b with
    | true => simp only [Dx, true_and, if_true]; rw [tell_dot, tell_dot, way_dot, this, Nat.add_comm, List.replicate_succ']; simp
    | false =>
      simp only [Dx, Bool.false_eq_true, false_and, if_false, Nat.zero_add, show decide ((46 : Nat) = 10) = false from rfl]
      rw [tell_dot, way_dot, this]
  | c c l h1 h2 h3 ih =>
    intro b n
    have := ih false 0
    simp only [Bool.false_eq_true, if_false, Nat.zero_add] at this
    rw [tell_c _ _ _ _ h1 h2 h3, way_D]
    simp only [Dx, h3, and_false, if_false, decide_eq_false h2]
    rw [tell_c _ _ _ _ h1 h2 h3, this]
/-- the escapes -/
def safe (c : Nat) : Bool := c == 97 || c == 109 || c == 112 || c == 59 || c == 108 || c == 116 || c == 103 || c == 113 || c == 117 || c == 111 || c == 35 || c == 48 || c == 57 || c == 49 || c == 51 || c == 120 || c == 65 || c == 68
theorem safe_nm {c : Nat} (hc : safe c = true) (h : Nat) : nm h c = none ∧ c ≠ 13 ∧ c ≠ 10 ∧ c ≠ 46 := by
  have : c ≠ 38 ∧ c ≠ 60 ∧ c ≠ 62 ∧ c ≠ 34 ∧ c ≠ 9 ∧ c ≠ 10 ∧ c ≠ 13 ∧ c ≠ 46 := by
    refine ⟨?_, ?_, ?_, ?_, ?_, ?_, ?_, ?_⟩ <;> (rintro rfl; revert hc; decide)
  obtain ⟨a1, a2, a3, a4, a5, a6, a7, a8⟩ := this
  refine ⟨?_, a7, a6, a8⟩
  unfold nm
  simp [a1, a2, a3, a4, a5, a6, a7]
theorem way_safe {c : Nat} (hc : safe c = true) : ∀ hs, way hs c = [c] := by
  intro hs
  induction hs with
  | nil => rfl
  | cons h hs ih => rw [way, (safe_nm hc h).1]; exact ih
theorem tell_safe (hs : List Nat) : ∀ (a l : List Nat), a.all safe = true → tell hs 0 (a ++ l) = a ++ tell hs 0 l := by
  intro a
  induction a with
  | nil => intro l _; rfl
  | cons c a ih =>
    intro l h
    simp only [List.all_cons, Bool.and_eq_true] at h
    obtain ⟨_, h1, h2, h3⟩ := safe_nm h.1 0
    rw [List.cons_append, tell_c _ _ _ _ h1 h2 h3, ih l h.2, way_safe h.1]; rfl
theorem nm_safe {h c : Nat} {n : List Nat} (e : nm h c = some n) : n.all safe = true := by
  unfold nm at e
  repeat' split at e
  all_goals first | (cases e; decide) | cases e
theorem amps_comm : ∀ n, amps n ++ [97, 109, 112, 59] = amps (n + 1) := by
  intro n
  induction n with
  | zero => rfl
  | succ n ih => rw [amps, List.append_assoc, ih]; rfl
theorem nm_amp {h : Nat} (hs : spells h = true) : nm h 38 = some [97, 109, 112, 59] := by
  simp only [spells, Bool.or_eq_true, beq_iff_eq] at hs
  unfold nm
  rcases hs with (((hs | hs) | hs) | hs) | hs <;> simp [hs]
theorem way_amp : ∀ hs, way hs 38 = 38 :: amps (hs.countP spells) := by
  intro hs
  induction hs with
  | nil => rfl
  | cons h hs ih =>
    cases e : spells h with
    | true => rw [way, nm_amp e, List.countP_cons_of_pos e]; simp only [amps_comm]
    | false => rw [way, nm_none e, List.countP_cons_of_neg (by simp [e]), ih]
theorem nm_spells {h c : Nat} {n : List Nat} (e : nm h c = some n) : spells h = true := by
  cases q : spells h with
  | true => rfl
  | false => rw [nm_none q] at e; cases e
theorem tell_name (hs : List Nat) {h c : Nat} {nme : List Nat} (e : nm h c = some nme) (n : Nat) (l : List Nat) : tell hs n (38 :: nme ++ l) = way (h :: hs) c ++ tell hs 0 l := by
  rw [List.cons_append, tell_c _ _ _ _ (by decide) (by decide) (by decide), tell_safe _ _ _ (nm_safe e), way_amp, way, e]; simp
theorem esc_cons (h c : Nat) (l : List Nat) : esc h (c :: l) = esc1 h c ++ esc h l := rfl
theorem esc1_some {h c : Nat} {n : List Nat} (e : nm h c = some n) : esc1 h c = 38 :: n := by rw [esc1, e]
theorem esc1_none {h c : Nat} (e : nm h c = none) : esc1 h c = [c] := by rw [esc1, e]
theorem esc_head {h : Nat} {l : List Nat} (hl : l.head? ≠ some 10) : (esc h l).head? ≠ some 10 := by
  cases l with
  | nil => exact hl
  | cons c r =>
    rw [esc_cons]
    cases e : nm h c with
    | none => rw [esc1_none e]; simpa using hl
    | some n => rw [esc1_some e]; simp
theorem nm_ten {h : Nat} (e : nm h 13 = none) : nm h 10 = none := by
  by_cases h4 : h = 4
  · subst h4; revert e; decide
  · by_cases h7 : h = 7
    · subst h7; revert e; decide
    · unfold nm; simp [h4, h7]
theorem way_none {h c : Nat} (hs : List Nat) (e : nm h c = none) : way (h :: hs) c = way hs c := by rw [way, e]
theorem endw_E {h : Nat} (hF : isF h = false) (hD : isD h = false) (hs bare : List Nat) : endw (h :: hs) bare =
    ((bare.filter fun c => (nm h c).isSome).flatMap (way (h :: hs)) ++ (endw hs (bare.filter fun c => (nm h c).isNone)).1, (endw hs (bare.filter fun c => (nm h c).isNone)).2) := by
  have e : bareF h bare = bare := by simp [bareF, hF]
  simp only [endw, e, hD]
  simp
theorem sim_E {h : Nat} (hF : isF h = false) (hD : isD h = false) (hs : List Nat) : ∀ (l : List Nat) (n : Nat), tell (h :: hs) n l = tell hs n (esc h l) := by
  intro l
  induction l using ends_ind with
  | nil => intro n; rfl
  | rn l ih =>
    intro n
    rw [tell_rn, endw_E hF hD, esc_cons, esc_cons, ih]
    cases e13 : nm h 13 with
    | none =>
      have e10 := nm_ten e13
      simp only [esc1_none e13, esc1_none e10, List.filter_cons, List.filter_nil, e13, e10, Option.isSome_none, Option.isNone_none, if_true, Bool.false_eq_true, if_false, List.flatMap_nil, List.nil_append, List.singleton_append]
      rw [tell_rn]
    | some n13 =>
      cases e10 : nm h 10 with
      | none =>
        simp only [esc1_some e13, esc1_none e10, List.filter_cons, List.filter_nil, e13, e10, Option.isSome_none, Option.isNone_none, Option.isSome_some, Option.isNone_some, if_true, Bool.false_eq_true, if_false, List.flatMap_cons, List.flatMap_nil, List.append_nil, List.singleton_append]
        rw [tell_name hs e13, tell_n]; simp
      | some n10 =>
        simp only [esc1_some e13, esc1_some e10, List.filter_cons, List.filter_nil, e13, e10, Option.isSome_some, Option.isNone_some, if_true, Bool.false_eq_true, if_false, List.flatMap_cons, List.flatMap_nil, List.append_nil, endw_nil]
        rw [tell_name hs e13, tell_name hs e10]; simp
  | r l hl ih =>
    intro n
    rw [tell_r _ _ _ hl, endw_E hF hD, esc_cons, ih]
    cases e13 : nm h 13 with
    | none =>
      simp only [esc1_none e13, List.filter_cons, List.filter_nil, e13, Option.isSome_none, Option.isNone_none, if_true, Bool.false_eq_true, if_false, List.flatMap_nil, List.nil_append, List.singleton_append]
      rw [tell_r _ _ _ (esc_head hl)]
    | some n13 =>
      simp only [esc1_some e13, List.filter_cons, List.filter_nil, e13, Option.isSome_some, Option.isNone_some, if_true, Bool.false_eq_true, if_false, List.flatMap_cons, List.flatMap_nil, List.append_nil, endw_nil]
      rw [tell_name hs e13]
  | n l ih =>
    intro n
    rw [tell_n, endw_E hF hD, esc_cons, ih]
    cases e10 : nm h 10 with
    | none =>
      simp only [esc1_none e10, List.filter_cons, List.filter_nil, e10, Option.isSome_none, Option.isNone_none, if_true, Bool.false_eq_true, if_false, List.flatMap_nil, List.nil_append, List.singleton_append]
      rw [tell_n]
    | some n10 =>
      simp only [esc1_some e10, List.filter_cons, List.filter_nil, e10, Option.isSome_some, Option.isNone_some, if_true, Bool.false_eq_true, if_false, List.flatMap_cons, List.flatMap_nil, List.append_nil, endw_nil]
      rw [tell_name hs e10]
  | dot l ih =>
    intro n
    rw [tell_dot, esc_cons, esc1_none (nm_dot h), List.singleton_append, tell_dot, way_dot, way_dot, ih]
  | c c l h1 h2 h3 ih =>
    intro n
    rw [tell_c _ _ _ _ h1 h2 h3, esc_cons, ih]
    cases e : nm h c with
    | none => rw [esc1_none e, List.singleton_append, tell_c _ _ _ _ h1 h2 h3, way_none hs e]
    | some nme => rw [esc1_some e, tell_name hs e]
/-- quotedata is both, one behind the other -/
theorem endw_one (hs bare : List Nat) : endw (1 :: hs) bare = endw (2 :: 8 :: hs) bare := by
  have n1 : ∀ c, nm 1 c = none := nm_none rfl
  have n2 : ∀ c, nm 2 c = none := nm_none rfl
  have e : bareF 1 bare = bareF 2 bare := by simp [bareF, isF]
  rw [endw, endw, e]
  simp only [n1, n2, Option.isSome_none, Option.isNone_none, filt_ff, filt_tt, List.flatMap_nil, List.nil_append]
  rw [endw_D]
  simp [isD]
theorem way_one (hs : List Nat) (c : Nat) : way (1 :: hs) c = way (2 :: 8 :: hs) c := by rw [way_F, way_D, way, nm_none rfl]
theorem tell_one (hs : List Nat) : ∀ (l : List Nat) (n : Nat), tell (1 :: hs) n l = tell (2 :: 8 :: hs) n l := by
  intro l
  induction l using ends_ind with
  | nil => intro n; rfl
  | rn l ih => intro n; rw [tell_rn, tell_rn, endw_one, ih]
  | r l hl ih => intro n; rw [tell_r _ _ _ hl, tell_r _ _ _ hl, endw_one, ih]
  | n l ih => intro n; rw [tell_n, tell_n, endw_one, ih]
  | dot l ih => intro n; rw [tell_dot, tell_dot, way_one, ih]
  | c c l h1 h2 h3 ih => intro n; rw [tell_c _ _ _ _ h1 h2 h3, tell_c _ _ _ _ h1 h2 h3, way_one, ih]
theorem tell_done : ∀ (l : List Nat), tell [] 0 l = l := by
  intro l
  induction l using ends_ind with
  | nil => rfl
  | rn l ih => rw [tell_rn]; simp [endw, ih]
  | r l hl ih => rw [tell_r _ _ _ hl]; simp [endw, ih]
  | n l ih => rw [tell_n]; simp [endw, ih]
  | dot l ih => rw [tell_dot, way_dot, ih]; simp
  | c c l h1 h2 h3 ih => rw [tell_c _ _ _ _ h1 h2 h3, ih]; simp [way]
theorem fold_tell : ∀ (hs l : List Nat), (∀ h ∈ hs, h ≠ 0) → fold hs l = tell hs (hs.countP isD) l := by
  intro hs
  induction hs with
  | nil => intro l _; exact (tell_done l).symm
  | cons h hs ih =>
    intro l h0
    rw [fold_cons, ih _ (fun x hx => h0 x (List.mem_cons_of_mem _ hx))]
    have hne := h0 h (List.mem_cons_self ..)
    by_cases h1 : h = 1
    · subst h1
      have e : hand 1 l = Dx true (Fx l) := rfl
      have c : (1 :: hs).countP isD = 1 + hs.countP isD := by rw [List.countP_cons_of_pos rfl, Nat.add_comm]
      rw [e, c, tell_one, sim_F, ← sim_D hs (Fx l) true (hs.countP isD)]; rfl
    · by_cases h2 : h = 2
      · subst h2
        have e : hand 2 l = Fx l := rfl
        rw [e, List.countP_cons_of_neg (by decide), sim_F]
      · by_cases h8 : h = 8
        · subst h8
          have e : hand 8 l = Dx true l := rfl
          have c : (8 :: hs).countP isD = 1 + hs.countP isD := by rw [List.countP_cons_of_pos rfl, Nat.add_comm]
          rw [e, c, ← sim_D hs l true (hs.countP isD)]; rfl
        · have e : hand h l = esc h l := by simp [hand, hne, h1, h2, h8]
          have hF : isF h = false := by simp [isF, h1, h2]
          have hD : isD h = false := by simp [isD, h1, h8]
          rw [e, List.countP_cons_of_neg (by simp [hD]), sim_E hF hD]
theorem plain (row l : List Nat) : fold row l = told l row := by
  rw [fold_div, fold_tell _ _ (fun h hh => by simpa [hands] using (List.mem_filter.mp hh).2)]; rfl
end Mine
end

section
open PySem PySem.W PyProof.Rows
set_option maxRecDepth 100000
set_option maxHeartbeats 8000000
namespace Mine
open_top hd for PySem.Challenge.rw_wn0067_01
end Mine
end

section
open PySem PySem.W PyProof.Rows PySem.Calls
set_option maxRecDepth 100000
namespace Mine
local macro_rules | `(tactic| walk_at "pad") => `(tactic| fail)
local macro_rules | `(tactic| walk_at "pad") => `(tactic| fail)
local macro_rules | `(tactic| walk_at "pad") => `(tactic| fail)
local macro_rules | `(tactic| walk_at "pad") => `(tactic| fail)
local macro_rules | `(tactic| walk_at "pad") => `(tactic| fail)
local macro_rules | `(tactic| walk_at "pad") => `(tactic| fail)
local macro_rules | `(tactic| walk_at "pad") => `(tactic| fail)
local macro_rules | `(tactic| walk_at "pad") => `(tactic| fail)
local macro_rules | `(tactic| walk_at "pad") => `(tactic| fail)
local macro_rules | `(tactic| walk_at "pad") => `(tactic| fail)
local macro_rules | `(tactic| walk_at "pad") => `(tactic| fail)
local macro_rules | `(tactic| walk_at "pad") => `(tactic| fail)
local macro_rules | `(tactic| walk_at "pad") => `(tactic| fail)
local macro_rules | `(tactic| walk_at "pad") => `(tactic| fail)
local macro_rules | `(tactic| walk_at "pad") => `(tactic| fail)
local macro_rules | `(tactic| walk_at "pad") => `(tactic| fail)
local macro_rules | `(tactic| walk_at "pad") => `(tactic| fail)
local macro_rules | `(tactic| walk_at "pad") => `(tactic| fail)
local macro_rules | `(tactic| walk_at "pad") => `(tactic| fail)
local macro_rules | `(tactic| walk_at "pad") => `(tactic| fail)
noncomputable abbrev LS : List Str := looseW hd.view_39 [Str.ofString "_twin_re_1", Str.ofString "_twin_re_2", Str.ofString "_twin_re_3"]
abbrev AT (dp un : Nat) (fr : Option (List Env)) (gd : Option (List Code)) : Around := { handled := none, depth := dp, frames := fr, guards := gd, units := un }
/-- the law's own row, so that k_fill finds the part -/
abbrev RW : OpenLaw := PySem.Challenge.rw_wn0067_01
def Ups (h h' : Heap) : Prop := ∀ b o, h.get? b = some o → h'.get? b = some o
theorem enterF {prog : Program} {w : World} {A : Around} {s : Shared} {K : Frag} {p : Program} {loose : List Str} {mg mb : Str → Option Value} {f : Addr} {oc : Value} {od : Option Addr} {osl : Array (Option Value)}
    {name : Str} {params : Arguments} {body : List Stmt} {scope : Scope} {pm cd doc : Value} {vs : List Value} {binds : List (Str × Value)} {Q E : Value → Shared → Prop}
    (X : K.In s.heap) (T : TopRead p loose mg mb s.heap)
    (ho : K.lookup f = some ⟨oc, od, .func (docDef name params body scope pm cd doc), osl⟩) (hcd : codeIn K cd name = true)
    (hroom : A.depth < recursionLimit)
    (hbind : bindArgs (docDef name params body scope pm cd doc) ⟨vs, []⟩ = pure binds)
    (hloc : ∀ x ∈ binds, scope.names.lookup x.1 = some .local)
    (hco : scope.isCoroutine = false) (hgen : scope.isGenerator = false) (hk : scope.kind = .function)
    (hcell : ∀ x ∈ scope.names, x.2 ≠ .cell)
    (h : ∀ L h₁, Fr s.heap L h₁ (fun x => binds.reverse.lookup x) → News s.heap L h₁ [] →
      wpAny (model prog w) (A.deeper (envOf name scope L f cd)) (execs body (envOf name scope L f cd))
        (fun fl s' => Q (match fl with | .ret v => v | _ => .none) s')
        (fun e s' => wpAny (model prog w) (A.deeper (envOf name scope L f cd)) (leaving (envOf name scope L f cd) e)
          (fun _ s'' => E e s'') (fun e' s'' => E e' s'') s')
        { s with heap := h₁, toks := s.toks + binds.length }) :
    wpAny (model prog w) A (call (.ref f) vs) Q E s := by
  refine wpAny_call (call_plain hroom (X _ _ ho) rfl T.nolimit (codeRec_of X hcd) hbind hloc (fun h₁ F => ?_) hco hgen hk hcell)
  exact h _ h₁ F News.nil
end Mine
end

section
set_option maxRecDepth 100000
namespace Mine
open PySem PySem.Sre
theorem runFor_some {m : M} (h : m.outcome.isSome = true) : ∀ n, M.runFor n m = m
  | 0 => rfl
  | n + 1 => by unfold M.runFor; rw [if_pos h]
theorem runFor_step {m : M} (h : m.outcome = none) (n : Nat) : M.runFor (n + 1) m = M.runFor n m.step := by
  rw [M.runFor, h]; rfl
theorem runFor_add (a b : Nat) : ∀ m : M, M.runFor (a + b) m = M.runFor b (M.runFor a m) := by
  induction a with
  | zero => intro m; rw [Nat.zero_add]; rfl
  | succ a ih =>
    intro m
    cases h : m.outcome with
    | none => rw [Nat.add_right_comm, runFor_step h, runFor_step h, ih]
    | some o =>
      have hs : m.outcome.isSome = true := by rw [h]; rfl
      rw [runFor_some hs, runFor_some hs, runFor_some hs]
/-- m comes to m' in n steps or fewer -/
def Goes (n : Nat) (m m' : M) : Prop := ∃ k, k ≤ n ∧ M.runFor k m = m'
theorem Goes.refl (m : M) : Goes 0 m m := ⟨0, Nat.le_refl _, rfl⟩
theorem Goes.trans {a b : Nat} {m m' m'' : M} (x : Goes a m m') (y : Goes b m' m'') : Goes (a + b) m m'' := by
  obtain ⟨k, hk, rfl⟩ := x
  obtain ⟨l, hl, rfl⟩ := y
  exact ⟨k + l, Nat.add_le_add hk hl, runFor_add k l m⟩
theorem Goes.le {a b : Nat} {m m' : M} (x : Goes a m m') (h : a ≤ b) : Goes b m m' := let ⟨k, hk, e⟩ := x; ⟨k, Nat.le_trans hk h, e⟩
theorem Goes.step {m m' : M} (h : m.outcome = none) (e : m.step = m') : Goes 1 m m' := ⟨1, Nat.le_refl _, by rw [runFor_step h, e]; rfl⟩
theorem Goes.cons {n : Nat} {m m' m'' : M} (h : m.outcome = none) (e : m.step = m') (x : Goes n m' m'') : Goes (n + 1) m m'' := ((Goes.step h e).trans x).le (by omega)
def C1 : Array Nat := #[14, 4, 0, 1, 1, 6, 1, 16, 46, 1]
def C3 : Array Nat := #[14, 9, 4, 1, 2, 16, 10, 16, 13, 0, 7, 7, 16, 13, 16, 10, 15, 18, 5, 16, 10, 15, 13, 11, 16, 13, 5, 5, 0, 16, 10, 1, 15, 2, 0, 1]
/-- a state of the machine over our codes: no groups, no loops -/
abbrev St (code t : Array Nat) (start pc pos handed : Nat) (outermost : Bool) (frames : List Sre.Frame) (weight : Nat) (answer : Option Bool) (seen : Seen) (outcome : Option Sre.Outcome) : M :=
  { code, text := t, lim := t.size, start, lastStart := t.size, wholeText := false, mustAdvance := false, pc, pos, handed, outermost, marks := #[], lastmark := -1, lastindex := -1, loops := #[], inner := none,
    frames, weight, answer, seen, outcome }
abbrev fNS (pc pos : Nat) (o : Bool) : Sre.Frame := { wait := .nextStart, pc, pos, outermost := o }
abbrev K0 : Sre.Kept := { lastmark := -1, lastindex := -1, whole := false, marks := #[] }
section
variable {c t : Array Nat} {st pc pos hd : Nat} {o : Bool} {fs : List Sre.Frame} {wt : Nat} {sn : Seen}
theorem op_AT (hpc : pc < c.size) (hop : ops[c.getD pc 0]? = some .AT) (hk : c.getD (pc + 1) 0 = 1) : ∃ sn', (St c t st pc pos hd o fs wt none sn none).step =
    if pos = 0 ∨ t.getD (pos - 1) 0 = 10 then St c t st (pc + 2) pos hd o fs wt none sn' none else St c t st pc pos hd o fs wt (some false) sn' none := by
  refine ⟨(sn.add (c.getD pc 0)).add 44, ?_⟩
  have e : ∀ sn, (St c t st pc pos hd o fs wt none sn none).isAt 1 = .ok (decide (pos = 0 ∨ t.getD (pos - 1) 0 = 10)) := fun sn => by
    show Except.ok (pos == 0 || t.getD (pos - 1) 0 == 10) = _
    congr 1
    rw [Bool.eq_iff_iff]; simp
  have e0 : (St c t st pc pos hd o fs wt none sn none).word 0 = c.getD pc 0 := rfl
  have e1 : ∀ sn, (St c t st pc pos hd o fs wt none sn none).word 1 = 1 := fun _ => hk
  unfold M.step
  simp only [Option.isSome_none, Bool.false_eq_true, if_false, hpc, if_true]
  unfold M.exec
  simp only [e0, hop]
  rw [e1, e]
  by_cases h : pos = 0 ∨ t.getD (pos - 1) 0 = 10
  · simp only [h, decide_true, if_true]
  · simp only [h, decide_false, if_false, Bool.false_eq_true]; rfl
theorem op_LIT (hpc : pc < c.size) (hop : ops[c.getD pc 0]? = some .LITERAL) : ∃ sn', (St c t st pc pos hd o fs wt none sn none).step =
    if pos < t.size ∧ t.getD pos 0 = c.getD (pc + 1) 0 then St c t st (pc + 2) (pos + 1) hd o fs wt none sn' none else St c t st pc pos hd o fs wt (some false) sn' none := by
  refine ⟨sn.add (c.getD pc 0), ?_⟩
  have e0 : (St c t st pc pos hd o fs wt none sn none).word 0 = c.getD pc 0 := rfl
  have ea : ∀ k sn, accepts c pc k sn = .ok (k == c.getD (pc + 1) 0, sn) := fun k sn => by unfold accepts; rw [hop]
  have ew : itemWidth c pc = 2 := by unfold itemWidth; rw [hop]
  unfold M.step
  simp only [Option.isSome_none, Bool.false_eq_true, if_false, hpc, if_true]
  unfold M.exec
  simp only [e0, hop, ea, ew]
  by_cases h1 : pos < t.size
  · rw [if_neg (Nat.not_le.mpr h1)]
    by_cases h2 : t.getD pos 0 = c.getD (pc + 1) 0
    · simp only [h1, h2, true_and, if_true, beq_self_eq_true]
    · simp only [h1, h2, true_and, if_false, beq_eq_false_iff_ne.mpr h2]; rfl
  · rw [if_pos (Nat.le_of_not_lt h1)]
    simp only [h1, false_and, if_false]; rfl
theorem op_JUMP (hpc : pc < c.size) (hop : ops[c.getD pc 0]? = some .JUMP) : ∃ sn', (St c t st pc pos hd o fs wt none sn none).step = St c t st (pc + 1 + c.getD (pc + 1) 0) pos hd o fs wt none sn' none := by
  refine ⟨sn.add (c.getD pc 0), ?_⟩
  have e0 : (St c t st pc pos hd o fs wt none sn none).word 0 = c.getD pc 0 := rfl
  unfold M.step
  simp only [Option.isSome_none, Bool.false_eq_true, if_false, hpc, if_true]
  unfold M.exec
  simp only [e0, hop]; rfl
theorem op_SUCC (hpc : pc < c.size) (hop : ops[c.getD pc 0]? = some .SUCCESS) : ∃ sn', (St c t st pc pos hd o fs wt none sn none).step = St c t st pc pos pos o fs wt (some true) sn' none := by
  refine ⟨sn.add (c.getD pc 0), ?_⟩
  have e0 : (St c t st pc pos hd o fs wt none sn none).word 0 = c.getD pc 0 := rfl
  unfold M.step
  simp only [Option.isSome_none, Bool.false_eq_true, if_false, hpc, if_true]
  unfold M.exec
  simp only [e0, hop, Bool.false_and, Bool.or_false, Bool.and_false, Bool.false_eq_true, if_false]; rfl
theorem op_BRANCH (hpc : pc < c.size) (hop : ops[c.getD pc 0]? = some .BRANCH) (hz : c.getD (pc + 1) 0 ≠ 0) (hw : wt < 1000) : ∃ sn', (St c t st pc pos hd o fs wt none sn none).step =
    St c t st (pc + 2) pos pos o ({ wait := .nextBranch, pc := pc + 1, pos, outermost := o, kept := K0 } :: fs) (wt + 1) none sn' none := by
  refine ⟨sn.add (c.getD pc 0), ?_⟩
  have e0 : (St c t st pc pos hd o fs wt none sn none).word 0 = c.getD pc 0 := rfl
  unfold M.step
  simp only [Option.isSome_none, Bool.false_eq_true, if_false, hpc, if_true]
  unfold M.exec
  simp only [e0, hop]
  unfold M.alternative
  rw [if_neg (by simpa using hz)]
  unfold M.attempt
  rw [if_neg (by show ¬ wt + 1 + 0 > 16777216; omega)]; rfl
theorem op_NOT (hpc : pc < c.size) (hop : ops[c.getD pc 0]? = some .ASSERT_NOT) (hz : c.getD (pc + 2) 0 = 0) (hw : wt < 1000) : ∃ sn', (St c t st pc pos hd o fs wt none sn none).step =
    St c t st (pc + 3) pos pos false ({ wait := .lookNot, pc := pc, pos, outermost := o, kept := K0 } :: fs) (wt + 1) none sn' none := by
  refine ⟨sn.add (c.getD pc 0), ?_⟩
  have e0 : (St c t st pc pos hd o fs wt none sn none).word 0 = c.getD pc 0 := rfl
  have e2 : ∀ sn, (St c t st pc pos hd o fs wt none sn none).word 2 = 0 := fun _ => hz
  unfold M.step
  simp only [Option.isSome_none, Bool.false_eq_true, if_false, hpc, if_true]
  unfold M.exec
  simp only [e0, hop]
  rw [e2, if_neg (Nat.not_lt_zero _)]
  unfold M.attempt
  rw [if_neg (by show ¬ wt + 1 + 0 > 16777216; omega)]; rfl
theorem res_NB_yes {fpc fpos : Nat} {fo : Bool} : (St c t st pc pos hd o ({ wait := .nextBranch, pc := fpc, pos := fpos, outermost := fo, kept := K0 } :: fs) (wt + 1) (some true) sn none).step =
    St c t st fpc fpos hd fo fs wt (some true) sn none := by
  unfold M.step
  simp only [Option.isSome_none, Bool.false_eq_true, if_false]
  unfold M.resume
  simp only [if_true]; rfl
theorem res_NB_no {fpc fpos : Nat} {fo : Bool} (hz : c.getD (fpc + c.getD fpc 0) 0 ≠ 0) (hw : wt < 1000) :
    (St c t st pc pos hd o ({ wait := .nextBranch, pc := fpc, pos := fpos, outermost := fo, kept := K0 } :: fs) (wt + 1) (some false) sn none).step =
    St c t st (fpc + c.getD fpc 0 + 1) fpos fpos fo ({ wait := .nextBranch, pc := fpc + c.getD fpc 0, pos := fpos, outermost := fo, kept := K0 } :: fs) (wt + 1) none sn none := by
  unfold M.step
  simp only [Option.isSome_none, Bool.false_eq_true, if_false]
  unfold M.resume
  simp only [Bool.false_eq_true, if_false]
  unfold M.alternative
  rw [if_neg (by show ¬ ((c.getD (fpc + c.getD fpc 0) 0 == 0) = true); simpa using hz)]
  unfold M.attempt
  rw [if_neg (by show ¬ wt + 1 - 1 + 1 + 0 > 16777216; omega)]; rfl
theorem res_LN_no {fpc fpos : Nat} {fo : Bool} :
    (St c t st pc pos hd o ({ wait := .lookNot, pc := fpc, pos := fpos, outermost := fo, kept := K0 } :: fs) (wt + 1) (some false) sn none).step =
    St c t st (fpc + 1 + c.getD (fpc + 1) 0) fpos hd fo fs wt none sn none := by
  unfold M.step
  simp only [Option.isSome_none, Bool.false_eq_true, if_false]
  unfold M.resume
  simp only [Bool.false_eq_true, if_false]; rfl
theorem res_NS_yes {fpc fpos : Nat} {fo : Bool} : (St c t st pc pos hd o (fNS fpc fpos fo :: fs) (wt + 1) (some true) sn none).step = St c t st fpc fpos hd fo fs wt (some true) sn none := by
  unfold M.step
  simp only [Option.isSome_none, Bool.false_eq_true, if_false]
  unfold M.resume
  simp only [if_true]; rfl
theorem res_NS_end {fpc fpos : Nat} {fo : Bool} (h : ¬ fpos < t.size) : (St c t st pc pos hd o (fNS fpc fpos fo :: fs) (wt + 1) (some false) sn none).step = St c t st fpc fpos hd fo fs wt (some false) sn none := by
  unfold M.step
  simp only [Option.isSome_none, Bool.false_eq_true, if_false]
  unfold M.resume
  simp only [Bool.false_eq_true, if_false, h]; rfl
theorem res_NS_more {fpc fpos : Nat} {fo : Bool} (h : fpos < t.size) (hf : (St c t st fpc fpos hd fo fs wt none sn none).hasFirstSet = false) (hw : wt < 1000) :
    (St c t st pc pos hd o (fNS fpc fpos fo :: fs) (wt + 1) (some false) sn none).step =
      St c t (fpos + 1) fpc (fpos + 1) (fpos + 1) false (fNS fpc (fpos + 1) false :: fs) (wt + 1) none sn none := by
  unfold M.step
  simp only [Option.isSome_none, Bool.false_eq_true, if_false]
  unfold M.resume
  simp only [Bool.false_eq_true, if_false, h, if_true]
  unfold M.attemptFrom
  rw [if_pos (by show (!(St c t st fpc fpos hd fo fs wt none sn none).hasFirstSet) = true; rw [hf]; rfl)]
  unfold M.attemptAt M.attempt
  rw [if_neg (by show ¬ wt + 1 - 1 + 1 + 0 > 16777216; omega)]; rfl
theorem fin_yes : (St c t st pc pos hd o [] wt (some true) sn none).step = St c t st pc pos hd o [] wt (some true) sn (some .matched) := rfl
theorem fin_no : (St c t st pc pos hd o [] wt (some false) sn none).step = St c t st pc pos hd o [] wt (some false) sn (some .failed) := rfl
end
/-! the first pattern: a dot at a row's head -/
theorem hfs1 {t : Array Nat} {st pc pos hd : Nat} {o : Bool} {fs : List Sre.Frame} {wt : Nat} {sn : Seen} : (St C1 t st pc pos hd o fs wt none sn none).hasFirstSet = false := rfl
/-- a dot stands at p, at a row's head -/
def DotAt (t : Array Nat) (p : Nat) : Prop := p < t.size ∧ t.getD p 0 = 46 ∧ (p = 0 ∨ t.getD (p - 1) 0 = 10)
abbrev A1 (t : Array Nat) (s hd : Nat) (o : Bool) (sn : Seen) : M := St C1 t s 5 s hd o [fNS 5 s o] 1 none sn none
theorem try1_yes {t : Array Nat} {s hd : Nat} {o : Bool} (sn : Seen) (h : DotAt t s) : ∃ sn', Goes 5 (A1 t s hd o sn) (St C1 t s 5 s (s + 1) o [] 0 (some true) sn' (some .matched)) := by
  obtain ⟨h1, h2, h3⟩ := h
  obtain ⟨a1, e1⟩ := op_AT (c := C1) (t := t) (st := s) (pc := 5) (pos := s) (hd := hd) (o := o) (fs := [fNS 5 s o]) (wt := 1) (sn := sn) (by decide) rfl rfl
  rw [if_pos h3] at e1
  obtain ⟨a2, e2⟩ := op_LIT (c := C1) (t := t) (st := s) (pc := 7) (pos := s) (hd := hd) (o := o) (fs := [fNS 5 s o]) (wt := 1) (sn := a1) (by decide) rfl
  rw [if_pos ⟨h1, h2⟩] at e2
  obtain ⟨a3, e3⟩ := op_SUCC (c := C1) (t := t) (st := s) (pc := 9) (pos := s + 1) (hd := hd) (o := o) (fs := [fNS 5 s o]) (wt := 1) (sn := a2) (by decide) rfl
  exact ⟨a3, .cons rfl e1 (.cons rfl e2 (.cons rfl e3 (.cons rfl (res_NS_yes (wt := 0)) (.cons rfl fin_yes (.refl _)))))⟩
theorem try1_no {t : Array Nat} {s hd : Nat} {o : Bool} (sn : Seen) (h : ¬ DotAt t s) : ∃ sn' pc', Goes 2 (A1 t s hd o sn) (St C1 t s pc' s hd o [fNS 5 s o] 1 (some false) sn' none) := by
  obtain ⟨a1, e1⟩ := op_AT (c := C1) (t := t) (st := s) (pc := 5) (pos := s) (hd := hd) (o := o) (fs := [fNS 5 s o]) (wt := 1) (sn := sn) (by decide) rfl rfl
  by_cases h3 : s = 0 ∨ t.getD (s - 1) 0 = 10
  · rw [if_pos h3] at e1
    obtain ⟨a2, e2⟩ := op_LIT (c := C1) (t := t) (st := s) (pc := 7) (pos := s) (hd := hd) (o := o) (fs := [fNS 5 s o]) (wt := 1) (sn := a1) (by decide) rfl
    rw [if_neg (fun x => h ⟨x.1, x.2, h3⟩)] at e2
    exact ⟨a2, 7, .cons rfl e1 (.cons rfl e2 (.refl _))⟩
  · rw [if_neg h3] at e1
    exact ⟨a1, 5, (Goes.cons rfl e1 (.refl _)).le (by omega)⟩
/-- the search from s on -/
theorem search1_yes {t : Array Nat} {p : Nat} (hp : DotAt t p) : ∀ (k s hd : Nat) (o : Bool) (sn : Seen), s + k = p → (∀ q, s ≤ q → q < p → ¬ DotAt t q) →
    ∃ pc' o' sn', Goes (3 * k + 5) (A1 t s hd o sn) (St C1 t p pc' p (p + 1) o' [] 0 (some true) sn' (some .matched)) := by
  intro k
  induction k with
  | zero => intro s hd o sn e _; rw [Nat.add_zero] at e; subst e; obtain ⟨sn', g⟩ := try1_yes (hd := hd) (o := o) sn hp; exact ⟨5, o, sn', g.le (by omega)⟩
  | succ k ih =>
    intro s hd o sn e hno
    have hlt : s < t.size := by have := hp.1; omega
    obtain ⟨sn', pc', g⟩ := try1_no (hd := hd) (o := o) sn (hno s (Nat.le_refl _) (by omega))
    obtain ⟨pc'', o', sn'', g'⟩ := ih (s + 1) (s + 1) false sn' (by omega) (fun q h1 h2 => hno q (by omega) h2)
    exact ⟨pc'', o', sn'', (g.trans (Goes.cons rfl (res_NS_more (wt := 0) hlt hfs1 (by decide)) g')).le (by omega)⟩
theorem search1_no {t : Array Nat} : ∀ (k s hd : Nat) (o : Bool) (sn : Seen), s + k = t.size → (∀ q, s ≤ q → ¬ DotAt t q) →
    ∃ m, Goes (3 * k + 5) (A1 t s hd o sn) m ∧ m.outcome = some .failed := by
  intro k
  induction k with
  | zero =>
    intro s hd o sn e hno
    obtain ⟨sn', pc', g⟩ := try1_no (hd := hd) (o := o) sn (hno s (Nat.le_refl _))
    exact ⟨_, (g.trans (Goes.cons rfl (res_NS_end (wt := 0) (by omega)) (.cons rfl fin_no (.refl _)))).le (by omega), rfl⟩
  | succ k ih =>
    intro s hd o sn e hno
    have hlt : s < t.size := by omega
    obtain ⟨sn', pc', g⟩ := try1_no (hd := hd) (o := o) sn (hno s (Nat.le_refl _))
    obtain ⟨m, g', hm⟩ := ih (s + 1) (s + 1) false sn' (by omega) (fun q h1 => hno q (by omega))
    exact ⟨m, (g.trans (Goes.cons rfl (res_NS_more (wt := 0) hlt hfs1 (by decide)) g')).le (by omega), hm⟩
theorem forSearch1 {t : Array Nat} {s : Nat} (h : s < t.size) : ∃ sn hd, forSearch C1 t 0 s t.size false = A1 t s hd true sn := by
  refine ⟨({} : Seen).add 14, s, ?_⟩
  unfold forSearch
  rw [if_neg (by show ¬ ((decide (s > t.size) || decide (t.size - s < 1)) = true); simp; omega)]
  unfold M.attemptFrom
  exact (if_pos rfl).trans rfl
theorem forSearch1_end {t : Array Nat} {s : Nat} (h : ¬ s < t.size) : ∃ m, forSearch C1 t 0 s t.size false = m ∧ m.outcome = none ∧ m.step.outcome = some .failed := by
  refine ⟨_, rfl, ?_⟩
  unfold forSearch
  rw [if_pos (by show ((decide (s > t.size) || decide (t.size - s < 1)) = true); simp; omega)]
  exact ⟨rfl, rfl⟩
theorem find1_yes {t : Array Nat} {s p : Nat} (hp : DotAt t p) (hs : s ≤ p) (hno : ∀ q, s ≤ q → q < p → ¬ DotAt t q) :
    ∃ m, Goes (4 * t.size + 8) (forSearch C1 t 0 s t.size false) m ∧ m.outcome = some .matched ∧ m.start = p ∧ m.handed = p + 1 := by
  have hlt : p < t.size := hp.1
  obtain ⟨sn, hd, e⟩ := forSearch1 (t := t) (s := s) (by omega)
  obtain ⟨pc', o', sn', g⟩ := search1_yes hp (p - s) s hd true sn (by omega) hno
  exact ⟨_, e ▸ g.le (by omega), rfl, rfl, rfl⟩
theorem find1_no {t : Array Nat} {s : Nat} (hno : ∀ q, s ≤ q → ¬ DotAt t q) :
    ∃ m, Goes (4 * t.size + 8) (forSearch C1 t 0 s t.size false) m ∧ m.outcome = some .failed := by
  by_cases h : s < t.size
  · obtain ⟨sn, hd, e⟩ := forSearch1 h
    obtain ⟨m, g, hm⟩ := search1_no (t.size - s) s hd true sn (by omega) hno
    exact ⟨m, e ▸ g.le (by omega), hm⟩
  · obtain ⟨m, e, h1, h2⟩ := forSearch1_end h
    exact ⟨m.step, by rw [e]; exact (Goes.step h1 rfl).le (by omega), h2⟩
/-! the third pattern: a line end -/
def EndAt (t : Array Nat) (p : Nat) : Prop := p < t.size ∧ (t.getD p 0 = 10 ∨ t.getD p 0 = 13)
def endLen (t : Array Nat) (p : Nat) : Nat := if t.getD p 0 = 13 ∧ p + 1 < t.size ∧ t.getD (p + 1) 0 = 10 then 2 else 1
theorem inSet3 (k : Nat) (sn : Seen) : ∃ sn', inSet C3 k C3.size 5 true sn = .ok (decide (k = 10 ∨ k = 13), sn') := by
  by_cases h : k = 10
  · refine ⟨sn.add 16, ?_⟩
    subst h; rfl
  · by_cases h' : k = 13
    · refine ⟨(sn.add 16).add 16, ?_⟩
      subst h'; rfl
    · refine ⟨((sn.add 16).add 16).add 0, ?_⟩
      have e1 : (k == 10) = false := beq_eq_false_iff_ne.mpr h
      have e2 : (k == 13) = false := beq_eq_false_iff_ne.mpr h'
      have e3 : decide (k = 10 ∨ k = 13) = false := by simp [h, h']
      rw [e3]
      show inSet C3 k 36 5 true sn = _
      unfold inSet
      show (if (k == 10) = true then _ else inSet C3 k 35 7 true (sn.add 16)) = _
      rw [e1]
      simp only [Bool.false_eq_true, if_false]
      unfold inSet
      show (if (k == 13) = true then _ else inSet C3 k 34 9 true ((sn.add 16).add 16)) = _
      rw [e2]
      simp only [Bool.false_eq_true, if_false]
      rfl
theorem admit3_yes {m : M} {t : Array Nat} (hc : m.code = C3) (ht : m.text = t) (hl : m.lim = t.size) {p : Nat} (hp : EndAt t p) : ∀ (k s fuel : Nat) (sn : Seen), s + k = p → k < fuel → (∀ q, s ≤ q → q < p → ¬ EndAt t q) →
    ∃ sn', M.admitted m fuel s sn = .ok (some p, sn') := by
  intro k
  induction k with
  | zero =>
    intro s fuel sn e hf _
    obtain ⟨f, rfl⟩ : ∃ f, fuel = f + 1 := ⟨fuel - 1, by omega⟩
    rw [Nat.add_zero] at e; subst e
    have hlt : s < t.size := hp.1
    obtain ⟨sn', h⟩ := inSet3 (t.getD s 0) sn
    refine ⟨sn', ?_⟩
    unfold M.admitted
    rw [if_neg (by rw [hl]; omega), hc, ht, h, decide_eq_true hp.2]
  | succ k ih =>
    intro s fuel sn e hf hno
    obtain ⟨f, rfl⟩ : ∃ f, fuel = f + 1 := ⟨fuel - 1, by omega⟩
    have hlt : s < t.size := by have : p < t.size := hp.1; omega
    obtain ⟨sn', h⟩ := inSet3 (t.getD s 0) sn
    obtain ⟨sn'', h'⟩ := ih (s + 1) f sn' (by omega) (by omega) (fun q h1 h2 => hno q (by omega) h2)
    refine ⟨sn'', ?_⟩
    unfold M.admitted
    rw [if_neg (by rw [hl]; omega), hc, ht, h, decide_eq_false (fun x => hno s (Nat.le_refl _) (by omega) ⟨hlt, x⟩)]
    exact h'
theorem admit3_no {m : M} {t : Array Nat} (hc : m.code = C3) (ht : m.text = t) (hl : m.lim = t.size) : ∀ (fuel s : Nat) (sn : Seen), (∀ q, s ≤ q → ¬ EndAt t q) →
    ∃ sn', M.admitted m fuel s sn = .ok (none, sn') := by
  intro fuel
  induction fuel with
  | zero => intro s sn _; exact ⟨sn, rfl⟩
  | succ f ih =>
    intro s sn hno
    unfold M.admitted
    by_cases hlt : s < t.size
    · obtain ⟨sn', h⟩ := inSet3 (t.getD s 0) sn
      obtain ⟨sn'', h'⟩ := ih (s + 1) sn' (fun q h1 => hno q (by omega))
      refine ⟨sn'', ?_⟩
      rw [if_neg (by rw [hl]; omega), hc, ht, h, decide_eq_false (fun x => hno s (Nat.le_refl _) ⟨hlt, x⟩)]
      exact h'
    · exact ⟨sn, by rw [if_pos (by rw [hl]; omega)]⟩
abbrev A3 (t : Array Nat) (s : Nat) (sn : Seen) : M := St C3 t s 10 s s true [fNS 10 s true] 1 none sn none
abbrev fNB (fpc pos : Nat) : Sre.Frame := { wait := .nextBranch, pc := fpc, pos, outermost := true, kept := K0 }
theorem try3_rn {t : Array Nat} {s : Nat} (sn : Seen) (h1 : s + 1 < t.size) (h2 : t.getD s 0 = 13) (h3 : t.getD (s + 1) 0 = 10) :
    ∃ pc' sn', Goes 9 (A3 t s sn) (St C3 t s pc' s (s + 2) true [] 0 (some true) sn' (some .matched)) := by
  obtain ⟨a1, e1⟩ := op_BRANCH (c := C3) (t := t) (st := s) (pc := 10) (pos := s) (hd := s) (o := true) (fs := [fNS 10 s true]) (wt := 1) (sn := sn) (by decide) rfl (by decide) (by decide)
  obtain ⟨a2, e2⟩ := op_LIT (c := C3) (t := t) (st := s) (pc := 12) (pos := s) (hd := s) (o := true) (fs := [fNB 11 s, fNS 10 s true]) (wt := 2) (sn := a1) (by decide) rfl
  rw [if_pos ⟨by omega, h2⟩] at e2
  obtain ⟨a3, e3⟩ := op_LIT (c := C3) (t := t) (st := s) (pc := 14) (pos := s + 1) (hd := s) (o := true) (fs := [fNB 11 s, fNS 10 s true]) (wt := 2) (sn := a2) (by decide) rfl
  rw [if_pos ⟨h1, h3⟩] at e3
  obtain ⟨a4, e4⟩ := op_JUMP (c := C3) (t := t) (st := s) (pc := 16) (pos := s + 2) (hd := s) (o := true) (fs := [fNB 11 s, fNS 10 s true]) (wt := 2) (sn := a3) (by decide) rfl
  obtain ⟨a5, e5⟩ := op_SUCC (c := C3) (t := t) (st := s) (pc := 35) (pos := s + 2) (hd := s) (o := true) (fs := [fNB 11 s, fNS 10 s true]) (wt := 2) (sn := a4) (by decide) rfl
  exact ⟨10, a5, .cons rfl e1 (.cons rfl e2 (.cons rfl e3 (.cons rfl e4 (.cons rfl e5 (.cons rfl (res_NB_yes (wt := 1)) (.cons rfl (res_NS_yes (wt := 0)) (.cons rfl fin_yes ((Goes.refl _).le (by decide)))))))))⟩
theorem try3_n {t : Array Nat} {s : Nat} (sn : Seen) (h1 : s < t.size) (h2 : t.getD s 0 = 10) :
    ∃ pc' sn', Goes 12 (A3 t s sn) (St C3 t s pc' s (s + 1) true [] 0 (some true) sn' (some .matched)) := by
  obtain ⟨a1, e1⟩ := op_BRANCH (c := C3) (t := t) (st := s) (pc := 10) (pos := s) (hd := s) (o := true) (fs := [fNS 10 s true]) (wt := 1) (sn := sn) (by decide) rfl (by decide) (by decide)
  obtain ⟨a2, e2⟩ := op_LIT (c := C3) (t := t) (st := s) (pc := 12) (pos := s) (hd := s) (o := true) (fs := [fNB 11 s, fNS 10 s true]) (wt := 2) (sn := a1) (by decide) rfl
  rw [if_neg (fun x => by have := x.2; rw [h2] at this; exact absurd this (by decide))] at e2
  obtain ⟨a3, e3⟩ := op_LIT (c := C3) (t := t) (st := s) (pc := 19) (pos := s) (hd := s) (o := true) (fs := [fNB 18 s, fNS 10 s true]) (wt := 2) (sn := a2) (by decide) rfl
  rw [if_pos ⟨h1, h2⟩] at e3
  obtain ⟨a4, e4⟩ := op_JUMP (c := C3) (t := t) (st := s) (pc := 21) (pos := s + 1) (hd := s) (o := true) (fs := [fNB 18 s, fNS 10 s true]) (wt := 2) (sn := a3) (by decide) rfl
  obtain ⟨a5, e5⟩ := op_SUCC (c := C3) (t := t) (st := s) (pc := 35) (pos := s + 1) (hd := s) (o := true) (fs := [fNB 18 s, fNS 10 s true]) (wt := 2) (sn := a4) (by decide) rfl
  exact ⟨10, a5, .cons rfl e1 (.cons rfl e2 (.cons rfl (res_NB_no (c := C3) (fpc := 11) (wt := 1) (by decide) (by decide)) (.cons rfl e3 (.cons rfl e4 (.cons rfl e5 (.cons rfl (res_NB_yes (wt := 1)) (.cons rfl (res_NS_yes (wt := 0)) (.cons rfl fin_yes ((Goes.refl _).le (by decide))))))))))⟩
theorem try3_r {t : Array Nat} {s : Nat} (sn : Seen) (h1 : s < t.size) (h2 : t.getD s 0 = 13) (h3 : ¬ (s + 1 < t.size ∧ t.getD (s + 1) 0 = 10)) :
    ∃ pc' sn', Goes 20 (A3 t s sn) (St C3 t s pc' s (s + 1) true [] 0 (some true) sn' (some .matched)) := by
  obtain ⟨a1, e1⟩ := op_BRANCH (c := C3) (t := t) (st := s) (pc := 10) (pos := s) (hd := s) (o := true) (fs := [fNS 10 s true]) (wt := 1) (sn := sn) (by decide) rfl (by decide) (by decide)
  obtain ⟨a2, e2⟩ := op_LIT (c := C3) (t := t) (st := s) (pc := 12) (pos := s) (hd := s) (o := true) (fs := [fNB 11 s, fNS 10 s true]) (wt := 2) (sn := a1) (by decide) rfl
  rw [if_pos ⟨h1, h2⟩] at e2
  obtain ⟨a3, e3⟩ := op_LIT (c := C3) (t := t) (st := s) (pc := 14) (pos := s + 1) (hd := s) (o := true) (fs := [fNB 11 s, fNS 10 s true]) (wt := 2) (sn := a2) (by decide) rfl
  rw [if_neg (fun x => h3 ⟨x.1, x.2⟩)] at e3
  obtain ⟨a4, e4⟩ := op_LIT (c := C3) (t := t) (st := s) (pc := 19) (pos := s) (hd := s) (o := true) (fs := [fNB 18 s, fNS 10 s true]) (wt := 2) (sn := a3) (by decide) rfl
  rw [if_neg (fun x => by have := x.2; rw [h2] at this; exact absurd this (by decide))] at e4
  obtain ⟨a5, e5⟩ := op_LIT (c := C3) (t := t) (st := s) (pc := 24) (pos := s) (hd := s) (o := true) (fs := [fNB 23 s, fNS 10 s true]) (wt := 2) (sn := a4) (by decide) rfl
  rw [if_pos ⟨h1, h2⟩] at e5
  obtain ⟨a6, e6⟩ := op_NOT (c := C3) (t := t) (st := s) (pc := 26) (pos := s + 1) (hd := s) (o := true) (fs := [fNB 23 s, fNS 10 s true]) (wt := 2) (sn := a5) (by decide) rfl (by decide) (by decide)
  obtain ⟨a7, e7⟩ := op_LIT (c := C3) (t := t) (st := s) (pc := 29) (pos := s + 1) (hd := s + 1) (o := false) (fs := [{ wait := .lookNot, pc := 26, pos := s + 1, outermost := true, kept := K0 }, fNB 23 s, fNS 10 s true]) (wt := 3) (sn := a6) (by decide) rfl
  rw [if_neg (fun x => h3 ⟨x.1, x.2⟩)] at e7
  obtain ⟨a8, e8⟩ := op_JUMP (c := C3) (t := t) (st := s) (pc := 32) (pos := s + 1) (hd := s + 1) (o := true) (fs := [fNB 23 s, fNS 10 s true]) (wt := 2) (sn := a7) (by decide) rfl
  obtain ⟨a9, e9⟩ := op_SUCC (c := C3) (t := t) (st := s) (pc := 35) (pos := s + 1) (hd := s + 1) (o := true) (fs := [fNB 23 s, fNS 10 s true]) (wt := 2) (sn := a8) (by decide) rfl
  exact ⟨10, a9, .cons rfl e1 (.cons rfl e2 (.cons rfl e3 (.cons rfl (res_NB_no (c := C3) (fpc := 11) (wt := 1) (by decide) (by decide)) (.cons rfl e4 (.cons rfl (res_NB_no (c := C3) (fpc := 18) (wt := 1) (by decide) (by decide))
    (.cons rfl e5 (.cons rfl e6 (.cons rfl e7 (.cons rfl (res_LN_no (c := C3) (fpc := 26) (wt := 2)) (.cons rfl e8 (.cons rfl e9 (.cons rfl (res_NB_yes (wt := 1)) (.cons rfl (res_NS_yes (wt := 0)) (.cons rfl fin_yes ((Goes.refl _).le (by decide))))))))))))))))⟩
theorem try3 {t : Array Nat} {s : Nat} (sn : Seen) (h : EndAt t s) : ∃ pc' sn', Goes 20 (A3 t s sn) (St C3 t s pc' s (s + endLen t s) true [] 0 (some true) sn' (some .matched)) := by
  obtain ⟨h1, h2 | h2⟩ := h
  · have e : endLen t s = 1 := by unfold endLen; rw [if_neg (fun x => by have := x.1; rw [h2] at this; exact absurd this (by decide))]
    obtain ⟨pc', sn', g⟩ := try3_n sn h1 h2
    exact ⟨pc', sn', by rw [e]; exact g.le (by decide)⟩
  · by_cases h3 : s + 1 < t.size ∧ t.getD (s + 1) 0 = 10
    · have e : endLen t s = 2 := by unfold endLen; rw [if_pos ⟨h2, h3⟩]
      obtain ⟨pc', sn', g⟩ := try3_rn sn h3.1 h2 h3.2
      exact ⟨pc', sn', by rw [e]; exact g.le (by decide)⟩
    · have e : endLen t s = 1 := by unfold endLen; rw [if_neg (fun x => h3 x.2)]
      obtain ⟨pc', sn', g⟩ := try3_r sn h1 h2 h3
      exact ⟨pc', sn', by rw [e]; exact g⟩
theorem forSearch3 {t : Array Nat} {s : Nat} (h : s < t.size) : forSearch C3 t 0 s t.size false = M.attemptFrom (St C3 t s 10 s s true [] 0 none (({} : Seen).add 14) none) s true := by
  unfold forSearch
  exact (if_neg (by show ¬ ((decide (s > t.size) || decide (t.size - s < 1)) = true); simp; omega)).trans rfl
theorem forSearch3_end {t : Array Nat} {s : Nat} (h : ¬ s < t.size) : ∃ m, forSearch C3 t 0 s t.size false = m ∧ m.outcome = none ∧ m.step.outcome = some .failed := by
  refine ⟨_, rfl, ?_⟩
  unfold forSearch
  rw [if_pos (by show ((decide (s > t.size) || decide (t.size - s < 1)) = true); simp; omega)]
  exact ⟨rfl, rfl⟩
theorem find3_yes {t : Array Nat} {s p : Nat} (hp : EndAt t p) (hs : s ≤ p) (hno : ∀ q, s ≤ q → q < p → ¬ EndAt t q) :
    ∃ m, Goes (4 * t.size + 20) (forSearch C3 t 0 s t.size false) m ∧ m.outcome = some .matched ∧ m.start = p ∧ m.handed = p + endLen t p := by
  have hlt : p < t.size := hp.1
  obtain ⟨sn1, h1⟩ := admit3_yes (m := St C3 t s 10 s s true [] 0 none (({} : Seen).add 14) none) rfl rfl rfl hp (p - s) s (t.size + 1 - s) (({} : Seen).add 14) (by omega) (by omega) hno
  have e : ∃ sn', forSearch C3 t 0 s t.size false = A3 t p sn' := by
    refine ⟨sn1, ?_⟩
    rw [forSearch3 (by omega)]
    unfold M.attemptFrom
    refine (if_neg (by exact Bool.false_ne_true)).trans ?_
    rw [h1]; rfl
  obtain ⟨sn', e⟩ := e
  obtain ⟨pc', sn'', g⟩ := try3 sn' hp
  exact ⟨_, by rw [e]; exact g.le (by omega), rfl, rfl, rfl⟩
theorem find3_no {t : Array Nat} {s : Nat} (hno : ∀ q, s ≤ q → ¬ EndAt t q) : ∃ m, Goes (4 * t.size + 20) (forSearch C3 t 0 s t.size false) m ∧ m.outcome = some .failed := by
  by_cases h : s < t.size
  · obtain ⟨sn1, h1⟩ := admit3_no (m := St C3 t s 10 s s true [] 0 none (({} : Seen).add 14) none) rfl rfl rfl (t.size + 1 - s) s (({} : Seen).add 14) hno
    have e : forSearch C3 t 0 s t.size false = St C3 t s 10 s s true [] 0 (some false) sn1 none := by
      rw [forSearch3 h]
      unfold M.attemptFrom
      refine (if_neg (by exact Bool.false_ne_true)).trans ?_
      rw [h1]; rfl
    exact ⟨_, by rw [e]; exact (Goes.step rfl fin_no).le (by omega), rfl⟩
  · obtain ⟨m, e, h1, h2⟩ := forSearch3_end h
    exact ⟨m.step, by rw [e]; exact (Goes.step h1 rfl).le (by omega), h2⟩
end Mine
end

section
open PySem PySem.W PyProof.Rows PySem.Calls PySem.Builtin PySem.Builtin.Re
set_option maxRecDepth 100000
namespace Mine
/-! the built-in sub: facts of the type -/
theorem pat_getattribute : typeLookup (.type "re.Pattern") "__getattribute__" = pure (some (.builtin "object.__getattribute__")) := by rw [typeLookup_type, builtinLookup_eq_fast]; kernel_rfl
theorem pat_getattr : typeLookup (.type "re.Pattern") "__getattr__" = pure none := by rw [typeLookup_type, builtinLookup_eq_fast]; kernel_rfl
theorem canon_object_getattribute : (Manifest.canonical "object.__getattribute__" != "object.__getattribute__") = false := by decide +kernel
theorem type_pat_sub : typeOf (.builtin "re.Pattern.sub") = pure (.type "method_descriptor") := by show builtinType _ = _; rw [builtinType_eq_fast]; kernel_rfl
theorem slot_pat_sub : Slot "re.Pattern" "sub" "re.Pattern.sub" :=
  .of (owner := "re.Pattern") (n := "sub") (by rw [typeLookup_type, builtinLookup_eq_fast]; kernel_rfl) (by decide +kernel) (by decide +kernel) (by decide +kernel)
    (by first | exact .inl (by decide +kernel) | exact .inr (by decide +kernel)) (by rw [isSubtype_type]; kernel_rfl)
theorem entry_pat_sub : entryFor table "re.Pattern.sub" = some Builtin.«re.Pattern.sub» := entryFor_of_fast (by kernel_rfl)
theorem entry_pat_loop : entryFor table "re.Pattern.sub.loop" = some Builtin.«re.Pattern.sub.loop» := entryFor_of_fast (by kernel_rfl)
theorem args_pat_sub (p r x : Value) : argsOk "re.Pattern.sub" ⟨[p, r, x], []⟩ := by unfold argsOk; kernel_rfl
theorem plain_pat_loop : plainId "re.Pattern.sub.loop" = true := by decide +kernel
theorem str_call : typeLookup (.type "str") "__call__" = pure none := by rw [typeLookup_type, builtinLookup_eq_fast]; kernel_rfl
theorem bytes_call : typeLookup (.type "bytes") "__call__" = pure none := by rw [typeLookup_type, builtinLookup_eq_fast]; kernel_rfl
theorem buf_q (id : String) (b : Array UInt8) (t : Tok) : Builtin.Bytes.bufferQuiet? id (.bytes b t) = pure (some b) := by kernel_rfl
theorem named_sub (r x : Value) : reNamed "re.Pattern.sub" "sub" ["repl", "string", "count"] 2 [r, x] [] = pure [some r, some x, none] := by kernel_rfl
section
variable {M : Model} {A : Around} {E : Value → Shared → Prop} {s : Shared}
theorem getMethod_sub {l : Addr} {o : Obj} {pl : Sem Bool} {Q : Value × List Value → Shared → Prop} (ho : s.heap.get? l = some o) (hc : o.cls = .type "re.Pattern") (hd : o.dict = none)
    (h : Q (.builtin "re.Pattern.sub", [.ref l]) s) : wpAny M A (getMethod (.ref l) "sub" pl) Q E s := by
  have hT : s.TypeIs (.ref l) "re.Pattern" := ⟨o, ho, hc⟩
  unfold getMethod
  refine wpAny_bind (wpAny_specialOf hT pat_getattribute ?_)
  show wpAny M A (if (Manifest.canonical "object.__getattribute__" != "object.__getattribute__") = true then _ else _) Q E s
  rw [canon_object_getattribute, if_neg Bool.false_ne_true]
  refine wpAny_bind (wpAny_specialOf hT pat_getattr ?_)
  refine wpAny_bind (wpAny_specialOf hT slot_pat_sub.lookup ?_)
  refine wpAny_bind (wpAny_of_eq type_pat_sub ?_)
  refine wpAny_bind (wpAny_load ho ?_)
  rw [hd]
  exact wpAny_bind (wpAny_rule (wpAny_pure h))
/-- a pattern without groups: its code and its kind -/
def PatAt (h : Heap) (pat : Addr) (C : Array Nat) (kind : Int) : Prop := ∃ po co ct pv fl codes n, h.get? pat = some po ∧ po.cls = .type "re.Pattern" ∧ po.dict = none ∧
  po.data = .fields #[pv, fl, .int 0 0, .none, .none, .ref ct, .int kind 0] ∧ h.get? ct = some co ∧ co.data = .seq codes n ∧ (codes.map reRawOf).map (·.toNat) = C
theorem PatAt.keeps {h h' : Heap} {pat : Addr} {C : Array Nat} {kind : Int} (x : PatAt h pat C kind) (k : Ups h h') : PatAt h' pat C kind :=
  let ⟨po, co, ct, pv, fl, codes, n, a, b, c, d, e, f⟩ := x; ⟨po, co, ct, pv, fl, codes, n, k _ _ a, b, c, d, k _ _ e, f⟩
theorem wp_rawItems {ct : Addr} {co : Obj} {codes : Array Value} {n : Nat} {Q : Array Int → Shared → Prop} (ho : s.heap.get? ct = some co) (hd : co.data = .seq codes n) (h : Q (codes.map reRawOf) s) :
    wpAny M A (reRawItems (.ref ct)) Q E s := by
  unfold reRawItems
  exact wpAny_bind (wpAny_seqItems ho hd (wpAny_pure h))
theorem wp_target {pat : Addr} {C : Array Nat} {x : Str} {tx : Tok} {Q : ReTarget → Shared → Prop} (hp : PatAt s.heap pat C 0)
    (h : Q { pattern := .ref pat, string := .str x tx, code := C, text := x.cps, kind := 0, groups := 0, pos := 0, lim := x.cps.size } s) :
    wpAny M A (reWholeTarget (.ref pat) (.str x tx)) Q E s := by
  obtain ⟨po, co, ct, pv, fl, codes, n, h1, _, _, h2, h3, h4, rfl⟩ := hp
  unfold reWholeTarget
  refine wpAny_bind (wpAny_fieldsOf h1 h2 ?_)
  refine wpAny_bind (wpAny_of_eq (a := (x.cps, 0)) rfl ?_)
  refine wpAny_bind (wpAny_of_eq (a := ()) rfl ?_)
  refine wpAny_bind (wp_rawItems h3 h4 ?_)
  exact wpAny_pure h
theorem wp_targetB {pat : Addr} {C : Array Nat} {x : Array UInt8} {tx : Tok} {Q : ReTarget → Shared → Prop} (hp : PatAt s.heap pat C 1)
    (h : Q { pattern := .ref pat, string := .bytes x tx, code := C, text := x.map (·.toNat), kind := 1, groups := 0, pos := 0, lim := (x.map (·.toNat)).size } s) :
    wpAny M A (reWholeTarget (.ref pat) (.bytes x tx)) Q E s := by
  obtain ⟨po, co, ct, pv, fl, codes, n, h1, _, _, h2, h3, h4, rfl⟩ := hp
  unfold reWholeTarget
  refine wpAny_bind (wpAny_fieldsOf h1 h2 ?_)
  refine wpAny_bind (wpAny_of_eq (a := (x.map (·.toNat), 1)) (by kernel_rfl) ?_)
  refine wpAny_bind (wpAny_of_eq (a := ()) (by kernel_rfl) ?_)
  refine wpAny_bind (wp_rawItems h3 h4 ?_)
  exact wpAny_pure h
/-- the machine's turns -/
theorem wp_drive {m' : Sre.M} {Q : Sre.M → Shared → Prop} (ho : m'.outcome.isSome = true) (hQ : Q m' s) : ∀ (n K : Nat) (m : Sre.M), Sre.M.runFor K m = m' → K < 4 * n → wpAny M A (reDrive n m) Q E s := by
  intro n
  induction n with
  | zero => intro K m _ h; omega
  | succ n ih =>
    intro K m hK hlt
    unfold reDrive
    show wpAny M A (if (Sre.M.runFor 4 m).outcome.isSome = true then pure (Sre.M.runFor 4 m) else _) Q E s
    by_cases h : (Sre.M.runFor 4 m).outcome.isSome = true
    · rw [if_pos h]
      refine wpAny_pure ?_
      have : Sre.M.runFor 4 m = m' := by
        by_cases hle : K ≤ 4
        · obtain ⟨d, hd⟩ : ∃ d, 4 = K + d := ⟨4 - K, by omega⟩
          rw [hd, runFor_add, hK, runFor_some ho]
        · obtain ⟨d, hd⟩ : ∃ d, K = 4 + d := ⟨K - 4, by omega⟩
          rw [hd, runFor_add, runFor_some h] at hK; exact hK
      rw [this]; exact hQ
    · rw [if_neg h]
      refine wpAny_bind (wpAny_rule ?_)
      have hgt : 4 < K := by
        by_cases hle : K ≤ 4
        · obtain ⟨d, hd⟩ : ∃ d, 4 = K + d := ⟨4 - K, by omega⟩
          rw [hd, runFor_add, hK, runFor_some ho] at h; exact absurd ho h
        · omega
      obtain ⟨d, hd⟩ : ∃ d, K = 4 + d := ⟨K - 4, by omega⟩
      refine ih d _ ?_ (by omega)
      show Sre.M.runFor d (Sre.M.runFor 4 m) = m'
      rw [← runFor_add, ← hd]; exact hK
theorem wp_rules (f : Nat → Bool) (g : Nat → String) {Q : PUnit → Shared → Prop} (h : Q PUnit.unit s) : ∀ l : List Nat,
    wpAny M A (forIn l PUnit.unit fun i (_ : PUnit) => if f i = true then (do rule (g i); pure (ForInStep.yield PUnit.unit)) else (pure (ForInStep.yield PUnit.unit) : Sem (ForInStep PUnit))) Q E s := by
  intro l
  induction l with
  | nil => exact wpAny_pure h
  | cons i l ih =>
    rw [List.forIn_cons]
    refine wpAny_bind ?_
    by_cases hf : f i = true
    · rw [if_pos hf]; exact wpAny_bind (wpAny_rule (wpAny_pure ih))
    · rw [if_neg hf]; exact wpAny_pure ih
theorem wp_run {m m' : Sre.M} {n : Nat} {Q : Option Sre.M → Shared → Prop} (g : Goes n m m') (hn : n < 2 ^ 60) (ho : m'.outcome.isSome = true)
    (hQ : match m'.outcome with | some .matched => Q (some m') s | some .failed => Q none s | _ => False) : wpAny M A (reRunToEnd m) Q E s := by
  obtain ⟨K, hK, e⟩ := g
  unfold reRunToEnd
  refine wpAny_bind (wp_drive ho ?_ (2 ^ 64) K m e (by omega))
  refine wpAny_bind (wp_rules _ _ ?_ _)
  revert hQ
  cases m'.outcome with
  | none => exact fun x => x.elim
  | some o => cases o with
    | matched => exact fun h => wpAny_pure h
    | failed => exact fun h => wpAny_pure h
    | stuck w => exact fun x => x.elim
theorem wp_slice {t : Array Nat} {b e : Nat} {Q : Value → Shared → Prop} (hz : t.size ≤ sizeLine) (h : Q (.str ⟨t.extract b e⟩ s.toks) { s with toks := s.toks + 1 }) : wpAny M A (reSlice t 0 b e) Q E s := by
  unfold reSlice
  refine (wpAny_mkStr h ?_ : wpAny M A (mkStr ⟨t.extract b e⟩) Q E s)
  show (t.extract b e).size ≤ sizeLine
  rw [Array.size_extract]; omega
/-- pushed onto the list -/
theorem wp_push {pl : Addr} {its : Array Value} {v : Value} {Q : Unit → Shared → Prop} (hl : s.heap.PlainList pl its) (hz : its.size ≤ sizeLine)
    (h : ∀ h', h'.PlainList pl (its.push v) → (∀ b o, b ≠ pl → s.heap.get? b = some o → h'.get? b = some o) → Q () { s with heap := h' }) : wpAny M A (updateSeq pl (·.push v)) Q E s := by
  obtain ⟨n, ho⟩ := hl
  refine wpAny_updateSeq ho rfl (h _ ⟨_, Heap.get?_update_self _ ho rfl⟩ fun b o hb e => ?_) hz (by simp; omega)
  exact (Heap.get?_update_other _ _ (Ne.symm hb)).trans e
end
end Mine
end

section
open PySem PySem.W PyProof.Rows PySem.Calls PySem.Builtin PySem.Builtin.Re
set_option maxRecDepth 100000
namespace Mine
abbrev S (l : List Nat) : Str := ⟨l.toArray⟩
theorem wp_pos {α : Type} {M : Model} {A : Around} {E : Value → Shared → Prop} {s : Shared} {c : Prop} [Decidable c] {a b : Sem α} {Q : α → Shared → Prop} (hc : c) (h : wpAny M A a Q E s) : wpAny M A (if c then a else b) Q E s := by
  rw [if_pos hc]; exact h
theorem wp_neg {α : Type} {M : Model} {A : Around} {E : Value → Shared → Prop} {s : Shared} {c : Prop} [Decidable c] {a b : Sem α} {Q : α → Shared → Prop} (hc : ¬ c) (h : wpAny M A b Q E s) : wpAny M A (if c then a else b) Q E s := by
  rw [if_neg hc]; exact h
def catOf (l : List (Str × Tok)) : List Nat := l.flatMap fun p => p.1.cps.toList
theorem glued_go (l : List Str) : ∀ a : Array Nat, (l.foldl (fun acc p => acc ++ (#[] : Array Nat) ++ p.cps) a).toList = a.toList ++ l.flatMap fun p => p.cps.toList := by
  induction l with
  | nil => intro a; simp
  | cons p l ih => intro a; rw [List.foldl_cons, ih]; simp
theorem glued_cat (l : List (Str × Tok)) : Builtin.Str.glued ⟨#[]⟩ (l.map (·.1)) = S (catOf l) := by
  unfold Builtin.Str.glued S
  congr 1
  apply Array.ext'
  rw [glued_go]
  cases l with
  | nil => rfl
  | cons p l => simp [catOf, List.flatMap_map]
theorem long_go (l : List Str) : ∀ n : Nat, l.foldl (fun x1 x2 => x1 + x2.length + (⟨#[]⟩ : Str).length) n = n + (l.flatMap fun p => p.cps.toList).length := by
  induction l with
  | nil => intro n; simp
  | cons p l ih =>
    intro n
    rw [List.foldl_cons, ih, List.flatMap_cons, List.length_append]
    have e1 : (⟨#[]⟩ : Str).length = 0 := rfl
    have e2 : p.length = p.cps.toList.length := by show p.cps.size = _; simp
    omega
theorem long_cat {l : List (Str × Tok)} (hz : (catOf l).length ≤ sizeLine) : Builtin.Str.tooLong ((l.map (·.1)).toArray.foldl (fun x1 x2 => x1 + x2.length + (⟨#[]⟩ : Str).length) 0) = false := by
  have e : (l.map (·.1)).toArray.foldl (fun x1 x2 => x1 + x2.length + (⟨#[]⟩ : Str).length) 0 = (catOf l).length := by
    have := long_go (l.map (·.1)) 0
    simp only [List.foldl_toArray'] at *
    first | (rw [this]; simp [catOf, List.flatMap_map]) | skip
  unfold Builtin.Str.tooLong
  rw [e]; simpa using hz
section
variable {prog : Program} {w : World} {A : Around} {E : Value → Shared → Prop} {s : Shared}
theorem wp_join {pl : Addr} {l : List (Str × Tok)} {t : Tok} {Q : Value → Shared → Prop} (hl : s.heap.IsList pl (strValues l).toArray) (hz : (catOf l).length ≤ sizeLine)
    (h : ∀ t' tk', Q (.str (S (catOf l)) t') { s with toks := tk' }) : wpAny (model prog w) A (call (.builtin "str.join") [.str ⟨#[]⟩ t, .ref pl]) Q E s := by
  refine call_meets F.slot_str_join (typeIs_str _ _ _) F.entry_str_join (F.args_str_join_2 _ _) (meets_str_join_list ⟨#[]⟩ t pl l ?_) ⟨hl, ?_⟩
  · exact long_cat hz
  · have e : ∀ x : Str, x = S (catOf l) → x.length ≤ sizeLine := fun x hx => by rw [hx]; show (catOf l).toArray.size ≤ sizeLine; simpa using hz
    cases l with
    | nil => exact ⟨e _ (glued_cat []), by have := glued_cat []; rw [this]; exact h _ _⟩
    | cons p l =>
      cases l with
      | nil =>
        show Q (.str p.1 p.2) s
        have e1 : S (catOf [p]) = p.1 := by
          show (⟨(([p] : List (Str × Tok)).flatMap fun p => p.1.cps.toList).toArray⟩ : Str) = p.1
          simp
        have := h p.2 s.toks
        rw [e1] at this; exact this
      | cons q l => exact ⟨e _ (glued_cat (p :: q :: l)), by rw [show Builtin.Str.glued ⟨#[]⟩ ((p :: q :: l).map (·.1)) = S (catOf (p :: q :: l)) from glued_cat _]; exact h _ _⟩
end
theorem strs_push (l : List (Str × Tok)) (x : Str) (t : Tok) : (strValues l).toArray.push (.str x t) = (strValues (l ++ [(x, t)])).toArray := by simp [strValues]
theorem catOf_push (l : List (Str × Tok)) (x : Str) (t : Tok) : catOf (l ++ [(x, t)]) = catOf l ++ x.cps.toList := by simp [catOf]
theorem strs_size (l : List (Str × Tok)) : (strValues l).toArray.size = l.length := by simp [strValues]
theorem ext_list {α : Type} (t : Array α) (b e : Nat) : (t.extract b e).toList = (t.toList.drop b).take (e - b) := by
  simp [Array.toList_extract, List.extract_eq_take_drop]
theorem ext_tail {α : Type} (t : Array α) (b : Nat) : (t.extract b t.size).toList = t.toList.drop b := by
  rw [ext_list, List.take_of_length_le (by simp)]
theorem ext_nil {α : Type} (t : Array α) : t.extract 0 0 = #[] := by
  apply Array.ext'; rw [ext_list]; simp
/-- what is left of the text from d on, its matches replaced -/
inductive Rest (C : Array Nat) (rp : List Nat) (t : Array Nat) : Nat → List Nat → Prop
  | stop {d : Nat} {m : Sre.M} : Goes (4 * t.size + 20) (Sre.forSearch C t 0 d t.size false) m → m.outcome = some .failed → d ≤ t.size → Rest C rp t d (t.toList.drop d)
  | more {d p q : Nat} {r : List Nat} {m : Sre.M} : Goes (4 * t.size + 20) (Sre.forSearch C t 0 d t.size false) m → m.outcome = some .matched → m.start = p → m.handed = q → d ≤ p → p < q → q ≤ t.size → Rest C rp t q r →
      Rest C rp t d ((t.toList.drop d).take (p - d) ++ rp ++ r)
section
variable {prog : Program} {w : World} {A : Around} {R : Result → Shared → Prop}
theorem quiet_loop (args : Args) : (Code.builtin "re.Pattern.sub.loop" args).quiet = true := plainId_quiet plain_pat_loop args
theorem wp_loop {pat pl : Addr} {x rp : Str} {tx tr : Tok} {C : Array Nat} {h₀ : Heap} (hp : PatAt h₀ pat C 0) (hf : h₀.get? pl = none) (hz : x.cps.size ≤ 2 ^ 22) {d : Nat} {r : List Nat} (H : Rest C rp.cps.toList x.cps d r) :
    ∀ (s : Shared) (l : List (Str × Tok)) (n : Int), Ups h₀ s.heap → s.heap.PlainList pl (strValues l).toArray → l.length + 2 * (x.cps.size - d) + 2 ≤ sizeLine → (catOf l ++ r).length ≤ sizeLine →
      (∀ t h' tk', Ups h₀ h' → R (.ok (.ret (.str (S (catOf l ++ r)) t))) { s with heap := h', toks := tk' }) →
      codeAny (model prog w) A (.builtin "re.Pattern.sub.loop" ⟨[.ref pat, .str x tx, .str rp tr, rawInt 0, rawInt 0, rawInt n, rawInt d, rawInt d, .bool false, .ref pl, .bool false], []⟩) R s := by
  induction H with
  | @stop d m g hm hd =>
    intro s l n hu hl hc hlen hR
    refine codeAny_builtin entry_pat_loop ?_
    unfold Builtin.«re.Pattern.sub.loop»
    dsimp only [rawInt]
    refine wpAny_bind (wp_target (hp.keeps hu) ?_)
    dsimp only
    refine wp_pos rfl ?_
    refine wpAny_bind (wpAny_of_eq (a := ()) rfl ?_)
    refine wpAny_bind ?_
    refine wp_neg (by exact Bool.false_ne_true) ?_
    unfold reNextFound
    rw [Int.toNat_natCast]
    refine wp_run g (by omega) (by rw [hm]; rfl) ?_
    rw [hm]
    dsimp only
    by_cases hlt : d < x.cps.size
    case' pos =>
      refine wp_pos hlt ?_
      refine wpAny_bind (wp_slice (Nat.le_trans hz (by decide)) ?_)
      refine wpAny_bind (wp_push (hl.at fun o e => e) (by rw [strs_size]; omega) fun h2 hl2 hk2 => ?_)
      rw [strs_push] at hl2
      have hu2 : Ups h₀ h2 := fun b o e => hk2 b o (fun q => by rw [q, hf] at e; cases e) (hu b o e)
      have hcat : catOf (l ++ [((⟨x.cps.extract d x.cps.size⟩ : Str), s.toks)]) = catOf l ++ List.drop d x.cps.toList := by
        rw [catOf_push, ext_tail]
      generalize l ++ [((⟨x.cps.extract d x.cps.size⟩ : Str), s.toks)] = l2 at hl2 hcat
    case' neg =>
      refine wp_neg hlt ?_
      have hu2 := hu
      obtain ⟨l2, hl2, hcat⟩ : ∃ l2, s.heap.PlainList pl (strValues l2).toArray ∧ catOf l2 = catOf l ++ List.drop d x.cps.toList :=
        ⟨l, hl, by rw [List.drop_eq_nil_of_le (by simp; omega), List.append_nil]⟩
    all_goals
      refine wpAny_bind (wp_slice (Nat.le_trans hz (by decide)) ?_)
      have hl3 := hl2
      obtain ⟨nn, ho⟩ := hl2
      refine wpAny_bind (wpAny_seqItems ho rfl ?_)
      by_cases hnil : l2 = []
      · subst hnil
        refine wp_pos rfl ?_
        refine wpAny_bind (wpAny_pure ?_)
        refine wp_neg (by decide) ?_
        refine wpAny_pure ?_
        rw [← hcat] at hR
        rw [ext_nil]
        exact hR _ _ _ hu2
      · refine wp_neg (by cases l2 with | nil => exact absurd rfl hnil | cons p r => simp [strValues]) ?_
        rw [ext_nil, show (if (0 == 0) = true then "str.join" else "bytes.join") = "str.join" from rfl]
        refine wpAny_bind (wp_join hl3.isList (by rw [hcat]; exact hlen) fun t' tk' => ?_)
        refine wp_neg (by decide) ?_
        refine wpAny_pure ?_
        rw [hcat]
        exact hR _ _ _ hu2
  | @more d p q r m g hm hs hh h1 h2 h3 H ih =>
    intro s l n hu hl hc hlen hR
    refine codeAny_builtin entry_pat_loop ?_
    unfold Builtin.«re.Pattern.sub.loop»
    dsimp only [rawInt]
    refine wpAny_bind (wp_target (hp.keeps hu) ?_)
    dsimp only
    refine wp_pos rfl ?_
    refine wpAny_bind (wpAny_of_eq (a := ()) rfl ?_)
    refine wpAny_bind ?_
    refine wp_neg (by exact Bool.false_ne_true) ?_
    unfold reNextFound
    rw [Int.toNat_natCast]
    refine wp_run g (by omega) (by rw [hm]; rfl) ?_
    rw [hm]
    dsimp only
    rw [hs, hh]
    by_cases hlt : d < p
    case' pos =>
      refine wp_pos hlt ?_
      refine wpAny_bind (wp_slice (Nat.le_trans hz (by decide)) ?_)
      refine wpAny_bind (wp_push (hl.at fun o e => e) (by rw [strs_size]; omega) fun h2 hl2 hk2 => ?_)
      rw [strs_push] at hl2
      have hu2 : Ups h₀ h2 := fun b o e => hk2 b o (fun q => by rw [q, hf] at e; cases e) (hu b o e)
      have hcat : catOf (l ++ [((⟨x.cps.extract d p⟩ : Str), s.toks)]) = catOf l ++ (List.drop d x.cps.toList).take (p - d) := by
        rw [catOf_push, ext_list]
      have hlen2 : (l ++ [((⟨x.cps.extract d p⟩ : Str), s.toks)]).length ≤ l.length + 1 := by simp
      generalize l ++ [((⟨x.cps.extract d p⟩ : Str), s.toks)] = l2 at hl2 hcat hlen2
    case' neg =>
      refine wp_neg hlt ?_
      have hu2 := hu
      obtain ⟨l2, hl2, hcat, hlen2⟩ : ∃ l2, s.heap.PlainList pl (strValues l2).toArray ∧ catOf l2 = catOf l ++ (List.drop d x.cps.toList).take (p - d) ∧ l2.length ≤ l.length + 1 :=
        ⟨l, hl, by rw [show p - d = 0 by omega]; simp, by omega⟩
    all_goals
      refine wp_pos rfl ?_
      refine wpAny_bind (wpAny_pure ?_)
      refine wp_pos rfl ?_
      refine wpAny_bind (wp_push (hl2.at fun o e => e) (by rw [strs_size]; omega) fun h3 hl3 hk3 => ?_)
      rw [strs_push] at hl3
      have hu3 : Ups h₀ h3 := fun b o e => hk3 b o (fun q => by rw [q, hf] at e; cases e) (hu2 b o e)
      refine wpAny_pure ⟨quiet_loop _, ?_⟩
      rw [show (q == p) = false from beq_eq_false_iff_ne.mpr (by omega)]
      refine ih _ (l2 ++ [(rp, tr)]) (n + 1) hu3 hl3 (by simp only [List.length_append, List.length_singleton]; omega) (by rw [catOf_push, hcat]; simpa [List.append_assoc] using hlen) fun t h' tk' hu' => ?_
      have := hR t h' tk' hu'
      rw [catOf_push, hcat]; simpa [List.append_assoc] using this
end
end Mine
end

section
open PySem PySem.W PyProof.Rows PySem.Calls PySem.Builtin PySem.Builtin.Re
set_option maxRecDepth 100000
namespace Mine
theorem get_size_none (h : Heap) : h.get? h.objs.size = none := by
  cases e : h.get? h.objs.size with
  | none => rfl
  | some o => exact absurd (Heap.lt_size e) (Nat.lt_irrefl _)
section
variable {prog : Program} {w : World} {A : Around} {E : Value → Shared → Prop} {s : Shared}
theorem call_sub {pat : Addr} {x rp : Str} {tx tr : Tok} {C : Array Nat} {r : List Nat} {Q : Value → Shared → Prop} (hp : PatAt s.heap pat C 0) (hb : rp.cps.contains 92 = false) (hz : x.cps.size ≤ 2 ^ 22)
    (H : Rest C rp.cps.toList x.cps 0 r) (hlen : r.length ≤ sizeLine) (hQ : ∀ t h' tk', Ups s.heap h' → Q (.str (S r) t) { s with heap := h', toks := tk' }) :
    wpAny (model prog w) A (call (.builtin "re.Pattern.sub") [.ref pat, .str rp tr, .str x tx]) Q E s := by
  have hT : s.TypeIs (.ref pat) "re.Pattern" := by
    obtain ⟨po, co, ct, pv, fl, codes, n, h1, hc, _⟩ := hp
    exact ⟨po, h1, hc⟩
  refine wpAny_call (codeAny_call_builtin slot_pat_sub.plain entry_pat_sub (slot_pat_sub.check _ _ _ _ _ _ _ _ hT (args_pat_sub _ _ _) ?_))
  unfold Builtin.«re.Pattern.sub» reSubstitute
  dsimp only
  refine wpAny_bind (wpAny_of_eq (named_sub _ _) ?_)
  dsimp only
  refine wpAny_bind (wpAny_pure ?_)
  refine wpAny_bind (wpAny_specialOf (typeIs_str _ _ _) str_call ?_)
  refine wp_neg (by exact Bool.false_ne_true) ?_
  refine wpAny_bind (wpAny_of_eq (a := some rp) rfl ?_)
  dsimp only
  refine wpAny_bind (wpAny_pure ?_)
  refine wp_neg (by exact Bool.false_ne_true) ?_
  refine wp_pos (by rw [hb]; rfl) ?_
  refine wpAny_bind (wpAny_pure ?_)
  refine wpAny_bind (wpAny_holding (wp_target hp ?_))
  refine wp_neg (by exact Bool.false_ne_true) ?_
  unfold newList
  refine wpAny_bind (wpAny_newObj_type ?_ (by show 0 ≤ sizeLine; decide))
  refine wpAny_pure ⟨quiet_loop _, ?_⟩
  refine wp_loop (h₀ := s.heap) (d := 0) hp (get_size_none _) hz H _ [] 0 (fun b o e => Heap.get?_push_of_some _ e) ⟨_, Heap.get?_push_size _ rfl⟩ ?_ (by simpa [catOf] using hlen) fun t h' tk' hu => ?_
  · show 0 + 2 * (x.cps.size - 0) + 2 ≤ 2 ^ 24
    omega
  · exact hQ t h' tk' hu
end
end Mine
end

section
open PySem PySem.Sre
set_option maxRecDepth 100000
namespace Mine
theorem drop_at (t : Array Nat) {d : Nat} (h : d < t.size) : t.toList.drop d = t.getD d 0 :: t.toList.drop (d + 1) := by
  rw [List.drop_eq_getElem_cons (by simpa using h)]
  congr 1
  simp [Array.getD, h]
theorem first_or_none (P : Nat → Prop) (d : Nat) : (∃ p, d ≤ p ∧ P p ∧ ∀ q, d ≤ q → q < p → ¬ P q) ∨ ∀ q, d ≤ q → ¬ P q := by
  by_cases h : ∃ p, d ≤ p ∧ P p
  · obtain ⟨p, hp, hP⟩ := h
    have main : ∀ n p, p ≤ n → d ≤ p → P p → ∃ p, d ≤ p ∧ P p ∧ ∀ q, d ≤ q → q < p → ¬ P q := by
      intro n
      induction n with
      | zero => intro p h1 h2 h3; exact ⟨p, h2, h3, fun q hq1 hq2 => by omega⟩
      | succ n ih =>
        intro p h1 h2 h3
        by_cases hq : ∃ q, d ≤ q ∧ q < p ∧ P q
        · obtain ⟨q, a, b, c⟩ := hq
          exact ih q (by omega) a c
        · exact ⟨p, h2, h3, fun q a b c => hq ⟨q, a, b, c⟩⟩
    exact .inl (main p p (Nat.le_refl _) hp hP)
  · exact .inr fun q hq hP => h ⟨q, hq, hP⟩
def bAt (t : Array Nat) (d : Nat) : Bool := decide (d = 0 ∨ t.getD (d - 1) 0 = 10)
theorem bAt_succ (t : Array Nat) (d : Nat) : bAt t (d + 1) = decide (t.getD d 0 = 10) := by
  unfold bAt; rw [Nat.add_sub_cancel]; simp
theorem dx_skip (t : Array Nat) : ∀ k d, d + k ≤ t.size → (∀ q, d ≤ q → q < d + k → ¬ DotAt t q) → Dx (bAt t d) (t.toList.drop d) = (t.toList.drop d).take k ++ Dx (bAt t (d + k)) (t.toList.drop (d + k)) := by
  intro k
  induction k with
  | zero => intro d _ _; simp
  | succ k ih =>
    intro d hk hno
    have hlt : d < t.size := by omega
    have hd := hno d (Nat.le_refl _) (by omega)
    rw [drop_at t hlt, Dx, if_neg (fun x => hd ⟨hlt, x.2, by have := x.1; unfold bAt at this; simpa using this⟩), ← bAt_succ, ih (d + 1) (by omega) (fun q a b => hno q (by omega) (by omega))]
    rw [show d + 1 + k = d + (k + 1) by omega]; rfl
theorem rest1 (t : Array Nat) : ∀ n d, t.size - d ≤ n → d ≤ t.size → Rest C1 [46, 46] t d (Dx (bAt t d) (t.toList.drop d)) := by
  intro n
  induction n with
  | zero =>
    intro d h hd
    have e : t.toList.drop d = [] := List.drop_eq_nil_of_le (by simp; omega)
    obtain ⟨m, g, hm⟩ := find1_no (t := t) (s := d) fun q hq hx => by have : q < t.size := hx.1; omega
    have := Rest.stop (C := C1) (rp := [46, 46]) (t := t) (d := d) (g.le (by omega)) hm hd
    rw [e] at this ⊢; exact this
  | succ n ih =>
    intro d h hd
    rcases first_or_none (DotAt t) d with ⟨p, hp1, hp2, hp3⟩ | hno
    · have hlt : p < t.size := hp2.1
      obtain ⟨m, g, hm, hs, hh⟩ := find1_yes hp2 hp1 hp3
      have e := dx_skip t (p - d) d (by omega) (fun q a b => hp3 q a (by omega))
      rw [show d + (p - d) = p by omega, drop_at t hlt, hp2.2.1, show bAt t p = true from by unfold bAt; exact decide_eq_true hp2.2.2] at e
      have b0 : bAt t (p + 1) = false := by rw [bAt_succ, hp2.2.1]; rfl
      have r := ih (p + 1) (by omega) (by omega)
      rw [b0] at r
      have := Rest.more (rp := [46, 46]) (g.le (by omega)) hm hs hh hp1 (by omega) (by omega) r
      rw [e]
      simpa [Dx, List.append_assoc] using this
    · obtain ⟨m, g, hm⟩ := find1_no hno
      have e := dx_skip t (t.size - d) d (by omega) (fun q a b => hno q a)
      rw [show d + (t.size - d) = t.size by omega, List.drop_eq_nil_of_le (i := t.size) (by simp), List.take_of_length_le (by simp)] at e
      have := Rest.stop (C := C1) (rp := [46, 46]) (t := t) (d := d) (g.le (by omega)) hm hd
      rw [e]; simpa [Dx] using this
theorem rest_D (t : Array Nat) : Rest C1 [46, 46] t 0 (Dx true t.toList) := rest1 t _ 0 (Nat.le_refl _) (Nat.zero_le _)
theorem fx_skip (t : Array Nat) : ∀ k d, d + k ≤ t.size → (∀ q, d ≤ q → q < d + k → ¬ EndAt t q) → Fx (t.toList.drop d) = (t.toList.drop d).take k ++ Fx (t.toList.drop (d + k)) := by
  intro k
  induction k with
  | zero => intro d _ _; simp
  | succ k ih =>
    intro d hk hno
    have hlt : d < t.size := by omega
    have hd := hno d (Nat.le_refl _) (by omega)
    rw [drop_at t hlt, Fx_cons, if_neg (fun x => hd ⟨hlt, .inr x⟩), if_neg (fun x => hd ⟨hlt, .inl x⟩), ih (d + 1) (by omega) (fun q a b => hno q (by omega) (by omega))]
    rw [show d + 1 + k = d + (k + 1) by omega]; rfl
theorem fx_end (t : Array Nat) {p : Nat} (hp : EndAt t p) : Fx (t.toList.drop p) = 13 :: 10 :: Fx (t.toList.drop (p + endLen t p)) := by
  obtain ⟨hlt, h | h⟩ := hp
  · have e : endLen t p = 1 := by unfold endLen; rw [if_neg (fun x => by have := x.1; rw [h] at this; exact absurd this (by decide))]
    rw [drop_at t hlt, h, Fx_cons, e]; simp
  · rw [drop_at t hlt, h, Fx_cons, if_pos rfl]
    by_cases h3 : p + 1 < t.size ∧ t.getD (p + 1) 0 = 10
    · have e : endLen t p = 2 := by unfold endLen; rw [if_pos ⟨h, h3⟩]
      rw [e, drop_at t h3.1, h3.2]; simp
    · have e : endLen t p = 1 := by unfold endLen; rw [if_neg (fun x => h3 x.2)]
      rw [e, if_neg]
      intro x
      by_cases hlt' : p + 1 < t.size
      · rw [drop_at t hlt', List.head?_cons] at x
        exact h3 ⟨hlt', Option.some.inj x⟩
      · rw [List.drop_eq_nil_of_le (by simp; omega)] at x; cases x
theorem endLen_le (t : Array Nat) {p : Nat} (hlt : p < t.size) : 0 < endLen t p ∧ p + endLen t p ≤ t.size := by
  by_cases h : t.getD p 0 = 13 ∧ p + 1 < t.size ∧ t.getD (p + 1) 0 = 10
  · have e : endLen t p = 2 := if_pos h
    rw [e]; have := h.2.1; omega
  · have e : endLen t p = 1 := if_neg h
    rw [e]; omega
theorem rest3 (t : Array Nat) : ∀ n d, t.size - d ≤ n → d ≤ t.size → Rest C3 [13, 10] t d (Fx (t.toList.drop d)) := by
  intro n
  induction n with
  | zero =>
    intro d h hd
    have e : t.toList.drop d = [] := List.drop_eq_nil_of_le (by simp; omega)
    obtain ⟨m, g, hm⟩ := find3_no (t := t) (s := d) fun q hq hx => by have : q < t.size := hx.1; omega
    have := Rest.stop (C := C3) (rp := [13, 10]) (t := t) (d := d) g hm hd
    rw [e] at this ⊢; exact this
  | succ n ih =>
    intro d h hd
    rcases first_or_none (EndAt t) d with ⟨p, hp1, hp2, hp3⟩ | hno
    · have hlt : p < t.size := hp2.1
      obtain ⟨m, g, hm, hs, hh⟩ := find3_yes hp2 hp1 hp3
      have e := fx_skip t (p - d) d (by omega) (fun q a b => hp3 q a (by omega))
      have hq : 0 < endLen t p ∧ p + endLen t p ≤ t.size := endLen_le t hlt
      rw [show d + (p - d) = p by omega, fx_end t hp2] at e
      have r := ih (p + endLen t p) (by omega) (by omega)
      have := Rest.more (rp := [13, 10]) g hm hs hh hp1 (by omega) (by omega) r
      rw [e]
      simpa [List.append_assoc] using this
    · obtain ⟨m, g, hm⟩ := find3_no hno
      have e := fx_skip t (t.size - d) d (by omega) (fun q a b => hno q a)
      rw [show d + (t.size - d) = t.size by omega, List.drop_eq_nil_of_le (i := t.size) (by simp), List.take_of_length_le (by simp)] at e
      have := Rest.stop (C := C3) (rp := [13, 10]) (t := t) (d := d) g hm hd
      rw [e]; simpa [Fx] using this
theorem rest_F (t : Array Nat) : Rest C3 [13, 10] t 0 (Fx t.toList) := rest3 t _ 0 (Nat.le_refl _) (Nat.zero_le _)
end Mine
end

section
open PySem PySem.W PyProof.Rows PySem.Calls PySem.Builtin PySem.Builtin.Re
set_option maxRecDepth 100000
namespace Mine
def bvals (l : List (Array UInt8 × Tok)) : List Value := l.map fun p => .bytes p.1 p.2
theorem slot_bytes_join : Slot "bytes" "join" "bytes.join" :=
  .of (owner := "bytes") (n := "join") (by rw [typeLookup_type, builtinLookup_eq_fast]; kernel_rfl) (by decide +kernel) (by decide +kernel) (by decide +kernel)
    (by first | exact .inl (by decide +kernel) | exact .inr (by decide +kernel)) (by rw [isSubtype_type]; kernel_rfl)
theorem entry_bytes_join : entryFor table "bytes.join" = some Builtin.«bytes.join» := entryFor_of_fast (by kernel_rfl)
theorem args_bytes_join (p r : Value) : argsOk "bytes.join" ⟨[p, r], []⟩ := by unfold argsOk; kernel_rfl
theorem take_bytes (b : Array UInt8) (t : Tok) : Builtin.Bytes.takeBufferQuiet? "bytes.join" (.bytes b t) 0 = pure (some (b, none)) := by kernel_rfl
theorem id_bytes_join : s!"{Builtin.Bytes.Kind.bytes.name}.join" = "bytes.join" := by decide +kernel
section
variable {M : Model} {A : Around} {E : Value → Shared → Prop} {s : Shared}
theorem wp_forList {β : Type} {b : Nat → β} {body : Nat → β → Sem (ForInStep β)} {Q : β → Shared → Prop} : ∀ (n k : Nat), (∀ i, k ≤ i → i < k + n → ∀ Q' : ForInStep β → Shared → Prop, Q' (.yield (b (i + 1))) s → wpAny M A (body i (b i)) Q' E s) →
    Q (b (k + n)) s → wpAny M A (forIn (List.range' k n 1) (b k) body) Q E s := by
  intro n
  induction n with
  | zero => intro k _ h; exact wpAny_pure h
  | succ n ih =>
    intro k step h
    rw [List.range'_succ, List.forIn_cons]
    refine wpAny_bind (step k (Nat.le_refl _) (by omega) _ ?_)
    refine ih (k + 1) (fun i h1 h2 => step i (by omega) (by omega)) ?_
    rw [show k + 1 + n = k + (n + 1) by omega]; exact h
theorem wp_forRange {β : Type} {n : Nat} {b : Nat → β} {body : Nat → β → Sem (ForInStep β)} {Q : β → Shared → Prop} (step : ∀ i, i < n → ∀ Q' : ForInStep β → Shared → Prop, Q' (.yield (b (i + 1))) s → wpAny M A (body i (b i)) Q' E s)
    (h : Q (b n) s) : wpAny M A (forIn [:n] (b 0) body) Q E s := by
  rw [Std.Legacy.Range.forIn_eq_forIn_range']
  have := wp_forList (M := M) (A := A) (E := E) (s := s) (Q := Q) n 0 (fun i _ hi => step i (by omega)) (by rw [Nat.zero_add]; exact h)
  simpa [Std.Legacy.Range.size] using this
theorem wp_letGos {Q : Unit → Shared → Prop} (h : Q () s) (keep : List Value) : ∀ l : List (Array UInt8 × Tok), wpAny M A (Bytes.joinLetGo (l.map fun p => (Value.bytes p.1 p.2, (none : Option Value))) keep) Q E s := by
  intro l
  induction l with
  | nil => exact wpAny_pure h
  | cons p l ih =>
    rw [List.map_cons]
    unfold Bytes.joinLetGo
    exact wpAny_bind (wpAny_letGo ih)
end
theorem joined_go (l : List (Array UInt8)) : ∀ (k : Nat) (a : Array UInt8), ((l.zipIdx k).foldl (fun out (p : Array UInt8 × Nat) => (if p.2 > 0 then out ++ (#[] : Array UInt8) else out) ++ p.1) a).toList = a.toList ++ l.flatMap fun p => p.toList := by
  induction l with
  | nil => intro k a; simp
  | cons p l ih =>
    intro k a
    rw [List.zipIdx_cons, List.foldl_cons, ih]
    split <;> simp
theorem joined_cat (l : List (Array UInt8 × Tok)) : Bytes.joined #[] (l.map (·.1)) = (l.flatMap fun p => p.1.toList).toArray := by
  apply Array.ext'
  unfold Bytes.joined
  have := joined_go (l.map (·.1)) 0 #[]
  simpa [List.flatMap_map] using this
theorem blen_go (l : List (Array UInt8)) : ∀ n : Nat, l.foldl (fun x1 x2 => x1 + x2.size) n = n + (l.flatMap fun p => p.toList).length := by
  induction l with
  | nil => intro n; simp
  | cons p l ih => intro n; rw [List.foldl_cons, ih, List.flatMap_cons, List.length_append]; simp; omega
section
variable {prog : Program} {w : World} {A : Around} {E : Value → Shared → Prop} {s : Shared}
theorem typeIs_bytes (s : Shared) (b : Array UInt8) (t : Tok) : s.TypeIs (.bytes b t) "bytes" := rfl
theorem wp_bjoin {pl : Addr} {l : List (Array UInt8 × Tok)} {t : Tok} {Q : Value → Shared → Prop} (hl : s.heap.IsList pl (bvals l).toArray) (hz : (l.flatMap fun p => p.1.toList).length ≤ sizeLine)
    (h : ∀ t' tk', Q (.bytes (l.flatMap fun p => p.1.toList).toArray t') { s with toks := tk' }) : wpAny (model prog w) A (call (.builtin "bytes.join") [.bytes #[] t, .ref pl]) Q E s := by
  refine wpAny_call_entry slot_bytes_join (typeIs_bytes _ _ _) entry_bytes_join ?_ (args_bytes_join _ _)
  have hT := hl.typeIs
  obtain ⟨o, ho, hc, n, hd⟩ := hl
  unfold Builtin.«bytes.join» Builtin.Bytes.joinM
  dsimp only
  rw [id_bytes_join]
  refine wpAny_bind (wpAny_of_eq (a := (Value.bytes #[] t, Value.ref pl)) rfl ?_)
  dsimp only
  refine wp_pos rfl ?_
  refine wpAny_bind ?_
  unfold Builtin.Bytes.joinItems
  refine wpAny_bind (wpAny_typeOf hT ?_)
  refine wp_pos rfl ?_
  refine wpAny_pure ?_
  refine wpAny_bind (wpAny_seqItems ho hd ?_)
  dsimp only
  refine wp_pos rfl ?_
  by_cases h1 : ∃ p, l = [p]
  · obtain ⟨p, rfl⟩ := h1
    show wpAny (model prog w) A.in1 (do
      let __do_lift ← typeOf (Value.bytes p.1 p.2)
      if (__do_lift == Value.type "bytes") = true then do
          rule "bytes.join.one-item"
          ret (Value.bytes p.1 p.2)
        else _) _ _ s
    refine wpAny_bind (wpAny_of_eq (a := Value.type "bytes") rfl ?_)
    refine wp_pos rfl ?_
    refine wpAny_bind (wpAny_rule (wpAny_pure ⟨_, rfl, ?_⟩))
    have := h p.2 s.toks
    simpa using this
  · generalize harr : (bvals l).toArray = arr at hd ⊢
    have hsz : arr.size = l.length := by rw [← harr]; simp [bvals]
    have one : ∀ x, arr ≠ #[x] := fun x e => by
      cases l with
      | nil => rw [e] at hsz; cases hsz
      | cons p r => cases r with
        | nil => exact h1 ⟨p, rfl⟩
        | cons q r => rw [e] at hsz; simp at hsz
    rcases arr with ⟨_ | ⟨x, _ | ⟨y, r⟩⟩⟩
    case neg.cons.nil => exact absurd rfl (one _)
    all_goals
      rw [hsz]
      refine wpAny_bind ?_
      generalize hA : Array.mk _ = arr at *
      refine wp_forRange (n := l.length) (b := fun i => ((((l.take i).map (·.1)).toArray : Array (Array UInt8)), (l.take i).map fun p => (Value.bytes p.1 p.2, (none : Option Value)))) ?_ ?_
      · intro i hi Q' hQ'
        refine wpAny_bind (wpAny_seqItems ho hd ?_)
        have hx : arr.getD i Value.none = .bytes (l[i]).1 (l[i]).2 := by
          rw [← harr]; simp [bvals, Array.getD, hi]
        have hany : (((l.take i).map fun p => (Value.bytes p.1 p.2, (none : Option Value))).any fun x => x.1.onHeap) = false := by
          rw [List.any_map]; simp [Value.onHeap, Function.comp_def]
        dsimp only
        rw [hx]
        refine wp_neg (by rw [hany]; decide) ?_
        refine wpAny_bind (wpAny_holding (wpAny_of_eq (take_bytes _ _) ?_))
        dsimp only
        refine wpAny_bind (wpAny_seqItems ho hd ?_)
        dsimp only
        refine wp_neg (by rw [hsz]; simp) ?_
        refine wpAny_pure ?_
        have e1 : ((l.take (i + 1)).map (·.1)).toArray = ((l.take i).map (·.1)).toArray.push (l[i]).1 := by
          rw [List.take_succ_eq_append_getElem hi, List.map_append]; exact Array.ext' (by simp only [Array.toList_push, List.map_cons, List.map_nil])
        have e2 : (l.take (i + 1)).map (fun p => (Value.bytes p.1 p.2, (none : Option Value))) = (l.take i).map (fun p => (Value.bytes p.1 p.2, (none : Option Value))) ++ [(Value.bytes (l[i]).1 (l[i]).2, none)] := by
          rw [List.take_succ_eq_append_getElem hi, List.map_append]; rfl
        rw [e1, e2] at hQ'
        exact hQ'
      · dsimp only
        rw [List.take_length]
        refine wpAny_bind (wpAny_of_eq (a := (#[] : Array UInt8)) rfl ?_)
        have hlen : (l.map (·.1)).toArray.foldl (fun x1 x2 => x1 + x2.size) (((#[] : Array UInt8)).size * ((l.map (·.1)).toArray.size - 1)) = (l.flatMap fun p => p.1.toList).length := by
          have := blen_go (l.map (·.1)) 0
          simp only [List.flatMap_map, Nat.zero_add] at this
          simpa using this
        refine wp_neg (by rw [hlen]; unfold Bytes.tooLong; simpa using hz) ?_
        rw [joined_cat]
        refine wpAny_bind (wpAny_mkBytes ?_ (by simpa using hz))
        refine wpAny_bind (wpAny_holding (wpAny_point ?_))
        refine wpAny_bind (wp_letGos ?_ _ l)
        exact wpAny_pure ⟨_, rfl, h _ _⟩
end
end Mine
end

section
open PySem PySem.W PyProof.Rows PySem.Calls PySem.Builtin PySem.Builtin.Re
set_option maxRecDepth 100000
namespace Mine
def catB (l : List (Array UInt8 × Tok)) : List UInt8 := l.flatMap fun p => p.1.toList
theorem bv_push (l : List (Array UInt8 × Tok)) (x : Array UInt8) (t : Tok) : (bvals l).toArray.push (.bytes x t) = (bvals (l ++ [(x, t)])).toArray := by simp [bvals]
theorem catB_push (l : List (Array UInt8 × Tok)) (x : Array UInt8) (t : Tok) : catB (l ++ [(x, t)]) = catB l ++ x.toList := by simp [catB]
theorem bv_size (l : List (Array UInt8 × Tok)) : (bvals l).toArray.size = l.length := by simp [bvals]
section
variable {M : Model} {A : Around} {E : Value → Shared → Prop} {s : Shared}
theorem wp_sliceB {t : Array Nat} {b e : Nat} {Q : Value → Shared → Prop} (hz : t.size ≤ sizeLine) (h : Q (.bytes ((t.extract b e).map (·.toUInt8)) s.toks) { s with toks := s.toks + 1 }) : wpAny M A (reSlice t 1 b e) Q E s := by
  unfold reSlice
  refine (wpAny_mkBytes h ?_ : wpAny M A (mkBytes ((t.extract b e).map (·.toUInt8))) Q E s)
  rw [Array.size_map, Array.size_extract]; omega
theorem wp_targetB' {pat : Addr} {C : Array Nat} {x : Array UInt8} {t : Array Nat} {tx : Tok} {Q : ReTarget → Shared → Prop} (ht : t = x.map (·.toNat)) (hp : PatAt s.heap pat C 1)
    (h : Q { pattern := .ref pat, string := .bytes x tx, code := C, text := t, kind := 1, groups := 0, pos := 0, lim := t.size } s) :
    wpAny M A (reWholeTarget (.ref pat) (.bytes x tx)) Q E s := by
  subst ht; exact wp_targetB hp h
end
section
variable {prog : Program} {w : World} {A : Around} {R : Result → Shared → Prop}
theorem wp_loopB {pat pl : Addr} {x rp : Array UInt8} {t : Array Nat} {rpn : List Nat} {tx tr : Tok} {C : Array Nat} {h₀ : Heap} (hp : PatAt h₀ pat C 1) (ht : t = x.map (·.toNat)) (hrp : rp.toList = rpn.map Nat.toUInt8) (hf : h₀.get? pl = none) (hz : t.size ≤ 2 ^ 22) {d : Nat} {r : List Nat} (H : Rest C rpn t d r) :
    ∀ (s : Shared) (l : List (Array UInt8 × Tok)) (n : Int), Ups h₀ s.heap → s.heap.PlainList pl (bvals l).toArray → l.length + 2 * (t.size - d) + 2 ≤ sizeLine → (catB l ++ r.map Nat.toUInt8).length ≤ sizeLine →
      (∀ tt h' tk', Ups h₀ h' → R (.ok (.ret (.bytes (catB l ++ r.map Nat.toUInt8).toArray tt))) { s with heap := h', toks := tk' }) →
      codeAny (model prog w) A (.builtin "re.Pattern.sub.loop" ⟨[.ref pat, .bytes x tx, .bytes rp tr, rawInt 0, rawInt 0, rawInt n, rawInt d, rawInt d, .bool false, .ref pl, .bool false], []⟩) R s := by
  induction H with
  | @stop d m g hm hd =>
    intro s l n hu hl hc hlen hR
    refine codeAny_builtin entry_pat_loop ?_
    unfold Builtin.«re.Pattern.sub.loop»
    dsimp only [rawInt]
    refine wpAny_bind (wp_targetB' ht (hp.keeps hu) ?_)
    dsimp only
    refine wp_pos rfl ?_
    refine wpAny_bind (wpAny_of_eq (a := ()) (by kernel_rfl) ?_)
    refine wpAny_bind ?_
    refine wp_neg (by exact Bool.false_ne_true) ?_
    unfold reNextFound
    rw [Int.toNat_natCast]
    refine wp_run g (by omega) (by rw [hm]; rfl) ?_
    rw [hm]
    dsimp only
    by_cases hlt : d < t.size
    case' pos =>
      refine wp_pos hlt ?_
      refine wpAny_bind (wp_sliceB (Nat.le_trans hz (by decide)) ?_)
      refine wpAny_bind (wp_push (hl.at fun o e => e) (by rw [bv_size]; omega) fun h2 hl2 hk2 => ?_)
      rw [bv_push] at hl2
      have hu2 : Ups h₀ h2 := fun b o e => hk2 b o (fun q => by rw [q, hf] at e; cases e) (hu b o e)
      have hcat : catB (l ++ [((t.extract d t.size).map (·.toUInt8), s.toks)]) = catB l ++ (List.drop d t.toList).map Nat.toUInt8 := by
        rw [catB_push, Array.toList_map, ext_tail]
      generalize l ++ [((t.extract d t.size).map (·.toUInt8), s.toks)] = l2 at hl2 hcat
    case' neg =>
      refine wp_neg hlt ?_
      have hu2 := hu
      obtain ⟨l2, hl2, hcat⟩ : ∃ l2, s.heap.PlainList pl (bvals l2).toArray ∧ catB l2 = catB l ++ (List.drop d t.toList).map Nat.toUInt8 :=
        ⟨l, hl, by rw [List.drop_eq_nil_of_le (by simp; omega), List.map_nil, List.append_nil]⟩
    all_goals
      refine wpAny_bind (wp_sliceB (Nat.le_trans hz (by decide)) ?_)
      have hl3 := hl2
      obtain ⟨nn, ho⟩ := hl2
      refine wpAny_bind (wpAny_seqItems ho rfl ?_)
      by_cases hnil : l2 = []
      · subst hnil
        refine wp_pos rfl ?_
        refine wpAny_bind (wpAny_pure ?_)
        refine wp_neg (by decide) ?_
        refine wpAny_pure ?_
        rw [← hcat] at hR
        rw [ext_nil, show ((#[] : Array Nat).map (fun x => x.toUInt8)) = #[] from Array.map_empty]
        exact hR _ _ _ hu2
      · refine wp_neg (by cases l2 with | nil => exact absurd rfl hnil | cons p r => simp [bvals]) ?_
        rw [ext_nil, show ((#[] : Array Nat).map (fun x => x.toUInt8)) = #[] from Array.map_empty, show (if (1 == 0) = true then "str.join" else "bytes.join") = "bytes.join" from rfl]
        refine wpAny_bind (wp_bjoin hl3.isList (by rw [show (l2.flatMap fun p => p.1.toList) = catB l2 from rfl, hcat]; exact hlen) fun t' tk' => ?_)
        refine wp_neg (by decide) ?_
        refine wpAny_pure ?_
        rw [show (l2.flatMap fun p => p.1.toList) = catB l2 from rfl, hcat]
        exact hR _ _ _ hu2
  | @more d p q r m g hm hs hh h1 h2 h3 H ih =>
    intro s l n hu hl hc hlen hR
    refine codeAny_builtin entry_pat_loop ?_
    unfold Builtin.«re.Pattern.sub.loop»
    dsimp only [rawInt]
    refine wpAny_bind (wp_targetB' ht (hp.keeps hu) ?_)
    dsimp only
    refine wp_pos rfl ?_
    refine wpAny_bind (wpAny_of_eq (a := ()) (by kernel_rfl) ?_)
    refine wpAny_bind ?_
    refine wp_neg (by exact Bool.false_ne_true) ?_
    unfold reNextFound
    rw [Int.toNat_natCast]
    refine wp_run g (by omega) (by rw [hm]; rfl) ?_
    rw [hm]
    dsimp only
    rw [hs, hh]
    by_cases hlt : d < p
    case' pos =>
      refine wp_pos hlt ?_
      refine wpAny_bind (wp_sliceB (Nat.le_trans hz (by decide)) ?_)
      refine wpAny_bind (wp_push (hl.at fun o e => e) (by rw [bv_size]; omega) fun h2 hl2 hk2 => ?_)
      rw [bv_push] at hl2
      have hu2 : Ups h₀ h2 := fun b o e => hk2 b o (fun q => by rw [q, hf] at e; cases e) (hu b o e)
      have hcat : catB (l ++ [((t.extract d p).map (·.toUInt8), s.toks)]) = catB l ++ ((List.drop d t.toList).take (p - d)).map Nat.toUInt8 := by
        rw [catB_push, Array.toList_map, ext_list]
      have hlen2 : (l ++ [((t.extract d p).map (·.toUInt8), s.toks)]).length ≤ l.length + 1 := by simp
      generalize l ++ [((t.extract d p).map (·.toUInt8), s.toks)] = l2 at hl2 hcat hlen2
    case' neg =>
      refine wp_neg hlt ?_
      have hu2 := hu
      obtain ⟨l2, hl2, hcat, hlen2⟩ : ∃ l2, s.heap.PlainList pl (bvals l2).toArray ∧ catB l2 = catB l ++ ((List.drop d t.toList).take (p - d)).map Nat.toUInt8 ∧ l2.length ≤ l.length + 1 :=
        ⟨l, hl, by rw [show p - d = 0 by omega]; simp, by omega⟩
    all_goals
      refine wp_pos rfl ?_
      refine wpAny_bind (wpAny_pure ?_)
      refine wp_pos rfl ?_
      refine wpAny_bind (wp_push (hl2.at fun o e => e) (by rw [bv_size]; omega) fun h3 hl3 hk3 => ?_)
      rw [bv_push] at hl3
      have hu3 : Ups h₀ h3 := fun b o e => hk3 b o (fun q => by rw [q, hf] at e; cases e) (hu2 b o e)
      refine wpAny_pure ⟨quiet_loop _, ?_⟩
      rw [show (q == p) = false from beq_eq_false_iff_ne.mpr (by omega)]
      refine ih _ (l2 ++ [(rp, tr)]) (n + 1) hu3 hl3 (by simp only [List.length_append, List.length_singleton]; omega) (by rw [catB_push, hcat, hrp]; simpa [List.append_assoc] using hlen) fun tt h' tk' hu' => ?_
      have := hR tt h' tk' hu'
      rw [catB_push, hcat, hrp]; simpa [List.append_assoc] using this
end
section
variable {prog : Program} {w : World} {A : Around} {E : Value → Shared → Prop} {s : Shared}
theorem call_subB {pat : Addr} {x rp : Array UInt8} {t : Array Nat} {rpn : List Nat} {tx tr : Tok} {C : Array Nat} {r : List Nat} {Q : Value → Shared → Prop} (hp : PatAt s.heap pat C 1) (ht : t = x.map (·.toNat)) (hrp : rp.toList = rpn.map Nat.toUInt8) (hb : rp.contains 92 = false) (hz : t.size ≤ 2 ^ 22)
    (H : Rest C rpn t 0 r) (hlen : r.length ≤ sizeLine) (hQ : ∀ tt h' tk', Ups s.heap h' → Q (.bytes (r.map Nat.toUInt8).toArray tt) { s with heap := h', toks := tk' }) :
    wpAny (model prog w) A (call (.builtin "re.Pattern.sub") [.ref pat, .bytes rp tr, .bytes x tx]) Q E s := by
  have hT : s.TypeIs (.ref pat) "re.Pattern" := by
    obtain ⟨po, co, ct, pv, fl, codes, n, h1, hc, _⟩ := hp
    exact ⟨po, h1, hc⟩
  refine wpAny_call (codeAny_call_builtin slot_pat_sub.plain entry_pat_sub (slot_pat_sub.check _ _ _ _ _ _ _ _ hT (args_pat_sub _ _ _) ?_))
  unfold Builtin.«re.Pattern.sub» reSubstitute
  dsimp only
  refine wpAny_bind (wpAny_of_eq (named_sub _ _) ?_)
  dsimp only
  refine wpAny_bind (wpAny_pure ?_)
  refine wpAny_bind (wpAny_specialOf (typeIs_bytes _ _ _) bytes_call ?_)
  refine wp_neg (by exact Bool.false_ne_true) ?_
  refine wpAny_bind (wpAny_of_eq (a := (none : Option Str)) (by kernel_rfl) ?_)
  dsimp only
  refine wpAny_bind (wpAny_of_eq (buf_q _ _ _) ?_)
  dsimp only
  refine wpAny_bind (wpAny_pure ?_)
  refine wp_neg (by exact Bool.false_ne_true) ?_
  refine wp_pos (by rw [hb]; rfl) ?_
  refine wpAny_bind (wpAny_pure ?_)
  refine wpAny_bind (wpAny_holding (wp_targetB' ht hp ?_))
  refine wp_neg (by exact Bool.false_ne_true) ?_
  unfold newList
  refine wpAny_bind (wpAny_newObj_type ?_ (by show 0 ≤ sizeLine; decide))
  refine wpAny_pure ⟨quiet_loop _, ?_⟩
  refine wp_loopB (h₀ := s.heap) (d := 0) hp ht hrp (get_size_none _) hz H _ [] 0 (fun b o e => Heap.get?_push_of_some _ e) ⟨_, Heap.get?_push_size _ rfl⟩ ?_ (by simpa [catB] using hlen) fun tt h' tk' hu => ?_
  · show 0 + 2 * (t.size - 0) + 2 ≤ 2 ^ 24
    omega
  · exact hQ tt h' tk' hu
end
end Mine
end

section
open PySem PySem.W PyProof.Rows PySem.Calls
set_option maxRecDepth 100000
set_option maxHeartbeats 4000000
namespace Mine
theorem pat1 {w : World} {h : Heap} (X : (hd.heap_39 w.params).In h) : PatAt h 68 C1 0 := by
  have r : PySem.Challenge.rw_wn0067_01.prog = PySem.Challenge.rw_wn0067_01.prog := rfl
  revert r X; k_fill; intro X _
  exact ⟨_, _, 67, _, _, _, _, X _ _ (by k_is), rfl, rfl, rfl, X _ _ (by k_is), rfl, by decide +kernel⟩
theorem pat2 {w : World} {h : Heap} (X : (hd.heap_39 w.params).In h) : PatAt h 73 C1 1 :=
  ⟨_, _, 72, _, _, _, _, X _ _ (by k_is), rfl, rfl, rfl, X _ _ (by k_is), rfl, by decide +kernel⟩
theorem pat3 {w : World} {h : Heap} (X : (hd.heap_39 w.params).In h) : PatAt h 78 C3 0 :=
  ⟨_, _, 77, _, _, _, _, X _ _ (by k_is), rfl, rfl, rfl, X _ _ (by k_is), rfl, by decide +kernel⟩
theorem patM {h : Heap} {a : Addr} {C : Array Nat} {k : Int} {M : Model} {A : Around} {E : Value → Shared → Prop} {s : Shared} {pl : Sem Bool} {Q : Value × List Value → Shared → Prop} (p : PatAt h a C k) (u : Ups h s.heap)
    (hQ : Q (.builtin "re.Pattern.sub", [.ref a]) s) : wpAny M A (getMethod (.ref a) "sub" pl) Q E s := by
  obtain ⟨po, co, ct, pv, fl, codes, n, h1, h2, h3, _⟩ := p
  exact getMethod_sub (u _ _ h1) h2 h3 hQ
theorem Ups.trans {a b c : Heap} (x : Ups a b) (y : Ups b c) : Ups a c := fun i o e => y i o (x i o e)
theorem Fx_len : ∀ l : List Nat, (Fx l).length ≤ 2 * l.length := by
  intro l
  rw [← (trF_run l).1]
  have : ∀ (l : List Nat) b, (trF.run b l).length ≤ 2 * l.length := by
    intro l
    induction l with
    | nil => intro b; exact Nat.le_refl _
    | cons c r ih =>
      intro b
      show (trF.out b c ++ trF.run (trF.next b c) r).length ≤ _
      have h1 : (trF.out b c).length ≤ 2 := by simp only [trF]; split; decide; split; split <;> decide; simp
      have := ih (trF.next b c)
      rw [List.length_append, List.length_cons]; omega
  exact this l false
theorem Dx_len : ∀ (l : List Nat) b, (Dx b l).length ≤ 2 * l.length := by
  intro l
  induction l with
  | nil => intro b; exact Nat.le_refl _
  | cons c r ih =>
    intro b
    rw [Dx]
    split
    · have := ih false; simp only [List.length_cons]; omega
    · have := ih (decide (c = 10)); simp only [List.length_cons]; omega
local macro_rules | `(tactic| walk_at "getMethod ref") => `(tactic| (k_dflt (refine patM (by assumption) (Fr.keep (by assumption)) ?_); try dsimp only))
theorem restF (l : List Nat) : Rest C3 (Str.ofString "\r\n").cps.toList (S l).cps 0 (Fx l) := by
  rw [show (Str.ofString "\r\n").cps.toList = [13, 10] from by decide +kernel]
  simpa using rest_F l.toArray
theorem restD (l : List Nat) : Rest C1 (Str.ofString "..").cps.toList (S l).cps 0 (Dx true l) := by
  rw [show (Str.ofString "..").cps.toList = [46, 46] from by decide +kernel]
  simpa using rest_D l.toArray
section
variable {w : World} {mg mb : Str → Option Value} {dp un : Nat} {fr : Option (List Env)} {gd : Option (List Code)} {s : Shared} {Q E : Value → Shared → Prop} (l : List Nat) (tk : Tok)
theorem c_eols (X : (hd.heap_39 w.params).In s.heap) (T : TopRead hd.view_39 LS mg mb s.heap) (hd : dp + 20 < 1000) (_hu : un + 100 < 9900) (hz : l.length ≤ 2 ^ 22)
    (hQ : ∀ t h' tk', Ups s.heap h' → Q (.str (S (Fx l)) t) { s with heap := h', toks := tk' }) :
    wpAny (model PySem.Challenge.rw_wn0067_01.row.prog w) (AT dp un fr gd) (call (.ref 99) [.str (S l) tk]) Q E s := by
  revert X; k_fill; intro X
  w_on
  refine enterF (binds := [(Str.ofString "data", .str (S l) tk)]) X T (by k_is) (by k_is) (by show dp < recursionLimit; unfold recursionLimit; omega) rfl (locs rfl) rfl rfl rfl (by decide) ?_
  intro L h₁ F N
  have P3 := pat3 X
  (try k_fold)
  k_steps
  refine call_sub (C := C3) (P3.keeps F.keep) (by decide +kernel) (by show l.toArray.size ≤ _; simpa using hz) (restF l) (Nat.le_trans (Fx_len l) (by have : sizeLine = 2 ^ 24 := rfl; omega)) fun t h' tk' hu' => ?_
  exact hQ t h' tk' (Ups.trans F.keep hu')
theorem c_quote (X : (hd.heap_39 w.params).In s.heap) (T : TopRead hd.view_39 LS mg mb s.heap) (hd : dp + 20 < 1000) (_hu : un + 100 < 9900) (hz : l.length ≤ 2 ^ 20)
    (hQ : ∀ t h' tk', Ups s.heap h' → Q (.str (S (Dx true (Fx l))) t) { s with heap := h', toks := tk' }) :
    wpAny (model PySem.Challenge.rw_wn0067_01.row.prog w) (AT dp un fr gd) (call (.ref 85) [.str (S l) tk]) Q E s := by
  revert X; k_fill; intro X
  w_on
  refine enterF (binds := [(Str.ofString "data", .str (S l) tk)]) X T (by k_is) (by k_is) (by show dp < recursionLimit; unfold recursionLimit; omega) rfl (locs rfl) rfl rfl rfl (by decide) ?_
  intro L h₁ F N
  have P3 := pat3 X
  have P1 := pat1 X
  have fl := Fx_len l
  have dl := Dx_len (Fx l) true
  have hs : sizeLine = 2 ^ 24 := rfl
  (try k_fold)
  k_steps
  refine call_sub (C := C3) (P3.keeps F.keep) (by decide +kernel) (by show l.toArray.size ≤ _; simp; omega) (restF l) (by omega) fun t h' tk' hu' => ?_
  have F' : Fr s.heap L h' _ := ⟨F.ns.keeps hu', Ups.trans F.keep hu', F.above⟩
  have N' : News s.heap L h' [] := News.nil
  clear F N
  k_steps
  refine call_sub (C := C1) (P1.keeps F'.keep) (by decide +kernel) (by show (Fx l).toArray.size ≤ _; simp; omega) (restD (Fx l)) (by omega) fun t h' tk' hu'' => ?_
  exact hQ t h' tk' (Ups.trans F'.keep hu'')
theorem c_periods (x : Array UInt8) (hx : x.map (·.toNat) = l.toArray) (X : (hd.heap_39 w.params).In s.heap) (T : TopRead hd.view_39 LS mg mb s.heap) (hd : dp + 20 < 1000) (_hu : un + 100 < 9900) (hz : l.length ≤ 2 ^ 20)
    (hQ : ∀ t h' tk', Ups s.heap h' → Q (.bytes ((Dx true l).map Nat.toUInt8).toArray t) { s with heap := h', toks := tk' }) :
    wpAny (model PySem.Challenge.rw_wn0067_01.row.prog w) (AT dp un fr gd) (call (.ref 92) [.bytes x tk]) Q E s := by
  revert X; k_fill; intro X
  w_on
  refine enterF (binds := [(Str.ofString "bindata", .bytes x tk)]) X T (by k_is) (by k_is) (by show dp < recursionLimit; unfold recursionLimit; omega) rfl (locs rfl) rfl rfl rfl (by decide) ?_
  intro L h₁ F N
  have P2 := pat2 X
  have dl := Dx_len l true
  have hs : sizeLine = 2 ^ 24 := rfl
  (try k_fold)
  k_steps
  refine call_subB (C := C1) (rpn := [46, 46]) (r := Dx true l) (P2.keeps F.keep) hx.symm rfl (by decide +kernel) (by simp; omega) (by simpa using rest_D l.toArray) (by omega) fun t h' tk' hu' => ?_
  exact hQ t h' tk' (Ups.trans F.keep hu')
end
end Mine
end

section
open PySem PySem.W PyProof.Rows PySem.Calls
set_option maxRecDepth 100000
set_option maxHeartbeats 4000000
namespace Mine
local macro_rules | `(tactic| walk_at "pad") => `(tactic| fail)
local macro_rules | `(tactic| walk_at "pad") => `(tactic| fail)
local macro_rules | `(tactic| walk_at "pad") => `(tactic| fail)
local macro_rules | `(tactic| walk_at "pad") => `(tactic| fail)
local macro_rules | `(tactic| walk_at "pad") => `(tactic| fail)
local macro_rules | `(tactic| walk_at "pad") => `(tactic| fail)
local macro_rules | `(tactic| walk_at "pad") => `(tactic| fail)
local macro_rules | `(tactic| walk_at "pad") => `(tactic| fail)
local macro_rules | `(tactic| walk_at "pad") => `(tactic| fail)
local macro_rules | `(tactic| walk_at "pad") => `(tactic| fail)
local macro_rules | `(tactic| walk_at "pad") => `(tactic| fail)
local macro_rules | `(tactic| walk_at "pad") => `(tactic| fail)
local macro_rules | `(tactic| walk_at "pad") => `(tactic| fail)
local macro_rules | `(tactic| walk_at "pad") => `(tactic| fail)
local macro_rules | `(tactic| walk_at "pad") => `(tactic| fail)
local macro_rules | `(tactic| walk_at "pad") => `(tactic| fail)
local macro_rules | `(tactic| walk_at "pad") => `(tactic| fail)
local macro_rules | `(tactic| walk_at "pad") => `(tactic| fail)
local macro_rules | `(tactic| walk_at "pad") => `(tactic| fail)
local macro_rules | `(tactic| walk_at "pad") => `(tactic| fail)
def rpl (ch : Nat) (rp : List Nat) (l : List Nat) : List Nat := l.flatMap fun x => if x = ch then rp else [x]
theorem rpl_append (ch : Nat) (rp a b : List Nat) : rpl ch rp (a ++ b) = rpl ch rp a ++ rpl ch rp b := List.flatMap_append
theorem rpl_free (ch : Nat) (rp : List Nat) : ∀ l : List Nat, ch ∉ l → rpl ch rp l = l
  | [], _ => rfl
  | k :: r, h => by
    have h1 : ¬ k = ch := fun e => h (e ▸ List.mem_cons_self ..)
    show (if k = ch then rp else [k]) ++ rpl ch rp r = _
    rw [if_neg h1, rpl_free ch rp r (fun m => h (List.mem_cons_of_mem _ m))]; rfl
theorem rpl_join (ch : Nat) (rp : List Nat) : ∀ parts : List Str, (∀ p ∈ parts, ch ∉ p.cps.toList) → rpl ch rp (Str.join ⟨#[ch]⟩ parts).cps.toList = (Str.join (S rp) parts).cps.toList
  | [], _ => rfl
  | [p], h => rpl_free ch rp _ (h p (List.mem_singleton.mpr rfl))
  | p :: q :: r, h => by
    have ih := rpl_join ch rp (q :: r) fun a ha => h a (List.mem_cons_of_mem _ ha)
    show rpl ch rp (p ++ ⟨#[ch]⟩ ++ Str.join ⟨#[ch]⟩ (q :: r)).cps.toList = (p ++ S rp ++ Str.join (S rp) (q :: r)).cps.toList
    simp only [Str.cps_append, Array.toList_append]
    rw [rpl_append, rpl_append, ih, rpl_free ch rp _ (h p (List.mem_cons_self ..))]
    simp [rpl]
theorem rpl_replace (l : List Nat) (ch : Nat) (rp : List Nat) : Txt.replace (S l) (S [ch]) (S rp) = S (rpl ch rp l) := by
  have h : (Txt.replace (S l) ⟨#[ch]⟩ (S rp)).cps.toList = rpl ch rp (S l).cps.toList := by
    rw [StrLaws.replace_one, ← rpl_join ch rp _ (StrLaws.split_free (S l) ch), StrLaws.join_split]
  show Txt.replace (S l) ⟨#[ch]⟩ (S rp) = S (rpl ch rp l)
  have e : ∀ x : Str, x = ⟨x.cps.toList.toArray⟩ := fun x => by simp
  rw [e (Txt.replace (S l) ⟨#[ch]⟩ (S rp)), h]
theorem rpl_len (ch : Nat) (rp : List Nat) (k : Nat) (hk : rp.length ≤ k + 1) : ∀ l : List Nat, (rpl ch rp l).length ≤ (k + 1) * l.length
  | [] => Nat.le_refl _
  | x :: r => by
    have ih := rpl_len ch rp k hk r
    show ((if x = ch then rp else [x]) ++ rpl ch rp r).length ≤ _
    rw [List.length_append, List.length_cons, Nat.mul_succ]
    split
    · omega
    · simp only [List.length_singleton]; omega
abbrev scE : Scope := { kind := ScopeKind.function, names := [(Str.ofString "text", NameKind.local), (Str.ofString "TypeError", NameKind.globalImplicit), (Str.ofString "AttributeError", NameKind.globalImplicit), (Str.ofString "_raise_serialization_error", NameKind.globalImplicit)], isGenerator := false, isCoroutine := false }
theorem methCall {M : Model} {A : Around} {E : Value → Shared → Prop} {s : Shared} {env : Env} {o : Expr} {name : Str} {apos pos : Pos} {args : List Expr} {Q : Value → Shared → Prop} (hp : (apos.endLine == pos.line) = true) (hf : methodCallForm args.length (backTo pos (starEach args env)) [] = true)
    (h : wpAny M A (eval o env) (fun ov s₁ => wpAny M A (getMethod ov name (do return (← importBound o env).getD true)) (fun fx s₂ => wpAny M A (callWith pos fx.1 fx.2 (backTo pos (starEach args env)) []) Q E s₂) E s₁) E s)
    (ha : ∀ t : Sem Value, attributeBase o name env t = t := by intro _; rfl) :
    wpAny M A (eval (.Call (.Attribute o name apos) args [] pos) env) Q E s := by
  refine MethodCall_ h ?_
  show (do
    let ov ← attributeBase o name env (eval o env)
    standAt apos.atName
    methodCall o name apos pos env ov (args.length + ([] : List Keyword).length) (backTo pos (starEach args env)) (backToKw pos (keywordEach [] env))) = _
  have e1 : backToKw pos (keywordEach [] env) = [] := rfl
  have e2 : args.length + ([] : List Keyword).length = args.length := rfl
  rw [ha, e1, e2]
  unfold methodCall calleeOf methodCallPos
  rw [hf, hp]
  rfl
local macro_rules | `(tactic| walk_at "eval Name") => `(tactic| (k_dflt (refine ld (by assumption) (by assumption) ?_)))
section
variable {w : World} {mg mb : Str → Option Value} {A : Around} {s : Shared} {E : Value → Shared → Prop} {h₀ : Heap} {L f : Addr} {nm : Str} {cd : Value} {m : Str → Option Value} {c r : Str} {ch : Nat} {rp : List Nat} {k1 k2 k3 : Nat} {p1 p2 p3 p4 p5 p6 p7 p8 p9 p10 p11 : Pos}
theorem esc_test {l : List Nat} {tk : Tok} {Q : Bool → Shared → Prop} (hc : c = S [ch]) (X : (hd.heap_39 w.params).In h₀) (T : TopRead hd.view_39 LS mg mb h₀) (F : Fr h₀ L s.heap m) (N : News h₀ L s.heap []) (hm : m (Str.ofString "text") = some (.str (S l) tk))
    (hQ : ∀ tks, Q (decide (ch ∈ l)) { s with toks := tks }) :
    wpAny (model PySem.Challenge.rw_wn0067_01.row.prog w) A (isTrue (.Compare (.Constant (.str c) k1 p1) [.In] [.Name (Str.ofString "text") p2] p3) (envOf nm scE L f cd) (eval (.Compare (.Constant (.str c) k1 p1) [.In] [.Name (Str.ofString "text") p2] p3) (envOf nm scE L f cd))) Q E s := by
  revert X; k_fill; intro X
  w_on
  k_steps
  rw [hc, StrLaws.found_one]
  exact hQ _
theorem esc_set {l : List Nat} {tk : Tok} {Q : Flow → Shared → Prop} (hc : c = S [ch]) (hr : r = S rp) (hp : (p6.endLine == p9.line) = true) (ht : 1 ≤ s.toks) (X : (hd.heap_39 w.params).In h₀) (T : TopRead hd.view_39 LS mg mb h₀) (F : Fr h₀ L s.heap m) (N : News h₀ L s.heap []) (hm : m (Str.ofString "text") = some (.str (S l) tk))
    (hlen : l.length ≤ 2 ^ 20) (hrl : rp.length ≤ 14) (hcr : rp ≠ [ch])
    (hQ : ∀ h' tks t', Fr h₀ L h' (fun y => if y = Str.ofString "text" then some (.str (S (rpl ch rp l)) t') else m y) → Q .next { s with heap := h', toks := tks }) :
    wpAny (model PySem.Challenge.rw_wn0067_01.row.prog w) A (exec (.Assign [.Name (Str.ofString "text") p4] (.Call (.Attribute (.Name (Str.ofString "text") p5) (Str.ofString "replace") p6) [.Constant (.str c) k2 p7, .Constant (.str r) k3 p8] [] p9) p10) (envOf nm scE L f cd)) Q E s := by
  w_on
  refine wpAny_Assign_Name (methCall hp rfl ?_)
  k_steps
  subst hc hr
  have hne : (S [ch] == S rp) = false := by
    rw [beq_eq_false_iff_ne]
    intro e
    apply hcr
    have := congrArg (fun x : Str => x.cps.toList) e
    simpa using this.symm
  refine SC.replaceW (by show s.toks ≠ 0; omega) (by show s.toks + 1 ≠ 0; omega) (by show s.toks ≠ s.toks + 1; omega) hne (by show l.toArray.size ≤ _; simpa using hlen) (by show rp.toArray.size ≤ _; simpa using hrl) fun t' k => ?_
  rw [rpl_replace]
  exact stN F N fun h' F' _ => hQ h' _ t' F'
theorem esc_if {l : List Nat} {tk : Tok} {Q : Flow → Shared → Prop} (hc : c = S [ch]) (hr : r = S rp) (hp : (p6.endLine == p9.line) = true) (X : (hd.heap_39 w.params).In h₀) (T : TopRead hd.view_39 LS mg mb h₀) (ht : 1 ≤ s.toks) (F : Fr h₀ L s.heap m) (hm : m (Str.ofString "text") = some (.str (S l) tk))
    (hlen : l.length ≤ 2 ^ 20) (hrl : rp.length ≤ 14) (hcr : rp ≠ [ch])
    (hQ : ∀ h' tks t' m', 1 ≤ tks → Fr h₀ L h' m' → m' (Str.ofString "text") = some (.str (S (rpl ch rp l)) t') → Q .next { s with heap := h', toks := tks }) :
    wpAny (model PySem.Challenge.rw_wn0067_01.row.prog w) A (exec (.If (.Compare (.Constant (.str c) k1 p1) [.In] [.Name (Str.ofString "text") p2] p3)
      [.Assign [.Name (Str.ofString "text") p4] (.Call (.Attribute (.Name (Str.ofString "text") p5) (Str.ofString "replace") p6) [.Constant (.str c) k2 p7, .Constant (.str r) k3 p8] [] p9) p10] [] p11) (envOf nm scE L f cd)) Q E s := by
  refine wpAny_If (wpAny_with_toks ht (esc_test hc X T F News.nil hm fun tks ht' => ?_))
  by_cases hin : ch ∈ l
  · rw [decide_eq_true hin]
    simp only [if_true]
    refine wpAny_execs_cons (wpAny_with_toks ht' (esc_set hc hr hp ht' X T F News.nil hm hlen hrl hcr fun h' tks' t' F' ht'' => wpAny_execs_nil ?_))
    exact hQ h' tks' t' _ ht'' F' (if_pos rfl)
  · rw [decide_eq_false hin]
    simp only [Bool.false_eq_true, if_false]
    refine wpAny_execs_nil ?_
    exact hQ _ tks tk m ht' F (by rw [rpl_free _ _ _ hin]; exact hm)
end
theorem rpl_flat (ch : Nat) (rp : List Nat) (f : Nat → List Nat) (l : List Nat) : rpl ch rp (l.flatMap f) = l.flatMap fun x => rpl ch rp (f x) := List.flatMap_assoc
theorem flat_self (l : List Nat) : l.flatMap (fun x => [x]) = l := by simp
theorem esc_3 (l : List Nat) : rpl 62 [38, 103, 116, 59] (rpl 60 [38, 108, 116, 59] (rpl 38 [38, 97, 109, 112, 59] l)) = esc 3 l := by
  rw [← flat_self l, rpl_flat, rpl_flat, rpl_flat, flat_self]
  unfold esc; congr 1; funext x
  by_cases h1 : x = 38; · subst h1; rfl
  by_cases h2 : x = 60; · subst h2; rfl
  by_cases h3 : x = 62; · subst h3; rfl
  simp [rpl, esc1, nm, h1, h2, h3]
theorem esc_4 (l : List Nat) : rpl 9 [38, 35, 48, 57, 59] (rpl 10 [38, 35, 49, 48, 59] (rpl 13 [38, 35, 49, 51, 59] (rpl 34 [38, 113, 117, 111, 116, 59] (rpl 62 [38, 103, 116, 59] (rpl 60 [38, 108, 116, 59] (rpl 38 [38, 97, 109, 112, 59] l)))))) = esc 4 l := by
  rw [← flat_self l, rpl_flat, rpl_flat, rpl_flat, rpl_flat, rpl_flat, rpl_flat, rpl_flat, flat_self]
  unfold esc; congr 1; funext x
  by_cases h1 : x = 38; · subst h1; rfl
  by_cases h2 : x = 60; · subst h2; rfl
  by_cases h3 : x = 62; · subst h3; rfl
  by_cases h4 : x = 34; · subst h4; rfl
  by_cases h5 : x = 9; · subst h5; rfl
  by_cases h6 : x = 10; · subst h6; rfl
  by_cases h7 : x = 13; · subst h7; rfl
  simp [rpl, esc1, nm, h1, h2, h3, h4, h5, h6, h7]
theorem esc_5 (l : List Nat) : rpl 34 [38, 113, 117, 111, 116, 59] (rpl 62 [38, 103, 116, 59] (rpl 38 [38, 97, 109, 112, 59] l)) = esc 5 l := by
  rw [← flat_self l, rpl_flat, rpl_flat, rpl_flat, flat_self]
  unfold esc; congr 1; funext x
  by_cases h1 : x = 38; · subst h1; rfl
  by_cases h3 : x = 62; · subst h3; rfl
  by_cases h4 : x = 34; · subst h4; rfl
  simp [rpl, esc1, nm, h1, h3, h4]
theorem esc_6 (l : List Nat) : rpl 13 [38, 35, 120, 68, 59] (rpl 62 [38, 103, 116, 59] (rpl 60 [38, 108, 116, 59] (rpl 38 [38, 97, 109, 112, 59] l))) = esc 6 l := by
  rw [← flat_self l, rpl_flat, rpl_flat, rpl_flat, rpl_flat, flat_self]
  unfold esc; congr 1; funext x
  by_cases h1 : x = 38; · subst h1; rfl
  by_cases h2 : x = 60; · subst h2; rfl
  by_cases h3 : x = 62; · subst h3; rfl
  by_cases h7 : x = 13; · subst h7; rfl
  simp [rpl, esc1, nm, h1, h2, h3, h7]
theorem esc_7 (l : List Nat) : rpl 13 [38, 35, 120, 68, 59] (rpl 10 [38, 35, 120, 65, 59] (rpl 9 [38, 35, 120, 57, 59] (rpl 34 [38, 113, 117, 111, 116, 59] (rpl 60 [38, 108, 116, 59] (rpl 38 [38, 97, 109, 112, 59] l))))) = esc 7 l := by
  rw [← flat_self l, rpl_flat, rpl_flat, rpl_flat, rpl_flat, rpl_flat, rpl_flat, flat_self]
  unfold esc; congr 1; funext x
  by_cases h1 : x = 38; · subst h1; rfl
  by_cases h2 : x = 60; · subst h2; rfl
  by_cases h4 : x = 34; · subst h4; rfl
  by_cases h5 : x = 9; · subst h5; rfl
  by_cases h6 : x = 10; · subst h6; rfl
  by_cases h7 : x = 13; · subst h7; rfl
  simp [rpl, esc1, nm, h1, h2, h4, h5, h6, h7]
theorem rpl_mono (ch : Nat) (rp : List Nat) (hr : rp ≠ []) : ∀ l : List Nat, l.length ≤ (rpl ch rp l).length
  | [] => Nat.le_refl _
  | x :: r => by
    have ih := rpl_mono ch rp hr r
    show _ ≤ ((if x = ch then rp else [x]) ++ rpl ch rp r).length
    have h1 : 1 ≤ rp.length := by cases rp with | nil => exact absurd rfl hr | cons => simp
    rw [List.length_append, List.length_cons]
    split
    · omega
    · simp only [List.length_singleton]; omega
theorem esc1_len (h c : Nat) : (esc1 h c).length ≤ 6 := by
  unfold esc1
  split
  · rename_i n e
    have : n.length ≤ 5 := by
      unfold nm at e
      repeat' split at e
      all_goals first | (cases e; decide) | cases e
    simp only [List.length_cons]; omega
  · simp
theorem esc_len (h : Nat) : ∀ l : List Nat, (esc h l).length ≤ 6 * l.length
  | [] => Nat.le_refl _
  | c :: r => by
    have := esc_len h r
    have := esc1_len h c
    rw [esc_cons, List.length_append, List.length_cons]; omega
local macro_rules | `(tactic| walk_at "exec If") => `(tactic| (k_dflt ((first  | (refine' esc_if (ch := 38) (rp := [38, 97, 109, 112, 59]) ?k1 ?k2 ?k3 ?k4 ?k5 ?k6 ?k7 ?k8 ?k9 ?k10 ?k11 ?_; (case k1 => kernel_rfl!); (case k2 => kernel_rfl!))  | (refine' esc_if (ch := 60) (rp := [38, 108, 116, 59]) ?k1 ?k2 ?k3 ?k4 ?k5 ?k6 ?k7 ?k8 ?k9 ?k10 ?k11 ?_; (case k1 => kernel_rfl!); (case k2 => kernel_rfl!))  | (refine' esc_if (ch := 62) (rp := [38, 103, 116, 59]) ?k1 ?k2 ?k3 ?k4 ?k5 ?k6 ?k7 ?k8 ?k9 ?k10 ?k11 ?_; (case k1 => kernel_rfl!); (case k2 => kernel_rfl!))  | (refine' esc_if (ch := 34) (rp := [38, 113, 117, 111, 116, 59]) ?k1 ?k2 ?k3 ?k4 ?k5 ?k6 ?k7 ?k8 ?k9 ?k10 ?k11 ?_; (case k1 => kernel_rfl!); (case k2 => kernel_rfl!))  | (refine' esc_if (ch := 13) (rp := [38, 35, 49, 51, 59]) ?k1 ?k2 ?k3 ?k4 ?k5 ?k6 ?k7 ?k8 ?k9 ?k10 ?k11 ?_; (case k1 => kernel_rfl!); (case k2 => kernel_rfl!))  | (refine' esc_if (ch := 10) (rp := [38, 35, 49, 48, 59]) ?k1 ?k2 ?k3 ?k4 ?k5 ?k6 ?k7 ?k8 ?k9 ?k10 ?k11 ?_; (case k1 => kernel_rfl!); (case k2 => kernel_rfl!))  | (refine' esc_if (ch := 9) (rp := [38, 35, 48, 57, 59]) ?k1 ?k2 ?k3 ?k4 ?k5 ?k6 ?k7 ?k8 ?k9 ?k10 ?k11 ?_; (case k1 => kernel_rfl!); (case k2 => kernel_rfl!))  | (refine' esc_if (ch := 13) (rp := [38, 35, 120, 68, 59]) ?k1 ?k2 ?k3 ?k4 ?k5 ?k6 ?k7 ?k8 ?k9 ?k10 ?k11 ?_; (case k1 => kernel_rfl!); (case k2 => kernel_rfl!))  | (refine' esc_if (ch := 9) (rp := [38, 35, 120, 57, 59]) ?k1 ?k2 ?k3 ?k4 ?k5 ?k6 ?k7 ?k8 ?k9 ?k10 ?k11 ?_; (case k1 => kernel_rfl!); (case k2 => kernel_rfl!))  | (refine' esc_if (ch := 10) (rp := [38, 35, 120, 65, 59]) ?k1 ?k2 ?k3 ?k4 ?k5 ?k6 ?k7 ?k8 ?k9 ?k10 ?k11 ?_; (case k1 => kernel_rfl!); (case k2 => kernel_rfl!))); (case k3 => exact rfl); (case k4 => assumption); (case k5 => assumption); (case k6 => assumption); (case k7 => assumption); (case k8 => assumption); (case k9 => omega); (case k10 => decide); (case k11 => decide))); intro h3 tks3 t3 m3 ht3 F3 hm3; (try dsimp only))
section
variable {w : World} {mg mb : Str → Option Value} {dp un : Nat} {fr : Option (List Env)} {gd : Option (List Code)} {s : Shared} {Q E : Value → Shared → Prop} (l : List Nat) (tk : Tok)
theorem c_cdata (X : (hd.heap_39 w.params).In s.heap) (T : TopRead hd.view_39 LS mg mb s.heap) (hd : dp + 20 < 1000) (_hu : un + 100 < 9900) (hz : l.length ≤ 2 ^ 17)
    (hQ : ∀ t h' tk', Ups s.heap h' → Q (.str (S (esc 3 l)) t) { s with heap := h', toks := tk' }) :
    wpAny (model PySem.Challenge.rw_wn0067_01.row.prog w) (AT dp un fr gd) (call (.ref 113) [.str (S l) tk]) Q E s := by
  revert X; k_fill; intro X
  w_on
  refine enterF (binds := [(Str.ofString "text", .str (S l) tk)]) X T (by k_is) (by k_is) (by show dp < recursionLimit; unfold recursionLimit; omega) rfl (locs rfl) rfl rfl rfl (by decide) ?_
  intro L h₁ F N
  have hm : (fun x => List.lookup x [(Str.ofString "text", Value.str (S l) tk)].reverse) (Str.ofString "text") = some (Value.str (S l) tk) := by kernel_rfl
  generalize (fun x => List.lookup x [(Str.ofString "text", Value.str (S l) tk)].reverse) = m at F hm
  have ht : 1 ≤ s.toks + [(Str.ofString "text", Value.str (S l) tk)].length := Nat.le_add_left ..
  generalize s.toks + [(Str.ofString "text", Value.str (S l) tk)].length = tks at ht ⊢
  have hfin := esc_len 3 l
  rw [← esc_3] at hfin hQ
  have b0 := rpl_mono 38 [38, 97, 109, 112, 59] (by decide) (l)
  have b1 := rpl_mono 60 [38, 108, 116, 59] (by decide) (rpl 38 [38, 97, 109, 112, 59] (l))
  have b2 := rpl_mono 62 [38, 103, 116, 59] (by decide) (rpl 60 [38, 108, 116, 59] (rpl 38 [38, 97, 109, 112, 59] (l)))
  (try k_fold)
  k_steps
  exact hQ _ _ _ (Fr.keep (by assumption))
theorem c_attrib (X : (hd.heap_39 w.params).In s.heap) (T : TopRead hd.view_39 LS mg mb s.heap) (hd : dp + 20 < 1000) (_hu : un + 100 < 9900) (hz : l.length ≤ 2 ^ 17)
    (hQ : ∀ t h' tk', Ups s.heap h' → Q (.str (S (esc 4 l)) t) { s with heap := h', toks := tk' }) :
    wpAny (model PySem.Challenge.rw_wn0067_01.row.prog w) (AT dp un fr gd) (call (.ref 120) [.str (S l) tk]) Q E s := by
  revert X; k_fill; intro X
  w_on
  refine enterF (binds := [(Str.ofString "text", .str (S l) tk)]) X T (by k_is) (by k_is) (by show dp < recursionLimit; unfold recursionLimit; omega) rfl (locs rfl) rfl rfl rfl (by decide) ?_
  intro L h₁ F N
  have hm : (fun x => List.lookup x [(Str.ofString "text", Value.str (S l) tk)].reverse) (Str.ofString "text") = some (Value.str (S l) tk) := by kernel_rfl
  generalize (fun x => List.lookup x [(Str.ofString "text", Value.str (S l) tk)].reverse) = m at F hm
  have ht : 1 ≤ s.toks + [(Str.ofString "text", Value.str (S l) tk)].length := Nat.le_add_left ..
  generalize s.toks + [(Str.ofString "text", Value.str (S l) tk)].length = tks at ht ⊢
  have hfin := esc_len 4 l
  rw [← esc_4] at hfin hQ
  have b0 := rpl_mono 38 [38, 97, 109, 112, 59] (by decide) (l)
  have b1 := rpl_mono 60 [38, 108, 116, 59] (by decide) (rpl 38 [38, 97, 109, 112, 59] (l))
  have b2 := rpl_mono 62 [38, 103, 116, 59] (by decide) (rpl 60 [38, 108, 116, 59] (rpl 38 [38, 97, 109, 112, 59] (l)))
  have b3 := rpl_mono 34 [38, 113, 117, 111, 116, 59] (by decide) (rpl 62 [38, 103, 116, 59] (rpl 60 [38, 108, 116, 59] (rpl 38 [38, 97, 109, 112, 59] (l))))
  have b4 := rpl_mono 13 [38, 35, 49, 51, 59] (by decide) (rpl 34 [38, 113, 117, 111, 116, 59] (rpl 62 [38, 103, 116, 59] (rpl 60 [38, 108, 116, 59] (rpl 38 [38, 97, 109, 112, 59] (l)))))
  have b5 := rpl_mono 10 [38, 35, 49, 48, 59] (by decide) (rpl 13 [38, 35, 49, 51, 59] (rpl 34 [38, 113, 117, 111, 116, 59] (rpl 62 [38, 103, 116, 59] (rpl 60 [38, 108, 116, 59] (rpl 38 [38, 97, 109, 112, 59] (l))))))
  have b6 := rpl_mono 9 [38, 35, 48, 57, 59] (by decide) (rpl 10 [38, 35, 49, 48, 59] (rpl 13 [38, 35, 49, 51, 59] (rpl 34 [38, 113, 117, 111, 116, 59] (rpl 62 [38, 103, 116, 59] (rpl 60 [38, 108, 116, 59] (rpl 38 [38, 97, 109, 112, 59] (l)))))))
  (try k_fold)
  k_steps
  exact hQ _ _ _ (Fr.keep (by assumption))
theorem c_html (X : (hd.heap_39 w.params).In s.heap) (T : TopRead hd.view_39 LS mg mb s.heap) (hd : dp + 20 < 1000) (_hu : un + 100 < 9900) (hz : l.length ≤ 2 ^ 17)
    (hQ : ∀ t h' tk', Ups s.heap h' → Q (.str (S (esc 5 l)) t) { s with heap := h', toks := tk' }) :
    wpAny (model PySem.Challenge.rw_wn0067_01.row.prog w) (AT dp un fr gd) (call (.ref 127) [.str (S l) tk]) Q E s := by
  revert X; k_fill; intro X
  w_on
  refine enterF (binds := [(Str.ofString "text", .str (S l) tk)]) X T (by k_is) (by k_is) (by show dp < recursionLimit; unfold recursionLimit; omega) rfl (locs rfl) rfl rfl rfl (by decide) ?_
  intro L h₁ F N
  have hm : (fun x => List.lookup x [(Str.ofString "text", Value.str (S l) tk)].reverse) (Str.ofString "text") = some (Value.str (S l) tk) := by kernel_rfl
  generalize (fun x => List.lookup x [(Str.ofString "text", Value.str (S l) tk)].reverse) = m at F hm
  have ht : 1 ≤ s.toks + [(Str.ofString "text", Value.str (S l) tk)].length := Nat.le_add_left ..
  generalize s.toks + [(Str.ofString "text", Value.str (S l) tk)].length = tks at ht ⊢
  have hfin := esc_len 5 l
  rw [← esc_5] at hfin hQ
  have b0 := rpl_mono 38 [38, 97, 109, 112, 59] (by decide) (l)
  have b1 := rpl_mono 62 [38, 103, 116, 59] (by decide) (rpl 38 [38, 97, 109, 112, 59] (l))
  have b2 := rpl_mono 34 [38, 113, 117, 111, 116, 59] (by decide) (rpl 62 [38, 103, 116, 59] (rpl 38 [38, 97, 109, 112, 59] (l)))
  (try k_fold)
  k_steps
  exact hQ _ _ _ (Fr.keep (by assumption))
theorem c_cdata14 (X : (hd.heap_39 w.params).In s.heap) (T : TopRead hd.view_39 LS mg mb s.heap) (hd : dp + 20 < 1000) (_hu : un + 100 < 9900) (hz : l.length ≤ 2 ^ 17)
    (hQ : ∀ t h' tk', Ups s.heap h' → Q (.str (S (esc 6 l)) t) { s with heap := h', toks := tk' }) :
    wpAny (model PySem.Challenge.rw_wn0067_01.row.prog w) (AT dp un fr gd) (call (.ref 134) [.str (S l) tk]) Q E s := by
  revert X; k_fill; intro X
  w_on
  refine enterF (binds := [(Str.ofString "text", .str (S l) tk)]) X T (by k_is) (by k_is) (by show dp < recursionLimit; unfold recursionLimit; omega) rfl (locs rfl) rfl rfl rfl (by decide) ?_
  intro L h₁ F N
  have hm : (fun x => List.lookup x [(Str.ofString "text", Value.str (S l) tk)].reverse) (Str.ofString "text") = some (Value.str (S l) tk) := by kernel_rfl
  generalize (fun x => List.lookup x [(Str.ofString "text", Value.str (S l) tk)].reverse) = m at F hm
  have ht : 1 ≤ s.toks + [(Str.ofString "text", Value.str (S l) tk)].length := Nat.le_add_left ..
  generalize s.toks + [(Str.ofString "text", Value.str (S l) tk)].length = tks at ht ⊢
  have hfin := esc_len 6 l
  rw [← esc_6] at hfin hQ
  have b0 := rpl_mono 38 [38, 97, 109, 112, 59] (by decide) (l)
  have b1 := rpl_mono 60 [38, 108, 116, 59] (by decide) (rpl 38 [38, 97, 109, 112, 59] (l))
  have b2 := rpl_mono 62 [38, 103, 116, 59] (by decide) (rpl 60 [38, 108, 116, 59] (rpl 38 [38, 97, 109, 112, 59] (l)))
  have b3 := rpl_mono 13 [38, 35, 120, 68, 59] (by decide) (rpl 62 [38, 103, 116, 59] (rpl 60 [38, 108, 116, 59] (rpl 38 [38, 97, 109, 112, 59] (l))))
  (try k_fold)
  k_steps
  exact hQ _ _ _ (Fr.keep (by assumption))
theorem c_attrib14 (X : (hd.heap_39 w.params).In s.heap) (T : TopRead hd.view_39 LS mg mb s.heap) (hd : dp + 20 < 1000) (_hu : un + 100 < 9900) (hz : l.length ≤ 2 ^ 17)
    (hQ : ∀ t h' tk', Ups s.heap h' → Q (.str (S (esc 7 l)) t) { s with heap := h', toks := tk' }) :
    wpAny (model PySem.Challenge.rw_wn0067_01.row.prog w) (AT dp un fr gd) (call (.ref 141) [.str (S l) tk]) Q E s := by
  revert X; k_fill; intro X
  w_on
  refine enterF (binds := [(Str.ofString "text", .str (S l) tk)]) X T (by k_is) (by k_is) (by show dp < recursionLimit; unfold recursionLimit; omega) rfl (locs rfl) rfl rfl rfl (by decide) ?_
  intro L h₁ F N
  have hm : (fun x => List.lookup x [(Str.ofString "text", Value.str (S l) tk)].reverse) (Str.ofString "text") = some (Value.str (S l) tk) := by kernel_rfl
  generalize (fun x => List.lookup x [(Str.ofString "text", Value.str (S l) tk)].reverse) = m at F hm
  have ht : 1 ≤ s.toks + [(Str.ofString "text", Value.str (S l) tk)].length := Nat.le_add_left ..
  generalize s.toks + [(Str.ofString "text", Value.str (S l) tk)].length = tks at ht ⊢
  have hfin := esc_len 7 l
  rw [← esc_7] at hfin hQ
  have b0 := rpl_mono 38 [38, 97, 109, 112, 59] (by decide) (l)
  have b1 := rpl_mono 60 [38, 108, 116, 59] (by decide) (rpl 38 [38, 97, 109, 112, 59] (l))
  have b2 := rpl_mono 34 [38, 113, 117, 111, 116, 59] (by decide) (rpl 60 [38, 108, 116, 59] (rpl 38 [38, 97, 109, 112, 59] (l)))
  have b3 := rpl_mono 9 [38, 35, 120, 57, 59] (by decide) (rpl 34 [38, 113, 117, 111, 116, 59] (rpl 60 [38, 108, 116, 59] (rpl 38 [38, 97, 109, 112, 59] (l))))
  have b4 := rpl_mono 10 [38, 35, 120, 65, 59] (by decide) (rpl 9 [38, 35, 120, 57, 59] (rpl 34 [38, 113, 117, 111, 116, 59] (rpl 60 [38, 108, 116, 59] (rpl 38 [38, 97, 109, 112, 59] (l)))))
  have b5 := rpl_mono 13 [38, 35, 120, 68, 59] (by decide) (rpl 10 [38, 35, 120, 65, 59] (rpl 9 [38, 35, 120, 57, 59] (rpl 34 [38, 113, 117, 111, 116, 59] (rpl 60 [38, 108, 116, 59] (rpl 38 [38, 97, 109, 112, 59] (l))))))
  (try k_fold)
  k_steps
  exact hQ _ _ _ (Fr.keep (by assumption))
end
end Mine
end

section
open PySem PySem.W PyProof.Rows PySem.Calls
set_option maxRecDepth 100000
set_option maxHeartbeats 4000000
namespace Mine
section
variable {prog : Program} {w : World} {A : Around} {E : Value → Shared → Prop} {Q : Flow → Shared → Prop} {s : Shared} {env : Env} {h₀ : Heap} {L : Addr}
/-- a turn's end: the state goes on -/
def LoopNext (h₀ : Heap) (L : Addr) (s : Shared) (J : Nat → (Str → Option Value) → Prop) (n : Nat) (s₃ : Shared) : Prop :=
  ∃ h' tk m₂ n', s₃ = { s with heap := h', toks := tk } ∧ Fr h₀ L h' m₂ ∧ n' < n ∧ J n' m₂
theorem LoopNext.mk {h₀ h' : Heap} {L : Addr} {s : Shared} {J : Nat → (Str → Option Value) → Prop} {n n' tk : Nat} {m₂ : Str → Option Value} (F : Fr h₀ L h' m₂) (hn : n' < n) (hJ : J n' m₂) : LoopNext h₀ L s J n { s with heap := h', toks := tk } :=
  ⟨h', tk, m₂, n', rfl, F, hn, hJ⟩
/-- a while that may break or hand back -/
theorem While_brk {test : Expr} {body : List Stmt} {pos : Pos} {m : Str → Option Value} (J : Nat → (Str → Option Value) → Prop) {n₀ : Nat} (F : Fr h₀ L s.heap m) (hJ : J n₀ m)
    (turn : ∀ n m₁ h₁ tk₁, Fr h₀ L h₁ m₁ → J n m₁ →
      wpAny (model prog w) A (isTrue test env (eval test env)) (fun b s₂ =>
        if b = true then wpAny (model prog w) A (execs body env) (fun f s₃ => match f with
          | .next | .cont => LoopNext h₀ L s J n s₃
          | .brk => Q .next s₃
          | .ret v => Q (.ret v) s₃) E s₂ else Q .next s₂) E { s with heap := h₁, toks := tk₁ })
    (hE : PassesOwn (model prog w) A env E := by passes_own) :
    wpAny (model prog w) A (exec (.While test body [] pos) env) Q E s := by
  refine wpAny_While (codeAny_whileLoop (fun n s' => ∃ h₁ tk₁ m₁, s' = { s with heap := h₁, toks := tk₁ } ∧ Fr h₀ L h₁ m₁ ∧ J n m₁) ?_ n₀ ⟨s.heap, s.toks, m, rfl, F, hJ⟩)
  rintro n s' ⟨h₁, tk₁, m₁, rfl, F₁, J₁⟩
  refine wpAny_mono (turn n m₁ h₁ tk₁ F₁ J₁) (fun b s₂ h₂ => ?_) hE
  cases b with
  | false =>
    simp only [Bool.false_eq_true, if_false] at h₂ ⊢
    exact wpAny_execs_nil h₂
  | true =>
    simp only [if_true] at h₂ ⊢
    refine wpAny_mono h₂ (fun f s₃ h₃ => ?_) hE
    cases f with
    | next => obtain ⟨h', tk, m₂, n', rfl, F₂, hn, J₂⟩ := h₃; exact ⟨n', hn, h', tk, m₂, rfl, F₂, J₂⟩
    | cont => obtain ⟨h', tk, m₂, n', rfl, F₂, hn, J₂⟩ := h₃; exact ⟨n', hn, h', tk, m₂, rfl, F₂, J₂⟩
    | brk => exact h₃
    | ret v => exact h₃
end
theorem ite_neg' {c : Prop} [Decidable c] {a b : Prop} (h : ¬ c) (hb : b) : if c then a else b := by rw [if_neg h]; exact hb
theorem ite_pos' {c : Prop} [Decidable c] {a b : Prop} (h : c) (ha : a) : if c then a else b := by rw [if_pos h]; exact ha
theorem slice_S {l : List Nat} {i j : Nat} (h1 : i ≤ j) (h2 : j ≤ l.length) : Txt.slice (S l) (some (i : Int)) (some (j : Int)) = S ((l.drop i).take (j - i)) := by
  have := slice_closes (x := S l) (i := i) (j := j) ⟨by omega, by omega, by simp; omega⟩
  have e := eq_of_beq this
  rw [e]
  have e1 : ((j : Int) - (i : Int)).toNat = j - i := by omega
  simp [e1]
theorem slice_S0 {l : List Nat} {j : Nat} (h2 : j ≤ l.length) : Txt.slice (S l) none (some (j : Int)) = S (l.take j) := by
  have := slice_closes_to (x := S l) (j := j) ⟨by omega, by simp; omega⟩
  have e := eq_of_beq this
  rw [e]; simp
local macro_rules | `(tactic| k_steps) => `(tactic| repeat' (first | ((fail_if_success (with_reducible show wpAny _ _ (exec (Stmt.While _ _ _ _) _) _ _ _)); (fail_if_success (with_reducible show wpAny _ _ (exec (Stmt.For _ _ _ _ _) _) _ _ _)); first | (k_unfold; (try dsimp only)) | (k_end; wrow_close) | walk1 | (dsimp only; walk1) | (leave1; walk_say "STEP leave1"; try dsimp only) | fail "no step")))
local macro_rules | `(tactic| walk_at "eval Name") => `(tactic| (k_dflt (refine ld (by assumption) (by assumption) ?_)))
local macro_rules | `(tactic| walk_at "ite") => `(tactic| (refine ite_neg' (by assumption) ?_))
theorem upd_hit {m : Str → Option Value} {x : Str} {v : Value} : (fun y => if y = x then some v else m y) x = some v := if_pos rfl
theorem upd_miss {m : Str → Option Value} {x z : Str} {v u : Value} (h : z ≠ x) (hm : m z = some u) : (fun y => if y = x then some v else m y) z = some u := (if_neg h).trans hm
abbrev RR (l : List Nat) : Str := S (50 :: 53 :: 55 :: 32 :: 34 :: l)
theorem item_R {l : List Nat} {k : Nat} (h : k < l.length) : Txt.item (RR l) ((k + 5 : Nat) : Int) = S [l.getD k 0] := by
  refine item_meets (by omega) ?_
  have e : ((k + 5 : Nat) : Int).toNat = k + 5 := by omega
  rw [e]
  show (50 :: 53 :: 55 :: 32 :: 34 :: l).toArray[k + 5]? = _
  simp [h]
theorem item_R1 {l : List Nat} {k : Nat} (h : k + 1 < l.length) : Txt.item (RR l) (((k + 5 : Nat) : Int) + 1) = S [l.getD (k + 1) 0] := by
  have := item_R h
  rw [← this]; congr 1
theorem S_inj {a b : List Nat} (h : S a = S b) : a = b := by
  have := congrArg (fun x : Str => x.cps.toList) h
  simpa using this
theorem quote_S : Str.ofString "\"" = S [34] := by kernel_rfl!
theorem S_eqb (a b : List Nat) : (S a == S b) = decide (a = b) := by
  by_cases h : a = b
  · subst h; simp
  · rw [decide_eq_false h, beq_eq_false_iff_ne]; exact fun e => h (S_inj e)
theorem S_app (a b : List Nat) : S a ++ S b = S (a ++ b) := by
  show (⟨a.toArray ++ b.toArray⟩ : Str) = ⟨(a ++ b).toArray⟩
  simp
theorem drop_get {l : List Nat} {k : Nat} (h : k < l.length) : l.drop k = l.getD k 0 :: l.drop (k + 1) := by
  rw [List.drop_eq_getElem_cons h]; congr 1; simp [h]
theorem e_last {l d : List Nat} {k : Nat} (hk : ((k + 5 : Nat) : Int) < ((l.length + 5 : Nat) : Int)) (hq : (Txt.item (RR l) ((k + 5 : Nat) : Int) == Str.ofString "\"") = true)
    (hl : ((l.length + 5 : Nat) : Int) ≤ ((k + 5 : Nat) : Int) + 1) (hP : d ++ P (l.drop k) = P l) : d = P l := by
  have h1 : k < l.length := by omega
  rw [item_R h1, quote_S, S_eqb] at hq
  have h2 : l.getD k 0 = 34 := by simpa using hq
  rw [drop_get h1, h2, List.drop_eq_nil_of_le (by omega)] at hP
  simpa [P] using hP
theorem e_odd {l d : List Nat} {k : Nat} (hk : ((k + 5 : Nat) : Int) < ((l.length + 5 : Nat) : Int)) (hq : (Txt.item (RR l) ((k + 5 : Nat) : Int) == Str.ofString "\"") = true)
    (hl : ¬ ((l.length + 5 : Nat) : Int) ≤ ((k + 5 : Nat) : Int) + 1) (hn : (Txt.item (RR l) (((k + 5 : Nat) : Int) + 1) != Str.ofString "\"") = true) (hP : d ++ P (l.drop k) = P l) : d = P l := by
  have h1 : k < l.length := by omega
  have h3 : k + 1 < l.length := by omega
  rw [item_R h1, quote_S, S_eqb] at hq
  rw [item_R1 h3, quote_S, bne, S_eqb] at hn
  have h2 : l.getD k 0 = 34 := by simpa using hq
  have h4 : l.getD (k + 1) 0 ≠ 34 := by simpa using hn
  rw [drop_get h1, h2, drop_get h3, P_one (by intro r e; injection e with e1 _; exact h4 e1)] at hP
  simpa using hP
theorem e_pair {l d : List Nat} {k : Nat} (hk : ((k + 5 : Nat) : Int) < ((l.length + 5 : Nat) : Int)) (hq : (Txt.item (RR l) ((k + 5 : Nat) : Int) == Str.ofString "\"") = true)
    (hl : ¬ ((l.length + 5 : Nat) : Int) ≤ ((k + 5 : Nat) : Int) + 1) (hn : (Txt.item (RR l) (((k + 5 : Nat) : Int) + 1) != Str.ofString "\"") = false) (hP : d ++ P (l.drop k) = P l) :
    S d ++ Txt.item (RR l) ((k + 5 : Nat) : Int) = S (d ++ [34]) ∧ (d ++ [34]) ++ P (l.drop (k + 2)) = P l ∧ k + 2 ≤ l.length := by
  have h1 : k < l.length := by omega
  have h3 : k + 1 < l.length := by omega
  rw [item_R h1, quote_S, S_eqb] at hq
  rw [item_R1 h3, quote_S, bne, S_eqb] at hn
  have h2 : l.getD k 0 = 34 := by simpa using hq
  have h4 : l.getD (k + 1) 0 = 34 := by simpa using hn
  rw [drop_get h1, h2, drop_get h3, h4] at hP
  refine ⟨by rw [item_R h1, h2, S_app], ?_, by omega⟩
  rw [← hP]; simp [P]
theorem e_sign {l d : List Nat} {k : Nat} (hk : ((k + 5 : Nat) : Int) < ((l.length + 5 : Nat) : Int)) (hq : (Txt.item (RR l) ((k + 5 : Nat) : Int) == Str.ofString "\"") = false) (hP : d ++ P (l.drop k) = P l) :
    S d ++ Txt.item (RR l) ((k + 5 : Nat) : Int) = S (d ++ [l.getD k 0]) ∧ (d ++ [l.getD k 0]) ++ P (l.drop (k + 1)) = P l ∧ k + 1 ≤ l.length := by
  have h1 : k < l.length := by omega
  rw [item_R h1, quote_S, S_eqb] at hq
  have h2 : l.getD k 0 ≠ 34 := by simpa using hq
  rw [drop_get h1, P_cons h2] at hP
  refine ⟨by rw [item_R h1, S_app], ?_, by omega⟩
  rw [← hP]; simp
theorem e_done {l d : List Nat} {k : Nat} (hk : k ≤ l.length) (hn : ¬ ((k + 5 : Nat) : Int) < ((l.length + 5 : Nat) : Int)) (hP : d ++ P (l.drop k) = P l) : d = P l := by
  rw [List.drop_eq_nil_of_le (by omega)] at hP
  simpa [P] using hP
section
variable {w : World} {mg mb : Str → Option Value} {dp un : Nat} {fr : Option (List Env)} {gd : Option (List Code)} {s : Shared} {Q E : Value → Shared → Prop} (l : List Nat) (t0 : Tok)
theorem c_parse (X : (hd.heap_39 w.params).In s.heap) (T : TopRead hd.view_39 LS mg mb s.heap) (hd : dp + 20 < 1000) (_hu : un + 100 < 9900) (hz : l.length ≤ 2 ^ 20)
    (hQ : ∀ t h' tk', Ups s.heap h' → Q (.str (S (P l)) t) { s with heap := h', toks := tk' }) :
    wpAny (model PySem.Challenge.rw_wn0067_01.row.prog w) (AT dp un fr gd) (call (.ref 63) [.str (S (50 :: 53 :: 55 :: 32 :: 34 :: l)) t0]) Q E s := by
  revert X; k_fill; intro X
  w_on
  refine enterF (binds := [(Str.ofString "resp", .str (S (50 :: 53 :: 55 :: 32 :: 34 :: l)) t0)]) X T (by k_is) (by k_is) (by show dp < recursionLimit; unfold recursionLimit; omega) rfl (locs rfl) rfl rfl rfl (by decide) ?_
  intro L h₁ F N
  have e1 : Txt.slice (S (50 :: 53 :: 55 :: 32 :: 34 :: l)) none (some 3) = Str.ofString "257" := (slice_S0 (j := 3) (by simp)).trans (by kernel_rfl!)
  have e2 : Txt.slice (S (50 :: 53 :: 55 :: 32 :: 34 :: l)) (some 3) (some 5) = Str.ofString " \"" := (slice_S (i := 3) (j := 5) (by decide) (by simp)).trans (by kernel_rfl!)
  have n1 : ¬ ((Txt.slice (S (50 :: 53 :: 55 :: 32 :: 34 :: l)) none (some 3) != Str.ofString "257") = true) := by rw [e1]; simp
  have n2 : ¬ ((Txt.slice (S (50 :: 53 :: 55 :: 32 :: 34 :: l)) (some 3) (some 5) != Str.ofString " \"") = true) := by rw [e2]; simp
  have hR : (S (50 :: 53 :: 55 :: 32 :: 34 :: l)).length = l.length + 5 := by show (50 :: 53 :: 55 :: 32 :: 34 :: l).toArray.size = _; simp
  k_steps
  refine While_brk (fun n m => ∃ (k : Nat) (d : List Nat), n = l.length - k ∧ k ≤ l.length ∧ d ++ P (l.drop k) = P l ∧ d.length ≤ k ∧
    m (Str.ofString "resp") = some (.str (S (50 :: 53 :: 55 :: 32 :: 34 :: l)) t0) ∧ (∃ t, m (Str.ofString "i") = some (.int ((k + 5 : Nat) : Int) t)) ∧
    (∃ t, m (Str.ofString "n") = some (.int (((S (50 :: 53 :: 55 :: 32 :: 34 :: l)).length : Nat) : Int) t)) ∧ ∃ t, m (Str.ofString "dirname") = some (.str (S d) t)) (n₀ := l.length) (by assumption) ?_ ?_
  · exact ⟨0, [], rfl, Nat.zero_le _, rfl, Nat.le_refl _, rfl, ⟨_, rfl⟩, ⟨_, rfl⟩, ⟨_, rfl⟩⟩
  · rintro n m₁ h₂ tk₂ F₂ ⟨k, d, hn, hk, hP, hd2, m1, ⟨t1, m2⟩, ⟨t2, m3⟩, ⟨t3, m4⟩⟩
    rw [hR] at m3
    clear n1 n2 e1 e2
    have N₂ : News s.heap L h₂ [] := News.nil
    have hSd : (S d).length = d.length := by show d.toArray.size = _; simp
    k_steps
    · have e := e_last (by assumption) (by assumption) (by assumption) hP
      subst e; exact hQ _ _ _ (Fr.keep (by assumption))
    · have e := e_odd (by assumption) (by assumption) (by assumption) (by assumption) hP
      subst e; exact hQ _ _ _ (Fr.keep (by assumption))
    · obtain ⟨q1, q2, q3⟩ := e_pair (by assumption) (by assumption) (by assumption) (by assumption) hP
      have ei : ((k + 5 : Nat) : Int) + 1 + 1 = ((k + 2 + 5 : Nat) : Int) := by omega
      refine LoopNext.mk (n' := l.length - (k + 2)) (by assumption) (by omega) ⟨k + 2, d ++ [34], rfl, q3, q2, by simp; omega, ?_, ?_, ?_, ?_⟩
      · exact m1
      · rw [← ei]
        exact ⟨_, rfl⟩
      · rw [hR]
        exact ⟨t2, m3⟩
      · rw [← q1]
        exact ⟨_, rfl⟩
    · obtain ⟨q1, q2, q3⟩ := e_sign (by assumption) (by assumption) hP
      have ei : ((k + 5 : Nat) : Int) + 1 = ((k + 1 + 5 : Nat) : Int) := by omega
      refine LoopNext.mk (n' := l.length - (k + 1)) (by assumption) (by omega) ⟨k + 1, d ++ [l.getD k 0], rfl, q3, q2, by simp; omega, ?_, ?_, ?_, ?_⟩
      · exact m1
      · rw [← ei]
        exact ⟨_, rfl⟩
      · rw [hR]
        exact ⟨t2, m3⟩
      · rw [← q1]
        exact ⟨_, rfl⟩
    · have e := e_done hk (by assumption) hP
      subst e; exact hQ _ _ _ (Fr.keep (by assumption))
end
end Mine
end

section
open PySem PySem.W PyProof.Rows PySem.Calls
set_option maxRecDepth 100000
set_option maxHeartbeats 4000000
namespace Mine
local macro_rules | `(tactic| walk_at "pad") => `(tactic| fail)
local macro_rules | `(tactic| walk_at "pad") => `(tactic| fail)
local macro_rules | `(tactic| walk_at "pad") => `(tactic| fail)
local macro_rules | `(tactic| walk_at "pad") => `(tactic| fail)
local macro_rules | `(tactic| walk_at "pad") => `(tactic| fail)
local macro_rules | `(tactic| walk_at "pad") => `(tactic| fail)
local macro_rules | `(tactic| walk_at "pad") => `(tactic| fail)
local macro_rules | `(tactic| walk_at "pad") => `(tactic| fail)
local macro_rules | `(tactic| walk_at "pad") => `(tactic| fail)
local macro_rules | `(tactic| walk_at "pad") => `(tactic| fail)
local macro_rules | `(tactic| walk_at "pad") => `(tactic| fail)
local macro_rules | `(tactic| walk_at "pad") => `(tactic| fail)
local macro_rules | `(tactic| walk_at "pad") => `(tactic| fail)
local macro_rules | `(tactic| walk_at "pad") => `(tactic| fail)
local macro_rules | `(tactic| walk_at "pad") => `(tactic| fail)
local macro_rules | `(tactic| walk_at "pad") => `(tactic| fail)
local macro_rules | `(tactic| walk_at "pad") => `(tactic| fail)
local macro_rules | `(tactic| walk_at "pad") => `(tactic| fail)
local macro_rules | `(tactic| walk_at "pad") => `(tactic| fail)
local macro_rules | `(tactic| walk_at "pad") => `(tactic| fail)
def pieceAt (ch : Nat) : Nat → List Nat
  | 0 => [34] | 1 => [34, 34] | 2 => [34, 34, 34, 34] | 3 => [46] | 4 => [13] | 5 => [10] | 6 => [13, 10] | 7 => [10, 46] | 8 => [38] | 9 => [60] | 10 => [62] | 11 => [9] | 12 => [97] | 13 => [13, 46] | 14 => [34, 34] | 15 => [ch] | _ => []
def pieces (x : Int) : List Nat := pieceAt ((x.fdiv 2560).fmod 256).toNat (x.fmod 16).toNat ++ pieceAt ((x.fdiv 2560).fmod 256).toNat ((x.fdiv 160).fmod 16).toNat
theorem lt1 : Str.ofString "\"" = S [34] := by kernel_rfl!
theorem lt2 : Str.ofString "\"\"" = S [34, 34] := by kernel_rfl!
theorem lt3 : Str.ofString "\"\"\"\"" = S [34, 34, 34, 34] := by kernel_rfl!
theorem lt4 : Str.ofString "." = S [46] := by kernel_rfl!
theorem lt5 : Str.ofString "\r" = S [13] := by kernel_rfl!
theorem lt6 : Str.ofString "\n" = S [10] := by kernel_rfl!
theorem lt7 : Str.ofString "\r\n" = S [13, 10] := by kernel_rfl!
theorem lt8 : Str.ofString "\n." = S [10, 46] := by kernel_rfl!
theorem lt9 : Str.ofString "&" = S [38] := by kernel_rfl!
theorem lt10 : Str.ofString "<" = S [60] := by kernel_rfl!
theorem lt11 : Str.ofString ">" = S [62] := by kernel_rfl!
theorem lt12 : Str.ofString "\t" = S [9] := by kernel_rfl!
theorem lt13 : Str.ofString "a" = S [97] := by kernel_rfl!
theorem lt14 : Str.ofString "\r." = S [13, 46] := by kernel_rfl!
theorem tab16 {a : Array Value} {ch : Nat} (h : ∀ k, k < 16 → ∃ t, a[k]? = some (.str (S (pieceAt ch k)) t)) {i : Int} (h0 : 0 ≤ i) (h1 : i < 16) : ∃ t, a[i.toNat]? = some (.str (S (pieceAt ch i.toNat)) t) := h _ (by omega)
theorem item_list {prog : Program} {w : World} {A : Around} {E : Value → Shared → Prop} {s : Shared} {value slice : PySem.Expr} {l : Addr} {vs : Array Value} {k : Int} {u : Tok} {v : Value} {Q : Value → Shared → Prop}
    (hl : s.heap.IsList l vs) (h0 : 0 ≤ k) (hhi : k < 2 ^ 63) (hx : vs[k.toNat]? = some v) (h : Q v s)
    (hs : subscripted slice false (.ref l) (.int k u) = operate [.ref l, .int k u] (getItem (.ref l) (.int k u)) := by with_unfolding_all rfl) :
    wpAny (model prog w) A (subscriptTail value slice (.ref l) (.int k u)) Q E s :=
  tail_any hl.typeIs slot_list_getitem.lookup (wpAny_getItem_list hl h0 hhi hx h) hs
theorem tabOf {h h₀ : Heap} {L l : Addr} {arr : Array Value} {n : Nat} (N : News h₀ L h [(l, W.listOf arr n)]) (ch : Nat) (hk : ∀ k, k < 16 → ∃ t, arr[k]? = some (.str (S (pieceAt ch k)) t)) :
    ∃ a, h.IsList l a ∧ ∀ k, k < 16 → ∃ t, a[k]? = some (.str (S (pieceAt ch k)) t) := ⟨arr, ⟨_, (N _ (.head _)).1, rfl, _, rfl⟩, hk⟩
theorem piece_len (ch k : Nat) : (S (pieceAt ch k)).length ≤ 4 := by
  show (pieceAt ch k).toArray.size ≤ 4
  unfold pieceAt
  split <;> simp
section
variable {w : World} {mg mb : Str → Option Value} {dp un : Nat} {fr : Option (List Env)} {gd : Option (List Code)} {s : Shared} {Q E : Value → Shared → Prop} (x : Int) (t0 : Tok)
theorem c_pieces (X : (hd.heap_39 w.params).In s.heap) (T : TopRead hd.view_39 LS mg mb s.heap) (hd : dp + 20 < 1000) (_hu : un + 100 < 9900)
    (hQ : ∀ t h' tk', Ups s.heap h' → Q (.str (S (pieces x)) t) { s with heap := h', toks := tk' }) :
    wpAny (model PySem.Challenge.rw_wn0067_01.row.prog w) (AT dp un fr gd) (call (.ref 148) [.int x t0]) Q E s := by
  revert X; k_fill; intro X
  w_on
  refine enterF (binds := [(Str.ofString "x", .int x t0)]) X T (by k_is) (by k_is) (by show dp < recursionLimit; unfold recursionLimit; omega) rfl (locs rfl) rfl rfl rfl (by decide) ?_
  intro L h₁ F N
  k_steps
  rename News _ _ _ _ => N'
  simp only [lt1, lt2, lt3, lt4, lt5, lt6, lt7, lt8, lt9, lt10, lt11, lt12, lt13, lt14] at N'
  obtain ⟨a, hl, ht⟩ := tabOf N' ((x.fdiv 2560).fmod 256).toNat (by
    intro k hk
    match k, hk with
    | 0, _ => exact ⟨_, rfl⟩
    | 1, _ => exact ⟨_, rfl⟩
    | 2, _ => exact ⟨_, rfl⟩
    | 3, _ => exact ⟨_, rfl⟩
    | 4, _ => exact ⟨_, rfl⟩
    | 5, _ => exact ⟨_, rfl⟩
    | 6, _ => exact ⟨_, rfl⟩
    | 7, _ => exact ⟨_, rfl⟩
    | 8, _ => exact ⟨_, rfl⟩
    | 9, _ => exact ⟨_, rfl⟩
    | 10, _ => exact ⟨_, rfl⟩
    | 11, _ => exact ⟨_, rfl⟩
    | 12, _ => exact ⟨_, rfl⟩
    | 13, _ => exact ⟨_, rfl⟩
    | 14, _ => exact ⟨_, rfl⟩
    | 15, _ => exact ⟨_, rfl⟩
    | n + 16, h => omega)
  have a0 := Int.fmod_nonneg_of_pos x (show (0 : Int) < 16 by decide)
  have a1 := Int.fmod_lt_of_pos x (show (0 : Int) < 16 by decide)
  have b0 := Int.fmod_nonneg_of_pos (x.fdiv 160) (show (0 : Int) < 16 by decide)
  have b1 := Int.fmod_lt_of_pos (x.fdiv 160) (show (0 : Int) < 16 by decide)
  obtain ⟨t1, e1⟩ := tab16 ht a0 a1
  obtain ⟨t2, e2⟩ := tab16 ht b0 b1
  have l1 := piece_len ((x.fdiv 2560).fmod 256).toNat (x.fmod 16).toNat
  have l2 := piece_len ((x.fdiv 2560).fmod 256).toNat ((x.fdiv 160).fmod 16).toNat
  clear N'
  have N := @News.nil s.heap s.heap L
  refine item_list hl a0 (by omega) e1 ?_
  k_steps
  refine item_list hl b0 (by omega) e2 ?_
  k_steps
  simp only [pieces, ← S_app] at hQ
  exact hQ _ _ _ (Fr.keep (by assumption))
end
end Mine
end

section
open PySem PySem.W PyProof.Rows PySem.Calls
set_option maxRecDepth 100000
namespace Mine
/-- a turn's end: the loop goes on with its ledger -/
def TurnNext (h₀ : Heap) (L : Addr) (led : List (Addr × Obj)) (s₁ : Shared) (Jn : (Str → Option Value) → Prop) (s₃ : Shared) : Prop :=
  ∃ h' tk m₂, s₃ = { s₁ with heap := h', toks := tk } ∧ Fr h₀ L h' m₂ ∧ News h₀ L h' led ∧ Jn m₂
theorem TurnNext.mk {h₀ h' : Heap} {L : Addr} {led : List (Addr × Obj)} {s₁ : Shared} {Jn : (Str → Option Value) → Prop} {tk : Nat} {m₂ : Str → Option Value} (F : Fr h₀ L h' m₂) (N : News h₀ L h' led) (hJ : Jn m₂) :
    TurnNext h₀ L led s₁ Jn { s₁ with heap := h', toks := tk } := ⟨h', tk, m₂, rfl, F, N, hJ⟩
/-- what stands behind a loop's source -/
def LoopGo (prog : Program) (w : World) (A : Around) (h₀ : Heap) (env : Env) (x : Str) (body : List Stmt) (Q : Flow → Shared → Prop) (E : Value → Shared → Prop) (xv : Value) (s : Shared) : Prop :=
  ∃ (ex : List Addr) (n : Nat) (P : Nat → Value → Prop) (m : Str → Option Value) (news : List (Addr × Obj)) (J : Nat → (Str → Option Value) → Prop),
    (∀ (Q' : Value → Shared → Prop) (E' : Value → Shared → Prop), (∀ (o : Obj) (St : Nat → Heap → Prop), Walks prog w A s.heap.objs.size (s.heap.objs.size :: ex) [s.heap.objs.size] n P St → St 0 (s.heap.push o) →
      Q' (.ref s.heap.objs.size) { s with heap := s.heap.push o }) → wpAny (model prog w) A (pyIter xv) Q' E' s) ∧
    env.locals ∉ ex ∧ Fr h₀ env.locals s.heap m ∧ News h₀ env.locals s.heap news ∧ J 0 m ∧
    (∀ i v m₁ h₁ tk₁ led, i < n → P i v → J i m₁ → (∀ p ∈ news, p ∈ led) → Fr h₀ env.locals h₁ (fun y => if y = x then some v else m₁ y) → News h₀ env.locals h₁ led →
      wpAny (model prog w) A (execs body env) (fun f s₃ => match f with
        | .next | .cont => TurnNext h₀ env.locals led { s with heap := h₁, toks := tk₁ } (J (i + 1)) s₃
        | .brk => Q .next s₃
        | .ret v => Q (.ret v) s₃) E { s with heap := h₁, toks := tk₁ }) ∧
    ∀ h' tk m', Fr h₀ env.locals h' m' → News h₀ env.locals h' news → J n m' → Q .next { s with heap := h', toks := tk }
section
variable {prog : Program} {w : World} {A : Around} {s : Shared} {env : Env} {h₀ : Heap}
theorem For_start {E : Value → Shared → Prop} {Q : Flow → Shared → Prop} {x : Str} {px pos : Pos} {iter : Expr} {body : List Stmt} (h₀ : Heap) (hx : env.kindOf x = some .local)
    (hp : (env.scope.kind == .class || (env.scope.kind == .module && env.locals != env.globals)) = false)
    (h : wpAny (model prog w) A (eval iter env) (LoopGo prog w A h₀ env x body Q E) E s)
    (hs : ∀ x, foldedSetIterable iter env x = pure x := by intro _; rfl)
    (hE : PassesOwn (model prog w) A env E := by passes_own) :
    wpAny (model prog w) A (exec (.For (.Name x px) iter body [] pos) env) Q E s := by
  refine For_inv3 h₀ hx hp (wpAny_mono h (fun xv s₁ h₁ => ?_) fun _ _ e => e) hs hE
  obtain ⟨ex, n, P, m, news, J, hsrc, hex, F, N, h0, step, done⟩ := h₁
  refine hsrc _ _ fun o St W hst => ?_
  refine ⟨s₁.heap.objs.size, s₁.heap.objs.size :: ex, [s₁.heap.objs.size], n, P, St, m, news, fun i m₁ nw => J i m₁ ∧ nw = news, rfl, W, ?_, ?_, ?_,
    hst, F.push _, fun p hp => ⟨Heap.get?_push_of_some _ (N p hp).1, (N p hp).2⟩, ⟨h0, rfl⟩, ?_, ?_⟩
  · intro hm
    rcases List.mem_cons.mp hm with e | hm
    · exact absurd F.ns.lt (e ▸ Nat.lt_irrefl _)
    · exact hex hm
  · intro b hb
    rw [List.mem_singleton.mp hb]
    cases e : h₀.get? s₁.heap.objs.size with
    | none => rfl
    | some o' => exact absurd (Heap.lt_size (F.keep _ _ e)) (Nat.lt_irrefl _)
  · intro p hp hI
    exact absurd (Heap.lt_size (N p hp).1) ((List.mem_singleton.mp hI) ▸ Nat.lt_irrefl _)
  · rintro i v m₁ news₁ s₂ own ⟨h₁, tk₁, rfl⟩ hi hP ⟨hJ, rfl⟩ _ _ _ F₁ N₁
    refine wpAny_mono (step i v m₁ h₁ tk₁ (own ++ news₁) hi hP hJ (fun p hp => List.mem_append_right _ hp) F₁ N₁) (fun f s₃ h₃ => ?_) fun _ _ e => e
    cases f with
    | next => obtain ⟨h', tk, m₂, rfl, F₂, N₂, J₂⟩ := h₃; exact ⟨rfl, h', tk, m₂, news₁, rfl, F₂, N₂, rfl, J₂, rfl⟩
    | cont => obtain ⟨h', tk, m₂, rfl, F₂, N₂, J₂⟩ := h₃; exact ⟨rfl, h', tk, m₂, news₁, rfl, F₂, N₂, rfl, J₂, rfl⟩
    | brk => exact h₃
    | ret v => exact h₃
  · rintro h' tk m' news' F' N' _ ⟨hJ, rfl⟩
    exact done h' tk m' F' N' hJ
variable {E : Value → Shared → Prop} {Q : Flow → Shared → Prop} {x : Str} {body : List Stmt} {m : Str → Option Value} {news : List (Addr × Obj)}
/-- the signs of a text -/
theorem LoopGo.str {l : List Nat} {t : Tok} (hh : A.handled = none) (F : Fr h₀ env.locals s.heap m) (N : News h₀ env.locals s.heap news) (J : Nat → (Str → Option Value) → Prop) (h0 : J 0 m)
    (step : ∀ i c u m₁ h₁ tk₁ led, i < l.length → c = l.getD i 0 → J i m₁ → (∀ p ∈ news, p ∈ led) → Fr h₀ env.locals h₁ (fun y => if y = x then some (.str (S [c]) u) else m₁ y) → News h₀ env.locals h₁ led →
      wpAny (model prog w) A (execs body env) (fun f s₃ => match f with
        | .next | .cont => TurnNext h₀ env.locals led { s with heap := h₁, toks := tk₁ } (J (i + 1)) s₃
        | .brk => Q .next s₃
        | .ret v => Q (.ret v) s₃) E { s with heap := h₁, toks := tk₁ })
    (done : ∀ h' tk m', Fr h₀ env.locals h' m' → News h₀ env.locals h' news → J l.length m' → Q .next { s with heap := h', toks := tk }) :
    LoopGo prog w A h₀ env x body Q E (.str (S l) t) s := by
  refine ⟨[], l.length, SignAt (S l), m, news, J, fun Q' E' hQ' => ?_, by simp, F, N, h0, ?_, done⟩
  · refine wpAny_pyIter_str fun o St W hst => hQ' o St ?_ hst
    have e : (S l).cps.size = l.length := by simp
    rw [← e]; exact W A hh
  · rintro i v m₁ h₁ tk₁ led hi ⟨c, u, hc, rfl⟩ hJ hsub F₁ N₁
    have hc' : c = l.getD i 0 := by
      have : l.toArray[i]? = some c := hc
      simp [hi] at this
      simp [hi, this]
    exact step i c u m₁ h₁ tk₁ led hi hc' hJ hsub F₁ N₁
/-- the items of a list -/
theorem LoopGo.list {a : Addr} {vs : Array Value} (hh : A.handled = none) (hl : s.heap.IsList a vs) (ha : a ≠ env.locals) (F : Fr h₀ env.locals s.heap m) (N : News h₀ env.locals s.heap news) (J : Nat → (Str → Option Value) → Prop) (h0 : J 0 m)
    (step : ∀ i v m₁ h₁ tk₁ led, vs[i]? = some v → J i m₁ → (∀ p ∈ news, p ∈ led) → Fr h₀ env.locals h₁ (fun y => if y = x then some v else m₁ y) → News h₀ env.locals h₁ led →
      wpAny (model prog w) A (execs body env) (fun f s₃ => match f with
        | .next | .cont => TurnNext h₀ env.locals led { s with heap := h₁, toks := tk₁ } (J (i + 1)) s₃
        | .brk => Q .next s₃
        | .ret v => Q (.ret v) s₃) E { s with heap := h₁, toks := tk₁ })
    (done : ∀ h' tk m', Fr h₀ env.locals h' m' → News h₀ env.locals h' news → J vs.size m' → Q .next { s with heap := h', toks := tk }) :
    LoopGo prog w A h₀ env x body Q E (.ref a) s := by
  obtain ⟨ol, hol, _⟩ := id hl
  have hne : a ≠ s.heap.objs.size := Nat.ne_of_lt (Heap.lt_size hol)
  refine ⟨[a], vs.size, fun i v => vs[i]? = some v, m, news, J, fun Q' E' hQ' => ?_, by simpa using Ne.symm ha, F, N, h0, ?_, done⟩
  · refine wpAny_pyIter_list hl (hQ' _ _ (Walks.list hh _ a hne vs) ⟨⟨_, Heap.get?_push_size _ rfl, rfl, rfl⟩, hl.at fun o e => Heap.get?_push_of_some _ e⟩)
  · intro i v m₁ h₁ tk₁ led _ hv hJ hsub F₁ N₁
    exact step i v m₁ h₁ tk₁ led hv hJ hsub F₁ N₁
/-- a range from nought -/
theorem LoopGo.range {r : Addr} {n : Nat} {t u v : Tok} (hh : A.handled = none) (hr : IsRange s.heap r 0 (n : Int) 1 t u v) (hn : n ≤ 2 ^ 24) (F : Fr h₀ env.locals s.heap m) (N : News h₀ env.locals s.heap news) (J : Nat → (Str → Option Value) → Prop) (h0 : J 0 m)
    (step : ∀ i u m₁ h₁ tk₁ led, i < n → J i m₁ → (∀ p ∈ news, p ∈ led) → Fr h₀ env.locals h₁ (fun y => if y = x then some (.int (i : Int) u) else m₁ y) → News h₀ env.locals h₁ led →
      wpAny (model prog w) A (execs body env) (fun f s₃ => match f with
        | .next | .cont => TurnNext h₀ env.locals led { s with heap := h₁, toks := tk₁ } (J (i + 1)) s₃
        | .brk => Q .next s₃
        | .ret v => Q (.ret v) s₃) E { s with heap := h₁, toks := tk₁ })
    (done : ∀ h' tk m', Fr h₀ env.locals h' m' → News h₀ env.locals h' news → J n m' → Q .next { s with heap := h', toks := tk }) :
    LoopGo prog w A h₀ env x body Q E (.ref r) s := by
  have hsz : Builtin.Range.rangeSize 0 (n : Int) 1 = ((n : Nat) : Int) := by
    unfold Builtin.Range.rangeSize
    simp only [show (1 : Int) > 0 by decide, if_true]
    split <;> omega
  refine ⟨[], n, fun i v => ∃ t, v = .int (0 + (i : Int)) t, m, news, J, fun Q' E' hQ' => ?_, by simp, F, N, h0, ?_, done⟩
  · refine wpAny_pyIter_range hr ?_ (hQ' _ _ (LCg.range_walks hh 0 n) ?_)
    · unfold Builtin.Range.small
      rw [hsz]
      simp only [show (1 : Int) > 0 by decide, if_true]
      have f : ∀ i : Int, 0 ≤ i → i ≤ 2 ^ 24 → Builtin.Range.rangeFitsLong i = true := fun i h1 h2 => by
        unfold Builtin.Range.rangeFitsLong
        simp
        omega
      rw [f 0 (by decide) (by decide), f n (by omega) (by omega), f 1 (by decide) (by decide), show (n : Int) + (1 - 1) = n by omega, f n (by omega) (by omega)]
      simp
    · show Heap.get? _ _ = some _
      rw [Heap.get?_push_size _ rfl, hsz]
      simp [rawInt]
  · rintro i v m₁ h₁ tk₁ led hi ⟨t, rfl⟩ hJ hsub F₁ N₁
    rw [Int.zero_add] at F₁
    exact step i t m₁ h₁ tk₁ led hi hJ hsub F₁ N₁
end
end Mine
end

section
open PySem PySem.W PyProof.Rows PySem.Calls
set_option maxRecDepth 100000
set_option maxHeartbeats 4000000
namespace Mine
local macro_rules | `(tactic| k_steps) => `(tactic| repeat' (first | ((fail_if_success (with_reducible show wpAny _ _ (exec (Stmt.While _ _ _ _) _) _ _ _)); (fail_if_success (with_reducible show wpAny _ _ (exec (Stmt.For _ _ _ _ _) _) _ _ _)); first | (k_unfold; (try dsimp only)) | (k_end; wrow_close) | walk1 | (dsimp only; walk1) | (leave1; walk_say "STEP leave1"; try dsimp only) | fail "no step")))
local macro_rules | `(tactic| walk_at "eval Name") => `(tactic| (k_dflt (refine ld (by assumption) (by assumption) ?_)))
theorem lkmiss {z x : Str} {v r o : Option Value} (h : z ≠ x) (hm : r = o) : (if z = x then v else r) = o := (if_neg h).trans hm
theorem lkhit {x : Str} {v r : Option Value} : (if x = x then v else r) = v := if_pos rfl
local macro_rules | `(tactic| walk_at "loadName") => `(tactic| (k_dflt (refine' ldn ?k1 ?k2 ?_; (case k1 => assumption); (case k2 => (repeat' (first | assumption | exact lkhit | (refine' lkmiss ?d ?_; (case d => decide +kernel))))))))
theorem fdivN (a m : Nat) : (a : Int).fdiv (m : Int) = ((a / m : Nat) : Int) := by
  rw [Int.fdiv_eq_ediv_of_nonneg _ (by omega)]; rfl
theorem fmodN (a m : Nat) : (a : Int).fmod (m : Int) = ((a % m : Nat) : Int) := by
  rw [Int.fmod_eq_emod_of_nonneg _ (by omega)]; rfl
theorem mulq (n : Nat) : Txt.mul (Str.ofString "\"") (n : Int) = S (rep n) := by
  rw [quote_S]
  have h := mul_one_list 34 (n : Int)
  have e : ∀ x : Str, x = ⟨x.cps.toList.toArray⟩ := fun x => by simp
  show Txt.mul ⟨#[34]⟩ (n : Int) = S (rep n)
  rw [e (Txt.mul ⟨#[34]⟩ (n : Int)), h]
  simp [rep]
theorem S_len (l : List Nat) : (S l).length = l.length := by show l.toArray.size = _; simp
theorem d_quote {c : Nat} (h : (S [c] == Str.ofString "\"") = true) : c = 34 := by
  rw [quote_S, S_eqb] at h; simpa using h
theorem d_noquote {c : Nat} (h : (S [c] == Str.ofString "\"") = false) : c ≠ 34 := by
  rw [quote_S, S_eqb] at h; simpa using h
theorem d_mod {a m : Nat} (h : (a : Int).fmod (m : Int) ≠ 0) : a % m ≠ 0 := by
  rw [fmodN] at h; omega
theorem d_mod0 {a m : Nat} (h : (a : Int).fmod (m : Int) = 0) : a % m = 0 := by
  rw [fmodN] at h; omega
section
variable {w : World} {mg mb : Str → Option Value} {dp un : Nat} {fr : Option (List Env)} {gd : Option (List Code)} {s : Shared} {Q E : Value → Shared → Prop} (l : List Nat) (t0 t1 : Tok) (m : Nat)
theorem c_div (X : (hd.heap_39 w.params).In s.heap) (T : TopRead hd.view_39 LS mg mb s.heap) (hd : dp + 20 < 1000) (_hu : un + 100 < 9900) (hz : l.length ≤ 2 ^ 20) (hm0 : 1 ≤ m) (hm1 : m ≤ 64)
    (hQ : ∀ t h' tk', Ups s.heap h' → Q (.str (S (divd m 0 l)) t) { s with heap := h', toks := tk' }) :
    wpAny (model PySem.Challenge.rw_wn0067_01.row.prog w) (AT dp un fr gd) (call (.ref 167) [.str (S l) t0, .int (m : Int) t1]) Q E s := by
  revert X; k_fill; intro X
  w_on
  refine enterF (binds := [(Str.ofString "text", .str (S l) t0), (Str.ofString "parts", .int (m : Int) t1)]) X T (by k_is) (by k_is) (by show dp < recursionLimit; unfold recursionLimit; omega) rfl (locs rfl) rfl rfl rfl (by decide) ?_
  intro L h₁ F N
  k_steps
  refine For_start s.heap rfl rfl ?_
  k_steps
  refine LoopGo.str rfl (by assumption) (by assumption) (fun i mm => ∃ (run : Nat) (left : List Nat), left ++ divd m run (l.drop i) = divd m 0 l ∧ left.length + run ≤ i ∧
    (∃ t, mm (Str.ofString "left") = some (.str (S left) t)) ∧ (∃ t, mm (Str.ofString "run") = some (.int (run : Int) t)) ∧ mm (Str.ofString "parts") = some (.int (m : Int) t1)) ?_ ?_ ?_
  · exact ⟨0, [], rfl, Nat.le_refl _, ⟨_, rfl⟩, ⟨_, rfl⟩, rfl⟩
  · rintro i c u m₁ h₂ tk₂ led hi hc ⟨run, left, hdv, hlen, ⟨tl, m1⟩, ⟨tr, m2⟩, m3⟩ hsub F₂ N₂
    have hSl := S_len left
    have hSc := S_len [c]
    have hSr := S_len (rep (run / m))
    have hrep : (rep (run / m)).length = run / m := by simp [rep]
    have hle : run / m ≤ run := Nat.div_le_self _ _
    have hf := fdivN run m
    have hq := mulq (run / m)
    have hb : (run : Int).fdiv (m : Int) ≤ 1048576 := by rw [hf]; omega
    have hml : (Txt.mul (Str.ofString "\"") ((run : Int).fdiv (m : Int))).length = run / m := by rw [hf, hq, hSr, hrep]
    k_steps
    · have hc34 := d_quote (by assumption)
      refine' TurnNext.mk ?F ?N ?_
      case F => assumption
      case N => assumption
      refine ⟨run + 1, left, ?_, by omega, ⟨tl, m1⟩, ?_, m3⟩
      · rw [drop_get hi, ← hc, hc34] at hdv
        simpa [divd] using hdv
      · rw [show ((run + 1 : Nat) : Int) = (run : Int) + 1 from rfl]; exact ⟨_, rfl⟩
    · have hc34 := d_noquote (by assumption)
      have hmod := d_mod (a := run) (m := m) (by assumption)
      have e : left ++ rep (run / m) = divd m 0 l := by
        rw [drop_get hi, ← hc, divd, if_neg hc34, if_pos hmod] at hdv; exact hdv
      have e2 : S left ++ Txt.mul (Str.ofString "\"") ((run : Int).fdiv (m : Int)) = S (divd m 0 l) := by rw [hf, hq, S_app, e]
      simp only [← e2] at hQ
      exact hQ _ _ _ (Fr.keep (by assumption))
    · have hc34 := d_noquote (by assumption)
      have hmod := d_mod0 (a := run) (m := m) (by assumption)
      refine' TurnNext.mk ?F ?N ?_
      case F => assumption
      case N => assumption
      refine ⟨0, left ++ (rep (run / m) ++ [c]), ?_, ?_, ?_, ⟨_, rfl⟩, m3⟩
      · rw [drop_get hi, ← hc, divd, if_neg hc34, if_neg (by omega)] at hdv
        simpa using hdv
      · rw [List.length_append, List.length_append, hrep]; simp; omega
      · rw [← S_app, ← S_app, ← hq, ← hf]; exact ⟨_, rfl⟩
  · rintro h' tkd md Fd Nd ⟨run, left, hdv, hlen, ⟨tl, m1⟩, ⟨tr, m2⟩, m3⟩
    have hSl := S_len left
    have hSr := S_len (rep (run / m))
    have hrep : (rep (run / m)).length = run / m := by simp [rep]
    have hle : run / m ≤ run := Nat.div_le_self _ _
    have hf := fdivN run m
    have hq := mulq (run / m)
    have hb : (run : Int).fdiv (m : Int) ≤ 1048576 := by rw [hf]; omega
    have hml : (Txt.mul (Str.ofString "\"") ((run : Int).fdiv (m : Int))).length = run / m := by rw [hf, hq, hSr, hrep]
    k_steps
    have e : left ++ rep (run / m) = divd m 0 l := by
      rw [List.drop_eq_nil_of_le (Nat.le_refl _)] at hdv; exact hdv
    have e2 : S left ++ Txt.mul (Str.ofString "\"") ((run : Int).fdiv (m : Int)) = S (divd m 0 l) := by rw [hf, hq, S_app, e]
    simp only [← e2] at hQ
    exact hQ _ _ _ (Fr.keep (by assumption))
end
end Mine
end

section
open PySem PySem.W PyProof.Rows PySem.Calls PyProof.V
set_option maxRecDepth 100000
set_option maxHeartbeats 4000000
namespace Mine
local macro_rules | `(tactic| walk_at "pad") => `(tactic| fail)
local macro_rules | `(tactic| walk_at "pad") => `(tactic| fail)
local macro_rules | `(tactic| walk_at "pad") => `(tactic| fail)
local macro_rules | `(tactic| walk_at "pad") => `(tactic| fail)
local macro_rules | `(tactic| walk_at "pad") => `(tactic| fail)
local macro_rules | `(tactic| walk_at "pad") => `(tactic| fail)
local macro_rules | `(tactic| walk_at "pad") => `(tactic| fail)
local macro_rules | `(tactic| walk_at "pad") => `(tactic| fail)
local macro_rules | `(tactic| walk_at "pad") => `(tactic| fail)
local macro_rules | `(tactic| walk_at "pad") => `(tactic| fail)
local macro_rules | `(tactic| walk_at "pad") => `(tactic| fail)
local macro_rules | `(tactic| walk_at "pad") => `(tactic| fail)
local macro_rules | `(tactic| walk_at "pad") => `(tactic| fail)
local macro_rules | `(tactic| walk_at "pad") => `(tactic| fail)
local macro_rules | `(tactic| walk_at "pad") => `(tactic| fail)
local macro_rules | `(tactic| walk_at "pad") => `(tactic| fail)
local macro_rules | `(tactic| walk_at "pad") => `(tactic| fail)
local macro_rules | `(tactic| walk_at "pad") => `(tactic| fail)
local macro_rules | `(tactic| walk_at "pad") => `(tactic| fail)
local macro_rules | `(tactic| walk_at "pad") => `(tactic| fail)
local macro_rules | `(tactic| k_steps) => `(tactic| repeat' (first | ((fail_if_success (with_reducible show wpAny _ _ (exec (Stmt.While _ _ _ _) _) _ _ _)); (fail_if_success (with_reducible show wpAny _ _ (exec (Stmt.For _ _ _ _ _) _) _ _ _)); (fail_if_success (with_reducible show Exists _)); first | (k_unfold; (try dsimp only)) | (k_end; wrow_close) | walk1 | (dsimp only; walk1) | (leave1; walk_say "STEP leave1"; try dsimp only) | fail "no step")))
def namesL (h : Nat) : List (Nat × List Nat) :=
  if h = 3 then [(38, [97, 109, 112, 59]), (60, [108, 116, 59]), (62, [103, 116, 59])]
  else if h = 4 then [(38, [97, 109, 112, 59]), (60, [108, 116, 59]), (62, [103, 116, 59]), (34, [113, 117, 111, 116, 59]), (9, [35, 48, 57, 59]), (10, [35, 49, 48, 59]), (13, [35, 49, 51, 59])]
  else if h = 5 then [(38, [97, 109, 112, 59]), (62, [103, 116, 59]), (34, [113, 117, 111, 116, 59])]
  else if h = 6 then [(38, [97, 109, 112, 59]), (60, [108, 116, 59]), (62, [103, 116, 59]), (13, [35, 120, 68, 59])]
  else if h = 7 then [(38, [97, 109, 112, 59]), (60, [108, 116, 59]), (34, [113, 117, 111, 116, 59]), (9, [35, 120, 57, 59]), (10, [35, 120, 65, 59]), (13, [35, 120, 68, 59])]
  else []
def namesD (h : Nat) : List (PyData × PyData) := (namesL h).map fun p => (.str (S [p.1]), .str (S p.2))
theorem flat_nodup : ∀ (M : List (Nat × List Nat)) {kvs : List (Str × Value)}, FlatPairs PyData.str kvs (M.map fun p => (PyData.str (S [p.1]), PyData.str (S p.2))) → (M.map (·.1)).Nodup → (kvs.map (·.1)).Nodup ∧ ∀ k ∈ kvs.map (·.1), ∃ a ∈ M.map (·.1), k = S [a]
  | [], _, .nil, _ => ⟨List.nodup_nil, by simp⟩
  | p :: M, _, .cons _ hF, hn => by
    rw [List.map_cons, List.nodup_cons] at hn
    obtain ⟨i1, i2⟩ := flat_nodup M hF hn.2
    rw [List.map_cons, List.nodup_cons]
    refine ⟨⟨fun hm => ?_, i1⟩, fun k hk => ?_⟩
    · obtain ⟨a, ha, e⟩ := i2 _ hm
      have := S_inj e
      simp only [List.cons.injEq, and_true] at this
      exact hn.1 (this ▸ ha)
    · rcases List.mem_cons.mp hk with rfl | hk
      · exact ⟨p.1, by simp, rfl⟩
      · obtain ⟨a, ha, e⟩ := i2 _ hk
        exact ⟨a, List.mem_cons_of_mem _ ha, e⟩
theorem names_nodup (h : Nat) : ((namesL h).map (·.1)).Nodup := by
  unfold namesL
  split
  · decide
  · split
    · decide
    · split
      · decide
      · split
        · decide
        · split <;> decide
theorem names_done {prog : Program} {w : World} {h₀ h₁ : Heap} {L : Addr} {m : Str → Option Value} {vs : List (Value × Value)} {hd : Nat} {P : Heap → Prop}
    (F : Fr h₀ L h₁ m) (T : h₀.NoLimit) (hk : allStrKeys vs = true) (hf : FlatPairs PyData.str (strPairs vs) (namesD hd))
    (h : ∀ h', Ups h₀ h' → h₀.get? h₁.objs.size = none → TabAt (strKind prog w) PyData.str h' h₁.objs.size (namesD hd) → P h') :
    ∃ kvs, Carries (strKind prog w) vs kvs ∧ (h₁.push { cls := Value.type "dict", data := Data.dict #[] }).DictOf (strKind prog w) h₁.objs.size [] ∧
      ∀ h', h'.DictOf (strKind prog w) h₁.objs.size (merged [] kvs) → Heap.SameBut h₁.objs.size (h₁.push { cls := Value.type "dict", data := Data.dict #[] }) h' → P h' := by
  refine display_done_str hk (flat_nodup _ hf (names_nodup hd)).1 (Heap.DictOf.new _) fun h' hD hS => h h' ?_ (next_is_new F) ⟨F.notModules (modules_low T), _, hD, hf⟩
  exact (F.filled hS).keep
theorem fcons {k : Str} {v : Str} {t : Tok} {kvs : List (Str × Value)} {D : List (PyData × PyData)} {a : Nat} {b : List Nat} (hk : k = S [a]) (hv : v = S b) (hD : FlatPairs PyData.str kvs D) :
    FlatPairs PyData.str ((k, .str v t) :: kvs) ((.str (S [a]), .str (S b)) :: D) := by
  subst hk hv; exact .cons (Flat.str _ _) hD
section
variable {w : World} {mg mb : Str → Option Value} {dp un : Nat} {fr : Option (List Env)} {gd : Option (List Code)} {s : Shared} {Q E : Value → Shared → Prop} (h : Nat) (t0 : Tok)
theorem c_names (X : (hd.heap_39 w.params).In s.heap) (T : TopRead hd.view_39 LS mg mb s.heap) (hd : dp + 20 < 1000) (_hu : un + 100 < 9900)
    (hQ : ∀ d h' tk', Ups s.heap h' → s.heap.get? d = none → StrTab PySem.Challenge.rw_wn0067_01.row.prog w h' d (namesD h) → Q (.ref d) { s with heap := h', toks := tk' }) :
    wpAny (model PySem.Challenge.rw_wn0067_01.row.prog w) (AT dp un fr gd) (call (.ref 160) [.int (h : Int) t0]) Q E s := by
  revert X; k_fill; intro X
  w_on
  refine enterF (binds := [(Str.ofString "hand", .int (h : Int) t0)]) X T (by k_is) (by k_is) (by show dp < recursionLimit; unfold recursionLimit; omega) rfl (locs rfl) rfl rfl rfl (by decide) ?_
  intro L h₁ F N
  k_steps
  · refine names_done F T.nolimit rfl ?_ fun h' hU hN hT => hQ _ _ _ hU hN hT
    have e : h = 3 := by omega
    subst e
    exact fcons (by kernel_rfl!) (by kernel_rfl!) (fcons (by kernel_rfl!) (by kernel_rfl!) (fcons (by kernel_rfl!) (by kernel_rfl!) .nil))
  · refine names_done F T.nolimit rfl ?_ fun h' hU hN hT => hQ _ _ _ hU hN hT
    have e : h = 4 := by omega
    subst e
    exact fcons (by kernel_rfl!) (by kernel_rfl!) (fcons (by kernel_rfl!) (by kernel_rfl!) (fcons (by kernel_rfl!) (by kernel_rfl!) (fcons (by kernel_rfl!) (by kernel_rfl!) (fcons (by kernel_rfl!) (by kernel_rfl!) (fcons (by kernel_rfl!) (by kernel_rfl!) (fcons (by kernel_rfl!) (by kernel_rfl!) .nil))))))
  · refine names_done F T.nolimit rfl ?_ fun h' hU hN hT => hQ _ _ _ hU hN hT
    have e : h = 5 := by omega
    subst e
    exact fcons (by kernel_rfl!) (by kernel_rfl!) (fcons (by kernel_rfl!) (by kernel_rfl!) (fcons (by kernel_rfl!) (by kernel_rfl!) .nil))
  · refine names_done F T.nolimit rfl ?_ fun h' hU hN hT => hQ _ _ _ hU hN hT
    have e : h = 6 := by omega
    subst e
    exact fcons (by kernel_rfl!) (by kernel_rfl!) (fcons (by kernel_rfl!) (by kernel_rfl!) (fcons (by kernel_rfl!) (by kernel_rfl!) (fcons (by kernel_rfl!) (by kernel_rfl!) .nil)))
  · refine names_done F T.nolimit rfl ?_ fun h' hU hN hT => hQ _ _ _ hU hN hT
    have e : h = 7 := by omega
    subst e
    exact fcons (by kernel_rfl!) (by kernel_rfl!) (fcons (by kernel_rfl!) (by kernel_rfl!) (fcons (by kernel_rfl!) (by kernel_rfl!) (fcons (by kernel_rfl!) (by kernel_rfl!) (fcons (by kernel_rfl!) (by kernel_rfl!) (fcons (by kernel_rfl!) (by kernel_rfl!) .nil)))))
  · rename_i n3 n4 n5 n6 n7 d' o' h' F' N' lo' hs' fs' hi' fi' l1
    refine hQ _ _ _ F'.keep (N' _ (List.mem_singleton.mpr rfl)).2.2 ?_
    have e : namesD h = [] := by
      unfold namesD namesL
      rw [if_neg (by omega), if_neg (by omega), if_neg (by omega), if_neg (by omega), if_neg (by omega)]; rfl
    rw [e]
    exact TabAt.ofNews N' (List.mem_singleton.mpr rfl) lo' hs' .nil
end
end Mine
end

section
open PySem PySem.W PyProof.Rows PySem.Calls PyProof.V
set_option maxRecDepth 100000
namespace Mine
/-- a source of values: what pyIter makes of it -/
def Src (prog : Program) (w : World) (A : Around) (xv : Value) (s : Shared) (ex : List Addr) (n : Nat) (P : Nat → Value → Prop) : Prop :=
  (∀ b ∈ ex, b < s.heap.objs.size) ∧ ∀ (Q' E' : Value → Shared → Prop), (∀ (o : Obj) (St : Nat → Heap → Prop), Walks prog w A s.heap.objs.size (s.heap.objs.size :: ex) [s.heap.objs.size] n P St → St 0 (s.heap.push o) →
      Q' (.ref s.heap.objs.size) { s with heap := s.heap.push o }) → wpAny (model prog w) A (pyIter xv) Q' E' s
/-- what stands behind a comprehension's source -/
def CompGo (prog : Program) (w : World) (A : Around) (env : Env) (scope : Scope) (cl : List (Str × Addr)) (x : Str) (ifs : List Expr) (elt : Expr) (Q : Value → Shared → Prop) (xv : Value) (s : Shared) : Prop :=
  ∃ (ex : List Addr) (n : Nat) (P : Nat → Value → Prop) (p : Value → Bool) (F : Value → Value → Prop), Src prog w A xv s ex n P ∧ n ≤ sizeLine ∧
    (∀ C i v s₃ m₃ E', Fr s.heap C s₃.heap m₃ → P i v → m₃ x = some v → s.toks ≤ s₃.toks →
      wpAny (model prog w) A (forIn ifs true fun c r => if r = true then do let ok ← isTrue c (compEnvC scope cl C env) (eval c (compEnvC scope cl C env)); pure (ForInStep.yield ok) else pure (ForInStep.yield r))
        (fun ok s₄ => ok = p v ∧ Keeps s₃ s₄) E' s₃) ∧
    (∀ C i v s₃ m₃ E', Fr s.heap C s₃.heap m₃ → P i v → p v = true → m₃ x = some v → s.toks ≤ s₃.toks →
      wpAny (model prog w) A (eval elt (compEnvC scope cl C env)) (fun y s₄ => F v y ∧ Keeps s₃ s₄) E' s₃) ∧
    ∀ D k h' tk ys (vs : List Value), s.heap.get? D = none → h'.get? D = some { cls := .type "list", data := .seq ys k } → vs.length = n → (∀ j v, vs[j]? = some v → P j v) → Paired F (vs.filter p) ys.toList → Ups s.heap h' → Q (.ref D) { s with heap := h', toks := tk }
/-- the same behind «y = [...]» -/
def CompGoA (prog : Program) (w : World) (A : Around) (h₀ : Heap) (env : Env) (scope : Scope) (cl : List (Str × Addr)) (x : Str) (ifs : List Expr) (elt : Expr) (y : Str) (Q : Flow → Shared → Prop) (xv : Value) (s : Shared) : Prop :=
  ∃ (ex : List Addr) (n : Nat) (P : Nat → Value → Prop) (p : Value → Bool) (F : Value → Value → Prop) (m : Str → Option Value) (news : List (Addr × Obj)), Src prog w A xv s ex n P ∧ n ≤ sizeLine ∧
    Fr h₀ env.locals s.heap m ∧ News h₀ env.locals s.heap news ∧
    (∀ C i v s₃ m₃ E', Fr s.heap C s₃.heap m₃ → P i v → m₃ x = some v → s.toks ≤ s₃.toks →
      wpAny (model prog w) A (forIn ifs true fun c r => if r = true then do let ok ← isTrue c (compEnvC scope cl C env) (eval c (compEnvC scope cl C env)); pure (ForInStep.yield ok) else pure (ForInStep.yield r))
        (fun ok s₄ => ok = p v ∧ Keeps s₃ s₄) E' s₃) ∧
    (∀ C i v s₃ m₃ E', Fr s.heap C s₃.heap m₃ → P i v → p v = true → m₃ x = some v → s.toks ≤ s₃.toks →
      wpAny (model prog w) A (eval elt (compEnvC scope cl C env)) (fun y s₄ => F v y ∧ Keeps s₃ s₄) E' s₃) ∧
    ∀ D k h' tk ys (vs : List Value), vs.length = n → (∀ j v, vs[j]? = some v → P j v) → Paired F (vs.filter p) ys.toList → Fr h₀ env.locals h' (fun z => if z = y then some (.ref D) else m z) →
      News h₀ env.locals h' ((D, { cls := .type "list", data := .seq ys k }) :: news) → Q .next { s with heap := h', toks := tk }
section
variable {prog : Program} {w : World} {A : Around} {E : Value → Shared → Prop} {s : Shared} {env : Env}
theorem up_but {s : Shared} {o : Obj} {h' : Heap} (hk : ∀ b o', b ∉ [s.heap.objs.size] → (s.heap.push o).get? b = some o' → h'.get? b = some o') : Ups s.heap h' :=
  fun b o' e => hk b o' (fun hm => by rw [List.mem_singleton.mp hm] at e; exact Nat.lt_irrefl _ (Heap.lt_size e)) (Heap.get?_push_of_some _ e)
theorem Comp_start {elt iter : Expr} {x : Str} {px : Pos} {ifs : List Expr} {scope : Scope} {cl : List (Str × Addr)} {pos : Pos} {Q : Value → Shared → Prop}
    (hclos : closureFor scope env = pure cl) (hcell : ∀ y ∈ scope.names, y.2 ≠ .cell) (hkind : scope.kind = .function)
    (hnames : ∀ y ∈ scope.names, y.2 = .local → scope.names.lookup y.1 = some .local) (hx : scope.names.lookup x = some .local)
    (h : wpAny (model prog w) A (eval iter env) (CompGo prog w A env scope cl x ifs elt Q) E s)
    (hs : ∀ x, foldedSetIterable iter env x = pure x := by intro _; rfl) :
    wpAny (model prog w) A (eval (.ListComp elt [⟨.Name x px, iter, ifs, 0⟩] scope pos) env) Q E s := by
  rw [eval_ListComp]
  refine wpAny_comprehension_free (use := none) rfl hs hclos hkind hnames (wpAny_mono h (fun xv s₁ h₁ => ?_) fun _ _ e => e)
  obtain ⟨ex, n, P, p, F, ⟨hex, hsrc⟩, hsz, htest, helt, hQ⟩ := h₁
  refine hsrc _ _ fun o St W hst => ?_
  have hlt : s₁.heap.objs.size < (s₁.heap.push o).objs.size := by rw [Heap.size_push]; exact Nat.lt_succ_self _
  refine comp_block_walkC (RR := fun acc C => compPost (model prog w) A E none Q acc C) W hsz p F hcell hkind hx hst ?_ ⟨?_, ?_⟩ ?_
  · intro b hb
    rcases List.mem_cons.mp hb with rfl | hb
    · exact hlt
    · exact Nat.lt_trans (hex b hb) hlt
  · intro C i v s₃ m₃ E' hC hP hn hm hk ht
    exact htest C i v s₃ m₃ E' ⟨hn, up_but hk, Nat.le_trans (Nat.le_of_lt hlt) hC⟩ hP hm ht
  · intro C i v s₃ m₃ E' hC hP hp hn hm hk ht
    exact helt C i v s₃ m₃ E' ⟨hn, up_but hk, Nat.le_trans (Nat.le_of_lt hlt) hC⟩ hP hp hm ht
  · intro D C h' tk m' ys vs hD hC hDC hn hl hpl hlen hP hF hk
    have hD₁ : s₁.heap.get? D = none := by
      cases e : s₁.heap.get? D with
      | none => rfl
      | some o' => rw [Heap.get?_push_of_some _ e] at hD; cases hD
    refine ⟨m', hn, fun h'' hs'' => ?_⟩
    obtain ⟨k, hk₃⟩ := hpl.extBut hs''.extBut hDC
    exact hQ D k h'' tk ys vs hD₁ hk₃ hlen hP hF fun b o e => hs''.extBut b o (by rintro rfl; rw [Heap.get?_push_of_some _ e] at hC; cases hC) (up_but hk b o e)
theorem Comp_assign {elt iter : Expr} {x y : Str} {px py : Pos} {ifs : List Expr} {scope : Scope} {cl : List (Str × Addr)} {pos spos : Pos} {Q : Flow → Shared → Prop} (h₀ : Heap)
    (hsw : swapsWith (.ListComp elt [⟨.Name x px, iter, ifs, 0⟩] scope pos) (some (.Name y py)) spos.line env = pure true)
    (hclos : closureFor scope env = pure cl) (hcell : ∀ y ∈ scope.names, y.2 ≠ .cell) (hkind : scope.kind = .function)
    (hnames : ∀ y ∈ scope.names, y.2 = .local → scope.names.lookup y.1 = some .local) (hx : scope.names.lookup x = some .local)
    (hy : env.kindOf y = some .local) (hp : (env.scope.kind == .class || (env.scope.kind == .module && env.locals != env.globals)) = false)
    (h : wpAny (model prog w) A (eval iter env) (CompGoA prog w A h₀ env scope cl x ifs elt y Q) E s)
    (hs : ∀ x, foldedSetIterable iter env x = pure x := by intro _; rfl) :
    wpAny (model prog w) A (exec (.Assign [.Name y py] (.ListComp elt [⟨.Name x px, iter, ifs, 0⟩] scope pos) spos) env) Q E s := by
  rw [exec_Assign_Name_used _ _ _ _ hsw]
  refine wpAny_bind (wpAny_standAt (wpAny_bind ?_))
  show wpAny _ A (do let _ ← comprehension (.ListComp elt [⟨.Name x px, iter, ifs, 0⟩] scope pos) scope env _ (newList []) false (eval iter env) (some (assign (.Name y py) env))) _ _ s
  refine wpAny_bind (wpAny_mono (wpAny_comprehension_free (use := some (assign (.Name y py) env)) (Q := fun _ s' => Q .next s') rfl hs hclos hkind hnames
    (wpAny_mono h (fun xv s₁ h₁ => ?_) fun _ _ e => e)) (fun _ s' hq => wpAny_pure (wpAny_pure hq)) fun _ _ e => e)
  obtain ⟨ex, n, P, p, F, m, news, ⟨hex, hsrc⟩, hsz, F₁, N₁, htest, helt, hQ⟩ := h₁
  refine hsrc _ _ fun o St W hst => ?_
  have hlt : s₁.heap.objs.size < (s₁.heap.push o).objs.size := by rw [Heap.size_push]; exact Nat.lt_succ_self _
  refine comp_block_walkC (RR := fun acc C => compPost (model prog w) A E (some (assign (.Name y py) env)) (fun _ s' => Q .next s') acc C) W hsz p F hcell hkind hx hst ?_ ⟨?_, ?_⟩ ?_
  · intro b hb
    rcases List.mem_cons.mp hb with rfl | hb
    · exact hlt
    · exact Nat.lt_trans (hex b hb) hlt
  · intro C i v s₃ m₃ E' hC hP hn hm hk ht
    exact htest C i v s₃ m₃ E' ⟨hn, up_but hk, Nat.le_trans (Nat.le_of_lt hlt) hC⟩ hP hm ht
  · intro C i v s₃ m₃ E' hC hP hp hn hm hk ht
    exact helt C i v s₃ m₃ E' ⟨hn, up_but hk, Nat.le_trans (Nat.le_of_lt hlt) hC⟩ hP hp hm ht
  · intro D C h' tk m' ys vs hD hC hDC hnC hlD hpl hlen hP hF hk
    have hu : Ups s₁.heap h' := up_but hk
    have none_of : ∀ b, (s₁.heap.push o).get? b = none → s₁.heap.get? b = none := fun b hb => by
      cases e : s₁.heap.get? b with
      | none => rfl
      | some o' => rw [Heap.get?_push_of_some _ e] at hb; cases hb
    have none₀ : ∀ b, s₁.heap.get? b = none → h₀.get? b = none := fun b hb => by
      cases e : h₀.get? b with
      | none => rfl
      | some o' => rw [F₁.keep _ _ e] at hb; cases hb
    have F₂ : Fr h₀ env.locals h' m := ⟨F₁.ns.keeps hu, Ups.trans F₁.keep hu, F₁.above⟩
    have hLC : env.locals ≠ C := by rintro rfl; obtain ⟨o, _, _, ho, _⟩ := F₁.ns; rw [none_of _ hC] at ho; cases ho
    have hLD : env.locals ≠ D := by rintro rfl; obtain ⟨o, _, _, ho, _⟩ := F₁.ns; rw [none_of _ hD] at ho; cases ho
    show wpAny _ A (assign (.Name y py) env (.ref D)) _ _ _
    refine wpAny_assign_Name (wpAny_storeName_local hy F₂.ns (fun h₂ hn₂ hs₂ => ?_) hp)
    refine ⟨m', hnC.sameBut hs₂ (Ne.symm hLC), fun h₃ hs₃ => ?_⟩
    have F₃ := (F₂.set hn₂ hs₂).change hs₃ (Ne.symm hLC) (none₀ _ (none_of _ hC))
    obtain ⟨k, hk₃⟩ := (hpl.extBut hs₂.extBut (Ne.symm hLD)).extBut hs₃.extBut hDC
    refine hQ D k h₃ _ ys vs hlen hP hF F₃ fun q hq => ?_
    rcases List.mem_cons.mp hq with rfl | hq
    · exact ⟨hk₃, Ne.symm hLD, none₀ _ (none_of _ hD)⟩
    · obtain ⟨e1, e2, e3⟩ := N₁ q hq
      refine ⟨hs₃.extBut _ _ (fun e => ?_) (hs₂.extBut _ _ e2 (hu _ _ e1)), e2, e3⟩
      rw [e] at e1; rw [none_of _ hC] at e1; cases e1
theorem Keeps.rfl' (s : Shared) : Keeps s s := ⟨s.heap, s.toks, rfl, fun _ _ e => e⟩
theorem Keeps.of {s : Shared} {h' : Heap} {tk : Nat} (u : Ups s.heap h') : Keeps s { s with heap := h', toks := tk } := ⟨h', tk, rfl, u⟩
/-- the sources -/
theorem Src.str {l : List Nat} {t : Tok} (hh : A.handled = none) : Src prog w A (.str (S l) t) s [] l.length (fun i v => ∃ c u, l[i]? = some c ∧ v = .str (S [c]) u) := by
  refine ⟨by simp, fun Q' E' hQ' => wpAny_pyIter_str fun o St W hst => hQ' o St ?_ hst⟩
  have W' := W A hh
  have e : (S l).cps.size = l.length := by simp
  rw [e] at W'
  refine { sub := W'.sub, frame := W'.frame, done := W'.done, self := W'.self, item := fun i s' Q E hi st hQ => W'.item i s' Q E hi st fun v h' tk hP => hQ v h' tk ?_ }
  obtain ⟨c, u, hc, rfl⟩ := hP
  exact ⟨c, u, by have hc' : l.toArray[i]? = some c := hc; simpa using hc', rfl⟩
theorem Src.bytes {b : Array UInt8} {t : Tok} (hh : A.handled = none) : Src prog w A (.bytes b t) s [] b.size (fun i v => ∃ c u, b[i]? = some c ∧ v = .int (c.toNat : Int) u) :=
  ⟨by simp, fun Q' E' hQ' => KBw.pyIter_bytes (hQ' _ _ (KBw.walks hh _ b t) ⟨_, Heap.get?_push_size _ rfl, rfl, rfl⟩)⟩
theorem Src.list {a : Addr} {vs : Array Value} (hh : A.handled = none) (hl : s.heap.IsList a vs) : Src prog w A (.ref a) s [a] vs.size (fun i v => vs[i]? = some v) := by
  obtain ⟨ol, hol, _⟩ := id hl
  have hlt := Heap.lt_size hol
  exact ⟨by simpa using hlt, fun Q' E' hQ' => wpAny_pyIter_list hl (hQ' _ _ (Walks.list hh _ a (Nat.ne_of_lt hlt) vs) ⟨⟨_, Heap.get?_push_size _ rfl, rfl, rfl⟩, hl.at fun o e => Heap.get?_push_of_some _ e⟩)⟩
theorem Src.range {r : Addr} {n : Nat} {t u v : Tok} (hh : A.handled = none) (hr : IsRange s.heap r 0 (n : Int) 1 t u v) (hn : n ≤ 2 ^ 24) : Src prog w A (.ref r) s [] n (fun i v => ∃ t, v = .int (i : Int) t) := by
  have hsz : Builtin.Range.rangeSize 0 (n : Int) 1 = ((n : Nat) : Int) := by
    unfold Builtin.Range.rangeSize
    simp only [show (1 : Int) > 0 by decide, if_true]
    split <;> omega
  refine ⟨by simp, fun Q' E' hQ' => wpAny_pyIter_range hr ?_ (hQ' _ (fun i h => IsRangeIter h s.heap.objs.size (0 + (i : Nat) * 1) ((n : Int) - (i : Nat)) 1) ?_ ?_)⟩
  · unfold Builtin.Range.small
    rw [hsz]
    simp only [show (1 : Int) > 0 by decide, if_true]
    have f : ∀ i : Int, 0 ≤ i → i ≤ 2 ^ 24 → Builtin.Range.rangeFitsLong i = true := fun i h1 h2 => by
      unfold Builtin.Range.rangeFitsLong
      simp
      omega
    rw [f 0 (by decide) (by decide), f n (by omega) (by omega), f 1 (by decide) (by decide), show (n : Int) + (1 - 1) = n by omega, f n (by omega) (by omega)]
    simp
  · have W' : Walks prog w A s.heap.objs.size [s.heap.objs.size] [s.heap.objs.size] n _ _ := LCg.range_walks hh 0 n
    refine { sub := W'.sub, frame := W'.frame, done := W'.done, self := W'.self, item := fun i s' Q E hi st hQ => W'.item i s' Q E hi st fun v h' tk hP => hQ v h' tk ?_ }
    obtain ⟨t, rfl⟩ := hP
    exact ⟨t, by rw [Int.zero_add]⟩
  · show Heap.get? _ _ = some _
    rw [Heap.get?_push_size _ rfl, hsz]
    simp [rawInt]
end
theorem news_new {h₀ h₁ h' : Heap} {L D : Addr} {m : Str → Option Value} {o : Obj} {led : List (Addr × Obj)} (F : Fr h₀ L h₁ m) (N : News h₀ L h₁ led) (hu : Ups h₁ h') (hD : h₁.get? D = none) (hk : h'.get? D = some o) :
    Fr h₀ L h' m ∧ News h₀ L h' ((D, o) :: led) := by
  refine ⟨⟨F.ns.keeps hu, Ups.trans F.keep hu, F.above⟩, fun p hp => ?_⟩
  rcases List.mem_cons.mp hp with rfl | hp
  · refine ⟨hk, ?_, ?_⟩
    · rintro rfl; obtain ⟨o, _, _, ho, _⟩ := F.ns; rw [hD] at ho; cases ho
    · cases e : h₀.get? D with
      | none => rfl
      | some o' => rw [F.keep _ _ e] at hD; cases hD
  · exact ⟨hu _ _ (N p hp).1, (N p hp).2⟩
/-- reading the made list off its source -/
theorem paired_map {α : Type} {l : List α} {P : α → Value → Prop} {F : Value → Value → Prop} {G : α → Value → Prop} (hG : ∀ a v y, a ∈ l → P a v → F v y → G a y) :
    ∀ {vs ys : List Value}, vs.length = l.length → (∀ (j : Nat) (v : Value), vs[j]? = some v → ∃ a : α, l[j]? = some a ∧ P a v) → Paired F vs ys → Paired G l ys := by
  intro vs ys hlen hP hF
  induction hF generalizing l with
  | nil => cases l with
    | nil => exact .nil
    | cons a l => simp at hlen
  | @cons v y vs ys f _ ih => cases l with
    | nil => simp at hlen
    | cons a l =>
      refine .cons ?_ (ih (fun a' v' y' ha => hG a' v' y' (List.mem_cons_of_mem _ ha)) (by simpa using hlen) fun j v' hj => ?_)
      · obtain ⟨a', ha, hp⟩ := hP 0 v rfl
        cases ha
        exact hG _ _ _ (by simp) hp f
      · exact hP (j + 1) v' hj
section
variable {M : Model} {A : Around} {E : Value → Shared → Prop} {s : Shared} {K : Frag} {h₀ : Heap} {L C : Addr} {m mg mb : Str → Option Value} {scope : Scope} {cl : List (Str × Addr)} {env : Env} {p : Program} {loose : List Str} {x : Str} {pos : Pos} {v : Value} {Q : Value → Shared → Prop}
theorem cp_global (F : Fr h₀ L s.heap m) (X : K.In h₀) (T : TopRead p loose mg mb h₀) (e : nsIn K mainGlobals x = some (some v)) (h : Q v s) (hg : env.globals = mainGlobals := by rfl)
    (hk : (compEnvC scope cl C env).scope.kind = .function := by rfl) (hx : (compEnvC scope cl C env).kindOf x = some .globalImplicit := by rfl) (hd : (x == ("__debug__" : Str)) = false := by decide) :
    wpAny M A (eval (.Name x pos) (compEnvC scope cl C env)) Q E s :=
  Name_function_global hk hx (loadGlobal_global (env := compEnvC scope cl C env) (show s.heap.Ns env.globals mg from hg ▸ (T.keeps F.keep).g) (mg_of X T.g e) h) hd
theorem cp_built (F : Fr h₀ L s.heap m) (X : K.In h₀) (T : TopRead p loose mg mb h₀) (e : nsIn K mainGlobals x = some none) (hv : bootBuiltins x = some v) (hn : x ≠ "__name__") (h : Q v s) (hg : env.globals = mainGlobals := by rfl) (hb : env.builtins = builtinsNs := by rfl)
    (hk : (compEnvC scope cl C env).scope.kind = .function := by rfl) (hx : (compEnvC scope cl C env).kindOf x = some .globalImplicit := by rfl) (hd : (x == ("__debug__" : Str)) = false := by decide) :
    wpAny M A (eval (.Name x pos) (compEnvC scope cl C env)) Q E s :=
  Name_function_global hk hx (loadGlobal_builtin (env := compEnvC scope cl C env) (show s.heap.Ns env.globals mg from hg ▸ (T.keeps F.keep).g) (mg_none_of X T.g e) (show s.heap.Ns env.builtins mb from hb ▸ (T.keeps F.keep).b) ((T.builtins x hn).trans hv) h) hd
end
theorem filter_all {vs : List Value} : vs.filter (fun _ => true) = vs := List.filter_eq_self.mpr fun _ _ => rfl
end Mine
end

section
open PySem PySem.W PyProof.Rows PySem.Calls
set_option maxRecDepth 100000
namespace Mine
/-- what stands behind the source of a loop whose name is a cell -/
def LoopGoC (prog : Program) (w : World) (A : Around) (h₀ : Heap) (env : Env) (c : Addr) (body : List Stmt) (Q : Flow → Shared → Prop) (E : Value → Shared → Prop) (xv : Value) (s : Shared) : Prop :=
  ∃ (ex : List Addr) (n : Nat) (P : Nat → Value → Prop) (m : Str → Option Value) (oc : Obj) (v₀ : Option Value) (news : List (Addr × Obj)) (J : Nat → (Str → Option Value) → Prop),
    Src prog w A xv s ex n P ∧ env.locals ∉ ex ∧ c ∉ ex ∧ Fr h₀ env.locals s.heap m ∧ News h₀ env.locals s.heap ((c, oc) :: news) ∧ (∀ p ∈ news, p.1 ≠ c) ∧ oc.data = .cell v₀ ∧ J 0 m ∧
    (∀ i v m₁ h₁ tk₁ led oc', i < n → P i v → J i m₁ → oc'.data = .cell (some v) → (∀ p ∈ news, p ∈ led) → Fr h₀ env.locals h₁ m₁ → News h₀ env.locals h₁ ((c, oc') :: led) →
      wpAny (model prog w) A (execs body env) (fun f s₃ => match f with
        | .next | .cont => TurnNext h₀ env.locals ((c, oc') :: led) { s with heap := h₁, toks := tk₁ } (J (i + 1)) s₃
        | .brk => Q .next s₃
        | .ret v => Q (.ret v) s₃) E { s with heap := h₁, toks := tk₁ }) ∧
    ∀ h' tk m' oc', Fr h₀ env.locals h' m' → News h₀ env.locals h' ((c, oc') :: news) → J n m' → Q .next { s with heap := h', toks := tk }
section
variable {prog : Program} {w : World} {A : Around} {s : Shared} {env : Env} {h₀ : Heap}
theorem For_startC {E : Value → Shared → Prop} {Q : Flow → Shared → Prop} {x : Str} {c : Addr} {px pos : Pos} {iter : Expr} {body : List Stmt} (h₀ : Heap) (hx : env.kindOf x = some .cell) (hk : env.scope.kind = .function) (hc : env.cells.lookup x = some c)
    (h : wpAny (model prog w) A (eval iter env) (LoopGoC prog w A h₀ env c body Q E) E s)
    (hs : ∀ x, foldedSetIterable iter env x = pure x := by intro _; rfl)
    (hE : PassesOwn (model prog w) A env E := by passes_own) :
    wpAny (model prog w) A (exec (.For (.Name x px) iter body [] pos) env) Q E s := by
  refine wpAny_For (wpAny_mono h (fun xv s₁ h₁ => ?_) fun _ _ e => e) hs
  obtain ⟨ex, n, P, m, oc, v₀, news, J, ⟨hexlt, hsrc⟩, hLex, hcex, F, N, hnc, hoc, h0, step, done⟩ := h₁
  refine hsrc _ _ fun o St W hst => ?_
  have hcm := N (c, oc) (.head _)
  have hclt : c < s₁.heap.objs.size := Heap.lt_size hcm.1
  have hLlt : env.locals < s₁.heap.objs.size := F.ns.lt
  have hLfp : env.locals ∉ (s₁.heap.objs.size :: ex) := by
    intro hm; rcases List.mem_cons.mp hm with e | hm
    · exact Nat.lt_irrefl _ (e ▸ hLlt)
    · exact hLex hm
  have hcfp : c ∉ (s₁.heap.objs.size :: ex) := by
    intro hm; rcases List.mem_cons.mp hm with e | hm
    · exact Nat.lt_irrefl _ (e ▸ hclt)
    · exact hcex hm
  have hnew : h₀.get? s₁.heap.objs.size = none := by
    cases e : h₀.get? s₁.heap.objs.size with
    | none => rfl
    | some o' => exact absurd (Heap.lt_size (F.keep _ _ e)) (Nat.lt_irrefl _)
  have hnlt : ∀ p ∈ news, p.1 ≠ s₁.heap.objs.size := fun p hp e => Nat.lt_irrefl _ (e ▸ Heap.lt_size (N p (List.mem_cons_of_mem _ hp)).1)
  refine codeAny_forLoop (R := fun r s' => match r with | .ok f => Q f s' | .error e => cameBackBy (model prog w) A env E e s')
    (fun k s' => ∃ h' tk m' oc' i, s' = { s₁ with heap := h', toks := tk } ∧ St i h' ∧ Fr h₀ env.locals h' m' ∧ News h₀ env.locals h' ((c, oc') :: news) ∧ (∃ v, oc'.data = .cell v) ∧ J i m' ∧ i ≤ n ∧ k = n + 1 - i) ?_ (n + 1)
    ⟨s₁.heap.push o, s₁.toks, m, oc, 0, rfl, hst, F.push _, fun p hp => ⟨Heap.get?_push_of_some _ (N p hp).1, (N p hp).2⟩, ⟨_, hoc⟩, h0, Nat.zero_le _, rfl⟩
  rintro k s' ⟨h', tk, m', oc', i, rfl, hst', F', N', ⟨vc, hvc⟩, hJ, hi, rfl⟩
  have next : ∀ h₁ : Heap, (∀ b o, b ∉ [s₁.heap.objs.size] → h'.get? b = some o → h₁.get? b = some o) → Fr h₀ env.locals h₁ m' ∧ News h₀ env.locals h₁ ((c, oc') :: news) := fun h₁ hk₁ => by
    refine ⟨⟨F'.ns.at' fun o e => hk₁ _ o (fun hm => hLfp (by rw [List.mem_singleton.mp hm]; exact .head _)) e, fun b o e => hk₁ b o (fun hm => by rw [List.mem_singleton.mp hm, hnew] at e; cases e) (F'.keep b o e), F'.above⟩, fun p hp => ⟨hk₁ _ _ (fun hm => ?_) (N' p hp).1, (N' p hp).2⟩⟩
    have e := List.mem_singleton.mp hm
    rcases List.mem_cons.mp hp with rfl | hp
    · exact Nat.lt_irrefl _ (e ▸ hclt)
    · exact hnlt p hp e
  by_cases hlt : i < n
  · refine W.item i _ _ _ hlt hst' fun v h₁ tk₁ hP hst₁ hk₁ => ?_
    obtain ⟨F₁, N₁⟩ := next h₁ hk₁
    have hc₁ := N₁ (c, oc') (.head _)
    refine wpAny_assign_Name (wpAny_storeName_cell hk hx hc ⟨oc', hc₁.1, hvc⟩ fun h₂ hv hs₂ => ?_)
    obtain ⟨o₂, ho₂, hd₂⟩ := hv
    have F₂ : Fr h₀ env.locals h₂ m' := ⟨F₁.ns.sameBut hs₂ (Ne.symm hc₁.2.1), fun b ob e => (hs₂.2 b (fun q => by rw [q, hc₁.2.2] at e; cases e)).trans (F₁.keep b ob e), F₁.above⟩
    have N₂ : News h₀ env.locals h₂ ((c, o₂) :: (ownOf h₀ (s₁.heap.objs.size :: ex) h₂ ++ news)) := by
      intro p hp
      rcases List.mem_cons.mp hp with rfl | hp
      · exact ⟨ho₂, hc₁.2⟩
      · rcases List.mem_append.mp hp with hp | hp
        · exact news_ownOf hLfp p hp
        · exact ⟨(hs₂.2 _ (hnc p hp)).trans (N₁ p (List.mem_cons_of_mem _ hp)).1, (N₁ p (List.mem_cons_of_mem _ hp)).2⟩
    have fin : ∀ s₃, TurnNext h₀ env.locals ((c, o₂) :: (ownOf h₀ (s₁.heap.objs.size :: ex) h₂ ++ news)) { s₁ with heap := h₂, toks := tk₁ } (J (i + 1)) s₃ →
        ∃ m, m < n + 1 - i ∧ ∃ h' tk m' oc' i, s₃ = { s₁ with heap := h', toks := tk } ∧ St i h' ∧ Fr h₀ env.locals h' m' ∧ News h₀ env.locals h' ((c, oc') :: news) ∧ (∃ v, oc'.data = .cell v) ∧ J i m' ∧ i ≤ n ∧ m = n + 1 - i := by
      rintro s₃ ⟨h₃', tk₃, m₂, rfl, F₃, N₃, hJ₃⟩
      refine ⟨n + 1 - (i + 1), by omega, h₃', tk₃, m₂, o₂, i + 1, rfl, ?_, F₃, fun p hp => ?_, ⟨_, hd₂⟩, hJ₃, hlt, rfl⟩
      · refine W.frame _ _ _ hst₁ fun b hb o e => ?_
        have e₂ : h₂.get? b = some o := (hs₂.2 b fun q => hcfp (q ▸ hb)).trans e
        cases hn : h₀.get? b with
        | some o₀ =>
          have : o₀ = o := by have := F₂.keep b o₀ hn; rw [e₂] at this; exact (Option.some.inj this).symm
          exact this ▸ F₃.keep b o₀ hn
        | none => exact (N₃ _ (List.mem_cons_of_mem _ (List.mem_append_left _ (mem_ownOf hb hn e₂)))).1
      · rcases List.mem_cons.mp hp with rfl | hp
        · exact N₃ _ (.head _)
        · exact N₃ _ (List.mem_cons_of_mem _ (List.mem_append_right _ hp))
    refine wpAny_mono (wpAny_passesOwn hE (step i v m' h₂ _ _ o₂ hlt hP hJ hd₂ (fun p hp => List.mem_append_right _ hp) F₂ N₂)) (fun f s₃ h₃ => ?_) fun _ _ e => e
    cases f with
    | ret v => exact h₃
    | brk => exact h₃
    | cont => exact fin _ h₃
    | next => exact fin _ h₃
  · have hin : i = n := by omega
    subst hin
    refine W.done _ _ _ hst' fun h₁ tk₁ hk₁ => wpAny_execs_nil ?_
    obtain ⟨F₁, N₁⟩ := next h₁ hk₁
    exact done h₁ tk₁ m' oc' F₁ N₁ hJ
end
end Mine
end

section
namespace Mine
def wt (c : Nat) : Nat := if c = 34 ∨ c = 38 ∨ c = 60 ∨ c = 62 ∨ c = 9 ∨ c = 10 ∨ c = 13 then 5 else 1
def wd (c : Nat) : Nat := wt c + (if c = 46 then 1 else 0)
def sm (f : Nat → Nat) : List Nat → Nat
  | [] => 0
  | c :: r => f c + sm f r
theorem sm_append (f : Nat → Nat) : ∀ a b, sm f (a ++ b) = sm f a + sm f b
  | [], b => by simp [sm]
  | c :: a, b => by rw [List.cons_append, sm, sm, sm_append f a b]; omega
theorem run_sum {σ : Type} {T : Tr σ} (f g : Nat → Nat) (h : ∀ s c, sm f (T.out s c) ≤ g c) : ∀ (l : List Nat) (s : σ), sm f (T.run s l) ≤ sm g l
  | [], _ => Nat.le_refl _
  | c :: r, s => by
    have := run_sum f g h r (T.next s c)
    have := h s c
    show sm f (T.out s c ++ T.run (T.next s c) r) ≤ g c + sm g r
    rw [sm_append]; omega
theorem run_all {σ : Type} {T : Tr σ} (p : Nat → Prop) (h : ∀ s c, p c → ∀ x ∈ T.out s c, p x) : ∀ (l : List Nat) (s : σ), (∀ c ∈ l, p c) → ∀ c ∈ T.run s l, p c
  | [], _, _ => fun c hc => (List.not_mem_nil hc).elim
  | c :: r, s, hl => fun x hx => by
    rcases List.mem_append.mp hx with hx | hx
    · exact h s c (hl c (by simp)) x hx
    · exact run_all p h r (T.next s c) (fun y hy => hl y (List.mem_cons_of_mem _ hy)) x hx
theorem wt_pos (c : Nat) : 1 ≤ wt c := by unfold wt; split <;> omega
theorem wt_le (c : Nat) : wt c ≤ 5 := by unfold wt; split <;> omega
theorem wd_le (c : Nat) : wd c ≤ 2 * wt c := by have := wt_pos c; unfold wd; split <;> omega
theorem wt_wd (c : Nat) : wt c ≤ wd c := Nat.le_add_right ..
theorem sm_le (f g : Nat → Nat) (k : Nat) (h : ∀ c, f c ≤ k * g c) : ∀ l, sm f l ≤ k * sm g l
  | [] => Nat.le_refl _
  | c :: r => by
    have := sm_le f g k h r
    have := h c
    rw [sm, sm, Nat.mul_add]; omega
theorem len_sm : ∀ l : List Nat, l.length ≤ sm wt l
  | [] => Nat.le_refl _
  | c :: r => by have := len_sm r; have := wt_pos c; rw [sm, List.length_cons]; omega
theorem sm_len : ∀ l : List Nat, sm wt l ≤ 5 * l.length
  | [] => Nat.le_refl _
  | c :: r => by have := sm_len r; have := wt_le c; rw [sm, List.length_cons]; omega
theorem nm_wt {h c : Nat} {n : List Nat} (e : nm h c = some n) : n.length ≤ 5 ∧ wt c = 5 := by
  unfold nm at e
  repeat' split at e
  all_goals first | (cases e; subst_vars; exact ⟨by decide, rfl⟩) | cases e
theorem safe_oct {c : Nat} (h : safe c = true) : c < 256 ∧ wt c = 1 := by
  simp only [safe, Bool.or_eq_true, beq_iff_eq] at h
  unfold wt
  constructor
  · omega
  · rw [if_neg (by omega)]
theorem safe_sm : ∀ l : List Nat, l.all safe = true → sm wt l = l.length
  | [], _ => rfl
  | c :: r, h => by
    simp only [List.all_cons, Bool.and_eq_true] at h
    rw [sm, safe_sm r h.2, (safe_oct h.1).2, List.length_cons]; omega
theorem esc1_wt (h c : Nat) : sm wt (esc1 h c) ≤ 2 * wt c := by
  cases e : nm h c with
  | none => rw [esc1_none e]; show wt c + 0 ≤ _; omega
  | some n =>
    rw [esc1_some e]
    show wt 38 + sm wt n ≤ _
    rw [safe_sm n (nm_safe e), (nm_wt e).2]
    have := (nm_wt e).1
    have : wt 38 = 5 := rfl
    omega
theorem esc1_oct (h c : Nat) (hc : c < 256) : ∀ x ∈ esc1 h c, x < 256 := by
  cases e : nm h c with
  | none => rw [esc1_none e]; intro x hx; rw [List.mem_singleton.mp hx]; exact hc
  | some n =>
    rw [esc1_some e]
    intro x hx
    rcases List.mem_cons.mp hx with rfl | hx
    · decide
    · exact (safe_oct (List.all_eq_true.mp (nm_safe e) x hx)).1
theorem P_wt : ∀ l : List Nat, sm wt (P l) ≤ sm wt l
  | [] => Nat.le_refl _
  | [c] => by rw [P]; split; exact Nat.zero_le _; exact Nat.le_refl _
  | c :: d :: r => by
    have i1 := P_wt r
    have i2 := P_wt (d :: r)
    rw [P]
    split
    · split
      · subst_vars; simp only [sm]; omega
      · exact Nat.zero_le _
    · show wt c + sm wt (P (d :: r)) ≤ wt c + sm wt (d :: r); omega
theorem P_all (p : Nat → Prop) : ∀ l : List Nat, (∀ c ∈ l, p c) → ∀ c ∈ P l, p c
  | [], _ => fun c hc => (List.not_mem_nil hc).elim
  | [c], h => by
    rw [P]; split
    · exact fun c hc => (List.not_mem_nil hc).elim
    · exact h
  | c :: d :: r, h => by
    have i1 := P_all p r (fun x hx => h x (List.mem_cons_of_mem _ (List.mem_cons_of_mem _ hx)))
    have i2 := P_all p (d :: r) (fun x hx => h x (List.mem_cons_of_mem _ hx))
    rw [P]
    split
    · split
      · rename_i h1 h2
        intro x hx
        rcases List.mem_cons.mp hx with rfl | hx
        · exact h1 ▸ h c (by simp)
        · exact i1 x hx
      · exact fun c hc => (List.not_mem_nil hc).elim
    · intro x hx
      rcases List.mem_cons.mp hx with rfl | hx
      · exact h _ (by simp)
      · exact i2 x hx
theorem trF_wd (b : Bool) (c : Nat) : sm wd (trF.out b c) ≤ 2 * wt c := by
  simp only [trF]
  split
  · subst_vars; decide
  · split
    · split
      · exact Nat.zero_le _
      · subst_vars; decide
    · have := wd_le c; simp only [sm]; omega
theorem trD_wt (b : Bool) (c : Nat) : sm wt (trD.out b c) ≤ wd c := by
  simp only [trD]
  split
  · rename_i h; rw [h.2]; decide
  · have := wt_wd c; simp only [sm]; omega
theorem trF_oct (b : Bool) (c : Nat) (hc : c < 256) : ∀ x ∈ trF.out b c, x < 256 := by
  simp only [trF]
  split
  · decide
  · split
    · split <;> decide
    · intro x hx; rw [List.mem_singleton.mp hx]; exact hc
theorem trD_oct (b : Bool) (c : Nat) (hc : c < 256) : ∀ x ∈ trD.out b c, x < 256 := by
  simp only [trD]
  split
  · decide
  · intro x hx; rw [List.mem_singleton.mp hx]; exact hc
theorem Fx_wd (l : List Nat) : sm wd (Fx l) ≤ 2 * sm wt l := by
  rw [← (trF_run l).1]
  refine Nat.le_trans (run_sum wd (fun c => 2 * wt c) trF_wd l false) ?_
  exact sm_le _ _ 2 (fun c => Nat.le_refl _) l
theorem Dx_wt (b : Bool) (l : List Nat) : sm wt (Dx b l) ≤ sm wd l := by
  rw [← trD_run]
  exact run_sum wt wd trD_wt l b
theorem hand_wt (h : Nat) (l : List Nat) : sm wt (hand h l) ≤ 2 * sm wt l := by
  have d1 : sm wt (Fx l) ≤ 1 * sm wd (Fx l) := sm_le wt wd 1 (fun c => by have := wt_wd c; omega) _
  have d2 : sm wd l ≤ 2 * sm wt l := sm_le wd wt 2 wd_le _
  unfold hand
  split
  · have := P_wt l; omega
  · split
    · have := Dx_wt true (Fx l); have := Fx_wd l; omega
    · split
      · have := Fx_wd l; omega
      · split
        · have := Dx_wt true l; omega
        · have h1 := run_sum (T := trE h) wt (fun c => 2 * wt c) (fun _ c => esc1_wt h c) l ()
          rw [trE_run] at h1
          have h2 := sm_le (fun c => 2 * wt c) wt 2 (fun c => Nat.le_refl _) l
          omega
theorem hand_oct (h : Nat) (l : List Nat) (hl : ∀ c ∈ l, c < 256) : ∀ c ∈ hand h l, c < 256 := by
  have hF : ∀ c ∈ Fx l, c < 256 := by rw [← (trF_run l).1]; exact run_all _ trF_oct l false hl
  have hD : ∀ l : List Nat, (∀ c ∈ l, c < 256) → ∀ c ∈ Dx true l, c < 256 := fun l hl => by rw [← trD_run]; exact run_all _ trD_oct l true hl
  unfold hand
  split
  · exact P_all _ l hl
  · split
    · exact hD _ hF
    · split
      · exact hF
      · split
        · exact hD _ hl
        · rw [← trE_run h l ()]; exact run_all _ (fun _ c => esc1_oct h c) l () hl
end Mine
end

section
open PySem PySem.W PyProof.Rows PySem.Calls PyProof.V
set_option maxRecDepth 100000
set_option maxHeartbeats 4000000
namespace Mine
local macro_rules | `(tactic| k_steps) => `(tactic| repeat' (first | ((fail_if_success (with_reducible show wpAny _ _ (exec (Stmt.While _ _ _ _) _) _ _ _)); (fail_if_success (with_reducible show wpAny _ _ (exec (Stmt.For _ _ _ _ _) _) _ _ _)); (fail_if_success (with_reducible show wpAny _ _ (eval (Expr.ListComp _ _ _ _) _) _ _ _)); (fail_if_success (with_reducible show wpAny _ _ (exec (Stmt.Assign _ (Expr.ListComp _ _ _ _) _) _) _ _ _)); (fail_if_success (with_reducible show Exists _)); first | (k_unfold; (try dsimp only)) | (k_end; wrow_close) | walk1 | (dsimp only; walk1) | (leave1; walk_say "STEP leave1"; try dsimp only) | fail "no step")))
local macro_rules | `(tactic| walk_at "eval Name") => `(tactic| ((with_reducible show wpAny _ _ (eval (Expr.Name _ _) (compEnvC _ _ _ _)) _ _ _); k_dflt (first
  | refine ldVarK (Fr.ns (by assumption)) (by assumption) ?_
  | refine cp_global (by assumption) (by assumption) (by assumption) (by k_is) ?_
  | refine cp_built (by assumption) (by assumption) (by assumption) (by k_is) (by boot_by_name) (by decide) ?_)))
theorem paired_strs : ∀ {xs : List (List Nat)} {ys : List Value}, Paired (fun (x : List Nat) y => ∃ t, y = Value.str (S x) t) xs ys → ∃ l : List (Str × Tok), ys = strValues l ∧ catOf l = xs.flatten
  | _, _, .nil => ⟨[], rfl, rfl⟩
  | x :: xs, _, .cons ⟨t, e⟩ r => by
    obtain ⟨l, h1, h2⟩ := paired_strs r
    subst e h1
    refine ⟨(S x, t) :: l, rfl, ?_⟩
    rw [List.flatten_cons, ← h2]; rfl
theorem wp_joinS {prog : Program} {w : World} {A : Around} {E : Value → Shared → Prop} {s : Shared} {pl : Addr} {ys : Array Value} {xs : List (List Nat)} {e : Str} {t : Tok} {Q : Value → Shared → Prop} (he : e = ⟨#[]⟩)
    (hl : s.heap.IsList pl ys) (hp : Paired (fun (x : List Nat) y => ∃ t, y = Value.str (S x) t) xs ys.toList) (hz : xs.flatten.length ≤ sizeLine)
    (h : ∀ t' tk', Q (.str (S xs.flatten) t') { s with toks := tk' }) : wpAny (model prog w) A (call (.builtin "str.join") [.str e t, .ref pl]) Q E s := by
  subst he
  obtain ⟨l, h1, h2⟩ := paired_strs hp
  have : ys = (strValues l).toArray := by rw [← h1]
  subst this
  rw [← h2] at hz h
  exact wp_join hl hz h
theorem ints_of : ∀ {l : List Nat} {ys : List Value}, Paired (fun (c : Nat) y => ∃ t, y = Value.int (c : Int) t) l ys → IntsAre ys (l.map Int.ofNat)
  | _, _, .nil => .nil
  | _ :: _, _, .cons ⟨t, e⟩ r => by subst e; exact .cons _ t (ints_of r)
theorem oct_map (l : List Nat) (ho : ∀ c ∈ l, c < 256) : (byteArr (l.map Int.ofNat)).map (·.toNat) = l.toArray := by
  unfold byteArr
  apply Array.ext'
  simp only [Array.toList_map, List.map_map]
  refine (List.map_congr_left (g := id) fun c hc => ?_).trans (by simp)
  have := ho c hc
  show (Int.toNat (Int.ofNat c)).toUInt8.toNat = c
  simp
  omega
def OrdF (v y : Value) : Prop := ∃ c u t, v = .str (S [c]) u ∧ y = .int (c : Int) t
theorem ord_read {l : List Nat} (c : Nat) (v y : Value) (_ : c ∈ l) (hv : ∃ u, v = .str (S [c]) u) (h : OrdF v y) : ∃ t, y = Value.int (c : Int) t := by
  obtain ⟨u, rfl⟩ := hv
  obtain ⟨c', u', t, h1, rfl⟩ := h
  cases h1
  exact ⟨t, rfl⟩
def ChrF (v y : Value) : Prop := ∃ (c : UInt8) (u t : Tok), v = .int (c.toNat : Int) u ∧ y = .str (S [c.toNat]) t
theorem chr_read {l : List UInt8} (c : UInt8) (v y : Value) (_ : c ∈ l) (hv : ∃ u, v = .int (c.toNat : Int) u) (h : ChrF v y) : ∃ t, y = Value.str (S [c.toNat]) t := by
  obtain ⟨u, rfl⟩ := hv
  obtain ⟨c', u', t, h1, rfl⟩ := h
  have : c.toNat = c'.toNat := by injection h1 with h2 _; omega
  rw [this]; exact ⟨t, rfl⟩
theorem paired_sing : ∀ {l : List UInt8} {ys : List Value}, Paired (fun (c : UInt8) y => ∃ t, y = Value.str (S [c.toNat]) t) l ys → Paired (fun (x : List Nat) y => ∃ t, y = Value.str (S x) t) (l.map fun c => [c.toNat]) ys
  | _, _, .nil => .nil
  | _, _, .cons h r => .cons h (paired_sing r)
theorem oct_flat : ∀ (l : List Nat), (∀ c ∈ l, c < 256) → ((l.map Nat.toUInt8).map fun c => [c.toNat]).flatten = l
  | [], _ => rfl
  | c :: l, h => by
    have i := oct_flat l fun x hx => h x (List.mem_cons_of_mem _ hx)
    have := h c (by simp)
    rw [List.map_cons, List.map_cons, List.flatten_cons, i]
    simp
    omega
section
variable {w : World} {mg mb : Str → Option Value} {dp un : Nat} {fr : Option (List Env)} {gd : Option (List Code)} {s : Shared} {Q E : Value → Shared → Prop} (l : List Nat) (h : Nat) (t0 t1 : Tok)
theorem c_hand (X : (hd.heap_39 w.params).In s.heap) (T : TopRead hd.view_39 LS mg mb s.heap) (hd : dp + 30 < 1000) (_hu : un + 200 < 9900) (hh : h ≤ 8) (hz : l.length ≤ 2 ^ 16) (ho : ∀ c ∈ l, c < 256)
    (hQ : ∀ t h' tk', Ups s.heap h' → Q (.str (S (hand h l)) t) { s with heap := h', toks := tk' }) :
    wpAny (model PySem.Challenge.rw_wn0067_01.row.prog w) (AT dp un fr gd) (call (.ref 153) [.int (h : Int) t0, .str (S l) t1]) Q E s := by
  have X0 := X
  revert X; k_fill; intro X
  w_on
  refine enterF (binds := [(Str.ofString "hand", .int (h : Int) t0), (Str.ofString "text", .str (S l) t1)]) X T (by k_is) (by k_is) (by show dp < recursionLimit; unfold recursionLimit; omega) rfl (locs rfl) rfl rfl rfl (by decide) ?_
  intro L h₁ F N
  have hSl := S_len l
  have hlit : (Str.ofString "257 \"").length = 5 := by kernel_rfl!
  have elit : Str.ofString "257 \"" = S [50, 53, 55, 32, 34] := by kernel_rfl!
  have e0 : Str.ofString "257 \"" ++ S l = S (50 :: 53 :: 55 :: 32 :: 34 :: l) := by rw [elit, S_app]; rfl
  have T' := T.keeps F.keep
  have X' := X0.keeps F.keep
  have hd1 : (AT dp un fr gd).depth = dp := rfl
  have hu1 : (AT dp un fr gd).units = un := rfl
  k_steps
  · rw [e0]
    refine c_parse l _ X' T' (by show dp + 1 + 20 < 1000; omega) (by show un + 3 + 100 < 9900; omega) (by omega) fun t h' tk' hu => ?_
    obtain rfl : h = 0 := by omega
    exact hQ t h' tk' (Ups.trans F.keep hu)
  · refine c_quote l _ X' T' (by show dp + 1 + 20 < 1000; omega) (by show un + 3 + 100 < 9900; omega) (by omega) fun t h' tk' hu => ?_
    obtain rfl : h = 1 := by omega
    exact hQ t h' tk' (Ups.trans F.keep hu)
  · refine c_eols l _ X' T' (by show dp + 1 + 20 < 1000; omega) (by show un + 3 + 100 < 9900; omega) (by omega) fun t h' tk' hu => ?_
    obtain rfl : h = 2 := by omega
    exact hQ t h' tk' (Ups.trans F.keep hu)
  · refine c_cdata l _ X' T' (by show dp + 1 + 20 < 1000; omega) (by show un + 3 + 100 < 9900; omega) (by omega) fun t h' tk' hu => ?_
    obtain rfl : h = 3 := by omega
    exact hQ t h' tk' (Ups.trans F.keep hu)
  · refine c_attrib l _ X' T' (by show dp + 1 + 20 < 1000; omega) (by show un + 3 + 100 < 9900; omega) (by omega) fun t h' tk' hu => ?_
    obtain rfl : h = 4 := by omega
    exact hQ t h' tk' (Ups.trans F.keep hu)
  · refine c_html l _ X' T' (by show dp + 1 + 20 < 1000; omega) (by show un + 3 + 100 < 9900; omega) (by omega) fun t h' tk' hu => ?_
    obtain rfl : h = 5 := by omega
    exact hQ t h' tk' (Ups.trans F.keep hu)
  · refine c_cdata14 l _ X' T' (by show dp + 1 + 20 < 1000; omega) (by show un + 3 + 100 < 9900; omega) (by omega) fun t h' tk' hu => ?_
    obtain rfl : h = 6 := by omega
    exact hQ t h' tk' (Ups.trans F.keep hu)
  · refine c_attrib14 l _ X' T' (by show dp + 1 + 20 < 1000; omega) (by show un + 3 + 100 < 9900; omega) (by omega) fun t h' tk' hu => ?_
    obtain rfl : h = 7 := by omega
    exact hQ t h' tk' (Ups.trans F.keep hu)
  · obtain rfl : h = 8 := by omega
    refine Comp_start rfl (by decide) rfl (by decide) rfl ?_
    k_steps
    refine ⟨[], _, _, fun _ => true, OrdF, Src.str rfl, by rw [sizeLine_eq]; omega, ?_, ?_, ?_⟩
    · intro C i v s₃ m₃ E' F₃ hP hm ht
      exact wpAny_tests_nil ⟨rfl, Keeps.rfl' _⟩
    · rintro C i v s₃ m₃ E' F₃ ⟨c, u, hc, rfl⟩ _ hm ht
      have F₄ : Fr h₁ C s₃.heap m₃ := F₃
      have N₄ : News h₁ C s₃.heap [] := News.nil
      clear F₃ F N T X X0
      k_steps
      · exact ⟨c, u, _, rfl, rfl⟩
      · exact Keeps.of fun _ _ e => e
    · intro D k h' tk ys vs hD hk hlen hP hF hu
      rw [filter_all] at hF
      have hO : Paired (fun (c : Nat) y => ∃ t, y = Value.int (c : Int) t) l ys.toList := paired_map (P := fun c v => ∃ u, v = .str (S [c]) u) ord_read hlen (fun j v hj => by obtain ⟨c, u, h1, h2⟩ := hP j v hj; exact ⟨c, h1, u, h2⟩) hF
      have hI := ints_of hO
      obtain ⟨F', N'⟩ := news_new F N hu hD hk
      clear N T' F
      k_steps
      refine call_bytes_ints (vs := ys.toList) (ns := l.map Int.ofNat) (by rw [Array.toArray_toList]; exact ⟨_, hk, rfl, _, rfl⟩) hI ?_ (by rw [hI.length]; simp; rw [sizeLine_eq]; omega) rfl fun h₂ t₂ k₂ hu₂ => ?_
      · intro n hn
        obtain ⟨c, hc, rfl⟩ := List.mem_map.mp hn
        have := ho c hc
        show 0 ≤ (c : Int) ∧ (c : Int) < 256
        omega
      have F₂ : Fr s.heap L h₂ _ := ⟨F'.ns.keeps hu₂, Ups.trans F'.keep hu₂, F'.above⟩
      have N₂ : News s.heap L h₂ [] := News.nil
      clear F' N' hk hD hF hP hlen hO hI hu
      k_steps
      refine c_periods l _ _ (oct_map l ho) (X0.keeps F₂.keep) (T.keeps F₂.keep) (by show dp + 1 + 20 < 1000; omega) (by show un + 3 + 100 < 9900; omega) (by omega) fun t h₃ tk₃ hu₃ => ?_
      have F₃ : Fr s.heap L h₃ _ := ⟨F₂.ns.keeps hu₃, Ups.trans F₂.keep hu₃, F₂.above⟩
      have N₃ : News s.heap L h₃ [] := News.nil
      clear F₂ N₂
      k_steps
      refine Comp_start rfl (by decide) rfl (by decide) rfl ?_
      k_steps
      rename_i h₅ F₅ N₅
      have hlD : ((Dx true l).map Nat.toUInt8).toArray.size = (Dx true l).length := by simp
      have dl := Dx_len l true
      refine ⟨[], _, _, fun _ => true, ChrF, Src.bytes rfl, by rw [hlD, sizeLine_eq]; omega, ?_, ?_, ?_⟩
      · intro C i v s₃ m₃ E' F₃ hP hm ht
        exact wpAny_tests_nil ⟨rfl, Keeps.rfl' _⟩
      · rintro C i v s₃ m₃ E' F₃ ⟨c, u, hc, rfl⟩ _ hm ht
        have F₄ : Fr h₅ C s₃.heap m₃ := F₃
        have N₄ : News h₅ C s₃.heap [] := News.nil
        have T' := T.keeps F₅.keep
        have X' := X0.keeps F₅.keep
        have hcl : (c.toNat : Int) < 1114112 := by have := c.toNat_lt; omega
        have hcn : (0 : Int) ≤ (c.toNat : Int) := Int.natCast_nonneg _
        clear F₃ F₅ N₅ T X X0
        k_steps
        · exact ⟨c, u, _, rfl, rfl⟩
        · exact Keeps.of fun _ _ e => e
      · intro D k h₆ tk ys vs hD hk hlen hP hF hu
        rw [filter_all] at hF
        have hO : Paired (fun (c : UInt8) y => ∃ t, y = Value.str (S [c.toNat]) t) ((Dx true l).map Nat.toUInt8) ys.toList := paired_map (P := fun (c : UInt8) v => ∃ u, v = .int (c.toNat : Int) u) chr_read (by rw [hlen]; simp)
          (fun j v hj => by obtain ⟨c, u, h1, h2⟩ := hP j v hj; exact ⟨c, by simpa using h1, u, h2⟩) hF
        obtain ⟨F₆, N₆⟩ := news_new F₅ N₅ hu hD hk
        clear F₅ N₅
        have hlist : h₆.IsList D ys := ⟨_, hk, rfl, _, rfl⟩
        have hfl := oct_flat (Dx true l) (hand_oct 8 l ho)
        k_steps
        refine wp_joinS (xs := ((Dx true l).map Nat.toUInt8).map fun c => [c.toNat]) (by kernel_rfl!) hlist (paired_sing hO) (by rw [hfl, sizeLine_eq]; omega) fun t' tk' => ?_
        rw [hfl]
        exact hQ _ _ _ F₆.keep
end
end Mine
end

section
open PySem PySem.W PyProof.Rows PySem.Calls PyProof.V PySem.Spec
set_option maxRecDepth 100000
set_option maxHeartbeats 4000000
namespace Mine
def assoc (c : Nat) : List (Nat × List Nat) → Option (List Nat)
  | [] => none
  | p :: r => if p.1 = c then some p.2 else assoc c r
theorem nm_assoc (h c : Nat) : nm h c = assoc c (namesL h) := by
  unfold nm namesL
  repeat' (split <;> try (simp only [assoc, eq_comm (a := c)]))
  all_goals first | rfl | (simp_all [assoc]; done) | skip
theorem lookup_assoc (c : Nat) : ∀ M : List (Nat × List Nat), PySem.Spec.lookup (.str (S [c])) (M.map fun p => (PyData.str (S [p.1]), PyData.str (S p.2))) = (assoc c M).map fun n => .str (S n)
  | [] => rfl
  | p :: M => by
    rw [List.map_cons, PySem.Spec.lookup, assoc, PyProof.V.same_str]
    by_cases e : p.1 = c
    · rw [if_pos e, if_pos (by rw [e]; simp)]; rfl
    · rw [if_neg e, if_neg (by simpa using e), lookup_assoc c M]
theorem lookup_names (h c : Nat) : PySem.Spec.lookup (.str (S [c])) (namesD h) = (nm h c).map fun n => .str (S n) := by
  rw [nm_assoc]; exact lookup_assoc c _
theorem names_spell (h : Nat) : (namesD h).length ≠ 0 ↔ spells h = true := by
  unfold namesD namesL spells
  rw [List.length_map]
  by_cases h3 : h = 3
  · subst h3; decide
  · by_cases h4 : h = 4
    · subst h4; decide
    · by_cases h5 : h = 5
      · subst h5; decide
      · by_cases h6 : h = 6
        · subst h6; decide
        · by_cases h7 : h = 7
          · subst h7; decide
          · simp [h3, h4, h5, h6, h7]
/-- a dict that stands with something in it -/
def fullAt (h : Heap) : Value → Bool
  | .ref d => match h.get? d with
    | some o => match o.data with
      | .dict es _ => es.size != 0
      | _ => false
    | none => false
  | _ => false
theorem full_of {prog : Program} {w : World} {h : Heap} {d : Addr} {D : List (PyData × PyData)} (T : StrTab prog w h d D) : fullAt h (.ref d) = (D.length != 0) := by
  obtain ⟨_, kvs, ⟨o, es, ep, ho, _, hd, _, hp, _⟩, hf⟩ := T
  have e : es.size = D.length := by rw [hf.length, ← hp.length]; simp
  simp only [fullAt, ho, hd, e]
/-- a list of tables, one for each hand -/
def TabsOf (w : World) (h : Heap) (hs : List Nat) (items : Array Value) : Prop :=
  Paired (fun hnd v => ∃ d, v = Value.ref d ∧ StrTab PySem.Challenge.rw_wn0067_01.row.prog w h d (namesD hnd)) hs items.toList
def NamesAt (w : World) (h : Heap) (D : Addr) (hs : List Nat) : Prop := ∃ items k, h.get? D = some { cls := .type "list", data := .seq items k } ∧ TabsOf w h hs items
theorem TabsOf.keep {w : World} {h h' : Heap} {hs : List Nat} {items : Array Value} (T : TabsOf w h hs items) (u : Ups h h') : TabsOf w h' hs items :=
  Paired.mono (fun _ _ ⟨d, e, t⟩ => ⟨d, e, t.keep u⟩) T
theorem Paired.get {α β : Type} {F : α → β → Prop} : ∀ {l : List α} {r : List β}, Paired F l r → ∀ {i : Nat} {a : α}, l[i]? = some a → ∃ b, r[i]? = some b ∧ F a b
  | _, _, .cons f _, 0, _, e => ⟨_, rfl, by cases e; exact f⟩
  | _, _, .cons _ t, i + 1, _, e => Paired.get t (i := i) e
theorem Paired.drop {α β : Type} {F : α → β → Prop} : ∀ {l : List α} {r : List β}, Paired F l r → ∀ i, Paired F (l.drop i) (r.drop i)
  | _, _, h, 0 => h
  | _, _, .nil, _ + 1 => .nil
  | _, _, .cons _ t, i + 1 => Paired.drop t i
theorem TabsOf.size {w : World} {h : Heap} {hs : List Nat} {items : Array Value} (T : TabsOf w h hs items) : items.size = hs.length := by
  have := Paired.length T; simpa using this.symm
theorem TabsOf.get {w : World} {h : Heap} {hs : List Nat} {items : Array Value} (T : TabsOf w h hs items) {i c : Nat} (e : hs[i]? = some c) :
    ∃ d, items[i]? = some (.ref d) ∧ StrTab PySem.Challenge.rw_wn0067_01.row.prog w h d (namesD c) := by
  obtain ⟨v, h1, d, rfl, h2⟩ := Paired.get T e
  exact ⟨d, by simpa using h1, h2⟩
end Mine
end

section
open PySem PySem.W PyProof.Rows PySem.Calls PyProof.V PySem.Spec
set_option maxRecDepth 100000
set_option maxHeartbeats 4000000
namespace Mine
local macro_rules | `(tactic| walk_at "pad") => `(tactic| fail)
local macro_rules | `(tactic| walk_at "pad") => `(tactic| fail)
local macro_rules | `(tactic| walk_at "pad") => `(tactic| fail)
local macro_rules | `(tactic| walk_at "pad") => `(tactic| fail)
local macro_rules | `(tactic| walk_at "pad") => `(tactic| fail)
local macro_rules | `(tactic| walk_at "pad") => `(tactic| fail)
local macro_rules | `(tactic| walk_at "pad") => `(tactic| fail)
local macro_rules | `(tactic| walk_at "pad") => `(tactic| fail)
local macro_rules | `(tactic| walk_at "pad") => `(tactic| fail)
local macro_rules | `(tactic| walk_at "pad") => `(tactic| fail)
local macro_rules | `(tactic| walk_at "pad") => `(tactic| fail)
local macro_rules | `(tactic| walk_at "pad") => `(tactic| fail)
local macro_rules | `(tactic| walk_at "pad") => `(tactic| fail)
local macro_rules | `(tactic| walk_at "pad") => `(tactic| fail)
local macro_rules | `(tactic| walk_at "pad") => `(tactic| fail)
local macro_rules | `(tactic| walk_at "pad") => `(tactic| fail)
local macro_rules | `(tactic| walk_at "pad") => `(tactic| fail)
local macro_rules | `(tactic| walk_at "pad") => `(tactic| fail)
local macro_rules | `(tactic| walk_at "pad") => `(tactic| fail)
local macro_rules | `(tactic| walk_at "pad") => `(tactic| fail)
local macro_rules | `(tactic| k_steps) => `(tactic| repeat' (first | ((fail_if_success (with_reducible show wpAny _ _ (exec (Stmt.While _ _ _ _) _) _ _ _)); (fail_if_success (with_reducible show wpAny _ _ (exec (Stmt.For _ _ _ _ _) _) _ _ _)); (fail_if_success (with_reducible show wpAny _ _ (eval (Expr.ListComp _ _ _ _) _) _ _ _)); (fail_if_success (with_reducible show wpAny _ _ (exec (Stmt.Assign _ (Expr.ListComp _ _ _ _) _) _) _ _ _)); (fail_if_success (with_reducible show Exists _)); first | (k_unfold; (try dsimp only)) | (k_end; wrow_close) | walk1 | (dsimp only; walk1) | (leave1; walk_say "STEP leave1"; try dsimp only) | fail "no step")))
local macro_rules | `(tactic| walk_at "eval Name") => `(tactic| ((with_reducible show wpAny _ _ (eval (Expr.Name _ _) (compEnvC _ _ _ _)) _ _ _); k_dflt (first
  | refine ldVarK (Fr.ns (by assumption)) (by assumption) ?_
  | refine cp_global (by assumption) (by assumption) (by assumption) (by k_is) ?_
  | refine cp_built (by assumption) (by assumption) (by assumption) (by k_is) (by boot_by_name) (by decide) ?_)))
local macro_rules | `(tactic| walk_at "eval Name") => `(tactic| (k_dflt (refine ld (by assumption) (by assumption) ?_)))
theorem key_str {prog : Program} {w : World} (x : Str) (t : Tok) : (PySem.strKind prog w).is x (.str x t) = true := by simp [PySem.strKind, Value.isStrOf]
theorem in_names {w : World} {A : Around} {E : Value → Shared → Prop} {s : Shared} {d : Addr} {h c : Nat} {t : Tok} {b : Bool} {Q : Value → Shared → Prop} (T : StrTab PySem.Challenge.rw_wn0067_01.row.prog w s.heap d (namesD h)) (hb : (nm h c).isSome = b)
    (hQ : Q (.bool b) { s with toks := s.toks + 1 }) : wpAny (model PySem.Challenge.rw_wn0067_01.row.prog w) A (compareOp .In (.str (S [c]) t) (.ref d)) Q E s := by
  refine in_tab PyProof.V.same_str (key_str _ _) T ?_
  rw [lookup_names, Option.isSome_map, hb]; exact hQ
theorem item_names {w : World} {A : Around} {E : Value → Shared → Prop} {s : Shared} {value slice : PySem.Expr} {d : Addr} {h c : Nat} {t : Tok} {n : List Nat} {Q : Value → Shared → Prop} (T : StrTab PySem.Challenge.rw_wn0067_01.row.prog w s.heap d (namesD h)) (hb : nm h c = some n)
    (hQ : ∀ t', Q (.str (S n) t') { s with toks := s.toks + 1 }) (hs : subscripted slice false (.ref d) (.str (S [c]) t) = operate [.ref d, .str (S [c]) t] (getItem (.ref d) (.str (S [c]) t)) := by with_unfolding_all rfl) :
    wpAny (model PySem.Challenge.rw_wn0067_01.row.prog w) A (subscriptTail value slice (.ref d) (.str (S [c]) t)) Q E s := by
  refine item_tab_any (dv := .str (S n)) PyProof.V.same_str (key_str _ _) T (by rw [lookup_names, hb]; rfl) (fun v hv => ?_) hs
  obtain ⟨t', rfl⟩ := hv.str_inv
  exact hQ t'
theorem ne_names {w : World} {A : Around} {E : Value → Shared → Prop} {s : Shared} {d e : Addr} {h : Nat} {Q : Value → Shared → Prop} (T : StrTab PySem.Challenge.rw_wn0067_01.row.prog w s.heap d (namesD h)) (T' : StrTab PySem.Challenge.rw_wn0067_01.row.prog w s.heap e []) (hu : A.units < cLine)
    (hQ : Q (.bool ((namesD h).length != 0)) s) : wpAny (model PySem.Challenge.rw_wn0067_01.row.prog w) A (compareOp .NotEq (.ref d) (.ref e)) Q E s := by
  by_cases e0 : (namesD h).length = 0
  · rw [e0] at hQ
    have e1 : namesD h = [] := List.length_eq_zero_iff.mp e0
    rw [e1] at T
    exact kne_tabs PyProof.V.same_str T T' rfl hu .nil hQ
  · have e1 : ((namesD h).length != 0) = true := by simpa using e0
    rw [e1] at hQ
    exact kne_tabs_len T T' (by simpa using e0) hu hQ
theorem slice_names {w : World} {h : Heap} {hs : List Nat} {items : Array Value} (T : TabsOf w h hs items) {i : Nat} (hi : i < hs.length) : TabsOf w h (hs.drop (i + 1)) (slicePick items (some ((i : Int) + 1)) none none) := by
  have hsz := T.size
  have := slicePick_from items (i + 1) (by omega)
  rw [show ((i : Int) + 1) = ((i + 1 : Nat) : Int) from rfl, this]
  exact Paired.drop T (i + 1)
theorem TabsOf.at {w : World} {h : Heap} {hs : List Nat} {items : Array Value} (T : TabsOf w h hs items) {j : Nat} {v : Value} (e : items[j]? = some v) :
    ∃ c d, hs[j]? = some c ∧ v = .ref d ∧ StrTab PySem.Challenge.rw_wn0067_01.row.prog w h d (namesD c) := by
  have hlt : j < items.size := by
    by_cases hj : j < items.size
    · exact hj
    · rw [Array.getElem?_eq_none (by omega)] at e; cases e
  have hs2 := T.size
  have hc : hs[j]? = some (hs[j]'(by omega)) := List.getElem?_eq_getElem _
  obtain ⟨d, h1, h2⟩ := T.get hc
  rw [e] at h1
  exact ⟨_, d, hc, Option.some.inj h1, h2⟩
theorem nilOf {h₀ h : Heap} {L : Addr} {m : Str → Option Value} (_ : Fr h₀ L h m) : News h₀ L h [] := News.nil
theorem amps_len : ∀ n, (amps n).length = 4 * n
  | 0 => rfl
  | n + 1 => by rw [amps, List.length_append, amps_len n]; simp; omega
theorem amps_rep : ∀ n : Nat, (List.replicate n [97, 109, 112, 59]).flatten = amps n
  | 0 => rfl
  | n + 1 => by rw [List.replicate_succ, List.flatten_cons, amps, amps_rep n]
theorem Dict_empty_up {prog : Program} {w : World} {A : Around} {E : Value → Shared → Prop} {s : Shared} {env : Env} {pos : Pos} {h₀ : Heap} {L : Addr} {m : Str → Option Value} {Q : Value → Shared → Prop} (F : Fr h₀ L s.heap m) (hbig : sysModules < h₀.objs.size)
    (k : ∀ h' e, Ups s.heap h' → StrTab prog w h' e [] → Q (.ref e) { s with heap := h' }) : wpAny (model prog w) A (eval (.Dict [] [] pos) env) Q E s := by
  refine wpAny_Dict_empty (k _ _ (fun _ _ e => Heap.get?_push_of_some _ e) ⟨F.notModules hbig, [], Heap.DictOf.new s.heap, .nil⟩)
local macro_rules | `(tactic| walk_at "eval Dict nil nil") => `(tactic| (k_dflt (refine Dict_empty_up (by assumption) (by assumption) ?_); intro h9 e9 hU9 hT9))
theorem amp_mul (n : Nat) : Txt.mul (Str.ofString "amp;") (n : Int) = S (amps n) := by
  have e : Str.ofString "amp;" = S [97, 109, 112, 59] := by kernel_rfl!
  rw [e]
  have e1 : Txt.mul (S [97, 109, 112, 59]) (n : Int) = S (List.replicate n [97, 109, 112, 59]).flatten := by
    unfold Txt.mul
    by_cases h1 : (n : Int) < 1
    · have : n = 0 := by omega
      subst this; rfl
    · rw [if_neg h1]
      by_cases h2 : n = 1
      · subst h2; rfl
      · have h3 : (((n : Int) == 1) || (S [97, 109, 112, 59]).length == 0) = false := by
          have : ((n : Int) == 1) = false := by simp; omega
          rw [this]; rfl
        rw [h3, if_neg (by decide)]
        have g : ∀ (k : Nat) (a : Array Nat), ((List.replicate k (S [97, 109, 112, 59]).cps).foldl (· ++ ·) a).toList = a.toList ++ (List.replicate k [97, 109, 112, 59]).flatten := by
          intro k
          induction k with
          | zero => intro a; simp
          | succ k ih => intro a; rw [List.replicate_succ, List.foldl_cons, ih, List.replicate_succ, List.flatten_cons]; simp
        have := g n #[]
        show (⟨_⟩ : Str) = ⟨_⟩
        congr 1
        apply Array.ext'
        simpa using this
  rw [e1]
  congr 1
  rw [amps_rep]
theorem full_count {w : World} {h : Heap} : ∀ {hs : List Nat} {vs : List Value}, Paired (fun hnd v => ∃ d, v = Value.ref d ∧ StrTab PySem.Challenge.rw_wn0067_01.row.prog w h d (namesD hnd)) hs vs → (vs.filter (fullAt h)).length = hs.countP spells
  | _, _, .nil => rfl
  | hnd :: hs, _, .cons ⟨d, e, T⟩ r => by
    subst e
    have i := full_count r
    have f := full_of T
    have g := names_spell hnd
    rw [List.filter_cons, List.countP_cons, f]
    by_cases e0 : (namesD hnd).length = 0
    · have : spells hnd = false := by cases hsp : spells hnd with | false => rfl | true => exact absurd e0 (g.mpr hsp)
      rw [this, e0]; simpa using i
    · rw [g.mp e0, if_pos (by simpa using e0), List.length_cons, i]; rfl
local macro_rules | `(tactic| walk_at "subscriptTail Name Name ref int") => `(tactic| (k_dflt (refine item_list (by assumption) (by omega) (by omega) (by assumption) ?_)))
theorem getItem_names {w : World} {A : Around} {E : Value → Shared → Prop} {s : Shared} {d : Addr} {h c : Nat} {t : Tok} {n : List Nat} {Q : Value → Shared → Prop} (T : StrTab PySem.Challenge.rw_wn0067_01.row.prog w s.heap d (namesD h)) (hb : nm h c = some n)
    (hQ : ∀ t', Q (.str (S n) t') { s with toks := s.toks + 1 }) : wpAny (model PySem.Challenge.rw_wn0067_01.row.prog w) A (getItem (.ref d) (.str (S [c]) t)) Q E s := by
  obtain ⟨lo, kvs, hd, hf⟩ := T
  obtain ⟨v, hv, hfl⟩ := hf.of_lookup (d := .str (S n)) PyProof.V.same_str (k := S [c]) (by rw [lookup_names, hb]; rfl)
  obtain ⟨t', rfl⟩ := hfl.str_inv
  exact wpAny_getItem_of (key_str _ _) hd.mapOf hv (hQ t')
local macro_rules | `(tactic| walk_at "subscriptTail Subscript Name ref str") => `(tactic| (k_dflt (refine item_names (by assumption) (by assumption) ?_); intro _))
local macro_rules | `(tactic| walk_at "compareOp In str ref") => `(tactic| (k_dflt (refine in_names (by assumption) (by assumption) ?_)))
section
variable {w : World} {mg mb : Str → Option Value} {dp un : Nat} {fr : Option (List Env)} {gd : Option (List Code)} {s : Shared} {Q E : Value → Shared → Prop} (hs : List Nat) (c : Nat) (D : Addr) (t0 : Tok)
theorem c_way (X : (hd.heap_39 w.params).In s.heap) (T : TopRead hd.view_39 LS mg mb s.heap) (hd : dp + 20 < 1000) (_hu : un + 100 < 9900) (hz : hs.length ≤ 6) (hN : NamesAt w s.heap D hs)
    (hQ : ∀ t h' tk', Ups s.heap h' → Q (.str (S (way hs c)) t) { s with heap := h', toks := tk' }) :
    wpAny (model PySem.Challenge.rw_wn0067_01.row.prog w) (AT dp un fr gd) (call (.ref 172) [.str (S [c]) t0, .ref D]) Q E s := by
  have X0 := X
  revert X; k_fill; intro X
  w_on
  refine enterF (binds := [(Str.ofString "sign", .str (S [c]) t0), (Str.ofString "names", .ref D)]) X T (by k_is) (by k_is) (by show dp < recursionLimit; unfold recursionLimit; omega) rfl (locs rfl) rfl rfl rfl (by decide) ?_
  intro L h₁ F N
  obtain ⟨items, kD, hD, hT⟩ := hN
  have hsz := hT.size
  have hl : s.heap.IsList D items := ⟨_, hD, rfl, _, rfl⟩
  k_steps
  refine For_start s.heap rfl rfl ?_
  k_steps
  rename IsRange _ _ _ _ _ _ _ _ => hR
  refine LoopGo.range rfl hR (by omega) (by assumption) (by assumption) (fun i m => way (hs.drop i) c = way hs c ∧ m (Str.ofString "sign") = some (.str (S [c]) t0) ∧ m (Str.ofString "names") = some (.ref D)) ⟨rfl, rfl, rfl⟩ ?_ ?_
  · rintro i u m₁ h₂ tk₂ led hi ⟨hw, m1, m2⟩ hsub F₂ N₂
    rw [hsz] at hi
    have hci : hs[i]? = some hs[i] := by simp [hi]
    obtain ⟨d, hdi, hTd⟩ := hT.get hci
    have hTd2 := hTd.keep F₂.keep
    have hl2 : h₂.IsList D items := hl.at fun o e => F₂.keep _ _ e
    have ht2 : items[(i : Int).toNat]? = some (.ref d) := by simpa using hdi
    cases hnm : nm hs[i] c with
    | none =>
      have hb : (nm hs[i] c).isSome = false := by rw [hnm]; rfl
      k_steps
      refine' TurnNext.mk ?F ?N ?_
      case F => assumption
      case N => assumption
      refine ⟨?_, m1, m2⟩
      rw [← hw, List.drop_eq_getElem_cons hi, way_none _ hnm]
    | some n =>
      have hb : (nm hs[i] c).isSome = true := by rw [hnm]; rfl
      k_steps
      refine Comp_assign s.heap rfl rfl (by decide) rfl (by decide) rfl rfl rfl ?_
      k_steps
      rename Fr _ _ _ _ => F₅
      rename News _ _ _ _ => N₅
      have hT5 := (slice_names hT hi).keep F₅.keep
      have hsl := (N₅ _ (.head _)).1
      have hsz5 := hT5.size
      have hkeep5 := F₅.keep
      refine ⟨_, _, _, fullAt s.heap, fun _ _ => True, _, _, Src.list rfl ⟨_, hsl, rfl, _, rfl⟩, by rw [hsz5, sizeLine_eq, List.length_drop]; omega, F₅, N₅, ?_, ?_, ?_⟩
      · intro C j v s₃ m₃ E' F₃ hP hm ht
        refine wpAny_tests_one ?_
        obtain ⟨hc, d', hcj, rfl, hTv⟩ := hT5.at hP
        obtain ⟨hc2, d2, hcj2, e2, hTv2⟩ := (slice_names hT hi).at hP
        cases e2
        have hfull := full_of hTv2
        rw [hcj] at hcj2; cases hcj2
        dsimp only at F₃
        have N₃ := nilOf F₃
        have T₅ := modules_low (T.keeps hkeep5).nolimit
        clear F₅ N₅
        k_steps
        rename_i h9 e9 hU9 hT9
        refine ne_names ((hTv.keep F₃.keep).keep hU9) hT9 (by show un + 3 < 9900; omega) ?_
        k_steps
        · exact hfull.symm
        · exact Keeps.of hU9
      · intro C j v s₃ m₃ E' F₃ hP hp hm ht
        clear F₅ N₅
        k_steps
        · trivial
        · exact Keeps.rfl' _
      · intro D' k' h' tk' ys vs hlen hP hF F₆ N₆
        have hvs : vs = _ := list_of_places hlen hP
        have hcnt := full_count (slice_names hT hi)
        rw [← hvs] at hcnt
        have hyl := Paired.length hF
        have hcl := List.countP_le_length (p := spells) (l := hs.drop (i + 1))
        rw [List.length_drop] at hcl
        have hys : ys.size = (hs.drop (i + 1)).countP spells := by rw [← hcnt, hyl]; simp
        have hlt : h'.IsList D' ys := ⟨_, (N₆ _ (.head _)).1, rfl, _, rfl⟩
        have hlD : h'.IsList D items := hl.at fun o e => F₆.keep _ _ e
        have hTd6 := hTd.keep F₆.keep
        have hmul := amp_mul ys.size
        have hml : (Txt.mul (Str.ofString "amp;") (ys.size : Int)).length = (amps ys.size).length := by rw [hmul, S_len]
        have hal := amps_len ys.size
        have hn5 := (nm_wt hnm).1
        have hnl := S_len n
        have h1l : (Str.ofString "&").length = 1 := by kernel_rfl!
        have h4l : (Str.ofString "amp;").length = 4 := by kernel_rfl!
        have hin : (ys.size : Int) ≤ 1048576 := by omega
        have hin2 : (ys.size : Int) < 2 ^ 63 := by omega
        clear F₅ N₅ hF hP hvs hlen
        k_steps
        refine getItem_names hTd6 hnm fun t' => ?_
        k_steps
        have e : way hs c = 38 :: (amps ys.size ++ n) := by
          rw [← hw, List.drop_eq_getElem_cons hi, way, hnm, hys]
        have e2 : Str.ofString "&" ++ Txt.mul (Str.ofString "amp;") (ys.size : Int) ++ S n = S (way hs c) := by
          rw [hmul, show Str.ofString "&" = S [38] from by kernel_rfl!, S_app, S_app, e]; simp
        rw [hys] at e2
        rw [← e2] at hQ
        exact hQ _ _ _ (Fr.keep (by assumption))
  · rintro h' tkd md Fd Nd ⟨hw, m1, m2⟩
    k_steps
    have e : way hs c = [c] := by
      rw [← hw, List.drop_eq_nil_of_le (by omega)]; rfl
    rw [e] at hQ
    exact hQ _ _ _ (Fr.keep (by assumption))
end
end Mine
end

section
open PySem PySem.W PyProof.Rows PySem.Calls PyProof.V PySem.Spec
set_option maxRecDepth 100000
set_option maxHeartbeats 4000000
namespace Mine
theorem any_F (h : Nat) : ([(1 : Int), 2].any fun x => x == (h : Int)) = isF h := by
  unfold isF
  rw [Bool.eq_iff_iff]
  simp only [List.any_cons, List.any_nil, Bool.or_false, Bool.or_eq_true, beq_iff_eq]
  omega
theorem any_D (h : Nat) : ([(1 : Int), 8].any fun x => x == (h : Int)) = isD h := by
  unfold isD
  rw [Bool.eq_iff_iff]
  simp only [List.any_cons, List.any_nil, Bool.or_false, Bool.or_eq_true, beq_iff_eq]
  omega
theorem ne_empty (b : List Nat) : (S b != Str.ofString "") = !decide (b = []) := by
  rw [show Str.ofString "" = S [] from by kernel_rfl!, bne, S_eqb]
theorem last_slice {b : List Nat} (h : b.length ≤ 2) : (Txt.slice (S b) (some (-1)) none == Str.ofString "\n") = decide (b.getLast? = some 10) := by
  rw [show Str.ofString "\n" = S [10] from by kernel_rfl!]
  match b, h with
  | [], _ => rfl
  | [x], _ =>
    have : Txt.slice (S [x]) (some (-1)) none = S [x] := by kernel_rfl!
    rw [this, S_eqb]; simp
  | [x, y], _ =>
    have : Txt.slice (S [x, y]) (some (-1)) none = S [y] := by kernel_rfl!
    rw [this, S_eqb]; simp
  | _ :: _ :: _ :: _, h => simp at h
theorem bareF_len {h : Nat} {b : List Nat} (hb : b.length ≤ 2) : (bareF h b).length ≤ 2 := by
  unfold bareF; split
  · exact Nat.le_refl _
  · exact hb
theorem paired_of {α : Type} {P : α → Value → Prop} : ∀ {l : List α} {vs : List Value}, vs.length = l.length → (∀ (j : Nat) (v : Value), vs[j]? = some v → ∃ a : α, l[j]? = some a ∧ P a v) → Paired P l vs
  | [], [], _, _ => .nil
  | [], _ :: _, h, _ => by simp at h
  | _ :: _, [], h, _ => by simp at h
  | a :: l, v :: vs, h, k => by
    refine .cons ?_ (paired_of (by simpa using h) fun j v' hj => k (j + 1) v' hj)
    obtain ⟨a', ha, hp⟩ := k 0 v rfl
    cases ha; exact hp
theorem Paired.filter {α β : Type} {F : α → β → Prop} {q : α → Bool} {p : β → Bool} (h : ∀ a b, F a b → p b = q a) : ∀ {l : List α} {r : List β}, Paired F l r → Paired F (l.filter q) (r.filter p)
  | _, _, .nil => .nil
  | _, _, .cons (a := a) (b := b) f t => by
    have e := h a b f
    have i := Paired.filter h t
    rw [List.filter_cons, List.filter_cons, e]
    split
    · exact .cons f i
    · exact i
theorem Paired.trans {α β γ : Type} {F : α → β → Prop} {G : β → γ → Prop} {K : α → γ → Prop} (h : ∀ a b c, F a b → G b c → K a c) : ∀ {l : List α} {r : List β} {t : List γ}, Paired F l r → Paired G r t → Paired K l t
  | _, _, _, .nil, .nil => .nil
  | _, _, _, .cons f t, .cons g u => .cons (h _ _ _ f g) (Paired.trans h t u)
section
variable {M : Model} {A : Around} {E : Value → Shared → Prop} {s : Shared} {C c : Addr} {scope : Scope} {cl : List (Str × Addr)} {env : Env} {x : Str} {pos : Pos} {v : Value} {Q : Value → Shared → Prop}
theorem cp_free (hc : cl.lookup x = some c) (hv : s.heap.IsCell c (some v)) (h : Q v s)
    (hk : (compEnvC scope cl C env).scope.kind = .function := by rfl) (hx : (compEnvC scope cl C env).kindOf x = some .free := by rfl) (hb : (x == ("__debug__" : Str)) = false := by decide) (hn : (x == ("__classdict__" : Str)) = false := by decide) :
    wpAny M A (eval (.Name x pos) (compEnvC scope cl C env)) Q E s := wpAny_Name (wpAny_loadName_free hk hx hc hv h hn) hb
theorem cp_cell (hc : cl.lookup x = some c) (hv : s.heap.IsCell c (some v)) (h : Q v s)
    (hk : (compEnvC scope cl C env).scope.kind = .function := by rfl) (hx : (compEnvC scope cl C env).kindOf x = some .cell := by rfl) (hb : (x == ("__debug__" : Str)) = false := by decide) :
    wpAny M A (eval (.Name x pos) (compEnvC scope cl C env)) Q E s := wpAny_Name (wpAny_loadName_cell hk hx hc hv h) hb
theorem cut1 {M : Model} {A : Around} {a : Stmt} {rest : List Stmt} {env : Env} {Q : Flow → Shared → Prop} {E : Value → Shared → Prop} {s : Shared} (P : Shared → Prop)
    (key : ∀ s', P s' → wpAny M A (execs rest env) Q E s') (h : wpAny M A (exec a env) (fun f s' => f = .next ∧ P s') E s) : wpAny M A (execs (a :: rest) env) Q E s :=
  wpAny_execs_cons (wpAny_mono h (fun f s' h' => by obtain ⟨rfl, hp⟩ := h'; exact key s' hp) fun _ _ e => e)
end
theorem slice_names0 {w : World} {h : Heap} {hs : List Nat} {items : Array Value} (T : TabsOf w h hs items) {i : Nat} : TabsOf w h (hs.drop i) (slicePick items (some (i : Int)) none none) := by
  rw [slicePick_from' items i]
  exact Paired.drop T i
theorem way_len : ∀ (hs : List Nat) (c : Nat), (way hs c).length ≤ 4 * hs.length + 6
  | [], _ => by simp [way]
  | h :: hs, c => by
    have i := way_len hs c
    rw [way]
    split
    · rename_i n e
      have := (nm_wt e).1
      have h1 := amps_len (hs.countP spells)
      have h2 := List.countP_le_length (p := spells) (l := hs)
      simp only [List.length_cons, List.length_append]
      omega
    · simp only [List.length_cons]; omega
theorem News.drop1 {h₀ h : Heap} {L : Addr} {p : Addr × Obj} {led : List (Addr × Obj)} (N : News h₀ L h (p :: led)) : News h₀ L h led := fun q hq => N q (.tail _ hq)
theorem News.sub {h₀ h : Heap} {L : Addr} {l₁ l₂ : List (Addr × Obj)} (N : News h₀ L h l₁) (hs : ∀ p ∈ l₂, p ∈ l₁) : News h₀ L h l₂ := fun q hq => N q (hs q hq)
theorem notin_names {w : World} {A : Around} {E : Value → Shared → Prop} {s : Shared} {d : Addr} {h c : Nat} {t : Tok} {b : Bool} {Q : Value → Shared → Prop} (T : StrTab PySem.Challenge.rw_wn0067_01.row.prog w s.heap d (namesD h)) (hb : (nm h c).isNone = b)
    (hQ : Q (.bool b) { s with toks := s.toks + 1 }) : wpAny (model PySem.Challenge.rw_wn0067_01.row.prog w) A (compareOp .NotIn (.str (S [c]) t) (.ref d)) Q E s := by
  refine notin_tab PyProof.V.same_str (key_str _ _) T ?_
  rw [lookup_names, Option.isSome_map]
  have : (!(nm h c).isSome) = b := by rw [← hb]; simp
  rw [this]; exact hQ
theorem flat_len (hs : List Nat) : ∀ l : List Nat, (l.flatMap (way hs)).length ≤ l.length * (4 * hs.length + 6)
  | [] => by simp
  | c :: l => by
    have i := flat_len hs l
    have := way_len hs c
    rw [List.flatMap_cons, List.length_append, List.length_cons, Nat.add_mul]; omega
theorem flat_len2 {hs l : List Nat} (hh : hs.length ≤ 6) (hl : l.length ≤ 2) : (l.flatMap (way hs)).length ≤ 60 := by
  have i := flat_len hs l
  have : l.length * (4 * hs.length + 6) ≤ 2 * 30 := Nat.mul_le_mul hl (by omega)
  omega
theorem some_step {h c : Nat} {n : List Nat} (hs B : List Nat) (hn : nm h c = some n) (wr : List Nat) : wr ++ (((B ++ [c]).filter fun c => (nm h c).isSome).flatMap (way hs)) = (wr ++ (B.filter fun c => (nm h c).isSome).flatMap (way hs)) ++ way hs c := by
  rw [List.filter_append, List.flatMap_append, List.filter_cons, hn]; simp
theorem none_step {h c : Nat} (hs B : List Nat) (hn : nm h c = none) (wr : List Nat) : wr ++ (((B ++ [c]).filter fun c => (nm h c).isSome).flatMap (way hs)) = wr ++ (B.filter fun c => (nm h c).isSome).flatMap (way hs) := by
  rw [List.filter_append, List.flatMap_append, List.filter_cons, hn]; simp
def signIs (h : Nat) : Value → Bool
  | .str x _ => (nm h (x.cps.toList.headD 0)).isNone
  | _ => false
theorem signIs_str (h c : Nat) (u : Tok) : signIs h (.str (S [c]) u) = (nm h c).isNone := rfl
def SignF (v y : Value) : Prop := ∃ (c : Nat) (u t : Tok), v = .str (S [c]) u ∧ y = .str (S [c]) t
theorem sign_read {h : Nat} {B : List Nat} {vs ys : List Value} (hlen : vs.length = B.length) (hP : ∀ (j : Nat) (v : Value), vs[j]? = some v → ∃ (c : Nat) (u : Tok), B[j]? = some c ∧ v = .str (S [c]) u) (hF : Paired SignF (vs.filter (signIs h)) ys) :
    Paired (fun (x : List Nat) y => ∃ t, y = Value.str (S x) t) ((B.filter fun c => (nm h c).isNone).map fun c => [c]) ys := by
  have h1 : Paired (fun (c : Nat) v => ∃ u, v = Value.str (S [c]) u) B vs := paired_of hlen fun j v hj => by obtain ⟨c, u, a, b⟩ := hP j v hj; exact ⟨c, a, u, b⟩
  have h2 := Paired.filter (q := fun c => (nm h c).isNone) (p := signIs h) (by rintro c v ⟨u, rfl⟩; exact signIs_str _ _ _) h1
  have h3 : Paired (fun (c : Nat) y => ∃ t, y = Value.str (S [c]) t) (B.filter fun c => (nm h c).isNone) ys := Paired.trans (by
    rintro c v y ⟨u, rfl⟩ ⟨c', u', t, e, rfl⟩
    injection e with e1 e2
    rw [e1]; exact ⟨t, rfl⟩) h2 hF
  have g : ∀ {l : List Nat} {ys : List Value}, Paired (fun (c : Nat) y => ∃ t, y = Value.str (S [c]) t) l ys → Paired (fun (x : List Nat) y => ∃ t, y = Value.str (S x) t) (l.map fun c => [c]) ys := by
    intro l ys h
    induction h with
    | nil => exact .nil
    | cons a _ ih => exact .cons a ih
  exact g h3
theorem sing_flat : ∀ l : List Nat, (l.map fun c => [c]).flatten = l
  | [] => rfl
  | c :: l => by rw [List.map_cons, List.flatten_cons, sing_flat l]; rfl
theorem endw_step {hs l b wr B : List Nat} {i n n' : Nat} (hi : i < hs.length) (hE : endw hs l = (wr ++ (endw (hs.drop i) b).1, n + (endw (hs.drop i) b).2)) (hB : bareF hs[i] b = B)
    (hn : (n + if B.getLast? = some 10 ∧ isD hs[i] = true then 1 else 0) = n') :
    endw hs l = ((wr ++ (B.filter fun c => (nm hs[i] c).isSome).flatMap (way (hs.drop i))) ++ (endw (hs.drop (i + 1)) (B.filter fun c => (nm hs[i] c).isNone)).1, n' + (endw (hs.drop (i + 1)) (B.filter fun c => (nm hs[i] c).isNone)).2) := by
  rw [hE]
  have e : hs.drop i = hs[i] :: hs.drop (i + 1) := List.drop_eq_getElem_cons hi
  have e2 : endw (hs.drop i) b = ((B.filter fun c => (nm hs[i] c).isSome).flatMap (way (hs.drop i)) ++ (endw (hs.drop (i + 1)) (B.filter fun c => (nm hs[i] c).isNone)).1, (if B.getLast? = some 10 ∧ isD hs[i] = true then 1 else 0) + (endw (hs.drop (i + 1)) (B.filter fun c => (nm hs[i] c).isNone)).2) := by
    rw [e, endw, hB]
  rw [e2, ← hn]
  simp only [List.append_assoc, Nat.add_assoc]
theorem Src.lt {prog : Program} {w : World} {A : Around} {xv : Value} {s : Shared} {ex : List Addr} {n : Nat} {P : Nat → Value → Prop} (h : Src prog w A xv s ex n P) : Src prog w A xv s ex n (fun i v => i < n ∧ P i v) :=
  ⟨h.1, fun Q' E' hQ' => h.2 Q' E' fun o St W hst => hQ' o St { sub := W.sub, frame := W.frame, done := W.done, self := W.self, item := fun i s' Q E hi st hQ => W.item i s' Q E hi st fun v h' tk hP => hQ v h' tk ⟨hi, hP⟩ } hst⟩
theorem any_Q (h : Nat) : ([(4 : Int), 5, 7].any fun x => x == (h : Int)) = spellsQ h := by
  unfold spellsQ
  rw [Bool.eq_iff_iff]
  simp only [List.any_cons, List.any_nil, Bool.or_false, Bool.or_eq_true, beq_iff_eq]
  omega
def EqF (v y : Value) : Prop := y = v
theorem paired_eq : ∀ {l r : List Value}, Paired EqF l r → r = l
  | _, _, .nil => rfl
  | _, _, .cons h t => by rw [paired_eq t, show _ = _ from h]
/-- a test of an int -/
def onInt (q : Int → Bool) : Value → Bool
  | .int k _ => q k
  | _ => false
theorem onInt_int (q : Int → Bool) (k : Int) (t : Tok) : onInt q (.int k t) = q k := rfl
/-- a list of hands -/
def Ints (row : List Nat) (vs : List Value) : Prop := Paired (fun (c : Nat) v => ∃ t, v = Value.int (c : Int) t) row vs
theorem Ints.filter {row : List Nat} {vs : List Value} (h : Ints row vs) {q : Int → Bool} {p : Nat → Bool} (hq : ∀ c : Nat, q (c : Int) = p c) : Ints (row.filter p) (vs.filter (onInt q)) :=
  Paired.filter (by rintro c v ⟨t, rfl⟩; exact hq c) h
theorem Ints.same {row : List Nat} {vs ys : List Value} (h : Ints row vs) (hF : Paired EqF vs ys) : Ints row ys := by rw [paired_eq hF]; exact h
theorem ints_range {n : Nat} {vs : List Value} (hlen : vs.length = n) (hP : ∀ (j : Nat) (v : Value), vs[j]? = some v → ∃ t, v = .int (j : Int) t) : Ints (List.range n) vs := by
  refine paired_of (by rw [List.length_range]; exact hlen) fun j v hj => ⟨j, ?_, hP j v hj⟩
  have : j < vs.length := by
    by_cases h : j < vs.length
    · exact h
    · rw [List.getElem?_eq_none (by omega)] at hj; cases hj
  rw [List.getElem?_range (by omega)]
theorem zeros_take : ∀ (row : List Nat) (k : Nat), k ≤ row.length → (∀ i, i < k → spellsQ (row.getD i 0) = false) → (k = row.length ∨ spellsQ (row.getD k 0) = true) → zeros row = (row.take k).countP (· == 0)
  | [], k, h, _, _ => by simp [zeros]
  | h :: r, 0, _, _, h2 => by
    have : spellsQ h = true := by
      rcases h2 with h2 | h2
      · simp at h2
      · simpa using h2
    simp [zeros, this]
  | h :: r, k + 1, h0, h1, h2 => by
    have a : spellsQ h = false := by have := h1 0 (by omega); simpa using this
    have i := zeros_take r k (by simpa using h0) (fun i hi => by have := h1 (i + 1) (by omega); simpa using this) (by
      rcases h2 with h2 | h2
      · left; simpa using h2
      · right; simpa using h2)
    rw [zeros, a, List.take_succ_cons, List.countP_cons, i, if_neg (by simp)]
    by_cases e : h = 0
    · subst e; simp; omega
    · simp [e]
def spAt (row : List Nat) : List Nat := (List.range row.length).filter fun i => spellsQ (row.getD i 0)
theorem sp_min {row : List Nat} {M : Int} (h1 : M ∈ (spAt row).map Int.ofNat ++ [(row.length : Int)]) (h2 : ∀ a, a ∈ (spAt row).map Int.ofNat ++ [(row.length : Int)] → M ≤ a) :
    ∃ k : Nat, M = (k : Int) ∧ k ≤ row.length ∧ zeros row = (row.take k).countP (· == 0) := by
  have no : ∀ k : Nat, M = (k : Int) → ∀ i, i < k → i < row.length → spellsQ (row.getD i 0) = false := by
    intro k e i hi hl
    cases q : spellsQ (row.getD i 0) with
    | false => rfl
    | true =>
      have : i ∈ spAt row := List.mem_filter.mpr ⟨List.mem_range.mpr hl, q⟩
      have := h2 (i : Int) (List.mem_append_left _ (List.mem_map.mpr ⟨i, this, rfl⟩))
      omega
  rcases List.mem_append.mp h1 with hm | hm
  · obtain ⟨k, hk, e⟩ := List.mem_map.mp hm
    obtain ⟨k1, k2⟩ := List.mem_filter.mp hk
    have k3 := List.mem_range.mp k1
    have e' : M = (k : Int) := e.symm
    exact ⟨k, e', Nat.le_of_lt k3, zeros_take row k (Nat.le_of_lt k3) (fun i hi => no k e' i hi (by omega)) (.inr k2)⟩
  · have e' : M = (row.length : Int) := List.mem_singleton.mp hm
    exact ⟨row.length, e', Nat.le_refl _, zeros_take row row.length (Nat.le_refl _) (fun i hi => no _ e' i hi hi) (.inl rfl)⟩
/-- an object that is a table wherever it stands -/
def TabO (w : World) (D : List (PyData × PyData)) (d : Addr) (o : Obj) : Prop := ∀ h : Heap, h.get? d = some o → StrTab PySem.Challenge.rw_wn0067_01.row.prog w h d D
theorem tab_obj {w : World} {h : Heap} {d : Addr} {D : List (PyData × PyData)} (T : StrTab PySem.Challenge.rw_wn0067_01.row.prog w h d D) : ∃ o, h.get? d = some o ∧ TabO w D d o := by
  obtain ⟨lo, kvs, ⟨o, es, ep, ho, r⟩, hf⟩ := T
  exact ⟨o, ho, fun h2 e => ⟨lo, kvs, ⟨o, es, ep, e, r⟩, hf⟩⟩
def NamesIn (w : World) (led : List (Addr × Obj)) (ys : List Value) (hs : List Nat) : Prop := Paired (fun hnd v => ∃ d o, v = Value.ref d ∧ (d, o) ∈ led ∧ TabO w (namesD hnd) d o) hs ys
theorem NamesIn.mono {w : World} {led led' : List (Addr × Obj)} {ys : List Value} {hs : List Nat} (h : NamesIn w led ys hs) (k : ∀ p ∈ led, p ∈ led') : NamesIn w led' ys hs :=
  Paired.mono (fun _ _ ⟨d, o, e, m, t⟩ => ⟨d, o, e, k _ m, t⟩) h
theorem NamesIn.tabs {w : World} {h₀ h : Heap} {L : Addr} {led : List (Addr × Obj)} {ys : List Value} {hs : List Nat} (x : NamesIn w led ys hs) (N : News h₀ L h led) : TabsOf w h hs ys.toArray :=
  Paired.mono (fun _ _ ⟨d, _, e, m, t⟩ => ⟨d, e, t _ (N _ m).1⟩) x
theorem Paired.take {α β : Type} {F : α → β → Prop} : ∀ {l : List α} {r : List β}, Paired F l r → ∀ i, Paired F (l.take i) (r.take i)
  | _, _, _, 0 => by simp only [List.take_zero]; exact .nil
  | _, _, .nil, _ + 1 => .nil
  | _, _, .cons f t, i + 1 => .cons f (Paired.take t i)
theorem newTup_up {M : Model} {A : Around} {E : Value → Shared → Prop} {s : Shared} {items : List Value} {Q : Value → Shared → Prop} (k : ∀ h' e, Ups s.heap h' → IsTup h' e items.toArray → Q (.ref e) { s with heap := h' }) (hsz : items.length ≤ sizeLine := by size_fits) :
    wpAny M A (newTuple items) Q E s :=
  wpAny_newTuple (k _ _ (fun _ _ e => Heap.get?_push_of_some _ e) ⟨_, Heap.get?_push_size _ rfl, rfl, _, rfl⟩) hsz
theorem Ints.at {row : List Nat} {vs : Array Value} (h : Ints row vs.toList) {j : Nat} {v : Value} (e : vs[j]? = some v) : ∃ (c : Nat) (t : Tok), v = .int (c : Int) t ∧ row[j]? = some c := by
  have e' : vs.toList[j]? = some v := by simpa using e
  have hj : j < row.length := by
    have hl := Paired.length h
    by_cases hj : j < row.length
    · exact hj
    · rw [List.getElem?_eq_none (by omega)] at e'; cases e'
  obtain ⟨b, h1, t, h2⟩ := Paired.get h (List.getElem?_eq_getElem hj)
  rw [e'] at h1; cases h1
  exact ⟨_, t, h2, List.getElem?_eq_getElem hj⟩
theorem divd_len (m : Nat) : ∀ (l : List Nat) (run : Nat), (divd m run l).length ≤ run + l.length
  | [], run => by
    have := Nat.div_le_self run m
    simp [divd, rep]; omega
  | c :: l, run => by
    have i1 := divd_len m l (run + 1)
    have i2 := divd_len m l 0
    have := Nat.div_le_self run m
    rw [divd]
    split
    · simp only [List.length_cons]; omega
    · split
      · simp [rep]; omega
      · simp only [List.length_append, List.length_cons, rep, List.length_replicate]; omega
open LCg in
theorem rest_ind {prog : Program} {w : World} {A : Around} {h₀ : Heap} {L : Addr} {m : Str → Option Value} {env : Env} {elt : Expr} {x : Str} {scope : Scope} {cl : List (Str × Addr)} {s : Shared} {S : List (Addr × Obj) → Prop} {P : Nat → Value → Prop}
    {Fin : List Value → List (Addr × Obj) → Prop} {n : Nat} {news₀ : List (Addr × Obj)} (J : Nat → List Value → List (Addr × Obj) → Prop) (h0 : J 0 [] news₀)
    (step : ∀ i ys news, i < n → J i ys news → ∀ v I oI C oC D m₂ h tk (E' : Value → Shared → Prop), P i v → NsObj oC m₂ → m₂ x = some v → Fr h₀ L h m → News h₀ L h ((I, oI) :: (C, oC) :: (D, lst ys) :: news) → Off3 I C D news → ((@Ne Nat I C) ∧ (@Ne Nat I D) ∧ (@Ne Nat C D)) →
      wpAny (model prog w) A (eval elt (compEnvC scope cl C env)) (CompEnd h₀ L m { s with heap := h, toks := tk } I oI C oC D (lst ys) S (fun y news' => J (i + 1) (ys ++ [y]) news')) E' { s with heap := h, toks := tk })
    (fin : ∀ ys news, J n ys news → Fin ys news) : CompRest prog w A h₀ L m env elt x scope cl s S P Fin n 0 [] news₀ := by
  suffices R : ∀ k i ys news, i + k = n → J i ys news → CompRest prog w A h₀ L m env elt x scope cl s S P Fin k i ys news from R n 0 [] news₀ (Nat.zero_add _) h0
  intro k
  induction k with
  | zero => intro i ys news e hJ; obtain rfl : i = n := e; exact fin ys news hJ
  | succ k ih =>
    intro i ys news e hJ
    refine CompRest.succ fun v I oI C oC D m₂ h tk E' hP hN hm F N off ne => ?_
    refine wpAny_mono (step i ys news (by omega) hJ v I oI C oC D m₂ h tk E' hP hN hm F N off ne) (fun y s₂ h₂ => ?_) fun _ _ e => e
    obtain ⟨h', tk', news', e', F', N', off', hS', r⟩ := h₂
    exact ⟨h', tk', news', e', F', N', off', hS', ih (i + 1) (ys ++ [y]) news' (by omega) r⟩
theorem srcAt_cons {h₀ : Heap} {ax : Addr} {its : Array Value} {news : List (Addr × Obj)} {p : Addr × Obj} (x : LCg.SrcAt h₀ ax its news) : LCg.SrcAt h₀ ax its (p :: news) := by
  rcases x with x | ⟨o, hm, r⟩
  · exact .inl x
  · exact .inr ⟨o, .tail _ hm, r⟩
theorem names_end {w : World} {h₀ h h' : Heap} {L I C D d : Addr} {m : Str → Option Value} {s₁ : Shared} {oI oC : Obj} {ax : Addr} {its : Array Value} {news : List (Addr × Obj)} {ys : List Value} {tk c : Nat} {hs : List Nat} {i : Nat} {led : List (Addr × Obj)}
    (F : Fr h₀ L h m) (N : News h₀ L h ((I, oI) :: (C, oC) :: (D, LCg.lst ys) :: news)) (off : LCg.Off3 I C D news) (hu : Ups h h') (hfr : h.get? d = none) (hT : StrTab PySem.Challenge.rw_wn0067_01.row.prog w h' d (namesD c)) (hc : hs[i]? = some c)
    (hsub : ∀ p ∈ led, p ∈ news) (hSA : LCg.SrcAt h₀ ax its news) (hNI : NamesIn w news ys (hs.take i)) :
    LCg.CompEnd h₀ L m s₁ I oI C oC D (LCg.lst ys) (LCg.SrcAt h₀ ax its) (fun y news' => (∀ p ∈ led, p ∈ news') ∧ LCg.SrcAt h₀ ax its news' ∧ NamesIn w news' (ys ++ [y]) (hs.take (i + 1))) (.ref d) { s₁ with heap := h', toks := tk } := by
  obtain ⟨o, ho, hTO⟩ := tab_obj hT
  have ne : ∀ {b : Addr} {ob : Obj}, h.get? b = some ob → d ≠ b := fun e q => by rw [q] at hfr; rw [hfr] at e; cases e
  obtain ⟨oL, _, _, hL, _⟩ := F.ns
  refine ⟨h', tk, (d, o) :: news, rfl, F.keeps hu, fun p hp => ?_, ⟨⟨ne (N (I, oI) (by simp)).1, ne (N (C, oC) (by simp)).1, ne (N (D, LCg.lst ys) (by simp)).1⟩, off⟩, srcAt_cons hSA, fun p hp => .tail _ (hsub p hp), srcAt_cons hSA, ?_⟩
  · have old : ∀ q ∈ ((I, oI) :: (C, oC) :: (D, LCg.lst ys) :: news), h'.get? q.1 = some q.2 ∧ q.1 ≠ L ∧ h₀.get? q.1 = none := fun q hq => ⟨hu _ _ (N q hq).1, (N q hq).2⟩
    simp only [List.mem_cons] at hp
    rcases hp with rfl | rfl | rfl | rfl | hp
    · exact old _ (by simp)
    · exact old _ (by simp)
    · exact old _ (by simp)
    · refine ⟨ho, ne hL, ?_⟩
      cases e : h₀.get? d with
      | none => rfl
      | some o' => rw [F.keep _ _ e] at hfr; cases hfr
    · exact old p (by simp [hp])
  · have e : hs.take (i + 1) = hs.take i ++ [c] := by rw [List.take_add_one, hc]; rfl
    rw [e]
    exact Paired.snoc (NamesIn.mono hNI fun p hp => .tail _ hp) ⟨d, o, rfl, .head _, hTO⟩
section
variable {prog : Program} {w : World} {A : Around} {E : Value → Shared → Prop} {Q : Flow → Shared → Prop} {s : Shared} {env : Env} {h₀ : Heap} {L : Addr}
/-- a while's turn ends: the state goes on, with its ledger -/
def WhileNext (h₀ : Heap) (L : Addr) (s : Shared) (led : List (Addr × Obj)) (J : Nat → (Str → Option Value) → Prop) (n : Nat) (s₃ : Shared) : Prop :=
  ∃ h' tk m₂ n', s₃ = { s with heap := h', toks := tk } ∧ Fr h₀ L h' m₂ ∧ News h₀ L h' led ∧ n' < n ∧ J n' m₂
theorem WhileNext.mk {h₀ h' : Heap} {L : Addr} {s : Shared} {led : List (Addr × Obj)} {J : Nat → (Str → Option Value) → Prop} {n n' tk : Nat} {m₂ : Str → Option Value} (F : Fr h₀ L h' m₂) (N : News h₀ L h' led) (hn : n' < n) (hJ : J n' m₂) :
    WhileNext h₀ L s led J n { s with heap := h', toks := tk } := ⟨h', tk, m₂, n', rfl, F, N, hn, hJ⟩
theorem While_led {test : Expr} {body : List Stmt} {pos : Pos} {m : Str → Option Value} {led : List (Addr × Obj)} (J : Nat → (Str → Option Value) → Prop) {n₀ : Nat} (F : Fr h₀ L s.heap m) (N : News h₀ L s.heap led) (hJ : J n₀ m)
    (turn : ∀ n m₁ h₁ tk₁, Fr h₀ L h₁ m₁ → News h₀ L h₁ led → J n m₁ →
      wpAny (model prog w) A (isTrue test env (eval test env)) (fun b s₂ =>
        if b = true then wpAny (model prog w) A (execs body env) (fun f s₃ => match f with
          | .next | .cont => WhileNext h₀ L s led J n s₃
          | .brk => Q .next s₃
          | .ret v => Q (.ret v) s₃) E s₂ else Q .next s₂) E { s with heap := h₁, toks := tk₁ })
    (hE : PassesOwn (model prog w) A env E := by passes_own) :
    wpAny (model prog w) A (exec (.While test body [] pos) env) Q E s := by
  refine wpAny_While (codeAny_whileLoop (fun n s' => ∃ h₁ tk₁ m₁, s' = { s with heap := h₁, toks := tk₁ } ∧ Fr h₀ L h₁ m₁ ∧ News h₀ L h₁ led ∧ J n m₁) ?_ n₀ ⟨s.heap, s.toks, m, rfl, F, N, hJ⟩)
  rintro n s' ⟨h₁, tk₁, m₁, rfl, F₁, N₁, J₁⟩
  refine wpAny_mono (turn n m₁ h₁ tk₁ F₁ N₁ J₁) (fun b s₂ h₂ => ?_) hE
  cases b with
  | false =>
    simp only [Bool.false_eq_true, if_false] at h₂ ⊢
    exact wpAny_execs_nil h₂
  | true =>
    simp only [if_true] at h₂ ⊢
    refine wpAny_mono h₂ (fun f s₃ h₃ => ?_) hE
    cases f with
    | next => obtain ⟨h', tk, m₂, n', rfl, F₂, N₂, hn, J₂⟩ := h₃; exact ⟨n', hn, h', tk, m₂, rfl, F₂, N₂, J₂⟩
    | cont => obtain ⟨h', tk, m₂, n', rfl, F₂, N₂, hn, J₂⟩ := h₃; exact ⟨n', hn, h', tk, m₂, rfl, F₂, N₂, J₂⟩
    | brk => exact h₃
    | ret v => exact h₃
end
theorem has_rn (c : Nat) : (Builtin.Str.occurrences (Str.ofString "\r\n") (S [c]) 0 (Str.ofString "\r\n").length 1).isEmpty = !decide (c = 13 ∨ c = 10) := by
  have e : Str.ofString "\r\n" = S [13, 10] := by kernel_rfl!
  rw [e]
  have := empty_one (S [13, 10]) c
  rw [show (S [c] : Str) = ⟨#[c]⟩ from rfl, this]
  simp
theorem slice_over {x : Str} {i j : Int} (h : (x.length : Int) ≤ j) : Txt.slice x (some i) (some j) = Txt.slice x (some i) (some (x.length : Int)) := by
  have e : Builtin.Str.strSliceIndices (some i) (some j) 1 x.length = Builtin.Str.strSliceIndices (some i) (some (x.length : Int)) 1 x.length := by
    unfold Builtin.Str.strSliceIndices
    simp only [show (1 : Int) > 0 by decide, if_true]
    congr 1
    split <;> split <;> omega
  unfold Txt.slice
  rw [e]
theorem slice_T {l : List Nat} {i j : Nat} (h1 : i ≤ l.length) (h2 : i ≤ j) : Txt.slice (S l) (some (i : Int)) (some (j : Int)) = S ((l.drop i).take (j - i)) := by
  by_cases h : j ≤ l.length
  · exact slice_S h2 h
  · rw [slice_over (by rw [S_len]; omega), S_len, slice_S h1 (Nat.le_refl _)]
    congr 1
    rw [List.take_of_length_le (by rw [List.length_drop]; omega), List.take_of_length_le (by rw [List.length_drop]; omega)]
theorem slice_2 {l : List Nat} {p : Nat} (h : p ≤ l.length) : Txt.slice (S l) (some (p : Int)) (some ((p : Int) + 2)) = S ((l.drop p).take 2) := by
  have := slice_T (j := p + 2) h (by omega)
  rw [show p + 2 - p = 2 by omega] at this
  exact this
theorem slice_1 {l : List Nat} {p : Nat} (h : p ≤ l.length) : Txt.slice (S l) (some (p : Int)) (some ((p : Int) + 1)) = S ((l.drop p).take 1) := by
  have := slice_T (j := p + 1) h (by omega)
  rw [show p + 1 - p = 1 by omega] at this
  exact this
theorem item_S {l : List Nat} {k : Nat} (h : k < l.length) : Txt.item (S l) (k : Int) = S [l.getD k 0] := by
  refine item_meets (by omega) ?_
  show l.toArray[(k : Int).toNat]? = _
  simp [h]
theorem dot_mul (n : Nat) : Txt.mul (Str.ofString ".") (n : Int) = S (List.replicate n 46) := by
  have e : Str.ofString "." = S [46] := by kernel_rfl!
  rw [e]
  unfold Txt.mul
  by_cases h1 : (n : Int) < 1
  · have : n = 0 := by omega
    subst this; rfl
  · rw [if_neg h1]
    by_cases h2 : n = 1
    · subst h2; rfl
    · have h3 : (((n : Int) == 1) || (S [46]).length == 0) = false := by
        have : ((n : Int) == 1) = false := by simp; omega
        rw [this]; rfl
      rw [h3, if_neg (by decide)]
      have g : ∀ (k : Nat) (a : Array Nat), ((List.replicate k (S [46]).cps).foldl (· ++ ·) a).toList = a.toList ++ List.replicate k 46 := by
        intro k
        induction k with
        | zero => intro a; simp
        | succ k ih => intro a; rw [List.replicate_succ, List.foldl_cons, ih, List.replicate_succ]; simp
      have := g n #[]
      show (⟨_⟩ : Str) = ⟨_⟩
      congr 1
      apply Array.ext'
      simpa using this
theorem take2_drop {l : List Nat} {p a b : Nat} (h : (l.drop p).take 2 = [a, b]) : l.drop p = a :: b :: l.drop (p + 2) ∧ p + 2 ≤ l.length := by
  have e := List.take_append_drop 2 (l.drop p)
  rw [h, List.drop_drop] at e
  refine ⟨e.symm, ?_⟩
  have := congrArg List.length h
  rw [List.length_take, List.length_drop] at this
  simp at this; omega
theorem tell_one_end (hs : List Nat) (n c : Nat) (l : List Nat) (hE : c = 13 ∨ c = 10) (h2 : (c :: l).take 2 ≠ [13, 10]) : tell hs n (c :: l) = (endw hs [c]).1 ++ tell hs (endw hs [c]).2 l := by
  rcases hE with rfl | rfl
  · refine tell_r hs n l fun h => h2 ?_
    cases l with
    | nil => simp at h
    | cons d r => simp at h; subst h; rfl
  · exact tell_n hs n l
theorem ints_any : ∀ {vs : List Value} {ns : List Int}, IntsAre vs ns → ∀ v ∈ vs, ∃ n t, v = .int n t
  | _, _, .nil, _, h => nomatch h
  | _, _, .cons n t r, v, h => by
    rcases List.mem_cons.mp h with rfl | h
    · exact ⟨n, t, rfl⟩
    · exact ints_any r v h
theorem pick_int {vs : List Value} {ns : List Int} (hI : IntsAre vs ns) {lo hi st : Option Int} {j : Nat} {v : Value} (e : (slicePick vs.toArray lo hi st)[j]? = some v) : ∃ n t, v = .int n t := by
  have hm : v ∈ slicePick vs.toArray lo hi st := Array.mem_of_getElem? e
  unfold slicePick at hm
  have hm := List.mem_toArray.mp hm
  obtain ⟨k, _, hk⟩ := List.mem_filterMap.mp hm
  have hv : v ∈ vs := by have := Array.mem_of_getElem? hk; simpa using this
  exact ints_any hI v hv
def ModF (v y : Value) : Prop := ∃ (n : Int) (t t' : Tok), v = .int n t ∧ y = .int (n.fmod 1000000) t'
theorem mod_ints : ∀ {vs ys : List Value}, Paired ModF vs ys → ∃ ms, IntsAre ys ms ∧ ms.length = vs.length ∧ ∀ m ∈ ms, 0 ≤ m ∧ m < 1000000
  | _, _, .nil => ⟨[], .nil, rfl, by simp⟩
  | _, _, .cons ⟨n, t, t', e1, e2⟩ r => by
    subst e1; subst e2
    obtain ⟨ms, h1, h2, h3⟩ := mod_ints r
    refine ⟨n.fmod 1000000 :: ms, .cons _ _ h1, by simp [h2], fun m hm => ?_⟩
    rcases List.mem_cons.mp hm with rfl | hm
    · exact ⟨Int.fmod_nonneg_of_pos n (by decide), Int.fmod_lt_of_pos n (by decide)⟩
    · exact h3 m hm
theorem mod_nat (z : Int) : ∃ x : Nat, z.fmod 1000000 = (x : Int) ∧ x < 1000000 := by
  have h0 := Int.fmod_nonneg_of_pos z (show (0 : Int) < 1000000 by decide)
  have h1 := Int.fmod_lt_of_pos z (show (0 : Int) < 1000000 by decide)
  exact ⟨(z.fmod 1000000).toNat, by omega, by omega⟩
theorem up_list {h₀ h : Heap} {L a : Addr} {m : Str → Option Value} {vs : Array Value} (F : Fr h₀ L h m) (hl : h₀.IsList a vs) : h.IsList a vs := hl.at fun _ e => F.keep _ _ e
end Mine
end

section
open PySem PySem.W PyProof.Rows PySem.Calls PyProof.V PySem.Spec
set_option maxRecDepth 100000
set_option maxHeartbeats 4000000
namespace Mine
local macro_rules | `(tactic| k_steps) => `(tactic| repeat' (first | ((fail_if_success (with_reducible show wpAny _ _ (exec (Stmt.While _ _ _ _) _) _ _ _)); (fail_if_success (with_reducible show wpAny _ _ (exec (Stmt.For _ _ _ _ _) _) _ _ _)); (fail_if_success (with_reducible show wpAny _ _ (eval (Expr.ListComp _ _ _ _) _) _ _ _)); (fail_if_success (with_reducible show wpAny _ _ (exec (Stmt.Assign _ (Expr.ListComp _ _ _ _) _) _) _ _ _)); (fail_if_success (with_reducible show Exists _)); first | (k_unfold; (try dsimp only)) | (k_end; wrow_close) | walk1 | (dsimp only; walk1) | (leave1; walk_say "STEP leave1"; try dsimp only) | fail "no step")))
local macro_rules | `(tactic| walk_at "eval Name") => `(tactic| ((with_reducible show wpAny _ _ (eval (Expr.Name _ _) (compEnvC _ _ _ _)) _ _ _); k_dflt (first
  | refine ldVarK (Fr.ns (by assumption)) (by assumption) ?_
  | refine cp_global (by assumption) (by assumption) (by assumption) (by k_is) ?_
  | refine cp_built (by assumption) (by assumption) (by assumption) (by k_is) (by boot_by_name) (by decide) ?_)))
local macro_rules | `(tactic| walk_at "eval Name") => `(tactic| (k_dflt (refine ld (by assumption) (by assumption) ?_)))
local macro_rules | `(tactic| walk_at "eval Name") => `(tactic| ((with_reducible show wpAny _ _ (eval (Expr.Name _ _) (envOfC _ _ _ _ _)) _ _ _); k_dflt (refine nameX_C (by assumption) rfl (by assumption) (by assumption) ?_)))
local macro_rules | `(tactic| walk_at "eval Name") => `(tactic| ((with_reducible show wpAny _ _ (eval (Expr.Name _ _) (envOfC _ _ _ _ _)) _ _ _); k_dflt (refine nameX_L (by assumption) (by assumption) ?_)))
local macro_rules | `(tactic| walk_at "subscriptTail Name Name ref int") => `(tactic| (k_dflt (first | refine item_list (by assumption) (by omega) (by omega) (by assumption) ?_ | refine item_list (up_list (by assumption) (by assumption)) (by omega) (by omega) (by assumption) ?_)))
local macro_rules | `(tactic| walk_at "compareOp In str ref") => `(tactic| (k_dflt (refine in_names (by assumption) (by assumption) ?_)))
local macro_rules | `(tactic| walk_at "compareOp NotIn str ref") => `(tactic| (k_dflt (refine notin_names (by assumption) (by assumption) ?_)))
local macro_rules | `(tactic| walk_at "eval Name") => `(tactic| ((with_reducible show wpAny _ _ (eval (Expr.Name _ _) (compEnvC _ _ _ _)) _ _ _); k_dflt (refine cp_cell rfl (by assumption) ?_)))
local macro_rules | `(tactic| walk_at "loadName") => `(tactic| (k_dflt (refine wpAny_loadName_local rfl rfl (Fr.ns (by assumption)) (by assumption) ?_)))
theorem namesAt_of {w : World} {h : Heap} {D : Addr} {hs : List Nat} {items : Array Value} {k : Nat} (h1 : h.get? D = some { cls := .type "list", data := .seq items k }) (h2 : TabsOf w h hs items) : NamesAt w h D hs := ⟨items, k, h1, h2⟩
theorem e1310 : Str.ofString "\r\n" = S [13, 10] := by kernel_rfl!
def EndM (H : Addr) (b wr : List Nat) (n : Nat) (m : Str → Option Value) : Prop :=
  m (Str.ofString "hands") = some (.ref H) ∧ (∃ t, m (Str.ofString "bare") = some (.str (S b) t)) ∧ (∃ t, m (Str.ofString "written") = some (.str (S wr) t)) ∧ ∃ t, m (Str.ofString "dots") = some (.int (n : Int) t)
def EndJ (hs l : List Nat) (H : Addr) (i : Nat) (m : Str → Option Value) : Prop := ∃ b wr n, endw hs l = (wr ++ (endw (hs.drop i) b).1, n + (endw (hs.drop i) b).2) ∧ b.length ≤ 2 ∧ wr.length ≤ 100 * i ∧ n ≤ i ∧ EndM H b wr n m
def EndP (s₀ : Shared) (h₀ : Heap) (L : Addr) (led : List (Addr × Obj)) (H : Addr) (b wr : List Nat) (n : Nat) (s' : Shared) : Prop :=
  ∃ h' tk m', s' = { s₀ with heap := h', toks := tk } ∧ Fr h₀ L h' m' ∧ News h₀ L h' led ∧ EndM H b wr n m'
theorem EndP.mk {s₀ : Shared} {h₀ h' : Heap} {L H : Addr} {led : List (Addr × Obj)} {b wr : List Nat} {n tk : Nat} {m' : Str → Option Value} (F : Fr h₀ L h' m') (N : News h₀ L h' led) (M : EndM H b wr n m') :
    EndP s₀ h₀ L led H b wr n { s₀ with heap := h', toks := tk } := ⟨h', tk, m', rfl, F, N, M⟩
def HandsAt (h : Heap) (D : Addr) (hs : List Nat) : Prop := ∃ items k, h.get? D = some { cls := .type "list", data := .seq items k } ∧ Paired (fun (hnd : Nat) v => ∃ t, v = Value.int (hnd : Int) t) hs items.toList
theorem enterC {prog : Program} {w : World} {A : Around} {s : Shared} {K : Frag} {p : Program} {loose : List Str} {mg mb : Str → Option Value} {f : Addr} {oc : Value} {od : Option Addr} {osl : Array (Option Value)}
    {name : Str} {params : Arguments} {body : List Stmt} {scope : Scope} {pm cd doc : Value} {vs : List Value} {binds : List (Str × Value)} {Q E : Value → Shared → Prop}
    (X : K.In s.heap) (T : TopRead p loose mg mb s.heap)
    (ho : K.lookup f = some ⟨oc, od, .func (docDef name params body scope pm cd doc), osl⟩) (hcd : codeIn K cd name = true)
    (hroom : A.depth < recursionLimit)
    (hbind : bindArgs (docDef name params body scope pm cd doc) ⟨vs, []⟩ = pure binds)
    (hkind : ∀ n, ∀ x ∈ binds, scope.names.lookup x.1 = some .local ∨ (scope.names.lookup x.1 = some .cell ∧ ((cellsFrom n scope.names []).lookup x.1).isSome = true))
    (hnd : ((cellsFrom 0 scope.names []).map (·.1)).Nodup)
    (hco : scope.isCoroutine = false) (hgen : scope.isGenerator = false) (hk : scope.kind = .function)
    (h : ∀ L h₁ tk cells, Fr s.heap L h₁ (bindL (envOfC name scope L f cd).kindOf binds fun _ => none) → News s.heap L h₁ cells →
      CellsAre (bindC (envOfC name scope L f cd).kindOf binds fun _ => none) (cellsFrom (L + 1) scope.names []) cells →
      wpAny (model prog w) (A.deeper (envOfC name scope L f cd)) (execs body (envOfC name scope L f cd))
        (fun fl s' => Q (match fl with | .ret v => v | _ => .none) s')
        (fun e s' => wpAny (model prog w) (A.deeper (envOfC name scope L f cd)) (leaving (envOfC name scope L f cd) e)
          (fun _ s'' => E e s'') (fun e' s'' => E e' s'') s')
        { s with heap := h₁, toks := tk }) :
    wpAny (model prog w) A (call (.ref f) vs) Q E s := by
  refine wpAny_call (codeAny_call_cells hroom (X _ _ ho) rfl T.nolimit (codeRec_of X hcd) rfl hbind rfl (hkind _) (fun s₁ x => ?_) hco hgen hk)
  obtain ⟨h₁, tk, rfl, _⟩ := x.done
  obtain ⟨cells, NC, Y⟩ := Cl.news (h₀ := s.heap) (Nat.le_refl _) fun n c hm => ⟨x.cell n c (lookup_of_mem_nodup (cellsFrom_names scope.names 0 (s.heap.objs.size + 1) [] [] rfl ▸ hnd) hm), x.above n c hm⟩
  exact h s.heap.objs.size h₁ tk cells ⟨x.toInCall.ns, x.toInCall.keep, Nat.le_refl _⟩ NC Y
section
variable {w : World} {mg mb : Str → Option Value} {dp un : Nat} {fr : Option (List Env)} {gd : Option (List Code)} {s : Shared} {Q E : Value → Shared → Prop} (hs l : List Nat) (H D : Addr) (t0 : Tok)
theorem c_end (X : (hd.heap_39 w.params).In s.heap) (T : TopRead hd.view_39 LS mg mb s.heap) (hd : dp + 30 < 1000) (_hu : un + 200 < 9900) (hz : hs.length ≤ 6) (hzl : l.length ≤ 2) (hH : HandsAt s.heap H hs) (hN : NamesAt w s.heap D hs)
    (hQ : ∀ a t t' h' tk', Ups s.heap h' → IsTup h' a #[.str (S (endw hs l).1) t, .int ((endw hs l).2 : Int) t'] → Q (.ref a) { s with heap := h', toks := tk' }) :
    wpAny (model PySem.Challenge.rw_wn0067_01.row.prog w) (AT dp un fr gd) (call (.ref 177) [.str (S l) t0, .ref H, .ref D]) Q E s := by
  have X0 := X
  revert X; k_fill; intro X
  w_on
  refine enterC (binds := [(Str.ofString "end", .str (S l) t0), (Str.ofString "hands", .ref H), (Str.ofString "names", .ref D)]) X T (by k_is) (by k_is) (by show dp < recursionLimit; unfold recursionLimit; omega) rfl (by intro n; simp only [List.forall_mem_cons]; exact ⟨.inl rfl, .inl rfl, .inr ⟨rfl, rfl⟩, fun _ h => nomatch h⟩) (by decide +kernel) rfl rfl rfl ?_
  intro L h₁ tk cells F N Y
  obtain ⟨items, kD, hD, hT⟩ := hN
  obtain ⟨hitems, kH, hH, hHs⟩ := hH
  have hsz := hT.size
  have hszH : hitems.size = hs.length := by have := Paired.length hHs; simpa using this.symm
  have hl : s.heap.IsList D items := ⟨_, hD, rfl, _, rfl⟩
  have hlH : s.heap.IsList H hitems := ⟨_, hH, rfl, _, rfl⟩
  k_cells Y
  rename_i o1 o2 e1 e2
  have e1' : o1.data = .cell none := e1
  have e2' : o2.data = .cell (some (.ref D)) := e2
  clear e1 e2
  k_steps
  refine For_startC s.heap rfl rfl rfl ?_
  k_steps
  rename IsRange _ _ _ _ _ _ _ _ => hR
  rename Fr _ _ _ _ => F₁
  rename News _ _ _ _ => N₁
  refine ⟨[], hitems.size, _, _, o1, none, [(L + 1, o2)], EndJ hs l H, Src.range rfl hR (by omega), by simp, by simp, F₁, N₁, by simp, e1', ⟨l, [], 0, by simp, hzl, Nat.zero_le _, Nat.zero_le _, rfl, ⟨_, rfl⟩, ⟨_, rfl⟩, ⟨_, rfl⟩⟩, ?_, ?_⟩
  · rintro i v m₁ h₂ tk₂ led oc' hi ⟨u, rfl⟩ ⟨b, wr, n, hE, hb2, hw2, hn2, hM⟩ hoc hsub F₂ N₂
    rw [hszH] at hi
    have F₂ : Fr s.heap L h₂ m₁ := F₂
    have N₂ : News s.heap L h₂ ((L + 1 + 1, oc') :: led) := N₂
    dsimp only
    have hci : hs[i]? = some hs[i] := by simp [hi]
    obtain ⟨d, hdi, hTd⟩ := hT.get hci
    obtain ⟨vh, hvh, th, rfl⟩ := Paired.get hHs hci
    have hk1 : (L + 1, o2) ∈ (L + 1 + 1, oc') :: led := .tail _ (hsub _ (.head _))
    have hk2 : (L + 1 + 1, oc') ∈ (L + 1 + 1, oc') :: led := .head _
    have hth2 : hitems[(i : Int).toNat]? = some (.int (hs[i] : Int) th) := by simpa using hvh
    have hit2 : items[(i : Int).toNat]? = some (.ref d) := by simpa using hdi
    clear F₁ N₁ hR
    refine cut1 (EndP s s.heap L ((L + 1 + 1, oc') :: led) H (bareF hs[i] b) wr n) ?_ ?_
    · rintro s₁ ⟨h₃, tk₃, m₃, rfl, F₃, N₃, hM₃⟩
      have hb1 : (bareF hs[i] b).length ≤ 2 := bareF_len hb2
      clear F₂ N₂ hM
      refine cut1 (EndP s s.heap L ((L + 1 + 1, oc') :: led) H (bareF hs[i] b) wr (n + if (bareF hs[i] b).getLast? = some 10 ∧ isD hs[i] = true then 1 else 0)) ?_ ?_
      · rintro s₁ ⟨h₄, tk₄, m₄, rfl, F₄, N₄, hM₄⟩
        clear F₃ N₃ hM₃
        generalize hB : bareF hs[i] b = B at *
        generalize hn' : (n + if B.getLast? = some 10 ∧ isD hs[i] = true then 1 else 0) = n' at *
        have hn3 : n' ≤ i + 1 := by rw [← hn']; split <;> omega
        refine cut1 (EndP s s.heap L ((L + 1 + 1, oc') :: led) H B (wr ++ (B.filter fun c => (nm hs[i] c).isSome).flatMap (way (hs.drop i))) n') ?_ ?_
        · rintro s₁ ⟨h₅, tk₅, m₅, rfl, F₅, N₅, hM₅⟩
          clear F₄ N₄ hM₄
          obtain ⟨m1, ⟨t1, m2⟩, ⟨t2, m3⟩, ⟨t3, m4⟩⟩ := hM₅
          k_steps
          refine Comp_start (cl := [(Str.ofString "place", L + 1 + 1), (Str.ofString "names", L + 1)]) (by with_unfolding_all rfl) (by decide) rfl (by decide) rfl ?_
          k_steps
          have hl5 := up_list F₅ hl
          have hTd5 := hTd.keep F₅.keep
          refine ⟨[], _, _, signIs hs[i], SignF, Src.str rfl, by rw [sizeLine_eq]; omega, ?_, ?_, ?_⟩
          · rintro C j v s₃ m₃ E' F₆ ⟨c, u', hc, rfl⟩ hm ht
            refine wpAny_tests_one ?_
            have F₆ : Fr h₅ C s₃.heap m₃ := F₆
            have N₆ := nilOf F₆
            have hc1 : s₃.heap.IsCell (L + 1) (some (.ref D)) := ⟨o2, F₆.keep _ _ (N₅ _ hk1).1, e2'⟩
            have hc2 : s₃.heap.IsCell (L + 1 + 1) (some (.int (i : Int) u)) := ⟨oc', F₆.keep _ _ (N₅ _ hk2).1, hoc⟩
            have hTd6 := hTd5.keep F₆.keep
            have hsig := signIs_str hs[i] c u'
            generalize hbb : (nm hs[i] c).isNone = bb at hsig
            rw [hsig]
            clear F₅ N₅
            k_steps
            exact Keeps.of fun _ _ e => e
          · rintro C j v s₃ m₃ E' F₆ ⟨c, u', hc, rfl⟩ hp hm ht
            have F₆ : Fr h₅ C s₃.heap m₃ := F₆
            have N₆ := nilOf F₆
            clear F₅ N₅
            k_steps
            · exact ⟨c, u', u', rfl, rfl⟩
            · exact Keeps.rfl' _
          · intro D' k' h' tk' ys vs hD' hk' hlen hP hF hu
            have hJ := sign_read hlen hP hF
            obtain ⟨F₆, N₆⟩ := news_new F₅ N₅ hu hD' hk'
            have hlist : h'.IsList D' ys := ⟨_, hk', rfl, _, rfl⟩
            have hBl : (B.filter fun c => (nm hs[i] c).isNone).length ≤ 2 := Nat.le_trans (List.length_filter_le _ _) hb1
            clear F₅ N₅
            k_steps
            refine wp_joinS (by kernel_rfl!) hlist hJ (by rw [sing_flat, sizeLine_eq]; omega) fun t' tk' => ?_
            rw [sing_flat]
            k_steps
            rename Fr _ _ _ _ => F₇
            rename News _ _ _ _ => N₇
            have hfl := flat_len2 (hs := hs.drop i) (l := B.filter fun c => (nm hs[i] c).isSome) (by rw [List.length_drop]; omega) (Nat.le_trans (List.length_filter_le _ _) hb1)
            refine TurnNext.mk F₇ (News.drop1 N₇) ⟨_, _, _, endw_step hi hE hB hn', hBl, by rw [List.length_append]; omega, hn3, m1, ⟨_, rfl⟩, ⟨_, m3⟩, ⟨_, m4⟩⟩
        · have hM5 := hM₄
          obtain ⟨m1, ⟨t1, m2⟩, ⟨t2, m3⟩, ⟨t3, m4⟩⟩ := hM₄
          refine For_start s.heap rfl rfl ?_
          k_steps
          refine LoopGo.str rfl F₄ N₄ (fun j m => EndM H B (wr ++ ((B.take j).filter fun c => (nm hs[i] c).isSome).flatMap (way (hs.drop i))) n' m) (by simpa using hM5) ?_ ?_
          · rintro j c v m₅ h₅ tk₅ led' hj hcj ⟨m1, ⟨t1, m2⟩, ⟨t2, m3⟩, ⟨t3, m4⟩⟩ hsub' F₅ N₅
            clear F₄ N₄ hM5
            have F₅ : Fr s.heap L h₅ (fun y => if y = Str.ofString "sign" then some (Value.str (S [c]) v) else m₅ y) := F₅
            have N₅ : News s.heap L h₅ led' := N₅
            have hk3 := hsub' _ hk1
            have hk4 := hsub' _ hk2
            have hTd5 := hTd.keep F₅.keep
            have htk : B.take (j + 1) = B.take j ++ [c] := by rw [List.take_add_one, hcj]; simp [hj]
            dsimp only
            cases hnm : nm hs[i] c with
            | none =>
              have hb : (nm hs[i] c).isSome = false := by rw [hnm]; rfl
              k_steps
              refine TurnNext.mk F₅ N₅ ?_
              rw [htk, none_step _ _ hnm]
              exact ⟨m1, ⟨_, m2⟩, ⟨_, m3⟩, ⟨_, m4⟩⟩
            | some nn =>
              have hb : (nm hs[i] c).isSome = true := by rw [hnm]; rfl
              k_steps
              rename Fr _ _ _ _ => F₆
              rename News _ _ _ _ => N₆
              have hN6 := namesAt_of (N₆ _ (.head _)).1 ((slice_names0 (i := i) hT).keep F₆.keep)
              refine c_way (hs.drop i) c _ _ (X0.keeps F₆.keep) (T.keeps F₆.keep) (by show dp + 1 + 20 < 1000; omega) (by show un + 3 + 100 < 9900; omega) (by simp; omega) hN6 fun t h' tk' hu' => ?_
              have F₇ : Fr s.heap L h' _ := ⟨F₆.ns.keeps hu', Ups.trans F₆.keep hu', F₆.above⟩
              have N₇ : News s.heap L h' led' := fun q hq => ⟨hu' _ _ (N₆ q (.tail _ hq)).1, (N₆ q (.tail _ hq)).2⟩
              clear F₆ N₆ F₅ N₅
              have hwl := way_len (hs.drop i) c
              have hdl : (hs.drop i).length = hs.length - i := List.length_drop
              have hS1 := S_len (wr ++ ((B.take j).filter fun c => (nm hs[i] c).isSome).flatMap (way (hs.drop i)))
              have hS2 := S_len (way (hs.drop i) c)
              have hS3 : (wr ++ ((B.take j).filter fun c => (nm hs[i] c).isSome).flatMap (way (hs.drop i))).length ≤ 700 := by
                rw [List.length_append]
                have := flat_len2 (hs := hs.drop i) (l := (B.take j).filter fun c => (nm hs[i] c).isSome) (by omega) (Nat.le_trans (List.length_filter_le _ _) (by rw [List.length_take]; omega))
                omega
              k_steps
              rename Fr _ _ _ _ => F₈
              rename News _ _ _ _ => N₈
              rw [S_app] at F₈
              refine TurnNext.mk F₈ N₈ ?_
              rw [htk, some_step _ _ hnm]
              exact ⟨m1, ⟨_, m2⟩, ⟨_, rfl⟩, ⟨_, m4⟩⟩
          · rintro h' tkd md Fd Nd hJd
            rw [List.take_length] at hJd
            exact ⟨rfl, EndP.mk Fd Nd hJd⟩
      · obtain ⟨m1, ⟨t1, m2⟩, ⟨t2, m3⟩, ⟨t3, m4⟩⟩ := hM₃
        have hls := last_slice hb1
        have hSb := S_len (bareF hs[i] b)
        k_steps
        · rename (List.any _ _ = true) => ha
          rename ((Txt.slice (S (bareF hs[i] b)) (some (-1)) none == Str.ofString "\n") = true) => hb
          rename Fr _ _ _ _ => Fz
          rename News _ _ _ _ => Nz
          rw [any_D] at ha
          rw [hls] at hb
          rw [if_pos ⟨by simpa using hb, ha⟩]
          rw [show (n : Int) + 1 = ((n + 1 : Nat) : Int) from by omega] at Fz
          exact EndP.mk Fz (News.drop1 Nz) ⟨m1, ⟨_, m2⟩, ⟨_, m3⟩, ⟨_, rfl⟩⟩
        · rename (List.any _ _ = false) => ha
          rename Fr _ _ _ _ => Fz
          rename News _ _ _ _ => Nz
          rw [any_D] at ha
          rw [if_neg (by rw [ha]; simp)]
          exact EndP.mk Fz (News.drop1 Nz) ⟨m1, ⟨_, m2⟩, ⟨_, m3⟩, ⟨_, m4⟩⟩
        · rename ((Txt.slice (S (bareF hs[i] b)) (some (-1)) none == Str.ofString "\n") = false) => hb
          rename Fr _ _ _ _ => Fz
          rename News _ _ _ _ => Nz
          rw [hls] at hb
          rw [if_neg (fun h => absurd h.1 (by simpa using hb))]
          exact EndP.mk Fz Nz ⟨m1, ⟨_, m2⟩, ⟨_, m3⟩, ⟨_, m4⟩⟩
    · obtain ⟨m1, ⟨t1, m2⟩, ⟨t2, m3⟩, ⟨t3, m4⟩⟩ := hM
      k_steps
      · rename (List.any _ _ = true) => ha
        rename ((S b != _) = true) => hb
        rename Fr _ _ _ _ => Fz
        rename News _ _ _ _ => Nz
        rw [any_F] at ha
        rw [ne_empty] at hb
        have e : bareF hs[i] b = [13, 10] := if_pos ⟨by simpa using hb, ha⟩
        rw [e]
        rw [e1310] at Fz
        exact EndP.mk Fz (News.drop1 Nz) ⟨m1, ⟨_, rfl⟩, ⟨_, m3⟩, ⟨_, m4⟩⟩
      · rename (List.any _ _ = false) => ha
        rename Fr _ _ _ _ => Fz
        rename News _ _ _ _ => Nz
        rw [any_F] at ha
        have e : bareF hs[i] b = b := if_neg (by rw [ha]; simp)
        rw [e]
        exact EndP.mk Fz (News.drop1 Nz) ⟨m1, ⟨_, m2⟩, ⟨_, m3⟩, ⟨_, m4⟩⟩
      · rename ((S b != _) = false) => hb
        rw [ne_empty] at hb
        have e : bareF hs[i] b = b := if_neg (fun h => h.1 (by simpa using hb))
        rw [e]
        exact EndP.mk F₂ N₂ ⟨m1, ⟨_, m2⟩, ⟨_, m3⟩, ⟨_, m4⟩⟩
  · rintro h₂ tk₂ m₂ oc' F₂ N₂ ⟨b, wr, n, hE, hb2, hw2, hn2, m1, ⟨t1, m2⟩, ⟨t2, m3⟩, ⟨t3, m4⟩⟩
    have F₂ : Fr s.heap L h₂ m₂ := F₂
    have N₂ : News s.heap L h₂ _ := N₂
    have e : hs.drop hitems.size = [] := List.drop_eq_nil_of_le (by omega)
    rw [e] at hE
    have hE' : endw hs l = (wr ++ b, n) := hE
    have hS1 := S_len wr
    have hS2 := S_len b
    clear F₁ N₁
    k_steps
    rename Fr _ _ _ _ => F₃
    rename News _ _ _ _ => N₃
    have n0 := (N₃ _ (.head _)).1
    rw [S_app] at n0
    rw [hE'] at hQ
    exact hQ _ _ _ _ _ F₃.keep ⟨_, n0, rfl, _, rfl⟩
end
end Mine
end

section
open PySem PySem.W PyProof.Rows PySem.Calls PyProof.V PySem.Spec
set_option maxRecDepth 100000
set_option maxHeartbeats 4000000
namespace Mine
local macro_rules | `(tactic| walk_at "pad") => `(tactic| fail)
local macro_rules | `(tactic| walk_at "pad") => `(tactic| fail)
local macro_rules | `(tactic| walk_at "pad") => `(tactic| fail)
local macro_rules | `(tactic| walk_at "pad") => `(tactic| fail)
local macro_rules | `(tactic| walk_at "pad") => `(tactic| fail)
local macro_rules | `(tactic| walk_at "pad") => `(tactic| fail)
local macro_rules | `(tactic| walk_at "pad") => `(tactic| fail)
local macro_rules | `(tactic| walk_at "pad") => `(tactic| fail)
local macro_rules | `(tactic| walk_at "pad") => `(tactic| fail)
local macro_rules | `(tactic| walk_at "pad") => `(tactic| fail)
local macro_rules | `(tactic| walk_at "pad") => `(tactic| fail)
local macro_rules | `(tactic| walk_at "pad") => `(tactic| fail)
local macro_rules | `(tactic| walk_at "pad") => `(tactic| fail)
local macro_rules | `(tactic| walk_at "pad") => `(tactic| fail)
local macro_rules | `(tactic| walk_at "pad") => `(tactic| fail)
local macro_rules | `(tactic| walk_at "pad") => `(tactic| fail)
local macro_rules | `(tactic| walk_at "pad") => `(tactic| fail)
local macro_rules | `(tactic| walk_at "pad") => `(tactic| fail)
local macro_rules | `(tactic| walk_at "pad") => `(tactic| fail)
local macro_rules | `(tactic| walk_at "pad") => `(tactic| fail)
local macro_rules | `(tactic| k_steps) => `(tactic| repeat' (first | ((fail_if_success (with_reducible show wpAny _ _ (exec (Stmt.While _ _ _ _) _) _ _ _)); (fail_if_success (with_reducible show wpAny _ _ (exec (Stmt.For _ _ _ _ _) _) _ _ _)); (fail_if_success (with_reducible show wpAny _ _ (eval (Expr.ListComp _ _ _ _) _) _ _ _)); (fail_if_success (with_reducible show wpAny _ _ (exec (Stmt.Assign _ (Expr.ListComp _ _ _ _) _) _) _ _ _)); (fail_if_success (with_reducible show Exists _)); (fail_if_success (with_reducible show wpAny _ _ (call (Value.builtin "min") _) _ _ _)); first | (k_unfold; (try dsimp only)) | (k_end; wrow_close) | walk1 | (dsimp only; walk1) | (leave1; walk_say "STEP leave1"; try dsimp only) | fail "no step")))
local macro_rules | `(tactic| walk_at "eval Name") => `(tactic| ((with_reducible show wpAny _ _ (eval (Expr.Name _ _) (compEnvC _ _ _ _)) _ _ _); k_dflt (first
  | refine ldVarK (Fr.ns (by assumption)) (by assumption) ?_
  | refine cp_global (by assumption) (by assumption) (by assumption) (by k_is) ?_
  | refine cp_built (by assumption) (by assumption) (by assumption) (by k_is) (by boot_by_name) (by decide) ?_)))
local macro_rules | `(tactic| walk_at "eval Name") => `(tactic| (k_dflt (refine ld (by assumption) (by assumption) ?_)))
local macro_rules | `(tactic| walk_at "eval Name") => `(tactic| ((with_reducible show wpAny _ _ (eval (Expr.Name _ _) (envOfC _ _ _ _ _)) _ _ _); k_dflt (first | refine nameX_C (by assumption) rfl (by assumption) (by assumption) ?_ | refine nameX_C (by assumption) rfl (by k_mem) (by assumption) ?_)))
local macro_rules | `(tactic| walk_at "eval Name") => `(tactic| ((with_reducible show wpAny _ _ (eval (Expr.Name _ _) (envOfC _ _ _ _ _)) _ _ _); k_dflt (refine nameX_L (by assumption) (by assumption) ?_)))
local macro_rules | `(tactic| walk_at "subscriptTail Name Name ref int") => `(tactic| (k_dflt (first | refine item_list (by assumption) (by omega) (by omega) (by assumption) ?_ | refine item_list (up_list (by assumption) (by assumption)) (by omega) (by omega) (by assumption) ?_)))
local macro_rules | `(tactic| walk_at "eval Name") => `(tactic| ((with_reducible show wpAny _ _ (eval (Expr.Name _ _) (compEnvC _ _ _ _)) _ _ _); k_dflt (refine cp_cell rfl (by assumption) ?_)))
local macro_rules | `(tactic| walk_at "loadName") => `(tactic| (k_dflt (refine wpAny_loadName_local rfl rfl (Fr.ns (by assumption)) (by assumption) ?_)))
local macro_rules | `(tactic| walk_at "newTuple") => `(tactic| (k_dflt (refine newTup_up ?_); intro h9 e9 hU9 hT9))
local macro_rules | `(tactic| walk_at "compareOp In int ref") => `(tactic| (k_dflt (refine in_tuple_ints (by assumption) (by first | exact .cons _ _ (.cons _ _ (.cons _ _ .nil)) | exact .cons _ _ (.cons _ _ .nil)) ?_)))
def ToldM (left : List Nat) (D9 ND : Addr) (p dn : Nat) (td : List Nat) (m : Str → Option Value) : Prop :=
  (∃ t, m (Str.ofString "left") = some (.str (S left) t)) ∧ m (Str.ofString "hands") = some (.ref D9) ∧ m (Str.ofString "names") = some (.ref ND) ∧
  (∃ t, m (Str.ofString "place") = some (.int (p : Int) t)) ∧ (∃ t, m (Str.ofString "dots") = some (.int (dn : Int) t)) ∧ ∃ t, m (Str.ofString "told") = some (.str (S td) t)
section
variable {w : World} {mg mb : Str → Option Value} {dp un : Nat} {fr : Option (List Env)} {gd : Option (List Code)} {s : Shared} {Q E : Value → Shared → Prop} (row l : List Nat) (R : Addr) (t0 : Tok)
theorem c_told (X : (hd.heap_39 w.params).In s.heap) (T : TopRead hd.view_39 LS mg mb s.heap) (hd : dp + 40 < 1000) (_hu : un + 300 < 9900) (hz : row.length ≤ 6) (hzl : l.length ≤ 2 ^ 16) (hL : (told l row).length ≤ 2 ^ 16) (hR : HandsAt s.heap R row)
    (hQ : ∀ t h' tk', Ups s.heap h' → Q (.str (S (told l row)) t) { s with heap := h', toks := tk' }) :
    wpAny (model PySem.Challenge.rw_wn0067_01.row.prog w) (AT dp un fr gd) (call (.ref 182) [.str (S l) t0, .ref R]) Q E s := by
  have X0 := X
  revert X; k_fill; intro X
  w_on
  refine enterC (binds := [(Str.ofString "text", .str (S l) t0), (Str.ofString "row", .ref R)]) X T (by k_is) (by k_is) (by show dp < recursionLimit; unfold recursionLimit; omega) rfl (by intro n; simp only [List.forall_mem_cons]; exact ⟨.inl rfl, .inr ⟨rfl, rfl⟩, fun _ h => nomatch h⟩) (by decide +kernel) rfl rfl rfl ?_
  intro L h₁ tk cells F N Y
  obtain ⟨items, kR, hRg, hRs⟩ := hR
  have hsz : items.size = row.length := by have := Paired.length hRs; simpa using this.symm
  have hl : s.heap.IsList R items := ⟨_, hRg, rfl, _, rfl⟩
  k_cells Y
  rename_i o1 e1
  have e1' : o1.data = .cell (some (.ref R)) := e1
  have hk1 : (L + 1, o1) ∈ [(L + 1, o1)] := .head _
  clear e1
  k_steps
  refine Comp_assign (cl := [(Str.ofString "row", L + 1)]) s.heap rfl (by with_unfolding_all rfl) (by decide) rfl (by decide) rfl rfl rfl ?_
  k_steps
  rename IsRange _ _ _ _ _ _ _ _ => hR
  rename Fr _ _ _ _ => F₁
  rename News _ _ _ _ => N₁
  rename Heap => h₂
  refine ⟨_, _, _, onInt (fun k => spellsQ (row.getD k.toNat 0)), EqF, _, _, (Src.range rfl hR (by omega)).lt, by rw [sizeLine_eq]; omega, F₁, N₁, ?_, ?_, ?_⟩
  · rintro C j v s₃ m₃ E' F₃ ⟨hj, u, rfl⟩ hm ht
    refine wpAny_tests_one ?_
    have F₃ : Fr h₂ C s₃.heap m₃ := F₃
    have N₃ := nilOf F₃
    have hl1 := up_list F₁ hl
    have hc1 : s₃.heap.IsCell (L + 1) (some (.ref R)) := ⟨o1, F₃.keep _ _ (N₁ _ hk1).1, e1'⟩
    obtain ⟨v, hv1, t, rfl⟩ := Paired.get hRs (show row[j]? = some row[j] by simp)
    have hit : items[(j : Int).toNat]? = some (.int (row[j] : Int) t) := by simpa using hv1
    clear F₁ N₁
    k_steps
    · rw [any_Q, onInt_int]
      have e : row.getD (j : Int).toNat 0 = row[j] := by
        show row.getD j 0 = _
        rw [List.getD_eq_getElem?_getD, List.getElem?_eq_getElem (by omega)]; rfl
      rw [e]
    · rename_i h9 e9 hU9 hT9
      exact Keeps.of hU9
  · rintro C j v s₃ m₃ E' F₃ ⟨hj, u, rfl⟩ hp hm ht
    have F₃ : Fr h₂ C s₃.heap m₃ := F₃
    have N₃ := nilOf F₃
    clear F₁ N₁
    k_steps
    · exact rfl
    · exact Keeps.rfl' _
  · intro D1 k1 h' tk' ys vs hlen hP hF F₂ N₂
    have F₂ : Fr s.heap L h' _ := F₂
    have N₂ : News s.heap L h' _ := N₂
    have hSP : Ints (spAt row) ys.toList := by
      refine Ints.same (Ints.filter (p := fun i => spellsQ (row.getD i 0)) (ints_range (n := row.length) (by rw [hlen, hsz]) fun j v hj => (hP j v hj).2) fun c => rfl) hF
    have hls : ys.size = (spAt row).length := by have := Paired.length hSP; simpa using this.symm
    have hls2 : (spAt row).length ≤ row.length := by have := List.length_filter_le (fun i => spellsQ (row.getD i 0)) (List.range row.length); rwa [List.length_range] at this
    clear F₁ N₁ hP hF
    k_steps
    rename Fr _ _ _ _ => F₃
    rename News _ _ _ _ => N₃
    have hi1 := ints_of hSP
    refine add_arrays_ints F₃ N₃ ⟨_, (N₃ _ (.tail _ (.head _))).1, rfl, _, rfl⟩ ⟨_, (N₃ _ (.head _)).1, rfl, _, rfl⟩ hi1 (.cons _ _ .nil) (fun h₄ F₄ N₄ hI₄ => ?_) (by rw [sizeLine_eq]; simp; omega)
    clear F₂ N₂ F₃ N₃
    k_steps
    refine kso_min F₄ N₄ ⟨_, (N₄ _ (.head _)).1, rfl, _, rfl⟩ hI₄ (by simp) rfl fun h₅ M t5 tk5 F₅ N₅ hMin hMle => ?_
    rw [hsz] at hMin hMle
    obtain ⟨z, rfl, hzr, hzz⟩ := sp_min hMin hMle
    clear F₄ N₄ hMin hMle
    have hz0 : (0 : Int) ≤ (z : Int) := Int.natCast_nonneg z
    k_steps
    rename Fr _ _ _ _ => F₅
    rename News _ _ _ _ => N₅
    rename Heap => h₅
    have F₅ : Fr s.heap L h₅ _ := F₅
    have hA := (N₅ _ (.head _)).1
    rw [slicePick_upto'] at hA N₅ 
    have hIA : Ints (row.take z) (items.toList.take z) := Paired.take hRs z
    refine Comp_start rfl (by decide) rfl (by decide) rfl ?_
    k_steps
    refine ⟨_, _, _, onInt (fun k => k == 0), EqF, Src.list rfl ⟨_, hA, rfl, _, rfl⟩, by rw [sizeLine_eq]; simp; omega, ?_, ?_, ?_⟩
    · rintro C j v s₃ m₃ E' F₆ hv hm ht
      refine wpAny_tests_one ?_
      have F₆ : Fr h₅ C s₃.heap m₃ := F₆
      have N₆ := nilOf F₆
      obtain ⟨c, t, rfl, _⟩ := Ints.at (row := row.take z) (by simpa using hIA) hv
      clear F₅ N₅
      k_steps
      exact Keeps.of fun _ _ e => e
    · rintro C j v s₃ m₃ E' F₆ hv hp hm ht
      have F₆ : Fr h₅ C s₃.heap m₃ := F₆
      have N₆ := nilOf F₆
      clear F₅ N₅
      k_steps
      · exact rfl
      · exact Keeps.rfl' _
    · intro D6 k6 h₆ tk₆ ys6 vs6 hD6 hk6 hlen6 hP6 hF6 hu6
      have hvs6 : vs6 = items.toList.take z := by have := list_of_places hlen6 hP6; simpa using this
      subst hvs6
      have hI6 : Ints ((row.take z).filter (· == 0)) ys6.toList := Ints.same (Ints.filter hIA fun c => by rw [Bool.eq_iff_iff]; simp) hF6
      obtain ⟨F₆, N₆⟩ := news_new F₅ N₅ hu6 hD6 hk6
      have hzy : ys6.size = zeros row := by rw [hzz, List.countP_eq_length_filter]; have := Paired.length hI6; simpa using this.symm
      have hz6 : zeros row ≤ 6 := by rw [hzz]; have := List.countP_le_length (p := fun x => x == 0) (l := row.take z); rw [List.length_take] at this; omega
      clear F₅ N₅ hF6 hP6
      k_steps
      have e2 : (2 : Int) ^ ((zeros row : Int)).toNat = ((2 ^ zeros row : Nat) : Int) := by simp
      rw [e2]
      have hp1 : 1 ≤ 2 ^ zeros row := Nat.one_le_two_pow
      have hp2 : 2 ^ zeros row ≤ 2 ^ 6 := Nat.pow_le_pow_right (by decide) hz6
      have hd7 := divd_len (2 ^ zeros row) l 0
      refine c_div _ _ _ _ (X0.keeps F₆.keep) (T.keeps F₆.keep) (by show dp + 1 + 20 < 1000; omega) (by show un + 3 + 100 < 9900; omega) (by omega) hp1 hp2 fun t7 h₇ tk₇ hu₇ => ?_
      have F₇ : Fr s.heap L h₇ _ := ⟨F₆.ns.keeps hu₇, Ups.trans F₆.keep hu₇, F₆.above⟩
      have N₇ : News s.heap L h₇ [(L + 1, o1)] := fun q hq => by
        rw [List.mem_singleton.mp hq]
        have := N₆ (L + 1, o1) (by simp)
        exact ⟨hu₇ _ _ this.1, this.2⟩
      generalize hlf : divd (2 ^ zeros row) 0 l = left at *
      clear F₆ N₆ hzy hI6 hp1 hp2 hu6 hk6 hD6 hIA hA
      k_steps
      rename Fr _ _ _ _ => F₈
      rename News _ _ _ _ => N₈
      rename Heap => h₈
      refine Comp_assign s.heap rfl rfl (by decide) rfl (by decide) rfl rfl rfl ?_
      k_steps
      refine ⟨_, _, _, onInt (fun k => k != 0), EqF, _, _, Src.list rfl (up_list F₈ hl), by rw [sizeLine_eq]; omega, F₈, N₈, ?_, ?_, ?_⟩
      · rintro C j v s₃ m₃ E' F₆ hv hm ht
        refine wpAny_tests_one ?_
        have F₆ : Fr h₈ C s₃.heap m₃ := F₆
        have N₆ := nilOf F₆
        obtain ⟨c, t, rfl, _⟩ := Ints.at (row := row) hRs hv
        clear F₈ N₈
        k_steps
        exact Keeps.of fun _ _ e => e
      · rintro C j v s₃ m₃ E' F₆ hv hp hm ht
        have F₆ : Fr h₈ C s₃.heap m₃ := F₆
        have N₆ := nilOf F₆
        clear F₈ N₈
        k_steps
        · exact rfl
        · exact Keeps.rfl' _
      · intro D9 k9 h₉ tk₉ ys9 vs9 hlen9 hP9 hF9 F₉ N₉
        have hvs9 : vs9 = items.toList := list_of_places hlen9 hP9
        subst hvs9
        have hI9 : Ints (hands row) ys9.toList := Ints.same (Ints.filter hRs fun c => by rw [Bool.eq_iff_iff]; simp) hF9
        have hhl : (hands row).length ≤ 6 := Nat.le_trans (List.length_filter_le _ _) hz
        have hzy : ys9.size = (hands row).length := by have := Paired.length hI9; simpa using this.symm
        have F₉ : Fr s.heap L h₉ _ := F₉
        have N₉ : News s.heap L h₉ _ := N₉
        clear F₈ N₈ hF9 hP9
        k_steps
        refine wpAny_mono (Q := fun f s' => f = .next ∧ ∃ h' tk m' led ND kN ys, s' = { s with heap := h', toks := tk } ∧ Fr s.heap L h' m' ∧ News s.heap L h' led ∧ (D9, ({ cls := .type "list", data := .seq ys9 k9 } : Obj)) ∈ led ∧
          (ND, ({ cls := .type "list", data := .seq ys kN } : Obj)) ∈ led ∧ NamesIn w led ys.toList (hands row) ∧ m' (Str.ofString "names") = some (.ref ND) ∧ m' (Str.ofString "hands") = some (.ref D9) ∧ m' (Str.ofString "left") = some (.str (S left) t7)) ?_ (fun f s' hf => ?_) fun _ _ e => e
        · refine LCg.Assign_ListComp_U (F₀ := F₉) rfl rfl rfl (by decide) rfl (by decide) rfl rfl rfl ?_
          k_steps
          refine LCg.CompSrc.ledger rfl F₉ N₉ (.head _) (by rw [sizeLine_eq]; omega) fun g => ?_
          refine rest_ind (fun i ys news => (∀ p ∈ [(D9, ({ cls := .type "list", data := .seq ys9 k9 } : Obj)), (L + 1, o1)], p ∈ news) ∧ LCg.SrcAt s.heap D9 ys9 news ∧ NamesIn w news ys ((hands row).take i)) ⟨fun _ h => h, .inr ⟨_, .head _, rfl, _, rfl⟩, .nil⟩ ?_ ?_
          · rintro i ys news hi ⟨hsub, hSA, hNI⟩ v I oI C oC D' m₂ h tk E' hP hNs hm F N off hne
            obtain ⟨c, tc, rfl, hc⟩ := Ints.at hI9 hP
            clear F₉ N₉
            refine wpAny_mono (Q := fun y s₂ => ∃ d h' tk', y = .ref d ∧ s₂ = { s with heap := h', toks := tk' } ∧ Ups h h' ∧ h.get? d = none ∧ StrTab PySem.Challenge.rw_wn0067_01.row.prog w h' d (namesD c)) ?_ (fun y s₂ hy => ?_) fun _ _ e => e
            · k_steps
              refine c_names c _ (X0.keeps F.keep) (T.keeps F.keep) (by show dp + 1 + 20 < 1000; omega) (by show un + 3 + 100 < 9900; omega) fun d h' tk' hu hfr hTd => ?_
              exact ⟨d, h', tk', rfl, rfl, hu, hfr, hTd⟩
            · obtain ⟨d, h', tk', rfl, rfl, hu, hfr, hTd⟩ := hy
              exact names_end F N off hu hfr hTd hc hsub hSA hNI
          · rintro ys news ⟨hsub, hSA, hNI⟩
            intro Dn hn tkn Fn Nn off
            rw [List.take_of_length_le (by omega)] at hNI
            refine ⟨rfl, hn, tkn, _, _, Dn, _, _, rfl, Fn, Nn, .tail _ (hsub _ (.head _)), .head _, NamesIn.mono hNI fun p hp => .tail _ hp, rfl, rfl, rfl⟩
        · obtain ⟨rfl, h₁₀, tk₁₀, m₁₀, led, ND, kN, ysN, rfl, F₁₀, N₁₀, hd1, hd2, hNI, m1, m2, m3⟩ := hf
          clear F₉ N₉
          k_steps
          refine Comp_start rfl (by decide) rfl (by decide) rfl ?_
          k_steps
          refine ⟨_, _, _, onInt (fun k => [(1 : Int), 8].any fun x => x == k), EqF, Src.list rfl ⟨_, (N₁₀ _ hd1).1, rfl, _, rfl⟩, by rw [sizeLine_eq]; omega, ?_, ?_, ?_⟩
          · rintro C j v s₃ m₃ E' F₆ hv hm ht
            refine wpAny_tests_one ?_
            have F₆ : Fr h₁₀ C s₃.heap m₃ := F₆
            have N₆ := nilOf F₆
            obtain ⟨c, t, rfl, _⟩ := Ints.at hI9 hv
            clear F₁₀ N₁₀
            k_steps
            rename_i h9 e9 hU9 hT9
            exact Keeps.of hU9
          · rintro C j v s₃ m₃ E' F₆ hv hp hm ht
            have F₆ : Fr h₁₀ C s₃.heap m₃ := F₆
            have N₆ := nilOf F₆
            clear F₁₀ N₁₀
            k_steps
            · exact rfl
            · exact Keeps.rfl' _
          · intro D11 k11 h₁₁ tk₁₁ ys11 vs11 hD11 hk11 hlen11 hP11 hF11 hu11
            have hvs11 : vs11 = ys9.toList := list_of_places hlen11 hP11
            subst hvs11
            have hI11 : Ints ((hands row).filter isD) ys11.toList := Ints.same (Ints.filter hI9 fun c => any_D c) hF11
            obtain ⟨F₁₁, N₁₁⟩ := news_new F₁₀ N₁₀ hu11 hD11 hk11
            have hdy : ys11.size = (hands row).countP isD := by rw [List.countP_eq_length_filter]; have := Paired.length hI11; simpa using this.symm
            have hdl := List.countP_le_length (p := isD) (l := hands row)
            clear F₁₀ N₁₀ hF11 hP11
            k_steps
            rename Fr _ _ _ _ => F₁₂
            rename News _ _ _ _ => N₁₂
            have N₁₂ := News.drop1 N₁₂
            refine While_led (fun n m => ∃ p dn td, n = left.length - p ∧ p ≤ left.length ∧ tell (hands row) ((hands row).countP isD) left = td ++ tell (hands row) dn (left.drop p) ∧ ToldM left D9 ND p dn td m) (n₀ := left.length) F₁₂ N₁₂
              ⟨0, (hands row).countP isD, [], rfl, Nat.zero_le _, rfl, ⟨_, m3⟩, m2, m1, ⟨_, rfl⟩, ⟨_, rfl⟩, ⟨_, rfl⟩⟩ ?_
            clear F₁₂ N₁₂
            rintro n m₁₃ h₁₃ tk₁₃ F₁₃ N₁₃ ⟨p, dn, td, rfl, hp, htell, ⟨tl, q1⟩, q2, q3, ⟨tp, q4⟩, ⟨td1, q5⟩, ⟨tt, q6⟩⟩
            have hSl := S_len left
            have hLt : (tell (hands row) ((hands row).countP isD) left).length ≤ 2 ^ 16 := by rw [← hlf]; exact hL
            rw [htell, List.length_append] at hLt
            have hStd := S_len td
            have hH13 : HandsAt h₁₃ D9 (hands row) := ⟨ys9, k9, (N₁₃ _ hd1).1, hI9⟩
            have hN13 : NamesAt w h₁₃ ND (hands row) := ⟨ysN, kN, (N₁₃ _ hd2).1, by simpa using hNI.tabs N₁₃⟩
            by_cases hpl : p < left.length
            · have hit := item_S hpl
              have hdr := drop_get hpl
              generalize hcc : left.getD p 0 = c at hit hdr
              have hh := has_rn c
              rw [← hit] at hh
              have hdot : (Txt.item (S left) (p : Int) == Str.ofString ".") = decide (c = 46) := by
                rw [hit, show Str.ofString "." = S [46] from by kernel_rfl!, S_eqb]; simp
              have hs2 := slice_2 (l := left) (p := p) (by omega)
              have hs1 := slice_1 (l := left) (p := p) (by omega)
              by_cases hE : c = 13 ∨ c = 10
              · have hh : _ = false := hh.trans (by rw [decide_eq_true hE]; rfl)
                by_cases h2 : (left.drop p).take 2 = [13, 10]
                · have hs3 : (Txt.slice (S left) (some (p : Int)) (some ((p : Int) + 2)) == Str.ofString "\r\n") = true := by rw [hs2, h2, e1310]; simp
                  obtain ⟨hd2', hp2⟩ := take2_drop h2
                  rw [hd2', tell_rn, List.length_append] at hLt
                  k_steps
                  rename Fr _ _ _ _ => Fy
                  rename News _ _ _ _ => Ny
                  rw [hs2, h2]
                  refine c_end (hands row) [13, 10] D9 ND _ (X0.keeps Fy.keep) (T.keeps Fy.keep) (by show dp + 1 + 30 < 1000; omega) (by show un + 3 + 200 < 9900; omega) hhl (by decide) ⟨ys9, k9, (Ny _ hd1).1, hI9⟩ ⟨ysN, kN, (Ny _ hd2).1, by simpa using hNI.tabs Ny⟩ fun a t8 t9 h₈ tk₈ hu₈ hT₈ => ?_
                  have F₈ := Fy.keeps hu₈
                  have N₈ := Ny.grown hu₈
                  have hSe := S_len (endw (hands row) [13, 10]).1
                  clear Fy Ny
                  k_steps
                  rename Fr _ _ _ _ => Fz
                  rename News _ _ _ _ => Nz
                  rw [S_app, show (p : Int) + 2 = ((p + 2 : Nat) : Int) from by omega] at Fz
                  refine WhileNext.mk Fz Nz (n' := left.length - (p + 2)) (by omega) ⟨p + 2, _, _, rfl, hp2, ?_, ⟨_, q1⟩, q2, q3, ⟨_, rfl⟩, ⟨_, rfl⟩, ⟨_, rfl⟩⟩
                  rw [htell, hd2', tell_rn, List.append_assoc]
                · have hs3 : (Txt.slice (S left) (some (p : Int)) (some ((p : Int) + 2)) == Str.ofString "\r\n") = false := by rw [hs2, e1310, S_eqb]; exact decide_eq_false h2
                  rw [hdr] at h2 hs1
                  rw [hdr, tell_one_end _ _ _ _ hE h2, List.length_append] at hLt
                  k_steps
                  rename Fr _ _ _ _ => Fy
                  rename News _ _ _ _ => Ny
                  rw [hs1]
                  refine c_end (hands row) [c] D9 ND _ (X0.keeps Fy.keep) (T.keeps Fy.keep) (by show dp + 1 + 30 < 1000; omega) (by show un + 3 + 200 < 9900; omega) hhl (by simp) ⟨ys9, k9, (Ny _ hd1).1, hI9⟩ ⟨ysN, kN, (Ny _ hd2).1, by simpa using hNI.tabs Ny⟩ fun a t8 t9 h₈ tk₈ hu₈ hT₈ => ?_
                  have F₈ := Fy.keeps hu₈
                  have N₈ := Ny.grown hu₈
                  have hSe := S_len (endw (hands row) [c]).1
                  clear Fy Ny
                  k_steps
                  rename Fr _ _ _ _ => Fz
                  rename News _ _ _ _ => Nz
                  rw [S_app, show (p : Int) + 1 = ((p + 1 : Nat) : Int) from by omega] at Fz
                  refine WhileNext.mk Fz Nz (n' := left.length - (p + 1)) (by omega) ⟨p + 1, _, _, rfl, by omega, ?_, ⟨_, q1⟩, q2, q3, ⟨_, rfl⟩, ⟨_, rfl⟩, ⟨_, rfl⟩⟩
                  rw [htell, hdr, tell_one_end _ _ _ _ hE h2, List.append_assoc]
              · have hh : _ = true := hh.trans (by rw [decide_eq_false hE]; rfl)
                by_cases h4 : c = 46
                · rw [decide_eq_true h4] at hdot
                  subst h4
                  rw [hdr, tell_dot, List.length_append, List.length_append, List.length_replicate] at hLt
                  have hmul := dot_mul dn
                  have hml : (Txt.mul (Str.ofString ".") (dn : Int)).length = dn := by rw [hmul, S_len, List.length_replicate]
                  have hdn : (dn : Int) ≤ 65536 := by omega
                  have hdn0 : (0 : Int) ≤ (dn : Int) := Int.natCast_nonneg _
                  have h1l : (Str.ofString ".").length = 1 := by kernel_rfl!
                  k_steps
                  rename Fr _ _ _ _ => Fy
                  rename News _ _ _ _ => Ny
                  rw [hit]
                  refine c_way (hands row) 46 ND _ (X0.keeps Fy.keep) (T.keeps Fy.keep) (by show dp + 1 + 20 < 1000; omega) (by show un + 3 + 100 < 9900; omega) hhl ⟨ysN, kN, (Ny _ hd2).1, by simpa using hNI.tabs Ny⟩ fun t8 h₈ tk₈ hu₈ => ?_
                  have F₈ := Fy.keeps hu₈
                  have N₈ := Ny.grown hu₈
                  have hSe := S_len (way (hands row) 46)
                  clear Fy Ny
                  k_steps
                  rename Fr _ _ _ _ => Fz
                  rename News _ _ _ _ => Nz
                  rw [hmul, S_app, S_app, show (p : Int) + 1 = ((p + 1 : Nat) : Int) from by omega] at Fz
                  refine WhileNext.mk Fz Nz (n' := left.length - (p + 1)) (by omega) ⟨p + 1, 0, _, rfl, by omega, ?_, ⟨_, q1⟩, q2, q3, ⟨_, rfl⟩, ⟨_, rfl⟩, ⟨_, rfl⟩⟩
                  rw [htell, hdr, tell_dot, List.append_assoc, List.append_assoc, List.append_assoc]
                · rw [decide_eq_false h4] at hdot
                  have hne1 : c ≠ 13 := fun e => hE (.inl e)
                  have hne2 : c ≠ 10 := fun e => hE (.inr e)
                  rw [hdr, tell_c _ _ _ _ hne1 hne2 h4, List.length_append] at hLt
                  k_steps
                  rename Fr _ _ _ _ => Fy
                  rename News _ _ _ _ => Ny
                  rw [hit]
                  refine c_way (hands row) c ND _ (X0.keeps Fy.keep) (T.keeps Fy.keep) (by show dp + 1 + 20 < 1000; omega) (by show un + 3 + 100 < 9900; omega) hhl ⟨ysN, kN, (Ny _ hd2).1, by simpa using hNI.tabs Ny⟩ fun t8 h₈ tk₈ hu₈ => ?_
                  have F₈ := Fy.keeps hu₈
                  have N₈ := Ny.grown hu₈
                  have hSe := S_len (way (hands row) c)
                  clear Fy Ny
                  k_steps
                  rename Fr _ _ _ _ => Fz
                  rename News _ _ _ _ => Nz
                  rw [S_app, show (p : Int) + 1 = ((p + 1 : Nat) : Int) from by omega] at Fz
                  refine WhileNext.mk Fz Nz (n' := left.length - (p + 1)) (by omega) ⟨p + 1, 0, _, rfl, by omega, ?_, ⟨_, q1⟩, q2, q3, ⟨_, rfl⟩, ⟨_, rfl⟩, ⟨_, rfl⟩⟩
                  rw [htell, hdr, tell_c _ _ _ _ hne1 hne2 h4, List.append_assoc]
            · k_steps
              have e0 : left.drop p = [] := List.drop_eq_nil_of_le (by omega)
              have e1 : told l row = td := by
                show tell (hands row) ((hands row).countP isD) (divd (2 ^ zeros row) 0 l) = td
                rw [hlf, htell, e0]; simp [tell]
              rw [e1] at hQ
              exact hQ _ _ _ F₁₃.keep
end
end Mine
end

section
open PySem PySem.W PyProof.Rows PySem.Calls PyProof.V PySem.Spec
set_option maxRecDepth 100000
set_option maxHeartbeats 4000000
namespace Mine
local macro_rules | `(tactic| k_steps) => `(tactic| repeat' (first | ((fail_if_success (with_reducible show wpAny _ _ (exec (Stmt.While _ _ _ _) _) _ _ _)); (fail_if_success (with_reducible show wpAny _ _ (exec (Stmt.For _ _ _ _ _) _) _ _ _)); (fail_if_success (with_reducible show wpAny _ _ (eval (Expr.ListComp _ _ _ _) _) _ _ _)); (fail_if_success (with_reducible show wpAny _ _ (exec (Stmt.Assign _ (Expr.ListComp _ _ _ _) _) _) _ _ _)); (fail_if_success (with_reducible show Exists _)); (fail_if_success (with_reducible show LCg.CompSrc _ _ _ _ _ _ _ _ _ _ _ _ _ _)); (fail_if_success (with_reducible show wpAny _ _ (call (Value.builtin "min") _) _ _ _)); first | (k_unfold; (try dsimp only)) | (k_end; wrow_close) | walk1 | (dsimp only; walk1) | (leave1; walk_say "STEP leave1"; try dsimp only) | fail "no step")))
local macro_rules | `(tactic| walk_at "eval Name") => `(tactic| ((with_reducible show wpAny _ _ (eval (Expr.Name _ _) (compEnvC _ _ _ _)) _ _ _); k_dflt (first
  | refine ldVarK (Fr.ns (by assumption)) (by assumption) ?_
  | refine cp_global (by assumption) (by assumption) (by assumption) (by k_is) ?_
  | refine cp_built (by assumption) (by assumption) (by assumption) (by k_is) (by boot_by_name) (by decide) ?_)))
local macro_rules | `(tactic| walk_at "eval Name") => `(tactic| (k_dflt (refine ld (by assumption) (by assumption) ?_)))
local macro_rules | `(tactic| walk_at "eval Name") => `(tactic| ((with_reducible show wpAny _ _ (eval (Expr.Name _ _) (envOfC _ _ _ _ _)) _ _ _); k_dflt (first | refine nameX_C (by assumption) rfl (by assumption) (by assumption) ?_ | refine nameX_C (by assumption) rfl (by k_mem) (by assumption) ?_)))
local macro_rules | `(tactic| walk_at "eval Name") => `(tactic| ((with_reducible show wpAny _ _ (eval (Expr.Name _ _) (envOfC _ _ _ _ _)) _ _ _); k_dflt (refine nameX_L (by assumption) (by assumption) ?_)))
local macro_rules | `(tactic| walk_at "subscriptTail Name Name ref int") => `(tactic| (k_dflt (first | refine item_list (by assumption) (by omega) (by omega) (by assumption) ?_ | refine item_list (up_list (by assumption) (by assumption)) (by omega) (by omega) (by assumption) ?_)))
local macro_rules | `(tactic| walk_at "eval Name") => `(tactic| ((with_reducible show wpAny _ _ (eval (Expr.Name _ _) (compEnvC _ _ _ _)) _ _ _); k_dflt (refine cp_cell rfl (by assumption) ?_)))
local macro_rules | `(tactic| walk_at "loadName") => `(tactic| (k_dflt (refine wpAny_loadName_local rfl rfl (Fr.ns (by assumption)) (by assumption) ?_)))
local macro_rules | `(tactic| walk_at "newTuple") => `(tactic| (k_dflt (refine newTup_up ?_); intro h9 e9 hU9 hT9))
local macro_rules | `(tactic| walk_at "compareOp In int ref") => `(tactic| (k_dflt (refine in_tuple_ints (by assumption) (by first | exact .cons _ _ (.cons _ _ (.cons _ _ .nil)) | exact .cons _ _ (.cons _ _ .nil)) ?_)))
local macro_rules | `(tactic| walk_at "eval Name") => `(tactic| ((with_reducible show wpAny _ _ (eval (Expr.Name _ _) (compEnvC _ _ _ _)) _ _ _); k_dflt (first | refine ldVarK (by assumption) (by assumption) ?_ | refine cp_cell rfl (by assumption) ?_)))
def PieceF (v y : Value) : Prop := ∃ (x : Nat) (t t' : Tok), v = .int (x : Int) t ∧ y = .str (S (pieces (x : Int))) t'
def RowF (v y : Value) : Prop := ∃ (x : Nat) (t t' : Tok), v = .int (x : Int) t ∧ y = .int ((x / 16 % 10 % 9 : Nat) : Int) t'
theorem row_int (x : Nat) : ((((x : Int).fdiv 16).fmod 10).fmod 9) = ((x / 16 % 10 % 9 : Nat) : Int) := by
  rw [Int.fdiv_eq_ediv_of_nonneg _ (by decide), Int.fmod_eq_emod_of_nonneg _ (by decide), Int.fmod_eq_emod_of_nonneg _ (by decide)]
  omega
theorem pieces_len (x : Int) : (pieces x).length ≤ 8 := by
  have h1 := piece_len ((x.fdiv 2560).fmod 256).toNat (x.fmod 16).toNat
  have h2 := piece_len ((x.fdiv 2560).fmod 256).toNat ((x.fdiv 160).fmod 16).toNat
  rw [S_len] at h1 h2
  rw [pieces, List.length_append]; omega
theorem piece_oct (ch k : Nat) (h : ch < 256) : ∀ c ∈ pieceAt ch k, c < 256 := by
  unfold pieceAt
  split <;> (intro c hc; simp at hc) <;> omega
theorem pieces_oct (x : Int) : ∀ c ∈ pieces x, c < 256 := by
  have h0 := Int.fmod_nonneg_of_pos (x.fdiv 2560) (show (0 : Int) < 256 by decide)
  have h1 := Int.fmod_lt_of_pos (x.fdiv 2560) (show (0 : Int) < 256 by decide)
  have hc : ((x.fdiv 2560).fmod 256).toNat < 256 := by omega
  intro c h
  rcases List.mem_append.mp h with h | h
  · exact piece_oct _ _ hc c h
  · exact piece_oct _ _ hc c h
def firstOf (xs : List Nat) : List Nat := (xs.map fun x : Nat => pieces (x : Int)).flatten
theorem first_len : ∀ xs : List Nat, (firstOf xs).length ≤ 8 * xs.length
  | [] => by simp [firstOf]
  | x :: xs => by
    have i := first_len xs
    have := pieces_len (x : Int)
    unfold firstOf at i ⊢
    rw [List.map_cons, List.flatten_cons, List.length_append, List.length_cons]; omega
theorem first_oct (xs : List Nat) : ∀ c ∈ firstOf xs, c < 256 := by
  intro c hc
  obtain ⟨l, hl, hc⟩ := List.mem_flatten.mp hc
  obtain ⟨x, _, rfl⟩ := List.mem_map.mp hl
  exact pieces_oct _ c hc
theorem piece_read {xs : List Nat} {vs ys : List Value} (h : Ints xs vs) (hF : Paired PieceF vs ys) : Paired (fun (x : List Nat) y => ∃ t, y = Value.str (S x) t) (xs.map fun x : Nat => pieces (x : Int)) ys := by
  have h3 : Paired (fun (x : Nat) y => ∃ t, y = Value.str (S (pieces (x : Int))) t) xs ys := Paired.trans (by
    rintro x v y ⟨u, rfl⟩ ⟨x', u', t, e, rfl⟩
    injection e with e1 e2
    rw [e1]; exact ⟨t, rfl⟩) h hF
  have g : ∀ {l : List Nat} {ys : List Value}, Paired (fun (x : Nat) y => ∃ t, y = Value.str (S (pieces (x : Int))) t) l ys → Paired (fun (x : List Nat) y => ∃ t, y = Value.str (S x) t) (l.map fun x : Nat => pieces (x : Int)) ys := by
    intro l ys h
    induction h with
    | nil => exact .nil
    | cons a _ ih => exact .cons a ih
  exact g h3
theorem row_read {xs : List Nat} {vs ys : List Value} (h : Ints xs vs) (hF : Paired RowF vs ys) : Ints (xs.map fun x => x / 16 % 10 % 9) ys := by
  have h3 : Paired (fun (x : Nat) y => ∃ t, y = Value.int ((x / 16 % 10 % 9 : Nat) : Int) t) xs ys := Paired.trans (by
    rintro x v y ⟨u, rfl⟩ ⟨x', u', t, e, rfl⟩
    injection e with e1 e2
    have e1 : x = x' := by omega
    rw [e1]; exact ⟨t, rfl⟩) h hF
  have g : ∀ {l : List Nat} {ys : List Value}, Paired (fun (x : Nat) y => ∃ t, y = Value.int ((x / 16 % 10 % 9 : Nat) : Int) t) l ys → Ints (l.map fun x => x / 16 % 10 % 9) ys := by
    intro l ys h
    induction h with
    | nil => exact .nil
    | cons a _ ih => exact .cons a ih
  exact g h3
theorem fold_wt : ∀ (row l : List Nat), sm wt (fold row l) ≤ 2 ^ row.length * sm wt l
  | [], l => by simp [fold]
  | h :: r, l => by
    have i := fold_wt r (hand h l)
    have := hand_wt h l
    rw [fold_cons, List.length_cons, Nat.pow_succ, Nat.mul_assoc]
    exact Nat.le_trans i (Nat.mul_le_mul_left _ this)
theorem law_holds : PySem.Challenge.rw_wn0067_01.Holds := hd (by
  k_go0
  all_goals (try k_fold)
  k_steps
  rename_i w s₀ s₁ mg mb hG hY fa o pm doc ho hg X hX1 hV hGL TT hTB hTE hTW v1 v2 hM v3 v4 hcd ns hs1 hs2 hs3 hs4 hs5 v5 v6 v7 vals v8 hL hra hw1 hr0 hI hr2 hlen hlen2 hK0 hD h₁ tk₁ oSt0 oSc dSt0 dSc hX0 lS hA l1 hB oS F N dS
  have T := topRead_of TT
  obtain ⟨aS, vs, hLs, hIs, dSc'⟩ : ∃ (aS : Addr) (vs : List Value), s₁.heap.IsList aS vs.toArray ∧ IntsAre vs ns ∧ oSc.data = .cell (some (.ref aS)) := ⟨_, _, hL, hI, dSc⟩
  have hns : ns.length ≤ 63 := by omega
  generalize hLL : s₁.heap.objs.size = L at *
  obtain ⟨arr, N₀, harr⟩ : ∃ arr : Array Value, News s₁.heap L hB [(lS, W.listOf arr 0), (L + 1 + 1, oS), (L + 1, oSc)] ∧ ∀ i, i < 6 → ∃ (c : Nat) (t : Tok), arr[i]? = some (.int (c : Int) t) ∧ c ≤ 2049 := ⟨_, N, by
    intro i hi
    match i, hi with
    | 0, _ => exact ⟨323, _, rfl, by decide⟩
    | 1, _ => exact ⟨1309, _, rfl, by decide⟩
    | 2, _ => exact ⟨1218, _, rfl, by decide⟩
    | 3, _ => exact ⟨1913, _, rfl, by decide⟩
    | 4, _ => exact ⟨2049, _, rfl, by decide⟩
    | 5, _ => exact ⟨69, _, rfl, by decide⟩
    | n + 6, h => omega⟩
  clear N
  have N := N₀
  clear N₀
  obtain ⟨m₀, F₀⟩ : ∃ m, Fr s₁.heap L hB m := ⟨_, F⟩
  clear F
  have F := F₀
  clear F₀
  clear hG hY hX1 hV hGL TT hTB hTE hTW hM hcd hs1 hs2 hs3 hs4 hs5 hL hra hw1 hr0 hI hr2 hlen hlen2 hK0 hD dSt0 dSc hX0 l1 ho
  refine wpAny_mono (Q := fun f s' => f = .next ∧ ∃ h' tk m' NA kA ys xs, s' = { s₁ with heap := h', toks := tk } ∧ Fr s₁.heap L h' m' ∧ News s₁.heap L h' [(NA, ({ cls := .type "list", data := .seq ys kA } : Obj))] ∧
    m' (Str.ofString "numbers") = some (.ref NA) ∧ Ints xs ys.toList ∧ xs.length = 6 ∧ ∀ x ∈ xs, x < 1000000) ?_ (fun f s' hf => ?_) fun _ _ e => e
  · refine LCg.Assign_ListComp_U (F₀ := F) (cl := [(Str.ofString "starts", L + 1 + 1), (Str.ofString "script", L + 1)]) rfl rfl (by with_unfolding_all rfl) (by decide) rfl (by decide) rfl rfl rfl ?_
    k_steps
    rename IsRange _ _ _ _ _ _ _ _ => hR
    rename Fr _ _ _ _ => F₁
    rename News _ _ _ _ => N₁
    refine LCg.CompSrc.range (n := 6) rfl F₁ N₁ hR rfl rfl (by rw [sizeLine_eq]; decide) fun g => ?_
    refine rest_ind (fun i ys news => (∃ more, news = more ++ [(lS, W.listOf arr 0), (L + 1 + 1, oS), (L + 1, oSc)]) ∧ ∃ xs, Ints xs ys ∧ xs.length = i ∧ ∀ x ∈ xs, x < 1000000) ⟨⟨[], rfl⟩, [], .nil, rfl, by simp⟩ ?_ ?_
    · rintro i ys news hi ⟨⟨more, rfl⟩, xs, hxs, hxl, hxb⟩ v I oI C oC D' m₂ h tk E' ⟨tv, rfl⟩ hNs hm F N off hne
      rw [Int.zero_add] at hm
      clear F₁ N₁ hR
      have q1 := (N (lS, W.listOf arr 0) (by simp)).1
      have q2 := (N (L + 1 + 1, oS) (by simp)).1
      have q3 := (N (L + 1, oSc) (by simp)).1
      have hlS : h.IsList lS arr := ⟨_, q1, rfl, _, rfl⟩
      have hc1 : h.IsCell (L + 1 + 1) (some (.ref lS)) := ⟨_, q2, dS⟩
      have hc2 : h.IsCell (L + 1) (some (.ref aS)) := ⟨_, q3, dSc'⟩
      obtain ⟨c, tc, hit, hcb⟩ := harr i hi
      have hit : arr[(i : Int).toNat]? = some (.int (c : Int) tc) := by simpa using hit
      have hNC : h.Ns C m₂ := hNs.ns (N (C, oC) (by simp)).1
      have hc0 : (0 : Int) ≤ (c : Int) := Int.natCast_nonneg _
      refine wpAny_mono (Q := fun y s₂ => ∃ (x : Nat) (t : Tok) (h' : Heap) (tk' : Nat), y = .int (x : Int) t ∧ x < 1000000 ∧ s₂ = { s₁ with heap := h', toks := tk' } ∧ Fr s₁.heap L h' m₀ ∧ News s₁.heap L h' ((I, oI) :: (C, oC) :: (D', LCg.lst ys) :: (more ++ [(lS, W.listOf arr 0), (L + 1 + 1, oS), (L + 1, oSc)]))) ?_ (fun y s₂ hy => ?_) fun _ _ e => e
      · dsimp only
        generalize more ++ [(lS, W.listOf arr 0), (L + 1 + 1, oS), (L + 1, oSc)] = led at *
        k_steps
        refine Comp_start rfl (by decide) rfl (by decide) rfl ?_
        k_steps
        rename Fr _ _ _ _ => F₂
        rename News _ _ _ _ => N₂
        rename Heap => h₂
        have hsl := (N₂ _ (.head _)).1
        have hpz := slicePick_size_le vs.toArray (some (i : Int)) (some 60) (some 6)
        have hvl := hIs.length
        have hvz : vs.toArray.size = vs.length := List.size_toArray
        refine ⟨_, _, _, fun _ => true, ModF, Src.list rfl ⟨_, hsl, rfl, _, rfl⟩, Nat.le_trans hpz (by rw [sizeLine_eq]; omega), ?_, ?_, ?_⟩
        · intro C j v s₃ m₃ E' F₃ hP hm ht
          exact wpAny_tests_nil ⟨rfl, Keeps.rfl' _⟩
        · intro C₃ j v s₃ m₃ E' F₃ hv hp hm ht
          obtain ⟨n, t, rfl⟩ := pick_int hIs hv
          have F₃ : Fr h₂ C₃ s₃.heap m₃ := F₃
          have N₃ := nilOf F₃
          have hNC3 := F₃.ns
          clear F₂ N₂ F N
          k_steps
          · exact ⟨n, t, _, rfl, rfl⟩
          · exact Keeps.of fun _ _ e => e
        · intro D6 k6 h₆ tk₆ ys6 vs6 hD6 hk6 hlen6 hP6 hF6 hu6
          rw [filter_all] at hF6
          obtain ⟨ms, hI6, hml, hmb⟩ := mod_ints hF6
          obtain ⟨F₆, N₆⟩ := news_new F₂ N₂ hu6 hD6 hk6
          have hls6 : h₆.IsList D6 ys6.toList.toArray := ⟨_, by simpa using hk6, rfl, _, rfl⟩
          clear F₂ N₂ F N hF6 hP6
          k_steps
          rename Fr _ _ _ _ => Fz
          rename News _ _ _ _ => Nz
          obtain ⟨x, hx, hx2⟩ := mod_nat ((c : Int) + ms.sum)
          rw [hx]
          exact ⟨x, _, _, _, rfl, hx2, rfl, Fz, News.drop1 (News.drop1 Nz)⟩
      · obtain ⟨x, t, h', tk', rfl, hx, rfl, F', N'⟩ := hy
        refine ⟨h', tk', _, rfl, F', N', off, trivial, ⟨more, rfl⟩, xs ++ [x], Paired.snoc hxs ⟨t, rfl⟩, by rw [List.length_append, hxl]; rfl, fun z hz => ?_⟩
        rcases List.mem_append.mp hz with hz | hz
        · exact hxb z hz
        · rw [List.mem_singleton.mp hz]; exact hx
    · rintro ys news ⟨hsub, xs, hxs, hxl, hxb⟩
      intro Dn hn tkn Fn Nn off
      exact ⟨rfl, hn, tkn, _, Dn, _, _, xs, rfl, Fn, fun p hp => Nn p (by rw [List.mem_singleton.mp hp]; exact .head _), rfl, hxs, hxl, hxb⟩
  · obtain ⟨rfl, h₁₀, tk₁₀, m₁₀, NA, kA, ysA, xs, rfl, F₁₀, N₁₀, mA, hxs, hxl, hxb⟩ := hf
    clear N F dS dSc' harr
    k_steps
    refine Comp_start rfl (by decide) rfl (by decide) rfl ?_
    k_steps
    have hlA : h₁₀.IsList NA ysA := ⟨_, (N₁₀ _ (.head _)).1, rfl, _, rfl⟩
    have hAz : ysA.size = 6 := by have := Paired.length hxs; rw [hxl] at this; simpa using this.symm
    refine ⟨_, _, _, fun _ => true, PieceF, Src.list rfl hlA, by rw [sizeLine_eq]; omega, ?_, ?_, ?_⟩
    · intro C j v s₃ m₃ E' F₃ hP hm ht
      exact wpAny_tests_nil ⟨rfl, Keeps.rfl' _⟩
    · intro C₃ j v s₃ m₃ E' F₃ hv hp hm ht
      obtain ⟨x, t, rfl, _⟩ := Ints.at hxs hv
      have F₃ : Fr h₁₀ C₃ s₃.heap m₃ := F₃
      have N₃ := nilOf F₃
      have hNC3 := F₃.ns
      have X10 := X.keeps F₁₀.keep
      have T10 := T.keeps F₁₀.keep
      clear F₁₀ N₁₀
      k_steps
      refine c_pieces (x : Int) _ (X10.keeps F₃.keep) (T10.keeps F₃.keep) (by decide) (by decide) fun t' h' tk' hu' => ?_
      exact ⟨⟨x, _, _, rfl, rfl⟩, Keeps.of hu'⟩
    · intro D11 k11 h₁₁ tk₁₁ ys11 vs11 hD11 hk11 hlen11 hP11 hF11 hu11
      rw [filter_all] at hF11
      have hvs11 : vs11 = ysA.toList := list_of_places hlen11 hP11
      subst hvs11
      have hJ := piece_read hxs hF11
      obtain ⟨F₁₁, N₁₁⟩ := news_new F₁₀ N₁₀ hu11 hD11 hk11
      have hlist : h₁₁.IsList D11 ys11 := ⟨_, hk11, rfl, _, rfl⟩
      have hfl : (firstOf xs).length ≤ 8 * xs.length := first_len xs
      clear F₁₀ N₁₀ hF11 hP11
      k_steps
      refine wp_joinS (by kernel_rfl!) hlist hJ (by rw [sizeLine_eq]; show (firstOf xs).length ≤ _; omega) fun t' tk' => ?_
      rw [show (xs.map fun x : Nat => pieces (x : Int)).flatten = firstOf xs from rfl]
      have hfo := first_oct xs
      generalize firstOf xs = first at *
      k_steps
      rename Fr _ _ _ _ => F₁₂
      rename News _ _ _ _ => N₁₂
      rename Heap => h₁₂
      have N₁₂ : News s₁.heap L h₁₂ [(NA, ({ cls := .type "list", data := .seq ysA kA } : Obj))] := News.drop1 N₁₂
      refine Comp_assign s₁.heap rfl rfl (by decide) rfl (by decide) rfl rfl rfl ?_
      k_steps
      refine ⟨_, _, _, fun _ => true, RowF, _, _, Src.list rfl ⟨_, (N₁₂ _ (.head _)).1, rfl, _, rfl⟩, by rw [sizeLine_eq]; omega, F₁₂, N₁₂, ?_, ?_, ?_⟩
      · intro C j v s₃ m₃ E' F₃ hP hm ht
        exact wpAny_tests_nil ⟨rfl, Keeps.rfl' _⟩
      · intro C₃ j v s₃ m₃ E' F₃ hv hp hm ht
        obtain ⟨x, t, rfl, _⟩ := Ints.at hxs hv
        have F₃ : Fr h₁₂ C₃ s₃.heap m₃ := F₃
        have N₃ := nilOf F₃
        have hNC3 := F₃.ns
        clear F₁₂ N₁₂
        k_steps
        · exact ⟨x, t, _, rfl, by rw [row_int]⟩
        · exact Keeps.of fun _ _ e => e
      · intro R kR h' tk' ys13 vs13 hlen13 hP13 hF13 F₁₃ N₁₃
        rw [filter_all] at hF13
        have hvs13 : vs13 = ysA.toList := list_of_places hlen13 hP13
        subst hvs13
        have hRow := row_read hxs hF13
        have hrl : (xs.map fun x => x / 16 % 10 % 9).length = 6 := by rw [List.length_map, hxl]
        have hr8 : ∀ h ∈ (xs.map fun x => x / 16 % 10 % 9), h ≤ 8 := by
          intro h hh
          obtain ⟨x, _, rfl⟩ := List.mem_map.mp hh
          omega
        generalize (xs.map fun x => x / 16 % 10 % 9) = row at *
        have F₁₃ : Fr s₁.heap L h' _ := F₁₃
        have N₁₃ : News s₁.heap L h' [(R, ({ cls := .type "list", data := .seq ys13 kR } : Obj))] := fun q hq => N₁₃ q (by rw [List.mem_singleton.mp hq]; exact .head _)
        clear F₁₂ N₁₂ hF13 hP13
        k_steps
        rename Fr _ _ _ _ => F₁₄
        rename News _ _ _ _ => N₁₄
        rename Heap => h₁₄
        have hRz : ys13.size = 6 := by have := Paired.length hRow; rw [hrl] at this; simpa using this.symm
        have hw1 : sm wt first ≤ 240 := by have := sm_len first; rw [hxl] at hfl; omega
        have hplain := plain row first
        have hRi : ∀ (h : Heap), News s₁.heap L h [(R, ({ cls := .type "list", data := .seq ys13 kR } : Obj))] → HandsAt h R row := fun h n => ⟨ys13, kR, (n _ (.head _)).1, hRow⟩
        refine wpAny_mono (E := fun _ _ => False) ?_ (fun _ _ h => h) (fun _ _ h => h.elim)
        refine For_start s₁.heap rfl rfl ?_ (hE := PassesOwn.never)
        k_steps
        refine LoopGo.list rfl ⟨_, (N₁₄ _ (.head _)).1, rfl, _, rfl⟩ (N₁₄ _ (.head _)).2.1 F₁₄ N₁₄ (fun i m => ∃ cur, fold row first = fold (row.drop i) cur ∧ sm wt cur ≤ 2 ^ i * 240 ∧ (∀ c ∈ cur, c < 256) ∧
          (∃ t, m (Str.ofString "text") = some (.str (S cur) t)) ∧ (∃ t, m (Str.ofString "first") = some (.str (S first) t)) ∧ m (Str.ofString "row") = some (.ref R))
          ⟨first, rfl, by simpa using hw1, hfo, ⟨_, rfl⟩, ⟨_, rfl⟩, rfl⟩ ?_ ?_
        · rintro i v m₁ h₁₅ tk₁₅ led hv ⟨cur, hf1, hf2, hf3, ⟨t1, q1⟩, ⟨t2, q2⟩, q3⟩ hsub F₁₅ N₁₅
          obtain ⟨c, tc, rfl, hc⟩ := Ints.at hRow hv
          have F₁₅ : Fr s₁.heap L h₁₅ _ := F₁₅
          have N₁₅ : News s₁.heap L h₁₅ led := N₁₅
          clear F₁₄ N₁₄
          have hi6 : i < 6 := by
            by_cases hi : i < 6
            · exact hi
            · rw [List.getElem?_eq_none (by omega)] at hc; cases hc
          have hpow : 2 ^ i * 240 ≤ 2 ^ 6 * 240 := Nat.mul_le_mul_right _ (Nat.pow_le_pow_right (by decide) (by omega))
          have hcl := len_sm cur
          have hSc := S_len cur
          have hdc : row.drop i = c :: row.drop (i + 1) := by
            rw [List.drop_eq_getElem_cons (by omega)]
            congr 1
            rw [List.getElem?_eq_getElem (by omega)] at hc
            exact Option.some.inj hc
          k_steps
          refine c_hand cur c _ _ (X.keeps F₁₅.keep) (T.keeps F₁₅.keep) (by decide) (by decide) (hr8 c (List.mem_of_getElem? hc)) (by omega) hf3 fun t' h' tk' hu' => ?_
          have F₁₆ := F₁₅.keeps hu'
          have N₁₆ := N₁₅.grown hu'
          have hw2 := hand_wt c cur
          have ho2 := hand_oct c cur hf3
          have hSh := S_len (hand c cur)
          have hhl := len_sm (hand c cur)
          clear F₁₅ N₁₅
          k_steps
          rename Fr _ _ _ _ => Fz
          rename News _ _ _ _ => Nz
          refine TurnNext.mk Fz Nz ⟨hand c cur, by rw [hf1, hdc, fold_cons], ?_, ho2, ⟨_, rfl⟩, ⟨_, q2⟩, q3⟩
          rw [Nat.pow_succ]; omega
        · rintro h₁₇ tk₁₇ m₁₇ F₁₇ N₁₇ ⟨cur, hf1, hf2, hf3, ⟨t1, q1⟩, ⟨t2, q2⟩, q3⟩
          have F₁₇ : Fr s₁.heap L h₁₇ _ := F₁₇
          have N₁₇ : News s₁.heap L h₁₇ _ := N₁₇
          clear F₁₄ N₁₄
          rw [hRz, List.drop_eq_nil_of_le (by omega)] at hf1
          have hcur : cur = told first row := by rw [← hplain, hf1]; rfl
          have hpow : 2 ^ ys13.size * 240 ≤ 2 ^ 6 * 240 := by rw [hRz]; exact Nat.le_refl _
          have hcl := len_sm cur
          k_steps
          refine c_told row first R _ (X.keeps F₁₇.keep) (T.keeps F₁₇.keep) (by decide) (by decide) (by omega) (by omega) (by rw [← hcur]; omega) (hRi _ N₁₇) fun t' h' tk' hu' => ?_
          have F₁₈ := F₁₇.keeps hu'
          have N₁₈ := N₁₇.grown hu'
          rw [hcur]
          clear F₁₇ N₁₇
          k_steps)
end Mine
end

set_option maxRecDepth 100000 in
theorem PySem.Challenge.cw_wn0067_01_holds : PySem.Challenge.rw_wn0067_01.Holds := by
  exact Mine.law_holds
