import PyProof.Rows.All
import Wide.All
import OpenK.AllK
import Wide.FinOn
import PySem.Challenge.RW_oy0058_01
set_option Elab.async false
set_option maxRecDepth 100000
set_option maxHeartbeats 8000000
namespace Mine
section
open PySem PySem.W PyProof.Rows
open_top hdTop for PySem.Challenge.rw_oy0058_01
theorem quiet : True := by
  w_top off
  trivial
end
section

/-! the box-ball system on rows of bools (true: a ball) -/

def carry : Nat → List Bool → List Bool
  | _, [] => []
  | c, true :: l => false :: carry (c + 1) l
  | 0, false :: l => false :: carry 0 l
  | c + 1, false :: l => true :: carry c l

def load : Nat → List Bool → Nat
  | c, [] => c
  | c, true :: l => load (c + 1) l
  | c, false :: l => load (c - 1) l

def strike : List Bool → List Bool
  | true :: false :: l => strike l
  | a :: l => a :: strike l
  | [] => []

def strike' : List Bool → List Bool
  | false :: true :: l => strike' l
  | a :: l => a :: strike' l
  | [] => []

def zs (n : Nat) : List Bool := List.replicate n false
def lstrip (l : List Bool) : List Bool := l.dropWhile (fun b => !b)
def rstrip (l : List Bool) : List Bool := (lstrip l.reverse).reverse
def stripB (l : List Bool) : List Bool := rstrip (lstrip l)
def balls (l : List Bool) : Nat := l.count true
def rnd (r : List Bool) : List Bool := stripB (carry 0 (r ++ zs (balls r)))

theorem carry_length : ∀ (c : Nat) (l : List Bool), (carry c l).length = l.length
  | _, [] => rfl
  | c, true :: l => by simp [carry, carry_length (c + 1) l]
  | 0, false :: l => by simp [carry, carry_length 0 l]
  | c + 1, false :: l => by simp [carry, carry_length c l]

theorem carry_append : ∀ (c : Nat) (a b : List Bool), carry c (a ++ b) = carry c a ++ carry (load c a) b
  | _, [], _ => rfl
  | c, true :: l, b => by simp [carry, load, carry_append (c + 1) l b]
  | 0, false :: l, b => by simp [carry, load, carry_append 0 l b]
  | c + 1, false :: l, b => by simp [carry, load, carry_append c l b]

theorem load_append : ∀ (c : Nat) (a b : List Bool), load c (a ++ b) = load (load c a) b
  | _, [], _ => rfl
  | c, true :: l, b => by simp [load, load_append (c + 1) l b]
  | c, false :: l, b => by simp [load, load_append (c - 1) l b]

theorem load_zs : ∀ (c n : Nat), load c (zs n) = c - n
  | c, 0 => rfl
  | c, n + 1 => by
    show load (c - 1) (zs n) = _
    rw [load_zs]; omega

theorem carry_zs0 : ∀ n : Nat, carry 0 (zs n) = zs n
  | 0 => rfl
  | n + 1 => by show false :: carry 0 (zs n) = false :: zs n; rw [carry_zs0]

theorem load_le : ∀ (c : Nat) (l : List Bool), load c l ≤ c + balls l
  | c, [] => by simp [load]
  | c, true :: l => by have := load_le (c + 1) l; simp [load, balls] at *; omega
  | c, false :: l => by have := load_le (c - 1) l; simp [load, balls] at *; omega

/-! stripping -/
theorem lstrip_false (l : List Bool) : lstrip (false :: l) = lstrip l := by simp [lstrip]
theorem lstrip_true (l : List Bool) : lstrip (true :: l) = true :: l := by simp [lstrip]
theorem lstrip_zs (n : Nat) (l : List Bool) : lstrip (zs n ++ l) = lstrip l := by
  induction n with
  | zero => rfl
  | succ n ih => show lstrip (false :: (zs n ++ l)) = _; rw [lstrip_false, ih]
theorem zs_reverse (n : Nat) : (zs n).reverse = zs n := by simp [zs]
theorem lstrip_split : ∀ l : List Bool, ∃ n, l = zs n ++ lstrip l
  | [] => ⟨0, rfl⟩
  | true :: l => ⟨0, by rw [lstrip_true]; rfl⟩
  | false :: l => by
    obtain ⟨n, h⟩ := lstrip_split l
    exact ⟨n + 1, by rw [lstrip_false]; show _ = false :: (zs n ++ lstrip l); rw [← h]⟩
theorem rstrip_zs (n : Nat) (l : List Bool) : rstrip (l ++ zs n) = rstrip l := by
  unfold rstrip; rw [List.reverse_append, zs_reverse, lstrip_zs]
theorem rstrip_split (l : List Bool) : ∃ n, l = rstrip l ++ zs n := by
  obtain ⟨n, h⟩ := lstrip_split l.reverse
  refine ⟨n, ?_⟩
  unfold rstrip
  have := congrArg List.reverse h
  rw [List.reverse_reverse, List.reverse_append, zs_reverse] at this
  exact this
/-- lstrip is [] or starts with a ball -/
theorem lstrip_head : ∀ l : List Bool, lstrip l = [] ∨ ∃ r, lstrip l = true :: r
  | [] => .inl rfl
  | true :: l => .inr ⟨l, lstrip_true l⟩
  | false :: l => by rw [lstrip_false]; exact lstrip_head l
theorem rstrip_cons_true (r : List Bool) : ∃ r', rstrip (true :: r) = true :: r' := by
  obtain ⟨n, h⟩ := rstrip_split (true :: r)
  cases hr : rstrip (true :: r) with
  | nil => rw [hr] at h; cases n with
    | zero => simp [zs] at h
    | succ n => simp [zs, List.replicate_succ] at h
  | cons b r' =>
    rw [hr] at h
    simp only [List.cons_append, List.cons.injEq] at h
    exact ⟨r', by rw [← h.1]⟩
theorem rstrip_nil : rstrip [] = [] := rfl
/-- zeros at both ends do not matter -/
theorem stripB_zs_left (n : Nat) (l : List Bool) : stripB (zs n ++ l) = stripB l := by
  unfold stripB; rw [lstrip_zs]
theorem lstrip_append_zs (l : List Bool) (n : Nat) : ∃ m, lstrip (l ++ zs n) = lstrip l ++ zs m := by
  rcases lstrip_head l with h | ⟨r, h⟩
  · obtain ⟨k, hk⟩ := lstrip_split l
    rw [h, List.append_nil] at hk
    refine ⟨0, ?_⟩
    rw [h, hk, lstrip_zs]
    have := lstrip_zs n []
    rw [List.append_nil] at this
    rw [this]; rfl
  · obtain ⟨k, hk⟩ := lstrip_split l
    refine ⟨n, ?_⟩
    conv => lhs; rw [hk]
    rw [List.append_assoc, lstrip_zs, h, List.cons_append, lstrip_true]
theorem stripB_zs_right (l : List Bool) (n : Nat) : stripB (l ++ zs n) = stripB l := by
  obtain ⟨m, h⟩ := lstrip_append_zs l n
  unfold stripB; rw [h, rstrip_zs]
theorem stripB_split (l : List Bool) : ∃ a b, l = zs a ++ stripB l ++ zs b := by
  obtain ⟨a, ha⟩ := lstrip_split l
  obtain ⟨b, hb⟩ := rstrip_split (lstrip l)
  refine ⟨a, b, ?_⟩
  conv => lhs; rw [ha, hb]
  unfold stripB; rw [List.append_assoc]
theorem stripB_of {l m : List Bool} {a b : Nat} (h : l = zs a ++ m ++ zs b) : stripB l = stripB m := by
  rw [h, stripB_zs_right, stripB_zs_left]
theorem stripB_idem (l : List Bool) : stripB (stripB l) = stripB l := by
  obtain ⟨a, b, h⟩ := stripB_split l
  exact (stripB_of h).symm
theorem stripB_nil : stripB [] = [] := rfl
/-- a stripped row is [] or starts and ends with a ball -/
theorem stripB_head (l : List Bool) : stripB l = [] ∨ ∃ r, stripB l = true :: r := by
  unfold stripB
  rcases lstrip_head l with h | ⟨r, h⟩
  · rw [h]; exact .inl rfl
  · rw [h]; exact .inr (rstrip_cons_true r)
theorem stripB_reverse (l : List Bool) : stripB l.reverse = (stripB l).reverse := by
  obtain ⟨a, b, h⟩ := stripB_split l
  have h2 : l.reverse = zs b ++ (stripB l).reverse ++ zs a := by
    conv => lhs; rw [h]
    simp [zs_reverse]
  rw [stripB_of h2]
  -- the reverse of a stripped row is stripped
  have key : ∀ m : List Bool, stripB m = m → stripB m.reverse = m.reverse := by
    intro m hm
    obtain ⟨a, b, h⟩ := stripB_split m.reverse
    have h3 : m = zs b ++ (stripB m.reverse).reverse ++ zs a := by
      have := congrArg List.reverse h
      simpa [zs_reverse] using this
    -- no zeros at the ends of m
    have hl : m.length = (stripB m).length := by rw [hm]
    have h4 : stripB m = stripB (stripB m.reverse).reverse := stripB_of h3
    have h5 : (stripB (stripB m.reverse).reverse).length ≤ (stripB m.reverse).length := by
      obtain ⟨a', b', h'⟩ := stripB_split (stripB m.reverse).reverse
      have := congrArg List.length h'
      simp [zs] at this ⊢
      omega
    have h6 := congrArg List.length h
    simp only [List.length_append, List.length_reverse, zs, List.length_replicate] at h6
    rw [h4] at hl
    have ha : a = 0 := by omega
    have hb : b = 0 := by omega
    rw [ha, hb] at h
    simpa [zs] using h.symm
  exact key _ (stripB_idem l)
theorem balls_append (a b : List Bool) : balls (a ++ b) = balls a + balls b := by simp [balls]
theorem balls_zs (n : Nat) : balls (zs n) = 0 := by simp [balls, zs, List.count_replicate]
theorem balls_stripB (l : List Bool) : balls (stripB l) = balls l := by
  obtain ⟨a, b, h⟩ := stripB_split l
  conv => rhs; rw [h]
  simp [balls_append, balls_zs]
theorem stripB_length (l : List Bool) : (stripB l).length ≤ l.length := by
  obtain ⟨a, b, h⟩ := stripB_split l
  have := congrArg List.length h
  simp [zs] at this; omega

/-- the round is the same whatever zeros stand around the row, if the carrier comes home empty -/
theorem carry_zs_left (n : Nat) (l : List Bool) : carry 0 (zs n ++ l) = zs n ++ carry 0 l := by
  rw [carry_append, carry_zs0, load_zs]; simp
theorem load_zs_left (n : Nat) (l : List Bool) : load 0 (zs n ++ l) = load 0 l := by
  rw [load_append, load_zs]; simp
theorem load_pad {l : List Bool} {n : Nat} (h : balls l ≤ n) : load 0 (l ++ zs n) = 0 := by
  rw [load_append, load_zs]
  have := load_le 0 l
  omega
theorem carry_more {l : List Bool} (h : load 0 l = 0) (n : Nat) : carry 0 (l ++ zs n) = carry 0 l ++ zs n := by
  rw [carry_append, h, carry_zs0]
theorem strip_carry_pad {l : List Bool} {a b : Nat} (ha : load 0 (l ++ zs a) = 0) (hb : load 0 (l ++ zs b) = 0) : stripB (carry 0 (l ++ zs a)) = stripB (carry 0 (l ++ zs b)) := by
  have e1 : carry 0 (l ++ zs a ++ zs b) = carry 0 (l ++ zs a) ++ zs b := carry_more ha b
  have e2 : carry 0 (l ++ zs b ++ zs a) = carry 0 (l ++ zs b) ++ zs a := carry_more hb a
  have e3 : l ++ zs a ++ zs b = l ++ zs b ++ zs a := by
    simp only [List.append_assoc, zs, List.replicate_append_replicate, Nat.add_comm]
  rw [← stripB_zs_right (carry 0 (l ++ zs a)) b, ← e1, e3, e2, stripB_zs_right]
theorem rnd_of {u : List Bool} (h : load 0 u = 0) : rnd (stripB u) = stripB (carry 0 u) := by
  obtain ⟨a, b, e⟩ := stripB_split u
  have h1 : load 0 (stripB u ++ zs b) = 0 := by
    rw [e, List.append_assoc, load_zs_left] at h; exact h
  unfold rnd
  rw [strip_carry_pad (load_pad (Nat.le_refl _)) h1]
  conv => rhs; rw [e, List.append_assoc, carry_zs_left, stripB_zs_left]
theorem rnd_strip (r : List Bool) : stripB (rnd r) = rnd r := stripB_idem _

/-! the way back -/
inductive Run : Nat → List Bool → List Bool → Nat → Prop
  | nil (c : Nat) : Run c [] [] c
  | up {c c' : Nat} {x y : List Bool} : Run (c + 1) x y c' → Run c (true :: x) (false :: y) c'
  | zero {c' : Nat} {x y : List Bool} : Run 0 x y c' → Run 0 (false :: x) (false :: y) c'
  | down {c c' : Nat} {x y : List Bool} : Run c x y c' → Run (c + 1) (false :: x) (true :: y) c'
theorem run_carry : ∀ (c : Nat) (l : List Bool), Run c l (carry c l) (load c l)
  | c, [] => .nil c
  | c, true :: l => .up (run_carry (c + 1) l)
  | 0, false :: l => .zero (run_carry 0 l)
  | c + 1, false :: l => .down (run_carry c l)
theorem Run.snoc_up {c c' : Nat} {x y : List Bool} (h : Run c x y c') : Run c (x ++ [true]) (y ++ [false]) (c' + 1) := by
  induction h with
  | nil c => exact .up (.nil _)
  | up _ ih => exact .up ih
  | zero _ ih => exact .zero ih
  | down _ ih => exact .down ih
theorem Run.snoc_zero {c c' : Nat} {x y : List Bool} (h : Run c x y c') : c' = 0 → Run c (x ++ [false]) (y ++ [false]) 0 := by
  induction h with
  | nil c => intro e; subst e; exact .zero (.nil _)
  | up _ ih => intro e; exact .up (ih e)
  | zero _ ih => intro e; exact .zero (ih e)
  | down _ ih => intro e; exact .down (ih e)
theorem Run.snoc_down {c c' : Nat} {x y : List Bool} (h : Run c x y (c' + 1)) : Run c (x ++ [false]) (y ++ [true]) c' := by
  generalize hk : c' + 1 = k at h
  induction h with
  | nil c => subst hk; exact .down (.nil _)
  | up _ ih => exact .up (ih hk)
  | zero _ ih => exact .zero (ih hk)
  | down _ ih => exact .down (ih hk)
theorem Run.back {c c' : Nat} {x y : List Bool} (h : Run c x y c') : Run c' y.reverse x.reverse c := by
  induction h with
  | nil c => exact .nil c
  | up _ ih => rw [List.reverse_cons, List.reverse_cons]; exact ih.snoc_down
  | zero _ ih => rw [List.reverse_cons, List.reverse_cons]; exact ih.snoc_zero rfl
  | down _ ih => rw [List.reverse_cons, List.reverse_cons]; exact ih.snoc_up
theorem Run.eq {c c' : Nat} {x y : List Bool} (h : Run c x y c') : carry c x = y ∧ load c x = c' := by
  induction h with
  | nil c => exact ⟨rfl, rfl⟩
  | up _ ih => exact ⟨by simp [carry, ih.1], by simp [load, ih.2]⟩
  | zero _ ih => exact ⟨by simp [carry, ih.1], by simp [load, ih.2]⟩
  | down _ ih => exact ⟨by simp [carry, ih.1], by simp [load, ih.2]⟩
theorem carry_back {u : List Bool} (h : load 0 u = 0) : carry 0 (carry 0 u).reverse = u.reverse ∧ load 0 (carry 0 u).reverse = 0 := by
  have := (run_carry 0 u).back
  rw [h] at this
  exact this.eq
/-- a round, read from its end, is undone by a round -/
theorem rnd_back (r : List Bool) (hr : stripB r = r) : rnd (rnd r).reverse = r.reverse := by
  have h0 : load 0 (r ++ zs (balls r)) = 0 := load_pad (Nat.le_refl _)
  obtain ⟨h1, h2⟩ := carry_back h0
  have h3 : (rnd r).reverse = stripB (carry 0 (r ++ zs (balls r))).reverse := by
    rw [stripB_reverse]; rfl
  rw [h3, rnd_of h2, h1, stripB_reverse, stripB_zs_right, hr]
def rnds : Nat → List Bool → List Bool
  | 0, r => r
  | n + 1, r => rnd (rnds n r)
theorem rnds_strip (r : List Bool) (hr : stripB r = r) : ∀ n, stripB (rnds n r) = rnds n r
  | 0 => hr
  | _ + 1 => rnd_strip _
theorem rnds_succ (r : List Bool) : ∀ n, rnds (n + 1) r = rnds n (rnd r)
  | 0 => rfl
  | n + 1 => by show rnd (rnds (n + 1) r) = rnd (rnds n (rnd r)); rw [rnds_succ r n]
theorem rnds_back (r : List Bool) (hr : stripB r = r) : ∀ n, rnds n (rnds n r).reverse = r.reverse
  | 0 => rfl
  | n + 1 => by
    rw [rnds_succ]
    show rnds n (rnd (rnd (rnds n r)).reverse) = _
    rw [rnd_back _ (rnds_strip r hr n)]
    exact rnds_back r hr n
end
section

/-! striking out -/
theorem strike_false (l : List Bool) : strike (false :: l) = false :: strike l := by simp [strike]
theorem strike_tt (l : List Bool) : strike (true :: true :: l) = true :: strike (true :: l) := by simp [strike]
theorem strike_tf (l : List Bool) : strike (true :: false :: l) = strike l := by simp [strike]
theorem strike'_true (l : List Bool) : strike' (true :: l) = true :: strike' l := by simp [strike']
theorem strike'_ff (l : List Bool) : strike' (false :: false :: l) = false :: strike' (false :: l) := by simp [strike']
theorem strike'_ft (l : List Bool) : strike' (false :: true :: l) = strike' l := by simp [strike']

/-- carry 0 of anything opens with an empty box -/
theorem carry0_head : ∀ l : List Bool, carry 0 l = [] ∨ ∃ r, carry 0 l = false :: r
  | [] => .inl rfl
  | true :: l => .inr ⟨_, rfl⟩
  | false :: l => .inr ⟨_, rfl⟩
theorem strike'_false_carry0 (l : List Bool) : strike' (false :: carry 0 l) = false :: strike' (carry 0 l) := by
  rcases carry0_head l with h | ⟨r, h⟩
  · rw [h]; rfl
  · rw [h, strike'_ff]

theorem strike_carry : ∀ (l : List Bool) (c : Nat), strike' (carry c l) = carry c (strike l)
  | [], _ => rfl
  | [true], c => rfl
  | true :: false :: l, c => by
    rw [strike_tf]
    show strike' (false :: true :: carry c l) = _
    rw [strike'_ft, strike_carry l c]
  | true :: true :: l, c => by
    rw [strike_tt]
    have ih := strike_carry (true :: l) (c + 1)
    show strike' (false :: false :: carry (c + 1 + 1) l) = false :: carry (c + 1) (strike (true :: l))
    rw [strike'_ff, ← ih]; rfl
  | false :: l, 0 => by
    rw [strike_false]
    show strike' (false :: carry 0 l) = false :: carry 0 (strike l)
    rw [strike'_false_carry0, strike_carry l 0]
  | false :: l, c + 1 => by
    rw [strike_false]
    show strike' (true :: carry c l) = true :: carry c (strike l)
    rw [strike'_true, strike_carry l c]

theorem strike_load : ∀ (l : List Bool) (c : Nat), load c (strike l) = load c l
  | [], _ => rfl
  | [true], c => rfl
  | true :: false :: l, c => by
    rw [strike_tf, strike_load l c]; simp [load]
  | true :: true :: l, c => by
    rw [strike_tt]; exact strike_load (true :: l) (c + 1)
  | false :: l, c => by
    rw [strike_false]; exact strike_load l (c - 1)

/-- striking out ball-box against box-ball: but for where the row stands they are one -/
theorem strike_two : ∀ l : List Bool, strike' (false :: (l ++ [false])) = strike (l ++ [false]) ++ [false] ∧ strike (true :: (l ++ [false])) ++ [false] = strike' (l ++ [false])
  | [] => by simp [strike, strike']
  | false :: l => by
    obtain ⟨h1, h2⟩ := strike_two l
    constructor
    · show strike' (false :: false :: (l ++ [false])) = strike (false :: (l ++ [false])) ++ [false]
      rw [strike'_ff, strike_false, h1]; rfl
    · show strike (true :: false :: (l ++ [false])) ++ [false] = strike' (false :: (l ++ [false]))
      rw [strike_tf, h1]
  | true :: l => by
    obtain ⟨h1, h2⟩ := strike_two l
    constructor
    · show strike' (false :: true :: (l ++ [false])) = strike (true :: (l ++ [false])) ++ [false]
      rw [strike'_ft, h2]
    · show strike (true :: true :: (l ++ [false])) ++ [false] = strike' (true :: (l ++ [false]))
      rw [strike_tt, strike'_true, ← h2]; rfl

/-- one striking with an empty box put behind -/
def st0 (l : List Bool) : List Bool := strike (l ++ [false])
theorem strike_ff : ∀ l : List Bool, strike (l ++ [false, false]) = strike (l ++ [false]) ++ [false]
  | [] => rfl
  | [true] => rfl
  | false :: l => by
    show strike (false :: (l ++ [false, false])) = strike (false :: (l ++ [false])) ++ [false]
    rw [strike_false, strike_false, strike_ff l]; rfl
  | true :: false :: l => by
    show strike (true :: false :: (l ++ [false, false])) = strike (true :: false :: (l ++ [false])) ++ [false]
    rw [strike_tf, strike_tf, strike_ff l]
  | true :: true :: l => by
    have ih := strike_ff (true :: l)
    show strike (true :: true :: (l ++ [false, false])) = strike (true :: true :: (l ++ [false])) ++ [false]
    rw [strike_tt, strike_tt]
    show true :: strike ((true :: l) ++ [false, false]) = _
    rw [ih]; rfl
theorem st0_snoc (l : List Bool) : st0 (l ++ [false]) = st0 l ++ [false] := by
  unfold st0
  rw [List.append_assoc]
  exact strike_ff l
theorem st0_cons (l : List Bool) : st0 (false :: l) = false :: st0 l := by
  unfold st0
  rw [List.cons_append, strike_false]
theorem st0_carry {x : List Bool} (h : load 0 x = 0) : st0 (carry 0 x) ++ [false] = false :: carry 0 (st0 x) ∧ load 0 (st0 x) = 0 := by
  have h1 : carry 0 (x ++ [false]) = carry 0 x ++ [false] := carry_more h 1
  have h2 : strike' (carry 0 x ++ [false]) = carry 0 (st0 x) := by
    rw [← h1, strike_carry]; rfl
  refine ⟨?_, ?_⟩
  · rw [← h2]
    rcases carry0_head x with e | ⟨r, e⟩
    · rw [e]; rfl
    · rw [e]
      show strike (false :: (r ++ [false])) ++ [false] = false :: strike' (false :: (r ++ [false]))
      rw [(strike_two r).1, strike_false]; rfl
  · unfold st0
    rw [strike_load, load_append, h]; rfl

/-- how often a ball stands before an empty box, one put behind the row -/
def runsN (l : List Bool) : Nat := (l.length + 1 - (st0 l).length) / 2
def lev : Nat → List Bool → List Bool
  | 0, l => l
  | n + 1, l => lev n (st0 l)
def lvl (n : Nat) (l : List Bool) : Nat := runsN (lev n l)
theorem lev_snoc : ∀ (n : Nat) (l : List Bool), lev n (l ++ [false]) = lev n l ++ [false]
  | 0, _ => rfl
  | n + 1, l => by show lev n (st0 (l ++ [false])) = _; rw [st0_snoc, lev_snoc n]; rfl
theorem lev_cons : ∀ (n : Nat) (l : List Bool), lev n (false :: l) = false :: lev n l
  | 0, _ => rfl
  | n + 1, l => by show lev n (st0 (false :: l)) = _; rw [st0_cons, lev_cons n]; rfl
theorem runsN_snoc (l : List Bool) : runsN (l ++ [false]) = runsN l := by
  unfold runsN; rw [st0_snoc, List.length_append, List.length_append]
  show (l.length + 1 + 1 - ((st0 l).length + 1)) / 2 = _
  rw [Nat.add_sub_add_right]
theorem runsN_cons (l : List Bool) : runsN (false :: l) = runsN l := by
  unfold runsN; rw [st0_cons, List.length_cons, List.length_cons, Nat.add_sub_add_right]
theorem lvl_snoc (n : Nat) (l : List Bool) : lvl n (l ++ [false]) = lvl n l := by
  unfold lvl; rw [lev_snoc, runsN_snoc]
theorem lvl_cons (n : Nat) (l : List Bool) : lvl n (false :: l) = lvl n l := by
  unfold lvl; rw [lev_cons, runsN_cons]
theorem lvl_zs_left (n : Nat) (l : List Bool) : ∀ k, lvl n (zs k ++ l) = lvl n l
  | 0 => rfl
  | k + 1 => by show lvl n (false :: (zs k ++ l)) = _; rw [lvl_cons, lvl_zs_left n l k]
theorem lvl_zs_right (n : Nat) (l : List Bool) : ∀ k, lvl n (l ++ zs k) = lvl n l
  | 0 => by simp [zs]
  | k + 1 => by
    have e : l ++ zs (k + 1) = (l ++ zs k) ++ [false] := by
      unfold zs; rw [List.replicate_succ', List.append_assoc]
    rw [e, lvl_snoc, lvl_zs_right n l k]
theorem lvl_strip (n : Nat) (l : List Bool) : lvl n (stripB l) = lvl n l := by
  obtain ⟨a, b, h⟩ := stripB_split l
  conv => rhs; rw [h]
  rw [lvl_zs_right, lvl_zs_left]
theorem lvl_carry : ∀ (n : Nat) {x : List Bool}, load 0 x = 0 → lvl n (carry 0 x) = lvl n x
  | 0, x, h => by
    have h1 := congrArg List.length (st0_carry h).1
    simp only [List.length_append, List.length_cons, List.length_nil, carry_length] at h1
    show runsN (carry 0 x) = runsN x
    unfold runsN
    rw [carry_length]
    have : (st0 (carry 0 x)).length = (st0 x).length := by omega
    rw [this]
  | n + 1, x, h => by
    obtain ⟨h1, h2⟩ := st0_carry h
    show lvl n (st0 (carry 0 x)) = lvl n (st0 x)
    rw [← lvl_snoc, h1, lvl_cons, lvl_carry n h2]
theorem lvl_rnd (n : Nat) (r : List Bool) : lvl n (rnd r) = lvl n r := by
  unfold rnd
  rw [lvl_strip, lvl_carry n (load_pad (Nat.le_refl _)), lvl_zs_right]
theorem lvl_rnds (n : Nat) (r : List Bool) : ∀ k, lvl n (rnds k r) = lvl n r
  | 0 => rfl
  | k + 1 => by show lvl n (rnd (rnds k r)) = _; rw [lvl_rnd, lvl_rnds n r k]
end
section

/-! blocks of a row: a run of balls and the gap behind it -/
def blk : Nat → Nat → List Bool → List (Nat × Nat)
  | q, w, [] => if q = 0 then [] else [(q, w)]
  | q, w, false :: l => blk q (w + 1) l
  | q, w, true :: l => if q = 0 then blk 1 0 l else if w = 0 then blk (q + 1) 0 l else (q, w) :: blk 1 0 l

def settled : List (Nat × Nat) → Prop
  | (q, w) :: (q', w') :: r => q ≤ q' ∧ q ≤ w ∧ settled ((q', w') :: r)
  | _ => True

/-! rows woven with struck pairs -/
def rep10 : Nat → List Bool
  | 0 => []
  | n + 1 => true :: false :: rep10 n
def rep01 : Nat → List Bool
  | 0 => []
  | n + 1 => false :: true :: rep01 n
def nec (p b : Bool) : Nat := if p && !b then 1 else 0
def W : Bool → List (Nat × Bool) → List Bool
  | _, [] => []
  | p, (e, b) :: l => rep10 (e + nec p b) ++ b :: W b l
def V : Bool → List (Nat × Bool) → List Bool
  | _, [] => []
  | p, (e, b) :: l => rep01 (e + nec b p) ++ b :: V b l
def carryZ : Nat → List (Nat × Bool) → List (Nat × Bool)
  | _, [] => []
  | c, (e, true) :: l => (e, false) :: carryZ (c + 1) l
  | 0, (e, false) :: l => (e, false) :: carryZ 0 l
  | c + 1, (e, false) :: l => (e, true) :: carryZ c l
def bits (Z : List (Nat × Bool)) : List Bool := Z.map (·.2)
theorem bits_carryZ : ∀ (c : Nat) (Z : List (Nat × Bool)), bits (carryZ c Z) = carry c (bits Z)
  | _, [] => rfl
  | c, (e, true) :: l => by show false :: bits (carryZ (c + 1) l) = false :: carry (c + 1) (bits l); rw [bits_carryZ]
  | 0, (e, false) :: l => by show false :: bits (carryZ 0 l) = false :: carry 0 (bits l); rw [bits_carryZ]
  | c + 1, (e, false) :: l => by show true :: bits (carryZ c l) = true :: carry c (bits l); rw [bits_carryZ]
theorem carry_rep10 (c : Nat) (l : List Bool) : ∀ n, carry c (rep10 n ++ l) = rep01 n ++ carry c l
  | 0 => rfl
  | n + 1 => by show false :: true :: carry c (rep10 n ++ l) = false :: true :: (rep01 n ++ carry c l); rw [carry_rep10 c l n]
theorem load_rep10 (c : Nat) (l : List Bool) : ∀ n, load c (rep10 n ++ l) = load c l
  | 0 => rfl
  | n + 1 => by show load (c + 1 - 1) (rep10 n ++ l) = load c l; rw [Nat.add_sub_cancel, load_rep10 c l n]
theorem load_W : ∀ (Z : List (Nat × Bool)) (c : Nat) (p : Bool), load c (W p Z) = load c (bits Z)
  | [], _, _ => rfl
  | (e, true) :: l, c, p => by
    show load c (rep10 _ ++ true :: W true l) = load (c + 1) (bits l)
    rw [load_rep10]; exact load_W l (c + 1) true
  | (e, false) :: l, c, p => by
    show load c (rep10 _ ++ false :: W false l) = load (c - 1) (bits l)
    rw [load_rep10]; exact load_W l (c - 1) false

def Rel (p p' : Bool) (c : Nat) : Prop := (p = true → p' = false ∧ 0 < c) ∧ (p = false → p' = true ∨ c = 0)
theorem carry_W : ∀ (Z : List (Nat × Bool)) (p p' : Bool) (c : Nat), Rel p p' c → carry c (W p Z) = V p' (carryZ c Z)
  | [], _, _, _, _ => rfl
  | (e, true) :: l, p, p', c, h => by
    show carry c (rep10 (e + nec p true) ++ true :: W true l) = rep01 (e + nec false p') ++ false :: V false (carryZ (c + 1) l)
    rw [carry_rep10]
    have e1 : nec p true = 0 := by simp [nec]
    have e2 : nec false p' = 0 := by simp [nec]
    rw [e1, e2]
    show _ ++ false :: carry (c + 1) (W true l) = _
    rw [carry_W l true false (c + 1) ⟨fun _ => ⟨rfl, Nat.succ_pos c⟩, fun h => nomatch h⟩]
  | (e, false) :: l, p, p', 0, h => by
    have hp : p = false := by
      cases p with
      | false => rfl
      | true => exact absurd (h.1 rfl).2 (Nat.lt_irrefl 0)
    subst hp
    show carry 0 (rep10 (e + nec false false) ++ false :: W false l) = rep01 (e + nec false p') ++ false :: V false (carryZ 0 l)
    rw [carry_rep10]
    have e2 : nec false p' = 0 := by simp [nec]
    have e1 : nec false false = 0 := rfl
    rw [e1, e2]
    show _ ++ false :: carry 0 (W false l) = _
    rw [carry_W l false false 0 ⟨fun h => (nomatch h), fun _ => .inr rfl⟩]
  | (e, false) :: l, p, p', c + 1, h => by
    show carry (c + 1) (rep10 (e + nec p false) ++ false :: W false l) = rep01 (e + nec true p') ++ true :: V true (carryZ c l)
    rw [carry_rep10]
    have e1 : nec p false = nec true p' := by
      cases p with
      | false =>
        rcases h.2 rfl with h | h
        · rw [h]; rfl
        · exact absurd h (Nat.succ_ne_zero c)
      | true => rw [(h.1 rfl).1]
    rw [e1]
    show _ ++ true :: carry c (W false l) = _
    rw [carry_W l false true c ⟨fun h => (nomatch h), fun _ => .inl rfl⟩]

def EndF : Bool → List (Nat × Bool) → Prop
  | p, [] => p = false
  | _, (_, b) :: l => EndF b l
theorem rep01_false (l : List Bool) : ∀ n, rep01 n ++ false :: l = false :: (rep10 n ++ l)
  | 0 => rfl
  | n + 1 => by show false :: true :: (rep01 n ++ false :: l) = false :: true :: false :: (rep10 n ++ l); rw [rep01_false l n]
theorem rep10_true (l : List Bool) : ∀ n, true :: (rep01 n ++ l) = rep10 n ++ true :: l
  | 0 => rfl
  | n + 1 => by show true :: false :: true :: (rep01 n ++ l) = true :: false :: (rep10 n ++ true :: l); rw [rep10_true l n]
theorem V_W : ∀ Z : List (Nat × Bool), (EndF false Z → V false Z ++ [false] = false :: W false Z) ∧ (EndF true Z → true :: (V true Z ++ [false]) = W true Z)
  | [] => ⟨fun _ => rfl, fun h => nomatch h⟩
  | (e, false) :: l => by
    obtain ⟨h1, _⟩ := V_W l
    constructor
    · intro h
      show (rep01 (e + nec false false) ++ false :: V false l) ++ [false] = false :: (rep10 (e + nec false false) ++ false :: W false l)
      rw [List.append_assoc, List.cons_append, h1 h, rep01_false]
    · intro h
      show true :: ((rep01 (e + nec false true) ++ false :: V false l) ++ [false]) = rep10 (e + nec true false) ++ false :: W false l
      rw [List.append_assoc, List.cons_append, h1 h]
      have e1 : e + nec false true = e := by simp [nec]
      have e2 : e + nec true false = e + 1 := by simp [nec]
      rw [e1, e2, rep10_true]
      have key : ∀ (n : Nat) (l : List Bool), rep10 n ++ true :: false :: l = rep10 (n + 1) ++ l := by
        intro n l
        induction n with
        | zero => rfl
        | succ n ih => show true :: false :: (rep10 n ++ true :: false :: l) = true :: false :: (rep10 (n + 1) ++ l); rw [ih]
      rw [key]
  | (e, true) :: l => by
    obtain ⟨_, h2⟩ := V_W l
    constructor
    · intro h
      show (rep01 (e + nec true false) ++ true :: V true l) ++ [false] = false :: (rep10 (e + nec false true) ++ true :: W true l)
      rw [List.append_assoc, List.cons_append, h2 h]
      have e1 : e + nec false true = e := by simp [nec]
      have e2 : e + nec true false = e + 1 := by simp [nec]
      rw [e1, e2]
      have key : ∀ (n : Nat) (l : List Bool), rep01 (n + 1) ++ l = false :: (rep10 n ++ true :: l) := by
        intro n l
        induction n with
        | zero => rfl
        | succ n ih => show false :: true :: (rep01 (n + 1) ++ l) = false :: true :: false :: (rep10 n ++ true :: l); rw [ih]
      rw [key]
    · intro h
      show true :: ((rep01 (e + nec true true) ++ true :: V true l) ++ [false]) = rep10 (e + nec true true) ++ true :: W true l
      rw [List.append_assoc, List.cons_append, h2 h, rep10_true]

/-- one round of the woven row -/
theorem W_step {Z : List (Nat × Bool)} (h : EndF false (carryZ 0 Z)) : carry 0 (W false Z) ++ [false] = false :: W false (carryZ 0 Z) := by
  rw [carry_W Z false false 0 ⟨fun h => (nomatch h), fun _ => .inr rfl⟩]
  exact (V_W _).1 h

theorem EndF_snoc (b : Bool) (e : Nat) : ∀ (Z : List (Nat × Bool)) (p : Bool), EndF p (Z ++ [(e, b)]) ↔ b = false
  | [], _ => Iff.rfl
  | (_, b') :: l, _ => EndF_snoc b e l b'
theorem W_append (Y : List (Nat × Bool)) : ∀ (Z : List (Nat × Bool)) (p : Bool), EndF p Z → W p (Z ++ Y) = W p Z ++ W false Y
  | [], p, h => by have h : p = false := h; subst h; rfl
  | (e, b) :: l, p, h => by
    show rep10 _ ++ b :: W b (l ++ Y) = (rep10 _ ++ b :: W b l) ++ W false Y
    rw [W_append Y l b h, List.append_assoc, List.cons_append]
def zz (n : Nat) : List (Nat × Bool) := List.replicate n (0, false)
theorem W_zz : ∀ n, W false (zz n) = zs n
  | 0 => rfl
  | n + 1 => by show false :: W false (zz n) = false :: zs n; rw [W_zz]
theorem bits_zz (n : Nat) : bits (zz n) = zs n := by simp [bits, zz, zs]
theorem bits_append (a b : List (Nat × Bool)) : bits (a ++ b) = bits a ++ bits b := by simp [bits]

theorem carryZ_append : ∀ (c : Nat) (a b : List (Nat × Bool)), carryZ c (a ++ b) = carryZ c a ++ carryZ (load c (bits a)) b
  | _, [], _ => rfl
  | c, (e, true) :: l, b => by show (e, false) :: carryZ (c + 1) (l ++ b) = _; rw [carryZ_append]; rfl
  | 0, (e, false) :: l, b => by show (e, false) :: carryZ 0 (l ++ b) = _; rw [carryZ_append]; rfl
  | c + 1, (e, false) :: l, b => by show (e, true) :: carryZ c (l ++ b) = _; rw [carryZ_append]; rfl

def stepZ (Z : List (Nat × Bool)) : List (Nat × Bool) := carryZ 0 (Z ++ zz (balls (bits Z)) ++ [(0, false)])
theorem stepZ_end (Z : List (Nat × Bool)) : EndF false (stepZ Z) := by
  unfold stepZ
  rw [carryZ_append]
  have : load 0 (bits (Z ++ zz (balls (bits Z)))) = 0 := by
    rw [bits_append, bits_zz]; exact load_pad (Nat.le_refl _)
  rw [this]
  exact (EndF_snoc false 0 _ false).mpr rfl
theorem stepZ_bits (Z : List (Nat × Bool)) : stripB (bits (stepZ Z)) = rnd (stripB (bits Z)) := by
  unfold stepZ
  rw [bits_carryZ, bits_append, bits_append, bits_zz]
  have h0 : load 0 (bits Z ++ zs (balls (bits Z))) = 0 := load_pad (Nat.le_refl _)
  have e1 : bits Z ++ zs (balls (bits Z)) ++ bits [(0, false)] = bits Z ++ zs (balls (bits Z)) ++ zs 1 := rfl
  rw [e1, ← rnd_of (by rw [load_append, h0]; rfl), stripB_zs_right, stripB_zs_right]
theorem stepZ_W (Z : List (Nat × Bool)) (h : EndF false Z) : stripB (W false (stepZ Z)) = rnd (stripB (W false Z)) := by
  have h1 := W_step (stepZ_end Z)
  have e : W false (Z ++ zz (balls (bits Z)) ++ [(0, false)]) = W false Z ++ zs (balls (bits Z) + 1) := by
    rw [List.append_assoc, W_append _ Z false h]
    have : zz (balls (bits Z)) ++ [(0, false)] = zz (balls (bits Z) + 1) := by unfold zz; rw [List.replicate_succ']
    rw [this, W_zz]
  have hl : load 0 (W false Z ++ zs (balls (bits Z) + 1)) = 0 := by
    rw [load_append, load_W, load_zs]
    have := load_le 0 (bits Z)
    omega
  have h2 : stripB (W false (stepZ Z)) = stripB (carry 0 (W false Z ++ zs (balls (bits Z) + 1))) := by
    rw [← e]
    have := congrArg stripB h1
    rw [show [false] = zs 1 from rfl, stripB_zs_right] at this
    rw [this]
    exact (stripB_zs_left 1 _).symm
  rw [h2, ← rnd_of hl, stripB_zs_right]
def stepsZ : Nat → List (Nat × Bool) → List (Nat × Bool)
  | 0, Z => Z
  | n + 1, Z => stepZ (stepsZ n Z)
theorem stepsZ_end (Z : List (Nat × Bool)) (h : EndF false Z) : ∀ n, EndF false (stepsZ n Z)
  | 0 => h
  | _ + 1 => stepZ_end _
theorem stepsZ_bits (Z : List (Nat × Bool)) : ∀ n, stripB (bits (stepsZ n Z)) = rnds n (stripB (bits Z))
  | 0 => rfl
  | n + 1 => by show stripB (bits (stepZ (stepsZ n Z))) = rnd (rnds n _); rw [stepZ_bits, stepsZ_bits Z n]
theorem stepsZ_W (Z : List (Nat × Bool)) (h : EndF false Z) : ∀ n, stripB (W false (stepsZ n Z)) = rnds n (stripB (W false Z))
  | 0 => rfl
  | n + 1 => by show stripB (W false (stepZ (stepsZ n Z))) = rnd (rnds n _); rw [stepZ_W _ (stepsZ_end Z h n), stepsZ_W Z h n]

/-! the first ball goes on, the struck pairs stand still -/
def lead : Nat → List Bool → Prop
  | 0, _ => True
  | _ + 1, [] => True
  | n + 1, b :: l => b = false ∧ lead n l
theorem lead_carry : ∀ (n : Nat) (l : List Bool), lead n l → lead (n + 1) (carry 0 l)
  | _, [], _ => trivial
  | 0, true :: l, _ => ⟨rfl, trivial⟩
  | 0, false :: l, _ => ⟨rfl, trivial⟩
  | n + 1, true :: l, h => nomatch h.1
  | n + 1, false :: l, h => ⟨rfl, lead_carry n l h.2⟩
theorem lead_zs : ∀ (n : Nat) (l : List Bool) (k : Nat), lead n l → lead n (l ++ zs k)
  | 0, _, _, _ => trivial
  | n + 1, [], 0, _ => trivial
  | n + 1, [], k + 1, _ => ⟨rfl, lead_zs n [] k (by cases n <;> trivial)⟩
  | n + 1, b :: l, k, h => ⟨h.1, lead_zs n l k h.2⟩
def ez : Nat → List (Nat × Bool) → Prop
  | _, [] => True
  | 0, (e, _) :: l => e = 0 ∧ ez 0 l
  | n + 1, _ :: l => ez n l
theorem ez_carry : ∀ (n c : Nat) (Z : List (Nat × Bool)), ez n Z → ez n (carryZ c Z)
  | _, _, [], _ => by unfold carryZ ez; trivial
  | 0, c, (e, true) :: l, h => ⟨h.1, ez_carry 0 (c + 1) l h.2⟩
  | 0, 0, (e, false) :: l, h => ⟨h.1, ez_carry 0 0 l h.2⟩
  | 0, c + 1, (e, false) :: l, h => ⟨h.1, ez_carry 0 c l h.2⟩
  | n + 1, c, (e, true) :: l, h => ez_carry n (c + 1) l h
  | n + 1, 0, (e, false) :: l, h => ez_carry n 0 l h
  | n + 1, c + 1, (e, false) :: l, h => ez_carry n c l h
theorem ez_zz0 : ∀ k n, ez n (zz k)
  | 0, n => by cases n <;> trivial
  | k + 1, 0 => ⟨rfl, ez_zz0 k 0⟩
  | k + 1, n + 1 => ez_zz0 k n
theorem ez_zz : ∀ (n : Nat) (Z : List (Nat × Bool)) (k : Nat), ez n Z → ez n (Z ++ zz k)
  | n, [], k, _ => ez_zz0 k n
  | 0, (e, b) :: l, k, h => ⟨h.1, ez_zz 0 l k h.2⟩
  | n + 1, (e, b) :: l, k, h => ez_zz n l k h
theorem ez_len : ∀ (Z : List (Nat × Bool)) (n : Nat), Z.length ≤ n → ez n Z
  | [], n, _ => by cases n <;> trivial
  | x :: l, 0, h => absurd h (by simp)
  | x :: l, n + 1, h => ez_len l n (by simpa using h)
theorem step_pad (Z : List (Nat × Bool)) : Z ++ zz (balls (bits Z)) ++ [(0, false)] = Z ++ zz (balls (bits Z) + 1) := by
  rw [List.append_assoc]; unfold zz; rw [List.replicate_succ']
theorem stepsZ_lead (Z : List (Nat × Bool)) : ∀ n, lead n (bits (stepsZ n Z))
  | 0 => trivial
  | n + 1 => by
    show lead (n + 1) (bits (stepZ (stepsZ n Z)))
    unfold stepZ
    rw [bits_carryZ, step_pad, bits_append, bits_zz]
    exact lead_carry n _ (lead_zs n _ _ (stepsZ_lead Z n))
theorem stepsZ_ez (Z : List (Nat × Bool)) (k : Nat) (h : ez k Z) : ∀ n, ez k (stepsZ n Z)
  | 0 => h
  | n + 1 => by
    show ez k (stepZ (stepsZ n Z))
    unfold stepZ
    rw [step_pad]
    exact ez_carry k 0 _ (ez_zz k _ _ (stepsZ_ez Z k h n))
end
section

/-! every row is woven -/
theorem rep10_more (l : List Bool) : ∀ n : Nat, rep10 n ++ true :: false :: l = rep10 (n + 1) ++ l
  | 0 => rfl
  | n + 1 => by show true :: false :: (rep10 n ++ true :: false :: l) = true :: false :: (rep10 (n + 1) ++ l); rw [rep10_more l n]
theorem nec_back {p : Bool} {n : Nat} (h : p = true → n ≠ 0) : n - nec p false + nec p false = n := by
  cases p with
  | false => rfl
  | true => have := h rfl; show n - 1 + 1 = n; omega
theorem parse : ∀ (y : List Bool) (p : Bool) (n : Nat), (p = true → n = 0 → ∀ l, y ++ [false, false] ≠ false :: l) →
    ∃ Z, W p Z = rep10 n ++ (y ++ [false, false]) ∧ bits Z = strike (y ++ [false, false]) ∧ EndF p Z
  | [], p, n, h => by
    have hn : p = true → n ≠ 0 := fun e e0 => h e e0 [false] rfl
    refine ⟨[(n - nec p false, false), (0, false)], ?_, rfl, rfl⟩
    show rep10 (n - nec p false + nec p false) ++ false :: [false] = _
    rw [nec_back hn]; rfl
  | [true], p, n, _ => by
    refine ⟨[(n + 1 - nec p false, false)], ?_, rfl, rfl⟩
    show rep10 (n + 1 - nec p false + nec p false) ++ [false] = rep10 n ++ true :: false :: [false]
    rw [nec_back (fun _ => Nat.succ_ne_zero n), rep10_more]
  | true :: false :: y, p, n, _ => by
    obtain ⟨Z, h1, h2, h3⟩ := parse y p (n + 1) (fun _ e => absurd e (Nat.succ_ne_zero n))
    refine ⟨Z, ?_, ?_, h3⟩
    · rw [h1]; exact (rep10_more _ n).symm
    · rw [h2]; exact (strike_tf _).symm
  | true :: true :: y, p, n, _ => by
    obtain ⟨Z, h1, h2, h3⟩ := parse (true :: y) true 0 (fun _ _ l e => by cases e)
    refine ⟨(n, true) :: Z, ?_, ?_, h3⟩
    · show rep10 (n + nec p true) ++ true :: W true Z = _
      rw [h1]
      have : nec p true = 0 := by simp [nec]
      rw [this]; rfl
    · show true :: bits Z = strike (true :: true :: (y ++ [false, false]))
      rw [h2, strike_tt]; rfl
  | false :: y, p, n, h => by
    have hn : p = true → n ≠ 0 := fun e e0 => h e e0 _ rfl
    obtain ⟨Z, h1, h2, h3⟩ := parse y false 0 (fun e => nomatch e)
    refine ⟨(n - nec p false, false) :: Z, ?_, ?_, h3⟩
    · show rep10 (n - nec p false + nec p false) ++ false :: W false Z = _
      rw [nec_back hn, h1]; rfl
    · show false :: bits Z = strike (false :: (y ++ [false, false]))
      rw [h2, strike_false]

def pairs : List Bool → Nat
  | true :: false :: l => pairs l + 1
  | _ :: l => pairs l
  | [] => 0
theorem pairs_false (l : List Bool) : pairs (false :: l) = pairs l := by simp [pairs]
theorem pairs_tt (l : List Bool) : pairs (true :: true :: l) = pairs (true :: l) := by simp [pairs]
theorem pairs_tf (l : List Bool) : pairs (true :: false :: l) = pairs l + 1 := by simp [pairs]
theorem strike_size : ∀ l : List Bool, l.length = (strike l).length + 2 * pairs l ∧ balls l = balls (strike l) + pairs l
  | [] => by simp [strike, pairs, balls]
  | [true] => by simp [strike, pairs, balls]
  | true :: false :: l => by
    obtain ⟨h1, h2⟩ := strike_size l
    rw [strike_tf, pairs_tf]
    simp only [balls, List.length_cons, List.count_cons_self, List.count_cons_of_ne (by decide : (false : Bool) ≠ true), ne_eq] at *
    omega
  | true :: true :: l => by
    obtain ⟨h1, h2⟩ := strike_size (true :: l)
    rw [strike_tt, pairs_tt]
    simp only [balls, List.length_cons, List.count_cons_self] at *
    omega
  | false :: l => by
    obtain ⟨h1, h2⟩ := strike_size l
    rw [strike_false, pairs_false]
    simp only [balls, List.length_cons, List.count_cons_of_ne (by decide : (false : Bool) ≠ true), ne_eq] at *
    omega
theorem pairs_pos : ∀ (l : List Bool), 0 < balls l → 0 < pairs (l ++ [false])
  | [], h => by simp [balls] at h
  | [true], _ => by simp [pairs]
  | true :: false :: l, _ => by show 0 < pairs (true :: false :: (l ++ [false])); rw [pairs_tf]; omega
  | true :: true :: l, _ => by
    show 0 < pairs (true :: true :: (l ++ [false])); rw [pairs_tt]
    exact pairs_pos (true :: l) (by simp [balls])
  | false :: l, h => by
    show 0 < pairs (false :: (l ++ [false])); rw [pairs_false]
    exact pairs_pos l (by simpa [balls] using h)

/-! settled rows -/
theorem blk_zero : ∀ (l : List Bool) (w w' : Nat), blk 0 w l = blk 0 w' l
  | [], _, _ => rfl
  | false :: l, w, w' => by show blk 0 (w + 1) l = blk 0 (w' + 1) l; exact blk_zero l _ _
  | true :: l, _, _ => rfl
theorem blk_cons : ∀ (l : List Bool) (q w : Nat), 0 < q → ∃ q' w' r, blk q w l = (q', w') :: r ∧ q ≤ q'
  | [], q, w, h => ⟨q, w, [], by show (if q = 0 then _ else _) = _; rw [if_neg (by omega)], Nat.le_refl q⟩
  | false :: l, q, w, h => blk_cons l q (w + 1) h
  | true :: l, q, w, h => by
    by_cases hw : w = 0
    · obtain ⟨q', w', r, e, hq⟩ := blk_cons l (q + 1) 0 (by omega)
      exact ⟨q', w', r, by show (if q = 0 then _ else if w = 0 then _ else _) = _; rw [if_neg (by omega), if_pos hw, e], by omega⟩
    · exact ⟨q, w, blk 1 0 l, by show (if q = 0 then _ else if w = 0 then _ else _) = _; rw [if_neg (by omega), if_neg hw], Nat.le_refl q⟩
theorem settled_tail {x : Nat × Nat} {r : List (Nat × Nat)} (h : settled (x :: r)) : settled r := by
  obtain ⟨q, w⟩ := x
  cases r with
  | nil => trivial
  | cons y r => obtain ⟨q', w'⟩ := y; exact h.2.2
theorem settled_one {w q' w' : Nat} {l : List Bool} (hw : 1 ≤ w) (hq : 0 < q') (h : settled (blk q' w' l)) : settled ((1, w) :: blk q' w' l) := by
  obtain ⟨a, b, r, e, ha⟩ := blk_cons l q' w' hq
  rw [e] at h ⊢
  exact ⟨by omega, hw, h⟩
def inc (p : Nat × Nat) : Nat × Nat := (p.1 + 1, p.2 + 1)
theorem settled_map : ∀ ps : List (Nat × Nat), settled ps → settled (ps.map inc)
  | [], _ => trivial
  | [_], _ => trivial
  | (q, w) :: (q', w') :: r, h => ⟨Nat.succ_le_succ h.1, Nat.succ_le_succ h.2.1, settled_map ((q', w') :: r) h.2.2⟩
theorem blk_true_zero (w : Nat) (l : List Bool) : blk 0 w (true :: l) = blk 1 0 l := rfl
theorem blk_true_run {q : Nat} (h : 0 < q) (l : List Bool) : blk q 0 (true :: l) = blk (q + 1) 0 l := by
  show (if q = 0 then _ else if 0 = 0 then _ else _) = _
  rw [if_neg (by omega), if_pos rfl]
theorem blk_true_gap {q w : Nat} (h : 0 < q) (hw : 0 < w) (l : List Bool) : blk q w (true :: l) = (q, w) :: blk 1 0 l := by
  show (if q = 0 then _ else if w = 0 then _ else _) = _
  rw [if_neg (by omega), if_neg (by omega)]
theorem blk_false (q w : Nat) (l : List Bool) : blk q w (false :: l) = blk q (w + 1) l := rfl
theorem blk_inc : ∀ Z : List (Nat × Bool), ez 0 Z →
    (∀ q w, 0 < q → 0 < w → EndF false Z → blk (q + 1) (w + 1) (W false Z) = (blk q w (bits Z)).map inc) ∧
    (∀ q, 0 < q → EndF true Z → blk q 0 (W true Z) = (blk q 0 (bits Z)).map inc)
  | [], _ => ⟨fun q w h _ _ => by
      show (if q + 1 = 0 then _ else _) = List.map inc (if q = 0 then _ else _)
      rw [if_neg (by omega), if_neg (by omega)]; rfl, fun _ _ h => nomatch h⟩
  | (e, false) :: l, h => by
    have he : e = 0 := h.1
    subst he
    obtain ⟨hA, _⟩ := blk_inc l h.2
    constructor
    · intro q w hq hw hE
      show blk (q + 1) (w + 1) (false :: W false l) = (blk q w (false :: bits l)).map inc
      rw [blk_false, blk_false]
      exact hA q (w + 1) hq (by omega) hE
    · intro q hq hE
      show blk q 0 (true :: false :: false :: W false l) = (blk q 0 (false :: bits l)).map inc
      rw [blk_true_run hq, blk_false, blk_false, blk_false]
      exact hA q 1 hq (by omega) hE
  | (e, true) :: l, h => by
    have he : e = 0 := h.1
    subst he
    obtain ⟨_, hB⟩ := blk_inc l h.2
    constructor
    · intro q w hq hw hE
      show blk (q + 1) (w + 1) (true :: W true l) = (blk q w (true :: bits l)).map inc
      rw [blk_true_gap (by omega) (by omega), blk_true_gap hq hw, List.map_cons, hB 1 (by omega) hE]; rfl
    · intro q hq hE
      show blk q 0 (true :: W true l) = (blk q 0 (true :: bits l)).map inc
      rw [blk_true_run hq, blk_true_run hq]
      exact hB (q + 1) (by omega) hE
theorem settled_W0 : ∀ (Z : List (Nat × Bool)) (q w : Nat), q ≤ 1 → q ≤ w → ez 0 Z → EndF false Z → settled (blk 0 0 (bits Z)) → settled (blk q w (W false Z))
  | [], q, w, _, _, _, _, _ => by
    show settled (if q = 0 then [] else [(q, w)])
    split <;> trivial
  | (e, false) :: l, q, w, hq, hw, he, hE, hs => by
    have h0 : e = 0 := he.1
    subst h0
    show settled (blk q w (false :: W false l))
    rw [blk_false]
    refine settled_W0 l q (w + 1) hq (by omega) he.2 hE ?_
    rw [blk_zero (bits l) 0 1]; exact hs
  | (e, true) :: l, q, w, hq, hw, he, hE, hs => by
    have h0 : e = 0 := he.1
    subst h0
    have h1 : blk 1 0 (W true l) = (blk 1 0 (bits l)).map inc := (blk_inc l he.2).2 1 (by omega) hE
    have h2 : settled (blk 1 0 (W true l)) := by rw [h1]; exact settled_map _ hs
    show settled (blk q w (true :: W true l))
    by_cases h : q = 0
    · subst h; rw [blk_true_zero]; exact h2
    · have h3 : q = 1 := by omega
      subst h3
      rw [blk_true_gap (by omega) (by omega)]
      exact settled_one hw (by omega) h2
theorem settled_rep10 {X : List Bool} (hX : ∀ q w, q ≤ 1 → q ≤ w → settled (blk q w X)) : ∀ (n q w : Nat), q ≤ 1 → q ≤ w → settled (blk q w (rep10 n ++ X))
  | 0, q, w, hq, hw => hX q w hq hw
  | n + 1, q, w, hq, hw => by
    have ih := settled_rep10 hX n 1 1 (by omega) (by omega)
    show settled (blk q w (true :: false :: (rep10 n ++ X)))
    by_cases h : q = 0
    · subst h; rw [blk_true_zero, blk_false]; exact ih
    · have h3 : q = 1 := by omega
      subst h3
      rw [blk_true_gap (by omega) (by omega), blk_false]
      exact settled_one hw (by omega) ih
theorem settled_W : ∀ (k : Nat) (Z : List (Nat × Bool)) (q w : Nat), q ≤ 1 → q ≤ w → lead k (bits Z) → ez k Z → EndF false Z → settled (blk 0 0 (bits Z)) → settled (blk q w (W false Z))
  | 0, Z, q, w, hq, hw, _, he, hE, hs => settled_W0 Z q w hq hw he hE hs
  | k + 1, [], q, w, hq, hw, _, _, _, _ => by
    show settled (if q = 0 then [] else [(q, w)])
    split <;> trivial
  | k + 1, (e, b) :: l, q, w, hq, hw, hl, he, hE, hs => by
    have hb : b = false := hl.1
    subst hb
    refine settled_rep10 (X := false :: W false l) (fun q w hq hw => ?_) _ q w hq hw
    rw [blk_false]
    refine settled_W k l q (w + 1) hq (by omega) hl.2 he hE ?_
    rw [blk_zero (bits l) 0 1]; exact hs
theorem settled_cons_iff {q w : Nat} {ps : List (Nat × Nat)} : settled ((q, w) :: ps) ↔ (∀ x ∈ ps.head?, q ≤ x.1 ∧ q ≤ w) ∧ settled ps := by
  cases ps with
  | nil => simp [settled]
  | cons y r => obtain ⟨q', w'⟩ := y; simp [settled, and_assoc]
theorem blk_snoc : ∀ (l : List Bool) (q w : Nat), (blk q w (l ++ [false])).map (·.1) = (blk q w l).map (·.1) ∧ (settled (blk q w (l ++ [false])) ↔ settled (blk q w l))
  | [], q, w => by
    show (blk q (w + 1) []).map (·.1) = _ ∧ (settled (blk q (w + 1) []) ↔ _)
    unfold blk
    by_cases h : q = 0
    · rw [if_pos h, if_pos h]; exact ⟨rfl, Iff.rfl⟩
    · rw [if_neg h, if_neg h]; exact ⟨rfl, Iff.rfl⟩
  | false :: l, q, w => blk_snoc l q (w + 1)
  | true :: l, q, w => by
    by_cases h : q = 0
    · subst h
      show (blk 0 w (true :: (l ++ [false]))).map (·.1) = _ ∧ (settled (blk 0 w (true :: (l ++ [false]))) ↔ _)
      rw [blk_true_zero, blk_true_zero]; exact blk_snoc l 1 0
    · by_cases hw : w = 0
      · subst hw
        show (blk q 0 (true :: (l ++ [false]))).map (·.1) = _ ∧ (settled (blk q 0 (true :: (l ++ [false]))) ↔ _)
        rw [blk_true_run (by omega), blk_true_run (by omega)]; exact blk_snoc l (q + 1) 0
      · obtain ⟨h1, h2⟩ := blk_snoc l 1 0
        show (blk q w (true :: (l ++ [false]))).map (·.1) = _ ∧ (settled (blk q w (true :: (l ++ [false]))) ↔ _)
        rw [blk_true_gap (by omega) (by omega), blk_true_gap (by omega) (by omega)]
        refine ⟨by rw [List.map_cons, List.map_cons, h1], ?_⟩
        rw [settled_cons_iff, settled_cons_iff, h2]
        have hh : ((blk 1 0 (l ++ [false])).head?).map (·.1) = ((blk 1 0 l).head?).map (·.1) := by
          have := congrArg List.head? h1
          simpa using this
        have : (∀ x ∈ (blk 1 0 (l ++ [false])).head?, q ≤ x.1 ∧ q ≤ w) ↔ (∀ x ∈ (blk 1 0 l).head?, q ≤ x.1 ∧ q ≤ w) := by
          cases h3 : (blk 1 0 (l ++ [false])).head? <;> cases h4 : (blk 1 0 l).head? <;> rw [h3, h4] at hh <;> simp at hh ⊢
          rw [hh]; exact fun _ => Iff.rfl
        rw [this]
theorem blk_zs_right (l : List Bool) : ∀ n, (blk 0 0 (l ++ zs n)).map (·.1) = (blk 0 0 l).map (·.1) ∧ (settled (blk 0 0 (l ++ zs n)) ↔ settled (blk 0 0 l))
  | 0 => by simp [zs]
  | n + 1 => by
    have e : l ++ zs (n + 1) = (l ++ zs n) ++ [false] := by unfold zs; rw [List.replicate_succ', List.append_assoc]
    obtain ⟨h1, h2⟩ := blk_zs_right l n
    obtain ⟨h3, h4⟩ := blk_snoc (l ++ zs n) 0 0
    rw [e]
    exact ⟨h3.trans h1, h4.trans h2⟩
theorem blk_zs_left (l : List Bool) : ∀ n, blk 0 0 (zs n ++ l) = blk 0 0 l
  | 0 => rfl
  | n + 1 => by
    show blk 0 1 (zs n ++ l) = _
    rw [blk_zero _ 1 0, blk_zs_left l n]
theorem blk_strip (l : List Bool) : (blk 0 0 (stripB l)).map (·.1) = (blk 0 0 l).map (·.1) ∧ (settled (blk 0 0 (stripB l)) ↔ settled (blk 0 0 l)) := by
  obtain ⟨a, b, h⟩ := stripB_split l
  obtain ⟨h1, h2⟩ := blk_zs_right (zs a ++ stripB l) b
  rw [← h, blk_zs_left] at h1 h2
  exact ⟨h1.symm, h2.symm⟩
theorem lead_mono : ∀ (k t : Nat) (l : List Bool), k ≤ t → lead t l → lead k l
  | 0, _, _, _, _ => trivial
  | k + 1, 0, _, h, _ => absurd h (by omega)
  | k + 1, t + 1, [], _, _ => trivial
  | k + 1, t + 1, b :: l, h, hl => ⟨hl.1, lead_mono k t l (by omega) hl.2⟩
theorem strip_no_balls (l : List Bool) (h : balls l = 0) : stripB l = [] := by
  rcases stripB_head l with e | ⟨r, e⟩
  · exact e
  · have := balls_stripB l
    rw [e, h] at this
    simp [balls] at this
theorem rnds_nil : ∀ n, rnds n [] = []
  | 0 => rfl
  | n + 1 => by show rnd (rnds n []) = []; rw [rnds_nil n]; rfl
/-- as many rounds as boxes are enough -/
theorem settles : ∀ (n : Nat) (y : List Bool), balls y ≤ n → ∀ t, y.length ≤ t → settled (blk 0 0 (rnds t (stripB y)))
  | 0, y, h, t, _ => by
    rw [strip_no_balls y (by omega), rnds_nil]; trivial
  | n + 1, y, h, t, ht => by
    by_cases hb : balls y = 0
    · rw [strip_no_balls y hb, rnds_nil]; trivial
    · obtain ⟨Z, h1, h2, h3⟩ := parse y false 0 (fun e => nomatch e)
      have h1 : W false Z = y ++ zs 2 := h1
      obtain ⟨s1, s2⟩ := strike_size (y ++ [false, false])
      have s3 : 0 < pairs (y ++ [false, false]) := by
        have : y ++ [false, false] = (y ++ [false]) ++ [false] := by simp
        rw [this]
        exact pairs_pos _ (by rw [balls_append]; omega)
      have s4 : Z.length = (strike (y ++ [false, false])).length := by rw [← h2]; simp [bits]
      have s5 : balls (y ++ [false, false]) = balls y := by rw [balls_append]; rfl
      rw [List.length_append] at s1
      simp only [List.length_cons, List.length_nil] at s1
      have ih := settles n (bits Z) (by rw [h2]; omega) t (by rw [h2]; omega)
      rw [← stepsZ_bits, (blk_strip _).2] at ih
      have e : rnds t (stripB y) = stripB (W false (stepsZ t Z)) := by
        rw [stepsZ_W Z h3 t, h1, stripB_zs_right]
      rw [e, (blk_strip _).2]
      exact settled_W Z.length _ 0 0 (by omega) (by omega) (lead_mono _ t _ (by omega) (stepsZ_lead Z t)) (stepsZ_ez Z _ (ez_len Z _ (Nat.le_refl _)) t) (stepsZ_end Z h3 t) ih
end
section

def enc : List (Nat × Nat) → List Bool
  | [] => []
  | (q, w) :: r => List.replicate q true ++ (zs w ++ enc r)
theorem enc_blk : ∀ (l : List Bool) (q w : Nat), (0 < q → List.replicate q true ++ (zs w ++ l) = enc (blk q w l)) ∧ (q = 0 → ∃ a, zs w ++ l = zs a ++ enc (blk q w l))
  | [], q, w => ⟨fun h => by unfold blk; rw [if_neg (by omega)]; simp [enc], fun h => ⟨w, by unfold blk; rw [if_pos h]; rfl⟩⟩
  | false :: l, q, w => by
    obtain ⟨h1, h2⟩ := enc_blk l q (w + 1)
    have e : zs w ++ false :: l = zs (w + 1) ++ l := by
      unfold zs; rw [List.replicate_succ', List.append_assoc]; rfl
    rw [blk_false, e]
    exact ⟨h1, h2⟩
  | true :: l, q, w => by
    obtain ⟨h1, _⟩ := enc_blk l 1 0
    constructor
    · intro hq
      by_cases hw : w = 0
      · subst hw
        obtain ⟨h3, _⟩ := enc_blk l (q + 1) 0
        rw [blk_true_run hq, ← h3 (by omega), List.replicate_succ', List.append_assoc]; rfl
      · rw [blk_true_gap hq (by omega)]
        show _ = List.replicate q true ++ (zs w ++ enc (blk 1 0 l))
        rw [← h1 (by omega)]; rfl
    · intro hq
      subst hq
      exact ⟨w, by rw [blk_true_zero, ← h1 (by omega)]; rfl⟩
theorem enc_blk0 (l : List Bool) : ∃ a, l = zs a ++ enc (blk 0 0 l) := (enc_blk l 0 0).2 rfl
theorem blk_pos : ∀ (l : List Bool) (q w : Nat), ∀ p ∈ blk q w l, 0 < p.1
  | [], q, w, p, hp => by
    unfold blk at hp
    by_cases h : q = 0
    · rw [if_pos h] at hp; cases hp
    · rw [if_neg h] at hp; rw [List.mem_singleton.mp hp]; exact Nat.pos_of_ne_zero h
  | false :: l, q, w, p, hp => blk_pos l q (w + 1) p hp
  | true :: l, q, w, p, hp => by
    by_cases h : q = 0
    · subst h; rw [blk_true_zero] at hp; exact blk_pos l 1 0 p hp
    · by_cases hw : w = 0
      · subst hw; rw [blk_true_run (by omega)] at hp; exact blk_pos l (q + 1) 0 p hp
      · rw [blk_true_gap (by omega) (by omega)] at hp
        rcases List.mem_cons.mp hp with e | hp
        · rw [e]; exact Nat.pos_of_ne_zero h
        · exact blk_pos l 1 0 p hp

def bump : List (Nat × Nat) → List (Nat × Nat)
  | [] => []
  | [(q, w)] => [(q, w + 1)]
  | x :: y :: r => x :: bump (y :: r)
theorem enc_bump : ∀ ps : List (Nat × Nat), ps ≠ [] → enc (bump ps) = enc ps ++ [false]
  | [], h => absurd rfl h
  | [(q, w)], _ => by
    show List.replicate q true ++ (zs (w + 1) ++ []) = (List.replicate q true ++ (zs w ++ [])) ++ [false]
    unfold zs; rw [List.replicate_succ']; simp
  | (q, w) :: y :: r, _ => by
    show List.replicate q true ++ (zs w ++ enc (bump (y :: r))) = (List.replicate q true ++ (zs w ++ enc (y :: r))) ++ [false]
    rw [enc_bump (y :: r) (by simp)]; simp
theorem bump_fst : ∀ ps : List (Nat × Nat), (bump ps).map (·.1) = ps.map (·.1)
  | [] => rfl
  | [_] => rfl
  | x :: y :: r => by show x.1 :: (bump (y :: r)).map (·.1) = _; rw [bump_fst (y :: r)]; rfl
theorem bump_head : ∀ ps : List (Nat × Nat), ((bump ps).head?).map (·.1) = (ps.head?).map (·.1)
  | [] => rfl
  | [_] => rfl
  | _ :: _ :: _ => rfl
theorem bump_settled : ∀ ps : List (Nat × Nat), settled ps → settled (bump ps)
  | [], _ => trivial
  | [_], _ => trivial
  | (q, w) :: (q', w') :: r, h => by
    show settled ((q, w) :: bump ((q', w') :: r))
    rw [settled_cons_iff]
    refine ⟨?_, bump_settled _ h.2.2⟩
    intro x hx
    have := bump_head ((q', w') :: r)
    rw [Option.mem_def.mp hx] at this
    have e : x.1 = q' := by simpa using this
    rw [e]; exact ⟨h.1, h.2.1⟩
theorem bump_wf : ∀ ps : List (Nat × Nat), (∀ p ∈ ps, 0 < p.1) → settled ps → ∀ p ∈ bump ps, 0 < p.1 ∧ 0 < p.2
  | [], _, _, p, hp => by cases hp
  | [(q, w)], h, _, p, hp => by
    have := h (q, w) (List.mem_singleton.mpr rfl)
    rw [List.mem_singleton.mp hp]; exact ⟨this, Nat.succ_pos w⟩
  | (q, w) :: (q', w') :: r, h, hs, p, hp => by
    rcases List.mem_cons.mp hp with e | hp
    · have hq : 0 < q := h (q, w) (List.mem_cons_self ..)
      have := hs.2.1
      rw [e]; exact ⟨hq, by show 0 < w; omega⟩
    · exact bump_wf ((q', w') :: r) (fun p hp => h p (List.mem_cons_of_mem _ hp)) hs.2.2 p hp
def dec (p : Nat × Nat) : Nat × Nat := (p.1 - 1, p.2 - 1)
theorem strike_zs (X : List Bool) : ∀ n, strike (zs n ++ X) = zs n ++ strike X
  | 0 => rfl
  | n + 1 => by show strike (false :: (zs n ++ X)) = false :: (zs n ++ strike X); rw [strike_false, strike_zs X n]
theorem strike_run (X : List Bool) : ∀ q, strike (List.replicate (q + 1) true ++ false :: X) = List.replicate q true ++ strike X
  | 0 => strike_tf X
  | q + 1 => by
    have ih := strike_run X q
    show strike (true :: true :: (List.replicate q true ++ false :: X)) = true :: (List.replicate q true ++ strike X)
    rw [strike_tt, ← ih]; rfl
theorem strike_enc : ∀ ps : List (Nat × Nat), (∀ p ∈ ps, 0 < p.1 ∧ 0 < p.2) → strike (enc ps) = enc (ps.map dec)
  | [], _ => rfl
  | (q, w) :: r, h => by
    obtain ⟨h1, h2⟩ := h (q, w) (List.mem_cons_self ..)
    obtain ⟨q, rfl⟩ : ∃ k, q = k + 1 := ⟨q - 1, by have : 0 < q := h1; omega⟩
    obtain ⟨w, rfl⟩ : ∃ k, w = k + 1 := ⟨w - 1, by have : 0 < w := h2; omega⟩
    show strike (List.replicate (q + 1) true ++ false :: (zs w ++ enc r)) = List.replicate q true ++ (zs w ++ enc (r.map dec))
    rw [strike_run, strike_zs, strike_enc r fun p hp => h p (List.mem_cons_of_mem _ hp)]
theorem enc_len : ∀ ps : List (Nat × Nat), (∀ p ∈ ps, 0 < p.1 ∧ 0 < p.2) → (enc ps).length = (enc (ps.map dec)).length + 2 * ps.length
  | [], _ => rfl
  | (q, w) :: r, h => by
    obtain ⟨h1, h2⟩ := h (q, w) (List.mem_cons_self ..)
    have ih := enc_len r fun p hp => h p (List.mem_cons_of_mem _ hp)
    have h1 : 0 < q := h1
    have h2 : 0 < w := h2
    simp only [enc, List.map_cons, dec, List.length_append, List.length_replicate, zs, List.length_cons] at *
    omega
theorem settled_le : ∀ (ps : List (Nat × Nat)) (q w : Nat), settled ((q, w) :: ps) → ∀ p ∈ ps, q ≤ p.1
  | [], _, _, _, p, hp => by cases hp
  | (q', w') :: r, q, w, h, p, hp => by
    rcases List.mem_cons.mp hp with e | hp
    · rw [e]; exact h.1
    · exact Nat.le_trans h.1 (settled_le r q' w' h.2.2 p hp)
theorem enc_dec : ∀ ps : List (Nat × Nat), (∀ p ∈ ps, 0 < p.1) → settled ps → ∃ a, enc (ps.map dec) = zs a ++ enc ((ps.filter fun p => 1 < p.1).map dec)
  | [], _, _ => ⟨0, rfl⟩
  | (q, w) :: r, h, hs => by
    by_cases hq : 1 < q
    · have e : ((q, w) :: r).filter (fun p => decide (1 < p.1)) = (q, w) :: r := by
        rw [List.filter_eq_self]
        intro p hp
        rcases List.mem_cons.mp hp with e | hp
        · rw [e]; exact decide_eq_true hq
        · have := settled_le r q w hs p hp
          exact decide_eq_true (by omega)
      exact ⟨0, by rw [e]; rfl⟩
    · have h1 : 0 < q := h (q, w) (List.mem_cons_self ..)
      obtain ⟨a, ih⟩ := enc_dec r (fun p hp => h p (List.mem_cons_of_mem _ hp)) (settled_tail hs)
      have e : ((q, w) :: r).filter (fun p => decide (1 < p.1)) = r.filter (fun p => decide (1 < p.1)) := by
        rw [List.filter_cons_of_neg]; simpa using hq
      refine ⟨w - 1 + a, ?_⟩
      rw [e]
      have e0 : q - 1 = 0 := by omega
      show List.replicate (q - 1) true ++ (zs (w - 1) ++ enc (r.map dec)) = _
      rw [e0, ih]
      simp [zs, ← List.replicate_append_replicate]
theorem settled_filter_dec : ∀ ps : List (Nat × Nat), settled ps → settled ((ps.filter fun p => 1 < p.1).map dec)
  | [], _ => trivial
  | (q, w) :: r, hs => by
    by_cases hq : 1 < q
    · have e : ((q, w) :: r).filter (fun p => decide (1 < p.1)) = (q, w) :: r := by
        rw [List.filter_eq_self]
        intro p hp
        rcases List.mem_cons.mp hp with e | hp
        · rw [e]; exact decide_eq_true hq
        · have := settled_le r q w hs p hp
          exact decide_eq_true (by omega)
      rw [e]
      have key : ∀ ps : List (Nat × Nat), settled ps → settled (ps.map dec) := by
        intro ps
        induction ps with
        | nil => intro _; trivial
        | cons x r ih =>
          intro h
          obtain ⟨q, w⟩ := x
          cases r with
          | nil => trivial
          | cons y r =>
            obtain ⟨q', w'⟩ := y
            exact ⟨Nat.sub_le_sub_right h.1 1, Nat.sub_le_sub_right h.2.1 1, ih h.2.2⟩
      exact key _ hs
    · have e : ((q, w) :: r).filter (fun p => decide (1 < p.1)) = r.filter (fun p => decide (1 < p.1)) := by
        rw [List.filter_cons_of_neg]; simpa using hq
      rw [e]; exact settled_filter_dec r (settled_tail hs)
theorem lvl_nil : ∀ n, lvl n [] = 0
  | 0 => rfl
  | n + 1 => by show lvl n [false] = 0; rw [lvl_cons, lvl_nil n]
theorem gt_map (ps qs : List (Nat × Nat)) (n : Nat) (h : ps.map (·.1) = qs.map (·.1)) : (ps.filter fun p => n < p.1).length = (qs.filter fun p => n < p.1).length := by
  have e : ∀ l : List (Nat × Nat), (l.filter fun p => decide (n < p.1)).length = ((l.map (·.1)).filter fun q => decide (n < q)).length := by
    intro l; rw [List.filter_map]; simp [Function.comp_def]
  rw [e, e, h]
/-- in a settled row the strikings count the runs -/
theorem lvl_enc : ∀ (n : Nat) (ps : List (Nat × Nat)), (∀ p ∈ ps, 0 < p.1) → settled ps → lvl n (enc ps) = (ps.filter fun p => n < p.1).length
  | n, [], _, _ => lvl_nil n
  | 0, x :: r, h, hs => by
    have hb := enc_bump (x :: r) (by simp)
    have hw := bump_wf _ h hs
    have h1 := strike_enc _ hw
    have h2 := enc_len _ hw
    have h3 : (bump (x :: r)).length = (x :: r).length := by
      have := congrArg List.length (bump_fst (x :: r)); simpa using this
    have h4 : ((x :: r).filter fun p => decide (0 < p.1)) = x :: r := by
      rw [List.filter_eq_self]; intro p hp; exact decide_eq_true (h p hp)
    rw [h4]
    show runsN (enc (x :: r)) = _
    unfold runsN st0
    rw [← hb, h1]
    have h5 := congrArg List.length hb
    rw [List.length_append] at h5
    simp only [List.length_cons, List.length_nil] at h5 h3 ⊢
    omega
  | n + 1, x :: r, h, hs => by
    have hb := enc_bump (x :: r) (by simp)
    have hw := bump_wf _ h hs
    have hs' := bump_settled _ hs
    obtain ⟨a, ha⟩ := enc_dec (bump (x :: r)) (fun p hp => (hw p hp).1) hs'
    show lvl n (st0 (enc (x :: r))) = _
    unfold st0
    rw [← hb, strike_enc _ hw, ha, lvl_zs_left, lvl_enc n _ ?_ (settled_filter_dec _ hs')]
    · rw [gt_map (x :: r) (bump (x :: r)) (n + 1) (bump_fst _).symm]
      rw [List.filter_map, List.length_map, List.filter_filter]
      congr 1
      apply List.filter_congr
      intro p _
      have e : (decide (n < p.1 - 1) && decide (1 < p.1)) = decide (n + 1 < p.1) := by
        rw [Bool.eq_iff_iff, Bool.and_eq_true, decide_eq_true_eq, decide_eq_true_eq, decide_eq_true_eq]
        omega
      exact e
    · intro p hp
      obtain ⟨p', hp', rfl⟩ := List.mem_map.mp hp
      have := of_decide_eq_true (List.mem_filter.mp hp').2
      show 0 < p'.1 - 1; omega
/-- the runs of a row -/
def runsL (l : List Bool) : List Nat := (blk 0 0 l).map (·.1)
def gt (n : Nat) (r : List Nat) : Nat := (r.filter fun q => n < q).length
theorem lvl_settled (n : Nat) (l : List Bool) (h : settled (blk 0 0 l)) : lvl n l = gt n (runsL l) := by
  obtain ⟨a, ha⟩ := enc_blk0 l
  have h1 := lvl_enc n _ (blk_pos l 0 0) h
  conv => lhs; rw [ha]
  rw [lvl_zs_left, h1]
  unfold gt runsL
  rw [List.filter_map, List.length_map]; rfl

/-! the sizes out of the counts -/
def sorted : List Nat → Prop
  | a :: b :: r => a ≤ b ∧ sorted (b :: r)
  | _ => True
theorem settled_sorted : ∀ ps : List (Nat × Nat), settled ps → sorted (ps.map (·.1))
  | [], _ => trivial
  | [_], _ => trivial
  | (q, w) :: (q', w') :: r, h => ⟨h.1, settled_sorted ((q', w') :: r) h.2.2⟩
theorem sorted_tail {a : Nat} {r : List Nat} (h : sorted (a :: r)) : sorted r := by
  cases r with
  | nil => trivial
  | cons b r => exact h.2
theorem sorted_le : ∀ (r : List Nat) (a : Nat), sorted (a :: r) → ∀ b ∈ r, a ≤ b
  | [], _, _, b, hb => by cases hb
  | c :: r, a, h, b, hb => by
    rcases List.mem_cons.mp hb with e | hb
    · rw [e]; exact h.1
    · exact Nat.le_trans h.1 (sorted_le r c h.2 b hb)
theorem gt_count (n : Nat) : ∀ r : List Nat, gt n r = gt (n + 1) r + r.count (n + 1)
  | [] => rfl
  | a :: r => by
    have ih := gt_count n r
    unfold gt at *
    simp only [List.filter_cons, List.count_cons]
    by_cases h1 : n < a
    · by_cases h2 : n + 1 < a
      · have h3 : ¬ a = n + 1 := by omega
        simp [h1, h2, h3] at *; omega
      · have h3 : a = n + 1 := by omega
        simp [h3] at *; omega
    · have h2 : ¬ n + 1 < a := by omega
      have h3 : ¬ a = n + 1 := by omega
      simp [h1, h2, h3] at *; omega
theorem gt_zero {K : Nat} {r : List Nat} (h : gt K r = 0) : ∀ a ∈ r, a ≤ K := by
  intro a ha
  apply Nat.le_of_not_lt
  intro hlt
  have hm : a ∈ r.filter (fun q => decide (K < q)) := List.mem_filter.mpr ⟨ha, decide_eq_true hlt⟩
  unfold gt at h
  rw [List.length_eq_zero_iff.mp h] at hm
  cases hm
theorem sorted_split (v : Nat) : ∀ r : List Nat, sorted r → (∀ a ∈ r, v ≤ a) → ∃ r', r = List.replicate (r.count v) v ++ r' ∧ sorted r' ∧ (∀ a ∈ r', v + 1 ≤ a) ∧ ∀ u, v < u → r'.count u = r.count u
  | [], _, _ => ⟨[], rfl, trivial, fun a h => (nomatch h), fun _ _ => rfl⟩
  | a :: r, hs, hv => by
    by_cases h : a = v
    · subst h
      obtain ⟨r', e, h1, h2, h3⟩ := sorted_split a r (sorted_tail hs) fun b hb => hv b (List.mem_cons_of_mem _ hb)
      refine ⟨r', ?_, h1, h2, fun u hu => ?_⟩
      · rw [List.count_cons_self, List.replicate_succ, List.cons_append, ← e]
      · rw [h3 u hu, List.count_cons_of_ne (by omega)]
    · have hva : v < a := by have := hv a (List.mem_cons_self ..); omega
      have hc : (a :: r).count v = 0 := by
        rw [List.count_eq_zero]
        intro hm
        rcases List.mem_cons.mp hm with e | hm
        · exact h e.symm
        · have := sorted_le r a hs v hm; omega
      refine ⟨a :: r, by rw [hc]; rfl, hs, fun b hb => ?_, fun _ _ => rfl⟩
      rcases List.mem_cons.mp hb with e | hb
      · rw [e]; exact hva
      · have := sorted_le r a hs b hb; omega
theorem flatMap_same {α β : Type} {f g : α → List β} : ∀ {l : List α}, (∀ a ∈ l, f a = g a) → l.flatMap f = l.flatMap g
  | [], _ => rfl
  | a :: l, h => by
    rw [List.flatMap_cons, List.flatMap_cons, h a (List.mem_cons_self ..), flatMap_same fun b hb => h b (List.mem_cons_of_mem _ hb)]
theorem counts_back : ∀ (m v : Nat) (r : List Nat), sorted r → (∀ a ∈ r, v + 1 ≤ a) → (∀ a ∈ r, a ≤ v + m) →
    (List.range' v m).flatMap (fun n => List.replicate (r.count (n + 1)) (n + 1)) = r
  | 0, v, r, _, h1, h2 => by
    cases r with
    | nil => rfl
    | cons a r =>
      have := h1 a (List.mem_cons_self ..)
      have := h2 a (List.mem_cons_self ..)
      omega
  | m + 1, v, r, hs, h1, h2 => by
    obtain ⟨r', e, g1, g2, g3⟩ := sorted_split (v + 1) r hs h1
    rw [List.range'_succ, List.flatMap_cons]
    have ih := counts_back m (v + 1) r' g1 g2 (fun a ha => by
      have : a ∈ r := by rw [e]; exact List.mem_append.mpr (.inr ha)
      have := h2 a this; omega)
    have : (List.range' (v + 1) m).flatMap (fun n => List.replicate (r.count (n + 1)) (n + 1)) = (List.range' (v + 1) m).flatMap (fun n => List.replicate (r'.count (n + 1)) (n + 1)) := by
      apply flatMap_same
      intro n hn
      rw [g3 (n + 1) (by have := (List.mem_range'_1.mp hn).1; omega)]
    rw [this, ih]
    exact e.symm
/-- what the law reckons out of the counts -/
def sizesTo (cs : List Nat) : Nat → List Nat
  | 0 => []
  | n + 1 => sizesTo cs n ++ List.replicate (cs.getD n 0 - cs.getD (n + 1) 0) (n + 1)
theorem sizesTo_eq (cs : List Nat) : ∀ n, sizesTo cs n = (List.range' 0 n).flatMap (fun n => List.replicate (cs.getD n 0 - cs.getD (n + 1) 0) (n + 1))
  | 0 => rfl
  | n + 1 => by
    show sizesTo cs n ++ _ = _
    rw [List.range'_1_concat, List.flatMap_append, ← sizesTo_eq cs n]
    simp
theorem sizes_settled (l : List Bool) (h : settled (blk 0 0 l)) (K : Nat) (cs : List Nat) (hK : cs.length = K) (hc : ∀ n, n < K → cs.getD n 0 = lvl n l) (h0 : lvl K l = 0) : sizesTo cs K = runsL l := by
  rw [sizesTo_eq]
  have hs : sorted (runsL l) := settled_sorted _ h
  have hb := counts_back K 0 (runsL l) hs (fun a ha => by
    obtain ⟨p, hp, rfl⟩ := List.mem_map.mp ha
    have := blk_pos l 0 0 p hp; omega) (fun a ha => by
    rw [lvl_settled K l h] at h0
    have := gt_zero h0 a ha; omega)
  refine Eq.trans ?_ hb
  apply flatMap_same
  intro n hn
  have hn' : n < K := by have := (List.mem_range'_1.mp hn).2; omega
  have e1 : cs.getD n 0 = gt n (runsL l) := by rw [hc n hn', lvl_settled n l h]
  have e2 : cs.getD (n + 1) 0 = gt (n + 1) (runsL l) := by
    by_cases hn1 : n + 1 < K
    · rw [hc (n + 1) hn1, lvl_settled (n + 1) l h]
    · have : n + 1 = K := by omega
      rw [this, ← lvl_settled K l h, h0]
      simp [List.getD, hK]
  rw [e1, e2, gt_count n, Nat.add_sub_cancel_left]
end
section
/-- one step of the carrier: the load, the row made so far -/
def lay (c : Nat) (md : List Bool) (k : Nat) : Nat × List Bool := (c + 1 - min (c + 1) k, md ++ (false :: (List.replicate (min (c + 1) k) true ++ zs (k - min (c + 1) k))))
def pieces (b : Bool) : Nat → List Bool → List Nat
  | g, [] => [g]
  | g, x :: l => if x = b then g :: pieces b 0 l else pieces b (g + 1) l
theorem carry_zs : ∀ (k c : Nat), carry c (zs k) = List.replicate (min c k) true ++ zs (k - min c k)
  | 0, c => by simp [zs, carry]
  | k + 1, 0 => by rw [carry_zs0]; simp
  | k + 1, c + 1 => by
    show true :: carry c (zs k) = _
    rw [carry_zs k c]
    have e : min (c + 1) (k + 1) = min c k + 1 := by omega
    rw [e, List.replicate_succ, Nat.add_sub_add_right]; rfl
def layAll (s : Nat × List Bool) (gs : List Nat) : Nat × List Bool := gs.foldl (fun s k => lay s.1 s.2 k) s
theorem zs_snoc (g : Nat) (x : List Bool) : zs (g + 1) ++ x = zs g ++ false :: x := by
  unfold zs; rw [List.replicate_succ', List.append_assoc]; rfl
theorem layAll_pieces : ∀ (x : List Bool) (c : Nat) (md : List Bool) (g : Nat), (layAll (c, md) (pieces true g x)).2 = md ++ carry c (true :: (zs g ++ x))
  | [], c, md, g => by
    show (lay c md g).2 = md ++ (false :: carry (c + 1) (zs g ++ []))
    rw [List.append_nil, carry_zs]; rfl
  | true :: x, c, md, g => by
    have ih := layAll_pieces x (lay c md g).1 (lay c md g).2 0
    show (layAll (lay c md g) (pieces true 0 x)).2 = _
    rw [show lay c md g = ((lay c md g).1, (lay c md g).2) from rfl, ih]
    show md ++ (false :: (List.replicate (min (c + 1) g) true ++ zs (g - min (c + 1) g))) ++ carry (c + 1 - min (c + 1) g) (true :: (zs 0 ++ x)) = md ++ (false :: carry (c + 1) (zs g ++ true :: x))
    rw [carry_append, load_zs, carry_zs]
    have e : c + 1 - min (c + 1) g = c + 1 - g := by omega
    rw [e]
    simp [zs]
  | false :: x, c, md, g => by
    show (layAll (c, md) (pieces true (g + 1) x)).2 = _
    rw [layAll_pieces x c md (g + 1), zs_snoc]
theorem layAll_row : ∀ (x : List Bool) (g : Nat), (layAll (0, zs ((pieces true g x).headD 0)) (pieces true g x).tail).2 = zs g ++ carry 0 x
  | [], g => by show zs g = zs g ++ []; simp
  | true :: x, g => by
    show (layAll (0, zs g) (pieces true 0 x)).2 = _
    rw [layAll_pieces x 0 (zs g) 0]; simp [zs]
  | false :: x, g => by
    show (layAll (0, zs ((pieces true (g + 1) x).headD 0)) (pieces true (g + 1) x).tail).2 = _
    rw [layAll_row x (g + 1), zs_snoc]; rfl
theorem lay_len (c : Nat) (md : List Bool) (k : Nat) : (lay c md k).2.length = md.length + (k + 1) ∧ (lay c md k).1 ≤ c + 1 := by
  simp [lay, zs]; omega
theorem layAll_len : ∀ (gs : List Nat) (c : Nat) (md : List Bool), (layAll (c, md) gs).2.length = md.length + (gs.sum + gs.length) ∧ (layAll (c, md) gs).1 ≤ c + gs.length
  | [], c, md => by simp [layAll]
  | k :: gs, c, md => by
    obtain ⟨h1, h2⟩ := layAll_len gs (lay c md k).1 (lay c md k).2
    obtain ⟨h3, h4⟩ := lay_len c md k
    have e : layAll (c, md) (k :: gs) = layAll ((lay c md k).1, (lay c md k).2) gs := rfl
    rw [e]
    simp only [List.sum_cons, List.length_cons]
    omega
theorem pieces_size : ∀ (x : List Bool) (g : Nat), (pieces true g x).sum + (pieces true g x).length = g + x.length + 1
  | [], g => by simp [pieces]
  | true :: x, g => by
    have := pieces_size x 0
    simp only [pieces, if_true, List.sum_cons, List.length_cons] at *
    omega
  | false :: x, g => by
    have := pieces_size x (g + 1)
    simp only [pieces, Bool.false_eq_true, if_false, List.length_cons] at *
    omega
theorem take_size (gs : List Nat) (i : Nat) : (gs.take i).sum + (gs.take i).length ≤ gs.sum + gs.length := by
  have e := congrArg List.sum (List.take_append_drop i gs)
  have e2 := congrArg List.length (List.take_append_drop i gs)
  rw [List.sum_append] at e
  rw [List.length_append] at e2
  omega
theorem mem_size : ∀ (gs : List Nat) (k : Nat), k ∈ gs → k ≤ gs.sum
  | g :: gs, k, h => by
    rw [List.sum_cons]
    rcases List.mem_cons.mp h with e | h
    · omega
    · have := mem_size gs k h; omega
theorem layAll_take (s : Nat × List Bool) (gs : List Nat) (i k : Nat) (h : gs[i]? = some k) : layAll s (gs.take (i + 1)) = lay (layAll s (gs.take i)).1 (layAll s (gs.take i)).2 k := by
  unfold layAll
  rw [List.take_add_one, h]
  simp
end
section
theorem settled_getD : ∀ ps : List (Nat × Nat), settled ps ↔ ∀ k, k + 1 < ps.length → (ps.map (·.1)).getD k 0 ≤ (ps.map (·.1)).getD (k + 1) 0 ∧ (ps.map (·.1)).getD k 0 ≤ (ps.map (·.2)).getD k 0
  | [] => ⟨fun _ k h => by simp at h, fun _ => trivial⟩
  | [_] => ⟨fun _ k h => by simp at h, fun _ => trivial⟩
  | (q, w) :: (q', w') :: r => by
    have ih := settled_getD ((q', w') :: r)
    constructor
    · rintro ⟨h1, h2, h3⟩ k hk
      cases k with
      | zero => exact ⟨h1, h2⟩
      | succ k =>
        have := ih.mp h3 k (by simpa using hk)
        simpa using this
    · intro h
      have h0 := h 0 (by simp)
      refine ⟨by simpa using h0.1, by simpa using h0.2, ih.mpr fun k hk => ?_⟩
      have := h (k + 1) (by simpa using hk)
      simpa using this
theorem filt : ∀ ws : List Nat, (∀ k, k + 1 < ws.length → 0 < ws.getD k 0) → (∀ k, k + 1 < ws.length → (ws.filter (fun g => g != 0)).getD k 0 = ws.getD k 0) ∧ ws.length ≤ (ws.filter (fun g => g != 0)).length + 1
  | [], _ => ⟨fun k h => by simp at h, by simp⟩
  | [a], _ => ⟨fun k h => by simp at h, by simp⟩
  | a :: b :: r, h => by
    have h0 : 0 < a := by simpa using h 0 (by simp)
    have ih := filt (b :: r) (fun k hk => by have := h (k + 1) (by simpa using hk); simpa using this)
    have e : (a :: b :: r).filter (fun g => g != 0) = a :: (b :: r).filter (fun g => g != 0) := by
      rw [List.filter_cons_of_pos]; simp; omega
    rw [e]
    constructor
    · intro k hk
      cases k with
      | zero => rfl
      | succ k =>
        have := ih.1 k (by simpa using hk)
        simpa using this
    · have := ih.2
      simp only [List.length_cons] at *
      omega
theorem blk_gap : ∀ (l : List Bool) (q w : Nat), ∀ k, k + 1 < (blk q w l).length → 0 < ((blk q w l).map (·.2)).getD k 0
  | [], q, w, k, h => by
    unfold blk at h
    split at h <;> simp at h
  | false :: l, q, w, k, h => blk_gap l q (w + 1) k h
  | true :: l, q, w, k, h => by
    by_cases hq : q = 0
    · subst hq; rw [blk_true_zero] at h ⊢; exact blk_gap l 1 0 k h
    · by_cases hw : w = 0
      · subst hw; rw [blk_true_run (by omega)] at h ⊢; exact blk_gap l (q + 1) 0 k h
      · rw [blk_true_gap (by omega) (by omega)] at h ⊢
        cases k with
        | zero => simp; omega
        | succ k =>
          have := blk_gap l 1 0 k (by simpa using h)
          simpa using this
/-- what the law looks at, item by item -/
theorem settled_look (l : List Bool) (gs : List Nat) (hg : gs = ((blk 0 0 l).map (·.2)).filter (fun g => g != 0)) :
    (settled (blk 0 0 l) ↔ ∀ k, k + 1 < (runsL l).length → (runsL l).getD k 0 ≤ (runsL l).getD (k + 1) 0 ∧ (runsL l).getD k 0 ≤ gs.getD k 0) ∧ (runsL l).length ≤ gs.length + 1 := by
  have h1 := filt ((blk 0 0 l).map (·.2)) (fun k hk => blk_gap l 0 0 k (by simpa using hk))
  have hl : (runsL l).length = (blk 0 0 l).length := by simp [runsL]
  refine ⟨?_, ?_⟩
  · rw [settled_getD]
    constructor
    · intro h k hk
      have := h k (by omega)
      rw [hg, h1.1 k (by simp; omega)]
      exact this
    · intro h k hk
      have := h k (by omega)
      rw [hg, h1.1 k (by simpa using hk)] at this
      exact this
  · rw [hg, hl]
    have := h1.2
    simpa using this
end
section
theorem lev_succ : ∀ (n : Nat) (l : List Bool), lev (n + 1) l = st0 (lev n l)
  | 0, _ => rfl
  | n + 1, l => lev_succ n (st0 l)
theorem strike_pad (l : List Bool) : ∀ k, strike (l ++ zs (k + 1)) = st0 l ++ zs k
  | 0 => by show strike (l ++ [false]) = st0 l ++ []; rw [List.append_nil]; rfl
  | k + 1 => by
    have e : l ++ zs (k + 1 + 1) = (l ++ zs k) ++ [false, false] := by
      unfold zs
      rw [List.replicate_succ', List.replicate_succ', List.append_assoc, List.append_assoc]
      simp
    have e2 : (l ++ zs k) ++ [false] = l ++ zs (k + 1) := by
      unfold zs; rw [List.replicate_succ', List.append_assoc]
    rw [e, strike_ff, e2, strike_pad l k, List.append_assoc]
    congr 1
    unfold zs; rw [List.replicate_succ']
theorem runsN_pairs (l : List Bool) : runsN l = pairs (l ++ [false]) := by
  have h := (strike_size (l ++ [false])).1
  rw [List.length_append] at h
  unfold runsN st0
  simp only [List.length_cons, List.length_nil] at h
  omega
theorem st0_len (l : List Bool) : l.length + 1 = (st0 l).length + 2 * runsN l := by
  have h := (strike_size (l ++ [false])).1
  rw [List.length_append] at h
  rw [runsN_pairs]
  exact h
theorem balls_st0 (l : List Bool) : balls l = balls (st0 l) + runsN l := by
  have h := (strike_size (l ++ [false])).2
  rw [balls_append] at h
  rw [runsN_pairs]
  have e : balls [false] = 0 := rfl
  rw [e] at h
  exact h
theorem runsN_pos (l : List Bool) (h : 0 < balls l) : 0 < runsN l := by rw [runsN_pairs]; exact pairs_pos l h
theorem runsN_zero (l : List Bool) (h : balls l = 0) : runsN l = 0 := by have := balls_st0 l; omega
theorem mem_balls (l : List Bool) : true ∈ l ↔ 0 < balls l := by unfold balls; rw [List.count_pos_iff]
/-- striking out level by level -/
theorem lev_len (b : List Bool) : ∀ n, (lev n b).length ≤ b.length + n
  | 0 => Nat.le_refl _
  | n + 1 => by
    have h := lev_len b n
    have := st0_len (lev n b)
    rw [lev_succ]; omega
def levRow (b : List Bool) (n : Nat) : List Bool := lev n b ++ zs (b.length - n)
theorem levRow_len (b : List Bool) (n : Nat) (h : n ≤ b.length) : (levRow b n).length ≤ 2 * b.length := by
  have := lev_len b n
  simp [levRow, zs]; omega
theorem levRow_balls (b : List Bool) (n : Nat) : true ∈ levRow b n ↔ 0 < balls (lev n b) := by
  rw [mem_balls, levRow, balls_append, balls_zs]; omega
theorem balls_le_len (l : List Bool) : balls l ≤ l.length := List.count_le_length
theorem levRow_next (b : List Bool) (n : Nat) (h : n < b.length) : strike (levRow b n) = levRow b (n + 1) := by
  unfold levRow
  have e : b.length - n = (b.length - (n + 1)) + 1 := by omega
  rw [e, strike_pad, lev_succ]
theorem levRow_count (b : List Bool) (n : Nat) (h : n < b.length) : (((levRow b n).length : Int) - ((levRow b (n + 1)).length : Int)) = 2 * (lvl n b : Int) := by
  have h1 := st0_len (lev n b)
  have e1 : (levRow b n).length = (lev n b).length + (b.length - n) := by simp [levRow, zs]
  have e2 : (levRow b (n + 1)).length = (st0 (lev n b)).length + (b.length - (n + 1)) := by simp [levRow, zs, lev_succ]
  unfold lvl
  omega
end
section
open PySem PySem.W PyProof.Rows
noncomputable abbrev looseL : List PySem.Str := looseW hdTop.view_39 [Str.ofString "_initial_missing", Str.ofString "reduce", Str.ofString "_filemode_table"] ++ List.map (fun x => x.name) (recsOf hdTop.view_39) ++ List.map (fun x => x.fst) (litsOf hdTop.view_39) ++ List.map (fun x => x.name) (clssOf hdTop.view_39 (looseW hdTop.view_39 [Str.ofString "_initial_missing", Str.ofString "reduce", Str.ofString "_filemode_table"]))
def Ret (h₀ : Heap) (L : Addr) (m : PySem.Str → Option Value) (s : Shared) (Q : Value → Shared → Prop) (post : Value → Heap → Heap → Prop) : Prop :=
  ∀ (v : Value) (h' : Heap) (tk' : Nat), Fr h₀ L h' m → (∀ b o, s.heap.get? b = some o → h'.get? b = some o) → post v s.heap h' → Q v { s with heap := h', toks := tk' }
/-- what a call gives back, all that stood stays as it stood -/
abbrev Pg (d : Nat) (w : World) (mean : ExcName → Option Value) (mg mb : PySem.Str → Option Value) (f : Value) (vs : List Value) (pre : Heap → Prop) (post : Value → Heap → Heap → Prop) : Prop :=
  ∀ (dp un : Nat) (gd : Option (List Code)) (cn : PySem.Str) (cs : Scope) (a : Addr) (ccd : Value) (cl : List (PySem.Str × Addr)) (outer : List Env) (A₀ : Around) (base h₀ : Heap) (L : Addr) (m : PySem.Str → Option Value) (s : Shared) (Q E : Value → Shared → Prop),
    Below A₀ base outer h₀ → Fr h₀ L s.heap m → (hdTop.heap_39 w.params).In h₀ → Top topProg looseL mean mg mb h₀ → cs.kind = .function →
    dp + d < recursionLimit → un + 10 * d < cLine → pre s.heap → Ret h₀ L m s Q post →
    wpAny (model PySem.Challenge.rw_oy0058_01.row.prog w) (ktrTop dp un gd cn cs L a ccd cl outer) (call f vs) Q E s
theorem Pg.use {d : Nat} {w : World} {mean : ExcName → Option Value} {mg mb : PySem.Str → Option Value} {f : Value} {vs : List Value} {pre : Heap → Prop} {post : Value → Heap → Heap → Prop} (C : Pg d w mean mg mb f vs pre post)
    {dp un : Nat} {gd : Option (List Code)} {cn : PySem.Str} {cs : Scope} {a : Addr} {ccd : Value} {cl : List (PySem.Str × Addr)} {outer : List Env} {A₀ : Around} {base h₀ : Heap} {L : Addr} {m : PySem.Str → Option Value} {s : Shared} {Q E : Value → Shared → Prop} {news : List (Addr × Obj)}
    (B : Below A₀ base outer h₀) (F : Fr h₀ L s.heap m) (X : (hdTop.heap_39 w.params).In h₀) (N : News h₀ L s.heap news) (T : Top topProg looseL mean mg mb h₀) (hk : cs.kind = .function) (hd : dp + d < recursionLimit) (hu : un + 10 * d < cLine) (hp : pre s.heap)
    (h : ∀ (v : Value) (h' : Heap) (tk' : Nat), Fr h₀ L h' m → News h₀ L h' news → (∀ b o, s.heap.get? b = some o → h'.get? b = some o) → post v s.heap h' → Q v { s with heap := h', toks := tk' }) :
    wpAny (model PySem.Challenge.rw_oy0058_01.row.prog w) (ktrTop dp un gd cn cs L a ccd cl outer) (call f vs) Q E s :=
  C dp un gd cn cs a ccd cl outer A₀ base h₀ L m s Q E B F X T hk hd hu hp fun v h' tk' F' K' p => h v h' tk' F' (N.grown K') K' p
theorem Pg.mono {d d' : Nat} {w : World} {mean : ExcName → Option Value} {mg mb : PySem.Str → Option Value} {f : Value} {vs : List Value} {pre pre' : Heap → Prop} {post post' : Value → Heap → Heap → Prop} (C : Pg d w mean mg mb f vs pre post)
    (hd : d ≤ d') (h1 : ∀ h, pre' h → pre h) (h2 : ∀ v h h', post v h h' → post' v h h') : Pg d' w mean mg mb f vs pre' post' :=
  fun dp un gd cn cs a ccd cl outer A₀ base h₀ L m s Q E B F X T hk hdp hun hp hret =>
    C dp un gd cn cs a ccd cl outer A₀ base h₀ L m s Q E B F X T hk (by omega) (by omega) (h1 _ hp) fun v h' tk' F' K' p => hret v h' tk' F' K' (h2 _ _ _ p)
theorem noNews (h₀ : Heap) (L : Addr) (h : Heap) : News h₀ L h [] := fun _ hp => nomatch hp
theorem pg_ret {h₀ h' g : Heap} {L L' : Addr} {m m' : PySem.Str → Option Value} {s : Shared} {Q : Value → Shared → Prop} {tk' : Nat} {v : Value} {post : Value → Heap → Heap → Prop}
    (hret : Ret h₀ L m s Q post) (F : Fr h₀ L h' m) (G : GSub s.heap g []) (F' : Fr g L' h' m') (hp : post v s.heap h') : Q v { s with heap := h', toks := tk' } :=
  hret v h' tk' F (fun b o hb => F'.keep b o (G b o hb (by simp))) hp

theorem gen_toks {M : Model} {A : Around} {α : Type} {t : Sem α} {Q : α → Shared → Prop} {E : Value → Shared → Prop} {h : Heap} {g : Array GenState} {d : Drawn} {tk : Nat} {o : OsState}
    (h0 : 0 < tk) (hq : ∀ k, 0 < k → wpAny M A t Q E ⟨h, g, d, k, o⟩) : wpAny M A t Q E ⟨h, g, d, tk, o⟩ := hq tk h0

/-! rows as texts -/
def sgn (b : Bool) : Nat := if b then 111 else 32
def rowS (l : List Bool) : PySem.Str := ⟨(l.map sgn).toArray⟩
theorem rowS_length (l : List Bool) : (rowS l).length = l.length := by simp [rowS, PySem.Str.length]
theorem blankS : PySem.Str.ofString " " = ⟨#[32]⟩ := by decide +kernel
theorem ballS : PySem.Str.ofString "o" = ⟨#[111]⟩ := by decide +kernel
theorem item_row (l : List Bool) (i : Int) (h0 : 0 ≤ i) (h1 : i < l.length) : Txt.item (rowS l) i = ⟨#[sgn (l.getD i.toNat false)]⟩ := by
  unfold Txt.item Txt.charAt seqIndex?
  rw [rowS_length]
  have h : i.toNat < l.length := by omega
  simp only [rowS]
  have h2 : ¬ i < 0 := by omega
  simp [h0, h1, h, h2, List.getD]
theorem item_blank (l : List Bool) (i : Int) (h0 : 0 ≤ i) (h1 : i < l.length) : (Txt.item (rowS l) i == PySem.Str.ofString " ") = !(l.getD i.toNat false) := by
  rw [item_row l i h0 h1, blankS]
  cases l.getD i.toNat false <;> decide
theorem slice_row (l : List Bool) (i j : Int) (h0 : 0 ≤ i) (h1 : i ≤ j) (h2 : j ≤ l.length) : Txt.slice (rowS l) (some i) (some j) = rowS ((l.drop i.toNat).take (j - i).toNat) := by
  have h := slice_closes (x := rowS l) (i := i) (j := j) ⟨h0, h1, by simpa [rowS] using h2⟩
  have h := eq_of_beq h
  rw [h]
  simp [rowS, List.map_take, List.map_drop]
theorem slice_row_from (l : List Bool) (i : Int) (h0 : 0 ≤ i) (h1 : i ≤ l.length) : Txt.slice (rowS l) (some i) none = rowS (l.drop i.toNat) := by
  rw [slice_from_eq (x := rowS l) (b := ((rowS l).length : Int)) h0 (by rw [rowS_length]; exact h1) rfl, rowS_length]
  have e : ((l.length : Int) - i).toNat = l.length - i.toNat := by omega
  rw [e]
  simp only [rowS, List.map_drop]
  rw [List.take_of_length_le (by simp)]
end
section
open PySem PySem.W PyProof.Rows PySem.Calls PySem.Spec
/-! rules of the walk that were lacking -/
section
variable {prog : Program} {w : World} {A : Around} {E : Value → Shared → Prop} {s : Shared} {h₀ : Heap} {L : Addr} {m : PySem.Str → Option Value} {news : List (Addr × Obj)}
/-- iter(list) -/
theorem iter_list {l : Addr} {items : Array Value} {Q : Value → Shared → Prop} (hl : h₀.IsList l items) (F : Fr h₀ L s.heap m) (N : News h₀ L s.heap news)
    (h : ∀ (I : Addr) (h' : Heap), Fr h₀ L h' m → News h₀ L h' ((I, ({ cls := .type "list_iterator", data := .fields #[.ref l, .int 0 0] } : Obj)) :: news) → (∀ p ∈ news, p.1 < I) → L < I → Q (.ref I) { s with heap := h' }) :
    wpAny (model prog w) A (call (.builtin "iter") [.ref l]) Q E s := by
  refine call_function_entry (by decide +kernel) (by decide +kernel) kdk_entry_iter (kdk_args_iter _) ?_
  unfold Builtin.«iter»
  refine wpAny_bind (m := someArgs "iter" 1 2 _) (wpAny_of_eq (a := [Value.ref l]) (by first | rfl | kernel_rfl!) ?_)
  show wpAny _ _ (pyIter (.ref l) >>= _) _ _ _
  refine wpAny_bind (wpAny_pyIter_list (hl.at fun o e => F.keep l o e) ?_)
  exact wpAny_pure ⟨_, rfl, h _ _ (F.push _) (News.push F N _ rfl) (fun q hq => Heap.lt_size (N q hq).1) F.ns.lt⟩
/-- a for over an iterator of a list that stands in the base -/
theorem loop_it {env : Env} {x : PySem.Str} {body : List Stmt} {Q : Flow → Shared → Prop} {I l : Addr} {items : Array Value} {m₀ : PySem.Str → Option Value} (J : Nat → (PySem.Str → Option Value) → List (Addr × Obj) → Prop)
    (hh : A.handled = none) (hl : h₀.IsList l items) (hI : s.heap.IsListIter I l 0) (hI0 : h₀.get? I = none) (hIL : env.locals ≠ I) (F : Fr h₀ env.locals s.heap m₀) (N : News h₀ env.locals s.heap news) (hoff : ∀ p ∈ news, p.1 ≠ I) (hj : J 0 m₀ news)
    (turn : ∀ i v m₁ news₁ h tk own, items[i]? = some v → J i m₁ news₁ → (∀ p ∈ news₁, p.1 ≠ I) → h.IsListIter I l (i + 1) → Fr h₀ env.locals h (fun y => if y = x then some v else m₁ y) → News h₀ env.locals h (own ++ news₁) →
      wpAny (model prog w) A (execs body env) (LoopStepV h₀ env.locals [I] own (J (i + 1)) { s with heap := h, toks := tk } (fun v s' => Q (.ret v) s') fun s' => Q .next s') E { s with heap := h, toks := tk })
    (done : ∀ m₁ news₁ h tk, J items.size m₁ news₁ → Fr h₀ env.locals h m₁ → News h₀ env.locals h news₁ → (∀ p ∈ news₁, p.1 ≠ I) → Q .next { s with heap := h, toks := tk }) :
    wpAny (model prog w) A (pyIter (.ref I)) (fun it s₂ => LoopAtV prog w A h₀ env x body Q E it s₂) E s := by
  have hls : s.heap.IsList l items := hl.at fun o e => F.keep l o e
  obtain ⟨ol, hol, _⟩ := id hl
  have hne : l ≠ I := fun e => by rw [e, hI0] at hol; cases hol
  refine wpAny_pyIter_listiter hI ?_
  have W := Walks.list (prog := prog) (w := w) hh I l hne items
  refine ⟨_, _, _, items.size, _, _, m₀, news, J, rfl, W, ?_, ?_, ?_, ⟨hI, hls⟩, F, N, hj, ?_, ?_⟩
  · intro hm
    rcases List.mem_cons.mp hm with e | hm
    · exact hIL e
    · have e := List.mem_singleton.mp hm
      have h1 : l < h₀.objs.size := Heap.lt_size hol
      have h2 := F.above
      rw [e] at h2
      exact absurd h1 (Nat.not_lt.mpr h2)
  · intro b hb
    rw [List.mem_singleton.mp hb]; exact hI0
  · intro p hp hq
    exact hoff p hp (List.mem_singleton.mp hq)
  · rintro i v m₁ news₁ s₁ own ⟨hh', tk', rfl⟩ hin hP hJ hoff' _ _ _ hSt F₁ N₁
    exact turn i v m₁ news₁ hh' tk' own hP hJ (fun p hp e => hoff' p hp (List.mem_singleton.mpr e)) hSt.1 F₁ N₁
  · rintro h' tk m' news' F' N' hoff' hJ
    exact done m' news' h' tk hJ F' N' (fun p hp e => hoff' p hp (List.mem_singleton.mpr e))
def LjJ {σ : Type} (ps : σ → List (PySem.Str × Value)) (stored : List PySem.Str) (m₀ : PySem.Str → Option Value) (P : Nat → σ → List (Addr × Obj) → Prop) (i : Nat) (m : PySem.Str → Option Value) (nw : List (Addr × Obj)) : Prop :=
  ∃ c, (∀ p ∈ ps c, m p.1 = some p.2) ∧ (∀ z, (∀ p ∈ ps c, z ≠ p.1) → stored.contains z = false → m z = m₀ z) ∧ P i c nw
theorem ljJ_intro {σ : Type} {ps : σ → List (PySem.Str × Value)} {stored : List PySem.Str} {m₀ : PySem.Str → Option Value} {P : Nat → σ → List (Addr × Obj) → Prop} {i : Nat} {m : PySem.Str → Option Value} {nw : List (Addr × Obj)} (c : σ)
    (h1 : ∀ p ∈ ps c, m p.1 = some p.2) (h2 : ∀ z, (∀ p ∈ ps c, z ≠ p.1) → stored.contains z = false → m z = m₀ z) (h3 : P i c nw) : LjJ ps stored m₀ P i m nw := ⟨c, h1, h2, h3⟩
theorem loop_it2 {env : Env} {x : PySem.Str} {body : List Stmt} {Q : Flow → Shared → Prop} {I l : Addr} {items : Array Value} {m₀ : PySem.Str → Option Value} {σ : Type} (ps : σ → List (PySem.Str × Value)) (stored : List PySem.Str) (P : Nat → σ → List (Addr × Obj) → Prop) (c₀ : σ)
    (hh : A.handled = none) (hl : h₀.IsList l items) (hI : s.heap.IsListIter I l 0) (hI0 : h₀.get? I = none) (hIL : env.locals ≠ I) (F : Fr h₀ env.locals s.heap m₀) (N : News h₀ env.locals s.heap news) (hoff : ∀ p ∈ news, p.1 ≠ I) (hk : ∀ p ∈ ps c₀, m₀ p.1 = some p.2) (hp : P 0 c₀ news)
    (turn : ∀ i v c (u : PySem.Str → Option Value) news₁ h tk own, items[i]? = some v → P i c news₁ → (∀ p ∈ news₁, p.1 ≠ I) → h.IsListIter I l (i + 1) → Fr h₀ env.locals h (fun y => if y = x then some v else kstB (fun z => if stored.contains z then u z else m₀ z) (ps c) y) → News h₀ env.locals h (own ++ news₁) →
      wpAny (model prog w) A (execs body env) (LoopStepV h₀ env.locals [I] own (LjJ ps stored m₀ P (i + 1)) { s with heap := h, toks := tk } (fun v s' => Q (.ret v) s') fun s' => Q .next s') E { s with heap := h, toks := tk })
    (done : ∀ c (u : PySem.Str → Option Value) news₁ h tk, P items.size c news₁ → Fr h₀ env.locals h (kstB (fun z => if stored.contains z then u z else m₀ z) (ps c)) → News h₀ env.locals h news₁ → (∀ p ∈ news₁, p.1 ≠ I) → Q .next { s with heap := h, toks := tk }) :
    wpAny (model prog w) A (pyIter (.ref I)) (fun it s₂ => LoopAtV prog w A h₀ env x body Q E it s₂) E s := by
  have em : ∀ {c : σ} {m₁ : PySem.Str → Option Value}, (∀ p ∈ ps c, m₁ p.1 = some p.2) → (∀ z, (∀ p ∈ ps c, z ≠ p.1) → stored.contains z = false → m₁ z = m₀ z) → kstB (fun z => if stored.contains z then m₁ z else m₀ z) (ps c) = m₁ := by
    intro c m₁ h1 h2
    funext y
    refine kstB_eq h1 fun hn => ?_
    show (if stored.contains y = true then m₁ y else m₀ y) = m₁ y
    cases h3 : stored.contains y with
    | true => simp
    | false => simp only [Bool.false_eq_true, if_false]; exact (h2 y hn h3).symm
  refine loop_it (LjJ ps stored m₀ P) hh hl hI hI0 hIL F N hoff ⟨c₀, hk, fun _ _ _ => rfl, hp⟩ ?_ ?_
  · rintro i v m₁ news₁ h tk own hv ⟨c, h1, h2, h3⟩ ho hi F₁ N₁
    refine turn i v c m₁ news₁ h tk own hv h3 ho hi ?_ N₁
    rw [em h1 h2]; exact F₁
  · rintro m₁ news₁ h tk ⟨c, h1, h2, h3⟩ F₁ N₁ ho
    refine done c m₁ news₁ h tk h3 ?_ N₁ ho
    rw [em h1 h2]; exact F₁
/-- an object that a call has made, onto the ledger -/
theorem news_new {h h' : Heap} {p : Addr × Obj} (F : Fr h₀ L h m) (N : News h₀ L h' news) (hp : h'.get? p.1 = some p.2) (hn : h.get? p.1 = none) : News h₀ L h' (p :: news) := by
  intro q hq
  rcases List.mem_cons.mp hq with rfl | hq
  · refine ⟨hp, ?_, ?_⟩
    · intro e
      obtain ⟨o, _, _, ho, _⟩ := F.ns
      rw [e, ho] at hn
      cases hn
    · cases e : h₀.get? q.1 with
      | none => rfl
      | some o => rw [F.keep _ _ e] at hn; cases hn
  · exact N q hq
theorem news_newL {h h' : Heap} (F : Fr h₀ L h m) (N : News h₀ L h' news) : ∀ (nw : List (Addr × Obj)), (∀ p ∈ nw, h'.get? p.1 = some p.2 ∧ h.get? p.1 = none) → News h₀ L h' (nw ++ news)
  | [], _ => N
  | p :: r, hp => by
    have h1 := hp p (List.mem_cons_self ..)
    exact news_new F (news_newL F N r fun q hq => hp q (List.mem_cons_of_mem _ hq)) h1.1 h1.2
/-- a call of a function that stands in the base -/
theorem callWith_base {f : Addr} {o : Obj} {fd : FuncData} {e : PySem.Expr} {rest : List PySem.Expr} {env : Env} {pos : Pos} {Q : Value → Shared → Prop} (hf : h₀.get? f = some o) (hd : o.data = .func fd)
    (h : wpAny (model prog w) A (spliced (backTo pos (starEach (e :: rest) env))) (fun vs s₁ => s₁.heap.get? f = some o ∧ wpAny (model prog w) A (call (.ref f) ([] ++ vs)) Q E s₁) E s)
    (he : starEach (e :: rest) env = (false, eval e env) :: starEach rest env := by rfl) (hplain : (backTo pos (starEach rest env)).any (·.1) = false := by rfl) :
    wpAny (model prog w) A (callWith pos (.ref f) [] (backTo pos (starEach (e :: rest) env)) []) Q E s := by
  rw [he] at h ⊢
  refine callWith_of (P := fun h => h.get? f = some o) (by show ((false || (backTo pos (starEach rest env)).any (·.1)) || false) = false; rw [hplain]; rfl) ?_ (evalArgs_plain h)
  intro h' e'
  refine ⟨.frame, .inl rfl, (Looks.ld (part := none) e').andThen ?_⟩
  rw [hd]
  exact .now
/-- «is» between a tuple and an object of another class -/
theorem is_tup_other {M : Model} {x y : Addr} {xs : Array Value} {n : Nat} {oy : Obj} {Q : Value → Shared → Prop} (hx : s.heap.get? x = some ({ cls := .type "tuple", data := .seq xs n } : Obj)) (hy : s.heap.get? y = some oy) (hc : oy.cls = .type "object") (h : Q (.bool false) s) :
    wpAny M A (compareOp .Is (.ref x) (.ref y)) Q E s := by
  have hxy : x ≠ y := by
    intro e
    rw [e, hy] at hx
    rw [Option.some.inj hx] at hc
    exact absurd (show Value.type "tuple" = Value.type "object" from hc) (by decide)
  show wpAny M A (do return .bool (← isSame (.ref x) (.ref y))) Q E s
  refine wpAny_bind ?_
  show wpAny M A (if (x == y) = true then pure true else _) _ E s
  rw [if_neg (by simpa using hxy)]
  refine wpAny_bind (wpAny_load hx ?_)
  refine wpAny_bind (wpAny_load hy ?_)
  obtain ⟨cy, dy, dty, sy⟩ := oy
  have hc : cy = .type "object" := hc
  subst hc
  exact wpAny_pure (wpAny_pure h)
end
end
section
open PySem PySem.W PyProof.Rows PySem.Calls PySem.Spec
inductive Two (R : Value → Value → Prop) : List Value → List Value → Prop
  | nil : Two R [] []
  | cons {v y : Value} {vs ys : List Value} : R v y → Two R vs ys → Two R (v :: vs) (y :: ys)
theorem Two.snoc {R : Value → Value → Prop} {v y : Value} {vs ys : List Value} (h : Two R vs ys) (hr : R v y) : Two R (vs ++ [v]) (ys ++ [y]) := by
  induction h with
  | nil => exact .cons hr .nil
  | cons a _ ih => exact .cons a ih
theorem Two.length {R : Value → Value → Prop} {vs ys : List Value} (h : Two R vs ys) : ys.length = vs.length := by
  induction h with
  | nil => rfl
  | cons _ _ ih => simp [ih]
section
variable {prog : Program} {w : World} {A : Around} {h₀ : Heap} {L : Addr} {m : PySem.Str → Option Value} {env : Env} {elt : PySem.Expr} {x : PySem.Str} {scope : Scope} {cl : List (PySem.Str × Addr)} {s : Shared} {S : List (Addr × Obj) → Prop} {Fin : List Value → List (Addr × Obj) → Prop} {news : List (Addr × Obj)}
theorem comp_all {its : List Value} (R : Value → Value → Prop)
    (turn : ∀ v I oI C oC D m₂ ys h tk (E' : Value → Shared → Prop), v ∈ its → LCg.NsObj oC m₂ → m₂ x = some v → Fr h₀ L h m → News h₀ L h ((I, oI) :: (C, oC) :: (D, LCg.lst ys) :: news) → LCg.Off3 I C D news → ((@Ne Nat I C) ∧ (@Ne Nat I D) ∧ (@Ne Nat C D)) →
      wpAny (model prog w) A (eval elt (compEnvC scope cl C env)) (LCg.CompEnd h₀ L m { s with heap := h, toks := tk } I oI C oC D (LCg.lst ys) S (fun y news' => news' = news ∧ R v y)) E' { s with heap := h, toks := tk })
    (fin : ∀ ys, Two R its ys → Fin ys news) : LCg.CompRest prog w A h₀ L m env elt x scope cl s S (fun i v => its.toArray[i]? = some v) Fin its.toArray.size 0 [] news := by
  have key : ∀ (j i : Nat) (ys : List Value), i + j = its.length → Two R (its.take i) ys → LCg.CompRest prog w A h₀ L m env elt x scope cl s S (fun i v => its.toArray[i]? = some v) Fin j i ys news := by
    intro j
    induction j with
    | zero =>
      intro i ys hi hy
      have e : i = its.length := by omega
      subst e
      rw [List.take_length] at hy
      exact LCg.CompRest.zero (fin ys hy)
    | succ j ih =>
      intro i ys hi hy
      refine LCg.CompRest.succ ?_
      intro v I oI C oC D m₂ h tk E' hv hC hx F N off ne
      have hv' : its[i]? = some v := by simpa using hv
      refine wpAny_mono (turn v I oI C oC D m₂ ys h tk E' (List.mem_of_getElem? hv') hC hx F N off ne) (fun y s₂ hq => ?_) fun _ _ e => e
      obtain ⟨h', tk', nw, e, F', N', off', hS, hn, hr⟩ := hq
      rw [hn] at N' off' hS
      refine ⟨h', tk', news, e, F', N', off', hS, ?_⟩
      refine ih (i + 1) _ (by omega) ?_
      rw [List.take_add_one, hv']
      exact hy.snoc hr
  have e : its.toArray.size = its.length := by simp
  rw [e]
  exact key its.length 0 [] (by omega) (by simp only [List.take_zero]; exact .nil)
theorem compT_all {ct : PySem.Expr} {its : List Value} (q : Value → Bool) (R : Value → Value → Prop)
    (turn : ∀ v I oI C oC D m₂ ys h tk (E' : Value → Shared → Prop), v ∈ its → LCg.NsObj oC m₂ → m₂ x = some v → Fr h₀ L h m → News h₀ L h ((I, oI) :: (C, oC) :: (D, LCg.lst ys) :: news) → LCg.Off3 I C D news → ((@Ne Nat I C) ∧ (@Ne Nat I D) ∧ (@Ne Nat C D)) →
      wpAny (model prog w) A (isTrue ct (compEnvC scope cl C env) (eval ct (compEnvC scope cl C env))) (fun ok s' => if ok = true then
        wpAny (model prog w) A (eval elt (compEnvC scope cl C env)) (LCg.CompEnd h₀ L m { s with heap := h, toks := tk } I oI C oC D (LCg.lst ys) S (fun y news' => news' = news ∧ q v = true ∧ R v y)) E' s'
        else LCg.CompEnd h₀ L m { s with heap := h, toks := tk } I oI C oC D (LCg.lst ys) S (fun _ news' => news' = news ∧ q v = false) Value.none s') E' { s with heap := h, toks := tk })
    (fin : ∀ ys, Two R (its.filter q) ys → Fin ys news) : LCt.CompRestT prog w A h₀ L m env ct elt x scope cl s S (fun i v => its.toArray[i]? = some v) Fin its.toArray.size 0 [] news := by
  have key : ∀ (j i : Nat) (ys : List Value), i + j = its.length → Two R ((its.take i).filter q) ys → LCt.CompRestT prog w A h₀ L m env ct elt x scope cl s S (fun i v => its.toArray[i]? = some v) Fin j i ys news := by
    intro j
    induction j with
    | zero =>
      intro i ys hi hy
      have e : i = its.length := by omega
      subst e
      rw [List.take_length] at hy
      exact LCt.CompRestT.zero (fin ys hy)
    | succ j ih =>
      intro i ys hi hy
      refine LCt.CompRestT.succ ?_
      intro v I oI C oC D m₂ h tk E' hv hC hx F N off ne
      have hv' : its[i]? = some v := by simpa using hv
      refine wpAny_mono (turn v I oI C oC D m₂ ys h tk E' (List.mem_of_getElem? hv') hC hx F N off ne) (fun ok s₂ hq => ?_) fun _ _ e => e
      cases ok with
      | true =>
        simp only [if_true] at hq ⊢
        refine wpAny_mono hq (fun y s₃ hq => ?_) fun _ _ e => e
        obtain ⟨h', tk', nw, e, F', N', off', hS, hn, hqv, hr⟩ := hq
        rw [hn] at N' off' hS
        refine ⟨h', tk', news, e, F', N', off', hS, ?_⟩
        refine ih (i + 1) _ (by omega) ?_
        rw [List.take_add_one, hv', List.filter_append]
        have : (some v).toList.filter q = [v] := by simp [hqv]
        rw [this]
        exact hy.snoc hr
      | false =>
        simp only [Bool.false_eq_true, if_false] at hq ⊢
        obtain ⟨h', tk', nw, e, F', N', off', hS, hn, hqv⟩ := hq
        rw [hn] at N' off' hS
        refine ⟨h', tk', news, e, F', N', off', hS, ?_⟩
        refine ih (i + 1) _ (by omega) ?_
        rw [List.take_add_one, hv', List.filter_append]
        have : (some v).toList.filter q = [] := by simp [hqv]
        rw [this, List.append_nil]
        exact hy
  have e : its.toArray.size = its.length := by simp
  rw [e]
  exact key its.length 0 [] (by omega) (by simp only [List.take_zero, List.filter_nil]; exact .nil)
end
end
section
open PySem PySem.W PyProof.Rows PySem.Calls PySem.Spec
open AutoSeq1 (wpAny_loadPart')
/-! enumerate over a tuple -/
theorem meets_enum_tup (l : Addr) (items : Array Value) (n : Nat) (dct : Option Addr) (sl : Array (Option Value)) :
    Meets (Builtin.«enumerate.__new__» ⟨[.type "enumerate", .ref l], []⟩) (fun _ R s => s.heap.get? l = some { cls := .type "tuple", dict := dct, data := .seq items n, slots := sl } ∧
      R (.ok (.ret (.ref (s.heap.push { cls := .type "tuple_iterator", data := .fields #[.ref l, .int 0 0] }).objs.size)))
        { s with heap := (s.heap.push { cls := .type "tuple_iterator", data := .fields #[.ref l, .int 0 0] }).push { cls := .type "enumerate", data := .fields #[.none, .bool false, .ref s.heap.objs.size, rawInt 0, .none, .none] } }) :=
  .of_wp fun prog w A R s h => by
    obtain ⟨hp, g, d, tk, os⟩ := s; obtain ⟨hl, h⟩ := h
    have hsub := sub_enumerate
    have hL : Heap.IsTuple (Shared.heap ⟨hp, g, d, tk, os⟩) l items := ⟨_, hl, rfl, n, rfl⟩
    wp_walk using wpAny_loadPart' hl
    refine wpAny_stack_any fun st => wpAny_pure ?_
    split
    · rename_i c _ _ _ _ _
      cases (c == Value.type "enumerate")
      · wp_walk using wpAny_loadPart' hl, wpAny_pyIter_tuple hL
        exact ⟨_, rfl, h⟩
      · wp_walk using wpAny_loadPart' hl, wpAny_pyIter_tuple hL
        exact ⟨_, rfl, h⟩
    · wp_walk using wpAny_loadPart' hl, wpAny_pyIter_tuple hL
      exact ⟨_, rfl, h⟩
section
variable {prog : Program} {w : World} {A : Around} {E : Value → Shared → Prop} {s : Shared}
theorem call_enum_tup {l : Addr} {items : Array Value} {Q : Value → Shared → Prop} (hL : s.heap.IsTuple l items)
    (h : ∀ h', IsEnum h' (s.heap.objs.size + 1) s.heap.objs.size 0 .none → h'.IsTupleIter s.heap.objs.size l 0 → h'.objs.size = s.heap.objs.size + 2 →
      (∀ b o, s.heap.get? b = some o → h'.get? b = some o) → Q (.ref (s.heap.objs.size + 1)) { s with heap := h' }) :
    wpAny (model prog w) A (call (.type "enumerate") [.ref l]) Q E s := by
  obtain ⟨⟨c, dct, dt, sl⟩, hl, hc, n, hd⟩ := hL
  replace hc : c = .type "tuple" := hc
  replace hd : dt = .seq items n := hd
  subst hc hd
  refine callType_new F.called_enumerate (by decide) (F.typeCall_enumerate_1 _) (F.newCall_enumerate_1 _) (fun obj => F.args_object_init_2 obj _) F.entry_enumerate_new
    (meets_enum_tup l items n dct sl) ⟨hl, ?_⟩
  have hz : (s.heap.push { cls := .type "tuple_iterator", data := .fields #[.ref l, .int 0 0] }).objs.size = s.heap.objs.size + 1 := Heap.size_push ..
  show _ ∧ _
  rw [hz]
  have he : IsEnum ((s.heap.push { cls := .type "tuple_iterator", data := .fields #[.ref l, .int 0 0] }).push
      { cls := .type "enumerate", data := .fields #[.none, .bool false, .ref s.heap.objs.size, rawInt 0, .none, .none] }) (s.heap.objs.size + 1) s.heap.objs.size 0 .none := by
    have := Heap.get?_push_size (s.heap.push { cls := .type "tuple_iterator", data := .fields #[.ref l, .int 0 0] })
      (o := { cls := .type "enumerate", data := .fields #[.none, .bool false, .ref s.heap.objs.size, rawInt 0, .none, .none] }) rfl
    rw [hz] at this; exact this
  exact ⟨⟨_, he, rfl⟩, h _ he ⟨_, Heap.get?_push_of_some _ (Heap.get?_push_size _ rfl), rfl, rfl⟩ (by rw [Heap.size_push, hz]) fun b o x => Heap.get?_push_of_some _ (Heap.get?_push_of_some _ x)⟩
theorem nextOf_tup_item {it l : Addr} {i : Nat} {items : Array Value} {x : Value} {Q : Value → Shared → Prop} (hit : s.heap.IsTupleIter it l i)
    (hl : s.heap.IsTuple l items) (hx : items[i]? = some x)
    (hQ : ∀ h', h'.IsTupleIter it l (i + 1) → Heap.SameBut it s.heap h' → Q x { s with heap := h' }) :
    wpAny (model prog w) A (Builtin.SmallTypes.nextOf (.ref it)) Q E s := by
  obtain ⟨o, ho, hc, hd⟩ := id hit
  obtain ⟨ol, hol, _, nl, hdl⟩ := hl
  unfold Builtin.SmallTypes.nextOf
  refine wpAny_bind (wpAny_callSpecial?_slot (name := Str.ofString "__next__") hit.typeIs F.slot_tuple_iterator_next
    (wpAny_call_entry F.slot_tuple_iterator_next hit.typeIs F.entry_tuple_iterator_next ?_ (F.args_tuple_iterator_next_1 _)))
  show wpAny _ _ (field (.ref it) 0 >>= _) _ _ s
  refine wpAny_bind (wpAny_field ho hd (x := .ref l) rfl ?_)
  show wpAny _ _ (if (Value.ref l == Value.none) = true then _ else _) _ _ s
  rw [if_neg (show ¬ ((Value.ref l == Value.none) = true) from Bool.false_ne_true)]
  show wpAny _ _ (field (.ref it) 1 >>= _) _ _ s
  refine wpAny_bind (wpAny_field ho hd (x := .int i 0) rfl ?_)
  show wpAny _ _ (seqItems? (.ref l) >>= _) _ _ s
  refine wpAny_bind (wpAny_seqItems hol hdl ?_)
  simp only [Int.toNat_natCast, hx]
  refine wpAny_bind (wpAny_setField ho hd (by simp) (wpAny_pure ⟨x, rfl, wpAny_pure (hQ _ ?_ (Heap.SameBut.update ..))⟩))
  exact ⟨_, Heap.get?_update_self _ ho (Obj.isFreed_of_fields (Obj.data_mapFields hd _)), (Obj.cls_mapFields ..).trans hc, by
    rw [Obj.data_mapFields hd]; simp [rawInt]⟩
theorem nextOf_tup_end {it l : Addr} {i : Nat} {items : Array Value} {Q : Value → Shared → Prop} (hh : A.handled = none)
    (hit : s.heap.IsTupleIter it l i) (hl : s.heap.IsTuple l items) (hx : items[i]? = none)
    (hE : ∀ h' e, Heap.ExtBut it s.heap h' → (∃ o, h'.get? e = some o ∧ o.cls = .type "StopIteration") → E (.ref e) { s with heap := h' }) :
    wpAny (model prog w) A (Builtin.SmallTypes.nextOf (.ref it)) Q E s := by
  obtain ⟨o, ho, hc, hd⟩ := id hit
  obtain ⟨ol, hol, _, nl, hdl⟩ := hl
  unfold Builtin.SmallTypes.nextOf
  refine wpAny_bind (wpAny_callSpecial?_slot (name := Str.ofString "__next__") hit.typeIs F.slot_tuple_iterator_next
    (wpAny_call_entry F.slot_tuple_iterator_next hit.typeIs F.entry_tuple_iterator_next ?_ (F.args_tuple_iterator_next_1 _)))
  show wpAny _ _ (field (.ref it) 0 >>= _) _ _ s
  refine wpAny_bind (wpAny_field ho hd (x := .ref l) rfl ?_)
  show wpAny _ _ (if (Value.ref l == Value.none) = true then _ else _) _ _ s
  rw [if_neg (show ¬ ((Value.ref l == Value.none) = true) from Bool.false_ne_true)]
  show wpAny _ _ (field (.ref it) 1 >>= _) _ _ s
  refine wpAny_bind (wpAny_field ho hd (x := .int i 0) rfl ?_)
  show wpAny _ _ (seqItems? (.ref l) >>= _) _ _ s
  refine wpAny_bind (wpAny_seqItems hol hdl ?_)
  simp only [Int.toNat_natCast, hx]
  refine wpAny_bind (wpAny_rule (wpAny_bind (wpAny_setField ho hd (by simp) ?_)))
  show wpAny _ _ (newExc (.type "StopIteration") [] >>= _) _ _ _
  refine wpAny_bind ?_
  simp only [newExc, newTuple]
  refine wpAny_bind (wpAny_newObj_type ?_ (by size_fits))
  refine wpAny_bind (m := firstArgMember _ _) (wpAny_of_eq (a := Value.none) (by first | rfl | (simp only [firstArgMember]; rfl)) ?_)
  refine wpAny_newObj_type ?_ (by size_fits)
  simp only [raiseNew]
  refine wpAny_bind (wpAny_handled ?_)
  first | rw [show A.in1.handled = none from hh] | rw [hh]
  refine wpAny_bind (wpAny_pure (wpAny_throw ?_))
  exact hE _ _ (((Heap.SameBut.update ..).extBut.push _).push _) ⟨_, Heap.get?_push_size _ rfl, rfl⟩
theorem drawsTup (hh : A.handled = none) (it l : Addr) (hne : l ≠ it) (items : Array Value) :
    Draws prog w A it [it, l] items.size (fun i v => items[i]? = some v) (fun i h => h.IsTupleIter it l i ∧ h.IsTuple l items) where
  live := fun _ _ st => let ⟨o, ho, _⟩ := st.1; ⟨o, ho⟩
  frame := fun _ _ _ st hk => ⟨st.1.at fun o e => hk it (by simp) o e, st.2.at fun o e => hk l (by simp) o e⟩
  item := fun i s Q E hi st hQ => by
    refine nextOf_tup_item st.1 st.2 (x := items[i]) (by simp [hi]) fun h' hit' hs' => ?_
    exact hQ _ h' s.toks (by simp [hi]) ⟨hit', st.2.extBut hs'.extBut hne⟩ hs'
  done := fun s Q E st hE => nextOf_tup_end hh st.1 st.2 (by simp) hE
def EnS {σ : Type} (Led : σ → List (Addr × Obj)) (stored : List PySem.Str) (m₀ : PySem.Str → Option Value) (P : Nat → σ → Prop) (i : Nat) (m : PySem.Str → Option Value) (nx : List (Addr × Obj)) : Prop :=
  ∃ c : σ, nx = Led c ∧ (∀ z, stored.contains z = false → m z = m₀ z) ∧ P i c
theorem enum_loop {h₀ : Heap} {env : Env} {elts : List PySem.Expr} {k : Nat} {pos : Pos} {body : List Stmt} {Q : Flow → Shared → Prop} {l : Addr} {items : Array Value} {m₀ : PySem.Str → Option Value} {σ : Type} (Led : σ → List (Addr × Obj)) (stored : List PySem.Str) (P : Nat → σ → Prop) (c₀ : σ)
    (hh : A.handled = none) (hl : h₀.IsTuple l items) (F : Fr h₀ env.locals s.heap m₀) (N : News h₀ env.locals s.heap (Led c₀)) (hp : P 0 c₀)
    (turn : ∀ i x c (u : PySem.Str → Option Value) T t h₁ tk₁ own, items[i]? = some x → P i c → IsTup h₁ T #[.int i t, x] → OwnOff own ((Led c₀).map (·.1)) → (Led c).map (·.1) = (Led c₀).map (·.1) →
      Fr h₀ env.locals h₁ (fun z => if stored.contains z then u z else m₀ z) → News h₀ env.locals h₁ (Led c ++ own) →
      wpAny (model prog w) A (assign (.Tuple elts k pos) env (.ref T)) (fun _ s₃ => wpAny (model prog w) A (execs body env)
        (InvPostN h₀ env.locals (EnS Led stored m₀ P (i + 1)) own ((Led c₀).map (·.1)) { s with heap := h₁, toks := tk₁ } Q) E s₃) E { s with heap := h₁, toks := tk₁ })
    (done : ∀ c (u : PySem.Str → Option Value) h tk, P items.size c → Fr h₀ env.locals h (fun z => if stored.contains z then u z else m₀ z) → News h₀ env.locals h (Led c) → Q .next { s with heap := h, toks := tk }) :
    wpAny (model prog w) A (call (.type "enumerate") [.ref l]) (fun xv s₁ => wpAny (model prog w) A (pyIter xv) (fun it s₂ => TurnsAt prog w A h₀ env (.Tuple elts k pos) body Q E it s₂) E s₁) E s := by
  have hls : s.heap.IsTuple l items := hl.at fun o e => F.keep l o e
  obtain ⟨ol, hol, _⟩ := id hl
  have hlt0 : l < h₀.objs.size := Heap.lt_size hol
  have hlt : l < s.heap.objs.size := Nat.lt_of_lt_of_le hlt0 (Nat.le_of_lt (Nat.lt_of_le_of_lt F.above F.ns.lt))
  have hLs : env.locals < s.heap.objs.size := F.ns.lt
  have em : ∀ {m₁ : PySem.Str → Option Value}, (∀ z, stored.contains z = false → m₁ z = m₀ z) → (fun z => if stored.contains z then m₁ z else m₀ z) = m₁ := by
    intro m₁ h2
    funext y
    cases h3 : stored.contains y with
    | true => simp
    | false => simp only [Bool.false_eq_true, if_false]; exact (h2 y h3).symm
  refine call_enum_tup hls fun h' hE hI hsz hk => ?_
  refine wpAny_pyIter_enum hE ?_
  have W := KTurns.ofWalksU (elts := elts) (k := k) (pos := pos) (WalksT.enumerateD (drawsTup (prog := prog) (w := w) (A := A.in1) (by exact hh) s.heap.objs.size l (Nat.ne_of_lt hlt) items) (s.heap.objs.size + 1) (Nat.succ_ne_self _) (fun hm => (List.mem_cons.mp hm).elim (fun e => Nat.succ_ne_self _ e) fun e => ktu_ne 1 hlt (List.mem_singleton.mp e).symm) (by simp)).toU
  refine ⟨_, _, _, items.size, _, _, _, m₀, Led c₀, fun i m nx => nx.map (·.1) = (Led c₀).map (·.1) ∧ EnS Led stored m₀ P i m nx, rfl, W, ?_, ?_, ?_, ⟨⟨.none, hE⟩, hI, hls.at fun o e => hk l o e⟩, F.keeps hk, N.grown hk, ⟨rfl, c₀, rfl, fun _ _ => rfl, hp⟩, ?_, ?_⟩
  · intro hI'
    have hb' : env.locals = s.heap.objs.size + 1 ∨ env.locals = s.heap.objs.size ∨ env.locals = l := by simpa using hI'
    rcases hb' with e | e | e
    · exact ktu_ne 1 hLs e
    · exact Nat.ne_of_lt hLs e
    · have := F.above; rw [e] at this; exact absurd hlt0 (Nat.not_lt.mpr this)
  · intro b hb
    have hb' : b = s.heap.objs.size + 1 ∨ b = s.heap.objs.size := by simpa using hb
    rcases hb' with rfl | rfl
    · exact ktu_new F (Nat.le_add_right _ _)
    · exact ktu_new F (Nat.le_refl _)
  · intro p hp hI'
    have hb' : p.1 = s.heap.objs.size + 1 ∨ p.1 = s.heap.objs.size := by simpa using hI'
    have hlp := Heap.lt_size (N p hp).1
    rcases hb' with e | e
    · exact ktu_ne 1 hlp e
    · exact Nat.ne_of_lt hlp e
  · rintro i v m₁ news₁ h₁ tk₁ own hi ⟨T, vals, rfl, ⟨t, x, hx, rfl⟩, hT⟩ ⟨hadr, c, rfl, hm, hPc⟩ hoff hown _ _ hSt F₁ N₁
    have hsep : OwnOff own ((Led c₀).map (·.1)) := by
      intro p hp b hb e
      obtain ⟨q, hq, rfl⟩ := List.mem_map.mp hb
      have hlq := Heap.lt_size (N q hq).1
      have h1 : p.1 = s.heap.objs.size + 1 ∨ p.1 = s.heap.objs.size ∨ p.1 = l := by simpa using hown p hp
      rcases h1 with h1 | h1 | h1
      · exact ktu_ne 1 hlq (e.symm.trans h1)
      · exact Nat.ne_of_lt hlq (e.symm.trans h1)
      · have h3 := (N q hq).2.2
        rw [← e, h1, hol] at h3
        cases h3
    have N₂ : News h₀ env.locals h₁ (Led c ++ own) := fun p hp => N₁ p ((List.mem_append.mp hp).elim (fun h => List.mem_append.mpr (.inr h)) fun h => List.mem_append.mpr (.inl h))
    refine wpAny_mono (turn i x c m₁ T t h₁ tk₁ own hx hPc hT hsep hadr (by rw [em hm]; exact F₁) N₂) (fun _ s₃ h₃ => wpAny_mono h₃ (fun f s₂ p => ?_) fun _ _ e => e) fun _ _ e => e
    have fin : InvEndN h₀ env.locals (EnS Led stored m₀ P (i + 1)) own ((Led c₀).map (·.1)) { s with heap := h₁, toks := tk₁ } s₂ → LoopStepU h₀ env.locals [s.heap.objs.size + 1, s.heap.objs.size] own (fun m nx => nx.map (·.1) = (Led c₀).map (·.1) ∧ EnS Led stored m₀ P (i + 1) m nx) { s with heap := h₁, toks := tk₁ } .next s₂ := by
      rintro ⟨h', tk, m', news', nx, e, F', N', hn, ho, ha, hm'⟩
      refine ⟨rfl, h', tk, m', nx, e, F', fun p hp => N' p ((List.mem_append.mp hp).elim (ho p) (hn p)), fun p hp hq => ?_, ha, hm'⟩
      have h1 : p.1 ∈ nx.map (·.1) := List.mem_map.mpr ⟨p, hp, rfl⟩
      rw [ha, ← hadr] at h1
      obtain ⟨q, hq1, hq2⟩ := List.mem_map.mp h1
      exact hoff q hq1 (by rw [hq2]; exact hq)
    cases f with
    | ret v => exact .ret p
    | brk => exact .brk p
    | next => exact .next (fin p)
    | cont => exact .cont (fin p)
  · rintro h' tk m' news' F' N' _ ⟨_, c, rfl, hm, hPc⟩
    exact done c m' h' tk hPc (by rw [em hm]; exact F') N'
end
end
section
open PySem PySem.W PyProof.Rows PySem.Calls PySem.Spec
/-! a for over a tuple of the base, with an else -/
def FeEnd (h₀ : Heap) (L : Addr) (m₀ : PySem.Str → Option Value) (stored : List PySem.Str) (keep : List (Addr × Obj)) (P : Prop) (s s₂ : Shared) : Prop :=
  ∃ h' tk m' news', s₂ = { s with heap := h', toks := tk } ∧ Fr h₀ L h' m' ∧ News h₀ L h' news' ∧ (∀ p ∈ keep, p ∈ news') ∧ (∀ z, stored.contains z = false → m' z = m₀ z) ∧ P
def FePost (h₀ : Heap) (L : Addr) (m₀ : PySem.Str → Option Value) (stored : List PySem.Str) (keep : List (Addr × Obj)) (P : Prop) (s : Shared) (Q : Flow → Shared → Prop) (f : Flow) (s₂ : Shared) : Prop :=
  match f with
  | .ret v => Q (.ret v) s₂
  | .brk => Q .next s₂
  | _ => FeEnd h₀ L m₀ stored keep P s s₂
theorem fe_end {h₀ h' : Heap} {L : Addr} {m₀ m' : PySem.Str → Option Value} {stored : List PySem.Str} {keep news' : List (Addr × Obj)} {P : Prop} {s : Shared} {tk : Nat} (F : Fr h₀ L h' m') (N : News h₀ L h' news') (hk : ∀ p ∈ keep, p ∈ news') (hm : ∀ z, stored.contains z = false → m' z = m₀ z) (hp : P) :
    FeEnd h₀ L m₀ stored keep P s { s with heap := h', toks := tk } := ⟨h', tk, m', news', rfl, F, N, hk, hm, hp⟩
section
variable {prog : Program} {w : World} {A : Around} {E : Value → Shared → Prop} {s : Shared}
theorem forElse_tup {h₀ : Heap} {env : Env} {target : PySem.Expr} {body orelse : List Stmt} {Q : Flow → Shared → Prop} {l : Addr} {items : Array Value} {m₀ : PySem.Str → Option Value} {news : List (Addr × Obj)} (stored : List PySem.Str) (P : Nat → Prop)
    (hh : A.handled = none) (hl : h₀.IsTuple l items) (F : Fr h₀ env.locals s.heap m₀) (N : News h₀ env.locals s.heap news) (hp : P 0)
    (turn : ∀ i x (u : PySem.Str → Option Value) I oI h₁ tk₁, items[i]? = some x → P i → (∀ p ∈ news, p.1 < I) → oI.cls = .type "tuple_iterator" → Fr h₀ env.locals h₁ (fun z => if stored.contains z then u z else m₀ z) → News h₀ env.locals h₁ ((I, oI) :: news) →
      wpAny (model prog w) A (assign target env x) (fun _ s₃ => wpAny (model prog w) A (execs body env) (FePost h₀ env.locals m₀ stored ((I, oI) :: news) (P (i + 1)) s Q) E s₃) E { s with heap := h₁, toks := tk₁ })
    (done : ∀ (u : PySem.Str → Option Value) h tk, P items.size → Fr h₀ env.locals h (fun z => if stored.contains z then u z else m₀ z) → News h₀ env.locals h news → wpAny (model prog w) A (execs orelse env) Q E { s with heap := h, toks := tk })
    (hE : PassesOwn (model prog w) A env E) :
    wpAny (model prog w) A (pyIter (.ref l)) (fun it s₂ => codeAny (model prog w) A (.forLoop target it body orelse env) (fun r s' => match r with | .ok f => Q f s' | .error e => cameBackBy (model prog w) A env E e s') s₂) E s := by
  have hls : s.heap.IsTuple l items := hl.at fun o e => F.keep l o e
  obtain ⟨ol, hol, _⟩ := id hl
  have hlt0 : l < h₀.objs.size := Heap.lt_size hol
  have hlt : l < s.heap.objs.size := Nat.lt_of_lt_of_le hlt0 (Nat.le_of_lt (Nat.lt_of_le_of_lt F.above F.ns.lt))
  have hLs : env.locals < s.heap.objs.size := F.ns.lt
  have hI0 : h₀.get? s.heap.objs.size = none := ktu_new F (Nat.le_refl _)
  have em : ∀ {m₁ : PySem.Str → Option Value}, (∀ z, stored.contains z = false → m₁ z = m₀ z) → (fun z => if stored.contains z then m₁ z else m₀ z) = m₁ := by
    intro m₁ h2
    funext y
    cases h3 : stored.contains y with
    | true => simp
    | false => simp only [Bool.false_eq_true, if_false]; exact (h2 y h3).symm
  have hnI : ∀ p ∈ news, p.1 < s.heap.objs.size := fun p hp => Heap.lt_size (N p hp).1
  refine wpAny_pyIter_tuple hls ?_
  have up : ∀ b o, s.heap.get? b = some o → (s.heap.push { cls := .type "tuple_iterator", data := .fields #[.ref l, .int 0 0] }).get? b = some o := fun b o e => Heap.get?_push_of_some _ e
  refine codeAny_forLoop_any
    (fun k s' => ∃ h' tk m' i, s' = { s with heap := h', toks := tk } ∧ h'.IsTupleIter s.heap.objs.size l i ∧ h'.IsTuple l items ∧ Fr h₀ env.locals h' m' ∧ (∀ z, stored.contains z = false → m' z = m₀ z) ∧ News h₀ env.locals h' news ∧ P i ∧ i ≤ items.size ∧ k = items.size + 1 - i) ?_ (items.size + 1)
    ⟨_, s.toks, m₀, 0, rfl, ⟨_, Heap.get?_push_size _ rfl, rfl, rfl⟩, hls.push _, F.keeps up, fun _ _ => rfl, N.grown up, hp, Nat.zero_le _, rfl⟩
  rintro k s' ⟨h', tk, m', i, rfl, hit, ht, F', hm, N', hPi, hi, rfl⟩
  have hIL : env.locals ≠ s.heap.objs.size := Nat.ne_of_lt hLs
  by_cases hlti : i < items.size
  · refine wpAny_pyNext_tuple_item hit ht (x := items[i]) (by simp [hlti]) fun h₁ hit₁ hs₁ => ?_
    refine letGo_tupleiter hit₁ ?_
    have hk₁ : ∀ b o, b ∉ [s.heap.objs.size] → h'.get? b = some o → h₁.get? b = some o := fun b o hb e => hs₁.extBut b o (by simpa using hb) e
    have F₁ : Fr h₀ env.locals h₁ m' := LCg.fr_but F' hk₁ hIL hI0
    have N₁ : News h₀ env.locals h₁ news := LCg.news_but N' hk₁ fun p hp => Nat.ne_of_lt (hnI p hp)
    obtain ⟨oI, hoI, hcI, hdI⟩ := id hit₁
    have N₂ : News h₀ env.locals h₁ ((s.heap.objs.size, oI) :: news) := by
      intro p hp
      rcases List.mem_cons.mp hp with rfl | hp
      · exact ⟨hoI, Ne.symm hIL, hI0⟩
      · exact N₁ p hp
    refine wpAny_mono (turn i items[i] m' s.heap.objs.size oI h₁ tk (by simp [hlti]) hPi hnI hcI (by rw [em hm]; exact F₁) N₂) (fun _ s₃ h₃ => wpAny_passesOwn hE (wpAny_mono h₃ (fun f s₂ p => ?_) fun _ _ e => e)) hE
    have fin : FeEnd h₀ env.locals m₀ stored ((s.heap.objs.size, oI) :: news) (P (i + 1)) s s₂ → ∃ m, m < items.size + 1 - i ∧ ∃ h' tk m' i, s₂ = { s with heap := h', toks := tk } ∧ h'.IsTupleIter s.heap.objs.size l i ∧ h'.IsTuple l items ∧ Fr h₀ env.locals h' m' ∧ (∀ z, stored.contains z = false → m' z = m₀ z) ∧ News h₀ env.locals h' news ∧ P i ∧ i ≤ items.size ∧ m = items.size + 1 - i := by
      rintro ⟨h₂, tk₂, m₂, news₂, rfl, F₂, N₂', hk, hm₂, hP₂⟩
      exact ⟨items.size + 1 - (i + 1), by omega, h₂, tk₂, m₂, i + 1, rfl, ⟨oI, (N₂' _ (hk _ (List.mem_cons_self ..))).1, hcI, hdI⟩, hl.at fun o e => F₂.keep l o e, F₂, hm₂, fun p hp => N₂' p (hk p (List.mem_cons_of_mem _ hp)), hP₂, hlti, rfl⟩
    cases f with
    | ret v => exact p
    | brk => exact p
    | next => exact fin p
    | cont => exact fin p
  · have hin : i = items.size := by omega
    subst hin
    refine wpAny_pyNext_tuple_end hh hit ht (by simp) fun h₁ hs₁ => ?_
    have hk₁ : ∀ b o, b ∉ [s.heap.objs.size] → h'.get? b = some o → h₁.get? b = some o := fun b o hb e => hs₁ b o (by simpa using hb) e
    have F₁ : Fr h₀ env.locals h₁ m' := LCg.fr_but F' hk₁ hIL hI0
    have N₁ : News h₀ env.locals h₁ news := LCg.news_but N' hk₁ fun p hp => Nat.ne_of_lt (hnI p hp)
    exact wpAny_passesOwn hE (wpAny_mono (done m' h₁ tk hPi (by rw [em hm]; exact F₁) N₁) (fun f s₂ p => p) fun _ _ e => e)
end
end
section
open PySem PySem.W PyProof.Rows PySem.Calls PySem.Spec
theorem emptyS : PySem.Str.ofString "" = ⟨#[]⟩ := by decide +kernel
theorem sgnS (b : Bool) : (⟨#[sgn b]⟩ : PySem.Str) = rowS [b] := rfl
theorem rowS_append (a b : List Bool) : rowS a ++ rowS b = rowS (a ++ b) := Str.ext' (by simp [Str.cps_append, rowS])
theorem rowS_toList (l : List Bool) : (rowS l).cps.toList = l.map sgn := by simp [rowS]
theorem str_ext {a b : PySem.Str} (h : a.cps.toList = b.cps.toList) : a = b := Str.ext' (Array.toList_inj.mp h)
theorem rep_row (b : Bool) : ∀ (n : Nat) (l : List Bool), (List.replicate n (#[sgn b] : Array Nat)).foldl (· ++ ·) (l.map sgn).toArray = ((l ++ List.replicate n b).map sgn).toArray
  | 0, l => by simp
  | n + 1, l => by
    rw [List.replicate_succ, List.foldl_cons]
    have e : (l.map sgn).toArray ++ (#[sgn b] : Array Nat) = ((l ++ [b]).map sgn).toArray := by simp
    rw [e, rep_row b n (l ++ [b])]
    simp [List.replicate_succ]
theorem mul_row (b : Bool) (n : Int) (h : 0 ≤ n) : Txt.mul (⟨#[sgn b]⟩ : PySem.Str) n = rowS (List.replicate n.toNat b) := by
  unfold Txt.mul
  by_cases h1 : n < 1
  · have : n.toNat = 0 := by omega
    rw [if_pos h1, this]; rfl
  · rw [if_neg h1]
    by_cases h2 : n = 1
    · subst h2; rfl
    · have e : (n == 1 || (⟨#[sgn b]⟩ : PySem.Str).length == 0) = false := by
        have : (⟨#[sgn b]⟩ : PySem.Str).length = 1 := rfl
        rw [this]; simp [h2]
      rw [e]
      simp only [Bool.false_eq_true, if_false]
      have := rep_row b n.toNat []
      simp only [List.nil_append, List.map_nil] at this
      exact Str.ext' this
theorem mul_ball (n : Int) (h : 0 ≤ n) : Txt.mul (PySem.Str.ofString "o") n = rowS (List.replicate n.toNat true) := by
  rw [ballS]; exact mul_row true n h
theorem mul_blank (n : Int) (h : 0 ≤ n) : Txt.mul (PySem.Str.ofString " ") n = rowS (zs n.toNat) := by
  rw [blankS]; exact mul_row false n h

/-! splitting -/
theorem pieces_ne (b : Bool) : ∀ (l : List Bool) (g : Nat), pieces b g l ≠ []
  | [], _ => by simp [pieces]
  | x :: l, g => by
    unfold pieces
    split
    · simp
    · exact pieces_ne b l _
theorem join_cons (sep p : PySem.Str) {r : List PySem.Str} (h : r ≠ []) : Str.join sep (p :: r) = p ++ sep ++ Str.join sep r := by
  cases r with
  | nil => exact absurd rfl h
  | cons q r => rfl
theorem join_pieces (b : Bool) : ∀ (l : List Bool) (g : Nat), Str.join ⟨#[sgn b]⟩ ((pieces b g l).map fun g => rowS (List.replicate g (!b))) = rowS (List.replicate g (!b) ++ l)
  | [], g => by simp [pieces, Str.join]
  | x :: l, g => by
    unfold pieces
    by_cases h : x = b
    · rw [if_pos h, List.map_cons, join_cons _ _ (by simpa using pieces_ne b l 0), join_pieces b l 0, sgnS, rowS_append, rowS_append]
      rw [h]; simp
    · rw [if_neg h, join_pieces b l (g + 1)]
      have : x = !b := by cases x <;> cases b <;> simp at h ⊢
      rw [this, List.replicate_succ', List.append_assoc]; rfl
theorem free_unique {c : Nat} {p q r s : List Nat} (hp : c ∉ p) (hq : c ∉ q) (h : p ++ c :: r = q ++ c :: s) : p = q ∧ r = s := by
  induction p generalizing q with
  | nil =>
    cases q with
    | nil => simp at h; exact ⟨rfl, h⟩
    | cons a q => simp at h; exact absurd (by rw [h.1]; exact List.mem_cons_self ..) hq
  | cons a p ih =>
    cases q with
    | nil => simp at h; exact absurd (by rw [← h.1]; exact List.mem_cons_self ..) hp
    | cons b q =>
      simp only [List.cons_append, List.cons.injEq] at h
      obtain ⟨e1, e2⟩ := ih (fun m => hp (List.mem_cons_of_mem _ m)) (fun m => hq (List.mem_cons_of_mem _ m)) h.2
      exact ⟨by rw [h.1, e1], e2⟩
theorem join_unique (c : Nat) : ∀ (ps qs : List PySem.Str), ps ≠ [] → qs ≠ [] → (∀ p ∈ ps, c ∉ p.cps.toList) → (∀ p ∈ qs, c ∉ p.cps.toList) → Str.join ⟨#[c]⟩ ps = Str.join ⟨#[c]⟩ qs → ps = qs
  | [], _, h, _, _, _, _ => absurd rfl h
  | _ :: _, [], _, h, _, _, _ => absurd rfl h
  | [p], [q], _, _, _, _, h => by simp only [Str.join] at h; rw [h]
  | [p], q :: q' :: r, _, _, hp, _, h => by
    exfalso
    rw [join_cons _ q (by simp)] at h
    simp only [Str.join] at h
    have := congrArg (fun x : PySem.Str => x.cps.toList) h
    simp only [Str.cps_append, Array.toList_append] at this
    apply hp p (List.mem_singleton.mpr rfl)
    rw [this]; simp
  | p :: p' :: r, [q], _, _, _, hq, h => by
    exfalso
    rw [join_cons _ p (by simp)] at h
    simp only [Str.join] at h
    have := congrArg (fun x : PySem.Str => x.cps.toList) h
    simp only [Str.cps_append, Array.toList_append] at this
    apply hq q (List.mem_singleton.mpr rfl)
    rw [← this]; simp
  | p :: p' :: r, q :: q' :: t, _, _, hp, hq, h => by
    rw [join_cons _ p (by simp), join_cons _ q (by simp)] at h
    have := congrArg (fun x : PySem.Str => x.cps.toList) h
    simp only [Str.cps_append, Array.toList_append, List.append_assoc, List.cons_append, List.nil_append] at this
    obtain ⟨e1, e2⟩ := free_unique (hp p (List.mem_cons_self ..)) (hq q (List.mem_cons_self ..)) this
    have e3 := join_unique c (p' :: r) (q' :: t) (by simp) (by simp) (fun x hx => hp x (List.mem_cons_of_mem _ hx)) (fun x hx => hq x (List.mem_cons_of_mem _ hx)) (str_ext e2)
    rw [str_ext e1, e3]
theorem split_ne (x y : PySem.Str) : Txt.split x y ≠ [] := by
  unfold Txt.split
  split
  · simp
  · split
    · simp
    · rw [StrLaws.partsBetween_eq]
      obtain ⟨p, r, h⟩ := StrLaws.partsFrom_ne x y.length 0 (Builtin.Str.occurrences x y 0 x.length (x.length + 1))
      rw [h]; simp
theorem sgn_ne (b : Bool) : sgn b ≠ sgn (!b) := by cases b <;> decide
theorem split_row (b : Bool) (l : List Bool) : Txt.split (rowS l) ⟨#[sgn b]⟩ = (pieces b 0 l).map fun g => rowS (List.replicate g (!b)) := by
  refine join_unique (sgn b) _ _ (split_ne _ _) (by simpa using pieces_ne b l 0) (StrLaws.split_free _ _) ?_ ?_
  · intro p hp
    obtain ⟨g, _, rfl⟩ := List.mem_map.mp hp
    rw [rowS_toList, List.map_replicate]
    intro hm
    exact sgn_ne b (List.eq_of_mem_replicate hm)
  · rw [StrLaws.join_split, join_pieces]; rfl
theorem split_ball (l : List Bool) : Txt.split (rowS l) (PySem.Str.ofString "o") = (pieces true 0 l).map fun g => rowS (zs g) := by
  rw [ballS]; exact split_row true l
theorem join_empty (b : Bool) : ∀ gs : List Nat, Str.join ⟨#[]⟩ (gs.map fun g => rowS (List.replicate g b)) = rowS (List.replicate gs.sum b)
  | [] => rfl
  | [g] => by simp [Str.join]
  | g :: g' :: r => by
    have ih := join_empty b (g' :: r)
    rw [List.map_cons, join_cons _ _ (by simp), ih]
    have e : rowS (List.replicate g b) ++ (⟨#[]⟩ : PySem.Str) = rowS (List.replicate g b) := Str.append_empty _
    rw [e, rowS_append, List.replicate_append_replicate, ← List.sum_cons]
theorem pieces_sum : ∀ (l : List Bool) (g : Nat), (pieces false g l).sum = g + balls l
  | [], g => by simp [pieces, balls]
  | true :: l, g => by
    have := pieces_sum l (g + 1)
    simp only [pieces, balls, List.count_cons_self, Bool.true_eq_false, if_false] at *
    omega
  | false :: l, g => by
    have := pieces_sum l 0
    simp only [pieces, balls, if_true, List.sum_cons, List.count_cons_of_ne (by decide : (false : Bool) ≠ true)] at *
    omega
theorem replace_blank (l : List Bool) : Txt.replace (rowS l) (PySem.Str.ofString " ") (PySem.Str.ofString "") = rowS (List.replicate (balls l) true) := by
  rw [blankS, emptyS, StrLaws.replace_one]
  have h := split_row false l
  have e : (⟨#[sgn false]⟩ : PySem.Str) = ⟨#[32]⟩ := rfl
  rw [e] at h
  rw [h]
  have h2 := join_empty true (pieces false 0 l)
  rw [pieces_sum, Nat.zero_add] at h2
  exact h2
theorem contains_ball (l : List Bool) : Txt.contains (rowS l) (PySem.Str.ofString "o") = decide (true ∈ l) := by
  rw [ballS]
  unfold Txt.contains
  rw [StrLaws.found_one, rowS_toList]
  congr 1
  apply propext
  constructor
  · intro h
    obtain ⟨b, hb, e⟩ := List.mem_map.mp h
    cases b with
    | true => exact hb
    | false => exact absurd e (by decide)
  · intro h
    exact List.mem_map.mpr ⟨true, h, rfl⟩

/-! striking out -/
theorem at_row (l : List Bool) (k : Nat) : StrLaws.At (rowS l) ⟨#[111, 32]⟩ (rowS l).length k ↔ l[k]? = some true ∧ l[k + 1]? = some false := by
  unfold StrLaws.At
  rw [StrLaws.subAt_eq, rowS_toList, rowS_length]
  have e2 : (⟨#[111, 32]⟩ : PySem.Str).length = 2 := rfl
  have e3 : (⟨#[111, 32]⟩ : PySem.Str).cps.toList = [111, 32] := rfl
  rw [e2, e3, beq_iff_eq]
  constructor
  · rintro ⟨h1, h2⟩
    have hk : k < l.length := by omega
    have hk1 : k + 1 < l.length := by omega
    have g0 := congrArg (fun x : List Nat => x[0]?) h2
    have g1 := congrArg (fun x : List Nat => x[1]?) h2
    simp only [List.getElem?_take, List.getElem?_drop, List.getElem?_map, Nat.add_zero] at g0 g1
    simp only [List.getElem?_eq_getElem hk, List.getElem?_eq_getElem hk1] at g0 g1 ⊢
    simp at g0 g1
    constructor
    · cases hb : l[k] with
      | true => rfl
      | false => rw [hb] at g0; exact absurd g0 (by decide)
    · cases hb : l[k + 1] with
      | false => rfl
      | true => rw [hb] at g1; exact absurd g1 (by decide)
  · rintro ⟨h1, h2⟩
    obtain ⟨hk, e1⟩ := List.getElem?_eq_some_iff.mp h1
    obtain ⟨hk1, e2⟩ := List.getElem?_eq_some_iff.mp h2
    refine ⟨by omega, ?_⟩
    rw [List.drop_eq_getElem_cons (by simpa using hk), List.drop_eq_getElem_cons (by simpa using hk1)]
    simp [e1, e2, sgn]
theorem strike_none : ∀ l : List Bool, (∀ k, ¬ (l[k]? = some true ∧ l[k + 1]? = some false)) → strike l = l
  | [], _ => rfl
  | [true], _ => rfl
  | false :: l, h => by
    rw [strike_false, strike_none l fun k => h (k + 1)]
  | true :: false :: l, h => absurd ⟨rfl, rfl⟩ (h 0)
  | true :: true :: l, h => by
    rw [strike_tt, strike_none (true :: l) fun k => h (k + 1)]
theorem strike_at : ∀ (n : Nat) (l : List Bool), (∀ k, k < n → ¬ (l[k]? = some true ∧ l[k + 1]? = some false)) → l[n]? = some true → l[n + 1]? = some false → strike l = l.take n ++ strike (l.drop (n + 2))
  | 0, l, _, h1, h2 => by
    match l, h1, h2 with
    | true :: false :: l, _, _ => exact strike_tf l
  | n + 1, [], _, h1, _ => by simp at h1
  | n + 1, false :: l, h, h1, h2 => by
    rw [strike_false, strike_at n l (fun k hk => h (k + 1) (by omega)) h1 h2]; rfl
  | n + 1, [true], _, h1, _ => by simp at h1
  | n + 1, true :: false :: l, h, _, _ => absurd ⟨rfl, rfl⟩ (h 0 (by omega))
  | n + 1, true :: true :: l, h, h1, h2 => by
    rw [strike_tt, strike_at n (true :: l) (fun k hk => h (k + 1) (by omega)) h1 h2]; rfl
theorem sub_row (l : List Bool) (i j : Nat) : Builtin.Str.strSub (rowS l) i j = rowS ((l.drop i).take (j - i)) :=
  str_ext (by rw [StrLaws.strSub_toList, rowS_toList, rowS_toList, List.map_take, List.map_drop])
theorem strike_parts (l : List Bool) : ∀ (cuts : List Nat) (a f : Nat), StrLaws.ChainG (rowS l) ⟨#[111, 32]⟩ (rowS l).length a cuts f → (∀ k, f ≤ k → ¬ StrLaws.At (rowS l) ⟨#[111, 32]⟩ (rowS l).length k) →
    Str.join ⟨#[]⟩ (StrLaws.partsFrom (rowS l) 2 a cuts) = rowS (strike (l.drop a))
  | [], a, f, h, hf => by
    have e : f = a := h
    subst e
    show Builtin.Str.strSub (rowS l) f (rowS l).length = _
    rw [sub_row, rowS_length]
    congr 1
    rw [strike_none, List.take_of_length_le (by simp)]
    intro k
    rw [List.getElem?_drop, List.getElem?_drop]
    have := hf (f + k) (by omega)
    rw [at_row] at this
    exact this
  | c :: r, a, f, h, hf => by
    obtain ⟨h1, h2, h3, h4⟩ := h
    have ih := strike_parts l r (c + 2) f h4 hf
    show Str.join ⟨#[]⟩ (Builtin.Str.strSub (rowS l) a c :: StrLaws.partsFrom (rowS l) 2 (c + 2) r) = _
    obtain ⟨p, q, hpq⟩ := StrLaws.partsFrom_ne (rowS l) 2 (c + 2) r
    rw [join_cons _ _ (by rw [hpq]; simp), ih, sub_row]
    have e : rowS (List.take (c - a) (List.drop a l)) ++ (⟨#[]⟩ : PySem.Str) = rowS (List.take (c - a) (List.drop a l)) := Str.append_empty _
    rw [e, rowS_append]
    congr 1
    rw [at_row] at h2
    rw [strike_at (c - a) (l.drop a)]
    · rw [List.drop_drop]; congr 2; congr 1; omega
    · intro k hk
      have := h3 (a + k) (by omega) (by omega)
      rw [at_row] at this
      rw [List.getElem?_drop, List.getElem?_drop]; exact this
    · rw [List.getElem?_drop, show a + (c - a) = c by omega]; exact h2.1
    · rw [List.getElem?_drop, show a + (c - a + 1) = c + 1 by omega]; exact h2.2
theorem pairS : PySem.Str.ofString "o " = ⟨#[111, 32]⟩ := by decide +kernel
theorem replace_pair (l : List Bool) : Txt.replace (rowS l) (PySem.Str.ofString "o ") (PySem.Str.ofString "") = rowS (strike l) := by
  rw [pairS, emptyS]
  obtain ⟨f, h1, h2⟩ := StrLaws.occ_tight (rowS l) ⟨#[111, 32]⟩ (by decide)
  have h3 := strike_parts l _ 0 f h1 h2
  unfold Txt.replace
  have e : ((⟨#[111, 32]⟩ : PySem.Str).length == 0 && (⟨#[]⟩ : PySem.Str).length == 0) = false := rfl
  rw [e, Bool.or_false]
  cases he : (Builtin.Str.occurrences (rowS l) ⟨#[111, 32]⟩ 0 (rowS l).length ((rowS l).length + 1)).isEmpty
  · rw [if_neg Bool.false_ne_true, StrLaws.glued_eq_join, StrLaws.partsBetween_eq]
    exact h3
  · rw [if_pos rfl]
    have := List.isEmpty_iff.mp he
    rw [this] at h3
    simp only [StrLaws.partsFrom, Str.join, List.drop_zero] at h3
    rw [← h3, sub_row, rowS_length]
    congr 1
    simp
end
section
open PySem PySem.W PyProof.Rows PySem.Calls PySem.Spec
open PySem.StrLaws PySem.Builtin.Str
/-- where the words of a row stand -/
def wds : Nat → Option Nat → List Bool → List (Nat × Nat)
  | i, some b, [] => [(b, i)]
  | _, none, [] => []
  | i, some b, false :: l => (b, i) :: wds (i + 1) none l
  | i, none, true :: l => wds (i + 1) (some i) l
  | i, some b, true :: l => wds (i + 1) (some b) l
  | i, none, false :: l => wds (i + 1) none l
theorem space32 : Unicode.isSpace 32 = true := by decide +kernel
theorem space111 : Unicode.isSpace 111 = false := by decide +kernel
theorem getD_row (l : List Bool) (i : Nat) (b : Bool) (h : l[i]? = some b) : (rowS l).cps.getD i 0 = sgn b := by
  have : (rowS l).cps.toList[i]? = some (sgn b) := by rw [rowS_toList, List.getElem?_map, h]; rfl
  exact getD_of_getElem? this
theorem sw_row (l : List Bool) : ∀ (r : List Bool) (cur : Nat) (ws : Array (Nat × Nat)) (st : Option Nat), l.drop cur = r → cur + r.length = l.length → ws.size ≤ cur →
    swEnd (rowS l) (forIn (List.range' cur r.length) ((none, ws, st) : SwSt) (swBody (rowS l) ((rowS l).length + 1))).run = ws.toList ++ wds cur st r
  | [], cur, ws, st, hr, h1, hw => by
    have hc : cur = l.length := by simpa using h1
    cases st with
    | none => simp [swEnd, wds]
    | some b =>
      show (ws.push (b, (rowS l).length)).toList = ws.toList ++ [(b, cur)]
      rw [rowS_length, hc, Array.toList_push]
  | b :: r, cur, ws, st, hr, h1, hw => by
    have hb : l[cur]? = some b := by
      have := congrArg (fun x : List Bool => x[0]?) hr
      simpa [List.getElem?_drop] using this
    have hr' : l.drop (cur + 1) = r := by
      have := congrArg (fun x : List Bool => x.drop 1) hr
      simpa [List.drop_drop, Nat.add_comm] using this
    have h1' : cur + 1 + r.length = l.length := by simp at h1; omega
    rw [List.length_cons, List.range'_succ, List.forIn_cons]
    have hsz : (ws.size == (rowS l).length + 1) = false := by
      rw [rowS_length]; simp at h1 ⊢; omega
    unfold swBody
    simp only [hsz, Bool.false_eq_true, if_false]
    rw [getD_row l cur b hb]
    cases b with
    | true =>
      have e : Unicode.isSpace (sgn true) = false := space111
      rw [e]
      cases st with
      | none => exact sw_row l r (cur + 1) ws (some cur) hr' h1' (by omega)
      | some b0 => exact sw_row l r (cur + 1) ws (some b0) hr' h1' (by omega)
    | false =>
      have e : Unicode.isSpace (sgn false) = true := space32
      rw [e]
      cases st with
      | none => exact sw_row l r (cur + 1) ws none hr' h1' (by omega)
      | some b0 =>
        have ih := sw_row l r (cur + 1) (ws.push (b0, cur)) none hr' h1' (by rw [Array.size_push]; omega)
        rw [Array.toList_push, List.append_assoc] at ih
        exact ih
theorem words_row (l : List Bool) : (Txt.words (rowS l)).map (fun x => x.length) = (wds 0 none l).map (fun p => p.2 - p.1) := by
  have h := sw_row l l 0 #[] none rfl (by simp) (by simp)
  have h2 : spaceWords (rowS l) ((rowS l).length + 1) = wds 0 none l := by
    rw [sw_eq]
    rw [rowS_length] at h ⊢
    simpa using h
  have hsub : ∀ p ∈ wds 0 none l, p.2 ≤ (rowS l).length := by
    have := (sw_weight (rowS l)).2
    rw [h2] at this; exact this
  have key : ∀ ps : List (Nat × Nat), (∀ p ∈ ps, p.2 ≤ (rowS l).length) → (ps.map fun (p : Nat × Nat) => (strSub (rowS l) p.1 p.2).length) = ps.map (fun p => p.2 - p.1) := by
    intro ps hp
    exact List.map_congr_left fun p h => sub_len _ _ _ (hp p h)
  unfold Txt.words
  rw [h2]
  by_cases hc : ((wds 0 none l == [(0, (rowS l).length)]) = true)
  · rw [if_pos hc, eq_of_beq hc]; rfl
  · rw [if_neg hc]
    show ((spaceWords (rowS l) ((rowS l).length + 1)).map (fun (i, j) => strSub (rowS l) i j)).map _ = _
    rw [h2, List.map_map]
    exact key _ hsub
theorem wds_blk : ∀ (l : List Bool) (i : Nat), (∀ q w, 0 < q → (∀ b, b + q = i → w = 0 → (wds i (some b) l).map (fun p => p.2 - p.1) = (blk q 0 l).map (·.1)) ∧ (0 < w → q :: (wds i none l).map (fun p => p.2 - p.1) = (blk q w l).map (·.1))) ∧
    ((wds i none l).map (fun p => p.2 - p.1) = (blk 0 0 l).map (·.1))
  | [], i => by
    refine ⟨fun q w hq => ⟨fun b hb _ => ?_, fun _ => ?_⟩, rfl⟩
    · unfold blk wds; rw [if_neg (by omega)]; simp; omega
    · unfold blk wds; rw [if_neg (by omega)]; rfl
  | false :: l, i => by
    obtain ⟨h1, h2⟩ := wds_blk l (i + 1)
    refine ⟨fun q w hq => ⟨fun b hb _ => ?_, fun hw => ?_⟩, ?_⟩
    · show (i - b) :: (wds (i + 1) none l).map (fun p => p.2 - p.1) = (blk q 1 l).map (·.1)
      have e : i - b = q := by omega
      rw [e]; exact (h1 q 1 hq).2 (by omega)
    · show q :: (wds (i + 1) none l).map (fun p => p.2 - p.1) = (blk q (w + 1) l).map (·.1)
      exact (h1 q (w + 1) hq).2 (by omega)
    · show (wds (i + 1) none l).map (fun p => p.2 - p.1) = (blk 0 1 l).map (·.1)
      rw [h2, blk_zero l 1 0]
  | true :: l, i => by
    obtain ⟨h1, h2⟩ := wds_blk l (i + 1)
    refine ⟨fun q w hq => ⟨fun b hb _ => ?_, fun hw => ?_⟩, ?_⟩
    · show (wds (i + 1) (some b) l).map (fun p => p.2 - p.1) = _
      rw [blk_true_run hq]
      exact (h1 (q + 1) 0 (by omega)).1 b (by omega) rfl
    · show q :: (wds (i + 1) (some i) l).map (fun p => p.2 - p.1) = _
      rw [blk_true_gap hq hw, List.map_cons, (h1 1 0 (by omega)).1 i rfl rfl]
    · show (wds (i + 1) (some i) l).map (fun p => p.2 - p.1) = _
      rw [blk_true_zero, (h1 1 0 (by omega)).1 i rfl rfl]
theorem words_runs (l : List Bool) : (Txt.words (rowS l)).map (fun x => x.length) = runsL l := by
  rw [words_row, (wds_blk l 0).2]; rfl
/-- the gaps between the runs of a stripped row -/
def gapsL (l : List Bool) : List Nat := (pieces true 0 l).filter (fun g => g != 0)
theorem gaps_blk : ∀ (l : List Bool), (∀ q w, 0 < q → (if w = 0 then (pieces true w l).filter (fun g => g != 0) else (pieces true w l).filter (fun g => g != 0)) = ((blk q w l).map (·.2)).filter (fun g => g != 0))
  | [], q, w, hq => by
    unfold blk pieces
    rw [if_neg (show ¬ q = 0 by omega)]
    simp
  | false :: l, q, w, hq => by
    have ih := gaps_blk l q (w + 1) hq
    simp only [ite_self] at ih ⊢
    exact ih
  | true :: l, q, w, hq => by
    have ih := gaps_blk l 1 0 (by omega)
    simp only [ite_self] at ih ⊢
    by_cases hw : w = 0
    · subst hw
      rw [blk_true_run hq]
      have ih2 := gaps_blk l (q + 1) 0 (by omega)
      simp only [ite_self] at ih2
      rw [← ih2]
      show (0 :: pieces true 0 l).filter (fun g => g != 0) = _
      simp
    · rw [blk_true_gap hq (by omega), List.map_cons]
      show (w :: pieces true 0 l).filter (fun g => g != 0) = _
      rw [List.filter_cons, List.filter_cons, ih]
theorem gaps_row (l : List Bool) (h : ∃ r, l = true :: r) : gapsL l = ((blk 0 0 l).map (·.2)).filter (fun g => g != 0) := by
  obtain ⟨r, rfl⟩ := h
  have := gaps_blk r 1 0 (by omega)
  simp only [ite_self] at this
  unfold gapsL
  rw [blk_true_zero, ← this]
  show (0 :: pieces true 0 r).filter (fun g => g != 0) = _
  simp
end
section
open PySem PySem.W PyProof.Rows
def Lz (l : List Bool) (i : Int) : Prop := ∀ k : Nat, (k : Int) < i → l.getD k false = false
def Rz (l : List Bool) (i : Int) : Prop := ∀ k : Nat, i < (k : Int) → l.getD k false = false
theorem Lz0 (l : List Bool) : Lz l 0 := fun k h => by omega
theorem Lz_next {l : List Bool} {i : Int} (h : Lz l i) (h0 : 0 ≤ i) (h1 : i < l.length) (hb : (Txt.item (rowS l) i == PySem.Str.ofString " ") = true) : Lz l (i + 1) := by
  rw [item_blank l i h0 h1] at hb
  intro k hk
  by_cases e : (k : Int) = i
  · have : k = i.toNat := by omega
    rw [this]; simpa using hb
  · exact h k (by omega)
theorem Rz0 (l : List Bool) : Rz l (((rowS l).length : Int) - 1) := fun k h => by
  rw [rowS_length] at h
  have : l.length ≤ k := by omega
  simp [List.getD, this]
theorem Rz_next {l : List Bool} {i : Int} (h : Rz l i) (h0 : 0 ≤ i) (h1 : i < l.length) (hb : (Txt.item (rowS l) i == PySem.Str.ofString " ") = true) : Rz l (i - 1) := by
  rw [item_blank l i h0 h1] at hb
  intro k hk
  by_cases e : (k : Int) = i
  · have : k = i.toNat := by omega
    rw [this]; simpa using hb
  · exact h k (by omega)
theorem zs_of : ∀ l : List Bool, (∀ k : Nat, l.getD k false = false) → l = zs l.length
  | [], _ => rfl
  | b :: l, h => by
    have h0 : b = false := h 0
    rw [h0]
    show false :: l = false :: zs l.length
    rw [← zs_of l fun k => h (k + 1)]
theorem strip_end {l : List Bool} {n i r : Int} (hn : n = l.length) (h0 : 0 ≤ i) (h1 : i ≤ r + 1) (h2 : r < l.length) (hL : Lz l i) (hR : Rz l r)
    (hc : i = n ∨ (Txt.item (rowS l) i == PySem.Str.ofString " ") = false) (he : r + 1 = i ∨ (Txt.item (rowS l) r == PySem.Str.ofString " ") = false) : Txt.slice (rowS l) (some i) (some (r + 1)) = rowS (stripB l) := by
  rw [slice_row l i (r + 1) h0 (by omega) (by omega)]
  congr 1
  obtain ⟨a, rfl⟩ : ∃ a : Nat, i = a := ⟨i.toNat, by omega⟩
  obtain ⟨b, hb⟩ : ∃ b : Nat, r + 1 = b := ⟨(r + 1).toNat, by omega⟩
  have e1 : (r + 1 - (a : Int)).toNat = b - a := by omega
  rw [e1, Int.toNat_natCast]
  have hab : a ≤ b := by omega
  have hbl : b ≤ l.length := by omega
  -- the row in three parts
  have s1 : l.take a = zs a := by
    have := zs_of (l.take a) (fun k => by
      by_cases hk : k < a
      · have := hL k (by omega)
        rw [List.getD_eq_getElem?_getD, List.getElem?_take_of_lt hk, ← List.getD_eq_getElem?_getD]; exact this
      · rw [List.getD_eq_getElem?_getD, List.getElem?_take_eq_none (by omega)]; rfl)
    rw [this]; congr 1; simp; omega
  have s2 : l.drop b = zs (l.length - b) := by
    have := zs_of (l.drop b) (fun k => by
      have := hR (b + k) (by omega)
      rw [List.getD_eq_getElem?_getD, List.getElem?_drop, ← List.getD_eq_getElem?_getD]; exact this)
    rw [this]; congr 1; simp
  have s3 : l = zs a ++ (l.drop a).take (b - a) ++ zs (l.length - b) := by
    rw [← s2, ← s1]
    have e2 : l.drop b = (l.drop a).drop (b - a) := by rw [List.drop_drop]; congr 1; omega
    rw [e2, List.append_assoc, List.take_append_drop, List.take_append_drop]
  rw [stripB_of s3]
  -- the middle is stripped
  by_cases hm : (l.drop a).take (b - a) = []
  · rw [hm]; rfl
  · have hlt : a < b := by
      apply Nat.lt_of_not_le
      intro h
      exact hm (by have : b - a = 0 := by omega
                   rw [this]; simp)
    have hi : l.getD a false = true := by
      rcases hc with h | h
      · omega
      · rw [item_blank l a (by omega) (by omega)] at h
        simpa using h
    have hr : l.getD (b - 1) false = true := by
      rcases he with h | h
      · omega
      · rw [item_blank l r (by omega) (by omega)] at h
        have : r.toNat = b - 1 := by omega
        rw [this] at h
        simpa using h
    generalize hM : (l.drop a).take (b - a) = M at *
    have hMl : M.length = b - a := by rw [← hM]; simp; omega
    have hfst : M.getD 0 false = true := by
      rw [← hM, List.getD_eq_getElem?_getD, List.getElem?_take_of_lt (by omega), List.getElem?_drop, ← List.getD_eq_getElem?_getD]; simpa using hi
    have hlst : M.getD (b - a - 1) false = true := by
      rw [← hM, List.getD_eq_getElem?_getD, List.getElem?_take_of_lt (by omega), List.getElem?_drop, ← List.getD_eq_getElem?_getD]
      have : a + (b - a - 1) = b - 1 := by omega
      rw [this]; exact hr
    cases M with
    | nil => exact absurd rfl hm
    | cons c M' =>
      have hc1 : c = true := by simpa using hfst
      subst hc1
      unfold stripB rstrip
      rw [lstrip_true]
      have : ∃ M'', (true :: M').reverse = true :: M'' := by
        cases hq : (true :: M').reverse with
        | nil => simp at hq
        | cons d M'' =>
          have h5 : (true :: M').getLast? = some d := by
            rw [← List.head?_reverse, hq]; rfl
          have h6 : (true :: M').getLast? = some true := by
            rw [List.getLast?_eq_getElem?]
            have : (true :: M').length - 1 = b - a - 1 := by omega
            rw [this]
            rw [List.getD_eq_getElem?_getD] at hlst
            cases hz : (true :: M')[b - a - 1]? with
            | none => rw [hz] at hlst; simp at hlst
            | some z => rw [hz] at hlst; simp at hlst; rw [hlst]
          rw [h5] at h6
          exact ⟨M'', by rw [Option.some.inj h6]⟩
      obtain ⟨M'', h7⟩ := this
      rw [h7, lstrip_true, ← h7, List.reverse_reverse]
theorem strip_ok (w mean mg mb) (l : List Bool) (n : Int) (t t1: Tok) (hpre : n = l.length ∧ n < 1000000) : Pg 2 w mean mg mb (.ref 21) [.str (rowS l) t, .int n t1] (fun _ => True) (fun v _ _ => ∃ t, v = .str (rowS (stripB l)) t) := by
  have hlen := rowS_length l
  ((dsimp only [Pg]; k_fill; intros; rename_i hret; (refine wpAny_call ?_); k_dflt (refine' code_defG ?k1 ?k2 ?k3 (noNews _ _ _) ?k5 ?kA ?kF ?kK ?k6 ?k7 ?k8 ?k9 ?kB ?_ ?c2 ?c3 ?c4 ?c5; (case kA => exact rfl); (case kF => exact rfl); (case kK => assumption); (case k1 => k_asm); (case k2 => k_asm); (case k3 => k_asm); (case k5 => k_asm); (case k6 => k_is); (case k7 => k_is); (case k8 => ktr_room); (case k9 => first | exact BindsTo.of_eq rfl | exact binds_K (by k_in) rfl (by k_is) rfl rfl rfl); (case c5 => decide); (case kB => exact locs rfl); (case c2 => exact rfl); (case c3 => exact rfl); (case c4 => exact rfl); k_whole; intro g' L' h' FG' F' N' B' X' T' GS'; (try dsimp only); (try k_lift B'); (try k_fold))))
  (repeat' ((fail_if_success (with_reducible show wpAny _ _ (exec (Stmt.While _ _ _ _) _) _ _ _)); ((first | (k_unfold; (try dsimp only)) | (k_end; wrow_close) | walk1 | (dsimp only; walk1) | (leave1; walk_say "STEP leave1"; try dsimp only) | fail "no step"))))
  k_with_none
  k_with "state" => first
    | exact ⟨by omega, by omega, by omega, Lz0 l⟩
    | exact ⟨by omega, by omega, by omega, Lz_next (by assumption) (by omega) (by omega) (by assumption)⟩
  k_while (fun _ i a => 0 ≤ i ∧ 0 ≤ a ∧ i + a = n ∧ Lz l i) (fun _ i a => a.toNat) "lpos" "amount"
  (repeat' ((fail_if_success (with_reducible show wpAny _ _ (exec (Stmt.While _ _ _ _) _) _ _ _)); ((first | (k_unfold; (try dsimp only)) | (k_end; wrow_close) | walk1 | (dsimp only; walk1) | (leave1; walk_say "STEP leave1"; try dsimp only) | fail "no step"))))
  k_with_none
  k_with "state" => first
    | exact ⟨by omega, by omega, by omega, by omega, by assumption, Or.inr (by assumption), Rz0 l⟩
    | exact ⟨by omega, by omega, by omega, by omega, by assumption, Or.inl (by omega), Rz0 l⟩
    | exact ⟨by omega, by omega, by omega, by omega, by assumption, by assumption, Rz_next (by assumption) (by omega) (by omega) (by assumption)⟩
  all_goals k_while_given ["lpos"] (fun i _ r a => 0 ≤ i ∧ 0 ≤ a ∧ r + 1 = i + a ∧ r < n ∧ Lz l i ∧ (i = n ∨ (Txt.item (rowS l) i == PySem.Str.ofString " ") = false) ∧ Rz l r) (fun i _ r a => a.toNat) "rpos" "amount"
  all_goals (repeat' ((fail_if_success (with_reducible show wpAny _ _ (exec (Stmt.While _ _ _ _) _) _ _ _)); ((first | (k_unfold; (try dsimp only)) | (k_end; wrow_close) | walk1 | (dsimp only; walk1) | (leave1; walk_say "STEP leave1"; try dsimp only) | fail "no step"))))
  all_goals k_with_none
  all_goals refine pg_ret (by assumption) (by assumption) (by assumption) (by assumption) ?_
  all_goals refine ⟨_, congrArg (fun x => Value.str x _) ?_⟩
  all_goals first
    | exact strip_end (n := n) (by omega) (by omega) (by omega) (by omega) (by assumption) (by assumption) (by assumption) (Or.inr (by assumption))
    | exact strip_end (n := n) (by omega) (by omega) (by omega) (by omega) (by assumption) (by assumption) (by assumption) (Or.inl (by omega))
end
section
open PySem PySem.W PyProof.Rows

/-- reduce: a value led along a list -/
theorem reduce_gen (d : Nat) (ex : List (Addr × Obj)) (w mean mg mb) (fa ax : Addr) (fo : Obj) (fd : FuncData) (items : List Value) (v0 : Value) (Inv : Nat → Value → List (Addr × Obj) → Prop) (nw0 : List (Addr × Obj))
    (hfd : fo.data = .func fd)
    (hIs : ∀ (A : Around) (Q : Value → Shared → Prop) (E : Value → Shared → Prop) (s : Shared), (∀ p ∈ nw0, s.heap.get? p.1 = some p.2) → s.heap.get? 22 = some ({ cls := .type "object" } : Obj) → Q (.bool false) s → wpAny (model PySem.Challenge.rw_oy0058_01.row.prog w) A (compareOp .Is v0 (.ref 22)) Q E s)
    (hstep : ∀ i v x nw, items[i]? = some x → Inv i v nw → Pg d w mean mg mb (.ref fa) [v, x] (fun h => (h.get? fa = some fo ∧ ∀ p ∈ ex, h.get? p.1 = some p.2) ∧ ∀ p ∈ nw, h.get? p.1 = some p.2) (fun v' h h' => ∃ nw', Inv (i + 1) v' nw' ∧ ∀ p ∈ nw', h'.get? p.1 = some p.2 ∧ h.get? p.1 = none)) :
    Pg (d + 2) w mean mg mb (.ref 30) [.ref fa, .ref ax, v0] (fun h => h.IsList ax items.toArray ∧ (h.get? fa = some fo ∧ ∀ p ∈ ex, h.get? p.1 = some p.2) ∧ Inv 0 v0 nw0 ∧ ∀ p ∈ nw0, h.get? p.1 = some p.2)
      (fun v' h h' => ∃ nw', Inv items.length v' nw' ∧ ∀ p ∈ nw', h'.get? p.1 = some p.2 ∧ (h.get? p.1 = none ∨ p ∈ nw0)) := by
  dsimp only [Pg]; k_fill
  intro dp un gd cn cs a ccd cl outer A₀ base h₀ L m s Q E hB hF hX hT hkind hdp hun hpre0 hret
  refine wpAny_call ?_
  k_dflt (refine' code_defG ?k1 ?k2 ?k3 (noNews _ _ _) ?k5 ?kA ?kF ?kK ?k6 ?k7 ?k8 ?k9 ?kB ?_ ?c2 ?c3 ?c4 ?c5; (case kA => exact rfl); (case kF => exact rfl); (case kK => assumption); (case k1 => k_asm); (case k2 => k_asm); (case k3 => k_asm); (case k5 => k_asm); (case k6 => k_is); (case k7 => k_is); (case k8 => ktr_room); (case k9 => first | exact BindsTo.of_eq rfl | exact binds_K (by k_in) rfl (by k_is) rfl rfl rfl); (case c5 => decide); (case kB => exact locs rfl); (case c2 => exact rfl); (case c3 => exact rfl); (case c4 => exact rfl); k_whole)
  intro g' L' h' FG' F' N' B' X' T' GS'
  (try dsimp only)
  (try k_lift B')
  (try k_fold)
  obtain ⟨hl, ⟨hf, hex⟩, hi0, hn0⟩ := hpre0
  have hl' : g'.IsList ax items.toArray := hl.at fun o e => GS' ax o e (by simp)
  have hf' : g'.get? fa = some fo := GS' fa fo hf (by simp)
  have hex' : ∀ p ∈ ex, g'.get? p.1 = some p.2 := fun p hp => GS' p.1 p.2 (hex p hp) (by simp)
  have hn' : ∀ p ∈ nw0, g'.get? p.1 = some p.2 := fun p hp => GS' p.1 p.2 (hn0 p hp) (by simp)
  (repeat' (((first | (k_unfold; (try dsimp only)) | (k_end; wrow_close) | walk1 | (dsimp only; walk1) | (leave1; walk_say "STEP leave1"; try dsimp only) | fail "no step"))))
  refine iter_list hl' (by k_asm) (by k_asm) ?_
  intro I h5 F5 N5 hlt5 hL5
  (repeat' (((first | (k_unfold; (try dsimp only)) | (k_end; wrow_close) | walk1 | (dsimp only; walk1) | (leave1; walk_say "STEP leave1"; try dsimp only) | fail "no step"))))
  refine hIs _ _ _ _ (fun p hp => (Fr.keep (by k_asm)) _ _ (hn' p hp)) (kto_K (by k_in) (by k_is)) ?_
  (repeat' (((first | (k_unfold; (try dsimp only)) | (k_end; wrow_close) | walk1 | (dsimp only; walk1) | (leave1; walk_say "STEP leave1"; try dsimp only) | fail "no step"))))
  rename Fr _ _ _ _ => F9
  rename News _ _ _ _ => N9
  have hIit := (N9 _ (List.Mem.head _))
  refine loop_it2 (σ := Value) (fun v => [(PySem.Str.ofString "value", v)]) [PySem.Str.ofString "element"]
    (fun i v nw => ∃ nw', Inv i v nw' ∧ ∀ p ∈ nw', (g'.get? p.1 = some p.2 ∧ p ∈ nw0) ∨ p ∈ nw) v0 rfl hl' ⟨_, hIit.1, rfl, rfl⟩ hIit.2.2 (Ne.symm hIit.2.1) F9 (noNews _ _ _) (fun p hp => nomatch hp) ?_ ?_ ?_ ?_
  · exact List.forall_mem_cons.mpr ⟨by with_unfolding_all rfl, List.forall_mem_nil _⟩
  · exact ⟨nw0, hi0, fun p hp => Or.inl ⟨hn' p hp, hp⟩⟩
  · intro i v c u news₁ h6 tk6 own hv hP hoff hI6 F6 N6
    obtain ⟨nw, hInv, hnw⟩ := hP
    clear F9 N9
    (try dsimp only [kstB] at F6)
    (try k_fold)
    (repeat' (((first | (k_unfold; (try dsimp only)) | (k_end; wrow_close) | walk1 | (dsimp only; walk1) | (leave1; walk_say "STEP leave1"; try dsimp only) | fail "no step"))))
    have hv' : items[i]? = some v := by simpa using hv
    have hC := hstep i c v nw hv' hInv
    have hpr : (h6.get? fa = some fo ∧ ∀ p ∈ ex, h6.get? p.1 = some p.2) ∧ ∀ p ∈ nw, h6.get? p.1 = some p.2 := by
      refine ⟨⟨F6.keep _ _ hf', fun p hp => F6.keep _ _ (hex' p hp)⟩, fun p hp => ?_⟩
      rcases hnw p hp with h7 | h7
      · exact F6.keep _ _ h7.1
      · exact (N6 p (List.mem_append.mpr (.inr h7))).1
    k_dflt (refine' Pg.use hC ?k1 ?k2 ?k3 ?k4 ?k5 ?kK ?kd ?ku ?kp ?_; (case k1 => k_asm); (case k2 => k_asm); (case k3 => k_asm); (case k4 => k_asm); (case k5 => k_asm); (case kK => first | exact rfl | assumption); (case kd => ktr_room); (case ku => ktr_units); (case kp => exact hpr))
    intro v7 h7 tk7 F7 N7 K7 P7
    obtain ⟨nw7, hInv7, hnw7⟩ := P7
    have N8 := news_newL F6 N7 nw7 hnw7
    clear N7 N6 F6
    (try dsimp only)
    (repeat' (((first | (k_unfold; (try dsimp only)) | (k_end; wrow_close) | walk1 | (dsimp only; walk1) | (leave1; walk_say "STEP leave1"; try dsimp only) | fail "no step"))))
    rename Fr _ _ _ _ => F9
    rename News _ _ _ _ => N9
    refine LoopStepU.intro (news₂ := nw7) F9 ?_ ?_ (ljJ_intro v7 (List.forall_mem_cons.mpr ⟨by with_unfolding_all rfl, List.forall_mem_nil _⟩) ?_ ⟨nw7, hInv7, fun p hp => Or.inr hp⟩)
    · intro p hp
      rcases List.mem_append.mp hp with h8 | h8
      · exact N9 p (List.mem_append.mpr (.inr (List.mem_append.mpr (.inl h8))))
      · exact N9 p (List.mem_append.mpr (.inl h8))
    · intro p hp hq
      have h8 := (hnw7 p hp).2
      rw [List.mem_singleton.mp hq] at h8
      obtain ⟨o8, ho8, _⟩ := hI6
      rw [ho8] at h8
      cases h8
    · intro z h2 h3
      simp only [List.forall_mem_cons, List.not_mem_nil, false_implies, implies_true, and_true, ne_eq] at h2
      simp only [List.contains_cons, List.contains_nil, Bool.or_false, beq_eq_false_iff_ne, ne_eq] at h3
      simp [h2, h3]
  · intro c u news₁ h6 tk6 hP F6 N6 hoff
    obtain ⟨nw, hInv, hnw⟩ := hP
    clear F9 N9
    (try dsimp only [kstB] at F6)
    (try dsimp only)
    (repeat' (((first | (k_unfold; (try dsimp only)) | (k_end; wrow_close) | walk1 | (dsimp only; walk1) | (leave1; walk_say "STEP leave1"; try dsimp only) | fail "no step"))))
    refine pg_ret hret (by assumption) GS' F6 ⟨nw, ?_, ?_⟩
    · simpa using hInv
    · intro p hp
      rcases hnw p hp with h7 | h7
      · exact ⟨F6.keep _ _ h7.1, Or.inr h7.2⟩
      · have h8 := N6 p h7
        refine ⟨h8.1, Or.inl ?_⟩
        cases e : s.heap.get? p.1 with
        | none => rfl
        | some o => have := GS' _ _ e (by simp); rw [h8.2.2] at this; cases this
theorem reduce_ok (w mean mg mb) (fa ax : Addr) (fo : Obj) (fd : FuncData) (items : List Value) (v0 : Value) (Inv : Nat → Value → List (Addr × Obj) → Prop) (nw0 : List (Addr × Obj))
    (hfd : fo.data = .func fd)
    (hIs : ∀ (A : Around) (Q : Value → Shared → Prop) (E : Value → Shared → Prop) (s : Shared), (∀ p ∈ nw0, s.heap.get? p.1 = some p.2) → s.heap.get? 22 = some ({ cls := .type "object" } : Obj) → Q (.bool false) s → wpAny (model PySem.Challenge.rw_oy0058_01.row.prog w) A (compareOp .Is v0 (.ref 22)) Q E s)
    (hstep : ∀ i v x nw, items[i]? = some x → Inv i v nw → Pg 3 w mean mg mb (.ref fa) [v, x] (fun h => h.get? fa = some fo ∧ ∀ p ∈ nw, h.get? p.1 = some p.2) (fun v' h h' => ∃ nw', Inv (i + 1) v' nw' ∧ ∀ p ∈ nw', h'.get? p.1 = some p.2 ∧ h.get? p.1 = none)) :
    Pg 5 w mean mg mb (.ref 30) [.ref fa, .ref ax, v0] (fun h => h.IsList ax items.toArray ∧ h.get? fa = some fo ∧ Inv 0 v0 nw0 ∧ ∀ p ∈ nw0, h.get? p.1 = some p.2)
      (fun v' h h' => ∃ nw', Inv items.length v' nw' ∧ ∀ p ∈ nw', h'.get? p.1 = some p.2 ∧ (h.get? p.1 = none ∨ p ∈ nw0)) :=
  Pg.mono (reduce_gen 3 [] w mean mg mb fa ax fo fd items v0 Inv nw0 hfd hIs fun i v x nw hx hi => Pg.mono (hstep i v x nw hx hi) (Nat.le_refl _) (fun h hp => ⟨hp.1.1, hp.2⟩) fun v h h' hp => hp) (Nat.le_refl _)
    (fun h hp => ⟨hp.1, ⟨hp.2.1, fun p hq => nomatch hq⟩, hp.2.2.1, hp.2.2.2⟩) fun v h h' hp => hp
end
section
open PySem PySem.W PyProof.Rows

abbrev tup2 (c : Int) (t : Tok) (x : PySem.Str) (u : Tok) : Obj := { cls := .type "tuple", data := .seq #[.int c t, .str x u] 0 }
theorem lay_text (c k : Nat) (md : List Bool) (z : Int) (hz : z = min (c + 1) k) :
    rowS md ++ PySem.Str.ofString " " ++ Txt.mul (PySem.Str.ofString "o") z ++ Txt.slice (rowS (zs k)) (some z) none = rowS (lay c md k).2 := by
  rw [mul_ball z (by omega), slice_row_from (zs k) z (by omega) (by simp [zs]; omega)]
  have e : PySem.Str.ofString " " = rowS [false] := blankS
  rw [e, rowS_append, rowS_append, rowS_append]
  congr 1
  unfold lay
  have e2 : z.toNat = min (c + 1) k := by omega
  rw [e2]
  simp [zs]
theorem tup_same {h : Heap} {D : Addr} {X X' : Int} {Y Y' : PySem.Str} {t u : Tok} (hh : h.get? D = some (tup2 X t Y u)) (e1 : X = X') (e2 : Y = Y') : h.get? D = some (tup2 X' t Y' u) := by
  subst e1; subst e2; exact hh
theorem step_ok (w mean mg mb) (T : Addr) (c k : Nat) (md : List Bool) (t u t3 : Tok) (hc : c < 100000) (hm : md.length < 100000) (hk : k < 100000) :
    Pg 3 w mean mg mb (.ref 96) [.ref T, .str (rowS (zs k)) t3] (fun h => h.get? T = some (tup2 c t (rowS md) u))
      (fun v h h' => ∃ T' t' u', v = .ref T' ∧ h'.get? T' = some (tup2 (lay c md k).1 t' (rowS (lay c md k).2) u') ∧ h.get? T' = none) := by
  have hlen := rowS_length (zs k)
  have hlen1 := rowS_length md
  have hlz : (zs k).length = k := by simp [zs]
  dsimp only [Pg]; k_fill
  intro dp un gd cn cs a ccd cl outer A₀ base h₀ L m s Q E hB hF hX hT hkind hdp hun hpre0 hret
  refine wpAny_call ?_
  k_dflt (refine' code_defG ?k1 ?k2 ?k3 (noNews _ _ _) ?k5 ?kA ?kF ?kK ?k6 ?k7 ?k8 ?k9 ?kB ?_ ?c2 ?c3 ?c4 ?c5; (case kA => exact rfl); (case kF => exact rfl); (case kK => assumption); (case k1 => k_asm); (case k2 => k_asm); (case k3 => k_asm); (case k5 => k_asm); (case k6 => k_is); (case k7 => k_is); (case k8 => ktr_room); (case k9 => first | exact BindsTo.of_eq rfl | exact binds_K (by k_in) rfl (by k_is) rfl rfl rfl); (case c5 => decide); (case kB => exact locs rfl); (case c2 => exact rfl); (case c3 => exact rfl); (case c4 => exact rfl); k_whole)
  intro g' L' h' FG' F' N' B' X' T' GS'
  (try dsimp only)
  (try k_lift B')
  (try k_fold)
  have hT := GS' _ _ hpre0 (by simp)
  have hT2 : IsTup g' T #[.int c t, .str (rowS md) u] := ⟨_, hT, rfl, 0, rfl⟩
  (repeat' (((first | (k_unfold; (try dsimp only)) | (k_end; wrow_close) | walk1 | (dsimp only; walk1) | (leave1; walk_say "STEP leave1"; try dsimp only) | fail "no step"))))
  rename News _ L' _ _ => N9
  have hD := N9 _ (List.Mem.head _)
  have hz : (if ((rowS (zs k)).length : Int) < (c : Int) + 1 then ((rowS (zs k)).length : Int) else (c : Int) + 1) = ((min (c + 1) k : Nat) : Int) := by
    split <;> omega
  refine pg_ret hret (by assumption) GS' (by assumption) ⟨_, _, _, rfl, tup_same hD.1 ?_ ?_, ?_⟩
  · rw [hz]
    show _ = ((c + 1 - min (c + 1) k : Nat) : Int)
    omega
  · rw [hz]; exact lay_text c k md _ rfl
  · cases e : s.heap.get? _ with
    | none => rfl
    | some o => have := GS' _ _ e (by simp); rw [hD.2.2] at this; cases this
end
section
open PySem PySem.W PyProof.Rows

theorem strValues_get (gl : List (PySem.Str × Tok)) (i : Nat) (v : Value) (h : (strValues gl)[i]? = some v) : ∃ x t, gl[i]? = some (x, t) ∧ v = .str x t := by
  unfold strValues at h
  rw [List.getElem?_map] at h
  cases e : gl[i]? with
  | none => rw [e] at h; cases h
  | some p => rw [e] at h; exact ⟨p.1, p.2, rfl, (Option.some.inj h).symm⟩
theorem round_reduce (w mean mg mb) (gl : List (PySem.Str × Tok)) (x : List Bool) (hx : x.length < 30000) (hgl : gl.map (·.1) = Txt.split (rowS x) (PySem.Str.ofString "o")) (D B : Addr) (t u : Tok) (y : PySem.Str) (hy : (gl.map (·.1))[0]? = some y)
    (fo : Obj) (fd : FuncData) (hfd : fo.data = .func fd) :
    Pg 5 w mean mg mb (.ref 30) [.ref 96, .ref B, .ref D] (fun h => h.IsList B (strValues gl.tail).toArray ∧ h.get? 96 = some fo ∧ h.get? D = some (tup2 0 t y u))
      (fun v h h' => ∃ T c t' u', v = .ref T ∧ h'.get? T = some (tup2 c t' (rowS (carry 0 x)) u') ∧ (h.get? T = none ∨ T = D)) := by
  rw [split_ball] at hgl
  obtain ⟨g0, P, hP⟩ : ∃ g0 P, pieces true 0 x = g0 :: P := by
    cases h : pieces true 0 x with
    | nil => exact absurd h (pieces_ne true x 0)
    | cons g P => exact ⟨g, P, rfl⟩
  have hsize := pieces_size x 0
  rw [hP] at hgl hsize
  have hy0 : y = rowS (zs g0) := by
    rw [hgl] at hy
    simpa using hy.symm
  have htail : gl.tail.map (·.1) = P.map fun g => rowS (zs g) := by
    rw [List.map_tail, hgl]; rfl
  have hlenT : gl.tail.length = P.length := by
    have := congrArg List.length htail; simpa using this
  have hst : ∀ i, (layAll (0, zs g0) (P.take i)).2.length < 100000 ∧ (layAll (0, zs g0) (P.take i)).1 < 100000 := by
    intro i
    obtain ⟨h1, h2⟩ := layAll_len (P.take i) 0 (zs g0)
    have h3 := take_size P i
    simp only [List.sum_cons, List.length_cons] at hsize
    have h4 : (zs g0).length = g0 := by simp [zs]
    omega
  refine Pg.mono (reduce_ok w mean mg mb 96 B fo fd (strValues gl.tail) (.ref D)
    (fun i v nw => ∃ T t u, v = .ref T ∧ nw = [(T, tup2 ((layAll (0, zs g0) (P.take i)).1 : Nat) t (rowS (layAll (0, zs g0) (P.take i)).2) u)]) [(D, tup2 0 t y u)] hfd ?_ ?_) (Nat.le_refl _) ?_ ?_
  · intro A Q E s h1 h2 h3
    exact is_tup_other (h1 _ (List.mem_singleton.mpr rfl)) h2 rfl h3
  · rintro i v xv nw hxv ⟨T, t1, u1, rfl, rfl⟩
    obtain ⟨xs, t3, hg, rfl⟩ := strValues_get _ _ _ hxv
    have hxs : (P.map fun g => rowS (zs g))[i]? = some xs := by
      rw [← htail, List.getElem?_map, hg]; rfl
    rw [List.getElem?_map] at hxs
    cases hk : P[i]? with
    | none => rw [hk] at hxs; cases hxs
    | some k =>
      rw [hk] at hxs
      have e : xs = rowS (zs k) := (Option.some.inj hxs).symm
      subst e
      have hkb : k < 100000 := by
        have := mem_size P k (List.mem_of_getElem? hk)
        simp only [List.sum_cons, List.length_cons] at hsize
        omega
      refine Pg.mono (step_ok w mean mg mb T _ k _ t1 u1 t3 (hst i).2 (hst i).1 hkb) (Nat.le_refl _) (fun h hp => hp.2 _ (List.mem_singleton.mpr rfl)) ?_
      rintro v h h' ⟨T', t', u', rfl, h1, h2⟩
      refine ⟨[(T', _)], ⟨T', t', u', rfl, rfl⟩, ?_⟩
      intro p hp
      rw [List.mem_singleton.mp hp]
      rw [layAll_take _ P i k hk]
      exact ⟨h1, h2⟩
  · rintro h ⟨h1, h2, h3⟩
    refine ⟨h1, h2, ⟨D, t, u, rfl, ?_⟩, ?_⟩
    · rw [hy0]; rfl
    · intro p hp
      rw [List.mem_singleton.mp hp]; exact h3
  · rintro v h h' ⟨nw', ⟨T, t', u', rfl, rfl⟩, h2⟩
    obtain ⟨h3, h4⟩ := h2 _ (List.mem_singleton.mpr rfl)
    have hn : (strValues gl.tail).length = P.length := by simp [strValues, ← hlenT]
    rw [hn, List.take_length] at h3
    have hrow := layAll_row x 0
    rw [hP] at hrow
    have e : (layAll (0, zs g0) P).2 = carry 0 x := by simpa [zs] using hrow
    rw [e] at h3
    refine ⟨T, _, t', u', rfl, h3, ?_⟩
    rcases h4 with h4 | h4
    · exact .inl h4
    · rw [List.mem_singleton] at h4
      exact .inr (congrArg Prod.fst h4)
end
section
open PySem PySem.W PyProof.Rows

theorem balls_le (l : List Bool) : balls l ≤ l.length := List.count_le_length
theorem slice_tail (gl : List (PySem.Str × Tok)) (h : 1 ≤ (strValues gl).toArray.size) : slicePick (strValues gl).toArray (some (1 : Int)) none none = (strValues gl.tail).toArray := by
  have h1 : slicePick (strValues gl).toArray (some (1 : Int)) none none = ((strValues gl).toArray.toList.drop 1).toArray := slicePick_from _ 1 h
  rw [h1]
  simp [strValues, List.map_tail]
theorem round_pre {h : Heap} {B D : Addr} {its : Array Value} {n : Nat} {fo : Obj} {t u : Tok} {y : PySem.Str} (hB : h.get? B = some ({ cls := .type "list", data := .seq its n } : Obj)) (h96 : h.get? 96 = some fo) (hD : h.get? D = some (tup2 0 t y u)) :
    h.IsList B its ∧ h.get? 96 = some fo ∧ h.get? D = some (tup2 0 t y u) := ⟨⟨_, hB, rfl, _, rfl⟩, h96, hD⟩
theorem fn96 (w : World) : ∃ fo fd, (hdTop.heap_39 w.params).lookup 96 = some fo ∧ fo.data = .func fd := ⟨_, _, rfl, rfl⟩
theorem round_ok (w mean mg mb) (l : List Bool) (t : Tok) (hpre : l.length < 10000) : Pg 7 w mean mg mb (.ref 103) [.str (rowS l) t] (fun _ => True) (fun v _ _ => ∃ t, v = .str (rowS (rnd l)) t) := by
  have hlen := rowS_length l
  have hballs := balls_le l
  have hlen2 := rowS_length (List.replicate (balls l) true)
  rw [List.length_replicate] at hlen2
  have htext : rowS l ++ Txt.mul (PySem.Str.ofString " ") ((rowS (List.replicate (balls l) true)).length : Int) = rowS (l ++ zs (balls l)) := by
    rw [mul_blank _ (by omega), hlen2, rowS_append]; rfl
  dsimp only [Pg]; k_fill
  intro dp un gd cn cs a ccd cl outer A₀ base h₀ L m s Q E hB hF hX hT hkind hdp hun hpre0 hret
  refine wpAny_call ?_
  k_dflt (refine' code_defG ?k1 ?k2 ?k3 (noNews _ _ _) ?k5 ?kA ?kF ?kK ?k6 ?k7 ?k8 ?k9 ?kB ?_ ?c2 ?c3 ?c4 ?c5; (case kA => exact rfl); (case kF => exact rfl); (case kK => assumption); (case k1 => k_asm); (case k2 => k_asm); (case k3 => k_asm); (case k5 => k_asm); (case k6 => k_is); (case k7 => k_is); (case k8 => ktr_room); (case k9 => first | exact BindsTo.of_eq rfl | exact binds_K (by k_in) rfl (by k_is) rfl rfl rfl); (case c5 => decide); (case kB => exact locs rfl); (case c2 => exact rfl); (case c3 => exact rfl); (case c4 => exact rfl); k_whole)
  intro g' L' h' FG' F' N' B' X' T' GS'
  (try dsimp only)
  (try k_lift B')
  (try k_fold)
  refine gen_toks (Nat.lt_of_lt_of_le (Nat.le_of_ble_eq_true rfl) (Nat.le_add_left _ _)) ?_
  intro tk0 htk0
  (repeat' (((first | (k_unfold; (try dsimp only)) | (k_end; wrow_close) | walk1 | (dsimp only; walk1) | (leave1; walk_say "STEP leave1"; try dsimp only) | fail "no step"))))
  refine SC.replaceW (Nat.ne_of_gt htk0) (Nat.succ_ne_zero _) (Nat.ne_of_lt (Nat.lt_succ_self _)) (by decide) (by omega) (by decide) ?_
  intro t9 k9
  rw [replace_blank]
  (repeat' (((first | (k_unfold; (try dsimp only)) | (k_end; wrow_close) | walk1 | (dsimp only; walk1) | (leave1; walk_say "STEP leave1"; try dsimp only) | fail "no step"))))
  rename List.map _ _ = Txt.split _ _ => hsp
  rename (List.map _ _)[_]? = some _ => hy
  rw [htext] at hsp
  rename News _ L' _ _ => N9
  have hD1 := (N9 _ (List.Mem.head _)).1
  have hB1 := (N9 _ (List.Mem.tail _ (List.Mem.head _))).1
  obtain ⟨fo, fd, hfo, hfd⟩ := fn96 w
  have hsz : 1 ≤ (strValues (by assumption : List (PySem.Str × Tok))).toArray.size := by
    have := congrArg List.length hsp
    rw [split_ball] at this
    have h3 := pieces_ne true (l ++ zs (balls l)) 0
    have h4 := List.length_pos_iff.mpr h3
    simp [strValues] at this ⊢
    omega
  rw [slice_tail _ hsz] at hB1
  have hC := fun D B t u => round_reduce w mean mg mb _ (l ++ zs (balls l)) (by simp [zs]; omega) hsp D B t u _ hy fo fd hfd
  have hf1 := kto_K (by k_in) hfo
  have hp7 := round_pre hB1 hf1 hD1
  k_dflt (refine' Pg.use (hC _ _ _ _) ?k1 ?k2 ?k3 ?k4 ?k5 ?kK ?kd ?ku hp7 ?_; (case k1 => k_asm); (case k2 => k_asm); (case k3 => k_asm); (case k4 => k_asm); (case k5 => k_asm); (case kK => first | exact rfl | assumption); (case kd => ktr_room); (case ku => ktr_units))
  intro v7 h7 tk7 F7 N7 K7 P7
  obtain ⟨T, c7, t7, u7, hv7, hT7, hf7⟩ := P7
  subst hv7
  have N8 : News g' L' h7 [(T, tup2 c7 t7 (rowS (carry 0 (l ++ zs (balls l)))) u7)] := by
    intro p hp
    rw [List.mem_singleton.mp hp]
    refine ⟨hT7, ?_⟩
    rcases hf7 with h8 | h8
    · have := (news_new (p := (T, tup2 c7 t7 (rowS (carry 0 (l ++ zs (balls l)))) u7)) (by assumption : Fr g' L' _ _) (noNews g' L' h7) hT7 h8) _ (List.Mem.head _)
      exact this.2
    · have := N9 _ (List.Mem.head _)
      rw [h8]; exact this.2
  clear N7 N9
  have hlen3 := rowS_length (carry 0 (l ++ zs (balls l)))
  rw [carry_length] at hlen3
  have hlen4 : (l ++ zs (balls l)).length < 20000 := by simp [zs]; omega
  (try dsimp only)
  (repeat' (((first | (k_unfold; (try dsimp only)) | (k_end; wrow_close) | walk1 | (dsimp only; walk1) | (leave1; walk_say "STEP leave1"; try dsimp only) | fail "no step"))))
  have hS := strip_ok w mean mg mb (carry 0 (l ++ zs (balls l))) ((rowS (carry 0 (l ++ zs (balls l)))).length : Int)
  k_dflt (refine' Pg.use (hS _ _ ?kh) ?k1 ?k2 ?k3 ?k4 ?k5 ?kK ?kd ?ku trivial ?_; (case kh => exact ⟨by rw [rowS_length], by rw [rowS_length, carry_length]; omega⟩); (case k1 => k_asm); (case k2 => k_asm); (case k3 => k_asm); (case k4 => k_asm); (case k5 => k_asm); (case kK => first | exact rfl | assumption); (case kd => ktr_room); (case ku => ktr_units))
  intro v9 h9 tk9 F9 N9 K9 P9
  obtain ⟨t10, hv10⟩ := P9
  subst hv10
  (try dsimp only)
  (repeat' (((first | (k_unfold; (try dsimp only)) | (k_end; wrow_close) | walk1 | (dsimp only; walk1) | (leave1; walk_say "STEP leave1"; try dsimp only) | fail "no step"))))
  refine pg_ret hret (by assumption) GS' (by assumption) ⟨_, rfl⟩
end
section
open PySem PySem.W PyProof.Rows

theorem words_count (x : PySem.Str) : (Txt.words x).length ≤ x.length + 1 := by
  have := StrLaws.words_weight x; omega
theorem strValues_len (gl : List (PySem.Str × Tok)) : (strValues gl).toArray.size = (gl.map (·.1)).length := by simp [strValues]
theorem strValues_mem (gl : List (PySem.Str × Tok)) (v : Value) (h : v ∈ strValues gl) : ∃ x t, v = .str x t ∧ x ∈ gl.map (·.1) := by
  unfold strValues at h
  obtain ⟨p, hp, rfl⟩ := List.mem_map.mp h
  exact ⟨p.1, p.2, rfl, List.mem_map.mpr ⟨p, hp, rfl⟩⟩
def LenOf (v y : Value) : Prop := ∃ x t u, v = .str x t ∧ y = .int (x.length : Int) u
theorem two_ints : ∀ (gl : List (PySem.Str × Tok)) (ys : List Value), Two LenOf (strValues gl) ys → IntsAre ys ((gl.map (·.1)).map fun x => (x.length : Int))
  | [], _, h => by cases h; exact .nil
  | p :: gl, _, h => by
    cases h with
    | cons hr h2 =>
      obtain ⟨x, t, u, e1, rfl⟩ := hr
      have e : x = p.1 := by cases e1; rfl
      subst e
      exact .cons _ _ (two_ints gl _ h2)
def notEmpty : Value → Bool
  | .str x _ => x != PySem.Str.ofString ""
  | _ => false
theorem filter_strs (gl : List (PySem.Str × Tok)) : (strValues gl).filter notEmpty = strValues (gl.filter fun p => p.1 != PySem.Str.ofString "") := by
  unfold strValues
  rw [List.filter_map]; rfl
theorem pieces_count (x : List Bool) : (pieces true 0 x).length ≤ x.length + 1 := by
  have := pieces_size x 0; omega
theorem rowS_ne (k : Nat) : (rowS (zs k) != PySem.Str.ofString "") = (k != 0) := by
  rw [emptyS]
  cases k with
  | zero => rfl
  | succ k => rw [Bool.eq_iff_iff]; simp; intro h; have := congrArg (fun x : PySem.Str => x.cps.size) h; simp [rowS, zs] at this
theorem gaps_lens (gl : List (PySem.Str × Tok)) (l : List Bool) (h : gl.map (·.1) = (pieces true 0 l).map fun g => rowS (zs g)) :
    ((gl.filter fun p => p.1 != PySem.Str.ofString "").map (·.1)).map (fun x => (x.length : Int)) = (gapsL l).map fun n : Nat => (n : Int) := by
  have e : (gl.filter fun p => p.1 != PySem.Str.ofString "").map (·.1) = (gl.map (·.1)).filter fun x => x != PySem.Str.ofString "" := by
    rw [List.filter_map]; rfl
  rw [e, h, List.filter_map, List.map_map]
  unfold gapsL
  have e2 : ((fun x => x != PySem.Str.ofString "") ∘ fun g => rowS (zs g)) = fun g => g != 0 := by
    funext k; exact rowS_ne k
  rw [e2]
  apply List.map_congr_left
  intro k _
  show ((rowS (zs k)).length : Int) = k
  rw [rowS_length]; simp [zs]
theorem gaps_stripped (l : List Bool) (h : stripB l = l) : gapsL l = ((blk 0 0 l).map (·.2)).filter (fun g => g != 0) := by
  rcases stripB_head l with e | ⟨r, e⟩
  · rw [h] at e; subst e; rfl
  · rw [h] at e; exact gaps_row l ⟨r, e⟩
def GoodTo (rs gs : List Nat) (n : Nat) : Prop := ∀ k, k < n → rs.getD k 0 ≤ rs.getD (k + 1) 0 ∧ rs.getD k 0 ≤ gs.getD k 0
theorem getD_cast (rs : List Nat) (i : Nat) : (rs.map (fun n : Nat => (n : Int))).getD i 0 = ((rs.getD i 0 : Nat) : Int) := by
  simp only [List.getD_eq_getElem?_getD, List.getElem?_map]
  cases rs[i]? <;> rfl
theorem goodTo_next {rs gs : List Nat} {pre : List Int} {k : Int} (hP : GoodTo rs gs pre.length) (hk : k = 0 + (pre.length : Int))
    (h1 : ¬ (rs.map (fun n : Nat => (n : Int))).getD (k + 1).toNat 0 < (rs.map (fun n : Nat => (n : Int))).getD k.toNat 0)
    (h2 : ¬ (gs.map (fun n : Nat => (n : Int))).getD k.toNat 0 < (rs.map (fun n : Nat => (n : Int))).getD k.toNat 0) : GoodTo rs gs (pre ++ [k]).length := by
  rw [getD_cast, getD_cast] at h1 h2
  have e1 : k.toNat = pre.length := by omega
  have e2 : (k + 1).toNat = pre.length + 1 := by omega
  rw [e1] at h1 h2
  rw [e2] at h1
  intro j hj
  rw [List.length_append, List.length_singleton] at hj
  by_cases e : j = pre.length
  · subst e; exact ⟨by omega, by omega⟩
  · exact hP j (by omega)
theorem bad_run {l : List Bool} {gs : List Nat} {pre : List Int} {k : Int} (hl : settled (blk 0 0 l) ↔ ∀ k, k + 1 < (runsL l).length → (runsL l).getD k 0 ≤ (runsL l).getD (k + 1) 0 ∧ (runsL l).getD k 0 ≤ gs.getD k 0)
    (hk : 0 ≤ k ∧ k + 1 < ((runsL l).length : Int))
    (h1 : ((runsL l).map (fun n : Nat => (n : Int))).getD (k + 1).toNat 0 < ((runsL l).map (fun n : Nat => (n : Int))).getD k.toNat 0) : (false = true ↔ settled (blk 0 0 l)) := by
  rw [getD_cast, getD_cast] at h1
  have e2 : (k + 1).toNat = k.toNat + 1 := by omega
  rw [e2] at h1
  refine ⟨fun h => (nomatch h), fun h => ?_⟩
  have := (hl.mp h k.toNat (by omega)).1
  omega
theorem bad_gap {l : List Bool} {gs : List Nat} {k : Int} (hl : settled (blk 0 0 l) ↔ ∀ k, k + 1 < (runsL l).length → (runsL l).getD k 0 ≤ (runsL l).getD (k + 1) 0 ∧ (runsL l).getD k 0 ≤ gs.getD k 0)
    (hk : 0 ≤ k ∧ k + 1 < ((runsL l).length : Int))
    (h1 : (gs.map (fun n : Nat => (n : Int))).getD k.toNat 0 < ((runsL l).map (fun n : Nat => (n : Int))).getD k.toNat 0) : (false = true ↔ settled (blk 0 0 l)) := by
  rw [getD_cast, getD_cast] at h1
  refine ⟨fun h => (nomatch h), fun h => ?_⟩
  have := (hl.mp h k.toNat (by omega)).2
  omega
theorem settled_ok (w mean mg mb) (l : List Bool) (t : Tok) (hpre : l.length < 10000) (hst : stripB l = l) : Pg 3 w mean mg mb (.ref 108) [.str (rowS l) t] (fun _ => True) (fun v _ _ => ∃ b : Bool, v = .bool b ∧ (b = true ↔ settled (blk 0 0 l))) := by
  have hlen := rowS_length l
  have hszl := sizeLine_eq
  dsimp only [Pg]; k_fill
  intro dp un gd cn cs a ccd cl outer A₀ base h₀ L m s Q E hB hF hX hT hkind hdp hun hpre0 hret
  refine wpAny_call ?_
  k_dflt (refine' code_defG ?k1 ?k2 ?k3 (noNews _ _ _) ?k5 ?kA ?kF ?kK ?k6 ?k7 ?k8 ?k9 ?kB ?_ ?c2 ?c3 ?c4 ?c5; (case kA => exact rfl); (case kF => exact rfl); (case kK => assumption); (case k1 => k_asm); (case k2 => k_asm); (case k3 => k_asm); (case k5 => k_asm); (case k6 => k_is); (case k7 => k_is); (case k8 => ktr_room); (case k9 => first | exact BindsTo.of_eq rfl | exact binds_K (by k_in) rfl (by k_is) rfl rfl rfl); (case c5 => decide); (case kB => exact locs rfl); (case c2 => exact rfl); (case c3 => exact rfl); (case c4 => exact rfl); k_whole)
  intro g' L' h' FG' F' N' B' X' T' GS'
  (try dsimp only)
  (try k_lift B')
  (try k_fold)
  (repeat' ((fail_if_success (with_reducible show wpAny _ _ (exec (Stmt.Assign _ (PySem.Expr.ListComp _ _ _ _) _) _) _ _ _)); (fail_if_success (with_reducible show wpAny _ _ (eval (PySem.Expr.ListComp _ _ _ _) _) _ _ _)); ((first | (k_unfold; (try dsimp only)) | (k_end; wrow_close) | walk1 | (dsimp only; walk1) | (leave1; walk_say "STEP leave1"; try dsimp only) | fail "no step"))))
  (k_dflt (refine LCg.Assign_ListComp_U (F₀ := by k_asm) (by rfl) (by with_unfolding_all rfl) (by rfl) (by decide) (by rfl) (by decide) (by rfl) (by rfl) (by rfl) ?_))
  (repeat' (((first | (k_unfold; (try dsimp only)) | (k_end; wrow_close) | walk1 | (dsimp only; walk1) | (leave1; walk_say "STEP leave1"; try dsimp only) | fail "no step"))))
  rename List.map _ _ = Txt.words _ => hwd
  rename ∀ (a : PySem.Str), _ → a.length ≤ _ => hwl
  k_dflt (refine LCg.CompSrc.ledger (by rfl) (by k_asm) (by k_asm) (by k_mem) (by rw [strValues_len, hwd]; have := words_count (rowS l); omega) ?_)
  intro g9
  refine comp_all LenOf ?_ ?_
  · intro v I oI C oC D m₂ ys h tk E' hv hC hx F N off ne
    obtain ⟨x, t5, rfl, hxm⟩ := strValues_mem _ _ hv
    have hxl := hwl x hxm
    (repeat' (((first | (k_unfold; (try dsimp only)) | (k_end; wrow_close) | walk1 | (dsimp only; walk1) | (leave1; walk_say "STEP leave1"; try dsimp only) | fail "no step"))))
    exact LCg.CompEnd.intro F N _ (fun p hp => hp) off (Or.inr ⟨_, List.Mem.head _, rfl, _, rfl⟩) ⟨rfl, x, t5, _, rfl, rfl⟩
  · intro ys hys
    have hi1 := two_ints _ _ hys
    rw [hwd] at hi1
    have hi1 : IntsAre ys ((runsL l).map fun n : Nat => (n : Int)) := by
      rw [← words_runs, List.map_map]; exact hi1
    (repeat' ((fail_if_success (with_reducible show wpAny _ _ (exec (Stmt.Assign _ (PySem.Expr.ListComp _ _ _ _) _) _) _ _ _)); (fail_if_success (with_reducible show wpAny _ _ (eval (PySem.Expr.ListComp _ _ _ _) _) _ _ _)); ((first | (k_unfold; (try dsimp only)) | (k_end; wrow_close) | walk1 | (dsimp only; walk1) | (leave1; walk_say "STEP leave1"; try dsimp only) | fail "no step"))))
    (k_dflt (refine LCt.Assign_ListComp_T (F₀ := by k_asm) (by rfl) (by with_unfolding_all rfl) (by with_unfolding_all rfl) (by decide) (by rfl) (by decide) (by rfl) (by rfl) (by rfl) ?_))
    (repeat' (((first | (k_unfold; (try dsimp only)) | (k_end; wrow_close) | walk1 | (dsimp only; walk1) | (leave1; walk_say "STEP leave1"; try dsimp only) | fail "no step"))))
    rename List.map _ _ = Txt.split _ _ => hwd2
    rename ∀ (a : PySem.Str), _ → a.length ≤ _ => hwl2
    rw [split_ball] at hwd2
    k_dflt (refine LCt.CompSrcT.ledger (by rfl) (by k_asm) (by k_asm) (by k_mem) (by rw [strValues_len, hwd2, List.length_map]; have := pieces_count l; omega) ?_)
    intro g8
    refine compT_all notEmpty LenOf ?_ ?_
    · intro v I oI C oC D m₂ ys h tk E' hv hC hx F N off ne
      obtain ⟨x, t5, rfl, hxm⟩ := strValues_mem _ _ hv
      have hxl := hwl2 x hxm
      (repeat' (((first | (k_unfold; (try dsimp only)) | (k_end; wrow_close) | walk1 | (dsimp only; walk1) | (leave1; walk_say "STEP leave1"; try dsimp only) | fail "no step"))))
      · exact LCg.CompEnd.intro F N _ (fun p hp => hp) off (Or.inr ⟨_, List.Mem.head _, rfl, _, rfl⟩) ⟨rfl, (by assumption), x, t5, _, rfl, rfl⟩
      · exact LCg.CompEnd.intro F N _ (fun p hp => hp) off (Or.inr ⟨_, List.Mem.head _, rfl, _, rfl⟩) ⟨rfl, (by assumption)⟩
    · intro ys2 hys2
      rw [filter_strs] at hys2
      have hi2 := two_ints _ _ hys2
      have hi2 : IntsAre ys2 ((gapsL l).map fun n : Nat => (n : Int)) := by
        have e : ((List.filter (fun p : PySem.Str × Tok => p.1 != PySem.Str.ofString "") _).map (·.1)).map (fun x : PySem.Str => (x.length : Int)) = (gapsL l).map fun n : Nat => (n : Int) := gaps_lens _ l hwd2
        rw [← e]; exact hi2
      have hgl : gapsL l = ((blk 0 0 l).map (·.2)).filter (fun g => g != 0) := gaps_stripped l hst
      obtain ⟨hlook, hgn⟩ := settled_look l _ hgl
      clear hgl
      have hyl : ys.length = (runsL l).length := by rw [hi1.length, List.length_map]
      have hyl1 : (runsL l).length ≤ 10001 := by rw [← words_runs, List.length_map]; have := words_count (rowS l); omega
      (repeat' ((fail_if_success (with_reducible show wpAny _ _ (pyIter _) _ _ _)); ((first | (k_unfold; (try dsimp only)) | (k_end; wrow_close) | walk1 | (dsimp only; walk1) | (leave1; walk_say "STEP leave1"; try dsimp only) | fail "no step"))))
      rename IsRange _ _ _ _ _ _ _ _ => hrg
      rename News g' L' _ _ => N9
      rename Fr g' L' _ _ => F9
      refine kst_range (σ := Unit) (fun _ => _) (fun _ => []) (fun _ => True) [] (fun pre _ => GoodTo (runsL l) (gapsL l) pre.length) () rfl hrg (small_one (by simp) (by simp) (by simp; omega) (by simp; omega)) (rangeSize_nat _ _) F9 N9 trivial (fun p hp => nomatch hp) (fun k hk => absurd hk (Nat.not_lt_zero k)) ?_ ?_
      · intro c pre k t6 u h6 tk6 own hk hlt off _ hP F6 N6
        clear F9 N9
        (try dsimp only [kstB] at F6)
        have hk1 : 0 ≤ k ∧ k + 1 < (runsL l).length := by
          rw [List.length_map] at hlt; omega
        k_with_none
        k_with "state" => exact goodTo_next hP hk (by assumption) (by assumption)
        (repeat' (((first | (k_unfold; (try dsimp only)) | (k_end; wrow_close) | walk1 | (dsimp only; walk1) | (leave1; walk_say "STEP leave1"; try dsimp only) | fail "no step"))))
        all_goals k_with_none
        · exact pg_ret hret (by assumption) GS' (by assumption) ⟨false, rfl, bad_run (pre := pre) hlook hk1 (by assumption)⟩
        · exact pg_ret hret (by assumption) GS' (by assumption) ⟨false, rfl, bad_gap hlook hk1 (by assumption)⟩
      · intro c u h6 tk6 _ hP F6 N6
        clear F9 N9
        (try dsimp only [kstB] at F6)
        (repeat' (((first | (k_unfold; (try dsimp only)) | (k_end; wrow_close) | walk1 | (dsimp only; walk1) | (leave1; walk_say "STEP leave1"; try dsimp only) | fail "no step"))))
        refine pg_ret hret (by assumption) GS' (by assumption) ⟨true, rfl, fun _ => hlook.mpr fun k hk => hP k ?_, fun _ => rfl⟩
        rw [rangeKs_length, List.length_map]; omega
end
section
open PySem PySem.W PyProof.Rows

def SzInv (b : List Bool) (left : PySem.Str) (counts : List Int) : Prop :=
  ∃ n, n ≤ b.length ∧ left = rowS (levRow b n) ∧ balls (lev n b) + n ≤ balls b ∧ counts = (List.range n).map fun i => ((lvl i b : Nat) : Int)
theorem sz_start {b : List Bool} {x : PySem.Str} (h : x = rowS (levRow b 0)) : SzInv b x [] := ⟨0, Nat.zero_le _, h, Nat.le_refl _, rfl⟩
theorem sz_next {b : List Bool} {n : Nat} (hn : n < b.length) (hb : balls (lev n b) + n ≤ balls b) (h0 : 0 < balls (lev n b)) : SzInv b (rowS (levRow b (n + 1))) ((List.range n).map (fun i => ((lvl i b : Nat) : Int)) ++ [((lvl n b : Nat) : Int)]) := by
  refine ⟨n + 1, hn, rfl, ?_, ?_⟩
  · have h1 := balls_st0 (lev n b)
    have h2 := runsN_pos (lev n b) h0
    rw [lev_succ]; omega
  · rw [List.range_succ, List.map_append]; rfl
theorem sz_count {b : List Bool} {n : Nat} (hn : n < b.length) : (((rowS (levRow b n)).length : Int) - ((rowS (levRow b (n + 1))).length : Int)).fdiv 2 = ((lvl n b : Nat) : Int) := by
  rw [rowS_length, rowS_length, levRow_count b n hn, Int.fdiv_eq_ediv_of_nonneg _ (by decide)]; omega
theorem sz_less {b : List Bool} {n : Nat} (hn : n < b.length) (h0 : 0 < balls (lev n b)) : (rowS (levRow b (n + 1))).length < (rowS (levRow b n)).length := by
  have h1 := levRow_count b n hn
  have h2 : 0 < lvl n b := runsN_pos (lev n b) h0
  rw [rowS_length, rowS_length]; omega
theorem ints_snoc {vs : List Value} {ns : List Int} {k : Int} {t : Tok} (h : IntsAre vs ns) : IntsAre (vs ++ [.int k t]) (ns ++ [k]) := by
  induction h with
  | nil => exact .cons _ _ .nil
  | cons n t _ ih => exact .cons n t ih
theorem getD_cast' (rs : List Nat) (i : Nat) : (rs.map (fun n : Nat => (n : Int))).getD i 0 = ((rs.getD i 0 : Nat) : Int) := by
  simp only [List.getD_eq_getElem?_getD, List.getElem?_map]
  cases rs[i]? <;> rfl
theorem lvl_le (b : List Bool) (n : Nat) : lvl n b ≤ b.length := by
  have h : ∀ n, balls (lev n b) ≤ balls b := by
    intro n
    induction n with
    | zero => exact Nat.le_refl _
    | succ n ih => have := balls_st0 (lev n b); rw [lev_succ]; omega
  have h1 := h n
  have h2 := balls_st0 (lev n b)
  have h3 := balls_le_len b
  unfold lvl; omega
theorem counts_le (b : List Bool) (n i : Nat) (cs : List Nat) (h : cs = (List.range n).map fun i => lvl i b) : 0 ≤ (cs.map fun n : Nat => (n : Int)).getD i 0 ∧ (cs.map fun n : Nat => (n : Int)).getD i 0 ≤ b.length := by
  have e : (cs.map (fun n : Nat => (n : Int))).getD i 0 = ((cs.getD i 0 : Nat) : Int) := by
    simp only [List.getD_eq_getElem?_getD, List.getElem?_map]
    cases cs[i]? <;> rfl
  rw [e]
  have : cs.getD i 0 ≤ b.length := by
    rw [h, List.getD_eq_getElem?_getD, List.getElem?_map]
    cases he : (List.range n)[i]? with
    | none => simp
    | some j => exact lvl_le b j
  omega
theorem extend_K {prog : Program} {w : World} {A : Around} {E : Value → Shared → Prop} {s : Shared} {h₀ : Heap} {L D b : Addr} {m : PySem.Str → Option Value} {news : List (Addr × Obj)} {vs ws : List Value} {n n2 : Nat} {upd : Obj → List (Addr × Obj)} {Q : Value → Shared → Prop}
    (F : Fr h₀ L s.heap m) (N : News h₀ L s.heap news) (hb : (b, W.listOf ws.toArray n2) ∈ news) (U : ∀ o', Upd D (W.listOf vs.toArray n) o' news (upd o')) (hsz : vs.length + ws.length ≤ 1000000)
    (h : ∀ h' n', Fr h₀ L h' m → News h₀ L h' (upd (W.listOf (vs ++ ws).toArray n')) → Q .none { s with heap := h' }) : wpAny (model prog w) A (call (.builtin "list.extend") [.ref D, .ref b]) Q E s := by
  have hl := sizeLine_eq
  have hd : ¬(!vs.toArray.isEmpty && Builtin.List.listTooLong (vs.toArray.size + ws.toArray.size)) = true := by
    have : Builtin.List.listTooLong (vs.toArray.size + ws.toArray.size) = false := by
      simp [Builtin.List.listTooLong, sizeLine]; omega
    rw [this]; simp
  cases ws with
  | nil =>
    refine kxn_extend F N hb rfl (U _) hd (by simp; omega) (by simp; omega) ?_
    intro h' F' N'
    have := h h' n F' (by rw [List.append_nil]; exact N')
    exact this
  | cons a ws =>
    refine kl_extend F N hb (l := vs ++ a :: ws) (by simp) (by simp) (U _) hd (by simp; omega) (by simp at hsz ⊢; omega) ?_
    intro h' F' N'
    exact h h' (n + 1) F' N'
theorem sizesTo_len (cs : List Nat) (B : Nat) (h : ∀ i, cs.getD i 0 ≤ B) : ∀ n, (sizesTo cs n).length ≤ n * B
  | 0 => by simp [sizesTo]
  | n + 1 => by
    have ih := sizesTo_len cs B h n
    have h1 := h n
    show (sizesTo cs n ++ _).length ≤ _
    rw [List.length_append, List.length_replicate, Nat.succ_mul]
    omega
theorem sizesTo_next (cs : List Nat) (n : Nat) (x : Int) (k : Int) (hk : k = n) (hx : x = (cs.getD n 0 : Int) - (cs.getD (n + 1) 0 : Int)) :
    ((sizesTo cs n).map fun n : Nat => (n : Int)) ++ (List.replicate x.toNat [k + 1]).flatten = (sizesTo cs (n + 1)).map fun n : Nat => (n : Int) := by
  show _ = (sizesTo cs n ++ List.replicate (cs.getD n 0 - cs.getD (n + 1) 0) (n + 1)).map _
  rw [List.map_append, List.map_replicate]
  have e : x.toNat = cs.getD n 0 - cs.getD (n + 1) 0 := by omega
  rw [e, hk]
  congr 1
  induction (cs.getD n 0 - cs.getD (n + 1) 0) with
  | zero => rfl
  | succ m ih => rw [List.replicate_succ, List.flatten_cons, ih, List.replicate_succ]; rfl
theorem flat_len (n : Nat) (a : Value) : (List.replicate n [a]).flatten.length = n := by
  induction n with
  | zero => rfl
  | succ n ih => rw [List.replicate_succ, List.flatten_cons, List.length_append, ih]; simp; omega
theorem sz_last (cs : List Nat) (n : Nat) (h : cs.length ≤ n + 1) : cs.getD (n + 1) 0 = 0 := by
  simp [List.getD_eq_getElem?_getD, h]
theorem isList_of {h : Heap} {a : Addr} {vs : List Value} {n : Nat} (e : h.get? a = some (W.listOf vs.toArray n)) : h.IsList a vs.toArray := ⟨_, e, rfl, _, rfl⟩
theorem fr_str {h₀ h : Heap} {L : Addr} {m : PySem.Str → Option Value} (_ : Fr h₀ L h m) (x y : PySem.Str) (e : ∃ t, m x = some (.str y t)) : ∃ t, m x = some (.str y t) := e
theorem sizes_ok (w mean mg mb) (b : List Bool) (t : Tok) (hpre : b.length < 100) : Pg 3 w mean mg mb (.ref 89) [.str (rowS b) t] (fun _ => True) (fun v h h' => ∃ K cs D ys k0, v = .ref D ∧ h'.get? D = some (W.listOf ys.toArray k0) ∧ h.get? D = none ∧ IntsAre ys ((sizesTo cs K).map fun n : Nat => (n : Int)) ∧ cs.length = K ∧ (∀ n, n < K → cs.getD n 0 = lvl n b) ∧ lvl K b = 0) := by
  have hlen := rowS_length b
  have hszl := sizeLine_eq
  have htext : rowS b ++ Txt.mul (PySem.Str.ofString " ") ((rowS b).length : Int) = rowS (levRow b 0) := by
    rw [mul_blank _ (by omega), rowS_append, rowS_length]; rfl
  dsimp only [Pg]; k_fill
  intro dp un gd cn cs a ccd cl outer A₀ base h₀ L m s Q E hB hF hX hT hkind hdp hun hpre0 hret
  refine wpAny_call ?_
  k_dflt (refine' code_defG ?k1 ?k2 ?k3 (noNews _ _ _) ?k5 ?kA ?kF ?kK ?k6 ?k7 ?k8 ?k9 ?kB ?_ ?c2 ?c3 ?c4 ?c5; (case kA => exact rfl); (case kF => exact rfl); (case kK => assumption); (case k1 => k_asm); (case k2 => k_asm); (case k3 => k_asm); (case k5 => k_asm); (case k6 => k_is); (case k7 => k_is); (case k8 => ktr_room); (case k9 => first | exact BindsTo.of_eq rfl | exact binds_K (by k_in) rfl (by k_is) rfl rfl rfl); (case c5 => decide); (case kB => exact locs rfl); (case c2 => exact rfl); (case c3 => exact rfl); (case c4 => exact rfl); k_whole)
  intro g' L' h' FG' F' N' B' X' T' GS'
  (try dsimp only)
  (try k_lift B')
  (try k_fold)
  (repeat' ((fail_if_success (with_reducible show wpAny _ _ (exec (Stmt.While _ _ _ _) _) _ _ _)); ((first | (k_unfold; (try dsimp only)) | (k_end; wrow_close) | walk1 | (dsimp only; walk1) | (leave1; walk_say "STEP leave1"; try dsimp only) | fail "no step"))))
  rename Fr g' L' _ _ => F9
  rw [htext] at F9
  rename News g' L' _ _ => N9
  obtain ⟨t0, ht0⟩ := fr_str F9 (PySem.Str.ofString "left") (rowS (levRow b 0)) ⟨_, by with_unfolding_all rfl⟩
  refine' ksw_while (σ := PySem.Str × Tok × List Value × List Int × Nat) (fun c => [(_, W.listOf c.2.2.1.toArray c.2.2.2.2)]) (fun c => [(PySem.Str.ofString "left", Value.str c.1 c.2.1)]) (fun c => IntsAre c.2.2.1 c.2.2.2.1) [PySem.Str.ofString "rest"] (fun c => SzInv b c.1 c.2.2.2.1) (fun c => c.1.length) (rowS (levRow b 0), t0, [], [], 0) F9 N9 IntsAre.nil (List.forall_mem_cons.mpr ⟨ht0, List.forall_mem_nil _⟩) (sz_start rfl) ?_
  clear ht0
  rintro ⟨x, tx, vs, ns, nn⟩ kU kH kTk kFacts kInv kFr kNews
  clear F9 N9
  (try dsimp only [kstB] at kFr)
  dsimp only at kFacts kInv kNews
  have kLen := kFacts.length
  (try dsimp only)
  (try k_fold)
  obtain ⟨n, hn, hleft, hb, hc⟩ := kInv
  subst hleft
  subst hc
  rw [List.length_map, List.length_range] at kLen
  have hlr := levRow_len b n hn
  have hlr2 := rowS_length (levRow b n)
  (repeat' ((fail_if_success (with_reducible show wpAny _ _ (execs _ _) _ _ _)); ((first | (k_unfold; (try dsimp only)) | (k_end; wrow_close) | walk1 | (dsimp only; walk1) | (leave1; walk_say "STEP leave1"; try dsimp only) | fail "no step"))))
  · rename List.isEmpty _ = true => hcon
    have hcon2 : Txt.contains (rowS (levRow b n)) (PySem.Str.ofString "o") = false := by unfold Txt.contains; rw [hcon]; rfl
    rw [contains_ball, decide_eq_false_iff_not, levRow_balls] at hcon2
    have hb0 : balls (lev n b) = 0 := by omega
    clear hcon
    obtain ⟨cs, hcs⟩ : ∃ cs : List Nat, cs = (List.range n).map fun i => lvl i b := ⟨_, rfl⟩
    have kF2 : IntsAre vs (cs.map fun n : Nat => (n : Int)) := by rw [hcs, List.map_map]; exact kFacts
    have hcl : cs.length = n := by simp [hcs]
    clear kFacts
    (repeat' ((fail_if_success (with_reducible show wpAny _ _ (pyIter _) _ _ _)); ((first | (k_unfold; (try dsimp only)) | (k_end; wrow_close) | walk1 | (dsimp only; walk1) | (leave1; walk_say "STEP leave1"; try dsimp only) | fail "no step"))))
    rename IsRange _ _ _ _ _ _ _ _ => hrg
    rename News g' L' _ _ => N8
    rename Fr g' L' _ _ => F8
    refine kst_range (σ := List Value × List Int × Nat) (fun c => [(_, W.listOf c.1.toArray c.2.2), (_, W.listOf vs.toArray nn)]) (fun _ => []) (fun c => IntsAre c.1 c.2.1) [PySem.Str.ofString "more"] (fun pre c => c.2.1 = (sizesTo cs pre.length).map fun n : Nat => (n : Int)) ([], [], 0) rfl hrg (small_one (by simp) (by simp) (by first | omega | (simp; omega) | simp) (by first | omega | (simp; omega) | simp)) (rangeSize_nat _ _) F8 N8 IntsAre.nil (fun p hp => nomatch hp) rfl ?_ ?_
    · rintro ⟨ys, ms, kk⟩ pre k t6 u h6 tk6 own hk hlt off hys hP F6 N6
      clear F8 N8
      dsimp only at hP hys N6
      (try dsimp only [kstB] at F6)
      simp only [List.cons_append, List.nil_append] at N6
      simp only [List.map_cons, List.map_nil] at off
      have hk1 : 0 ≤ k ∧ k < (cs.length : Int) := by
        rw [List.length_map] at hlt; omega
      have hb1 := counts_le b n k.toNat cs hcs
      have hb2 := counts_le b n (k + 1).toNat cs hcs
      have hyl := hys.length
      rw [hP, List.length_map] at hyl
      have hbB : ∀ i, cs.getD i 0 ≤ b.length := fun i => by have := counts_le b n i cs hcs; rw [getD_cast'] at this; omega
      have hpl : pre.length < n := by rw [List.length_map] at hlt; omega
      have hyl2 := sizesTo_len cs b.length hbB pre.length
      have hyl3 : pre.length * b.length ≤ 100 * 100 := Nat.mul_le_mul (by omega) (by omega)
      (repeat' (((first | (k_unfold; (try dsimp only)) | (k_end; wrow_close) | walk1 | (dsimp only; walk1) | (leave1; walk_say "STEP leave1"; try dsimp only) | fail "no step"))))
      all_goals rename IntsAre (List.flatten _) _ => hi7
      all_goals have hi8 := hi7.length
      all_goals k_dflt (refine' extend_K ?kF ?kN ?kb ?kU ?kz ?_; (case kF => k_asm); (case kN => k_asm); (case kb => k_mem); (case kU => intro o'; k_upd); (case kz => rw [flat_len]; omega))
      all_goals intro h7 n7 F7 N7
      all_goals (try dsimp only at N7)
      all_goals (try k_sweep)
      all_goals (repeat' ((fail_if_success (with_reducible show InvEndN _ _ _ _ _ _ _)); ((first | (k_unfold; (try dsimp only)) | (k_end; wrow_close) | walk1 | (dsimp only; walk1) | (leave1; walk_say "STEP leave1"; try dsimp only) | fail "no step"))))
      all_goals rename News g' L' _ _ => N9
      all_goals rename Fr g' L' _ _ => F9
      all_goals have hi9 := IntsAre.append hys hi7
      all_goals rw [hP] at hi9
      · rw [sizesTo_next cs pre.length _ k (by omega) (by rw [getD_cast', getD_cast']; congr 3 <;> omega)] at hi9
        refine kst_end (_, _, n7) F9 N9 ?_ ?_ ?_ hi9 (fun p hp => nomatch hp) (by kst_same) ?_
        · exact List.forall_mem_cons.mpr ⟨.tail _ (.tail _ (.head _)), List.forall_mem_cons.mpr ⟨.tail _ (.tail _ (.tail _ (.head _))), List.forall_mem_nil _⟩⟩
        · exact fun p hp => .tail _ (.tail _ (.tail _ (.tail _ hp)))
        · rfl
        · show _ = List.map _ (sizesTo cs (pre ++ [k]).length)
          rw [List.length_append]; rfl
      · rw [sizesTo_next cs pre.length _ k (by omega) (by rw [getD_cast', sz_last cs pre.length (by rename ¬ _ < _ => hge; rw [List.length_map] at hge; omega)]; congr 3 <;> omega)] at hi9
        refine kst_end (_, _, n7) F9 N9 ?_ ?_ ?_ hi9 (fun p hp => nomatch hp) (by kst_same) ?_
        · exact List.forall_mem_cons.mpr ⟨.tail _ (.tail _ (.head _)), List.forall_mem_cons.mpr ⟨.tail _ (.tail _ (.tail _ (.head _))), List.forall_mem_nil _⟩⟩
        · exact fun p hp => .tail _ (.tail _ (.tail _ (.tail _ hp)))
        · rfl
        · show _ = List.map _ (sizesTo cs (pre ++ [k]).length)
          rw [List.length_append]; rfl
    · rintro ⟨ys, ms, kk⟩ u h6 tk6 hys hP F6 N6
      clear F8 N8
      dsimp only at hP hys N6
      (try dsimp only [kstB] at F6)
      (try dsimp only)
      (repeat' (((first | (k_unfold; (try dsimp only)) | (k_end; wrow_close) | walk1 | (dsimp only; walk1) | (leave1; walk_say "STEP leave1"; try dsimp only) | fail "no step"))))
      have hD6 := N6 _ (List.Mem.head _)
      refine pg_ret hret (by assumption) GS' F6 ⟨n, cs, _, ys, _, rfl, hD6.1, ?_, ?_, hcl, ?_, ?_⟩
      · cases e : s.heap.get? _ with
        | none => rfl
        | some o => have := GS' _ _ e (by simp); rw [hD6.2.2] at this; cases this
      · rw [hP, rangeKs_length, List.length_map] at hys
        have e : ((cs.length : Int) - 0).toNat = n := by omega
        rw [e] at hys
        exact hys
      · intro j hj
        rw [hcs, List.getD_eq_getElem?_getD, List.getElem?_map, List.getElem?_range hj]; rfl
      · exact runsN_zero _ hb0
  · rename List.isEmpty _ = false => hcon
    have hcon2 : Txt.contains (rowS (levRow b n)) (PySem.Str.ofString "o") = true := by unfold Txt.contains; rw [hcon]; rfl
    rw [contains_ball, decide_eq_true_eq, levRow_balls] at hcon2
    have hbl := balls_le_len b
    have hnb : n < b.length := by omega
    refine gen_toks (Nat.succ_pos _) ?_
    intro tk0 htk0
    (repeat' (((first | (k_unfold; (try dsimp only)) | (k_end; wrow_close) | walk1 | (dsimp only; walk1) | (leave1; walk_say "STEP leave1"; try dsimp only) | fail "no step"))))
    refine SC.replaceW (Nat.ne_of_gt htk0) (Nat.succ_ne_zero _) (Nat.ne_of_lt (Nat.lt_succ_self _)) (by decide) (by omega) (by decide) ?_
    intro t9 k9
    rw [replace_pair, levRow_next b n hnb]
    have hlr3 := levRow_len b (n + 1) hnb
    have hlr4 := rowS_length (levRow b (n + 1))
    (repeat' (((first | (k_unfold; (try dsimp only)) | (k_end; wrow_close) | walk1 | (dsimp only; walk1) | (leave1; walk_say "STEP leave1"; try dsimp only) | fail "no step"))))
    rename News g' L' _ _ => N9
    rename Fr g' L' _ _ => F9
    rw [List.push_toArray, sz_count hnb] at N9
    refine ksw_end (rowS (levRow b (n + 1)), t9, _, _, _) F9 N9 (fun p hp => hp) (ints_snoc kFacts) (List.forall_mem_cons.mpr ⟨by with_unfolding_all rfl, List.forall_mem_nil _⟩) (by ksw_same) (sz_next hnb hb hcon2) (sz_less hnb hcon2)
end
section
open PySem PySem.W PyProof.Rows

open PySem.Calls PySem.Spec
def fmItems : Array Value := #[.ref 45, .ref 47, .ref 49, .ref 53, .ref 55, .ref 57, .ref 61, .ref 63, .ref 65, .ref 69]
def fmTab : List (List (Int × Nat)) := [[(40960, 108), (49152, 115), (32768, 45), (24576, 98), (16384, 100), (8192, 99), (4096, 112)], [(256, 114)], [(128, 119)], [(2112, 115), (2048, 83), (64, 120)], [(32, 114)], [(16, 119)], [(1032, 115), (1024, 83), (8, 120)], [(4, 114)], [(2, 119)], [(513, 116), (512, 84), (1, 120)]]
theorem fm_tab (w : World) : ∃ o, (hdTop.heap_39 w.params).lookup 70 = some o ∧ o.cls = .type "tuple" ∧ ∃ n, o.data = .seq fmItems n := ⟨_, rfl, rfl, _, rfl⟩
def PairAt (h : PySem.W.Frag) (p : Int × Nat) (x : Value) : Prop := ∃ a t y t' o n, x = .ref a ∧ h.lookup a = some o ∧ o.cls = .type "tuple" ∧ o.data = .seq #[.int p.1 t, .str y t'] n ∧ y = ⟨#[p.2]⟩
def TabAt (h : PySem.W.Frag) (ps : List (Int × Nat)) (x : Value) : Prop := ∃ a o n items, x = .ref a ∧ h.lookup a = some o ∧ o.cls = .type "tuple" ∧ o.data = .seq items n ∧ items.size = ps.length ∧ ∀ (j : Nat) (p : Int × Nat), ps[j]? = some p → ∃ v, items[j]? = some v ∧ PairAt h p v
theorem fm_one (h : PySem.W.Frag) (p : Int × Nat) {x : Value} {items : Array Value} (e : items[0]? = some x) (hx : PairAt h p x) : ∀ (j : Nat) (q : Int × Nat), [p][j]? = some q → ∃ v, items[j]? = some v ∧ PairAt h q v := by
  intro j q hq
  match j, hq with
  | 0, hq => cases hq; exact ⟨x, e, hx⟩
theorem fm_cons {h : PySem.W.Frag} {p : Int × Nat} {ps : List (Int × Nat)} {x : Value} {items : List Value} (hx : PairAt h p x) (hr : ∀ (j : Nat) (q : Int × Nat), ps[j]? = some q → ∃ v, items.toArray[j]? = some v ∧ PairAt h q v) :
    ∀ (j : Nat) (q : Int × Nat), (p :: ps)[j]? = some q → ∃ v, (x :: items).toArray[j]? = some v ∧ PairAt h q v := by
  intro j q hq
  match j, hq with
  | 0, hq => cases hq; exact ⟨x, by simp, hx⟩
  | j + 1, hq =>
    obtain ⟨v, hv, hp⟩ := hr j q hq
    exact ⟨v, by simpa using hv, hp⟩
theorem fm_nil {h : PySem.W.Frag} : ∀ (j : Nat) (q : Int × Nat), ([] : List (Int × Nat))[j]? = some q → ∃ v, ([] : List Value).toArray[j]? = some v ∧ PairAt h q v := by
  intro j q hq; simp at hq
theorem fm_tabs (w : World) : ∀ (i : Nat) (ps : List (Int × Nat)), fmTab[i]? = some ps → ∃ x, fmItems[i]? = some x ∧ TabAt (hdTop.heap_39 w.params) ps x := by
  intro i ps hi
  match i, hi with
  | 0, hi => cases hi; exact ⟨_, rfl, _, _, _, _, rfl, rfl, rfl, rfl, rfl, fm_cons ⟨_, _, _, _, _, _, rfl, rfl, rfl, rfl, by decide +kernel⟩ (fm_cons ⟨_, _, _, _, _, _, rfl, rfl, rfl, rfl, by decide +kernel⟩ (fm_cons ⟨_, _, _, _, _, _, rfl, rfl, rfl, rfl, by decide +kernel⟩ (fm_cons ⟨_, _, _, _, _, _, rfl, rfl, rfl, rfl, by decide +kernel⟩ (fm_cons ⟨_, _, _, _, _, _, rfl, rfl, rfl, rfl, by decide +kernel⟩ (fm_cons ⟨_, _, _, _, _, _, rfl, rfl, rfl, rfl, by decide +kernel⟩ (fm_cons ⟨_, _, _, _, _, _, rfl, rfl, rfl, rfl, by decide +kernel⟩ fm_nil))))))⟩
  | 1, hi => cases hi; exact ⟨_, rfl, _, _, _, _, rfl, rfl, rfl, rfl, rfl, fm_cons ⟨_, _, _, _, _, _, rfl, rfl, rfl, rfl, by decide +kernel⟩ fm_nil⟩
  | 2, hi => cases hi; exact ⟨_, rfl, _, _, _, _, rfl, rfl, rfl, rfl, rfl, fm_cons ⟨_, _, _, _, _, _, rfl, rfl, rfl, rfl, by decide +kernel⟩ fm_nil⟩
  | 3, hi => cases hi; exact ⟨_, rfl, _, _, _, _, rfl, rfl, rfl, rfl, rfl, fm_cons ⟨_, _, _, _, _, _, rfl, rfl, rfl, rfl, by decide +kernel⟩ (fm_cons ⟨_, _, _, _, _, _, rfl, rfl, rfl, rfl, by decide +kernel⟩ (fm_cons ⟨_, _, _, _, _, _, rfl, rfl, rfl, rfl, by decide +kernel⟩ fm_nil))⟩
  | 4, hi => cases hi; exact ⟨_, rfl, _, _, _, _, rfl, rfl, rfl, rfl, rfl, fm_cons ⟨_, _, _, _, _, _, rfl, rfl, rfl, rfl, by decide +kernel⟩ fm_nil⟩
  | 5, hi => cases hi; exact ⟨_, rfl, _, _, _, _, rfl, rfl, rfl, rfl, rfl, fm_cons ⟨_, _, _, _, _, _, rfl, rfl, rfl, rfl, by decide +kernel⟩ fm_nil⟩
  | 6, hi => cases hi; exact ⟨_, rfl, _, _, _, _, rfl, rfl, rfl, rfl, rfl, fm_cons ⟨_, _, _, _, _, _, rfl, rfl, rfl, rfl, by decide +kernel⟩ (fm_cons ⟨_, _, _, _, _, _, rfl, rfl, rfl, rfl, by decide +kernel⟩ (fm_cons ⟨_, _, _, _, _, _, rfl, rfl, rfl, rfl, by decide +kernel⟩ fm_nil))⟩
  | 7, hi => cases hi; exact ⟨_, rfl, _, _, _, _, rfl, rfl, rfl, rfl, rfl, fm_cons ⟨_, _, _, _, _, _, rfl, rfl, rfl, rfl, by decide +kernel⟩ fm_nil⟩
  | 8, hi => cases hi; exact ⟨_, rfl, _, _, _, _, rfl, rfl, rfl, rfl, rfl, fm_cons ⟨_, _, _, _, _, _, rfl, rfl, rfl, rfl, by decide +kernel⟩ fm_nil⟩
  | 9, hi => cases hi; exact ⟨_, rfl, _, _, _, _, rfl, rfl, rfl, rfl, rfl, fm_cons ⟨_, _, _, _, _, _, rfl, rfl, rfl, rfl, by decide +kernel⟩ (fm_cons ⟨_, _, _, _, _, _, rfl, rfl, rfl, rfl, by decide +kernel⟩ (fm_cons ⟨_, _, _, _, _, _, rfl, rfl, rfl, rfl, by decide +kernel⟩ fm_nil))⟩
def pick (test : Int → Bool) (d : Nat) : List (Int × Nat) → Nat
  | [] => d
  | p :: r => if test p.1 then p.2 else pick test d r
def fmTest (x : Int) (i : Nat) (b : Int) : Bool := if i = 0 then Builtin.bitAnd x 61440 == b else Builtin.bitAnd x b == b
def fmCode (x : Int) (i : Nat) : Nat := pick (fmTest x i) (if i = 0 then 63 else 45) (fmTab.getD i [])
theorem pick_at (test : Int → Bool) (d : Nat) : ∀ (ps : List (Int × Nat)) (j : Nat) (p : Int × Nat), ps[j]? = some p → (∀ (k : Nat) (q : Int × Nat), k < j → ps[k]? = some q → test q.1 = false) → test p.1 = true → pick test d ps = p.2
  | [], j, p, h, _, _ => by simp at h
  | q :: r, 0, p, h, _, ht => by cases h; simp [pick, ht]
  | q :: r, j + 1, p, h, hf, ht => by
    have h0 : test q.1 = false := hf 0 q (by omega) rfl
    simp only [pick, h0, Bool.false_eq_true, if_false]
    exact pick_at test d r j p h (fun k q' hk hq => hf (k + 1) q' (by omega) hq) ht
theorem pick_none (test : Int → Bool) (d : Nat) : ∀ (ps : List (Int × Nat)), (∀ (k : Nat) q, ps[k]? = some q → test q.1 = false) → pick test d ps = d
  | [], _ => rfl
  | q :: r, hf => by
    have h0 : test q.1 = false := hf 0 q rfl
    simp only [pick, h0, Bool.false_eq_true, if_false]
    exact pick_none test d r fun k q' hq => hf (k + 1) q' hq
def FmP (x : Int) (i : Nat) (c : List Value × Nat) : Prop := StrsAre c.1 ((List.range i).map fun j => ⟨#[fmCode x j]⟩)
theorem strs_snoc {vs : List Value} {ns : List PySem.Str} {k : PySem.Str} {t : Tok} (h : StrsAre vs ns) : StrsAre (vs ++ [.str k t]) (ns ++ [k]) := by
  induction h with
  | nil => exact .cons _ _ .nil
  | cons n t _ ih => exact .cons n t ih
theorem FmP.snoc {x : Int} {i : Nat} {ys : List Value} {kk k2 : Nat} {t : Tok} {c : Nat} (h : FmP x i (ys, kk)) (e : fmCode x i = c) : FmP x (i + 1) (ys ++ [.str ⟨#[c]⟩ t], k2) := by
  unfold FmP
  rw [List.range_succ, List.map_append]
  subst e
  exact strs_snoc h
def FmJ (x : Int) (i : Nat) (ps : List (Int × Nat)) (j : Nat) : Prop := ∀ (k : Nat) (q : Int × Nat), k < j → ps[k]? = some q → fmTest x i q.1 = false
theorem fm_same2 {m₀ u : PySem.Str → Option Value} {a b : Option Value} : ∀ z, [PySem.Str.ofString "bit", PySem.Str.ofString "char"].contains z = false → (if z = PySem.Str.ofString "char" then a else if z = PySem.Str.ofString "bit" then b else if [PySem.Str.ofString "bit", PySem.Str.ofString "char"].contains z then u z else m₀ z) = m₀ z := by
  intro z hz
  have h := hz
  simp only [List.contains_cons, List.contains_nil, Bool.or_false, Bool.or_eq_false_iff, beq_eq_false_iff_ne] at h
  rw [if_neg h.2, if_neg h.1, hz]; rfl
theorem fm_same4 {m₀ u u7 m' : PySem.Str → Option Value} {a b c d : Option Value} (e : m' = fun z => (if z = PySem.Str.ofString "char" then a else if z = PySem.Str.ofString "bit" then b else if [PySem.Str.ofString "bit", PySem.Str.ofString "char"].contains z then u7 z else if z = PySem.Str.ofString "table" then c else if z = PySem.Str.ofString "index" then d else if [PySem.Str.ofString "index", PySem.Str.ofString "table", PySem.Str.ofString "bit", PySem.Str.ofString "char"].contains z then u z else m₀ z)) : ∀ z, [PySem.Str.ofString "index", PySem.Str.ofString "table", PySem.Str.ofString "bit", PySem.Str.ofString "char"].contains z = false → m' z = m₀ z := by
  intro z hz
  subst e
  have h := hz
  simp only [List.contains_cons, List.contains_nil, Bool.or_false, Bool.or_eq_false_iff, beq_eq_false_iff_ne] at h
  obtain ⟨h1, h2, h3, h4⟩ := h
  have h5 : [PySem.Str.ofString "bit", PySem.Str.ofString "char"].contains z = false := by
    simp only [List.contains_cons, List.contains_nil, Bool.or_false, Bool.or_eq_false_iff, beq_eq_false_iff_ne]; exact ⟨h3, h4⟩
  simp only [if_neg h1, if_neg h2, if_neg h3, if_neg h4, hz, h5, Bool.false_eq_true, if_false]
theorem fm_end {h₀ h' : Heap} {L l : Addr} {stored : List PySem.Str} {m₀ m' : PySem.Str → Option Value} {own news' : List (Addr × Obj)} {adr : List Addr} {s₁ : Shared} {tk : Nat} {x : Int} {i : Nat} {ys : List Value} {k2 : Nat} (F : Fr h₀ L h' m') (N : News h₀ L h' news') (hm : (l, W.listOf ys.toArray k2) ∈ news') (ho : ∀ p ∈ own, p ∈ news') (ha : [l] = adr) (same : ∀ z, stored.contains z = false → m' z = m₀ z) (hP : FmP x i (ys, k2)) :
    InvEndN h₀ L (EnS (fun c : List Value × Nat => [(l, W.listOf c.1.toArray c.2)]) stored m₀ (FmP x) i) own adr s₁ { s₁ with heap := h', toks := tk } :=
  InvEndN.intro F N ⟨(ys, k2), rfl, same, hP⟩ ha (List.forall_mem_cons.mpr ⟨hm, List.forall_mem_nil _⟩) ho
theorem fm_same4' {m₀ u u7 m' : PySem.Str → Option Value} {c d : Option Value} (e : m' = fun z => (if [PySem.Str.ofString "bit", PySem.Str.ofString "char"].contains z then u7 z else if z = PySem.Str.ofString "table" then c else if z = PySem.Str.ofString "index" then d else if [PySem.Str.ofString "index", PySem.Str.ofString "table", PySem.Str.ofString "bit", PySem.Str.ofString "char"].contains z then u z else m₀ z)) : ∀ z, [PySem.Str.ofString "index", PySem.Str.ofString "table", PySem.Str.ofString "bit", PySem.Str.ofString "char"].contains z = false → m' z = m₀ z := by
  intro z hz
  subst e
  have h := hz
  simp only [List.contains_cons, List.contains_nil, Bool.or_false, Bool.or_eq_false_iff, beq_eq_false_iff_ne] at h
  obtain ⟨h1, h2, h3, h4⟩ := h
  have h5 : [PySem.Str.ofString "bit", PySem.Str.ofString "char"].contains z = false := by
    simp only [List.contains_cons, List.contains_nil, Bool.or_false, Bool.or_eq_false_iff, beq_eq_false_iff_ne]; exact ⟨h3, h4⟩
  simp only [if_neg h1, if_neg h2, hz, h5, Bool.false_eq_true, if_false]
theorem fm_q : PySem.Str.ofString "?" = ⟨#[63]⟩ := by decide +kernel
theorem fm_m : PySem.Str.ofString "-" = ⟨#[45]⟩ := by decide +kernel
theorem fm_join (x : Int) (n : Nat) : Txt.join (PySem.Str.ofString "") ((List.range n).map fun j => (⟨#[fmCode x j]⟩ : PySem.Str)) = ⟨((List.range n).map fun j => fmCode x j).toArray⟩ := by
  have e : PySem.Str.ofString "" = ⟨#[]⟩ := by decide +kernel
  have h := join_ones ((List.range n).map fun j => fmCode x j)
  rw [List.map_map] at h
  rw [e, beq_iff_eq.mp (join_plain_closes _ _)]
  exact h
theorem FmJ.next {x : Int} {i j : Nat} {ps : List (Int × Nat)} {b : Int} {c : Nat} (h : FmJ x i ps j) (hp : ps[j]? = some (b, c)) (hb : fmTest x i b = false) : FmJ x i ps (j + 1) := by
  intro k q hk hq
  by_cases e : k = j
  · subst e; rw [hp] at hq; cases hq; exact hb
  · exact h k q (by omega) hq
theorem ifmt_ok (w mean mg mb) (x : Int) (t : Tok) : Pg 2 w mean mg mb (.ref 37) [.int x t] (fun _ => True) (fun v h h' => ∃ t', v = .int (Builtin.bitAnd x 61440) t') := by
  dsimp only [Pg]; k_fill
  intro dp un gd cn cs a ccd cl outer A₀ base h₀ L m s Q E hB hF hX hT hkind hdp hun hpre0 hret
  refine wpAny_call ?_
  k_dflt (refine' code_defG ?k1 ?k2 ?k3 (noNews _ _ _) ?k5 ?kA ?kF ?kK ?k6 ?k7 ?k8 ?k9 ?kB ?_ ?c2 ?c3 ?c4 ?c5; (case kA => exact rfl); (case kF => exact rfl); (case kK => assumption); (case k1 => k_asm); (case k2 => k_asm); (case k3 => k_asm); (case k5 => k_asm); (case k6 => k_is); (case k7 => k_is); (case k8 => ktr_room); (case k9 => first | exact BindsTo.of_eq rfl | exact binds_K (by k_in) rfl (by k_is) rfl rfl rfl); (case c5 => decide); (case kB => exact locs rfl); (case c2 => exact rfl); (case c3 => exact rfl); (case c4 => exact rfl); k_whole)
  intro g' L' h' FG' F' N' B' X' T' GS'
  (try dsimp only)
  (try k_lift B')
  (try k_fold)
  (repeat' (((first | (k_unfold; (try dsimp only)) | (k_end; wrow_close) | walk1 | (dsimp only; walk1) | (leave1; walk_say "STEP leave1"; try dsimp only) | fail "no step"))))
  refine pg_ret hret (by assumption) GS' (by assumption) ⟨_, rfl⟩
theorem filemode_ok (w mean mg mb) (x : Int) (t : Tok) : Pg 5 w mean mg mb (.ref 77) [.int x t] (fun _ => True) (fun v h h' => ∃ t', v = .str ⟨((List.range 10).map fun j => fmCode x j).toArray⟩ t') := by
  dsimp only [Pg]; k_fill
  intro dp un gd cn cs a ccd cl outer A₀ base h₀ L m s Q E hB hF hX hT hkind hdp hun hpre0 hret
  refine wpAny_call ?_
  k_dflt (refine' code_defG ?k1 ?k2 ?k3 (noNews _ _ _) ?k5 ?kA ?kF ?kK ?k6 ?k7 ?k8 ?k9 ?kB ?_ ?c2 ?c3 ?c4 ?c5; (case kA => exact rfl); (case kF => exact rfl); (case kK => assumption); (case k1 => k_asm); (case k2 => k_asm); (case k3 => k_asm); (case k5 => k_asm); (case k6 => k_is); (case k7 => k_is); (case k8 => ktr_room); (case k9 => first | exact BindsTo.of_eq rfl | exact binds_K (by k_in) rfl (by k_is) rfl rfl rfl); (case c5 => decide); (case kB => exact locs rfl); (case c2 => exact rfl); (case c3 => exact rfl); (case c4 => exact rfl); k_whole)
  intro g' L' h' FG' F' N' B' X' T' GS'
  (try dsimp only)
  (try k_lift B')
  (try k_fold)
  obtain ⟨o70, ho70, hc70, n70, hd70⟩ := fm_tab w
  have hT70 : g'.IsTuple 70 fmItems := ⟨o70, X' _ _ ho70, hc70, n70, hd70⟩
  clear hd70 hc70 ho70
  (repeat' ((fail_if_success (with_reducible show wpAny _ _ (exec (Stmt.For _ _ _ _ _) _) _ _ _)); ((first | (k_unfold; (try dsimp only)) | (k_end; wrow_close) | walk1 | (dsimp only; walk1) | (leave1; walk_say "STEP leave1"; try dsimp only) | fail "no step"))))
  rename Fr g' L' _ _ => F9
  rename News g' L' _ _ => N9
  with_unfolding_all refine For_turns F9 ?_
  (repeat' (((first | (k_unfold; (try dsimp only)) | (k_end; wrow_close) | walk1 | (dsimp only; walk1) | (leave1; walk_say "STEP leave1"; try dsimp only) | fail "no step"))))
  refine enum_loop (σ := List Value × Nat) (fun c => [(_, W.listOf c.1.toArray c.2)]) [PySem.Str.ofString "index", PySem.Str.ofString "table", PySem.Str.ofString "bit", PySem.Str.ofString "char"] (FmP x) ([], 0) rfl hT70 F9 N9 StrsAre.nil ?_ ?_
  · rintro i xv ⟨ys, kk⟩ u T t6 h6 tk6 own hxv hP hT6 off hadr F6 N6
    clear F9 N9
    have hil : i < 10 := by
      have := Array.getElem?_eq_some_iff.mp hxv
      obtain ⟨h, _⟩ := this
      exact h
    obtain ⟨ps, hps⟩ : ∃ ps, fmTab[i]? = some ps := ⟨_, List.getElem?_eq_getElem (by exact hil)⟩
    have hcode : fmCode x i = pick (fmTest x i) (if i = 0 then 63 else 45) ps := by unfold fmCode; rw [List.getD_eq_getElem?_getD, hps]; rfl
    obtain ⟨xv', hxv', a, oa, na, items, rfl, hla, hca, hda, hsz, hpairs⟩ := fm_tabs w i ps hps
    have e1 : xv = .ref a := by rw [hxv'] at hxv; exact (Option.some.inj hxv).symm
    subst e1
    have hTa : g'.IsTuple a items := ⟨oa, X' _ _ hla, hca, na, hda⟩
    have hpair : ∀ (j : Nat) (v : Value), items[j]? = some v → ∃ p b t t', ps[j]? = some p ∧ v = .ref b ∧ IsTup g' b #[.int p.1 t, .str ⟨#[p.2]⟩ t'] := by
      intro j v hj
      have hjl : j < ps.length := by rw [← hsz]; exact (Array.getElem?_eq_some_iff.mp hj).1
      obtain ⟨v', hv', b, t1, y1, t2, ob, nb, rfl, hlb, hcb, hdb, rfl⟩ := hpairs j _ (List.getElem?_eq_getElem hjl)
      rw [hv'] at hj
      cases hj
      exact ⟨_, b, t1, t2, List.getElem?_eq_getElem hjl, rfl, ob, X' _ _ hlb, hcb, nb, hdb⟩
    clear hpairs hda hca hla hxv hxv'
    dsimp only at N6 off
    simp only [List.cons_append, List.nil_append] at N6
    simp only [List.map_cons, List.map_nil] at off
    have hyl := StrsAre.len_eq hP
    rw [List.length_map, List.length_range] at hyl
    (try k_fold)
    (repeat' ((fail_if_success (with_reducible show wpAny _ _ (exec (Stmt.For _ _ _ _ _) _) _ _ _)); ((first | (k_unfold; (try dsimp only)) | (k_end; wrow_close) | walk1 | (dsimp only; walk1) | (leave1; walk_say "STEP leave1"; try dsimp only) | fail "no step"))))
    rename Fr g' L' _ _ => F8
    rename News g' L' _ _ => N8
    refine wpAny_For ?_
    (repeat' ((fail_if_success (with_reducible show wpAny _ _ (pyIter _) _ _ _)); ((first | (k_unfold; (try dsimp only)) | (k_end; wrow_close) | walk1 | (dsimp only; walk1) | (leave1; walk_say "STEP leave1"; try dsimp only) | fail "no step"))))
    refine forElse_tup [PySem.Str.ofString "bit", PySem.Str.ofString "char"] (FmJ x i ps) rfl hTa F8 N8 (fun k q hk => absurd hk (Nat.not_lt_zero _)) ?_ ?_ (by passes_own)
    · intro j xj u7 I oI h7 tk7 hxj hJ hIoff hcI F7 N7
      clear F8 N8
      obtain ⟨⟨pb, pc⟩, b, tb, tc, hpj, rfl, hTb⟩ := hpair j xj hxj
      dsimp only at hTb
      have hTb7 : IsTup h7 b #[.int pb tb, .str ⟨#[pc]⟩ tc] := by
        obtain ⟨o, ho, hr⟩ := hTb
        exact ⟨o, F7.keep _ _ ho, hr⟩
      have hIl : @LT.lt Nat _ _ I := hIoff _ (List.Mem.head _)
      (repeat' (((first | (k_unfold; (try dsimp only)) | (k_end; wrow_close) | walk1 | (dsimp only; walk1) | (leave1; walk_say "STEP leave1"; try dsimp only) | fail "no step"))))
      · rename ((i : Int)) = 0 => hi0
        have hS := ifmt_ok w mean mg mb x t
        k_dflt (refine' Pg.use hS ?k1 ?k2 ?k3 ?k4 ?k5 ?kK ?kd ?ku trivial ?_; (case k1 => k_asm); (case k2 => k_asm); (case k3 => k_asm); (case k4 => k_asm); (case k5 => k_asm); (case kK => first | exact rfl | assumption); (case kd => ktr_room); (case ku => ktr_units))
        intro v9 h9 tk9 F9 N9 K9 P9
        obtain ⟨t10, hv10⟩ := P9
        subst hv10
        clear K9
        (try dsimp only)
        (try k_sweep)
        (repeat' (((first | (k_unfold; (try dsimp only)) | (k_end; wrow_close) | walk1 | (dsimp only; walk1) | (leave1; walk_say "STEP leave1"; try dsimp only) | fail "no step"))))
        · rename Builtin.bitAnd x 61440 = pb => hyes
          dsimp only [FePost]
          (repeat' (((first | (k_unfold; (try dsimp only)) | (k_end; wrow_close) | walk1 | (dsimp only; walk1) | (leave1; walk_say "STEP leave1"; try dsimp only) | fail "no step"))))
          rename News g' L' _ _ => N9
          rename Fr g' L' _ _ => F9
          rw [List.push_toArray] at N9
          refine fm_end F9 N9 (.tail _ (.head _)) (fun p hp => .tail _ (.tail _ hp)) rfl (fm_same4 (by with_unfolding_all rfl)) (FmP.snoc hP ?_)
          rw [hcode, pick_at (fmTest x i) _ ps j (pb, pc) hpj hJ]
          have : i = 0 := by omega
          simp [fmTest, this, hyes]
        · rename Builtin.bitAnd x 61440 ≠ pb => hno
          dsimp only [FePost]
          rename News g' L' _ _ => N9
          rename Fr g' L' _ _ => F9
          refine fe_end F9 N9 (fun p hp => hp) fm_same2 (FmJ.next hJ hpj ?_)
          have : i = 0 := by omega
          simp [fmTest, this, hno]
      · rename ((i : Int)) ≠ 0 => hi0
        rename Builtin.bitAnd x pb = pb => hyes
        dsimp only [FePost]
        (repeat' (((first | (k_unfold; (try dsimp only)) | (k_end; wrow_close) | walk1 | (dsimp only; walk1) | (leave1; walk_say "STEP leave1"; try dsimp only) | fail "no step"))))
        rename News g' L' _ _ => N9
        rename Fr g' L' _ _ => F9
        rw [List.push_toArray] at N9
        refine fm_end F9 N9 (.tail _ (.head _)) (fun p hp => .tail _ (.tail _ hp)) rfl (fm_same4 (by with_unfolding_all rfl)) (FmP.snoc hP ?_)
        rw [hcode, pick_at (fmTest x i) _ ps j (pb, pc) hpj hJ]
        have : i ≠ 0 := by omega
        simp [fmTest, this, hyes]
      · rename ((i : Int)) ≠ 0 => hi0
        rename Builtin.bitAnd x pb ≠ pb => hno
        dsimp only [FePost]
        rename News g' L' _ _ => N9
        rename Fr g' L' _ _ => F9
        refine fe_end F9 N9 (fun p hp => hp) fm_same2 (FmJ.next hJ hpj ?_)
        have : i ≠ 0 := by omega
        simp [fmTest, this, hno]
    · intro u7 h7 tk7 hJ F7 N7
      clear F8 N8
      rw [hsz] at hJ
      have hnone : fmCode x i = (if i = 0 then 63 else 45) := by
        rw [hcode]
        exact pick_none _ _ _ fun k q hq => hJ k q (List.getElem?_eq_some_iff.mp hq).1 hq
      (repeat' (((first | (k_unfold; (try dsimp only)) | (k_end; wrow_close) | walk1 | (dsimp only; walk1) | (leave1; walk_say "STEP leave1"; try dsimp only) | fail "no step"))))
      · rename ((i : Int)) = 0 => hi0
        rename News g' L' _ _ => N9
        rename Fr g' L' _ _ => F9
        rw [List.push_toArray, fm_q] at N9
        refine fm_end F9 N9 (.head _) (fun p hp => .tail _ hp) rfl (fm_same4' (by with_unfolding_all rfl)) (FmP.snoc hP ?_)
        rw [hnone, if_pos (by omega)]
      · rename ((i : Int)) ≠ 0 => hi0
        rename News g' L' _ _ => N9
        rename Fr g' L' _ _ => F9
        rw [List.push_toArray, fm_m] at N9
        refine fm_end F9 N9 (.head _) (fun p hp => .tail _ hp) rfl (fm_same4' (by with_unfolding_all rfl)) (FmP.snoc hP ?_)
        rw [hnone, if_neg (by omega)]
  · rintro ⟨ys, kk⟩ u h6 tk6 hP F6 N6
    clear F9 N9
    dsimp only at N6
    (repeat' (((first | (k_unfold; (try dsimp only)) | (k_end; wrow_close) | walk1 | (dsimp only; walk1) | (leave1; walk_say "STEP leave1"; try dsimp only) | fail "no step"))))
    have hP2 : StrsAre ys ((List.range 10).map fun j => ⟨#[fmCode x j]⟩) := hP
    refine join_listW (items := ys.toArray) ⟨_, (N6 _ (List.Mem.head _)).1, rfl, _, rfl⟩ hP2 (by decide) (by simp [PySem.Str.length, List.range, List.range.loop]) ?_
    intro t9 k9
    rw [fm_join]
    (repeat' (((first | (k_unfold; (try dsimp only)) | (k_end; wrow_close) | walk1 | (dsimp only; walk1) | (leave1; walk_say "STEP leave1"; try dsimp only) | fail "no step"))))
    refine pg_ret hret (by assumption) GS' (by assumption) ⟨_, rfl⟩
end
section
open PySem PySem.W PyProof.Rows
theorem ba_even (x y : Int) : Builtin.bitAnd x (2 * y) = 2 * Builtin.bitAnd (x / 2) y := by
  rw [kbt_halves x (2 * y), if_neg (by omega), Int.add_zero, show 2 * y / 2 = y by omega]
theorem ba_odd (x y : Int) : Builtin.bitAnd x (2 * y + 1) = 2 * Builtin.bitAnd (x / 2) y + x % 2 := by
  rw [kbt_halves x (2 * y + 1), show (2 * y + 1) / 2 = y by omega]
  split <;> omega
theorem ba_zero (x : Int) : Builtin.bitAnd x 0 = 0 := by
  have := PyProof.Rows.bitAnd_range x (y := 0) (by omega)
  omega
theorem ba_one (x : Int) : Builtin.bitAnd x 1 = x % 2 := by
  have := ba_odd x 0
  rw [ba_zero] at this
  simpa using this
def threeAt (x : Int) (a b c d e : Int) : List Bool := [decide (x / a % 8 > 3), decide (x / b % 8 % 4 > 1), decide (x / c % 8 % 2 + x / d % 2 > 0)]
def rowBits (x : Int) : List Bool := [decide (x / 4096 % 16 ≠ 8), decide (x / 64 % 8 > 3), decide (x / 64 % 8 % 4 > 1), decide (x / 64 % 8 % 2 + x / 2048 % 2 > 0),
  decide (x / 8 % 8 > 3), decide (x / 8 % 8 % 4 > 1), decide (x / 8 % 8 % 2 + x / 1024 % 2 > 0), decide (x / 1 % 8 > 3), decide (x / 1 % 8 % 4 > 1), decide (x / 1 % 8 % 2 + x / 512 % 2 > 0)]
theorem ba_b (x : Int) (k : Nat) (b : Int) (h : b = 2 ^ k) : (Builtin.bitAnd x b == b) = decide (x / b % 2 = 1) := by
  subst h
  rw [kbt_bit]
  have hp : (0 : Int) < 2 ^ k := Int.pow_pos (by decide)
  rw [Bool.eq_iff_iff, beq_iff_eq, decide_eq_true_eq]
  have h2 : x / 2 ^ k % 2 = 0 ∨ x / 2 ^ k % 2 = 1 := by omega
  rcases h2 with h2 | h2 <;> rw [h2]
  · constructor
    · intro h; omega
    · intro h; omega
  · simp
theorem ba_16 (x y : Int) : Builtin.bitAnd x (16 * y) = 16 * Builtin.bitAnd (x / 16) y := by
  have : 16 * y = 2 * (2 * (2 * (2 * y))) := by omega
  rw [this, ba_even, ba_even, ba_even, ba_even]
  have : x / 2 / 2 / 2 / 2 = x / 16 := by omega
  rw [this]; omega
theorem ba_fmt (x : Int) : Builtin.bitAnd x 61440 = 4096 * (x / 4096 % 16) := by
  rw [show (61440 : Int) = 16 * (16 * (16 * 15)) by decide, ba_16, ba_16, ba_16, PyProof.Rows.bitAnd_m4]
  have : x / 16 / 16 / 16 = x / 4096 := by omega
  rw [this]; omega
theorem ba_2112 (x : Int) : Builtin.bitAnd x 2112 = x / 64 % 2 * 64 + x / 2048 % 2 * 2048 := by
  rw [show (2112 : Int) = 16 * (2 * (2 * (2 * 16 + 1))) by decide, ba_16, ba_even, ba_even, ba_odd, show (16 : Int) = 2 ^ 4 by decide, kbt_bit]
  omega
theorem ba_1032 (x : Int) : Builtin.bitAnd x 1032 = x / 8 % 2 * 8 + x / 1024 % 2 * 1024 := by
  rw [show (1032 : Int) = 2 * (2 * (2 * (2 * 64 + 1))) by decide, ba_even, ba_even, ba_even, ba_odd, show (64 : Int) = 2 ^ 6 by decide, kbt_bit]
  omega
theorem ba_513 (x : Int) : Builtin.bitAnd x 513 = x % 2 + x / 512 % 2 * 512 := by
  rw [show (513 : Int) = 2 * 256 + 1 by decide, ba_odd, show (256 : Int) = 2 ^ 8 by decide, kbt_bit]
  omega
theorem fm_bits (x : Int) : (List.range 10).map (fun j => fmCode x j != 45) = rowBits x := by
  have e0 : (fmCode x 0 != 45) = decide (x / 4096 % 16 ≠ 8) := by
    simp only [fmCode, fmTab, pick, fmTest, List.getD_cons_zero, ba_fmt, if_true]
    have h : 0 ≤ x / 4096 % 16 ∧ x / 4096 % 16 < 16 := by omega
    generalize x / 4096 % 16 = y at h
    obtain ⟨k, rfl, hk⟩ : ∃ k : Nat, y = (k : Int) ∧ k < 16 := ⟨y.toNat, by omega, by omega⟩
    clear h
    revert k
    decide
  have one : ∀ (j : Nat) (b : Int) (c k : Nat), j ≠ 0 → fmTab.getD j [] = [(b, c)] → b = 2 ^ k → c ≠ 45 → (fmCode x j != 45) = decide (x / b % 2 = 1) := by
    intro j b c k hj ht hb hc
    simp only [fmCode, ht, pick, fmTest, if_neg hj, ba_b x k b hb]
    by_cases h : x / b % 2 = 1
    · simp [h, hc]
    · simp [h]
  have three : ∀ (j : Nat) (b0 b1 b2 : Int) (c0 c1 c2 k1 k2 : Nat), j ≠ 0 → fmTab.getD j [] = [(b0, c0), (b1, c1), (b2, c2)] → b1 = 2 ^ k1 → b2 = 2 ^ k2 → c0 ≠ 45 → c1 ≠ 45 → c2 ≠ 45 → (Builtin.bitAnd x b0 = b0 → x / b1 % 2 = 1) → (fmCode x j != 45) = decide (x / b2 % 2 + x / b1 % 2 > 0) := by
    intro j b0 b1 b2 c0 c1 c2 k1 k2 hj ht hb1 hb2 hc0 hc1 hc2 hz
    simp only [fmCode, ht, pick, fmTest, if_neg hj, ba_b x k1 b1 hb1, ba_b x k2 b2 hb2]
    by_cases h0 : Builtin.bitAnd x b0 = b0
    · have h1 := hz h0
      have h3 : x / b2 % 2 + x / b1 % 2 > 0 := by omega
      simp [h0, hc0, h3]
    · have h0' : (Builtin.bitAnd x b0 == b0) = false := by simpa using h0
      by_cases h1 : x / b1 % 2 = 1
      · rw [show decide (x / b2 % 2 + x / b1 % 2 > 0) = true from decide_eq_true (by omega)]
        simp [h0', h1, hc1]
      · by_cases h2 : x / b2 % 2 = 1
        · rw [show decide (x / b2 % 2 + x / b1 % 2 > 0) = true from decide_eq_true (by omega)]
          simp [h0', h1, h2, hc2]
        · rw [show decide (x / b2 % 2 + x / b1 % 2 > 0) = false from decide_eq_false (by omega)]
          simp [h0', h1, h2]
  have e1 := one 1 256 114 8 (by decide) rfl (by decide) (by decide)
  have e2 := one 2 128 119 7 (by decide) rfl (by decide) (by decide)
  have e3 := three 3 2112 2048 64 115 83 120 11 6 (by decide) rfl (by decide) (by decide) (by decide) (by decide) (by decide) (by rw [ba_2112]; omega)
  have e4 := one 4 32 114 5 (by decide) rfl (by decide) (by decide)
  have e5 := one 5 16 119 4 (by decide) rfl (by decide) (by decide)
  have e6 := three 6 1032 1024 8 115 83 120 10 3 (by decide) rfl (by decide) (by decide) (by decide) (by decide) (by decide) (by rw [ba_1032]; omega)
  have e7 := one 7 4 114 2 (by decide) rfl (by decide) (by decide)
  have e8 := one 8 2 119 1 (by decide) rfl (by decide) (by decide)
  have e9 := three 9 513 512 1 116 84 120 9 0 (by decide) rfl (by decide) (by decide) (by decide) (by decide) (by decide) (by rw [ba_513]; omega)
  show [fmCode x 0 != 45, fmCode x 1 != 45, fmCode x 2 != 45, fmCode x 3 != 45, fmCode x 4 != 45, fmCode x 5 != 45, fmCode x 6 != 45, fmCode x 7 != 45, fmCode x 8 != 45, fmCode x 9 != 45] = rowBits x
  rw [e0, e1, e2, e3, e4, e5, e6, e7, e8, e9]
  unfold rowBits
  simp only [List.cons.injEq, decide_eq_decide, and_true, true_and]
  refine ⟨?_, ?_, ?_, ?_, ?_, ?_, ?_, ?_, ?_⟩ <;> omega
end
section
open PySem PySem.W PyProof.Rows

open PySem.Calls PySem.Spec
def SignOf (v y : Value) : Prop := ∃ b t, v = .bool b ∧ y = .str ⟨#[sgn b]⟩ t
theorem two_signs : ∀ (bs : List Bool) (ys : List Value), Two SignOf (bs.map Value.bool) ys → StrsAre ys (bs.map fun b => ⟨#[sgn b]⟩)
  | [], _, h => by cases h; exact .nil
  | b :: bs, _, h => by
    cases h with
    | cons h1 h2 =>
      obtain ⟨b', t, e, rfl⟩ := h1
      cases e
      exact .cons _ _ (two_signs bs _ h2)
theorem join_signs (bs : List Bool) : Txt.join (PySem.Str.ofString "") (bs.map fun b => (⟨#[sgn b]⟩ : PySem.Str)) = rowS bs := by
  have e : PySem.Str.ofString "" = ⟨#[]⟩ := by decide +kernel
  have h := join_ones (bs.map sgn)
  rw [List.map_map] at h
  rw [e, beq_iff_eq.mp (join_plain_closes _ _)]
  exact h
theorem sign_w : ∀ bs : List Bool, ((bs.map fun b => (⟨#[sgn b]⟩ : PySem.Str)).map (·.length)).sum = bs.length
  | [] => rfl
  | b :: bs => by rw [List.map_cons, List.map_cons, List.sum_cons, sign_w bs]; show 1 + bs.length = bs.length + 1; omega
theorem row_bits (x : Int) : [((x.fdiv 4096).fmod 16 != 8), (decide (3 < (x.fdiv (8 ^ Int.toNat 2)).fmod 8)),
            (decide (1 < ((x.fdiv (8 ^ Int.toNat 2)).fmod 8).fmod 4)),
            (decide (0 < ((x.fdiv (8 ^ Int.toNat 2)).fmod 8).fmod 2 + (x.fdiv (2 ^ (9 + 2 : Int).toNat)).fmod 2)),
            (decide (3 < (x.fdiv (8 ^ Int.toNat 1)).fmod 8)),
            (decide (1 < ((x.fdiv (8 ^ Int.toNat 1)).fmod 8).fmod 4)),
            (decide (0 < ((x.fdiv (8 ^ Int.toNat 1)).fmod 8).fmod 2 + (x.fdiv (2 ^ (9 + 1 : Int).toNat)).fmod 2)),
            (decide (3 < (x.fdiv (8 ^ Int.toNat 0)).fmod 8)),
            (decide (1 < ((x.fdiv (8 ^ Int.toNat 0)).fmod 8).fmod 4)),
            (decide (0 < ((x.fdiv (8 ^ Int.toNat 0)).fmod 8).fmod 2 + (x.fdiv (2 ^ (9 + 0 : Int).toNat)).fmod 2))] = rowBits x := by
  have p0 : (8 : Int) ^ Int.toNat 0 = 1 := by decide
  have p1 : (8 : Int) ^ Int.toNat 1 = 8 := by decide
  have p2 : (8 : Int) ^ Int.toNat 2 = 64 := by decide
  have q0 : (2 : Int) ^ (9 + 0 : Int).toNat = 512 := by decide
  have q1 : (2 : Int) ^ (9 + 1 : Int).toNat = 1024 := by decide
  have q2 : (2 : Int) ^ (9 + 2 : Int).toNat = 2048 := by decide
  have f : ∀ (y k : Int), 0 ≤ k → y.fdiv k = y / k := fun y k h => Int.fdiv_eq_ediv_of_nonneg y h
  have g : ∀ (y k : Int), 0 ≤ k → y.fmod k = y % k := fun y k h => Int.fmod_eq_emod_of_nonneg y h
  rw [p0, p1, p2, q0, q1, q2]
  rw [f x 4096 (by decide), f x 64 (by decide), f x 8 (by decide), f x 1 (by decide), f x 512 (by decide), f x 1024 (by decide), f x 2048 (by decide)]
  simp only [g _ 16 (by decide), g _ 8 (by decide), g _ 4 (by decide), g _ 2 (by decide)]
  unfold rowBits
  simp only [List.cons.injEq, decide_eq_decide, and_true, gt_iff_lt]
  rw [Bool.eq_iff_iff, bne_iff_ne, decide_eq_true_eq]
theorem row_news {h₀ h : Heap} {L a : Addr} {p : Addr × Obj} {n : Nat} {x : Int} (N : News h₀ L h [p, (a, W.listOf #[.bool ((x.fdiv 4096).fmod 16 != 8), .bool (decide (3 < (x.fdiv (8 ^ Int.toNat 2)).fmod 8)),
            .bool (decide (1 < ((x.fdiv (8 ^ Int.toNat 2)).fmod 8).fmod 4)),
            .bool (decide (0 < ((x.fdiv (8 ^ Int.toNat 2)).fmod 8).fmod 2 + (x.fdiv (2 ^ (9 + 2 : Int).toNat)).fmod 2)),
            .bool (decide (3 < (x.fdiv (8 ^ Int.toNat 1)).fmod 8)),
            .bool (decide (1 < ((x.fdiv (8 ^ Int.toNat 1)).fmod 8).fmod 4)),
            .bool (decide (0 < ((x.fdiv (8 ^ Int.toNat 1)).fmod 8).fmod 2 + (x.fdiv (2 ^ (9 + 1 : Int).toNat)).fmod 2)),
            .bool (decide (3 < (x.fdiv (8 ^ Int.toNat 0)).fmod 8)),
            .bool (decide (1 < ((x.fdiv (8 ^ Int.toNat 0)).fmod 8).fmod 4)),
            .bool (decide (0 < ((x.fdiv (8 ^ Int.toNat 0)).fmod 8).fmod 2 + (x.fdiv (2 ^ (9 + 0 : Int).toNat)).fmod 2))] n)]) : News h₀ L h [p, (a, W.listOf ((rowBits x).map Value.bool).toArray n)] := by
  rw [← row_bits]
  exact N
theorem lawrow_ok (w mean mg mb) (x : Int) (t : Tok) : Pg 3 w mean mg mb (.ref 82) [.int x t] (fun _ => True) (fun v h h' => ∃ t', v = .str (rowS (rowBits x)) t') := by
  dsimp only [Pg]; k_fill
  intro dp un gd cn cs a ccd cl outer A₀ base h₀ L m s Q E hB hF hX hT hkind hdp hun hpre0 hret
  refine wpAny_call ?_
  k_dflt (refine' code_defG ?k1 ?k2 ?k3 (noNews _ _ _) ?k5 ?kA ?kF ?kK ?k6 ?k7 ?k8 ?k9 ?kB ?_ ?c2 ?c3 ?c4 ?c5; (case kA => exact rfl); (case kF => exact rfl); (case kK => assumption); (case k1 => k_asm); (case k2 => k_asm); (case k3 => k_asm); (case k5 => k_asm); (case k6 => k_is); (case k7 => k_is); (case k8 => ktr_room); (case k9 => first | exact BindsTo.of_eq rfl | exact binds_K (by k_in) rfl (by k_is) rfl rfl rfl); (case c5 => decide); (case kB => exact locs rfl); (case c2 => exact rfl); (case c3 => exact rfl); (case c4 => exact rfl); k_whole)
  intro g' L' h' FG' F' N' B' X' T' GS'
  (try dsimp only)
  (try k_lift B')
  (try k_fold)
  (repeat' ((fail_if_success (with_reducible show wpAny _ _ (exec (Stmt.Assign _ (PySem.Expr.ListComp _ _ _ _) _) _) _ _ _)); (fail_if_success (with_reducible show wpAny _ _ (eval (PySem.Expr.ListComp _ _ _ _) _) _ _ _)); ((first | (k_unfold; (try dsimp only)) | (k_end; wrow_close) | walk1 | (dsimp only; walk1) | (leave1; walk_say "STEP leave1"; try dsimp only) | fail "no step"))))
  rename Fr g' L' _ _ => F9
  rename News g' L' _ _ => N9
  obtain ⟨bs, hbs⟩ : ∃ bs : List Bool, bs = rowBits x := ⟨_, rfl⟩
  have N8 : News g' L' _ _ := row_news N9
  clear N9
  rw [← hbs] at N8
  have hbl : bs.length = 10 := by rw [hbs]; rfl
  (k_dflt (refine LCg.ListComp_U (F₀ := by k_asm) (by rfl) (by decide) (by rfl) (by decide) (by rfl) ?_))
  (repeat' (((first | (k_unfold; (try dsimp only)) | (k_end; wrow_close) | walk1 | (dsimp only; walk1) | (leave1; walk_say "STEP leave1"; try dsimp only) | fail "no step"))))
  k_dflt (refine LCg.CompSrc.ledger (by rfl) (by k_asm) (by k_asm) (by k_mem) (by have hszl := sizeLine_eq; simp; omega) ?_)
  intro g9
  refine comp_all SignOf ?_ ?_
  · intro v I oI C oC D m₂ ys h tk E' hv hC hx F N off ne
    obtain ⟨b, hb, rfl⟩ := List.mem_map.mp hv
    cases b
    · (repeat' (((first | (k_unfold; (try dsimp only)) | (k_end; wrow_close) | walk1 | (dsimp only; walk1) | (leave1; walk_say "STEP leave1"; try dsimp only) | fail "no step"))))
      exact LCg.CompEnd.intro F N _ (fun p hp => hp) off (Or.inr ⟨_, List.Mem.tail _ (List.Mem.head _), rfl, _, rfl⟩) ⟨rfl, false, _, rfl, congrArg (fun q => Value.str q _) blankS⟩
    · (repeat' (((first | (k_unfold; (try dsimp only)) | (k_end; wrow_close) | walk1 | (dsimp only; walk1) | (leave1; walk_say "STEP leave1"; try dsimp only) | fail "no step"))))
      exact LCg.CompEnd.intro F N _ (fun p hp => hp) off (Or.inr ⟨_, List.Mem.tail _ (List.Mem.head _), rfl, _, rfl⟩) ⟨rfl, true, _, rfl, congrArg (fun q => Value.str q _) ballS⟩
  · intro ys hys
    have hi1 := two_signs _ _ hys
    (repeat' (((first | (k_unfold; (try dsimp only)) | (k_end; wrow_close) | walk1 | (dsimp only; walk1) | (leave1; walk_say "STEP leave1"; try dsimp only) | fail "no step"))))
    rename News g' L' _ _ => N7
    refine join_listW (items := ys.toArray) ⟨_, (N7 _ (List.Mem.head _)).1, rfl, _, rfl⟩ hi1 (by decide) (by rw [sign_w, List.length_map]; omega) ?_
    intro t9 k9
    rw [join_signs, hbs]
    (repeat' (((first | (k_unfold; (try dsimp only)) | (k_end; wrow_close) | walk1 | (dsimp only; walk1) | (leave1; walk_say "STEP leave1"; try dsimp only) | fail "no step"))))
    refine pg_ret hret (by assumption) GS' (by assumption) ⟨_, rfl⟩
end
section
open PySem PySem.W PyProof.Rows
/-! plain facts for the law's own body -/
theorem balls_carry : ∀ (c : Nat) (l : List Bool), balls (carry c l) + load c l = c + balls l
  | c, [] => by simp [carry, load, balls]
  | c, true :: l => by
    have h := balls_carry (c + 1) l
    simp only [carry, load, balls, List.count_cons] at h ⊢
    simp at h ⊢; omega
  | 0, false :: l => by
    have h := balls_carry 0 l
    simp only [carry, load, balls, List.count_cons] at h ⊢
    simp at h ⊢; omega
  | c + 1, false :: l => by
    have h := balls_carry c l
    simp only [carry, load, balls, List.count_cons] at h ⊢
    simp at h ⊢; omega
theorem balls_rnd (l : List Bool) : balls (rnd l) = balls l := by
  unfold rnd
  have h := balls_carry 0 (l ++ zs (balls l))
  rw [load_pad (Nat.le_refl _), balls_append, balls_zs] at h
  rw [balls_stripB]; omega
theorem len_rnd (l : List Bool) : (rnd l).length ≤ l.length + balls l := by
  unfold rnd
  have h := stripB_length (carry 0 (l ++ zs (balls l)))
  rw [carry_length] at h
  simpa [zs] using h
theorem len_rnds (l : List Bool) : ∀ n, (rnds n l).length ≤ l.length + n * balls l ∧ balls (rnds n l) = balls l
  | 0 => by simp [rnds]
  | n + 1 => by
    obtain ⟨h1, h2⟩ := len_rnds l n
    have h3 := len_rnd (rnds n l)
    rw [h2] at h3
    refine ⟨?_, ?_⟩
    · show (rnd (rnds n l)).length ≤ _
      rw [Nat.succ_mul]; omega
    · show balls (rnd (rnds n l)) = _
      rw [balls_rnd, h2]
theorem rev_row (l : List Bool) (u : Tok) : Txt.sliceBy (rowS l) none none (-1, u) = rowS l.reverse := by
  apply str_ext
  rw [step_rev_list, rowS_length]
  apply List.ext_getElem?
  intro i
  by_cases h : i < l.length
  · have h2 : l.length - 1 - i < l.length := by omega
    rw [List.getElem?_map, List.getElem?_range h, rowS_toList, List.getElem?_map, List.getElem?_reverse h]
    have e : l[l.length - 1 - i]? = some l[l.length - 1 - i] := List.getElem?_eq_getElem h2
    rw [e]
    simp [rowS, h2]
  · rw [List.getElem?_eq_none (by simp; omega), List.getElem?_eq_none (by simp [rowS]; omega)]
end
section
open PySem PySem.W PyProof.Rows
section
variable {prog : Program} {w : World} {A A₀ : Around} {s : Shared} {K : Frag} {L : Addr} {h₀ base : Heap} {m mg mb : PySem.Str → Option Value} {p : Program} {loose : List PySem.Str} {mean : ExcName → Option Value}
/-- a lambda that stands in the heap is called -/
theorem lam_enter {env : Env} {outer : List Env} {R : Result → Shared → Prop} {name qual : PySem.Str} {params : Arguments} {body : PySem.Expr} {scope : Scope} {pm ctv : Value} {c' : Addr} {f : Addr} {args : Args} {binds : List (PySem.Str × Value)}
    (B : Below A₀ base outer h₀) (F : Fr h₀ L s.heap m) (X₀ : K.In h₀) (T : Top p loose mean mg mb h₀) (hA : A.frames = some (env :: outer)) (hf : env.frame = some L) (hke : env.scope.kind = .function)
    (ho : s.heap.get? f = some (kla_obj name qual params body scope [] pm c' ctv)) (hcd : s.heap.CodeRec (.ref c') qual) (hroom : A.depth < recursionLimit)
    (hbind : bindArgs (kla_fn name qual params body scope [] pm (.ref c') ctv) args = pure binds) (hloc : ∀ y ∈ binds, scope.names.lookup y.1 = some .local)
    (h : ∀ g L' h₁, Fr h₀ L g m → Fr g L' h₁ (fun y => binds.reverse.lookup y) → News g L' h₁ [] → Below A base (env :: outer) g → K.In g → Top p loose mean mg mb g → GSub s.heap g [] →
      wpAny (model prog w) (A.deeper (envOf qual scope L' f (.ref c'))) (eval body (envOf qual scope L' f (.ref c')))
        (fun v s' => LeaveK h₀ L m g R v s')
        (fun e s' => wpAny (model prog w) (A.deeper (envOf qual scope L' f (.ref c'))) (leaving (envOf qual scope L' f (.ref c')) e) (fun _ s'' => R (.error e) s'') (fun e' s'' => R (.error e') s'') s')
        { s with heap := h₁, toks := s.toks + binds.length })
    (hco : scope.isCoroutine = false) (hgen : scope.isGenerator = false) (hk : scope.kind = .function)
    (hcell : ∀ x ∈ scope.names, x.2 ≠ .cell) : codeAny (model prog w) A (.call (.ref f) args) R s := by
  obtain ⟨FG, BG, st, lv⟩ := groundX (R := R) B F (noNews h₀ L s.heap) hA hf hke
  refine kla_callFunE hroom ho rfl hco hgen rfl hcd ?_
  rw [hbind]
  refine wpAny_pure (wpAny_newFunctionEnv hcell hloc (fun h₁ hns hsb => ⟨((T.nolimit).keeps F.keep).fresh _ hsb, ?_⟩) hk)
  have hk₁ : ∀ b o, s.heap.get? b = some o → h₁.get? b = some o := fun b o e => hsb.extBut b o (Nat.ne_of_lt (Heap.lt_size e)) (Heap.get?_push_of_some _ e)
  exact kla_codeExpr (wpAny_mono (h _ s.heap.objs.size h₁ FG ⟨hns, fun b o e => hk₁ b o (of_hideAll _ e), Nat.le_of_eq (hideAll_size _ _)⟩
    (noNews _ _ _) BG (X₀.keeps st) (T.keeps st) (fun b o e n => hideAll_get _ e n)) (fun v s' hl => lv _ _ hl) fun _ _ y => y)
end
def RInv (l0 : List Bool) (j : Nat) (v : Value) (nw : List (Addr × Obj)) : Prop := nw = [] ∧ ∃ t, v = .str (rowS (rnds j l0)) t
theorem is_str_obj {M : Model} {A : Around} {Q : Value → Shared → Prop} {E : Value → Shared → Prop} {s : Shared} {x : PySem.Str} {t : Tok} {y : Addr} (h : Q (.bool false) s) : wpAny M A (compareOp .Is (.str x t) (.ref y)) Q E s := by
  show wpAny M A (do return .bool (← isSame (.str x t) (.ref y))) Q E s
  refine wpAny_bind ?_
  exact wpAny_pure (wpAny_pure h)
/-- reduce with a function that makes a round of its first argument -/
theorem red_lamG {H : Heap} (w mean mg mb) {f c' : Addr} {fo oc : Obj} {fd : FuncData} (hH0 : H.get? f = some fo) (hfd : fo.data = .func fd) (ax : Addr) (us : List Value) (l0 : List Bool) (t : Tok) (hl0 : l0.length ≤ 1000) (hb : balls l0 ≤ 20) (hus : us.length ≤ 100)
    (hlam : ∀ (l : List Bool) (t : Tok) (x : Value), l.length < 10000 → Pg 9 w mean mg mb (.ref f) [.str (rowS l) t, x] (fun h => h.get? f = some fo ∧ h.get? c' = some oc) (fun v _ _ => ∃ t', v = .str (rowS (rnd l)) t')) :
    Pg 11 w mean mg mb (.ref 30) [.ref f, .ref ax, .str (rowS l0) t] (fun h => h.IsList ax us.toArray ∧ h.get? f = some fo ∧ h.get? c' = some oc) (fun v _ _ => ∃ t', v = .str (rowS (rnds us.length l0)) t') := by
  refine Pg.mono (reduce_gen 9 [(c', oc)] w mean mg mb f ax fo fd us (.str (rowS l0) t) (RInv l0) [] hfd (fun A Q E s _ _ hq => is_str_obj hq) ?_) (Nat.le_refl _) (fun h hp => ⟨hp.1, ⟨hp.2.1, fun p hq => by rw [List.mem_singleton.mp hq]; exact hp.2.2⟩, ⟨rfl, t, rfl⟩, fun p hq => nomatch hq⟩) (fun v h h' hp => by obtain ⟨nw, ⟨_, t', e⟩, _⟩ := hp; exact ⟨t', e⟩)
  intro j v x nw hx hi
  obtain ⟨rfl, t', rfl⟩ := hi
  have hj : j < us.length := (List.getElem?_eq_some_iff.mp hx).1
  have h1 := len_rnds l0 j
  have h2 : j * balls l0 ≤ 100 * 20 := Nat.mul_le_mul (by omega) hb
  exact Pg.mono (hlam (rnds j l0) t' x (by omega)) (Nat.le_refl _) (fun h hp => ⟨hp.1.1, hp.1.2 _ (List.Mem.head _)⟩) (fun v h h' hp => by obtain ⟨t2, e⟩ := hp; exact ⟨[], ⟨rfl, t2, e⟩, fun p hq => nomatch hq⟩)
end
section
open PySem PySem.W PyProof.Rows

def ModOf (v y : Value) : Prop := ∃ n t u, v = .int n t ∧ y = .int (n.fmod (2 ^ Int.toNat 32)) u
theorem two_mods : ∀ (ns : List Int) (vs ys : List Value), IntsAre vs ns → Two ModOf vs ys → IntsAre ys (ns.map fun n : Int => n.fmod (2 ^ Int.toNat 32))
  | [], _, _, h, h2 => by cases h; cases h2; exact .nil
  | n :: ns, _, _, h, h2 => by
    cases h with
    | cons _ t h =>
      cases h2 with
      | cons h1 h2 =>
        obtain ⟨n', t', u, e, rfl⟩ := h1
        cases e
        exact .cons _ _ (two_mods ns _ _ h h2)
theorem ints_mem {vs : List Value} {ns : List Int} {v : Value} (h : IntsAre vs ns) (hv : v ∈ vs) : ∃ n t, v = .int n t := by
  induction h with
  | nil => cases hv
  | cons n t _ ih =>
    rcases List.mem_cons.mp hv with rfl | hv
    · exact ⟨_, _, rfl⟩
    · exact ih hv
def FmOf (v y : Value) : Prop := ∃ n t u, v = .int n t ∧ y = .str ⟨((List.range 10).map fun j => fmCode n j).toArray⟩ u
theorem top_to {p : Program} {loose : List PySem.Str} {mean : ExcName → Option Value} {mg mb : PySem.Str → Option Value} {h h' : Heap} (T : Top p loose mean mg mb h) (f : Top p loose mean mg mb h → Top topProg looseL mean mg mb h') : Top topProg looseL mean mg mb h' := f T
theorem news_sub {h₀ h : Heap} {L : Addr} {news q : List (Addr × Obj)} (N : News h₀ L h news) (hq : ∀ p ∈ q, p ∈ news) : News h₀ L h q := fun p hp => N p (hq p hp)
theorem ints_two {w : List Int} {ys : List Value} (h : IntsAre ys (List.map (fun n : Int => n.fmod (2 ^ Int.toNat 32)) (List.take 2 w ++ List.drop (((List.take 2 w).length : Int)).toNat [16832, 33060]))) : ∃ a b t u, ys = [.int a t, .int b u] := by
  have two : ∀ (ns : List Int) (ys : List Value), ns.length = 2 → IntsAre ys ns → ∃ a b t u, ys = [.int a t, .int b u] := by
    intro ns ys hl h
    cases h with
    | nil => simp at hl
    | cons n t h =>
      cases h with
      | nil => simp at hl
      | cons k u h =>
        cases h with
        | nil => exact ⟨_, _, _, _, rfl⟩
        | cons l v h => exact absurd hl (by simp)
  refine two _ _ ?_ h
  cases w with
  | nil => rfl
  | cons a w =>
    cases w with
    | nil => rfl
    | cons b w => simp
theorem fm_two {a b : Int} {t u : Tok} {ys : List Value} (h : Two FmOf [.int a t, .int b u] ys) : StrsAre ys [⟨((List.range 10).map fun j => fmCode a j).toArray⟩, ⟨((List.range 10).map fun j => fmCode b j).toArray⟩] := by
  cases h with
  | cons h1 h =>
    cases h with
    | cons h2 h =>
      cases h
      obtain ⟨_, _, _, e, rfl⟩ := h1
      cases e
      obtain ⟨_, _, _, e, rfl⟩ := h2
      cases e
      exact .cons _ _ (.cons _ _ .nil)
theorem join_two (a b : Int) : ∃ sg : List Nat, Txt.join (PySem.Str.ofString "") [⟨((List.range 10).map fun j => fmCode a j).toArray⟩, ⟨((List.range 10).map fun j => fmCode b j).toArray⟩] = ⟨sg.toArray⟩ ∧ sg.length = 20 ∧ sg.map (fun c => c != 45) = rowBits a ++ rowBits b := by
  refine ⟨(List.range 10).map (fun j => fmCode a j) ++ (List.range 10).map (fun j => fmCode b j), ?_, by simp, ?_⟩
  · have e : PySem.Str.ofString "" = ⟨#[]⟩ := by decide +kernel
    rw [e, beq_iff_eq.mp (join_plain_closes _ _)]
    refine Str.ext' ?_
    rw [join_cons _ _ (by simp)]
    simp only [Str.join, Str.cps_append]
    simp
  · rw [List.map_append, List.map_map, List.map_map, ← fm_bits a, ← fm_bits b]; rfl
theorem box_strs {sg : List Nat} {ys : List Value} (h : CarriedAll ys (List.map (fun a => if (a == PySem.Str.ofString "-") = true then PyData.str (PySem.Str.ofString " ") else PyData.str (PySem.Str.ofString "o")) (List.filter (fun _ => true) (signs ⟨sg.toArray⟩)))) :
    StrsAre ys ((sg.map fun c => c != 45).map fun b => (⟨#[sgn b]⟩ : PySem.Str)) := by
  have e45 : PySem.Str.ofString "-" = ⟨#[45]⟩ := by decide +kernel
  have e : List.filter (fun _ => true) (signs ⟨sg.toArray⟩) = sg.map fun c => (⟨#[c]⟩ : PySem.Str) := by simp [signs]
  rw [e, List.map_map] at h
  have e2 : ((fun a => if (a == PySem.Str.ofString "-") = true then PyData.str (PySem.Str.ofString " ") else PyData.str (PySem.Str.ofString "o")) ∘ fun c => (⟨#[c]⟩ : PySem.Str)) = fun c => PyData.str ⟨#[sgn (c != 45)]⟩ := by
    funext c
    simp only [Function.comp]
    rw [e45, blankS, ballS]
    by_cases hc : c = 45
    · subst hc; rfl
    · have h1 : ((⟨#[c]⟩ : PySem.Str) == ⟨#[45]⟩) = false := by
        rw [beq_eq_false_iff_ne]
        intro h2
        have := congrArg (fun x : PySem.Str => x.cps.toList) h2
        simp at this
        exact hc this
      have h2 : (c != 45) = true := by simpa using hc
      rw [h1, h2]; rfl
  rw [e2] at h
  rw [List.map_map]
  exact CarriedAll.strsOf h
theorem rowBits_len (x : Int) : (rowBits x).length = 10 := rfl
def rowsL (r0 : List Bool) (i : Nat) : List PySem.Str := (List.range (i + 1)).map fun j => rowS (rnds j r0)
theorem rowsL_len (r0 : List Bool) (i : Nat) : (rowsL r0 i).length = i + 1 := by simp [rowsL]
theorem rowsL_next (r0 : List Bool) (i : Nat) : rowsL r0 i ++ [rowS (rnds (i + 1) r0)] = rowsL r0 (i + 1) := by
  unfold rowsL
  rw [List.range_succ (n := i + 1), List.map_append]; rfl
theorem rowsL_get (r0 : List Bool) (i j : Nat) (h : j ≤ i) : (rowsL r0 i).getD j Str.empty = rowS (rnds j r0) := by
  unfold rowsL
  rw [List.getD_eq_getElem?_getD, List.getElem?_map, List.getElem?_range (by omega)]; rfl
theorem item_rows {prog : Program} {w : World} {A : Around} {E : Value → Shared → Prop} {s : Shared} {value slice : PySem.Expr} {l : Addr} {vs : List Value} {r0 : List Bool} {i : Nat} {u : Tok} {Q : Value → Shared → Prop} (hl : s.heap.IsList l vs.toArray) (hi : StrsAre vs (rowsL r0 i))
    (h : ∀ t, Q (.str (rowS (rnds i r0)) t) s)
    (hs : subscripted slice false (.ref l) (.int (-1) u) = operate [.ref l, .int (-1) u] (getItem (.ref l) (.int (-1) u)) := by with_unfolding_all rfl) :
    wpAny (model prog w) A (subscriptTail value slice (.ref l) (.int (-1) u)) Q E s := by
  refine item_strs_negR hl hi (by omega) (by rw [rowsL_len]; omega) (by omega) (fun t => ?_) hs
  rw [rowsL_len, rowsL_get _ _ _ (by omega)]
  have e : ((-1 : Int) + ((i + 1 : Nat) : Int)).toNat = i := by omega
  rw [e]; exact h t
theorem len_rows {prog : Program} {w : World} {A : Around} {E : Value → Shared → Prop} {s : Shared} {l : Addr} {vs : List Value} {r0 : List Bool} {i : Nat} {Q : Value → Shared → Prop} (hl : s.heap.IsList l vs.toArray) (hi : StrsAre vs (rowsL r0 i)) (hb : i ≤ 100)
    (h : Q (.int (((i + 1 : Nat) : Int)) (s.toks + 1)) { s with toks := s.toks + 1 + 1 }) : wpAny (model prog w) A (call (.builtin "len") [.ref l]) Q E s := by
  have e : vs.toArray.size = i + 1 := by
    have := hi.length
    rw [rowsL_len] at this
    simpa using this
  refine Calls.call_len_list hl (by omega) ?_
  rw [e]
  exact h
def LrOf (v y : Value) : Prop := ∃ n t u, v = .int n t ∧ y = .str (rowS (rowBits n)) u
theorem lr_two {a b : Int} {t u : Tok} {ys : List Value} (h : Two LrOf [.int a t, .int b u] ys) : StrsAre ys [rowS (rowBits a), rowS (rowBits b)] := by
  cases h with
  | cons h1 h =>
    cases h with
    | cons h2 h =>
      cases h
      obtain ⟨_, _, _, e, rfl⟩ := h1
      cases e
      obtain ⟨_, _, _, e, rfl⟩ := h2
      cases e
      exact .cons _ _ (.cons _ _ .nil)
theorem join_lr (a b : List Bool) : Txt.join (PySem.Str.ofString "") [rowS a, rowS b] = rowS (a ++ b) := by
  have e : PySem.Str.ofString "" = ⟨#[]⟩ := by decide +kernel
  rw [e, beq_iff_eq.mp (join_plain_closes _ _), join_cons _ _ (by simp)]
  have e2 : rowS a ++ (⟨#[]⟩ : PySem.Str) = rowS a := Str.append_empty _
  rw [e2]
  simp only [Str.join]
  exact rowS_append a b
theorem slice_tail' (us : List Value) (h : 1 ≤ us.toArray.size) : slicePick us.toArray (some (1 : Int)) none none = us.tail.toArray := by
  have h1 : slicePick us.toArray (some (1 : Int)) none none = (us.toArray.toList.drop 1).toArray := slicePick_from _ 1 h
  rw [h1]
  simp
theorem item_rows0 {prog : Program} {w : World} {A : Around} {E : Value → Shared → Prop} {s : Shared} {value slice : PySem.Expr} {l : Addr} {vs : List Value} {r0 : List Bool} {i : Nat} {u : Tok} {Q : Value → Shared → Prop} (hl : s.heap.IsList l vs.toArray) (hi : StrsAre vs (rowsL r0 i))
    (h : ∀ t, Q (.str (rowS r0) t) s)
    (hs : subscripted slice false (.ref l) (.int 0 u) = operate [.ref l, .int 0 u] (getItem (.ref l) (.int 0 u)) := by with_unfolding_all rfl) :
    wpAny (model prog w) A (subscriptTail value slice (.ref l) (.int 0 u)) Q E s := by
  refine item_strsR hl hi (by omega) (by rw [rowsL_len]; omega) (by omega) (fun t => ?_) hs
  have e : (rowsL r0 i).getD (0 : Int).toNat Str.empty = rowS r0 := rowsL_get r0 i 0 (Nat.zero_le _)
  rw [e]; exact h t
local macro_rules | `(tactic| walk_at "subscriptTail Name Slice ref ref") => `(tactic| (k_here; (with_reducible show wpAny _ _ (subscriptTail _ (PySem.Expr.Slice _ _ none _) (Value.ref _) (Value.ref _)) _ _ _); k_dflt (refine' kmk_slice_ints ?F ?N ?l ?p ?q ?i ?m ?c ?_ ?s ?t ?z; (case F => k_asm); (case N => k_asm); (case l => kmk_list); (case p => kmk_part); (case q => kmk_part); (case i => l_ints); (case m => first | exact kmk_from (by l_ints) (Int.natCast_nonneg _) | kmk_nums); (case c => kmk_len); (case s => with_unfolding_all rfl); (case t => kmk_pure); (case z => kmk_size)); intro D' ws' h' F' N' l1 hI' hC' hL'; (try simp only [Int.reduceNeg, Int.neg_neg, Int.reduceToNat] at hI' hC' hL'); (try k_lt l1); (try k_sweep)))
local macro_rules | `(tactic| walk_at "call builtin:len") => `(tactic| (k_here; (with_reducible show wpAny _ _ (call (Value.builtin _) [Value.ref _]) _ _ _); k_dflt (refine' len_ints_fit ?k1 ?k2 ?k3 ?_; (case k1 => exact News.isList (by k_asm) (by k_mem)); (case k2 => with_reducible assumption); (case k3 => (first | omega | (simp; omega) | simp)); k_whole)))
local macro_rules | `(tactic| walk_at "subscriptTail List") => `(tactic| (k_here; (with_reducible show wpAny _ _ (subscriptTail (PySem.Expr.List _ _) _ _ _) _ _ _); k_dflt (refine kba_turn (value' := PySem.Expr.Name (PySem.Str.ofString "_") ⟨0, 0, 0, 0⟩) (fun _ => rfl) ?_)))
local macro_rules | `(tactic| walk_at "subscriptTail Name UnaryOp ref int") => `(tactic| (k_here; (with_reducible show wpAny _ _ (subscriptTail _ _ (Value.ref _) (Value.int (-1) _)) _ _ _); k_dflt (refine' item_rows ?k1 ?k2 ?_ ?k3; (case k1 => exact News.isList (by k_asm) (by k_mem)); (case k2 => with_reducible assumption); (case k3 => with_unfolding_all rfl); k_whole); intro tR))
local macro_rules | `(tactic| walk_at "call builtin:len") => `(tactic| (k_here; (with_reducible show wpAny _ _ (call (Value.builtin _) [Value.ref _]) _ _ _); k_dflt (refine' len_rows ?k1 ?k2 ?k3 ?_; (case k1 => exact News.isList (by k_asm) (by k_mem)); (case k2 => with_reducible assumption); (case k3 => omega); k_whole)))
local macro_rules | `(tactic| walk_at "subscriptTail Name Constant ref int") => `(tactic| (k_here; (with_reducible show wpAny _ _ (subscriptTail _ _ (Value.ref _) (Value.int 0 _)) _ _ _); k_dflt (refine' item_rows0 ?k1 ?k2 ?_ ?k3; (case k1 => exact News.isList (by k_asm) (by k_mem)); (case k2 => with_reducible assumption); (case k3 => with_unfolding_all rfl); k_whole); intro tR))
theorem X1 : PySem.Challenge.rw_oy0058_01.Holds := hdTop (by
  k_go0
  all_goals try k_fold
  rename Shared => s1
  rename World => w
  rename Top _ _ _ _ _ _ => T1
  have X0 : (hdTop.heap_39 w.params).In (ghostOf s1.heap [(112, 110)]) := by k_asm
  have T0 := top_to (h' := ghostOf s1.heap [(112, 110)]) T1 (by intro _; k_asm)
  generalize hgh : ghostOf s1.heap [(112, 110)] = h₀ at *
  generalize hL0 : s1.heap.objs.size = L at *
  rename Ground .. => c1
  rename Flt.MathXP .. => c2
  rename LooseAre .. => c3
  rename Tables .. => c4
  rename TopE .. => c5
  rename TopW .. => c6
  rename Heap.CodeRec .. => c7
  rename Reads .. => c8
  rename ReadsAll .. => c9
  rename Well .. => c10
  rename ReadsAllW .. => c11
  rename Dflts .. => c12
  clear c1 c2 c3 c4 c5 c6 c7 c8 c9 c10 c11 c12
  (repeat' ((fail_if_success (with_reducible show wpAny _ _ (exec (Stmt.Assign _ (PySem.Expr.ListComp _ _ _ _) _) _) _ _ _)); (fail_if_success (with_reducible show wpAny _ _ (eval (PySem.Expr.ListComp _ _ _ _) _) _ _ _)); (fail_if_success (with_reducible show wpAny _ _ (call (Value.ref _) _) _ _ _)); ((first | (k_unfold; (try dsimp only)) | walk1 | (dsimp only; walk1) | (leave1; walk_say "STEP leave1"; try dsimp only) | fail "no step"))))
  (k_dflt (refine LCg.Assign_ListComp_U (F₀ := by k_asm) (by rfl) (by with_unfolding_all rfl) (by rfl) (by decide) (by rfl) (by decide) (by rfl) (by rfl) (by rfl) ?_))
  (repeat' ((fail_if_success (with_reducible show LCg.CompSrc _ _ _ _ _ _ _ _ _ _ _ _ _ _)); ((first | (k_unfold; (try dsimp only)) | walk1 | (dsimp only; walk1) | (leave1; walk_say "STEP leave1"; try dsimp only) | fail "no step"))))
  rename IntsAre _ (_ ++ _) => hnum
  have hnl := hnum.length
  k_dflt (refine LCg.CompSrc.ledger (by rfl) (by k_asm) (by k_asm) (by k_mem) (by have hszl := sizeLine_eq; simp at hnl ⊢; omega) ?_)
  intro g9
  refine comp_all ModOf ?_ ?_
  · intro v I oI C oC D m₂ ys h tk E' hv hC hx F N off ne
    obtain ⟨n, t5, rfl⟩ := ints_mem hnum hv
    (repeat' (((first | (k_unfold; (try dsimp only)) | (k_end; wrow_close) | walk1 | (dsimp only; walk1) | (leave1; walk_say "STEP leave1"; try dsimp only) | fail "no step"))))
    exact LCg.CompEnd.intro F N _ (fun p hp => hp) off (Or.inr ⟨_, List.Mem.head _, rfl, _, rfl⟩) ⟨rfl, n, t5, _, rfl, rfl⟩
  intro ys hys
  obtain ⟨na, nb, ta, tb, rfl⟩ := ints_two (two_mods _ _ _ hnum hys)
  dsimp only
  (repeat' ((fail_if_success (with_reducible show wpAny _ _ (exec (Stmt.Assign _ (PySem.Expr.ListComp _ _ _ _) _) _) _ _ _)); (fail_if_success (with_reducible show wpAny _ _ (eval (PySem.Expr.ListComp _ _ _ _) _) _ _ _)); (fail_if_success (with_reducible show wpAny _ _ (call (Value.ref _) _) _ _ _)); ((first | (k_unfold; (try dsimp only)) | walk1 | (dsimp only; walk1) | (leave1; walk_say "STEP leave1"; try dsimp only) | fail "no step"))))
  rename News h₀ L _ _ => N1
  have N2 := news_sub N1 (q := [(_, LCg.lst _), (110, tabObj #[])]) (fun p hp => by rcases List.mem_cons.mp hp with rfl | hp; k_mem; rw [List.mem_singleton.mp hp]; k_mem)
  clear N1
  (k_dflt (refine LCg.ListComp_U (F₀ := by k_asm) (by rfl) (by decide) (by rfl) (by decide) (by rfl) ?_))
  (repeat' ((fail_if_success (with_reducible show LCg.CompSrc _ _ _ _ _ _ _ _ _ _ _ _ _ _)); ((first | (k_unfold; (try dsimp only)) | walk1 | (dsimp only; walk1) | (leave1; walk_say "STEP leave1"; try dsimp only) | fail "no step"))))
  k_dflt (refine LCg.CompSrc.ledger (by rfl) (by k_asm) (by k_asm) (by k_mem) (by have hszl := sizeLine_eq; simp; omega) ?_)
  intro g8
  refine comp_all FmOf ?_ ?_
  · intro v I oI C oC D m₂ ys h tk E' hv hC hx F N off ne
    obtain ⟨n, t5, rfl⟩ : ∃ n t, v = Value.int n t := by
      rcases List.mem_cons.mp hv with rfl | hv
      · exact ⟨_, _, rfl⟩
      · rw [List.mem_singleton.mp hv]; exact ⟨_, _, rfl⟩
    (repeat' ((fail_if_success (with_reducible show wpAny _ _ (call (Value.ref _) _) _ _ _)); ((first | (k_unfold; (try dsimp only)) | walk1 | (dsimp only; walk1) | (leave1; walk_say "STEP leave1"; try dsimp only) | fail "no step"))))
    k_dflt (refine' Pg.use (filemode_ok w _ _ _ n t5) ?k1 ?k2 ?k3 ?k4 ?k5 ?kK ?kd ?ku ?kp ?_; (case k5 => exact T0); (case k1 => k_asm); (case k2 => k_asm); (case k3 => k_asm); (case k4 => k_asm); (case kK => first | exact rfl | assumption); (case kd => ktr_room); (case ku => ktr_units); (case kp => trivial))
    intro v7 h7 tk7 F7 N7 K7 P7
    obtain ⟨t7, rfl⟩ := P7
    exact LCg.CompEnd.intro F7 N7 _ (fun p hp => hp) off (Or.inr ⟨_, List.Mem.head _, rfl, _, rfl⟩) ⟨rfl, n, t5, _, rfl, rfl⟩
  intro ys2 hys2
  have hs2 := fm_two hys2
  obtain ⟨sg, hsg, hsl, hsb⟩ := join_two na nb
  (repeat' ((fail_if_success (with_reducible show wpAny _ _ (call (Value.builtin _) [Value.str _ _, Value.ref _]) _ _ _)); ((first | (k_unfold; (try dsimp only)) | walk1 | (dsimp only; walk1) | (leave1; walk_say "STEP leave1"; try dsimp only) | fail "no step"))))
  rename News h₀ L _ _ => N3
  refine join_listW (items := ys2.toArray) ⟨_, (N3 _ (List.Mem.head _)).1, rfl, _, rfl⟩ hs2 (by decide) (by simp [PySem.Str.length]) ?_
  intro t8 k8
  rw [hsg]
  generalize hsgS : (⟨sg.toArray⟩ : PySem.Str) = S at *
  have hSl : S.length = 20 := by rw [← hsgS]; simpa [PySem.Str.length] using hsl
  (repeat' ((fail_if_success (with_reducible show wpAny _ _ (exec (Stmt.Assign _ (PySem.Expr.ListComp _ _ _ _) _) _) _ _ _)); (fail_if_success (with_reducible show wpAny _ _ (eval (PySem.Expr.ListComp _ _ _ _) _) _ _ _)); (fail_if_success (with_reducible show wpAny _ _ (call (Value.ref _) _) _ _ _)); ((first | (k_unfold; (try dsimp only)) | walk1 | (dsimp only; walk1) | (leave1; walk_say "STEP leave1"; try dsimp only) | fail "no step"))))
  (repeat' ((fail_if_success (with_reducible show wpAny _ _ (call (Value.builtin _) [Value.str _ _, Value.ref _]) _ _ _)); ((first | (k_unfold; (try dsimp only)) | walk1 | (dsimp only; walk1) | (leave1; walk_say "STEP leave1"; try dsimp only) | fail "no step"))))
  rename CarriedAll _ _ => hca
  rw [← hsgS] at hca
  have hs3 := box_strs hca
  clear hca
  rw [hsb] at hs3
  generalize hr : rowBits na ++ rowBits nb = r at *
  have hrl : r.length = 20 := by rw [← hr]; rfl
  have hrl2 := rowS_length r
  refine join_listW (by assumption) hs3 (by decide) (by rw [sign_w, List.length_map]; omega) ?_
  intro t9 k9
  rw [join_signs]
  (repeat' ((fail_if_success (with_reducible show wpAny _ _ (call (Value.ref _) _) _ _ _)); ((first | (k_unfold; (try dsimp only)) | walk1 | (dsimp only; walk1) | (leave1; walk_say "STEP leave1"; try dsimp only) | fail "no step"))))
  k_dflt (refine' Pg.use (strip_ok w _ _ _ r ((rowS r).length : Int) _ _ ⟨by omega, by omega⟩) ?k1 ?k2 ?k3 ?k4 ?k5 ?kK ?kd ?ku ?kp ?_; (case k5 => exact T0); (case k1 => k_asm); (case k2 => k_asm); (case k3 => k_asm); (case k4 => k_asm); (case kK => first | exact rfl | assumption); (case kd => ktr_room); (case ku => ktr_units); (case kp => trivial))
  intro v7 h7 tk7 F7 N7 K7 P7
  obtain ⟨t7, rfl⟩ := P7
  clear K7
  have hr0l := stripB_length r
  have hr0s := rowS_length (stripB r)
  (repeat' ((fail_if_success (with_reducible show wpAny _ _ (exec (Stmt.While _ _ _ _) _) _ _ _)); (fail_if_success (with_reducible show wpAny _ _ (eval (PySem.Expr.ListComp _ _ _ _) _) _ _ _)); (fail_if_success (with_reducible show wpAny _ _ (call (Value.ref _) _) _ _ _)); ((first | (k_unfold; (try dsimp only)) | walk1 | (dsimp only; walk1) | (leave1; walk_say "STEP leave1"; try dsimp only) | fail "no step"))))
  rename News h₀ L _ _ => N5
  rename Fr h₀ L _ _ => F5
  have N6 := news_sub N5 (q := [(_, W.listOf [Value.str (rowS (stripB r)) t7].toArray 0), (_, LCg.lst [Value.int na ta, Value.int nb tb]), (110, tabObj #[])]) (fun p hp => by rcases List.mem_cons.mp hp with rfl | hp; k_mem; rcases List.mem_cons.mp hp with rfl | hp; k_mem; rw [List.mem_singleton.mp hp]; k_mem)
  clear N5
  generalize hr0 : stripB r = r0 at *
  have hr0st : stripB r0 = r0 := by rw [← hr0]; exact stripB_idem r
  have hrb : balls r0 ≤ 20 := by have := balls_le_len r0; omega
  refine' ksw_while (σ := List Value × Nat × Nat) (fun c => [(_, W.listOf c.1.toArray c.2.1), (_, LCg.lst [Value.int na ta, Value.int nb tb]), (110, tabObj #[])]) (fun c => []) (fun c => StrsAre c.1 (rowsL r0 c.2.2)) [] (fun c => c.2.2 ≤ 20) (fun c => 20 - c.2.2) ([Value.str (rowS r0) t7], 0, 0) F5 N6 (StrsAre.cons _ _ StrsAre.nil) (List.forall_mem_nil _) (Nat.zero_le _) ?_
  rintro ⟨us, kn, i⟩ kU kH kTk kFacts kInv kFr kNews
  clear F5 N6
  dsimp only [kstB] at kFr
  dsimp only at kFacts kInv kNews
  have kLen := kFacts.length
  rw [rowsL_len] at kLen
  (try dsimp only)
  (try k_fold)
  (repeat' ((fail_if_success (with_reducible show wpAny _ _ (call (Value.ref _) _) _ _ _)); ((first | (k_unfold; (try dsimp only)) | walk1 | (dsimp only; walk1) | (leave1; walk_say "STEP leave1"; try dsimp only) | fail "no step"))))
  have hri := len_rnds r0 i
  have hmul : i * balls r0 ≤ 20 * 20 := Nat.mul_le_mul kInv hrb
  have hrs := rnds_strip r0 hr0st i
  have hris := rowS_length (rnds i r0)
  k_dflt (refine' Pg.use (settled_ok w _ _ _ (rnds i r0) _ (by omega) hrs) ?k1 ?k2 ?k3 ?k4 ?k5 ?kK ?kd ?ku ?kp ?_; (case k5 => exact T0); (case k1 => k_asm); (case k2 => k_asm); (case k3 => k_asm); (case k4 => k_asm); (case kK => first | exact rfl | assumption); (case kd => ktr_room); (case ku => ktr_units); (case kp => trivial))
  intro v7 h7 tk7 F7 N7 K7 P7
  obtain ⟨b, hv7, hb⟩ := P7
  subst hv7
  clear K7
  cases b with
  | false =>
    have hi20 : i < 20 := by
      apply Nat.lt_of_not_le
      intro hle
      have hsr := settles (balls r) r (Nat.le_refl _) i (by omega)
      rw [hr0] at hsr
      exact absurd (hb.mpr hsr) (by decide)
    (repeat' ((fail_if_success (with_reducible show wpAny _ _ (call (Value.ref _) _) _ _ _)); ((first | (k_unfold; (try dsimp only)) | walk1 | (dsimp only; walk1) | (leave1; walk_say "STEP leave1"; try dsimp only) | fail "no step"))))
    k_dflt (refine' Pg.use (round_ok w _ _ _ (rnds i r0) _ (by omega)) ?k1 ?k2 ?k3 ?k4 ?k5 ?kK ?kd ?ku ?kp ?_; (case k5 => exact T0); (case k1 => k_asm); (case k2 => k_asm); (case k3 => k_asm); (case k4 => k_asm); (case kK => first | exact rfl | assumption); (case kd => ktr_room); (case ku => ktr_units); (case kp => trivial))
    intro v8 h8 tk8 F8 N8 K8 P8
    obtain ⟨t8, hv8⟩ := P8
    subst hv8
    clear K8
    have hszl := sizeLine_eq
    (repeat' ((fail_if_success (with_reducible show KswEnd _ _ _ _ _ _ _ _ _ _ _ _)); ((first | (k_unfold; (try dsimp only)) | walk1 | (dsimp only; walk1) | (leave1; walk_say "STEP leave1"; try dsimp only) | fail "no step"))))
    rename News h₀ L _ _ => N9
    rename Fr h₀ L _ _ => F9
    rw [List.push_toArray] at N9
    have kF9 := strs_snoc (t := t8) (k := rowS (rnd (rnds i r0))) kFacts
    have hnx := rowsL_next r0 i
    have e9 : rnds (i + 1) r0 = rnd (rnds i r0) := rfl
    rw [e9] at hnx
    rw [hnx] at kF9
    exact ksw_end (us ++ [Value.str (rowS (rnd (rnds i r0))) t8], kn + 1, i + 1) F9 N9 (fun p hp => hp) kF9 (List.forall_mem_nil _) (fun z _ _ => rfl) (Nat.succ_le_of_lt hi20) (by show 20 - (i + 1) < 20 - i; omega)
  | true =>
    have hset := hb.mp rfl
    (repeat' ((fail_if_success (with_reducible show wpAny _ _ (exec (Stmt.Assign _ (PySem.Expr.ListComp _ _ _ _) _) _) _ _ _)); (fail_if_success (with_reducible show wpAny _ _ (eval (PySem.Expr.ListComp _ _ _ _) _) _ _ _)); (fail_if_success (with_reducible show wpAny _ _ (call (Value.ref _) _) _ _ _)); ((first | (k_unfold; (try dsimp only)) | walk1 | (dsimp only; walk1) | (leave1; walk_say "STEP leave1"; try dsimp only) | fail "no step"))))
    (k_dflt (refine LCg.ListComp_U (F₀ := by k_asm) (by rfl) (by decide) (by rfl) (by decide) (by rfl) ?_))
    (repeat' ((fail_if_success (with_reducible show LCg.CompSrc _ _ _ _ _ _ _ _ _ _ _ _ _ _)); ((first | (k_unfold; (try dsimp only)) | walk1 | (dsimp only; walk1) | (leave1; walk_say "STEP leave1"; try dsimp only) | fail "no step"))))
    k_dflt (refine LCg.CompSrc.ledger (by rfl) (by k_asm) (by k_asm) (by k_mem) (by have hszl := sizeLine_eq; simp; omega) ?_)
    intro g7
    refine comp_all LrOf ?_ ?_
    · intro v I oI C oC D m₂ ys h tk E' hv hC hx F N off ne
      obtain ⟨n, t5, rfl⟩ : ∃ n t, v = Value.int n t := by
        rcases List.mem_cons.mp hv with rfl | hv
        · exact ⟨_, _, rfl⟩
        · rw [List.mem_singleton.mp hv]; exact ⟨_, _, rfl⟩
      (repeat' ((fail_if_success (with_reducible show wpAny _ _ (call (Value.ref _) _) _ _ _)); ((first | (k_unfold; (try dsimp only)) | walk1 | (dsimp only; walk1) | (leave1; walk_say "STEP leave1"; try dsimp only) | fail "no step"))))
      k_dflt (refine' Pg.use (lawrow_ok w _ _ _ n t5) ?k1 ?k2 ?k3 ?k4 ?k5 ?kK ?kd ?ku ?kp ?_; (case k5 => exact T0); (case k1 => k_asm); (case k2 => k_asm); (case k3 => k_asm); (case k4 => k_asm); (case kK => first | exact rfl | assumption); (case kd => ktr_room); (case ku => ktr_units); (case kp => trivial))
      intro v7 h7 tk7 F7 N7 K7 P7
      obtain ⟨t7, rfl⟩ := P7
      exact LCg.CompEnd.intro F7 N7 _ (fun p hp => hp) off (Or.inr ⟨_, List.Mem.tail _ (List.Mem.head _), rfl, _, rfl⟩) ⟨rfl, n, t5, _, rfl, rfl⟩
    intro ys3 hys3
    have hs4 := lr_two hys3
    have hls := rowS_length (rowBits na)
    have hls2 := rowS_length (rowBits nb)
    rw [rowBits_len] at hls hls2
    (repeat' ((fail_if_success (with_reducible show wpAny _ _ (call (Value.builtin _) [Value.str _ _, Value.ref _]) _ _ _)); ((first | (k_unfold; (try dsimp only)) | walk1 | (dsimp only; walk1) | (leave1; walk_say "STEP leave1"; try dsimp only) | fail "no step"))))
    rename News h₀ L _ _ => N4
    refine join_listW (items := ys3.toArray) ⟨_, (N4 _ (List.Mem.head _)).1, rfl, _, rfl⟩ hs4 (by decide) (by simp [hls, hls2]) ?_
    intro t11 k11
    rw [join_lr, hr]
    (repeat' ((fail_if_success (with_reducible show wpAny _ _ (call (Value.ref _) _) _ _ _)); ((first | (k_unfold; (try dsimp only)) | walk1 | (dsimp only; walk1) | (leave1; walk_say "STEP leave1"; try dsimp only) | fail "no step"))))
    k_dflt (refine' Pg.use (sizes_ok w _ _ _ r t11 (by omega)) ?k1 ?k2 ?k3 ?k4 ?k5 ?kK ?kd ?ku ?kp ?_; (case k5 => exact T0); (case k1 => k_asm); (case k2 => k_asm); (case k3 => k_asm); (case k4 => k_asm); (case kK => first | exact rfl | assumption); (case kd => ktr_room); (case ku => ktr_units); (case kp => trivial))
    intro v12 h12 tk12 F12 N12 K12 P12
    obtain ⟨K, cs, Dd, dys, kd, hv12, hD12, hDn, hdi, hcl, hcs, hK0⟩ := P12
    subst hv12
    clear K12
    have N13 := news_new (p := (Dd, W.listOf dys.toArray kd)) (by k_asm) N12 hD12 hDn
    have N14 := news_sub N13 (q := [(Dd, W.listOf dys.toArray kd), (_, W.listOf us.toArray kn), (110, tabObj #[])]) (fun p hp => by rcases List.mem_cons.mp hp with rfl | hp; k_mem; rcases List.mem_cons.mp hp with rfl | hp; k_mem; rw [List.mem_singleton.mp hp]; k_mem)
    clear N12 N13
    (repeat' ((fail_if_success (with_reducible show wpAny _ _ (exec (Stmt.Assign _ (PySem.Expr.ListComp _ _ _ _) _) _) _ _ _)); (fail_if_success (with_reducible show wpAny _ _ (eval (PySem.Expr.ListComp _ _ _ _) _) _ _ _)); (fail_if_success (with_reducible show wpAny _ _ (call (Value.ref _) _) _ _ _)); ((first | (k_unfold; (try dsimp only)) | walk1 | (dsimp only; walk1) | (leave1; walk_say "STEP leave1"; try dsimp only) | fail "no step"))))
    have hlv : ∀ n, lvl n (rnds i r0) = lvl n r := fun n => by rw [lvl_rnds, ← hr0, lvl_strip]
    have hsz : sizesTo cs K = runsL (rnds i r0) := sizes_settled (rnds i r0) hset K cs hcl (fun n hn => by rw [hcs n hn, hlv]) (by rw [hlv]; exact hK0)
    rw [hsz] at hdi
    (k_dflt (refine LCg.ListComp_U (F₀ := by k_asm) (by rfl) (by decide) (by rfl) (by decide) (by rfl) ?_))
    (repeat' ((fail_if_success (with_reducible show LCg.CompSrc _ _ _ _ _ _ _ _ _ _ _ _ _ _)); ((first | (k_unfold; (try dsimp only)) | walk1 | (dsimp only; walk1) | (leave1; walk_say "STEP leave1"; try dsimp only) | fail "no step"))))
    rename List.map _ _ = Txt.words _ => hwd
    rename ∀ (a : PySem.Str), _ → a.length ≤ _ => hwl
    have hwc := words_count (rowS (rnds i r0))
    k_dflt (refine LCg.CompSrc.ledger (by rfl) (by k_asm) (by k_asm) (by k_mem) (by have hszl := sizeLine_eq; rw [strValues_len, hwd]; omega) ?_)
    intro g6
    refine comp_all LenOf ?_ ?_
    · intro v I oI C oC D m₂ ys h tk E' hv hC hx F N off ne
      obtain ⟨x, t5, rfl, hxm⟩ := strValues_mem _ _ hv
      have hxl := hwl x hxm
      (repeat' (((first | (k_unfold; (try dsimp only)) | (k_end; wrow_close) | walk1 | (dsimp only; walk1) | (leave1; walk_say "STEP leave1"; try dsimp only) | fail "no step"))))
      exact LCg.CompEnd.intro F N _ (fun p hp => hp) off (Or.inr ⟨_, List.Mem.head _, rfl, _, rfl⟩) ⟨rfl, x, t5, _, rfl, rfl⟩
    intro ys4 hys4
    have hi4 := two_ints _ _ hys4
    rw [hwd] at hi4
    have hi5 : IntsAre ys4 ((runsL (rnds i r0)).map fun n : Nat => (n : Int)) := by
      rw [← words_runs, List.map_map]; exact hi4
    clear hi4
    (repeat' ((fail_if_success (with_reducible show wpAny _ _ (eval (PySem.Expr.Lambda _ _ _ _) _) _ _ _)); ((first | (k_unfold; (try dsimp only)) | walk1 | (dsimp only; walk1) | (leave1; walk_say "STEP leave1"; try dsimp only) | fail "no step"))))
    rename News h₀ L _ _ => N15
    have N16 := news_sub N15 (q := [(_, W.listOf us.toArray kn), (110, tabObj #[])]) (fun p hp => by rcases List.mem_cons.mp hp with rfl | hp; k_mem; rw [List.mem_singleton.mp hp]; k_mem)
    clear N15
    k_here; kn_here
    k_dflt (refine' kla_eval ?d0 ?_; (case d0 => exact rfl))
    k_dflt (refine' kla_nest ?zF ?zN ?zT ?zC ?zcd ?zU ?zt ?zn ?zcl ?_; (case zF => k_asm); (case zN => k_asm); (case zT => exact T0); (case zcd => exact rfl); (case zC => kn_code); (case zU => k_updF); (case zt => kn_triples); (case zn => kn_among); (case zcl => exact rfl); k_whole)
    intro fL cL ocL vsL tL ctL hL tkL FL NL dL1 dL2 lL1 lL2
    try dsimp only at NL
    try k_lt lL1
    try k_lt2 lL2
    (repeat' ((fail_if_success (with_reducible show wpAny _ _ (call (Value.ref _) _) _ _ _)); ((first | (k_unfold; (try dsimp only)) | walk1 | (dsimp only; walk1) | (leave1; walk_say "STEP leave1"; try dsimp only) | fail "no step"))))
    rename News h₀ L _ _ => N17
    rename Fr h₀ L _ _ => F17
    rw [rev_row]
    rw [slice_tail' us (by simp; omega)] at N17
    have hrevl : (rnds i r0).reverse.length ≤ 1000 := by rw [List.length_reverse]; omega
    have hrevb : balls (rnds i r0).reverse ≤ 20 := by unfold balls; rw [List.count_reverse]; have := hri.2; unfold balls at this hrb; omega
    have hfL17 := (N17 _ (.tail _ (.head _))).1
    have htl : us.tail.length = i := by rw [List.length_tail, kLen]; rfl
    k_dflt (refine' Pg.use (red_lamG (c' := cL) (oc := ocL) w _ _ _ hfL17 rfl _ us.tail (rnds i r0).reverse _ hrevl hrevb (by omega) ?hlam) ?k1 ?k2 ?k3 ?k4 ?k5 ?kK ?kd ?ku ?kp ?_; (case k5 => exact T0); (case k1 => k_asm); (case k2 => k_asm); (case k3 => k_asm); (case k4 => k_asm); (case kK => first | exact rfl | assumption); (case kd => ktr_room); (case ku => ktr_units); (case kp => exact ⟨News.isList N17 (by k_mem), hfL17, (N17 _ (.tail _ (.tail _ (.head _)))).1⟩))
    case hlam =>
      intro l t x hpre
      dsimp only [Pg]; k_fill
      intro dp un gd cn cs a ccd cl outer A₀ base h₀ L m s Q E hB hF hX hT hkind hdp hun hpre0 hret
      have hlen := rowS_length l
      refine wpAny_call ?_
      refine lam_enter (K := hdTop.heap_39 w.params) hB hF hX hT rfl rfl hkind hpre0.1 ⟨_, _, _, _, rfl, hpre0.2, dL1, dL2⟩ ?_ (binds := [(PySem.Str.ofString "last", .str (rowS l) t), (PySem.Str.ofString "other", x)]) rfl (locs rfl) ?_ rfl rfl rfl (by decide)
      · ktr_room
      intro g' L' h' FG' F' N' B' X' T' GS'
      (try dsimp only)
      (try k_lift B')
      (try k_fold)
      (repeat' ((fail_if_success (with_reducible show wpAny _ _ (call (Value.ref _) _) _ _ _)); ((first | (k_unfold; (try dsimp only)) | walk1 | (dsimp only; walk1) | (leave1; walk_say "STEP leave1"; try dsimp only) | fail "no step"))))
      k_dflt (refine' Pg.use (round_ok w _ _ _ l t hpre) ?k1 ?k2 ?k3 ?k4 ?k5 ?kK ?kd ?ku ?kp ?_; (case k5 => k_asm); (case k1 => k_asm); (case k2 => k_asm); (case k3 => k_asm); (case k4 => k_asm); (case kK => first | exact rfl | assumption); (case kd => ktr_room); (case ku => ktr_units); (case kp => trivial))
      intro v8 h8 tk8 F8 N8 K8 P8
      obtain ⟨t8, hv8⟩ := P8
      subst hv8
      (try dsimp only)
      (repeat' (((first | (k_unfold; (try dsimp only)) | (k_end; wrow_close) | walk1 | (dsimp only; walk1) | (leave1; walk_say "STEP leave1"; try dsimp only) | fail "no step"))))
      exact pg_ret hret (by assumption) GS' (by assumption) ⟨_, rfl⟩
    intro v18 h18 tk18 F18 N18 K18 P18
    obtain ⟨t18, hv18⟩ := P18
    subst hv18
    clear K18
    rw [htl, rnds_back r0 hr0st i]
    (repeat' ((fail_if_success (with_reducible show wpAny _ _ (call (Value.ref _) _) _ _ _)); ((first | (k_unfold; (try dsimp only)) | walk1 | (dsimp only; walk1) | (leave1; walk_say "STEP leave1"; try dsimp only) | fail "no step"))))
    rw [rev_row, beq_self_eq_true]
    k_end
    wrow_close)
end
end Mine
theorem PySem.Challenge.cw_oy0058_01_holds : PySem.Challenge.rw_oy0058_01.Holds :=
  Mine.X1
