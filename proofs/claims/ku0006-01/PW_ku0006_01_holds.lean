import PyProof.Rows.All
import Wide.All
import OpenK.AllK
import Wide.FinOn
import Lean
import PySem.Challenge.RW_ku0006_01
set_option Elab.async false
set_option maxRecDepth 100000
namespace Mine
/-- the signs that a header leaves as they are -/
def safe (c : Nat) : Bool := (97 ≤ c && c ≤ 122) || (65 ≤ c && c ≤ 90) || (48 ≤ c && c ≤ 57) || c == 45 || c == 33 || c == 42 || c == 43 || c == 47
def hx (d : Nat) : Nat := if d < 10 then 48 + d else 55 + d
def enc1 (c : Nat) : List Nat := if safe c then [c] else if c = 32 then [95] else [61, hx (c / 16), hx (c % 16)]
def enc (l : List Nat) : List Nat := l.flatMap enc1
def pre (name : List Nat) : List Nat := [61, 63] ++ name ++ [63, 113, 63]
def wr (text name : List Nat) : List Nat := if text.isEmpty then [] else pre name ++ enc text ++ [63, 61]
def reps : Nat → List Nat
  | 0 => []
  | n + 1 => 51 :: 68 :: reps n
def sg (c r : Nat) : List Nat :=
  if r = 0 ∨ safe c = true then [c]
  else if c = 32 then (if r = 1 then [95] else 61 :: (reps (r - 2) ++ [53, 70]))
  else 61 :: (reps (r - 1) ++ [hx (c / 16), hx (c % 16)])
def front (name : List Nat) (r : Nat) : List Nat := (List.range r).flatMap fun k => (pre name).flatMap fun p => sg p k
def back (r : Nat) : List Nat := (List.range r).flatMap fun k => [63, 61].flatMap fun p => sg p (r - 1 - k)
def told (text name : List Nat) (r : Nat) : List Nat := front name r ++ text.flatMap (fun p => sg p r) ++ back r

theorem hx_safe {d : Nat} (h : d < 16) : safe (hx d) = true := by
  have : ∀ d : Fin 16, safe (hx d.val) = true := by decide
  exact this ⟨d, h⟩
theorem enc1_safe {c : Nat} (h : safe c = true) : enc1 c = [c] := by simp [enc1, h]
theorem enc_append (a b : List Nat) : enc (a ++ b) = enc a ++ enc b := by simp [enc]
theorem enc_cons (a : Nat) (b : List Nat) : enc (a :: b) = enc1 a ++ enc b := by simp [enc]
theorem enc_reps : ∀ n, enc (reps n) = reps n
  | 0 => rfl
  | n + 1 => by
    show enc (51 :: 68 :: reps n) = _
    rw [enc_cons, enc_cons, enc_reps n]
    rfl
theorem sg_succ {c : Nat} (hc : c < 256) (r : Nat) : sg c (r + 1) = enc (sg c r) := by
  by_cases hs : safe c = true
  · simp [sg, hs, enc, enc1]
  · by_cases h32 : c = 32
    · subst h32
      match r with
      | 0 => rfl
      | 1 => rfl
      | r + 2 =>
        have e : sg 32 (r + 2) = 61 :: (reps r ++ [53, 70]) := by simp [sg, hs]
        have e' : sg 32 (r + 2 + 1) = 61 :: (reps (r + 1) ++ [53, 70]) := by simp [sg, hs]
        rw [e, e', enc_cons, enc_append, enc_reps]
        rfl
    · match r with
      | 0 => simp [sg, hs, h32, enc, enc1, reps]
      | r + 1 =>
        have e : sg c (r + 1) = 61 :: (reps r ++ [hx (c / 16), hx (c % 16)]) := by simp [sg, hs, h32]
        have e' : sg c (r + 1 + 1) = 61 :: (reps (r + 1) ++ [hx (c / 16), hx (c % 16)]) := by simp [sg, hs, h32]
        rw [e, e', enc_cons, enc_append, enc_reps, enc_cons, enc_cons, enc1_safe (hx_safe (by omega)), enc1_safe (hx_safe (by omega))]
        rfl
theorem enc_flat {l : List Nat} {r : Nat} (h : ∀ c ∈ l, c < 256) : l.flatMap (fun p => sg p (r + 1)) = enc (l.flatMap fun p => sg p r) := by
  induction l with
  | nil => rfl
  | cons c l ih =>
    rw [List.flatMap_cons, List.flatMap_cons, enc_append, sg_succ (h c (by simp)), ih fun c hc => h c (by simp [hc])]
theorem enc_range {f g : Nat → List Nat} : ∀ n, (∀ k, k < n → f k = enc (g k)) → (List.range n).flatMap f = enc ((List.range n).flatMap g)
  | 0, _ => rfl
  | n + 1, h => by
    rw [List.range_succ, List.flatMap_append, List.flatMap_append, enc_append, enc_range n fun k hk => h k (by omega)]
    simp [h n (by omega)]
theorem sg_zero (c : Nat) : sg c 0 = [c] := by simp [sg]
theorem flat_zero (l : List Nat) : l.flatMap (fun p => sg p 0) = l := by
  induction l with
  | nil => rfl
  | cons c l ih => rw [List.flatMap_cons, ih, sg_zero]; rfl
theorem pre_lt {name : List Nat} (h : ∀ c ∈ name, c < 256) : ∀ c ∈ pre name, c < 256 := by
  intro c hc
  simp only [pre, List.mem_append, List.mem_cons, List.not_mem_nil, or_false] at hc
  rcases hc with (hc | hc) | hc
  · omega
  · exact h c hc
  · omega
theorem front_succ {name : List Nat} (h : ∀ c ∈ name, c < 256) (r : Nat) : front name (r + 1) = pre name ++ enc (front name r) := by
  unfold front
  rw [List.range_succ_eq_map, List.flatMap_cons, flat_zero]
  congr 1
  rw [List.flatMap_map]
  exact enc_range r fun k _ => enc_flat (pre_lt h)
theorem back_succ (r : Nat) : back (r + 1) = enc (back r) ++ [63, 61] := by
  unfold back
  rw [List.range_succ, List.flatMap_append]
  congr 1
  · refine enc_range r fun k hk => ?_
    have e : r + 1 - 1 - k = (r - 1 - k) + 1 := by omega
    rw [e]
    exact enc_flat (by intro c hc; simp at hc; omega)
  · simp [sg]
theorem told_zero (text name : List Nat) : told text name 0 = text := by simp [told, front, back, flat_zero]
theorem told_ne {text : List Nat} (h : text ≠ []) (name : List Nat) (r : Nat) : told text name r ≠ [] := by
  cases r with
  | zero => rw [told_zero]; exact h
  | succ r =>
    intro e
    have := congrArg List.length e
    simp [told, front, List.range_succ_eq_map, pre, sg] at this
theorem told_succ {text name : List Nat} (ht : text ≠ []) (h : ∀ c ∈ text, c < 256) (hn : ∀ c ∈ name, c < 256) (r : Nat) : told text name (r + 1) = wr (told text name r) name := by
  have hne := told_ne ht name r
  unfold wr
  rw [show (told text name r).isEmpty = false by simpa using hne]
  simp only [Bool.false_eq_true, if_false]
  conv => lhs; unfold told
  rw [front_succ hn, back_succ, enc_flat h]
  conv => rhs; unfold told
  simp [enc_append]

/-- what a decoded text looks like ahead of its decoding: a blank as =20 -/
def enc2 (c : Nat) : List Nat := if safe c then [c] else [61, hx (c / 16), hx (c % 16)]
theorem enc1_no95 {c x : Nat} (hc : c < 256) (h32 : c ≠ 32) (h : x ∈ enc1 c) : x ≠ 95 := by
  have key : ∀ c : Fin 256, c.val ≠ 32 → ∀ x ∈ enc1 c.val, x ≠ 95 := by decide +kernel
  exact key ⟨c, hc⟩ h32 x h

/-- a sign's size after r rounds -/
theorem reps_length : ∀ n, (reps n).length = 2 * n
  | 0 => rfl
  | n + 1 => by show (reps n).length + 1 + 1 = _; rw [reps_length n]; omega
theorem sg_length (c r : Nat) : (sg c r).length = if r = 0 ∨ safe c = true then 1 else if c = 32 then 2 * r - 1 else 2 * r + 1 := by
  unfold sg
  split
  · rfl
  · rename_i h
    have hr : r ≠ 0 := fun e => h (.inl e)
    split
    · split
      · rename_i e; subst e; rfl
      · simp [reps_length]; omega
    · simp [reps_length]; omega
def odd (name : List Nat) : Nat := (name.filter fun c => !safe c).length
def codes (text : List Nat) : Nat := (text.filter fun c => !safe c && c != 32).length
def blanks (text : List Nat) : Nat := (text.filter fun c => c == 32).length
theorem safe32 : safe 32 = false := rfl
theorem text_length {r : Nat} (hr : 1 ≤ r) : ∀ text : List Nat, (text.flatMap fun p => sg p r).length = text.length + 2 * r * codes text + 2 * (r - 1) * blanks text
  | [] => by simp [codes, blanks]
  | c :: text => by
    rw [List.flatMap_cons, List.length_append, text_length hr text, sg_length]
    simp only [codes, blanks, List.filter_cons, List.length_cons]
    have hr0 : r ≠ 0 := by omega
    by_cases hs : safe c = true
    · have h32 : c ≠ 32 := fun e => by rw [e, safe32] at hs; cases hs
      simp [hs, h32]; omega
    · by_cases h32 : c = 32
      · subst h32
        simp [safe32, hr0]
        rw [Nat.mul_add]
        omega
      · simp [hs, h32, hr0]
        rw [Nat.mul_add]
        omega

theorem frame_length {name : List Nat} (hn : 32 ∉ name) (k : Nat) : ((pre name).flatMap fun p => sg p k).length = (4 + odd name) * (2 * k + 1) + (1 + name.length - odd name) := by
  have key : ∀ name : List Nat, 32 ∉ name → (name.flatMap fun p => sg p k).length = odd name * (2 * k + 1) + (name.length - odd name) ∧ odd name ≤ name.length := by
    intro name
    induction name with
    | nil => intro _; simp [odd]
    | cons c name ih =>
      intro h
      have hc : c ≠ 32 := fun e => h (by simp [e])
      obtain ⟨ih, il⟩ := ih fun hm => h (by simp [hm])
      rw [List.flatMap_cons, List.length_append, ih, sg_length]
      unfold odd at il ⊢
      rw [List.filter_cons]
      by_cases hs : safe c = true
      · simp [hs]; omega
      · by_cases hk : k = 0
        · subst hk; simp [hs]; omega
        · simp [hs, hc, hk, Nat.add_mul]; omega
  have hp : 32 ∉ pre name := by
    intro h
    simp only [pre, List.mem_append, List.mem_cons, List.not_mem_nil, or_false] at h
    rcases h with (h | h) | h
    · omega
    · exact hn h
    · omega
  have ho : odd (pre name) = 4 + odd name := by
    have e1 : safe 61 = false := rfl
    have e2 : safe 63 = false := rfl
    have e3 : safe 113 = true := rfl
    simp [odd, pre, List.filter_append, List.filter_cons, e1, e2, e3]; omega
  have hl : (pre name).length = name.length + 5 := by simp [pre]
  have hod := (key name hn).2
  rw [(key _ hp).1, ho, hl]
  omega
theorem tail_length (k : Nat) : ([63, 61].flatMap fun p => sg p k).length = 2 * (2 * k + 1) := by
  have e1 : safe 61 = false := rfl
  have e2 : safe 63 = false := rfl
  by_cases hk : k = 0
  · subst hk; rfl
  · simp [sg_length, e1, e2, hk]; omega
theorem back_length : ∀ r, (back r).length = 2 * (r * r) := by
  have rev : ∀ r, (back r).length = ((List.range r).flatMap fun k => [63, 61].flatMap fun p => sg p k).length := by
    intro r
    unfold back
    induction r with
    | zero => rfl
    | succ r ih =>
      conv => lhs; rw [List.range_succ_eq_map, List.flatMap_cons, List.length_append, List.flatMap_map]
      conv => rhs; rw [List.range_succ, List.flatMap_append, List.length_append, ← ih]
      have e : (fun k => [63, 61].flatMap fun p => sg p (r + 1 - 1 - k.succ)) = fun k => [63, 61].flatMap fun p => sg p (r - 1 - k) := by
        funext k
        rw [show r + 1 - 1 - k.succ = r - 1 - k by omega]
      rw [e]
      simp
      omega
  have sum : ∀ r, ((List.range r).flatMap fun k => [63, 61].flatMap fun p => sg p k).length = 2 * (r * r) := by
    intro r
    induction r with
    | zero => rfl
    | succ r ih =>
      rw [List.range_succ, List.flatMap_append, List.length_append, ih]
      have ht := tail_length r
      rw [show List.flatMap (fun k => List.flatMap (fun p => sg p k) [63, 61]) [r] = List.flatMap (fun p => sg p r) [63, 61] by simp, ht]
      simp only [Nat.add_mul, Nat.mul_add]
      omega
  exact fun r => (rev r).trans (sum r)
theorem front_length {name : List Nat} (hn : 32 ∉ name) : ∀ r, (front name r).length = (4 + odd name) * (r * r) + (1 + name.length - odd name) * r := by
  intro r
  unfold front
  induction r with
  | zero => simp
  | succ r ih =>
    rw [List.range_succ, List.flatMap_append, List.length_append, ih]
    simp only [List.flatMap_cons, List.flatMap_nil, List.append_nil]
    rw [frame_length hn]
    generalize 4 + odd name = a
    generalize 1 + name.length - odd name = b
    simp only [Nat.mul_add, Nat.add_mul, Nat.mul_one, Nat.one_mul]
    have : a * (2 * r) = a * r + a * r := by rw [Nat.mul_left_comm]; omega
    omega
theorem odd_le (name : List Nat) : odd name ≤ name.length := List.length_filter_le ..
theorem told_length {text name : List Nat} (hn : 32 ∉ name) {r : Nat} (hr : 1 ≤ r) :
    (told text name r).length = (6 + odd name) * (r * r) + (1 + name.length - odd name) * r + text.length + 2 * r * codes text + 2 * (r - 1) * blanks text := by
  unfold told
  rw [List.length_append, List.length_append, front_length hn, back_length, text_length hr]
  rw [show 6 + odd name = 4 + odd name + 2 by omega, Nat.add_mul (4 + odd name) 2]
  omega

theorem count_flat {x : Nat} {f : Nat → List Nat} (l : List Nat) : (l.flatMap f).count x = (l.map fun c => (f c).count x).sum := by
  induction l with
  | nil => rfl
  | cons c l ih => rw [List.flatMap_cons, List.count_append, ih, List.map_cons, List.sum_cons]
theorem reps_count {x : Nat} (h1 : x ≠ 51) (h2 : x ≠ 68) : ∀ n, (reps n).count x = 0
  | 0 => rfl
  | n + 1 => by
    show (51 :: 68 :: reps n).count x = 0
    rw [List.count_cons_of_ne (by omega), List.count_cons_of_ne (by omega), reps_count h1 h2 n]
theorem hx_ne {x d : Nat} (hd : d < 16) (h : safe x = false) : hx d ≠ x := fun e => by rw [← e, hx_safe hd] at h; cases h
theorem sg63 {c : Nat} (hc : c < 256) {k : Nat} (hk : 1 ≤ k) : (sg c k).count 63 = 0 := by
  unfold sg
  split
  · rename_i h
    rcases h with h | h
    · omega
    · have : c ≠ 63 := fun e => by rw [e] at h; cases h
      simp [this]
  · split
    · split
      · rfl
      · rw [List.count_cons_of_ne (by omega), List.count_append, reps_count (by omega) (by omega)]; rfl
    · rw [List.count_cons_of_ne (by omega), List.count_append, reps_count (by omega) (by omega), List.count_cons_of_ne (hx_ne (by omega) rfl), List.count_cons_of_ne (hx_ne (by omega) rfl)]; rfl
theorem sg61 {c : Nat} (hc : c < 256) {k : Nat} (hk : 1 ≤ k) : (sg c k).count 61 = if safe c = true then 0 else if c = 32 ∧ k = 1 then 0 else 1 := by
  unfold sg
  by_cases hs : safe c = true
  · have : c ≠ 61 := fun e => by rw [e] at hs; cases hs
    simp [hs, this]
  · have h0 : ¬ (k = 0 ∨ safe c = true) := by simp [hs]; omega
    rw [if_neg h0, if_neg hs]
    by_cases h32 : c = 32
    · rw [if_pos h32]
      by_cases h1 : k = 1
      · rw [if_pos h1, if_pos ⟨h32, h1⟩]; rfl
      · rw [if_neg h1, if_neg fun h => h1 h.2, List.count_cons_self, List.count_append, reps_count (by omega) (by omega)]; rfl
    · rw [if_neg h32, if_neg fun h => h32 h.1, List.count_cons_self, List.count_append, reps_count (by omega) (by omega), List.count_cons_of_ne (hx_ne (by omega) rfl), List.count_cons_of_ne (hx_ne (by omega) rfl)]; rfl
theorem sum_zero {f : Nat → Nat} (l : List Nat) (h : ∀ c ∈ l, f c = 0) : (l.map f).sum = 0 := by
  induction l with
  | nil => rfl
  | cons c l ih => rw [List.map_cons, List.sum_cons, h c (by simp), ih fun c hc => h c (by simp [hc])]
theorem flat63 {l : List Nat} (h : ∀ c ∈ l, c < 256) {k : Nat} (hk : 1 ≤ k) : (l.flatMap fun p => sg p k).count 63 = 0 := by
  rw [count_flat]; exact sum_zero _ fun c hc => sg63 (h c hc) hk
theorem front63 {name : List Nat} (h : ∀ c ∈ name, c < 256) (h63 : 63 ∉ name) : ∀ r, (front name (r + 1)).count 63 = 3
  | 0 => by
    show (front name 1).count 63 = 3
    rw [show front name 1 = pre name by simp [front, flat_zero]]
    simp only [pre, List.count_append]
    rw [List.count_eq_zero.mpr h63]; rfl
  | r + 1 => by
    unfold front
    rw [List.range_succ, List.flatMap_append, List.count_append]
    have := front63 h h63 r
    unfold front at this
    rw [this]
    simp only [List.flatMap_cons, List.flatMap_nil, List.append_nil]
    rw [flat63 (pre_lt h) (by omega)]
theorem tail_lt : ∀ c ∈ [63, 61], c < 256 := by intro c hc; simp at hc; omega
theorem back63 (r : Nat) : (back (r + 1)).count 63 = 1 := by
  unfold back
  rw [List.range_succ, List.flatMap_append, List.count_append, count_flat]
  rw [sum_zero _ fun k hk => flat63 tail_lt (by have := List.mem_range.mp hk; omega)]
  simp [sg]
theorem told63 {text name : List Nat} (h : ∀ c ∈ text, c < 256) (hn : ∀ c ∈ name, c < 256) (h63 : 63 ∉ name) (r : Nat) : (told text name (r + 1)).count 63 = 4 := by
  unfold told
  rw [List.count_append, List.count_append, front63 hn h63, back63, flat63 h (by omega)]
def odds (l : List Nat) : Nat := (l.map fun c => if safe c = true then 0 else 1).sum
theorem flat61 {l : List Nat} (h : ∀ c ∈ l, c < 256) {k : Nat} (hk : 1 ≤ k) (hb : 2 ≤ k ∨ 32 ∉ l) : (l.flatMap fun p => sg p k).count 61 = odds l := by
  rw [count_flat]
  unfold odds
  congr 1
  refine List.map_congr_left fun c hc => ?_
  rw [sg61 (h c hc) hk]
  have : ¬ (c = 32 ∧ k = 1) := fun e => hb.elim (fun h => by omega) fun h => h (e.1 ▸ hc)
  rw [if_neg this]
theorem odds_odd : ∀ l, odds l = odd l
  | [] => rfl
  | c :: l => by
    have := odds_odd l
    unfold odds odd at this ⊢
    rw [List.map_cons, List.sum_cons, this, List.filter_cons]
    by_cases hs : safe c = true
    · simp [hs]
    · simp [hs]; omega
theorem odds_pre (name : List Nat) : odds (pre name) = 4 + odd name := by
  rw [odds_odd]
  have e1 : safe 61 = false := rfl
  have e2 : safe 63 = false := rfl
  have e3 : safe 113 = true := rfl
  simp [odd, pre, List.filter_append, List.filter_cons, e1, e2, e3]; omega
theorem pre32 {name : List Nat} (hn : 32 ∉ name) : 32 ∉ pre name := by
  intro h
  simp only [pre, List.mem_append, List.mem_cons, List.not_mem_nil, or_false] at h
  rcases h with (h | h) | h
  · omega
  · exact hn h
  · omega
theorem front61 {name : List Nat} (h : ∀ c ∈ name, c < 256) (h61 : 61 ∉ name) (h32 : 32 ∉ name) : ∀ r, (front name (r + 1)).count 61 = 1 + (4 + odd name) * r
  | 0 => by
    show (front name 1).count 61 = 1 + (4 + odd name) * 0
    rw [show front name 1 = pre name by simp [front, flat_zero]]
    simp only [pre, List.count_append]
    rw [List.count_eq_zero.mpr h61, Nat.mul_zero]; rfl
  | r + 1 => by
    unfold front
    rw [List.range_succ, List.flatMap_append, List.count_append]
    have := front61 h h61 h32 r
    unfold front at this
    rw [this]
    simp only [List.flatMap_cons, List.flatMap_nil, List.append_nil]
    rw [flat61 (pre_lt h) (by omega) (.inr (pre32 h32)), odds_pre, Nat.mul_add]
    omega
theorem sum_const {f : Nat → Nat} {a : Nat} (l : List Nat) (h : ∀ c ∈ l, f c = a) : (l.map f).sum = a * l.length := by
  induction l with
  | nil => rfl
  | cons c l ih => rw [List.map_cons, List.sum_cons, h c (by simp), ih fun c hc => h c (by simp [hc]), List.length_cons, Nat.mul_add]; omega
theorem back61 (r : Nat) : (back (r + 1)).count 61 = 1 + 2 * r := by
  unfold back
  rw [List.range_succ, List.flatMap_append, List.count_append, count_flat]
  rw [sum_const (a := 2) _ fun k hk => (flat61 tail_lt (by have := List.mem_range.mp hk; omega) (.inr (by decide))).trans rfl, List.length_range]
  simp [sg]
  omega
theorem told61 {text name : List Nat} (h : ∀ c ∈ text, c < 256) (hn : ∀ c ∈ name, c < 256) (h61 : 61 ∉ name) (h32 : 32 ∉ name) (r : Nat) :
    (told text name (r + 2)).count 61 = 2 + (6 + odd name) * (r + 1) + odds text := by
  unfold told
  rw [List.count_append, List.count_append, front61 hn h61 h32, back61, flat61 h (by omega) (.inl (by omega))]
  rw [show 6 + odd name = 4 + odd name + 2 by omega, Nat.add_mul (4 + odd name) 2]
  omega

def xsOf (l nm : List Nat) (r : Nat) : List (Nat × Int) :=
  ((List.range r).flatMap fun i : Nat => (pre nm).map fun c => (c, ((i : Nat) : Int))) ++ (l.map fun c => (c, (r : Int))) ++ (List.range r).flatMap fun i : Nat => ([63, 61] : List Nat).map fun c => (c, (r : Int) - 1 - ((i : Nat) : Int))
theorem xs_ok {l nm : List Nat} {r : Nat} (hl : ∀ c ∈ l, c < 256) (hn : ∀ c ∈ nm, c < 256) (hr : r ≤ 10) : ∀ p ∈ xsOf l nm r, p.1 < 256 ∧ 0 ≤ p.2 ∧ p.2 < 1000 := by
  intro p hp
  unfold xsOf at hp
  rcases List.mem_append.mp hp with hp | hp
  · rcases List.mem_append.mp hp with hp | hp
    · obtain ⟨i, hi, hp⟩ := List.mem_flatMap.mp hp
      obtain ⟨c, hc, rfl⟩ := List.mem_map.mp hp
      have := List.mem_range.mp hi
      exact ⟨pre_lt hn c hc, by simp only; omega, by simp only; omega⟩
    · obtain ⟨c, hc, rfl⟩ := List.mem_map.mp hp
      exact ⟨hl c hc, by simp only; omega, by simp only; omega⟩
  · obtain ⟨i, hi, hp⟩ := List.mem_flatMap.mp hp
    obtain ⟨c, hc, rfl⟩ := List.mem_map.mp hp
    have := List.mem_range.mp hi
    exact ⟨tail_lt c hc, by simp only; omega, by simp only; omega⟩
theorem flat_map_len {l : List Nat} {kf : Nat → Int} : ∀ n : Nat, ((List.range n).flatMap fun i => l.map fun c => (c, kf i)).length = n * l.length
  | 0 => by simp
  | n + 1 => by rw [List.range_succ, List.flatMap_append, List.length_append, flat_map_len n, Nat.add_mul]; simp
theorem xs_len {l nm : List Nat} {r : Nat} (hl : l.length ≤ 1000) (hn : nm.length ≤ 100) (hr : r ≤ 10) : (xsOf l nm r).length ≤ 3000 := by
  have h1 : r * (pre nm).length ≤ 10 * 105 := Nat.mul_le_mul hr (by simp [pre]; omega)
  have h2 := flat_map_len (l := pre nm) (kf := fun i => (i : Int)) r
  have h3 := flat_map_len (l := [63, 61]) (kf := fun i => (r : Int) - 1 - (i : Int)) r
  unfold xsOf
  rw [List.length_append, List.length_append, h2, h3, List.length_map]
  rw [show ([63, 61] : List Nat).length = 2 from rfl]
  omega
theorem sg_len_le {c k : Nat} : (sg c k).length ≤ 2 * k + 1 := by
  rw [sg_length]
  split
  · omega
  · split <;> omega
theorem xs_flat_len {xs : List (Nat × Int)} (h : ∀ p ∈ xs, p.1 < 256 ∧ 0 ≤ p.2 ∧ p.2 < 1000) : ((xs.map fun p : Nat × Int => sg p.1 p.2.toNat).flatten).length ≤ 2001 * xs.length := by
  induction xs with
  | nil => simp
  | cons p xs ih =>
    have h1 := ih fun q hq => h q (List.mem_cons_of_mem _ hq)
    have h2 := h p List.mem_cons_self
    have h3 : (sg p.1 p.2.toNat).length ≤ 2 * p.2.toNat + 1 := sg_len_le
    rw [List.map_cons, List.flatten_cons, List.length_append, List.length_cons]
    omega
theorem xs_flat (l nm : List Nat) (r : Nat) : ((xsOf l nm r).map fun p : Nat × Int => sg p.1 p.2.toNat).flatten = told l nm r := by
  unfold xsOf told front back
  rw [List.map_append, List.map_append, List.flatten_append, List.flatten_append]
  congr 1
  · congr 1
    · induction r with
      | zero => rfl
      | succ r ih =>
        rw [List.range_succ, List.flatMap_append, List.flatMap_append, List.map_append, List.flatten_append, ih]
        congr 1
        simp [List.flatMap_def, Function.comp_def]
    · simp [List.flatMap_def, Function.comp_def]
  · have g : ∀ n, n ≤ r → (((List.range n).flatMap fun i : Nat => ([63, 61] : List Nat).map fun c => (c, (r : Int) - 1 - ((i : Nat) : Int))).map fun p : Nat × Int => sg p.1 p.2.toNat).flatten = (List.range n).flatMap fun k => [63, 61].flatMap fun p => sg p (r - 1 - k) := by
      intro n
      induction n with
      | zero => intro _; rfl
      | succ n ih =>
        intro hn
        rw [List.range_succ, List.flatMap_append, List.flatMap_append, List.map_append, List.flatten_append, ih (by omega)]
        congr 1
        have e : ((r : Int) - 1 - (n : Int)).toNat = r - 1 - n := by omega
        simp [e]
    exact g r (Nat.le_refl _)
theorem told_int {l nm : List Nat} (hn : 32 ∉ nm) {r : Nat} (hr : 1 ≤ r) : ((told l nm r).length : Int) = (6 + (odd nm : Int)) * (r : Int) ^ 2 + ((nm.length : Int) - odd nm + 1) * r + l.length + 2 * (r : Int) * codes l + 2 * ((r : Int) - 1) * blanks l := by
  have h := told_length (text := l) hn hr
  have ho := odd_le nm
  obtain ⟨d, hd⟩ : ∃ d, nm.length = odd nm + d := ⟨nm.length - odd nm, by omega⟩
  obtain ⟨k, rfl⟩ : ∃ k, r = k + 1 := ⟨r - 1, by omega⟩
  rw [show 1 + nm.length - odd nm = 1 + d by omega, Nat.add_sub_cancel] at h
  rw [h, hd]
  push_cast
  grind
theorem step_eq {l nm : List Nat} (hn : 32 ∉ nm) {r : Nat} (hr : 1 ≤ r) : ((told l nm (r + 1)).length : Int) - ((told l nm r).length : Int) = (6 + (odd nm : Int)) * (2 * r + 1) + ((nm.length : Int) - odd nm + 1) + 2 * codes l + 2 * blanks l := by
  rw [told_int hn hr, told_int hn (Nat.le_succ_of_le hr)]
  push_cast
  grind
theorem bend_eq {l nm : List Nat} (hn : 32 ∉ nm) {r : Nat} (hr : 1 ≤ r) : (((told l nm (r + 2)).length : Int) - ((told l nm (r + 1)).length : Int)) - (((told l nm (r + 1)).length : Int) - ((told l nm r).length : Int)) = 12 + 2 * (odd nm : Int) := by
  rw [step_eq hn hr, step_eq hn (Nat.le_succ_of_le hr)]
  push_cast
  grind
theorem newton {l nm : List Nat} (hn : 32 ∉ nm) (R : Int) :
    ((told l nm 1).length : Int) - (1 - R) * (((told l nm 2).length : Int) - ((told l nm 1).length : Int)) + ((R - 1) * (R - 2)) / 2 * (12 + 2 * (odd nm : Int)) =
      (6 + (odd nm : Int)) * R ^ 2 + ((nm.length : Int) - odd nm + 1) * R + l.length + 2 * R * codes l + 2 * (R - 1) * blanks l := by
  rw [step_eq hn (Nat.le_refl 1), told_int hn (Nat.le_refl 1)]
  have hp : 2 * (((R - 1) * (R - 2)) / 2) = (R - 1) * (R - 2) := by
    have h2 : ((R - 1) * (R - 2)) % 2 = 0 := by
      rcases Int.emod_two_eq R with h | h
      · obtain ⟨k, rfl⟩ : ∃ k, R = 2 * k := ⟨R / 2, by omega⟩
        rw [show (2 * k - 1) * (2 * k - 2) = 2 * ((2 * k - 1) * (k - 1)) by grind]
        omega
      · obtain ⟨k, rfl⟩ : ∃ k, R = 2 * k + 1 := ⟨R / 2, by omega⟩
        rw [show (2 * k + 1 - 1) * (2 * k + 1 - 2) = 2 * (k * (2 * k - 1)) by grind]
        omega
    omega
  generalize ((R - 1) * (R - 2)) / 2 = P at hp ⊢
  push_cast
  grind
theorem sign_step {l nm : List Nat} (hl : ∀ c ∈ l, c < 256) (hn : ∀ c ∈ nm, c < 256) (h61 : 61 ∉ nm) (h32 : 32 ∉ nm) (r : Nat) : ((told l nm (r + 3)).count 61 : Int) - ((told l nm (r + 2)).count 61 : Int) = 6 + (odd nm : Int) := by
  have h1 := told61 hl hn h61 h32 r
  have h2 := told61 hl hn h61 h32 (r + 1)
  rw [h1, show r + 3 = r + 1 + 2 from rfl, h2]
  push_cast
  grind
section
noncomputable section
open PySem PySem.W PyProof.Rows
/-! the head by hand: the objects that the top lays, state by state (printed by gen_head.py) -/
abbrev pw : Program := PySem.Challenge.pw_ku0006_01
noncomputable def bodyH : List Stmt := behindTheImports PySem.Challenge.pw_ku0006_01
noncomputable def fdP (i : Nat) : Arguments := match bodyH[i]? with | some (.FunctionDef _ a _ _ _ _ _ _ _ _) => a | _ => default
noncomputable def fdB (i : Nat) : List Stmt := match bodyH[i]? with | some (.FunctionDef _ _ b _ _ _ _ _ _ _) => b | _ => []
noncomputable def fdS (i : Nat) : Scope := match bodyH[i]? with | some (.FunctionDef _ _ _ _ _ _ s _ _ _) => s | _ => default
noncomputable def hxd (d : Nat) : Nat := bif Nat.blt d 10 then 48 + d else 55 + d
noncomputable def en (P : Params) (k : Str) (t : Nat) (v : Value) : DictEntry := ⟨PyData.keyHash P k, .str k t, v⟩
noncomputable def upTo (f : Nat → Value) : Nat → Nat → List Value
  | 0, _ => []
  | n + 1, i => f i :: upTo f n (i + 1)
noncomputable def item0 (i : Nat) : Value := .str ⟨⟨[61, hxd (i / 16), hxd (i % 16)]⟩⟩ (195 + 4 * i)
noncomputable def lst17 (k : Nat) : Obj := ⟨.type "list", none, .seq ⟨upTo item0 k 0⟩ k, ⟨[]⟩⟩
noncomputable def it16 (k : Nat) : Obj := ⟨.type "range_iterator", none, .fields ⟨[.int (Int.ofNat k) 0, .int (Int.ofNat (256 - k)) 0, .int 1 0]⟩, ⟨[]⟩⟩
noncomputable def ns18 (P : Params) (k : Nat) : Obj := ⟨.type "dict", none, .dict ⟨[en P (Str.ofString "c") 193 (.int (Int.ofNat (k - 1)) (188 + 4 * k))]⟩ 1, ⟨[]⟩⟩
noncomputable def idx1 (c : Nat) : Nat := bif Nat.ble 97 c && Nat.ble c 122 then c - 92 else bif Nat.ble 65 c && Nat.ble c 90 then c - 34 else bif Nat.ble 48 c && Nat.ble c 57 then c + 9 else
  bif Nat.beq c 45 then 0 else bif Nat.beq c 33 then 1 else bif Nat.beq c 42 then 2 else bif Nat.beq c 43 then 3 else bif Nat.beq c 47 then 4 else 1000
noncomputable def item22 (k c : Nat) : Value := bif Nat.blt (idx1 c) k then .str ⟨⟨[c]⟩⟩ (1243 + 3 * idx1 c) else item0 c
noncomputable def item22f (c : Nat) : Value := bif Nat.beq c 32 then .str ⟨⟨[95]⟩⟩ 1442 else item22 67 c
noncomputable def lst22 (k : Nat) : Obj := ⟨.type "list", none, .seq ⟨upTo (item22 k) 256 0⟩ 0, ⟨[]⟩⟩
noncomputable def lst22f : Obj := ⟨.type "list", none, .seq ⟨upTo item22f 256 0⟩ 0, ⟨[]⟩⟩
noncomputable def idx2 (c : Nat) : Nat := bif Nat.beq c 9 then 94 else bif Nat.ble 32 c && Nat.ble c 60 then c - 32 else bif Nat.ble 62 c && Nat.ble c 126 then c - 33 else 1000
noncomputable def item24 (k c : Nat) : Value := bif Nat.blt (idx2 c) k then .str ⟨⟨[c]⟩⟩ (1448 + 3 * idx2 c) else item0 c
noncomputable def lst24 (k : Nat) : Obj := ⟨.type "list", none, .seq ⟨upTo (item24 k) 256 0⟩ 0, ⟨[]⟩⟩
noncomputable def item47 (k c : Nat) : Value := bif Nat.beq c 13 && Nat.blt 0 k then .str ⟨⟨[13]⟩⟩ 1752 else bif Nat.beq c 10 && Nat.blt 1 k then .str ⟨⟨[10]⟩⟩ 1755 else item24 95 c
noncomputable def lst47 (k : Nat) : Obj := ⟨.type "list", none, .seq ⟨upTo (item47 k) 256 0⟩ 0, ⟨[]⟩⟩
noncomputable def natsFrom : Nat → Nat → List Nat
  | 0, _ => []
  | n + 1, i => i :: natsFrom n (i + 1)
noncomputable def B1 : List Nat := 45 :: 33 :: 42 :: 43 :: 47 :: (natsFrom 26 97 ++ (natsFrom 26 65 ++ natsFrom 10 48))
noncomputable def B2 : List Nat := natsFrom 29 32 ++ (natsFrom 65 62 ++ [9])
noncomputable def it25 (k : Nat) : Obj := ⟨.type "bytes_iterator", none, .fields ⟨[.bytes ⟨B1.map UInt8.ofNat⟩ 1240, .int (Int.ofNat k) 0]⟩, ⟨[]⟩⟩
noncomputable def it28 (k : Nat) : Obj := ⟨.type "bytes_iterator", none, .fields ⟨[.bytes ⟨B2.map UInt8.ofNat⟩ 1445, .int (Int.ofNat k) 0]⟩, ⟨[]⟩⟩
noncomputable def btIns : List Obj → Nat → BT → BT
  | [], _, t => t
  | o :: r, i, t => btIns r (i + 1) (t.ins i o)
noncomputable def life0 : Life := ⟨[], [], [], 0, [], [], false, ⟨[]⟩, [], 0, false, false, false, 0, [2000, 10, 10], false, 0, true, [], [], 0, false⟩
noncomputable def drawn0 : Drawn := ⟨0, 0, 0, 0⟩
noncomputable def mkS (l : List Obj) (n tk : Nat) (os : OsState) : SharedT := ⟨btIns l 0 .nil, n, life0, ⟨[]⟩, drawn0, tk, os⟩
noncomputable def e0 (P : Params) : DictEntry := en P (Str.ofString "__name__") 165 (.str (Str.ofString "__main__") 164)
noncomputable def e1 (P : Params) : DictEntry := en P (Str.ofString "__doc__") 166 .none
noncomputable def e2 (P : Params) : DictEntry := en P (Str.ofString "__package__") 167 .none
noncomputable def e3 (P : Params) : DictEntry := en P (Str.ofString "__loader__") 168 (.builtin "__main__.__loader__#opaque")
noncomputable def e4 (P : Params) : DictEntry := en P (Str.ofString "__spec__") 169 .none
noncomputable def e5 (P : Params) : DictEntry := en P (Str.ofString "__annotations__") 170 (.ref 6)
noncomputable def e6 (P : Params) : DictEntry := en P (Str.ofString "__builtins__") 171 (.ref 4)
noncomputable def e7 (P : Params) : DictEntry := en P (Str.ofString "__file__") 173 (.str (Str.ofString "/claim/cut.py") 172)
noncomputable def e8 (P : Params) : DictEntry := en P (Str.ofString "__cached__") 174 .none
noncomputable def e9 (P : Params) : DictEntry := en P (Str.ofString "NL") 188 (.str (Str.ofString "\n") 187)
noncomputable def e10 (P : Params) : DictEntry := en P (Str.ofString "_QUOPRI_MAP") 1216 (.ref 17)
noncomputable def e11 (P : Params) : DictEntry := en P (Str.ofString "_QUOPRI_HEADER_MAP") 1217 (.ref 22)
noncomputable def e12 (P : Params) : DictEntry := en P (Str.ofString "_QUOPRI_BODY_MAP") 1218 (.ref 24)
noncomputable def e13 (P : Params) : DictEntry := en P (Str.ofString "ascii_lowercase") 1220 (.str (Str.ofString "abcdefghijklmnopqrstuvwxyz") 1219)
noncomputable def e14 (P : Params) : DictEntry := en P (Str.ofString "ascii_uppercase") 1222 (.str (Str.ofString "ABCDEFGHIJKLMNOPQRSTUVWXYZ") 1221)
noncomputable def e15 (P : Params) : DictEntry := en P (Str.ofString "ascii_letters") 1224 (.str (Str.ofString "abcdefghijklmnopqrstuvwxyzABCDEFGHIJKLMNOPQRSTUVWXYZ") 1223)
noncomputable def e16 (P : Params) : DictEntry := en P (Str.ofString "digits") 1226 (.str (Str.ofString "0123456789") 1225)
noncomputable def e17 (P : Params) : DictEntry := en P (Str.ofString "hexdigits") 1231 (.str (Str.ofString "0123456789abcdefABCDEF") 1230)
noncomputable def e18 (P : Params) : DictEntry := en P (Str.ofString "__name__") 165 (.str (Str.ofString "cpy313.email.quoprimime") 1232)
noncomputable def e19 (P : Params) : DictEntry := en P (Str.ofString "c") 1242 (.int 57 1439)
noncomputable def e20 (P : Params) : DictEntry := en P (Str.ofString "c") 1242 (.int 9 1728)
noncomputable def e21 (P : Params) : DictEntry := en P (Str.ofString "unquote") 1737 (.ref 37)
noncomputable def e22 (P : Params) : DictEntry := en P (Str.ofString "header_encode") 1747 (.ref 45)
noncomputable def e23 (P : Params) : DictEntry := en P (Str.ofString "_QUOPRI_BODY_ENCODE_MAP") 1748 (.ref 47)
noncomputable def e24 (P : Params) : DictEntry := en P (Str.ofString "c") 1242 (.int 10 1753)
noncomputable def e25 (P : Params) : DictEntry := en P (Str.ofString "decode") 1768 (.ref 58)
noncomputable def e26 (P : Params) : DictEntry := en P (Str.ofString "__name__") 165 (.str (Str.ofString "cpy313.operator") 1769)
noncomputable def e27 (P : Params) : DictEntry := en P (Str.ofString "add") 1778 (.ref 65)
noncomputable def e28 (P : Params) : DictEntry := en P (Str.ofString "floordiv") 1786 (.ref 72)
noncomputable def e29 (P : Params) : DictEntry := en P (Str.ofString "mul") 1794 (.ref 79)
noncomputable def e30 (P : Params) : DictEntry := en P (Str.ofString "sub") 1802 (.ref 86)
noncomputable def e31 (P : Params) : DictEntry := en P (Str.ofString "countOf") 1812 (.ref 93)
noncomputable def e32 (P : Params) : DictEntry := en P (Str.ofString "length_hint") 1824 (.ref 101)
noncomputable def e33 (P : Params) : DictEntry := en P (Str.ofString "__name__") 165 (.str (Str.ofString "law_ku0006_01") 1825)
noncomputable def e34 (P : Params) : DictEntry := en P (Str.ofString "_law_safe") 1833 (.ref 108)
noncomputable def e35 (P : Params) : DictEntry := en P (Str.ofString "_law_sign") 1841 (.ref 115)
noncomputable def e36 (P : Params) : DictEntry := en P (Str.ofString "_law_told") 1847 (.ref 120)
noncomputable def e37 (P : Params) : DictEntry := en P (Str.ofString "_law_size") 1853 (.ref 125)
noncomputable def e38 (P : Params) : DictEntry := en P (Str.ofString "_law_written") 1859 (.ref 130)
noncomputable def e39 (P : Params) : DictEntry := en P (Str.ofString "law") 1865 (.ref 135)
noncomputable def o11 : Obj := ⟨.type "tuple", none, .seq ⟨[]⟩ 0, ⟨[]⟩⟩
noncomputable def o12 : Obj := ⟨.none, none, .fields ⟨[]⟩, ⟨[]⟩⟩
noncomputable def o13 : Obj := ⟨.type "code", none, .fields ⟨[.str (Str.ofString "<module>") 182, .str (Str.ofString "<module>") 183, .str (Str.ofString "/claim/cut.py") 184, .int 1 0, .int 0 0, .int 0 0, .int 0 0, .int 0 0, .ref 11, .bool false, .int 181 0, .ref 12, .none, .none, .none, .none, .int 185 0, .int 1 0, .str (Str.ofString "/claim/cut.py") 186]⟩, ⟨[]⟩⟩
noncomputable def o14 : Obj := ⟨.type "frame", none, .plain, ⟨[some (.ref 13), some (.ref 3), some (.ref 3), none, some (.str (Str.ofString "__main__") 164), none, some (.ref 0)]⟩⟩
noncomputable def o3 (P : Params) : Obj := ⟨.type "dict", none, .dict ⟨[e0 P, e1 P, e2 P, e3 P, e4 P, e5 P, e6 P, e7 P, e8 P, e9 P]⟩ 10, ⟨[]⟩⟩
noncomputable def o3v1 (P : Params) : Obj := ⟨.type "dict", none, .dict ⟨[e0 P, e1 P, e2 P, e3 P, e4 P, e5 P, e6 P, e7 P, e8 P, e9 P, e10 P]⟩ 11, ⟨[]⟩⟩
noncomputable def o15 : Obj := ⟨.type "range", none, .fields ⟨[.int 0 190, .int 256 189, .int 1 191]⟩, ⟨[]⟩⟩
noncomputable def o16 : Obj := ⟨.type "range_iterator", none, .fields ⟨[.int 256 0, .int 0 0, .int 1 0]⟩, ⟨[]⟩⟩
noncomputable def o18 : Obj := ⟨.type "dict", none, .dict ⟨[]⟩ 2, ⟨[]⟩⟩
noncomputable def o19 : Obj := ⟨.type "tuple", none, .seq ⟨[]⟩ 0, ⟨[]⟩⟩
noncomputable def o20 : Obj := ⟨.type "StopIteration", none, .fields ⟨[.ref 19, .none, .none, .none, .bool false, .none]⟩, ⟨[]⟩⟩
noncomputable def o21 : Obj := ⟨.type "slice", none, .fields ⟨[.none, .none, .none]⟩, ⟨[]⟩⟩
noncomputable def o23 : Obj := ⟨.type "slice", none, .fields ⟨[.none, .none, .none]⟩, ⟨[]⟩⟩
noncomputable def o3v9 (P : Params) : Obj := ⟨.type "dict", none, .dict ⟨[e18 P, e1 P, e2 P, e3 P, e4 P, e5 P, e6 P, e7 P, e8 P, e9 P, e10 P, e11 P, e12 P, e13 P, e14 P, e15 P, e16 P, e17 P]⟩ 18, ⟨[]⟩⟩
noncomputable def o3v10 (P : Params) : Obj := ⟨.type "dict", none, .dict ⟨[e18 P, e1 P, e2 P, e3 P, e4 P, e5 P, e6 P, e7 P, e8 P, e9 P, e10 P, e11 P, e12 P, e13 P, e14 P, e15 P, e16 P, e17 P, e19 P]⟩ 19, ⟨[]⟩⟩
noncomputable def o25 : Obj := ⟨.type "bytes_iterator", none, .fields ⟨[.none, .int 67 0]⟩, ⟨[]⟩⟩
noncomputable def o26 : Obj := ⟨.type "tuple", none, .seq ⟨[]⟩ 0, ⟨[]⟩⟩
noncomputable def o27 : Obj := ⟨.type "StopIteration", none, .fields ⟨[.ref 26, .none, .none, .none, .bool false, .none]⟩, ⟨[]⟩⟩
noncomputable def o3v11 (P : Params) : Obj := ⟨.type "dict", none, .dict ⟨[e18 P, e1 P, e2 P, e3 P, e4 P, e5 P, e6 P, e7 P, e8 P, e9 P, e10 P, e11 P, e12 P, e13 P, e14 P, e15 P, e16 P, e17 P, e20 P]⟩ 19, ⟨[]⟩⟩
noncomputable def o28 : Obj := ⟨.type "bytes_iterator", none, .fields ⟨[.none, .int 95 0]⟩, ⟨[]⟩⟩
noncomputable def o29 : Obj := ⟨.type "tuple", none, .seq ⟨[]⟩ 0, ⟨[]⟩⟩
noncomputable def o30 : Obj := ⟨.type "StopIteration", none, .fields ⟨[.ref 29, .none, .none, .none, .bool false, .none]⟩, ⟨[]⟩⟩
noncomputable def o31 : Obj := ⟨.type "tuple", none, .seq ⟨[]⟩ 0, ⟨[]⟩⟩
noncomputable def o32 : Obj := ⟨.none, none, .fields ⟨[]⟩, ⟨[]⟩⟩
noncomputable def o33 : Obj := ⟨.type "tuple", none, .seq ⟨[.str (Str.ofString "s") 1734]⟩ 0, ⟨[]⟩⟩
noncomputable def o34 : Obj := ⟨.type "tuple", none, .seq ⟨[]⟩ 0, ⟨[]⟩⟩
noncomputable def o35 : Obj := ⟨.none, none, .func ⟨(Str.ofString "unquote"), (Str.ofString "unquote"), fdP 13, .stmts (fdB 13), fdS 13, 0, [], .none, .none, .none, .none, none, .none, .none, 0⟩, ⟨[]⟩⟩
noncomputable def o36 : Obj := ⟨.type "code", none, .fields ⟨[.str (Str.ofString "unquote") 1731, .str (Str.ofString "unquote") 1732, .str (Str.ofString "/claim/cut.py") 1733, .int 16 0, .int 1 0, .int 0 0, .int 0 0, .int 3 0, .ref 31, .bool true, .int 181 0, .ref 32, .none, .ref 33, .ref 34, .ref 35, .int 1735 0, .int 16 0, .str (Str.ofString "/claim/cut.py") 1736]⟩, ⟨[]⟩⟩
noncomputable def o37 : Obj := ⟨.type "function", none, .func ⟨(Str.ofString "unquote"), (Str.ofString "unquote"), fdP 13, .stmts (fdB 13), fdS 13, 3, [], .none, .none, .none, .str (Str.ofString "cpy313.email.quoprimime") 1232, none, .ref 36, .none, 0⟩, ⟨[]⟩⟩
noncomputable def o12v2 : Obj := ⟨.none, none, .fields ⟨[.int 16 0, .int 0 0, .ref 36, .int 18 0, .int 0 0, .ref 44]⟩, ⟨[]⟩⟩
noncomputable def o38 : Obj := ⟨.type "tuple", none, .seq ⟨[.str (Str.ofString "iso-8859-1") 1738]⟩ 0, ⟨[]⟩⟩
noncomputable def o39 : Obj := ⟨.type "tuple", none, .seq ⟨[]⟩ 0, ⟨[]⟩⟩
noncomputable def o40 : Obj := ⟨.none, none, .fields ⟨[]⟩, ⟨[]⟩⟩
noncomputable def o41 : Obj := ⟨.type "tuple", none, .seq ⟨[.str (Str.ofString "header_bytes") 1742, .str (Str.ofString "charset") 1743, .str (Str.ofString "encoded") 1744]⟩ 0, ⟨[]⟩⟩
noncomputable def o42 : Obj := ⟨.type "tuple", none, .seq ⟨[]⟩ 0, ⟨[]⟩⟩
noncomputable def o43 : Obj := ⟨.none, none, .func ⟨(Str.ofString "header_encode"), (Str.ofString "header_encode"), fdP 14, .stmts (fdB 14), fdS 14, 0, [], .none, .none, .none, .none, none, .none, .none, 0⟩, ⟨[]⟩⟩
noncomputable def o44 : Obj := ⟨.type "code", none, .fields ⟨[.str (Str.ofString "header_encode") 1739, .str (Str.ofString "header_encode") 1740, .str (Str.ofString "/claim/cut.py") 1741, .int 18 0, .int 2 0, .int 0 0, .int 0 0, .int 3 0, .ref 39, .bool true, .int 181 0, .ref 40, .none, .ref 41, .ref 42, .ref 43, .int 1745 0, .int 18 0, .str (Str.ofString "/claim/cut.py") 1746]⟩, ⟨[]⟩⟩
noncomputable def o45 : Obj := ⟨.type "function", none, .func ⟨(Str.ofString "header_encode"), (Str.ofString "header_encode"), fdP 14, .stmts (fdB 14), fdS 14, 3, [], .ref 38, .none, .none, .str (Str.ofString "cpy313.email.quoprimime") 1232, none, .ref 44, .none, 0⟩, ⟨[]⟩⟩
noncomputable def o46 : Obj := ⟨.type "slice", none, .fields ⟨[.none, .none, .none]⟩, ⟨[]⟩⟩
noncomputable def o3v15 (P : Params) : Obj := ⟨.type "dict", none, .dict ⟨[e18 P, e1 P, e2 P, e3 P, e4 P, e5 P, e6 P, e7 P, e8 P, e9 P, e10 P, e11 P, e12 P, e13 P, e14 P, e15 P, e16 P, e17 P, e24 P, e21 P, e22 P, e23 P]⟩ 22, ⟨[]⟩⟩
noncomputable def o48 : Obj := ⟨.type "bytes_iterator", none, .fields ⟨[.none, .int 2 0]⟩, ⟨[]⟩⟩
noncomputable def o49 : Obj := ⟨.type "tuple", none, .seq ⟨[]⟩ 0, ⟨[]⟩⟩
noncomputable def o50 : Obj := ⟨.type "StopIteration", none, .fields ⟨[.ref 49, .none, .none, .none, .bool false, .none]⟩, ⟨[]⟩⟩
noncomputable def o51 : Obj := ⟨.type "tuple", none, .seq ⟨[.str (Str.ofString "\n") 187]⟩ 0, ⟨[]⟩⟩
noncomputable def o52 : Obj := ⟨.type "tuple", none, .seq ⟨[]⟩ 0, ⟨[]⟩⟩
noncomputable def o53 : Obj := ⟨.none, none, .fields ⟨[]⟩, ⟨[]⟩⟩
noncomputable def o54 : Obj := ⟨.type "tuple", none, .seq ⟨[.str (Str.ofString "encoded") 1759, .str (Str.ofString "eol") 1760, .str (Str.ofString "decoded") 1761, .str (Str.ofString "line") 1762, .str (Str.ofString "i") 1763, .str (Str.ofString "n") 1764, .str (Str.ofString "c") 1765]⟩ 0, ⟨[]⟩⟩
noncomputable def o55 : Obj := ⟨.type "tuple", none, .seq ⟨[]⟩ 0, ⟨[]⟩⟩
noncomputable def o56 : Obj := ⟨.none, none, .func ⟨(Str.ofString "decode"), (Str.ofString "decode"), fdP 18, .stmts (fdB 18), fdS 18, 0, [], .none, .none, .none, .none, none, .none, .none, 0⟩, ⟨[]⟩⟩
noncomputable def o57 : Obj := ⟨.type "code", none, .fields ⟨[.str (Str.ofString "decode") 1756, .str (Str.ofString "decode") 1757, .str (Str.ofString "/claim/cut.py") 1758, .int 27 0, .int 2 0, .int 0 0, .int 0 0, .int 3 0, .ref 52, .bool true, .int 181 0, .ref 53, .none, .ref 54, .ref 55, .ref 56, .int 1766 0, .int 27 0, .str (Str.ofString "/claim/cut.py") 1767]⟩, ⟨[]⟩⟩
noncomputable def o58 : Obj := ⟨.type "function", none, .func ⟨(Str.ofString "decode"), (Str.ofString "decode"), fdP 18, .stmts (fdB 18), fdS 18, 3, [], .ref 51, .none, .none, .str (Str.ofString "cpy313.email.quoprimime") 1232, none, .ref 57, .none, 0⟩, ⟨[]⟩⟩
noncomputable def o59 : Obj := ⟨.type "tuple", none, .seq ⟨[]⟩ 0, ⟨[]⟩⟩
noncomputable def o60 : Obj := ⟨.none, none, .fields ⟨[]⟩, ⟨[]⟩⟩
noncomputable def o61 : Obj := ⟨.type "tuple", none, .seq ⟨[.str (Str.ofString "a") 1774, .str (Str.ofString "b") 1775]⟩ 0, ⟨[]⟩⟩
noncomputable def o62 : Obj := ⟨.type "tuple", none, .seq ⟨[]⟩ 0, ⟨[]⟩⟩
noncomputable def o63 : Obj := ⟨.none, none, .func ⟨(Str.ofString "add"), (Str.ofString "add"), fdP 20, .stmts (fdB 20), fdS 20, 0, [], .none, .none, .none, .none, none, .none, .none, 0⟩, ⟨[]⟩⟩
noncomputable def o64 : Obj := ⟨.type "code", none, .fields ⟨[.str (Str.ofString "add") 1771, .str (Str.ofString "add") 1772, .str (Str.ofString "/claim/cut.py") 1773, .int 58 0, .int 2 0, .int 0 0, .int 0 0, .int 3 0, .ref 59, .bool true, .int 181 0, .ref 60, .none, .ref 61, .ref 62, .ref 63, .int 1776 0, .int 58 0, .str (Str.ofString "/claim/cut.py") 1777]⟩, ⟨[]⟩⟩
noncomputable def o65 : Obj := ⟨.type "function", none, .func ⟨(Str.ofString "add"), (Str.ofString "add"), fdP 20, .stmts (fdB 20), fdS 20, 3, [], .none, .none, .none, .str (Str.ofString "cpy313.operator") 1769, none, .ref 64, .none, 0⟩, ⟨[]⟩⟩
noncomputable def o66 : Obj := ⟨.type "tuple", none, .seq ⟨[]⟩ 0, ⟨[]⟩⟩
noncomputable def o67 : Obj := ⟨.none, none, .fields ⟨[]⟩, ⟨[]⟩⟩
noncomputable def o68 : Obj := ⟨.type "tuple", none, .seq ⟨[.str (Str.ofString "a") 1782, .str (Str.ofString "b") 1783]⟩ 0, ⟨[]⟩⟩
noncomputable def o69 : Obj := ⟨.type "tuple", none, .seq ⟨[]⟩ 0, ⟨[]⟩⟩
noncomputable def o70 : Obj := ⟨.none, none, .func ⟨(Str.ofString "floordiv"), (Str.ofString "floordiv"), fdP 21, .stmts (fdB 21), fdS 21, 0, [], .none, .none, .none, .none, none, .none, .none, 0⟩, ⟨[]⟩⟩
noncomputable def o71 : Obj := ⟨.type "code", none, .fields ⟨[.str (Str.ofString "floordiv") 1779, .str (Str.ofString "floordiv") 1780, .str (Str.ofString "/claim/cut.py") 1781, .int 60 0, .int 2 0, .int 0 0, .int 0 0, .int 3 0, .ref 66, .bool true, .int 181 0, .ref 67, .none, .ref 68, .ref 69, .ref 70, .int 1784 0, .int 60 0, .str (Str.ofString "/claim/cut.py") 1785]⟩, ⟨[]⟩⟩
noncomputable def o72 : Obj := ⟨.type "function", none, .func ⟨(Str.ofString "floordiv"), (Str.ofString "floordiv"), fdP 21, .stmts (fdB 21), fdS 21, 3, [], .none, .none, .none, .str (Str.ofString "cpy313.operator") 1769, none, .ref 71, .none, 0⟩, ⟨[]⟩⟩
noncomputable def o73 : Obj := ⟨.type "tuple", none, .seq ⟨[]⟩ 0, ⟨[]⟩⟩
noncomputable def o74 : Obj := ⟨.none, none, .fields ⟨[]⟩, ⟨[]⟩⟩
noncomputable def o75 : Obj := ⟨.type "tuple", none, .seq ⟨[.str (Str.ofString "a") 1790, .str (Str.ofString "b") 1791]⟩ 0, ⟨[]⟩⟩
noncomputable def o76 : Obj := ⟨.type "tuple", none, .seq ⟨[]⟩ 0, ⟨[]⟩⟩
noncomputable def o77 : Obj := ⟨.none, none, .func ⟨(Str.ofString "mul"), (Str.ofString "mul"), fdP 22, .stmts (fdB 22), fdS 22, 0, [], .none, .none, .none, .none, none, .none, .none, 0⟩, ⟨[]⟩⟩
noncomputable def o78 : Obj := ⟨.type "code", none, .fields ⟨[.str (Str.ofString "mul") 1787, .str (Str.ofString "mul") 1788, .str (Str.ofString "/claim/cut.py") 1789, .int 62 0, .int 2 0, .int 0 0, .int 0 0, .int 3 0, .ref 73, .bool true, .int 181 0, .ref 74, .none, .ref 75, .ref 76, .ref 77, .int 1792 0, .int 62 0, .str (Str.ofString "/claim/cut.py") 1793]⟩, ⟨[]⟩⟩
noncomputable def o79 : Obj := ⟨.type "function", none, .func ⟨(Str.ofString "mul"), (Str.ofString "mul"), fdP 22, .stmts (fdB 22), fdS 22, 3, [], .none, .none, .none, .str (Str.ofString "cpy313.operator") 1769, none, .ref 78, .none, 0⟩, ⟨[]⟩⟩
noncomputable def o80 : Obj := ⟨.type "tuple", none, .seq ⟨[]⟩ 0, ⟨[]⟩⟩
noncomputable def o81 : Obj := ⟨.none, none, .fields ⟨[]⟩, ⟨[]⟩⟩
noncomputable def o82 : Obj := ⟨.type "tuple", none, .seq ⟨[.str (Str.ofString "a") 1798, .str (Str.ofString "b") 1799]⟩ 0, ⟨[]⟩⟩
noncomputable def o83 : Obj := ⟨.type "tuple", none, .seq ⟨[]⟩ 0, ⟨[]⟩⟩
noncomputable def o84 : Obj := ⟨.none, none, .func ⟨(Str.ofString "sub"), (Str.ofString "sub"), fdP 23, .stmts (fdB 23), fdS 23, 0, [], .none, .none, .none, .none, none, .none, .none, 0⟩, ⟨[]⟩⟩
noncomputable def o85 : Obj := ⟨.type "code", none, .fields ⟨[.str (Str.ofString "sub") 1795, .str (Str.ofString "sub") 1796, .str (Str.ofString "/claim/cut.py") 1797, .int 64 0, .int 2 0, .int 0 0, .int 0 0, .int 3 0, .ref 80, .bool true, .int 181 0, .ref 81, .none, .ref 82, .ref 83, .ref 84, .int 1800 0, .int 64 0, .str (Str.ofString "/claim/cut.py") 1801]⟩, ⟨[]⟩⟩
noncomputable def o86 : Obj := ⟨.type "function", none, .func ⟨(Str.ofString "sub"), (Str.ofString "sub"), fdP 23, .stmts (fdB 23), fdS 23, 3, [], .none, .none, .none, .str (Str.ofString "cpy313.operator") 1769, none, .ref 85, .none, 0⟩, ⟨[]⟩⟩
noncomputable def o87 : Obj := ⟨.type "tuple", none, .seq ⟨[]⟩ 0, ⟨[]⟩⟩
noncomputable def o88 : Obj := ⟨.none, none, .fields ⟨[]⟩, ⟨[]⟩⟩
noncomputable def o89 : Obj := ⟨.type "tuple", none, .seq ⟨[.str (Str.ofString "a") 1806, .str (Str.ofString "b") 1807, .str (Str.ofString "count") 1808, .str (Str.ofString "i") 1809]⟩ 0, ⟨[]⟩⟩
noncomputable def o90 : Obj := ⟨.type "tuple", none, .seq ⟨[]⟩ 0, ⟨[]⟩⟩
noncomputable def o91 : Obj := ⟨.none, none, .func ⟨(Str.ofString "countOf"), (Str.ofString "countOf"), fdP 24, .stmts (fdB 24), fdS 24, 0, [], .none, .none, .none, .none, none, .none, .none, 0⟩, ⟨[]⟩⟩
noncomputable def o92 : Obj := ⟨.type "code", none, .fields ⟨[.str (Str.ofString "countOf") 1803, .str (Str.ofString "countOf") 1804, .str (Str.ofString "/claim/cut.py") 1805, .int 66 0, .int 2 0, .int 0 0, .int 0 0, .int 3 0, .ref 87, .bool true, .int 181 0, .ref 88, .none, .ref 89, .ref 90, .ref 91, .int 1810 0, .int 66 0, .str (Str.ofString "/claim/cut.py") 1811]⟩, ⟨[]⟩⟩
noncomputable def o93 : Obj := ⟨.type "function", none, .func ⟨(Str.ofString "countOf"), (Str.ofString "countOf"), fdP 24, .stmts (fdB 24), fdS 24, 3, [], .none, .none, .none, .str (Str.ofString "cpy313.operator") 1769, none, .ref 92, .none, 0⟩, ⟨[]⟩⟩
noncomputable def o3v24 (P : Params) : Obj := ⟨.type "dict", none, .dict ⟨[e26 P, e1 P, e2 P, e3 P, e4 P, e5 P, e6 P, e7 P, e8 P, e9 P, e10 P, e11 P, e12 P, e13 P, e14 P, e15 P, e16 P, e17 P, e21 P, e22 P, e23 P, e25 P, e27 P, e28 P, e29 P, e30 P, e31 P, e32 P]⟩ 30, ⟨[]⟩⟩
noncomputable def o12v9 : Obj := ⟨.none, none, .fields ⟨[.int 16 0, .int 0 0, .ref 36, .int 18 0, .int 0 0, .ref 44, .int 27 0, .int 0 0, .ref 57, .int 58 0, .int 0 0, .ref 64, .int 60 0, .int 0 0, .ref 71, .int 62 0, .int 0 0, .ref 78, .int 64 0, .int 0 0, .ref 85, .int 66 0, .int 0 0, .ref 92, .int 72 0, .int 0 0, .ref 100]⟩, ⟨[]⟩⟩
noncomputable def o94 : Obj := ⟨.type "tuple", none, .seq ⟨[.int 0 1813]⟩ 0, ⟨[]⟩⟩
noncomputable def o95 : Obj := ⟨.type "tuple", none, .seq ⟨[]⟩ 0, ⟨[]⟩⟩
noncomputable def o96 : Obj := ⟨.none, none, .fields ⟨[]⟩, ⟨[]⟩⟩
noncomputable def o97 : Obj := ⟨.type "tuple", none, .seq ⟨[.str (Str.ofString "obj") 1817, .str (Str.ofString "default") 1818, .str (Str.ofString "msg") 1819, .str (Str.ofString "hint") 1820, .str (Str.ofString "val") 1821]⟩ 0, ⟨[]⟩⟩
noncomputable def o98 : Obj := ⟨.type "tuple", none, .seq ⟨[]⟩ 0, ⟨[]⟩⟩
noncomputable def o99 : Obj := ⟨.none, none, .func ⟨(Str.ofString "length_hint"), (Str.ofString "length_hint"), fdP 25, .stmts (fdB 25), fdS 25, 0, [], .none, .none, .none, .none, none, .none, .none, 0⟩, ⟨[]⟩⟩
noncomputable def o100 : Obj := ⟨.type "code", none, .fields ⟨[.str (Str.ofString "length_hint") 1814, .str (Str.ofString "length_hint") 1815, .str (Str.ofString "/claim/cut.py") 1816, .int 72 0, .int 2 0, .int 0 0, .int 0 0, .int 3 0, .ref 95, .bool true, .int 181 0, .ref 96, .none, .ref 97, .ref 98, .ref 99, .int 1822 0, .int 72 0, .str (Str.ofString "/claim/cut.py") 1823]⟩, ⟨[]⟩⟩
noncomputable def o101 : Obj := ⟨.type "function", none, .func ⟨(Str.ofString "length_hint"), (Str.ofString "length_hint"), fdP 25, .stmts (fdB 25), fdS 25, 3, [], .ref 94, .none, .none, .str (Str.ofString "cpy313.operator") 1769, none, .ref 100, .none, 0⟩, ⟨[]⟩⟩
noncomputable def o102 : Obj := ⟨.type "tuple", none, .seq ⟨[]⟩ 0, ⟨[]⟩⟩
noncomputable def o103 : Obj := ⟨.none, none, .fields ⟨[]⟩, ⟨[]⟩⟩
noncomputable def o104 : Obj := ⟨.type "tuple", none, .seq ⟨[.str (Str.ofString "sign") 1830]⟩ 0, ⟨[]⟩⟩
noncomputable def o105 : Obj := ⟨.type "tuple", none, .seq ⟨[]⟩ 0, ⟨[]⟩⟩
noncomputable def o106 : Obj := ⟨.none, none, .func ⟨(Str.ofString "_law_safe"), (Str.ofString "_law_safe"), fdP 27, .stmts (fdB 27), fdS 27, 0, [], .none, .none, .none, .none, none, .none, .none, 0⟩, ⟨[]⟩⟩
noncomputable def o107 : Obj := ⟨.type "code", none, .fields ⟨[.str (Str.ofString "_law_safe") 1827, .str (Str.ofString "_law_safe") 1828, .str (Str.ofString "/claim/cut.py") 1829, .int 98 0, .int 1 0, .int 0 0, .int 0 0, .int 3 0, .ref 102, .bool true, .int 181 0, .ref 103, .none, .ref 104, .ref 105, .ref 106, .int 1831 0, .int 98 0, .str (Str.ofString "/claim/cut.py") 1832]⟩, ⟨[]⟩⟩
noncomputable def o108 : Obj := ⟨.type "function", none, .func ⟨(Str.ofString "_law_safe"), (Str.ofString "_law_safe"), fdP 27, .stmts (fdB 27), fdS 27, 3, [], .none, .none, .none, .str (Str.ofString "law_ku0006_01") 1825, none, .ref 107, .none, 0⟩, ⟨[]⟩⟩
noncomputable def o109 : Obj := ⟨.type "tuple", none, .seq ⟨[]⟩ 0, ⟨[]⟩⟩
noncomputable def o110 : Obj := ⟨.none, none, .fields ⟨[]⟩, ⟨[]⟩⟩
noncomputable def o111 : Obj := ⟨.type "tuple", none, .seq ⟨[.str (Str.ofString "sign") 1837, .str (Str.ofString "rounds") 1838]⟩ 0, ⟨[]⟩⟩
noncomputable def o112 : Obj := ⟨.type "tuple", none, .seq ⟨[]⟩ 0, ⟨[]⟩⟩
noncomputable def o113 : Obj := ⟨.none, none, .func ⟨(Str.ofString "_law_sign"), (Str.ofString "_law_sign"), fdP 28, .stmts (fdB 28), fdS 28, 0, [], .none, .none, .none, .none, none, .none, .none, 0⟩, ⟨[]⟩⟩
noncomputable def o114 : Obj := ⟨.type "code", none, .fields ⟨[.str (Str.ofString "_law_sign") 1834, .str (Str.ofString "_law_sign") 1835, .str (Str.ofString "/claim/cut.py") 1836, .int 100 0, .int 2 0, .int 0 0, .int 0 0, .int 3 0, .ref 109, .bool true, .int 181 0, .ref 110, .none, .ref 111, .ref 112, .ref 113, .int 1839 0, .int 100 0, .str (Str.ofString "/claim/cut.py") 1840]⟩, ⟨[]⟩⟩
noncomputable def o115 : Obj := ⟨.type "function", none, .func ⟨(Str.ofString "_law_sign"), (Str.ofString "_law_sign"), fdP 28, .stmts (fdB 28), fdS 28, 3, [], .none, .none, .none, .str (Str.ofString "law_ku0006_01") 1825, none, .ref 114, .none, 0⟩, ⟨[]⟩⟩
noncomputable def o116 : Obj := ⟨.type "tuple", none, .seq ⟨[]⟩ 0, ⟨[]⟩⟩
noncomputable def o117 : Obj := ⟨.none, none, .fields ⟨[]⟩, ⟨[]⟩⟩
noncomputable def o118 : Obj := ⟨.none, none, .func ⟨(Str.ofString "_law_told"), (Str.ofString "_law_told"), fdP 29, .stmts (fdB 29), fdS 29, 0, [], .none, .none, .none, .none, none, .none, .none, 0⟩, ⟨[]⟩⟩
noncomputable def o119 : Obj := ⟨.type "code", none, .fields ⟨[.str (Str.ofString "_law_told") 1842, .str (Str.ofString "_law_told") 1843, .str (Str.ofString "/claim/cut.py") 1844, .int 106 0, .int 3 0, .int 0 0, .int 0 0, .int 3 0, .ref 116, .bool true, .int 181 0, .ref 117, .none, .none, .none, .ref 118, .int 1845 0, .int 106 0, .str (Str.ofString "/claim/cut.py") 1846]⟩, ⟨[]⟩⟩
noncomputable def o120 : Obj := ⟨.type "function", none, .func ⟨(Str.ofString "_law_told"), (Str.ofString "_law_told"), fdP 29, .stmts (fdB 29), fdS 29, 3, [], .none, .none, .none, .str (Str.ofString "law_ku0006_01") 1825, none, .ref 119, .none, 0⟩, ⟨[]⟩⟩
noncomputable def o121 : Obj := ⟨.type "tuple", none, .seq ⟨[]⟩ 0, ⟨[]⟩⟩
noncomputable def o122 : Obj := ⟨.none, none, .fields ⟨[]⟩, ⟨[]⟩⟩
noncomputable def o123 : Obj := ⟨.none, none, .func ⟨(Str.ofString "_law_size"), (Str.ofString "_law_size"), fdP 30, .stmts (fdB 30), fdS 30, 0, [], .none, .none, .none, .none, none, .none, .none, 0⟩, ⟨[]⟩⟩
noncomputable def o124 : Obj := ⟨.type "code", none, .fields ⟨[.str (Str.ofString "_law_size") 1848, .str (Str.ofString "_law_size") 1849, .str (Str.ofString "/claim/cut.py") 1850, .int 111 0, .int 3 0, .int 0 0, .int 0 0, .int 3 0, .ref 121, .bool true, .int 181 0, .ref 122, .none, .none, .none, .ref 123, .int 1851 0, .int 111 0, .str (Str.ofString "/claim/cut.py") 1852]⟩, ⟨[]⟩⟩
noncomputable def o125 : Obj := ⟨.type "function", none, .func ⟨(Str.ofString "_law_size"), (Str.ofString "_law_size"), fdP 30, .stmts (fdB 30), fdS 30, 3, [], .none, .none, .none, .str (Str.ofString "law_ku0006_01") 1825, none, .ref 124, .none, 0⟩, ⟨[]⟩⟩
noncomputable def o126 : Obj := ⟨.type "tuple", none, .seq ⟨[]⟩ 0, ⟨[]⟩⟩
noncomputable def o127 : Obj := ⟨.none, none, .fields ⟨[]⟩, ⟨[]⟩⟩
noncomputable def o128 : Obj := ⟨.none, none, .func ⟨(Str.ofString "_law_written"), (Str.ofString "_law_written"), fdP 31, .stmts (fdB 31), fdS 31, 0, [], .none, .none, .none, .none, none, .none, .none, 0⟩, ⟨[]⟩⟩
noncomputable def o129 : Obj := ⟨.type "code", none, .fields ⟨[.str (Str.ofString "_law_written") 1854, .str (Str.ofString "_law_written") 1855, .str (Str.ofString "/claim/cut.py") 1856, .int 116 0, .int 2 0, .int 0 0, .int 0 0, .int 3 0, .ref 126, .bool true, .int 181 0, .ref 127, .none, .none, .none, .ref 128, .int 1857 0, .int 116 0, .str (Str.ofString "/claim/cut.py") 1858]⟩, ⟨[]⟩⟩
noncomputable def o130 : Obj := ⟨.type "function", none, .func ⟨(Str.ofString "_law_written"), (Str.ofString "_law_written"), fdP 31, .stmts (fdB 31), fdS 31, 3, [], .none, .none, .none, .str (Str.ofString "law_ku0006_01") 1825, none, .ref 129, .none, 0⟩, ⟨[]⟩⟩
noncomputable def o3v31 (P : Params) : Obj := ⟨.type "dict", none, .dict ⟨[e33 P, e1 P, e2 P, e3 P, e4 P, e5 P, e6 P, e7 P, e8 P, e9 P, e10 P, e11 P, e12 P, e13 P, e14 P, e15 P, e16 P, e17 P, e21 P, e22 P, e23 P, e25 P, e27 P, e28 P, e29 P, e30 P, e31 P, e32 P, e34 P, e35 P, e36 P, e37 P, e38 P, e39 P]⟩ 36, ⟨[]⟩⟩
noncomputable def o12v15 : Obj := ⟨.none, none, .fields ⟨[.int 16 0, .int 0 0, .ref 36, .int 18 0, .int 0 0, .ref 44, .int 27 0, .int 0 0, .ref 57, .int 58 0, .int 0 0, .ref 64, .int 60 0, .int 0 0, .ref 71, .int 62 0, .int 0 0, .ref 78, .int 64 0, .int 0 0, .ref 85, .int 66 0, .int 0 0, .ref 92, .int 72 0, .int 0 0, .ref 100, .int 98 0, .int 0 0, .ref 107, .int 100 0, .int 0 0, .ref 114, .int 106 0, .int 0 0, .ref 119, .int 111 0, .int 0 0, .ref 124, .int 116 0, .int 0 0, .ref 129, .int 119 0, .int 0 0, .ref 134]⟩, ⟨[]⟩⟩
noncomputable def o131 : Obj := ⟨.type "tuple", none, .seq ⟨[]⟩ 0, ⟨[]⟩⟩
noncomputable def o132 : Obj := ⟨.none, none, .fields ⟨[]⟩, ⟨[]⟩⟩
noncomputable def o133 : Obj := ⟨.none, none, .func ⟨(Str.ofString "law"), (Str.ofString "law"), fdP 32, .stmts (fdB 32), fdS 32, 0, [], .none, .none, .none, .none, none, .none, .none, 0⟩, ⟨[]⟩⟩
noncomputable def o134 : Obj := ⟨.type "code", none, .fields ⟨[.str (Str.ofString "law") 1860, .str (Str.ofString "law") 1861, .str (Str.ofString "/claim/cut.py") 1862, .int 119 0, .int 1 0, .int 0 0, .int 0 0, .int 3 0, .ref 131, .bool true, .int 181 0, .ref 132, .none, .none, .none, .ref 133, .int 1863 0, .int 119 0, .str (Str.ofString "/claim/cut.py") 1864]⟩, ⟨[]⟩⟩
noncomputable def o135 : Obj := ⟨.type "function", none, .func ⟨(Str.ofString "law"), (Str.ofString "law"), fdP 32, .stmts (fdB 32), fdS 32, 3, [], .none, .none, .none, .str (Str.ofString "law_ku0006_01") 1825, none, .ref 134, .none, 0⟩, ⟨[]⟩⟩
noncomputable def main3 (P : Params) (c t : Nat) : Obj := ⟨.type "dict", none, .dict ⟨[e18 P, e1 P, e2 P, e3 P, e4 P, e5 P, e6 P, e7 P, e8 P, e9 P, e10 P, e11 P, e12 P, e13 P, e14 P, e15 P, e16 P, e17 P, en P (Str.ofString "c") 1242 (.int (Int.ofNat c) t)]⟩ 19, ⟨[]⟩⟩
noncomputable def b0 (P : Params) : List Obj := [boot_o_1 P, boot_o_2 P, boot_o_3 P, boot_o_4 P, boot_o_5 P, boot_o_6 P, boot_o_7 P, boot_o_8 P, boot_o_9 P, boot_o_10 P]
noncomputable def b1 (P : Params) : List Obj := [o11, o12, o13, o14]
noncomputable def b2 (P : Params) : List Obj := [boot_o_1 P, boot_o_2 P, o3 P, boot_o_4 P, boot_o_5 P, boot_o_6 P, boot_o_7 P, boot_o_8 P, boot_o_9 P, boot_o_10 P]
noncomputable def b3 (P : Params) : List Obj := [boot_o_1 P, boot_o_2 P, o3v1 P, boot_o_4 P, boot_o_5 P, boot_o_6 P, boot_o_7 P, boot_o_8 P, boot_o_9 P, boot_o_10 P]
noncomputable def b4 (P : Params) : List Obj := [o11, o12, o13, o14, o15, o16, lst17 256, o18, o19, o20]
noncomputable def b5 (P : Params) : List Obj := [boot_o_1 P, boot_o_2 P, o3v9 P, boot_o_4 P, boot_o_5 P, boot_o_6 P, boot_o_7 P, boot_o_8 P, boot_o_9 P, boot_o_10 P]
noncomputable def b6 (P : Params) : List Obj := [o21, lst22 0, o23, lst24 0]
noncomputable def b7 (P : Params) : List Obj := [boot_o_1 P, boot_o_2 P, o3v10 P, boot_o_4 P, boot_o_5 P, boot_o_6 P, boot_o_7 P, boot_o_8 P, boot_o_9 P, boot_o_10 P]
noncomputable def b8 (P : Params) : List Obj := [o21, lst22 67, o23, lst24 0, o25, o26, o27]
noncomputable def b9 (P : Params) : List Obj := [o21, lst22f, o23, lst24 0, o25, o26, o27]
noncomputable def b10 (P : Params) : List Obj := [boot_o_1 P, boot_o_2 P, o3v11 P, boot_o_4 P, boot_o_5 P, boot_o_6 P, boot_o_7 P, boot_o_8 P, boot_o_9 P, boot_o_10 P]
noncomputable def b11 (P : Params) : List Obj := [o21, lst22f, o23, lst24 95, o25, o26, o27, o28, o29, o30]
noncomputable def b12 (P : Params) : List Obj := [boot_o_1 P, boot_o_2 P, o3v15 P, boot_o_4 P, boot_o_5 P, boot_o_6 P, boot_o_7 P, boot_o_8 P, boot_o_9 P, boot_o_10 P]
noncomputable def b13 (P : Params) : List Obj := [o11, o12v2, o13, o14, o15, o16, lst17 256, o18, o19, o20]
noncomputable def b14 (P : Params) : List Obj := [o31, o32, o33, o34, o35, o36, o37, o38, o39, o40]
noncomputable def b15 (P : Params) : List Obj := [o41, o42, o43, o44, o45, o46, lst47 2, o48, o49, o50]
noncomputable def b16 (P : Params) : List Obj := [boot_o_1 P, boot_o_2 P, o3v24 P, boot_o_4 P, boot_o_5 P, boot_o_6 P, boot_o_7 P, boot_o_8 P, boot_o_9 P, boot_o_10 P]
noncomputable def b17 (P : Params) : List Obj := [o11, o12v9, o13, o14, o15, o16, lst17 256, o18, o19, o20]
noncomputable def b18 (P : Params) : List Obj := [o51, o52, o53, o54, o55, o56, o57, o58, o59, o60]
noncomputable def b19 (P : Params) : List Obj := [o61, o62, o63, o64, o65, o66, o67, o68, o69, o70]
noncomputable def b20 (P : Params) : List Obj := [o71, o72, o73, o74, o75, o76, o77, o78, o79, o80]
noncomputable def b21 (P : Params) : List Obj := [o81, o82, o83, o84, o85, o86, o87, o88, o89, o90]
noncomputable def b22 (P : Params) : List Obj := [o91, o92, o93, o94, o95, o96, o97, o98, o99, o100]
noncomputable def b23 (P : Params) : List Obj := [o101]
noncomputable def b24 (P : Params) : List Obj := [boot_o_1 P, boot_o_2 P, o3v31 P, boot_o_4 P, boot_o_5 P, boot_o_6 P, boot_o_7 P, boot_o_8 P, boot_o_9 P, boot_o_10 P]
noncomputable def b25 (P : Params) : List Obj := [o11, o12v15, o13, o14, o15, o16, lst17 256, o18, o19, o20]
noncomputable def b26 (P : Params) : List Obj := [o101, o102, o103, o104, o105, o106, o107, o108, o109, o110]
noncomputable def b27 (P : Params) : List Obj := [o111, o112, o113, o114, o115, o116, o117, o118, o119, o120]
noncomputable def b28 (P : Params) : List Obj := [o121, o122, o123, o124, o125, o126, o127, o128, o129, o130]
noncomputable def b29 (P : Params) : List Obj := [o131, o132, o133, o134, o135]
noncomputable def l_pre (z : Obj) (P : Params) : List Obj := z :: (b0 P ++ (b1 P))
noncomputable def Apre (z : Params → Obj) (w : World) (os : OsState) : SharedT := mkS (l_pre (z w.params) w.params) 15 187 os
noncomputable def l_p0 (z : Obj) (P : Params) : List Obj := z :: (b2 P ++ (b1 P))
noncomputable def A0 (z : Params → Obj) (w : World) (os : OsState) : SharedT := mkS (l_p0 (z w.params) w.params) 15 189 os
noncomputable def l_p1 (z : Obj) (P : Params) : List Obj := z :: (b3 P ++ (b4 P))
noncomputable def A1 (z : Params → Obj) (w : World) (os : OsState) : SharedT := mkS (l_p1 (z w.params) w.params) 21 1217 os
noncomputable def l_p9 (z : Obj) (P : Params) : List Obj := z :: (b5 P ++ (b4 P ++ (b6 P)))
noncomputable def A9 (z : Params → Obj) (w : World) (os : OsState) : SharedT := mkS (l_p9 (z w.params) w.params) 25 1234 os
noncomputable def l_p10 (z : Obj) (P : Params) : List Obj := z :: (b7 P ++ (b4 P ++ (b8 P)))
noncomputable def A10 (z : Params → Obj) (w : World) (os : OsState) : SharedT := mkS (l_p10 (z w.params) w.params) 28 1442 os
noncomputable def l_p11 (z : Obj) (P : Params) : List Obj := z :: (b7 P ++ (b4 P ++ (b9 P)))
noncomputable def A11 (z : Params → Obj) (w : World) (os : OsState) : SharedT := mkS (l_p11 (z w.params) w.params) 28 1445 os
noncomputable def l_p12 (z : Obj) (P : Params) : List Obj := z :: (b10 P ++ (b4 P ++ (b11 P)))
noncomputable def A12 (z : Params → Obj) (w : World) (os : OsState) : SharedT := mkS (l_p12 (z w.params) w.params) 31 1731 os
noncomputable def l_p16 (z : Obj) (P : Params) : List Obj := z :: (b12 P ++ (b13 P ++ (b11 P ++ (b14 P ++ (b15 P)))))
noncomputable def A16 (z : Params → Obj) (w : World) (os : OsState) : SharedT := mkS (l_p16 (z w.params) w.params) 51 1756 os
noncomputable def l_p25 (z : Obj) (P : Params) : List Obj := z :: (b16 P ++ (b17 P ++ (b11 P ++ (b14 P ++ (b15 P ++ (b18 P ++ (b19 P ++ (b20 P ++ (b21 P ++ (b22 P ++ (b23 P)))))))))))
noncomputable def A25 (z : Params → Obj) (w : World) (os : OsState) : SharedT := mkS (l_p25 (z w.params) w.params) 102 1825 os
noncomputable def l_p32 (z : Obj) (P : Params) : List Obj := z :: (b24 P ++ (b25 P ++ (b11 P ++ (b14 P ++ (b15 P ++ (b18 P ++ (b19 P ++ (b20 P ++ (b21 P ++ (b22 P ++ (b26 P ++ (b27 P ++ (b28 P ++ (b29 P))))))))))))))
noncomputable def A32 (z : Params → Obj) (w : World) (os : OsState) : SharedT := mkS (l_p32 (z w.params) w.params) 136 1866 os
noncomputable def l_S1 (z : Obj) (P : Params) (k : Nat) : List Obj := z :: (b2 P ++ ([o11, o12, o13, o14, o15, it16 k, lst17 k, ns18 P k]))
noncomputable def l_S2 (z : Obj) (P : Params) (k : Nat) : List Obj := z :: ([boot_o_1 P, boot_o_2 P, main3 P (B1.getD (k - 1) 0) (1241 + 3 * (k - 1)), boot_o_4 P, boot_o_5 P, boot_o_6 P, boot_o_7 P, boot_o_8 P, boot_o_9 P, boot_o_10 P] ++ (b4 P ++ ([o21, lst22 k, o23, lst24 0, it25 k])))
noncomputable def l_S3 (z : Obj) (P : Params) (k : Nat) : List Obj := z :: ([boot_o_1 P, boot_o_2 P, main3 P (B2.getD (k - 1) 0) (1446 + 3 * (k - 1)), boot_o_4 P, boot_o_5 P, boot_o_6 P, boot_o_7 P, boot_o_8 P, boot_o_9 P, boot_o_10 P] ++ (b4 P ++ ([o21, lst22f, o23, lst24 k, o25, o26, o27, it28 k])))
end
end
section
noncomputable section
open PySem PySem.W PyProof.Rows
noncomputable def annH : Option Value := some (.ref 6)
noncomputable def envH : Env := { scope := pw.main.scope, locals := mainNs, globals := mainNs, cells := [], code := .ref 13, frame := some 14 }
noncomputable def cH : Code := .body bodyH envH
noncomputable def B0 : List Frame := [topFrame ⟨0, 0, 0, 0⟩]
noncomputable def pos (a b c d : Nat) : Pos := ⟨a, b, c, d⟩
noncomputable def thS (i n : Nat) (pos : Pos) : Thread := ⟨(execs ((bodyH.drop i).take n) envH).wrap doneF deadEnd id id, cH, pos, B0⟩
noncomputable def go (w : World) (n : Nat) (s : SharedT) (t : Thread) : Option (SharedT × Thread) := segGoT treeTable PySem.Challenge.pw_ku0006_01 w 11 annH 1 n s t
noncomputable def rn (w : World) (n : Nat) (s : SharedT) (t : Thread) : Option (Flow × SharedT × Code × Pos) := segRunT treeTable PySem.Challenge.pw_ku0006_01 w 11 annH 1 n s t
noncomputable def W2 (w : World) (b : Bool) : World := w.withFollow "special-get-raises" b
noncomputable def W1 (w : World) (b1 b2 : Bool) : World := (W2 w b2).withFollow "comprehension-iter-twice" b1
noncomputable def thOf : Option (SharedT × Thread) → Thread
  | some (_, t) => t
  | none => ⟨.pure (.done .next), cH, ⟨0, 0, 0, 0⟩, []⟩
noncomputable def S1 (z : Params → Obj) (w : World) (os : OsState) (k : Nat) : SharedT := mkS (l_S1 (z w.params) w.params k) 19 (192 + 4 * k) os
noncomputable def S2 (z : Params → Obj) (w : World) (os : OsState) (k : Nat) : SharedT := mkS (l_S2 (z w.params) w.params k) 26 (1241 + 3 * k) os
noncomputable def S3 (z : Params → Obj) (w : World) (os : OsState) (k : Nat) : SharedT := mkS (l_S3 (z w.params) w.params k) 29 (1446 + 3 * k) os
noncomputable def th1 (z : Params → Obj) (w : World) (os : OsState) : Thread := thOf (go (W1 w true true) 78 (A0 z w os) (thS 1 1 ⟨1, 0, 1, 2⟩))
noncomputable def th2 (z : Params → Obj) (w : World) (os : OsState) : Thread := thOf (go (W2 w true) 88 (A9 z w os) (thS 10 1 ⟨10, 0, 10, 8⟩))
noncomputable def th3 (z : Params → Obj) (w : World) (os : OsState) : Thread := thOf (go (W2 w true) 54 (A11 z w os) (thS 12 1 ⟨13, 0, 13, 28⟩))
noncomputable def H1 (z : Params → Obj) (P : Params) : Heap := ⟨⟨l_p32 (z P) P⟩, life0⟩
noncomputable def Qpre (z : Params → Obj) (Hb : Params → Heap) : Prop := ∀ w os, topGo treeTable PySem.Challenge.pw_ku0006_01 w 11 annH 12 ⟨Hb w.params, ⟨[]⟩, boot_drawn, boot_toks, os⟩ (topStub PySem.Challenge.pw_ku0006_01) = some ((Apre z w os).abs, ⟨denote treeTable cH, cH, ⟨0, 0, 0, 0⟩, B0⟩)
noncomputable def Qblk (z : Params → Obj) : Prop := ∀ w os, segRun treeTable PySem.Challenge.pw_ku0006_01 w 11 annH 1 1 (Apre z w os).abs ⟨(blockStart bodyH envH).wrap (fun _ => doneF .next) deadEnd id id, cH, ⟨0, 0, 0, 0⟩, B0⟩ = some (.next, (Apre z w os).abs, cH, ⟨0, 0, 0, 0⟩)
noncomputable def Q0 (z : Params → Obj) : Prop := ∀ w os, rn w 10 (Apre z w os) (thS 0 1 ⟨0, 0, 0, 0⟩) = some (.next, A0 z w os, cH, ⟨1, 0, 1, 2⟩)
noncomputable def Q1a (z : Params → Obj) (b1 b2 : Bool) : Prop := ∀ w os, go (W1 w b1 b2) (bif b1 then 78 else 88) (A0 z w os) (thS 1 1 ⟨1, 0, 1, 2⟩) = some (S1 z w os 1, th1 z w os)
noncomputable def Q1b (z : Params → Obj) (b : Bool) (k m : Nat) : Prop := ∀ w os, go (W2 w b) (37 * m) (S1 z w os k) (th1 z w os) = some (S1 z w os (k + m), th1 z w os)
noncomputable def Q1c (z : Params → Obj) (b : Bool) (n : Nat) : Prop := ∀ w os, rn (W2 w b) n (S1 z w os 256) (th1 z w os) = some (.next, A1 z w os, cH, ⟨2, 0, 2, 11⟩)
noncomputable def Q2 (z : Params → Obj) : Prop := ∀ w os, rn w 133 (A1 z w os) (thS 2 8 ⟨2, 0, 2, 11⟩) = some (.next, A9 z w os, cH, ⟨10, 0, 10, 8⟩)
noncomputable def Q10a (z : Params → Obj) (b : Bool) : Prop := ∀ w os, go (W2 w b) 88 (A9 z w os) (thS 10 1 ⟨10, 0, 10, 8⟩) = some (S2 z w os 1, th2 z w os)
noncomputable def Q10b (z : Params → Obj) (b : Bool) (k m : Nat) : Prop := ∀ w os, go (W2 w b) (45 * m) (S2 z w os k) (th2 z w os) = some (S2 z w os (k + m), th2 z w os)
noncomputable def Q10c (z : Params → Obj) (b : Bool) : Prop := ∀ w os, rn (W2 w b) 19 (S2 z w os 67) (th2 z w os) = some (.next, A10 z w os, cH, ⟨11, 9, 11, 74⟩)
noncomputable def Q11 (z : Params → Obj) : Prop := ∀ w os, rn w 25 (A10 z w os) (thS 11 1 ⟨11, 9, 11, 74⟩) = some (.next, A11 z w os, cH, ⟨13, 0, 13, 28⟩)
noncomputable def Q12a (z : Params → Obj) (b : Bool) : Prop := ∀ w os, go (W2 w b) 54 (A11 z w os) (thS 12 1 ⟨13, 0, 13, 28⟩) = some (S3 z w os 1, th3 z w os)
noncomputable def Q12b (z : Params → Obj) (b : Bool) (k m : Nat) : Prop := ∀ w os, go (W2 w b) (45 * m) (S3 z w os k) (th3 z w os) = some (S3 z w os (k + m), th3 z w os)
noncomputable def Q12c (z : Params → Obj) (b : Bool) : Prop := ∀ w os, rn (W2 w b) 19 (S3 z w os 95) (th3 z w os) = some (.next, A12 z w os, cH, ⟨14, 9, 14, 110⟩)
noncomputable def Q13 (z : Params → Obj) (b : Bool) : Prop := ∀ w os, rn (W2 w b) 207 (A12 z w os) (thS 13 4 ⟨14, 9, 14, 110⟩) = some (.next, A16 z w os, cH, ⟨24, 9, 24, 16⟩)
noncomputable def Q17 (z : Params → Obj) : Prop := ∀ w os, rn w 241 (A16 z w os) (thS 17 9 ⟨24, 9, 24, 16⟩) = some (.next, A25 z w os, cH, ⟨72, 0, 96, 14⟩)
noncomputable def Q26 (z : Params → Obj) : Prop := ∀ w os, rn w 173 (A25 z w os) (thS 26 7 ⟨72, 0, 96, 14⟩) = some (.next, A32 z w os, cH, ⟨119, 0, 144, 39⟩)
noncomputable def Qfin (z : Params → Obj) : Prop := ∀ w os, topRun treeTable PySem.Challenge.pw_ku0006_01 w 11 annH 2 (A32 z w os).abs ⟨doneF .next, cH, ⟨119, 0, 144, 39⟩, B0⟩ = some ⟨H1 z w.params, ⟨[]⟩, drawn0, 1866, os⟩
lay_quick Qpre Qblk Q0 Q1a Q1b Q1c Q2 Q10a Q10b Q10c Q11 Q12a Q12b Q12c Q13 Q17 Q26 Qfin
end
end
section
open PySem PySem.W PyProof.Rows
theorem qpre : Qpre boot_o_0 boot_heap := by
  rw [PySem.W.Fast.te6384848715178703637]
  delta PySem.W.Fast.tw6384848715178703637
  intro w os
  kernel_rfl
theorem qblk : Qblk boot_o_0 := by
  rw [PySem.W.Fast.te8838815986558835784]
  delta PySem.W.Fast.tw8838815986558835784
  intro w os
  kernel_rfl
theorem q0 : Q0 boot_o_0 := by
  rw [PySem.W.Fast.te14645527923798848931]
  delta PySem.W.Fast.tw14645527923798848931
  intro w os
  kernel_rfl
theorem q1a (b1 b2 : Bool) : Q1a boot_o_0 b1 b2 := by
  rw [PySem.W.Fast.te1620197360965378257]
  delta PySem.W.Fast.tw1620197360965378257
  intro w os
  cases b1 <;> cases b2 <;> kernel_rfl
theorem q1b_1 (b : Bool) : Q1b boot_o_0 b 1 5 := by
  rw [PySem.W.Fast.te12982393514100068786]
  delta PySem.W.Fast.tw12982393514100068786
  intro w os
  cases b <;> kernel_rfl
theorem q1b_6 (b : Bool) : Q1b boot_o_0 b 6 5 := by
  rw [PySem.W.Fast.te12982393514100068786]
  delta PySem.W.Fast.tw12982393514100068786
  intro w os
  cases b <;> kernel_rfl
theorem q1b_11 (b : Bool) : Q1b boot_o_0 b 11 5 := by
  rw [PySem.W.Fast.te12982393514100068786]
  delta PySem.W.Fast.tw12982393514100068786
  intro w os
  cases b <;> kernel_rfl
theorem q1b_16 (b : Bool) : Q1b boot_o_0 b 16 5 := by
  rw [PySem.W.Fast.te12982393514100068786]
  delta PySem.W.Fast.tw12982393514100068786
  intro w os
  cases b <;> kernel_rfl
theorem q1b_21 (b : Bool) : Q1b boot_o_0 b 21 5 := by
  rw [PySem.W.Fast.te12982393514100068786]
  delta PySem.W.Fast.tw12982393514100068786
  intro w os
  cases b <;> kernel_rfl
theorem q1b_26 (b : Bool) : Q1b boot_o_0 b 26 5 := by
  rw [PySem.W.Fast.te12982393514100068786]
  delta PySem.W.Fast.tw12982393514100068786
  intro w os
  cases b <;> kernel_rfl
theorem q1b_31 (b : Bool) : Q1b boot_o_0 b 31 5 := by
  rw [PySem.W.Fast.te12982393514100068786]
  delta PySem.W.Fast.tw12982393514100068786
  intro w os
  cases b <;> kernel_rfl
theorem q1b_36 (b : Bool) : Q1b boot_o_0 b 36 5 := by
  rw [PySem.W.Fast.te12982393514100068786]
  delta PySem.W.Fast.tw12982393514100068786
  intro w os
  cases b <;> kernel_rfl
theorem q1b_41 (b : Bool) : Q1b boot_o_0 b 41 5 := by
  rw [PySem.W.Fast.te12982393514100068786]
  delta PySem.W.Fast.tw12982393514100068786
  intro w os
  cases b <;> kernel_rfl
theorem q1b_46 (b : Bool) : Q1b boot_o_0 b 46 5 := by
  rw [PySem.W.Fast.te12982393514100068786]
  delta PySem.W.Fast.tw12982393514100068786
  intro w os
  cases b <;> kernel_rfl
theorem q1b_51 (b : Bool) : Q1b boot_o_0 b 51 5 := by
  rw [PySem.W.Fast.te12982393514100068786]
  delta PySem.W.Fast.tw12982393514100068786
  intro w os
  cases b <;> kernel_rfl
theorem q1b_56 (b : Bool) : Q1b boot_o_0 b 56 5 := by
  rw [PySem.W.Fast.te12982393514100068786]
  delta PySem.W.Fast.tw12982393514100068786
  intro w os
  cases b <;> kernel_rfl
theorem q1b_61 (b : Bool) : Q1b boot_o_0 b 61 5 := by
  rw [PySem.W.Fast.te12982393514100068786]
  delta PySem.W.Fast.tw12982393514100068786
  intro w os
  cases b <;> kernel_rfl
theorem q1b_66 (b : Bool) : Q1b boot_o_0 b 66 5 := by
  rw [PySem.W.Fast.te12982393514100068786]
  delta PySem.W.Fast.tw12982393514100068786
  intro w os
  cases b <;> kernel_rfl
theorem q1b_71 (b : Bool) : Q1b boot_o_0 b 71 5 := by
  rw [PySem.W.Fast.te12982393514100068786]
  delta PySem.W.Fast.tw12982393514100068786
  intro w os
  cases b <;> kernel_rfl
theorem q1b_76 (b : Bool) : Q1b boot_o_0 b 76 5 := by
  rw [PySem.W.Fast.te12982393514100068786]
  delta PySem.W.Fast.tw12982393514100068786
  intro w os
  cases b <;> kernel_rfl
theorem q1b_81 (b : Bool) : Q1b boot_o_0 b 81 5 := by
  rw [PySem.W.Fast.te12982393514100068786]
  delta PySem.W.Fast.tw12982393514100068786
  intro w os
  cases b <;> kernel_rfl
theorem q1b_86 (b : Bool) : Q1b boot_o_0 b 86 5 := by
  rw [PySem.W.Fast.te12982393514100068786]
  delta PySem.W.Fast.tw12982393514100068786
  intro w os
  cases b <;> kernel_rfl
theorem q1b_91 (b : Bool) : Q1b boot_o_0 b 91 5 := by
  rw [PySem.W.Fast.te12982393514100068786]
  delta PySem.W.Fast.tw12982393514100068786
  intro w os
  cases b <;> kernel_rfl
theorem q1b_96 (b : Bool) : Q1b boot_o_0 b 96 5 := by
  rw [PySem.W.Fast.te12982393514100068786]
  delta PySem.W.Fast.tw12982393514100068786
  intro w os
  cases b <;> kernel_rfl
theorem q1b_101 (b : Bool) : Q1b boot_o_0 b 101 5 := by
  rw [PySem.W.Fast.te12982393514100068786]
  delta PySem.W.Fast.tw12982393514100068786
  intro w os
  cases b <;> kernel_rfl
theorem q1b_106 (b : Bool) : Q1b boot_o_0 b 106 5 := by
  rw [PySem.W.Fast.te12982393514100068786]
  delta PySem.W.Fast.tw12982393514100068786
  intro w os
  cases b <;> kernel_rfl
theorem q1b_111 (b : Bool) : Q1b boot_o_0 b 111 5 := by
  rw [PySem.W.Fast.te12982393514100068786]
  delta PySem.W.Fast.tw12982393514100068786
  intro w os
  cases b <;> kernel_rfl
theorem q1b_116 (b : Bool) : Q1b boot_o_0 b 116 5 := by
  rw [PySem.W.Fast.te12982393514100068786]
  delta PySem.W.Fast.tw12982393514100068786
  intro w os
  cases b <;> kernel_rfl
theorem q1b_121 (b : Bool) : Q1b boot_o_0 b 121 5 := by
  rw [PySem.W.Fast.te12982393514100068786]
  delta PySem.W.Fast.tw12982393514100068786
  intro w os
  cases b <;> kernel_rfl
theorem q1b_126 (b : Bool) : Q1b boot_o_0 b 126 5 := by
  rw [PySem.W.Fast.te12982393514100068786]
  delta PySem.W.Fast.tw12982393514100068786
  intro w os
  cases b <;> kernel_rfl
theorem q1b_131 (b : Bool) : Q1b boot_o_0 b 131 5 := by
  rw [PySem.W.Fast.te12982393514100068786]
  delta PySem.W.Fast.tw12982393514100068786
  intro w os
  cases b <;> kernel_rfl
theorem q1b_136 (b : Bool) : Q1b boot_o_0 b 136 5 := by
  rw [PySem.W.Fast.te12982393514100068786]
  delta PySem.W.Fast.tw12982393514100068786
  intro w os
  cases b <;> kernel_rfl
theorem q1b_141 (b : Bool) : Q1b boot_o_0 b 141 5 := by
  rw [PySem.W.Fast.te12982393514100068786]
  delta PySem.W.Fast.tw12982393514100068786
  intro w os
  cases b <;> kernel_rfl
theorem q1b_146 (b : Bool) : Q1b boot_o_0 b 146 5 := by
  rw [PySem.W.Fast.te12982393514100068786]
  delta PySem.W.Fast.tw12982393514100068786
  intro w os
  cases b <;> kernel_rfl
theorem q1b_151 (b : Bool) : Q1b boot_o_0 b 151 5 := by
  rw [PySem.W.Fast.te12982393514100068786]
  delta PySem.W.Fast.tw12982393514100068786
  intro w os
  cases b <;> kernel_rfl
theorem q1b_156 (b : Bool) : Q1b boot_o_0 b 156 5 := by
  rw [PySem.W.Fast.te12982393514100068786]
  delta PySem.W.Fast.tw12982393514100068786
  intro w os
  cases b <;> kernel_rfl
theorem q1b_161 (b : Bool) : Q1b boot_o_0 b 161 5 := by
  rw [PySem.W.Fast.te12982393514100068786]
  delta PySem.W.Fast.tw12982393514100068786
  intro w os
  cases b <;> kernel_rfl
theorem q1b_166 (b : Bool) : Q1b boot_o_0 b 166 5 := by
  rw [PySem.W.Fast.te12982393514100068786]
  delta PySem.W.Fast.tw12982393514100068786
  intro w os
  cases b <;> kernel_rfl
theorem q1b_171 (b : Bool) : Q1b boot_o_0 b 171 5 := by
  rw [PySem.W.Fast.te12982393514100068786]
  delta PySem.W.Fast.tw12982393514100068786
  intro w os
  cases b <;> kernel_rfl
theorem q1b_176 (b : Bool) : Q1b boot_o_0 b 176 5 := by
  rw [PySem.W.Fast.te12982393514100068786]
  delta PySem.W.Fast.tw12982393514100068786
  intro w os
  cases b <;> kernel_rfl
theorem q1b_181 (b : Bool) : Q1b boot_o_0 b 181 5 := by
  rw [PySem.W.Fast.te12982393514100068786]
  delta PySem.W.Fast.tw12982393514100068786
  intro w os
  cases b <;> kernel_rfl
theorem q1b_186 (b : Bool) : Q1b boot_o_0 b 186 5 := by
  rw [PySem.W.Fast.te12982393514100068786]
  delta PySem.W.Fast.tw12982393514100068786
  intro w os
  cases b <;> kernel_rfl
theorem q1b_191 (b : Bool) : Q1b boot_o_0 b 191 5 := by
  rw [PySem.W.Fast.te12982393514100068786]
  delta PySem.W.Fast.tw12982393514100068786
  intro w os
  cases b <;> kernel_rfl
theorem q1b_196 (b : Bool) : Q1b boot_o_0 b 196 5 := by
  rw [PySem.W.Fast.te12982393514100068786]
  delta PySem.W.Fast.tw12982393514100068786
  intro w os
  cases b <;> kernel_rfl
theorem q1b_201 (b : Bool) : Q1b boot_o_0 b 201 5 := by
  rw [PySem.W.Fast.te12982393514100068786]
  delta PySem.W.Fast.tw12982393514100068786
  intro w os
  cases b <;> kernel_rfl
theorem q1b_206 (b : Bool) : Q1b boot_o_0 b 206 5 := by
  rw [PySem.W.Fast.te12982393514100068786]
  delta PySem.W.Fast.tw12982393514100068786
  intro w os
  cases b <;> kernel_rfl
theorem q1b_211 (b : Bool) : Q1b boot_o_0 b 211 5 := by
  rw [PySem.W.Fast.te12982393514100068786]
  delta PySem.W.Fast.tw12982393514100068786
  intro w os
  cases b <;> kernel_rfl
theorem q1b_216 (b : Bool) : Q1b boot_o_0 b 216 5 := by
  rw [PySem.W.Fast.te12982393514100068786]
  delta PySem.W.Fast.tw12982393514100068786
  intro w os
  cases b <;> kernel_rfl
theorem q1b_221 (b : Bool) : Q1b boot_o_0 b 221 5 := by
  rw [PySem.W.Fast.te12982393514100068786]
  delta PySem.W.Fast.tw12982393514100068786
  intro w os
  cases b <;> kernel_rfl
theorem q1b_226 (b : Bool) : Q1b boot_o_0 b 226 5 := by
  rw [PySem.W.Fast.te12982393514100068786]
  delta PySem.W.Fast.tw12982393514100068786
  intro w os
  cases b <;> kernel_rfl
theorem q1b_231 (b : Bool) : Q1b boot_o_0 b 231 5 := by
  rw [PySem.W.Fast.te12982393514100068786]
  delta PySem.W.Fast.tw12982393514100068786
  intro w os
  cases b <;> kernel_rfl
theorem q1b_236 (b : Bool) : Q1b boot_o_0 b 236 5 := by
  rw [PySem.W.Fast.te12982393514100068786]
  delta PySem.W.Fast.tw12982393514100068786
  intro w os
  cases b <;> kernel_rfl
theorem q1b_241 (b : Bool) : Q1b boot_o_0 b 241 5 := by
  rw [PySem.W.Fast.te12982393514100068786]
  delta PySem.W.Fast.tw12982393514100068786
  intro w os
  cases b <;> kernel_rfl
theorem q1b_246 (b : Bool) : Q1b boot_o_0 b 246 5 := by
  rw [PySem.W.Fast.te12982393514100068786]
  delta PySem.W.Fast.tw12982393514100068786
  intro w os
  cases b <;> kernel_rfl
theorem q1b_251 (b : Bool) : Q1b boot_o_0 b 251 5 := by
  rw [PySem.W.Fast.te12982393514100068786]
  delta PySem.W.Fast.tw12982393514100068786
  intro w os
  cases b <;> kernel_rfl
theorem q1c (b : Bool) : Q1c boot_o_0 b 29 := by
  rw [PySem.W.Fast.te1070255372625471206]
  delta PySem.W.Fast.tw1070255372625471206
  intro w os
  cases b <;> kernel_rfl
theorem q1d (b : Bool) : Q1c boot_o_0 b 39 := by
  rw [PySem.W.Fast.te1070255372625471206]
  delta PySem.W.Fast.tw1070255372625471206
  intro w os
  cases b <;> kernel_rfl
theorem q2 : Q2 boot_o_0 := by
  rw [PySem.W.Fast.te4231839971599370903]
  delta PySem.W.Fast.tw4231839971599370903
  intro w os
  kernel_rfl
theorem q10a (b : Bool) : Q10a boot_o_0 b := by
  rw [PySem.W.Fast.te4960064167349961398]
  delta PySem.W.Fast.tw4960064167349961398
  intro w os
  cases b <;> kernel_rfl
theorem q10b_1 (b : Bool) : Q10b boot_o_0 b 1 6 := by
  rw [PySem.W.Fast.te9255241971688061783]
  delta PySem.W.Fast.tw9255241971688061783
  intro w os
  cases b <;> kernel_rfl
theorem q10b_7 (b : Bool) : Q10b boot_o_0 b 7 6 := by
  rw [PySem.W.Fast.te9255241971688061783]
  delta PySem.W.Fast.tw9255241971688061783
  intro w os
  cases b <;> kernel_rfl
theorem q10b_13 (b : Bool) : Q10b boot_o_0 b 13 6 := by
  rw [PySem.W.Fast.te9255241971688061783]
  delta PySem.W.Fast.tw9255241971688061783
  intro w os
  cases b <;> kernel_rfl
theorem q10b_19 (b : Bool) : Q10b boot_o_0 b 19 6 := by
  rw [PySem.W.Fast.te9255241971688061783]
  delta PySem.W.Fast.tw9255241971688061783
  intro w os
  cases b <;> kernel_rfl
theorem q10b_25 (b : Bool) : Q10b boot_o_0 b 25 6 := by
  rw [PySem.W.Fast.te9255241971688061783]
  delta PySem.W.Fast.tw9255241971688061783
  intro w os
  cases b <;> kernel_rfl
theorem q10b_31 (b : Bool) : Q10b boot_o_0 b 31 6 := by
  rw [PySem.W.Fast.te9255241971688061783]
  delta PySem.W.Fast.tw9255241971688061783
  intro w os
  cases b <;> kernel_rfl
theorem q10b_37 (b : Bool) : Q10b boot_o_0 b 37 6 := by
  rw [PySem.W.Fast.te9255241971688061783]
  delta PySem.W.Fast.tw9255241971688061783
  intro w os
  cases b <;> kernel_rfl
theorem q10b_43 (b : Bool) : Q10b boot_o_0 b 43 6 := by
  rw [PySem.W.Fast.te9255241971688061783]
  delta PySem.W.Fast.tw9255241971688061783
  intro w os
  cases b <;> kernel_rfl
theorem q10b_49 (b : Bool) : Q10b boot_o_0 b 49 6 := by
  rw [PySem.W.Fast.te9255241971688061783]
  delta PySem.W.Fast.tw9255241971688061783
  intro w os
  cases b <;> kernel_rfl
theorem q10b_55 (b : Bool) : Q10b boot_o_0 b 55 6 := by
  rw [PySem.W.Fast.te9255241971688061783]
  delta PySem.W.Fast.tw9255241971688061783
  intro w os
  cases b <;> kernel_rfl
theorem q10b_61 (b : Bool) : Q10b boot_o_0 b 61 6 := by
  rw [PySem.W.Fast.te9255241971688061783]
  delta PySem.W.Fast.tw9255241971688061783
  intro w os
  cases b <;> kernel_rfl
theorem q10c (b : Bool) : Q10c boot_o_0 b := by
  rw [PySem.W.Fast.te14944179549845003270]
  delta PySem.W.Fast.tw14944179549845003270
  intro w os
  cases b <;> kernel_rfl
theorem q11 : Q11 boot_o_0 := by
  rw [PySem.W.Fast.te17630187043211104253]
  delta PySem.W.Fast.tw17630187043211104253
  intro w os
  kernel_rfl
theorem q12a (b : Bool) : Q12a boot_o_0 b := by
  rw [PySem.W.Fast.te551709077446444574]
  delta PySem.W.Fast.tw551709077446444574
  intro w os
  cases b <;> kernel_rfl
theorem q12b_1 (b : Bool) : Q12b boot_o_0 b 1 6 := by
  rw [PySem.W.Fast.te5698263676984509272]
  delta PySem.W.Fast.tw5698263676984509272
  intro w os
  cases b <;> kernel_rfl
theorem q12b_7 (b : Bool) : Q12b boot_o_0 b 7 6 := by
  rw [PySem.W.Fast.te5698263676984509272]
  delta PySem.W.Fast.tw5698263676984509272
  intro w os
  cases b <;> kernel_rfl
theorem q12b_13 (b : Bool) : Q12b boot_o_0 b 13 6 := by
  rw [PySem.W.Fast.te5698263676984509272]
  delta PySem.W.Fast.tw5698263676984509272
  intro w os
  cases b <;> kernel_rfl
theorem q12b_19 (b : Bool) : Q12b boot_o_0 b 19 6 := by
  rw [PySem.W.Fast.te5698263676984509272]
  delta PySem.W.Fast.tw5698263676984509272
  intro w os
  cases b <;> kernel_rfl
theorem q12b_25 (b : Bool) : Q12b boot_o_0 b 25 6 := by
  rw [PySem.W.Fast.te5698263676984509272]
  delta PySem.W.Fast.tw5698263676984509272
  intro w os
  cases b <;> kernel_rfl
theorem q12b_31 (b : Bool) : Q12b boot_o_0 b 31 6 := by
  rw [PySem.W.Fast.te5698263676984509272]
  delta PySem.W.Fast.tw5698263676984509272
  intro w os
  cases b <;> kernel_rfl
theorem q12b_37 (b : Bool) : Q12b boot_o_0 b 37 6 := by
  rw [PySem.W.Fast.te5698263676984509272]
  delta PySem.W.Fast.tw5698263676984509272
  intro w os
  cases b <;> kernel_rfl
theorem q12b_43 (b : Bool) : Q12b boot_o_0 b 43 6 := by
  rw [PySem.W.Fast.te5698263676984509272]
  delta PySem.W.Fast.tw5698263676984509272
  intro w os
  cases b <;> kernel_rfl
theorem q12b_49 (b : Bool) : Q12b boot_o_0 b 49 6 := by
  rw [PySem.W.Fast.te5698263676984509272]
  delta PySem.W.Fast.tw5698263676984509272
  intro w os
  cases b <;> kernel_rfl
theorem q12b_55 (b : Bool) : Q12b boot_o_0 b 55 6 := by
  rw [PySem.W.Fast.te5698263676984509272]
  delta PySem.W.Fast.tw5698263676984509272
  intro w os
  cases b <;> kernel_rfl
theorem q12b_61 (b : Bool) : Q12b boot_o_0 b 61 6 := by
  rw [PySem.W.Fast.te5698263676984509272]
  delta PySem.W.Fast.tw5698263676984509272
  intro w os
  cases b <;> kernel_rfl
theorem q12b_67 (b : Bool) : Q12b boot_o_0 b 67 6 := by
  rw [PySem.W.Fast.te5698263676984509272]
  delta PySem.W.Fast.tw5698263676984509272
  intro w os
  cases b <;> kernel_rfl
theorem q12b_73 (b : Bool) : Q12b boot_o_0 b 73 6 := by
  rw [PySem.W.Fast.te5698263676984509272]
  delta PySem.W.Fast.tw5698263676984509272
  intro w os
  cases b <;> kernel_rfl
theorem q12b_79 (b : Bool) : Q12b boot_o_0 b 79 6 := by
  rw [PySem.W.Fast.te5698263676984509272]
  delta PySem.W.Fast.tw5698263676984509272
  intro w os
  cases b <;> kernel_rfl
theorem q12b_85 (b : Bool) : Q12b boot_o_0 b 85 6 := by
  rw [PySem.W.Fast.te5698263676984509272]
  delta PySem.W.Fast.tw5698263676984509272
  intro w os
  cases b <;> kernel_rfl
theorem q12b_91 (b : Bool) : Q12b boot_o_0 b 91 4 := by
  rw [PySem.W.Fast.te5698263676984509272]
  delta PySem.W.Fast.tw5698263676984509272
  intro w os
  cases b <;> kernel_rfl
theorem q12c (b : Bool) : Q12c boot_o_0 b := by
  rw [PySem.W.Fast.te11064998193339191966]
  delta PySem.W.Fast.tw11064998193339191966
  intro w os
  cases b <;> kernel_rfl
theorem q13 (b : Bool) : Q13 boot_o_0 b := by
  rw [PySem.W.Fast.te5524051373406833623]
  delta PySem.W.Fast.tw5524051373406833623
  intro w os
  cases b <;> kernel_rfl
theorem q17 : Q17 boot_o_0 := by
  rw [PySem.W.Fast.te11197905385046108745]
  delta PySem.W.Fast.tw11197905385046108745
  intro w os
  kernel_rfl
theorem q26 : Q26 boot_o_0 := by
  rw [PySem.W.Fast.te11854353316918103503]
  delta PySem.W.Fast.tw11854353316918103503
  intro w os
  kernel_rfl
theorem qfin : Qfin boot_o_0 := by
  rw [PySem.W.Fast.te16054225470136488731]
  delta PySem.W.Fast.tw16054225470136488731
  intro w os
  kernel_rfl
end
section
noncomputable section
open PySem PySem.W PyProof.Rows
theorem W2_self (w : World) : W2 w (w.params.followText "special-get-raises") = w := World.withFollow_self w _
theorem W1_self (w : World) : W1 w (w.params.followText "comprehension-iter-twice") (w.params.followText "special-get-raises") = w := by
  unfold W1
  rw [W2_self]
  exact World.withFollow_self w _
abbrev F2 (w : World) : Bool := w.params.followText "special-get-raises"
abbrev Sg (w : World) (n : Nat) (s : SharedT) (t : Thread) (s' : SharedT) (p : Pos) : Prop := segRun treeTable PySem.Challenge.pw_ku0006_01 w 11 annH 1 n s.abs t = some (.next, s'.abs, cH, p)
theorem R_of {w : World} {n : Nat} {s s' : SharedT} {t : Thread} {p : Pos} (h : rn w n s t = some (.next, s', cH, p)) : Sg w n s t s' p := segRun_of h
theorem R_go {w : World} {n N : Nat} {s s₁ s' : SharedT} {t t₁ : Thread} {p : Pos} (h : go w n s t = some (s₁, t₁)) (k : Sg w N s₁ t₁ s' p) : Sg w (n + N) s t s' p := seg_go (segGo_of h) k
theorem g1b {w : World} {os : OsState} {k m : Nat} (h : ∀ b, Q1b boot_o_0 b k m) : go w (37 * m) (S1 boot_o_0 w os k) (th1 boot_o_0 w os) = some (S1 boot_o_0 w os (k + m), th1 boot_o_0 w os) := by
  have e := h (F2 w) w os
  rwa [W2_self] at e
theorem g10b {w : World} {os : OsState} {k m : Nat} (h : ∀ b, Q10b boot_o_0 b k m) : go w (45 * m) (S2 boot_o_0 w os k) (th2 boot_o_0 w os) = some (S2 boot_o_0 w os (k + m), th2 boot_o_0 w os) := by
  have e := h (F2 w) w os
  rwa [W2_self] at e
theorem g12b {w : World} {os : OsState} {k m : Nat} (h : ∀ b, Q12b boot_o_0 b k m) : go w (45 * m) (S3 boot_o_0 w os k) (th3 boot_o_0 w os) = some (S3 boot_o_0 w os (k + m), th3 boot_o_0 w os) := by
  have e := h (F2 w) w os
  rwa [W2_self] at e
theorem g1c {w : World} {os : OsState} {n : Nat} (h : ∀ b, Q1c boot_o_0 b n) : Sg w n (S1 boot_o_0 w os 256) (th1 boot_o_0 w os) (A1 boot_o_0 w os) ⟨2, 0, 2, 11⟩ := by
  have e := h (F2 w) w os
  rw [W2_self] at e
  with_reducible exact R_of e
theorem t1f (w : World) (os : OsState) : Sg w (37 * 5 + (37 * 5 + (37 * 5 + (37 * 5 + (37 * 5 + (37 * 5 + (37 * 5 + (37 * 5 + (37 * 5 + (37 * 5 + (37 * 5 + (37 * 5 + (37 * 5 + (37 * 5 + (37 * 5 + (37 * 5 + (37 * 5 + (37 * 5 + (37 * 5 + (37 * 5 + (37 * 5 + (37 * 5 + (37 * 5 + (37 * 5 + (37 * 5 + (37 * 5 + (37 * 5 + (37 * 5 + (37 * 5 + (37 * 5 + (37 * 5 + (37 * 5 + (37 * 5 + (37 * 5 + (37 * 5 + (37 * 5 + (37 * 5 + (37 * 5 + (37 * 5 + (37 * 5 + (37 * 5 + (37 * 5 + (37 * 5 + (37 * 5 + (37 * 5 + (37 * 5 + (37 * 5 + (37 * 5 + (37 * 5 + (37 * 5 + (37 * 5 + (29)))))))))))))))))))))))))))))))))))))))))))))))))))) (S1 boot_o_0 w os 1) (th1 boot_o_0 w os) (A1 boot_o_0 w os) ⟨2, 0, 2, 11⟩ := by
  with_reducible exact R_go (g1b q1b_1) (R_go (g1b q1b_6) (R_go (g1b q1b_11) (R_go (g1b q1b_16) (R_go (g1b q1b_21) (R_go (g1b q1b_26) (R_go (g1b q1b_31) (R_go (g1b q1b_36) (R_go (g1b q1b_41) (R_go (g1b q1b_46) (R_go (g1b q1b_51) (R_go (g1b q1b_56) (R_go (g1b q1b_61) (R_go (g1b q1b_66) (R_go (g1b q1b_71) (R_go (g1b q1b_76) (R_go (g1b q1b_81) (R_go (g1b q1b_86) (R_go (g1b q1b_91) (R_go (g1b q1b_96) (R_go (g1b q1b_101) (R_go (g1b q1b_106) (R_go (g1b q1b_111) (R_go (g1b q1b_116) (R_go (g1b q1b_121) (R_go (g1b q1b_126) (R_go (g1b q1b_131) (R_go (g1b q1b_136) (R_go (g1b q1b_141) (R_go (g1b q1b_146) (R_go (g1b q1b_151) (R_go (g1b q1b_156) (R_go (g1b q1b_161) (R_go (g1b q1b_166) (R_go (g1b q1b_171) (R_go (g1b q1b_176) (R_go (g1b q1b_181) (R_go (g1b q1b_186) (R_go (g1b q1b_191) (R_go (g1b q1b_196) (R_go (g1b q1b_201) (R_go (g1b q1b_206) (R_go (g1b q1b_211) (R_go (g1b q1b_216) (R_go (g1b q1b_221) (R_go (g1b q1b_226) (R_go (g1b q1b_231) (R_go (g1b q1b_236) (R_go (g1b q1b_241) (R_go (g1b q1b_246) (R_go (g1b q1b_251) (g1c q1c)))))))))))))))))))))))))))))))))))))))))))))))))))
theorem t1t (w : World) (os : OsState) : Sg w (37 * 5 + (37 * 5 + (37 * 5 + (37 * 5 + (37 * 5 + (37 * 5 + (37 * 5 + (37 * 5 + (37 * 5 + (37 * 5 + (37 * 5 + (37 * 5 + (37 * 5 + (37 * 5 + (37 * 5 + (37 * 5 + (37 * 5 + (37 * 5 + (37 * 5 + (37 * 5 + (37 * 5 + (37 * 5 + (37 * 5 + (37 * 5 + (37 * 5 + (37 * 5 + (37 * 5 + (37 * 5 + (37 * 5 + (37 * 5 + (37 * 5 + (37 * 5 + (37 * 5 + (37 * 5 + (37 * 5 + (37 * 5 + (37 * 5 + (37 * 5 + (37 * 5 + (37 * 5 + (37 * 5 + (37 * 5 + (37 * 5 + (37 * 5 + (37 * 5 + (37 * 5 + (37 * 5 + (37 * 5 + (37 * 5 + (37 * 5 + (37 * 5 + (39)))))))))))))))))))))))))))))))))))))))))))))))))))) (S1 boot_o_0 w os 1) (th1 boot_o_0 w os) (A1 boot_o_0 w os) ⟨2, 0, 2, 11⟩ := by
  with_reducible exact R_go (g1b q1b_1) (R_go (g1b q1b_6) (R_go (g1b q1b_11) (R_go (g1b q1b_16) (R_go (g1b q1b_21) (R_go (g1b q1b_26) (R_go (g1b q1b_31) (R_go (g1b q1b_36) (R_go (g1b q1b_41) (R_go (g1b q1b_46) (R_go (g1b q1b_51) (R_go (g1b q1b_56) (R_go (g1b q1b_61) (R_go (g1b q1b_66) (R_go (g1b q1b_71) (R_go (g1b q1b_76) (R_go (g1b q1b_81) (R_go (g1b q1b_86) (R_go (g1b q1b_91) (R_go (g1b q1b_96) (R_go (g1b q1b_101) (R_go (g1b q1b_106) (R_go (g1b q1b_111) (R_go (g1b q1b_116) (R_go (g1b q1b_121) (R_go (g1b q1b_126) (R_go (g1b q1b_131) (R_go (g1b q1b_136) (R_go (g1b q1b_141) (R_go (g1b q1b_146) (R_go (g1b q1b_151) (R_go (g1b q1b_156) (R_go (g1b q1b_161) (R_go (g1b q1b_166) (R_go (g1b q1b_171) (R_go (g1b q1b_176) (R_go (g1b q1b_181) (R_go (g1b q1b_186) (R_go (g1b q1b_191) (R_go (g1b q1b_196) (R_go (g1b q1b_201) (R_go (g1b q1b_206) (R_go (g1b q1b_211) (R_go (g1b q1b_216) (R_go (g1b q1b_221) (R_go (g1b q1b_226) (R_go (g1b q1b_231) (R_go (g1b q1b_236) (R_go (g1b q1b_241) (R_go (g1b q1b_246) (R_go (g1b q1b_251) (g1c q1d)))))))))))))))))))))))))))))))))))))))))))))))))))
theorem cast_n {w : World} {n n' : Nat} {s s' : SharedT} {t : Thread} {p : Pos} (h : Sg w n s t s' p) (e : n = n') : Sg w n' s t s' p := e ▸ h
theorem r1 (w : World) (os : OsState) : Sg w 9552 (A0 boot_o_0 w os) (thS 1 1 ⟨1, 0, 1, 2⟩) (A1 boot_o_0 w os) ⟨2, 0, 2, 11⟩ := by
  have e := q1a (w.params.followText "comprehension-iter-twice") (F2 w) w os
  rw [W1_self] at e
  cases hb : w.params.followText "comprehension-iter-twice" with
  | true => rw [hb, cond_true] at e; with_reducible exact cast_n (R_go (n := 78) e (t1t w os)) (by decide)
  | false => rw [hb, cond_false] at e; with_reducible exact cast_n (R_go (n := 88) e (t1f w os)) (by decide)
theorem l10 (w : World) (os : OsState) : Sg w 19 (S2 boot_o_0 w os 67) (th2 boot_o_0 w os) (A10 boot_o_0 w os) ⟨11, 9, 11, 74⟩ := by
  have e := q10c (F2 w) w os
  rw [W2_self] at e
  with_reducible exact R_of e
theorem l12 (w : World) (os : OsState) : Sg w 19 (S3 boot_o_0 w os 95) (th3 boot_o_0 w os) (A12 boot_o_0 w os) ⟨14, 9, 14, 110⟩ := by
  have e := q12c (F2 w) w os
  rw [W2_self] at e
  with_reducible exact R_of e
theorem t10 (w : World) (os : OsState) : Sg w (45 * 6 + (45 * 6 + (45 * 6 + (45 * 6 + (45 * 6 + (45 * 6 + (45 * 6 + (45 * 6 + (45 * 6 + (45 * 6 + (45 * 6 + (19)))))))))))) (S2 boot_o_0 w os 1) (th2 boot_o_0 w os) (A10 boot_o_0 w os) ⟨11, 9, 11, 74⟩ := by
  with_reducible exact R_go (g10b q10b_1) (R_go (g10b q10b_7) (R_go (g10b q10b_13) (R_go (g10b q10b_19) (R_go (g10b q10b_25) (R_go (g10b q10b_31) (R_go (g10b q10b_37) (R_go (g10b q10b_43) (R_go (g10b q10b_49) (R_go (g10b q10b_55) (R_go (g10b q10b_61) (l10 w os)))))))))))
theorem t12 (w : World) (os : OsState) : Sg w (45 * 6 + (45 * 6 + (45 * 6 + (45 * 6 + (45 * 6 + (45 * 6 + (45 * 6 + (45 * 6 + (45 * 6 + (45 * 6 + (45 * 6 + (45 * 6 + (45 * 6 + (45 * 6 + (45 * 6 + (45 * 4 + (19))))))))))))))))) (S3 boot_o_0 w os 1) (th3 boot_o_0 w os) (A12 boot_o_0 w os) ⟨14, 9, 14, 110⟩ := by
  with_reducible exact R_go (g12b q12b_1) (R_go (g12b q12b_7) (R_go (g12b q12b_13) (R_go (g12b q12b_19) (R_go (g12b q12b_25) (R_go (g12b q12b_31) (R_go (g12b q12b_37) (R_go (g12b q12b_43) (R_go (g12b q12b_49) (R_go (g12b q12b_55) (R_go (g12b q12b_61) (R_go (g12b q12b_67) (R_go (g12b q12b_73) (R_go (g12b q12b_79) (R_go (g12b q12b_85) (R_go (g12b q12b_91) (l12 w os))))))))))))))))
theorem r10 (w : World) (os : OsState) : Sg w 3077 (A9 boot_o_0 w os) (thS 10 1 ⟨10, 0, 10, 8⟩) (A10 boot_o_0 w os) ⟨11, 9, 11, 74⟩ := by
  have e := q10a (F2 w) w os
  rw [W2_self] at e
  with_reducible exact cast_n (R_go (n := 88) e (t10 w os)) (by decide)
theorem r12 (w : World) (os : OsState) : Sg w 4303 (A11 boot_o_0 w os) (thS 12 1 ⟨13, 0, 13, 28⟩) (A12 boot_o_0 w os) ⟨14, 9, 14, 110⟩ := by
  have e := q12a (F2 w) w os
  rw [W2_self] at e
  with_reducible exact cast_n (R_go (n := 54) e (t12 w os)) (by decide)
theorem r13 (w : World) (os : OsState) : Sg w 207 (A12 boot_o_0 w os) (thS 13 4 ⟨14, 9, 14, 110⟩) (A16 boot_o_0 w os) ⟨24, 9, 24, 16⟩ := by
  have e := q13 (F2 w) w os
  rw [W2_self] at e
  with_reducible exact R_of e
theorem cutH (i n : Nat) : (bodyH.drop i).take n ++ bodyH.drop (i + n) = bodyH.drop i := by
  rw [← List.drop_drop, List.take_append_drop]
/-- the rest of the top, from its i-th statement -/
def Tp (w : World) (os : OsState) (i N : Nat) (s : SharedT) (p : Pos) : Prop := topRun treeTable PySem.Challenge.pw_ku0006_01 w 11 annH N s.abs (restOf (bodyH.drop i) envH cH p B0) = some ⟨H1 boot_o_0 w.params, ⟨[]⟩, drawn0, 1866, os⟩
theorem T_app {w : World} {os : OsState} {i m n N : Nat} {s s' : SharedT} {p p' : Pos} (h : Sg w n s (thS i m p) s' p') (k : Tp w os (i + m) N s' p') : Tp w os i (n + N) s p := by
  unfold Tp at k ⊢
  rw [← cutH i m]
  exact piece_app h k
theorem dropAll : bodyH.drop 33 = [] := by kernel_rfl
theorem Tend (w : World) (os : OsState) : Tp w os 33 2 (A32 boot_o_0 w os) ⟨119, 0, 144, 39⟩ := by
  unfold Tp
  rw [dropAll]
  exact piece_nil (qfin w os)
theorem Tall (w : World) (os : OsState) : Tp w os 0 (10 + (9552 + (133 + (3077 + (25 + (4303 + (207 + (241 + (173 + 2))))))))) (Apre boot_o_0 w os) ⟨0, 0, 0, 0⟩ := by
  have e0 := q0
  have e2 := q2
  have e11 := q11
  have e17 := q17
  have e26 := q26
  unfold Q0 at e0
  unfold Q2 at e2
  unfold Q11 at e11
  unfold Q17 at e17
  unfold Q26 at e26
  with_reducible exact T_app (m := 1) (R_of (e0 w os)) (T_app (m := 1) (r1 w os) (T_app (m := 8) (R_of (e2 w os)) (T_app (m := 1) (r10 w os) (T_app (m := 1) (R_of (e11 w os)) (T_app (m := 1) (r12 w os) (T_app (m := 4) (r13 w os) (T_app (m := 9) (R_of (e17 w os)) (T_app (m := 7) (R_of (e26 w os)) (Tend w os)))))))))
theorem runH (w : World) (os : OsState) : topRun treeTable PySem.Challenge.pw_ku0006_01 w 11 annH (12 + (1 + (10 + (9552 + (133 + (3077 + (25 + (4303 + (207 + (241 + (173 + 2))))))))))) ⟨boot_heap w.params, ⟨[]⟩, boot_drawn, boot_toks, os⟩ (topStub PySem.Challenge.pw_ku0006_01) = some ⟨H1 boot_o_0 w.params, ⟨[]⟩, drawn0, 1866, os⟩ :=
  go_top (n := 12) (qpre w os) (piece_block (n := 1) (qblk w os) (Tall w os))
end
end
section
noncomputable section
open PySem PySem.W PyProof.Rows
noncomputable def fo37 : (o : Obj) ×' (o37 = o) := ⟨⟨.type "function", none, .func ⟨_, _, ⟨_, _, _, _, _, _, _⟩, .stmts [_], ⟨_, _, _, _, _⟩, _, _, _, _, _, _, _, _, _, _⟩, _⟩, by with_unfolding_all rfl⟩
noncomputable def fo45 : (o : Obj) ×' (o45 = o) := ⟨⟨.type "function", none, .func ⟨_, _, ⟨_, _, _, _, _, _, _⟩, .stmts [_, _, _], ⟨_, _, _, _, _⟩, _, _, _, _, _, _, _, _, _, _⟩, _⟩, by with_unfolding_all rfl⟩
noncomputable def fo58 : (o : Obj) ×' (o58 = o) := ⟨⟨.type "function", none, .func ⟨_, _, ⟨_, _, _, _, _, _, _⟩, .stmts [_, _, _, _, _], ⟨_, _, _, _, _⟩, _, _, _, _, _, _, _, _, _, _⟩, _⟩, by with_unfolding_all rfl⟩
noncomputable def fo65 : (o : Obj) ×' (o65 = o) := ⟨⟨.type "function", none, .func ⟨_, _, ⟨_, _, _, _, _, _, _⟩, .stmts [_], ⟨_, _, _, _, _⟩, _, _, _, _, _, _, _, _, _, _⟩, _⟩, by with_unfolding_all rfl⟩
noncomputable def fo72 : (o : Obj) ×' (o72 = o) := ⟨⟨.type "function", none, .func ⟨_, _, ⟨_, _, _, _, _, _, _⟩, .stmts [_], ⟨_, _, _, _, _⟩, _, _, _, _, _, _, _, _, _, _⟩, _⟩, by with_unfolding_all rfl⟩
noncomputable def fo79 : (o : Obj) ×' (o79 = o) := ⟨⟨.type "function", none, .func ⟨_, _, ⟨_, _, _, _, _, _, _⟩, .stmts [_], ⟨_, _, _, _, _⟩, _, _, _, _, _, _, _, _, _, _⟩, _⟩, by with_unfolding_all rfl⟩
noncomputable def fo86 : (o : Obj) ×' (o86 = o) := ⟨⟨.type "function", none, .func ⟨_, _, ⟨_, _, _, _, _, _, _⟩, .stmts [_], ⟨_, _, _, _, _⟩, _, _, _, _, _, _, _, _, _, _⟩, _⟩, by with_unfolding_all rfl⟩
noncomputable def fo93 : (o : Obj) ×' (o93 = o) := ⟨⟨.type "function", none, .func ⟨_, _, ⟨_, _, _, _, _, _, _⟩, .stmts [_, _, _], ⟨_, _, _, _, _⟩, _, _, _, _, _, _, _, _, _, _⟩, _⟩, by with_unfolding_all rfl⟩
noncomputable def fo101 : (o : Obj) ×' (o101 = o) := ⟨⟨.type "function", none, .func ⟨_, _, ⟨_, _, _, _, _, _, _⟩, .stmts [_, _, _, _, _, _, _, _], ⟨_, _, _, _, _⟩, _, _, _, _, _, _, _, _, _, _⟩, _⟩, by with_unfolding_all rfl⟩
noncomputable def fo108 : (o : Obj) ×' (o108 = o) := ⟨⟨.type "function", none, .func ⟨_, _, ⟨_, _, _, _, _, _, _⟩, .stmts [_], ⟨_, _, _, _, _⟩, _, _, _, _, _, _, _, _, _, _⟩, _⟩, by with_unfolding_all rfl⟩
noncomputable def fo115 : (o : Obj) ×' (o115 = o) := ⟨⟨.type "function", none, .func ⟨_, _, ⟨_, _, _, _, _, _, _⟩, .stmts [_, _, _], ⟨_, _, _, _, _⟩, _, _, _, _, _, _, _, _, _, _⟩, _⟩, by with_unfolding_all rfl⟩
noncomputable def fo120 : (o : Obj) ×' (o120 = o) := ⟨⟨.type "function", none, .func ⟨_, _, ⟨_, _, _, _, _, _, _⟩, .stmts [_, _, _, _], ⟨_, _, _, _, _⟩, _, _, _, _, _, _, _, _, _, _⟩, _⟩, by with_unfolding_all rfl⟩
noncomputable def fo125 : (o : Obj) ×' (o125 = o) := ⟨⟨.type "function", none, .func ⟨_, _, ⟨_, _, _, _, _, _, _⟩, .stmts [_, _, _, _], ⟨_, _, _, _, _⟩, _, _, _, _, _, _, _, _, _, _⟩, _⟩, by with_unfolding_all rfl⟩
noncomputable def fo130 : (o : Obj) ×' (o130 = o) := ⟨⟨.type "function", none, .func ⟨_, _, ⟨_, _, _, _, _, _, _⟩, .stmts [_, _], ⟨_, _, _, _, _⟩, _, _, _, _, _, _, _, _, _, _⟩, _⟩, by with_unfolding_all rfl⟩
noncomputable def fo135 : (o : Obj) ×' (o135 = o) := ⟨⟨.type "function", none, .func ⟨_, _, ⟨_, _, _, _, _, _, _⟩, .stmts [_, _, _, _, _, _, _, _, _, _, _, _, _, _, _, _], ⟨_, _, _, _, _⟩, _, _, _, _, _, _, _, _, _, _⟩, _⟩, by with_unfolding_all rfl⟩
noncomputable def hd.heap_39 (P : Params) : Frag := [(2, boot_o_2 P), (3, o3v31 P), (22, lst22f), (36, o36), (37, fo37.1), (38, o38), (44, o44), (45, fo45.1), (51, o51), (57, o57), (58, fo58.1), (64, o64), (65, fo65.1), (71, o71), (72, fo72.1), (78, o78), (79, fo79.1), (85, o85), (86, fo86.1), (92, o92), (93, fo93.1), (94, o94), (100, o100), (101, fo101.1), (107, o107), (108, fo108.1), (114, o114), (115, fo115.1), (119, o119), (120, fo120.1), (124, o124), (125, fo125.1), (129, o129), (130, fo130.1), (134, o134), (135, fo135.1)]
noncomputable def asH : List Addr := [2, 3, 22, 36, 37, 38, 44, 45, 51, 57, 58, 64, 65, 71, 72, 78, 79, 85, 86, 92, 93, 94, 100, 101, 107, 108, 114, 115, 119, 120, 124, 125, 129, 130, 134, 135]
theorem as_eq (P : Params) : asH = (hd.heap_39 P).map (·.1) := by kernel_rfl
abbrev hookH : Hook := kHook hd.heap_39 asH as_eq
noncomputable def qH : Program := { PySem.Challenge.pw_ku0006_01 with main := { PySem.Challenge.pw_ku0006_01.main with body := bodyH.drop 32 } }
noncomputable def looseH : List Str := [Str.ofString "NL", Str.ofString "_QUOPRI_MAP", Str.ofString "_QUOPRI_HEADER_MAP", Str.ofString "_QUOPRI_BODY_MAP", Str.ofString "ascii_lowercase", Str.ofString "ascii_uppercase", Str.ofString "ascii_letters", Str.ofString "digits", Str.ofString "hexdigits", Str.ofString "unquote", Str.ofString "header_encode", Str.ofString "_QUOPRI_BODY_ENCODE_MAP", Str.ofString "decode", Str.ofString "add", Str.ofString "floordiv", Str.ofString "mul", Str.ofString "sub", Str.ofString "countOf", Str.ofString "length_hint", Str.ofString "_law_safe", Str.ofString "_law_sign", Str.ofString "_law_told", Str.ofString "_law_size", Str.ofString "_law_written"]
noncomputable def sH (z : Params → Obj) (w : World) (os : OsState) : Shared := ⟨H1 z w.params, ⟨[]⟩, drawn0, 1866, os⟩
noncomputable def Qsize (Hb : Params → Heap) : Prop := ∀ w : World, ((Hb w.params).isNs mainGlobals && (⟨[]⟩ : Array GenState).size == 0, (Hb w.params).objs.size, (Hb w.params).nsMap mainGlobals "__annotations__") = (true, 11, annH)
noncomputable def Ql1 (z : Params → Obj) (Hb : Params → Heap) : Prop := ∀ (w : World) (os : OsState), (staticsOk (importedModules PySem.Challenge.pw_ku0006_01.main.body) (Hb w.params) (H1 z w.params) && namesBound PySem.Challenge.pw_ku0006_01 (H1 z w.params) && gensDone (sH z w os) && laidKept (Hb w.params) (H1 z w.params)) = true
noncomputable def Ql2 (z : Params → Obj) : Prop := ∀ (w : World) (os : OsState), openSeen qH looseH (importedModules PySem.Challenge.pw_ku0006_01.main.body) (fun s => xlAt qH [] s) true (sH z w os) = openGood qH looseH
theorem looks3 (w : World) (os : OsState) : hookH.obs (sH boot_o_0 w os) = hookH.val w := by kernel_rfl
noncomputable def Qopen (Hb : Params → Heap) : Prop := ∀ w : World, importEnds treeTable (opening PySem.Challenge.pw_ku0006_01) w 600 (start (opening PySem.Challenge.pw_ku0006_01)).1 (start (opening PySem.Challenge.pw_ku0006_01)).2 = some ⟨Hb w.params, ⟨[]⟩, boot_drawn, boot_toks, (start (opening PySem.Challenge.pw_ku0006_01)).1.os⟩
noncomputable def Qfence (Hb : Params → Heap) : Prop := ∀ (w : World) (os : OsState), (fenceModules? PySem.Challenge.pw_ku0006_01 ⟨Hb w.params, ⟨[]⟩, boot_drawn, boot_toks, os⟩).map (fun s => (s.heap, s.gens, s.drawn, s.toks)) = some (Hb w.params, ⟨[]⟩, boot_drawn, boot_toks)
lay_quick Qsize Ql1 Ql2 Qopen Qfence
end
end
section
open PySem PySem.W PyProof.Rows
theorem qsize : Qsize boot_heap := by
  rw [PySem.W.Fast.te9776681693153195466]
  delta PySem.W.Fast.tw9776681693153195466
  intro w
  kernel_rfl
theorem ql1 : Ql1 boot_o_0 boot_heap := by
  rw [PySem.W.Fast.te5938181130102043728]
  delta PySem.W.Fast.tw5938181130102043728
  intro w os
  kernel_rfl
theorem ql2 : Ql2 boot_o_0 := by
  rw [PySem.W.Fast.te4088957016327828771]
  delta PySem.W.Fast.tw4088957016327828771
  intro w os
  kernel_rfl
theorem qopen : Qopen boot_heap := by
  rw [PySem.W.Fast.te16135703034958203809]
  delta PySem.W.Fast.tw16135703034958203809
  intro w
  kernel_rfl
theorem qfence : Qfence boot_heap := by
  rw [PySem.W.Fast.te3260851140299219450]
  delta PySem.W.Fast.tw3260851140299219450
  intro w os
  kernel_rfl
end
section
noncomputable section
open PySem PySem.W PyProof.Rows
theorem openH : ∀ w : World, (fencedOpening treeTable PySem.Challenge.pw_ku0006_01 w 40000).map (fun s => (s.heap, s.gens, s.drawn, s.toks)) = some (boot_heap w.params, ⟨[]⟩, boot_drawn, boot_toks) :=
  open_cut qopen (by decide) fun w => funext fun os => qfence w os
theorem leftH : LeftO PySem.Challenge.pw_ku0006_01 qH looseH (fun s => xlAt qH [] s) hookH.obs hookH.val 40000 true := by
  refine LeftO.of_pieces (H₀ := boot_heap) (H₁ := H1 boot_o_0) (gs₀ := ⟨[]⟩) (gs₁ := ⟨[]⟩) (d₀ := boot_drawn) (d₁ := drawn0) (k₀ := boot_toks) (k₁ := 1866) (m₀ := 11) (ann := annH) openH qsize runH (by decide) fun w => funext fun os => ?_
  exact looks_pair (ql1 w os) (looks_pair (ql2 w os) (looks3 w os))
end
end
open PySem PySem.W PyProof.Rows PySem.Calls
abbrev Ext (h h' : Heap) : Prop := ∀ b o, h.get? b = some o → h'.get? b = some o

/-- what stands since the top -/
structure Wd (w : World) (h : Heap) : Prop where
  X : (hd.heap_39 w.params).In h
  T : ∃ p loose mg mb, TopRead p loose mg mb h
theorem Wd.keeps {w : World} {h h' : Heap} (W : Wd w h) (k : Ext h h') : Wd w h' :=
  ⟨W.X.keeps k, let ⟨p, l, mg, mb, T⟩ := W.T; ⟨p, l, mg, mb, T.keeps k⟩⟩
theorem Wd.lim {w : World} {h : Heap} (W : Wd w h) : h.NoLimit := let ⟨_, _, _, _, T⟩ := W.T; T.nolimit
theorem Wd.nb {w : World} {h : Heap} (W : Wd w h) : NoneBooked h :=
  ⟨fun _ => none, ⟨{ cls := .none, data := .dict #[] }, #[], 0, W.X _ _ (by with_unfolding_all rfl), rfl, (by intro e he; simp at he), fun _ => rfl⟩, rfl⟩

/-- room for frames and units; nothing is being handled -/
structure Rm (A : Around) (d u : Nat) : Prop where
  hh : A.handled = none
  dp : A.depth + d < recursionLimit
  un : A.units + u < cLine
theorem Rm.deeper {A : Around} {d u : Nat} (R : Rm A (d + 1) (u + 3)) (env : Env) : Rm (A.deeper env) d u :=
  ⟨R.hh, by have := R.dp; show A.depth + 1 + d < recursionLimit; omega, by have := R.un; show A.units + 3 + u < cLine; omega⟩
theorem Rm.mono {A : Around} {d u d' u' : Nat} (R : Rm A d u) (hd : d' ≤ d := by decide) (hu : u' ≤ u := by decide) : Rm A d' u' :=
  ⟨R.hh, by have := R.dp; omega, by have := R.un; omega⟩
theorem Rm.room {A : Around} {d u : Nat} (R : Rm A d u) : A.depth < recursionLimit := by have := R.dp; omega

section
variable {prog : Program} {w : World} {A : Around} {E : Value → Shared → Prop} {s : Shared} {env : Env}

theorem nmK {x : PySem.Str} {pos : Pos} {v : Value} {Q : Value → Shared → Prop} (W : Wd w s.heap) (hx : env.kindOf x = some .globalImplicit) (e : nsIn (hd.heap_39 w.params) mainGlobals x = some (some v)) (h : Q v s)
    (hk : env.scope.kind = .function) (hg : env.globals = mainGlobals) (hd : (x == ("__debug__" : PySem.Str)) = false) :
    wpAny (model prog w) A (eval (.Name x pos) env) Q E s := by
  obtain ⟨p, l, mg, mb, T⟩ := W.T
  obtain ⟨sc, lo, gl, ce, qu, fu, co, fr, bu⟩ := env
  dsimp only at hg
  subst hg
  exact Name_function_global hk hx (loadGlobal_global T.g (mg_of W.X T.g e) h) hd
theorem nmB {x : PySem.Str} {pos : Pos} {v : Value} {Q : Value → Shared → Prop} (W : Wd w s.heap) (hx : env.kindOf x = some .globalImplicit) (e : nsIn (hd.heap_39 w.params) mainGlobals x = some none) (hv : bootBuiltins x = some v) (hn : x ≠ "__name__") (h : Q v s)
    (hk : env.scope.kind = .function) (hg : env.globals = mainGlobals) (hb : env.builtins = builtinsNs) (hd : (x == ("__debug__" : PySem.Str)) = false) :
    wpAny (model prog w) A (eval (.Name x pos) env) Q E s := by
  obtain ⟨p, l, mg, mb, T⟩ := W.T
  obtain ⟨sc, lo, gl, ce, qu, fu, co, fr, bu⟩ := env
  dsimp only at hg hb
  subst hg
  subst hb
  exact Name_function_global hk hx (loadGlobal_builtin T.g (mg_none_of W.X T.g e) T.b ((T.builtins x hn).trans hv) h) hd
theorem nmL {x : PySem.Str} {pos : Pos} {v : Value} {L : Addr} {m : PySem.Str → Option Value} {Q : Value → Shared → Prop} (hn : s.heap.Ns L m) (hx : env.kindOf x = some .local) (hv : m x = some v) (h : Q v s)
    (hk : env.scope.kind = .function) (hL : env.locals = L) (hd : (x == ("__debug__" : PySem.Str)) = false) :
    wpAny (model prog w) A (eval (.Name x pos) env) Q E s := by
  subst hL
  exact wpAny_Name (wpAny_loadName_local hk hx hn hv h) hd

/-- a def of the text's own is entered -/
theorem enter {f : Addr} {args : List Value} {name qual : PySem.Str} {params : Arguments} {body : List Stmt} {scope : Scope} {dV kV doc pm cdv ct oc : Value} {an od : Option Addr} {osl : Array (Option Value)}
    {binds : List (PySem.Str × Value)} {Q : Value → Shared → Prop} {d u : Nat}
    (W : Wd w s.heap) (R : Rm A (d + 1) (u + 3))
    (ho : (hd.heap_39 w.params).lookup f = some ⟨oc, od, .func (fnOf name qual params body scope dV kV doc pm an cdv ct), osl⟩) (hcd : codeIn (hd.heap_39 w.params) cdv qual = true)
    (hbind : BindsTo s (fnOf name qual params body scope dV kV doc pm an cdv ct) ⟨args, []⟩ binds) (hloc : ∀ y ∈ binds, scope.names.lookup y.1 = some .local)
    (hco : scope.isCoroutine = false) (hgen : scope.isGenerator = false) (hk : scope.kind = .function) (hcell : ∀ x ∈ scope.names, x.2 ≠ .cell)
    (h : ∀ h₁ tk, Fr s.heap s.heap.objs.size h₁ (fun y => binds.reverse.lookup y) → Wd w h₁ → Rm (A.deeper (envOf qual scope s.heap.objs.size f cdv)) d u → s.toks ≤ tk →
      wpAny (model prog w) (A.deeper (envOf qual scope s.heap.objs.size f cdv)) (execs body (envOf qual scope s.heap.objs.size f cdv))
        (fun fl s' => Q (match fl with | .ret v => v | _ => .none) s') (fun _ _ => False) { s with heap := h₁, toks := tk }) :
    wpAny (model prog w) A (call (.ref f) args) Q E s := by
  refine wpAny_call (codeAny_call_def (fd := fnOf name qual params body scope dV kV doc pm an cdv ct) (body := body) (binds := binds) R.room (W.X _ _ ho) rfl W.lim (codeRec_of W.X hcd) rfl hbind hcell hloc (fun h₁ hns hk₁ => ?_) hco hgen hk)
  exact wpAny_mono (h h₁ _ ⟨hns, hk₁, Nat.le_refl _⟩ (W.keeps hk₁) (R.deeper _) (Nat.le_add_right _ _)) (fun _ _ x => x) fun _ _ x => x.elim
end
section
variable {prog : Program} {w : World} {A : Around} {E : Value → Shared → Prop} {s : Shared} {env : Env}
theorem g_unquote (P : Params) : nsIn (hd.heap_39 P) mainGlobals (PySem.Str.ofString "unquote") = some (some (.ref 37)) := by kernel_rfl
theorem n_unquote {pos : Pos} {Q : Value → Shared → Prop} (W : Wd w s.heap) (h : Q (.ref 37) s) (hx : env.kindOf (PySem.Str.ofString "unquote") = some .globalImplicit) (hk : env.scope.kind = .function) (hg : env.globals = mainGlobals) :
    wpAny (model prog w) A (eval (.Name (PySem.Str.ofString "unquote") pos) env) Q E s := nmK W hx (g_unquote _) h hk hg (by decide)
theorem g_header_encode (P : Params) : nsIn (hd.heap_39 P) mainGlobals (PySem.Str.ofString "header_encode") = some (some (.ref 45)) := by kernel_rfl
theorem n_header_encode {pos : Pos} {Q : Value → Shared → Prop} (W : Wd w s.heap) (h : Q (.ref 45) s) (hx : env.kindOf (PySem.Str.ofString "header_encode") = some .globalImplicit) (hk : env.scope.kind = .function) (hg : env.globals = mainGlobals) :
    wpAny (model prog w) A (eval (.Name (PySem.Str.ofString "header_encode") pos) env) Q E s := nmK W hx (g_header_encode _) h hk hg (by decide)
theorem g_decode (P : Params) : nsIn (hd.heap_39 P) mainGlobals (PySem.Str.ofString "decode") = some (some (.ref 58)) := by kernel_rfl
theorem n_decode {pos : Pos} {Q : Value → Shared → Prop} (W : Wd w s.heap) (h : Q (.ref 58) s) (hx : env.kindOf (PySem.Str.ofString "decode") = some .globalImplicit) (hk : env.scope.kind = .function) (hg : env.globals = mainGlobals) :
    wpAny (model prog w) A (eval (.Name (PySem.Str.ofString "decode") pos) env) Q E s := nmK W hx (g_decode _) h hk hg (by decide)
theorem g_add (P : Params) : nsIn (hd.heap_39 P) mainGlobals (PySem.Str.ofString "add") = some (some (.ref 65)) := by kernel_rfl
theorem n_add {pos : Pos} {Q : Value → Shared → Prop} (W : Wd w s.heap) (h : Q (.ref 65) s) (hx : env.kindOf (PySem.Str.ofString "add") = some .globalImplicit) (hk : env.scope.kind = .function) (hg : env.globals = mainGlobals) :
    wpAny (model prog w) A (eval (.Name (PySem.Str.ofString "add") pos) env) Q E s := nmK W hx (g_add _) h hk hg (by decide)
theorem g_floordiv (P : Params) : nsIn (hd.heap_39 P) mainGlobals (PySem.Str.ofString "floordiv") = some (some (.ref 72)) := by kernel_rfl
theorem n_floordiv {pos : Pos} {Q : Value → Shared → Prop} (W : Wd w s.heap) (h : Q (.ref 72) s) (hx : env.kindOf (PySem.Str.ofString "floordiv") = some .globalImplicit) (hk : env.scope.kind = .function) (hg : env.globals = mainGlobals) :
    wpAny (model prog w) A (eval (.Name (PySem.Str.ofString "floordiv") pos) env) Q E s := nmK W hx (g_floordiv _) h hk hg (by decide)
theorem g_mul (P : Params) : nsIn (hd.heap_39 P) mainGlobals (PySem.Str.ofString "mul") = some (some (.ref 79)) := by kernel_rfl
theorem n_mul {pos : Pos} {Q : Value → Shared → Prop} (W : Wd w s.heap) (h : Q (.ref 79) s) (hx : env.kindOf (PySem.Str.ofString "mul") = some .globalImplicit) (hk : env.scope.kind = .function) (hg : env.globals = mainGlobals) :
    wpAny (model prog w) A (eval (.Name (PySem.Str.ofString "mul") pos) env) Q E s := nmK W hx (g_mul _) h hk hg (by decide)
theorem g_sub (P : Params) : nsIn (hd.heap_39 P) mainGlobals (PySem.Str.ofString "sub") = some (some (.ref 86)) := by kernel_rfl
theorem n_sub {pos : Pos} {Q : Value → Shared → Prop} (W : Wd w s.heap) (h : Q (.ref 86) s) (hx : env.kindOf (PySem.Str.ofString "sub") = some .globalImplicit) (hk : env.scope.kind = .function) (hg : env.globals = mainGlobals) :
    wpAny (model prog w) A (eval (.Name (PySem.Str.ofString "sub") pos) env) Q E s := nmK W hx (g_sub _) h hk hg (by decide)
theorem g_countOf (P : Params) : nsIn (hd.heap_39 P) mainGlobals (PySem.Str.ofString "countOf") = some (some (.ref 93)) := by kernel_rfl
theorem n_countOf {pos : Pos} {Q : Value → Shared → Prop} (W : Wd w s.heap) (h : Q (.ref 93) s) (hx : env.kindOf (PySem.Str.ofString "countOf") = some .globalImplicit) (hk : env.scope.kind = .function) (hg : env.globals = mainGlobals) :
    wpAny (model prog w) A (eval (.Name (PySem.Str.ofString "countOf") pos) env) Q E s := nmK W hx (g_countOf _) h hk hg (by decide)
theorem g_length_hint (P : Params) : nsIn (hd.heap_39 P) mainGlobals (PySem.Str.ofString "length_hint") = some (some (.ref 101)) := by kernel_rfl
theorem n_length_hint {pos : Pos} {Q : Value → Shared → Prop} (W : Wd w s.heap) (h : Q (.ref 101) s) (hx : env.kindOf (PySem.Str.ofString "length_hint") = some .globalImplicit) (hk : env.scope.kind = .function) (hg : env.globals = mainGlobals) :
    wpAny (model prog w) A (eval (.Name (PySem.Str.ofString "length_hint") pos) env) Q E s := nmK W hx (g_length_hint _) h hk hg (by decide)
theorem g_law_safe (P : Params) : nsIn (hd.heap_39 P) mainGlobals (PySem.Str.ofString "_law_safe") = some (some (.ref 108)) := by kernel_rfl
theorem n_law_safe {pos : Pos} {Q : Value → Shared → Prop} (W : Wd w s.heap) (h : Q (.ref 108) s) (hx : env.kindOf (PySem.Str.ofString "_law_safe") = some .globalImplicit) (hk : env.scope.kind = .function) (hg : env.globals = mainGlobals) :
    wpAny (model prog w) A (eval (.Name (PySem.Str.ofString "_law_safe") pos) env) Q E s := nmK W hx (g_law_safe _) h hk hg (by decide)
theorem g_law_sign (P : Params) : nsIn (hd.heap_39 P) mainGlobals (PySem.Str.ofString "_law_sign") = some (some (.ref 115)) := by kernel_rfl
theorem n_law_sign {pos : Pos} {Q : Value → Shared → Prop} (W : Wd w s.heap) (h : Q (.ref 115) s) (hx : env.kindOf (PySem.Str.ofString "_law_sign") = some .globalImplicit) (hk : env.scope.kind = .function) (hg : env.globals = mainGlobals) :
    wpAny (model prog w) A (eval (.Name (PySem.Str.ofString "_law_sign") pos) env) Q E s := nmK W hx (g_law_sign _) h hk hg (by decide)
theorem g_law_told (P : Params) : nsIn (hd.heap_39 P) mainGlobals (PySem.Str.ofString "_law_told") = some (some (.ref 120)) := by kernel_rfl
theorem n_law_told {pos : Pos} {Q : Value → Shared → Prop} (W : Wd w s.heap) (h : Q (.ref 120) s) (hx : env.kindOf (PySem.Str.ofString "_law_told") = some .globalImplicit) (hk : env.scope.kind = .function) (hg : env.globals = mainGlobals) :
    wpAny (model prog w) A (eval (.Name (PySem.Str.ofString "_law_told") pos) env) Q E s := nmK W hx (g_law_told _) h hk hg (by decide)
theorem g_law_size (P : Params) : nsIn (hd.heap_39 P) mainGlobals (PySem.Str.ofString "_law_size") = some (some (.ref 125)) := by kernel_rfl
theorem n_law_size {pos : Pos} {Q : Value → Shared → Prop} (W : Wd w s.heap) (h : Q (.ref 125) s) (hx : env.kindOf (PySem.Str.ofString "_law_size") = some .globalImplicit) (hk : env.scope.kind = .function) (hg : env.globals = mainGlobals) :
    wpAny (model prog w) A (eval (.Name (PySem.Str.ofString "_law_size") pos) env) Q E s := nmK W hx (g_law_size _) h hk hg (by decide)
theorem g_law_written (P : Params) : nsIn (hd.heap_39 P) mainGlobals (PySem.Str.ofString "_law_written") = some (some (.ref 130)) := by kernel_rfl
theorem n_law_written {pos : Pos} {Q : Value → Shared → Prop} (W : Wd w s.heap) (h : Q (.ref 130) s) (hx : env.kindOf (PySem.Str.ofString "_law_written") = some .globalImplicit) (hk : env.scope.kind = .function) (hg : env.globals = mainGlobals) :
    wpAny (model prog w) A (eval (.Name (PySem.Str.ofString "_law_written") pos) env) Q E s := nmK W hx (g_law_written _) h hk hg (by decide)
theorem g_QUOPRI_HEADER_MAP (P : Params) : nsIn (hd.heap_39 P) mainGlobals (PySem.Str.ofString "_QUOPRI_HEADER_MAP") = some (some (.ref 22)) := by kernel_rfl
theorem n_QUOPRI_HEADER_MAP {pos : Pos} {Q : Value → Shared → Prop} (W : Wd w s.heap) (h : Q (.ref 22) s) (hx : env.kindOf (PySem.Str.ofString "_QUOPRI_HEADER_MAP") = some .globalImplicit) (hk : env.scope.kind = .function) (hg : env.globals = mainGlobals) :
    wpAny (model prog w) A (eval (.Name (PySem.Str.ofString "_QUOPRI_HEADER_MAP") pos) env) Q E s := nmK W hx (g_QUOPRI_HEADER_MAP _) h hk hg (by decide)
theorem g_ord (P : Params) : nsIn (hd.heap_39 P) mainGlobals (PySem.Str.ofString "ord") = some none := by kernel_rfl
theorem b_ord : bootBuiltins (PySem.Str.ofString "ord") = some (.builtin "ord") := by decide +kernel
theorem n_ord {pos : Pos} {Q : Value → Shared → Prop} (W : Wd w s.heap) (h : Q (.builtin "ord") s) (hx : env.kindOf (PySem.Str.ofString "ord") = some .globalImplicit) (hk : env.scope.kind = .function) (hg : env.globals = mainGlobals) (hb : env.builtins = builtinsNs) :
    wpAny (model prog w) A (eval (.Name (PySem.Str.ofString "ord") pos) env) Q E s := nmB W hx (g_ord _) b_ord (by decide) h hk hg hb (by decide)
theorem g_chr (P : Params) : nsIn (hd.heap_39 P) mainGlobals (PySem.Str.ofString "chr") = some none := by kernel_rfl
theorem b_chr : bootBuiltins (PySem.Str.ofString "chr") = some (.builtin "chr") := by decide +kernel
theorem n_chr {pos : Pos} {Q : Value → Shared → Prop} (W : Wd w s.heap) (h : Q (.builtin "chr") s) (hx : env.kindOf (PySem.Str.ofString "chr") = some .globalImplicit) (hk : env.scope.kind = .function) (hg : env.globals = mainGlobals) (hb : env.builtins = builtinsNs) :
    wpAny (model prog w) A (eval (.Name (PySem.Str.ofString "chr") pos) env) Q E s := nmB W hx (g_chr _) b_chr (by decide) h hk hg hb (by decide)
theorem g_int (P : Params) : nsIn (hd.heap_39 P) mainGlobals (PySem.Str.ofString "int") = some none := by kernel_rfl
theorem b_int : bootBuiltins (PySem.Str.ofString "int") = some (.type "int") := by decide +kernel
theorem n_int {pos : Pos} {Q : Value → Shared → Prop} (W : Wd w s.heap) (h : Q (.type "int") s) (hx : env.kindOf (PySem.Str.ofString "int") = some .globalImplicit) (hk : env.scope.kind = .function) (hg : env.globals = mainGlobals) (hb : env.builtins = builtinsNs) :
    wpAny (model prog w) A (eval (.Name (PySem.Str.ofString "int") pos) env) Q E s := nmB W hx (g_int _) b_int (by decide) h hk hg hb (by decide)
theorem g_len (P : Params) : nsIn (hd.heap_39 P) mainGlobals (PySem.Str.ofString "len") = some none := by kernel_rfl
theorem b_len : bootBuiltins (PySem.Str.ofString "len") = some (.builtin "len") := by decide +kernel
theorem n_len {pos : Pos} {Q : Value → Shared → Prop} (W : Wd w s.heap) (h : Q (.builtin "len") s) (hx : env.kindOf (PySem.Str.ofString "len") = some .globalImplicit) (hk : env.scope.kind = .function) (hg : env.globals = mainGlobals) (hb : env.builtins = builtinsNs) :
    wpAny (model prog w) A (eval (.Name (PySem.Str.ofString "len") pos) env) Q E s := nmB W hx (g_len _) b_len (by decide) h hk hg hb (by decide)
theorem g_range (P : Params) : nsIn (hd.heap_39 P) mainGlobals (PySem.Str.ofString "range") = some none := by kernel_rfl
theorem b_range : bootBuiltins (PySem.Str.ofString "range") = some (.type "range") := by decide +kernel
theorem n_range {pos : Pos} {Q : Value → Shared → Prop} (W : Wd w s.heap) (h : Q (.type "range") s) (hx : env.kindOf (PySem.Str.ofString "range") = some .globalImplicit) (hk : env.scope.kind = .function) (hg : env.globals = mainGlobals) (hb : env.builtins = builtinsNs) :
    wpAny (model prog w) A (eval (.Name (PySem.Str.ofString "range") pos) env) Q E s := nmB W hx (g_range _) b_range (by decide) h hk hg hb (by decide)
theorem g_sum (P : Params) : nsIn (hd.heap_39 P) mainGlobals (PySem.Str.ofString "sum") = some none := by kernel_rfl
theorem b_sum : bootBuiltins (PySem.Str.ofString "sum") = some (.builtin "sum") := by decide +kernel
theorem n_sum {pos : Pos} {Q : Value → Shared → Prop} (W : Wd w s.heap) (h : Q (.builtin "sum") s) (hx : env.kindOf (PySem.Str.ofString "sum") = some .globalImplicit) (hk : env.scope.kind = .function) (hg : env.globals = mainGlobals) (hb : env.builtins = builtinsNs) :
    wpAny (model prog w) A (eval (.Name (PySem.Str.ofString "sum") pos) env) Q E s := nmB W hx (g_sum _) b_sum (by decide) h hk hg hb (by decide)
theorem g_enumerate (P : Params) : nsIn (hd.heap_39 P) mainGlobals (PySem.Str.ofString "enumerate") = some none := by kernel_rfl
theorem b_enumerate : bootBuiltins (PySem.Str.ofString "enumerate") = some (.type "enumerate") := by decide +kernel
theorem n_enumerate {pos : Pos} {Q : Value → Shared → Prop} (W : Wd w s.heap) (h : Q (.type "enumerate") s) (hx : env.kindOf (PySem.Str.ofString "enumerate") = some .globalImplicit) (hk : env.scope.kind = .function) (hg : env.globals = mainGlobals) (hb : env.builtins = builtinsNs) :
    wpAny (model prog w) A (eval (.Name (PySem.Str.ofString "enumerate") pos) env) Q E s := nmB W hx (g_enumerate _) b_enumerate (by decide) h hk hg hb (by decide)
theorem g_bytes (P : Params) : nsIn (hd.heap_39 P) mainGlobals (PySem.Str.ofString "bytes") = some none := by kernel_rfl
theorem b_bytes : bootBuiltins (PySem.Str.ofString "bytes") = some (.type "bytes") := by decide +kernel
theorem n_bytes {pos : Pos} {Q : Value → Shared → Prop} (W : Wd w s.heap) (h : Q (.type "bytes") s) (hx : env.kindOf (PySem.Str.ofString "bytes") = some .globalImplicit) (hk : env.scope.kind = .function) (hg : env.globals = mainGlobals) (hb : env.builtins = builtinsNs) :
    wpAny (model prog w) A (eval (.Name (PySem.Str.ofString "bytes") pos) env) Q E s := nmB W hx (g_bytes _) b_bytes (by decide) h hk hg hb (by decide)
theorem g_isinstance (P : Params) : nsIn (hd.heap_39 P) mainGlobals (PySem.Str.ofString "isinstance") = some none := by kernel_rfl
theorem b_isinstance : bootBuiltins (PySem.Str.ofString "isinstance") = some (.builtin "isinstance") := by decide +kernel
theorem n_isinstance {pos : Pos} {Q : Value → Shared → Prop} (W : Wd w s.heap) (h : Q (.builtin "isinstance") s) (hx : env.kindOf (PySem.Str.ofString "isinstance") = some .globalImplicit) (hk : env.scope.kind = .function) (hg : env.globals = mainGlobals) (hb : env.builtins = builtinsNs) :
    wpAny (model prog w) A (eval (.Name (PySem.Str.ofString "isinstance") pos) env) Q E s := nmB W hx (g_isinstance _) b_isinstance (by decide) h hk hg hb (by decide)
end
def tx (l : List Nat) : PySem.Str := ⟨l.toArray⟩
theorem lit_eq : PySem.Str.ofString "=" = tx [61] := by kernel_rfl
theorem lit_q3D : PySem.Str.ofString "3D" = tx [51, 68] := by kernel_rfl
theorem lit_q5F : PySem.Str.ofString "5F" = tx [53, 70] := by kernel_rfl
theorem lit_us : PySem.Str.ofString "_" = tx [95] := by kernel_rfl
theorem lit_hexs : PySem.Str.ofString "0123456789ABCDEF" = tx [48, 49, 50, 51, 52, 53, 54, 55, 56, 57, 65, 66, 67, 68, 69, 70] := by kernel_rfl
theorem lit_fr1 : PySem.Str.ofString "=?" = tx [61, 63] := by kernel_rfl
theorem lit_fr2 : PySem.Str.ofString "?q?" = tx [63, 113, 63] := by kernel_rfl
theorem lit_fr3 : PySem.Str.ofString "?=" = tx [63, 61] := by kernel_rfl
theorem lit_nil : PySem.Str.ofString "" = tx [] := by kernel_rfl
theorem lit_sp : PySem.Str.ofString " " = tx [32] := by kernel_rfl
theorem lit_iso : PySem.Str.ofString "iso-8859-1" = tx [105, 115, 111, 45, 56, 56, 53, 57, 45, 49] := by kernel_rfl
theorem lit_n0 : PySem.Str.ofString "Utf-8" = tx [85, 116, 102, 45, 56] := by kernel_rfl
theorem lit_n2 : PySem.Str.ofString "US_ascii" = tx [85, 83, 95, 97, 115, 99, 105, 105] := by kernel_rfl
theorem lit_n3 : PySem.Str.ofString "a.b:c" = tx [97, 46, 98, 58, 99] := by kernel_rfl
theorem lit_e20 : PySem.Str.ofString "=20" = tx [61, 50, 48] := by kernel_rfl
theorem lit_q : PySem.Str.ofString "?" = tx [63] := by kernel_rfl
theorem lit_la : PySem.Str.ofString "a" = tx [97] := by kernel_rfl
theorem lit_lz : PySem.Str.ofString "z" = tx [122] := by kernel_rfl
theorem lit_lA : PySem.Str.ofString "A" = tx [65] := by kernel_rfl
theorem lit_lZ : PySem.Str.ofString "Z" = tx [90] := by kernel_rfl
theorem lit_l0 : PySem.Str.ofString "0" = tx [48] := by kernel_rfl
theorem lit_l9 : PySem.Str.ofString "9" = tx [57] := by kernel_rfl
theorem lit_sf : PySem.Str.ofString "-!*+/" = tx [45, 33, 42, 43, 47] := by kernel_rfl
theorem lit_fmt : PySem.Str.ofString "=?%s?q?%s?=" = tx [61, 63, 37, 115, 63, 113, 63, 37, 115, 63, 61] := by kernel_rfl
theorem lit_latin : PySem.Str.ofString "latin1" = tx [108, 97, 116, 105, 110, 49] := by kernel_rfl
theorem lit_nl : PySem.Str.ofString "\n" = tx [10] := by kernel_rfl
theorem lit_crnl : PySem.Str.ofString "\r\n" = tx [13, 10] := by kernel_rfl
theorem lit_hexd : PySem.Str.ofString "0123456789abcdefABCDEF" = tx [48, 49, 50, 51, 52, 53, 54, 55, 56, 57, 97, 98, 99, 100, 101, 102, 65, 66, 67, 68, 69, 70] := by kernel_rfl
theorem tx_length (l : List Nat) : (tx l).length = l.length := by simp [tx, PySem.Str.length]
theorem tx_append (a b : List Nat) : tx a ++ tx b = tx (a ++ b) := by
  show PySem.Str.mk (a.toArray ++ b.toArray) = PySem.Str.mk (a ++ b).toArray
  simp
section
variable {prog : Program} {w : World} {A : Around} {E : Value → Shared → Prop} {s : Shared} {env : Env}
theorem lt_one {a b : Nat} : (([a] : List Nat) < [b]) = (a < b) := by
  simp [List.cons_lt_cons_iff]
theorem le_l {x : PySem.Str} {n c : Nat} {t u : Tok} {Q : Value → Shared → Prop} (hx' : x = tx [n]) (h : Q (.bool (decide (n ≤ c))) s) : wpAny (model prog w) A (compareOp .LtE (.str x t) (.str (tx [c]) u)) Q E s := by
  have hx := congrArg (fun y : PySem.Str => y.cps.toList) hx'
  dsimp only [tx] at hx
  refine P.le_str ?_
  have e : (!decide (([c] : List Nat) < [n])) = decide (n ≤ c) := by
    by_cases hn : n ≤ c
    · rw [decide_eq_true hn]; simp [List.cons_lt_cons_iff]; omega
    · rw [decide_eq_false hn]; simp [List.cons_lt_cons_iff]; omega
  rw [hx, show (tx [c]).cps.toList = [c] from rfl, e]
  exact h
theorem le_r {x : PySem.Str} {n c : Nat} {t u : Tok} {Q : Value → Shared → Prop} (hx' : x = tx [n]) (h : Q (.bool (decide (c ≤ n))) s) : wpAny (model prog w) A (compareOp .LtE (.str (tx [c]) u) (.str x t)) Q E s := by
  have hx := congrArg (fun y : PySem.Str => y.cps.toList) hx'
  dsimp only [tx] at hx
  refine P.le_str ?_
  have e : (!decide (([n] : List Nat) < [c])) = decide (c ≤ n) := by
    by_cases hn : c ≤ n
    · rw [decide_eq_true hn]; simp [List.cons_lt_cons_iff]; omega
    · rw [decide_eq_false hn]; simp [List.cons_lt_cons_iff]; omega
  rw [hx, show (tx [c]).cps.toList = [c] from rfl, e]
  exact h
theorem in_l {x : PySem.Str} {l : List Nat} {c : Nat} {t u : Tok} {Q : Value → Shared → Prop} (hx' : x = tx l) (h : Q (.bool (decide (c ∈ l))) s) : wpAny (model prog w) A (compareOp .In (.str (tx [c]) u) (.str x t)) Q E s := by
  have hx := congrArg (fun y : PySem.Str => y.cps.toList) hx'
  dsimp only [tx] at hx
  refine P.in_str ?_
  have := StrLaws.found_one x c
  rw [show tx [c] = ({ cps := #[c] } : PySem.Str) from rfl, this, hx]
  exact h
theorem beq_one {a b : Nat} : (([a] : List Nat) == [b]) = decide (a = b) := by
  by_cases hn : a = b <;> simp [hn]
theorem eq_l {x : PySem.Str} {n c : Nat} {t u : Tok} {Q : Value → Shared → Prop} (hx' : x = tx [n]) (h : Q (.bool (decide (c = n))) s) : wpAny (model prog w) A (compareOp .Eq (.str (tx [c]) u) (.str x t)) Q E s := by
  have hx := congrArg (fun y : PySem.Str => y.cps.toList) hx'
  dsimp only [tx] at hx
  refine P.eq_str ?_
  rw [hx, show (tx [c]).cps.toList = [c] from rfl, beq_one]
  exact h
theorem ne_l {x : PySem.Str} {n c : Nat} {t u : Tok} {Q : Value → Shared → Prop} (hx' : x = tx [n]) (h : Q (.bool (!decide (c = n))) s) : wpAny (model prog w) A (compareOp .NotEq (.str (tx [c]) u) (.str x t)) Q E s := by
  have hx := congrArg (fun y : PySem.Str => y.cps.toList) hx'
  dsimp only [tx] at hx
  refine P.ne_str ?_
  have e : (([c] : List Nat) != [n]) = !decide (c = n) := by rw [← beq_one]; rfl
  rw [hx, show (tx [c]).cps.toList = [c] from rfl, e]
  exact h
theorem chain_last' {pos : Pos} {a : Value} {op : CmpOp} {r : Sem Value} {env : Env} {M : Model} {Q : Value → Shared → Prop}
    (h : wpAny M A r (fun b s₁ => wpAny M A (compareOp op a b) Q E s₁) E s) : wpAny M A (compareChain pos a [op] (r :: evalEach [] env)) Q E s := chain_last h
theorem ite_dec {p : Prop} [Decidable p] {P Q : Prop} (h1 : p → P) (h2 : ¬ p → Q) : if decide p = true then P else Q := by
  by_cases h : p
  · rw [if_pos (decide_eq_true h)]; exact h1 h
  · rw [if_neg (by simp [h])]; exact h2 h
theorem ite_decN {p : Prop} [Decidable p] {P Q : Prop} (h1 : ¬ p → P) (h2 : p → Q) : if (!decide p) = true then P else Q := by
  by_cases h : p
  · rw [if_neg (by simp [h])]; exact h2 h
  · rw [if_pos (by simp [h])]; exact h1 h
theorem ite_bool {b : Bool} {P Q : Prop} (h1 : b = true → P) (h2 : b = false → Q) : if b = true then P else Q := by
  cases b
  · exact h2 rfl
  · exact h1 rfl

theorem ite_t {b : Bool} {P Q : Prop} (hb : b = true) (h : P) : if b = true then P else Q := by rw [if_pos hb]; exact h
theorem ite_f {b : Bool} {P Q : Prop} (hb : b = false) (h : Q) : if b = true then P else Q := by rw [if_neg (by rw [hb]; exact Bool.false_ne_true)]; exact h
theorem ite_dT {p : Prop} [Decidable p] {P Q : Prop} (hp : p) (h : P) : if decide p = true then P else Q := ite_t (decide_eq_true hp) h
theorem ite_dF {p : Prop} [Decidable p] {P Q : Prop} (hp : ¬ p) (h : Q) : if decide p = true then P else Q := ite_f (decide_eq_false hp) h
theorem stL {g : Heap} {L : Addr} {m : PySem.Str → Option Value} {x : PySem.Str} {v : Value} {Q : Unit → Shared → Prop} (F : Fr g L s.heap m) (hx : env.kindOf x = some .local) (hk : env.scope.kind = .function) (hL : env.locals = L)
    (h : ∀ h', Fr g L h' (fun y => if y = x then some v else m y) → (∀ b o, b ≠ L → s.heap.get? b = some o → h'.get? b = some o) → Q () { s with heap := h', toks := s.toks + 1 }) :
    wpAny (model prog w) A (storeName env x v) Q E s := by
  subst hL
  exact wpAny_storeName_local hx F.ns (fun h' hn hs => h h' (F.set hn hs) hs.extBut) (by rw [hk]; rfl)
theorem len_lst {D : Addr} {ys : List Value} {Q : Value → Shared → Prop} (hD : s.heap.get? D = some (LCg.lst ys)) (hn : ys.length ≤ 16777216) (h : ∀ t k, Q (.int (ys.length : Int) t) { s with toks := k }) :
    wpAny (model prog w) A (call (.builtin "len") [.ref D]) Q E s := by
  refine Calls.call_len_list (items := ys.toArray) ⟨_, hD, rfl, _, rfl⟩ (by simp; omega) ?_
  rw [show (ys.toArray.size : Int) = (ys.length : Int) by simp]
  exact h _ _
theorem len_tx {l : List Nat} {t : Tok} {Q : Value → Shared → Prop} (hn : l.length ≤ 16777216) (h : ∀ t k, Q (.int (l.length : Int) t) { s with toks := k }) :
    wpAny (model prog w) A (call (.builtin "len") [.str (tx l) t]) Q E s := by
  refine P.len_str (by rw [tx_length]; omega) ?_
  rw [tx_length]
  exact h _ _
theorem mulL {a b : Int} {t u : Tok} {Q : Value → Shared → Prop} (h1 : -(2 ^ 64) < a) (h2 : a < 2 ^ 64) (h : Q (.int (a * b) s.toks) { s with toks := s.toks + 1 }) : wpAny (model prog w) A (binaryOp .Mult (.int a t) (.int b u)) Q E s :=
  P.mul_int h (IntMulOk.of_left (intBits_le_64 h1 h2))
theorem mulR {a b : Int} {t u : Tok} {Q : Value → Shared → Prop} (h1 : -(2 ^ 64) < b) (h2 : b < 2 ^ 64) (h : Q (.int (a * b) s.toks) { s with toks := s.toks + 1 }) : wpAny (model prog w) A (binaryOp .Mult (.int a t) (.int b u)) Q E s :=
  P.mul_int h (IntMulOk.of_right (intBits_le_64 h1 h2))
theorem nmC {x : PySem.Str} {pos : Pos} {c : Addr} {v : Value} {Q : Value → Shared → Prop} (hx : env.kindOf x = some .cell) (hc : env.cells.lookup x = some c) (hv : s.heap.IsCell c (some v)) (h : Q v s) (hk : env.scope.kind = .function) (hd : (x == ("__debug__" : PySem.Str)) = false) :
    wpAny (model prog w) A (eval (.Name x pos) env) Q E s := wpAny_Name (wpAny_loadName_cell hk hx hc hv h) hd
theorem cell_at {h h' : Heap} {c : Addr} {v : Option Value} (x : h.IsCell c v) (k : ∀ o, h.get? c = some o → h'.get? c = some o) : h'.IsCell c v := let ⟨o, ho, r⟩ := x; ⟨o, k o ho, r⟩
theorem call_def {pos : Pos} {f : Addr} {fd : FuncData} {oc : Value} {od : Option Addr} {osl : Array (Option Value)} {e : Expr} {rest : List Expr} {Q : Value → Shared → Prop}
    (ho : (hd.heap_39 w.params).lookup f = some ⟨oc, od, .func fd, osl⟩)
    (h : wpAny (model prog w) A (spliced (backTo pos (starEach (e :: rest) env))) (fun vs s₁ => Wd w s₁.heap ∧ wpAny (model prog w) A (call (.ref f) vs) Q E s₁) E s)
    (he : starEach (e :: rest) env = (false, eval e env) :: starEach rest env) :
    wpAny (model prog w) A (callWith pos (.ref f) [] (backTo pos (starEach (e :: rest) env)) []) Q E s :=
  callWith_def (o := ⟨oc, od, .func fd, osl⟩) rfl (wpAny_mono h (fun _ _ x => ⟨x.1.X _ _ ho, x.2⟩) fun _ _ x => x) he

theorem div16 {c : Nat} {t u : Tok} {Q : Value → Shared → Prop} (h : Q (.int ((c / 16 : Nat) : Int) s.toks) { s with toks := s.toks + 1 }) : wpAny (model prog w) A (binaryOp .FloorDiv (.int (c : Int) t) (.int 16 u)) Q E s := by
  refine floordiv_int (by decide) ?_
  rw [show (c : Int).fdiv 16 = ((c / 16 : Nat) : Int) by rw [Int.fdiv_eq_ediv_of_nonneg _ (by decide)]; rfl]
  exact h
theorem mod16 {c : Nat} {t u : Tok} {Q : Value → Shared → Prop} (h : Q (.int ((c % 16 : Nat) : Int) s.toks) { s with toks := s.toks + 1 }) : wpAny (model prog w) A (binaryOp .Mod (.int (c : Int) t) (.int 16 u)) Q E s := by
  refine mod_int' (by decide) ?_
  rw [show (c : Int).fmod 16 = ((c % 16 : Nat) : Int) by rw [Int.fmod_eq_emod_of_nonneg _ (by decide)]; rfl]
  exact h
/-- a sign of a text -/
theorem sub_str {value slice : Expr} {l : List Nat} {x : PySem.Str} {d c : Nat} {n : Int} {t u : Tok} {Q : Value → Shared → Prop} (hx : x = tx l) (hn : n = (d : Int)) (hd : d < 2 ^ 63) (hc : l[d]? = some c) (h : ∀ t' k, Q (.str (tx [c]) t') { s with toks := k })
    (hs : subscripted slice false (.str x t) (.int n u) = operate [.str x t, .int n u] (getItem (.str x t) (.int n u))) :
    wpAny (model prog w) A (subscriptTail value slice (.str x t) (.int n u)) Q E s := by
  subst hx
  subst hn
  refine tail_any (typeIs_str _ _ _) F.slot_str_getitem.lookup (P.getItem_str (by simp; omega) ?_ (h _ _)) hs
  have hl : d < l.length := (List.getElem?_eq_some_iff.mp hc).1
  unfold seqIndex?
  rw [tx_length]
  simp only [show ¬ ((d : Int) < 0) by omega, if_false]
  rw [if_pos (by simp; exact hl)]
  show (l.toArray)[(d : Int).toNat]? = some c
  simpa using hc
theorem hexAt {value slice : Expr} {d : Nat} {x : PySem.Str} {t u : Tok} {Q : Value → Shared → Prop} (hx : x = tx [48, 49, 50, 51, 52, 53, 54, 55, 56, 57, 65, 66, 67, 68, 69, 70]) (hd : d < 16) (h : ∀ t' k, Q (.str (tx [Mine.hx d]) t') { s with toks := k })
    (hs : subscripted slice false (.str x t) (.int (d : Int) u) = operate [.str x t, .int (d : Int) u] (getItem (.str x t) (.int (d : Int) u))) :
    wpAny (model prog w) A (subscriptTail value slice (.str x t) (.int (d : Int) u)) Q E s := by
  have key : ∀ d : Fin 16, ([48, 49, 50, 51, 52, 53, 54, 55, 56, 57, 65, 66, 67, 68, 69, 70] : List Nat)[d.val]? = some (Mine.hx d.val) := by decide
  exact sub_str hx rfl (by omega) (key ⟨d, hd⟩) h hs
theorem ord_tx {c : Nat} {t : Tok} {Q : Value → Shared → Prop} (h : Q (.int (c : Int) s.toks) { s with toks := s.toks + 1 }) : wpAny (model prog w) A (call (.builtin "ord") [.str (tx [c]) t]) Q E s := P.ord_of_char h
/-- glued texts -/
theorem add_tx {x y : PySem.Str} {a b : List Nat} {t u : Tok} {Q : Value → Shared → Prop} (hx : x = tx a) (hy : y = tx b) (hsz : a.length + b.length ≤ 16777216) (h : ∀ t' k, Q (.str (tx (a ++ b)) t') { s with toks := k }) :
    wpAny (model prog w) A (binaryOp .Add (.str x t) (.str y u)) Q E s := by
  subst hx
  subst hy
  refine SB.add (fun t' k => ?_) (by rw [tx_length, tx_length, PySem.sizeLine_eq]; exact hsz)
  rw [tx_append]
  exact h t' k
theorem reps_fold (k : Nat) : ((List.replicate k (#[51, 68] : Array Nat)).foldl (· ++ ·) #[]) = (reps k).toArray := by
  have g : ∀ (k : Nat) (acc : Array Nat), ((List.replicate k (#[51, 68] : Array Nat)).foldl (· ++ ·) acc).toList = acc.toList ++ reps k := by
    intro k
    induction k with
    | zero => intro acc; simp [reps]
    | succ k ih => intro acc; rw [List.replicate_succ, List.foldl_cons, ih]; simp [reps]
  have := g k #[]
  apply Array.toList_inj.mp
  rw [this]
  rfl
theorem mulreps {x : PySem.Str} (hx : x = tx [51, 68]) {n : Int} {k : Nat} {t u : Tok} {Q : Value → Shared → Prop} (hn : n = (k : Int)) (hk : k < 1000000) (h : ∀ t' k', Q (.str (tx (reps k)) t') { s with toks := k' }) :
    wpAny (model prog w) A (binaryOp .Mult (.str x t) (.int n u)) Q E s := by
  subst hx
  subst hn
  refine SB.mul ⟨by simp; omega, fun h1 h2 => ?_, fun h1 h2 => ?_⟩ fun t' k' => ?_
  · show ¬ (((2 : Nat) : Int) > (2 ^ 63 - 1) / (k : Int))
    have : (2 : Int) ≤ (2 ^ 63 - 1) / (k : Int) := (Int.le_ediv_iff_mul_le (by omega)).mpr (by omega)
    omega
  · show decide (2 * (k : Int).toNat > sizeLine) = false
    rw [PySem.sizeLine_eq]
    exact decide_eq_false (by omega)
  · have e : Txt.mul (tx [51, 68]) (k : Int) = tx (reps k) := by
      unfold Txt.mul
      split
      · have : k = 0 := by omega
        subst this; rfl
      · split
        · rename_i h1 h2
          have : k = 1 := by
            have hl : (tx [51, 68]).length = 2 := rfl
            simp [hl] at h2
            omega
          subst this; rfl
        · show PySem.Str.mk _ = PySem.Str.mk _
          congr 1
          exact reps_fold k
    rw [e]
    exact h t' k'
end

local macro_rules | `(tactic| walk_at "st") => `(tactic| with_reducible first
  | (show wpAny _ _ (eval _ _) _ _ _; first
    | (show wpAny _ _ (eval (Expr.Name _ _) _) _ _ _; first
      | refine nmL (Fr.ns (by assumption)) (by with_unfolding_all rfl) (by with_unfolding_all rfl) ?_ (by with_unfolding_all rfl) (by with_unfolding_all rfl) (by with_unfolding_all rfl)
      | refine nmL (by assumption) (by with_unfolding_all rfl) (by first | assumption | with_unfolding_all rfl) ?_ (by with_unfolding_all rfl) (by with_unfolding_all rfl) (by with_unfolding_all rfl)
      | refine nmC (by with_unfolding_all rfl) (by with_unfolding_all rfl) (by assumption) ?_ (by with_unfolding_all rfl) (by with_unfolding_all rfl)
      | refine n_unquote (by first | assumption | exact Wd.keeps (by assumption) (Fr.keep (by assumption))) ?_ (by with_unfolding_all rfl) (by with_unfolding_all rfl) (by with_unfolding_all rfl)
      | refine n_header_encode (by first | assumption | exact Wd.keeps (by assumption) (Fr.keep (by assumption))) ?_ (by with_unfolding_all rfl) (by with_unfolding_all rfl) (by with_unfolding_all rfl)
      | refine n_decode (by first | assumption | exact Wd.keeps (by assumption) (Fr.keep (by assumption))) ?_ (by with_unfolding_all rfl) (by with_unfolding_all rfl) (by with_unfolding_all rfl)
      | refine n_add (by first | assumption | exact Wd.keeps (by assumption) (Fr.keep (by assumption))) ?_ (by with_unfolding_all rfl) (by with_unfolding_all rfl) (by with_unfolding_all rfl)
      | refine n_floordiv (by first | assumption | exact Wd.keeps (by assumption) (Fr.keep (by assumption))) ?_ (by with_unfolding_all rfl) (by with_unfolding_all rfl) (by with_unfolding_all rfl)
      | refine n_mul (by first | assumption | exact Wd.keeps (by assumption) (Fr.keep (by assumption))) ?_ (by with_unfolding_all rfl) (by with_unfolding_all rfl) (by with_unfolding_all rfl)
      | refine n_sub (by first | assumption | exact Wd.keeps (by assumption) (Fr.keep (by assumption))) ?_ (by with_unfolding_all rfl) (by with_unfolding_all rfl) (by with_unfolding_all rfl)
      | refine n_countOf (by first | assumption | exact Wd.keeps (by assumption) (Fr.keep (by assumption))) ?_ (by with_unfolding_all rfl) (by with_unfolding_all rfl) (by with_unfolding_all rfl)
      | refine n_length_hint (by first | assumption | exact Wd.keeps (by assumption) (Fr.keep (by assumption))) ?_ (by with_unfolding_all rfl) (by with_unfolding_all rfl) (by with_unfolding_all rfl)
      | refine n_law_safe (by first | assumption | exact Wd.keeps (by assumption) (Fr.keep (by assumption))) ?_ (by with_unfolding_all rfl) (by with_unfolding_all rfl) (by with_unfolding_all rfl)
      | refine n_law_sign (by first | assumption | exact Wd.keeps (by assumption) (Fr.keep (by assumption))) ?_ (by with_unfolding_all rfl) (by with_unfolding_all rfl) (by with_unfolding_all rfl)
      | refine n_law_told (by first | assumption | exact Wd.keeps (by assumption) (Fr.keep (by assumption))) ?_ (by with_unfolding_all rfl) (by with_unfolding_all rfl) (by with_unfolding_all rfl)
      | refine n_law_size (by first | assumption | exact Wd.keeps (by assumption) (Fr.keep (by assumption))) ?_ (by with_unfolding_all rfl) (by with_unfolding_all rfl) (by with_unfolding_all rfl)
      | refine n_law_written (by first | assumption | exact Wd.keeps (by assumption) (Fr.keep (by assumption))) ?_ (by with_unfolding_all rfl) (by with_unfolding_all rfl) (by with_unfolding_all rfl)
      | refine n_QUOPRI_HEADER_MAP (by first | assumption | exact Wd.keeps (by assumption) (Fr.keep (by assumption))) ?_ (by with_unfolding_all rfl) (by with_unfolding_all rfl) (by with_unfolding_all rfl)
      | refine n_ord (by first | assumption | exact Wd.keeps (by assumption) (Fr.keep (by assumption))) ?_ (by with_unfolding_all rfl) (by with_unfolding_all rfl) (by with_unfolding_all rfl) (by with_unfolding_all rfl)
      | refine n_chr (by first | assumption | exact Wd.keeps (by assumption) (Fr.keep (by assumption))) ?_ (by with_unfolding_all rfl) (by with_unfolding_all rfl) (by with_unfolding_all rfl) (by with_unfolding_all rfl)
      | refine n_int (by first | assumption | exact Wd.keeps (by assumption) (Fr.keep (by assumption))) ?_ (by with_unfolding_all rfl) (by with_unfolding_all rfl) (by with_unfolding_all rfl) (by with_unfolding_all rfl)
      | refine n_len (by first | assumption | exact Wd.keeps (by assumption) (Fr.keep (by assumption))) ?_ (by with_unfolding_all rfl) (by with_unfolding_all rfl) (by with_unfolding_all rfl) (by with_unfolding_all rfl)
      | refine n_range (by first | assumption | exact Wd.keeps (by assumption) (Fr.keep (by assumption))) ?_ (by with_unfolding_all rfl) (by with_unfolding_all rfl) (by with_unfolding_all rfl) (by with_unfolding_all rfl)
      | refine n_sum (by first | assumption | exact Wd.keeps (by assumption) (Fr.keep (by assumption))) ?_ (by with_unfolding_all rfl) (by with_unfolding_all rfl) (by with_unfolding_all rfl) (by with_unfolding_all rfl)
      | refine n_enumerate (by first | assumption | exact Wd.keeps (by assumption) (Fr.keep (by assumption))) ?_ (by with_unfolding_all rfl) (by with_unfolding_all rfl) (by with_unfolding_all rfl) (by with_unfolding_all rfl)
      | refine n_bytes (by first | assumption | exact Wd.keeps (by assumption) (Fr.keep (by assumption))) ?_ (by with_unfolding_all rfl) (by with_unfolding_all rfl) (by with_unfolding_all rfl) (by with_unfolding_all rfl)
      | refine n_isinstance (by first | assumption | exact Wd.keeps (by assumption) (Fr.keep (by assumption))) ?_ (by with_unfolding_all rfl) (by with_unfolding_all rfl) (by with_unfolding_all rfl) (by with_unfolding_all rfl))
    | refine wpAny_BinOp ?_
    | refine wpAny_Compare1 ?_ (by with_unfolding_all rfl)
    | refine Compare_chain ?_ (by with_unfolding_all rfl)
    | refine BoolOp_or ?_
    | refine BoolOp_and ?_
    | refine BoolOp_one ?_
    | refine IfExp_ ?_
    | refine wpAny_Constant_str ?_
    | refine wpAny_Constant_int ?_
    | refine Constant_bool ?_
    | refine Constant_none ?_
    | ((fail_if_success (show wpAny _ _ (eval (Expr.Call (Expr.Attribute _ _ _) _ _ _) _) _ _ _)); refine Call_ ?_ (by with_unfolding_all rfl))
    | ((fail_if_success (show wpAny _ _ (eval (Expr.Subscript _ (Expr.Slice _ _ _ _) _) _) _ _ _)); refine Subscript_ ?_)
    | refine UnaryOp_ ?_)
  | (show wpAny _ _ (execs _ _) _ _ _; first
    | refine wpAny_execs_cons ?_
    | refine wpAny_execs_nil ?_)
  | (show wpAny _ _ (exec _ _) _ _ _; first
    | refine wpAny_Return_some ?_
    | refine wpAny_If ?_
    | refine wpAny_Assign_Name ?_ (by with_unfolding_all rfl))
  | (show wpAny _ _ (isTrue _ _ _) _ _ _; first
    | refine wpAny_isTrue_Compare1 ?_ (by with_unfolding_all rfl)
    | refine isTrue_or ?_
    | refine isTrue_and ?_
    | refine isTrue_or_nil ?_
    | refine isTrue_and_nil ?_
    | refine isTrue_not ?_
    | refine isTrue_plain ?_ (by with_unfolding_all rfl))
  | (show ite _ _ _; first
    | refine ite_tt ?_
    | refine ite_ff ?_
    | refine ite_t (by assumption) ?_
    | refine ite_f (by assumption) ?_
    | refine ite_dT (by assumption) ?_
    | refine ite_dF (by assumption) ?_)
  | refine chain_link ?_
  | refine chain_last' ?_
  | refine wpAny_truthy_bool ?_
  | refine call_def (by with_unfolding_all rfl) ?_ (by with_unfolding_all rfl)
  | refine PyProof.Rows.callWith_builtin1 ?_ (by with_unfolding_all rfl) (by with_unfolding_all rfl)
  | refine PyProof.Rows.callWith_type1 ?_ (by with_unfolding_all rfl) (by with_unfolding_all rfl)
  | refine args_cons ?_ (by with_unfolding_all rfl)
  | refine args_nil ?_
  | refine ord_tx ?_
  | refine div16 ?_
  | refine mod16 ?_
  | refine P.eq_int ?_
  | refine wpAny_tests_one ?_
  | refine wpAny_tests_nil ?_
  | refine P.sub_int ?_
  | refine P.add_int ?_
  )
theorem between {prog : Program} {w : World} {A : Around} {E : Value → Shared → Prop} {s : Shared} {env : Env} {x y n : PySem.Str} {a b c k₁ k₂ : Nat} {t : Tok} {p₁ p₂ p₃ p₄ : Pos} {L : Addr} {m : PySem.Str → Option Value} {Q : Value → Shared → Prop}
    (hx : x = tx [a]) (hy : y = tx [b]) (hn : s.heap.Ns L m) (hv : m n = some (.str (tx [c]) t)) (hk : env.scope.kind = .function) (hl : env.kindOf n = some .local) (hL : env.locals = L) (hd : (n == ("__debug__" : PySem.Str)) = false)
    (h : ∀ k, Q (.bool (decide (a ≤ c ∧ c ≤ b))) { s with toks := k }) :
    wpAny (model prog w) A (eval (.Compare (.Constant (.str x) k₁ p₁) [.LtE, .LtE] [.Name n p₂, .Constant (.str y) k₂ p₃] p₄) env) Q E s := by
  refine Compare_chain (wpAny_Constant_str (chain_link (nmL hn hl hv ?_ hk hL hd))) (by with_unfolding_all rfl)
  refine le_l hx (wpAny_truthy_bool (ite_dec (fun h1 => ?_) fun h1 => ?_))
  · refine chain_last' (wpAny_Constant_str (le_r hy ?_))
    have e : decide (c ≤ b) = decide (a ≤ c ∧ c ≤ b) := by simp [h1]
    rw [e]
    exact h _
  · have e : decide (a ≤ c) = decide (a ≤ c ∧ c ≤ b) := by simp [h1]
    rw [e]
    exact h _
theorem law_safe {prog : Program} {w : World} {A : Around} {E : Value → Shared → Prop} {s : Shared} {c : Nat} {t : Tok} {Q : Value → Shared → Prop} (W : Wd w s.heap) (R : Rm A 1 3)
    (h : ∀ h' tk, Ext s.heap h' → Q (.bool (safe c)) { s with heap := h', toks := tk }) : wpAny (model prog w) A (call (.ref 108) [.str (tx [c]) t]) Q E s := by
  refine enter (d := 0) (u := 0) (binds := [(PySem.Str.ofString "sign", Value.str (tx [c]) t)]) W R (by with_unfolding_all rfl) (by with_unfolding_all rfl) (BindsTo.of_eq rfl) (locs rfl) rfl rfl rfl (by decide) fun h₁ tk F W' R' htk => ?_
  have key : ∀ b, b = safe c → ∀ k, Q (.bool b) { s with heap := h₁, toks := k } := fun b e k => by rw [e]; exact h _ _ F.keep
  refine wpAny_execs_cons (wpAny_Return_some (BoolOp_or ?_))
  refine between lit_la lit_lz F.ns (by with_unfolding_all rfl) rfl (by with_unfolding_all rfl) rfl (by with_unfolding_all rfl) fun k => wpAny_truthy_bool (ite_dec (fun h1 => ?_) fun h1 => ?_)
  · exact key _ (by simp [h1, safe]) _
  refine BoolOp_or (between lit_lA lit_lZ F.ns (by with_unfolding_all rfl) rfl (by with_unfolding_all rfl) rfl (by with_unfolding_all rfl) fun k => wpAny_truthy_bool (ite_dec (fun h2 => ?_) fun h2 => ?_))
  · exact key _ (by simp [h2, safe]) _
  refine BoolOp_or (between lit_l0 lit_l9 F.ns (by with_unfolding_all rfl) rfl (by with_unfolding_all rfl) rfl (by with_unfolding_all rfl) fun k => wpAny_truthy_bool (ite_dec (fun h3 => ?_) fun h3 => ?_))
  · exact key _ (by simp [h3, safe]) _
  refine BoolOp_one ?_
  walk_at "st"
  walk_at "st"
  walk_at "st"
  with_reducible refine in_l lit_sf ?_
  refine key _ ?_ _
  rw [Bool.eq_iff_iff]
  simp [safe]
  omega

set_option maxHeartbeats 1000000 in
theorem law_sign {prog : Program} {w : World} {A : Around} {E : Value → Shared → Prop} {s : Shared} {c k : Nat} {t u : Tok} {Q : Value → Shared → Prop} (W : Wd w s.heap) (R : Rm A 2 6) (hc : c < 256) (hk : k < 1000)
    (h : ∀ h' tk t', Ext s.heap h' → Q (.str (tx (sg c k)) t') { s with heap := h', toks := tk }) : wpAny (model prog w) A (call (.ref 115) [.str (tx [c]) t, .int (k : Int) u]) Q E s := by
  refine enter (d := 1) (u := 3) (binds := [(PySem.Str.ofString "sign", Value.str (tx [c]) t), (PySem.Str.ofString "rounds", Value.int (k : Int) u)]) W R (by with_unfolding_all rfl) (by with_unfolding_all rfl) (BindsTo.of_eq rfl) (locs rfl) rfl rfl rfl (by decide) fun h₁ tk F W' R' htk => ?_
  iterate 6 (walk_at "st")
  with_reducible refine P.eq_int ?_
  walk_at "st"
  refine ite_bool (fun hz => ?_) (fun hz => ?_)
  · repeat' walk_at "st"
    have : k = 0 := by simpa using hz
    subst this
    exact h _ _ _ F.keep
  · repeat' walk_at "st"
    refine ⟨W', law_safe W' (R'.mono) fun h₂ tk₂ k₂ => ?_⟩
    have F₂ := F.keeps k₂
    have W₂ := W'.keeps k₂
    repeat' walk_at "st"
    refine ite_bool (fun hs => ?_) (fun hs => ?_)
    · repeat' walk_at "st"
      have e : sg c k = [c] := by simp [sg, hs]
      exact (congrArg (fun l => Q (.str (tx l) _) _) e).mp (h _ _ _ F₂.keep)
    · repeat' walk_at "st"
      with_reducible refine eq_l lit_sp ?_
      repeat' walk_at "st"
      have hz' : k ≠ 0 := by simpa using hz
      refine ite_dec (fun h32 => ?_) (fun h32 => ?_)
      · subst h32
        repeat' walk_at "st"
        refine ite_bool (fun h1 => ?_) (fun h1 => ?_)
        · repeat' walk_at "st"
          have h1i : (k : Int) = 1 := by simpa [beq_iff_eq] using h1
          have : k = 1 := by omega
          subst this
          exact h _ _ _ F₂.keep
        · have h1' : k ≠ 1 := by intro e; subst e; cases h1
          repeat' walk_at "st"
          with_reducible refine mulreps (k := k - 2) lit_q3D (by omega) (by omega) fun t₃ k₃ => ?_
          with_reducible refine add_tx lit_eq rfl (by rw [reps_length]; simp; omega) fun t₄ k₄ => ?_
          repeat' walk_at "st"
          with_reducible refine add_tx rfl lit_q5F (by simp [reps_length]; omega) fun t₄ k₄ => ?_
          have e : sg 32 k = [61] ++ reps (k - 2) ++ [53, 70] := by simp [sg, hs, hz', h1']
          exact (congrArg (fun l => Q (.str (tx l) _) _) e).mp (h _ _ _ F₂.keep)
      · repeat' walk_at "st"
        with_reducible refine mulreps (k := k - 1) lit_q3D (by omega) (by omega) fun t₃ k₃ => ?_
        with_reducible refine add_tx lit_eq rfl (by rw [reps_length]; simp; omega) fun t₄ k₄ => ?_
        repeat' walk_at "st"
        with_reducible refine hexAt lit_hexs (by omega) (fun t₅ k₅ => ?_) (by with_unfolding_all rfl)
        with_reducible refine add_tx rfl rfl (by simp [reps_length]; omega) fun t₄ k₄ => ?_
        repeat' walk_at "st"
        with_reducible refine hexAt lit_hexs (by omega) (fun t₅ k₅ => ?_) (by with_unfolding_all rfl)
        with_reducible refine add_tx rfl rfl (by simp [reps_length]; omega) fun t₄ k₄ => ?_
        have e : sg c k = [61] ++ reps (k - 1) ++ [hx (c / 16)] ++ [hx (c % 16)] := by simp [sg, hs, hz', h32]
        exact (congrArg (fun l => Q (.str (tx l) _) _) e).mp (h _ _ _ F₂.keep)
/-- one turn of a comprehension's loop, its innermost action left open -/
def turnOf (p : Pos) (target : Expr) (ifs : List Expr) (B : Sem Unit) (e : Expr) (d : Nat) (it acc : Value) (env : Env) : Sem Fin := do
  standAt p
  match ← pyNext it with
  | none => pure (.done .next)
  | some v =>
    letOwnedTupleGo target it v
    assign target env v
    let mut ok := true
    for c in ifs do
      if ok then ok ← isTrue c env (eval c env)
    if ok then B
    again (.compLoop e d it acc env)

abbrev testsOf (ifs : List Expr) (env : Env) : Sem Bool := forIn ifs true fun c r => if r = true then do let ok ← isTrue c env (eval c env); pure (ForInStep.yield ok) else pure (ForInStep.yield r)
abbrev noE : Value → Shared → Prop := fun _ _ => False
abbrev ItemStep (M : Model) (A : Around) (it : Value) (target : Expr) (ifs : List Expr) (B : Sem Unit) (env : Env) (K : Shared → Prop) (s : Shared) : Prop :=
  wpAny M A (pyNext it) (fun r s₁ => ∃ v, r = some v ∧ wpAny M A (letOwnedTupleGo target it v) (fun _ s₂ => wpAny M A (assign target env v) (fun _ s₃ => wpAny M A (testsOf ifs env)
    (fun ok s₄ => if ok = true then wpAny M A B (fun _ s₅ => K s₅) noE s₄ else K s₄) noE s₃) noE s₂) noE s₁) noE s

section
variable {prog : Program} {w : World} {A : Around} {R : Result → Shared → Prop} {s : Shared}
theorem turn_ok {p : Pos} {target : Expr} {ifs : List Expr} {B : Sem Unit} {e : Expr} {d : Nat} {it acc : Value} {env : Env} (heq : compTurn e d it acc env = turnOf p target ifs B e d it acc env)
    (hfr : (Code.compLoop e d it acc env).isFrame = false) {K : Shared → Prop} {G : Value → Shared → Prop} (h : ItemStep (model prog w) A it target ifs B env K s) :
    wpAny (model prog w) A (denote table (.compLoop e d it acc env)) (fun f s' => f = .again (.compLoop e d it acc env) ∧ K s') G s := by
  show wpAny _ A (if (Code.compLoop e d it acc env).isFrame = true then _ else (compTurn e d it acc env).onRaise (fun x => do noteFrame x env; theTreesLotGoes x)) _ _ s
  rw [hfr]
  simp only [Bool.false_eq_true, if_false]
  refine wpAny_noted ?_
  rw [heq]
  unfold turnOf
  refine wpAny_bind (wpAny_standAt (wpAny_bind (wpAny_mono h (fun r s₁ h₁ => ?_) fun _ _ x => x.elim)))
  obtain ⟨v, rfl, h₁⟩ := h₁
  refine wpAny_bind (wpAny_mono h₁ (fun _ s₂ h₂ => ?_) fun _ _ x => x.elim)
  refine wpAny_bind (wpAny_mono h₂ (fun _ s₃ h₃ => ?_) fun _ _ x => x.elim)
  refine wpAny_bind (wpAny_mono h₃ (fun ok s₄ h₄ => ?_) fun _ _ x => x.elim)
  cases ok with
  | false => exact wpAny_pure ⟨rfl, h₄⟩
  | true => exact wpAny_bind (wpAny_mono h₄ (fun _ s₅ h₅ => wpAny_pure ⟨rfl, h₅⟩) fun _ _ x => x.elim)
theorem turn_end {p : Pos} {target : Expr} {ifs : List Expr} {B : Sem Unit} {e : Expr} {d : Nat} {it acc : Value} {env : Env} (heq : compTurn e d it acc env = turnOf p target ifs B e d it acc env)
    (hfr : (Code.compLoop e d it acc env).isFrame = false) {K : Shared → Prop} {G : Value → Shared → Prop} (h : wpAny (model prog w) A (pyNext it) (fun r s₁ => r = none ∧ K s₁) noE s) :
    wpAny (model prog w) A (denote table (.compLoop e d it acc env)) (fun f s' => f = .done .next ∧ K s') G s := by
  show wpAny _ A (if (Code.compLoop e d it acc env).isFrame = true then _ else (compTurn e d it acc env).onRaise (fun x => do noteFrame x env; theTreesLotGoes x)) _ _ s
  rw [hfr]
  simp only [Bool.false_eq_true, if_false]
  refine wpAny_noted ?_
  rw [heq]
  unfold turnOf
  refine wpAny_bind (wpAny_standAt (wpAny_bind (wpAny_mono h (fun r s₁ h₁ => ?_) fun _ _ x => x.elim)))
  obtain ⟨rfl, h₁⟩ := h₁
  exact wpAny_pure ⟨rfl, h₁⟩

theorem loop_ok {p : Pos} {target : Expr} {ifs : List Expr} {B : Sem Unit} {e : Expr} {d : Nat} {it acc : Value} {env : Env} (heq : compTurn e d it acc env = turnOf p target ifs B e d it acc env)
    (hfr : (Code.compLoop e d it acc env).isFrame = false) (hu : A.under (.compLoop e d it acc env) = A) (J : Nat → Shared → Prop) (n : Nat)
    (item : ∀ i s, i < n → J i s → ItemStep (model prog w) A it target ifs B env (J (i + 1)) s) (fin : ∀ s, J n s → wpAny (model prog w) A (pyNext it) (fun r s₁ => r = none ∧ R (.ok .next) s₁) noE s)
    (h : J 0 s) : codeAny (model prog w) A (.compLoop e d it acc env) R s := by
  refine codeAny_loop rfl (fun k s => ∃ i, i ≤ n ∧ k = n - i ∧ J i s) (fun k s hI => ?_) n ⟨0, Nat.zero_le _, rfl, h⟩
  obtain ⟨i, hi, rfl, hJ⟩ := hI
  rw [hu]
  by_cases hlt : i < n
  · refine wpAny_mono (turn_ok heq hfr (item i s hlt hJ)) (fun f s' hf => ?_) fun _ _ x => x
    obtain ⟨rfl, hK⟩ := hf
    exact ⟨rfl, n - (i + 1), by omega, i + 1, hlt, rfl, hK⟩
  · obtain rfl : i = n := by omega
    refine wpAny_mono (turn_end heq hfr (fin s hJ)) (fun f s' hf => ?_) fun _ _ x => x
    obtain ⟨rfl, hK⟩ := hf
    exact hK
theorem start_ok {e : Expr} {d : Nat} {it acc : Value} {env : Env} {g : Comprehension} (hg : (clausesOf e)[d]? = some g) (ha : g.is_async = 0) (hfr : (Code.compStart e d it acc env).isFrame = false) (hu : A.under (.compStart e d it acc env) = A)
    (hq : (Code.compLoop e d it acc env).quiet = true)
    (h0 : codeAny (model prog w) A (.compLoop e d it acc env) R s) (h : wpAny (model prog w) A (pyIter it) (fun it' s' => it' = it ∧ codeAny (model prog w) A (.compLoop e d it acc env) R s') noE s) :
    codeAny (model prog w) A (.compStart e d it acc env) R s := by
  refine codeAny_of_tree ?_
  rw [hu]
  show wpAny _ A (if (Code.compStart e d it acc env).isFrame = true then _ else (compStart e d it acc env).onRaise (fun x => do noteFrame x env; standAt theWindowsPlace)) _ _ s
  rw [hfr]
  simp only [Bool.false_eq_true, if_false]
  refine wpAny_onRaise (wpAny_mono (Q := fun f s' => f = .again (.compLoop e d it acc env) ∧ codeAny (model prog w) A (.compLoop e d it acc env) R s') (E := noE) ?_ (fun f s' hf => ?_) fun _ _ x => x.elim)
  · unfold compStart
    rw [hg]
    simp only [Option.elim_some, ha, bne_self_eq_false, Bool.false_eq_true, if_false]
    show wpAny _ _ (ask >>= _) _ _ s
    refine wpAny_bind (wpAny_askSetting (wpAny_ite ?_))
    split
    · first
      | exact wpAny_bind (wpAny_pure (wpAny_pure ⟨rfl, h0⟩))
      | exact wpAny_pure ⟨rfl, h0⟩
    · refine wpAny_bind (wpAny_rule ?_)
      refine wpAny_bind (wpAny_standAt ?_)
      refine wpAny_bind (wpAny_mono h (fun it' s' hi => ?_) fun _ _ x => x.elim)
      obtain ⟨rfl, hi⟩ := hi
      exact wpAny_pure ⟨rfl, hi⟩
  · obtain ⟨rfl, hf⟩ := hf
    exact ⟨hq, hf⟩
end
/-- s' is s but for what stands at C and D, and more -/
def GrD (C D : Addr) (s s' : Shared) : Prop := ∃ h' tk m', s' = { s with heap := h', toks := tk } ∧ (∀ b o, b ≠ C → b ≠ D → s.heap.get? b = some o → h'.get? b = some o) ∧ h'.Ns C m'
def Gr (C : Addr) (s s' : Shared) : Prop := ∃ h' tk m', s' = { s with heap := h', toks := tk } ∧ (∀ b o, b ≠ C → s.heap.get? b = some o → h'.get? b = some o) ∧ h'.Ns C m'
theorem fresh_none {h : Heap} {a : Addr} (ha : h.objs.size ≤ a) : h.get? a = none := by
  cases e : h.get? a with
  | none => rfl
  | some o' => exact absurd (Heap.lt_size e) (Nat.not_lt.mpr ha)

section
variable {prog : Program} {w : World} {A : Around} {E : Value → Shared → Prop} {env : Env}

theorem lc_blockT {e target : Expr} {p : Pos} {ifs : List Expr} {B : Value → Env → Sem Unit} {scope : Scope} {cl : List (PySem.Str × Addr)} {g : Comprehension} {s₂ : Shared} {I : Addr} {fp : List Addr} {n : Nat} {P : Nat → Value → Prop} {St : Nat → Heap → Prop}
    {RR : Value → Addr → Result → Shared → Prop}
    (heq : ∀ it acc env, compTurn e 0 it acc env = turnOf p target ifs (B acc env) e 0 it acc env) (hg : (clausesOf e)[0]? = some g) (ha : g.is_async = 0)
    (hf1 : ∀ it acc env, (Code.compLoop e 0 it acc env).isFrame = false) (hf2 : ∀ it acc env, (Code.compStart e 0 it acc env).isFrame = false) (hu1 : ∀ it acc env, A.under (.compLoop e 0 it acc env) = A) (hu2 : ∀ it acc env, A.under (.compStart e 0 it acc env) = A) (hq1 : ∀ it acc env, (Code.compLoop e 0 it acc env).quiet = true)
    (W : Walks prog w A I fp [I] n P St) (hcell : ∀ y ∈ scope.names, y.2 ≠ .cell) (hkind : scope.kind = .function) (hst : St 0 s₂.heap) (hfp : ∀ b ∈ fp, b < s₂.heap.objs.size)
    (Rr : Addr → Addr → Nat → List Value → Heap → Prop)
    (stab : ∀ C D i ys h h', (∀ b o, b ≠ I → b ≠ C → b ≠ D → h.get? b = some o → h'.get? b = some o) → Rr C D i ys h → Rr C D i ys h')
    (r0 : ∀ C D h, Rr C D 0 [] h)
    (turn : ∀ C D i ys s m v, i < n → P i v → s₂.heap.objs.size ≤ C → s₂.heap.objs.size ≤ D → C ≠ D → (∀ b o, b ≠ I → s₂.heap.get? b = some o → s.heap.get? b = some o) → s.heap.Ns C m → s.heap.get? D = some (LCg.lst ys) → St (i + 1) s.heap → Rr C D i ys s.heap → s₂.toks ≤ s.toks →
      wpAny (model prog w) A (letOwnedTupleGo target (.ref I) v) (fun _ s₃ => wpAny (model prog w) A (assign target (compEnvC scope cl C env) v) (fun _ s₄ => wpAny (model prog w) A (testsOf ifs (compEnvC scope cl C env))
        (fun ok s₅ => if ok = true then wpAny (model prog w) A (B (.ref D) (compEnvC scope cl C env)) (fun _ s₆ => ∃ ys', GrD C D s s₆ ∧ s₆.heap.get? D = some (LCg.lst ys') ∧ Rr C D (i + 1) ys' s₆.heap) noE s₅
          else ∃ ys', GrD C D s s₅ ∧ s₅.heap.get? D = some (LCg.lst ys') ∧ Rr C D (i + 1) ys' s₅.heap) noE s₄) noE s₃) noE s)
    (hRR : ∀ D C h' tk m' ys, s₂.heap.get? D = none → s₂.heap.get? C = none → D ≠ C → h'.Ns C m' → h'.get? D = some (LCg.lst ys) → Rr C D n ys h' → (∀ b o, b ≠ I → s₂.heap.get? b = some o → h'.get? b = some o) → RR (.ref D) C (.ok .next) { s₂ with heap := h', toks := tk }) :
    wpAny (model prog w) A (newList []) (fun acc s₃ => wpAny (model prog w) A (newFunctionEnv scope env.globals cl [] env.qual none .none (some env)) (fun cenv s₄ =>
      codeAny (model prog w) A (.compStart e 0 (.ref I) acc { cenv with scope := relabel scope env }) (RR acc cenv.locals) s₄) E s₃) E s₂ := by
  refine wpAny_newObj_type (wpAny_newFunctionEnv hcell (by intro y hy; simp at hy) (fun h₁ hns₁ hsb₁ => ?_) hkind)
  dsimp only at hns₁ hsb₁ ⊢
  obtain ⟨H2, hH2⟩ : ∃ H2, H2 = s₂.heap.push { cls := .type "list", dict := none, data := .seq ([] : List Value).toArray } := ⟨_, rfl⟩
  rw [← hH2] at hns₁ hsb₁ ⊢
  have hC0 : H2.objs.size = s₂.heap.objs.size + 1 := by rw [hH2, Heap.size_push]
  obtain ⟨C, hCe⟩ : ∃ C : Nat, C = H2.objs.size := ⟨_, rfl⟩
  obtain ⟨D, hDe⟩ : ∃ D : Nat, D = s₂.heap.objs.size := ⟨_, rfl⟩
  rw [← hCe] at hns₁ hsb₁ hC0 ⊢
  rw [← hDe] at hC0 ⊢
  have hIf : I ∈ fp := W.sub I (List.mem_singleton.mpr rfl)
  have below : ∀ b : Nat, b < s₂.heap.objs.size → b ≠ C ∧ b ≠ D := fun b hb => by omega
  have hfpC : ∀ b ∈ fp, b ≠ C ∧ b ≠ D := fun b hb => below b (hfp b hb)
  have hCD : C ≠ D := by omega
  have hDle : s₂.heap.objs.size ≤ D := Nat.le_of_eq hDe.symm
  have hCle : s₂.heap.objs.size ≤ C := by omega
  have old : ∀ b o, s₂.heap.get? b = some o → h₁.get? b = some o := fun b o eb => hsb₁.extBut b o (below b (Heap.lt_size eb)).1 (Heap.get?_push_of_some _ (by rw [hH2]; exact Heap.get?_push_of_some _ eb))
  have hacc : h₁.get? D = some (LCg.lst []) := by
    refine hsb₁.extBut _ _ (Ne.symm hCD) (Heap.get?_push_of_some _ ?_)
    rw [hH2, hDe]
    exact Heap.get?_push_size _ rfl
  have hst₁ : St 0 h₁ := W.frame _ _ _ hst fun b _ o eb => old b o eb
  have loop : codeAny (model prog w) A (.compLoop e 0 (.ref I) (.ref D) (compEnvC scope cl C env)) (RR (.ref D) C) { s₂ with heap := h₁, toks := s₂.toks + ([] : List (PySem.Str × Value)).length } := by
    refine loop_ok (heq _ _ _) (hf1 _ _ _) (hu1 _ _ _) (fun i s => ∃ h tk ys m, s = { s₂ with heap := h, toks := tk } ∧ St i h ∧ (∀ b o, b ≠ I → s₂.heap.get? b = some o → h.get? b = some o) ∧ h.Ns C m ∧ h.get? D = some (LCg.lst ys) ∧ Rr C D i ys h ∧ s₂.toks ≤ tk) n ?_ ?_
      ⟨h₁, _, [], _, rfl, hst₁, fun b o _ eb => old b o eb, hns₁, hacc, r0 _ _ _, Nat.le_add_right _ _⟩
    · rintro i s hi ⟨h, tk, ys, m, rfl, hst', hold, hn, hacc', hR, htk⟩
      refine wpAny_with_toks (n := s₂.toks) htk (W.item i _ _ _ hi hst' fun v h' tk' hP hst'' hk htk' => ?_)
      refine ⟨v, rfl, ?_⟩
      have hk' : ∀ b o, b ≠ I → h.get? b = some o → h'.get? b = some o := fun b o hb eb => hk b o (by simpa using hb) eb
      have hCI : C ≠ I := fun q => (hfpC I hIf).1 q.symm
      have hDI : D ≠ I := fun q => (hfpC I hIf).2 q.symm
      refine wpAny_mono (wpAny_toks_of (n := s₂.toks) htk' (turn C D i ys { s₂ with heap := h', toks := tk' } m v hi hP hCle hDle hCD (fun b o hb eb => hk' b o hb (hold b o hb eb)) (hn.at' fun o eb => hk' C o hCI eb) (hk' D _ hDI hacc') hst'' (stab _ _ _ _ _ _ (fun b o hb _ _ eb => hk' b o hb eb) hR) htk'))
        (fun _ s₃ h₃ => wpAny_mono (wpAny_toks_of h₃.1 h₃.2) (fun _ s₄ h₄ => wpAny_mono (wpAny_toks_of h₄.1 h₄.2) (fun ok s₅ h₅ => ?_) fun _ _ x => x.2) fun _ _ x => x.2) fun _ _ x => x.2
      have fin : ∀ s₆ : Shared, (∃ ys', GrD C D { s₂ with heap := h', toks := tk' } s₆ ∧ s₆.heap.get? D = some (LCg.lst ys') ∧ Rr C D (i + 1) ys' s₆.heap) → s₂.toks ≤ s₆.toks →
          ∃ h tk ys m, s₆ = { s₂ with heap := h, toks := tk } ∧ St (i + 1) h ∧ (∀ b o, b ≠ I → s₂.heap.get? b = some o → h.get? b = some o) ∧ h.Ns C m ∧ h.get? D = some (LCg.lst ys) ∧ Rr C D (i + 1) ys h ∧ s₂.toks ≤ tk := by
        rintro s₆ ⟨ys', ⟨h₆, tk₆, m₆, rfl, hk₆, hn₆⟩, hD₆, hR₆⟩ ht₆
        refine ⟨h₆, tk₆, ys', m₆, rfl, W.frame _ _ _ hst'' fun b hb o eb => hk₆ b o (hfpC b hb).1 (hfpC b hb).2 eb, fun b o hb eb => ?_, hn₆, hD₆, hR₆, ht₆⟩
        exact hk₆ b o (below b (Heap.lt_size eb)).1 (below b (Heap.lt_size eb)).2 (hk' b o hb (hold b o hb eb))
      cases ok with
      | true => exact wpAny_mono (wpAny_toks_of h₅.1 h₅.2) (fun _ s₆ h₆ => fin s₆ h₆.2 h₆.1) fun _ _ x => x.2
      | false => exact fin s₅ h₅.2 h₅.1
    · rintro s ⟨h, tk, ys, m, rfl, hst', hold, hn, hacc', hR, _⟩
      refine W.done _ _ _ hst' fun h' tk' hk => ⟨rfl, ?_⟩
      have hk' : ∀ b o, b ≠ I → h.get? b = some o → h'.get? b = some o := fun b o hb eb => hk b o (by simpa using hb) eb
      have hCI : C ≠ I := fun q => (hfpC I hIf).1 q.symm
      have hDI : D ≠ I := fun q => (hfpC I hIf).2 q.symm
      exact hRR D C h' tk' m ys (fresh_none hDle) (fresh_none hCle) (Ne.symm hCD) (hn.at' fun o eb => hk' C o hCI eb) (hk' D _ hDI hacc') (stab _ _ _ _ _ _ (fun b o hb _ _ eb => hk' b o hb eb) hR) fun b o hb eb => hk' b o hb (hold b o hb eb)
  exact start_ok hg ha (hf2 _ _ _) (hu2 _ _ _) (hq1 _ _ _) loop (W.self 0 _ _ _ hst₁ ⟨rfl, loop⟩)

theorem lc_blockB {e target : Expr} {p : Pos} {ifs : List Expr} {B : Value → Env → Sem Unit} {scope : Scope} {cl : List (PySem.Str × Addr)} {g : Comprehension} {s₂ : Shared} {I : Addr} {fp : List Addr} {n : Nat} {P : Nat → Value → Prop} {St : Nat → Heap → Prop}
    {RR : Value → Addr → Result → Shared → Prop}
    (heq : ∀ it acc env, compTurn e 0 it acc env = turnOf p target ifs (B acc env) e 0 it acc env) (hg : (clausesOf e)[0]? = some g) (ha : g.is_async = 0)
    (hf1 : ∀ it acc env, (Code.compLoop e 0 it acc env).isFrame = false) (hf2 : ∀ it acc env, (Code.compStart e 0 it acc env).isFrame = false) (hu1 : ∀ it acc env, A.under (.compLoop e 0 it acc env) = A) (hu2 : ∀ it acc env, A.under (.compStart e 0 it acc env) = A) (hq1 : ∀ it acc env, (Code.compLoop e 0 it acc env).quiet = true)
    (W : Walks prog w A I fp [I] n P St) (hcell : ∀ y ∈ scope.names, y.2 ≠ .cell) (hkind : scope.kind = .function) (hst : St 0 s₂.heap) (hfp : ∀ b ∈ fp, b < s₂.heap.objs.size)
    (Rr : Addr → Addr → Nat → List Value → Heap → Prop)
    (stab : ∀ C D i ys h h', (∀ b o, b ≠ I → b ≠ C → b ≠ D → h.get? b = some o → h'.get? b = some o) → Rr C D i ys h → Rr C D i ys h')
    (r0 : ∀ C D h, Rr C D 0 [] h)
    (turn : ∀ C D i ys s m v, i < n → P i v → s₂.heap.objs.size ≤ C → s₂.heap.objs.size ≤ D → C ≠ D → (∀ b o, b ≠ I → s₂.heap.get? b = some o → s.heap.get? b = some o) → s.heap.Ns C m → s.heap.get? D = some (LCg.lst ys) → St (i + 1) s.heap → Rr C D i ys s.heap →
      wpAny (model prog w) A (letOwnedTupleGo target (.ref I) v) (fun _ s₃ => wpAny (model prog w) A (assign target (compEnvC scope cl C env) v) (fun _ s₄ => wpAny (model prog w) A (testsOf ifs (compEnvC scope cl C env))
        (fun ok s₅ => if ok = true then wpAny (model prog w) A (B (.ref D) (compEnvC scope cl C env)) (fun _ s₆ => ∃ ys', GrD C D s s₆ ∧ s₆.heap.get? D = some (LCg.lst ys') ∧ Rr C D (i + 1) ys' s₆.heap) noE s₅
          else ∃ ys', GrD C D s s₅ ∧ s₅.heap.get? D = some (LCg.lst ys') ∧ Rr C D (i + 1) ys' s₅.heap) noE s₄) noE s₃) noE s)
    (hRR : ∀ D C h' tk m' ys, s₂.heap.get? D = none → s₂.heap.get? C = none → D ≠ C → h'.Ns C m' → h'.get? D = some (LCg.lst ys) → Rr C D n ys h' → (∀ b o, b ≠ I → s₂.heap.get? b = some o → h'.get? b = some o) → RR (.ref D) C (.ok .next) { s₂ with heap := h', toks := tk }) :
    wpAny (model prog w) A (newList []) (fun acc s₃ => wpAny (model prog w) A (newFunctionEnv scope env.globals cl [] env.qual none .none (some env)) (fun cenv s₄ =>
      codeAny (model prog w) A (.compStart e 0 (.ref I) acc { cenv with scope := relabel scope env }) (RR acc cenv.locals) s₄) E s₃) E s₂ :=
  lc_blockT heq hg ha hf1 hf2 hu1 hu2 hq1 W hcell hkind hst hfp Rr stab r0 (fun C D i ys s m v a1 a2 a3 a4 a5 a6 a7 a8 a9 a10 _ => turn C D i ys s m v a1 a2 a3 a4 a5 a6 a7 a8 a9 a10) hRR

/-- what an iterable gives -/
def Src (prog : Program) (w : World) (A : Around) (xv : Value) (n : Nat) (P : Nat → Value → Prop) (T : Heap → Addr → Prop) (s₁ : Shared) : Prop :=
  ∀ (Q E : Value → Shared → Prop), (∀ I fp St h₂, Walks prog w A I fp [I] n P St → St 0 h₂ → (∀ b ∈ fp, b < h₂.objs.size) → Ext s₁.heap h₂ → s₁.heap.get? I = none → (∀ i h, St i h → T h I) → (∀ b ∈ fp, b = I ∨ xv = .ref b) → Q (.ref I) { s₁ with heap := h₂ }) →
    wpAny (model prog w) A (pyIter xv) Q E s₁
def anyT (_ : Heap) (_ : Addr) : Prop := True
def listT (h : Heap) (I : Addr) : Prop := ∃ l j, h.IsListIter I l j

def liveT (h : Heap) (I : Addr) : Prop := ∃ o, h.get? I = some o
theorem src_str {s₁ : Shared} {x : PySem.Str} {l : List Nat} {t : Tok} (hh : A.handled = none) (hx : x = tx l) : Src prog w A (.str x t) l.length (fun i v => ∃ c u, l[i]? = some c ∧ v = .str (tx [c]) u) liveT s₁ := by
  subst hx
  intro Q E h
  have e : (tx l).cps.size = l.length := by simp [tx]
  have sign : ∀ {i v}, SignAt (tx l) i v → ∃ c u, l[i]? = some c ∧ v = .str (tx [c]) u := fun {i v} hP => by
    obtain ⟨c, u, hc, rfl⟩ := hP
    exact ⟨c, u, by simpa [tx] using hc, rfl⟩
  have fpl : ∀ b ∈ [s₁.heap.objs.size], b < s₁.heap.objs.size + 1 := fun b hb => by rw [List.mem_singleton.mp hb]; exact Nat.lt_succ_self _
  cases ha : (tx l).cps.all (· < 128) with
  | false =>
    have W := Walks.strWide (prog := prog) (w := w) hh s₁.heap.objs.size (tx l) t
    rw [e] at W
    exact wpAny_pyIter_wide ha (h _ _ _ _ ⟨W.sub, W.frame, fun i s Q E hi hs hQ => W.item i s Q E hi hs fun v h' tk hP => hQ v h' tk (sign hP), W.done, W.self⟩ ⟨_, Heap.get?_push_size _ rfl, rfl, rfl⟩ (fun b hb => by rw [Heap.size_push]; exact fpl b hb) (fun b o eb => Heap.get?_push_of_some _ eb) (fresh_none (Nat.le_refl _)) (fun _ _ st => let ⟨o, ho, _⟩ := st; ⟨o, ho⟩) (fun b hb => .inl (List.mem_singleton.mp hb)))
  | true =>
    have W := Walks.strAscii (prog := prog) (w := w) hh s₁.heap.objs.size (tx l) t
    rw [e] at W
    exact wpAny_pyIter_ascii ha (h _ _ _ _ ⟨W.sub, W.frame, fun i s Q E hi hs hQ => W.item i s Q E hi hs fun v h' tk hP => hQ v h' tk (sign hP), W.done, W.self⟩ ⟨_, Heap.get?_push_size _ rfl, rfl, rfl⟩ (fun b hb => by rw [Heap.size_push]; exact fpl b hb) (fun b o eb => Heap.get?_push_of_some _ eb) (fresh_none (Nat.le_refl _)) (fun _ _ st => let ⟨o, ho, _⟩ := st; ⟨o, ho⟩) (fun b hb => .inl (List.mem_singleton.mp hb)))
theorem src_list {s₁ : Shared} {l : Addr} {ys : List Value} (hh : A.handled = none) (hl : s₁.heap.IsList l ys.toArray) : Src prog w A (.ref l) ys.length (fun i v => ys[i]? = some v) listT s₁ := by
  intro Q E h
  refine wpAny_pyIter_list hl ?_
  have hlt : l < s₁.heap.objs.size := by obtain ⟨o, ho, _⟩ := hl; exact Heap.lt_size ho
  have W := Walks.list (prog := prog) (w := w) hh s₁.heap.objs.size l (Nat.ne_of_lt hlt) ys.toArray
  have e : ys.toArray.size = ys.length := by simp
  rw [e] at W
  refine h _ _ _ _ ⟨W.sub, W.frame, fun i s Q E hi hs hQ => W.item i s Q E hi hs fun v h' tk hP => hQ v h' tk (by simpa using hP), W.done, W.self⟩ ⟨⟨_, Heap.get?_push_size _ rfl, rfl, rfl⟩, ?_⟩ (fun b hb => ?_) (fun b o eb => Heap.get?_push_of_some _ eb) (fresh_none (Nat.le_refl _)) (fun i h hst => ⟨_, _, hst.1⟩) (fun b hb => by
    simp only [List.mem_cons, List.not_mem_nil, or_false] at hb
    rcases hb with rfl | rfl
    · exact .inl rfl
    · exact .inr rfl)
  · obtain ⟨o, ho, r⟩ := hl
    exact ⟨o, Heap.get?_push_of_some _ ho, r⟩
  · rw [Heap.size_push]
    simp only [List.mem_cons, List.not_mem_nil, or_false] at hb
    rcases hb with rfl | rfl
    · exact Nat.lt_succ_self _
    · exact Nat.lt_succ_of_lt hlt

abbrev emitB (elt : Expr) (acc : Value) (env : Env) : Sem Unit := do let _ ← call (.builtin "list.append") [acc, ← eval elt env]

theorem lc_eval {elt target iter : Expr} {ifs : List Expr} {rest : List Comprehension} {scope : Scope} {cl : List (PySem.Str × Addr)} {pos : Pos} {s : Shared} {Q : Value → Shared → Prop}
    (hclos : closureFor scope env = pure cl) (hkind : scope.kind = .function) (hnames : ∀ y ∈ scope.names, y.2 = .local → scope.names.lookup y.1 = some .local) (hs : ∀ x, foldedSetIterable iter env x = pure x)
    (h : wpAny (model prog w) A (eval iter env) (fun xv s₁ => wpAny (model prog w) A (pyIter xv) (fun it s₂ => wpAny (model prog w) A (newList []) (fun acc s₃ => wpAny (model prog w) A (newFunctionEnv scope env.globals cl [] env.qual none .none (some env)) (fun cenv s₄ =>
      codeAny (model prog w) A (.compStart (.ListComp elt (⟨target, iter, ifs, 0⟩ :: rest) scope pos) 0 it acc { cenv with scope := relabel scope env }) (compPost (model prog w) A E none Q acc cenv.locals) s₄) E s₃) E s₂) E s₁) E s) :
    wpAny (model prog w) A (eval (.ListComp elt (⟨target, iter, ifs, 0⟩ :: rest) scope pos) env) Q E s := by
  rw [eval_ListComp]
  exact wpAny_comprehension_free (use := none) rfl hs hclos hkind hnames h
theorem lc_assign {elt target iter : Expr} {ifs : List Expr} {rest : List Comprehension} {scope : Scope} {cl : List (PySem.Str × Addr)} {pos spos py : Pos} {y : PySem.Str} {s : Shared} {Q : Flow → Shared → Prop}
    (hsw : swapsWith (.ListComp elt (⟨target, iter, ifs, 0⟩ :: rest) scope pos) (some (.Name y py)) spos.line env = pure true)
    (hclos : closureFor scope env = pure cl) (hkind : scope.kind = .function) (hnames : ∀ y ∈ scope.names, y.2 = .local → scope.names.lookup y.1 = some .local) (hs : ∀ x, foldedSetIterable iter env x = pure x)
    (h : wpAny (model prog w) A (eval iter env) (fun xv s₁ => wpAny (model prog w) A (pyIter xv) (fun it s₂ => wpAny (model prog w) A (newList []) (fun acc s₃ => wpAny (model prog w) A (newFunctionEnv scope env.globals cl [] env.qual none .none (some env)) (fun cenv s₄ =>
      codeAny (model prog w) A (.compStart (.ListComp elt (⟨target, iter, ifs, 0⟩ :: rest) scope pos) 0 it acc { cenv with scope := relabel scope env }) (compPost (model prog w) A E (some (assign (.Name y py) env)) (fun _ s' => Q .next s') acc cenv.locals) s₄) E s₃) E s₂) E s₁) E s) :
    wpAny (model prog w) A (exec (.Assign [.Name y py] (.ListComp elt (⟨target, iter, ifs, 0⟩ :: rest) scope pos) spos) env) Q E s := by
  rw [exec_Assign_Name_used _ _ _ _ hsw]
  refine wpAny_bind (wpAny_standAt (wpAny_bind ?_))
  refine wpAny_bind (wpAny_mono (wpAny_comprehension_free (use := some (assign (.Name y py) env)) (Q := fun _ s' => Q .next s') rfl hs hclos hkind hnames h) (fun _ s' hq => wpAny_pure (wpAny_pure hq)) fun _ _ e => e)

theorem lc_goT {elt target iter : Expr} {ifs : List Expr} {scope : Scope} {cl : List (PySem.Str × Addr)} {pos : Pos} {s₁ : Shared} {xv : Value} {n : Nat} {P : Nat → Value → Prop} {T : Heap → Addr → Prop} {RR : Value → Addr → Result → Shared → Prop}
    (hsrc : Src prog w A xv n P T s₁) (hn : n ≤ 1000000) (hu1 : ∀ it acc env, A.under (.compLoop (.ListComp elt [⟨target, iter, ifs, 0⟩] scope pos) 0 it acc env) = A) (hu2 : ∀ it acc env, A.under (.compStart (.ListComp elt [⟨target, iter, ifs, 0⟩] scope pos) 0 it acc env) = A)
    (hcell : ∀ y ∈ scope.names, y.2 ≠ .cell) (hkind : scope.kind = .function)
    (Rr : Addr → Addr → Addr → Nat → List Value → Heap → Prop) (hlen : ∀ I C D i ys h, Rr I C D i ys h → ys.length ≤ i)
    (stab : ∀ I C D i ys h h', (∀ b o, b ≠ I → b ≠ C → b ≠ D → h.get? b = some o → h'.get? b = some o) → Rr I C D i ys h → Rr I C D i ys h')
    (r0 : ∀ I C D h, Rr I C D 0 [] h)
    (turn : ∀ I C D i ys s m v, i < n → P i v → T s.heap I → I < s.heap.objs.size → I ≠ C → I ≠ D → C ≠ D → Ext s₁.heap s.heap → s₁.heap.get? C = none → s.heap.Ns C m → s.heap.get? D = some (LCg.lst ys) → Rr I C D i ys s.heap → s₁.toks ≤ s.toks →
      wpAny (model prog w) A (letOwnedTupleGo target (.ref I) v) (fun _ s₃ => wpAny (model prog w) A (assign target (compEnvC scope cl C env) v) (fun _ s₄ => wpAny (model prog w) A (testsOf ifs (compEnvC scope cl C env))
        (fun ok s₅ => if ok = true then wpAny (model prog w) A (eval elt (compEnvC scope cl C env)) (fun y s₆ => Gr C s s₆ ∧ Rr I C D (i + 1) (ys ++ [y]) s₆.heap) noE s₅
          else Gr C s s₅ ∧ Rr I C D (i + 1) ys s₅.heap) noE s₄) noE s₃) noE s)
    (hRR : ∀ I C D h' tk m' ys, s₁.heap.get? C = none → s₁.heap.get? D = none → D ≠ C → h'.Ns C m' → h'.get? D = some (LCg.lst ys) → Rr I C D n ys h' → Ext s₁.heap h' → RR (.ref D) C (.ok .next) { s₁ with heap := h', toks := tk }) :
    wpAny (model prog w) A (pyIter xv) (fun it s₂ => wpAny (model prog w) A (newList []) (fun acc s₃ => wpAny (model prog w) A (newFunctionEnv scope env.globals cl [] env.qual none .none (some env)) (fun cenv s₄ =>
      codeAny (model prog w) A (.compStart (.ListComp elt [⟨target, iter, ifs, 0⟩] scope pos) 0 it acc { cenv with scope := relabel scope env }) (RR acc cenv.locals) s₄) E s₃) E s₂) E s₁ := by
  refine hsrc _ _ fun I fp St h₂ W hst hfp hext hI hT _ => ?_
  have hIf : I ∈ fp := W.sub I (List.mem_singleton.mpr rfl)
  have hsub : ∀ {h : Heap}, (∀ b o, b ≠ I → h₂.get? b = some o → h.get? b = some o) → Ext s₁.heap h := fun hk b o eb => hk b o (fun q => by rw [q, hI] at eb; cases eb) (hext b o eb)
  have hnone : ∀ a, h₂.objs.size ≤ a → s₁.heap.get? a = none := fun a ha => by
    cases eb : s₁.heap.get? a with
    | none => rfl
    | some o => exact absurd (Heap.lt_size (hext a o eb)) (Nat.not_lt.mpr ha)
  refine lc_blockT (s₂ := { s₁ with heap := h₂ }) (B := fun acc env => emitB elt acc env) (p := iter.pos) (g := ⟨target, iter, ifs, 0⟩) (fun _ _ _ => rfl) rfl rfl (fun _ _ _ => rfl) (fun _ _ _ => rfl) hu1 hu2 (fun _ _ _ => rfl) W hcell hkind hst hfp (Rr I) (stab I) (r0 I) ?_ ?_
  · intro C D i ys s m v hi hP hC hD hCD hold hn hacc hst' hR htk
    have hIs : ∀ a, h₂.objs.size ≤ a → I ≠ a := fun a ha => Nat.ne_of_lt (Nat.lt_of_lt_of_le (hfp I hIf) ha)
    refine wpAny_mono (turn I C D i ys s m v hi hP (hT _ _ hst') (Nat.lt_trans (Nat.lt_of_lt_of_le (hfp I hIf) hD) (Heap.lt_size hacc)) (hIs C hC) (hIs D hD) hCD (hsub hold) (hnone C hC) hn hacc hR htk)
      (fun _ s₃ h₃ => wpAny_mono h₃ (fun _ s₄ h₄ => wpAny_mono h₄ (fun ok s₅ h₅ => ?_) fun _ _ x => x) fun _ _ x => x) fun _ _ x => x
    cases ok with
    | true =>
      refine wpAny_bind (wpAny_mono h₅ (fun y s₆ h₆ => ?_) fun _ _ x => x)
      obtain ⟨⟨h', tk, m', rfl, hk, hn'⟩, hR'⟩ := h₆
      have hlen' := hlen _ _ _ _ _ _ hR
      refine wpAny_bind (append_at (hk D _ (Ne.symm hCD) hacc) (fun h'' hs'' hD'' => wpAny_pure ⟨ys ++ [y], ⟨h'', tk, m', rfl, fun b o hbC hbD eb => hs''.extBut b o hbD (hk b o hbC eb), hn'.sameBut hs'' hCD⟩, hD''.trans (congrArg some (LCg.lst_snoc ys y)), stab _ _ _ _ _ _ _ (fun b o _ _ hbD eb => hs''.extBut b o hbD eb) hR'⟩) ?_)
      rw [List.size_toArray, PySem.sizeLine_eq]
      omega
    | false =>
      obtain ⟨⟨h', tk, m', rfl, hk, hn'⟩, hR'⟩ := h₅
      exact ⟨ys, ⟨h', tk, m', rfl, fun b o hbC _ eb => hk b o hbC eb, hn'⟩, hk D _ (Ne.symm hCD) hacc, hR'⟩
  · intro D C h' tk m' ys hD hC hDC hnC hacc hR hk
    have hnone' : ∀ a, h₂.get? a = none → s₁.heap.get? a = none := fun a ha => by
      cases eb : s₁.heap.get? a with
      | none => rfl
      | some o => have := hext a o eb; rw [ha] at this; cases this
    exact hRR I C D h' tk m' ys (hnone' C hC) (hnone' D hD) hDC hnC hacc hR (hsub hk)

theorem lc_go {elt target iter : Expr} {ifs : List Expr} {scope : Scope} {cl : List (PySem.Str × Addr)} {pos : Pos} {s₁ : Shared} {xv : Value} {n : Nat} {P : Nat → Value → Prop} {T : Heap → Addr → Prop} {RR : Value → Addr → Result → Shared → Prop}
    (hsrc : Src prog w A xv n P T s₁) (hn : n ≤ 1000000) (hu1 : ∀ it acc env, A.under (.compLoop (.ListComp elt [⟨target, iter, ifs, 0⟩] scope pos) 0 it acc env) = A) (hu2 : ∀ it acc env, A.under (.compStart (.ListComp elt [⟨target, iter, ifs, 0⟩] scope pos) 0 it acc env) = A)
    (hcell : ∀ y ∈ scope.names, y.2 ≠ .cell) (hkind : scope.kind = .function)
    (Rr : Addr → Addr → Addr → Nat → List Value → Heap → Prop) (hlen : ∀ I C D i ys h, Rr I C D i ys h → ys.length ≤ i)
    (stab : ∀ I C D i ys h h', (∀ b o, b ≠ I → b ≠ C → b ≠ D → h.get? b = some o → h'.get? b = some o) → Rr I C D i ys h → Rr I C D i ys h')
    (r0 : ∀ I C D h, Rr I C D 0 [] h)
    (turn : ∀ I C D i ys s m v, i < n → P i v → T s.heap I → I < s.heap.objs.size → I ≠ C → I ≠ D → C ≠ D → Ext s₁.heap s.heap → s₁.heap.get? C = none → s.heap.Ns C m → s.heap.get? D = some (LCg.lst ys) → Rr I C D i ys s.heap →
      wpAny (model prog w) A (letOwnedTupleGo target (.ref I) v) (fun _ s₃ => wpAny (model prog w) A (assign target (compEnvC scope cl C env) v) (fun _ s₄ => wpAny (model prog w) A (testsOf ifs (compEnvC scope cl C env))
        (fun ok s₅ => if ok = true then wpAny (model prog w) A (eval elt (compEnvC scope cl C env)) (fun y s₆ => Gr C s s₆ ∧ Rr I C D (i + 1) (ys ++ [y]) s₆.heap) noE s₅
          else Gr C s s₅ ∧ Rr I C D (i + 1) ys s₅.heap) noE s₄) noE s₃) noE s)
    (hRR : ∀ I C D h' tk m' ys, s₁.heap.get? C = none → s₁.heap.get? D = none → D ≠ C → h'.Ns C m' → h'.get? D = some (LCg.lst ys) → Rr I C D n ys h' → Ext s₁.heap h' → RR (.ref D) C (.ok .next) { s₁ with heap := h', toks := tk }) :
    wpAny (model prog w) A (pyIter xv) (fun it s₂ => wpAny (model prog w) A (newList []) (fun acc s₃ => wpAny (model prog w) A (newFunctionEnv scope env.globals cl [] env.qual none .none (some env)) (fun cenv s₄ =>
      codeAny (model prog w) A (.compStart (.ListComp elt [⟨target, iter, ifs, 0⟩] scope pos) 0 it acc { cenv with scope := relabel scope env }) (RR acc cenv.locals) s₄) E s₃) E s₂) E s₁ :=
  lc_goT hsrc hn hu1 hu2 hcell hkind Rr hlen stab r0 (fun I C D i ys s m v a1 a2 a3 a4 a5 a6 a7 a8 a9 a10 a11 a12 _ => turn I C D i ys s m v a1 a2 a3 a4 a5 a6 a7 a8 a9 a10 a11 a12) hRR

/-- as a value -/
theorem lc_E {C D : Addr} {s₁ : Shared} {h' : Heap} {tk : Nat} {m' : PySem.Str → Option Value} {ys : List Value} {Q : Value → Shared → Prop} {Rr : Heap → Prop}
    (hC : s₁.heap.get? C = none) (hDC : D ≠ C) (hnC : h'.Ns C m') (hacc : h'.get? D = some (LCg.lst ys)) (hk : Ext s₁.heap h') (hR : Rr h') (stab : ∀ h h', (∀ b o, b ≠ C → h.get? b = some o → h'.get? b = some o) → Rr h → Rr h')
    (hQ : ∀ h'', h''.get? D = some (LCg.lst ys) → Rr h'' → Ext s₁.heap h'' → Q (.ref D) { s₁ with heap := h'', toks := tk }) :
    compPost (model prog w) A E none Q (.ref D) C (.ok .next) { s₁ with heap := h', toks := tk } :=
  ⟨m', hnC, fun h'' hs'' => hQ h'' (hs''.extBut D _ hDC hacc) (stab _ _ (fun b o hb eb => hs''.extBut b o hb eb) hR) fun b o eb => hs''.extBut b o (fun q => by rw [q, hC] at eb; cases eb) (hk b o eb)⟩
/-- stored under a local name -/
theorem lc_A {C D L : Addr} {s₁ : Shared} {h' : Heap} {tk : Nat} {m m' : PySem.Str → Option Value} {ys : List Value} {y : PySem.Str} {py : Pos} {Q : Shared → Prop} {Rr : Heap → Prop}
    (hy : env.kindOf y = some .local) (hkf : env.scope.kind = .function) (hL : env.locals = L)
    (hC : s₁.heap.get? C = none) (hD : s₁.heap.get? D = none) (hDC : D ≠ C) (hnC : h'.Ns C m') (hacc : h'.get? D = some (LCg.lst ys)) (hk : Ext s₁.heap h') (hn : s₁.heap.Ns L m) (hR : Rr h') (stab : ∀ h h', (∀ b o, b ≠ C → b ≠ L → h.get? b = some o → h'.get? b = some o) → Rr h → Rr h')
    (hQ : ∀ h'' tk', h''.get? D = some (LCg.lst ys) → Rr h'' → h''.Ns L (fun z => if z = y then some (.ref D) else m z) → (∀ b o, b ≠ L → s₁.heap.get? b = some o → h''.get? b = some o) → Q { s₁ with heap := h'', toks := tk' }) :
    compPost (model prog w) A E (some (assign (.Name y py) env)) (fun _ s' => Q s') (.ref D) C (.ok .next) { s₁ with heap := h', toks := tk } := by
  have hLs : ∃ o, s₁.heap.get? L = some o := let ⟨o, _, _, ho, _⟩ := hn; ⟨o, ho⟩
  obtain ⟨oL, hoL⟩ := hLs
  have hLC : L ≠ C := fun q => by rw [q, hC] at hoL; cases hoL
  have hLD : L ≠ D := fun q => by rw [q, hD] at hoL; cases hoL
  subst hL
  show wpAny _ A (assign (.Name y py) env (.ref D)) _ _ _
  refine wpAny_assign_Name (wpAny_storeName_local hy (hn.keeps hk) (fun h₂ hn₂ hs₂ => ?_) (by rw [hkf]; rfl))
  refine ⟨m', hnC.sameBut hs₂ (Ne.symm hLC), fun h₃ hs₃ => ?_⟩
  exact hQ h₃ _ (hs₃.extBut D _ hDC (hs₂.extBut D _ (Ne.symm hLD) hacc)) (stab _ _ (fun b o hbC hbL eb => hs₃.extBut b o hbC (hs₂.extBut b o hbL eb)) hR) (hn₂.sameBut hs₃ hLC) fun b o hbL eb =>
    hs₃.extBut b o (fun q => by rw [q, hC] at eb; cases eb) (hs₂.extBut b o hbL (hk b o eb))
end
section
variable {prog : Program} {w : World} {A : Around} {E : Value → Shared → Prop} {env : Env}

theorem letOwned_name {M : Model} {x : PySem.Str} {px : Pos} {it v : Value} {Q : Unit → Shared → Prop} {s : Shared} (h : Q () s) : wpAny M A (letOwnedTupleGo (.Name x px) it v) Q E s := wpAny_pure h
/-- the bound sign in a comprehension's own block -/
theorem bind_x {M : Model} {x : PySem.Str} {px : Pos} {scope : Scope} {cl : List (PySem.Str × Addr)} {C : Addr} {v : Value} {m : PySem.Str → Option Value} {Q : Unit → Shared → Prop} {s : Shared} (hx : scope.names.lookup x = some .local) (hkind : scope.kind = .function) (hn : s.heap.Ns C m)
    (h : ∀ h' tk, h'.Ns C (fun y => if y = x then some v else m y) → (∀ b o, b ≠ C → s.heap.get? b = some o → h'.get? b = some o) → Q () { s with heap := h', toks := tk }) :
    wpAny M A (assign (.Name x px) (compEnvC scope cl C env) v) Q E s :=
  wpAny_assign_Name (wpAny_storeName_local (env := compEnvC scope cl C env) (lookup_relabel_local hx) hn (fun h' hn' hs' => h h' _ hn' hs'.extBut) (by simp [compEnvC, relabel, hkind]))

theorem lc_filter {scope : Scope} {iter : Expr} {ifs : List Expr} {x : PySem.Str} {px px' pos : Pos} {s₁ : Shared} {l : List Nat} {t : Tok} {Q : Value → Shared → Prop} (p : Nat → Bool)
    (hh : A.handled = none) (hn : l.length ≤ 1000000) (hu1 : ∀ it acc env, A.under (.compLoop (.ListComp (.Name x px') [⟨.Name x px, iter, ifs, 0⟩] scope pos) 0 it acc env) = A) (hu2 : ∀ it acc env, A.under (.compStart (.ListComp (.Name x px') [⟨.Name x px, iter, ifs, 0⟩] scope pos) 0 it acc env) = A)
    (hcell : ∀ y ∈ scope.names, y.2 ≠ .cell) (hkind : scope.kind = .function) (hx : scope.names.lookup x = some .local) (hdb : (x == ("__debug__" : PySem.Str)) = false)
    (tests : ∀ C c u s m, Ext s₁.heap s.heap → s.heap.Ns C m → m x = some (.str (tx [c]) u) → c ∈ l → wpAny (model prog w) A (testsOf ifs (compEnvC scope [] C env)) (fun ok s' => ok = p c ∧ ∃ h' tk, s' = { s with heap := h', toks := tk } ∧ Ext s.heap h') noE s)
    (hQ : ∀ D h' tk ys, h'.get? D = some (LCg.lst ys) → ys.length = (l.filter p).length → Ext s₁.heap h' → Q (.ref D) { s₁ with heap := h', toks := tk }) :
    wpAny (model prog w) A (pyIter (.str (tx l) t)) (fun it s₂ => wpAny (model prog w) A (newList []) (fun acc s₃ => wpAny (model prog w) A (newFunctionEnv scope env.globals [] [] env.qual none .none (some env)) (fun cenv s₄ =>
      codeAny (model prog w) A (.compStart (.ListComp (.Name x px') [⟨.Name x px, iter, ifs, 0⟩] scope pos) 0 it acc { cenv with scope := relabel scope env }) (compPost (model prog w) A E none Q acc cenv.locals) s₄) E s₃) E s₂) E s₁ := by
  refine lc_go (src_str hh rfl) hn hu1 hu2 hcell hkind (fun _ _ _ i ys _ => ys.length = ((l.take i).filter p).length) ?_ (fun _ _ _ _ _ _ _ _ h => h) (fun _ _ _ _ => rfl) ?_ ?_
  · intro I C D i ys h e
    rw [e]
    exact Nat.le_trans (List.length_filter_le ..) (by rw [List.length_take]; exact Nat.min_le_left _ _)
  · rintro I C D i ys s m v hi ⟨c, u, hc, rfl⟩ _ hIs hIC hID hCD hext hC1 hnC hD hlen
    refine letOwned_name (bind_x hx hkind hnC fun h₂ tk₂ hn₂ hk₂ => ?_)
    have hext2 : Ext s₁.heap h₂ := fun b o eb => hk₂ b o (fun q => by rw [q, hC1] at eb; cases eb) (hext b o eb)
    refine wpAny_mono (tests C c u { s with heap := h₂, toks := tk₂ } _ hext2 hn₂ (by simp) (List.mem_of_getElem? hc)) (fun ok s₅ h₅ => ?_) fun _ _ x => x
    obtain ⟨rfl, h₃, tk₃, rfl, hk₃⟩ := h₅
    have htake : (l.take (i + 1)).filter p = (l.take i).filter p ++ (if p c then [c] else []) := by
      rw [List.take_add_one, hc, List.filter_append]
      cases hp : p c <;> simp [hp]
    cases hp : p c with
    | true =>
      simp only [if_true]
      have hn₃ := hn₂.keeps hk₃
      refine wpAny_Name (wpAny_loadName_local (env := compEnvC scope [] C env) hkind (lookup_relabel_local hx) hn₃ (v := .str (tx [c]) u) (by simp) ⟨⟨h₃, tk₃, _, rfl, fun b o hb eb => hk₃ b o (hk₂ b o hb eb), hn₃⟩, ?_⟩) hdb
      rw [htake, hp, List.length_append, List.length_append, hlen]; rfl
    | false =>
      simp only [Bool.false_eq_true, if_false]
      refine ⟨⟨h₃, tk₃, _, rfl, fun b o hb eb => hk₃ b o (hk₂ b o hb eb), hn₂.keeps hk₃⟩, ?_⟩
      rw [htake, hp, hlen]; simp
  · intro I C D h' tk m' ys hC hD hDC hnC hacc hlen hk
    have hlen' : ys.length = (l.filter p).length := by rw [hlen, List.take_length]
    exact lc_E (Rr := fun _ => True) hC hDC hnC hacc hk True.intro (fun _ _ _ h => h) fun h'' hD'' _ hk'' => hQ D h'' tk ys hD'' hlen' hk''
end

def sizeI (l nm : List Nat) (R : Int) : Int := (6 + (odd nm : Int)) * R ^ 2 + ((nm.length : Int) - odd nm + 1) * R + l.length + 2 * R * codes l + 2 * (R - 1) * blanks l

set_option maxHeartbeats 1000000 in
theorem law_size {prog : Program} {w : World} {A : Around} {E : Value → Shared → Prop} {s : Shared} {l nm : List Nat} {R : Int} {t u v : Tok} {Q : Value → Shared → Prop} (W : Wd w s.heap) (Rm' : Rm A 2 6) (hl : l.length ≤ 1000) (hnm : nm.length ≤ 1000) (h0 : 0 ≤ R) (hR : R ≤ 1000000000001)
    (h : ∀ h' tk t', Ext s.heap h' → Q (.int (sizeI l nm R) t') { s with heap := h', toks := tk }) : wpAny (model prog w) A (call (.ref 125) [.str (tx l) t, .str (tx nm) u, .int R v]) Q E s := by
  refine enter (d := 1) (u := 3) (binds := [(PySem.Str.ofString "text", Value.str (tx l) t), (PySem.Str.ofString "name", Value.str (tx nm) u), (PySem.Str.ofString "rounds", Value.int R v)]) W Rm' (by with_unfolding_all rfl) (by with_unfolding_all rfl) (BindsTo.of_eq rfl) (locs rfl) rfl rfl rfl (by decide) fun h₁ tk F W' R' htk => ?_
  repeat' walk_at "st"
  with_reducible refine lc_eval (cl := []) (by with_unfolding_all rfl) rfl (by decide) (by intro _; with_unfolding_all rfl) ?_
  repeat' walk_at "st"
  refine lc_filter (fun c => !safe c) R'.hh (by omega) (fun _ _ _ => rfl) (fun _ _ _ => rfl) (by decide) rfl rfl (by decide) ?_ ?_
  · intro C c u s₂ m hext hn hm hc
    have W₂ := W'.keeps hext
    repeat' walk_at "st"
    refine ⟨W₂, law_safe W₂ R'.mono fun h₂ tk₂ k₂ => wpAny_truthy_bool ⟨rfl, _, _, rfl, k₂⟩⟩
  intro D h₂ tk₂ ys hD hlen hk
  have F := F.keeps hk
  clear W' hk
  repeat' walk_at "st"
  refine len_lst hD (by rw [hlen]; exact Nat.le_trans (List.length_filter_le ..) (by omega)) fun t₃ k₃ => ?_
  rw [hlen]
  clear hD hlen
  with_reducible refine stL F (by with_unfolding_all rfl) (by with_unfolding_all rfl) (by with_unfolding_all rfl) fun h₃ F hk₃ => ?_
  repeat' walk_at "st"
  with_reducible refine lc_eval (cl := []) (by with_unfolding_all rfl) rfl (by decide) (by intro _; with_unfolding_all rfl) ?_
  repeat' walk_at "st"
  refine lc_filter (fun c => !safe c && c != 32) R'.hh (by omega) (fun _ _ _ => rfl) (fun _ _ _ => rfl) (by decide) rfl rfl (by decide) ?_ ?_
  · intro C c u s₂ m hext hn hm hc
    have W₂ := (W.keeps F.keep).keeps hext
    repeat' walk_at "st"
    refine ⟨W₂, law_safe W₂ R'.mono fun h₂ tk₂ k₂ => wpAny_truthy_bool ?_⟩
    have hn₂ := hn.keeps k₂
    cases hs : safe c with
    | true => exact ⟨rfl, _, _, rfl, k₂⟩
    | false =>
      refine ite_tt ?_
      repeat' walk_at "st"
      with_reducible refine ne_l lit_sp ?_
      repeat' walk_at "st"
      refine ite_decN (fun h32 => ?_) (fun h32 => ?_)
      · repeat' walk_at "st"
        exact ⟨by simp [h32], _, _, rfl, k₂⟩
      · exact ⟨by simp [h32], _, _, rfl, k₂⟩
  intro D h₂ tk₂ ys hD hlen hk
  have F := F.keeps hk
  clear hk
  repeat' walk_at "st"
  refine len_lst hD (by rw [hlen]; exact Nat.le_trans (List.length_filter_le ..) (by omega)) fun t₃ k₃ => ?_
  rw [hlen]
  clear hD hlen
  with_reducible refine stL F (by with_unfolding_all rfl) (by with_unfolding_all rfl) (by with_unfolding_all rfl) fun h₄ F hk₄ => ?_
  repeat' walk_at "st"
  with_reducible refine lc_eval (cl := []) (by with_unfolding_all rfl) rfl (by decide) (by intro _; with_unfolding_all rfl) ?_
  repeat' walk_at "st"
  refine lc_filter (fun c => c == 32) R'.hh (by omega) (fun _ _ _ => rfl) (fun _ _ _ => rfl) (by decide) rfl rfl (by decide) ?_ ?_
  · intro C c u s₂ m hext hn hm hc
    repeat' walk_at "st"
    with_reducible refine eq_l lit_sp ?_
    repeat' walk_at "st"
    exact ⟨by rw [Bool.eq_iff_iff]; simp, _, _, rfl, fun _ _ e => e⟩
  intro D h₂ tk₂ ys hD hlen hk
  have F := F.keeps hk
  clear hk
  repeat' walk_at "st"
  refine len_lst hD (by rw [hlen]; exact Nat.le_trans (List.length_filter_le ..) (by omega)) fun t₃ k₃ => ?_
  rw [hlen]
  clear hD hlen
  with_reducible refine stL F (by with_unfolding_all rfl) (by with_unfolding_all rfl) (by with_unfolding_all rfl) fun h₅ F hk₅ => ?_
  have ho : (nm.filter fun c => !safe c).length ≤ 1000 := Nat.le_trans (List.length_filter_le ..) hnm
  have hc : (l.filter fun c => !safe c && c != 32).length ≤ 1000 := Nat.le_trans (List.length_filter_le ..) hl
  have hb : (l.filter fun c => c == 32).length ≤ 1000 := Nat.le_trans (List.length_filter_le ..) hl
  repeat' walk_at "st"
  refine pow_int (by decide) (by have := intBits_le_64 (k := R) (by omega) (by omega); omega) ?_
  refine mulL (by omega) (by omega) ?_
  repeat' walk_at "st"
  refine len_tx (by omega) fun t₆ k₆ => ?_
  repeat' walk_at "st"
  refine mulL (by omega) (by omega) ?_
  repeat' walk_at "st"
  refine len_tx (by omega) fun t₆ k₆ => ?_
  repeat' walk_at "st"
  refine mulL (by omega) (by omega) ?_
  repeat' walk_at "st"
  refine mulR (by omega) (by omega) ?_
  repeat' walk_at "st"
  refine mulL (by omega) (by omega) ?_
  repeat' walk_at "st"
  refine mulR (by omega) (by omega) ?_
  repeat' walk_at "st"
  exact h _ _ _ F.keep
section
variable {prog : Program} {w : World} {A : Around} {E : Value → Shared → Prop} {env : Env} {s : Shared}

/-- a def whose block has cells is entered -/
theorem enterC {f : Addr} {args : List Value} {name qual : PySem.Str} {params : Arguments} {body : List Stmt} {scope : Scope} {dV kV doc pm cdv ct oc : Value} {an od : Option Addr} {osl : Array (Option Value)}
    {binds : List (PySem.Str × Value)} {Q : Value → Shared → Prop} {d u : Nat}
    (W : Wd w s.heap) (R : Rm A (d + 1) (u + 3))
    (ho : (hd.heap_39 w.params).lookup f = some ⟨oc, od, .func (fnOf name qual params body scope dV kV doc pm an cdv ct), osl⟩) (hcd : codeIn (hd.heap_39 w.params) cdv qual = true)
    (hbind : bindArgs (fnOf name qual params body scope dV kV doc pm an cdv ct) ⟨args, []⟩ = pure binds)
    (hkind : ∀ x ∈ binds, scope.names.lookup x.1 = some .local ∨ (scope.names.lookup x.1 = some .cell ∧ ((cellsFrom (s.heap.objs.size + 1) scope.names []).lookup x.1).isSome = true))
    (hco : scope.isCoroutine = false) (hgen : scope.isGenerator = false) (hk : scope.kind = .function)
    (h : ∀ h₁ tk, Fr s.heap s.heap.objs.size h₁ (bindL (envOfC qual scope s.heap.objs.size f cdv).kindOf binds fun _ => none) →
      (∀ n c, (cellsFrom (s.heap.objs.size + 1) scope.names []).lookup n = some c → h₁.IsCell c (bindC (envOfC qual scope s.heap.objs.size f cdv).kindOf binds (fun _ => none) n)) →
      Wd w h₁ → Rm (A.deeper (envOfC qual scope s.heap.objs.size f cdv)) d u →
      wpAny (model prog w) (A.deeper (envOfC qual scope s.heap.objs.size f cdv)) (execs body (envOfC qual scope s.heap.objs.size f cdv))
        (fun fl s' => Q (match fl with | .ret v => v | _ => .none) s') (fun _ _ => False) { s with heap := h₁, toks := tk }) :
    wpAny (model prog w) A (call (.ref f) args) Q E s := by
  refine wpAny_call (codeAny_call_cells (fd := fnOf name qual params body scope dV kV doc pm an cdv ct) (body := body) (binds := binds) R.room (W.X _ _ ho) rfl W.lim (codeRec_of W.X hcd) rfl hbind rfl hkind (fun s₁ x => ?_) hco hgen hk)
  obtain ⟨h₁, tk, e⟩ := x.toInCall.same
  subst e
  exact wpAny_mono (h h₁ tk ⟨x.toInCall.ns, x.toInCall.keep, Nat.le_refl _⟩ x.cell (W.keeps x.toInCall.keep) (R.deeper _)) (fun _ _ x => x) fun _ _ x => x.elim

theorem src_range {s₁ : Shared} {r : Addr} {n : Nat} {t u v : Tok} (hh : A.handled = none) (hr : IsRange s₁.heap r 0 (n : Int) 1 t u v) (hn : n ≤ 1000000) : Src prog w A (.ref r) n (fun i v => ∃ t, v = .int (i : Int) t) liveT s₁ := by
  intro Q E h
  have hsz : Builtin.Range.rangeSize 0 (n : Int) 1 = (n : Int) := by rw [rangeSize_nat]; omega
  refine wpAny_pyIter_range hr (small_one (by omega) (by omega) (by omega) (by omega)) ?_
  have W := Walks.range (prog := prog) (w := w) hh s₁.heap.objs.size 0 1 n
  refine h _ _ _ _ ⟨W.sub, W.frame, fun i s Q E hi hs hQ => W.item i s Q E hi hs fun v h' tk hP => hQ v h' tk ?_, W.done, W.self⟩ ?_ (fun b hb => ?_) (fun b o eb => Heap.get?_push_of_some _ eb) (fresh_none (Nat.le_refl _)) (fun _ _ st => ⟨_, st⟩) (fun b hb => .inl (List.mem_singleton.mp hb))
  · obtain ⟨t, rfl⟩ := hP
    exact ⟨t, by simp⟩
  · show IsRangeIter _ _ _ _ _
    rw [hsz]
    simpa using Heap.get?_push_size _ rfl
  · rw [List.mem_singleton.mp hb, Heap.size_push]; exact Nat.lt_succ_self _
theorem call_range {n : Int} {t : Tok} {Q : Value → Shared → Prop} (h : ∀ r u v tk h', IsRange h' r 0 n 1 u t v → Ext s.heap h' → s.heap.get? r = none → Q (.ref r) { s with heap := h', toks := tk }) :
    wpAny (model prog w) A (call (.type "range") [.int n t]) Q E s :=
  call_range_1 (h _ _ _ _ _ (Heap.get?_push_size _ rfl) (fun _ _ eb => Heap.get?_push_of_some _ eb) (fresh_none (Nat.le_refl _)))

def TupAt (h : Heap) (a : Addr) (c : Nat) (k : Int) : Prop := ∃ t u o, h.get? a = some o ∧ o.cls = .type "tuple" ∧ ∃ n, o.data = .seq #[.str (tx [c]) t, .int k u] n
/-- the tuples of signs and rounds that a list holds; where none of them stands -/
def Tl (no : List Addr) (xs : List (Nat × Int)) (ys : List Value) (h : Heap) : Prop := ∃ as : List Addr, ys = as.map Value.ref ∧ as.length = xs.length ∧ (∀ (j : Nat) a c k, as[j]? = some a → xs[j]? = some (c, k) → TupAt h a c k) ∧ ∀ a ∈ as, a ∉ no ∧ ∃ o, h.get? a = some o
theorem TupAt.at {h h' : Heap} {a : Addr} {c : Nat} {k : Int} (x : TupAt h a c k) (e : ∀ o, h.get? a = some o → h'.get? a = some o) : TupAt h' a c k := let ⟨t, u, o, ho, r⟩ := x; ⟨t, u, o, e o ho, r⟩
theorem Tl.nil {no : List Addr} {h : Heap} : Tl no [] [] h := ⟨[], rfl, rfl, fun j a c k e => by simp at e, fun a ha => by simp at ha⟩
theorem Tl.length {no : List Addr} {xs : List (Nat × Int)} {ys : List Value} {h : Heap} (x : Tl no xs ys h) : ys.length = xs.length := let ⟨as, e, l, _⟩ := x; by rw [e, List.length_map, l]
theorem Tl.stab {no : List Addr} {xs : List (Nat × Int)} {ys : List Value} {h h' : Heap} (x : Tl no xs ys h) (k : ∀ b o, b ∉ no → h.get? b = some o → h'.get? b = some o) : Tl no xs ys h' :=
  let ⟨as, e, l, t, d⟩ := x
  ⟨as, e, l, fun j a c kk ha hx => (t j a c kk ha hx).at fun o ho => k a o (d a (List.mem_of_getElem? ha)).1 ho, fun a ha => ⟨(d a ha).1, let ⟨o, ho⟩ := (d a ha).2; ⟨o, k a o (d a ha).1 ho⟩⟩⟩
theorem Tl.less {no no' : List Addr} {xs : List (Nat × Int)} {ys : List Value} {h : Heap} (x : Tl no xs ys h) (k : ∀ b ∈ no', b ∈ no ∨ h.get? b = none) : Tl no' xs ys h := by
  obtain ⟨as, e, l, t, d⟩ := x
  refine ⟨as, e, l, t, fun a ha => ⟨fun hb => ?_, (d a ha).2⟩⟩
  rcases k a hb with hc | hc
  · exact (d a ha).1 hc
  · obtain ⟨o, ho⟩ := (d a ha).2
    rw [hc] at ho
    cases ho
theorem Tl.snoc {no : List Addr} {xs : List (Nat × Int)} {ys : List Value} {h : Heap} {a : Addr} {c : Nat} {k : Int} (x : Tl no xs ys h) (ha : TupAt h a c k) (hn : a ∉ no) : Tl no (xs ++ [(c, k)]) (ys ++ [.ref a]) h := by
  obtain ⟨as, e, l, t, d⟩ := x
  refine ⟨as ++ [a], by rw [e]; simp, by simp [l], fun j b c' k' hb hx => ?_, fun b hb => ?_⟩
  · rcases Nat.lt_trichotomy j as.length with hj | hj | hj
    · rw [List.getElem?_append_left hj] at hb
      rw [List.getElem?_append_left (by omega)] at hx
      exact t j b c' k' hb hx
    · subst hj
      simp at hb
      rw [l] at hx
      simp at hx
      obtain ⟨rfl, rfl⟩ := hx
      subst hb
      exact ha
    · rw [List.getElem?_eq_none (by simp; omega)] at hb; cases hb
  · rcases List.mem_append.mp hb with hb | hb
    · exact d b hb
    · rw [List.mem_singleton.mp hb]
      obtain ⟨_, _, o, ho, _⟩ := ha
      exact ⟨hn, o, ho⟩
theorem Tl.append {no : List Addr} {xs xs' : List (Nat × Int)} {ys ys' : List Value} {h : Heap} (x : Tl no xs ys h) (x' : Tl no xs' ys' h) : Tl no (xs ++ xs') (ys ++ ys') h := by
  obtain ⟨as, e, l, t, d⟩ := x
  obtain ⟨as', e', l', t', d'⟩ := x'
  refine ⟨as ++ as', by rw [e, e']; simp, by simp [l, l'], fun j b c' k' hb hx => ?_, fun b hb => ?_⟩
  · by_cases hj : j < as.length
    · rw [List.getElem?_append_left hj] at hb
      rw [List.getElem?_append_left (by omega)] at hx
      exact t j b c' k' hb hx
    · rw [List.getElem?_append_right (by omega)] at hb
      rw [List.getElem?_append_right (by omega)] at hx
      rw [l] at hb
      exact t' _ b c' k' hb hx
  · rcases List.mem_append.mp hb with hb | hb
    · exact d b hb
    · exact d' b hb

abbrev nestB (e : Expr) (it1 : Expr) (acc : Value) (env : Env) : Sem Unit := do
  let x ← eval it1 env
  standAt it1.pos
  let x ← foldedSetIterable it1 env x
  let it ← holding [x] (pyIter x)
  let _ ← runOwn (.compStart e 1 it acc env) env
theorem nest_eq {elt t0 t1 iter0 iter1 : Expr} {scope : Scope} {pos : Pos} {it acc : Value} {env : Env} :
    compTurn (.ListComp elt [⟨t0, iter0, [], 0⟩, ⟨t1, iter1, [], 0⟩] scope pos) 0 it acc env = turnOf iter0.pos t0 [] (nestB (.ListComp elt [⟨t0, iter0, [], 0⟩, ⟨t1, iter1, [], 0⟩] scope pos) iter1 acc env) (.ListComp elt [⟨t0, iter0, [], 0⟩, ⟨t1, iter1, [], 0⟩] scope pos) 0 it acc env := by
  unfold compTurn turnOf
  simp [nestB, bind_assoc]
  rfl

theorem mark_none (A : Around) : A.mark none = A := by
  obtain ⟨hd, d, fr, gs, u⟩ := A
  rfl
/-- two clauses: an int of a range, a sign of one text; each turn lays a tuple -/
theorem nest_go {elt iter0 iter1 : Expr} {scope : Scope} {cl : List (PySem.Str × Addr)} {pos px0 px1 : Pos} {x0 x1 : PySem.Str} {s₁ : Shared} {xv : Value} {n : Nat} {T : Heap → Addr → Prop} {RR : Value → Addr → Result → Shared → Prop}
    (l : List Nat) (kf : Nat → Int) (no : List Addr)
    (hsrc : Src prog w A xv n (fun i v => ∃ t, v = .int (i : Int) t) T s₁) (hh : A.handled = none) (hn : n ≤ 1000) (hl : l.length ≤ 1000)
    (hu1 : ∀ d it acc env, A.under (.compLoop (.ListComp elt [⟨.Name x0 px0, iter0, [], 0⟩, ⟨.Name x1 px1, iter1, [], 0⟩] scope pos) d it acc env) = A) (hu2 : ∀ d it acc env, A.under (.compStart (.ListComp elt [⟨.Name x0 px0, iter0, [], 0⟩, ⟨.Name x1 px1, iter1, [], 0⟩] scope pos) d it acc env) = A)
    (hcell : ∀ y ∈ scope.names, y.2 ≠ .cell) (hkind : scope.kind = .function) (hx0 : scope.names.lookup x0 = some .local) (hx1 : scope.names.lookup x1 = some .local) (hxx : x0 ≠ x1)
    (hno : ∀ a ∈ no, ∃ o, s₁.heap.get? a = some o)
    (hs : ∀ x env, foldedSetIterable iter1 env x = pure x)
    (inner : ∀ C s m, Ext s₁.heap s.heap → s.heap.Ns C m → wpAny (model prog w) A (eval iter1 (compEnvC scope cl C env)) (fun x s' => (∃ t, x = .str (tx l) t) ∧ ∃ h' tk, s' = { s with heap := h', toks := tk } ∧ Ext s.heap h') noE s)
    (elem : ∀ C s m i c t u, i < n → Ext s₁.heap s.heap → s.heap.Ns C m → m x0 = some (.int ((i : Nat) : Int) t) → m x1 = some (.str (tx [c]) u) →
      wpAny (model prog w) A (eval elt (compEnvC scope cl C env)) (fun y s' => ∃ a h' tk, y = .ref a ∧ s' = { s with heap := h', toks := tk } ∧ Ext s.heap h' ∧ s.heap.objs.size ≤ a ∧ TupAt h' a c (kf i)) noE s)
    (hRR : ∀ D C h' tk m' ys, s₁.heap.get? C = none → s₁.heap.get? D = none → D ≠ C → h'.Ns C m' → h'.get? D = some (LCg.lst ys) → Tl (C :: D :: no) ((List.range n).flatMap fun i => l.map fun c => (c, kf i)) ys h' → Ext s₁.heap h' → RR (.ref D) C (.ok .next) { s₁ with heap := h', toks := tk }) :
    wpAny (model prog w) A (pyIter xv) (fun it s₂ => wpAny (model prog w) A (newList []) (fun acc s₃ => wpAny (model prog w) A (newFunctionEnv scope env.globals cl [] env.qual none .none (some env)) (fun cenv s₄ =>
      codeAny (model prog w) A (.compStart (.ListComp elt [⟨.Name x0 px0, iter0, [], 0⟩, ⟨.Name x1 px1, iter1, [], 0⟩] scope pos) 0 it acc { cenv with scope := relabel scope env }) (RR acc cenv.locals) s₄) E s₃) E s₂) E s₁ := by
  refine hsrc _ _ fun I fp St h₂ W hst hfp hext hI hT _ => ?_
  have hIf : I ∈ fp := W.sub I (List.mem_singleton.mpr rfl)
  have hsub : ∀ {h : Heap}, (∀ b o, b ≠ I → h₂.get? b = some o → h.get? b = some o) → Ext s₁.heap h := fun hk b o eb => hk b o (fun q => by rw [q, hI] at eb; cases eb) (hext b o eb)
  have hnone : ∀ a, h₂.objs.size ≤ a → s₁.heap.get? a = none := fun a ha => by
    cases eb : s₁.heap.get? a with
    | none => rfl
    | some o => exact absurd (Heap.lt_size (hext a o eb)) (Nat.not_lt.mpr ha)
  have hxl : ∀ i : Nat, (((List.range i).flatMap fun i => l.map fun c => (c, kf i)).length) = i * l.length := fun i => by
    induction i with
    | zero => simp
    | succ i ih => rw [List.range_succ, List.flatMap_append, List.length_append, ih, Nat.add_mul]; simp
  refine lc_blockB (s₂ := { s₁ with heap := h₂ }) (B := fun acc env => nestB (.ListComp elt [⟨.Name x0 px0, iter0, [], 0⟩, ⟨.Name x1 px1, iter1, [], 0⟩] scope pos) iter1 acc env) (p := iter0.pos) (ifs := []) (target := .Name x0 px0) (g := ⟨.Name x0 px0, iter0, [], 0⟩)
    (fun _ _ _ => nest_eq) rfl rfl (fun _ _ _ => rfl) (fun _ _ _ => rfl) (hu1 0) (hu2 0) (fun _ _ _ => rfl) W hcell hkind hst hfp
    (fun C D i ys h => Tl (I :: C :: D :: no) ((List.range i).flatMap fun i => l.map fun c => (c, kf i)) ys h) ?_ ?_ ?_ ?_
  · intro C D i ys h h' hk x
    exact x.stab fun b o hb eb => by
      simp only [List.mem_cons, not_or] at hb
      exact hk b o hb.1 hb.2.1 hb.2.2.1 eb
  · intro C D h
    exact Tl.nil
  · rintro C D i ys s m v hi ⟨t, rfl⟩ hC hD hCD hold hnC hacc hst' hR
    have hIs : ∀ a, h₂.objs.size ≤ a → I ≠ a := fun a ha => Nat.ne_of_lt (Nat.lt_of_lt_of_le (hfp I hIf) ha)
    refine letOwned_name (bind_x hx0 hkind hnC fun h₃ tk₃ hn₃ hk₃ => ?_)
    refine wpAny_tests_nil ?_
    simp only [if_true]
    have hext3 : Ext s₁.heap h₃ := fun b o eb => hk₃ b o (fun q => by rw [q, hnone C hC] at eb; cases eb) (hsub hold b o eb)
    have hD₃ : h₃.get? D = some (LCg.lst ys) := hk₃ D _ (Ne.symm hCD) hacc
    have hR₃ := hR.stab (h' := h₃) fun b o hb eb => hk₃ b o (fun q => hb (by simp [q])) eb
    refine wpAny_bind (wpAny_mono (inner C { s with heap := h₃, toks := tk₃ } _ hext3 hn₃) (fun x s₄ h₄ => ?_) fun _ _ x => x)
    obtain ⟨⟨tt, rfl⟩, h₄, tk₄, rfl, hk₄⟩ := h₄
    refine wpAny_bind (wpAny_standAt ?_)
    refine wpAny_bind (wpAny_of_eq (hs _ _) ?_)
    refine wpAny_bind (wpAny_holding ?_)
    refine src_str hh rfl _ _ fun I' fp' St' h₅ W' hst₅ hfp' hext₅ hI' hlv hfq => ?_
    have hn₅ := (hn₃.keeps hk₄).keeps hext₅
    have hD₅ := hext₅ _ _ (hk₄ _ _ hD₃)
    have hI'f : I' ∈ fp' := W'.sub I' (List.mem_singleton.mpr rfl)
    have hCs : ∃ o, h₄.get? C = some o := let ⟨o, _, _, ho, _⟩ := hn₃.keeps hk₄; ⟨o, ho⟩
    have hI'C : I' ≠ C := fun q => by obtain ⟨o, ho⟩ := hCs; rw [← q] at ho; rw [show h₄.get? I' = none from hI'] at ho; cases ho
    have hI'D : I' ≠ D := fun q => by have ho := hk₄ _ _ hD₃; rw [← q] at ho; rw [show h₄.get? I' = none from hI'] at ho; cases ho
    have hR₅ : Tl (I' :: I :: C :: D :: no) ((List.range i).flatMap fun i => l.map fun c => (c, kf i)) ys h₅ :=
      ((hR₃.stab (h' := h₄) fun b o _ eb => hk₄ b o eb).less (no' := I' :: I :: C :: D :: no) fun b hb => by
        rcases List.mem_cons.mp hb with rfl | hb
        · exact .inr hI'
        · exact .inl hb).stab fun b o _ eb => hext₅ b o eb
    have hext5 : Ext s₁.heap h₅ := fun b o eb => hext₅ b o (hk₄ b o (hext3 b o eb))
    have hI'1 : s₁.heap.get? I' = none := by
      cases eb : s₁.heap.get? I' with
      | none => rfl
      | some o => have := hk₄ _ _ (hext3 _ _ eb); rw [show h₄.get? I' = none from hI'] at this; cases this
    have hs5 : ∀ b o, b ≠ C → b ≠ D → s.heap.get? b = some o → b ≠ I' ∧ h₅.get? b = some o := fun b o hbC hbD eb => by
      have h4 : h₄.get? b = some o := hk₄ b o (hk₃ b o hbC eb)
      refine ⟨fun q => ?_, hext₅ b o h4⟩
      rw [q, show h₄.get? I' = none from hI'] at h4
      cases h4
    have hs1 : ∀ b o, s₁.heap.get? b = some o → b ≠ C ∧ b ≠ D ∧ b ≠ I' := fun b o eb => by
      refine ⟨fun q => ?_, fun q => ?_, fun q => ?_⟩
      · rw [q, hnone C hC] at eb; cases eb
      · rw [q, hnone D hD] at eb; cases eb
      · rw [q, hI'1] at eb; cases eb
    have hm0 : (fun y => if y = x0 then some (Value.int ((i : Nat) : Int) t) else m y) x0 = some (.int ((i : Nat) : Int) t) := by simp
    refine wpAny_bind (wpAny_runOwn ?_)
    rw [mark_none]
    have loop : codeAny (model prog w) A (.compLoop (.ListComp elt [⟨.Name x0 px0, iter0, [], 0⟩, ⟨.Name x1 px1, iter1, [], 0⟩] scope pos) 1 (.ref I') (.ref D) (compEnvC scope cl C env))
        (fun r s' => match r with
          | .ok f => wpAny (model prog w) A (pure ()) (fun _ s₆ => ∃ ys', GrD C D s s₆ ∧ s₆.heap.get? D = some (LCg.lst ys') ∧ Tl (I :: C :: D :: no) ((List.range (i + 1)).flatMap fun i => l.map fun c => (c, kf i)) ys' s₆.heap) noE s'
          | .error e => cameBackBy (model prog w) A (compEnvC scope cl C env) noE e s') { s with heap := h₅, toks := tk₄ } := by
      refine loop_ok (B := emitB elt (.ref D) (compEnvC scope cl C env)) (p := iter1.pos) (target := .Name x1 px1) (ifs := []) rfl rfl (hu1 1 _ _ _)
        (fun j s' => ∃ h tk ys' m', s' = { s with heap := h, toks := tk } ∧ St' j h ∧ (∀ b o, b ≠ C → b ≠ D → b ≠ I' → h₅.get? b = some o → h.get? b = some o) ∧ h.Ns C m' ∧ m' x0 = some (.int ((i : Nat) : Int) t) ∧ h.get? D = some (LCg.lst ys') ∧
          Tl (I' :: I :: C :: D :: no) (((List.range i).flatMap fun i => l.map fun c => (c, kf i)) ++ (l.take j).map fun c => (c, kf i)) ys' h) l.length ?_ ?_
        ⟨h₅, tk₄, ys, _, rfl, hst₅, fun b o _ _ _ eb => eb, hn₅, hm0, hD₅, by simpa using hR₅⟩
      · rintro j s' hj ⟨h, tk, ys', m', rfl, hstj, hkj, hnj, hmj, hDj, hTj⟩
        refine W'.item j _ _ _ hj hstj fun v h₆ tk₆ hP hst₆ hk₆ => ⟨v, rfl, ?_⟩
        obtain ⟨c, u, hc, rfl⟩ := hP
        have hk₆' : ∀ b o, b ≠ I' → h.get? b = some o → h₆.get? b = some o := fun b o hb eb => hk₆ b o (by simpa using hb) eb
        refine letOwned_name (bind_x hx1 hkind (hnj.at' fun o eb => hk₆' C o (Ne.symm hI'C) eb) fun h₇ tk₇ hn₇ hk₇ => ?_)
        refine wpAny_tests_nil ?_
        simp only [if_true]
        have hD₇ : h₇.get? D = some (LCg.lst ys') := hk₇ D _ (Ne.symm hCD) (hk₆' D _ (Ne.symm hI'D) hDj)
        have hext7 : Ext s₁.heap h₇ := fun b o eb => hk₇ b o (hs1 b o eb).1 (hk₆' b o (hs1 b o eb).2.2 (hkj b o (hs1 b o eb).1 (hs1 b o eb).2.1 (hs1 b o eb).2.2 (hext5 b o eb)))
        have hI'7 : ∃ o, h₇.get? I' = some o := let ⟨o, ho⟩ := hlv _ _ hst₆; ⟨o, hk₇ I' o hI'C ho⟩
        have hC7 : ∃ o, h₇.get? C = some o := let ⟨o, _, _, ho, _⟩ := hn₇; ⟨o, ho⟩
        refine wpAny_bind (wpAny_mono (elem C { s with heap := h₇, toks := tk₇ } _ i c t u hi hext7 hn₇ (by simp [hxx, hmj]) (by simp)) (fun y s₈ h₈ => ?_) fun _ _ x => x)
        obtain ⟨a, h₈, tk₈, rfl, rfl, hk₈, hale, hT₈⟩ := h₈
        have ltn : ∀ b : Nat, b < h₇.objs.size → a ≠ b := fun b hb => Nat.ne_of_gt (Nat.lt_of_lt_of_le hb hale)
        have hano : a ∉ I' :: I :: C :: D :: no := by
          intro hm
          simp only [List.mem_cons] at hm
          rcases hm with q | q | q | q | q
          · obtain ⟨o, ho⟩ := hI'7; exact ltn _ (Heap.lt_size ho) q
          · exact ltn _ (Nat.lt_trans (Nat.lt_of_lt_of_le (hfp I hIf) hD) (Heap.lt_size hD₇)) q
          · obtain ⟨o, ho⟩ := hC7; exact ltn _ (Heap.lt_size ho) q
          · exact ltn _ (Heap.lt_size hD₇) q
          · obtain ⟨o, ho⟩ := hno a q
            exact ltn _ (Heap.lt_size (hext7 _ _ ho)) rfl
        have hlen' := hTj.length
        have hm : ((l.take j).map fun c => (c, kf i)).length ≤ l.length := by rw [List.length_map, List.length_take]; exact Nat.min_le_right _ _
        have hil : i * l.length ≤ 1000 * 1000 := Nat.mul_le_mul (by omega) hl
        rw [List.length_append, hxl i] at hlen'
        refine wpAny_bind (append_at (hk₈ D _ hD₇) (fun h₉ hs₉ hD₉ => wpAny_pure ⟨h₉, tk₈, ys' ++ [.ref a], _, rfl, ?_, ?_, (hn₇.keeps hk₈).sameBut hs₉ hCD, ?_, hD₉.trans (congrArg some (LCg.lst_snoc _ _)), ?_⟩) ?_)
        · refine W'.frame _ _ _ hst₆ fun b hb o eb => ?_
          rcases hfq b hb with rfl | q
          · exact hs₉.extBut _ o hI'D (hk₈ _ o (hk₇ _ o hI'C eb))
          · cases q
        · intro b o hbC hbD hbI eb
          exact hs₉.extBut b o hbD (hk₈ b o (hk₇ b o hbC (hk₆' b o hbI (hkj b o hbC hbD hbI eb))))
        · simp [hxx, hmj]
        · have e1 : (l.take (j + 1)).map (fun c => (c, kf i)) = (l.take j).map (fun c => (c, kf i)) ++ [(c, kf i)] := by rw [List.take_add_one, hc]; simp
          rw [e1, ← List.append_assoc]
          refine Tl.snoc (hTj.stab fun b o hb eb => ?_) (hT₈.at fun o ho => hs₉.extBut a o (fun q => hano (by simp [q])) ho) hano
          simp only [List.mem_cons, not_or] at hb
          exact hs₉.extBut b o hb.2.2.2.1 (hk₈ b o (hk₇ b o hb.2.2.1 (hk₆' b o hb.1 eb)))
        · rw [List.size_toArray, PySem.sizeLine_eq]
          omega
      · rintro s' ⟨h, tk, ys', m', rfl, hstj, hkj, hnj, hmj, hDj, hTj⟩
        refine W'.done _ _ _ hstj fun h₆ tk₆ hk₆ => ⟨rfl, wpAny_pure ?_⟩
        have hk₆' : ∀ b o, b ≠ I' → h.get? b = some o → h₆.get? b = some o := fun b o hb eb => hk₆ b o (by simpa using hb) eb
        refine ⟨ys', ⟨h₆, tk₆, m', rfl, fun b o hbC hbD eb => hk₆' b o (hs5 b o hbC hbD eb).1 (hkj b o hbC hbD (hs5 b o hbC hbD eb).1 (hs5 b o hbC hbD eb).2), hnj.at' fun o eb => hk₆' C o (Ne.symm hI'C) eb⟩, hk₆' D _ (Ne.symm hI'D) hDj, ?_⟩
        rw [List.take_length] at hTj
        rw [List.range_succ, List.flatMap_append]
        simp only [List.flatMap_cons, List.flatMap_nil, List.append_nil]
        refine (hTj.stab (h' := h₆) fun b o hb eb => hk₆' b o (fun q => hb (by simp [q])) eb).less fun b hb => .inl (List.mem_cons_of_mem _ hb)
    exact start_ok (g := ⟨.Name x1 px1, iter1, [], 0⟩) rfl rfl rfl (hu2 1 _ _ _) rfl loop (W'.self 0 _ _ _ hst₅ ⟨rfl, loop⟩)
  · intro D C h' tk m' ys hD hC hDC hnC hacc hR hk
    have hnone' : ∀ a, h₂.get? a = none → s₁.heap.get? a = none := fun a ha => by
      cases eb : s₁.heap.get? a with
      | none => rfl
      | some o => have := hext a o eb; rw [ha] at this; cases this
    exact hRR D C h' tk m' ys (hnone' C hC) (hnone' D hD) hDC hnC hacc (hR.less fun b hb => .inl (List.mem_cons_of_mem _ hb)) (hsub hk)
end
theorem join_flat : ∀ ls : List (List Nat), PySem.Str.join (tx []) (ls.map tx) = tx ls.flatten
  | [] => rfl
  | [a] => by simp [PySem.Str.join]
  | a :: b :: r => by
    have ih := join_flat (b :: r)
    show tx a ++ tx [] ++ PySem.Str.join (tx []) ((b :: r).map tx) = _
    rw [ih, tx_append, tx_append]
    simp
section
variable {prog : Program} {w : World} {A : Around} {E : Value → Shared → Prop} {env : Env} {s : Shared}
theorem join_tx {x : PySem.Str} (hx : x = tx []) {D : Addr} {vs : List Value} {ls : List (List Nat)} {t : Tok} {Q : Value → Shared → Prop} (hl : s.heap.IsList D vs.toArray) (hi : StrsAre vs (ls.map tx)) (hok : ls.flatten.length ≤ 16777216) (h : ∀ t' k, Q (.str (tx ls.flatten) t') { s with toks := k }) :
    wpAny (model prog w) A (call (.builtin "str.join") [.str x t, .ref D]) Q E s := by
  subst hx
  refine join_list hl (by simpa using hi) ?_ fun t' k => ?_
  · have e : (((ls.map tx).map (·.length)).sum) = ls.flatten.length := by
      rw [List.length_flatten, List.map_map]
      congr 1
    rw [e, show (tx []).length = 0 from rfl, Nat.mul_zero]
    exact hok
  · have e : Txt.join (tx []) (ls.map tx) = tx ls.flatten := by
      rw [← join_flat]
      exact StrLaws.glued_eq_join _ _
    rw [e]
    exact h t' k

/-- a pair is unpacked in a comprehension's own block -/
theorem bind_xy {x y : PySem.Str} {px py tp : Pos} {k : Nat} {scope : Scope} {cl : List (PySem.Str × Addr)} {C a : Addr} {v₁ v₂ : Value} {m : PySem.Str → Option Value} {Q : Unit → Shared → Prop} (hh : A.handled = none) (hx : scope.names.lookup x = some .local) (hy : scope.names.lookup y = some .local)
    (hkind : scope.kind = .function) (hn : s.heap.Ns C m) (ht : IsTup s.heap a #[v₁, v₂])
    (h : ∀ h' tk, h'.Ns C (fun z => if z = y then some v₂ else if z = x then some v₁ else m z) → (∀ b o, b ≠ C → s.heap.get? b = some o → h'.get? b = some o) → Q () { s with heap := h', toks := tk }) :
    wpAny (model prog w) A (assign (.Tuple [.Name x px, .Name y py] k tp) (compEnvC scope cl C env) (.ref a)) Q E s := by
  refine assign_Tuple_tuple hh ht rfl rfl fun h₁ he => ?_
  have he' : ∀ b o, s.heap.get? b = some o → h₁.get? b = some o := fun b o eb => he b o (Nat.ne_of_lt (Heap.lt_size eb)) eb
  refine assignInOrder_cons (bind_x hx hkind (hn.keeps he') fun h₂ tk₂ hn₂ hk₂ => ?_)
  refine assignInOrder_cons (bind_x hy hkind hn₂ fun h₃ tk₃ hn₃ hk₃ => ?_)
  exact assignInOrder_nil (h h₃ tk₃ hn₃ fun b o hb eb => hk₃ b o hb (hk₂ b o hb (he' b o eb)))

/-- every told sign by its rounds -/
theorem lc_signs {scope : Scope} {iter elt : Expr} {x y : PySem.Str} {px py tp pos : Pos} {kt : Nat} {s₁ : Shared} {l : Addr} {ys : List Value} {xs : List (Nat × Int)} {Q : Value → Shared → Prop}
    (W₁ : Wd w s₁.heap) (hl : s₁.heap.IsList l ys.toArray) (hT : Tl [] xs ys s₁.heap) (hxs : ∀ p ∈ xs, p.1 < 256 ∧ 0 ≤ p.2 ∧ p.2 < 1000) (hn : xs.length ≤ 1000000)
    (hh : A.handled = none) (hu1 : ∀ it acc env, A.under (.compLoop (.ListComp elt [⟨.Tuple [.Name x px, .Name y py] kt tp, iter, [], 0⟩] scope pos) 0 it acc env) = A) (hu2 : ∀ it acc env, A.under (.compStart (.ListComp elt [⟨.Tuple [.Name x px, .Name y py] kt tp, iter, [], 0⟩] scope pos) 0 it acc env) = A)
    (hcell : ∀ y ∈ scope.names, y.2 ≠ .cell) (hkind : scope.kind = .function) (hx : scope.names.lookup x = some .local) (hy : scope.names.lookup y = some .local) (hxy : x ≠ y)
    (elem : ∀ C s m c k t u, Wd w s.heap → s.heap.Ns C m → m x = some (.str (tx [c]) t) → m y = some (.int ((k : Nat) : Int) u) → c < 256 → k < 1000 →
      wpAny (model prog w) A (eval elt (compEnvC scope [] C env)) (fun v s' => (∃ t, v = .str (tx (sg c k)) t) ∧ ∃ h' tk, s' = { s with heap := h', toks := tk } ∧ Ext s.heap h') noE s)
    (hQ : ∀ D h' tk vs, h'.get? D = some (LCg.lst vs) → StrsAre vs ((xs.map fun p => sg p.1 p.2.toNat).map tx) → Ext s₁.heap h' → Q (.ref D) { s₁ with heap := h', toks := tk }) :
    wpAny (model prog w) A (pyIter (.ref l)) (fun it s₂ => wpAny (model prog w) A (newList []) (fun acc s₃ => wpAny (model prog w) A (newFunctionEnv scope env.globals [] [] env.qual none .none (some env)) (fun cenv s₄ =>
      codeAny (model prog w) A (.compStart (.ListComp elt [⟨.Tuple [.Name x px, .Name y py] kt tp, iter, [], 0⟩] scope pos) 0 it acc { cenv with scope := relabel scope env }) (compPost (model prog w) A E none Q acc cenv.locals) s₄) E s₃) E s₂) E s₁ := by
  have hlen := hT.length
  refine lc_go (src_list hh hl) (by omega) hu1 hu2 hcell hkind (fun _ _ _ i vs _ => StrsAre vs (((xs.take i).map fun p : Nat × Int => sg p.1 p.2.toNat).map tx)) ?_ (fun _ _ _ _ _ _ _ _ h => h) (fun _ _ _ _ => .nil) ?_ ?_
  · intro I C D i vs h e
    rw [e.length, List.length_map, List.length_map, List.length_take]
    exact Nat.min_le_left _ _
  · intro I C D i vs s m v hi hv hTI hIs hIC hID hCD hext hC1 hnC hD hvs
    obtain ⟨as, eas, las, tas, das⟩ := hT
    have hi' : i < as.length := by rw [las]; omega
    obtain ⟨a, ha⟩ : ∃ a, as[i]? = some a := ⟨as[i], by simp [hi']⟩
    obtain ⟨⟨c, k⟩, hck⟩ : ∃ p, xs[i]? = some p := ⟨xs[i]'(by omega), by simp [show i < xs.length by omega]⟩
    have hva : v = .ref a := by
      rw [eas, List.getElem?_map, ha] at hv
      exact (Option.some.inj hv).symm
    subst hva
    obtain ⟨t, u, o, ho, hc', n, hd'⟩ := tas i a c k ha hck
    obtain ⟨hc256, hk0, hk1⟩ := hxs (c, k) (List.mem_of_getElem? hck)
    obtain ⟨k', rfl⟩ : ∃ k' : Nat, k = (k' : Int) := ⟨k.toNat, by simp only at hk0; omega⟩
    obtain ⟨lI, jI, hLI⟩ := hTI
    refine wpAny_letOwnedTupleGo_listiter hLI (bind_xy hh hx hy hkind hnC ⟨o, hext a o ho, hc', n, hd'⟩ fun h₂ tk₂ hn₂ hk₂ => ?_)
    refine wpAny_tests_nil ?_
    simp only [if_true]
    have hext2 : Ext s₁.heap h₂ := fun b o eb => hk₂ b o (fun q => by rw [q, hC1] at eb; cases eb) (hext b o eb)
    refine wpAny_mono (elem C { s with heap := h₂, toks := tk₂ } _ c k' t u (W₁.keeps hext2) hn₂ (by simp [hxy]) (by simp) hc256 (by simp only at hk1; omega)) (fun v s₃ h₃ => ?_) fun _ _ x => x
    obtain ⟨⟨t₃, rfl⟩, h₃, tk₃, rfl, hk₃⟩ := h₃
    refine ⟨⟨h₃, tk₃, _, rfl, fun b o hb eb => hk₃ b o (hk₂ b o hb eb), hn₂.keeps hk₃⟩, ?_⟩
    have e1 : ((xs.take (i + 1)).map fun p => sg p.1 p.2.toNat).map tx = ((xs.take i).map fun p => sg p.1 p.2.toNat).map tx ++ [tx (sg c k')] := by
      rw [List.take_add_one, hck]; simp
    rw [e1]
    exact kct_snoc hvs
  · intro I C D h' tk m' vs hC hD hDC hnC hacc hvs hk
    have hvs' : StrsAre vs ((xs.map fun p => sg p.1 p.2.toNat).map tx) := by
      have e : xs.take ys.length = xs := List.take_of_length_le (by omega)
      rw [e] at hvs
      exact hvs
    exact lc_E (Rr := fun _ => True) hC hDC hnC hacc hk True.intro (fun _ _ _ h => h) fun h'' hD'' _ hk'' => hQ D h'' tk vs hD'' hvs' hk''
end
theorem isl_at {h h' : Heap} {l : Addr} {xs : Array Value} (x : h.IsList l xs) (k : ∀ o, h.get? l = some o → h'.get? l = some o) : h'.IsList l xs := let ⟨o, ho, r⟩ := x; ⟨o, k o ho, r⟩
theorem flat_len (l : List Nat) (kf : Nat → Int) : ∀ n : Nat, ((List.range n).flatMap fun i => l.map fun c => (c, kf i)).length = n * l.length
  | 0 => by simp
  | n + 1 => by rw [List.range_succ, List.flatMap_append, List.length_append, flat_len l kf n, Nat.add_mul]; simp
theorem c1 {a : Nat} : a + 1 ≠ a := by omega
theorem c2 {a : Nat} : a + 1 + 1 ≠ a := by omega
theorem c3 {a : Nat} : a + 1 + 1 + 1 ≠ a := by omega
theorem c4 {a : Nat} : a + 1 + 1 + 1 + 1 ≠ a := by omega
theorem c5 {a : Nat} : a + 1 + 1 + 1 + 1 + 1 ≠ a := by omega
section
variable {prog : Program} {w : World} {A : Around} {E : Value → Shared → Prop} {env : Env} {s : Shared}

theorem gm_str {M : Model} {x : PySem.Str} {t : Tok} {name : PySem.Str} {id : String} {pl : Sem Bool} {Q : Value × List Value → Shared → Prop} (slot : Slot "str" name id) (ty : typeOf (.builtin id) = pure (.type "method_descriptor")) (h : Q (.builtin id, [.str x t]) s) :
    wpAny M A (getMethod (.str x t) name pl) Q E s := getMethod_builtin (typeIs_str _ _ _) F.plainAttrs_str slot ty (fun _ e => nomatch e) h
theorem callWith_m {M : Model} {pos : Pos} {id : String} {first : List Value} {e : Expr} {rest : List Expr} {Q : Value → Shared → Prop}
    (h : wpAny M A (spliced (backTo pos (starEach (e :: rest) env))) (fun vs s₁ => wpAny M A (call (.builtin id) (first ++ vs)) Q E s₁) E s)
    (he : starEach (e :: rest) env = (false, eval e env) :: starEach rest env) (hplain : (backTo pos (starEach rest env)).any (·.1) = false) :
    wpAny M A (callWith pos (.builtin id) first (backTo pos (starEach (e :: rest) env)) []) Q E s := by
  rw [he] at h ⊢
  exact Calls.callWith_builtin (by show (false || (backTo pos (starEach rest env)).any (·.1)) = false; rw [hplain]; rfl) (Calls.evalArgs_plain h)
theorem callWith_m0 {M : Model} {pos : Pos} {id : String} {first : List Value} {Q : Value → Shared → Prop}
    (h : wpAny M A (call (.builtin id) (first ++ [])) Q E s) :
    wpAny M A (callWith pos (.builtin id) first (backTo pos (starEach [] env)) []) Q E s := Calls.callWith_builtin rfl (evalArgs_nil3 h)
theorem fr_upd {g h h' : Heap} {L : Addr} {m m' : PySem.Str → Option Value} (F : Fr g L h m) (hn : h'.Ns L m') (hk : ∀ b o, b ≠ L → h.get? b = some o → h'.get? b = some o) : Fr g L h' m' :=
  ⟨hn, fun b o eb => hk b o (Nat.ne_of_lt (Nat.lt_of_lt_of_le (Heap.lt_size eb) F.above)) (F.keep b o eb), F.above⟩

theorem add_lst {l b : Addr} {vs ws : List Value} {Q : Value → Shared → Prop} (hl : s.heap.IsList l vs.toArray) (hb : s.heap.IsList b ws.toArray) (hsz : vs.length + ws.length ≤ 16777216)
    (h : ∀ D h', h'.IsList D (vs ++ ws).toArray → Ext s.heap h' → s.heap.objs.size ≤ D → Q (.ref D) { s with heap := h' }) :
    wpAny (model prog w) A (binaryOp .Add (.ref l) (.ref b)) Q E s := by
  obtain ⟨⟨cls, dd, data, sl⟩, ho, hc, n, hd⟩ := id hl
  obtain ⟨⟨cls2, dd2, data2, sl2⟩, ho2, hc2, n2, hd2⟩ := id hb
  simp only at hc hd hc2 hd2
  subst hc hd hc2 hd2
  refine concat_meets ⟨_, ho, rfl⟩ ⟨_, ho2, rfl⟩ noFill_list_add seq_list_add PySem.F.slot_list_add PySem.F.entry_list_add (PySem.F.args_list_add_2 _ _) (list_addW l b vs.toArray ws.toArray n n2 dd dd2 sl sl2 (by rw [PySem.sizeLine_eq]; simpa using hsz)) ⟨ho, ho2, ?_⟩
  exact h _ _ ⟨_, Heap.get?_push_size _ rfl, rfl, 0, by simp⟩ (fun _ _ eb => Heap.get?_push_of_some _ eb) (Nat.le_refl _)

/-- the signs of a text, each with the same rounds -/
theorem lc_tups {scope : Scope} {cl : List (PySem.Str × Addr)} {iter elt : Expr} {x : PySem.Str} {px pos : Pos} {s₁ : Shared} {l : List Nat} {t : Tok} {Q : Value → Shared → Prop} (kk : Int) (no : List Addr)
    (hh : A.handled = none) (hn : l.length ≤ 1000) (hu1 : ∀ it acc env, A.under (.compLoop (.ListComp elt [⟨.Name x px, iter, [], 0⟩] scope pos) 0 it acc env) = A) (hu2 : ∀ it acc env, A.under (.compStart (.ListComp elt [⟨.Name x px, iter, [], 0⟩] scope pos) 0 it acc env) = A)
    (hcell : ∀ y ∈ scope.names, y.2 ≠ .cell) (hkind : scope.kind = .function) (hx : scope.names.lookup x = some .local) (hno : ∀ a ∈ no, ∃ o, s₁.heap.get? a = some o)
    (elem : ∀ C s m c u, Ext s₁.heap s.heap → s.heap.Ns C m → m x = some (.str (tx [c]) u) →
      wpAny (model prog w) A (eval elt (compEnvC scope cl C env)) (fun y s' => ∃ a h' tk, y = .ref a ∧ s' = { s with heap := h', toks := tk } ∧ Ext s.heap h' ∧ s.heap.objs.size ≤ a ∧ TupAt h' a c kk) noE s)
    (hQ : ∀ D h' tk ys, h'.get? D = some (LCg.lst ys) → Tl no (l.map fun c => (c, kk)) ys h' → Ext s₁.heap h' → Q (.ref D) { s₁ with heap := h', toks := tk }) :
    wpAny (model prog w) A (pyIter (.str (tx l) t)) (fun it s₂ => wpAny (model prog w) A (newList []) (fun acc s₃ => wpAny (model prog w) A (newFunctionEnv scope env.globals cl [] env.qual none .none (some env)) (fun cenv s₄ =>
      codeAny (model prog w) A (.compStart (.ListComp elt [⟨.Name x px, iter, [], 0⟩] scope pos) 0 it acc { cenv with scope := relabel scope env }) (compPost (model prog w) A E none Q acc cenv.locals) s₄) E s₃) E s₂) E s₁ := by
  refine lc_go (src_str hh rfl) (by omega) hu1 hu2 hcell hkind (fun I C D i ys h => Tl (I :: C :: D :: no) ((l.take i).map fun c => (c, kk)) ys h) ?_ ?_ (fun _ _ _ _ => Tl.nil) ?_ ?_
  · intro I C D i ys h x
    rw [x.length, List.length_map, List.length_take]
    exact Nat.min_le_left _ _
  · intro I C D i ys h h' hk x
    exact x.stab fun b o hb eb => by
      simp only [List.mem_cons, not_or] at hb
      exact hk b o hb.1 hb.2.1 hb.2.2.1 eb
  · rintro I C D i ys s m v hi ⟨c, u, hc, rfl⟩ ⟨oI, hoI⟩ hIs hIC hID hCD hext hC1 hnC hD hR
    refine letOwned_name (bind_x hx hkind hnC fun h₂ tk₂ hn₂ hk₂ => ?_)
    refine wpAny_tests_nil ?_
    simp only [if_true]
    have hext2 : Ext s₁.heap h₂ := fun b o eb => hk₂ b o (fun q => by rw [q, hC1] at eb; cases eb) (hext b o eb)
    have hD₂ : h₂.get? D = some (LCg.lst ys) := hk₂ D _ (Ne.symm hCD) hD
    have hC2 : ∃ o, h₂.get? C = some o := let ⟨o, _, _, ho, _⟩ := hn₂; ⟨o, ho⟩
    refine wpAny_mono (elem C { s with heap := h₂, toks := tk₂ } _ c u hext2 hn₂ (by simp)) (fun y s₃ h₃ => ?_) fun _ _ x => x
    obtain ⟨a, h₃, tk₃, rfl, rfl, hk₃, hale, hT₃⟩ := h₃
    refine ⟨⟨h₃, tk₃, _, rfl, fun b o hb eb => hk₃ b o (hk₂ b o hb eb), hn₂.keeps hk₃⟩, ?_⟩
    have ltn : ∀ b : Nat, b < h₂.objs.size → a ≠ b := fun b hb => Nat.ne_of_gt (Nat.lt_of_lt_of_le hb hale)
    have e1 : (l.take (i + 1)).map (fun c => (c, kk)) = (l.take i).map (fun c => (c, kk)) ++ [(c, kk)] := by rw [List.take_add_one, hc]; simp
    rw [e1]
    refine Tl.snoc (hR.stab fun b o hb eb => ?_) hT₃ ?_
    · simp only [List.mem_cons, not_or] at hb
      exact hk₃ b o (hk₂ b o hb.2.1 eb)
    · intro hm
      simp only [List.mem_cons] at hm
      rcases hm with q | q | q | q
      · exact ltn _ (Heap.lt_size (hk₂ I _ hIC hoI)) q
      · obtain ⟨o, ho⟩ := hC2; exact ltn _ (Heap.lt_size ho) q
      · exact ltn _ (Heap.lt_size hD₂) q
      · obtain ⟨o, ho⟩ := hno a q
        exact ltn _ (Heap.lt_size (hext2 _ _ ho)) rfl
  · intro I C D h' tk m' ys hC hD hDC hnC hacc hR hk
    rw [List.take_length] at hR
    exact lc_E (Rr := fun h => Tl (C :: no) (l.map fun c => (c, kk)) ys h) hC hDC hnC hacc hk (hR.less fun b hb => .inl (by
        rcases List.mem_cons.mp hb with q | q
        · exact List.mem_cons_of_mem _ (List.mem_cons.mpr (.inl q))
        · exact List.mem_cons_of_mem _ (List.mem_cons_of_mem _ (List.mem_cons_of_mem _ q))))
      (fun h h' hk' x => x.stab fun b o hb eb => hk' b o (fun q => hb (by simp [q])) eb) fun h'' hD'' hR'' hk'' => hQ D h'' tk ys hD'' (hR''.less fun b hb => .inl (List.mem_cons_of_mem _ hb)) hk''
end

set_option maxHeartbeats 2000000 in
theorem law_told {prog : Program} {w : World} {A : Around} {E : Value → Shared → Prop} {s : Shared} {l nm : List Nat} {r : Nat} {t u v : Tok} {Q : Value → Shared → Prop} (W : Wd w s.heap) (Rm' : Rm A 3 9) (hl : l.length ≤ 1000) (hl2 : ∀ c ∈ l, c < 256) (hnm : nm.length ≤ 100) (hnm2 : ∀ c ∈ nm, c < 256) (hr : r ≤ 10)
    (h : ∀ h' tk t', Ext s.heap h' → Q (.str (tx (told l nm r)) t') { s with heap := h', toks := tk }) : wpAny (model prog w) A (call (.ref 120) [.str (tx l) t, .str (tx nm) u, .int (r : Int) v]) Q E s := by
  refine enterC (d := 2) (u := 6) (binds := [(PySem.Str.ofString "text", Value.str (tx l) t), (PySem.Str.ofString "name", Value.str (tx nm) u), (PySem.Str.ofString "rounds", Value.int (r : Int) v)]) W Rm' (by with_unfolding_all rfl) (by with_unfolding_all rfl) (by rfl) (kindsX (by with_unfolding_all rfl) _) rfl rfl rfl fun h₁ tk F hc W' R' => ?_
  have hN : h₁.IsCell (s.heap.objs.size + 1) (some (Value.str (tx nm) u)) := hc (PySem.Str.ofString "name") _ (by with_unfolding_all rfl)
  have hR : h₁.IsCell (s.heap.objs.size + 1 + 1) (some (Value.int (r : Int) v)) := hc (PySem.Str.ofString "rounds") _ (by with_unfolding_all rfl)
  clear hc
  walk_at "st"
  with_reducible refine lc_assign (cl := [(PySem.Str.ofString "name", s.heap.objs.size + 1)]) (by with_unfolding_all rfl) (by with_unfolding_all rfl) rfl (by decide) (by intro _; with_unfolding_all rfl) ?_
  repeat' walk_at "st"
  refine call_range fun rg ru rv tk₂ h₂ hrg hk₂ hrn => ?_
  have F := F.keeps hk₂
  have hN := cell_at hN (hk₂ _)
  have hR := cell_at hR (hk₂ _)
  have R6 : Rm (A.deeper (envOfC (PySem.Str.ofString "_law_told") _ s.heap.objs.size 120 (.ref 119))) 2 6 := R'
  refine nest_go (pre nm) (fun i => (i : Int)) [s.heap.objs.size] (src_range R'.hh hrg (by omega)) R'.hh (by omega) (by simp [pre]; omega) (fun _ _ _ _ => rfl) (fun _ _ _ _ => rfl) (by decide) rfl rfl rfl (by decide) ?_ ?_ ?_ ?_ ?_
  · intro a ha
    rw [List.mem_singleton.mp ha]
    obtain ⟨o, _, _, ho, _⟩ := F.ns
    exact ⟨o, ho⟩
  · intro x env
    with_unfolding_all rfl
  · intro C s₂ m hext hn
    have hN' := cell_at hN (hext _)
    repeat' walk_at "st"
    refine add_tx lit_fr1 rfl (by simp; omega) fun t₃ k₃ => ?_
    repeat' walk_at "st"
    refine add_tx rfl lit_fr2 (by simp; omega) fun t₃ k₃ => ?_
    exact ⟨⟨t₃, rfl⟩, _, _, rfl, fun _ _ e => e⟩
  · intro C s₂ m i c t₂ u₂ hi hext hn hm0 hm1
    refine wpAny_Tuple ?_
    repeat' walk_at "st"
    refine ⟨by show 2 ≤ sizeLine; decide, _, _, _, rfl, rfl, fun _ _ eb => Heap.get?_push_of_some _ eb, Nat.le_refl _, ⟨_, _, _, Heap.get?_push_size _ rfl, rfl, _, rfl⟩⟩
  intro D C h₃ tk₃ m' ys hC hD hDC hnC hacc hT hk₃
  refine lc_A (Rr := fun h => Tl [C, D, s.heap.objs.size] ((List.range r).flatMap fun i : Nat => (pre nm).map fun c => (c, ((i : Nat) : Int))) ys h) (by with_unfolding_all rfl) (by with_unfolding_all rfl) (by with_unfolding_all rfl) hC hD hDC hnC hacc hk₃ F.ns hT
    (fun h h' hk x => x.stab fun b o hb eb => hk b o (fun q => hb (by simp [q])) (fun q => hb (by simp [q])) eb) fun h₄ tk₄ hD₄ hT₄ hn₄ hk₄ => ?_
  have F := fr_upd F hn₄ hk₄
  have hN := cell_at hN (hk₄ _ · c1)
  have hR := cell_at hR (hk₄ _ · c2)
  have hT := hT₄.less (no' := [s.heap.objs.size]) fun b hb => .inl (List.mem_cons_of_mem _ (List.mem_cons_of_mem _ hb))
  have hDl : h₄.IsList D ys.toArray := ⟨_, hD₄, rfl, _, rfl⟩
  clear hn₄ hk₄ hD₄ hT₄ hk₃ hk₂ W'
  repeat' walk_at "st"
  with_reducible refine lc_eval (cl := [(PySem.Str.ofString "rounds", s.heap.objs.size + 1 + 1)]) (by with_unfolding_all rfl) rfl (by decide) (by intro _; with_unfolding_all rfl) ?_
  repeat' walk_at "st"
  refine lc_tups (r : Int) [s.heap.objs.size] R'.hh hl (fun _ _ _ => rfl) (fun _ _ _ => rfl) (by decide) rfl rfl ?_ ?_ ?_
  · intro a ha
    rw [List.mem_singleton.mp ha]
    obtain ⟨o, _, _, ho, _⟩ := F.ns
    exact ⟨o, ho⟩
  · intro C s₂ m c u₂ hext hn hm
    have hR' := cell_at hR (hext _)
    refine wpAny_Tuple ?_
    repeat' walk_at "st"
    refine ⟨by show 2 ≤ sizeLine; decide, _, _, _, rfl, rfl, fun _ _ eb => Heap.get?_push_of_some _ eb, Nat.le_refl _, ⟨_, _, _, Heap.get?_push_size _ rfl, rfl, _, rfl⟩⟩
  intro D₂ h₅ tk₅ ys₂ hD₂ hT₂ hk₅
  have hlen1 := hT.length
  have hlen2 := hT₂.length
  rw [flat_len (pre nm) (fun i => (i : Int))] at hlen1
  rw [List.length_map] at hlen2
  have hlen3 : r * (pre nm).length ≤ 10 * 105 := Nat.mul_le_mul hr (by simp [pre]; omega)
  have F := F.keeps hk₅
  refine add_lst (isl_at hDl (hk₅ _)) ⟨_, hD₂, rfl, _, rfl⟩ ?_ fun D₃ h₆ hD₃ hk₆ hle => ?_
  · omega
  have hT := (((hT.stab fun b o _ eb => hk₅ b o eb).append hT₂).stab fun b o _ eb => hk₆ b o eb)
  have hN := cell_at (cell_at hN (hk₅ _)) (hk₆ _)
  have hR := cell_at (cell_at hR (hk₅ _)) (hk₆ _)
  have hne : D₃ ≠ s.heap.objs.size := fun q => by
    have h1 := F.ns.lt
    rw [← q] at h1
    exact Nat.lt_irrefl _ (Nat.lt_of_lt_of_le h1 hle)
  have F := F.keeps hk₆
  with_reducible refine stL F (by with_unfolding_all rfl) (by with_unfolding_all rfl) (by with_unfolding_all rfl) fun h₇ F hk₇ => ?_
  have hN := cell_at hN (hk₇ _ · c1)
  have hR := cell_at hR (hk₇ _ · c2)
  have hT := hT.stab (h' := h₇) fun b o hb eb => hk₇ b o (fun q => hb (by simp [q])) eb
  have hDl : h₇.IsList D₃ (ys ++ ys₂).toArray := let ⟨o, ho, rr⟩ := hD₃; ⟨o, hk₇ _ _ hne ho, rr⟩
  clear hk₅ hk₆ hk₇ hle hne hD₃ hT₂ hD₂ 
  repeat' walk_at "st"
  with_reducible refine lc_eval (cl := [(PySem.Str.ofString "rounds", s.heap.objs.size + 1 + 1)]) (by with_unfolding_all rfl) rfl (by decide) (by intro _; with_unfolding_all rfl) ?_
  repeat' walk_at "st"
  refine call_range fun rg ru rv tk₂ h₈ hrg hk₈ hrn => ?_
  have F := F.keeps hk₈
  have hR := cell_at hR (hk₈ _)
  have hT := hT.stab fun b o _ eb => hk₈ b o eb
  have hDl := isl_at hDl (hk₈ _)
  clear hk₈
  refine nest_go [63, 61] (fun i => (r : Int) - 1 - (i : Int)) [s.heap.objs.size] (src_range R'.hh hrg (by omega)) R'.hh (by omega) (by decide) (fun _ _ _ _ => rfl) (fun _ _ _ _ => rfl) (by decide) rfl rfl rfl (by decide) ?_ ?_ ?_ ?_ ?_
  · intro a ha
    rw [List.mem_singleton.mp ha]
    obtain ⟨o, _, _, ho, _⟩ := F.ns
    exact ⟨o, ho⟩
  · intro x env
    with_unfolding_all rfl
  · intro C s₂ m hext hn
    repeat' walk_at "st"
    exact ⟨⟨_, by rw [lit_fr3]⟩, _, _, rfl, fun _ _ e => e⟩
  · intro C s₂ m i c t₂ u₂ hi hext hn hm0 hm1
    have hR' := cell_at hR (hext _)
    refine wpAny_Tuple ?_
    repeat' walk_at "st"
    refine ⟨by show 2 ≤ sizeLine; decide, _, _, _, rfl, rfl, fun _ _ eb => Heap.get?_push_of_some _ eb, Nat.le_refl _, ⟨_, _, _, Heap.get?_push_size _ rfl, rfl, _, rfl⟩⟩
  intro D C h₃ tk₃ m' ys₃ hC hD hDC hnC hacc hT₃ hk₃
  refine lc_E (Rr := fun h => Tl [C, D, s.heap.objs.size] ((List.range r).flatMap fun i : Nat => [63, 61].map fun c => (c, (r : Int) - 1 - ((i : Nat) : Int))) ys₃ h) hC hDC hnC hacc hk₃ hT₃
    (fun h h' hk x => x.stab fun b o hb eb => hk b o (fun q => hb (by simp [q])) eb) fun h₄ hD₄ hT₄ hk₄ => ?_
  have hlen4 := hT₄.length
  rw [flat_len [63, 61] (fun i => (r : Int) - 1 - (i : Int))] at hlen4
  have F := F.keeps hk₄
  have hlen5 := hT.length
  refine add_lst (isl_at hDl (hk₄ _)) ⟨_, hD₄, rfl, _, rfl⟩ ?_ fun D₄ h₆ hD₆ hk₆ hle => ?_
  · rw [show ([63, 61] : List Nat).length = 2 from rfl] at hlen4
    rw [List.length_append]
    omega
  have hT := (((hT.stab fun b o _ eb => hk₄ b o eb).append (hT₄.less (no' := [s.heap.objs.size]) fun b hb => .inl (List.mem_cons_of_mem _ (List.mem_cons_of_mem _ hb)))).stab fun b o _ eb => hk₆ b o eb)
  have hne : D₄ ≠ s.heap.objs.size := fun q => by
    have h1 := F.ns.lt
    rw [← q] at h1
    exact Nat.lt_irrefl _ (Nat.lt_of_lt_of_le h1 hle)
  have F := F.keeps hk₆
  with_reducible refine stL F (by with_unfolding_all rfl) (by with_unfolding_all rfl) (by with_unfolding_all rfl) fun h₇ F hk₇ => ?_
  have hT := hT.stab (h' := h₇) fun b o hb eb => hk₇ b o (fun q => hb (by simp [q])) eb
  have hDl : h₇.IsList D₄ (ys ++ ys₂ ++ ys₃).toArray := let ⟨o, ho, rr⟩ := hD₆; ⟨o, hk₇ _ _ hne ho, rr⟩
  clear hk₃ hk₄ hk₆ hk₇ hle hne hD₆ hT₃ hT₄ hD₄ hR hN
  repeat' walk_at "st"
  refine MethodCall_ ?_ (by rfl)
  repeat' walk_at "st"
  with_reducible refine gm_str PySem.F.slot_str_join PySem.F.type_str_join ?_
  refine callWith_m ?_ (by with_unfolding_all rfl) (by with_unfolding_all rfl)
  repeat' walk_at "st"
  with_reducible refine lc_eval (cl := []) (by with_unfolding_all rfl) rfl (by decide) (by intro _; with_unfolding_all rfl) ?_
  repeat' walk_at "st"
  have hok := xs_ok hl2 hnm2 hr
  have hxl := xs_len hl hnm hr
  have hfl := xs_flat_len hok
  have hfe := xs_flat l nm r
  unfold xsOf at hok hxl hfl hfe
  refine lc_signs (W.keeps F.keep) hDl (hT.less (no' := []) fun b hb => nomatch hb) hok (by omega) R'.hh (fun _ _ _ => rfl) (fun _ _ _ => rfl) (by decide) rfl rfl rfl (by decide) ?_ ?_
  · intro C s₂ m c k t₂ u₂ W₂ hn hm0 hm1 hc hk
    repeat' walk_at "st"
    refine ⟨W₂, law_sign W₂ R' hc hk fun h₂ tk₂ t₃ k₂ => ⟨⟨_, rfl⟩, _, _, rfl, k₂⟩⟩
  intro D h₈ tk₈ vs hD hvs hk₈
  have F := F.keeps hk₈
  repeat' walk_at "st"
  refine join_tx lit_nil ⟨_, hD, rfl, _, rfl⟩ hvs (by omega) fun t₉ k₉ => ?_
  exact (congrArg (fun l => Q (.str (tx l) _) _) hfe).mpr (h _ _ _ F.keep)
section
open Builtin
section
variable {prog : Program} {w : World} {A : Around} {E : Value → Shared → Prop} {env : Env} {s : Shared}

theorem run_latin {id : String} {b : Array UInt8} {Q : Array Nat × Nat → Shared → Prop} (hb : b.size ≤ 1000000) (h : ∀ n, Q (b.map UInt8.toNat, n) s) : wpAny (model prog w) A (_codecs.runDecoder id _codecs.latin1Decoder none true b 0 []) Q E s := by
  unfold _codecs.runDecoder
  simp only [Std.Legacy.Range.forIn_eq_forIn_range']
  refine wpAny_bind ?_
  have hsz : ∀ k, (b.toList.take k).length ≤ 1000000 := fun k => by rw [List.length_take]; simp; omega
  refine wpAny_forIn_list _ (fun rest (st : Nat × Array Nat × _codecs.Faults) s' => s' = s ∧ rest.length + st.1 = b.size ∧ st.2.1 = ((b.toList.take st.1).map UInt8.toNat).toArray) _ ?_ ?_ _ _ ?_
  · rintro x rest ⟨p, out, st⟩ s' ⟨rfl, hl, ho⟩
    simp only at hl ho ⊢
    have hp : p < b.size := by simp at hl; omega
    rw [if_neg (by rw [ho, PySem.sizeLine_eq]; have := hsz p; simp at this ⊢; omega), if_neg (by omega)]
    refine wpAny_pure ⟨rfl, by simp at hl ⊢; omega, ?_⟩
    have e1 : b.toList.take (p + 1) = b.toList.take p ++ [b[p]] := by rw [List.take_add_one]; simp [hp]
    simp only [e1, ho]
    simp [Array.getD, hp]
  · rintro ⟨p, out, st⟩ s' ⟨rfl, hl, ho⟩
    simp only at hl ho ⊢
    have hp : p = b.size := by simpa using hl
    have e : out = b.map UInt8.toNat := by
      rw [ho, hp]
      apply Array.toList_inj.mp
      simp
      exact List.take_of_length_le (by simp)
    rw [e]
    exact wpAny_pure (h _)
  · refine ⟨rfl, ?_, by simp⟩
    simp [Std.Legacy.Range.size]
theorem args_decode_2 (a b : Value) : argsOk "bytes.decode" ⟨[a, b], []⟩ := by
  unfold argsOk; rw [signature?_of (id := "bytes.decode") (n := ['e', 'd', 'o', 'c', 'e', 'd']) (o := ['s', 'e', 't', 'y', 'b']) (by kernel_rfl) FB.owner_bytes]; kernel_rfl
theorem latin_entry {c : UInt8} {cs : List UInt8} {t u : Tok} : «bytes.decode» ⟨[.bytes (c :: cs).toArray t, .str (PySem.Str.ofString "latin1") u], []⟩ = (mkStr (PySem.Str.ofString "utf-8") >>= fun _ => mkStr (PySem.Str.ofString "latin1") >>= fun e => mkStr (PySem.Str.ofString "bytes.decode") >>= fun d =>
    call (.builtin "_codecs.decode.text") [.bytes (c :: cs).toArray t, e, .none, d] >>= fun v => ret v) := by kernel_rfl
theorem latin_road {id : String} {b : Array UInt8} : _codecs.decodeRoad id b (PySem.Str.ofString "latin1") none [] = (_codecs.runDecoder id _codecs.latin1Decoder none true b 0 [] >>= fun r => mkStr ⟨r.1⟩) := by kernel_rfl
theorem latin_text {b : Array UInt8} {t t1 t2 : Tok} {d : PySem.Str} (hb : b.size ≤ 1000000) :
    Meets («_codecs.decode.text» ⟨[.bytes b t, .str (PySem.Str.ofString "latin1") t1, .none, .str d t2], []⟩) (fun _ R s => ∀ t' k, R (.ok (.ret (.str ⟨b.map UInt8.toNat⟩ t'))) { s with toks := k }) := by
  refine .of_wp fun prog w A R s h => ?_
  show wpAny _ _ (Bytes.bytesLike _ (.bytes b t) >>= fun r => _) _ _ s
  refine wpAny_bind (wpAny_of_eq KBd.like_eq ?_)
  refine wpAny_bind (wpAny_of_eq KBd.held_eq ?_)
  show wpAny _ _ (_codecs.decodeRoad _ b (PySem.Str.ofString "latin1") none [] >>= fun v => _) _ _ s
  rw [latin_road]
  refine wpAny_bind (wpAny_bind (run_latin hb fun n => ?_))
  exact wpAny_mkStr (wpAny_pure ⟨_, rfl, h _ _⟩) (by show (b.map UInt8.toNat).size ≤ sizeLine; rw [Array.size_map, PySem.sizeLine_eq]; omega)
theorem latin_meets {c : UInt8} {cs : List UInt8} {t u : Tok} (hb : (c :: cs).length ≤ 1000000) :
    Meets («bytes.decode» ⟨[.bytes (c :: cs).toArray t, .str (PySem.Str.ofString "latin1") u], []⟩) (fun _ R s => ∀ t' k, R (.ok (.ret (.str (tx ((c :: cs).map UInt8.toNat)) t'))) { s with toks := k }) := by
  refine .of_wp fun prog w A R s h => ?_
  rw [latin_entry]
  refine wpAny_bind (wpAny_mkStr ?_ (by decide))
  refine wpAny_bind (wpAny_mkStr ?_ (by decide))
  refine wpAny_bind (wpAny_mkStr ?_ (by decide))
  refine wpAny_bind (call_function_meets KBd.kind_text KBd.plain_text KBd.entry_text (KBd.args_text _ _ _ _) (latin_text (by simpa using hb)) fun t' k => wpAny_pure ⟨_, rfl, ?_⟩)
  have := h t' k
  simpa [tx] using this
/-- octets to a text -/
theorem decode_latin {l : List Nat} {t u : Tok} {Q : Value → Shared → Prop} (hne : l ≠ []) (hl : l.length ≤ 1000000) (h256 : ∀ c ∈ l, c < 256) (h : ∀ t' k, Q (.str (tx l) t') { s with toks := k }) :
    wpAny (model prog w) A (call (.builtin "bytes.decode") [.bytes (l.map Nat.toUInt8).toArray t, .str (PySem.Str.ofString "latin1") u]) Q E s := by
  cases l with
  | nil => exact absurd rfl hne
  | cons c cs =>
    refine call_meets FB.slot_bytes_decode (typeIs_bytes _ _ _) FB.entry_bytes_decode (args_decode_2 _ _) (latin_meets (c := c.toUInt8) (cs := cs.map Nat.toUInt8) (by simpa using hl)) fun t' k => ?_
    have e : (c.toUInt8 :: cs.map Nat.toUInt8).map UInt8.toNat = c :: cs := by
      have : ∀ l : List Nat, (∀ c ∈ l, c < 256) → (l.map Nat.toUInt8).map UInt8.toNat = l := by
        intro l hl
        rw [List.map_map]
        exact (List.map_congr_left (g := _root_.id) fun c hc => by simp [Nat.mod_eq_of_lt (hl c hc)]).trans (List.map_id _)
      exact this (c :: cs) h256
    rw [e]
    exact h _ _
theorem gm_bytes {M : Model} {b : Array UInt8} {t : Tok} {pl : Sem Bool} {Q : Value × List Value → Shared → Prop} (h : Q (.builtin "bytes.decode", [.bytes b t]) s) : wpAny M A (getMethod (.bytes b t) (PySem.Str.ofString "decode") pl) Q E s := KBd.method h
end
end
section
open Builtin Builtin.Str
def p0 : Params := { strHash := fun _ => 0, shareClass := fun _ => 0, mergeTok := fun _ => 0, idOf := fun _ => 0, idOfShared := fun _ _ => 0, followText := fun _ => false, idOfImm := fun _ => 0 }
noncomputable def mapOf : List Value × Nat := match (hd.heap_39 p0).lookup 22 with
  | some ⟨_, _, .seq xs n, _⟩ => (xs.toList, n)
  | _ => ([], 0)
theorem map_obj (P : Params) : (hd.heap_39 P).lookup 22 = some { cls := .type "list", data := .seq mapOf.1.toArray mapOf.2 } := by kernel_rfl
noncomputable def mapTx (c : Nat) : Option PySem.Str := match mapOf.1[c]? with
  | some (.str y _) => some y
  | _ => none
theorem map_tx : ∀ c : Fin 256, mapTx c.val = some (tx (enc1 c.val)) := by decide +kernel
theorem map_at {c : Nat} (hc : c < 256) : ∃ u, mapOf.1[c]? = some (.str (tx (enc1 c)) u) := by
  have h := map_tx ⟨c, hc⟩
  unfold mapTx at h
  split at h
  · rename_i y u e
    exact ⟨u, by rw [e]; rw [Option.some.inj h]⟩
  · cases h

section
variable {prog : Program} {w : World} {A : Around} {E : Value → Shared → Prop} {env : Env} {s : Shared}
theorem lookup_ev {T : Addr} {items : Array Value} {c : Nat} {y : PySem.Str} {u : Tok} {Q : Mapped → Shared → Prop}
    (hl : s.heap.IsList T items) (hc : c < 256) (hi : items[c]? = some (.str y u)) (h : ∀ tk, Q (.text y) { s with toks := tk }) : wpAny (model prog w) A (tableLookup (.ref T) c) Q E s := by
  unfold tableLookup
  refine wpAny_bind (wpAny_attempt (wpAny_bind ?_))
  refine wpAny_mkInt ?_
  refine wpAny_getItem_list (s := { s with toks := s.toks + 1 }) (k := (c : Int)) hl (by omega) (by omega) (x := .str y u) (by simpa using hi) ?_
  show wpAny (model prog w) A (do
    if let some i ← asInt? (.str y u) then
      if i < 0 || i > 0x10FFFF then
        rule "str.translate.out-of-range"; raiseError "ValueError" "character mapping must be in range(0x110000)"
      return .char i.toNat
    if let some t ← asStr? (.str y u) then return .text t
    rule "str.translate.bad-value"; raiseError "TypeError" "character mapping must return integer, None or str") Q E _
  exact wpAny_pure (h _)
theorem trans_ev {T : Addr} {items : Array Value} {l : List Nat} {t : Tok} {Q : Fin → Shared → Prop} (hl : s.heap.IsList T items) (h256 : ∀ c ∈ l, c < 256) (hne : l ≠ []) (hlen : l.length ≤ 100000)
    (hi : ∀ c, c < 256 → ∃ u, items[c]? = some (.str (tx (enc1 c)) u)) (h : ∀ t' k, Q (.done (.ret (.str (tx (enc l)) t'))) { s with toks := k }) : wpAny (model prog w) A («str.translate» ⟨[.str (tx l) t, .ref T], []⟩) Q E s := by
  unfold «str.translate»
  show wpAny _ _ (do
    let (self, s, table) ← (pure (.str (tx l) t, tx l, .ref T) : Sem (Value × PySem.Str × Value))
    _) _ _ _
  refine wpAny_bind (wpAny_pure ?_)
  dsimp only
  rw [if_neg (by rw [tx_length]; simpa using hne)]
  rw [← Array.forIn_toList]
  refine wpAny_bind ?_
  have hencl : ∀ pre : List Nat, (enc pre).length ≤ 3 * pre.length := fun pre => by
    induction pre with
    | nil => simp [enc]
    | cons c pre ih =>
      have : (enc1 c).length ≤ 3 := by unfold enc1; split; · simp
                                       · split <;> simp
      rw [enc_cons, List.length_append, List.length_cons]
      omega
  refine wpAny_forIn_list _ (fun rest (st : List PySem.Str × Nat × Bool × List (Nat × Option Nat) × Bool) s' => ∃ pre k, pre ++ rest = l ∧ s' = { s with toks := k } ∧ st.1.reverse.flatMap (fun y => y.cps.toList) = enc pre ∧ st.2.1 = (enc pre).length ∧
    (∀ c a, (c, a) ∈ st.2.2.2.1 → ∃ d, a = some d ∧ enc1 c = [d]) ∧ st.2.2.2.2 = false) _ ?_ ?_ _ _ ?_
  · rintro c rest ⟨pieces, total, fast, known, drop⟩ s' ⟨pre, k, hpre, rfl, hp, ht, hk, hd⟩
    simp only at hp ht hk hd ⊢
    subst hd
    have hcl : c ∈ l := by rw [← hpre]; simp
    have hplen : pre.length ≤ l.length := by rw [← hpre]; simp
    have hc := h256 c hcl
    obtain ⟨u, hu⟩ := hi c hc
    have hpre' : (pre ++ [c]) ++ rest = l := by rw [← hpre]; simp
    have hok : ¬ tooLong total = true := by
      unfold tooLong
      rw [ht, PySem.sizeLine_eq]
      have := hencl pre
      simp; omega
    rw [if_neg hok]
    have henc : enc (pre ++ [c]) = enc pre ++ enc1 c := by rw [enc_append]; simp [enc]
    have stepT : ∀ (k : Nat) (kn : List (Nat × Option Nat)), (∀ c a, (c, a) ∈ kn → ∃ d, a = some d ∧ enc1 c = [d]) →
        ∃ pre k', pre ++ rest = l ∧ ({ s with toks := k } : Shared) = { s with toks := k' } ∧ ((tx (enc1 c) :: pieces).reverse.flatMap fun y => y.cps.toList) = enc pre ∧ total + (tx (enc1 c)).length = (enc pre).length ∧ (∀ c a, (c, a) ∈ kn → ∃ d, a = some d ∧ enc1 c = [d]) ∧ false = false := by
      intro k kn hkn
      refine ⟨pre ++ [c], k, hpre', rfl, ?_, ?_, hkn, rfl⟩
      · rw [henc, List.reverse_cons, List.flatMap_append, hp]; simp [tx]
      · rw [henc, List.length_append, ht, tx_length]
    have stepD : ∀ (k d : Nat) (kn : List (Nat × Option Nat)), enc1 c = [d] → (∀ c a, (c, a) ∈ kn → ∃ d, a = some d ∧ enc1 c = [d]) →
        ∃ pre k', pre ++ rest = l ∧ ({ s with toks := k } : Shared) = { s with toks := k' } ∧ ((({ cps := #[d] } : PySem.Str) :: pieces).reverse.flatMap fun y => y.cps.toList) = enc pre ∧ total + 1 = (enc pre).length ∧ (∀ c a, (c, a) ∈ kn → ∃ d, a = some d ∧ enc1 c = [d]) ∧ false = false := by
      intro k d kn hd hkn
      refine ⟨pre ++ [c], k, hpre', rfl, ?_, ?_, hkn, rfl⟩
      · rw [henc, hd, List.reverse_cons, List.flatMap_append, hp]; simp
      · rw [henc, hd, List.length_append, ht]; simp
    cases fast with
    | false =>
      simp only [Bool.false_eq_true, if_false]
      exact wpAny_bind (lookup_ev hl hc hu fun tk => wpAny_pure (stepT tk known hk))
    | true =>
      simp only [if_true]
      cases hlk : known.lookup c with
      | some a =>
        have hm : (c, a) ∈ known := by
          obtain ⟨l₁, l₂, e, _⟩ := List.lookup_eq_some_iff.mp hlk
          rw [e]; simp
        obtain ⟨d, rfl, hd⟩ := hk c a hm
        exact wpAny_bind (wpAny_pure (wpAny_pure (stepD _ d known hd hk)))
      | none =>
        refine wpAny_bind (lookup_ev hl hc hu fun tk => ?_)
        dsimp only
        cases hb : ((tx (enc1 c)).length == 1 && (tx (enc1 c)).cps.all fun x => decide (x < 128)) with
        | true =>
          simp only [if_true]
          have h1 : (enc1 c).length = 1 := by
            have := (Bool.and_eq_true_iff.mp hb).1
            rw [tx_length] at this
            simpa using this
          obtain ⟨d, hd⟩ : ∃ d, enc1 c = [d] := List.length_eq_one_iff.mp h1
          have e0 : (tx (enc1 c)).cps[0]? = some d := by rw [hd]; rfl
          rw [e0]
          refine wpAny_bind (wpAny_pure (wpAny_pure (stepD _ d ((c, some d) :: known) hd fun c' a' hm => ?_)))
          rcases List.mem_cons.mp hm with q | q
          · obtain ⟨rfl, rfl⟩ := Prod.mk.inj q
            exact ⟨d, rfl, hd⟩
          · exact hk c' a' q
        | false =>
          simp only [Bool.false_eq_true, if_false]
          refine wpAny_bind (wpAny_pure ?_)
          refine wpAny_bind (wpAny_rule ?_)
          exact wpAny_bind (lookup_ev hl hc hu fun tk => wpAny_pure (stepT tk known hk))
  · rintro ⟨pieces, total, fast, known, drop⟩ s' ⟨pre, k, hpre, rfl, hp, ht, hk, hd⟩
    simp only at hp ht hk hd ⊢
    have hpl : pre = l := by simpa using hpre
    subst hpl
    have hok : ¬ tooLong total = true := by
      unfold tooLong
      rw [ht, PySem.sizeLine_eq]
      have := hencl pre
      simp; omega
    rw [if_neg hok]
    have e : ∀ (ps : List PySem.Str) (acc : Array Nat), (ps.foldl (fun acc p => acc ++ p.cps) acc).toList = acc.toList ++ ps.flatMap fun y => y.cps.toList := by
      intro ps
      induction ps with
      | nil => intro acc; simp
      | cons p ps ih => intro acc; rw [List.foldl_cons, ih]; simp
    have e2 : (⟨pieces.reverse.foldl (fun acc p => acc ++ p.cps) #[]⟩ : PySem.Str) = tx (enc pre) := by
      show PySem.Str.mk _ = PySem.Str.mk _
      congr 1
      apply Array.toList_inj.mp
      rw [e, hp]
      simp
    rw [e2]
    refine wpAny_bind (wpAny_mkStr (wpAny_pure (h _ _)) ?_)
    rw [tx_length, PySem.sizeLine_eq]
    have := hencl pre
    omega
  · exact ⟨[], s.toks, by simp [tx], rfl, by simp [enc], by simp [enc], fun c a hm => by simp at hm, rfl⟩
end
end
theorem wr_nil (nm : List Nat) : wr [] nm = [] := rfl
theorem wr_ne {l : List Nat} (h : l ≠ []) (nm : List Nat) : wr l nm = pre nm ++ enc l ++ [63, 61] := by
  cases l with
  | nil => exact absurd rfl h
  | cons c l => rfl
theorem enc1_len (c : Nat) : (enc1 c).length ≤ 3 := by
  unfold enc1; split; · simp
  · split <;> simp
theorem enc_len : ∀ l : List Nat, (enc l).length ≤ 3 * l.length
  | [] => by simp [enc]
  | c :: l => by
    have := enc_len l
    have := enc1_len c
    rw [enc_cons, List.length_append, List.length_cons]
    omega
section
variable {prog : Program} {w : World} {A : Around} {E : Value → Shared → Prop} {s : Shared} {env : Env}
theorem jp_cons {out : List Nat} {x : Sem Value} {rest : List (Sem Value)} {Q : Value → Shared → Prop}
    (h : wpAny (model prog w) A x (fun v s₁ => ∃ l t, v = .str (tx l) t ∧ out.length + l.length ≤ 1000000 ∧ wpAny (model prog w) A (joinParts (tx (out ++ l)) rest) Q E s₁) E s) : wpAny (model prog w) A (joinParts (tx out) (x :: rest)) Q E s := by
  refine joinParts_cons (wpAny_mono h (fun v s₁ h₁ => ?_) fun _ _ e => e)
  obtain ⟨l, t, rfl, hl, hj⟩ := h₁
  refine ⟨?_, by rw [tx_append]; exact hj⟩
  rw [tx_append, tx_length, PySem.sizeLine_eq, List.length_append]
  omega
theorem jp_nil {out : List Nat} {Q : Value → Shared → Prop} (hl : out.length ≤ 1000000) (h : ∀ t' k, Q (.str (tx out) t') { s with toks := k }) : wpAny (model prog w) A (joinParts (tx out) (evalEach [] env)) Q E s :=
  joinParts_nilE (joinParts_nil (h _ _) (by rw [tx_length, PySem.sizeLine_eq]; omega))
theorem fv_s {e : Expr} {pos : Pos} {Q : Value → Shared → Prop}
    (h : wpAny (model prog w) A (eval e env) (fun v s₁ => ∃ l t, v = .str (tx l) t ∧ l.length ≤ 1000000 ∧ ∀ t' k, Q (.str (tx l) t') { s₁ with toks := k }) E s) : wpAny (model prog w) A (eval (.FormattedValue e 115 none pos) env) Q E s := by
  refine wpAny_FormattedValue_s (wpAny_mono h (fun v s₁ h₁ => ?_) fun _ _ e => e)
  obtain ⟨l, t, rfl, hl, hj⟩ := h₁
  have hsz : (tx l).length ≤ sizeLine := by rw [tx_length, PySem.sizeLine_eq]; omega
  exact habitSame_str (fun t' k => formatField_str (fun t' k => hj t' k) hsz) hsz
end
theorem gm_trans {M : Model} {A : Around} {E : Value → Shared → Prop} {s : Shared} {x : PySem.Str} {t : Tok} {pl : Sem Bool} {Q : Value × List Value → Shared → Prop} (h : Q (.builtin "str.translate", [.str x t]) s) :
    wpAny M A (getMethod (.str x t) (PySem.Str.ofString "translate") pl) Q E s := by with_reducible exact gm_str PySem.F.slot_str_translate PySem.F.type_str_translate h
noncomputable def fnAt (P : Params) (a : Addr) : FuncData := match (hd.heap_39 P).lookup a with
  | some ⟨_, _, .func fd, _⟩ => fd
  | _ => default

theorem call_trans {prog : Program} {w : World} {A : Around} {E : Value → Shared → Prop} {s : Shared} {l : List Nat} {t : Tok} {Q : Value → Shared → Prop} (W : Wd w s.heap) (h256 : ∀ c ∈ l, c < 256) (hne : l ≠ []) (hlen : l.length ≤ 100000) (h : ∀ t' k, Q (.str (tx (enc l)) t') { s with toks := k }) :
    wpAny (model prog w) A (call (.builtin "str.translate") [.str (tx l) t, .ref 22]) Q E s := by
  refine call_meets F.slot_str_translate (typeIs_str _ _ _) F.entry_str_translate (F.args_str_translate_2 _ _) (S := fun _ R s => s.heap.IsList 22 mapOf.1.toArray ∧ ∀ t' k, R (.ok (.ret (.str (tx (enc l)) t'))) { s with toks := k }) ?_ ?_
  · refine Meets.of_wp fun prog w A R s hS => trans_ev hS.1 h256 hne hlen (fun c hc => ?_) fun t' k => ⟨_, rfl, hS.2 t' k⟩
    obtain ⟨u, hu⟩ := map_at hc
    exact ⟨u, by simpa using hu⟩
  · exact ⟨⟨_, W.X _ _ (map_obj _), rfl, _, rfl⟩, h⟩
set_option maxHeartbeats 2000000 in
theorem header_encode {prog : Program} {w : World} {A : Around} {E : Value → Shared → Prop} {s : Shared} {l nm : List Nat} {t u : Tok} {args : List Value} {Q : Value → Shared → Prop} (W : Wd w s.heap) (Rm' : Rm A 1 3) (hl : l.length ≤ 10000) (hl2 : ∀ c ∈ l, c < 256) (hnm : nm.length ≤ 100)
    (hb : BindsTo s (fnAt w.params 45) ⟨args, []⟩ [(PySem.Str.ofString "header_bytes", Value.bytes (l.map Nat.toUInt8).toArray t), (PySem.Str.ofString "charset", Value.str (tx nm) u)])
    (h : ∀ h' tk t', Ext s.heap h' → Q (.str (tx (wr l nm)) t') { s with heap := h', toks := tk }) : wpAny (model prog w) A (call (.ref 45) args) Q E s := by
  refine enter (d := 0) (u := 0) (binds := [(PySem.Str.ofString "header_bytes", Value.bytes (l.map Nat.toUInt8).toArray t), (PySem.Str.ofString "charset", Value.str (tx nm) u)]) W Rm' (by with_unfolding_all rfl) (by with_unfolding_all rfl) (by with_unfolding_all exact hb) (locs rfl) rfl rfl rfl (by decide) fun h₁ tk F W' R' htk => ?_
  repeat' walk_at "st"
  refine truthy_bytes (by simp; omega) ?_
  refine ite_bool (fun hz => ?_) (fun hz => ?_)
  · have hnil : l = [] := by simpa using hz
    subst hnil
    repeat' walk_at "st"
    exact (congrArg (fun l => Q (.str l _) _) lit_nil.symm).mp (h _ _ _ F.keep)
  have hne : l ≠ [] := by rintro rfl; simp at hz
  repeat' walk_at "st"
  refine MethodCall_ ?_ (by with_unfolding_all rfl)
  refine MethodCall_ ?_ (by with_unfolding_all rfl)
  repeat' walk_at "st"
  with_reducible refine gm_bytes ?_
  with_reducible refine callWith_m ?_ (by with_unfolding_all rfl) (by with_unfolding_all rfl)
  repeat' walk_at "st"
  refine decode_latin hne (by omega) hl2 fun t₂ k₂ => ?_
  with_reducible refine gm_trans ?_
  with_reducible refine callWith_m ?_ (by with_unfolding_all rfl) (by with_unfolding_all rfl)
  repeat' walk_at "st"
  refine call_trans W' hl2 hne (by omega) fun t₃ k₃ => ?_
  with_reducible refine stL F (by with_unfolding_all rfl) (by with_unfolding_all rfl) (by with_unfolding_all rfl) fun h₃ F hk₃ => ?_
  repeat' walk_at "st"
  have hen := enc_len l
  refine JoinedStr_many ?_
  refine jp_cons (out := []) (wpAny_Constant_str ⟨[61, 63], _, by rw [lit_fr1], by simp, ?_⟩)
  refine jp_cons (fv_s (nmL F.ns (by with_unfolding_all rfl) (by with_unfolding_all rfl) ⟨nm, _, rfl, by omega, fun t₄ k₄ => ⟨nm, _, rfl, by simp; omega, ?_⟩⟩ (by with_unfolding_all rfl) (by with_unfolding_all rfl) (by with_unfolding_all rfl)))
  refine joinParts_consE (jp_cons (wpAny_Constant_str ⟨[63, 113, 63], _, by rw [lit_fr2], by simp; omega, ?_⟩))
  refine joinParts_consE (jp_cons (fv_s (nmL F.ns (by with_unfolding_all rfl) (by with_unfolding_all rfl) ⟨enc l, _, rfl, by omega, fun t₅ k₅ => ⟨enc l, _, rfl, by simp; omega, ?_⟩⟩ (by with_unfolding_all rfl) (by with_unfolding_all rfl) (by with_unfolding_all rfl))))
  refine joinParts_consE (jp_cons (wpAny_Constant_str ⟨[63, 61], _, by rw [lit_fr3], by simp; omega, ?_⟩))
  refine jp_nil (by simp; omega) fun t₆ k₆ => ?_
  have e : wr l nm = [] ++ [61, 63] ++ nm ++ [63, 113, 63] ++ enc l ++ [63, 61] := by rw [wr_ne hne]; simp [pre]
  exact (congrArg (fun l => Q (.str (tx l) _) _) e).mp (h _ _ _ F.keep)
section
variable {prog : Program} {w : World} {A : Around} {E : Value → Shared → Prop} {env : Env}
/-- a comprehension with one plain name and no tests -/
theorem lc_map {elt iter : Expr} {x : PySem.Str} {px : Pos} {scope : Scope} {cl : List (PySem.Str × Addr)} {pos : Pos} {s₁ : Shared} {xv : Value} {n : Nat} {P : Nat → Value → Prop} {T : Heap → Addr → Prop} {RR : Value → Addr → Result → Shared → Prop}
    (hsrc : Src prog w A xv n P T s₁) (Rel : Nat → List Value → Prop) (hn : n ≤ 1000000) (hu1 : ∀ it acc env, A.under (.compLoop (.ListComp elt [⟨.Name x px, iter, [], 0⟩] scope pos) 0 it acc env) = A) (hu2 : ∀ it acc env, A.under (.compStart (.ListComp elt [⟨.Name x px, iter, [], 0⟩] scope pos) 0 it acc env) = A)
    (hcell : ∀ y ∈ scope.names, y.2 ≠ .cell) (hkind : scope.kind = .function) (hx : scope.names.lookup x = some .local)
    (rlen : ∀ i ys, Rel i ys → ys.length ≤ i) (r0 : Rel 0 [])
    (elem : ∀ C s m i v ys, i < n → P i v → Ext s₁.heap s.heap → s.heap.Ns C m → m x = some v → Rel i ys → s₁.toks ≤ s.toks →
      wpAny (model prog w) A (eval elt (compEnvC scope cl C env)) (fun y s' => Rel (i + 1) (ys ++ [y]) ∧ ∃ h' tk, s' = { s with heap := h', toks := tk } ∧ Ext s.heap h') noE s)
    (hRR : ∀ D C h' tk m' ys, s₁.heap.get? C = none → s₁.heap.get? D = none → D ≠ C → h'.Ns C m' → h'.get? D = some (LCg.lst ys) → Rel n ys → Ext s₁.heap h' → RR (.ref D) C (.ok .next) { s₁ with heap := h', toks := tk }) :
    wpAny (model prog w) A (pyIter xv) (fun it s₂ => wpAny (model prog w) A (newList []) (fun acc s₃ => wpAny (model prog w) A (newFunctionEnv scope env.globals cl [] env.qual none .none (some env)) (fun cenv s₄ =>
      codeAny (model prog w) A (.compStart (.ListComp elt [⟨.Name x px, iter, [], 0⟩] scope pos) 0 it acc { cenv with scope := relabel scope env }) (RR acc cenv.locals) s₄) E s₃) E s₂) E s₁ := by
  refine lc_goT hsrc hn hu1 hu2 hcell hkind (fun _ _ _ i ys _ => Rel i ys) (fun _ _ _ i ys _ h => rlen i ys h) (fun _ _ _ _ _ _ _ _ h => h) (fun _ _ _ _ => r0) ?_ ?_
  · intro I C D i ys s m v hi hv hTI hIs hIC hID hCD hext hC1 hnC hD hR htk
    refine letOwned_name (wpAny_with_toks (n := s₁.toks) htk (bind_x hx hkind hnC fun h₂ tk₂ hn₂ hk₂ htk₂ => ?_))
    refine wpAny_tests_nil ?_
    simp only [if_true]
    have hext2 : Ext s₁.heap h₂ := fun b o eb => hk₂ b o (fun q => by rw [q, hC1] at eb; cases eb) (hext b o eb)
    refine wpAny_mono (elem C { s with heap := h₂, toks := tk₂ } _ i v ys hi hv hext2 hn₂ (by simp) hR htk₂) (fun y s₃ h₃ => ?_) fun _ _ x => x
    obtain ⟨hR₃, h₃, tk₃, rfl, hk₃⟩ := h₃
    exact ⟨⟨h₃, tk₃, _, rfl, fun b o hb eb => hk₃ b o (hk₂ b o hb eb), hn₂.keeps hk₃⟩, hR₃⟩
  · intro I C D h' tk m' ys hC hD hDC hnC hacc hR hk
    exact hRR D C h' tk m' ys hC hD hDC hnC hacc hR hk
end
section
variable {prog : Program} {w : World} {A : Around} {E : Value → Shared → Prop} {s : Shared}
theorem eqT {x : PySem.Str} {a b : List Nat} {t u : Tok} {Q : Value → Shared → Prop} (hx : x = tx b) (h : Q (.bool (decide (a = b))) s) : wpAny (model prog w) A (compareOp .Eq (.str (tx a) t) (.str x u)) Q E s := by
  subst hx
  refine P.eq_str ?_
  have e : (a == b) = decide (a = b) := by rw [Bool.eq_iff_iff]; simp
  rw [show (tx a).cps.toList = a from rfl, show (tx b).cps.toList = b from rfl, e]
  exact h
theorem neT {x : PySem.Str} {a b : List Nat} {t u : Tok} {Q : Value → Shared → Prop} (hx : x = tx b) (h : Q (.bool (!decide (a = b))) s) : wpAny (model prog w) A (compareOp .NotEq (.str (tx a) t) (.str x u)) Q E s := by
  subst hx
  refine P.ne_str ?_
  have e : (a != b) = !decide (a = b) := by rw [Bool.eq_iff_iff]; simp
  rw [show (tx a).cps.toList = a from rfl, show (tx b).cps.toList = b from rfl, e]
  exact h
end
def isoL : List Nat := [105, 115, 111, 45, 56, 56, 53, 57, 45, 49]
theorem he_one {w : World} {s : Shared} (W : Wd w s.heap) (b : Array UInt8) (t : Tok) : ∃ u, BindsTo s (fnAt w.params 45) ⟨[.bytes b t], []⟩ [(PySem.Str.ofString "header_bytes", Value.bytes b t), (PySem.Str.ofString "charset", Value.str (tx isoL) u)] := by
  refine ⟨?_, ?_⟩
  rotate_left
  · have h : (PySem.Str.ofString "iso-8859-1") = tx isoL := lit_iso
    rw [← h]
    exact BindsTo.of_defaults (T := 38) (by with_unfolding_all rfl) (W.X _ _ (by with_unfolding_all rfl)) (by with_unfolding_all rfl) (by with_unfolding_all rfl) (by with_unfolding_all rfl)
theorem he_two {w : World} {s : Shared} (W : Wd w s.heap) (b : Array UInt8) (x : PySem.Str) (t u : Tok) : BindsTo s (fnAt w.params 45) ⟨[.bytes b t, .str x u], []⟩ [(PySem.Str.ofString "header_bytes", Value.bytes b t), (PySem.Str.ofString "charset", Value.str x u)] :=
  BindsTo.of_defaults (T := 38) (by with_unfolding_all rfl) (W.X _ _ (by with_unfolding_all rfl)) (by with_unfolding_all rfl) (by with_unfolding_all rfl) (by with_unfolding_all rfl)
theorem ints_snoc {l : List Nat} {i : Nat} {ys : List Value} {c : Nat} {t : Tok} (h : IntsAre ys ((l.take i).map Int.ofNat)) (hc : l[i]? = some c) : IntsAre (ys ++ [.int (c : Int) t]) ((l.take (i + 1)).map Int.ofNat) := by
  rw [List.take_add_one, hc, List.map_append]
  exact h.append (.cons _ _ .nil)
theorem byteArr_nat (l : List Nat) : byteArr (l.map Int.ofNat) = (l.map Nat.toUInt8).toArray := by
  unfold byteArr
  rw [List.map_map]
  rfl

set_option maxHeartbeats 2000000 in
theorem law_written {prog : Program} {w : World} {A : Around} {E : Value → Shared → Prop} {s : Shared} {l nm : List Nat} {t u : Tok} {Q : Value → Shared → Prop} (W : Wd w s.heap) (Rm' : Rm A 2 6) (hl : l.length ≤ 10000) (hl2 : ∀ c ∈ l, c < 256) (hnm : nm.length ≤ 100)
    (h : ∀ h' tk t', Ext s.heap h' → Q (.str (tx (wr l nm)) t') { s with heap := h', toks := tk }) : wpAny (model prog w) A (call (.ref 130) [.str (tx l) t, .str (tx nm) u]) Q E s := by
  refine enter (d := 1) (u := 3) (binds := [(PySem.Str.ofString "text", Value.str (tx l) t), (PySem.Str.ofString "name", Value.str (tx nm) u)]) W Rm' (by with_unfolding_all rfl) (by with_unfolding_all rfl) (BindsTo.of_eq rfl) (locs rfl) rfl rfl rfl (by decide) fun h₁ tk F W' R' htk => ?_
  repeat' walk_at "st"
  with_reducible refine lc_eval (cl := []) (by with_unfolding_all rfl) rfl (by decide) (by intro _; with_unfolding_all rfl) ?_
  repeat' walk_at "st"
  refine lc_map (src_str R'.hh rfl) (fun i ys => IntsAre ys ((l.take i).map Int.ofNat)) (by omega) (fun _ _ _ => rfl) (fun _ _ _ => rfl) (by decide) rfl rfl ?_ .nil ?_ ?_
  · intro i ys h
    rw [h.length, List.length_map, List.length_take]
    exact Nat.min_le_left _ _
  · rintro C s₂ m i v ys hi ⟨c, u₂, hc, rfl⟩ hext hn hm hR _
    have W₂ := W'.keeps hext
    repeat' walk_at "st"
    exact ⟨ints_snoc hR hc, _, _, rfl, fun _ _ e => e⟩
  intro D C h₂ tk₂ m' ys hC hD hDC hnC hacc hR hk
  rw [List.take_length] at hR
  refine lc_E (Rr := fun _ => True) hC hDC hnC hacc hk True.intro (fun _ _ _ h => h) fun h₃ hD₃ _ hk₃ => ?_
  have F := F.keeps hk₃
  repeat' walk_at "st"
  refine call_bytes_ints ⟨_, hD₃, rfl, _, rfl⟩ hR ?_ ?_ R'.hh fun h₄ t₄ k₄ hk₄ => ?_
  · intro n hn
    obtain ⟨c, hc, rfl⟩ := List.mem_map.mp hn
    have := hl2 c hc
    constructor
    · exact Int.natCast_nonneg c
    · show (c : Int) < 256
      omega
  · rw [hR.length, List.length_map, PySem.sizeLine_eq]; omega
  rw [byteArr_nat]
  have F := F.keeps hk₄
  with_reducible refine stL F (by with_unfolding_all rfl) (by with_unfolding_all rfl) (by with_unfolding_all rfl) fun h₅ F hk₅ => ?_
  clear hR hk₄ hk₃ hD₃ hk hacc hnC hDC hC hD W'
  have W' := W.keeps F.keep
  repeat' walk_at "st"
  with_reducible refine eqT lit_iso ?_
  repeat' walk_at "st"
  refine ite_dec (fun he => ?_) (fun he => ?_)
  · subst he
    repeat' walk_at "st"
    obtain ⟨u₂, hb⟩ := he_one (s := { s with heap := h₅, toks := k₄ + 1 + 1 }) W' (l.map Nat.toUInt8).toArray t₄
    refine ⟨W', header_encode W' R'.mono hl hl2 hnm hb fun h₆ tk₆ t₆ hk₆ => ?_⟩
    exact h _ _ _ fun b o e => hk₆ b o (F.keep b o e)
  · repeat' walk_at "st"
    refine ⟨W', header_encode W' R'.mono hl hl2 hnm (he_two W' _ _ _ _) fun h₆ tk₆ t₆ hk₆ => ?_⟩
    exact h _ _ _ fun b o e => hk₆ b o (F.keep b o e)
section
variable {prog : Program} {w : World} {A : Around} {E : Value → Shared → Prop} {s : Shared}
theorem op_add {a b : Int} {t u : Tok} {Q : Value → Shared → Prop} (W : Wd w s.heap) (R : Rm A 1 3) (h : ∀ h' tk t', Ext s.heap h' → Q (.int (a + b) t') { s with heap := h', toks := tk }) : wpAny (model prog w) A (call (.ref 65) [.int a t, .int b u]) Q E s := by
  refine enter (d := 0) (u := 0) (binds := [(PySem.Str.ofString "a", Value.int a t), (PySem.Str.ofString "b", Value.int b u)]) W R (by with_unfolding_all rfl) (by with_unfolding_all rfl) (BindsTo.of_eq rfl) (locs rfl) rfl rfl rfl (by decide) fun h₁ tk F W' R' htk => ?_
  repeat' walk_at "st"
  exact h _ _ _ F.keep
theorem op_sub {a b : Int} {t u : Tok} {Q : Value → Shared → Prop} (W : Wd w s.heap) (R : Rm A 1 3) (h : ∀ h' tk t', Ext s.heap h' → Q (.int (a - b) t') { s with heap := h', toks := tk }) : wpAny (model prog w) A (call (.ref 86) [.int a t, .int b u]) Q E s := by
  refine enter (d := 0) (u := 0) (binds := [(PySem.Str.ofString "a", Value.int a t), (PySem.Str.ofString "b", Value.int b u)]) W R (by with_unfolding_all rfl) (by with_unfolding_all rfl) (BindsTo.of_eq rfl) (locs rfl) rfl rfl rfl (by decide) fun h₁ tk F W' R' htk => ?_
  repeat' walk_at "st"
  exact h _ _ _ F.keep
theorem op_mul {a b : Int} {t u : Tok} {Q : Value → Shared → Prop} (W : Wd w s.heap) (R : Rm A 1 3) (h1 : -(2 ^ 64) < b) (h2 : b < 2 ^ 64) (h : ∀ h' tk t', Ext s.heap h' → Q (.int (a * b) t') { s with heap := h', toks := tk }) : wpAny (model prog w) A (call (.ref 79) [.int a t, .int b u]) Q E s := by
  refine enter (d := 0) (u := 0) (binds := [(PySem.Str.ofString "a", Value.int a t), (PySem.Str.ofString "b", Value.int b u)]) W R (by with_unfolding_all rfl) (by with_unfolding_all rfl) (BindsTo.of_eq rfl) (locs rfl) rfl rfl rfl (by decide) fun h₁ tk F W' R' htk => ?_
  repeat' walk_at "st"
  refine mulR h1 h2 ?_
  exact h _ _ _ F.keep
theorem op_half {a : Int} {t u : Tok} {Q : Value → Shared → Prop} (W : Wd w s.heap) (R : Rm A 1 3) (h : ∀ h' tk t', Ext s.heap h' → Q (.int (a / 2) t') { s with heap := h', toks := tk }) : wpAny (model prog w) A (call (.ref 72) [.int a t, .int 2 u]) Q E s := by
  refine enter (d := 0) (u := 0) (binds := [(PySem.Str.ofString "a", Value.int a t), (PySem.Str.ofString "b", Value.int 2 u)]) W R (by with_unfolding_all rfl) (by with_unfolding_all rfl) (BindsTo.of_eq rfl) (locs rfl) rfl rfl rfl (by decide) fun h₁ tk F W' R' htk => ?_
  repeat' walk_at "st"
  refine floordiv_int (by decide) ?_
  rw [Int.fdiv_eq_ediv_of_nonneg _ (by decide)]
  exact h _ _ _ F.keep
/-- the length of a text -/
theorem length_hint {l : List Nat} {t : Tok} {Q : Value → Shared → Prop} (W : Wd w s.heap) (R : Rm A 1 3) (hl : l.length ≤ 100000) (h : ∀ h' tk t', Ext s.heap h' → Q (.int (l.length : Int) t') { s with heap := h', toks := tk }) : wpAny (model prog w) A (call (.ref 101) [.str (tx l) t]) Q E s := by
  refine enter (d := 0) (u := 0) (binds := [(PySem.Str.ofString "obj", Value.str (tx l) t), (PySem.Str.ofString "default", Value.int 0 ?tok)]) W R (by with_unfolding_all rfl) (by with_unfolding_all rfl) ?bind (locs rfl) rfl rfl rfl (by decide) fun h₁ tk F W' R' htk => ?_
  case bind => exact BindsTo.of_defaults (T := 94) (by with_unfolding_all rfl) (W.X _ _ (by with_unfolding_all rfl)) (by with_unfolding_all rfl) (by with_unfolding_all rfl) (by with_unfolding_all rfl)
  repeat' walk_at "st"
  refine call_isinstance (isinstance_true (Tx := "int") (by rfl) (by rw [isSubtype_type]; kernel_rfl)) ⟨typeIs_int _ _ _, ?_⟩
  show wpAny _ _ (truthy (.bool true)) _ _ _
  repeat' walk_at "st"
  refine ite_ff ?_
  repeat' walk_at "st"
  refine wpAny_Try_except ?_
  repeat' walk_at "st"
  refine len_tx (by omega) fun t₂ k₂ => ?_
  exact h _ _ _ F.keep
end
section
variable {prog : Program} {w : World} {A : Around} {E : Value → Shared → Prop} {env : Env}
structure WalksN (prog : Program) (w : World) (A : Around) (I : Addr) (fp : List Addr) (n : Nat) (P : Nat → Nat → Value → Prop) (St : Nat → Heap → Prop) : Prop where
  frame : ∀ i h h', St i h → (∀ b ∈ fp, ∀ o, h.get? b = some o → h'.get? b = some o) → St i h'
  item : ∀ i (s : Shared) (Q : Option Value → Shared → Prop) (E : Value → Shared → Prop), i < n → St i s.heap →
    (∀ v h' tk, P s.toks i v → St (i + 1) h' → (∀ b o, b ≠ I → s.heap.get? b = some o → h'.get? b = some o) → Q (some v) { s with heap := h', toks := tk }) → wpAny (model prog w) A (pyNext (.ref I)) Q E s
  done : ∀ (s : Shared) (Q : Option Value → Shared → Prop) (E : Value → Shared → Prop), St n s.heap →
    (∀ h' tk, (∀ b o, b ≠ I → s.heap.get? b = some o → h'.get? b = some o) → Q none { s with heap := h', toks := tk }) → wpAny (model prog w) A (pyNext (.ref I)) Q E s
def SrcN (prog : Program) (w : World) (A : Around) (xv : Value) (n : Nat) (P : Nat → Nat → Value → Prop) (s₁ : Shared) : Prop :=
  ∀ (Q E : Value → Shared → Prop), (∀ I fp St h₂, WalksN prog w A I fp n P St → St 0 h₂ → Ext s₁.heap h₂ → s₁.heap.get? I = none → (∀ b ∈ fp, b = I ∨ xv = .ref b) → Q (.ref I) { s₁ with heap := h₂ }) → wpAny (model prog w) A (pyIter xv) Q E s₁
theorem Src.n {xv : Value} {n : Nat} {P : Nat → Value → Prop} {T : Heap → Addr → Prop} {s₁ : Shared} (h : Src prog w A xv n P T s₁) : SrcN prog w A xv n (fun _ i v => P i v) s₁ := by
  intro Q E hQ
  refine h Q E fun I fp St h₂ W hst _ hext hI _ hfp => hQ I fp St h₂ ⟨W.frame, fun i s Q E hi hs hq => W.item i s Q E hi hs fun v h' tk hP hs' hk => hq v h' tk hP hs' fun b o hb => hk b o (by simpa using hb), fun s Q E hs hq => W.done s Q E hs fun h' tk hk => hq h' tk fun b o hb => hk b o (by simpa using hb)⟩ hst hext hI hfp
/-- the signs of a text, each with its own fresh token -/
theorem srcN_str {s₁ : Shared} {l : List Nat} {t : Tok} (hh : A.handled = none) : SrcN prog w A (.str (tx l) t) l.length (fun k i v => ∃ c, l[i]? = some c ∧ v = .str (tx [c]) k) s₁ := by
  intro Q E h
  have e : (tx l).cps.size = l.length := by simp [tx]
  have get : ∀ {i c : Nat}, l[i]? = some c → (tx l).cps[i]? = some c := fun {i c} hc => by simpa [tx] using hc
  cases ha : (tx l).cps.all (· < 128) with
  | false =>
    refine wpAny_pyIter_wide ha (h s₁.heap.objs.size [s₁.heap.objs.size] (fun i h => h.IsStrIter s₁.heap.objs.size "str_iterator" (tx l) t i) _ ⟨?_, ?_, ?_⟩ ⟨_, Heap.get?_push_size _ rfl, rfl, rfl⟩ (fun b o eb => Heap.get?_push_of_some _ eb) (fresh_none (Nat.le_refl _)) fun b hb => .inl (List.mem_singleton.mp hb))
    · exact fun i h h' st hk => let ⟨o, ho, r⟩ := st; ⟨o, hk _ (by simp) o ho, r⟩
    · intro i s Q E hi st hQ
      obtain ⟨c, hc⟩ : ∃ c, l[i]? = some c := ⟨l[i], by simp [hi]⟩
      exact wpAny_pyNext_wide_item st (get hc) fun h' hit' hs' => hQ _ h' (s.toks + 1) ⟨c, hc, rfl⟩ hit' fun b o hb e => hs'.extBut b o hb e
    · intro s Q E st hQ
      exact wpAny_pyNext_wide_end hh st (by simp [tx]) fun h' he' => hQ h' s.toks fun b o hb e => he' b o hb e
  | true =>
    refine wpAny_pyIter_ascii ha (h s₁.heap.objs.size [s₁.heap.objs.size] (fun i h => h.IsStrIter s₁.heap.objs.size "str_ascii_iterator" (tx l) t i) _ ⟨?_, ?_, ?_⟩ ⟨_, Heap.get?_push_size _ rfl, rfl, rfl⟩ (fun b o eb => Heap.get?_push_of_some _ eb) (fresh_none (Nat.le_refl _)) fun b hb => .inl (List.mem_singleton.mp hb))
    · exact fun i h h' st hk => let ⟨o, ho, r⟩ := st; ⟨o, hk _ (by simp) o ho, r⟩
    · intro i s Q E hi st hQ
      obtain ⟨c, hc⟩ : ∃ c, l[i]? = some c := ⟨l[i], by simp [hi]⟩
      exact wpAny_pyNext_ascii_item st (get hc) fun h' hit' hs' => hQ _ h' (s.toks + 1) ⟨c, hc, rfl⟩ hit' fun b o hb e => hs'.extBut b o hb e
    · intro s Q E st hQ
      exact wpAny_pyNext_ascii_end hh st (by simp [tx]) fun h' he' => hQ h' s.toks fun b o hb e => he' b o hb e

/-- a for loop over one plain name whose body always goes on -/
theorem for_go {x : PySem.Str} {px : Pos} {body : List Stmt} {s₁ : Shared} {xv : Value} {n : Nat} {P : Nat → Nat → Value → Prop} {g : Heap} {L : Addr} {m : PySem.Str → Option Value} {R : Result → Shared → Prop}
    (hsrc : SrcN prog w A xv n P s₁) (F : Fr g L s₁.heap m) (hx : env.kindOf x = some .local) (hkf : env.scope.kind = .function) (hL : env.locals = L)
    (own : List Addr) (hown : ∀ b ∈ own, ∃ o, s₁.heap.get? b = some o) (hxo : ∀ b ∈ own, xv ≠ .ref b) (hxL : xv ≠ .ref L) (hgo : ∀ b ∈ own, g.get? b = none)
    (J : Nat → (PySem.Str → Option Value) → Heap → Prop)
    (stab : ∀ I i m h h', s₁.heap.get? I = none → (∀ b o, b ≠ I → b ≠ L → h.get? b = some o → h'.get? b = some o) → J i m h → J i m h')
    (h0 : J 0 m s₁.heap)
    (step : ∀ i v m₁ s k, i < n → s₁.toks ≤ k → P k i v → s₁.toks ≤ s.toks → Fr g L s.heap (fun y => if y = x then some v else m₁ y) → J i m₁ s.heap → (∀ b o, b ≠ L → b ∉ own → s₁.heap.get? b = some o → s.heap.get? b = some o) →
      wpAny (model prog w) A (execs body env) (fun f s' => f = .next ∧ ∃ h' tk m₂, s' = { s with heap := h', toks := tk } ∧ (∀ b o, b ≠ L → b ∉ own → s.heap.get? b = some o → h'.get? b = some o) ∧ Fr g L h' m₂ ∧ J (i + 1) m₂ h') noE s)
    (hQ : ∀ h' tk m', s₁.toks ≤ tk → Fr g L h' m' → J n m' h' → (∀ b o, b ≠ L → b ∉ own → s₁.heap.get? b = some o → h'.get? b = some o) → R (.ok .next) { s₁ with heap := h', toks := tk }) :
    wpAny (model prog w) A (pyIter xv) (fun it s₂ => codeAny (model prog w) A (.forLoop (.Name x px) it body [] env) R s₂) E s₁ := by
  refine hsrc _ _ fun I fp St h₂ W hst hext hI hfp => ?_
  have hLs : ∃ o, s₁.heap.get? L = some o := let ⟨o, _, _, ho, _⟩ := F.ns; ⟨o, ho⟩
  have hLI : L ≠ I := fun q => by obtain ⟨o, ho⟩ := hLs; rw [q, hI] at ho; cases ho
  have hIown : I ∉ own := fun q => by obtain ⟨o, ho⟩ := hown I q; rw [hI] at ho; cases ho
  have hgI : ∀ b o, g.get? b = some o → b ≠ I := fun b o eb q => by have := F.keep b o eb; rw [q, hI] at this; cases this
  have hfpL : ∀ b ∈ fp, b ≠ L ∧ b ∉ own := fun b hb => by
    rcases hfp b hb with q | q
    · rw [q]; exact ⟨Ne.symm hLI, hIown⟩
    · exact ⟨fun r => hxL (by rw [q, r]), fun r => hxo b r q⟩
  have move : ∀ {h h' : Heap} {m'}, (∀ b o, b ≠ I → h.get? b = some o → h'.get? b = some o) → Fr g L h m' → Fr g L h' m' := fun {h h' m'} hk F' =>
    ⟨F'.ns.at' fun o e => hk _ o hLI e, fun b o e => hk b o (hgI b o e) (F'.keep b o e), F'.above⟩
  have hext2 : ∀ b o, b ≠ L → b ∉ own → s₁.heap.get? b = some o → h₂.get? b = some o := fun b o _ _ eb => hext b o eb
  have hsI : ∀ b o, s₁.heap.get? b = some o → b ≠ I := fun b o eb q => by rw [q, hI] at eb; cases eb
  refine codeAny_forLoop (fun k s' => ∃ i h' tk m', s' = { s₁ with heap := h', toks := tk } ∧ s₁.toks ≤ tk ∧ St i h' ∧ Fr g L h' m' ∧ J i m' h' ∧ (∀ b o, b ≠ L → b ∉ own → s₁.heap.get? b = some o → h'.get? b = some o) ∧ i ≤ n ∧ k = n + 1 - i) ?_ (n + 1)
    ⟨0, h₂, s₁.toks, m, rfl, Nat.le_refl _, hst, ⟨F.ns.keeps hext, fun b o e => hext b o (F.keep b o e), F.above⟩, stab I _ _ _ _ hI (fun b o _ _ e => hext b o e) h0, hext2, Nat.zero_le _, rfl⟩
  rintro k s' ⟨i, h', tk, m', rfl, htk, hst', F', hJ, hold, hi, rfl⟩
  by_cases hlt : i < n
  · refine wpAny_with_toks (n := s₁.toks) htk ?_
    refine W.item i _ _ _ hlt hst' fun v h₃ tk₃ hP hst₃ hk₃ htk₃ => ?_
    have F₃ := move hk₃ F'
    subst hL
    refine wpAny_assign_Name (wpAny_with_toks (n := s₁.toks) htk₃ (wpAny_storeName_local hx F₃.ns (fun h₄ hn₄ hs₄ htk₄ => ?_) (by rw [hkf]; rfl)))
    have hold₄ : ∀ b o, b ≠ env.locals → b ∉ own → s₁.heap.get? b = some o → h₄.get? b = some o := fun b o hb hb2 eb => hs₄.extBut b o hb (hk₃ b o (hsI b o eb) (hold b o hb hb2 eb))
    have hJ₄ : J i m' h₄ := stab I _ _ _ _ hI (fun b o hb hb2 e => hs₄.extBut b o hb2 (hk₃ b o hb e)) hJ
    refine wpAny_mono (wpAny_toks_of (n := s₁.toks) htk₄ (step i v m' _ _ hlt htk hP htk₄ (F₃.set hn₄ hs₄) hJ₄ hold₄)) (fun f s₅ h₅ => ?_) fun _ _ x => x.2.elim
    obtain ⟨htk₅, rfl, h₆, tk₆, m₂, rfl, hk₆, F₆, hJ₆⟩ := h₅
    refine ⟨n + 1 - (i + 1), by omega, i + 1, h₆, tk₆, m₂, rfl, htk₅, ?_, F₆, hJ₆, fun b o hb hb2 eb => hk₆ b o hb hb2 (hold₄ b o hb hb2 eb), hlt, rfl⟩
    refine W.frame _ _ _ hst₃ fun b hb o e => ?_
    exact hk₆ b o (hfpL b hb).1 (hfpL b hb).2 (hs₄.extBut b o (hfpL b hb).1 e)
  · have hin : i = n := by omega
    subst hin
    refine wpAny_with_toks (n := s₁.toks) htk ?_
    refine W.done _ _ _ hst' fun h₃ tk₃ hk₃ htk₃ => wpAny_execs_nil ?_
    exact hQ h₃ tk₃ m' htk₃ (move hk₃ F') (stab I _ _ _ _ hI (fun b o hb _ e => hk₃ b o hb e) hJ) fun b o hb hb2 eb => hk₃ b o (hsI b o eb) (hold b o hb hb2 eb)
end
section
variable {prog : Program} {w : World} {A : Around} {E : Value → Shared → Prop} {s : Shared} {env : Env}
theorem is_tx {a b : List Nat} {k u : Tok} {Q : Value → Shared → Prop} (hk : k ≠ 0) (hu : u ≠ 0) (hne : k ≠ u) (nb : NoneBooked s.heap) (h1 : a = b → ∀ c, Q (.bool c) s) (h2 : a ≠ b → Q (.bool false) s) :
    wpAny (model prog w) A (compareOp .Is (.str (tx a) k) (.str (tx b) u)) Q E s := by
  show wpAny (model prog w) A (do return .bool (← isSame (.str (tx a) k) (.str (tx b) u))) Q E s
  have h0 : (k == 0 || u == 0) = false := by simp [hk, hu]
  by_cases hab : a = b
  · exact wpAny_bind (wpAny_isSame_str h0 nb fun c => wpAny_pure (h1 hab c))
  · have hyz : (tx a == tx b) = false := by
      cases e : (tx a == tx b) with
      | false => rfl
      | true =>
        exfalso
        have := eq_of_beq e
        exact hab (congrArg (fun y : PySem.Str => y.cps.toList) this)
    exact wpAny_bind (wpAny_of_eq (isSame_str_other _ _ _ _ h0 (by simp [hne]) hyz) (wpAny_pure (h2 hab)))
end
/-- count += 1 -/
theorem aug_one {prog : Program} {w : World} {A : Around} {E : Value → Shared → Prop} {s : Shared} {env : Env} {x : PySem.Str} {p p2 p3 : Pos} {kk : Nat} {g : Heap} {L : Addr} {m : PySem.Str → Option Value} {a b : Int} {t : Tok} {Q : Flow → Shared → Prop} (F : Fr g L s.heap m) (hk : env.scope.kind = .function) (hx : env.kindOf x = some .local) (hL : env.locals = L) (hv : m x = some (.int a t))
    (h : ∀ h' tk t', Fr g L h' (fun y => if y = x then some (.int (a + b) t') else m y) → (∀ b o, b ≠ L → s.heap.get? b = some o → h'.get? b = some o) → Q .next { s with heap := h', toks := tk }) :
    wpAny (model prog w) A (exec (.AugAssign (.Name x p) .Add (.Constant (.int b) kk p2) p3) env) Q E s := by
  refine wpAny_AugAssign_Name ?_
  subst hL
  refine wpAny_loadName_local hk hx F.ns hv ?_
  refine wpAny_Constant_int (P.iadd_int ?_)
  exact stL F hx hk rfl fun h' F' hk' => h _ _ _ F' hk'
theorem if_ne {x y : PySem.Str} {v : Option Value} {o : Option Value} (hxy : (y == x) = false) {v' : Option Value} (h : o = v) : (if y = x then v' else o) = v := by
  rw [if_neg (by intro e; subst e; simp at hxy)]
  exact h
set_option maxHeartbeats 1000000 in
theorem count_of {prog : Program} {w : World} {A : Around} {E : Value → Shared → Prop} {s : Shared} {l : List Nat} {c : Nat} {t u : Tok} {Q : Value → Shared → Prop} (W : Wd w s.heap) (R : Rm A 1 3) (hl : l.length ≤ 100000) (hu : u ≠ 0) (hut : u < s.toks)
    (h : ∀ h' tk t', Ext s.heap h' → Q (.int (l.count c : Int) t') { s with heap := h', toks := tk }) : wpAny (model prog w) A (call (.ref 93) [.str (tx l) t, .str (tx [c]) u]) Q E s := by
  refine enter (d := 0) (u := 0) (binds := [(PySem.Str.ofString "a", Value.str (tx l) t), (PySem.Str.ofString "b", Value.str (tx [c]) u)]) W R (by with_unfolding_all rfl) (by with_unfolding_all rfl) (BindsTo.of_eq rfl) (locs rfl) rfl rfl rfl (by decide) fun h₁ tk F W' R' htk => ?_
  repeat' walk_at "st"
  with_reducible refine stL F (by with_unfolding_all rfl) (by with_unfolding_all rfl) (by with_unfolding_all rfl) fun h₂ F hk₂ => ?_
  repeat' walk_at "st"
  refine wpAny_For ?_ (fun _ => by with_unfolding_all rfl)
  repeat' walk_at "st"
  refine for_go (srcN_str R'.hh) F (by with_unfolding_all rfl) (by with_unfolding_all rfl) (by with_unfolding_all rfl) [] (fun _ h => nomatch h) (fun _ h => nomatch h) (fun h => nomatch h) (fun _ h => nomatch h) 
    (fun i m _ => m (PySem.Str.ofString "a") = some (.str (tx l) t) ∧ m (PySem.Str.ofString "b") = some (.str (tx [c]) u) ∧ ∃ t', m (PySem.Str.ofString "count") = some (.int ((l.take i).count c : Nat) t')) (fun _ _ _ _ _ _ _ h => h) ?_ ?_ ?_
  · exact ⟨rfl, rfl, _, rfl⟩
  · rintro i v m₁ s₂ k hi hk ⟨d, hd, rfl⟩ hk₂ F₂ ⟨ha, hb, t', hc⟩ hold
    have hka : u < k := Nat.lt_of_lt_of_le hut (Nat.le_trans htk (Nat.le_trans (Nat.le_trans (Nat.le_add_right _ 1) (Nat.le_add_right _ 1)) hk))
    have hb' := if_ne (x := PySem.Str.ofString "i") (y := PySem.Str.ofString "b") (by decide) (v' := some (Value.str (tx [d]) k)) hb
    have hc' := if_ne (x := PySem.Str.ofString "i") (y := PySem.Str.ofString "count") (by decide) (v' := some (Value.str (tx [d]) k)) hc
    have ha' := if_ne (x := PySem.Str.ofString "i") (y := PySem.Str.ofString "a") (by decide) (v' := some (Value.str (tx [d]) k)) ha
    have hn₂ := F₂.ns
    have htake : ((l.take (i + 1)).count c : Nat) = (l.take i).count c + if d = c then 1 else 0 := by
      rw [List.take_add_one, hd, List.count_append]
      by_cases e : d = c <;> simp [e]
    repeat' walk_at "st"
    refine is_tx (Nat.ne_of_gt (Nat.lt_of_le_of_lt (Nat.zero_le u) hka)) hu (Nat.ne_of_gt hka) (W.keeps F₂.keep).nb (fun e c' => ?_) (fun e => ?_)
    · repeat' walk_at "st"
      refine ite_bool (fun hz => ?_) (fun hz => ?_)
      · subst hz
        repeat' walk_at "st"
        refine aug_one F₂ (by with_unfolding_all rfl) (by with_unfolding_all rfl) (by with_unfolding_all rfl) hc' fun h₃ tk₃ t₃ F₃ hk₃ => ?_
        repeat' walk_at "st"
        refine ⟨rfl, h₃, tk₃, _, rfl, fun b o hb _ eb => hk₃ b o hb eb, F₃, if_ne (by decide) ha', if_ne (by decide) hb', t₃, ?_⟩
        rw [if_pos rfl, htake, if_pos (by simpa using e)]
        rfl
      · subst hz
        repeat' walk_at "st"
        refine eqT rfl ?_
        repeat' walk_at "st"
        refine aug_one F₂ (by with_unfolding_all rfl) (by with_unfolding_all rfl) (by with_unfolding_all rfl) hc' fun h₃ tk₃ t₃ F₃ hk₃ => ?_
        repeat' walk_at "st"
        refine ⟨rfl, h₃, tk₃, _, rfl, fun b o hb _ eb => hk₃ b o hb eb, F₃, if_ne (by decide) ha', if_ne (by decide) hb', t₃, ?_⟩
        rw [if_pos rfl, htake, if_pos (by simpa using e)]
        rfl
    · repeat' walk_at "st"
      refine eqT rfl ?_
      repeat' walk_at "st"
      refine ⟨rfl, _, _, _, rfl, fun b o hb _ eb => eb, F₂, ha', hb', t', ?_⟩
      have e3 : ¬ d = c := by simpa using e
      rw [htake, if_neg e3]
      exact hc'
  · rintro h' tk' m' hle F' ⟨ha, hb, t', hc⟩ hold
    have hn' := F'.ns
    rw [List.take_length] at hc
    show wpAny _ _ (execs _ _) _ _ _
    repeat' walk_at "st"
    exact h _ _ _ F'.keep
section
open PySem PySem.W PyProof.Rows PySem.Calls PySem.NumText
theorem hex_sign : ∀ a b : Fin 16, sign ([hx a.val, hx b.val].dropWhile blank) = (false, [hx a.val, hx b.val]) := by decide +kernel
theorem hex_based : ∀ a b : Fin 16, based 16 [hx a.val, hx b.val] = (16, false, [hx a.val, hx b.val]) := by decide +kernel
theorem hex_back : ∀ a b : Fin 16, (([hx a.val, hx b.val].reverse).dropWhile blank).reverse = [hx a.val, hx b.val] := by decide +kernel
theorem hex_digits : ∀ a b : Fin 16, digits? 16 [hx a.val, hx b.val] = some #[a.val, b.val] := by decide +kernel
theorem hex_read (a b : Fin 16) : (int_private% "readNumeral") 0 16 [hx a.val, hx b.val] = (int_private% "Numeral.value") ((16 * a.val + b.val : Nat) : Int) := by
  rw [readNumeral_eq, hex_sign]
  simp only []
  rw [hex_based]
  simp only []
  rw [hex_back, hex_digits]
  unfold judge
  simp
  omega
theorem hex_all : ∀ a b : Fin 16, [hx a.val, hx b.val].takeWhile (· != 0) = [hx a.val, hx b.val] := by decide +kernel
theorem wp_hex {M : Model} {A : Around} {E : Value → Shared → Prop} {s : Shared} {Q : Value → Shared → Prop} {v : Value} {text : List Nat} {n : Int} (ht : text.takeWhile (· != 0) = text) (hs : text.length ≤ 640) 
    (hr : (int_private% "readNumeral") 0 16 text = (int_private% "Numeral.value") n) (h : Q (.int n s.toks) { s with toks := s.toks + 1 }) :
    wpAny M A ((int_private% "intFromText") v text 16) Q E s := by
  obtain ⟨hp, g, d, tk, os⟩ := s
  have h1 : (text.takeWhile (· != 0)).length ≤ 640 := by rw [ht]; exact hs
  have h2 : ((text.takeWhile (· != 0)).length == text.length) = true := by rw [ht]; simp
  have h3 : (int_private% "readNumeral") 0 16 (text.takeWhile (· != 0)) = (int_private% "Numeral.value") n := by rw [ht]; exact hr
  clear hs hr ht
  repeat (any_goals (first | assumption | (with_reducible refine wpAny_ite_true (decide_eq_true h1) ?_) | (with_reducible refine wpAny_ite_true (decide_eq_true h2) ?_) | wp_step))
  all_goals (try rw [h3])
  all_goals (try dsimp only)
  repeat (any_goals (first | assumption | (with_reducible refine wpAny_ite_true (decide_eq_true h1) ?_) | (with_reducible refine wpAny_ite_true (decide_eq_true h2) ?_) | wp_step))
def hexText (a b : Nat) : PySem.Str := tx [hx a, hx b]
set_option maxHeartbeats 4000000 in
theorem gives_hex {x : PySem.Str} {u v : Tok} {n : Int} {text : List Nat} (hx : numTextOf x = text) (ht : text.takeWhile (· != 0) = text) (hs : text.length ≤ 640)
    (hr : (int_private% "readNumeral") 0 16 text = (int_private% "Numeral.value") n) : Gives (Builtin.«int.__new__» ⟨[.type "int", .str x u, .int 16 v], []⟩) (.int n) :=
  .of_wp fun M A E s Q h => by
    obtain ⟨hp, g, d, tk, os⟩ := s
    have f1 := F.conv_sub_int
    have f2 := F.madeHere_int
    have hk := KIN.Hid.mk (And.intro (And.intro hx ht) (And.intro hs hr))
    clear hx ht hs hr
    repeat (any_goals (first
      | assumption
      | ((with_reducible show wpAny _ _ ((int_private% "intFromText") _ _ _) _ _ _); refine wp_hex (text := numTextOf x) (by rw [hk.out.1.1]; exact hk.out.1.2) (by rw [hk.out.1.1]; exact hk.out.2.1) (by rw [hk.out.1.1]; exact hk.out.2.2) ?_)
      | wp_step))
    all_goals exact ⟨_, rfl, h⟩
theorem typeCall_int_2 (a b : Value) : checkTypeCall "int" ⟨[a, b], []⟩ = pure () := by kernel_rfl
theorem newCall_int_2 (a b : Value) : checkBuiltinCall "int.__new__" ⟨[.type "int", a, b], []⟩ = pure () := by kernel_rfl
theorem args_init_3 (a b c : Value) : argsOk "object.__init__" ⟨[a, b, c], []⟩ := by
  unfold argsOk; rw [signature?_of (id := "object.__init__") (n := ['_', '_', 't', 'i', 'n', 'i', '_', '_']) (o := ['t', 'c', 'e', 'j', 'b', 'o']) (by kernel_rfl) F.owner_object]; kernel_rfl
theorem hex_small : ∀ a b : Fin 16, (tx [hx a.val, hx b.val]).cps.all (· < 128) = true := by decide +kernel
theorem hex_text (a b : Fin 16) : numTextOf (tx [hx a.val, hx b.val]) = [hx a.val, hx b.val] := by
  show (if (tx [hx a.val, hx b.val]).cps.all (· < 128) then _ else _) = _
  rw [if_pos (hex_small a b)]
  rfl
theorem call_hex {prog : Program} {w : World} {A : Around} {E : Value → Shared → Prop} {s : Shared} {a b : Nat} (ha : a < 16) (hb : b < 16) {t u : Tok} {Q : Value → Shared → Prop} (h : Q (.int ((16 * a + b : Nat) : Int) s.toks) { s with toks := s.toks + 1 }) :
    wpAny (model prog w) A (call (.type "int") [.str (tx [hx a, hx b]) t, .int 16 u]) Q E s :=
  callType_new F.called_int F.newNe_int (typeCall_int_2 _ _) (newCall_int_2 _ _) (fun obj => args_init_3 obj _ _) F.entry_int_new
    (gives_hex (hex_text ⟨a, ha⟩ ⟨b, hb⟩) (hex_all ⟨a, ha⟩ ⟨b, hb⟩) (by simp) (hex_read ⟨a, ha⟩ ⟨b, hb⟩)).meets (show (Made.int _).post _ s from ⟨rfl, h⟩)
end
section
open Builtin Builtin.Str
def cutL {α : Type} (x : List α) (lo hi : Option Int) : List α := (x.drop (kms_lo lo x.length)).take (kms_hi hi x.length - kms_lo lo x.length)
theorem hi_le (hi : Option Int) (n : Nat) : kms_hi hi n ≤ n := by
  cases hi with
  | none => exact Nat.le_refl _
  | some y =>
    show (if y < 0 then n - (-y).toNat else min y.toNat n) ≤ n
    by_cases h : y < 0
    · rw [if_pos h]; omega
    · rw [if_neg h]; omega
theorem picked_eq (x : List Nat) (l u : Option (Int × Tok)) : slicePicked (tx x) l u none = (List.range (kms_hi (u.map (·.1)) x.length - kms_lo (l.map (·.1)) x.length)).map (kms_lo (l.map (·.1)) x.length + ·) := by
  have e := kms_bounds (l.map (·.1)) (u.map (·.1)) x.length
  have e1 : (sliceBounds (l.map (·.1)) (u.map (·.1)) none x.length).1 = ((kms_lo (l.map (·.1)) x.length : Nat) : Int) := by rw [e]
  have e2 : (sliceBounds (l.map (·.1)) (u.map (·.1)) none x.length).2.1 = ((kms_hi (u.map (·.1)) x.length : Nat) : Int) := by rw [e]
  show sliceRange (sliceBounds (l.map (·.1)) (u.map (·.1)) none (tx x).length).1 (sliceBounds (l.map (·.1)) (u.map (·.1)) none (tx x).length).2.1 1 = _
  rw [tx_length, e1, e2, sliceRange_one]
section
variable {prog : Program} {w : World} {A : Around} {E : Value → Shared → Prop} {env : Env} {s : Shared}
theorem made_cut {x : List Nat} {t : Tok} {l u : Option (Int × Tok)} {Q : Value → Shared → Prop} (hx : x.length ≤ 1000000) (h : ∀ t' k, s.toks ≤ k → Q (.str (tx (cutL x (l.map (·.1)) (u.map (·.1)))) t') { s with toks := k }) : (sliceMade (tx x) t l u none).post Q s := by
  unfold sliceMade
  have hb := hi_le (u.map (·.1)) x.length
  rw [picked_eq, pick_run]
  have e0 : (tx x).cps.toList = x := rfl
  rw [e0]
  by_cases hc : ((Option.map (fun y : Int × Tok => y.1) none).getD 1 == 1 && (((List.range (kms_hi (u.map (·.1)) x.length - kms_lo (l.map (·.1)) x.length)).map (kms_lo (l.map (·.1)) x.length + ·)).length == (tx x).length)) = true
  · rw [if_pos hc]
    have hl : kms_hi (u.map (·.1)) x.length - kms_lo (l.map (·.1)) x.length = x.length := by
      simp [tx_length] at hc
      exact hc
    have e : cutL x (l.map (·.1)) (u.map (·.1)) = x := by
      unfold cutL
      rw [hl]
      by_cases h0 : x.length = 0
      · rw [List.length_eq_zero_iff.mp h0]; simp
      · rw [show kms_lo (l.map (·.1)) x.length = 0 by omega]
        simp
    rw [e] at h
    exact h t s.toks (Nat.le_refl _)
  · rw [if_neg hc]
    refine ⟨?_, h _ _ (Nat.le_succ _)⟩
    rw [PySem.sizeLine_eq]
    show (((x.drop _).take _).toArray).size ≤ 16777216
    simp
    omega
theorem sl_str {value : Expr} {lower upper : Option Expr} {p pos : Pos} {Q : Value → Shared → Prop}
    (h : wpAny (model prog w) A (eval value env) (fun o s₁ => wpAny (model prog w) A (evalPart lower env) (fun vl s₂ => wpAny (model prog w) A (evalPart upper env) (fun vu s₃ =>
      ∃ x t l u, o = .str (tx x) t ∧ vl = partValue l ∧ vu = partValue u ∧ x.length ≤ 1000000 ∧ ∀ h' t' k, Ext s₃.heap h' → s₃.toks ≤ k → Q (.str (tx (cutL x (l.map (·.1)) (u.map (·.1)))) t') { s₃ with heap := h', toks := k }) E s₂) E s₁) E s)
    (ht : ∀ o r, letTemporaryGo value o r = pure ()) :
    wpAny (model prog w) A (eval (.Subscript value (.Slice lower upper none p) pos) env) Q E s := by
  refine wpAny_Subscript_str_slice (wpAny_mono h (fun o s₁ h₁ => wpAny_mono h₁ (fun vl s₂ h₂ => wpAny_mono h₂ (fun vu s₃ h₃ => ?_) fun _ _ e => e) fun _ _ e => e) fun _ _ e => e) ht
  obtain ⟨x, t, l, u, rfl, rfl, rfl, hx, hQ⟩ := h₃
  exact ⟨tx x, t, l, u, rfl, rfl, rfl, made_cut hx fun t' k hk => hQ _ t' k (fun _ _ eb => Heap.get?_push_of_some _ eb) hk⟩
theorem sl_lst {value : Expr} {lower upper : Option Expr} {p pos : Pos} {Q : Value → Shared → Prop}
    (h : wpAny (model prog w) A (eval value env) (fun o s₁ => wpAny (model prog w) A (evalPart lower env) (fun vl s₂ => wpAny (model prog w) A (evalPart upper env) (fun vu s₃ =>
      ∃ D ys lo hi, o = .ref D ∧ s₃.heap.IsList D ys.toArray ∧ IsPart vl lo ∧ IsPart vu hi ∧ ys.length ≤ 1000000 ∧ ∀ D' h', h'.IsList D' (cutL ys lo hi).toArray → Ext s₃.heap h' → s₃.heap.objs.size ≤ D' → Q (.ref D') { s₃ with heap := h' }) E s₂) E s₁) E s)
    (ht : ∀ o r, letTemporaryGo value o r = pure ()) :
    wpAny (model prog w) A (eval (.Subscript value (.Slice lower upper none p) pos) env) Q E s := by
  refine wpAny_Subscript_list_slice (wpAny_mono h (fun o s₁ h₁ => wpAny_mono h₁ (fun vl s₂ h₂ => wpAny_mono h₂ (fun vu s₃ h₃ => ?_) fun _ _ e => e) fun _ _ e => e) fun _ _ e => e) ht
  obtain ⟨D, ys, lo, hi, rfl, hD, hlo, hhi, hx, hQ⟩ := h₃
  refine ⟨D, ys.toArray, lo, hi, rfl, hD, by rw [PySem.sizeLine_eq]; simp; omega, hlo, hhi, ?_⟩
  have e : slicePick ys.toArray lo hi none = (cutL ys lo hi).toArray := by rw [kms_pick_eq]; rfl
  rw [e]
  have e2 : s₃.heap.objs.size + 1 = (s₃.heap.push { cls := .type "slice", data := .fields #[vl, vu, .none] }).objs.size := by rw [Heap.size_push]
  refine hQ _ _ ?_ (fun _ _ eb => Heap.get?_push_of_some _ (Heap.get?_push_of_some _ eb)) (Nat.le_succ _)
  rw [e2]
  exact ⟨_, Heap.get?_push_size _ rfl, rfl, _, rfl⟩
theorem part_none {Q : Value → Shared → Prop} (h : Q .none s) : wpAny (model prog w) A (evalPart none env) Q E s := wpAny_pure h
theorem part_some {e : Expr} {Q : Value → Shared → Prop} (h : wpAny (model prog w) A (eval e env) Q E s) : wpAny (model prog w) A (evalPart (some e) env) Q E s := h
end
end
section
open Builtin Builtin.Str
theorem hx_ok : ∀ d : Fin 16, (safe (hx d.val) || hx d.val == 61) = true := by decide +kernel
theorem enc2_ok {c : Nat} (hc : c < 256) : ∀ x ∈ enc2 c, (safe x || x == 61) = true := by
  intro x hx'
  unfold enc2 at hx'
  split at hx'
  · rename_i h
    rw [List.mem_singleton.mp hx', h]; rfl
  · simp only [List.mem_cons, List.not_mem_nil, or_false] at hx'
    rcases hx' with rfl | rfl | rfl
    · rfl
    · exact hx_ok ⟨c / 16, by omega⟩
    · exact hx_ok ⟨c % 16, by omega⟩
theorem safe_lt {x : Nat} (h : (safe x || x == 61) = true) : x < 128 := by
  simp [safe] at h
  omega
theorem ok_plain' : ∀ x : Fin 128, (safe x.val || x.val == 61) = true → Unicode.isLineBreak x.val = false ∧ Unicode.isSpace x.val = false ∧ x.val ≠ 10 ∧ x.val ≠ 13 := by decide +kernel
theorem ok_plain {x : Nat} (h : (safe x || x == 61) = true) : Unicode.isLineBreak x = false ∧ Unicode.isSpace x = false ∧ x ≠ 10 ∧ x ≠ 13 := ok_plain' ⟨x, safe_lt h⟩ h
def T2 (l : List Nat) : List Nat := l.flatMap enc2
theorem T2_ok {l : List Nat} (hl : ∀ c ∈ l, c < 256) : ∀ x ∈ T2 l, (safe x || x == 61) = true := by
  intro x hx'
  obtain ⟨c, hc, hx''⟩ := List.mem_flatMap.mp hx'
  exact enc2_ok (hl c hc) x hx''
theorem enc2_len (c : Nat) : 1 ≤ (enc2 c).length ∧ (enc2 c).length ≤ 3 := by
  unfold enc2
  split <;> simp
theorem T2_len : ∀ l : List Nat, l.length ≤ (T2 l).length ∧ (T2 l).length ≤ 3 * l.length
  | [] => by simp [T2]
  | c :: l => by
    have := T2_len l
    have := enc2_len c
    unfold T2 at *
    rw [List.flatMap_cons, List.length_append, List.length_cons]
    omega
theorem T2_ne {l : List Nat} (h : l ≠ []) : T2 l ≠ [] := by
  have := (T2_len l).1
  have h0 : 0 < l.length := List.length_pos_iff.mpr h
  intro e
  rw [e] at this
  simp at this
  exact h this
/-- where the piece of the j-th sign starts -/
def off (l : List Nat) (j : Nat) : Nat := (T2 (l.take j)).length
theorem off_zero (l : List Nat) : off l 0 = 0 := rfl
theorem off_all (l : List Nat) : off l l.length = (T2 l).length := by unfold off; rw [List.take_length]
theorem off_succ {l : List Nat} {j c : Nat} (h : l[j]? = some c) : off l (j + 1) = off l j + (enc2 c).length := by
  unfold off T2
  rw [List.take_add_one, h, List.flatMap_append, List.length_append]
  simp
theorem T2_at {l : List Nat} {j c k : Nat} (h : l[j]? = some c) (hk : k < (enc2 c).length) : (T2 l)[off l j + k]? = (enc2 c)[k]? := by
  have e : l = l.take j ++ c :: l.drop (j + 1) := by
    obtain ⟨hj, rfl⟩ := List.getElem?_eq_some_iff.mp h
    simp
  have e2 : T2 l = T2 (l.take j) ++ (enc2 c ++ T2 (l.drop (j + 1))) := by
    conv => lhs; rw [e]
    unfold T2
    rw [List.flatMap_append, List.flatMap_cons]
  rw [e2]
  unfold off
  rw [List.getElem?_append_right (Nat.le_add_right _ _), Nat.add_sub_cancel_left, List.getElem?_append_left hk]
theorem off_lt {l : List Nat} {j : Nat} (h : j < l.length) : off l j < (T2 l).length := by
  have h1 := off_succ (l := l) (j := j) (c := l[j]) (by simp [h])
  have h2 := enc2_len l[j]
  have h3 : off l (j + 1) ≤ (T2 l).length := by
    unfold off T2
    conv => rhs; rw [← List.take_append_drop (j + 1) l]
    rw [List.flatMap_append, List.length_append]
    omega
  omega
theorem off_le {l : List Nat} {j c : Nat} (h : l[j]? = some c) : off l j + (enc2 c).length ≤ (T2 l).length := by
  rw [← off_succ h]
  unfold off T2
  conv => rhs; rw [← List.take_append_drop (j + 1) l]
  rw [List.flatMap_append, List.length_append]
  omega
theorem off_end {l : List Nat} {j c : Nat} (h : l[j]? = some c) : off l j + (enc2 c).length = (T2 l).length ↔ j + 1 = l.length := by
  have hj : j < l.length := (List.getElem?_eq_some_iff.mp h).1
  rw [← off_succ h]
  constructor
  · intro e
    by_cases q : j + 1 < l.length
    · have := off_lt q; omega
    · omega
  · intro e
    rw [e, off_all]
theorem ls_plain {x : List Nat} (h : ∀ c ∈ x, Unicode.isLineBreak c = false) : ∀ (m cur : Nat) (st : StrLaws.LsSt), cur + m ≤ x.length → Id.run (forIn (m := Id) (List.range' cur m) st (StrLaws.lsBody (tx x))) = st
  | 0, cur, st, _ => rfl
  | m + 1, cur, (lines, start), hm => by
    rw [List.range'_succ, List.forIn_cons]
    have hb : Unicode.isLineBreak ((tx x).cps.getD cur 0) = false := by
      have hc : cur < x.length := by omega
      have e : (tx x).cps.getD cur 0 = x[cur] := by simp [tx, Array.getD, hc]
      rw [e]
      exact h _ (List.getElem_mem hc)
    unfold StrLaws.lsBody
    simp only [hb, Bool.and_false, Bool.false_eq_true, if_false]
    exact ls_plain h m (cur + 1) _ (by omega)
theorem lines_one {x : List Nat} (hne : x ≠ []) (h : ∀ c ∈ x, Unicode.isLineBreak c = false) : lineCuts (tx x) = [(0, x.length)] := by
  unfold lineCuts
  rw [StrLaws.ls_eq, tx_length, ls_plain h x.length 0 _ (by omega)]
  unfold StrLaws.lsEnd
  have : 0 < x.length := List.length_pos_iff.mpr hne
  rw [tx_length, if_pos this]
  simp
theorem tw_nil {p : Nat → Bool} : ∀ {l : List Nat}, (∀ c ∈ l, p c = false) → l.takeWhile p = []
  | [], _ => rfl
  | c :: l, h => by rw [List.takeWhile_cons, h c (by simp)]; rfl
theorem rstrip_same {x : List Nat} (h : ∀ c ∈ x, Unicode.isSpace c = false) : Txt.rstrip (tx x) = tx x := by
  unfold Txt.rstrip Txt.stripBy
  split
  · rfl
  · rename_i hs
    exfalso
    apply hs
    have e : ((tx x).cps.toList.drop 0).reverse.takeWhile Unicode.isSpace = [] := tw_nil fun c hc => h c (by simpa [tx] using hc)
    show ((0 : Nat) == 0 && ((tx x).length - (((tx x).cps.toList.drop 0).reverse.takeWhile Unicode.isSpace).length == (tx x).length)) = true
    rw [e]
    simp
end
section
variable {prog : Program} {w : World} {A : Around} {E : Value → Shared → Prop} {env : Env} {s : Shared}
theorem chr_tx {c : Nat} {t : Tok} {Q : Value → Shared → Prop} (hc : c < 256) (h : Q (.str (tx [c]) s.toks) { s with toks := s.toks + 1 }) : wpAny (model prog w) A (call (.builtin "chr") [.int (c : Int) t]) Q E s := by
  refine chr_of_range (by omega) (by omega) ?_
  exact h
theorem callWith_t2 {pos : Pos} {T : String} {e₁ e₂ : Expr} {Q : Value → Shared → Prop} (h : wpAny (model prog w) A (eval e₁ env) (fun a s₁ => wpAny (model prog w) A (eval e₂ env) (fun b s₂ => wpAny (model prog w) A (call (.type T) [a, b]) Q E s₂) E s₁) E s)
    (he : starEach [e₁, e₂] env = (false, eval e₁ env) :: starEach [e₂] env) (hplain : (backTo pos (starEach [e₂] env)).any (·.1) = false) (he2 : starEach [e₂] env = (false, eval e₂ env) :: starEach [] env) :
    wpAny (model prog w) A (callWith pos (.type T) [] (backTo pos (starEach [e₁, e₂] env)) []) Q E s := by
  refine PyProof.Rows.callWith_type1 ?_ he hplain
  refine args_cons (wpAny_mono h (fun a s₁ h₁ => args_cons (wpAny_mono h₁ (fun b s₂ h₂ => args_nil h₂) fun _ _ e => e) he2) fun _ _ e => e) he
theorem g_hexdigits (P : Params) : nsIn (hd.heap_39 P) mainGlobals (PySem.Str.ofString "hexdigits") = some (some (.str (tx [48, 49, 50, 51, 52, 53, 54, 55, 56, 57, 97, 98, 99, 100, 101, 102, 65, 66, 67, 68, 69, 70]) 1230)) := by kernel_rfl
theorem n_hexdigits {pos : Pos} {Q : Value → Shared → Prop} (W : Wd w s.heap) (h : Q (.str (tx [48, 49, 50, 51, 52, 53, 54, 55, 56, 57, 97, 98, 99, 100, 101, 102, 65, 66, 67, 68, 69, 70]) 1230) s) (hx : env.kindOf (PySem.Str.ofString "hexdigits") = some .globalImplicit) (hk : env.scope.kind = .function) (hg : env.globals = mainGlobals) :
    wpAny (model prog w) A (eval (.Name (PySem.Str.ofString "hexdigits") pos) env) Q E s := nmK W hx (g_hexdigits _) h hk hg (by decide)
theorem unquote_hex {a b : Nat} {t : Tok} {Q : Value → Shared → Prop} (W : Wd w s.heap) (R : Rm A 1 3) (ha : a < 16) (hb : b < 16) (h : ∀ h' tk t', Ext s.heap h' → Q (.str (tx [16 * a + b]) t') { s with heap := h', toks := tk }) : wpAny (model prog w) A (call (.ref 37) [.str (tx [61, hx a, hx b]) t]) Q E s := by
  refine enter (d := 0) (u := 0) (binds := [(PySem.Str.ofString "s", Value.str (tx [61, hx a, hx b]) t)]) W R (by with_unfolding_all rfl) (by with_unfolding_all rfl) (BindsTo.of_eq rfl) (locs rfl) rfl rfl rfl (by decide) fun h₁ tk F W' R' htk => ?_
  iterate 6 (walk_at "st")
  walk_at "st"
  walk_at "st"
  refine callWith_t2 ?_ (by with_unfolding_all rfl) (by with_unfolding_all rfl) (by with_unfolding_all rfl)
  refine sl_str ?_ (fun _ _ => by with_unfolding_all rfl)
  repeat' walk_at "st"
  refine part_some ?_
  repeat' walk_at "st"
  refine part_some ?_
  repeat' walk_at "st"
  refine ⟨[61, hx a, hx b], _, some (1, _), some (3, _), rfl, rfl, rfl, by simp, fun h₂ t₂ k₂ hk₂ _ => ?_⟩
  repeat' walk_at "st"
  refine call_hex ha hb ?_
  repeat' walk_at "st"
  refine chr_tx (by omega) ?_
  exact h _ _ _ fun b o e => hk₂ b o (F.keep b o e)
end
section
open Builtin Builtin.Str
section
variable {prog : Program} {w : World} {A : Around} {E : Value → Shared → Prop} {env : Env} {s : Shared}
theorem truthy_tx {x : PySem.Str} {l : List Nat} {t : Tok} {Q : Bool → Shared → Prop} (hx : x = tx l) (hl : l.length ≤ 1000000) (h : ∀ k, Q (!decide (l = [])) { s with toks := k }) : wpAny (model prog w) A (truthy (.str x t)) Q E s := by
  subst hx
  have e : (((tx l).length : Int) != 0) = !decide (l = []) := by
    rw [tx_length]
    cases l <;> simp
    omega
  exact P.truthy_str (fits63 (N := 2000000) (by rw [tx_length]; omega) (by decide)) (by rw [e]; exact h _)
theorem up {g : Heap} {L : Addr} {h : Heap} {m : PySem.Str → Option Value} {x a : PySem.Str} {v : Value} {o : Option Value} (_ : Fr g L h (fun y => if y = x then some v else m y)) (hm : m a = o) (hne : (a == x) = false) : (fun y => if y = x then some v else m y) a = o := if_ne hne hm
theorem while_go {test : Expr} {body : List Stmt} {pos : Pos} {g : Heap} {L : Addr} {m : PySem.Str → Option Value} {Q : Flow → Shared → Prop} (F : Fr g L s.heap m) (N : Nat) (J : Nat → (PySem.Str → Option Value) → Prop) (h0 : J 0 m)
    (turn : ∀ j m₁ s₁, j ≤ N → J j m₁ → Fr g L s₁.heap m₁ → (∀ b o, b ≠ L → s.heap.get? b = some o → s₁.heap.get? b = some o) →
      wpAny (model prog w) A (isTrue test env (eval test env)) (fun b s₂ => if b = true then j < N ∧ wpAny (model prog w) A (execs body env) (fun f s' => f = .next ∧ ∃ h' tk m₂, s' = { s₁ with heap := h', toks := tk } ∧ (∀ b o, b ≠ L → s₁.heap.get? b = some o → h'.get? b = some o) ∧ Fr g L h' m₂ ∧ J (j + 1) m₂) noE s₂
        else j = N ∧ ∃ h' tk, s₂ = { s₁ with heap := h', toks := tk } ∧ (∀ b o, b ≠ L → s₁.heap.get? b = some o → h'.get? b = some o) ∧ Fr g L h' m₁) noE s₁)
    (hQ : ∀ h' tk m', Fr g L h' m' → J N m' → (∀ b o, b ≠ L → s.heap.get? b = some o → h'.get? b = some o) → Q .next { s with heap := h', toks := tk }) :
    wpAny (model prog w) A (exec (.While test body [] pos) env) Q E s := by
  refine wpAny_While (codeAny_whileLoop (fun n s' => ∃ j h₁ tk₁ m₁, s' = { s with heap := h₁, toks := tk₁ } ∧ n = N - j ∧ j ≤ N ∧ Fr g L h₁ m₁ ∧ J j m₁ ∧ ∀ b o, b ≠ L → s.heap.get? b = some o → h₁.get? b = some o) ?_ N ⟨0, s.heap, s.toks, m, rfl, rfl, Nat.zero_le _, F, h0, fun _ _ _ e => e⟩)
  rintro n s' ⟨j, h₁, tk₁, m₁, rfl, rfl, hj, F₁, J₁, k₁⟩
  refine wpAny_mono (turn j m₁ _ hj J₁ F₁ k₁) (fun b s₂ h₂ => ?_) fun _ _ x => x.elim
  cases b with
  | false =>
    simp only [Bool.false_eq_true, if_false] at h₂ ⊢
    obtain ⟨rfl, h', tk, rfl, k₂, F₂⟩ := h₂
    exact wpAny_execs_nil (hQ h' tk m₁ F₂ J₁ fun b o hb e => k₂ b o hb (k₁ b o hb e))
  | true =>
    simp only [if_true] at h₂ ⊢
    obtain ⟨hlt, h₂⟩ := h₂
    refine wpAny_mono h₂ (fun f s₃ h₃ => ?_) fun _ _ x => x.elim
    obtain ⟨rfl, h', tk, m₂, rfl, k₂, F₂, J₂⟩ := h₃
    exact ⟨N - (j + 1), by omega, j + 1, h', tk, m₂, rfl, rfl, hlt, F₂, J₂, fun b o hb e => k₂ b o hb (k₁ b o hb e)⟩
theorem split_one {x : List Nat} {t : Tok} {Q : Value → Shared → Prop} (hne : x ≠ []) (hl : x.length ≤ 1000000) (hb : ∀ c ∈ x, Unicode.isLineBreak c = false)
    (h : ∀ D h', h'.IsList D [Value.str (tx x) t].toArray → Ext s.heap h' → s.heap.objs.size ≤ D → Q (.ref D) { s with heap := h' }) :
    wpAny (model prog w) A (call (.builtin "str.splitlines") [.str (tx x) t]) Q E s := by
  have e := lines_one hne hb
  refine call_meets F.slot_str_splitlines (typeIs_str _ _ _) F.entry_str_splitlines (F.args_str_splitlines_1 _) (meets_str_splitlines (tx x) t (by rw [tx_length, PySem.sizeLine_eq]; omega) (by rw [e, PySem.sizeLine_eq]; simp)) ?_
  show if (lineCuts (tx x) == [(0, (tx x).length)]) = true then _ else _
  rw [e, tx_length, if_pos (by simp)]
  exact h _ _ ⟨_, Heap.get?_push_size _ rfl, rfl, _, rfl⟩ (fun _ _ eb => Heap.get?_push_of_some _ eb) (Nat.le_refl _)
theorem rstrip_tx {x : List Nat} {t : Tok} {Q : Value → Shared → Prop} (hl : x.length ≤ 1000000) (hb : ∀ c ∈ x, Unicode.isSpace c = false) (h : ∀ t' k, Q (.str (tx x) t') { s with toks := k }) :
    wpAny (model prog w) A (call (.builtin "str.rstrip") [.str (tx x) t]) Q E s := by
  refine SC.rstrip (fun t' k => ?_) (by rw [tx_length, PySem.sizeLine_eq]; omega)
  rw [rstrip_same hb]
  exact h t' k
theorem aug_str {x : PySem.Str} {p p3 : Pos} {e : Expr} {g : Heap} {L : Addr} {m : PySem.Str → Option Value} {a : List Nat} {t : Tok} {Q : Flow → Shared → Prop} (F : Fr g L s.heap m) (hk : env.scope.kind = .function) (hx : env.kindOf x = some .local) (hL : env.locals = L) (hv : m x = some (.str (tx a) t))
    (h : wpAny (model prog w) A (eval e env) (fun v s₁ => ∃ b u, v = .str (tx b) u ∧ a.length + b.length ≤ 1000000 ∧ Fr g L s₁.heap m ∧ ∀ h' tk t', Fr g L h' (fun y => if y = x then some (.str (tx (a ++ b)) t') else m y) → (∀ b o, b ≠ L → s₁.heap.get? b = some o → h'.get? b = some o) → Q .next { s₁ with heap := h', toks := tk }) E s) :
    wpAny (model prog w) A (exec (.AugAssign (.Name x p) .Add e p3) env) Q E s := by
  refine wpAny_AugAssign_Name ?_
  subst hL
  refine wpAny_loadName_local hk hx F.ns hv (wpAny_mono h (fun v s₁ h₁ => ?_) fun _ _ e => e)
  obtain ⟨b, u, rfl, hlen, F₁, hQ⟩ := h₁
  refine SB.iadd (fun t' k => ?_) (by rw [tx_length, tx_length, PySem.sizeLine_eq]; omega)
  rw [tx_append]
  exact stL (s := { s₁ with toks := k }) F₁ hx hk rfl fun h' F' hk' => hQ _ _ _ F' hk'
theorem notIn_l {x : PySem.Str} {l : List Nat} {c : Nat} {t u : Tok} {Q : Value → Shared → Prop} (hx' : x = tx l) (h : Q (.bool (!decide (c ∈ l))) s) : wpAny (model prog w) A (compareOp .NotIn (.str (tx [c]) u) (.str x t)) Q E s := by
  have hx := congrArg (fun y : PySem.Str => y.cps.toList) hx'
  dsimp only [tx] at hx
  refine P.notIn_str ?_
  have := StrLaws.found_one x c
  rw [show tx [c] = ({ cps := #[c] } : PySem.Str) from rfl, this, hx]
  exact h
/-- the sign at a place counted from the end -/
theorem sub_last {value slice : Expr} {l : List Nat} {c : Nat} {t u : Tok} {Q : Value → Shared → Prop} (hl : l.length < 2 ^ 62) (hc : (l.getLast?) = some c) (h : ∀ t' k, Q (.str (tx [c]) t') { s with toks := k })
    (hs : subscripted slice false (.str (tx l) t) (.int (-1) u) = operate [.str (tx l) t, .int (-1) u] (getItem (.str (tx l) t) (.int (-1) u))) :
    wpAny (model prog w) A (subscriptTail value slice (.str (tx l) t) (.int (-1) u)) Q E s := by
  refine tail_any (typeIs_str _ _ _) F.slot_str_getitem.lookup (P.getItem_str (by decide) ?_ (h _ _)) hs
  have hl0 : 0 < l.length := by
    cases l with
    | nil => cases hc
    | cons a r => simp
  have e : seqIndex? (-1) (tx l).length = some (l.length - 1) := by
    unfold seqIndex?
    rw [tx_length]
    have h1 : ((-1 : Int) < 0) := by decide
    simp only [h1, if_true]
    have h2 : (-1 + (l.length : Int)) = ((l.length - 1 : Nat) : Int) := by omega
    rw [h2, if_pos (by simp; omega)]
    rfl
  rw [e]
  show (l.toArray)[l.length - 1]? = some c
  rw [List.getLast?_eq_getElem?] at hc
  simpa using hc
end
end
section
open Builtin Builtin.Str
theorem decode_binds {w : World} {s : Shared} (W : Wd w s.heap) (x : PySem.Str) (t : Tok) : ∃ u, BindsTo s (fnAt w.params 58) ⟨[.str x t], []⟩ [(PySem.Str.ofString "encoded", Value.str x t), (PySem.Str.ofString "eol", Value.str (tx [10]) u)] := by
  refine ⟨?_, ?_⟩
  rotate_left
  · have h : (PySem.Str.ofString "\n") = tx [10] := lit_nl
    rw [← h]
    exact BindsTo.of_defaults (T := 51) (by with_unfolding_all rfl) (W.X _ _ (by with_unfolding_all rfl)) (by with_unfolding_all rfl) (by with_unfolding_all rfl) (by with_unfolding_all rfl)
def doneOf (l : List Nat) (j : Nat) : List Nat := l.take j ++ if j = l.length then [10] else []

structure Dv (l : List Nat) (t u : Tok) (j : Nat) (m : PySem.Str → Option Value) : Prop where
  e : m (PySem.Str.ofString "encoded") = some (.str (tx (T2 l)) t)
  o : m (PySem.Str.ofString "eol") = some (.str (tx [10]) u)
  ln : ∃ t, m (PySem.Str.ofString "line") = some (.str (tx (T2 l)) t)
  n : ∃ t, m (PySem.Str.ofString "n") = some (.int ((T2 l).length : Nat) t)
  i : ∃ t, m (PySem.Str.ofString "i") = some (.int (off l j : Nat) t)
  d : ∃ t, m (PySem.Str.ofString "decoded") = some (.str (tx (doneOf l j)) t)
theorem Dv.of {l : List Nat} {t u : Tok} {j : Nat} {g : Heap} {L : Addr} {h : Heap} {m : PySem.Str → Option Value} (_ : Fr g L h m) (e : m (PySem.Str.ofString "encoded") = some (.str (tx (T2 l)) t)) (o : m (PySem.Str.ofString "eol") = some (.str (tx [10]) u)) {t1 t2 t3 t4 : Tok}
    (ln : m (PySem.Str.ofString "line") = some (.str (tx (T2 l)) t1)) (n : m (PySem.Str.ofString "n") = some (.int ((T2 l).length : Nat) t2)) (i : m (PySem.Str.ofString "i") = some (.int (off l j : Nat) t3)) (d : m (PySem.Str.ofString "decoded") = some (.str (tx (doneOf l j)) t4)) : Dv l t u j m :=
  ⟨e, o, ⟨_, ln⟩, ⟨_, n⟩, ⟨_, i⟩, ⟨_, d⟩⟩
theorem doneOf_zero {l : List Nat} (h : l ≠ []) : doneOf l 0 = [] := by
  unfold doneOf
  rw [if_neg (by intro e; exact h (List.length_eq_zero_iff.mp e.symm))]
  simp
theorem doneOf_all (l : List Nat) : doneOf l l.length = l ++ [10] := by simp [doneOf]

section
variable {prog : Program} {w : World} {A : Around} {E : Value → Shared → Prop} {env : Env} {s : Shared}
theorem sl_strE {value : Expr} {lower upper : Option Expr} {p pos : Pos} {Q : Value → Shared → Prop}
    (h : wpAny (model prog w) A (eval value env) (fun o s₁ => wpAny (model prog w) A (evalPart lower env) (fun vl s₂ => wpAny (model prog w) A (evalPart upper env) (fun vu s₃ =>
      ∃ x t l u r, o = .str (tx x) t ∧ vl = partValue l ∧ vu = partValue u ∧ cutL x (l.map (·.1)) (u.map (·.1)) = r ∧ x.length ≤ 1000000 ∧ ∀ h' t' k, Ext s₃.heap h' → s₃.toks ≤ k → Q (.str (tx r) t') { s₃ with heap := h', toks := k }) E s₂) E s₁) E s)
    (ht : ∀ o r, letTemporaryGo value o r = pure ()) :
    wpAny (model prog w) A (eval (.Subscript value (.Slice lower upper none p) pos) env) Q E s := by
  refine sl_str (wpAny_mono h (fun o s₁ h₁ => wpAny_mono h₁ (fun vl s₂ h₂ => wpAny_mono h₂ (fun vu s₃ h₃ => ?_) fun _ _ e => e) fun _ _ e => e) fun _ _ e => e) ht
  obtain ⟨x, t, l, u, r, rfl, rfl, rfl, rfl, hx, hQ⟩ := h₃
  exact ⟨x, t, l, u, rfl, rfl, rfl, hx, hQ⟩
theorem ends_nl {l : List Nat} {t u : Tok} {Q : Value → Shared → Prop} (h : Q (.bool true) s) : wpAny (model prog w) A (call (.builtin "str.endswith") [.str (tx (l ++ [10])) t, .str (tx [10]) u]) Q E s := by
  rw [← tx_append]
  exact SC.endswith (by rw [KT.ends_app]; exact h)
end
theorem up0 {g : Heap} {L : Addr} {h : Heap} {m : PySem.Str → Option Value} {x : PySem.Str} {v : Value} (_ : Fr g L h (fun y => if y = x then some v else m y)) : (fun y => if y = x then some v else m y) x = some v := if_pos rfl
theorem cut3 {x : List Nat} {a p q r : Nat} (h0 : x[a]? = some p) (h1 : x[a + 1]? = some q) (h2 : x[a + 2]? = some r) : cutL x (some (a : Int)) (some ((a : Int) + 3)) = [p, q, r] := by
  have hlt : a + 2 < x.length := (List.getElem?_eq_some_iff.mp h2).1
  have e1 : kms_lo (some (a : Int)) x.length = a := by
    show (if (a : Int) < 0 then x.length - (-(a : Int)).toNat else min (a : Int).toNat x.length) = a
    rw [if_neg (by omega)]; omega
  have e2 : kms_hi (some ((a : Int) + 3)) x.length = a + 3 := by
    show (if (a : Int) + 3 < 0 then x.length - (-((a : Int) + 3)).toNat else min ((a : Int) + 3).toNat x.length) = a + 3
    rw [if_neg (by omega)]; omega
  unfold cutL
  rw [e1, e2, show a + 3 - a = 3 by omega]
  apply List.ext_getElem?
  intro i
  rw [List.getElem?_take]
  split
  · rename_i hi
    rw [List.getElem?_drop]
    match i, hi with
    | 0, _ => simpa using h0
    | 1, _ => simpa using h1
    | 2, _ => simpa using h2
  · rename_i hi
    rw [List.getElem?_eq_none (by simp; omega)]
theorem cut_last (l : List Nat) : cutL (l ++ [10]) none (some (-1)) = l := by
  have e2 : kms_hi (some (-1)) (l ++ [10]).length = l.length := by
    show (if (-1 : Int) < 0 then (l ++ [10]).length - (-(-1 : Int)).toNat else min (-1 : Int).toNat (l ++ [10]).length) = l.length
    rw [if_pos (by decide)]
    simp
  unfold cutL
  rw [e2]
  show ((l ++ [10]).drop 0).take (l.length - 0) = l
  simp
theorem doneOf_lt {l : List Nat} {j : Nat} (h : j < l.length) : doneOf l j = l.take j := by
  unfold doneOf
  rw [if_neg (by omega)]
  simp
theorem doneOf_end {l : List Nat} {j c : Nat} (h : l[j]? = some c) (e : j + 1 = l.length) : doneOf l (j + 1) = l.take j ++ [c] ++ [10] := by
  unfold doneOf
  rw [if_pos e, List.take_add_one, h]
  rfl
theorem doneOf_go {l : List Nat} {j c : Nat} (h : l[j]? = some c) (e : j + 1 ≠ l.length) : doneOf l (j + 1) = l.take j ++ [c] := by
  unfold doneOf
  rw [if_neg e, List.take_add_one, h]
  simp
theorem hx_in : ∀ d : Fin 16, decide (hx d.val ∈ ([48, 49, 50, 51, 52, 53, 54, 55, 56, 57, 97, 98, 99, 100, 101, 102, 65, 66, 67, 68, 69, 70] : List Nat)) = true := by decide +kernel

set_option maxHeartbeats 4000000 in
theorem decode_T2 {prog : Program} {w : World} {A : Around} {E : Value → Shared → Prop} {s : Shared} {l : List Nat} {t : Tok} {Q : Value → Shared → Prop} (W : Wd w s.heap) (Rm' : Rm A 2 6) (hne : l ≠ []) (hl : l.length ≤ 10000) (hl2 : ∀ c ∈ l, c < 256)
    (h : ∀ h' tk t', Ext s.heap h' → Q (.str (tx l) t') { s with heap := h', toks := tk }) : wpAny (model prog w) A (call (.ref 58) [.str (tx (T2 l)) t]) Q E s := by
  obtain ⟨u, hb⟩ := decode_binds W (tx (T2 l)) t
  refine enter (d := 1) (u := 3) (binds := [(PySem.Str.ofString "encoded", Value.str (tx (T2 l)) t), (PySem.Str.ofString "eol", Value.str (tx [10]) u)]) W Rm' (by with_unfolding_all rfl) (by with_unfolding_all rfl) (by with_unfolding_all exact hb) (locs rfl) rfl rfl rfl (by decide) fun h₁ tk F W' R' htk => ?_
  clear hb W'
  have hT := T2_ok hl2
  have hTl := T2_len l
  have hTn := T2_ne hne
  have hT62 : (T2 l).length < 2 ^ 62 := by omega
  have hl20 : (l ++ [10]).length ≤ 1000000 := by rw [List.length_append]; simp only [List.length_cons, List.length_nil]; omega
  obtain ⟨q, hq⟩ : ∃ q, (T2 l).getLast? = some q := ⟨(T2 l).getLast hTn, List.getLast?_eq_some_getLast hTn⟩
  have hqT : (!decide (q ∈ ([13, 10] : List Nat))) = true := by
    have := ok_plain (hT q (List.mem_of_getLast? hq))
    simp
    exact ⟨this.2.2.2, this.2.2.1⟩
  repeat' walk_at "st"
  refine truthy_tx rfl (by omega) fun k₁ => ?_
  rw [decide_eq_false hTn]
  refine ite_ff ?_
  repeat' walk_at "st"
  with_reducible refine stL F (by with_unfolding_all rfl) (by with_unfolding_all rfl) (by with_unfolding_all rfl) fun h₂ F hk₂ => ?_
  repeat' walk_at "st"
  refine wpAny_For ?_ (fun _ => by with_unfolding_all rfl)
  refine MethodCall_ ?_ (by with_unfolding_all rfl)
  repeat' walk_at "st"
  with_reducible refine gm_str PySem.F.slot_str_splitlines PySem.F.type_str_splitlines ?_
  refine callWith_m0 ?_
  refine split_one hTn (by omega) (fun c hc => (ok_plain (hT c hc)).1) fun D h₃ hD hk₃ hDle => ?_
  have hDL : D ≠ s.heap.objs.size := fun q => by
    have h1 := F.ns.lt
    rw [← q] at h1
    exact Nat.lt_irrefl _ (Nat.lt_of_lt_of_le h1 hDle)
  have F := F.keeps hk₃
  refine for_go (Src.n (src_list R'.hh hD)) F (by with_unfolding_all rfl) (by with_unfolding_all rfl) (by with_unfolding_all rfl) [] (fun _ h => nomatch h) (fun _ h => nomatch h) (fun q => hDL (by injection q)) (fun _ h => nomatch h)
    (fun i m _ => m (PySem.Str.ofString "encoded") = some (.str (tx (T2 l)) t) ∧ m (PySem.Str.ofString "eol") = some (.str (tx [10]) u) ∧ ∃ t', m (PySem.Str.ofString "decoded") = some (.str (tx (if i = 0 then [] else l ++ [10])) t')) (fun _ _ _ _ _ _ _ h => h) ?_ ?_ ?_
  · exact ⟨rfl, rfl, _, rfl⟩
  · rintro i v m₁ s₂ k hi hk hv hk₂ F₂ ⟨he, ho, td, hd⟩ hold
    obtain rfl : i = 0 := by simpa using hi
    obtain rfl : v = .str (tx (T2 l)) t := by simpa using hv.symm
    have he := up F₂ he (by decide)
    have ho := up F₂ ho (by decide)
    have hd := up F₂ hd (by decide)
    repeat' walk_at "st"
    refine MethodCall_ ?_ (by with_unfolding_all rfl)
    repeat' walk_at "st"
    with_reducible refine gm_str PySem.F.slot_str_rstrip PySem.F.type_str_rstrip ?_
    refine callWith_m0 ?_
    refine rstrip_tx (by omega) (fun c hc => (ok_plain (hT c hc)).2.1) fun t₄ k₄ => ?_
    with_reducible refine stL F₂ (by with_unfolding_all rfl) (by with_unfolding_all rfl) (by with_unfolding_all rfl) fun h₄ F₄ hk₄ => ?_
    have he := up F₄ he (by decide)
    have ho := up F₄ ho (by decide)
    have hd := up F₄ hd (by decide)
    repeat' walk_at "st"
    refine truthy_tx rfl (by omega) fun k₅ => ?_
    rw [decide_eq_false hTn]
    refine ite_ff ?_
    repeat' walk_at "st"
    with_reducible refine stL F₄ (by with_unfolding_all rfl) (by with_unfolding_all rfl) (by with_unfolding_all rfl) fun h₆ F₆ hk₆ => ?_
    have he := up F₆ he (by decide)
    have ho := up F₆ ho (by decide)
    have hd := up F₆ hd (by decide)
    repeat' walk_at "st"
    refine len_tx (l := T2 l) (by omega) fun t₇ k₇ => ?_
    with_reducible refine stL F₆ (by with_unfolding_all rfl) (by with_unfolding_all rfl) (by with_unfolding_all rfl) fun h₈ F₈ hk₈ => ?_
    have he := up F₈ he (by decide)
    have ho := up F₈ ho (by decide)
    have hd := up F₈ hd (by decide)
    have V := Dv.of (l := l) (j := 0) F₈ he ho (by with_unfolding_all rfl) (by with_unfolding_all rfl) (by with_unfolding_all rfl) (by rw [doneOf_zero hne]; exact hd)
    clear he ho hd
    repeat' walk_at "st"
    refine while_go F₈ l.length (Dv l t u) V ?_ ?_
    · rintro j m₂ s₃ hj ⟨he, ho, ⟨tl, hln⟩, ⟨tn, hnn⟩, ⟨ti, hii⟩, ⟨td, hd⟩⟩ F₉ hk₉
      have hns := F₉.ns
      repeat' walk_at "st"
      refine P.lt_int ?_
      repeat' walk_at "st"
      have hiff : off l j < (T2 l).length ↔ j < l.length := ⟨fun q => by
        by_cases e : j = l.length
        · rw [e, off_all] at q; omega
        · omega, off_lt⟩
      refine ite_dec (fun hlt => ?_) (fun hlt => ?_)
      · have hj' : j < l.length := hiff.mp (by omega)
        obtain ⟨c, hc⟩ : ∃ c, l[j]? = some c := ⟨l[j], by simp [hj']⟩
        have hc256 := hl2 c (List.mem_of_getElem? hc)
        have hofl := off_le hc
        rw [doneOf_lt hj'] at hd
        have hlt1 : (l.take j).length ≤ l.length := by rw [List.length_take]; exact Nat.min_le_right _ _
        refine ⟨hj', ?_⟩
        by_cases hs : safe c = true
        · have hen : enc2 c = [c] := by simp [enc2, hs]
          have hlen : (enc2 c).length = 1 := by rw [hen]; rfl
          have hT0 : (T2 l)[off l j]? = some c := by
            have := T2_at (k := 0) hc (by rw [hlen]; decide)
            rw [hen] at this
            simpa using this
          have hi2 : ((off l (j + 1) : Nat) : Int) = (off l j : Int) + 1 := by rw [off_succ hc, hlen]; rfl
          have hz1 : ((off l j : Int) + 1 == ((T2 l).length : Int)) = decide (j + 1 = l.length) := by
            rw [Bool.eq_iff_iff, beq_iff_eq, decide_eq_true_iff, ← off_end hc, hlen]
            omega
          have hb1 : (l.take j).length + 1 ≤ 1000000 := by omega
          have hb2 : (l.take j ++ [c]).length + 1 ≤ 1000000 := by rw [List.length_append]; simp only [List.length_cons, List.length_nil]; omega
          repeat' walk_at "st"
          refine sub_str rfl rfl (by omega) hT0 (fun t₁₀ k₁₀ => ?_) (by with_unfolding_all rfl)
          with_reducible refine stL F₉ (by with_unfolding_all rfl) (by with_unfolding_all rfl) (by with_unfolding_all rfl) fun h₁₁ F₁₁ hk₁₁ => ?_
          have he := up F₁₁ he (by decide)
          have ho := up F₁₁ ho (by decide)
          have hln := up F₁₁ hln (by decide)
          have hnn := up F₁₁ hnn (by decide)
          have hii := up F₁₁ hii (by decide)
          have hd := up F₁₁ hd (by decide)
          have hns := F₁₁.ns
          repeat' walk_at "st"
          with_reducible refine ne_l lit_eq ?_
          repeat' walk_at "st"
          refine ite_decN (fun h61 => ?_) (fun h61 => ?_)
          · repeat' walk_at "st"
            refine aug_str F₁₁ (by with_unfolding_all rfl) (by with_unfolding_all rfl) (by with_unfolding_all rfl) hd ?_
            repeat' walk_at "st"
            refine ⟨[c], _, rfl, hb1, F₁₁, fun h₁₂ tk₁₂ t₁₂ F₁₂ hk₁₂ => ?_⟩
            have he := up F₁₂ he (by decide)
            have ho := up F₁₂ ho (by decide)
            have hln := up F₁₂ hln (by decide)
            have hnn := up F₁₂ hnn (by decide)
            have hii := up F₁₂ hii (by decide)
            have hd : _ = some (Value.str (tx (l.take j ++ [c])) t₁₂) := up0 F₁₂
            repeat' walk_at "st"
            refine aug_one F₁₂ (by with_unfolding_all rfl) (by with_unfolding_all rfl) (by with_unfolding_all rfl) hii fun h₁₃ tk₁₃ t₁₃ F₁₃ hk₁₃ => ?_
            have he := up F₁₃ he (by decide)
            have ho := up F₁₃ ho (by decide)
            have hln := up F₁₃ hln (by decide)
            have hnn := up F₁₃ hnn (by decide)
            have hd := up F₁₃ hd (by decide)
            have hii : _ = some (Value.int ((off l j : Int) + 1) t₁₃) := up0 F₁₃
            have keep : ∀ b o, b ≠ s.heap.objs.size → s₃.heap.get? b = some o → h₁₃.get? b = some o := fun b o hb eb => hk₁₃ b o hb (hk₁₂ b o hb (hk₁₁ b o hb eb))
            repeat' walk_at "st"
            have hns := F₁₃.ns
            repeat' walk_at "st"
            refine ite_bool (fun hz => ?_) (fun hz => ?_)
            · have hend : j + 1 = l.length := by rw [hz1] at hz; exact of_decide_eq_true hz
              repeat' walk_at "st"
              refine aug_str F₁₃ (by with_unfolding_all rfl) (by with_unfolding_all rfl) (by with_unfolding_all rfl) hd ?_
              repeat' walk_at "st"
              refine ⟨[10], _, rfl, hb2, F₁₃, fun h₂₀ tk₂₀ t₂₀ F₂₀ hk₂₀ => ?_⟩
              repeat' walk_at "st"
              have he := up F₂₀ he (by decide)
              have ho := up F₂₀ ho (by decide)
              have hln := up F₂₀ hln (by decide)
              have hnn := up F₂₀ hnn (by decide)
              have hii := up F₂₀ hii (by decide)
              refine ⟨rfl, h₂₀, tk₂₀, _, rfl, fun b o hb eb => hk₂₀ b o hb (keep b o hb eb), F₂₀, Dv.of F₂₀ he ho hln hnn (by rw [hi2]; exact hii) (by rw [doneOf_end hc hend]; with_unfolding_all rfl)⟩
            · have hend : j + 1 ≠ l.length := by rw [hz1] at hz; exact of_decide_eq_false hz
              repeat' walk_at "st"
              refine ⟨rfl, _, _, _, rfl, fun b o hb eb => keep b o hb eb, F₁₃, Dv.of F₁₃ he ho hln hnn (by rw [hi2]; exact hii) (by rw [doneOf_go hc hend]; exact hd)⟩
          · exfalso
            rw [h61] at hs
            cases hs
        · have hen : enc2 c = [61, hx (c / 16), hx (c % 16)] := by simp [enc2, hs]
          have hlen : (enc2 c).length = 3 := by rw [hen]; rfl
          have hT0 : (T2 l)[off l j]? = some 61 := by
            have := T2_at (k := 0) hc (by rw [hlen]; decide)
            rw [hen] at this
            simpa using this
          have hT1 : (T2 l)[off l j + 1]? = some (hx (c / 16)) := by
            have := T2_at (k := 1) hc (by rw [hlen]; decide)
            rw [hen] at this
            simpa using this
          have hT2 : (T2 l)[off l j + 2]? = some (hx (c % 16)) := by
            have := T2_at (k := 2) hc (by rw [hlen]; decide)
            rw [hen] at this
            simpa using this
          have hi2 : ((off l (j + 1) : Nat) : Int) = (off l j : Int) + 3 := by rw [off_succ hc, hlen]; rfl
          have hz1 : ((off l j : Int) + 3 == ((T2 l).length : Int)) = decide (j + 1 = l.length) := by
            rw [Bool.eq_iff_iff, beq_iff_eq, decide_eq_true_iff, ← off_end hc, hlen]
            omega
          have hb1 : (l.take j).length + 1 ≤ 1000000 := by omega
          have hb2 : (l.take j ++ [c]).length + 1 ≤ 1000000 := by rw [List.length_append]; simp only [List.length_cons, List.length_nil]; omega
          have hz0 : ((off l j : Int) + 1 == ((T2 l).length : Int)) = false := by
            cases e : ((off l j : Int) + 1 == ((T2 l).length : Int)) with
            | false => rfl
            | true => have := beq_iff_eq.mp e; omega
          have hz2 : (off l j : Int) + 2 < ((T2 l).length : Int) := by omega
          have hb3 : off l j + 1 < 2 ^ 63 := by omega
          have hb4 : off l j + 2 < 2 ^ 63 := by omega
          have hb5 : (T2 l).length ≤ 1000000 := by omega
          have q1 : c / 16 < 16 := by omega
          have q2 : c % 16 < 16 := by omega
          have hcc : 16 * (c / 16) + c % 16 = c := by omega
          repeat' walk_at "st"
          refine sub_str rfl rfl (by omega) hT0 (fun t₁₀ k₁₀ => ?_) (by with_unfolding_all rfl)
          with_reducible refine stL F₉ (by with_unfolding_all rfl) (by with_unfolding_all rfl) (by with_unfolding_all rfl) fun h₁₁ F₁₁ hk₁₁ => ?_
          have he := up F₁₁ he (by decide)
          have ho := up F₁₁ ho (by decide)
          have hln := up F₁₁ hln (by decide)
          have hnn := up F₁₁ hnn (by decide)
          have hii := up F₁₁ hii (by decide)
          have hd := up F₁₁ hd (by decide)
          have hns := F₁₁.ns
          repeat' walk_at "st"
          with_reducible refine ne_l lit_eq ?_
          repeat' walk_at "st"
          refine ite_decN (fun h61 => absurd rfl h61) (fun h61 => ?_)
          repeat' walk_at "st"
          refine P.lt_int ?_
          repeat' walk_at "st"
          refine sub_str (d := off l j + 1) rfl rfl hb3 hT1 (fun t₁₁ k₁₁ => ?_) (by with_unfolding_all rfl)
          refine n_hexdigits (W.keeps F₁₁.keep) ?_ (by with_unfolding_all rfl) (by with_unfolding_all rfl) (by with_unfolding_all rfl)
          with_reducible refine in_l rfl ?_
          repeat' walk_at "st"
          refine ite_t (hx_in ⟨c / 16, q1⟩) ?_
          repeat' walk_at "st"
          refine sub_str (d := off l j + 2) rfl rfl hb4 hT2 (fun t₁₂ k₁₂ => ?_) (by with_unfolding_all rfl)
          refine n_hexdigits (W.keeps F₁₁.keep) ?_ (by with_unfolding_all rfl) (by with_unfolding_all rfl) (by with_unfolding_all rfl)
          with_reducible refine in_l rfl ?_
          repeat' walk_at "st"
          refine ite_t (hx_in ⟨c % 16, q2⟩) ?_
          repeat' walk_at "st"
          refine aug_str F₁₁ (by with_unfolding_all rfl) (by with_unfolding_all rfl) (by with_unfolding_all rfl) hd ?_
          repeat' walk_at "st"
          refine sl_strE ?_ (fun _ _ => by with_unfolding_all rfl)
          repeat' walk_at "st"
          refine part_some ?_
          repeat' walk_at "st"
          refine part_some ?_
          repeat' walk_at "st"
          refine ⟨T2 l, _, some (_, _), some (_, _), _, rfl, rfl, rfl, cut3 hT0 hT1 hT2, hb5, fun h₁₄ t₁₄ k₁₄ hk₁₄ _ => ?_⟩
          repeat' walk_at "st"
          have F₁₄ := F₁₁.keeps hk₁₄
          refine ⟨W.keeps F₁₄.keep, unquote_hex (W.keeps F₁₄.keep) R' q1 q2 fun h₁₅ tk₁₅ t₁₅ hk₁₅ => ?_⟩
          refine ⟨[c], _, by rw [hcc], hb1, F₁₄.keeps hk₁₅, fun h₁₂ tk₁₂ t₁₂ F₁₂ hk₁₂ => ?_⟩
          have he := up F₁₂ he (by decide)
          have ho := up F₁₂ ho (by decide)
          have hln := up F₁₂ hln (by decide)
          have hnn := up F₁₂ hnn (by decide)
          have hii := up F₁₂ hii (by decide)
          have hd : _ = some (Value.str (tx (l.take j ++ [c])) t₁₂) := up0 F₁₂
          repeat' walk_at "st"
          refine aug_one F₁₂ (by with_unfolding_all rfl) (by with_unfolding_all rfl) (by with_unfolding_all rfl) hii fun h₁₃ tk₁₃ t₁₃ F₁₃ hk₁₃ => ?_
          have he := up F₁₃ he (by decide)
          have ho := up F₁₃ ho (by decide)
          have hln := up F₁₃ hln (by decide)
          have hnn := up F₁₃ hnn (by decide)
          have hd := up F₁₃ hd (by decide)
          have hii : _ = some (Value.int ((off l j : Int) + 3) t₁₃) := up0 F₁₃
          have keep : ∀ b o, b ≠ s.heap.objs.size → s₃.heap.get? b = some o → h₁₃.get? b = some o := fun b o hb eb => hk₁₃ b o hb (hk₁₂ b o hb (hk₁₅ b o (hk₁₄ b o (hk₁₁ b o hb eb))))
          repeat' walk_at "st"
          have hns := F₁₃.ns
          repeat' walk_at "st"
          refine ite_bool (fun hz => ?_) (fun hz => ?_)
          · have hend : j + 1 = l.length := by rw [hz1] at hz; exact of_decide_eq_true hz
            repeat' walk_at "st"
            refine aug_str F₁₃ (by with_unfolding_all rfl) (by with_unfolding_all rfl) (by with_unfolding_all rfl) hd ?_
            repeat' walk_at "st"
            refine ⟨[10], _, rfl, hb2, F₁₃, fun h₂₀ tk₂₀ t₂₀ F₂₀ hk₂₀ => ?_⟩
            repeat' walk_at "st"
            have he := up F₂₀ he (by decide)
            have ho := up F₂₀ ho (by decide)
            have hln := up F₂₀ hln (by decide)
            have hnn := up F₂₀ hnn (by decide)
            have hii := up F₂₀ hii (by decide)
            refine ⟨rfl, h₂₀, tk₂₀, _, rfl, fun b o hb eb => hk₂₀ b o hb (keep b o hb eb), F₂₀, Dv.of F₂₀ he ho hln hnn (by rw [hi2]; exact hii) (by rw [doneOf_end hc hend]; with_unfolding_all rfl)⟩
          · have hend : j + 1 ≠ l.length := by rw [hz1] at hz; exact of_decide_eq_false hz
            repeat' walk_at "st"
            refine ⟨rfl, _, _, _, rfl, fun b o hb eb => keep b o hb eb, F₁₃, Dv.of F₁₃ he ho hln hnn (by rw [hi2]; exact hii) (by rw [doneOf_go hc hend]; exact hd)⟩
      · have hjl : j = l.length := by
          by_cases e : j = l.length
          · exact e
          · exact absurd (by have := hiff.mpr (by omega); omega) hlt
        exact ⟨hjl, s₃.heap, s₃.toks, rfl, fun b o _ e => e, F₉⟩
    · intro h₁₀ tk₁₀ m₂ F₁₀ V hk₁₀
      repeat' walk_at "st"
      have hd := V.d
      rw [doneOf_all] at hd
      exact ⟨rfl, h₁₀, tk₁₀, m₂, rfl, fun b o hb _ eb => hk₁₀ b o hb (hk₈ b o hb (hk₆ b o hb (hk₄ b o hb eb))), F₁₀, V.e, V.o, hd⟩
  · rintro h' tk' m' hle F' ⟨he, ho, td, hd⟩ hold
    have hns := F'.ns
    have hd : m' (PySem.Str.ofString "decoded") = some (Value.str (tx (l ++ [10])) td) := hd
    show wpAny _ _ (execs _ _) _ _ _
    repeat' walk_at "st"
    refine P.neg_int ?_
    refine sub_last hT62 hq (fun t₄ k₄ => ?_) (by with_unfolding_all rfl)
    repeat' walk_at "st"
    with_reducible refine notIn_l lit_crnl ?_
    repeat' walk_at "st"
    refine MethodCall_ ?_ (by with_unfolding_all rfl)
    repeat' walk_at "st"
    with_reducible refine gm_str PySem.F.slot_str_endswith PySem.F.type_str_endswith ?_
    refine callWith_m ?_ (by with_unfolding_all rfl) (by with_unfolding_all rfl)
    repeat' walk_at "st"
    refine ends_nl ?_
    show wpAny _ _ (truthy (.bool true)) _ _ _
    repeat' walk_at "st"
    refine sl_strE ?_ (fun _ _ => by with_unfolding_all rfl)
    repeat' walk_at "st"
    refine part_none ?_
    refine part_some ?_
    repeat' walk_at "st"
    refine len_tx (l := [10]) (by decide) fun t₅ k₅ => ?_
    refine P.neg_int ?_
    refine ⟨l ++ [10], _, none, some (-1, _), l, rfl, rfl, rfl, cut_last l, hl20, fun h₆ t₆ k₆ hk₆ _ => ?_⟩
    with_reducible refine stL (F'.keeps hk₆) (by with_unfolding_all rfl) (by with_unfolding_all rfl) (by with_unfolding_all rfl) fun h₇ F₇ hk₇ => ?_
    repeat' walk_at "st"
    exact h _ _ _ F₇.keep
end
section
open Builtin Builtin.Str
def swp (c : Nat) (z : List Nat) (l : List Nat) : List Nat := l.flatMap fun k => if k = c then z else [k]
theorem swp_app (c : Nat) (z a b : List Nat) : swp c z (a ++ b) = swp c z a ++ swp c z b := by simp [swp]
theorem swp_free (c : Nat) (z : List Nat) : ∀ l : List Nat, c ∉ l → swp c z l = l
  | [], _ => rfl
  | k :: r, h => by
    have h1 : ¬ k = c := fun e => h (e ▸ List.mem_cons_self ..)
    have h2 : c ∉ r := fun m => h (List.mem_cons_of_mem _ m)
    have ih := swp_free c z r h2
    unfold swp at *
    rw [List.flatMap_cons, ih, if_neg h1]
    rfl
theorem swp_join (c : Nat) (z : PySem.Str) : ∀ parts : List PySem.Str, (∀ p ∈ parts, c ∉ p.cps.toList) → swp c z.cps.toList (PySem.Str.join ⟨#[c]⟩ parts).cps.toList = (PySem.Str.join z parts).cps.toList
  | [], _ => rfl
  | [p], h => swp_free c _ _ (h p (List.mem_singleton.mpr rfl))
  | p :: q :: r, h => by
    have ih := swp_join c z (q :: r) fun a ha => h a (List.mem_cons_of_mem _ ha)
    show swp c z.cps.toList (p ++ ⟨#[c]⟩ ++ PySem.Str.join ⟨#[c]⟩ (q :: r)).cps.toList = (p ++ z ++ PySem.Str.join z (q :: r)).cps.toList
    simp only [PySem.Str.cps_append, Array.toList_append]
    rw [swp_app, swp_app, ih, swp_free c _ _ (h p (List.mem_cons_self ..))]
    simp [swp]
theorem replace_swp (x z : List Nat) (c : Nat) : Txt.replace (tx x) (tx [c]) (tx z) = tx (swp c z x) := by
  have h1 := swp_join c (tx z) (Txt.split (tx x) ⟨#[c]⟩) (StrLaws.split_free _ c)
  rw [StrLaws.join_split, ← StrLaws.replace_one] at h1
  have h2 : Txt.replace (tx x) (tx [c]) (tx z) = PySem.Str.mk (Txt.replace (tx x) (tx [c]) (tx z)).cps.toList.toArray := by simp
  rw [h2]
  exact congrArg (fun a : List Nat => PySem.Str.mk a.toArray) h1.symm
theorem swp_enc {l : List Nat} (hl : ∀ c ∈ l, c < 256) : swp 95 [61, 50, 48] (enc l) = T2 l := by
  induction l with
  | nil => rfl
  | cons c l ih =>
    have ih := ih fun d hd => hl d (List.mem_cons_of_mem _ hd)
    have hc := hl c (List.mem_cons_self ..)
    rw [enc_cons, swp_app, ih]
    unfold T2
    rw [List.flatMap_cons]
    congr 1
    by_cases h32 : c = 32
    · subst h32; decide
    · have e : enc2 c = enc1 c := by simp [enc1, enc2, h32]
      rw [e]
      exact swp_free _ _ _ fun hm => enc1_no95 hc h32 hm rfl
theorem cut_wr {l nm : List Nat} (hne : l ≠ []) : cutL (wr l nm) (some ((nm.length : Int) + 5)) (some (-2)) = enc l := by
  have e : wr l nm = pre nm ++ (enc l ++ [63, 61]) := by
    cases l with
    | nil => exact absurd rfl hne
    | cons c l => simp [wr]
  have hp : (pre nm).length = nm.length + 5 := by simp [pre]
  rw [e]
  have e1 : kms_lo (some ((nm.length : Int) + 5)) (pre nm ++ (enc l ++ [63, 61])).length = nm.length + 5 := by
    show (if (nm.length : Int) + 5 < 0 then (pre nm ++ (enc l ++ [63, 61])).length - (-((nm.length : Int) + 5)).toNat else min ((nm.length : Int) + 5).toNat (pre nm ++ (enc l ++ [63, 61])).length) = nm.length + 5
    rw [if_neg (by omega), List.length_append, hp]
    omega
  have e2 : kms_hi (some (-2)) (pre nm ++ (enc l ++ [63, 61])).length = nm.length + 5 + (enc l).length := by
    show (if (-2 : Int) < 0 then (pre nm ++ (enc l ++ [63, 61])).length - (-(-2 : Int)).toNat else min (-2 : Int).toNat (pre nm ++ (enc l ++ [63, 61])).length) = _
    rw [if_pos (by decide), List.length_append, List.length_append, hp]
    simp
    omega
  unfold cutL
  rw [e1, e2, ← hp, List.drop_left, show (pre nm).length + (enc l).length - (pre nm).length = (enc l).length by omega, List.take_left]
section
variable {prog : Program} {w : World} {A : Around} {E : Value → Shared → Prop} {s : Shared}
theorem replace_tx {x y z : List Nat} {c : Nat} {Y Z : PySem.Str} {t u v : Tok} {Q : Value → Shared → Prop} (hY : Y = tx [c]) (hZ : Z = tx z) (hz : z.length ≤ 10) (hx : x.length ≤ 100000) (hu : u ≠ 0) (hv : v ≠ 0) (huv : u ≠ v) (nb : NoneBooked s.heap) (hy : swp c z x = y)
    (h : ∀ t' k, Q (.str (tx y) t') { s with toks := k }) : wpAny (model prog w) A (call (.builtin "str.replace") [.str (tx x) t, .str Y u, .str Z v]) Q E s := by
  subst hY hZ hy
  refine SC.replaceA hu hv huv ?_ (fun t' k => ?_) nb
  · rw [tx_length, tx_length]
    have := Nat.mul_le_mul (show x.length + 1 ≤ 100001 by omega) hz
    omega
  · rw [replace_swp]
    exact h t' k
end
end
section
open PySem.Spec
theorem strs_carried : ∀ {vs : List Value} {ys : List PySem.Str}, StrsAre vs ys → CarriedAll vs (ys.map PyData.str)
  | _, _, .nil => .nil
  | _, _, .cons _ t r => .cons (.str _ t) (strs_carried r)
theorem strs_lay : ∀ ns : List PySem.Str, (∀ y ∈ ns, PyData.strOk y = true) → PyData.canLayAll0 (ns.map PyData.str) = true
  | [], _ => rfl
  | a :: r, h => by simp [PyData.canLayAll0, PyData.canLay0, strs_lay r fun y hy => h y (List.mem_cons_of_mem _ hy), h a (List.mem_cons_self ..)]
theorem strs_depth : ∀ ns : List PySem.Str, PyData.depthAll (ns.map PyData.str) = 0
  | [] => rfl
  | _ :: r => by simp [PyData.depthAll, PyData.depth, strs_depth r]
theorem strs_shaped (ns : List PySem.Str) (h : ∀ y ∈ ns, PyData.strOk y = true) : SeqAt.shaped (.list (ns.map PyData.str)) = true := by
  simp [SeqAt.shaped, PyData.canLay0, PyData.depth, strs_lay ns h, strs_depth]
theorem strs_sameAll : ∀ ns : List PySem.Str, PySem.Spec.sameAll (ns.map PyData.str) (ns.map PyData.str) = true
  | [] => by simp [PySem.Spec.sameAll]
  | a :: r => by
    simp only [List.map_cons, PySem.Spec.sameAll, PySem.Spec.same, strs_sameAll r]
    simp
section
variable {prog : Program} {w : World} {A : Around} {E : Value → Shared → Prop} {s : Shared}
theorem ne_strs_same {a b : Addr} {xs ys : List Value} {ns : List PySem.Str} {Q : Value → Shared → Prop} (ha : s.heap.IsList a xs.toArray) (hb : s.heap.IsList b ys.toArray) (hi : StrsAre xs ns) (hj : StrsAre ys ns) (hok : ∀ y ∈ ns, PyData.strOk y = true) (hu : A.units + 64 < cLine) (h : Q (.bool false) s) :
    wpAny (model prog w) A (compareOp .NotEq (.ref a) (.ref b)) Q E s :=
  ne_dataH_same (reads_newData ha (strs_carried hi)) (reads_newData hb (strs_carried hj)) (strs_shaped _ hok) (strs_shaped _ hok) hu (SeqAt.noMix_of_shape (.list .str) rfl _ _ (list_map_has fun _ => rfl) (list_map_has fun _ => rfl)) (by
    have e : PySem.Spec.same (.list (ns.map PyData.str)) (.list (ns.map PyData.str)) = true := by
      simp only [PySem.Spec.same]; exact strs_sameAll ns
    rw [e]; exact h)
theorem ne_ints_same {a b : Addr} {xs ys : List Value} {ns : List Int} {Q : Value → Shared → Prop} (ha : s.heap.IsList a xs.toArray) (hb : s.heap.IsList b ys.toArray) (hi : IntsAre xs ns) (hj : IntsAre ys ns) (hu : A.units + 64 < cLine) (h : Q (.bool false) s) :
    wpAny (model prog w) A (compareOp .NotEq (.ref a) (.ref b)) Q E s := ke_ne_ints ha hb hi hj hu (by rw [decide_eq_true rfl]; exact h)
end
end
section
variable {prog : Program} {w : World} {A : Around} {E : Value → Shared → Prop} {env : Env}
/-- a comprehension over enumerate(list) -/
theorem lc_enum {elt iter : Expr} {x y : PySem.Str} {px py tp : Pos} {kt : Nat} {scope : Scope} {cl : List (PySem.Str × Addr)} {pos : Pos} {s₀ : Shared} {h₁ : Heap} {t₁ : Nat} {e it l : Addr} {items : Array Value} {RR : Value → Addr → Result → Shared → Prop}
    (hh : A.handled = none) (he : IsEnum h₁ e it 0 .none) (hit : h₁.IsListIter it l 0) (hl : h₁.IsList l items) (hei : e ≠ it) (hle : l ≠ e) (hli : l ≠ it) (hext : Ext s₀.heap h₁) (he0 : s₀.heap.get? e = none) (hi0 : s₀.heap.get? it = none)
    (Rel : Nat → List Value → Prop) (hn : items.size ≤ 1000000) (hu1 : ∀ it acc env, A.under (.compLoop (.ListComp elt [⟨.Tuple [.Name x px, .Name y py] kt tp, iter, [], 0⟩] scope pos) 0 it acc env) = A) (hu2 : ∀ it acc env, A.under (.compStart (.ListComp elt [⟨.Tuple [.Name x px, .Name y py] kt tp, iter, [], 0⟩] scope pos) 0 it acc env) = A)
    (hcell : ∀ y ∈ scope.names, y.2 ≠ .cell) (hkind : scope.kind = .function) (hx : scope.names.lookup x = some .local) (hy : scope.names.lookup y = some .local) (hxy : x ≠ y)
    (rlen : ∀ i ys, Rel i ys → ys.length ≤ i) (r0 : Rel 0 [])
    (elem : ∀ C s m i t v ys, i < items.size → items[i]? = some v → Ext s₀.heap s.heap → s.heap.Ns C m → m x = some (.int (i : Int) t) → m y = some v → Rel i ys →
      wpAny (model prog w) A (eval elt (compEnvC scope cl C env)) (fun z s' => Rel (i + 1) (ys ++ [z]) ∧ ∃ h' tk, s' = { s with heap := h', toks := tk } ∧ Ext s.heap h') noE s)
    (hRR : ∀ D C h' tk m' ys, s₀.heap.get? C = none → s₀.heap.get? D = none → D ≠ C → h'.Ns C m' → h'.get? D = some (LCg.lst ys) → Rel items.size ys → Ext s₀.heap h' → RR (.ref D) C (.ok .next) { s₀ with heap := h', toks := tk }) :
    wpAny (model prog w) A (pyIter (.ref e)) (fun it s₂ => wpAny (model prog w) A (newList []) (fun acc s₃ => wpAny (model prog w) A (newFunctionEnv scope env.globals cl [] env.qual none .none (some env)) (fun cenv s₄ =>
      codeAny (model prog w) A (.compStart (.ListComp elt [⟨.Tuple [.Name x px, .Name y py] kt tp, iter, [], 0⟩] scope pos) 0 it acc { cenv with scope := relabel scope env }) (RR acc cenv.locals) s₄) E s₃) E s₂) E { s₀ with heap := h₁, toks := t₁ } := by
  have W := WalksT.enumerate (prog := prog) (w := w) hh e it l hei hle hli items
  have hst0 : (∃ old, IsEnum h₁ e it ((0 : Nat) : Int) old) ∧ h₁.IsListIter it l 0 ∧ h₁.IsList l items := ⟨⟨_, he⟩, hit, hl⟩
  refine W.self 0 _ _ _ hst0 ?_
  refine wpAny_newObj_type (wpAny_newFunctionEnv hcell (by intro y hy; simp at hy) (fun h₂ hns₂ hsb₂ => ?_) hkind)
  dsimp only at hns₂ hsb₂ ⊢
  obtain ⟨H2, hH2⟩ : ∃ H2, H2 = h₁.push { cls := .type "list", dict := none, data := .seq ([] : List Value).toArray } := ⟨_, rfl⟩
  rw [← hH2] at hns₂ hsb₂ ⊢
  have hC0 : H2.objs.size = h₁.objs.size + 1 := by rw [hH2, Heap.size_push]
  obtain ⟨C, hCe⟩ : ∃ C : Nat, C = H2.objs.size := ⟨_, rfl⟩
  obtain ⟨D, hDe⟩ : ∃ D : Nat, D = h₁.objs.size := ⟨_, rfl⟩
  rw [← hCe] at hns₂ hsb₂ hC0 ⊢
  rw [← hDe] at hC0 ⊢
  have below : ∀ b : Nat, b < h₁.objs.size → b ≠ C ∧ b ≠ D := fun b hb => by omega
  have ltE : e < h₁.objs.size := Heap.lt_size he
  have ltI : it < h₁.objs.size := by obtain ⟨o, ho, _⟩ := hit; exact Heap.lt_size ho
  have ltL : l < h₁.objs.size := by obtain ⟨o, ho, _⟩ := hl; exact Heap.lt_size ho
  have hfpC : ∀ b ∈ [e, it, l], b ≠ C ∧ b ≠ D := fun b hb => by
    simp only [List.mem_cons, List.not_mem_nil, or_false] at hb
    rcases hb with rfl | rfl | rfl
    · exact below _ ltE
    · exact below _ ltI
    · exact below _ ltL
  have hCD : C ≠ D := by omega
  have hDle : h₁.objs.size ≤ D := Nat.le_of_eq hDe.symm
  have hCle : h₁.objs.size ≤ C := by omega
  have n0 : ∀ a, h₁.objs.size ≤ a → s₀.heap.get? a = none := fun a ha => by
    cases eb : s₀.heap.get? a with
    | none => rfl
    | some o => exact absurd (Heap.lt_size (hext a o eb)) (Nat.not_lt.mpr ha)
  have old : ∀ b o, h₁.get? b = some o → h₂.get? b = some o := fun b o eb => hsb₂.extBut b o (below b (Heap.lt_size eb)).1 (Heap.get?_push_of_some _ (by rw [hH2]; exact Heap.get?_push_of_some _ eb))
  have hacc : h₂.get? D = some (LCg.lst []) := by
    refine hsb₂.extBut _ _ (Ne.symm hCD) (Heap.get?_push_of_some _ ?_)
    rw [hH2, hDe]
    exact Heap.get?_push_size _ rfl
  have hst2 := W.frame 0 _ h₂ hst0 fun b _ o eb => old b o eb
  have notw : ∀ b, s₀.heap.get? b ≠ none → b ∉ [e, it] := fun b hb hm => by
    simp only [List.mem_cons, List.not_mem_nil, or_false] at hm
    rcases hm with rfl | rfl
    · exact hb he0
    · exact hb hi0
  have loop : codeAny (model prog w) A (.compLoop (.ListComp elt [⟨.Tuple [.Name x px, .Name y py] kt tp, iter, [], 0⟩] scope pos) 0 (.ref e) (.ref D) (compEnvC scope cl C env)) (RR (.ref D) C) { s₀ with heap := h₂, toks := t₁ + ([] : List (PySem.Str × Value)).length } := by
    refine loop_ok (p := iter.pos) (target := .Tuple [.Name x px, .Name y py] kt tp) (ifs := []) (B := emitB elt (.ref D) (compEnvC scope cl C env)) rfl rfl (hu1 _ _ _)
      (fun i s => ∃ h tk ys m, s = { s₀ with heap := h, toks := tk } ∧ ((∃ old, IsEnum h e it ((i : Nat) : Int) old) ∧ h.IsListIter it l i ∧ h.IsList l items) ∧ Ext s₀.heap h ∧ h.Ns C m ∧ h.get? D = some (LCg.lst ys) ∧ Rel i ys ∧ C < h.objs.size) items.size ?_ ?_
      ⟨h₂, _, [], _, rfl, hst2, fun b o eb => old b o (hext b o eb), hns₂, hacc, r0, hns₂.lt⟩
    · rintro i s hi ⟨h, tk, ys, m, rfl, hst', hold, hn', hacc', hR, hClt⟩
      refine W.item i _ _ _ hi hst' fun T vals h' tk' hP hTle hT hMid hk => ?_
      obtain ⟨ti, xv, hxv, rfl⟩ := hP
      refine ⟨.ref T, rfl, ?_⟩
      refine W.go _ _ _ i T _ _ _ hMid fun h₃ hst₃ hk₃ => ?_
      have hCw : C ∉ [e, it] := fun hm => by
        simp only [List.mem_cons, List.not_mem_nil, or_false] at hm
        rcases hm with q | q
        · exact (hfpC e (by simp)).1 q.symm
        · exact (hfpC it (by simp)).1 q.symm
      have hDw : D ∉ [e, it] := fun hm => by
        simp only [List.mem_cons, List.not_mem_nil, or_false] at hm
        rcases hm with q | q
        · exact (hfpC e (by simp)).2 q.symm
        · exact (hfpC it (by simp)).2 q.symm
      have hn₃ : h₃.Ns C m := (hn'.at' fun o eb => hk C o hCw eb).at' fun o eb => hk₃ C o hCw eb
      have hacc₃ : h₃.get? D = some (LCg.lst ys) := hk₃ D _ hDw (hk D _ hDw hacc')
      have hold₃ : Ext s₀.heap h₃ := fun b o eb => hk₃ b o (notw b (by rw [eb]; simp)) (hk b o (notw b (by rw [eb]; simp)) (hold b o eb))
      have hTw : T ∉ [e, it] := W.apart i T h' hMid
      have hT₃ : IsTup h₃ T #[.int i ti, xv] := by
        obtain ⟨o, ho, r⟩ := hT
        exact ⟨o, hk₃ T o hTw ho, r⟩
      refine bind_xy hh hx hy hkind hn₃ hT₃ fun h₄ tk₄ hn₄ hk₄ => ?_
      refine wpAny_tests_nil ?_
      simp only [if_true]
      have hC0' : s₀.heap.get? C = none := n0 C hCle
      have hD0' : s₀.heap.get? D = none := n0 D hDle
      have hold₄ : Ext s₀.heap h₄ := fun b o eb => hk₄ b o (fun q => by rw [q, hC0'] at eb; cases eb) (hold₃ b o eb)
      have hacc₄ := hk₄ D _ (Ne.symm hCD) hacc₃
      refine wpAny_bind (wpAny_mono (elem C { s₀ with heap := h₄, toks := tk₄ } _ i ti xv ys hi hxv hold₄ hn₄ (by simp [hxy]) (by simp) hR) (fun z s₅ h₅ => ?_) fun _ _ x => x)
      obtain ⟨hR₅, h₅, tk₅, rfl, hk₅⟩ := h₅
      have hlen := rlen i ys hR
      refine wpAny_bind (append_at (hk₅ D _ hacc₄) (fun h₆ hs₆ hD₆ => wpAny_pure ?_) ?_)
      · refine ⟨h₆, tk₅, ys ++ [z], _, rfl, ?_, fun b o eb => hs₆.extBut b o (fun q => by rw [q, hD0'] at eb; cases eb) (hk₅ b o (hold₄ b o eb)), (hn₄.keeps hk₅).sameBut hs₆ hCD, hD₆.trans (congrArg some (LCg.lst_snoc ys z)), hR₅, ?_⟩
        · exact W.frame _ _ _ hst₃ fun b hb o eb => hs₆.extBut b o (hfpC b hb).2 (hk₅ b o (hk₄ b o (hfpC b hb).1 eb))
        · exact ((hn₄.keeps hk₅).sameBut hs₆ hCD).lt
      · rw [List.size_toArray, PySem.sizeLine_eq]
        omega
    · rintro s ⟨h, tk, ys, m, rfl, hst', hold, hn', hacc', hR, hClt⟩
      refine W.done _ _ _ hst' fun h' tk' hk => ⟨rfl, ?_⟩
      have hCw : C ∉ [e, it] := fun hm => by
        simp only [List.mem_cons, List.not_mem_nil, or_false] at hm
        rcases hm with q | q
        · exact (hfpC e (by simp)).1 q.symm
        · exact (hfpC it (by simp)).1 q.symm
      have hDw : D ∉ [e, it] := fun hm => by
        simp only [List.mem_cons, List.not_mem_nil, or_false] at hm
        rcases hm with q | q
        · exact (hfpC e (by simp)).2 q.symm
        · exact (hfpC it (by simp)).2 q.symm
      exact hRR D C h' tk' m ys (n0 C hCle) (n0 D hDle) (Ne.symm hCD) (hn'.at' fun o eb => hk C o hCw eb) (hk D _ hDw hacc') hR fun b o eb => hk b o (notw b (by rw [eb]; simp)) (hold b o eb)
  exact start_ok (g := ⟨.Tuple [.Name x px, .Name y py] kt tp, iter, [], 0⟩) rfl rfl rfl (hu2 _ _ _) rfl loop (W.self 0 _ _ _ hst2 ⟨rfl, loop⟩)
end
theorem enc1_lt {c : Nat} (hc : c < 256) : ∀ x ∈ enc1 c, x < 256 := by
  intro x hx'
  unfold enc1 at hx'
  split at hx'
  · rw [List.mem_singleton.mp hx']; exact hc
  · split at hx'
    · rw [List.mem_singleton.mp hx']; decide
    · simp only [List.mem_cons, List.not_mem_nil, or_false] at hx'
      have hb : ∀ d, d < 16 → hx d < 256 := fun d hd => by unfold hx; split <;> omega
      rcases hx' with rfl | rfl | rfl
      · decide
      · exact hb _ (by omega)
      · exact hb _ (by omega)
theorem wr_lt {l nm : List Nat} (hl : ∀ c ∈ l, c < 256) (hn : ∀ c ∈ nm, c < 256) : ∀ c ∈ wr l nm, c < 256 := by
  intro c hc
  unfold wr at hc
  split at hc
  · cases hc
  · rcases List.mem_append.mp hc with h | h
    · rcases List.mem_append.mp h with h | h
      · exact pre_lt hn c h
      · obtain ⟨d, hd, hx'⟩ := List.mem_flatMap.mp h
        exact enc1_lt (hl d hd) c hx'
    · exact tail_lt c h
theorem told_lt {l nm : List Nat} (hne : l ≠ []) (hl : ∀ c ∈ l, c < 256) (hn : ∀ c ∈ nm, c < 256) : ∀ r, ∀ c ∈ told l nm r, c < 256
  | 0 => by rw [told_zero]; exact hl
  | r + 1 => by rw [told_succ hne hl hn]; exact wr_lt (told_lt hne hl hn r) hn
theorem wr_len (l nm : List Nat) : (wr l nm).length ≤ 3 * l.length + nm.length + 7 := by
  unfold wr
  split
  · simp
  · have := enc_len l
    rw [List.length_append, List.length_append]
    simp only [pre, List.length_append, List.length_cons, List.length_nil]
    omega
theorem told_len {l nm : List Nat} (hne : l ≠ []) (hl : ∀ c ∈ l, c < 256) (hn : ∀ c ∈ nm, c < 256) (h4 : l.length ≤ 4) (h10 : nm.length ≤ 10) : ∀ r, r ≤ 4 → (told l nm r).length ≤ 2000 := by
  have step : ∀ r, (told l nm (r + 1)).length ≤ 3 * (told l nm r).length + 17 := fun r => by
    rw [told_succ hne hl hn]
    have := wr_len (told l nm r) nm
    omega
  have b0 : (told l nm 0).length ≤ 4 := by rw [told_zero]; exact h4
  have b1 : (told l nm 1).length ≤ 3 * (told l nm 0).length + 17 := step 0
  have b2 : (told l nm 2).length ≤ 3 * (told l nm 1).length + 17 := step 1
  have b3 : (told l nm 3).length ≤ 3 * (told l nm 2).length + 17 := step 2
  have b4 : (told l nm 4).length ≤ 3 * (told l nm 3).length + 17 := step 3
  intro r hr
  match r, hr with
  | 0, _ => omega
  | 1, _ => omega
  | 2, _ => omega
  | 3, _ => omega
  | 4, _ => omega
section
variable {prog : Program} {w : World} {A : Around} {E : Value → Shared → Prop} {s : Shared} {env : Env}
theorem sum_lst {D : Addr} {vs : List Value} {ns : List Int} {Q : Value → Shared → Prop} (hh : A.handled = none) (hD : s.heap.IsList D vs.toArray) (hI : IntsAre vs ns) (h : ∀ v h' tk t', Ext s.heap h' → Q (.int v t') { s with heap := h', toks := tk }) :
    wpAny (model prog w) A (call (.builtin "sum") [.ref D]) Q E s := by
  refine call_sum_walkG (wpAny_pyIter_list hD ?_)
  have hlt : D < s.heap.objs.size := by obtain ⟨o, ho, _⟩ := hD; exact Heap.lt_size ho
  have W := Walks.list (prog := prog) (w := w) (A := A.in1) hh s.heap.objs.size D (Nat.ne_of_lt hlt) vs.toArray
  refine ⟨_, _, _, _, _, _, fun i => (ns[i]?).getD 0, rfl, W, ⟨⟨_, Heap.get?_push_size _ rfl, rfl, rfl⟩, ?_⟩, ?_, ?_, ?_⟩
  · obtain ⟨o, ho, r⟩ := hD
    exact ⟨o, Heap.get?_push_of_some _ ho, r⟩
  · intro b hb
    rw [Heap.size_push]
    simp only [List.mem_cons, List.not_mem_nil, or_false] at hb
    rcases hb with rfl | rfl
    · exact Nat.lt_succ_self _
    · exact Nat.lt_succ_of_lt hlt
  · intro i v hv
    have hv' : vs[i]? = some v := by simpa using hv
    obtain ⟨n, t, rfl, hn⟩ := IntsAre.at hI i v hv'
    exact ⟨t, by show Value.int n t = Value.int ((ns[i]?).getD 0) t; rw [hn]; rfl⟩
  · intro h' tk t' hk
    refine h _ _ _ _ fun b o eb => hk b o ?_ (Heap.get?_push_of_some _ eb)
    intro hm
    rw [List.mem_singleton.mp hm] at eb
    exact Nat.lt_irrefl _ (Heap.lt_size eb)
theorem item_lst {value slice : Expr} {D : Addr} {ys : List Value} {i : Nat} {k : Int} {x : Value} {u : Tok} {Q : Value → Shared → Prop} (hD : s.heap.IsList D ys.toArray) (hk : k = (i : Int)) (hi : i < 1000000) (hx : ys[i]? = some x) (h : Q x s)
    (hs : subscripted slice false (.ref D) (.int k u) = operate [.ref D, .int k u] (getItem (.ref D) (.int k u))) :
    wpAny (model prog w) A (subscriptTail value slice (.ref D) (.int k u)) Q E s := by
  subst hk
  exact tail_any hD.typeIs slot_list_getitem.lookup (wpAny_getItem_list hD (by omega) (by omega) (by simpa using hx) h) hs
theorem last_lst {value slice : Expr} {D : Addr} {ys : List Value} {x : Value} {u : Tok} {Q : Value → Shared → Prop} (hD : s.heap.IsList D (ys ++ [x]).toArray) (h : Q x s)
    (hs : subscripted slice false (.ref D) (.int (-1) u) = operate [.ref D, .int (-1) u] (getItem (.ref D) (.int (-1) u))) :
    wpAny (model prog w) A (subscriptTail value slice (.ref D) (.int (-1) u)) Q E s := by
  refine tail_any hD.typeIs slot_list_getitem.lookup (wpAny_getItem_list_neg hD (by decide) (by simp; omega) (by decide) ?_ h) hs
  have e : (-1 + ((ys ++ [x]).toArray.size : Int)).toNat = ys.length := by simp; omega
  rw [e]
  simp
theorem mul_lst {D : Addr} {ys : List Value} {c : Nat} {k : Nat} {x : Int} {u : Tok} {Q : Value → Shared → Prop} (hD : s.heap.get? D = some { cls := .type "list", dict := none, data := .seq ys.toArray c, slots := #[] }) (hk : x = (k : Int)) (hs : k ≤ 100) (hy : ys.length ≤ 100)
    (h : ∀ D' h', h'.IsList D' (List.replicate k ys).flatten.toArray → Ext s.heap h' → s.heap.objs.size ≤ D' → Q (.ref D') { s with heap := h' }) :
    wpAny (model prog w) A (binaryOp .Mult (.ref D) (.int x u)) Q E s := by
  have hkn : x.toNat = k := by omega
  have hsz : ys.toArray.size * x.toNat ≤ 2 ^ 24 := by
    have := Nat.mul_le_mul hy hs
    rw [hkn]
    simp
    omega
  refine wpAny_binaryOp_repeat_ref (T := "list") (U := "int") (by decide) ⟨_, hD, rfl⟩ (fun s' => typeIs_int s' x u) noFill_list_mul F.fills_int_mul F.slot_int_rmul repeat_list F.slot_int_index.lookup
    (call_meets F.slot_int_rmul (typeIs_int s x u) F.entry_int_rmul (F.args_int_rmul_2 _ _) (int___rmul___int_list x u D ys.toArray c)
      ⟨hD, rfl, ⟨_, hD, rfl⟩, call_meets F.slot_list_mul ⟨_, hD, rfl⟩ F.entry_list_mul (F.args_list_mul_2 _ _)
        (AutoListH.list___mul___list_int_3 D ys.toArray c x u (by simp [Builtin.List.listFitsIndex]; omega) (by omega) (by simp [Builtin.List.listTooLong, sizeLine]; omega))
        ⟨hD, ?_⟩⟩)
  show Q (.ref s.heap.objs.size) { s with heap := s.heap.push { cls := Value.type "list", data := Data.seq (List.foldl (fun x1 x2 => x1 ++ x2) #[] (List.replicate (if ys.toArray.isEmpty = true then 0 else x.toNat) ys.toArray)) } }
  rw [listMul_foldl_if, hkn]
  exact h _ _ ⟨_, Heap.get?_push_size _ rfl, rfl, _, rfl⟩ (fun _ _ eb => Heap.get?_push_of_some _ eb) (Nat.le_refl _)
end
theorem list_cell {h : Heap} {D c : Addr} {ys : Array Value} {v : Option Value} (hD : h.IsList D ys) (hc : h.IsCell c v) : D ≠ c := by
  rintro rfl
  obtain ⟨o, ho, _, n, hd⟩ := hD
  obtain ⟨o', ho', r⟩ := hc
  rw [ho] at ho'
  cases ho'
  rw [hd] at r
  cases r
theorem list_ns {h : Heap} {D L : Addr} {ys : Array Value} {m : PySem.Str → Option Value} (hD : h.IsList D ys) (hn : h.Ns L m) : D ≠ L := by
  rintro rfl
  obtain ⟨o, ho, _, n, hd⟩ := hD
  obtain ⟨o', es, ep, ho', hd', _⟩ := hn
  rw [ho] at ho'
  cases ho'
  rw [hd] at hd'
  cases hd'
section
variable {prog : Program} {w : World} {A : Around} {E : Value → Shared → Prop} {s : Shared} {env : Env}
theorem stC {g : Heap} {L c : Addr} {m : PySem.Str → Option Value} {x : PySem.Str} {v₀ : Option Value} {v : Value} {Q : Unit → Shared → Prop} (F : Fr g L s.heap m) (hv : s.heap.IsCell c v₀) (hcL : L ≠ c) (hgc : g.get? c = none) (hx : env.kindOf x = some .cell) (hc : env.cells.lookup x = some c) (hk : env.scope.kind = .function)
    (h : ∀ h', Fr g L h' m → h'.IsCell c (some v) → (∀ b o, b ≠ c → s.heap.get? b = some o → h'.get? b = some o) → Q () { s with heap := h' }) :
    wpAny (model prog w) A (storeName env x v) Q E s := by
  refine wpAny_storeName_cell hk hx hc hv fun h' hc' hs => h h' ⟨F.ns.sameBut hs hcL, fun b o eb => hs.extBut b o (fun q => by rw [q, hgc] at eb; cases eb) (F.keep b o eb), F.above⟩ hc' hs.extBut
end
section
variable {prog : Program} {w : World} {A : Around} {E : Value → Shared → Prop} {s : Shared} {env : Env}
theorem lst_new {elts : List Expr} {pos : Pos} {Q : Value → Shared → Prop}
    (h : wpAny (model prog w) A (spliced (backTo pos (starEach elts env))) (fun vs s₁ => vs.length ≤ 1000 ∧ ∀ D h', h'.get? D = some { cls := .type "list", dict := none, data := .seq vs.toArray, slots := #[] } → Ext s₁.heap h' → s₁.heap.objs.size ≤ D → Q (.ref D) { s₁ with heap := h' }) E s) :
    wpAny (model prog w) A (eval (.List elts pos) env) Q E s :=
  wpAny_List (wpAny_mono h (fun vs s₁ h₁ => ⟨by rw [PySem.sizeLine_eq]; have := h₁.1; omega, h₁.2 _ _ (Heap.get?_push_size _ rfl) (fun _ _ eb => Heap.get?_push_of_some _ eb) (Nat.le_refl _)⟩) fun _ _ e => e)
theorem lst_strs {elts : List Expr} {pos : Pos} {Q : Value → Shared → Prop} (xs : List PySem.Str)
    (h : wpAny (model prog w) A (spliced (backTo pos (starEach elts env))) (fun vs s₁ => StrsAre vs xs ∧ xs.length ≤ 1000 ∧ ∀ ys D h', StrsAre ys xs → h'.IsList D ys.toArray → Ext s₁.heap h' → s₁.heap.objs.size ≤ D → Q (.ref D) { s₁ with heap := h' }) E s) :
    wpAny (model prog w) A (eval (.List elts pos) env) Q E s :=
  lst_new (wpAny_mono h (fun vs s₁ h₁ => ⟨by rw [h₁.1.length]; exact h₁.2.1, fun D h' hD hk hle => h₁.2.2 vs D h' h₁.1 ⟨_, hD, rfl, _, rfl⟩ hk hle⟩) fun _ _ e => e)
theorem sl_lst3 {value st : Expr} {lower upper : Option Expr} {p pos : Pos} {Q : Value → Shared → Prop}
    (h : wpAny (model prog w) A (eval value env) (fun o s₁ => wpAny (model prog w) A (evalPart lower env) (fun vl s₂ => wpAny (model prog w) A (evalPart upper env) (fun vu s₃ => wpAny (model prog w) A (eval st env) (fun vs s₄ =>
      ∃ (D : Addr) (ys : List Value) (lo hi : Option Int) (k : Int), o = .ref D ∧ s₄.heap.IsList D ys.toArray ∧ IsPart vl lo ∧ IsPart vu hi ∧ IsPart vs (some k) ∧ k ≠ 0 ∧ ys.length ≤ 1000000 ∧ ∀ D' h', h'.IsList D' (slicePick ys.toArray lo hi (some k)) → Ext s₄.heap h' → Q (.ref D') { s₄ with heap := h' }) E s₃) E s₂) E s₁) E s)
    (ht : ∀ o r, letTemporaryGo value o r = pure ()) :
    wpAny (model prog w) A (eval (.Subscript value (.Slice lower upper (some st) p) pos) env) Q E s := by
  refine wpAny_Subscript_Slice_step (T := "list") list_getitem_lookup (wpAny_mono h (fun o s₁ h₁ => wpAny_Slice (wpAny_mono h₁ (fun vl s₂ h₂ => wpAny_mono h₂ (fun vu s₃ h₃ => ?_) fun _ _ e => e) fun _ _ e => e)) fun _ _ e => e) ht
  show wpAny _ _ (eval st env) _ _ _
  refine wpAny_mono h₃ (fun vs s₄ h₄ => ?_) fun _ _ e => e
  obtain ⟨D, ys, lo, hi, k, rfl, hD, hlo, hhi, hst, hk0, hx, hQ⟩ := h₄
  refine ⟨(hD.push _).typeIs, wpAny_getItem_list_slice (hD.push _) (Heap.IsSliceOf.new ..) hlo hhi hst (by simpa using hk0) ?_ (by rw [PySem.sizeLine_eq]; simp; omega)⟩
  exact hQ _ _ ⟨_, Heap.get?_push_size _ rfl, rfl, _, rfl⟩ (fun _ _ eb => Heap.get?_push_of_some _ (Heap.get?_push_of_some _ eb))
end
/-- signs made one by one -/
def TxR (i : Nat) (ys : List Value) : Prop := ∃ cs : List Nat, StrsAre ys ((cs.map fun c => [c]).map tx) ∧ cs.length = i ∧ ∀ c ∈ cs, c < 256
theorem TxR.snoc {i : Nat} {ys : List Value} {c : Nat} {t : Tok} (h : TxR i ys) (hc : c < 256) : TxR (i + 1) (ys ++ [.str (tx [c]) t]) := by
  obtain ⟨cs, hS, hl, hb⟩ := h
  refine ⟨cs ++ [c], ?_, by simp [hl], fun x hx' => ?_⟩
  · have := kct_snoc (t := t) (y := tx [c]) hS
    simpa using this
  · rcases List.mem_append.mp hx' with q | q
    · exact hb x q
    · rw [List.mem_singleton.mp q]; exact hc
theorem flat_one (cs : List Nat) : (cs.map fun c => [c]).flatten = cs := by
  induction cs with
  | nil => rfl
  | cons c cs ih => simp [ih]
theorem join_one {prog : Program} {w : World} {A : Around} {E : Value → Shared → Prop} {s : Shared} {x : PySem.Str} (hx : x = tx []) {D : Addr} {vs : List Value} {cs : List Nat} {t : Tok} {Q : Value → Shared → Prop} (hl : s.heap.IsList D vs.toArray) (hi : StrsAre vs ((cs.map fun c => [c]).map tx)) (hok : cs.length ≤ 1000) (h : ∀ t' k, Q (.str (tx cs) t') { s with toks := k }) :
    wpAny (model prog w) A (call (.builtin "str.join") [.str x t, .ref D]) Q E s := by
  refine join_tx hx hl hi (by rw [flat_one]; omega) fun t' k => ?_
  rw [flat_one]
  exact h t' k
theorem cut_upto {α : Type} {zs : List α} {q : Int} (h0 : 0 ≤ q) (h4 : zs.length = 4) : 1 ≤ (cutL zs none (some (1 + q))).length ∧ (cutL zs none (some (1 + q))).length ≤ 4 := by
  have e2 : kms_hi (some (1 + q)) zs.length = min (1 + q).toNat zs.length := by
    show (if 1 + q < 0 then zs.length - (-(1 + q)).toNat else min (1 + q).toNat zs.length) = _
    rw [if_neg (by omega)]
  unfold cutL
  rw [e2, h4]
  show 1 ≤ ((zs.drop 0).take (min (1 + q).toNat 4 - 0)).length ∧ _ ≤ 4
  simp only [List.drop_zero, Nat.sub_zero, List.length_take]
  omega
structure NmOk (nm : List Nat) : Prop where
  len : nm.length ≤ 10
  lt : ∀ c ∈ nm, c < 256
  a32 : 32 ∉ nm
  a61 : 61 ∉ nm
  a63 : 63 ∉ nm
theorem name_at {q : Int} (h0 : 0 ≤ q) (h4 : q < 4) (a b c d : Tok) : ∃ nm tn, NmOk nm ∧ ([Value.str (PySem.Str.ofString "Utf-8") a, Value.str (PySem.Str.ofString "iso-8859-1") b, Value.str (PySem.Str.ofString "US_ascii") c, Value.str (PySem.Str.ofString "a.b:c") d] : List Value)[q.toNat]? = some (.str (tx nm) tn) := by
  have h : q.toNat = 0 ∨ q.toNat = 1 ∨ q.toNat = 2 ∨ q.toNat = 3 := by omega
  rw [lit_n0, lit_iso, lit_n2, lit_n3]
  rcases h with e | e | e | e <;> rw [e]
  · exact ⟨_, _, ⟨by decide, by decide, by decide, by decide, by decide⟩, rfl⟩
  · exact ⟨_, _, ⟨by decide, by decide, by decide, by decide, by decide⟩, rfl⟩
  · exact ⟨_, _, ⟨by decide, by decide, by decide, by decide, by decide⟩, rfl⟩
  · exact ⟨_, _, ⟨by decide, by decide, by decide, by decide, by decide⟩, rfl⟩
theorem strs_get {vs : List Value} {xs : List PySem.Str} (h : StrsAre vs xs) : ∀ (i : Nat) x, xs[i]? = some x → ∃ t, vs[i]? = some (.str x t) := by
  induction h with
  | nil => intro i x e; simp at e
  | cons y u _ ih =>
    intro i x e
    cases i with
    | zero => exact ⟨u, by simpa using e⟩
    | succ i => simpa using ih i x (by simpa using e)
def nameL : List PySem.Str := [PySem.Str.ofString "Utf-8", PySem.Str.ofString "iso-8859-1", PySem.Str.ofString "US_ascii", PySem.Str.ofString "a.b:c"]
theorem name_of {ys : List Value} {q : Int} (hS : StrsAre ys nameL) (h0 : 0 ≤ q) (h4 : q < 4) : ∃ nm tn, NmOk nm ∧ ys[q.toNat]? = some (.str (tx nm) tn) := by
  have key : ∃ nm, NmOk nm ∧ nameL[q.toNat]? = some (tx nm) := by
    have h : q.toNat = 0 ∨ q.toNat = 1 ∨ q.toNat = 2 ∨ q.toNat = 3 := by omega
    unfold nameL
    rw [lit_n0, lit_iso, lit_n2, lit_n3]
    rcases h with e | e | e | e <;> rw [e]
    · exact ⟨_, ⟨by decide, by decide, by decide, by decide, by decide⟩, rfl⟩
    · exact ⟨_, ⟨by decide, by decide, by decide, by decide, by decide⟩, rfl⟩
    · exact ⟨_, ⟨by decide, by decide, by decide, by decide, by decide⟩, rfl⟩
    · exact ⟨_, ⟨by decide, by decide, by decide, by decide, by decide⟩, rfl⟩
  obtain ⟨nm, hn, hg⟩ := key
  obtain ⟨tn, ht⟩ := strs_get hS _ _ hg
  exact ⟨nm, tn, hn, ht⟩
def DrR (i : Nat) (ys : List Value) : Prop := ∃ ns, IntsAre ys ns ∧ ns.length = i ∧ ∀ n ∈ ns, 0 ≤ n ∧ n < 1000000000000
theorem DrR.snoc {i : Nat} {ys : List Value} {n : Int} {t : Tok} (h : DrR i ys) (h0 : 0 ≤ n) (h1 : n < 1000000000000) : DrR (i + 1) (ys ++ [.int n t]) := by
  obtain ⟨ns, hI, hl, hb⟩ := h
  refine ⟨ns ++ [n], hI.append (.cons _ _ .nil), by simp [hl], fun x hx' => ?_⟩
  rcases List.mem_append.mp hx' with q | q
  · exact hb x q
  · rw [List.mem_singleton.mp q]; exact ⟨h0, h1⟩

/-- what a constant tuple gives -/
theorem src_tuple {prog : Program} {w : World} {A : Around} {s₁ : Shared} {l : Addr} {ys : List Value} (hh : A.handled = none) (hl : s₁.heap.IsTuple l ys.toArray) : Src prog w A (.ref l) ys.length (fun i v => ys[i]? = some v) liveT s₁ := by
  intro Q E h
  refine wpAny_pyIter_tuple hl ?_
  have hlt : l < s₁.heap.objs.size := by obtain ⟨o, ho, _⟩ := hl; exact Heap.lt_size ho
  have W := Walks.tuple (prog := prog) (w := w) hh s₁.heap.objs.size l (Nat.ne_of_lt hlt) ys.toArray
  have e : ys.toArray.size = ys.length := by simp
  rw [e] at W
  refine h _ _ _ _ ⟨W.sub, W.frame, fun i s Q E hi hs hQ => W.item i s Q E hi hs fun v h' tk hP => hQ v h' tk (by simpa using hP), W.done, W.self⟩ ⟨⟨_, Heap.get?_push_size _ rfl, rfl, rfl⟩, ?_⟩ (fun b hb => ?_) (fun b o eb => Heap.get?_push_of_some _ eb) (fresh_none (Nat.le_refl _)) (fun i h hst => let ⟨o, ho, _⟩ := hst.1; ⟨o, ho⟩) (fun b hb => by
    simp only [List.mem_cons, List.not_mem_nil, or_false] at hb
    rcases hb with rfl | rfl
    · exact .inl rfl
    · exact .inr rfl)
  · obtain ⟨o, ho, r⟩ := hl
    exact ⟨o, Heap.get?_push_of_some _ ho, r⟩
  · rw [Heap.size_push]
    simp only [List.mem_cons, List.not_mem_nil, or_false] at hb
    rcases hb with rfl | rfl
    · exact Nat.lt_succ_self _
    · exact Nat.lt_succ_of_lt hlt
theorem src_range15 {prog : Program} {w : World} {A : Around} {s₁ : Shared} {r : Addr} {t u v : Tok} (hh : A.handled = none) (hr : IsRange s₁.heap r 1 5 1 t u v) : Src prog w A (.ref r) 4 (fun i v => ∃ t, v = .int ((i + 1 : Nat) : Int) t) liveT s₁ := by
  intro Q E h
  have hsz : Builtin.Range.rangeSize 1 5 1 = 4 := by decide
  refine wpAny_pyIter_range hr (small_one (by omega) (by omega) (by omega) (by omega)) ?_
  have W := Walks.range (prog := prog) (w := w) hh s₁.heap.objs.size 1 1 4
  refine h _ _ _ _ ⟨W.sub, W.frame, fun i s Q E hi hs hQ => W.item i s Q E hi hs fun v h' tk hP => hQ v h' tk ?_, W.done, W.self⟩ ?_ (fun b hb => ?_) (fun b o eb => Heap.get?_push_of_some _ eb) (fresh_none (Nat.le_refl _)) (fun _ _ st => ⟨_, st⟩) (fun b hb => .inl (List.mem_singleton.mp hb))
  · obtain ⟨t, rfl⟩ := hP
    exact ⟨t, by congr 1; push_cast; omega⟩
  · show IsRangeIter _ _ _ _ _
    rw [hsz]
    simpa using Heap.get?_push_size _ rfl
  · rw [List.mem_singleton.mp hb, Heap.size_push]; exact Nat.lt_succ_self _
theorem call_range2 {prog : Program} {w : World} {A : Around} {E : Value → Shared → Prop} {s : Shared} {a n : Int} {t t' : Tok} {Q : Value → Shared → Prop} (h : ∀ r u v x tk h', IsRange h' r a n 1 u v x → Ext s.heap h' → s.heap.get? r = none → Q (.ref r) { s with heap := h', toks := tk }) :
    wpAny (model prog w) A (call (.type "range") [.int a t', .int n t]) Q E s :=
  call_range_2 (h _ _ _ _ _ _ (Heap.get?_push_size _ rfl) (fun _ _ eb => Heap.get?_push_of_some _ eb) (fresh_none (Nat.le_refl _)))
/-- the block of law -/
noncomputable def lawQ : (b : List Stmt) ×' (sc : Scope) ×' (c : Addr) ×' (∀ P : Params, ∃ name qual params dV kV doc pm an ct oc od osl, (hd.heap_39 P).lookup 135 = some ⟨oc, od, .func (fnOf name qual params b sc dV kV doc pm an (.ref c) ct), osl⟩) :=
  ⟨_, _, _, fun P => ⟨_, _, _, _, _, _, _, _, _, _, _, _, by with_unfolding_all rfl⟩⟩
noncomputable def lawE (L : Addr) : Env := envOfC (PySem.Str.ofString "law") lawQ.2.1 L 135 (.ref lawQ.2.2.1)
/-- n texts by their place -/
def Ws (f : Nat → List Nat) (n : Nat) (us : List Value) : Prop := StrsAre us ((List.range n).map fun k => tx (f k))
theorem Ws.length {f : Nat → List Nat} {n : Nat} {us : List Value} (h : Ws f n us) : us.length = n := by
  have := StrsAre.length h
  simpa using this
theorem strs_at {us : List Value} {xs : List PySem.Str} (h : StrsAre us xs) : ∀ (i : Nat) v, us[i]? = some v → ∃ x t, xs[i]? = some x ∧ v = .str x t := by
  induction h with
  | nil => intro i x e; simp at e
  | cons y u _ ih =>
    intro i x e
    cases i with
    | zero => exact ⟨y, u, rfl, by simpa using e.symm⟩
    | succ i => simpa using ih i x (by simpa using e)
theorem Ws.at {f : Nat → List Nat} {n : Nat} {us : List Value} (h : Ws f n us) {i : Nat} {v : Value} (hv : us[i]? = some v) : ∃ t, v = .str (tx (f i)) t := by
  obtain ⟨x, t, hx, rfl⟩ := strs_at h i v hv
  have hi : i < n := by rw [← h.length]; exact (List.getElem?_eq_some_iff.mp hv).1
  rw [List.getElem?_map, List.getElem?_range hi] at hx
  exact ⟨t, by rw [← Option.some.inj hx]⟩
theorem Ws.snoc {f : Nat → List Nat} {n : Nat} {us : List Value} {t : Tok} (h : Ws f n us) : Ws f (n + 1) (us ++ [.str (tx (f n)) t]) := by
  unfold Ws at h ⊢
  rw [List.range_succ, List.map_append]
  exact kct_snoc h
def Ns (f : Nat → Int) (n : Nat) (us : List Value) : Prop := IntsAre us ((List.range n).map f)
theorem Ns.length {f : Nat → Int} {n : Nat} {us : List Value} (h : Ns f n us) : us.length = n := by
  have := IntsAre.length h
  simpa using this
theorem Ns.at {f : Nat → Int} {n : Nat} {us : List Value} (h : Ns f n us) {i : Nat} (hi : i < n) : ∃ t, us[i]? = some (.int (f i) t) := by
  have hv : us[i]? = some (us[i]'(by rw [h.length]; exact hi)) := by simp
  obtain ⟨k, t, e, hx⟩ := IntsAre.at h i _ hv
  rw [List.getElem?_map, List.getElem?_range hi] at hx
  exact ⟨t, by rw [hv, e, ← Option.some.inj hx]⟩
theorem Ns.snoc {f : Nat → Int} {n : Nat} {us : List Value} {t : Tok} (h : Ns f n us) : Ns f (n + 1) (us ++ [.int (f n) t]) := by
  unfold Ns at h ⊢
  rw [List.range_succ, List.map_append]
  exact IntsAre.append h (.cons _ _ .nil)
theorem Ns.snoc' {f : Nat → Int} {n : Nat} {us : List Value} {t : Tok} {x : Int} (h : Ns f n us) (e : x = f n) : Ns f (n + 1) (us ++ [.int x t]) := by
  subst e
  exact h.snoc
theorem Ns.nil {f : Nat → Int} : Ns f 0 [] := IntsAre.nil
theorem Ns.conv {f : Nat → Int} {n : Nat} {us : List Value} {xs : List Int} (h : Ns f n us) (e : (List.range n).map f = xs) : IntsAre us xs := e ▸ h
theorem big2 {i : Nat} (h : i < 2) : i < 1000000 := by omega
theorem big2' {i : Nat} (h : i < 2) : i + 1 < 1000000 := by omega
theorem big3 {i : Nat} (h : i < 3) : i + 1 < 1000000 := by omega
theorem big3' {i : Nat} (h : i < 3) : i + 1 + 1 < 1000000 := by omega
theorem items2 {i : Nat} {v : Value} {a b : Tok} (h : ([Value.int 0 a, Value.int 1 b] : List Value)[i]? = some v) : ∃ t, v = .int (i : Int) t := by
  match i, h with
  | 0, h => exact ⟨_, (Option.some.inj h).symm⟩
  | 1, h => exact ⟨_, (Option.some.inj h).symm⟩
  | n + 2, h => simp at h
theorem pair_at {i : Nat} {v : Value} {x y : Int} {a b : Tok} (h : ([Value.int x a, Value.int y b] : List Value)[i]? = some v) : ∃ r t, v = .int r t ∧ (r = x ∨ r = y) := by
  match i, h with
  | 0, h => exact ⟨_, _, (Option.some.inj h).symm, .inl rfl⟩
  | 1, h => exact ⟨_, _, (Option.some.inj h).symm, .inr rfl⟩
  | n + 2, h => simp at h
theorem draw_ok {r x y : Int} (h : r = x + 1 ∨ r = y + 1) (hx : 0 ≤ x ∧ x < 1000000000000) (hy : 0 ≤ y ∧ y < 1000000000000) : 0 ≤ r ∧ r ≤ 1000000000001 := by omega
theorem draw_neg {r : Int} (h : 0 ≤ r ∧ r ≤ 1000000000001) : -(2 ^ 64) < r - 2 ∧ r - 2 < 2 ^ 64 := by omega
theorem diff_ok {a b : Nat} (ha : a ≤ 2000) (hb : b ≤ 2000) : -(2 ^ 64) < ((a : Int) - (b : Int)) ∧ ((a : Int) - (b : Int)) < 2 ^ 64 := by omega
theorem twelve_ok {a : Nat} (ha : a ≤ 10) : -(2 ^ 64) < (12 + 2 * (a : Int)) ∧ (12 + 2 * (a : Int)) < 2 ^ 64 := by omega
theorem bne_of_eq {a b : Int} (h : a = b) : (a != b) = false := by
  subst h
  simp
theorem items3 {i : Nat} {v : Value} {a b c : Tok} (h : ([Value.int 1 a, Value.int 2 b, Value.int 3 c] : List Value)[i]? = some v) : ∃ t, v = .int ((i + 1 : Nat) : Int) t := by
  match i, h with
  | 0, h => exact ⟨_, (Option.some.inj h).symm⟩
  | 1, h => exact ⟨_, (Option.some.inj h).symm⟩
  | 2, h => exact ⟨_, (Option.some.inj h).symm⟩
  | n + 3, h => simp at h
section
variable {prog : Program} {w : World} {A : Around} {E : Value → Shared → Prop} {env : Env} {s : Shared}
/-- stored under a name that a comprehension reads -/
theorem lc_AC {C D c : Addr} {s₁ : Shared} {h' : Heap} {tk : Nat} {m' : PySem.Str → Option Value} {v₀ : Option Value} {ys : List Value} {y : PySem.Str} {py : Pos} {Q : Shared → Prop}
    (hy : env.kindOf y = some .cell) (hkf : env.scope.kind = .function) (hcl : env.cells.lookup y = some c)
    (hC : s₁.heap.get? C = none) (hD : s₁.heap.get? D = none) (hDC : D ≠ C) (hnC : h'.Ns C m') (hacc : h'.get? D = some (LCg.lst ys)) (hk : Ext s₁.heap h') (hv : s₁.heap.IsCell c v₀)
    (hQ : ∀ h'' tk', h''.get? D = some (LCg.lst ys) → D ≠ c → h''.IsCell c (some (.ref D)) → (∀ b o, b ≠ c → s₁.heap.get? b = some o → h''.get? b = some o) → Q { s₁ with heap := h'', toks := tk' }) :
    compPost (model prog w) A E (some (assign (.Name y py) env)) (fun _ s' => Q s') (.ref D) C (.ok .next) { s₁ with heap := h', toks := tk } := by
  have hLs : ∃ o, s₁.heap.get? c = some o := let ⟨o, ho, _⟩ := hv; ⟨o, ho⟩
  obtain ⟨oL, hoL⟩ := hLs
  have hLC : c ≠ C := fun q => by rw [q, hC] at hoL; cases hoL
  have hLD : c ≠ D := fun q => by rw [q, hD] at hoL; cases hoL
  show wpAny _ A (assign (.Name y py) env (.ref D)) _ _ _
  refine wpAny_assign_Name (wpAny_storeName_cell hkf hy hcl (cell_at hv (hk _)) fun h₂ hc₂ hs₂ => ?_)
  refine ⟨m', hnC.sameBut hs₂ (Ne.symm hLC), fun h₃ hs₃ => ?_⟩
  exact hQ h₃ _ (hs₃.extBut D _ hDC (hs₂.extBut D _ (Ne.symm hLD) hacc)) (Ne.symm hLD) (cell_at hc₂ fun o e => hs₃.extBut _ o hLC e) fun b o hbL eb =>
    hs₃.extBut b o (fun q => by rw [q, hC] at eb; cases eb) (hs₂.extBut b o hbL (hk b o eb))
theorem fr_cell {g h h' : Heap} {L c : Addr} {m : PySem.Str → Option Value} (F : Fr g L h m) (hcL : L ≠ c) (hgc : g.get? c = none) (hk : ∀ b o, b ≠ c → h.get? b = some o → h'.get? b = some o) : Fr g L h' m :=
  ⟨F.ns.at' fun o e => hk _ o hcL e, fun b o eb => hk b o (fun q => by rw [q, hgc] at eb; cases eb) (F.keep b o eb), F.above⟩
theorem count_ofX {l : List Nat} {c : Nat} {x : PySem.Str} {t u : Tok} {Q : Value → Shared → Prop} (hx : x = tx [c]) (W : Wd w s.heap) (R : Rm A 1 3) (hl : l.length ≤ 100000) (hu : u ≠ 0) (hut : u < s.toks)
    (h : ∀ h' tk t', Ext s.heap h' → Q (.int (l.count c : Int) t') { s with heap := h', toks := tk }) : wpAny (model prog w) A (call (.ref 93) [.str (tx l) t, .str x u]) Q E s := by
  subst hx
  exact count_of W R hl hu hut h
theorem law_writtenX {x : PySem.Str} {l nm : List Nat} {t u : Tok} {Q : Value → Shared → Prop} (hx : x = tx l) (W : Wd w s.heap) (Rm' : Rm A 2 6) (hl : l.length ≤ 10000) (hl2 : ∀ c ∈ l, c < 256) (hnm : nm.length ≤ 100)
    (h : ∀ h' tk t', Ext s.heap h' → Q (.str (tx (wr l nm)) t') { s with heap := h', toks := tk }) : wpAny (model prog w) A (call (.ref 130) [.str x t, .str (tx nm) u]) Q E s := by
  subst hx
  exact law_written W Rm' hl hl2 hnm h
theorem tup_new {elts : List Expr} {kk : Nat} {pos : Pos} {Q : Value → Shared → Prop}
    (h : wpAny (model prog w) A (spliced (backTo pos (starEach elts env))) (fun vs s₁ => vs.length ≤ 1000 ∧ ∀ T h', h'.IsTuple T vs.toArray → Ext s₁.heap h' → s₁.heap.objs.size ≤ T → Q (.ref T) { s₁ with heap := h' }) E s) :
    wpAny (model prog w) A (eval (.Tuple elts kk pos) env) Q E s :=
  wpAny_Tuple (wpAny_mono h (fun vs s₁ h₁ => ⟨by rw [PySem.sizeLine_eq]; have := h₁.1; omega, h₁.2 _ _ ⟨_, Heap.get?_push_size _ rfl, rfl, _, rfl⟩ (fun _ _ eb => Heap.get?_push_of_some _ eb) (Nat.le_refl _)⟩) fun _ _ e => e)
theorem len_lstN {D : Addr} {ys : List Value} {n : Nat} {Q : Value → Shared → Prop} (hD : s.heap.get? D = some (LCg.lst ys)) (hl : ys.length = n) (hn : n ≤ 16777216) (h : ∀ t k, Q (.int (n : Int) t) { s with toks := k }) :
    wpAny (model prog w) A (call (.builtin "len") [.ref D]) Q E s := by
  subst hl
  exact len_lst hD hn h
theorem law_written_nil {x : PySem.Str} {nm : List Nat} {t u : Tok} {Q : Value → Shared → Prop} (hx : x = tx []) (W : Wd w s.heap) (Rm' : Rm A 2 6) (hnm : nm.length ≤ 100)
    (h : ∀ h' tk t', Ext s.heap h' → Q (.str (tx []) t') { s with heap := h', toks := tk }) : wpAny (model prog w) A (call (.ref 130) [.str x t, .str (tx nm) u]) Q E s := by
  refine law_writtenX hx W Rm' (by show 0 ≤ 10000; decide) (fun _ h => nomatch h) hnm fun h' tk t' hk => ?_
  rw [wr_nil]
  exact h h' tk t' hk
theorem eq_nil {x : PySem.Str} {t u : Tok} {Q : Value → Shared → Prop} (hx : x = tx []) (h : Q (.bool true) s) : wpAny (model prog w) A (compareOp .Eq (.str (tx []) t) (.str x u)) Q E s := eqT hx (by rw [decide_eq_true rfl]; exact h)
end
local macro_rules | `(tactic| walk_at "lw") => `(tactic| first
  | (with_reducible
      show wpAny _ _ (eval (Expr.Name _ _) _) _ _ _
      refine nmL (Fr.ns (by assumption)) (by with_unfolding_all rfl) (by first | assumption | ((repeat (first | exact if_pos rfl | refine if_ne (by with_unfolding_all decide) ?_)); assumption)) ?_ (by with_unfolding_all rfl) (by with_unfolding_all rfl) (by with_unfolding_all rfl))
  | walk_at "st")
theorem Ws.cut2 {f : Nat → List Nat} {us : List Value} (h : Ws f 5 us) : Ws (fun k => f (k + 2)) 3 (cutL us (some 2) none) := by
  unfold cutL
  rw [h.length]
  exact (StrsAre.drop' h 2).take' 3
theorem Ws.cut1 {f : Nat → List Nat} {us : List Value} (h : Ws f 5 us) : Ws (fun k => f (k + 1)) 4 (cutL us (some 1) none) := by
  unfold cutL
  rw [h.length]
  exact (StrsAre.drop' h 1).take' 4
theorem Ws.cut4 {f : Nat → List Nat} {us : List Value} (h : Ws f 5 us) : Ws f 4 (cutL us none (some 4)) := by
  unfold cutL
  rw [h.length]
  exact (StrsAre.drop' h 0).take' 4
set_option maxHeartbeats 4000000 in
theorem law_signs {prog : Program} {w : World} {A : Around} {E : Value → Shared → Prop} {s : Shared} {g : Heap} {L Dw : Addr} {m : PySem.Str → Option Value} {l nm : List Nat} {tn to' : Tok} {ws : List Value} {v5 : Option Value} {Q : Flow → Shared → Prop}
    (W : Wd w g) (R : Rm (A.deeper (lawE L)) 3 197) (F : Fr g L s.heap m) (hl4 : l.length ≤ 4) (hne : l ≠ []) (hl2 : ∀ c ∈ l, c < 256) (hnm : NmOk nm) (htk : 1 ≤ s.toks)
    (hw : m (PySem.Str.ofString "words") = some (.ref Dw)) (hDw : s.heap.IsList Dw ws.toArray) (hWs : Ws (told l nm) 5 ws) (ho : m (PySem.Str.ofString "odd") = some (.int (odd nm : Int) to'))
    (hc2 : s.heap.IsCell (L + 1 + 1) (some (.str (tx nm) tn))) (hc5 : s.heap.IsCell (L + 1 + 1 + 1 + 1 + 1) v5)
    (hQ : ∀ h' tk, Ext g h' → Q (.ret (.bool true)) { s with heap := h', toks := tk }) :
    wpAny (model prog w) (A.deeper (lawE L)) (execs (lawQ.1.drop 13) (lawE L)) Q E s := by
  dsimp only [lawQ, List.drop]
  walk_at "lw"
  refine wpAny_with_toks (n := 1) htk ?_
  repeat' walk_at "lw"
  with_reducible refine lc_eval (cl := []) (by with_unfolding_all rfl) rfl (by decide) (by intro _; with_unfolding_all rfl) ?_
  refine sl_lst ?_ (fun _ _ => by with_unfolding_all rfl)
  repeat' walk_at "lw"
  refine part_some ?_
  repeat' walk_at "lw"
  refine part_none ?_
  have hwl := hWs.length
  refine ⟨Dw, ws, some 2, none, rfl, hDw, .int _ _, .none, by omega, fun D₁ h₁ hD₁ hk₁ hle₁ => ?_⟩
  have hW2 := hWs.cut2
  refine lc_map (src_list R.hh hD₁) (Ns fun k => ((told l nm (k + 2)).count 61 : Int)) (by rw [hW2.length]; decide) (fun _ _ _ => rfl) (fun _ _ _ => rfl) (by decide) rfl rfl (fun i ys h => Nat.le_of_eq h.length) Ns.nil ?_ ?_
  · intro C s₂ m₂ i v ys hi hv hext hn hm hR htk₂
    obtain ⟨tv, rfl⟩ := hW2.at hv
    have hi3 : i < 3 := by rw [hW2.length] at hi; exact hi
    have hlen := told_len hne hl2 hnm.lt hl4 hnm.len (i + 2) (by omega)
    have W₂ := ((W.keeps F.keep).keeps hk₁).keeps hext
    repeat' walk_at "lw"
    refine ⟨W₂, count_ofX lit_eq W₂ R.mono (Nat.le_trans hlen (by decide)) (Nat.ne_of_gt (Nat.lt_of_lt_of_le htk (Nat.le_trans (Nat.le_succ _) htk₂))) (Nat.lt_succ_self _) fun h₂ tk₂ t₂ k₂ => ⟨hR.snoc, _, _, rfl, k₂⟩⟩
  intro Dg C h₂ tk₂ m' gs hC hD hDC hnC hacc hR hk
  rw [hW2.length] at hR
  refine lc_E (Rr := fun _ => True) hC hDC hnC hacc hk True.intro (fun _ _ _ h => h) fun h₃ hDg _ hk₃ => ?_
  have hDg : h₃.IsList Dg gs.toArray := ⟨_, hDg, rfl, _, rfl⟩
  have hE : Ext s.heap h₃ := fun b o e => hk₃ b o (hk₁ b o e)
  have hne₁ := list_cell hDg (cell_at hc5 (hE _))
  have hne₂ := list_cell (isl_at hDw (hE _)) (cell_at hc5 (hE _))
  refine stC (F.keeps hE) (cell_at hc5 (hE _)) c5.symm (fresh_none (Nat.le_trans F.above (by omega))) (by with_unfolding_all rfl) (by with_unfolding_all rfl) (by with_unfolding_all rfl) fun h₄ F₄ hc5 hk₄ => ?_
  have hc2 := cell_at hc2 (fun o e => hk₄ _ o c3.symm (hE _ o e))
  have hDw := isl_at hDw (fun o e => hk₄ _ o hne₂ (hE _ o e))
  have hDg := isl_at hDg (fun o e => hk₄ _ o hne₁ e)
  clear hk₄ hE hne₁ hne₂ hk₃ hnC hC hacc hDC hk hD₁ hk₁
  intro htk₄
  walk_at "lw"
  refine wpAny_with_toks (n := 1) htk₄ ?_
  repeat' walk_at "lw"
  with_reducible refine lc_eval (cl := []) (by with_unfolding_all rfl) rfl (by decide) (by intro _; with_unfolding_all rfl) ?_
  refine sl_lst ?_ (fun _ _ => by with_unfolding_all rfl)
  repeat' walk_at "lw"
  refine part_some ?_
  repeat' walk_at "lw"
  refine part_none ?_
  refine ⟨Dw, ws, some 1, none, rfl, hDw, .int _ _, .none, by omega, fun D₁ h₁ hD₁ hk₁ hle₁ => ?_⟩
  have hW1 := hWs.cut1
  refine lc_map (src_list R.hh hD₁) (Ns fun _ => 4) (by rw [hW1.length]; decide) (fun _ _ _ => rfl) (fun _ _ _ => rfl) (by decide) rfl rfl (fun i ys h => Nat.le_of_eq h.length) Ns.nil ?_ ?_
  · intro C s₂ m₂ i v ys hi hv hext hn hm hR htk₂
    obtain ⟨tv, rfl⟩ := hW1.at hv
    have hi4 : i < 4 := by rw [hW1.length] at hi; exact hi
    have hlen := told_len hne hl2 hnm.lt hl4 hnm.len (i + 1) hi4
    have h63 := told63 hl2 hnm.lt hnm.a63 i
    have W₂ := ((W.keeps F₄.keep).keeps hk₁).keeps hext
    repeat' walk_at "lw"
    refine ⟨W₂, count_ofX lit_q W₂ R.mono (Nat.le_trans hlen (by decide)) (Nat.ne_of_gt (Nat.lt_of_lt_of_le htk₄ (Nat.le_trans (Nat.le_succ _) htk₂))) (Nat.lt_succ_self _) fun h₂ tk₂ t₂ k₂ => ⟨?_, _, _, rfl, k₂⟩⟩
    rw [h63]
    exact hR.snoc
  intro Dq C h₅ tk₅ m' qs hC hD hDC hnC hacc hR4 hk
  rw [hW1.length] at hR4
  refine lc_E (Rr := fun _ => True) hC hDC hnC hacc hk True.intro (fun _ _ _ h => h) fun h₆ hDq _ hk₆ => ?_
  have hDq : h₆.IsList Dq qs.toArray := ⟨_, hDq, rfl, _, rfl⟩
  have hE : Ext h₄ h₆ := fun b o e => hk₆ b o (hk₁ b o e)
  have F₆ := F₄.keeps hE
  have hc5 := cell_at hc5 (hE _)
  have hc2 := cell_at hc2 (hE _)
  have hDg := isl_at hDg (hE _)
  clear hk₆ hnC hC hacc hDC hk hD₁ hk₁ hE
  repeat' walk_at "lw"
  refine lst_new ?_
  repeat' walk_at "lw"
  refine ⟨by show 1 ≤ 1000; decide, fun D₂ h₇ hD₂ hk₇ hle₇ => ?_⟩
  repeat' walk_at "lw"
  refine mul_lst (k := 4) (ys := [_]) hD₂ rfl (by decide) (by show 1 ≤ 100; decide) fun D₃ h₈ hD₃ hk₈ hle₈ => ?_
  have hE : Ext h₆ h₈ := fun b o e => hk₈ b o (hk₇ b o e)
  have hun : (A.deeper (lawE L)).units + 64 < cLine := Nat.lt_of_le_of_lt (Nat.add_le_add_left (by decide) _) R.un
  refine ne_ints_same (ns := [4, 4, 4, 4]) (isl_at hDq (hE _)) hD₃ hR4 (.cons _ _ (.cons _ _ (.cons _ _ (.cons _ _ .nil)))) hun ?_
  have F₈ := F₆.keeps hE
  have hc5 := cell_at hc5 (hE _)
  have hc2 := cell_at hc2 (hE _)
  have hDg := isl_at hDg (hE _)
  clear hE hk₈ hk₇ hle₇ hle₈ hD₃ hD₂ hDq hR4
  repeat' walk_at "lw"
  with_reducible refine lc_eval (cl := [(PySem.Str.ofString "signs", L + 1 + 1 + 1 + 1 + 1)]) (by with_unfolding_all rfl) rfl (by decide) (by intro _; with_unfolding_all rfl) ?_
  refine wpAny_Tuple ?_
  repeat' walk_at "lw"
  refine ⟨by show 2 ≤ sizeLine; decide, ?_⟩
  refine lc_map (src_tuple R.hh ⟨_, Heap.get?_push_size _ rfl, rfl, _, rfl⟩) (Ns fun _ => 6 + (odd nm : Int)) (by show 2 ≤ 1000000; decide) (fun _ _ _ => rfl) (fun _ _ _ => rfl) (by decide) rfl rfl (fun i ys h => Nat.le_of_eq h.length) Ns.nil ?_ ?_
  · intro C s₂ m₂ i v ys hi hv hext hn hm hR₂ htk₂
    obtain ⟨tv, rfl⟩ := items2 hv
    have hup : Ext h₈ s₂.heap := fun b o e => hext b o (Heap.get?_push_of_some _ e)
    have hc5 := cell_at hc5 (hup _)
    have hDg := isl_at hDg (hup _)
    have W₂ := (W.keeps F₈.keep).keeps hup
    obtain ⟨ta, hga⟩ := hR.at (i := i + 1) (Nat.succ_lt_succ hi)
    obtain ⟨tb, hgb⟩ := hR.at (i := i) (Nat.lt_succ_of_lt hi)
    repeat' walk_at "lw"
    refine item_lst (i := i + 1) hDg rfl (big2' hi) hga ?_ (by with_unfolding_all rfl)
    repeat' walk_at "lw"
    refine item_lst (i := i) hDg rfl (big2 hi) hgb ?_ (by with_unfolding_all rfl)
    repeat' walk_at "lw"
    exact ⟨W₂, op_sub W₂ R.mono fun h₃ tk₃ t₃ hk₃ => ⟨hR₂.snoc' (sign_step hl2 hnm.lt hnm.a61 hnm.a32 i), _, _, rfl, hk₃⟩⟩
  intro Dr C h₉ tk₉ m' rs hC hD hDC hnC hacc hR2 hk
  refine lc_E (Rr := fun _ => True) hC hDC hnC hacc hk True.intro (fun _ _ _ h => h) fun h₁₀ hDr _ hk₁₀ => ?_
  have hDr : h₁₀.IsList Dr rs.toArray := ⟨_, hDr, rfl, _, rfl⟩
  have hE : Ext h₈ h₁₀ := fun b o e => hk₁₀ b o (Heap.get?_push_of_some _ e)
  have F₁₀ := F₈.keeps hE
  have hc2 := cell_at hc2 (hE _)
  clear hE hk₁₀ hk hacc hnC hDC hD hC hR hDg hc5
  repeat' walk_at "lw"
  refine lst_new ?_
  repeat' walk_at "lw"
  refine ⟨by show 1 ≤ 1000; decide, fun D₂ h₇ hD₂ hk₇ hle₇ => ?_⟩
  repeat' walk_at "lw"
  refine mul_lst (k := 2) (ys := [_]) hD₂ rfl (by decide) (by show 1 ≤ 100; decide) fun D₃ h₁₂ hD₃ hk₁₂ hle₈ => ?_
  have hE : Ext h₁₀ h₁₂ := fun b o e => hk₁₂ b o (hk₇ b o e)
  refine ne_ints_same (ns := [6 + (odd nm : Int), 6 + (odd nm : Int)]) (isl_at hDr (hE _)) hD₃ hR2 (.cons _ _ (.cons _ _ .nil)) hun ?_
  have F₁₂ := F₁₀.keeps hE
  have hc2 := cell_at hc2 (hE _)
  clear hE hk₁₂ hk₇ hle₇ hle₈ hD₃ hD₂ hDr hR2 F₁₀ F₈ F₆ F₄ F
  repeat' walk_at "lw"
  intro _
  repeat' walk_at "lw"
  refine ⟨W.keeps F₁₂.keep, law_written_nil lit_nil (W.keeps F₁₂.keep) R.mono (Nat.le_trans hnm.len (by decide)) fun h₁₃ tk₁₃ t₁₃ hk₁₃ => ?_⟩
  repeat' walk_at "lw"
  refine eq_nil lit_nil ?_
  exact hQ _ _ fun b o e => hk₁₃ b o (F₁₂.keep b o e)
theorem sizeI_newton {l nm : List Nat} (hn : 32 ∉ nm) (R : Int) : ((told l nm 1).length : Int) - (1 - R) * (((told l nm 2).length : Int) - ((told l nm 1).length : Int)) + ((R - 1) * (R - 2)) / 2 * (12 + 2 * (odd nm : Int)) = sizeI l nm R := newton hn R
set_option maxHeartbeats 4000000 in
theorem law_rounds {prog : Program} {w : World} {A : Around} {E : Value → Shared → Prop} {s : Shared} {g : Heap} {L Dw Dd Ds Dt Db : Addr} {m : PySem.Str → Option Value} {l nm : List Nat} {t tn to' : Tok} {ws ds ss ts bs : List Value} {d2 d3 : Int} {v5 : Option Value} {Q : Flow → Shared → Prop}
    (W : Wd w g) (R : Rm (A.deeper (lawE L)) 3 197) (F : Fr g L s.heap m) (hl4 : l.length ≤ 4) (hne : l ≠ []) (hl2 : ∀ c ∈ l, c < 256) (hnm : NmOk nm) (htk : 1 ≤ s.toks)
    (hm1 : m (PySem.Str.ofString "text") = some (.str (tx l) t)) (hw : m (PySem.Str.ofString "words") = some (.ref Dw)) (ho : m (PySem.Str.ofString "odd") = some (.int (odd nm : Int) to')) (hd : m (PySem.Str.ofString "draws") = some (.ref Dd)) (hb : m (PySem.Str.ofString "bends") = some (.ref Db))
    (hDw : s.heap.IsList Dw ws.toArray) (hWs : Ws (told l nm) 5 ws)
    (hDd : s.heap.IsList Dd ds.toArray) (hd2 : ∃ t, ds[2]? = some (.int d2 t)) (hd3 : ∃ t, ds[3]? = some (.int d3 t)) (hb2 : 0 ≤ d2 ∧ d2 < 1000000000000) (hb3 : 0 ≤ d3 ∧ d3 < 1000000000000)
    (hDs : s.heap.IsList Ds ss.toArray) (hss : Ns (fun k => ((told l nm k).length : Int)) 5 ss)
    (hDt : s.heap.IsList Dt ts.toArray) (hts : Ns (fun k => ((told l nm (k + 2)).length : Int) - ((told l nm (k + 1)).length : Int)) 3 ts)
    (hDb : s.heap.IsList Db bs.toArray) (hbs : Ns (fun _ => 12 + 2 * (odd nm : Int)) 2 bs)
    (hc2 : s.heap.IsCell (L + 1 + 1) (some (.str (tx nm) tn))) (hc3 : s.heap.IsCell (L + 1 + 1 + 1) (some (.ref Ds))) (hc4 : s.heap.IsCell (L + 1 + 1 + 1 + 1) (some (.ref Dt))) (hc5 : s.heap.IsCell (L + 1 + 1 + 1 + 1 + 1) v5)
    (hQ : ∀ h' tk, Ext g h' → Q (.ret (.bool true)) { s with heap := h', toks := tk }) :
    wpAny (model prog w) (A.deeper (lawE L)) (execs (lawQ.1.drop 12) (lawE L)) Q E s := by
  dsimp only [lawQ, List.drop]
  walk_at "lw"
  refine wpAny_with_toks (n := 1) htk ?_
  refine wpAny_For ?_ (fun _ => by with_unfolding_all rfl)
  refine tup_new ?_
  repeat' walk_at "lw"
  obtain ⟨td2, hd2⟩ := hd2
  obtain ⟨td3, hd3⟩ := hd3
  refine item_lst (i := 2) hDd rfl (by decide) hd2 ?_ (by with_unfolding_all rfl)
  repeat' walk_at "lw"
  refine item_lst (i := 3) hDd rfl (by decide) hd3 ?_ (by with_unfolding_all rfl)
  repeat' walk_at "lw"
  refine ⟨by show 2 ≤ 1000; decide, fun T h₁ hT hk₁ hle₁ => ?_⟩
  have hTL : Value.ref T ≠ Value.ref L := fun e => by
    injection e with e
    rw [e] at hle₁
    exact Nat.lt_irrefl _ (Nat.lt_of_lt_of_le F.ns.lt hle₁)
  have F₁ := F.keeps hk₁
  refine for_go (src_tuple R.hh hT).n F₁ (by with_unfolding_all rfl) (by with_unfolding_all rfl) (by with_unfolding_all rfl) [] (fun _ h => nomatch h) (fun _ h => nomatch h) hTL (fun _ h => nomatch h)
    (fun i m _ => m (PySem.Str.ofString "text") = some (.str (tx l) t) ∧ m (PySem.Str.ofString "words") = some (.ref Dw) ∧ m (PySem.Str.ofString "odd") = some (.int (odd nm : Int) to') ∧ m (PySem.Str.ofString "bends") = some (.ref Db)) (fun _ _ _ _ _ _ _ h => h) ⟨hm1, hw, ho, hb⟩ ?_ ?_
  · rintro i v m₁ s₂ k hi hk hP hk₂ F₂ ⟨ht1, hw1, ho1, hb1⟩ hold
    obtain ⟨r, tr, rfl, hr⟩ := pair_at hP
    have hr := draw_ok hr hb2 hb3
    have W₂ := W.keeps F₂.keep
    repeat' walk_at "lw"
    refine ⟨W₂, op_mul W₂ R.mono (draw_neg hr).1 (draw_neg hr).2 fun h₃ tk₃ t₃ hk₃ => ?_⟩
    have F₃ := F₂.keeps hk₃
    have W₃ := W₂.keeps hk₃
    repeat' walk_at "lw"
    refine ⟨W₃, op_half W₃ R.mono fun h₄ tk₄ t₄ hk₄ => ?_⟩
    have F₄ := F₃.keeps hk₄
    refine stL F₄ (by with_unfolding_all rfl) (by with_unfolding_all rfl) (by with_unfolding_all rfl) fun h₅ F₅ hk₅ => ?_
    have W₅ := W.keeps F₅.keep
    have up : ∀ b o, b ≠ L → s.heap.get? b = some o → h₅.get? b = some o := fun b o hb e => hk₅ b o hb (hk₄ b o (hk₃ b o (hold b o hb (fun h => nomatch h) (hk₁ b o e))))
    have hDs := isl_at hDs (fun o e => up _ o (list_ns hDs F.ns) e)
    have hDt := isl_at hDt (fun o e => up _ o (list_ns hDt F.ns) e)
    have hDb := isl_at hDb (fun o e => up _ o (list_ns hDb F.ns) e)
    have hc2 := cell_at hc2 (fun o e => up _ o c2 e)
    have hc3 := cell_at hc3 (fun o e => up _ o c3 e)
    have hc4 := cell_at hc4 (fun o e => up _ o c4 e)
    have up2 : ∀ b o, b ≠ L → s₂.heap.get? b = some o → h₅.get? b = some o := fun b o hb e => hk₅ b o hb (hk₄ b o (hk₃ b o e))
    clear up hold hk₅ hk₄ hk₃ F₄ F₃ F₂ hDd hDw
    obtain ⟨ta, hs1⟩ := hss.at (i := 1) (by decide)
    obtain ⟨tb, hst0⟩ := hts.at (i := 0) (by decide)
    obtain ⟨tc, hsb0⟩ := hbs.at (i := 0) (by decide)
    repeat' walk_at "lw"
    refine item_lst (i := 1) hDs rfl (by decide) hs1 ?_ (by with_unfolding_all rfl)
    repeat' walk_at "lw"
    refine ⟨W₅, op_sub W₅ R.mono fun h₆ tk₆ t₆ hk₆ => ?_⟩
    have F₆ := F₅.keeps hk₆
    have W₆ := W₅.keeps hk₆
    have hc4 := cell_at hc4 (hk₆ _)
    have hDt := isl_at hDt (hk₆ _)
    repeat' walk_at "lw"
    refine item_lst (i := 0) hDt rfl (by decide) hst0 ?_ (by with_unfolding_all rfl)
    repeat' walk_at "lw"
    have d21 := diff_ok (told_len hne hl2 hnm.lt hl4 hnm.len 2 (by decide)) (told_len hne hl2 hnm.lt hl4 hnm.len 1 (by decide))
    refine ⟨W₆, op_mul W₆ R.mono d21.1 d21.2 fun h₇ tk₇ t₇ hk₇ => ?_⟩
    have F₇ := F₆.keeps hk₇
    have W₇ := W₆.keeps hk₇
    repeat' walk_at "lw"
    refine ⟨W₇, op_sub W₇ R.mono fun h₈ tk₈ t₈ hk₈ => ?_⟩
    have F₈ := F₇.keeps hk₈
    have W₈ := W₇.keeps hk₈
    have hE : Ext h₅ h₈ := fun b o e => hk₈ b o (hk₇ b o (hk₆ b o e))
    have hDb := isl_at hDb (hE _)
    repeat' walk_at "lw"
    refine item_lst (i := 0) hDb rfl (by decide) hsb0 ?_ (by with_unfolding_all rfl)
    repeat' walk_at "lw"
    have d12 := twelve_ok (Nat.le_trans (odd_le nm) hnm.len)
    refine ⟨W₈, op_mul W₈ R.mono d12.1 d12.2 fun h₉ tk₉ t₉ hk₉ => ?_⟩
    have F₉ := F₈.keeps hk₉
    have W₉ := W₈.keeps hk₉
    repeat' walk_at "lw"
    refine ⟨W₉, op_add W₉ R.mono fun h₁₀ tk₁₀ t₁₀ hk₁₀ => ?_⟩
    have F₁₀ := F₉.keeps hk₁₀
    have W₁₀ := W₉.keeps hk₁₀
    have hE : Ext h₅ h₁₀ := fun b o e => hk₁₀ b o (hk₉ b o (hE b o e))
    have hc2 := cell_at hc2 (hE _)
    repeat' walk_at "lw"
    refine ⟨W₁₀, law_size W₁₀ R.mono (Nat.le_trans hl4 (by decide)) (Nat.le_trans hnm.len (by decide)) hr.1 hr.2 fun h₁₁ tk₁₁ t₁₁ hk₁₁ => ?_⟩
    have hE : Ext h₅ h₁₁ := fun b o e => hk₁₁ b o (hE b o e)
    refine P.ne_int ?_
    repeat' walk_at "lw"
    refine ite_f (bne_of_eq (sizeI_newton hnm.a32 r)) ?_
    repeat' walk_at "lw"
    exact ⟨rfl, h₁₁, tk₁₁, _, rfl, fun b o hb _ e => hE b o (up2 b o hb e), F₁₀.keeps hk₁₁, if_ne (by decide) (if_ne (by decide) ht1), if_ne (by decide) (if_ne (by decide) hw1), if_ne (by decide) (if_ne (by decide) ho1), if_ne (by decide) (if_ne (by decide) hb1)⟩
  · rintro h' tk' m' hle F' ⟨ht1, hw1, ho1, hb1⟩ hold htk'
    have up : ∀ b o, b ≠ L → s.heap.get? b = some o → h'.get? b = some o := fun b o hb e => hold b o hb (fun h => nomatch h) (hk₁ b o e)
    exact law_signs W R F' hl4 hne hl2 hnm htk' hw1 (isl_at hDw (fun o e => up _ o (list_ns hDw F.ns) e)) hWs ho1 (cell_at hc2 (fun o e => up _ o c2 e)) (cell_at hc5 (fun o e => up _ o c5 e)) fun h tk e => hQ h tk e
set_option maxHeartbeats 4000000 in
theorem law_bends {prog : Program} {w : World} {A : Around} {E : Value → Shared → Prop} {s : Shared} {g : Heap} {L Dw Dd Ds Dt : Addr} {m : PySem.Str → Option Value} {l nm : List Nat} {t tn : Tok} {ws ds ss ts : List Value} {d2 d3 : Int} {v5 : Option Value} {Q : Flow → Shared → Prop}
    (W : Wd w g) (R : Rm (A.deeper (lawE L)) 3 197) (F : Fr g L s.heap m) (hl4 : l.length ≤ 4) (hne : l ≠ []) (hl2 : ∀ c ∈ l, c < 256) (hnm : NmOk nm) (htk : 1 ≤ s.toks)
    (hm1 : m (PySem.Str.ofString "text") = some (.str (tx l) t)) (hw : m (PySem.Str.ofString "words") = some (.ref Dw)) (hd : m (PySem.Str.ofString "draws") = some (.ref Dd))
    (hDw : s.heap.IsList Dw ws.toArray) (hWs : Ws (told l nm) 5 ws)
    (hDd : s.heap.IsList Dd ds.toArray) (hd2 : ∃ t, ds[2]? = some (.int d2 t)) (hd3 : ∃ t, ds[3]? = some (.int d3 t)) (hb2 : 0 ≤ d2 ∧ d2 < 1000000000000) (hb3 : 0 ≤ d3 ∧ d3 < 1000000000000)
    (hDs : s.heap.IsList Ds ss.toArray) (hss : Ns (fun k => ((told l nm k).length : Int)) 5 ss)
    (hDt : s.heap.IsList Dt ts.toArray) (hts : Ns (fun k => ((told l nm (k + 2)).length : Int) - ((told l nm (k + 1)).length : Int)) 3 ts)
    (hc2 : s.heap.IsCell (L + 1 + 1) (some (.str (tx nm) tn))) (hc3 : s.heap.IsCell (L + 1 + 1 + 1) (some (.ref Ds))) (hc4 : s.heap.IsCell (L + 1 + 1 + 1 + 1) (some (.ref Dt))) (hc5 : s.heap.IsCell (L + 1 + 1 + 1 + 1 + 1) v5)
    (hQ : ∀ h' tk, Ext g h' → Q (.ret (.bool true)) { s with heap := h', toks := tk }) :
    wpAny (model prog w) (A.deeper (lawE L)) (execs (lawQ.1.drop 9) (lawE L)) Q E s := by
  dsimp only [lawQ, List.drop]
  walk_at "lw"
  refine wpAny_with_toks (n := 1) htk ?_
  repeat' walk_at "lw"
  with_reducible refine lc_eval (cl := []) (by with_unfolding_all rfl) rfl (by decide) (by intro _; with_unfolding_all rfl) ?_
  repeat' walk_at "lw"
  refine lc_filter (fun c => !safe c) R.hh (Nat.le_trans hnm.len (by decide)) (fun _ _ _ => rfl) (fun _ _ _ => rfl) (by decide) rfl rfl (by decide) ?_ ?_
  · intro C c u s₂ m hext hn hm hc
    have W₂ := (W.keeps F.keep).keeps hext
    repeat' walk_at "lw"
    refine ⟨W₂, law_safe W₂ R.mono fun h₂ tk₂ k₂ => wpAny_truthy_bool ⟨rfl, _, _, rfl, k₂⟩⟩
  intro Do h₁ tk₁ ys hDo hlen hk₁
  have F₁ := F.keeps hk₁
  repeat' walk_at "lw"
  refine len_lstN (n := odd nm) hDo hlen (Nat.le_trans (odd_le nm) (Nat.le_trans hnm.len (by decide))) fun t₃ k₃ => ?_
  refine stL F₁ (by with_unfolding_all rfl) (by with_unfolding_all rfl) (by with_unfolding_all rfl) fun h₂ F₂ hk₂ => ?_
  have up : ∀ b o, b ≠ L → s.heap.get? b = some o → h₂.get? b = some o := fun b o hb e => hk₂ b o hb (hk₁ b o e)
  have hDw := isl_at hDw (fun o e => up _ o (list_ns hDw F.ns) e)
  have hDd := isl_at hDd (fun o e => up _ o (list_ns hDd F.ns) e)
  have hDs := isl_at hDs (fun o e => up _ o (list_ns hDs F.ns) e)
  have hDt := isl_at hDt (fun o e => up _ o (list_ns hDt F.ns) e)
  have hc2 := cell_at hc2 (fun o e => up _ o c2 e)
  have hc3 := cell_at hc3 (fun o e => up _ o c3 e)
  have hc4 := cell_at hc4 (fun o e => up _ o c4 e)
  have hc5 := cell_at hc5 (fun o e => up _ o c5 e)
  have W₂ := W.keeps F₂.keep
  clear up hk₂ hk₁ F₁ F hDo
  intro htk₂
  walk_at "lw"
  refine wpAny_with_toks (n := 1) htk₂ ?_
  with_reducible refine lc_assign (cl := [(PySem.Str.ofString "steps", L + 1 + 1 + 1 + 1)]) (by with_unfolding_all rfl) (by with_unfolding_all rfl) rfl (by decide) (by intro _; with_unfolding_all rfl) ?_
  refine tup_new ?_
  repeat' walk_at "lw"
  refine ⟨by show 2 ≤ 1000; decide, fun T h₃ hT hk₃ hle₃ => ?_⟩
  refine lc_map (src_tuple R.hh hT) (Ns fun _ => 12 + 2 * (odd nm : Int)) (by show 2 ≤ 1000000; decide) (fun _ _ _ => rfl) (fun _ _ _ => rfl) (by decide) rfl rfl (fun i ys h => Nat.le_of_eq h.length) Ns.nil ?_ ?_
  · intro C s₂ m₂ i v ys hi hv hext hn hm hR₂ htk₂
    obtain ⟨tv, rfl⟩ := items2 hv
    have hup : Ext h₂ s₂.heap := fun b o e => hext b o (hk₃ b o e)
    have hc4 := cell_at hc4 (hup _)
    have hDt := isl_at hDt (hup _)
    have W₂ := W₂.keeps hup
    obtain ⟨ta, hga⟩ := hts.at (i := i + 1) (Nat.succ_lt_succ hi)
    obtain ⟨tb, hgb⟩ := hts.at (i := i) (Nat.lt_succ_of_lt hi)
    repeat' walk_at "lw"
    refine item_lst (i := i + 1) hDt rfl (big2' hi) hga ?_ (by with_unfolding_all rfl)
    repeat' walk_at "lw"
    refine item_lst (i := i) hDt rfl (big2 hi) hgb ?_ (by with_unfolding_all rfl)
    repeat' walk_at "lw"
    exact ⟨W₂, op_sub W₂ R.mono fun h₃ tk₃ t₃ hk₃ => ⟨hR₂.snoc' (bend_eq hnm.a32 (r := i + 1) (Nat.succ_le_succ (Nat.zero_le i))), _, _, rfl, hk₃⟩⟩
  intro Db C h₄ tk₄ m' bs hC hDb hDC hnC hacc hbs hk₄
  have hn₃ := F₂.ns.keeps hk₃
  refine lc_A (s₁ := _) (Rr := fun _ => True) (by with_unfolding_all rfl) (by with_unfolding_all rfl) (by with_unfolding_all rfl) hC hDb hDC hnC hacc hk₄ hn₃ True.intro (fun _ _ _ h => h) fun h₅ tk₅ hDb _ hn₅ hk₅ htk₅ => ?_
  have up : ∀ b o, b ≠ L → h₂.get? b = some o → h₅.get? b = some o := fun b o hb e => hk₅ b o hb (hk₃ b o e)
  have F₅ := fr_upd F₂ hn₅ up
  have hDw := isl_at hDw (fun o e => up _ o (list_ns hDw F₂.ns) e)
  have hDd := isl_at hDd (fun o e => up _ o (list_ns hDd F₂.ns) e)
  have hDs := isl_at hDs (fun o e => up _ o (list_ns hDs F₂.ns) e)
  have hDt := isl_at hDt (fun o e => up _ o (list_ns hDt F₂.ns) e)
  have hc2 := cell_at hc2 (fun o e => up _ o c2 e)
  have hc3 := cell_at hc3 (fun o e => up _ o c3 e)
  have hc4 := cell_at hc4 (fun o e => up _ o c4 e)
  have hc5 := cell_at hc5 (fun o e => up _ o c5 e)
  have hDb : h₅.IsList Db bs.toArray := ⟨_, hDb, rfl, _, rfl⟩
  clear up hk₅ hn₅ hk₄ hacc hnC hDC hC hn₃ hT hk₃ hle₃ F₂ W₂
  walk_at "lw"
  refine wpAny_with_toks (n := 1) htk₅ ?_
  repeat' walk_at "lw"
  refine lst_new ?_
  repeat' walk_at "lw"
  refine mulL (by decide) (by decide) ?_
  repeat' walk_at "lw"
  refine ⟨by show 1 ≤ 1000; decide, fun D₂ h₇ hD₂ hk₇ hle₇ => ?_⟩
  repeat' walk_at "lw"
  refine mul_lst (k := 2) (ys := [_]) hD₂ rfl (by decide) (by show 1 ≤ 100; decide) fun D₃ h₈ hD₃ hk₈ hle₈ => ?_
  have hE : Ext h₅ h₈ := fun b o e => hk₈ b o (hk₇ b o e)
  have hun : (A.deeper (lawE L)).units + 64 < cLine := Nat.lt_of_le_of_lt (Nat.add_le_add_left (by decide) _) R.un
  refine ne_ints_same (ns := [12 + 2 * (odd nm : Int), 12 + 2 * (odd nm : Int)]) (isl_at hDb (hE _)) hD₃ hbs (.cons _ _ (.cons _ _ .nil)) hun ?_
  have F₈ := F₅.keeps hE
  have hDw := isl_at hDw (hE _)
  have hDd := isl_at hDd (hE _)
  have hDs := isl_at hDs (hE _)
  have hDt := isl_at hDt (hE _)
  have hDb := isl_at hDb (hE _)
  have hc2 := cell_at hc2 (hE _)
  have hc3 := cell_at hc3 (hE _)
  have hc4 := cell_at hc4 (hE _)
  have hc5 := cell_at hc5 (hE _)
  repeat' walk_at "lw"
  refine fun htk₈ => ?_
  refine law_rounds W R F₈ hl4 hne hl2 hnm htk₈ (if_ne (by decide) (if_ne (by decide) hm1)) (if_ne (by decide) (if_ne (by decide) hw)) (to' := t₃) (if_ne (by decide) (if_pos rfl)) (if_ne (by decide) (if_ne (by decide) hd)) (if_pos rfl)
    hDw hWs hDd hd2 hd3 hb2 hb3 hDs hss hDt hts hDb hbs hc2 hc3 hc4 hc5 fun h tk e => hQ h tk e
set_option maxHeartbeats 4000000 in
theorem law_sizes {prog : Program} {w : World} {A : Around} {E : Value → Shared → Prop} {s : Shared} {g : Heap} {L Dw Dd : Addr} {m : PySem.Str → Option Value} {l nm : List Nat} {t tn : Tok} {ws ds : List Value} {d2 d3 : Int} {v3 v4 v5 : Option Value} {Q : Flow → Shared → Prop}
    (W : Wd w g) (R : Rm (A.deeper (lawE L)) 3 197) (F : Fr g L s.heap m) (hl4 : l.length ≤ 4) (hne : l ≠ []) (hl2 : ∀ c ∈ l, c < 256) (hnm : NmOk nm) (htk : 1 ≤ s.toks)
    (hm1 : m (PySem.Str.ofString "text") = some (.str (tx l) t)) (hw : m (PySem.Str.ofString "words") = some (.ref Dw)) (hd : m (PySem.Str.ofString "draws") = some (.ref Dd))
    (hDw : s.heap.IsList Dw ws.toArray) (hWs : Ws (told l nm) 5 ws)
    (hDd : s.heap.IsList Dd ds.toArray) (hd2 : ∃ t, ds[2]? = some (.int d2 t)) (hd3 : ∃ t, ds[3]? = some (.int d3 t)) (hb2 : 0 ≤ d2 ∧ d2 < 1000000000000) (hb3 : 0 ≤ d3 ∧ d3 < 1000000000000)
    (hc2 : s.heap.IsCell (L + 1 + 1) (some (.str (tx nm) tn))) (hc3 : s.heap.IsCell (L + 1 + 1 + 1) v3) (hc4 : s.heap.IsCell (L + 1 + 1 + 1 + 1) v4) (hc5 : s.heap.IsCell (L + 1 + 1 + 1 + 1 + 1) v5)
    (hQ : ∀ h' tk, Ext g h' → Q (.ret (.bool true)) { s with heap := h', toks := tk }) :
    wpAny (model prog w) (A.deeper (lawE L)) (execs (lawQ.1.drop 7) (lawE L)) Q E s := by
  dsimp only [lawQ, List.drop]
  walk_at "lw"
  refine wpAny_with_toks (n := 1) htk ?_
  repeat' walk_at "lw"
  with_reducible refine lc_eval (cl := []) (by with_unfolding_all rfl) rfl (by decide) (by intro _; with_unfolding_all rfl) ?_
  repeat' walk_at "lw"
  have hwl := hWs.length
  refine lc_map (src_list R.hh hDw) (Ns fun k => ((told l nm k).length : Int)) (by rw [hwl]; decide) (fun _ _ _ => rfl) (fun _ _ _ => rfl) (by decide) rfl rfl (fun i ys h => Nat.le_of_eq h.length) Ns.nil ?_ ?_
  · intro C s₂ m₂ i v ys hi hv hext hn hm hR htk₂
    obtain ⟨tv, rfl⟩ := hWs.at hv
    have hi5 : i < 5 := by rw [hwl] at hi; exact hi
    have hlen := told_len hne hl2 hnm.lt hl4 hnm.len i (Nat.le_of_lt_succ hi5)
    have W₂ := (W.keeps F.keep).keeps hext
    repeat' walk_at "lw"
    refine ⟨W₂, length_hint W₂ R.mono (Nat.le_trans hlen (by decide)) fun h₂ tk₂ t₂ k₂ => ⟨hR.snoc, _, _, rfl, k₂⟩⟩
  intro Ds C h₂ tk₂ m' ss hC hD hDC hnC hacc hss hk
  rw [hwl] at hss
  refine lc_E (Rr := fun _ => True) hC hDC hnC hacc hk True.intro (fun _ _ _ h => h) fun h₃ hDs _ hk₃ => ?_
  have hDs : h₃.IsList Ds ss.toArray := ⟨_, hDs, rfl, _, rfl⟩
  have hne₁ := list_cell hDs (cell_at hc3 (hk₃ _))
  have hne₂ := list_cell (isl_at hDw (hk₃ _)) (cell_at hc3 (hk₃ _))
  have hne₃ := list_cell (isl_at hDd (hk₃ _)) (cell_at hc3 (hk₃ _))
  refine stC (F.keeps hk₃) (cell_at hc3 (hk₃ _)) c3.symm (fresh_none (Nat.le_trans F.above (by omega))) (by with_unfolding_all rfl) (by with_unfolding_all rfl) (by with_unfolding_all rfl) fun h₄ F₄ hc3 hk₄ => ?_
  have hc2 := cell_at hc2 (fun o e => hk₄ _ o c1.symm (hk₃ _ o e))
  have hc4 := cell_at hc4 (fun o e => hk₄ _ o c1 (hk₃ _ o e))
  have hc5 := cell_at hc5 (fun o e => hk₄ _ o c2 (hk₃ _ o e))
  have hDw := isl_at hDw (fun o e => hk₄ _ o hne₂ (hk₃ _ o e))
  have hDd := isl_at hDd (fun o e => hk₄ _ o hne₃ (hk₃ _ o e))
  have hDs := isl_at hDs (fun o e => hk₄ _ o hne₁ e)
  clear hk₄ hne₁ hne₂ hne₃ hk₃ hnC hC hacc hDC hk
  intro htk₄
  have W₄ := W.keeps F₄.keep
  walk_at "lw"
  refine wpAny_with_toks (n := 1) htk₄ ?_
  repeat' walk_at "lw"
  with_reducible refine lc_eval (cl := [(PySem.Str.ofString "sizes", L + 1 + 1 + 1)]) (by with_unfolding_all rfl) rfl (by decide) (by intro _; with_unfolding_all rfl) ?_
  refine tup_new ?_
  repeat' walk_at "lw"
  refine ⟨by show 3 ≤ 1000; decide, fun T h₅ hT hk₅ hle₅ => ?_⟩
  refine lc_map (src_tuple R.hh hT) (Ns fun k => ((told l nm (k + 2)).length : Int) - ((told l nm (k + 1)).length : Int)) (by show 3 ≤ 1000000; decide) (fun _ _ _ => rfl) (fun _ _ _ => rfl) (by decide) rfl rfl (fun i ys h => Nat.le_of_eq h.length) Ns.nil ?_ ?_
  · intro C s₂ m₂ i v ys hi hv hext hn hm hR₂ htk₂
    obtain ⟨tv, rfl⟩ := items3 hv
    have hup : Ext h₄ s₂.heap := fun b o e => hext b o (hk₅ b o e)
    have hc3 := cell_at hc3 (hup _)
    have hDs := isl_at hDs (hup _)
    have W₂ := W₄.keeps hup
    obtain ⟨ta, hga⟩ := hss.at (i := i + 1 + 1) (Nat.succ_lt_succ (Nat.succ_lt_succ hi))
    obtain ⟨tb, hgb⟩ := hss.at (i := i + 1) (Nat.lt_succ_of_lt (Nat.succ_lt_succ hi))
    repeat' walk_at "lw"
    refine item_lst (i := i + 1 + 1) hDs rfl (big3' hi) hga ?_ (by with_unfolding_all rfl)
    repeat' walk_at "lw"
    refine item_lst (i := i + 1) hDs rfl (big3 hi) hgb ?_ (by with_unfolding_all rfl)
    repeat' walk_at "lw"
    exact ⟨W₂, op_sub W₂ R.mono fun h₃ tk₃ t₃ hk₃ => ⟨hR₂.snoc, _, _, rfl, hk₃⟩⟩
  intro Dt C h₆ tk₆ m' ts hC hD hDC hnC hacc hts hk₆
  refine lc_E (Rr := fun _ => True) hC hDC hnC hacc hk₆ True.intro (fun _ _ _ h => h) fun h₇ hDt _ hk₇ => ?_
  have hE : Ext h₄ h₇ := fun b o e => hk₇ b o (hk₅ b o e)
  have hDt : h₇.IsList Dt ts.toArray := ⟨_, hDt, rfl, _, rfl⟩
  have hne₁ := list_cell hDt (cell_at hc4 (hE _))
  have hne₂ := list_cell (isl_at hDw (hE _)) (cell_at hc4 (hE _))
  have hne₃ := list_cell (isl_at hDd (hE _)) (cell_at hc4 (hE _))
  have hne₄ := list_cell (isl_at hDs (hE _)) (cell_at hc4 (hE _))
  refine stC (F₄.keeps hE) (cell_at hc4 (hE _)) c4.symm (fresh_none (Nat.le_trans F.above (by omega))) (by with_unfolding_all rfl) (by with_unfolding_all rfl) (by with_unfolding_all rfl) fun h₈ F₈ hc4 hk₈ => ?_
  intro htk₈
  exact law_bends W R F₈ hl4 hne hl2 hnm htk₈ hm1 hw hd (isl_at hDw (fun o e => hk₈ _ o hne₂ (hE _ o e))) hWs (isl_at hDd (fun o e => hk₈ _ o hne₃ (hE _ o e))) hd2 hd3 hb2 hb3
    (isl_at hDs (fun o e => hk₈ _ o hne₄ (hE _ o e))) hss (isl_at hDt (fun o e => hk₈ _ o hne₁ e)) hts
    (cell_at hc2 (fun o e => hk₈ _ o c2.symm (hE _ o e))) (cell_at hc3 (fun o e => hk₈ _ o c1.symm (hE _ o e))) hc4 (cell_at hc5 (fun o e => hk₈ _ o c1 (hE _ o e))) fun h tk e => hQ h tk e
theorem three_le {a : Nat} (h : a ≤ 2000) : 3 * a ≤ 100000 := by omega
theorem strOk_tx {l : List Nat} (h : ∀ c ∈ l, c < 256) : PyData.strOk (tx l) = true := by
  unfold PyData.strOk tx
  rw [List.all_toArray, List.all_eq_true]
  intro c hc
  exact decide_eq_true (Nat.lt_trans (h c hc) (by decide))
set_option maxHeartbeats 4000000 in
theorem law_back {prog : Program} {w : World} {A : Around} {E : Value → Shared → Prop} {s : Shared} {g : Heap} {L Dw Dd : Addr} {m : PySem.Str → Option Value} {l nm : List Nat} {t tn : Tok} {ws ds : List Value} {d2 d3 : Int} {v3 v4 v5 : Option Value} {Q : Flow → Shared → Prop}
    (W : Wd w g) (R : Rm (A.deeper (lawE L)) 3 197) (F : Fr g L s.heap m) (hl4 : l.length ≤ 4) (hne : l ≠ []) (hl2 : ∀ c ∈ l, c < 256) (hnm : NmOk nm) (htk : 1 ≤ s.toks)
    (hm1 : m (PySem.Str.ofString "text") = some (.str (tx l) t)) (hw : m (PySem.Str.ofString "words") = some (.ref Dw)) (hd : m (PySem.Str.ofString "draws") = some (.ref Dd))
    (hDw : s.heap.IsList Dw ws.toArray) (hWs : Ws (told l nm) 5 ws)
    (hDd : s.heap.IsList Dd ds.toArray) (hd2 : ∃ t, ds[2]? = some (.int d2 t)) (hd3 : ∃ t, ds[3]? = some (.int d3 t)) (hb2 : 0 ≤ d2 ∧ d2 < 1000000000000) (hb3 : 0 ≤ d3 ∧ d3 < 1000000000000)
    (hc2 : s.heap.IsCell (L + 1 + 1) (some (.str (tx nm) tn))) (hc3 : s.heap.IsCell (L + 1 + 1 + 1) v3) (hc4 : s.heap.IsCell (L + 1 + 1 + 1 + 1) v4) (hc5 : s.heap.IsCell (L + 1 + 1 + 1 + 1 + 1) v5)
    (hQ : ∀ h' tk, Ext g h' → Q (.ret (.bool true)) { s with heap := h', toks := tk }) :
    wpAny (model prog w) (A.deeper (lawE L)) (execs (lawQ.1.drop 6) (lawE L)) Q E s := by
  dsimp only [lawQ, List.drop]
  walk_at "lw"
  refine wpAny_with_toks (n := 1) htk ?_
  repeat' walk_at "lw"
  with_reducible refine lc_eval (cl := [(PySem.Str.ofString "name", L + 1 + 1)]) (by with_unfolding_all rfl) rfl (by decide) (by intro _; with_unfolding_all rfl) ?_
  refine sl_lst ?_ (fun _ _ => by with_unfolding_all rfl)
  repeat' walk_at "lw"
  refine part_some ?_
  repeat' walk_at "lw"
  refine part_none ?_
  have hwl := hWs.length
  refine ⟨Dw, ws, some 1, none, rfl, hDw, .int _ _, .none, by omega, fun D₁ h₁ hD₁ hk₁ hle₁ => ?_⟩
  have hW1 := hWs.cut1
  refine lc_map (src_list R.hh hD₁) (Ws (told l nm)) (by rw [hW1.length]; decide) (fun _ _ _ => rfl) (fun _ _ _ => rfl) (by decide) rfl rfl (fun i ys h => Nat.le_of_eq h.length) .nil ?_ ?_
  · intro C s₂ m₂ i v ys hi hv hext hn hm hR htk₂
    obtain ⟨tv, rfl⟩ := hW1.at hv
    have hi4 : i < 4 := by rw [hW1.length] at hi; exact hi
    have hlen := told_len hne hl2 hnm.lt hl4 hnm.len i (Nat.le_of_lt hi4)
    have hlen1 := told_len hne hl2 hnm.lt hl4 hnm.len (i + 1) hi4
    have hlt := told_lt hne hl2 hnm.lt i
    have hcut : cutL (told l nm (i + 1)) (some ((nm.length : Int) + 5)) (some (-2)) = enc (told l nm i) := by
      rw [told_succ hne hl2 hnm.lt]
      exact cut_wr (told_ne hne nm i)
    have hc2' := cell_at hc2 (fun o e => hext _ o (hk₁ _ o e))
    have W₂ := ((W.keeps F.keep).keeps hk₁).keeps hext
    repeat' walk_at "lw"
    refine MethodCall_ ?_ (by with_unfolding_all rfl)
    refine sl_strE ?_ (fun _ _ => by with_unfolding_all rfl)
    repeat' walk_at "lw"
    refine part_some ?_
    repeat' walk_at "lw"
    refine len_tx (Nat.le_trans hnm.len (by decide)) fun t₃ k₃ => ?_
    repeat' walk_at "lw"
    refine part_some ?_
    repeat' walk_at "lw"
    refine P.neg_int ?_
    refine ⟨_, _, some ((nm.length : Int) + 5, _), some (-2, _), _, rfl, rfl, rfl, hcut, Nat.le_trans hlen1 (by decide), fun h₂ t₂ k₂ hk₂ hkk => ?_⟩
    have hk0 : k₂ ≠ 0 := Nat.ne_of_gt (Nat.lt_of_lt_of_le (Nat.succ_pos _) hkk)
    have W₂ := W₂.keeps hk₂
    with_reducible refine gm_str PySem.F.slot_str_replace PySem.F.type_str_replace ?_
    refine callWith_m ?_ (by with_unfolding_all rfl) (by with_unfolding_all rfl)
    repeat' walk_at "lw"
    have henc : (enc (told l nm i)).length ≤ 100000 := Nat.le_trans (enc_len _) (three_le hlen)
    refine replace_tx lit_us lit_e20 (by decide) henc hk0 (Nat.succ_ne_zero _) (Nat.ne_of_lt (Nat.lt_succ_self _)) W₂.nb (swp_enc hlt) fun t₄ k₄ => ?_
    repeat' walk_at "lw"
    refine ⟨W₂, decode_T2 W₂ R.mono (told_ne hne nm i) (Nat.le_trans hlen (by decide)) hlt fun h₅ tk₅ t₅ hk₅ => ⟨hR.snoc, h₅, _, rfl, fun b o e => hk₅ b o (hk₂ b o e)⟩⟩
  intro D C h₂ tk₂ m' ys hC hD hDC hnC hacc hR hk
  rw [hW1.length] at hR
  refine lc_E (Rr := fun _ => True) hC hDC hnC hacc hk True.intro (fun _ _ _ h => h) fun h₃ hDq _ hk₃ => ?_
  have hDq : h₃.IsList D ys.toArray := ⟨_, hDq, rfl, _, rfl⟩
  have hE : Ext s.heap h₃ := fun b o e => hk₃ b o (hk₁ b o e)
  have F₃ := F.keeps hE
  have hDw₃ := isl_at hDw (hE _)
  refine sl_lst ?_ (fun _ _ => by with_unfolding_all rfl)
  repeat' walk_at "lw"
  refine part_none ?_
  refine part_some ?_
  repeat' walk_at "lw"
  refine ⟨Dw, ws, none, some 4, rfl, hDw₃, .none, .int _ _, by rw [hwl]; decide, fun D₄ h₄ hD₄ hk₄ hle₄ => ?_⟩
  have hun : (A.deeper (lawE L)).units + 64 < cLine := Nat.lt_of_le_of_lt (Nat.add_le_add_left (by decide) _) R.un
  refine ne_strs_same (isl_at hDq (hk₄ _)) hD₄ hR hWs.cut4 ?_ hun ?_
  · intro y hy
    obtain ⟨k, _, rfl⟩ := List.mem_map.mp hy
    exact strOk_tx (told_lt hne hl2 hnm.lt k)
  have hE : Ext s.heap h₄ := fun b o e => hk₄ b o (hE b o e)
  repeat' walk_at "lw"
  refine fun htk₅ => ?_
  exact law_sizes W R (F.keeps hE) hl4 hne hl2 hnm htk₅ hm1 hw hd (isl_at hDw (hE _)) hWs (isl_at hDd (hE _)) hd2 hd3 hb2 hb3 (cell_at hc2 (hE _)) (cell_at hc3 (hE _)) (cell_at hc4 (hE _)) (cell_at hc5 (hE _)) fun h tk e => hQ h tk e
theorem Ws.last {f : Nat → List Nat} {n : Nat} {us : List Value} (h : Ws f (n + 1) us) : ∃ ys t, us = ys ++ [Value.str (tx (f n)) t] := by
  have hl := h.length
  have hne : us ≠ [] := fun e => by rw [e] at hl; cases hl
  have hg : us[n]? = some (us.getLast hne) := by
    rw [List.getLast_eq_getElem]
    have e : us.length - 1 = n := by omega
    simp [e]
  obtain ⟨t, e⟩ := h.at hg
  exact ⟨us.dropLast, t, by rw [← e, List.dropLast_concat_getLast hne]⟩
theorem Ws.one {f : Nat → List Nat} {l : List Nat} {t : Tok} (h : f 0 = l) : Ws f 1 [Value.str (tx l) t] := by
  subst h
  exact .cons _ _ .nil
section
variable {prog : Program} {w : World} {A : Around} {E : Value → Shared → Prop} {env : Env} {s : Shared}
theorem app_lst {D : Addr} {ws : List Value} {n : Nat} {x : Value} {Q : Value → Shared → Prop} (ho : s.heap.get? D = some { cls := .type "list", dict := none, data := .seq ws.toArray n, slots := #[] }) (hsz : ws.length ≤ 1000)
    (h : ∀ h', (∀ b o, b ≠ D → s.heap.get? b = some o → h'.get? b = some o) → h'.get? D = some { cls := .type "list", dict := none, data := .seq (ws ++ [x]).toArray (n + 1), slots := #[] } → Q .none { s with heap := h' }) :
    wpAny (model prog w) A (call (.builtin "list.append") [.ref D, x]) Q E s := by
  refine append_at ho (fun h' hs hD => h h' hs.extBut ?_) (by rw [PySem.sizeLine_eq]; simp; omega)
  rw [hD]
  simp
theorem law_written_told {l nm : List Nat} {i : Nat} {t u : Tok} {Q : Value → Shared → Prop} (W : Wd w s.heap) (Rm' : Rm A 2 6) (hne : l ≠ []) (hl4 : l.length ≤ 4) (hl2 : ∀ c ∈ l, c < 256) (hnm : NmOk nm) (hi : i < 4)
    (h : ∀ h' tk t', Ext s.heap h' → Q (.str (tx (told l nm (i + 1))) t') { s with heap := h', toks := tk }) : wpAny (model prog w) A (call (.ref 130) [.str (tx (told l nm i)) t, .str (tx nm) u]) Q E s := by
  refine law_written W Rm' (Nat.le_trans (told_len hne hl2 hnm.lt hl4 hnm.len i (Nat.le_of_lt hi)) (by decide)) (told_lt hne hl2 hnm.lt i) (Nat.le_trans hnm.len (by decide)) fun h' tk t' hk => ?_
  rw [← told_succ hne hl2 hnm.lt]
  exact h h' tk t' hk
theorem ne_same {a : List Nat} {t u : Tok} {Q : Value → Shared → Prop} (h : Q (.bool false) s) : wpAny (model prog w) A (compareOp .NotEq (.str (tx a) t) (.str (tx a) u)) Q E s :=
  neT rfl (by rw [decide_eq_true rfl]; exact h)
end
theorem six_ok {i : Nat} (h : i < 4) : i + 1 ≤ 10 := by omega
theorem thousand_ok {i n : Nat} (h : i < 4) (e : n = i + 1) : n ≤ 1000 := by omega
set_option maxHeartbeats 4000000 in
theorem law_words {prog : Program} {w : World} {A : Around} {E : Value → Shared → Prop} {s : Shared} {g : Heap} {L Dd : Addr} {m : PySem.Str → Option Value} {l nm : List Nat} {t tn : Tok} {ds : List Value} {d2 d3 : Int} {v3 v4 v5 : Option Value} {Q : Flow → Shared → Prop}
    (W : Wd w g) (R : Rm (A.deeper (lawE L)) 3 197) (F : Fr g L s.heap m) (hl4 : l.length ≤ 4) (hne : l ≠ []) (hl2 : ∀ c ∈ l, c < 256) (hnm : NmOk nm)
    (hm1 : m (PySem.Str.ofString "text") = some (.str (tx l) t)) (hd : m (PySem.Str.ofString "draws") = some (.ref Dd))
    (hDd : s.heap.IsList Dd ds.toArray) (hd2 : ∃ t, ds[2]? = some (.int d2 t)) (hd3 : ∃ t, ds[3]? = some (.int d3 t)) (hb2 : 0 ≤ d2 ∧ d2 < 1000000000000) (hb3 : 0 ≤ d3 ∧ d3 < 1000000000000)
    (hc2 : s.heap.IsCell (L + 1 + 1) (some (.str (tx nm) tn))) (hc3 : s.heap.IsCell (L + 1 + 1 + 1) v3) (hc4 : s.heap.IsCell (L + 1 + 1 + 1 + 1) v4) (hc5 : s.heap.IsCell (L + 1 + 1 + 1 + 1 + 1) v5)
    (hQ : ∀ h' tk, Ext g h' → Q (.ret (.bool true)) { s with heap := h', toks := tk }) :
    wpAny (model prog w) (A.deeper (lawE L)) (execs (lawQ.1.drop 4) (lawE L)) Q E s := by
  dsimp only [lawQ, List.drop]
  repeat' walk_at "lw"
  refine lst_new ?_
  repeat' walk_at "lw"
  refine ⟨by show 1 ≤ 1000; decide, fun Dw h₁ hDw hk₁ hle₁ => ?_⟩
  have F₁ := F.keeps hk₁
  have hnD : s.heap.get? Dw = none := fresh_none hle₁
  have hDwL : Dw ≠ L := fun e => by
    rw [e] at hle₁
    exact Nat.lt_irrefl _ (Nat.lt_of_lt_of_le F.ns.lt hle₁)
  refine stL F₁ (by with_unfolding_all rfl) (by with_unfolding_all rfl) (by with_unfolding_all rfl) fun h₂ F₂ hk₂ => ?_
  have hDw := hk₂ _ _ hDwL hDw
  have up : ∀ b o, b ≠ L → s.heap.get? b = some o → h₂.get? b = some o := fun b o hb e => hk₂ b o hb (hk₁ b o e)
  have hne₁ : Dd ≠ Dw := fun e => by obtain ⟨o, ho, _⟩ := hDd; rw [e, hnD] at ho; cases ho
  have cne : ∀ {c : Addr} {v}, s.heap.IsCell c v → c ≠ Dw := fun hc e => by obtain ⟨o, ho, _⟩ := hc; rw [e, hnD] at ho; cases ho
  have hn2 := cne hc2
  have hn3 := cne hc3
  have hn4 := cne hc4
  have hn5 := cne hc5
  have hDd := isl_at hDd (fun o e => up _ o (list_ns hDd F.ns) e)
  have hc2 := cell_at hc2 (fun o e => up _ o c2 e)
  have hc3 := cell_at hc3 (fun o e => up _ o c3 e)
  have hc4 := cell_at hc4 (fun o e => up _ o c4 e)
  have hc5 := cell_at hc5 (fun o e => up _ o c5 e)
  have hgD : g.get? Dw = none := by
    cases e : g.get? Dw with
    | none => rfl
    | some o => have := F.keep _ _ e; rw [hnD] at this; cases this
  clear up hk₂ hk₁ F₁ hle₁ hnD cne
  repeat' walk_at "lw"
  refine wpAny_with_toks (n := 1) (Nat.succ_le_succ (Nat.zero_le _)) ?_
  refine wpAny_For ?_ (fun _ => by with_unfolding_all rfl)
  repeat' walk_at "lw"
  refine call_range2 fun r ru rv rx tk₃ h₃ hr hk₃ hrn => ?_
  have F₃ := F₂.keeps hk₃
  have hDw₃ := hk₃ _ _ hDw
  have hrD : r ≠ Dw := fun e => by rw [e] at hrn; rw [show h₂.get? Dw = none from hrn] at hDw; cases hDw
  have hrL : r ≠ L := fun e => by
    obtain ⟨o, _, _, ho, _⟩ := F₂.ns
    rw [e] at hrn
    rw [show h₂.get? L = none from hrn] at ho
    cases ho
  refine for_go (src_range15 R.hh hr).n F₃ (by with_unfolding_all rfl) (by with_unfolding_all rfl) (by with_unfolding_all rfl) [Dw]
    (fun b hb => ⟨_, (List.mem_singleton.mp hb) ▸ hDw₃⟩) (fun b hb e => hrD (by injection e with e; rw [e, List.mem_singleton.mp hb])) (fun e => hrL (by injection e)) (fun b hb => (List.mem_singleton.mp hb) ▸ hgD)
    (fun i m h => m (PySem.Str.ofString "text") = some (.str (tx l) t) ∧ m (PySem.Str.ofString "draws") = some (.ref Dd) ∧ m (PySem.Str.ofString "words") = some (.ref Dw) ∧ ∃ ws n, h.get? Dw = some { cls := .type "list", dict := none, data := .seq ws.toArray n, slots := #[] } ∧ Ws (told l nm) (i + 1) ws)
    ?_ ⟨if_ne (by decide) hm1, if_ne (by decide) hd, if_pos rfl, _, _, hDw₃, Ws.one (told_zero l nm)⟩ ?_ ?_
  · rintro I i m h h' hI hk ⟨a, b, c, ws, n, hg, hw⟩
    exact ⟨a, b, c, ws, n, hk Dw _ (fun e => by rw [← e, hDw₃] at hI; cases hI) hDwL hg, hw⟩
  · rintro i v m₁ s₂ k hi hk ⟨tv, rfl⟩ hk₂ F₂' ⟨ht1, hd1, hw1, ws, n, hgD₂, hWs⟩ hold
    obtain ⟨ys, ty, rfl⟩ := hWs.last
    have hlen := hWs.length
    have hc2' := cell_at hc2 (fun o e => hold _ o c2 (fun q => hn2 (List.mem_singleton.mp q)) (hk₃ _ o e))
    have W₂ := W.keeps F₂'.keep
    repeat' walk_at "lw"
    refine wpAny_Expr ?_ (by with_unfolding_all rfl) (by with_unfolding_all rfl)
    refine MethodCall_ ?_ (by with_unfolding_all rfl)
    repeat' walk_at "lw"
    refine getMethod_list_append hgD₂ rfl rfl ?_
    refine callWith_m ?_ (by with_unfolding_all rfl) (by with_unfolding_all rfl)
    repeat' walk_at "lw"
    refine P.neg_int ?_
    refine last_lst ⟨_, hgD₂, rfl, _, rfl⟩ ?_ (by with_unfolding_all rfl)
    repeat' walk_at "lw"
    refine ⟨W₂, law_written_told W₂ R.mono hne hl4 hl2 hnm hi fun h₄ tk₄ t₄ hk₄ => ?_⟩
    have hgD₄ := hk₄ _ _ hgD₂
    have F₄ := F₂'.keeps hk₄
    repeat' walk_at "lw"
    refine app_lst hgD₄ (thousand_ok hi hlen) fun h₅ hk₅ hgD₅ => ?_
    have F₅ := fr_cell F₄ hDwL.symm hgD hk₅
    have hc2' := cell_at hc2' (fun o e => hk₅ _ o hn2 (hk₄ _ o e))
    have W₅ := W.keeps F₅.keep
    show wpAny _ _ (execs _ _) _ _ _
    repeat' walk_at "lw"
    refine P.neg_int ?_
    refine last_lst ⟨_, hgD₅, rfl, _, rfl⟩ ?_ (by with_unfolding_all rfl)
    repeat' walk_at "lw"
    refine ⟨W₅, law_told W₅ R.mono (Nat.le_trans hl4 (by decide)) hl2 (Nat.le_trans hnm.len (by decide)) hnm.lt (six_ok hi) fun h₆ tk₆ t₆ hk₆ => ?_⟩
    refine ne_same ?_
    repeat' walk_at "lw"
    exact ⟨rfl, h₆, tk₆, _, rfl, fun b o _ hb e => hk₆ b o (hk₅ b o (fun q => hb (List.mem_singleton.mpr q)) (hk₄ b o e)), F₅.keeps hk₆, if_ne (by decide) ht1, if_ne (by decide) hd1, if_ne (by decide) hw1, _, _, hk₆ _ _ hgD₅, hWs.snoc⟩
  · rintro h' tk' m' hle F' ⟨ht1, hd1, hw1, ws, n, hgD', hWs⟩ hold htk'
    exact law_back W R F' hl4 hne hl2 hnm htk' ht1 hw1 hd1 ⟨_, hgD', rfl, _, rfl⟩ hWs (isl_at hDd (fun o e => hold _ o (list_ns hDd F₂.ns) (fun q => hne₁ (List.mem_singleton.mp q)) (hk₃ _ o e))) hd2 hd3 hb2 hb3
      (cell_at hc2 (fun o e => hold _ o c2 (fun q => hn2 (List.mem_singleton.mp q)) (hk₃ _ o e))) (cell_at hc3 (fun o e => hold _ o c3 (fun q => hn3 (List.mem_singleton.mp q)) (hk₃ _ o e)))
      (cell_at hc4 (fun o e => hold _ o c4 (fun q => hn4 (List.mem_singleton.mp q)) (hk₃ _ o e))) (cell_at hc5 (fun o e => hold _ o c5 (fun q => hn5 (List.mem_singleton.mp q)) (hk₃ _ o e))) fun h tk e => hQ h tk e
set_option maxHeartbeats 4000000 in
theorem law_name {prog : Program} {w : World} {A : Around} {E : Value → Shared → Prop} {s : Shared} {g : Heap} {L Dd : Addr} {m : PySem.Str → Option Value} {l : List Nat} {t t0 t1 t2 t3 : Tok} {d0 d1 d2 d3 : Int} {v2 v3 v4 v5 : Option Value} {Q : Flow → Shared → Prop}
    (W : Wd w g) (R : Rm (A.deeper (lawE L)) 3 197) (F : Fr g L s.heap m) (hl4 : l.length ≤ 4) (hne : l ≠ []) (hl2 : ∀ c ∈ l, c < 256)
    (hm1 : m (PySem.Str.ofString "text") = some (.str (tx l) t)) (hd : m (PySem.Str.ofString "draws") = some (.ref Dd))
    (hDd : s.heap.IsList Dd [Value.int d0 t0, Value.int d1 t1, Value.int d2 t2, Value.int d3 t3].toArray) (hb2 : 0 ≤ d2 ∧ d2 < 1000000000000) (hb3 : 0 ≤ d3 ∧ d3 < 1000000000000)
    (hc2 : s.heap.IsCell (L + 1 + 1) v2) (hc3 : s.heap.IsCell (L + 1 + 1 + 1) v3) (hc4 : s.heap.IsCell (L + 1 + 1 + 1 + 1) v4) (hc5 : s.heap.IsCell (L + 1 + 1 + 1 + 1 + 1) v5)
    (hQ : ∀ h' tk, Ext g h' → Q (.ret (.bool true)) { s with heap := h', toks := tk }) :
    wpAny (model prog w) (A.deeper (lawE L)) (execs (lawQ.1.drop 3) (lawE L)) Q E s := by
  dsimp only [lawQ, List.drop]
  repeat' walk_at "lw"
  refine lst_strs nameL ?_
  repeat' walk_at "lw"
  refine ⟨.cons _ _ (.cons _ _ (.cons _ _ (.cons _ _ .nil))), (by show 4 ≤ 1000; decide), fun nys D₁ h₁ hS hDn hk₁ hle₁ => ?_⟩
  have F₁ := F.keeps hk₁
  have hDd₁ := isl_at hDd (hk₁ _)
  repeat' walk_at "lw"
  refine item_lst (i := 1) hDd₁ rfl (by decide) rfl ?_ (by with_unfolding_all rfl)
  repeat' walk_at "lw"
  refine floordiv_int (by decide) ?_
  repeat' walk_at "lw"
  refine mod_int' (by decide) ?_
  have hq0 : 0 ≤ ((d1.fdiv 256).fmod 4) := fmod_lo _ (by decide)
  have hq1 : ((d1.fdiv 256).fmod 4) < 4 := fmod_hi _ (by decide)
  obtain ⟨nm, tn, hnm, hget⟩ := name_of hS hq0 hq1
  refine item_lst (i := ((d1.fdiv 256).fmod 4).toNat) hDn (Int.toNat_of_nonneg hq0).symm ((Int.toNat_lt hq0).mpr (Int.lt_trans hq1 (by decide))) hget ?_ (by with_unfolding_all rfl)
  have hne₁ := list_cell hDd₁ (cell_at hc2 (hk₁ _))
  refine stC F₁ (cell_at hc2 (hk₁ _)) c2.symm (fresh_none (Nat.le_trans F.above (by omega))) (by with_unfolding_all rfl) (by with_unfolding_all rfl) (by with_unfolding_all rfl) fun h₂ F₂ hc2' hk₂ => ?_
  exact law_words W R F₂ hl4 hne hl2 hnm hm1 hd (isl_at hDd₁ (fun o e => hk₂ _ o hne₁ e)) ⟨_, rfl⟩ ⟨_, rfl⟩ hb2 hb3 hc2' (cell_at hc3 (fun o e => hk₂ _ o c1 (hk₁ _ o e))) (cell_at hc4 (fun o e => hk₂ _ o c2 (hk₁ _ o e))) (cell_at hc5 (fun o e => hk₂ _ o c3 (hk₁ _ o e))) fun h tk e => hQ h tk e
theorem ne_of_len {l : List Nat} (h : 1 ≤ l.length) : l ≠ [] := fun e => by rw [e] at h; cases h
theorem le_mil {n : Nat} (h : n ≤ 4) : n ≤ 1000000 := by omega
theorem le_thou {n : Nat} (h : n ≤ 4) : n ≤ 1000 := by omega
theorem nat256 {x : Int} (h0 : 0 ≤ x) (h1 : x < 256) : x.toNat < 256 := by omega
theorem int256 {x : Int} (h1 : x < 256) : x ≤ 1114111 := by omega
set_option maxHeartbeats 4000000 in
theorem law_text {prog : Program} {w : World} {A : Around} {E : Value → Shared → Prop} {s : Shared} {g : Heap} {L Dd : Addr} {m : PySem.Str → Option Value} {t0 t1 t2 t3 : Tok} {d0 d1 d2 d3 : Int} {v2 v3 v4 v5 : Option Value} {Q : Flow → Shared → Prop}
    (W : Wd w g) (R : Rm (A.deeper (lawE L)) 3 197) (F : Fr g L s.heap m)
    (hd : m (PySem.Str.ofString "draws") = some (.ref Dd))
    (hDd : s.heap.IsList Dd [Value.int d0 t0, Value.int d1 t1, Value.int d2 t2, Value.int d3 t3].toArray) (hb2 : 0 ≤ d2 ∧ d2 < 1000000000000) (hb3 : 0 ≤ d3 ∧ d3 < 1000000000000)
    (hc2 : s.heap.IsCell (L + 1 + 1) v2) (hc3 : s.heap.IsCell (L + 1 + 1 + 1) v3) (hc4 : s.heap.IsCell (L + 1 + 1 + 1 + 1) v4) (hc5 : s.heap.IsCell (L + 1 + 1 + 1 + 1 + 1) v5)
    (hQ : ∀ h' tk, Ext g h' → Q (.ret (.bool true)) { s with heap := h', toks := tk }) :
    wpAny (model prog w) (A.deeper (lawE L)) (execs (lawQ.1.drop 2) (lawE L)) Q E s := by
  dsimp only [lawQ, List.drop]
  repeat' walk_at "lw"
  refine MethodCall_ ?_ (by with_unfolding_all rfl)
  repeat' walk_at "lw"
  with_reducible refine gm_str PySem.F.slot_str_join PySem.F.type_str_join ?_
  refine callWith_m ?_ (by with_unfolding_all rfl) (by with_unfolding_all rfl)
  repeat' walk_at "lw"
  with_reducible refine lc_eval (cl := []) (by with_unfolding_all rfl) rfl (by decide) (by intro _; with_unfolding_all rfl) ?_
  refine sl_lst ?_ (fun _ _ => by with_unfolding_all rfl)
  repeat' walk_at "lw"
  refine part_none ?_
  refine part_some ?_
  repeat' walk_at "lw"
  refine item_lst (i := 0) hDd rfl (by decide) rfl ?_ (by with_unfolding_all rfl)
  repeat' walk_at "lw"
  refine floordiv_int (by decide) ?_
  repeat' walk_at "lw"
  refine mod_int' (by decide) ?_
  repeat' walk_at "lw"
  have hq0 : 0 ≤ ((d0.fdiv 256).fmod 4) := fmod_lo _ (by decide)
  refine ⟨Dd, _, none, some (1 + (d0.fdiv 256).fmod 4), rfl, hDd, .none, .int _ _, (by show 4 ≤ 1000000; decide), fun D₁ h₁ hD₁ hk₁ hle₁ => ?_⟩
  have hdI : IntsAre [Value.int d0 t0, Value.int d1 t1, Value.int d2 t2, Value.int d3 t3] [d0, d1, d2, d3] := .cons _ _ (.cons _ _ (.cons _ _ (.cons _ _ .nil)))
  have hcl := cut_upto (zs := [Value.int d0 t0, Value.int d1 t1, Value.int d2 t2, Value.int d3 t3]) hq0 rfl
  have hdI' : IntsAre (cutL [Value.int d0 t0, Value.int d1 t1, Value.int d2 t2, Value.int d3 t3] none (some (1 + (d0.fdiv 256).fmod 4))) (cutL [d0, d1, d2, d3] none (some (1 + (d0.fdiv 256).fmod 4))) := (hdI.drop _).take _
  generalize cutL [Value.int d0 t0, Value.int d1 t1, Value.int d2 t2, Value.int d3 t3] none (some (1 + (d0.fdiv 256).fmod 4)) = us at hD₁ hcl hdI'
  generalize cutL [d0, d1, d2, d3] none (some (1 + (d0.fdiv 256).fmod 4)) = es at hdI'
  refine lc_map (src_list R.hh hD₁) TxR (le_mil hcl.2) (fun _ _ _ => rfl) (fun _ _ _ => rfl) (by decide) rfl rfl ?_ ⟨[], .nil, rfl, fun _ h => nomatch h⟩ ?_ ?_
  · rintro i ws ⟨cs, hS, hl', _⟩
    rw [hS.length, List.length_map, List.length_map, hl']
    exact Nat.le_refl _
  · intro C s₂ m i v ws hi hv hext hnC hm hRt _
    obtain ⟨d, td, rfl, _⟩ := IntsAre.at hdI' i v hv
    have W₂ := ((W.keeps F.keep).keeps hk₁).keeps hext
    repeat' walk_at "lw"
    refine mod_int' (by decide) ?_
    have hm0 : 0 ≤ d.fmod 256 := fmod_lo _ (by decide)
    have hm1 : d.fmod 256 < 256 := fmod_hi _ (by decide)
    repeat' walk_at "lw"
    refine chr_of_range hm0 (int256 hm1) ?_
    exact ⟨hRt.snoc (c := (d.fmod 256).toNat) (nat256 hm0 hm1), _, _, rfl, fun _ _ e => e⟩
  intro D₂ C h₂ tk₂ m' ws hC hD hDC hnC hacc hRt hk₂
  refine lc_E (Rr := fun _ => True) hC hDC hnC hacc hk₂ True.intro (fun _ _ _ h => h) fun h₃ hD₃ _ hk₃ => ?_
  obtain ⟨l, hS, hll, hl256⟩ := hRt
  have hl4 : 1 ≤ l.length ∧ l.length ≤ 4 := by rw [hll]; exact hcl
  have hE : Ext s.heap h₃ := fun b o e => hk₃ b o (hk₁ b o e)
  repeat' walk_at "lw"
  refine join_one lit_nil ⟨_, hD₃, rfl, _, rfl⟩ hS (le_thou hl4.2) fun t₄ k₄ => ?_
  have F₃ := F.keeps hE
  refine stL F₃ (by with_unfolding_all rfl) (by with_unfolding_all rfl) (by with_unfolding_all rfl) fun h₄ F₄ hk₄ => ?_
  have up : ∀ b o, b ≠ L → s.heap.get? b = some o → h₄.get? b = some o := fun b o hb e => hk₄ b o hb (hE b o e)
  exact law_name W R F₄ hl4.2 (ne_of_len hl4.1) hl256 (if_pos rfl) (if_ne (by decide) hd) (isl_at hDd (fun o e => up _ o (list_ns hDd F.ns) e)) hb2 hb3 (cell_at hc2 (fun o e => up _ o c2 e)) (cell_at hc3 (fun o e => up _ o c3 e)) (cell_at hc4 (fun o e => up _ o c4 e)) (cell_at hc5 (fun o e => up _ o c5 e)) fun h tk e => hQ h tk e
theorem cut_len {α : Type} (x : List α) (lo hi : Option Int) : (cutL x lo hi).length ≤ x.length := by
  unfold cutL
  rw [List.length_take, List.length_drop]
  omega
set_option maxHeartbeats 4000000 in
theorem law_true {prog : Program} {w : World} {A : Around} {E : Value → Shared → Prop} {s : Shared} {D : Addr} {vs : List Value} {ns : List Int} {Q : Value → Shared → Prop} (W : Wd w s.heap) (R : Rm A 4 200) (hD : s.heap.IsList D vs.toArray) (hI : IntsAre vs ns) (hn : ns.length ≤ 63)
    (h : ∀ h' tk, Ext s.heap h' → Q (.bool true) { s with heap := h', toks := tk }) : wpAny (model prog w) A (call (.ref 135) [.ref D]) Q E s := by
  refine enterC (d := 3) (u := 197) (binds := [(PySem.Str.ofString "script", Value.ref D)]) W R (by with_unfolding_all rfl) (by with_unfolding_all rfl) (by rfl) (kindsX (by with_unfolding_all rfl) _) rfl rfl rfl fun h₁ tk F hc W' R' => ?_
  have hc1 : h₁.IsCell (s.heap.objs.size + 1) none := hc (PySem.Str.ofString "numbers") _ (by with_unfolding_all rfl)
  have hc2 : h₁.IsCell (s.heap.objs.size + 1 + 1) none := hc (PySem.Str.ofString "name") _ (by with_unfolding_all rfl)
  have hc3 : h₁.IsCell (s.heap.objs.size + 1 + 1 + 1) none := hc (PySem.Str.ofString "sizes") _ (by with_unfolding_all rfl)
  have hc4 : h₁.IsCell (s.heap.objs.size + 1 + 1 + 1 + 1) none := hc (PySem.Str.ofString "steps") _ (by with_unfolding_all rfl)
  have hc5 : h₁.IsCell (s.heap.objs.size + 1 + 1 + 1 + 1 + 1) none := hc (PySem.Str.ofString "signs") _ (by with_unfolding_all rfl)
  clear hc W'
  have hDl := isl_at hD (F.keep D)
  have hvl : vs.length ≤ 63 := by rw [hI.length]; exact hn
  repeat' walk_at "st"
  refine sl_lst ?_ (fun _ _ => by with_unfolding_all rfl)
  repeat' walk_at "st"
  refine part_none ?_
  refine part_some ?_
  repeat' walk_at "st"
  refine ⟨D, vs, none, some 60, rfl, hDl, .none, .int _ _, by omega, fun D₁ h₂ hD₁ hk₂ hle₁ => ?_⟩
  have hI₁ : IntsAre (cutL vs none (some 60)) (cutL ns none (some 60)) := by
    unfold cutL
    rw [hI.length]
    exact (hI.drop _).take _
  have F := F.keeps hk₂
  have hne₁ := list_cell hD₁ (cell_at hc1 (hk₂ _))
  refine stC F (cell_at hc1 (hk₂ _)) c1.symm (fresh_none (Nat.le_succ _)) (by with_unfolding_all rfl) (by with_unfolding_all rfl) (by with_unfolding_all rfl) fun h₃ F hc1 hk₃ => ?_
  have hc2 := cell_at (cell_at hc2 (hk₂ _)) (hk₃ _ · c1)
  have hc3 := cell_at (cell_at hc3 (hk₂ _)) (hk₃ _ · c2)
  have hc4 := cell_at (cell_at hc4 (hk₂ _)) (hk₃ _ · c3)
  have hc5 := cell_at (cell_at hc5 (hk₂ _)) (hk₃ _ · c4)
  have hD₁ : h₃.IsList D₁ _ := isl_at hD₁ (hk₃ _ · hne₁)
  clear hk₂ hk₃ hDl hle₁ hne₁
  have hyl : (cutL vs none (some 60)).length ≤ 100 := Nat.le_trans (cut_len _ _ _) (Nat.le_trans hvl (by decide))
  generalize hys : cutL vs none (some 60) = ys at hD₁ hI₁ hc1 hyl
  generalize cutL ns none (some 60) = ms at hI₁
  clear hys
  repeat' walk_at "st"
  with_reducible refine lc_assign (cl := [(PySem.Str.ofString "numbers", s.heap.objs.size + 1)]) (by with_unfolding_all rfl) (by with_unfolding_all rfl) rfl (by decide) (by intro _; with_unfolding_all rfl) ?_
  repeat' walk_at "st"
  refine wpAny_List ?_
  repeat' walk_at "st"
  refine ⟨by show 4 ≤ sizeLine; decide, ?_⟩
  repeat' walk_at "st"
  refine call_enumerate_list ⟨_, Heap.get?_push_size _ rfl, rfl, _, rfl⟩ fun h₄ he₄ hit₄ hsz₄ hk₄ => ?_
  have hzp : ∀ o, (h₃.push o).objs.size = h₃.objs.size + 1 := fun o => Heap.size_push ..
  refine lc_enum (s₀ := { s with heap := h₃, toks := tk }) R'.hh he₄ hit₄ (isl_at ⟨_, Heap.get?_push_size _ rfl, rfl, _, rfl⟩ (hk₄ _)) (Nat.succ_ne_self _) (Nat.ne_of_lt (Nat.lt_succ_of_lt (by rw [hzp]; exact Nat.lt_succ_self _))) (Nat.ne_of_lt (by rw [hzp]; exact Nat.lt_succ_self _))
    (fun b o eb => hk₄ b o (Heap.get?_push_of_some _ eb)) (fresh_none (by rw [hzp]; exact Nat.le_succ_of_le (Nat.le_succ _))) (fresh_none (by rw [hzp]; exact Nat.le_succ _)) DrR (by show 4 ≤ 1000000; decide) (fun _ _ _ => rfl) (fun _ _ _ => rfl) (by decide) rfl rfl rfl (by decide) ?_ ⟨[], .nil, rfl, fun _ h => nomatch h⟩ ?_ ?_
  · rintro i zs ⟨ns', hI', hl', _⟩
    rw [hI'.length, hl']
    exact Nat.le_refl _
  · intro C s₂ m i ti v zs hi hv hext hnC hm0 hm1 hRl
    obtain ⟨old, told', rfl⟩ : ∃ old told', v = Value.int old told' := by
      have hi4 : i < 4 := hi
      have h4 : i = 0 ∨ i = 1 ∨ i = 2 ∨ i = 3 := by omega
      rcases h4 with rfl | rfl | rfl | rfl <;> exact ⟨_, _, (Option.some.inj hv).symm⟩
    have hcn := cell_at hc1 (hext _)
    have hDn := isl_at hD₁ (hext _)
    have W₂ := (W.keeps F.keep).keeps hext
    repeat' walk_at "st"
    refine sl_lst3 ?_ (fun _ _ => by with_unfolding_all rfl)
    repeat' walk_at "st"
    refine part_some ?_
    repeat' walk_at "st"
    refine part_none ?_
    repeat' walk_at "st"
    refine ⟨D₁, ys, some (i : Int), none, 4, rfl, hDn, .int _ _, .none, .int _ _, by decide, by omega, fun D₃ h₆ hD₃ hk₆ => ?_⟩
    repeat' walk_at "st"
    refine sum_lst (vs := (slicePick ys.toArray (some (i : Int)) none (some 4)).toList) R'.hh (by simpa using hD₃) (IntsAre.pick hI₁ _ _ _) fun sv h₇ tk₇ t₇ hk₇ => ?_
    repeat' walk_at "st"
    refine pow_int (by decide) (by have := intBits_le_64 (k := 10) (by omega) (by omega); omega) ?_
    refine mod_int' (by decide) ?_
    refine ⟨hRl.snoc (fmod_lo _ (by decide)) (fmod_hi _ (by decide)), h₇, _, rfl, fun b o eb => hk₇ b o (hk₆ b o eb)⟩
  intro D₂ C h₅ tk₅ m' zs hC hD hDC hnC hacc hRl hk₅
  refine lc_A (s₁ := { s with heap := h₃, toks := tk }) (Rr := fun _ => True) (by with_unfolding_all rfl) (by with_unfolding_all rfl) (by with_unfolding_all rfl) hC hD hDC hnC hacc hk₅ F.ns True.intro (fun _ _ _ h => h) fun h₆ tk₆ hD₆ _ hn₆ hk₆ => ?_
  have F := fr_upd F hn₆ hk₆
  have hc2 := cell_at hc2 (hk₆ _ · c2)
  have hc3 := cell_at hc3 (hk₆ _ · c3)
  have hc4 := cell_at hc4 (hk₆ _ · c4)
  have hc5 := cell_at hc5 (hk₆ _ · c5)
  obtain ⟨ds, hdI, hdl, hdb⟩ := hRl
  replace hdl : ds.length = 4 := hdl
  have hDr : h₆.IsList D₂ zs.toArray := ⟨_, hD₆, rfl, _, rfl⟩
  obtain ⟨d0, d1, d2, d3, rfl⟩ : ∃ d0 d1 d2 d3, ds = [d0, d1, d2, d3] := by
    match ds, hdl with
    | [a, b, c, d], _ => exact ⟨a, b, c, d, rfl⟩
  obtain ⟨t0, z0, rfl, hdI1⟩ := hdI.cons_inv
  obtain ⟨t1, z1, rfl, hdI2⟩ := hdI1.cons_inv
  obtain ⟨t2, z2, rfl, hdI3⟩ := hdI2.cons_inv
  obtain ⟨t3, z3, rfl, hdI4⟩ := hdI3.cons_inv
  cases hdI4
  have hd2 := hdb d2 (by simp)
  have hd3 := hdb d3 (by simp)
  exact law_text W R' F (if_pos rfl) hDr hd2 hd3 hc2 hc3 hc4 hc5 fun h' tk e => h h' tk e
theorem g_law (P : Params) : nsIn (hd.heap_39 P) mainGlobals (PySem.Str.ofString "law") = some (some (.ref 135)) := by kernel_rfl
theorem ref_inj {a b : Addr} (h : some (Value.ref a) = some (Value.ref b)) : b = a := by injection h with h; injection h with h; exact h.symm
theorem rm_caller : Rm callerA 4 200 := ⟨by rfl, by decide, by decide⟩
end Mine
open PySem PySem.W PyProof.Rows PySem.Calls
set_option maxHeartbeats 8000000 in
theorem PySem.Challenge.cw_ku0006_01_holds : PySem.Challenge.rw_ku0006_01.Holds := by
  w_on
  o_law
  refine holds_open (q := Mine.qH) (loose := Mine.looseH) (Xt := fun s => xlAt Mine.qH [] s) (XP := XL Mine.qH []) (Yf := Hook.obs Mine.hookH) (Ya := Hook.val Mine.hookH) (YP := Hook.says Mine.hookH) (N := 40000) Mine.leftH (Hook.of Mine.hookH) (Hook.keeps Mine.hookH) (fun s e => xl_of s e) XL.keeps (by rfl) (by rfl) (by rfl) (fun s _ => recFacts_nil rfl) (by rfl) (by first | assumption | decide +kernel) (by decide +kernel) ⟨rfl, rfl, rfl, rfl, rfl, by decide +kernel⟩ ?hw ?hc
  case hw => w_witness2
  intro w s₀ s₁ mg mb G Y fa o pm cd doc dV kV ho hd hcd hD hmg hg args vals as hpre hlay hrd hwl hlo
  have KX := kIn_of Y
  have X := (Ground.X G).1
  have V := (Ground.X G).2
  refine Ground.open G ?_
  intro T B D TE TW
  try (refine guard_noD D (by decide +kernel) ?_; clear D)
  have efa : some (Value.ref 135) = some (Value.ref fa) := (mg_of KX (Top.g T) (Mine.g_law _)).symm.trans hmg
  have hfa : fa = 135 := Mine.ref_inj efa
  subst hfa
  wrow_args hpre hlay hrd hwl hlo
  refine Mine.law_true ⟨KX, _, _, _, _, topRead_of T⟩ Mine.rm_caller (by assumption) (by assumption) (by omega) fun h' tk hk => ?_
  refine GoodW.toG ⟨.inl ⟨_, _, [], rfl, raisesW_false ?_, .bool true, ?_, unshared_nil⟩, hk, rfl, hg⟩
  · wrow_none_raised
  · wrow_post
