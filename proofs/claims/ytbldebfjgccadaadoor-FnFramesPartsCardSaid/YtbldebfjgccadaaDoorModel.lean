/- The plain model of WebSocket frames that come piece by piece, and that the cuts do not matter. -/
namespace Frm
set_option linter.unusedVariables false
set_option linter.unusedSimpArgs false

/-- n bytes of what comes piece by piece. -/
def fill : Nat → List (List Nat) → Option (List Nat × List (List Nat))
  | n, [] => if n = 0 then some ([], []) else none
  | n, p :: r => if n ≤ p.length then some (p.take n, p.drop n :: r) else (fill (n - p.length) r).map fun x => (p ++ x.1, x.2)

/-- n bytes, of the piece at hand and of what comes. -/
def get (n : Nat) (cur : List Nat) (rest : List (List Nat)) : Option (List Nat × List Nat × List (List Nat)) :=
  if n ≤ cur.length then some (cur.take n, cur.drop n, rest) else (fill (n - cur.length) rest).map fun x => (cur ++ x.1, [], x.2)

theorem fill_flat : ∀ (n : Nat) (r : List (List Nat)), (fill n r = none ∧ r.flatten.length < n) ∨ ∃ b r', fill n r = some (b, r') ∧ n ≤ r.flatten.length ∧ b = r.flatten.take n ∧ r'.flatten = r.flatten.drop n
  | n, [] => by
    unfold fill
    by_cases h : n = 0
    · right; subst h; exact ⟨[], [], by simp, by simp, by simp, by simp⟩
    · left; rw [if_neg h]; exact ⟨rfl, by simp; omega⟩
  | n, p :: r => by
    unfold fill
    by_cases h : n ≤ p.length
    · right
      rw [if_pos h]
      refine ⟨_, _, rfl, by simp; omega, ?_, ?_⟩
      · rw [List.flatten_cons, List.take_append_of_le_length h]
      · rw [List.flatten_cons, List.flatten_cons, List.drop_append_of_le_length h]
    · rw [if_neg h]
      rcases fill_flat (n - p.length) r with ⟨e, hl⟩ | ⟨b, r', e, hl, h1, h2⟩
      · left; rw [e]; exact ⟨rfl, by rw [List.flatten_cons, List.length_append]; omega⟩
      · right
        rw [e]
        refine ⟨_, _, rfl, by rw [List.flatten_cons, List.length_append]; omega, ?_, ?_⟩
        · rw [List.flatten_cons, List.take_append, List.take_of_length_le (by omega), h1]
        · rw [List.flatten_cons, List.drop_append, List.drop_of_length_le (by omega), h2]; simp

theorem get_flat (n : Nat) (c : List Nat) (r : List (List Nat)) : (get n c r = none ∧ (c ++ r.flatten).length < n) ∨ ∃ b c' r', get n c r = some (b, c', r') ∧ n ≤ (c ++ r.flatten).length ∧ b = (c ++ r.flatten).take n ∧ c' ++ r'.flatten = (c ++ r.flatten).drop n := by
  unfold get
  by_cases h : n ≤ c.length
  · right
    rw [if_pos h]
    exact ⟨_, _, _, rfl, by simp; omega, by rw [List.take_append_of_le_length h], by rw [List.drop_append_of_le_length h]⟩
  · rw [if_neg h]
    rcases fill_flat (n - c.length) r with ⟨e, hl⟩ | ⟨b, r', e, hl, h1, h2⟩
    · left; rw [e]; exact ⟨rfl, by rw [List.length_append]; omega⟩
    · right
      rw [e]
      refine ⟨_, _, _, rfl, by rw [List.length_append]; omega, ?_, ?_⟩
      · rw [List.take_append, List.take_of_length_le (by omega), h1]
      · rw [List.drop_append, List.drop_of_length_le (by omega), h2]

/-- Bytes by a key, from a place of the key on. -/
def unmask (key : List Nat) : Nat → List Nat → List Nat
  | _, [] => []
  | p, x :: r => (x ^^^ key.getD (p % 4) 0) :: unmask key (p + 1) r
theorem unmask_length (key : List Nat) : ∀ (p : Nat) (l : List Nat), (unmask key p l).length = l.length
  | _, [] => rfl
  | p, x :: r => by simp [unmask, unmask_length key (p + 1) r]
theorem unmask_append (key : List Nat) : ∀ (p : Nat) (a b : List Nat), unmask key p (a ++ b) = unmask key p a ++ unmask key (p + a.length) b
  | _, [], b => by simp [unmask]
  | p, x :: a, b => by simp [unmask, unmask_append key (p + 1) a b]; congr 1; omega
theorem unmask_mod (key : List Nat) : ∀ (l : List Nat) (p q : Nat), p % 4 = q % 4 → unmask key p l = unmask key q l
  | [], _, _, _ => rfl
  | x :: r, p, q, h => by simp only [unmask]; rw [h, unmask_mod key r (p + 1) (q + 1) (by omega)]

def be (l : List Nat) : Nat := l.foldl (fun a x => a * 256 + x) 0

/-- How a close frame closes: its data's status; nothing: it is refused. valid: whether bytes are UTF-8. -/
def statusOk (n : Nat) : Bool := 1000 ≤ n && n < 5000 && n != 1004 && n != 1005 && n != 1006 && n != 1015 && !(1016 ≤ n && n ≤ 2999)
def closing (valid : List Nat → Bool) (l : List Nat) : Option Nat :=
  if l.length = 0 then some 1005 else if l.length = 1 then none else
    let n := be (l.take 2)
    if statusOk n then (if 2 < l.length ∧ valid (l.drop 2) = false then some 1007 else some n) else none

/-- What is read of a frame's head (and of a control frame, whole). -/
inductive Head where
  | bad
  | closed (status : Nat)
  | ctrl (cur : List Nat) (rest : List (List Nat))
  | data (ff : Bool) (rem : Nat) (key : List Nat) (cur : List Nat) (rest : List (List Nat))

/-- Behind the key. -/
def head4 (valid : List Nat → Bool) (op : Nat) (ff : Bool) (rem : Nat) (key : List Nat) (cur : List Nat) (rest : List (List Nat)) : Head :=
  if op < 8 then .data ff rem key cur rest
  else match get rem cur rest with
    | none => .bad
    | some (p, cur, rest) => if op = 8 then (match closing valid (unmask key 0 p) with | none => .bad | some n => .closed n) else .ctrl cur rest
def head3 (valid : List Nat → Bool) (op : Nat) (ff : Bool) (rem : Nat) (cur : List Nat) (rest : List (List Nat)) : Head :=
  match get 4 cur rest with
  | none => .bad
  | some (key, cur, rest) => head4 valid op ff rem key cur rest
def head2 (valid : List Nat → Bool) (op : Nat) (ff : Bool) (len : Nat) (cur : List Nat) (rest : List (List Nat)) : Head :=
  if len = 126 then match get 2 cur rest with
    | none => .bad
    | some (b, cur, rest) => head3 valid op ff (be b) cur rest
  else if len = 127 then match get 8 cur rest with
    | none => .bad
    | some (b, cur, rest) => if be b < 9223372036854775808 then head3 valid op ff (be b) cur rest else .bad
  else head3 valid op ff len cur rest
/-- How a frame's first bytes leave whether a message stands open; nothing: it may not stand here. -/
def mayBe (op : Nat) (ff final : Bool) (len : Nat) : Option Bool :=
  if op = 8 ∨ op = 9 ∨ op = 10 then (if len ≤ 125 ∧ final = true then some ff else none)
  else if op = 1 ∨ op = 2 then (if ff = true then some final else none)
  else if op = 0 then (if ff = true then none else some final)
  else none
def head1 (valid : List Nat → Bool) (ff : Bool) (b0 : Nat) (cur : List Nat) (rest : List (List Nat)) : Head :=
  if b0 / 16 % 8 ≠ 0 then .bad
  else match get 1 cur rest with
    | none => .bad
    | some (b, cur, rest) =>
      if be b < 128 then .bad
      else match mayBe (b0 % 16) ff (decide (128 ≤ b0)) (be b % 128) with
        | none => .bad
        | some ff => head2 valid (b0 % 16) ff (be b % 128) cur rest

/-- Where frames stand: ahead of a head, or within data. -/
inductive Mode where
  | head (ff : Bool)
  | body (ff : Bool) (rem : Nat) (key : List Nat) (pos : Nat)

abbrev Res := List (List Nat) × Nat × Bool

/-- The frames, piece by piece. -/
inductive Run (valid : List Nat → Bool) : Mode → List Nat → List (List Nat) → Res → Prop
  | done (m) : Run valid m [] [] ([], 0, true)
  | next (m p r res) : Run valid m p r res → Run valid m [] (p :: r) res
  | bad (ff x cur rest) : head1 valid ff x cur rest = .bad → Run valid (.head ff) (x :: cur) rest ([], 0, false)
  | closed (ff x cur rest n) : head1 valid ff x cur rest = .closed n → Run valid (.head ff) (x :: cur) rest ([], n, true)
  | ctrl (ff x cur rest cur' rest' res) : head1 valid ff x cur rest = .ctrl cur' rest' → Run valid (.head ff) cur' rest' res → Run valid (.head ff) (x :: cur) rest res
  | data (ff x cur rest ff' rem key cur' rest' res) : head1 valid ff x cur rest = .data ff' rem key cur' rest' → Run valid (.body ff' rem key 0) cur' rest' res → Run valid (.head ff) (x :: cur) rest res
  | body (ff rem key pos x cur rest out n ok) : Run valid (if rem ≤ cur.length + 1 then .head ff else .body ff (rem - (cur.length + 1)) key (pos + (cur.length + 1))) ((x :: cur).drop rem) rest (out, n, ok) →
      Run valid (.body ff rem key pos) (x :: cur) rest (unmask key pos ((x :: cur).take rem) :: out, n, ok)

/-- The frames of bytes as they are. -/
inductive Flat (valid : List Nat → Bool) : Mode → List Nat → List Nat × Nat × Bool → Prop
  | done (m) : Flat valid m [] ([], 0, true)
  | bad (ff x l) : head1 valid ff x l [] = .bad → Flat valid (.head ff) (x :: l) ([], 0, false)
  | closed (ff x l n) : head1 valid ff x l [] = .closed n → Flat valid (.head ff) (x :: l) ([], n, true)
  | ctrl (ff x l l' res) : head1 valid ff x l [] = .ctrl l' [] → Flat valid (.head ff) l' res → Flat valid (.head ff) (x :: l) res
  | data (ff x l ff' rem key l' res) : head1 valid ff x l [] = .data ff' rem key l' [] → Flat valid (.body ff' rem key 0) l' res → Flat valid (.head ff) (x :: l) res
  | part (ff rem key pos l) : l ≠ [] → l.length < rem → Flat valid (.body ff rem key pos) l (unmask key pos l, 0, true)
  | whole (ff rem key pos l d n ok) : l ≠ [] → rem ≤ l.length → Flat valid (.head ff) (l.drop rem) (d, n, ok) → Flat valid (.body ff rem key pos) l (unmask key pos (l.take rem) ++ d, n, ok)

theorem fill_len : ∀ (n : Nat) (r : List (List Nat)) (b : List Nat) (r' : List (List Nat)), fill n r = some (b, r') → r'.length ≤ r.length
  | n, [], b, r', h => by
    unfold fill at h
    split at h
    · cases h; exact Nat.le_refl _
    · cases h
  | n, p :: r, b, r', h => by
    unfold fill at h
    split at h
    · cases h; exact Nat.le_refl _
    · cases e : fill (n - p.length) r with
      | none => rw [e] at h; cases h
      | some x =>
        rw [e] at h
        cases h
        have := fill_len _ _ x.1 x.2 e
        simp
        omega
theorem get_some {n : Nat} {c : List Nat} {r : List (List Nat)} {b c' : List Nat} {r' : List (List Nat)} (h : get n c r = some (b, c', r')) :
    n ≤ (c ++ r.flatten).length ∧ b = (c ++ r.flatten).take n ∧ c' ++ r'.flatten = (c ++ r.flatten).drop n ∧ r'.length ≤ r.length := by
  rcases get_flat n c r with ⟨e, _⟩ | ⟨b2, c2, r2, e, h1, h2, h3⟩
  · rw [e] at h; cases h
  · rw [e] at h
    cases h
    refine ⟨h1, h2, h3, ?_⟩
    unfold get at e
    split at e
    · cases e; exact Nat.le_refl _
    · cases e2 : fill (n - c.length) r with
      | none => rw [e2] at e; cases e
      | some x =>
        rw [e2] at e
        cases e
        exact fill_len _ _ x.1 x.2 e2
theorem get_flat_eq (n : Nat) (c : List Nat) (r : List (List Nat)) : get n (c ++ r.flatten) [] = (get n c r).map fun x => (x.1, x.2.1 ++ x.2.2.flatten, []) := by
  rcases get_flat n c r with ⟨e, hl⟩ | ⟨b, c', r', e, h1, h2, h3⟩
  · rw [e]
    unfold get
    rw [if_neg (by omega)]
    unfold fill
    rw [if_neg (by omega)]
    rfl
  · rw [e]
    unfold get
    rw [if_pos h1]
    simp only [Option.map_some, h2, h3]

/-- Where all comes at once. -/
def Head.flat : Head → Head
  | .bad => .bad
  | .closed n => .closed n
  | .ctrl c r => .ctrl (c ++ r.flatten) []
  | .data ff rem key c r => .data ff rem key (c ++ r.flatten) []
theorem head4_flat (valid : List Nat → Bool) (op : Nat) (ff : Bool) (rem : Nat) (key c : List Nat) (r : List (List Nat)) : head4 valid op ff rem key (c ++ r.flatten) [] = (head4 valid op ff rem key c r).flat := by
  unfold head4
  split
  · rfl
  · rw [get_flat_eq]
    cases get rem c r with
    | none => rfl
    | some x =>
      obtain ⟨p, c', r'⟩ := x
      simp only [Option.map_some]
      split
      · cases closing valid (unmask key 0 p) <;> rfl
      · rfl
theorem head3_flat (valid : List Nat → Bool) (op : Nat) (ff : Bool) (rem : Nat) (c : List Nat) (r : List (List Nat)) : head3 valid op ff rem (c ++ r.flatten) [] = (head3 valid op ff rem c r).flat := by
  unfold head3
  rw [get_flat_eq]
  cases get 4 c r with
  | none => rfl
  | some x =>
    obtain ⟨p, c', r'⟩ := x
    simp only [Option.map_some]
    exact head4_flat _ _ _ _ _ _ _
theorem head2_flat (valid : List Nat → Bool) (op : Nat) (ff : Bool) (len : Nat) (c : List Nat) (r : List (List Nat)) : head2 valid op ff len (c ++ r.flatten) [] = (head2 valid op ff len c r).flat := by
  unfold head2
  split
  · rw [get_flat_eq]
    cases get 2 c r with
    | none => rfl
    | some x =>
      obtain ⟨p, c', r'⟩ := x
      simp only [Option.map_some]
      exact head3_flat _ _ _ _ _ _
  · split
    · rw [get_flat_eq]
      cases get 8 c r with
      | none => rfl
      | some x =>
        obtain ⟨p, c', r'⟩ := x
        simp only [Option.map_some]
        split
        · exact head3_flat _ _ _ _ _ _
        · rfl
    · exact head3_flat _ _ _ _ _ _
theorem head1_flat (valid : List Nat → Bool) (ff : Bool) (b0 : Nat) (c : List Nat) (r : List (List Nat)) : head1 valid ff b0 (c ++ r.flatten) [] = (head1 valid ff b0 c r).flat := by
  unfold head1
  split
  · rfl
  · rw [get_flat_eq]
    cases get 1 c r with
    | none => rfl
    | some x =>
      obtain ⟨p, c', r'⟩ := x
      simp only [Option.map_some]
      split
      · rfl
      · cases mayBe (b0 % 16) ff (decide (128 ≤ b0)) (be p % 128) with
        | none => rfl
        | some ff2 => exact head2_flat _ _ _ _ _ _

/-- What is left behind a head is no longer than what was. -/
def Head.within (n k : Nat) : Head → Prop
  | .ctrl c r => (c ++ r.flatten).length ≤ n ∧ r.length ≤ k
  | .data _ _ _ c r => (c ++ r.flatten).length ≤ n ∧ r.length ≤ k
  | _ => True
theorem Head.within.mono {n k n' k' : Nat} {h : Head} (hw : h.within n k) (hn : n ≤ n') (hk : k ≤ k') : h.within n' k' := by
  cases h with
  | bad => trivial
  | closed n => trivial
  | ctrl c r => exact ⟨Nat.le_trans hw.1 hn, Nat.le_trans hw.2 hk⟩
  | data a b c d e => exact ⟨Nat.le_trans hw.1 hn, Nat.le_trans hw.2 hk⟩
theorem left_le {n : Nat} {c : List Nat} {r : List (List Nat)} {b c' : List Nat} {r' : List (List Nat)} (h : get n c r = some (b, c', r')) : (c' ++ r'.flatten).length ≤ (c ++ r.flatten).length ∧ r'.length ≤ r.length := by
  obtain ⟨_, _, h3, h4⟩ := get_some h
  rw [h3, List.length_drop]
  exact ⟨Nat.sub_le _ _, h4⟩
theorem head4_within (valid : List Nat → Bool) (op : Nat) (ff : Bool) (rem : Nat) (key c : List Nat) (r : List (List Nat)) : (head4 valid op ff rem key c r).within (c ++ r.flatten).length r.length := by
  unfold head4
  split
  · exact ⟨Nat.le_refl _, Nat.le_refl _⟩
  · cases e : get rem c r with
    | none => trivial
    | some x =>
      obtain ⟨p, c', r'⟩ := x
      simp only
      split
      · cases closing valid (unmask key 0 p) <;> trivial
      · exact left_le e
theorem head3_within (valid : List Nat → Bool) (op : Nat) (ff : Bool) (rem : Nat) (c : List Nat) (r : List (List Nat)) : (head3 valid op ff rem c r).within (c ++ r.flatten).length r.length := by
  unfold head3
  cases e : get 4 c r with
  | none => trivial
  | some x =>
    obtain ⟨p, c', r'⟩ := x
    exact (head4_within _ _ _ _ _ _ _).mono (left_le e).1 (left_le e).2
theorem head2_within (valid : List Nat → Bool) (op : Nat) (ff : Bool) (len : Nat) (c : List Nat) (r : List (List Nat)) : (head2 valid op ff len c r).within (c ++ r.flatten).length r.length := by
  unfold head2
  split
  · cases e : get 2 c r with
    | none => trivial
    | some x =>
      obtain ⟨p, c', r'⟩ := x
      exact (head3_within _ _ _ _ _ _).mono (left_le e).1 (left_le e).2
  · split
    · cases e : get 8 c r with
      | none => trivial
      | some x =>
        obtain ⟨p, c', r'⟩ := x
        simp only
        split
        · exact (head3_within _ _ _ _ _ _).mono (left_le e).1 (left_le e).2
        · trivial
    · exact head3_within _ _ _ _ _ _
theorem head1_within (valid : List Nat → Bool) (ff : Bool) (b0 : Nat) (c : List Nat) (r : List (List Nat)) : (head1 valid ff b0 c r).within (c ++ r.flatten).length r.length := by
  unfold head1
  split
  · trivial
  · cases e : get 1 c r with
    | none => trivial
    | some x =>
      obtain ⟨p, c', r'⟩ := x
      simp only
      split
      · trivial
      · cases mayBe (b0 % 16) ff (decide (128 ≤ b0)) (be p % 128) with
        | none => trivial
        | some ff2 => exact (head2_within _ _ _ _ _ _).mono (left_le e).1 (left_le e).2

def Mode.mass : Mode → Nat
  | .head _ => 0
  | .body .. => 1
/-- Whatever comes, something is told. -/
theorem Run.total (valid : List Nat → Bool) : ∀ (n : Nat) (m : Mode) (c : List Nat) (r : List (List Nat)), 2 * (c ++ r.flatten).length + r.length + m.mass = n → ∃ res, Run valid m c r res := by
  intro n
  induction n using Nat.strongRecOn with
  | ind n ih =>
    intro m c r hn
    cases c with
    | nil =>
      cases r with
      | nil => exact ⟨_, Run.done m⟩
      | cons p r =>
        obtain ⟨res, h⟩ := ih (2 * (p ++ r.flatten).length + r.length + m.mass) (by simp at hn ⊢; omega) m p r rfl
        exact ⟨res, Run.next m p r res h⟩
    | cons x c =>
      cases m with
      | head ff =>
        have hw := head1_within valid ff x c r
        cases e : head1 valid ff x c r with
        | bad => exact ⟨_, Run.bad ff x c r e⟩
        | closed k => exact ⟨_, Run.closed ff x c r k e⟩
        | ctrl c' r' =>
          rw [e] at hw
          obtain ⟨h1, h2⟩ := hw
          simp only [List.cons_append, List.length_cons, Mode.mass] at hn
          obtain ⟨res, h⟩ := ih (2 * (c' ++ r'.flatten).length + r'.length + 0) (by omega) (.head ff) c' r' rfl
          exact ⟨res, Run.ctrl ff x c r c' r' res e h⟩
        | data ff' rem key c' r' =>
          rw [e] at hw
          obtain ⟨h1, h2⟩ := hw
          simp only [List.cons_append, List.length_cons, Mode.mass] at hn
          obtain ⟨res, h⟩ := ih (2 * (c' ++ r'.flatten).length + r'.length + 1) (by omega) (.body ff' rem key 0) c' r' rfl
          exact ⟨res, Run.data ff x c r ff' rem key c' r' res e h⟩
      | body ff rem key pos =>
        simp only [List.cons_append, List.length_cons, List.length_append, Mode.mass] at hn
        by_cases hr : rem ≤ c.length + 1
        · obtain ⟨⟨out, k, ok⟩, h⟩ := ih (2 * ((x :: c).drop rem ++ r.flatten).length + r.length + 0) (by simp only [List.length_append, List.length_drop, List.length_cons]; omega) (.head ff) ((x :: c).drop rem) r rfl
          exact ⟨_, Run.body ff rem key pos x c r out k ok (by rw [if_pos hr]; exact h)⟩
        · obtain ⟨⟨out, k, ok⟩, h⟩ := ih (2 * ((x :: c).drop rem ++ r.flatten).length + r.length + 1) (by simp only [List.length_append, List.length_drop, List.length_cons]; omega) (.body ff (rem - (c.length + 1)) key (pos + (c.length + 1))) ((x :: c).drop rem) r rfl
          exact ⟨_, Run.body ff rem key pos x c r out k ok (by rw [if_neg hr]; exact h)⟩

/-- .. and one thing alone. -/
theorem Run.det {valid : List Nat → Bool} {m : Mode} {c : List Nat} {r : List (List Nat)} {a b : Res} (h : Run valid m c r a) : Run valid m c r b → a = b := by
  induction h generalizing b with
  | done m => intro k; cases k; rfl
  | next m p r res _ ih => intro k; cases k with | next _ _ _ _ k => exact ih k
  | bad ff x c r e => intro k; cases k <;> simp_all
  | closed ff x c r n e => intro k; cases k <;> simp_all
  | ctrl ff x c r c' r' res e _ ih => intro k; cases k with
    | ctrl _ _ _ _ c2 r2 _ e2 k => rw [e] at e2; cases e2; exact ih k
    | _ => simp_all
  | data ff x c r ff' rem key c' r' res e _ ih => intro k; cases k with
    | data _ _ _ _ _ _ _ _ _ _ e2 k => rw [e] at e2; cases e2; exact ih k
    | _ => simp_all
  | body ff rem key pos x c r out n ok _ ih => intro k; cases k with
    | body _ _ _ _ _ _ _ out2 n2 ok2 k => have := ih k; simp_all

theorem Flat.det {valid : List Nat → Bool} {m : Mode} {l : List Nat} {a b : List Nat × Nat × Bool} (h : Flat valid m l a) : Flat valid m l b → a = b := by
  induction h generalizing b with
  | done m => intro k; cases k <;> first | rfl | contradiction
  | bad ff x l e => intro k; cases k <;> simp_all
  | closed ff x l n e => intro k; cases k <;> simp_all
  | ctrl ff x l l' res e _ ih => intro k; cases k with
    | ctrl _ _ _ _ _ e2 k => rw [e] at e2; cases e2; exact ih k
    | _ => simp_all
  | data ff x l ff' rem key l' res e _ ih => intro k; cases k with
    | data _ _ _ _ _ _ _ _ e2 k => rw [e] at e2; cases e2; exact ih k
    | _ => simp_all
  | part ff rem key pos l h1 h2 => intro k; cases k with
    | done => contradiction
    | part => rfl
    | whole => omega
  | whole ff rem key pos l d n ok h1 h2 _ ih => intro k; cases k with
    | done => contradiction
    | part => omega
    | whole _ _ _ _ _ _ _ _ _ _ k => have := ih k; simp_all

/-- The cuts do not matter. -/
theorem Run.flat {valid : List Nat → Bool} {m : Mode} {c : List Nat} {r : List (List Nat)} {a : Res} (h : Run valid m c r a) : Flat valid m (c ++ r.flatten) (a.1.flatten, a.2.1, a.2.2) := by
  induction h with
  | done m => exact Flat.done m
  | next m p r res _ ih => simpa using ih
  | bad ff x c r e => exact Flat.bad ff x (c ++ r.flatten) (by rw [head1_flat, e]; rfl)
  | closed ff x c r n e => exact Flat.closed ff x (c ++ r.flatten) n (by rw [head1_flat, e]; rfl)
  | ctrl ff x c r c' r' res e _ ih => exact Flat.ctrl ff x (c ++ r.flatten) _ _ (by rw [head1_flat, e]; rfl) ih
  | data ff x c r ff' rem key c' r' res e _ ih => exact Flat.data ff x (c ++ r.flatten) ff' rem key _ _ (by rw [head1_flat, e]; rfl) ih
  | body ff rem key pos x c r out n ok _ ih =>
    simp only [List.flatten_cons]
    by_cases hr : rem ≤ c.length + 1
    · rw [if_pos hr] at ih
      have e1 : ((x :: c) ++ r.flatten).take rem = (x :: c).take rem := List.take_append_of_le_length (by simpa using hr)
      have e2 : ((x :: c) ++ r.flatten).drop rem = (x :: c).drop rem ++ r.flatten := List.drop_append_of_le_length (by simpa using hr)
      rw [← e1]
      exact Flat.whole ff rem key pos _ _ n ok (by simp) (by simp; omega) (by rw [e2]; exact ih)
    · rw [if_neg hr] at ih
      have e0 : (x :: c).drop rem = [] := List.drop_of_length_le (by simp; omega)
      have e1 : (x :: c).take rem = x :: c := List.take_of_length_le (by simp; omega)
      rw [e0, List.nil_append] at ih
      rw [e1]
      generalize r.flatten = l at ih
      simp only at ih
      generalize out.flatten = d at ih
      cases ih with
      | done => simpa using Flat.part ff rem key pos (x :: c) (by simp) (by simp; omega)
      | part _ _ _ _ _ h1 h2 =>
        have := Flat.part (valid := valid) ff rem key pos (x :: c ++ l) (by simp) (by simp; omega)
        rw [unmask_append] at this
        exact this
      | whole _ _ _ _ _ d2 _ _ h1 h2 h3 =>
        have e3 : (x :: c ++ l).take rem = (x :: c) ++ l.take (rem - (c.length + 1)) := by rw [List.take_append, List.take_of_length_le (by simp; omega)]; rfl
        have e4 : (x :: c ++ l).drop rem = l.drop (rem - (c.length + 1)) := by rw [List.drop_append, List.drop_of_length_le (by simp; omega)]; rfl
        have := Flat.whole (valid := valid) ff rem key pos (x :: c ++ l) d2 n ok (by simp) (by simp; omega) (by rw [e4]; exact h3)
        rw [e3, unmask_append, List.append_assoc] at this
        exact this
theorem get_here (xs ys : List Nat) (k : Nat) (h : xs.length = k) : get k (xs ++ ys) [] = some (xs, ys, []) := by
  unfold get
  rw [if_pos (by simp; omega)]
  subst h
  simp
theorem unmask_twice (key : List Nat) : ∀ (p : Nat) (l : List Nat), unmask key p (unmask key p l) = l
  | _, [] => rfl
  | p, x :: r => by
    simp only [unmask, unmask_twice key (p + 1) r]
    rw [Nat.xor_assoc, Nat.xor_self, Nat.xor_zero]

/-- A frame's length, written. -/
def lens (n : Nat) : List Nat := if n < 126 then [128 + n] else [254, n / 256, n % 256]
/-- A frame, written. -/
def wr (op : Nat) (fin : Bool) (key data : List Nat) : List Nat := (op + if fin = true then 128 else 0) :: (lens data.length ++ (key ++ unmask key 0 data))
/-- What is read of a frame that is written. -/
def readsAs (valid : List Nat → Bool) (op : Nat) (ff fin : Bool) (key data more : List Nat) : Head :=
  match mayBe op ff fin (if data.length < 126 then data.length else 126) with
  | none => .bad
  | some ff' => if op < 8 then .data ff' data.length key (unmask key 0 data ++ more) [] else if op = 8 then (match closing valid data with | none => .bad | some n => .closed n) else .ctrl more []
theorem head1_wr (valid : List Nat → Bool) (op : Nat) (ff fin : Bool) (key data more : List Nat) (ho : op < 16) (hk : key.length = 4) (hd : data.length < 65536) :
    head1 valid ff (op + if fin = true then 128 else 0) (lens data.length ++ (key ++ (unmask key 0 data ++ more))) [] = readsAs valid op ff fin key data more := by
  have e1 : ¬ ((op + if fin = true then 128 else 0) / 16 % 8 ≠ 0) := by cases fin <;> simp <;> omega
  have e2 : (op + if fin = true then 128 else 0) % 16 = op := by cases fin <;> simp <;> omega
  have e3 : decide (128 ≤ op + if fin = true then 128 else 0) = fin := by cases fin <;> simp <;> omega
  have h3 : ∀ ff', head3 valid op ff' data.length (key ++ (unmask key 0 data ++ more)) [] = if op < 8 then .data ff' data.length key (unmask key 0 data ++ more) [] else if op = 8 then (match closing valid data with | none => .bad | some n => .closed n) else .ctrl more [] := by
    intro ff'
    unfold head3
    rw [get_here key _ 4 hk]
    simp only
    unfold head4
    split
    · rfl
    · rw [get_here (unmask key 0 data) more _ (unmask_length _ _ _)]
      simp only
      rw [unmask_twice]
  unfold head1 readsAs
  rw [if_neg e1, e2, e3]
  unfold lens
  by_cases h : data.length < 126
  · rw [if_pos h, if_pos h]
    rw [get_here [128 + data.length] _ 1 rfl]
    simp only
    have b1 : be [128 + data.length] = 128 + data.length := by simp [be]
    rw [b1, if_neg (by omega), show (128 + data.length) % 128 = data.length by omega]
    cases mayBe op ff fin data.length with
    | none => rfl
    | some ff' =>
      simp only
      unfold head2
      rw [if_neg (by omega), if_neg (by omega)]
      exact h3 ff'
  · rw [if_neg h, if_neg h]
    rw [show ([254, data.length / 256, data.length % 256] : List Nat) ++ (key ++ (unmask key 0 data ++ more)) = [254] ++ ([data.length / 256, data.length % 256] ++ (key ++ (unmask key 0 data ++ more))) from rfl]
    rw [get_here [254] _ 1 rfl]
    simp only
    have b1 : be [254] = 254 := rfl
    rw [b1, if_neg (by omega), show 254 % 128 = 126 by rfl]
    cases mayBe op ff fin 126 with
    | none => rfl
    | some ff' =>
      simp only
      unfold head2
      rw [if_pos rfl, get_here [data.length / 256, data.length % 256] _ 2 rfl]
      simp only
      have b2 : be [data.length / 256, data.length % 256] = data.length := by simp [be]; omega
      rw [b2]
      exact h3 ff'

/-- Frames, written one behind the other. -/
structure Fr where
  op : Nat
  fin : Bool
  key : List Nat
  data : List Nat
def Fr.w (f : Fr) : List Nat := wr f.op f.fin f.key f.data
def wrs : List Fr → List Nat
  | [] => []
  | f :: l => f.w ++ wrs l
/-- What frames that may stand so are read as: their data, and how they close. ff: no message stands open. -/
inductive Right (valid : List Nat → Bool) : Bool → List Fr → List Nat → Nat → Prop
  | none (ff) : Right valid ff [] [] 0
  | data (ff ff' f l d n) : f.op < 8 → f.key.length = 4 → f.data.length < 65536 → mayBe f.op ff f.fin (if f.data.length < 126 then f.data.length else 126) = some ff' → Right valid ff' l d n → Right valid ff (f :: l) (f.data ++ d) n
  | ctrl (ff f l d n) : f.op = 9 ∨ f.op = 10 → f.key.length = 4 → f.data.length ≤ 125 → f.fin = true → Right valid ff l d n → Right valid ff (f :: l) d n
  | close (ff f n) : f.op = 8 → f.key.length = 4 → f.data.length ≤ 125 → f.fin = true → closing valid f.data = some n → Right valid ff [f] [] n
theorem flat_wrs (valid : List Nat → Bool) {ff : Bool} {l : List Fr} {d : List Nat} {n : Nat} (h : Right valid ff l d n) : Flat valid (.head ff) (wrs l) (d, n, true) := by
  induction h with
  | none ff => exact Flat.done _
  | data ff ff' f l d n h1 h2 h3 h4 _ ih =>
    have hh := head1_wr valid f.op ff f.fin f.key f.data (wrs l) (by omega) h2 h3
    unfold readsAs at hh
    rw [h4] at hh
    simp only at hh
    rw [if_pos h1] at hh
    have e : wrs (f :: l) = (f.op + if f.fin = true then 128 else 0) :: (lens f.data.length ++ (f.key ++ (unmask f.key 0 f.data ++ wrs l))) := by simp [wrs, Fr.w, wr, List.append_assoc]
    rw [e]
    refine Flat.data ff _ _ ff' f.data.length f.key _ _ hh ?_
    have hu := unmask_length f.key 0 f.data
    by_cases hz : unmask f.key 0 f.data ++ wrs l = []
    · have h5 : f.data = [] := by
        have := (List.append_eq_nil_iff.1 hz).1
        rw [this] at hu
        exact List.eq_nil_of_length_eq_zero hu.symm
      have h6 := (List.append_eq_nil_iff.1 hz).2
      rw [h6] at ih
      rw [hz, h5]
      cases ih with
      | done => exact Flat.done _
    · have := Flat.whole (valid := valid) ff' f.data.length f.key 0 (unmask f.key 0 f.data ++ wrs l) d n true hz (by rw [List.length_append]; omega) (by rw [List.drop_append_of_le_length (by omega), List.drop_of_length_le (by omega)]; exact ih)
      rw [List.take_append_of_le_length (by omega), List.take_of_length_le (by omega), unmask_twice] at this
      exact this
  | ctrl ff f l d n h1 h2 h3 h4 _ ih =>
    have hh := head1_wr valid f.op ff f.fin f.key f.data (wrs l) (by omega) h2 (by omega)
    unfold readsAs at hh
    have hm : mayBe f.op ff f.fin (if f.data.length < 126 then f.data.length else 126) = some ff := by
      have e0 : (if f.data.length < 126 then f.data.length else 126) = f.data.length := if_pos (by omega)
      rw [e0]
      unfold mayBe
      rw [if_pos (by omega), if_pos ⟨h3, h4⟩]
    rw [hm] at hh
    simp only at hh
    rw [if_neg (show ¬ f.op < 8 by omega), if_neg (show ¬ f.op = 8 by omega)] at hh
    have e : wrs (f :: l) = (f.op + if f.fin = true then 128 else 0) :: (lens f.data.length ++ (f.key ++ (unmask f.key 0 f.data ++ wrs l))) := by simp [wrs, Fr.w, wr, List.append_assoc]
    rw [e]
    exact Flat.ctrl ff _ _ _ _ hh ih
  | close ff f n h1 h2 h3 h4 h5 =>
    have hh := head1_wr valid f.op ff f.fin f.key f.data [] (by omega) h2 (by omega)
    unfold readsAs at hh
    have hm : mayBe f.op ff f.fin (if f.data.length < 126 then f.data.length else 126) = some ff := by
      have e0 : (if f.data.length < 126 then f.data.length else 126) = f.data.length := if_pos (by omega)
      rw [e0]
      unfold mayBe
      rw [if_pos (by omega), if_pos ⟨h3, h4⟩]
    rw [hm] at hh
    simp only at hh
    rw [if_neg (show ¬ f.op < 8 by omega), if_pos h1, h5] at hh
    have e : wrs [f] = (f.op + if f.fin = true then 128 else 0) :: (lens f.data.length ++ (f.key ++ (unmask f.key 0 f.data ++ []))) := by simp [wrs, Fr.w, wr]
    rw [e]
    exact Flat.closed ff _ _ n hh
end Frm
