/- How a name's text is read: the plain steps, and what lies in memory between them. -/
import Derived.Test.YtdacmcbipnnneaaDoorDnG
import Derived.Test.YtdacmcbipnnneaaDoorShelf
import Derived.Lib.Buffer
import Derived.Lib.OthersKept
import Derived.Lib.UnsafeStr
namespace Go.Proofs.YtdacmcbipnnneaaDoor
open Go.RowKit
set_option linter.unusedVariables false
set_option linter.unusedSimpArgs false

/-- The byte at a place. -/
def b8 (s : ByteArray) (i : Nat) : Nat := if h : i < s.size then s[i].toNat else 0
theorem b8_lt (s : ByteArray) (i : Nat) : b8 s i < 256 := by
  unfold b8
  split
  · exact UInt8.toNat_lt _
  · omega
def strOf (l : List UInt8) : ByteArray := ⟨l.toArray⟩

/-- What is known between two bytes. -/
structure PS where
  uts : Nat
  esc : Bool
  buf : List UInt8
  typ : ByteArray
  part : List At
  dn : List (List At)
def PS.text (p : PS) : ByteArray := strOf (p.buf.take (p.buf.length - p.uts))

def special (c : Nat) : Prop := c = 32 ∨ c = 34 ∨ c = 35 ∨ c = 43 ∨ c = 44 ∨ c = 59 ∨ c = 60 ∨ c = 61 ∨ c = 62 ∨ c = 92
/-- A hexadecimal digit (small letters). -/
def hexd (c v : Nat) : Prop := (48 ≤ c ∧ c ≤ 57 ∧ v = c - 48) ∨ (97 ≤ c ∧ c ≤ 102 ∧ v = c - 87)

/-- A text is read from a place on, to this name. -/
inductive Parses (s : ByteArray) (R : List (List At)) : Nat → PS → Prop
  | none (i : Nat) (p : PS) : i = s.size → p.buf = [] → R = p.dn → Parses s R i p
  | last (i : Nat) (p : PS) : i = s.size → p.buf ≠ [] → 0 < p.typ.size → R = p.dn ++ [p.part ++ [(p.typ, p.text)]] → Parses s R i p
  | escS (i : Nat) (p : PS) : i < s.size → p.esc = true → special (b8 s i) → Parses s R (i + 1) { p with uts := 0, esc := false, buf := p.buf ++ [UInt8.ofNat (b8 s i)] } → Parses s R i p
  | escH (i x y : Nat) (p : PS) : i + 1 < s.size → p.esc = true → hexd (b8 s i) x → hexd (b8 s (i + 1)) y → Parses s R (i + 2) { p with uts := 0, esc := false, buf := p.buf ++ [UInt8.ofNat (16 * x + y)] } → Parses s R i p
  | slash (i : Nat) (p : PS) : i < s.size → p.esc = false → b8 s i = 92 → Parses s R (i + 1) { p with uts := 0, esc := true } → Parses s R i p
  | eq (i : Nat) (p : PS) : i < s.size → p.esc = false → b8 s i = 61 → (i + 1 < s.size → b8 s (i + 1) ≠ 35) → Parses s R (i + 1) { p with uts := 0, buf := [], typ := p.text } → Parses s R i p
  | plus (i : Nat) (p : PS) : i < s.size → p.esc = false → b8 s i = 43 → 0 < p.typ.size → Parses s R (i + 1) { p with uts := 0, buf := [], typ := ⟨#[]⟩, part := p.part ++ [(p.typ, p.text)] } → Parses s R i p
  | comma (i : Nat) (p : PS) : i < s.size → p.esc = false → b8 s i = 44 → 0 < p.typ.size → Parses s R (i + 1) { p with uts := 0, buf := [], typ := ⟨#[]⟩, part := [], dn := p.dn ++ [p.part ++ [(p.typ, p.text)]] } → Parses s R i p
  | other (i : Nat) (p : PS) : i < s.size → p.esc = false → b8 s i ≠ 92 → b8 s i ≠ 61 → b8 s i ≠ 43 → b8 s i ≠ 44 → (b8 s i = 32 → p.buf ≠ []) → Parses s R (i + 1) { p with uts := if b8 s i = 32 then p.uts + 1 else 0, buf := p.buf ++ [UInt8.ofNat (b8 s i)] } → Parses s R i p

def PS.start : PS := ⟨0, false, [], ⟨#[]⟩, [], []⟩

/-- What is kept: blocks of cells but those that X names. -/
def Kp (X : Nat → TypeId → Prop) (w w' : World) : Prop := ∀ k cs t, ¬ X k t → w.heap[k]? = some (.cells cs t (0, 0)) → w'.heap[k]? = some (.cells cs t (0, 0))
theorem Kp.refl (X : Nat → TypeId → Prop) (w : World) : Kp X w w := fun _ _ _ _ h => h
theorem Kp.trans {X : Nat → TypeId → Prop} {a b c : World} (h : Kp X a b) (k : Kp X b c) : Kp X a c := fun i cs t hx hi => k i cs t hx (h i cs t hx hi)
theorem Kp.mono {X Y : Nat → TypeId → Prop} {a b : World} (h : Kp X a b) (hxy : ∀ k t, X k t → Y k t) : Kp Y a b := fun i cs t hx hi => h i cs t (fun hh => hx (hxy i t hh)) hi
theorem Kp.of_below {X : Nat → TypeId → Prop} {a b : World} (h : Below a.heap.size a b) : Kp X a b := fun i cs t _ hi => (h.block i (Lib.lt_of_heap hi)).trans hi
theorem Kp.alloc (X : Nat → TypeId → Prop) (w : World) (o : Obj) : Kp X w (w.alloc o) := Kp.of_below ((Below.refl _ _).alloc (Nat.le_refl _) _)
theorem Kp.drewN (X : Nat → TypeId → Prop) (w : World) (n : Nat) : Kp X w (w.drewN n) := fun _ _ _ _ h => h
theorem Kp.setCell (w : World) (T i : Nat) (v : Value) : Kp (fun k _ => k = T) w (w.setCell ⟨T, i, none⟩ v) := fun k cs t hk h => by rw [set_ne _ _ _ hk]; exact h
theorem Kp.grown {w w' : World} {r : Option Nat} (h : w.grownBy w' r) : Kp (fun k _ => some k = r) w w' := fun k cs t hk hh => (h.block k (Lib.lt_of_heap hh) hk).trans hh
theorem Kp.others {w w' : World} {F : Nat} (h : Lib.OthersKept 5 (some F) w w') : Kp (fun k t => k = F ∨ t = 5) w w' := fun k cs t hx hh => h k _ hh (fun e => hx (Or.inl (Option.some.inj e))) (fun c fz e => by injection e with _ e2; exact hx (Or.inr e2))

theorem own_kp {X : Nat → TypeId → Prop} {B E n : Nat} {w w' : World} {v : Value} {xs : List Value} (h : w.ownsRow B E 1 v n xs) (hk : Kp X w w') (hx : ∀ g, v.ownBlock = some g → ¬ X g E) : w'.ownsRow B E 1 v n xs := by
  obtain ⟨h1, h2 | ⟨g, cap, cur, hv, hbg, hc, hr⟩⟩ := h
  · exact ⟨h1, .inl h2⟩
  · exact ⟨h1, .inr ⟨g, cap, cur, hv, hbg, hk g cur E (hx g (by rw [hv]; rfl)) hc, hr⟩⟩

/-- Attributes that lie within bounds. -/
def AttrsIn (w : World) (lo hi : Nat) (ps : List Nat) (xs : List At) : Prop := ps.length = xs.length ∧ ∀ (i : Nat) p a, ps[i]? = some p → xs[i]? = some a → lo ≤ p ∧ p < hi ∧ w.heap[p]? = some (.cells #[.string a.1, .string a.2] 50 (0, 0))
theorem AttrsIn.kp {X : Nat → TypeId → Prop} {w w' : World} {lo hi : Nat} {ps : List Nat} {xs : List At} (h : AttrsIn w lo hi ps xs) (hk : Kp X w w') (hx : ∀ k, lo ≤ k → k < hi → ¬ X k 50) : AttrsIn w' lo hi ps xs :=
  ⟨h.1, fun i p a h1 h2 => have h3 := h.2 i p a h1 h2; ⟨h3.1, h3.2.1, hk p _ 50 (hx p h3.1 h3.2.1) h3.2.2⟩⟩
theorem AttrsIn.mono {w : World} {lo hi lo' hi' : Nat} {ps : List Nat} {xs : List At} (h : AttrsIn w lo hi ps xs) (h1 : lo' ≤ lo) (h2 : hi ≤ hi') : AttrsIn w lo' hi' ps xs :=
  ⟨h.1, fun i p a a1 a2 => have h3 := h.2 i p a a1 a2; ⟨by omega, by omega, h3.2.2⟩⟩
theorem AttrsIn.snoc {w : World} {lo hi p : Nat} {ps : List Nat} {xs : List At} {a : At} (h : AttrsIn w lo hi ps xs) (h1 : lo ≤ p) (h2 : p < hi) (hp : w.heap[p]? = some (.cells #[.string a.1, .string a.2] 50 (0, 0))) : AttrsIn w lo hi (ps ++ [p]) (xs ++ [a]) := by
  refine ⟨by simp [h.1], fun i q b e1 e2 => ?_⟩
  by_cases hi : i < ps.length
  · rw [List.getElem?_append_left hi] at e1
    rw [List.getElem?_append_left (by have := h.1; omega)] at e2
    exact h.2 i q b e1 e2
  · have h3 := (List.getElem?_eq_some_iff.1 e1).1
    simp at h3
    obtain rfl : i = ps.length := by omega
    rw [List.getElem?_append_right (Nat.le_refl _)] at e1
    rw [List.getElem?_append_right (by have := h.1; omega)] at e2
    have := h.1
    simp [this] at e1 e2
    subst e1; subst e2
    exact ⟨h1, h2, hp⟩

/-- A relative name that lies within bounds. -/
def RdnIn (w : World) (lo hi b : Nat) (xs : List At) : Prop :=
  lo ≤ b ∧ b < hi ∧ ∃ v ps, w.heap[b]? = some (.cells #[v] 48 (0, 0)) ∧ w.ownsRow lo 51 1 v xs.length (ps.map ptr) ∧ (∀ g, v.ownBlock = some g → g < hi) ∧ AttrsIn w lo hi ps xs
theorem RdnIn.kp {X : Nat → TypeId → Prop} {w w' : World} {lo hi b : Nat} {xs : List At} (h : RdnIn w lo hi b xs) (hk : Kp X w w') (hx : ∀ k t, k < hi → (t = 48 ∨ t = 50 ∨ t = 51) → ¬ X k t) : RdnIn w' lo hi b xs := by
  obtain ⟨h1, h2, v, ps, hb, ho, hg, ha⟩ := h
  exact ⟨h1, h2, v, ps, hk b _ 48 (hx b 48 h2 (Or.inl rfl)) hb, own_kp ho hk (fun g e => hx g 51 (hg g e) (Or.inr (Or.inr rfl))), hg, ha.kp hk (fun k _ h => hx k 50 h (Or.inr (Or.inl rfl)))⟩
theorem RdnIn.mono {w : World} {lo hi lo' hi' b : Nat} {xs : List At} (h : RdnIn w lo hi b xs) (h1 : lo' ≤ lo) (h2 : hi ≤ hi') : RdnIn w lo' hi' b xs := by
  obtain ⟨a, c, v, ps, hb, ho, hg, ha⟩ := h
  exact ⟨by omega, by omega, v, ps, hb, own_mono ho h1, fun g e => by have := hg g e; omega, ha.mono h1 h2⟩
theorem RdnIn.rdn {w : World} {lo hi b : Nat} {xs : List At} (h : RdnIn w lo hi b xs) : IsRdn w lo b xs := by
  obtain ⟨a, c, v, ps, hb, ho, hg, ha⟩ := h
  exact ⟨a, v, ps, hb, ho, ha.1, fun i p a e1 e2 => ⟨(ha.2 i p a e1 e2).1, (ha.2 i p a e1 e2).2.2⟩⟩
def RdnsIn (w : World) (lo hi : Nat) (bs : List Nat) (xss : List (List At)) : Prop := bs.length = xss.length ∧ ∀ (i : Nat) b xs, bs[i]? = some b → xss[i]? = some xs → RdnIn w lo hi b xs
theorem RdnsIn.kp {X : Nat → TypeId → Prop} {w w' : World} {lo hi : Nat} {bs : List Nat} {xss : List (List At)} (h : RdnsIn w lo hi bs xss) (hk : Kp X w w') (hx : ∀ k t, k < hi → (t = 48 ∨ t = 50 ∨ t = 51) → ¬ X k t) : RdnsIn w' lo hi bs xss := ⟨h.1, fun i b xs a c => (h.2 i b xs a c).kp hk hx⟩
theorem RdnsIn.mono {w : World} {lo hi lo' hi' : Nat} {bs : List Nat} {xss : List (List At)} (h : RdnsIn w lo hi bs xss) (h1 : lo' ≤ lo) (h2 : hi ≤ hi') : RdnsIn w lo' hi' bs xss := ⟨h.1, fun i b xs a c => (h.2 i b xs a c).mono h1 h2⟩
theorem RdnsIn.rdns {w : World} {lo hi : Nat} {bs : List Nat} {xss : List (List At)} (h : RdnsIn w lo hi bs xss) : IsRdns w lo bs xss := ⟨h.1, fun i b xs a c => (h.2 i b xs a c).rdn⟩
theorem RdnsIn.snoc {w : World} {lo hi p : Nat} {ps : List Nat} {xs : List (List At)} {a : List At} (h : RdnsIn w lo hi ps xs) (hp : RdnIn w lo hi p a) : RdnsIn w lo hi (ps ++ [p]) (xs ++ [a]) := by
  refine ⟨by simp [h.1], fun i q b e1 e2 => ?_⟩
  by_cases hi : i < ps.length
  · rw [List.getElem?_append_left hi] at e1
    rw [List.getElem?_append_left (by have := h.1; omega)] at e2
    exact h.2 i q b e1 e2
  · have h3 := (List.getElem?_eq_some_iff.1 e1).1
    simp at h3
    obtain rfl : i = ps.length := by omega
    rw [List.getElem?_append_right (Nat.le_refl _)] at e1
    rw [List.getElem?_append_right (by have := h.1; omega)] at e2
    have := h.1
    simp [this] at e1 e2
    subst e1; subst e2
    exact hp

/-- What lies in memory between two bytes. -/
structure Inv (w0 wr : World) (D F U R T hi : Nat) (val : ByteArray) (p : PS) : Prop where
  lD : w0.heap.size ≤ D
  lU : w0.heap.size ≤ U
  lhi : w0.heap.size ≤ hi
  lR : hi ≤ R
  lT : hi ≤ T
  hD : ∃ v bs, wr.heap[D]? = some (.cells #[v] 45 (0, 0)) ∧ wr.ownsRow w0.heap.size 49 1 v p.dn.length (bs.map ptr) ∧ RdnsIn wr w0.heap.size hi bs p.dn
  hR : ∃ v ps, wr.heap[R]? = some (.cells #[v] 48 (0, 0)) ∧ wr.ownsRow hi 51 1 v p.part.length (ps.map ptr) ∧ AttrsIn wr hi T ps p.part
  hT : wr.heap[T]? = some (.cells #[.string p.typ, .string val] 50 (0, 0))
  hU : wr.heap[U]? = some (.cells #[.int .i64 p.uts] 3 (0, 0))
  hF : Lib.IsBuffer 62 5 w0.heap.size F (Lib.byteCells p.buf) wr
  below : Below w0.heap.size w0 wr

theorem Inv.F_ne {w0 wr : World} {D F U R T hi : Nat} {val : ByteArray} {p : PS} (h : Inv w0 wr D F U R T hi val p) {k : Nat} {cs : Array Value} {t : TypeId} (hk : wr.heap[k]? = some (.cells cs t (0, 0))) (ht : t ≠ 62) : k ≠ F := by
  obtain ⟨_, v, lr, hb, _⟩ := h.hF
  rintro rfl
  rw [hb] at hk
  injection hk with hk
  injection hk with _ hk
  exact ht hk.symm

/-- Behind a deed on the buffer and the count of spaces alone. -/
theorem Inv.buffer {w0 wr w' : World} {D F U R T hi : Nat} {val : ByteArray} {p : PS} (h : Inv w0 wr D F U R T hi val p) (buf : List UInt8) (uts : Nat) (esc : Bool) (hk : Kp (fun k t => k = F ∨ t = 5 ∨ k = U) wr w')
    (hU : w'.heap[U]? = some (.cells #[.int .i64 uts] 3 (0, 0))) (hF : Lib.IsBuffer 62 5 w0.heap.size F (Lib.byteCells buf) w') (hb : Below w0.heap.size wr w') :
    Inv w0 w' D F U R T hi val { p with uts := uts, buf := buf, esc := esc } := by
  have hUt : ∀ {k : Nat} {cs : Array Value} {t : TypeId}, wr.heap[k]? = some (.cells cs t (0, 0)) → t ≠ 3 → k ≠ U := by
    intro k cs t hkk ht
    rintro rfl
    have := h.hU
    rw [hkk] at this
    injection this with this
    injection this with _ this
    exact ht this
  have hX : ∀ {k : Nat} {cs : Array Value} {t : TypeId}, wr.heap[k]? = some (.cells cs t (0, 0)) → t ≠ 3 → t ≠ 5 → t ≠ 62 → w'.heap[k]? = some (.cells cs t (0, 0)) := by
    intro k cs t hkk h3 h5 h62
    refine hk k cs t ?_ hkk
    rintro (e | e | e)
    · exact h.F_ne hkk h62 e
    · exact h5 e
    · exact hUt hkk h3 e
  have hKp : Kp (fun k t => t = 3 ∨ t = 5 ∨ t = 62) wr w' := fun k cs t hx hh => hX hh (fun e => hx (Or.inl e)) (fun e => hx (Or.inr (Or.inl e))) (fun e => hx (Or.inr (Or.inr e)))
  obtain ⟨v, bs, a1, a2, a3⟩ := h.hD
  obtain ⟨v2, ps, b1, b2, b3⟩ := h.hR
  exact ⟨h.lD, h.lU, h.lhi, h.lR, h.lT,
    ⟨v, bs, hX a1 (by decide) (by decide) (by decide), own_kp a2 hKp (fun g _ => by decide), a3.kp hKp (fun k t _ ht => by rcases ht with rfl | rfl | rfl <;> decide)⟩,
    ⟨v2, ps, hX b1 (by decide) (by decide) (by decide), own_kp b2 hKp (fun g _ => by decide), b3.kp hKp (fun k _ _ => by decide)⟩,
    hX h.hT (by decide) (by decide) (by decide), hU, hF, h.below.trans hb⟩
end Go.Proofs.YtdacmcbipnnneaaDoor
