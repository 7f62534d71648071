/-
  PLAIN LAWS, no Go in sight: a binary search tree told by local facts. Node i has a ghost key 'g i' and an open interval (lo i, hi i); a left child's interval is (lo i, g i), a right child's (g i, hi i).
-/
namespace Go.Proofs.Qxb6604263a.Tr

structure Nd where
  k : Int
  l : Option Nat
  r : Option Nat
  p : Option Nat

def LO : Int := -9223372036854775809
def HI : Int := 9223372036854775808

structure Good (D : Nat → Prop) (S : Nat → Nd) (g : Nat → Int) (dep : Nat → Nat) (lo hi : Nat → Int) : Prop where
  key : ∀ i, D i → lo i < g i ∧ g i < hi i
  par : ∀ i q, D i → (S i).p = some q → D q ∧ dep i = dep q + 1 ∧ ((S q).l = some i ∨ (S q).r = some i)
  left : ∀ i c, D i → (S i).l = some c → D c ∧ (S c).p = some i ∧ lo c = lo i ∧ hi c = g i
  right : ∀ i c, D i → (S i).r = some c → D c ∧ (S c).p = some i ∧ lo c = g i ∧ hi c = hi i
  top : ∀ i, D i → (S i).p = none → dep i = 0
  one : ∀ i j, D i → D j → (S i).p = none → (S j).p = none → i = j

section
variable {D : Nat → Prop} {S : Nat → Nd} {g : Nat → Int} {dep : Nat → Nat} {lo hi : Nat → Int}

/-- A node's side under its parent. -/
def sideOf (S : Nat → Nd) (q x : Nat) : Int := if (S q).l = some x then 0 else 1

theorem Good.notBoth (h : Good D S g dep lo hi) {q x : Nat} (hq : D q) (h1 : (S q).l = some x) (h2 : (S q).r = some x) : False := by
  have a := h.left q x hq h1
  have b := h.right q x hq h2
  have c := h.key x a.1
  omega

/-- x is a or lies above a; s: the side from which x was come to (-1: x is a). -/
structure At (D : Nat → Prop) (g : Nat → Int) (dep : Nat → Nat) (lo hi : Nat → Int) (a x : Nat) (s : Int) : Prop where
  dom : D x
  low : lo x < g a
  high : g a < hi x
  deep : dep x ≤ dep a
  way : (s = -1 ∧ x = a) ∨ (s = 0 ∧ g a < g x) ∨ (s = 1 ∧ g x < g a)

theorem At.start (h : Good D S g dep lo hi) {a : Nat} (ha : D a) : At D g dep lo hi a a (-1) :=
  ⟨ha, (h.key a ha).1, (h.key a ha).2, Nat.le_refl _, .inl ⟨rfl, rfl⟩⟩

theorem At.up (h : Good D S g dep lo hi) {a x q : Nat} {s : Int} (hx : At D g dep lo hi a x s) (hp : (S x).p = some q) : At D g dep lo hi a q (sideOf S q x) := by
  obtain ⟨hq, hd, hs⟩ := h.par x q hx.dom hp
  have hk := h.key x hx.dom
  have hkq := h.key q hq
  have h1 := hx.low
  have h2 := hx.high
  have h3 := hx.deep
  unfold sideOf
  by_cases hl : (S q).l = some x
  · rw [if_pos hl]
    have := h.left q x hq hl
    exact ⟨hq, by omega, by omega, by omega, .inr (.inl ⟨rfl, by omega⟩)⟩
  · rw [if_neg hl]
    have hr : (S q).r = some x := by rcases hs with hs | hs; exact absurd hs hl; exact hs
    have := h.right q x hq hr
    exact ⟨hq, by omega, by omega, by omega, .inr (.inr ⟨rfl, by omega⟩)⟩

theorem side_inj (h : Good D S g dep lo hi) {q x y : Nat} (hx : D x) (hy : D y) (hpx : (S x).p = some q) (hpy : (S y).p = some q) (hs : sideOf S q x = sideOf S q y) : x = y := by
  obtain ⟨_, _, h1⟩ := h.par x q hx hpx
  obtain ⟨_, _, h2⟩ := h.par y q hy hpy
  unfold sideOf at hs
  by_cases a : (S q).l = some x
  · by_cases b : (S q).l = some y
    · rw [a] at b; exact Option.some.inj b
    · rw [if_pos a, if_neg b] at hs; omega
  · by_cases b : (S q).l = some y
    · rw [if_neg a, if_pos b] at hs; omega
    · rcases h1 with h1 | h1
      · exact absurd h1 a
      · rcases h2 with h2 | h2
        · exact absurd h2 b
        · rw [h1] at h2; exact Option.some.inj h2

/-- Where the two climbs meet, from different sides: which of the two is ahead. -/
theorem At.meet {a b x : Nat} {s t : Int} (hx : At D g dep lo hi a x s) (hy : At D g dep lo hi b x t) (hne : s ≠ t) :
    (0 ≤ s → (s = 0 ↔ g a < g b)) ∧ (s < 0 → (t = 1 ↔ g a < g b)) := by
  have h1 := hx.way
  have h2 := hy.way
  rcases h1 with ⟨h1, e1⟩ | ⟨h1, e1⟩ | ⟨h1, e1⟩ <;> rcases h2 with ⟨h2, e2⟩ | ⟨h2, e2⟩ | ⟨h2, e2⟩ <;> (try subst e1) <;> (try subst e2) <;> constructor <;> intro hh <;> omega
end
end Go.Proofs.Qxb6604263a.Tr
