import PyProof.Rows.All
import PyProof.TableTree
import PyProof.FactsTree
import PyProof.StrLawsIn
import PyProof.GenComp
import PyProof.Rows.StrClose
import PyProof.Rows.CatFin
import Wide.FinOn
import OpenK.AllK
import Wide.All
import Lean
import PySem.Challenge.RW_to0081_01
set_option compiler.extract_closed false
set_option Elab.async false
set_option maxRecDepth 100000
set_option linter.unusedVariables false
section
open PySem PySem.W PyProof.Rows
set_option Elab.async false
namespace Mine
section
-- the head's first step alone: it lays hd.heap_1, the written objects; the rest of the head stands at the end (Join)
local macro_rules | `(tactic| o_head $_) => `(tactic| contradiction)
set_option maxRecDepth 100000 in
set_option maxHeartbeats 8000000 in
theorem hd : False → PySem.Challenge.rw_to0081_01.Holds := by
  intro no
  refine holds_law no.elim fun said => ?_
  k_head
end
end Mine

end
section
open PySem PySem.W PySem.Calls PyProof.Rows PyProof.V
set_option Elab.async false
namespace Mine
theorem ne_w : Nonempty World := ⟨⟨fun _ _ => 0, { strHash := fun _ => 0, shareClass := fun _ => 0, mergeTok := id, idOf := fun _ => 0, idOfShared := fun _ _ => 0, followText := fun _ => false, idOfImm := fun _ => 0 }⟩⟩
theorem ne_s : Nonempty Shared := ⟨{}⟩
theorem ne_a : Nonempty Around := ⟨{}⟩
theorem ne_g : Nonempty GenState := ⟨.finished⟩
structure Cut (P : Prop) : Prop where go : P
theorem hil_ {α : Type} {ne : Nonempty α} {Q : α → Prop} (h : Q (@Classical.epsilon α ne fun x => ¬ Q x)) (x : α) : Q x :=
  Classical.byContradiction fun hx => @Classical.epsilon_spec α (fun x => ¬ Q x) ⟨x, hx⟩ h
end Mine

end
section
open PySem PySem.W PySem.Calls PyProof.Rows
set_option Elab.async false
namespace Mine
/-! ## numbers: short proofs -/
theorem lt_pow (k : Nat) {i : Nat} (h : i < 2 ^ k) : (i : Int) < 2 ^ k := by have := Int.ofNat_lt.mpr h; rwa [Int.natCast_pow] at this
theorem neg_cast {k n : Nat} (h : k ≤ n) : -(k : Int) + (n : Int) = ((n - k : Nat) : Int) := by rw [Int.ofNat_sub h, Int.add_comm]; rfl
theorem cast_min (a b : Nat) : ((min a b : Nat) : Int) = min (a : Int) (b : Int) := by
  rcases Nat.le_total a b with h | h
  · rw [Nat.min_eq_left h, Int.min_eq_left (Int.ofNat_le.mpr h)]
  · rw [Nat.min_eq_right h, Int.min_eq_right (Int.ofNat_le.mpr h)]
theorem odd_s {k : Nat} (h : k % 2 = 0) : ¬(k + 1) % 2 = 0 := by rw [Nat.add_mod, h]; decide
theorem even_s {k : Nat} (h : ¬k % 2 = 0) : (k + 1) % 2 = 0 := by rw [Nat.add_mod, (Nat.mod_two_eq_zero_or_one k).resolve_left h]
theorem mod2 (k : Nat) : k % 2 ≤ 1 := Nat.le_of_lt_succ (Nat.mod_lt k (by decide))
theorem lt3 {i : Nat} (h : i < 3) : i = 0 ∨ i = 1 ∨ i = 2 := by lia
theorem lt7 {i : Nat} (h : i < 7) : i = 0 ∨ i = 1 ∨ i = 2 ∨ i = 3 ∨ i = 4 ∨ i = 5 ∨ i = 6 := by lia
theorem lt8 {i : Nat} (h : i < 8) : i = 0 ∨ i = 1 ∨ i = 2 ∨ i = 3 ∨ i = 4 ∨ i = 5 ∨ i = 6 ∨ i = 7 := by lia
theorem sub97 {y n : Nat} (h : 97 ≤ y ∧ y < 97 + n) : y - 97 < n := Nat.sub_lt_left_of_lt_add h.1 h.2
theorem pred_succ {n : Nat} (h : 0 < n) : n = n - 1 + 1 := (Nat.sub_add_cancel h).symm
theorem d350 {x k : Nat} (h : x < k) (hk : k ≤ 8) : 350 - k + 1 ≤ 350 - x := Nat.sub_lt_sub_left (Nat.lt_of_lt_of_le h (Nat.le_trans hk (by decide))) h
theorem d150 {x k : Nat} (h : x < k) (hk : k ≤ 8) : 150 - 5 * k + 3 ≤ 150 - 5 * x := by lia
theorem d337 {n : Nat} (h : n ≤ 8) : 337 ≤ 350 - n := Nat.le_sub_of_add_le (Nat.le_trans (Nat.add_le_add_left h 337) (by decide))
theorem d103 {n : Nat} (h : n ≤ 8) : 103 ≤ 150 - 5 * n := Nat.le_sub_of_add_le (Nat.le_trans (Nat.add_le_add_left (Nat.mul_le_mul_left 5 h) 103) (by decide))
theorem mid_at {L j : Nat} (h : L < j) (e : (L : Int) + 1 ≠ (j : Int)) : L < (L + j) / 2 ∧ (L + j) / 2 < j ∧ ((L : Int) + (j : Int)) / 2 = (((L + j) / 2 : Nat) : Int) := by lia
theorem mid_le {L j : Nat} (h : j ≤ 8) : (L + j) / 2 - L ≤ 4 := by lia
theorem lo_k {L M j k : Nat} (hk : j - L = k) (h1 : L < M) (h2 : M < j) : M - L < k := hk ▸ Nat.sub_lt_sub_right (Nat.le_of_lt h1) h2
theorem hi_k {L M j k : Nat} (hk : j - L = k) (h1 : L < M) (h2 : M < j) : j - M < k := hk ▸ Nat.sub_lt_sub_left (Nat.lt_trans h1 h2) h1
theorem mid_sum {L M j : Nat} (h1 : L < M) (h2 : M ≤ j) : M - L + (j - M) = j - L := (Nat.add_comm _ _).trans (Nat.sub_add_sub_cancel h2 (Nat.le_of_lt h1))
theorem succ_cast {L j : Nat} (e : (L : Int) + 1 = (j : Int)) : j = L + 1 := by lia
theorem ne_s2 {a k : Nat} (h : a < k) (i : Nat) : a ≠ k + i := Nat.ne_of_lt (Nat.lt_of_lt_of_le h (Nat.le_add_right k i))
theorem i_nat (n : Nat) : (0 : Int) ≤ (n : Int) := Int.natCast_nonneg n
theorem in4 {n : Nat} (h1 : 1 ≤ n) (h4 : n ≤ 4) : n = 1 ∨ n = 2 ∨ n = 3 ∨ n = 4 := by lia
theorem off_sum {i L M : Nat} (h1 : L ≤ M) (h2 : M ≤ i) : i - M + (M - L) = i - L := Nat.sub_add_sub_cancel h2 h1
theorem c128 {c i n : Nat} (h : c = 97 + i ∨ c = 65 + i) (hi : i < n) (hn : n ≤ 7) : c < 128 := by lia
theorem dig_128 {c : Nat} (h : c < 8) : 48 + c < 128 := Nat.lt_of_lt_of_le (Nat.add_lt_add_left h 48) (by decide)
theorem dig_ok {c : Nat} (h : c < 8) : 32 ≤ 48 + c ∧ 48 + c < 127 := ⟨Nat.le_trans (by decide) (Nat.le_add_right 48 c), Nat.lt_of_lt_of_le (Nat.add_lt_add_left h 48) (by decide)⟩
theorem dig_low {c : Nat} (h : c < 8) : ¬(65 ≤ 48 + c ∧ 48 + c ≤ 90) := fun q => Nat.lt_irrefl _ (Nat.lt_of_lt_of_le (Nat.lt_of_lt_of_le (Nat.add_lt_add_left h 48) (by decide : 48 + 8 ≤ 65)) q.1)
theorem div256 {a q d p : Nat} (hp : p ≤ 2 ^ 4) (h1 : a * p ≤ 8 * 2 ^ 4) (h2 : d < p) : a * p + d < 256 := Nat.lt_of_lt_of_le (Nat.add_lt_add_of_le_of_lt h1 (Nat.lt_of_lt_of_le h2 hp)) (by decide)
theorem len47 (x : Int) : 4 ≤ min (min (5 + x % 4).toNat 9 - 1) 8 ∧ min (min (5 + x % 4).toNat 9 - 1) 8 ≤ 7 := by
  have tab : ∀ n < 4, 4 ≤ min (min (5 + ((n : Nat) : Int)).toNat 9 - 1) 8 ∧ min (min (5 + ((n : Nat) : Int)).toNat 9 - 1) 8 ≤ 7 := by decide
  have h4 := Int.emod_lt_of_pos x (show (0 : Int) < 4 by decide)
  obtain ⟨n, e⟩ := Int.eq_ofNat_of_zero_le (Int.emod_nonneg x (show (4 : Int) ≠ 0 by decide))
  rw [e] at h4 ⊢
  exact tab n (Int.ofNat_lt.mp h4)
theorem modn (x : Int) {n : Nat} (h : 0 < n) : ∃ nb : Nat, x % (n : Int) = (nb : Int) ∧ nb < n := by
  have h0 : (n : Int) ≠ 0 := fun e => Nat.ne_of_gt h (Int.ofNat_inj.mp e)
  obtain ⟨k, e⟩ := Int.eq_ofNat_of_zero_le (Int.emod_nonneg x h0)
  have := Int.emod_lt_of_pos x (Int.ofNat_lt.mpr h)
  exact ⟨k, e, Int.ofNat_lt.mp (e ▸ this)⟩
theorem ex1 {α1 : Type} {p : α1 → Prop} {G : Prop} (h : ∃ x1, p x1) (k : ∀ x1, p x1 → G) : G := by obtain ⟨x1, h⟩ := h; exact k x1 h
theorem ex2 {α1 α2 : Type} {p : α1 → α2 → Prop} {G : Prop} (h : ∃ x1 x2, p x1 x2) (k : ∀ x1 x2, p x1 x2 → G) : G := by obtain ⟨x1, x2, h⟩ := h; exact k x1 x2 h
theorem ex3 {α1 α2 α3 : Type} {p : α1 → α2 → α3 → Prop} {G : Prop} (h : ∃ x1 x2 x3, p x1 x2 x3) (k : ∀ x1 x2 x3, p x1 x2 x3 → G) : G := by obtain ⟨x1, x2, x3, h⟩ := h; exact k x1 x2 x3 h
theorem ex4 {α1 α2 α3 α4 : Type} {p : α1 → α2 → α3 → α4 → Prop} {G : Prop} (h : ∃ x1 x2 x3 x4, p x1 x2 x3 x4) (k : ∀ x1 x2 x3 x4, p x1 x2 x3 x4 → G) : G := by obtain ⟨x1, x2, x3, x4, h⟩ := h; exact k x1 x2 x3 x4 h
theorem ex5 {α1 α2 α3 α4 α5 : Type} {p : α1 → α2 → α3 → α4 → α5 → Prop} {G : Prop} (h : ∃ x1 x2 x3 x4 x5, p x1 x2 x3 x4 x5) (k : ∀ x1 x2 x3 x4 x5, p x1 x2 x3 x4 x5 → G) : G := by obtain ⟨x1, x2, x3, x4, x5, h⟩ := h; exact k x1 x2 x3 x4 x5 h
theorem ex6 {α1 α2 α3 α4 α5 α6 : Type} {p : α1 → α2 → α3 → α4 → α5 → α6 → Prop} {G : Prop} (h : ∃ x1 x2 x3 x4 x5 x6, p x1 x2 x3 x4 x5 x6) (k : ∀ x1 x2 x3 x4 x5 x6, p x1 x2 x3 x4 x5 x6 → G) : G := by obtain ⟨x1, x2, x3, x4, x5, x6, h⟩ := h; exact k x1 x2 x3 x4 x5 x6 h
theorem ex7 {α1 α2 α3 α4 α5 α6 α7 : Type} {p : α1 → α2 → α3 → α4 → α5 → α6 → α7 → Prop} {G : Prop} (h : ∃ x1 x2 x3 x4 x5 x6 x7, p x1 x2 x3 x4 x5 x6 x7) (k : ∀ x1 x2 x3 x4 x5 x6 x7, p x1 x2 x3 x4 x5 x6 x7 → G) : G := by obtain ⟨x1, x2, x3, x4, x5, x6, x7, h⟩ := h; exact k x1 x2 x3 x4 x5 x6 x7 h
theorem ex8 {α1 α2 α3 α4 α5 α6 α7 α8 : Type} {p : α1 → α2 → α3 → α4 → α5 → α6 → α7 → α8 → Prop} {G : Prop} (h : ∃ x1 x2 x3 x4 x5 x6 x7 x8, p x1 x2 x3 x4 x5 x6 x7 x8) (k : ∀ x1 x2 x3 x4 x5 x6 x7 x8, p x1 x2 x3 x4 x5 x6 x7 x8 → G) : G := by obtain ⟨x1, x2, x3, x4, x5, x6, x7, x8, h⟩ := h; exact k x1 x2 x3 x4 x5 x6 x7 x8 h
theorem ex9 {α1 α2 α3 α4 α5 α6 α7 α8 α9 : Type} {p : α1 → α2 → α3 → α4 → α5 → α6 → α7 → α8 → α9 → Prop} {G : Prop} (h : ∃ x1 x2 x3 x4 x5 x6 x7 x8 x9, p x1 x2 x3 x4 x5 x6 x7 x8 x9) (k : ∀ x1 x2 x3 x4 x5 x6 x7 x8 x9, p x1 x2 x3 x4 x5 x6 x7 x8 x9 → G) : G := by obtain ⟨x1, x2, x3, x4, x5, x6, x7, x8, x9, h⟩ := h; exact k x1 x2 x3 x4 x5 x6 x7 x8 x9 h
theorem and2 {p1 p2 G : Prop} (h : p1 ∧ p2) (k : p1 → p2 → G) : G := by obtain ⟨h1, h2⟩ := h; exact k h1 h2
theorem and3 {p1 p2 p3 G : Prop} (h : p1 ∧ p2 ∧ p3) (k : p1 → p2 → p3 → G) : G := by obtain ⟨h1, h2, h3⟩ := h; exact k h1 h2 h3
theorem and4 {p1 p2 p3 p4 G : Prop} (h : p1 ∧ p2 ∧ p3 ∧ p4) (k : p1 → p2 → p3 → p4 → G) : G := by obtain ⟨h1, h2, h3, h4⟩ := h; exact k h1 h2 h3 h4
theorem and5 {p1 p2 p3 p4 p5 G : Prop} (h : p1 ∧ p2 ∧ p3 ∧ p4 ∧ p5) (k : p1 → p2 → p3 → p4 → p5 → G) : G := by obtain ⟨h1, h2, h3, h4, h5⟩ := h; exact k h1 h2 h3 h4 h5
theorem and6 {p1 p2 p3 p4 p5 p6 G : Prop} (h : p1 ∧ p2 ∧ p3 ∧ p4 ∧ p5 ∧ p6) (k : p1 → p2 → p3 → p4 → p5 → p6 → G) : G := by obtain ⟨h1, h2, h3, h4, h5, h6⟩ := h; exact k h1 h2 h3 h4 h5 h6
theorem and7 {p1 p2 p3 p4 p5 p6 p7 G : Prop} (h : p1 ∧ p2 ∧ p3 ∧ p4 ∧ p5 ∧ p6 ∧ p7) (k : p1 → p2 → p3 → p4 → p5 → p6 → p7 → G) : G := by obtain ⟨h1, h2, h3, h4, h5, h6, h7⟩ := h; exact k h1 h2 h3 h4 h5 h6 h7
theorem and8 {p1 p2 p3 p4 p5 p6 p7 p8 G : Prop} (h : p1 ∧ p2 ∧ p3 ∧ p4 ∧ p5 ∧ p6 ∧ p7 ∧ p8) (k : p1 → p2 → p3 → p4 → p5 → p6 → p7 → p8 → G) : G := by obtain ⟨h1, h2, h3, h4, h5, h6, h7, h8⟩ := h; exact k h1 h2 h3 h4 h5 h6 h7 h8
theorem and9 {p1 p2 p3 p4 p5 p6 p7 p8 p9 G : Prop} (h : p1 ∧ p2 ∧ p3 ∧ p4 ∧ p5 ∧ p6 ∧ p7 ∧ p8 ∧ p9) (k : p1 → p2 → p3 → p4 → p5 → p6 → p7 → p8 → p9 → G) : G := by obtain ⟨h1, h2, h3, h4, h5, h6, h7, h8, h9⟩ := h; exact k h1 h2 h3 h4 h5 h6 h7 h8 h9
theorem and10 {p1 p2 p3 p4 p5 p6 p7 p8 p9 p10 G : Prop} (h : p1 ∧ p2 ∧ p3 ∧ p4 ∧ p5 ∧ p6 ∧ p7 ∧ p8 ∧ p9 ∧ p10) (k : p1 → p2 → p3 → p4 → p5 → p6 → p7 → p8 → p9 → p10 → G) : G := by obtain ⟨h1, h2, h3, h4, h5, h6, h7, h8, h9, h10⟩ := h; exact k h1 h2 h3 h4 h5 h6 h7 h8 h9 h10
theorem fm_cons {α : Type} {p : α → Prop} {a : α} {l : List α} (h : p a) (hl : ∀ b ∈ l, p b) : ∀ b ∈ a :: l, p b := List.forall_mem_cons.mpr ⟨h, hl⟩
theorem fm_nil {α : Type} {p : α → Prop} : ∀ b ∈ ([] : List α), p b := fun _ h => nomatch h
theorem min_c (a b : Nat) : min a b = a ∨ min a b < a ∧ min a b = b := by
  rcases Nat.lt_or_ge b a with h | h
  · rw [Nat.min_eq_right (Nat.le_of_lt h)]; exact .inr ⟨h, rfl⟩
  · exact .inl (Nat.min_eq_left h)
theorem eq_of_sub {S i j n : Nat} (hi : i ≤ S) (h : S - i = n + 1) (h2 : j + n + 1 = S) : j = i :=
  Nat.add_right_cancel (m := n + 1) (h2.trans (((Nat.sub_eq_iff_eq_add hi).mp h).trans (Nat.add_comm _ _)))
theorem sub1_lt {n : Nat} (h : 1 ≤ n) : n - 1 < n := Nat.sub_lt h Nat.one_pos
theorem sub1_lt_of {n k : Nat} (h : n < k) : n - 1 < k := Nat.lt_of_le_of_lt (Nat.sub_le n 1) h
theorem sub_step {n k : Nat} (h : k < n) : n - (k + 1) < n - k := Nat.sub_lt_sub_left h (Nat.lt_succ_self k)
theorem subk_lt {n : Nat} (h : 0 < n) {k : Nat} : n - (k + 1) < n := Nat.sub_lt h (Nat.succ_pos k)
theorem rsub_lt {a b k : Nat} (h : a < b) (hb : b < k) : k - 1 - b < k - 1 - a := Nat.sub_lt_sub_left (Nat.lt_of_lt_of_le h (Nat.le_sub_one_of_lt hb)) h
theorem lt_n {x y : Int} (h1 : ¬x < y) (h2 : x ≠ y) : y < x := Int.lt_iff_le_and_ne.mpr ⟨Int.not_lt.mp h1, h2.symm⟩
theorem add_sub_le {k n : Nat} (h : k ≤ n) : k + (n - k) ≤ n := Nat.le_of_eq (Nat.add_sub_cancel' h)
theorem le_sc {r m f : Nat} (h : r ≤ m + 1 + f) : r ≤ m + (f + 1) := Nat.le_trans h (Nat.le_of_eq (Nat.add_right_comm m 1 f))
theorem sc_le {r m f : Nat} (h : m + (f + 1) ≤ r) : m + 1 + f ≤ r := Nat.le_trans (Nat.le_of_eq (Nat.add_right_comm m 1 f)) h
theorem lt_sc {r m f : Nat} (h : r < m + (f + 1)) : r < m + 1 + f := Nat.lt_of_lt_of_le h (Nat.le_of_eq (Nat.add_right_comm m 1 f).symm)
theorem sc_lt {m f n : Nat} (h : m + (f + 1) ≤ n) : m < n := Nat.lt_of_lt_of_le (Nat.lt_add_of_pos_right (Nat.succ_pos f)) h
theorem eq_of_ls {b m : Nat} (q : b ≥ m) (h : b < m + 1) : b = m := Nat.le_antisymm (Nat.le_of_lt_succ h) q
theorem lo_mid {l r : Nat} (h : l ≤ r) : l ≤ (l + r) / 2 := (Nat.le_div_iff_mul_le (by decide)).mpr (by rw [Nat.mul_two]; exact Nat.add_le_add_left h l)
theorem mid_hi {l r : Nat} (h : l < r) : (l + r) / 2 < r := Nat.div_lt_of_lt_mul (by rw [Nat.two_mul]; exact Nat.add_lt_add_right h r)

abbrev AT (d u : Nat) (outer : List Env) : Around := { handled := none, depth := d, frames := some outer, guards := none, units := u }

/-- what every contract asks of the state -/
structure Wo (w : World) (p : Program) (loose : List PySem.Str) (mean : ExcName → Option Value) (mg mb : PySem.Str → Option Value) (h : Heap) : Prop where
  x : (hd.heap_1 w.params).In h
  t : Top p loose mean mg mb h

theorem Wo.keeps {w p loose mean mg mb} {h h' : Heap} (W : Wo w p loose mean mg mb h) (k : ∀ b o, h.get? b = some o → h'.get? b = some o) : Wo w p loose mean mg mb h' :=
  ⟨W.x.keeps k, W.t.keeps k⟩

theorem enter {w : World} {p : Program} {loose : List PySem.Str} {mean : ExcName → Option Value} {mg mb : PySem.Str → Option Value} {A : Around} {s : Shared} {K : Frag}
    {R : Result → Shared → Prop} {name qual : PySem.Str} {params : Arguments} {body : List Stmt} {scope : Scope} {dV kV doc pm cdv ct oc : Value} {an od : Option Addr} {osl : Array (Option Value)} {f : Addr} {args : Args} {binds : List (PySem.Str × Value)}
    (X : K.In s.heap) (T : Top p loose mean mg mb s.heap)
    (ho : K.lookup f = some ⟨oc, od, .func (fnOf name qual params body scope dV kV doc pm an cdv ct), osl⟩) (hcd : codeIn K cdv qual = true) (hroom : A.depth < recursionLimit)
    (hbind : BindsTo s (fnOf name qual params body scope dV kV doc pm an cdv ct) args binds) (hloc : ∀ y ∈ binds, scope.names.lookup y.1 = some .local)
    (h : ∀ h₁, Fr s.heap s.heap.objs.size h₁ (fun y => binds.reverse.lookup y) → News s.heap s.heap.objs.size h₁ [] →
      wpAny (model PySem.Challenge.rw_to0081_01.prog w) (A.deeper (envOf qual scope s.heap.objs.size f cdv)) (execs body (envOf qual scope s.heap.objs.size f cdv))
        (fun fl s' => R (.ok (.ret (match fl with | .ret v => v | _ => .none))) s') (fun _ _ => False)
        { s with heap := h₁, toks := s.toks + binds.length })
    (hco : scope.isCoroutine = false := by rfl) (hgen : scope.isGenerator = false := by rfl) (hk : scope.kind = .function := by rfl)
    (hcell : ∀ x ∈ scope.names, x.2 ≠ .cell := by decide) : codeAny (model PySem.Challenge.rw_to0081_01.prog w) A (.call (.ref f) args) R s :=
  codeAny_call_def hroom (X _ _ ho) rfl T.nolimit (codeRec_of X hcd) rfl hbind hcell hloc
    (fun h₁ hns hk₁ => wpAny_mono (h h₁ ⟨hns, hk₁, Nat.le_refl _⟩ News.nil) (fun _ _ q => q) fun _ _ q => q.elim) hco hgen hk

theorem enterC {w : World} {p : Program} {loose : List PySem.Str} {mean : ExcName → Option Value} {mg mb : PySem.Str → Option Value} {A : Around} {s : Shared} {K : Frag}
    {R : Result → Shared → Prop} {name qual : PySem.Str} {params : Arguments} {body : List Stmt} {scope : Scope} {dV kV doc pm cdv ct oc : Value} {an od : Option Addr} {osl : Array (Option Value)} {f : Addr} {args : Args} {binds : List (PySem.Str × Value)}
    (X : K.In s.heap) (T : Top p loose mean mg mb s.heap)
    (ho : K.lookup f = some ⟨oc, od, .func (fnOf name qual params body scope dV kV doc pm an cdv ct), osl⟩) (hcd : codeIn K cdv qual = true) (hroom : A.depth < recursionLimit)
    (hbind : BindsTo s (fnOf name qual params body scope dV kV doc pm an cdv ct) args binds) (hkind : (binds.all fun y => scope.names.lookup y.1 == some .local || scope.names.lookup y.1 == some .cell) = true)
    (hnd : ((cellsFrom 0 scope.names []).map (·.1)).Nodup)
    (h : ∀ h₁ tk cells, Fr s.heap s.heap.objs.size h₁ (bindL (envOfC qual scope s.heap.objs.size f cdv).kindOf binds fun _ => none) → News s.heap s.heap.objs.size h₁ cells →
      CellsAre (bindC (envOfC qual scope s.heap.objs.size f cdv).kindOf binds fun _ => none) (cellsFrom (s.heap.objs.size + 1) scope.names []) cells →
      wpAny (model PySem.Challenge.rw_to0081_01.prog w) (A.deeper (envOfC qual scope s.heap.objs.size f cdv)) (execs body (envOfC qual scope s.heap.objs.size f cdv))
        (fun fl s' => R (.ok (.ret (match fl with | .ret v => v | _ => .none))) s') (fun _ _ => False)
        { s with heap := h₁, toks := tk })
    (hco : scope.isCoroutine = false := by rfl) (hgen : scope.isGenerator = false := by rfl) (hk : scope.kind = .function := by rfl) : codeAny (model PySem.Challenge.rw_to0081_01.prog w) A (.call (.ref f) args) R s := by
  refine codeAny_call_function hroom (X _ _ ho) rfl hco hgen rfl (codeRec_of X hcd) (hbind _ _ _ _ ?_)
  refine wpAny_newFunctionEnv_cells hk (kindsX hkind _) fun env' he s' x => ?_
  subst he
  refine ⟨T.nolimit.keeps x.toInCall.keep, codeAny_func ?_⟩
  obtain ⟨h₁, tk, rfl, _⟩ := x.done
  have hk₁ := x.toInCall.keep
  obtain ⟨cells, NC, Y⟩ := Cl.news (h₀ := s.heap) (Nat.le_refl _) fun n c hm => ⟨x.cell n c (lookup_of_mem_nodup (cellsFrom_names scope.names 0 (s.heap.objs.size + 1) [] [] rfl ▸ hnd) hm), x.above n c hm⟩
  exact wpAny_mono (h h₁ tk cells ⟨x.toInCall.ns, hk₁, Nat.le_refl _⟩ NC Y) (fun _ _ q => q) fun _ _ q => q.elim

theorem after_news {h₀ h h' : Heap} {L L' : Addr} {m m' : PySem.Str → Option Value} {news news' : List (Addr × Obj)} (F : Fr h₀ L h m) (N : News h₀ L h news) (F' : Fr h L' h' m') (N' : News h L' h' news') :
    News h₀ L h' (news ++ news') := fun p hp => by
  rcases List.mem_append.mp hp with hp | hp
  · exact ⟨F'.keep _ _ (N p hp).1, (N p hp).2⟩
  · obtain ⟨a, b, c⟩ := N' p hp
    refine ⟨a, fun e => ?_, ?_⟩
    · obtain ⟨oL, _, _, hL, _⟩ := F.ns
      rw [e, hL] at c; cases c
    · cases q : h₀.get? p.1 with
      | none => rfl
      | some o => rw [F.keep _ _ q] at c; cases c

theorem below_le {M : Model} {c : Code} {R : Result → Shared → Prop} {s : Shared} {d u : Nat} {A : Around} {outer : List Env} (h : codeAny M (AT d u outer) c R s)
    (h0 : A.handled = none) (h1 : A.depth ≤ d) (h2 : A.units ≤ u) (h3 : A.frames = some outer) : codeAny M A c R s := fun Γ p hc hΓ =>
  h Γ p hc ⟨hΓ.1.trans h0, Nat.le_trans hΓ.2.1 h1, fun l hl => hΓ.2.2.1 l (h3.trans hl), (fun g hg => by cases hg), Nat.le_trans hΓ.2.2.2.2 h2⟩
/-- the items of a list at the places told: a short proof that a list written out lies in another -/
noncomputable def pickL {α : Type} : List Nat → List α → List α
  | [], _ => []
  | i :: is, l => match l[i]? with
    | some a => a :: pickL is l
    | none => pickL is l
theorem pick_mem {α : Type} {l : List α} {q : α} : ∀ {is : List Nat}, q ∈ pickL is l → q ∈ l
  | i :: is, h => by
    unfold pickL at h
    split at h
    · rename_i a e
      rcases List.mem_cons.mp h with rfl | h
      · exact List.mem_of_getElem? e
      · exact pick_mem h
    · exact pick_mem h
theorem pick_or {α : Type} {l t : List α} {q : α} {is : List Nat} (hq : q ∈ pickL is l ++ t) (h : q ∈ t → q ∈ l) : q ∈ l := (List.mem_append.mp hq).elim pick_mem h
theorem news_join {h₀ h : Heap} {L : Addr} {A B C D hd : List (Addr × Obj)} (N : News h₀ L h (A ++ B ++ C ++ D)) (hh : ∀ q ∈ hd, q ∈ D) : News h₀ L h (hd ++ (A ++ (B ++ C ++ D))) := fun q hq => N q (by
  rcases List.mem_append.mp hq with h | h
  · exact List.mem_append_right _ (hh q h)
  · rcases List.mem_append.mp h with h | h
    · exact List.mem_append_left _ (List.mem_append_left _ (List.mem_append_left _ h))
    · rcases List.mem_append.mp h with h | h
      · rcases List.mem_append.mp h with h | h
        · exact List.mem_append_left _ (List.mem_append_left _ (List.mem_append_right _ h))
        · exact List.mem_append_left _ (List.mem_append_right _ h)
      · exact List.mem_append_right _ h)
theorem len_eq1 {α : Type} {ys : List α} {v : α} {j : Nat} (h : ys.length = j) : (ys ++ [v]).length = j + 1 := by rw [List.length_append, h]; rfl
theorem len_le1 {α : Type} {ys : List α} {v : α} {j : Nat} (h : ys.length ≤ j) : (ys ++ [v]).length ≤ j + 1 := by rw [List.length_append]; exact Nat.succ_le_succ h
end Mine

end
section
open PySem PySem.W PySem.Calls PyProof.Rows
set_option Elab.async false
set_option maxRecDepth 100000
namespace Mine

/-! ## heaps cut to what another heap holds -/
noncomputable def offObj : Obj := { cls := .none, data := .freed }
noncomputable def restr (h r : Heap) : Heap := ⟨Array.ofFn (n := r.objs.size) fun i => match r.get? i.val, h.get? i.val with
  | some _, some o => o
  | _, _ => offObj, h.life⟩
theorem restr_size (h r : Heap) : (restr h r).objs.size = r.objs.size := by simp [restr]
theorem get?_not_freed {h : Heap} {b : Addr} {o : Obj} (e : h.get? b = some o) : o.isFreed = false := by
  have hz1 := Heap.get?_some_iff.mp e
  (refine and2 hz1 fun _ e2 => ?_)
  try clear hz1
  exact e2
theorem restr_get {h r : Heap} {b : Addr} {o : Obj} (e : (restr h r).get? b = some o) : (∃ o', r.get? b = some o') ∧ h.get? b = some o := by
  have hz2 := Heap.get?_some_iff.mp e
  (refine and2 hz2 fun e1 e2 => ?_)
  try clear hz2
  have hb : b < r.objs.size := by have := Heap.lt_size e; rwa [restr_size] at this
  have e3 : (restr h r).objs[b]? = some (match r.get? b, h.get? b with | some _, some o => o | _, _ => offObj) := by
    simp only [restr]
    rw [Array.getElem?_eq_getElem (by simpa using hb)]
    simp
  rw [e3] at e1
  cases hr : r.get? b with
  | none => rw [hr] at e1; cases e1; simp [offObj, Obj.isFreed] at e2
  | some o' =>
    cases hh : h.get? b with
    | none => rw [hr, hh] at e1; cases e1; simp [offObj, Obj.isFreed] at e2
    | some o'' => rw [hr, hh] at e1; cases e1; exact ⟨⟨_, rfl⟩, rfl⟩
theorem restr_of {h r : Heap} {b : Addr} {o o' : Obj} (hr : r.get? b = some o') (e : h.get? b = some o) : (restr h r).get? b = some o := by
  have hb : b < r.objs.size := Heap.lt_size hr
  refine Heap.get?_some_iff.mpr ⟨?_, get?_not_freed e⟩
  simp only [restr]
  rw [Array.getElem?_eq_getElem (by simpa using hb)]
  simp [hr, e]
theorem restr_none {h r : Heap} {b : Addr} (hr : r.get? b = none) : (restr h r).get? b = none := by
  cases q : (restr h r).get? b with
  | none => rfl
  | some o => obtain ⟨⟨o', e⟩, _⟩ := restr_get q; rw [hr] at e; cases e

abbrev lst (ys : List Value) : Obj := LCg.lst ys

/-- one step of an iterator, its value bound to the target -/
structure Tk (prog : Program) (w : World) (A : Around) (it : Value) (target : Expr) (env : Env) (wr md fp : List Addr) (n : Nat)
    (Bd : Nat → (PySem.Str → Option Value) → (PySem.Str → Option Value) → Heap → Prop) (St : Nat → Heap → Prop) : Prop where
  frame : ∀ i h h', St i h → (∀ b ∈ fp, ∀ o, h.get? b = some o → h'.get? b = some o) → St i h'
  item : ∀ i (s : Shared) m (Q : Unit → Shared → Prop), i < n → St i s.heap → s.heap.Ns env.locals m →
    (∀ h' tk m', Bd i m m' h' → St (i + 1) h' → h'.Ns env.locals m' → (∀ b o, b ∉ md → s.heap.get? b = some o → h'.get? b = some o) → Q () { s with heap := h', toks := tk }) →
    wpAny (model prog w) A (pyNext it) (fun r s₁ => ∃ v, r = some v ∧ wpAny (model prog w) A (letOwnedTupleGo target it v) (fun _ s₂ => wpAny (model prog w) A (assign target env v) Q (fun _ _ => False) s₂) (fun _ _ => False) s₁) (fun _ _ => False) s
  done : ∀ (s : Shared) (Q : Option Value → Shared → Prop), St n s.heap →
    (∀ h' tk, (∀ b o, b ∉ wr → s.heap.get? b = some o → h'.get? b = some o) → Q none { s with heap := h', toks := tk }) → wpAny (model prog w) A (pyNext it) Q (fun _ _ => False) s

section
variable {prog : Program} {w : World} {A : Around}

theorem comp_loop {elt target iter : Expr} {ifs : List Expr} {scope : Scope} {pos : Pos} {it acc : Value} {env : Env} {R : Result → Shared → Prop} {s : Shared} (I : Nat → Shared → Prop)
    (turn : ∀ n s, I n s → wpAny (model prog w) A (pyNext it) (fun r s₁ => match r with
      | none => R (.ok .next) s₁
      | some v => wpAny (model prog w) A (letOwnedTupleGo target it v) (fun _ s₁' => wpAny (model prog w) A (assign target env v) (fun _ s₂ =>
          wpAny (model prog w) A (forIn ifs true fun c r => if r = true then do let ok ← isTrue c env (eval c env); pure (ForInStep.yield ok) else pure (ForInStep.yield r)) (fun ok s₃ =>
            if ok = true then wpAny (model prog w) A (eval elt env) (fun x s₄ =>
              wpAny (model prog w) A (call (.builtin "list.append") [acc, x]) (fun _ s₅ => ∃ m, m < n ∧ I m s₅) (fun _ _ => False) s₄) (fun _ _ => False) s₃
            else ∃ m, m < n ∧ I m s₃) (fun _ _ => False) s₂) (fun _ _ => False) s₁') (fun _ _ => False) s₁) (fun _ _ => False) s)
    (n : Nat) (h : I n s) : codeAny (model prog w) A (.compLoop (.ListComp elt [⟨target, iter, ifs, 0⟩] scope pos) 0 it acc env) R s := by
  refine codeAny_loop rfl I (fun n s hI => ?_) n h
  show wpAny _ A ((compTurn (.ListComp elt [⟨target, iter, ifs, 0⟩] scope pos) 0 it acc env).onRaise (fun x => do noteFrame x env; theTreesLotGoes x)) _ _ s
  refine wpAny_noted ?_
  rw [compTurn_list]
  refine wpAny_bind (wpAny_standAt (wpAny_bind (wpAny_mono (turn n s hI) (fun r s₁ h₁ => ?_) fun _ _ h' => h'.elim)))
  cases r with
  | none => exact wpAny_pure h₁
  | some v =>
    refine wpAny_bind (wpAny_mono h₁ (fun _ s₁' h₁' => ?_) fun _ _ h' => h'.elim)
    refine wpAny_bind (wpAny_mono h₁' (fun _ s₂ h₂ => wpAny_bind (wpAny_mono h₂ (fun ok s₃ h₃ => ?_) fun _ _ h' => h'.elim)) fun _ _ h' => h'.elim)
    cases ok with
    | false => exact wpAny_pure ⟨rfl, h₃⟩
    | true =>
      exact wpAny_bind (wpAny_bind (wpAny_mono h₃ (fun x s₄ h₄ => wpAny_bind (wpAny_mono h₄ (fun _ s₅ h₅ => wpAny_pure (wpAny_pure ⟨rfl, h₅⟩)) fun _ _ h' => h'.elim)) fun _ _ h' => h'.elim))

/-- the end of one element's walk -/
noncomputable def CEnd (g : Heap) (C D : Addr) (ys : List Value) (P : List (Addr × Obj) → Prop) (s₂ s₄ : Shared) : Prop :=
  ∃ h' tk' m' tl' news', s₄ = { s₂ with heap := h', toks := tk' } ∧ Fr g C h' m' ∧ News g C h' news' ∧ (∀ p ∈ (D, lst ys) :: tl', p ∈ news') ∧ (∀ p ∈ tl', p.1 ≠ D) ∧ P tl'

theorem comp_core {elt target iter : Expr} {ifs : List Expr} {scope : Scope} {cl : List (PySem.Str × Addr)} {pos : Pos} {env : Env} {s₂ : Shared} {it : Value} {n : Nat} {md fp : List Addr}
    {Bd : Nat → (PySem.Str → Option Value) → (PySem.Str → Option Value) → Heap → Prop} {St : Nat → Heap → Prop} {RR : Value → Addr → Result → Shared → Prop} {E : Value → Shared → Prop}
    (T : ∀ C, s₂.heap.objs.size < C → Tk prog w A it target (compEnvC scope cl C env) md (C :: md) fp n Bd St)
    (hself : ∀ (s : Shared) (Q : Value → Shared → Prop) (E : Value → Shared → Prop), St 0 s.heap → Q it s → wpAny (model prog w) A (pyIter it) Q E s)
    (hst : St 0 s₂.heap) (hfp : ∀ b ∈ fp, ∃ o, s₂.heap.get? b = some o) (hmd : ∀ b ∈ md, ∃ o, s₂.heap.get? b = some o) (hlive : ∀ i h, St i h → ∀ b ∈ md, ∃ o, h.get? b = some o) (hsz : n ≤ sizeLine)
    (hcell : ∀ y ∈ scope.names, y.2 ≠ .cell) (hkind : scope.kind = .function)
    (J : Nat → List Value → List (Addr × Obj) → Prop) (hJ : J 0 [] []) (hJl : ∀ i ys tl, J i ys tl → ys.length ≤ i)
    (turn : ∀ i ys tl g C D h tk m m₁, i < n → J i ys tl → (∀ b o, b ∉ md → s₂.heap.get? b = some o → g.get? b = some o) → Bd i m m₁ h → Fr g C h m₁ → News g C h ((D, lst ys) :: tl) → (∀ p ∈ tl, p.1 ≠ D) →
      wpAny (model prog w) A (forIn ifs true fun c r => if r = true then do let ok ← isTrue c (compEnvC scope cl C env) (eval c (compEnvC scope cl C env)); pure (ForInStep.yield ok) else pure (ForInStep.yield r))
        (fun ok s₃ => if ok = true then wpAny (model prog w) A (eval elt (compEnvC scope cl C env)) (fun y s₄ => CEnd g C D ys (J (i + 1) (ys ++ [y])) s₂ s₄) (fun _ _ => False) s₃ else CEnd g C D ys (J (i + 1) ys) s₂ s₃)
        (fun _ _ => False) { s₂ with heap := h, toks := tk })
    (hRR : ∀ D C h tk m' ys tl, J n ys tl → D = s₂.heap.objs.size → C = s₂.heap.objs.size + 1 → (∀ b o, b ∉ md → s₂.heap.get? b = some o → h.get? b = some o) → h.get? D = some (lst ys) →
      (∀ p ∈ tl, h.get? p.1 = some p.2 ∧ s₂.heap.get? p.1 = none ∧ p.1 ≠ C ∧ p.1 ≠ D) → h.Ns C m' → RR (.ref D) C (.ok .next) { s₂ with heap := h, toks := tk }) :
    wpAny (model prog w) A (newList []) (fun acc s₃ => wpAny (model prog w) A (newFunctionEnv scope env.globals cl [] env.qual none .none (some env)) (fun cenv s₄ =>
      codeAny (model prog w) A (.compStart (.ListComp elt [⟨target, iter, ifs, 0⟩] scope pos) 0 it acc { cenv with scope := relabel scope env }) (RR acc cenv.locals) s₄) E s₃) E s₂ := by
  refine wpAny_newObj_type (wpAny_newFunctionEnv hcell (by intro y hy; simp at hy) (fun h₁ hns₁ hsb₁ => ?_) hkind)
  dsimp only at hns₁ hsb₁ ⊢
  generalize hH2 : s₂.heap.push { cls := .type "list", dict := none, data := .seq ([] : List Value).toArray } = H2 at hns₁ hsb₁ ⊢
  have hC : H2.objs.size = s₂.heap.objs.size + 1 := by rw [← hH2, Heap.size_push]
  generalize hDd : s₂.heap.objs.size = D at *
  generalize hCc : H2.objs.size = C at *
  have hlt : ∀ (b : Nat) o, s₂.heap.get? b = some o → @LT.lt Nat _ b D := fun b o e => hDd ▸ Heap.lt_size e
  have hDC : D ≠ C := fun q => Nat.ne_of_lt (Nat.lt_succ_self D) (q.trans hC)
  have hltC : ∀ (b : Nat) o, s₂.heap.get? b = some o → b ≠ C := fun b o e q => absurd (hlt b o e) (Nat.not_lt.mpr (Nat.le_trans (Nat.le_succ D) (Nat.le_of_eq (q.trans hC).symm)))
  have old : ∀ b o, s₂.heap.get? b = some o → h₁.get? b = some o := fun b o e =>
    hsb₁.extBut b o (hltC b o e) (Heap.get?_push_of_some _ (hH2 ▸ Heap.get?_push_of_some _ e))
  have hacc : h₁.get? D = some (lst []) := hsb₁.extBut _ _ hDC (Heap.get?_push_of_some _ (hH2 ▸ hDd ▸ Heap.get?_push_size _ rfl))
  have hD0 : s₂.heap.get? D = none := by
    cases e : s₂.heap.get? D with
    | none => rfl
    | some o => exact absurd (hlt _ _ e) (Nat.lt_irrefl _)
  have hC0 : s₂.heap.get? C = none := by
    cases e : s₂.heap.get? C with
    | none => rfl
    | some o => exact absurd rfl (hltC _ _ e)
  have hmdD : D ∉ md := fun h => by obtain ⟨o, e⟩ := hmd _ h; rw [hD0] at e; cases e
  have hmdC : C ∉ md := fun h => by obtain ⟨o, e⟩ := hmd _ h; rw [hC0] at e; cases e
  have hfpD : D ∉ fp := fun h => by obtain ⟨o, e⟩ := hfp _ h; rw [hD0] at e; cases e
  have TC := T C (Nat.lt_of_lt_of_eq (Nat.lt_succ_self D) hC.symm)
  have hst₁ : St 0 h₁ := TC.frame _ _ _ hst fun b _ o e => old b o e
  have loop : ∀ s₃ : Shared, s₃ = { s₂ with heap := h₁, toks := s₂.toks + ([] : List (PySem.Str × Value)).length } →
      codeAny (model prog w) A (.compLoop (.ListComp elt [⟨target, iter, ifs, 0⟩] scope pos) 0 it (.ref D) (compEnvC scope cl C env)) (RR (.ref D) C) s₃ := by
    rintro s₃ rfl
    refine comp_loop
      (fun k s' => ∃ h' tk i ys m' tl, s' = { s₂ with heap := h', toks := tk } ∧ i ≤ n ∧ k = n + 1 - i ∧ St i h' ∧ h'.Ns C m' ∧ h'.get? D = some (lst ys) ∧ J i ys tl ∧
        (∀ b o, b ∉ md → s₂.heap.get? b = some o → h'.get? b = some o) ∧ (∀ p ∈ tl, h'.get? p.1 = some p.2 ∧ s₂.heap.get? p.1 = none ∧ p.1 ≠ C ∧ p.1 ≠ D)) ?_ (n + 1)
      ⟨h₁, _, 0, [], _, [], rfl, Nat.zero_le _, rfl, hst₁, hns₁, hacc, hJ, fun b o _ e => old b o e, fun p hp => nomatch hp⟩
    intro k s'
    intro hz3
    (refine ex6 hz3 fun h' tk i ys m' tl hz13 => ?_; refine and9 hz13 fun hz4 hi hz5 hst' hn' hD' hJ' hk' htl => ?_; clear hz13)
    try clear hz3
    obtain rfl := hz4
    obtain rfl := hz5
    by_cases hlt' : i < n
    · refine wpAny_mono (TC.item i { s₂ with heap := h', toks := tk } m' (fun _ s₃ => wpAny (model prog w) A (forIn ifs true fun c r => if r = true then do let ok ← isTrue c (compEnvC scope cl C env) (eval c (compEnvC scope cl C env)); pure (ForInStep.yield ok) else pure (ForInStep.yield r)) (fun ok s₃ =>
            if ok = true then wpAny (model prog w) A (eval elt (compEnvC scope cl C env)) (fun x s₄ =>
              wpAny (model prog w) A (call (.builtin "list.append") [.ref D, x]) (fun _ s₅ => ∃ m, m < n + 1 - i ∧ ∃ h' tk i ys m' tl, s₅ = { s₂ with heap := h', toks := tk } ∧ i ≤ n ∧ m = n + 1 - i ∧ St i h' ∧ h'.Ns C m' ∧ h'.get? D = some (lst ys) ∧ J i ys tl ∧
        (∀ b o, b ∉ md → s₂.heap.get? b = some o → h'.get? b = some o) ∧ (∀ p ∈ tl, h'.get? p.1 = some p.2 ∧ s₂.heap.get? p.1 = none ∧ p.1 ≠ C ∧ p.1 ≠ D)) (fun _ _ => False) s₄) (fun _ _ => False) s₃
            else ∃ m, m < n + 1 - i ∧ ∃ h' tk i ys m' tl, s₃ = { s₂ with heap := h', toks := tk } ∧ i ≤ n ∧ m = n + 1 - i ∧ St i h' ∧ h'.Ns C m' ∧ h'.get? D = some (lst ys) ∧ J i ys tl ∧
        (∀ b o, b ∉ md → s₂.heap.get? b = some o → h'.get? b = some o) ∧ (∀ p ∈ tl, h'.get? p.1 = some p.2 ∧ s₂.heap.get? p.1 = none ∧ p.1 ≠ C ∧ p.1 ≠ D)) (fun _ _ => False) s₃) hlt' hst' hn' fun h₂ tk₂ m₂ hB hst₂ hn₂ hk₂ => ?_) (fun r s₁ hr => ?_) fun _ _ e => e
      · have hDne : D ∉ C :: md := fun h => by rcases List.mem_cons.mp h with e | h; exact hDC e; exact hmdD h
        have hD₂ : h₂.get? D = some (lst ys) := hk₂ _ _ hDne hD'
        have old₂ : ∀ b o, b ∉ md → s₂.heap.get? b = some o → h₂.get? b = some o := fun b o hb e => hk₂ b o (fun h => by
          rcases List.mem_cons.mp h with q | h
          · rw [q, hC0] at e; cases e
          · exact hb h) (hk' b o hb e)
        have tl₂ : ∀ p ∈ tl, h₂.get? p.1 = some p.2 := fun p hp => hk₂ _ _ (fun h => by
          rcases List.mem_cons.mp h with q | h
          · exact (htl p hp).2.2.1 q
          · obtain ⟨o, e⟩ := hmd _ h; rw [(htl p hp).2.1] at e; cases e) (htl p hp).1
        have hg : ∀ b o, b ∉ md → s₂.heap.get? b = some o → (restr h₂ s₂.heap).get? b = some o := fun b o hb e => restr_of e (old₂ b o hb e)
        have FG : Fr (restr h₂ s₂.heap) C h₂ m₂ := ⟨hn₂, fun b o e => (restr_get e).2, by rw [restr_size, hDd]; exact Nat.le_trans (Nat.le_succ D) (Nat.le_of_eq hC.symm)⟩
        have NG : News (restr h₂ s₂.heap) C h₂ ((D, lst ys) :: tl) := fun p hp => by
          rcases List.mem_cons.mp hp with rfl | hp
          · exact ⟨hD₂, hDC, restr_none hD0⟩
          · exact ⟨tl₂ p hp, (htl p hp).2.2.1, restr_none (htl p hp).2.1⟩
        -- what one turn's end gives
        have fin : ∀ (ys' : List Value) (s₄ : Shared) (P : List (Addr × Obj) → Prop), CEnd (restr h₂ s₂.heap) C D ys P s₂ s₄ →
            ∃ h₃ tk₃ m₃ tl₃, s₄ = { s₂ with heap := h₃, toks := tk₃ } ∧ St (i + 1) h₃ ∧ h₃.Ns C m₃ ∧ h₃.get? D = some (lst ys) ∧ P tl₃ ∧
              (∀ b o, b ∉ md → s₂.heap.get? b = some o → h₃.get? b = some o) ∧ (∀ p ∈ tl₃, h₃.get? p.1 = some p.2 ∧ s₂.heap.get? p.1 = none ∧ p.1 ≠ C ∧ p.1 ≠ D) := by
          intro ys' s₄ P
          intro hz19
          (refine ex5 hz19 fun h₃ tk₃ m₃ tl₃ news₃ hz25 => ?_; refine and6 hz25 fun hz20 F₃ N₃ hsub hne hP => ?_; clear hz25)
          try clear hz19
          obtain rfl := hz20
          refine ⟨h₃, tk₃, m₃, tl₃, rfl, ?_, F₃.ns, (N₃ _ (hsub _ (.head _))).1, hP, fun b o hb e => F₃.keep b o (hg b o hb e), fun p hp => ?_⟩
          · refine TC.frame _ _ _ hst₂ fun b hb o e => ?_
            have hz30 := hfp b hb
            (refine ex1 hz30 fun o' e' => ?_)
            try clear hz30
            exact F₃.keep b o (restr_of e' e)
          · have z := N₃ p (hsub p (.tail _ hp))
            refine ⟨z.1, ?_, z.2.1, hne p hp⟩
            cases q : s₂.heap.get? p.1 with
            | none => rfl
            | some o =>
              exfalso
              by_cases hm : p.1 ∈ md
              · have hz31 := hlive _ _ hst₂ _ hm
                (refine ex1 hz31 fun o' e' => ?_)
                try clear hz31
                have := restr_of q e'
                rw [z.2.2] at this; cases this
              · have := hg p.1 o hm q
                rw [z.2.2] at this; cases this
        refine wpAny_mono (turn i ys tl _ C D h₂ tk₂ m' m₂ hlt' hJ' hg hB FG NG (fun p hp => (htl p hp).2.2.2)) (fun ok s₃ h₃ => ?_) fun _ _ e => e
        cases ok with
        | false =>
          rw [if_neg Bool.false_ne_true] at h₃ ⊢
          have hz32 := fin ys _ _ h₃
          (refine ex4 hz32 fun h₆ tk₃ m₃ tl₃ hz39 => ?_; refine and7 hz39 fun hz33 a1 a2 a3 a4 a5 a6 => ?_; clear hz39)
          try clear hz32
          obtain rfl := hz33
          exact ⟨n + 1 - (i + 1), sub_step (Nat.lt_succ_of_lt hlt'), h₆, tk₃, i + 1, ys, m₃, tl₃, rfl, hlt', rfl, a1, a2, a3, a4, a5, a6⟩
        | true =>
          rw [if_pos rfl] at h₃ ⊢
          refine wpAny_mono h₃ (fun y s₄ h₄ => ?_) fun _ _ e => e
          have hz43 := fin ys _ _ h₄
          (refine ex4 hz43 fun h₆ tk₃ m₃ tl₃ hz50 => ?_; refine and7 hz50 fun hz44 a1 a2 a3 a4 a5 a6 => ?_; clear hz50)
          try clear hz43
          obtain rfl := hz44
          refine append_at (hsz := by show ys.toArray.size ≤ sizeLine; rw [List.size_toArray]; exact Nat.le_trans (hJl _ _ _ hJ') (Nat.le_trans hi hsz)) a3 fun h₅ hs₅ hD₅ => ?_
          refine ⟨n + 1 - (i + 1), sub_step (Nat.lt_succ_of_lt hlt'), h₅, tk₃, i + 1, ys ++ [y], m₃, tl₃, rfl, hlt', rfl, TC.frame _ _ _ a1 fun b hb o e => hs₅.extBut b o (fun q => hfpD (q ▸ hb)) e, a2.sameBut hs₅ (Ne.symm hDC), ?_, a4, fun b o hb e => hs₅.extBut b o (fun q => ?_) (a5 b o hb e), fun p hp => ?_⟩
          · exact hD₅.trans (congrArg some (LCg.lst_snoc ys y))
          · rw [q, hD0] at e; cases e
          · exact ⟨hs₅.extBut _ _ (a6 p hp).2.2.2 (a6 p hp).1, (a6 p hp).2⟩
      · (refine ex1 hr fun v hz55 => ?_; refine and2 hz55 fun hz54 hv => ?_; clear hz55)
        try clear hr
        obtain rfl := hz54
        exact hv
    · obtain rfl : i = n := Nat.le_antisymm hi (Nat.not_lt.mp hlt')
      refine TC.done { s₂ with heap := h', toks := tk } _ hst' fun h'' tk' hk'' => ?_
      (refine ex3 hn' fun oC eC epC hz56 => ?_; refine and2 hz56 fun hCo rC => ?_; clear hz56)
      try clear hn'
      exact hRR D C h'' tk' m' ys tl hJ' rfl hC (fun b o hb e => hk'' b o hb (hk' b o hb e)) (hk'' _ _ hmdD hD')
        (fun p hp => ⟨hk'' _ _ (fun h => by obtain ⟨o, e⟩ := hmd _ h; rw [(htl p hp).2.1] at e; cases e) (htl p hp).1, (htl p hp).2⟩) ⟨oC, eC, epC, hk'' _ _ hmdC hCo, rC⟩
  exact codeAny_compStart_list (loop _ rfl) (hself _ _ _ hst₁ (loop _ rfl))
end
end Mine

end
section
open PySem PySem.W PySem.Calls PyProof.Rows
set_option Elab.async false
set_option maxRecDepth 100000
namespace Mine
section
variable {prog : Program} {w : World} {A : Around} {env : Env}

/-- a single name takes the item -/
theorem tk_name {I : Addr} {fp wr : List Addr} {n : Nat} {P : Nat → Value → Prop} {St : Nat → Heap → Prop} {x : PySem.Str} {px : Pos}
    (W : Walks prog w A I fp wr n P St) (hx : env.kindOf x = some .local) (hp : (env.scope.kind == .class || (env.scope.kind == .module && env.locals != env.globals)) = false) (hL : env.locals ∉ fp) :
    Tk prog w A (.ref I) (.Name x px) env wr (env.locals :: wr) fp n (fun i m m' _ => ∃ v, P i v ∧ m' = fun z => if z = x then some v else m z) St where
  frame := W.frame
  item := fun i s m Q hi hst hn hQ => by
    have hLw : env.locals ∉ wr := fun h => hL (W.sub _ h)
    refine W.item i s _ _ hi hst fun v h' tk hP hst' hk => ⟨v, rfl, ?_⟩
    refine wpAny_of_eq (a := ()) rfl ?_
    refine wpAny_assign_Name (wpAny_storeName_local hx (hn.at' fun o e => hk _ o hLw e) (fun h₂ hn₂ hs₂ => ?_) hp)
    refine hQ h₂ _ _ ⟨v, hP, rfl⟩ (W.frame _ _ _ hst' fun b hb o e => hs₂.extBut b o (fun q => hL (q ▸ hb)) e) hn₂ fun b o hb e => ?_
    simp only [List.mem_cons, not_or] at hb
    exact hs₂.extBut b o hb.1 (hk b o hb.2 e)
  done := fun s Q hst hQ => W.done s _ _ hst hQ

/-- a pair of names takes the item -/
theorem tk_pair {I : Addr} {fp wr : List Addr} {n : Nat} {Pt : Nat → Array Value → Prop} {St : Nat → Heap → Prop} {Mid : Nat → Addr → Heap → Prop} {x y : PySem.Str} {px py tp : Pos} {k : Nat}
    (hh : A.handled = none) (W : WalksU prog w A I fp wr n Pt St Mid) (h2 : ∀ i vals, Pt i vals → ∃ v0 v1, vals = #[v0, v1])
    (hx : env.kindOf x = some .local) (hy : env.kindOf y = some .local) (hp : (env.scope.kind == .class || (env.scope.kind == .module && env.locals != env.globals)) = false) (hL : env.locals ∉ fp) :
    Tk prog w A (.ref I) (.Tuple [.Name x px, .Name y py] k tp) env wr (env.locals :: wr) fp n
      (fun i m m' _ => ∃ v0 v1, Pt i #[v0, v1] ∧ m' = fun z => if z = y then some v1 else if z = x then some v0 else m z) St where
  frame := W.frame
  item := fun i s m Q hi hst hn hQ => by
    have hLw : env.locals ∉ wr := fun h => hL (W.sub _ h)
    refine W.item i s _ _ hi hst fun T vals h₁ tk₁ hPt hT hMid hk₁ => ⟨_, rfl, ?_⟩
    have hz1 := h2 i vals hPt
    (refine ex2 hz1 fun v0 v1 hz2 => ?_)
    try clear hz1
    obtain rfl := hz2
    refine W.go _ k tp i T _ _ _ hMid fun h₂ hst₂ hk₂ => ?_
    have ht₂ : h₂.IsTuple T #[v0, v1] := hT.at fun o e => hk₂ T o (W.apart i T h₁ hMid) e
    refine wpAny_assign_Tuple hh ht₂ rfl rfl fun h₃ hx₃ => ?_
    replace hx₃ : Heap.ExtBut h₂.objs.size h₂ h₃ := hx₃
    have up₃ : ∀ b o, h₂.get? b = some o → h₃.get? b = some o := fun b o x => hx₃ b o (Nat.ne_of_lt (Heap.lt_size x)) x
    have n₃ : h₃.Ns env.locals m := hn.at' fun o e => up₃ _ _ (hk₂ _ o hLw (hk₁ _ o hLw e))
    show wpAny _ A (do holding [v1] (assign (.Name x px) env v0); do holding [] (assign (.Name y py) env v1); pure ()) _ _ _
    refine wpAny_bind (wpAny_holding (wpAny_assign_Name (wpAny_storeName_local hx n₃ (fun h₄ hn₄ hs₄ => ?_) hp)))
    replace hs₄ : Heap.SameBut env.locals h₃ h₄ := hs₄
    refine wpAny_bind (wpAny_holding (wpAny_assign_Name (wpAny_storeName_local hy hn₄ (fun h₅ hn₅ hs₅ => wpAny_pure ?_) hp)))
    replace hs₅ : Heap.SameBut env.locals h₄ h₅ := hs₅
    refine hQ h₅ _ _ ⟨v0, v1, hPt, rfl⟩ (W.frame _ _ _ hst₂ fun b hb o e => hs₅.extBut b o (fun q => hL (q ▸ hb)) (hs₄.extBut b o (fun q => hL (q ▸ hb)) (up₃ b o e))) hn₅ fun b o hb e => ?_
    simp only [List.mem_cons, not_or] at hb
    exact hs₅.extBut b o hb.1 (hs₄.extBut b o hb.1 (up₃ b o (hk₂ b o hb.2 (hk₁ b o hb.2 e))))
  done := fun s Q hst hQ => W.done s _ _ hst hQ

noncomputable def IsCell (h : Heap) (c : Addr) (v : Option Value) : Prop := ∃ o, h.get? c = some o ∧ o.data = .cell v
theorem IsCell.at {h h' : Heap} {c : Addr} {v : Option Value} (x : IsCell h c v) (k : ∀ o, h.get? c = some o → h'.get? c = some o) : IsCell h' c v := let ⟨o, a, b⟩ := x; ⟨o, k o a, b⟩

/-- a name that is a cell takes the item -/
theorem tk_cell {I c : Addr} {fp wr : List Addr} {n : Nat} {P : Nat → Value → Prop} {St : Nat → Heap → Prop} {x : PySem.Str} {px : Pos}
    (W : Walks prog w A I fp wr n P St) (hk : env.scope.kind = .function) (hx : env.kindOf x = some .cell) (hc : env.cells.lookup x = some c) (hL : env.locals ∉ fp) (hcf : c ∉ fp) (hcL : env.locals ≠ c) :
    Tk prog w A (.ref I) (.Name x px) env wr (c :: wr) (c :: fp) n (fun i m m' h => ∃ v, P i v ∧ m' = m ∧ IsCell h c (some v)) (fun i h => St i h ∧ ∃ v, IsCell h c v) where
  frame := fun i h h' st k => ⟨W.frame i h h' st.1 fun b hb o e => k b (.tail _ hb) o e, let ⟨v, y⟩ := st.2; ⟨v, y.at fun o e => k c (.head _) o e⟩⟩
  item := fun i s m Q hi hst hn hQ => by
    have hLw : env.locals ∉ wr := fun h => hL (W.sub _ h)
    have hcw : c ∉ wr := fun h => hcf (W.sub _ h)
    (rcases hst with ⟨hz4, v₀, hcell⟩)
    try clear hst
    have hst := hz4
    clear hz4
    refine W.item i s _ _ hi hst fun v h' tk hP hst' hkp => ⟨v, rfl, ?_⟩
    refine wpAny_of_eq (a := ()) rfl ?_
    refine wpAny_assign_Name ?_
    refine wpAny_storeName_cell hk hx hc (hcell.at fun o e => hkp c o hcw e) fun h₂ hv hs => ?_
    replace hs : Heap.SameBut c h' h₂ := hs
    refine hQ h₂ _ m ⟨v, hP, rfl, hv⟩ ⟨W.frame _ _ _ hst' fun b hb o e => hs.extBut b o (fun q => hcf (q ▸ hb)) e, _, hv⟩ ((hn.at' fun o e => hkp _ o hLw e).sameBut hs hcL) fun b o hb e => ?_
    simp only [List.mem_cons, not_or] at hb
    exact hs.extBut b o hb.1 (hkp b o hb.2 e)
  done := fun s Q hst hQ => W.done s _ _ hst.1 hQ

/-- a pair whose second name is a cell -/
theorem tk_pairC {I c : Addr} {fp wr : List Addr} {n : Nat} {Pt : Nat → Array Value → Prop} {St : Nat → Heap → Prop} {Mid : Nat → Addr → Heap → Prop} {x y : PySem.Str} {px py tp : Pos} {k : Nat}
    (hh : A.handled = none) (W : WalksU prog w A I fp wr n Pt St Mid) (h2 : ∀ i vals, Pt i vals → ∃ v0 v1, vals = #[v0, v1]) (hk : env.scope.kind = .function)
    (hx : env.kindOf x = some .local) (hy : env.kindOf y = some .cell) (hc : env.cells.lookup y = some c) (hp : (env.scope.kind == .class || (env.scope.kind == .module && env.locals != env.globals)) = false)
    (hL : env.locals ∉ fp) (hcf : c ∉ fp) (hcL : env.locals ≠ c) :
    Tk prog w A (.ref I) (.Tuple [.Name x px, .Name y py] k tp) env wr (env.locals :: c :: wr) (c :: fp) n
      (fun i m m' h => ∃ v0 v1, Pt i #[v0, v1] ∧ (m' = fun z => if z = x then some v0 else m z) ∧ IsCell h c (some v1)) (fun i h => St i h ∧ ∃ v, IsCell h c v) where
  frame := fun i h h' st k => ⟨W.frame i h h' st.1 fun b hb o e => k b (.tail _ hb) o e, let ⟨v, y⟩ := st.2; ⟨v, y.at fun o e => k c (.head _) o e⟩⟩
  item := fun i s m Q hi hst hn hQ => by
    have hLw : env.locals ∉ wr := fun h => hL (W.sub _ h)
    have hcw : c ∉ wr := fun h => hcf (W.sub _ h)
    (rcases hst with ⟨hz6, v₀, hcell⟩)
    try clear hst
    have hst := hz6
    clear hz6
    refine W.item i s _ _ hi hst fun T vals h₁ tk₁ hPt hT hMid hk₁ => ⟨_, rfl, ?_⟩
    have hz8 := h2 i vals hPt
    (refine ex2 hz8 fun v0 v1 hz9 => ?_)
    try clear hz8
    obtain rfl := hz9
    refine W.go _ k tp i T _ _ _ hMid fun h₂ hst₂ hk₂ => ?_
    have ht₂ : h₂.IsTuple T #[v0, v1] := hT.at fun o e => hk₂ T o (W.apart i T h₁ hMid) e
    refine wpAny_assign_Tuple hh ht₂ rfl rfl fun h₃ hx₃ => ?_
    replace hx₃ : Heap.ExtBut h₂.objs.size h₂ h₃ := hx₃
    have up₃ : ∀ b o, h₂.get? b = some o → h₃.get? b = some o := fun b o x => hx₃ b o (Nat.ne_of_lt (Heap.lt_size x)) x
    have n₃ : h₃.Ns env.locals m := hn.at' fun o e => up₃ _ _ (hk₂ _ o hLw (hk₁ _ o hLw e))
    have c₃ : IsCell h₃ c v₀ := hcell.at fun o e => up₃ _ _ (hk₂ _ o hcw (hk₁ _ o hcw e))
    show wpAny _ A (do holding [v1] (assign (.Name x px) env v0); do holding [] (assign (.Name y py) env v1); pure ()) _ _ _
    refine wpAny_bind (wpAny_holding (wpAny_assign_Name (wpAny_storeName_local hx n₃ (fun h₄ hn₄ hs₄ => ?_) hp)))
    replace hs₄ : Heap.SameBut env.locals h₃ h₄ := hs₄
    refine wpAny_bind (wpAny_holding (wpAny_assign_Name ?_))
    refine wpAny_storeName_cell hk hy hc (c₃.at fun o e => hs₄.extBut c o (Ne.symm hcL) e) fun h₅ hv hs₅ => wpAny_pure ?_
    replace hs₅ : Heap.SameBut c h₄ h₅ := hs₅
    refine hQ h₅ _ _ ⟨v0, v1, hPt, rfl, hv⟩ ⟨W.frame _ _ _ hst₂ fun b hb o e => hs₅.extBut b o (fun q => hcf (q ▸ hb)) (hs₄.extBut b o (fun q => hL (q ▸ hb)) (up₃ b o e)), _, hv⟩ (hn₄.sameBut hs₅ hcL) fun b o hb e => ?_
    simp only [List.mem_cons, not_or] at hb
    exact hs₅.extBut b o hb.2.1 (hs₄.extBut b o hb.1 (up₃ b o (hk₂ b o hb.2.2 (hk₁ b o hb.2.2 e))))
  done := fun s Q hst hQ => W.done s _ _ hst.1 hQ

/-! ## for -/
noncomputable def FEnd (h₀ : Heap) (L : Addr) (G : Array GenState → Prop) (nx own : List (Addr × Obj)) (J : (PySem.Str → Option Value) → List (Addr × Obj) → Prop) (s s' : Shared) : Prop :=
  ∃ h' g' tk' m' nx' news', s' = { s with heap := h', gens := g', toks := tk' } ∧ G g' ∧ Fr h₀ L h' m' ∧ News h₀ L h' news' ∧ (∀ p ∈ nx', p ∈ news') ∧ (∀ p ∈ own, p ∈ news') ∧ (∀ p ∈ nx', (∃ o, (p.1, o) ∈ nx) ∨ ∀ q ∈ own, q.1 ≠ p.1) ∧ J m' nx'
noncomputable def FPost (h₀ : Heap) (L : Addr) (G : Array GenState → Prop) (nx own : List (Addr × Obj)) (J : (PySem.Str → Option Value) → List (Addr × Obj) → Prop) (R : Result → Shared → Prop) (s : Shared) (f : Flow) (s' : Shared) : Prop :=
  match f with
  | .ret v => R (.ok (.ret v)) s'
  | .brk => R (.ok .next) s'
  | _ => FEnd h₀ L G nx own J s s'

theorem for_core {target : Expr} {body : List Stmt} {it : Value} {wr md fp : List Addr} {n : Nat} {Bd : Nat → (PySem.Str → Option Value) → (PySem.Str → Option Value) → Heap → Prop} {St : Nat → Heap → Prop}
    {R : Result → Shared → Prop} {s : Shared} {h₀ : Heap} {m : PySem.Str → Option Value} {nx : List (Addr × Obj)} (G : Array GenState → Prop) (J : Nat → (PySem.Str → Option Value) → List (Addr × Obj) → Prop)
    (T : Tk prog w A it target env wr md fp n Bd St) (hwr : ∀ b ∈ wr, b ∈ md) (hLw : env.locals ∉ wr) (hLf : env.locals ∉ fp) (hmf : ∀ b ∈ md, b = env.locals ∨ b ∈ fp)
    (hlive : ∀ i h, St i h → ∀ b ∈ md, b = env.locals ∨ ∃ o, h.get? b = some o) (hm0 : ∀ b ∈ md, h₀.get? b = none)
    (hG : G s.gens) (hst : St 0 s.heap) (F : Fr h₀ env.locals s.heap m) (N : News h₀ env.locals s.heap nx) (hn : ∀ p ∈ nx, p.1 ∉ md) (hJ : J 0 m nx)
    (turn : ∀ i m₁ m₂ nx h g tk own, i < n → J i m₁ nx → G g → Bd i m₁ m₂ h → Fr h₀ env.locals h m₂ → News h₀ env.locals h (nx ++ own) → (∀ p ∈ nx, p.1 ∉ md) → (∀ b ∈ md, b = env.locals ∨ ∃ o, (b, o) ∈ own) → (∀ p ∈ own, p.1 ∈ fp) →
      wpAny (model prog w) A (execs body env) (FPost h₀ env.locals G nx own (J (i + 1)) R s) (fun _ _ => False) { s with heap := h, gens := g, toks := tk })
    (done : ∀ m₁ nx h g tk, J n m₁ nx → G g → Fr h₀ env.locals h m₁ → News h₀ env.locals h nx → (∀ p ∈ nx, p.1 ∉ md) → R (.ok .next) { s with heap := h, gens := g, toks := tk }) :
    codeAny (model prog w) A (.forLoop target it body [] env) R s := by
  refine codeAny_forLoop_any
    (fun k s' => ∃ h' g tk m' nx i, s' = { s with heap := h', gens := g, toks := tk } ∧ G g ∧ St i h' ∧ Fr h₀ env.locals h' m' ∧ News h₀ env.locals h' nx ∧ (∀ p ∈ nx, p.1 ∉ md) ∧ J i m' nx ∧ i ≤ n ∧ k = n + 1 - i) ?_ (n + 1)
    ⟨s.heap, s.gens, s.toks, m, nx, 0, rfl, hG, hst, F, N, hn, hJ, Nat.zero_le _, rfl⟩
  intro k s'
  intro hz11
  (refine ex6 hz11 fun H g tk m' nx i hz21 => ?_; refine and9 hz21 fun hz12 hG' hst' F' N' hn' hJ' hi hz13 => ?_; clear hz21)
  try clear hz11
  obtain rfl := hz12
  obtain rfl := hz13
  by_cases hlt : i < n
  · refine wpAny_mono (T.item i { s with heap := H, gens := g, toks := tk } m' (fun _ s₂ => wpAny (model prog w) A (execs body env) (fun f s₃ => match f with
            | .next | .cont => ∃ m, m < n + 1 - i ∧ ∃ h' g tk m' nx i, s₃ = { s with heap := h', gens := g, toks := tk } ∧ G g ∧ St i h' ∧ Fr h₀ env.locals h' m' ∧ News h₀ env.locals h' nx ∧ (∀ p ∈ nx, p.1 ∉ md) ∧ J i m' nx ∧ i ≤ n ∧ m = n + 1 - i
            | .brk => R (.ok .next) s₃
            | .ret v => R (.ok (.ret v)) s₃) (fun _ _ => False) s₂) hlt hst' F'.ns fun h₁ tk₁ m₁ hB hst₁ hn₁ hk₁ => ?_) (fun r s₁ hr => ?_) fun _ _ e => e.elim
    · have F₁ : Fr h₀ env.locals h₁ m₁ := ⟨hn₁, fun b o e => hk₁ b o (fun hb => by rw [hm0 b hb] at e; cases e) (F'.keep b o e), F'.above⟩
      have N₁ : News h₀ env.locals h₁ nx := fun p hp => ⟨hk₁ _ _ (hn' p hp) (N' p hp).1, (N' p hp).2⟩
      have N₂ : News h₀ env.locals h₁ (nx ++ ownOf h₀ fp h₁) := fun p hp => ((List.mem_append.mp hp).elim (fun h => N₁ p h) fun h => news_ownOf hLf p h)
      refine wpAny_mono (turn i m' m₁ nx h₁ g tk₁ (ownOf h₀ fp h₁) hlt hJ' hG' hB F₁ N₂ hn' (fun b hb => ?_) ownOf_sub) (fun f s₃ h₃ => ?_) fun _ _ e => e
      · rcases hmf b hb with e | hf
        · exact .inl e
        · rcases hlive _ _ hst₁ b hb with e | ⟨o, e⟩
          · exact .inl e
          · exact .inr ⟨o, mem_ownOf hf (hm0 b hb) e⟩
      · have fin : FEnd h₀ env.locals G nx (ownOf h₀ fp h₁) (J (i + 1)) s s₃ → ∃ m, m < n + 1 - i ∧ ∃ h' g tk m' nx i, s₃ = { s with heap := h', gens := g, toks := tk } ∧ G g ∧ St i h' ∧ Fr h₀ env.locals h' m' ∧ News h₀ env.locals h' nx ∧ (∀ p ∈ nx, p.1 ∉ md) ∧ J i m' nx ∧ i ≤ n ∧ m = n + 1 - i := by
          intro hz27
          (refine ex6 hz27 fun h' g' tk' m' nx' news' hz35 => ?_; refine and8 hz35 fun hz28 hg F₃ N₃ hs ho hne hj => ?_; clear hz35)
          try clear hz27
          obtain rfl := hz28
          refine ⟨n + 1 - (i + 1), sub_step (Nat.lt_succ_of_lt hlt), h', g', tk', m', nx', i + 1, rfl, hg, ?_, F₃, fun p hp => N₃ p (hs p hp), fun p hp hm => ?_, hj, hlt, rfl⟩
          · refine T.frame _ _ _ hst₁ fun b hb o e => ?_
            cases hn : h₀.get? b with
            | some o₀ =>
              have : o₀ = o := by have q := F₁.keep b o₀ hn; rw [e] at q; exact (Option.some.inj q).symm
              exact this ▸ F₃.keep b o₀ hn
            | none => exact (N₃ _ (ho _ (mem_ownOf hb hn e))).1
          · rcases hne p hp with ⟨o, h⟩ | h
            · exact hn' _ h hm
            · rcases hmf _ hm with e | hf
              · exact (N₃ p (hs p hp)).2.1 e
              · rcases hlive _ _ hst₁ _ hm with e | ⟨o, e⟩
                · exact (N₃ p (hs p hp)).2.1 e
                · exact h _ (mem_ownOf hf (hm0 _ hm) e) rfl
        cases f with
        | ret v => exact h₃
        | brk => exact h₃
        | cont => exact fin h₃
        | next => exact fin h₃
    · (refine ex1 hr fun v hz42 => ?_; refine and2 hz42 fun hz41 hv => ?_; clear hz42)
      try clear hr
      obtain rfl := hz41
      refine wpAny_mono hv (fun _ s₂ h₂ => ?_) fun _ _ e => e.elim
      refine wpAny_mono h₂ (fun _ s₃ h₃ => ?_) fun _ _ e => e.elim
      exact wpAny_mono h₃ (fun f s₄ h₄ => by cases f <;> exact h₄) fun _ _ e => e.elim
  · have hin : i = n := Nat.le_antisymm (by assumption) (Nat.le_of_not_lt (by assumption))
    subst hin
    refine wpAny_mono (T.done { s with heap := H, gens := g, toks := tk } (fun r s₁ => r = none ∧ R (.ok .next) s₁) hst' fun h₁ tk₁ hk₁ => ⟨rfl, ?_⟩) (fun r s₁ hr => ?_) fun _ _ e => e.elim
    · refine done m' nx h₁ g tk₁ hJ' hG' ⟨F'.ns.at' fun o e => hk₁ _ o hLw e, fun b o e => hk₁ b o (fun hb => by rw [hm0 b (hwr b hb)] at e; cases e) (F'.keep b o e), F'.above⟩
        (fun p hp => ⟨hk₁ _ _ (fun hb => hn' p hp (hwr _ hb)) (N' p hp).1, (N' p hp).2⟩) hn'
    · (refine and2 hr fun hz43 hz44 => ?_)
      try clear hr
      obtain rfl := hz43
      have hr := hz44
      clear hz44
      exact wpAny_execs_nil hr
end
end Mine

end
section
open PySem PySem.W PySem.Calls PyProof.Rows
set_option Elab.async false
set_option maxRecDepth 100000
namespace Mine
section
variable {prog : Program} {w : World} {A : Around} {env : Env}

/-- behind the iterator: the loop of a list comprehension -/
noncomputable def CRaw (prog : Program) (w : World) (A : Around) (env : Env) (elt target iter : Expr) (ifs : List Expr) (scope : Scope) (cl : List (PySem.Str × Addr)) (pos : Pos) (use : Option (Value → Sem Unit)) (Q : Value → Shared → Prop) (E : Value → Shared → Prop) (it : Value) (s₂ : Shared) : Prop :=
  wpAny (model prog w) A (newList []) (fun acc s₃ => wpAny (model prog w) A (newFunctionEnv scope env.globals cl [] env.qual none .none (some env)) (fun cenv s₄ =>
      codeAny (model prog w) A (.compStart (.ListComp elt [⟨target, iter, ifs, 0⟩] scope pos) 0 it acc { cenv with scope := relabel scope env }) (compPost (model prog w) A E use Q acc cenv.locals) s₄) E s₃) E s₂

theorem comp_eval {elt target iter : Expr} {ifs : List Expr} {scope : Scope} {cl : List (PySem.Str × Addr)} {pos : Pos} {s : Shared} {Q E : Value → Shared → Prop}
    (hclos : closureFor scope env = pure cl) (hkind : scope.kind = .function) (hnames : ∀ y ∈ scope.names, y.2 = .local → scope.names.lookup y.1 = some .local)
    (h : wpAny (model prog w) A (eval iter env) (fun xv s₁ => wpAny (model prog w) A (pyIter xv) (CRaw prog w A env elt target iter ifs scope cl pos none Q E) E s₁) E s)
    (hs : ∀ x, foldedSetIterable iter env x = pure x := by intro _; rfl) :
    wpAny (model prog w) A (eval (.ListComp elt [⟨target, iter, ifs, 0⟩] scope pos) env) Q E s := by
  rw [eval_ListComp]
  exact wpAny_comprehension_free (use := none) rfl hs hclos hkind hnames h

theorem comp_assign {elt target iter : Expr} {ifs : List Expr} {scope : Scope} {cl : List (PySem.Str × Addr)} {pos py spos : Pos} {y : PySem.Str} {s : Shared} {Q : Flow → Shared → Prop} {E : Value → Shared → Prop}
    (hsw : swapsWith (.ListComp elt [⟨target, iter, ifs, 0⟩] scope pos) (some (.Name y py)) spos.line env = pure true)
    (hclos : closureFor scope env = pure cl) (hkind : scope.kind = .function) (hnames : ∀ y ∈ scope.names, y.2 = .local → scope.names.lookup y.1 = some .local)
    (h : wpAny (model prog w) A (eval iter env) (fun xv s₁ => wpAny (model prog w) A (pyIter xv) (CRaw prog w A env elt target iter ifs scope cl pos (some (assign (.Name y py) env)) (fun _ s' => Q .next s') E) E s₁) E s)
    (hs : ∀ x, foldedSetIterable iter env x = pure x := by intro _; rfl) :
    wpAny (model prog w) A (exec (.Assign [.Name y py] (.ListComp elt [⟨target, iter, ifs, 0⟩] scope pos) spos) env) Q E s := by
  rw [exec_Assign_Name_used _ _ _ _ hsw]
  refine wpAny_bind (wpAny_standAt (wpAny_bind ?_))
  show wpAny _ A (do let _ ← comprehension (.ListComp elt [⟨target, iter, ifs, 0⟩] scope pos) scope env _ (newList []) false (eval iter env) (some (assign (.Name y py) env))) _ _ s
  exact wpAny_bind (wpAny_mono (wpAny_comprehension_free (use := some (assign (.Name y py) env)) (Q := fun _ s' => Q .next s') rfl hs hclos hkind hnames h) (fun _ s' hq => wpAny_pure (wpAny_pure hq)) fun _ _ e => e)

/-- what the comprehension's own walk is given and gives, over the caller's frame and ledger -/
structure CSrc (prog : Program) (w : World) (A : Around) (env : Env) (target : Expr) (scope : Scope) (cl : List (PySem.Str × Addr)) (h₀ : Heap) (L : Addr) (m₀ : PySem.Str → Option Value) (news : List (Addr × Obj))
    (n : Nat) (md fp : List Addr) (Bd : Nat → (PySem.Str → Option Value) → (PySem.Str → Option Value) → Heap → Prop) (St : Nat → Heap → Prop) (it : Value) (s₂ : Shared) : Prop where
  T : ∀ C, s₂.heap.objs.size < C → Tk prog w A it target (compEnvC scope cl C env) md (C :: md) fp n Bd St
  self : ∀ (s : Shared) (Q : Value → Shared → Prop) (E : Value → Shared → Prop), St 0 s.heap → Q it s → wpAny (model prog w) A (pyIter it) Q E s
  st : St 0 s₂.heap
  fpA : ∀ b ∈ fp, ∃ o, s₂.heap.get? b = some o
  mdA : ∀ b ∈ md, ∃ o, s₂.heap.get? b = some o
  live : ∀ i h, St i h → ∀ b ∈ md, ∃ o, h.get? b = some o
  sz : n ≤ sizeLine
  F : Fr h₀ L s₂.heap m₀
  N : News h₀ L s₂.heap news
  md0 : ∀ b ∈ md, h₀.get? b = none
  mdL : ∀ b ∈ md, b ≠ L
  mdN : ∀ b ∈ md, ∀ p ∈ news, p.1 ≠ b

noncomputable def CTurn (prog : Program) (w : World) (A : Around) (env : Env) (elt : Expr) (ifs : List Expr) (scope : Scope) (cl : List (PySem.Str × Addr)) (h₀ : Heap) (L : Addr) (m₀ : PySem.Str → Option Value) (news : List (Addr × Obj))
    (J : Nat → List Value → List (Addr × Obj) → Prop) (n : Nat) (Bd : Nat → (PySem.Str → Option Value) → (PySem.Str → Option Value) → Heap → Prop) (s₂ : Shared) : Prop :=
  ∀ i ys tl g C D h tk m m₁, i < n → J i ys tl → (∀ b o, h₀.get? b = some o → g.get? b = some o) → (∀ p ∈ news, g.get? p.1 = some p.2) → Bd i m m₁ h → Fr g C h m₁ → News g C h ((D, lst ys) :: tl) → (∀ p ∈ tl, p.1 ≠ D) →
      wpAny (model prog w) A (forIn ifs true fun c r => if r = true then do let ok ← isTrue c (compEnvC scope cl C env) (eval c (compEnvC scope cl C env)); pure (ForInStep.yield ok) else pure (ForInStep.yield r))
        (fun ok s₃ => if ok = true then wpAny (model prog w) A (eval elt (compEnvC scope cl C env)) (fun y s₄ => CEnd g C D ys (J (i + 1) (ys ++ [y])) s₂ s₄) (fun _ _ => False) s₃ else CEnd g C D ys (J (i + 1) ys) s₂ s₃)
        (fun _ _ => False) { s₂ with heap := h, toks := tk }

theorem csrc_after {target : Expr} {scope : Scope} {cl : List (PySem.Str × Addr)} {h₀ : Heap} {L : Addr} {m₀ : PySem.Str → Option Value} {news : List (Addr × Obj)}
    {n : Nat} {md fp : List Addr} {Bd : Nat → (PySem.Str → Option Value) → (PySem.Str → Option Value) → Heap → Prop} {St : Nat → Heap → Prop} {it : Value} {s₂ : Shared}
    (S : CSrc prog w A env target scope cl h₀ L m₀ news n md fp Bd St it s₂) {h : Heap} {C D : Addr} {ys : List Value} {tl : List (Addr × Obj)} (hD : D = s₂.heap.objs.size)
    (hk : ∀ b o, b ∉ md → s₂.heap.get? b = some o → h.get? b = some o) (hd : h.get? D = some (lst ys)) (ht : ∀ p ∈ tl, h.get? p.1 = some p.2 ∧ s₂.heap.get? p.1 = none ∧ p.1 ≠ C ∧ p.1 ≠ D) :
    Fr h₀ L h m₀ ∧ News h₀ L h ((D, lst ys) :: (news ++ tl)) := by
  have hL := S.F.ns
  have fresh : ∀ a, s₂.heap.get? a = none → a ≠ L ∧ h₀.get? a = none := fun a ha => by
    refine ⟨fun e => ?_, ?_⟩
    · obtain ⟨o, _, _, q, _⟩ := hL; rw [e, q] at ha; cases ha
    · cases q : h₀.get? a with
      | none => rfl
      | some o => rw [S.F.keep _ _ q] at ha; cases ha
  have hD0 : s₂.heap.get? D = none := by
    cases e : s₂.heap.get? D with
    | none => rfl
    | some o => exact absurd (Heap.lt_size e) (by rw [hD]; exact Nat.lt_irrefl _)
  refine ⟨⟨hL.at' fun o e => hk L o (fun hb => S.mdL L hb rfl) e, fun b o e => hk b o (fun hb => by rw [S.md0 b hb] at e; cases e) (S.F.keep b o e), S.F.above⟩, fun p hp => ?_⟩
  rcases List.mem_cons.mp hp with rfl | hp
  · exact ⟨hd, fresh _ hD0⟩
  · rcases List.mem_append.mp hp with hp | hp
    · exact ⟨hk _ _ (fun hb => S.mdN _ hb p hp rfl) (S.N p hp).1, (S.N p hp).2⟩
    · exact ⟨(ht p hp).1, fresh _ (ht p hp).2.1⟩

theorem craw_eval {elt target iter : Expr} {ifs : List Expr} {scope : Scope} {cl : List (PySem.Str × Addr)} {pos : Pos} {Q E : Value → Shared → Prop} {h₀ : Heap} {L : Addr} {m₀ : PySem.Str → Option Value} {news : List (Addr × Obj)}
    {n : Nat} {md fp : List Addr} {Bd : Nat → (PySem.Str → Option Value) → (PySem.Str → Option Value) → Heap → Prop} {St : Nat → Heap → Prop} {it : Value} {s₂ : Shared} (J : Nat → List Value → List (Addr × Obj) → Prop)
    (S : CSrc prog w A env target scope cl h₀ L m₀ news n md fp Bd St it s₂) (hcell : ∀ y ∈ scope.names, y.2 ≠ .cell) (hkind : scope.kind = .function)
    (hJ : J 0 [] []) (hJl : ∀ i ys tl, J i ys tl → ys.length ≤ i)
    (turn : CTurn prog w A env elt ifs scope cl h₀ L m₀ news J n Bd s₂)
    (fin : ∀ D h tk ys tl, J n ys tl → Fr h₀ L h m₀ → News h₀ L h ((D, lst ys) :: (news ++ tl)) → (∀ p ∈ news, p.1 < D) → (∀ p ∈ tl, ∀ q ∈ news, q.1 ≠ p.1) → Q (.ref D) { s₂ with heap := h, toks := tk }) :
    CRaw prog w A env elt target iter ifs scope cl pos none Q E it s₂ := by
  refine comp_core S.T S.self S.st S.fpA S.mdA S.live S.sz hcell hkind J hJ hJl
    (fun i ys tl g C D h tk m m₁ hi hj hg hB F N hD => turn i ys tl g C D h tk m m₁ hi hj (fun b o e => hg b o (fun hb => by rw [S.md0 b hb] at e; cases e) (S.F.keep b o e)) (fun p hp => hg _ _ (fun hb => S.mdN _ hb p hp rfl) (S.N p hp).1) hB F N hD)
    fun D C h tk m' ys tl hj hD hC hk hd ht hn => ⟨m', hn, fun h' hs => ?_⟩
  have hCs : ∀ (b : Nat) o, s₂.heap.get? b = some o → b ≠ C := fun b o e q => by have := Heap.lt_size e; rw [q, hC] at this; exact Nat.not_succ_lt_self this
  have hDC : D ≠ C := by rw [hD, hC]; exact Nat.ne_of_lt (Nat.lt_succ_self _)
  obtain ⟨F', N'⟩ := csrc_after S (h := h') (C := C) hD (fun b o hb e => hs.extBut b o (hCs b o e) (hk b o hb e)) (hs.extBut _ _ hDC hd) (fun p hp => ⟨hs.extBut _ _ (ht p hp).2.2.1 (ht p hp).1, (ht p hp).2⟩)
  exact fin D h' tk ys tl hj F' N' (fun p hp => by rw [hD]; exact Heap.lt_size (S.N p hp).1) fun p hp q hq e => by have := (ht p hp).2.1; rw [← e, (S.N q hq).1] at this; cases this

end
end Mine

end
section
open PySem PySem.W PySem.Calls PyProof.Rows
set_option Elab.async false
set_option maxRecDepth 100000
namespace Mine

abbrev tup2 (a b : Value) : Obj := { cls := .type "tuple", data := .seq [a, b].toArray }
abbrev listO (vs : List Value) (k : Nat) : Obj := { cls := .type "list", data := .seq vs.toArray k }

/-- a list of pairs of ints, told by a ledger -/
inductive PIn (tl : List (Addr × Obj)) : List Value → List (Int × Int) → Prop
  | nil : PIn tl [] []
  | cons {a : Addr} {x y : Int} {t u : Tok} {vs : List Value} {ps : List (Int × Int)} : (a, tup2 (.int x t) (.int y u)) ∈ tl → PIn tl vs ps → PIn tl (.ref a :: vs) ((x, y) :: ps)
/-- the same in a heap -/
inductive HP (h : Heap) : List Value → List (Int × Int) → Prop
  | nil : HP h [] []
  | cons {a : Addr} {x y : Int} {t u : Tok} {vs : List Value} {ps : List (Int × Int)} : h.get? a = some (tup2 (.int x t) (.int y u)) → HP h vs ps → HP h (.ref a :: vs) ((x, y) :: ps)

theorem PIn.mono {tl tl' : List (Addr × Obj)} (hs : ∀ p ∈ tl, p ∈ tl') : ∀ {vs ps}, PIn tl vs ps → PIn tl' vs ps
  | _, _, .nil => .nil
  | _, _, .cons h r => .cons (hs _ h) (r.mono hs)
theorem PIn.heap {tl : List (Addr × Obj)} {h : Heap} (hs : ∀ p ∈ tl, h.get? p.1 = some p.2) : ∀ {vs ps}, PIn tl vs ps → HP h vs ps
  | _, _, .nil => .nil
  | _, _, .cons h r => .cons (hs _ h) (r.heap hs)
theorem HP.keeps {h h' : Heap} (hk : ∀ b o, h.get? b = some o → h'.get? b = some o) : ∀ {vs ps}, HP h vs ps → HP h' vs ps
  | _, _, .nil => .nil
  | _, _, .cons e r => .cons (hk _ _ e) (r.keeps hk)
theorem PIn.append {tl : List (Addr × Obj)} {vs' ps'} (k : PIn tl vs' ps') : ∀ {vs ps}, PIn tl vs ps → PIn tl (vs ++ vs') (ps ++ ps')
  | _, _, .nil => k
  | _, _, .cons h r => .cons h (PIn.append k r)
theorem PIn.length {tl : List (Addr × Obj)} : ∀ {vs ps}, PIn tl vs ps → vs.length = ps.length
  | _, _, .nil => rfl
  | _, _, .cons _ r => by simp [r.length]
theorem HP.length {h : Heap} : ∀ {vs ps}, HP h vs ps → vs.length = ps.length
  | _, _, .nil => rfl
  | _, _, .cons _ r => by simp [r.length]
theorem HP.get {h : Heap} : ∀ {vs ps} {i : Nat} {x y : Int}, HP h vs ps → ps[i]? = some (x, y) → ∃ a t u, vs[i]? = some (.ref a) ∧ h.get? a = some (tup2 (.int x t) (.int y u))
  | _, _, 0, _, _, .cons e _, hx => by simp at hx; obtain ⟨rfl, rfl⟩ := hx; exact ⟨_, _, _, rfl, e⟩
  | _, _, i + 1, _, _, .cons _ r, hx => by simp at hx; obtain ⟨a, t, u, q, e⟩ := r.get hx; exact ⟨a, t, u, by simpa using q, e⟩

section
variable {prog : Program} {w : World} {A : Around} {env : Env}

/-- what an iterator over pairs of ints is -/
abbrev PPt (ps : List (Int × Int)) : Nat → Array Value → Prop := fun i vals => ∃ x y t u, ps[i]? = some (x, y) ∧ vals = #[.int x t, .int y u]
theorem ppt2 {ps : List (Int × Int)} : ∀ i vals, PPt ps i vals → ∃ v0 v1, vals = #[v0, v1] := fun _ _ ⟨_, _, _, _, _, e⟩ => ⟨_, _, e⟩

structure NewIt (fp wr : List Addr) (St : Nat → Heap → Prop) (h h₂ : Heap) : Prop where
  up : ∀ b o, h.get? b = some o → h₂.get? b = some o
  st : St 0 h₂
  fps : ∀ b ∈ fp, b ∈ wr ∨ ∃ o xs k, h.get? b = some o ∧ o.data = .seq xs k
  new : ∀ b ∈ wr, h.get? b = none
  sub : ∀ b ∈ wr, b ∈ fp
  live : ∀ i h, St i h → ∀ b ∈ wr, ∃ o, h.get? b = some o
theorem NewIt.alive {fp wr : List Addr} {St : Nat → Heap → Prop} {h h₂ : Heap} (H : NewIt fp wr St h h₂) : ∀ b ∈ fp, ∃ o, h₂.get? b = some o := fun b hb => by
  rcases H.fps b hb with e | ⟨o, _, _, e, _⟩
  · exact H.live _ _ H.st b e
  · exact ⟨o, H.up _ _ e⟩
theorem NewIt.one {fp : List Addr} {St : Nat → Heap → Prop} {h : Heap} {o : Obj} (hst : St 0 (h.push o)) (hf : ∀ b ∈ fp, b = h.objs.size ∨ ∃ o xs k, h.get? b = some o ∧ o.data = .seq xs k) (hm : h.objs.size ∈ fp)
    (hl : ∀ i h', St i h' → ∃ o, h'.get? h.objs.size = some o) : NewIt fp [h.objs.size] St h (h.push o) where
  up := fun b o' e => Heap.get?_push_of_some _ e
  st := hst
  fps := fun b hb => (hf b hb).imp (fun e => List.mem_singleton.mpr e) id
  new := fun b hb => by
    rw [List.mem_singleton.mp hb]
    cases q : h.get? h.objs.size with
    | none => rfl
    | some o' => exact absurd (Heap.lt_size q) (Nat.lt_irrefl _)
  sub := fun b hb => (List.mem_singleton.mp hb) ▸ hm
  live := fun i h' st b hb => by rw [List.mem_singleton.mp hb]; exact hl i h' st

theorem iter_pairs {s : Shared} {l : Addr} {vs : List Value} {ps : List (Int × Int)} {Q : Value → Shared → Prop} {E : Value → Shared → Prop} (hh : A.handled = none)
    (hl : s.heap.IsList l vs.toArray) (hp : HP s.heap vs ps)
    (h : ∀ (I : Addr) (o : Obj) (fp : List Addr) (St : Nat → Heap → Prop) (Mid : Nat → Addr → Heap → Prop), I = s.heap.objs.size → WalksU prog w A I fp [I] ps.length (PPt ps) St Mid → NewIt fp [I] St s.heap (s.heap.push o) → Q (.ref I) { s with heap := s.heap.push o }) :
    wpAny (model prog w) A (pyIter (.ref l)) Q E s := by
  refine wpAny_pyIter_list hl ?_
  let Ts : Nat → Addr := fun j => match vs[j]? with | some (.ref a) => a | _ => 0
  let vals : Nat → Array Value := fun j => match s.heap.get? (Ts j) with | some ⟨_, _, .seq xs _, _⟩ => xs | _ => #[]
  have key : ∀ j, j < ps.length → ∃ a x y t u, ps[j]? = some (x, y) ∧ vs[j]? = some (.ref a) ∧ Ts j = a ∧ vals j = #[.int x t, .int y u] ∧ s.heap.get? a = some (tup2 (.int x t) (.int y u)) := fun j hj => by
    have hz1 := hp.get (i := j) (x := ps[j].1) (y := ps[j].2) (by simp [hj])
    (refine ex3 hz1 fun a t u hz2 => ?_; refine and2 hz2 fun q e => ?_; clear hz2)
    try clear hz1
    have hT : Ts j = a := by simp only [Ts, q]
    refine ⟨a, _, _, t, u, by simp [hj], q, hT, ?_, e⟩
    simp only [vals, hT, e]
  have hsz : vs.toArray.size = ps.length := by simp [hp.length]
  have lt : ∀ j, j < ps.length → Ts j < s.heap.objs.size := fun j hj => by
    have hz5 := key j hj
    (refine ex5 hz5 fun a x y t u hz6 => ?_; refine and5 hz6 fun _ _ hT _ e => ?_; clear hz6)
    try clear hz5
    rw [hT]; exact Heap.lt_size e
  have W := WalksU.listOfTuples (prog := prog) (w := w) hh s.heap.objs.size l (Nat.ne_of_lt (by obtain ⟨o, e, _⟩ := hl; exact Heap.lt_size e)) vs.toArray Ts vals
    (fun j hj => by rw [hsz] at hj; obtain ⟨a, x, y, t, u, _, q, hT, _⟩ := key j hj; rw [hT]; simpa using q) (fun j hj => Nat.ne_of_lt (lt j (hsz ▸ hj)))
  rw [hsz] at W
  have W' := W.bound
  refine h _ _ _ _ _ rfl { W' with item := fun i s Q E hi st hQ => W'.item i s Q E hi st fun T vl h' tk hP hT hm hk => hQ T vl h' tk ?_ hT hm hk } (NewIt.one ⟨⟨_, Heap.get?_push_size _ rfl, rfl, rfl⟩, hl.push _, fun k hk => ?_⟩ (fun b hb => ?_) ?_ fun i h st => by obtain ⟨o, e, _⟩ := st.1; exact ⟨o, e⟩)
  · (refine and2 hP fun _ hz14 => ?_)
    try clear hP
    obtain rfl := hz14
    have hz15 := key i hi
    (refine ex5 hz15 fun a x y t u hz19 => ?_; refine and5 hz19 fun q1 _ _ q4 _ => ?_; clear hz19)
    try clear hz15
    exact ⟨x, y, t, u, q1, q4⟩
  · have hz24 := key k hk
    (refine ex5 hz24 fun a x y t u hz25 => ?_; refine and5 hz25 fun _ _ hT hv e => ?_; clear hz25)
    try clear hz24
    rw [hT, hv]
    exact ⟨_, Heap.get?_push_of_some _ e, rfl, _, rfl⟩
  · rcases List.mem_cons.mp hb with e | hb
    · exact .inl e
    · rcases List.mem_cons.mp hb with e | hb
      · obtain ⟨o, q, _, n, hd⟩ := hl; exact .inr ⟨o, _, _, e ▸ q, hd⟩
      · have hz33 := List.mem_map.mp hb
        (refine ex1 hz33 fun k hz34 => ?_; refine and2 hz34 fun hk e => ?_; clear hz34)
        try clear hz33
        have hz35 := key k (List.mem_range.mp hk)
        (refine ex5 hz35 fun a x y t u hz36 => ?_; refine and5 hz36 fun _ _ hT _ q => ?_; clear hz36)
        try clear hz35
        exact .inr ⟨_, _, _, e ▸ hT ▸ q, rfl⟩
  · exact List.mem_cons_self

theorem iter_vals {s : Shared} {l : Addr} {vs : List Value} {Q : Value → Shared → Prop} {E : Value → Shared → Prop} (hh : A.handled = none)
    (hl : s.heap.IsList l vs.toArray)
    (h : ∀ (I : Addr) (o : Obj) (fp : List Addr) (St : Nat → Heap → Prop), I = s.heap.objs.size → Walks prog w A I fp [I] vs.length (fun i v => vs[i]? = some v) St → NewIt fp [I] St s.heap (s.heap.push o) → Q (.ref I) { s with heap := s.heap.push o }) :
    wpAny (model prog w) A (pyIter (.ref l)) Q E s := by
  refine wpAny_pyIter_list hl ?_
  have W := Walks.list (prog := prog) (w := w) hh s.heap.objs.size l (Nat.ne_of_lt (by obtain ⟨o, e, _⟩ := hl; exact Heap.lt_size e)) vs.toArray
  have hsz : vs.toArray.size = vs.length := by simp
  rw [hsz] at W
  refine h _ _ _ _ rfl { W with item := fun i s Q E hi st hQ => W.item i s Q E hi st fun v h' tk hP => hQ v h' tk (by simpa using hP) } (NewIt.one ⟨⟨_, Heap.get?_push_size _ rfl, rfl, rfl⟩, hl.push _⟩ (fun b hb => ?_) List.mem_cons_self fun i h st => by obtain ⟨o, e, _⟩ := st.1; exact ⟨o, e⟩)
  rcases List.mem_cons.mp hb with e | hb
  · exact .inl e
  · obtain ⟨o, q, _, n, hd⟩ := hl; exact .inr ⟨o, _, _, (List.mem_singleton.mp hb) ▸ q, hd⟩

theorem iter_str {s : Shared} {x : PySem.Str} {t : Tok} {Q : Value → Shared → Prop} {E : Value → Shared → Prop} (hh : A.handled = none)
    (h : ∀ (I : Addr) (o : Obj) (fp : List Addr) (St : Nat → Heap → Prop), I = s.heap.objs.size → Walks prog w A I fp [I] x.cps.size (SignAt x) St → NewIt fp [I] St s.heap (s.heap.push o) → Q (.ref I) { s with heap := s.heap.push o }) :
    wpAny (model prog w) A (pyIter (.str x t)) Q E s := by
  cases ha : x.cps.all (· < 128)
  · exact wpAny_pyIter_wide ha (h _ _ _ _ rfl (Walks.strWide hh _ x t) (NewIt.one ⟨_, Heap.get?_push_size _ rfl, rfl, rfl⟩ (fun b hb => .inl (List.mem_singleton.mp hb)) List.mem_cons_self fun i h st => by obtain ⟨o, e, _⟩ := st; exact ⟨o, e⟩))
  · exact wpAny_pyIter_ascii ha (h _ _ _ _ rfl (Walks.strAscii hh _ x t) (NewIt.one ⟨_, Heap.get?_push_size _ rfl, rfl, rfl⟩ (fun b hb => .inl (List.mem_singleton.mp hb)) List.mem_cons_self fun i h st => by obtain ⟨o, e, _⟩ := st; exact ⟨o, e⟩))

/-- a comprehension's source from a new iterator -/
theorem csrc_pair {scope : Scope} {cl : List (PySem.Str × Addr)} {h₀ h : Heap} {L : Addr} {m₀ : PySem.Str → Option Value} {news : List (Addr × Obj)} {s₂ : Shared} {I : Addr} {fp wr : List Addr} {n : Nat} {Pt : Nat → Array Value → Prop} {St : Nat → Heap → Prop} {Mid : Nat → Addr → Heap → Prop}
    {x y : PySem.Str} {px py tp : Pos} {k : Nat} (hh : A.handled = none) (F : Fr h₀ L h m₀) (N : News h₀ L h news)
    (W : WalksU prog w A I fp wr n Pt St Mid) (H : NewIt fp wr St h s₂.heap) (h2 : ∀ i vals, Pt i vals → ∃ v0 v1, vals = #[v0, v1]) (hsz : n ≤ sizeLine)
    (hk : scope.kind = .function) (hx : scope.names.lookup x = some .local) (hy : scope.names.lookup y = some .local) :
    CSrc prog w A env (.Tuple [.Name x px, .Name y py] k tp) scope cl h₀ L m₀ news n wr fp (fun i m m' _ => ∃ v0 v1, Pt i #[v0, v1] ∧ m' = fun z => if z = y then some v1 else if z = x then some v0 else m z) St (.ref I) s₂ := by
  refine ⟨fun C hC => ?_, W.self 0, H.st, H.alive, fun b hb => H.alive b (H.sub b hb), H.live, hsz, F.keeps H.up, N.grown H.up, fun b hb => ?_, fun b hb => ?_, fun b hb p hp => ?_⟩
  · refine tk_pair hh W h2 (lookup_relabel_local hx) (lookup_relabel_local hy) (by simp [compEnvC, relabel, hk]) fun hm => ?_
    have hz44 := H.alive C hm
    (refine ex1 hz44 fun o' e => ?_)
    try clear hz44
    exact Nat.lt_asymm hC (Heap.lt_size e)
  · cases q : h₀.get? b with
    | none => rfl
    | some o' => have := F.keep _ _ q; rw [H.new b hb] at this; cases this
  · rintro rfl
    have hz45 := F.ns
    (refine ex3 hz45 fun o' _ _ hz47 => ?_; refine and2 hz47 fun e _ => ?_; clear hz47)
    try clear hz45
    rw [H.new _ hb] at e; cases e
  · rintro rfl
    have := (N p hp).1
    rw [H.new _ hb] at this; cases this
theorem csrc_name {scope : Scope} {cl : List (PySem.Str × Addr)} {h₀ h : Heap} {L : Addr} {m₀ : PySem.Str → Option Value} {news : List (Addr × Obj)} {s₂ : Shared} {I : Addr} {fp wr : List Addr} {n : Nat} {P : Nat → Value → Prop} {St : Nat → Heap → Prop}
    {x : PySem.Str} {px : Pos} (F : Fr h₀ L h m₀) (N : News h₀ L h news)
    (W : Walks prog w A I fp wr n P St) (H : NewIt fp wr St h s₂.heap) (hsz : n ≤ sizeLine)
    (hk : scope.kind = .function) (hx : scope.names.lookup x = some .local) :
    CSrc prog w A env (.Name x px) scope cl h₀ L m₀ news n wr fp (fun i m m' _ => ∃ v, P i v ∧ m' = fun z => if z = x then some v else m z) St (.ref I) s₂ := by
  refine ⟨fun C hC => ?_, W.self 0, H.st, H.alive, fun b hb => H.alive b (H.sub b hb), H.live, hsz, F.keeps H.up, N.grown H.up, fun b hb => ?_, fun b hb => ?_, fun b hb p hp => ?_⟩
  · refine tk_name W (lookup_relabel_local hx) (by simp [compEnvC, relabel, hk]) fun hm => ?_
    have hz49 := H.alive C hm
    (refine ex1 hz49 fun o' e => ?_)
    try clear hz49
    exact Nat.lt_asymm hC (Heap.lt_size e)
  · cases q : h₀.get? b with
    | none => rfl
    | some o' => have := F.keep _ _ q; rw [H.new b hb] at this; cases this
  · rintro rfl
    have hz50 := F.ns
    (refine ex3 hz50 fun o' _ _ hz52 => ?_; refine and2 hz52 fun e _ => ?_; clear hz52)
    try clear hz50
    rw [H.new _ hb] at e; cases e
  · rintro rfl
    have := (N p hp).1
    rw [H.new _ hb] at this; cases this

/-! ## for over a new iterator -/
section
variable {target : Expr} {body : List Stmt} {R : Result → Shared → Prop} {s₂ : Shared} {h₀ h : Heap} {m : PySem.Str → Option Value} {nx : List (Addr × Obj)} {I : Addr} {fp wr : List Addr} {n : Nat} {St : Nat → Heap → Prop}

theorem off_seq {b : Addr} {h₂ : Heap} (H : NewIt fp wr St h h₂) (hb : ∃ o, h.get? b = some o ∧ ∀ xs k, o.data ≠ .seq xs k) : b ∉ fp := fun hm => by
  (refine ex1 hb fun o hz54 => ?_; refine and2 hz54 fun e hn => ?_; clear hz54)
  try clear hb
  rcases H.fps b hm with q | ⟨o', xs, k, q, hd⟩
  · rw [H.new b q] at e; cases e
  · rw [e] at q; cases q; exact hn _ _ hd
theorem ns_no_seq {L : Addr} (F : Fr h₀ L h m) : ∃ o, h.get? L = some o ∧ ∀ xs k, o.data ≠ .seq xs k := by
  have hz55 := F.ns
  (refine ex3 hz55 fun o es ep hz57 => ?_; refine and3 hz57 fun e hd _ => ?_; clear hz57)
  try clear hz55
  exact ⟨o, e, fun xs k q => by rw [hd] at q; cases q⟩

theorem for_name {P : Nat → Value → Prop} {x : PySem.Str} {px : Pos} (G : Array GenState → Prop) (J : Nat → (PySem.Str → Option Value) → List (Addr × Obj) → Prop)
    (W : Walks prog w A I fp wr n P St) (H : NewIt fp wr St h s₂.heap) (hx : env.kindOf x = some .local) (hp : (env.scope.kind == .class || (env.scope.kind == .module && env.locals != env.globals)) = false)
    (F : Fr h₀ env.locals h m) (N : News h₀ env.locals h nx) (hG : G s₂.gens) (hJ : J 0 m nx)
    (turn : ∀ i m₁ nx h g tk own v, i < n → J i m₁ nx → G g → P i v → Fr h₀ env.locals h (fun z => if z = x then some v else m₁ z) → News h₀ env.locals h (nx ++ own) → (∀ p ∈ own, p.1 ∈ fp) →
      wpAny (model prog w) A (execs body env) (FPost h₀ env.locals G nx own (J (i + 1)) R s₂) (fun _ _ => False) { s₂ with heap := h, gens := g, toks := tk })
    (done : ∀ m₁ nx h g tk, J n m₁ nx → G g → Fr h₀ env.locals h m₁ → News h₀ env.locals h nx → R (.ok .next) { s₂ with heap := h, gens := g, toks := tk }) :
    codeAny (model prog w) A (.forLoop (.Name x px) (.ref I) body [] env) R s₂ := by
  have hL : env.locals ∉ fp := off_seq H (ns_no_seq F)
  have hn0 : ∀ b ∈ wr, h₀.get? b = none := fun b hb => by
    cases q : h₀.get? b with
    | none => rfl
    | some o' => have := F.keep _ _ q; rw [H.new b hb] at this; cases this
  refine for_core G J (tk_name W hx hp hL) (fun b hb => .tail _ hb) (fun hb => hL (H.sub _ hb)) hL (fun b hb => ?_) (fun i h st b hb => ?_) (fun b hb => ?_) hG H.st (F.keeps H.up) (N.grown H.up) (fun p hp hm => ?_) hJ
    (fun i m₁ m₂ nx h g tk own hi hj hg hB F N hn ho hof => ?_) (fun m₁ nx h g tk hj hg F N _ => done m₁ nx h g tk hj hg F N)
  · rcases List.mem_cons.mp hb with e | hb
    · exact .inl e
    · exact .inr (H.sub b hb)
  · rcases List.mem_cons.mp hb with e | hb
    · exact .inl e
    · exact .inr (H.live i h st b hb)
  · rcases List.mem_cons.mp hb with e | hb
    · rw [e]; exact Heap.get?_none_of_le F.above
    · exact hn0 b hb
  · rcases List.mem_cons.mp hm with e | hm
    · exact (N p hp).2.1 e
    · have := (N p hp).1; rw [H.new _ hm] at this; cases this
  · (refine ex1 hB fun v hz61 => ?_; refine and2 hz61 fun hP hz60 => ?_; clear hz61)
    try clear hB
    obtain rfl := hz60
    exact turn i m₁ nx h g tk own v hi hj hg hP F N hof

theorem for_pair {Pt : Nat → Array Value → Prop} {Mid : Nat → Addr → Heap → Prop} {x y : PySem.Str} {px py tp : Pos} {k : Nat} (hh : A.handled = none) (G : Array GenState → Prop) (J : Nat → (PySem.Str → Option Value) → List (Addr × Obj) → Prop)
    (W : WalksU prog w A I fp wr n Pt St Mid) (h2 : ∀ i vals, Pt i vals → ∃ v0 v1, vals = #[v0, v1]) (H : NewIt fp wr St h s₂.heap) (hx : env.kindOf x = some .local) (hy : env.kindOf y = some .local) (hp : (env.scope.kind == .class || (env.scope.kind == .module && env.locals != env.globals)) = false)
    (F : Fr h₀ env.locals h m) (N : News h₀ env.locals h nx) (hG : G s₂.gens) (hJ : J 0 m nx)
    (turn : ∀ i m₁ nx h g tk own v0 v1, i < n → J i m₁ nx → G g → Pt i #[v0, v1] → Fr h₀ env.locals h (fun z => if z = y then some v1 else if z = x then some v0 else m₁ z) → News h₀ env.locals h (nx ++ own) → (∀ p ∈ own, p.1 ∈ fp) →
      wpAny (model prog w) A (execs body env) (FPost h₀ env.locals G nx own (J (i + 1)) R s₂) (fun _ _ => False) { s₂ with heap := h, gens := g, toks := tk })
    (done : ∀ m₁ nx h g tk, J n m₁ nx → G g → Fr h₀ env.locals h m₁ → News h₀ env.locals h nx → R (.ok .next) { s₂ with heap := h, gens := g, toks := tk }) :
    codeAny (model prog w) A (.forLoop (.Tuple [.Name x px, .Name y py] k tp) (.ref I) body [] env) R s₂ := by
  have hL : env.locals ∉ fp := off_seq H (ns_no_seq F)
  have hn0 : ∀ b ∈ wr, h₀.get? b = none := fun b hb => by
    cases q : h₀.get? b with
    | none => rfl
    | some o' => have := F.keep _ _ q; rw [H.new b hb] at this; cases this
  refine for_core G J (tk_pair hh W h2 hx hy hp hL) (fun b hb => .tail _ hb) (fun hb => hL (H.sub _ hb)) hL (fun b hb => ?_) (fun i h st b hb => ?_) (fun b hb => ?_) hG H.st (F.keeps H.up) (N.grown H.up) (fun p hp hm => ?_) hJ
    (fun i m₁ m₂ nx h g tk own hi hj hg hB F N hn ho hof => ?_) (fun m₁ nx h g tk hj hg F N _ => done m₁ nx h g tk hj hg F N)
  · rcases List.mem_cons.mp hb with e | hb
    · exact .inl e
    · exact .inr (H.sub b hb)
  · rcases List.mem_cons.mp hb with e | hb
    · exact .inl e
    · exact .inr (H.live i h st b hb)
  · rcases List.mem_cons.mp hb with e | hb
    · rw [e]; exact Heap.get?_none_of_le F.above
    · exact hn0 b hb
  · rcases List.mem_cons.mp hm with e | hm
    · exact (N p hp).2.1 e
    · have := (N p hp).1; rw [H.new _ hm] at this; cases this
  · (refine ex2 hB fun v0 v1 hz63 => ?_; refine and2 hz63 fun hP hz62 => ?_; clear hz63)
    try clear hB
    obtain rfl := hz62
    exact turn i m₁ nx h g tk own v0 v1 hi hj hg hP F N hof

theorem cell_no_seq {c : Addr} {v : Option Value} (hc : IsCell h c v) : ∃ o, h.get? c = some o ∧ ∀ xs k, o.data ≠ .seq xs k := by
  (refine ex1 hc fun o hz65 => ?_; refine and2 hz65 fun e hd => ?_; clear hz65)
  try clear hc
  exact ⟨o, e, fun xs k q => by rw [hd] at q; cases q⟩

/-- the loop's name is a cell -/
theorem for_cell {P : Nat → Value → Prop} {x : PySem.Str} {px : Pos} {c : Addr} {oc : Obj} {vc : Option Value} (G : Array GenState → Prop) (J : Nat → (PySem.Str → Option Value) → List (Addr × Obj) → Prop)
    (W : Walks prog w A I fp wr n P St) (H : NewIt fp wr St h s₂.heap) (hk : env.scope.kind = .function) (hx : env.kindOf x = some .cell) (hc : env.cells.lookup x = some c)
    (F : Fr h₀ env.locals h m) (N : News h₀ env.locals h ((c, oc) :: nx)) (hoc : oc.data = .cell vc) (hcn : ∀ p ∈ nx, p.1 ≠ c) (hG : G s₂.gens) (hJ : J 0 m nx)
    (turn : ∀ i m₁ nx h g tk own v oc, i < n → J i m₁ nx → G g → P i v → oc.data = .cell (some v) → Fr h₀ env.locals h m₁ → News h₀ env.locals h ((c, oc) :: (nx ++ own)) → (∀ p ∈ own, p.1 ∈ c :: fp) →
      wpAny (model prog w) A (execs body env) (FPost h₀ env.locals G nx ((c, oc) :: own) (J (i + 1)) R s₂) (fun _ _ => False) { s₂ with heap := h, gens := g, toks := tk })
    (done : ∀ m₁ nx h g tk, J n m₁ nx → G g → Fr h₀ env.locals h m₁ → News h₀ env.locals h nx → R (.ok .next) { s₂ with heap := h, gens := g, toks := tk }) :
    codeAny (model prog w) A (.forLoop (.Name x px) (.ref I) body [] env) R s₂ := by
  have hL : env.locals ∉ fp := off_seq H (ns_no_seq F)
  have hcc : IsCell h c vc := ⟨oc, (N _ (.head _)).1, hoc⟩
  have hcf : c ∉ fp := off_seq H (cell_no_seq hcc)
  have hcL : env.locals ≠ c := fun e => (N _ (.head _)).2.1 e.symm
  have hn0 : ∀ b ∈ wr, h₀.get? b = none := fun b hb => by
    cases q : h₀.get? b with
    | none => rfl
    | some o' => have := F.keep _ _ q; rw [H.new b hb] at this; cases this
  have N' : News h₀ env.locals h nx := fun p hp => N p (.tail _ hp)
  refine for_core G (fun i m nx => J i m nx) (tk_cell W hk hx hc hL hcf hcL) (fun b hb => .tail _ hb) (fun hb => hL (H.sub _ hb)) (fun hb => ?_) (fun b hb => ?_) (fun i h st b hb => ?_) (fun b hb => ?_) hG ⟨H.st, vc, hcc.at fun o e => H.up _ _ e⟩ (F.keeps H.up) (N'.grown H.up) (fun p hp hm => ?_) hJ
    (fun i m₁ m₂ nx h g tk own hi hj hg hB F N hn ho hof => ?_) (fun m₁ nx h g tk hj hg F N _ => done m₁ nx h g tk hj hg F N)
  · rcases List.mem_cons.mp hb with e | hb
    · exact hcL e
    · exact hL hb
  · rcases List.mem_cons.mp hb with e | hb
    · exact .inr (e ▸ List.mem_cons_self)
    · exact .inr (.tail _ (H.sub b hb))
  · rcases List.mem_cons.mp hb with e | hb
    · obtain ⟨v, o, q, _⟩ := st.2; exact .inr ⟨o, e ▸ q⟩
    · exact .inr (H.live i h st.1 b hb)
  · rcases List.mem_cons.mp hb with e | hb
    · rw [e]; exact (N _ (.head _)).2.2
    · exact hn0 b hb
  · rcases List.mem_cons.mp hm with e | hm
    · exact hcn p hp e
    · have := (N' p hp).1; rw [H.new _ hm] at this; cases this
  · (rcases hB with ⟨v, hP, hz66, oc', e, hd⟩)
    try clear hB
    obtain rfl := hz66
    have hoc' : (c, oc') ∈ own := by
      rcases ho c (.head _) with q | ⟨o, q⟩
      · exact absurd q.symm hcL
      · have := (N _ (List.mem_append_right _ q)).1
        rw [e] at this; cases this; exact q
    refine wpAny_mono (turn i m₂ nx h g tk own v oc' hi hj hg hP hd F (fun p hp => ?_) hof) (fun f s₃ h₃ => ?_) fun _ _ e => e
    · rcases List.mem_cons.mp hp with rfl | hp
      · exact N _ (List.mem_append_right _ hoc')
      · exact N p hp
    · have fin : FEnd h₀ env.locals G nx ((c, oc') :: own) (J (i + 1)) s₂ s₃ → FEnd h₀ env.locals G nx own (J (i + 1)) s₂ s₃ := by
        intro hz71
        (refine ex6 hz71 fun h' g' tk' m' nx' news' hz78 => ?_; refine and8 hz78 fun e hg F₃ N₃ hs ho' hne hj => ?_; clear hz78)
        try clear hz71
        exact ⟨h', g', tk', m', nx', news', e, hg, F₃, N₃, hs, fun p hp => ho' p (.tail _ hp), fun p hp => (hne p hp).imp id fun q r hr => q r (.tail _ hr), hj⟩
      cases f with
      | ret v => exact h₃
      | brk => exact h₃
      | cont => exact fin h₃
      | next => exact fin h₃
end
theorem news_sub {h₀ h : Heap} {L : Addr} {l l' : List (Addr × Obj)} (N : News h₀ L h l) (hs : ∀ p ∈ l', p ∈ l) : News h₀ L h l' := fun p hp => N p (hs p hp)
theorem news_r3 {h₀ h : Heap} {L : Addr} {a b c : Addr × Obj} (N : News h₀ L h [a, b, c]) : News h₀ L h [c, a, b] := news_sub N fun p hp => by
  simp only [List.mem_cons, List.not_mem_nil, or_false] at hp ⊢; rcases hp with h | h | h <;> simp [h]
theorem upd_self {m : PySem.Str → Option Value} {x : PySem.Str} {v : Value} (h : m x = some v) : m = fun z => if z = x then some v else m z := by
  funext z; by_cases e : z = x
  · rw [if_pos e, e, h]
  · rw [if_neg e]
theorem fend {h₀ : Heap} {L : Addr} {G : Array GenState → Prop} {nx own nx' news' : List (Addr × Obj)} {J : (PySem.Str → Option Value) → List (Addr × Obj) → Prop} {s : Shared} {h' : Heap} {g' : Array GenState} {tk' : Nat} {m' : PySem.Str → Option Value}
    (hG : G g') (F : Fr h₀ L h' m') (N : News h₀ L h' news') (hs : ∀ p ∈ nx', p ∈ news') (ho : ∀ p ∈ own, p ∈ news') (hne : ∀ p ∈ nx', (∃ o, (p.1, o) ∈ nx) ∨ ∀ q ∈ own, q.1 ≠ p.1) (hJ : J m' nx') :
    FEnd h₀ L G nx own J s { s with heap := h', gens := g', toks := tk' } := ⟨h', g', tk', m', nx', news', rfl, hG, F, N, hs, ho, hne, hJ⟩
theorem cend {g h' : Heap} {C D : Addr} {ys : List Value} {P : List (Addr × Obj) → Prop} {s₂ : Shared} {tk' : Nat} {m' : PySem.Str → Option Value} {tl' news' : List (Addr × Obj)}
    (F : Fr g C h' m') (N : News g C h' news') (hs : ∀ p ∈ (D, lst ys) :: tl', p ∈ news') (hne : ∀ p ∈ tl', p.1 ≠ D) (hP : P tl') : CEnd g C D ys P s₂ { s₂ with heap := h', toks := tk' } := ⟨h', tk', m', tl', news', rfl, F, N, hs, hne, hP⟩
theorem cend0 {g h' : Heap} {C D : Addr} {ys : List Value} {P : List (Addr × Obj) → Prop} {s₂ : Shared} {tk' : Nat} {m' : PySem.Str → Option Value} {tl : List (Addr × Obj)}
    (F : Fr g C h' m') (N : News g C h' ((D, lst ys) :: tl)) (hne : ∀ p ∈ tl, p.1 ≠ D) (hP : P tl) : CEnd g C D ys P s₂ { s₂ with heap := h', toks := tk' } := cend F N (fun _ h => h) hne hP
theorem cend1 {g h' : Heap} {C D : Addr} {ys : List Value} {P : List (Addr × Obj) → Prop} {s₂ : Shared} {tk' : Nat} {m' : PySem.Str → Option Value} {tl : List (Addr × Obj)} {e : Addr × Obj}
    (F : Fr g C h' m') (N : News g C h' (e :: (D, lst ys) :: tl)) (hne : ∀ p ∈ tl, p.1 ≠ D) (he : e.1 ≠ D) (hP : P (e :: tl)) : CEnd g C D ys P s₂ { s₂ with heap := h', toks := tk' } :=
  cend F N (fun p hp => by simp only [List.mem_cons] at hp ⊢; rcases hp with h | h | h <;> simp [h]) (fun p hp => by rcases List.mem_cons.mp hp with rfl | hp; exact he; exact hne p hp) hP
theorem ppt_ints {ps : List (Int × Int)} {i : Nat} {v0 v1 : Value} (h : PPt ps i #[v0, v1]) : ∃ x y t u, ps[i]? = some (x, y) ∧ v0 = .int x t ∧ v1 = .int y u := by
  (refine ex4 h fun x y t u hz85 => ?_; refine and2 hz85 fun hz84 e => ?_; clear hz85)
  try clear h
  have h := hz84
  clear hz84
  have := congrArg Array.toList e
  simp only [List.cons.injEq, and_true] at this
  exact ⟨x, y, t, u, h, this.1, this.2⟩
theorem take_map_succ {α β : Type} {l : List α} {j : Nat} {a : α} (f : α → β) (h : l[j]? = some a) : (l.take (j + 1)).map f = (l.take j).map f ++ [f a] := by
  rw [List.take_add_one, h]; simp
theorem PIn.snoc {tl : List (Addr × Obj)} {a : Addr} {x y : Int} {t u : Tok} {vs : List Value} {ps : List (Int × Int)} (h : PIn tl vs ps) (hm : (a, tup2 (.int x t) (.int y u)) ∈ tl) : PIn tl (vs ++ [.ref a]) (ps ++ [(x, y)]) := PIn.append (.cons hm .nil) h
theorem forIn_nil {cenv : Env} {Q : Bool → Shared → Prop} {E : Value → Shared → Prop} {s : Shared} (h : Q true s) :
    wpAny (model prog w) A (forIn ([] : List Expr) true fun c r => if r = true then do let ok ← isTrue c cenv (eval c cenv); pure (ForInStep.yield ok) else pure (ForInStep.yield r)) Q E s := wpAny_tests_nil h
end
end Mine

end
section
open PySem PySem.W PySem.Calls PyProof.Rows
set_option Elab.async false
set_option maxRecDepth 100000
namespace Mine
section
variable {prog : Program} {w : World} {A : Around} {env : Env} {s : Shared} {E Q : Value → Shared → Prop} {g : Heap} {C : Addr} {m mg mb : PySem.Str → Option Value} {x : PySem.Str} {pos : Pos} {v : Value} {K : Frag}
  {p : Program} {loose : List PySem.Str} {mean : ExcName → Option Value}
theorem nm_l (F : Fr g C s.heap m) (hv : m x = some v) (hk : env.scope.kind = .function) (hl : env.kindOf x = some .local) (hL : env.locals = C) (hd : (x == ("__debug__" : PySem.Str)) = false) (h : Q v s) :
    wpAny (model prog w) A (eval (.Name x pos) env) Q E s := wpAny_Name (wpAny_loadName_local hk hl (hL ▸ F.ns) hv h) hd
theorem nm_g (F : Fr g C s.heap m) (X : K.In g) (T : Top p loose mean mg mb g) (e : nsIn K mainGlobals x = some (some v)) (hk : env.scope.kind = .function) (hx : env.kindOf x = some .globalImplicit) (hg : env.globals = mainGlobals) (hd : (x == ("__debug__" : PySem.Str)) = false) (h : Q v s) :
    wpAny (model prog w) A (eval (.Name x pos) env) Q E s := Name_function_global hk hx (loadGlobal_global (env := env) (hg ▸ T.g.keeps F.keep) (mg_of X T.g e) h) hd
theorem nm_b (F : Fr g C s.heap m) (X : K.In g) (T : Top p loose mean mg mb g) (e : nsIn K mainGlobals x = some none) (hv : bootBuiltins x = some v) (hn : x ≠ "__name__") (hk : env.scope.kind = .function) (hx : env.kindOf x = some .globalImplicit) (hg : env.globals = mainGlobals) (hb : env.builtins = builtinsNs) (hd : (x == ("__debug__" : PySem.Str)) = false) (h : Q v s) :
    wpAny (model prog w) A (eval (.Name x pos) env) Q E s :=
  Name_function_global hk hx (loadGlobal_builtin (env := env) (hg ▸ T.g.keeps F.keep) (mg_none_of X T.g e) (hb ▸ T.b.keeps F.keep) ((T.builtins x hn).trans hv) h) hd
/-- a name that another frame's cell holds -/
theorem nm_c {c : Addr} {oc : Obj} (F : Fr g C s.heap m) (hc : env.cells.lookup x = some c) (hg : g.get? c = some oc) (ho : oc.data = .cell (some v)) (hk : env.scope.kind = .function) (hx : env.kindOf x = some .cell) (hd : (x == ("__debug__" : PySem.Str)) = false) (h : Q v s) :
    wpAny (model prog w) A (eval (.Name x pos) env) Q E s := wpAny_Name (wpAny_loadName_cell hk hx hc ⟨oc, F.keep _ _ hg, ho⟩ h) hd
end
end Mine

end
section
open PySem PySem.W PySem.Calls PyProof.Rows
set_option Elab.async false
set_option maxRecDepth 100000
namespace Mine
section
variable {prog : Program} {w : World} {A : Around} {E : Value → Shared → Prop} {s : Shared}

structure ZApart (z TI TO i1 i2 : Addr) (fp1 fp2 : List Addr) : Prop where
  TIz : TI ≠ z
  TOz : TO ≠ z
  TITO : TI ≠ TO
  TI1 : TI ≠ i1
  TI2 : TI ≠ i2
  z1 : z ∉ fp1
  z2 : z ∉ fp2
  TO1 : TO ∉ fp1
  TO2 : TO ∉ fp2
  m1 : i1 ∈ fp1
  m2 : i2 ∈ fp2
  n12 : i1 ∉ fp2
  n21 : i2 ∉ fp1

theorem zd_item {z TI TO i1 i2 : Addr} {fp1 fp2 : List Addr} {n1 n2 i : Nat} {P1 P2 : Nat → Value → Prop} {St1 St2 : Nat → Heap → Prop} {a b : Value} {Q : Value → Shared → Prop}
    (Z : ZApart z TI TO i1 i2 fp1 fp2) (D1 : Draws prog w A i1 fp1 n1 P1 St1) (D2 : Draws prog w A i2 fp2 n2 P2 St2) (h1 : i < n1) (h2 : i < n2)
    (hz : IsZip s.heap z TI TO .none) (hTI : IsPair s.heap TI (.ref i1) (.ref i2)) (hTO : IsPair s.heap TO a b) (hs1 : St1 i s.heap) (hs2 : St2 i s.heap)
    (hQ : ∀ h' (tk : Nat) x y (T : Addr), P1 i x → P2 i y → IsZip h' z TI TO (rawInt T) → IsPair h' TO x y → St1 (i + 1) h' → St2 (i + 1) h' → IsPair h' T x y → T ≠ z → T ≠ TI → T ≠ TO → T ≠ i1 → T ≠ i2 →
      (∀ c o, c ≠ z → c ≠ TO → c ≠ i1 → c ≠ i2 → s.heap.get? c = some o → h'.get? c = some o) → Q (.ref T) { s with heap := h', toks := tk }) :
    wpAny (model prog w) A (Builtin.«zip.__next__» ⟨[.ref z], []⟩) (fun fin s' => ∃ v, fin = .done (.ret v) ∧ Q v s') E s := by
  show wpAny _ _ (field (.ref z) 2 >>= _) _ _ _
  refine wpAny_bind (wpAny_field hz rfl (x := .bool false) rfl ?_)
  show wpAny _ _ (field (.ref z) 3 >>= _) _ _ _
  refine wpAny_bind (wpAny_field hz rfl (x := .ref TI) rfl ?_)
  refine wpAny_bind (wpAny_seqItems hTI rfl ?_)
  show wpAny _ _ (Builtin.SmallTypes.ownedTupleIsFree (.ref z) >>= _) _ _ _
  refine wpAny_bind ?_
  unfold Builtin.SmallTypes.ownedTupleIsFree
  refine wpAny_bind (wpAny_field hz rfl (x := .none) rfl (wpAny_pure ?_))
  simp only [if_true]
  refine wpAny_bind (wpAny_rule ?_)
  refine wpAny_bind (wpAny_field hz rfl (x := .ref TO) rfl ?_)
  refine wpAny_bind (wpAny_setField_rec hz (by simp) fun h₁ hz₁ hs₁ => ?_)
  replace hz₁ : IsZip h₁ z TI TO .ellipsis := hz₁
  have ne1 : ∀ b ∈ fp1, b ≠ z := fun b hb e => Z.z1 (e ▸ hb)
  have ne2 : ∀ b ∈ fp2, b ≠ z := fun b hb e => Z.z2 (e ▸ hb)
  refine wpAny_bind ?_
  simp only [List.zipIdx_cons, List.zipIdx_nil, List.forIn_cons, List.forIn_nil]
  refine wpAny_bind (wpAny_bind (wpAny_onRaise ?_))
  show wpAny _ _ (Builtin.SmallTypes.nextOf (.ref i1) >>= _) _ _ _
  refine wpAny_bind (D1.item i _ _ _ h1 (D1.frame _ _ _ hs1 fun b hb o e => hs₁.extBut _ _ (ne1 b hb) e) fun x h₂ tk₂ hx st₂ hs₂ => wpAny_pure ?_)
  replace hs₂ : Heap.SameBut i1 h₁ h₂ := hs₂
  have i1z : i1 ≠ z := ne1 _ Z.m1
  have i2z : i2 ≠ z := ne2 _ Z.m2
  have TOi1 : TO ≠ i1 := fun e => Z.TO1 (e ▸ Z.m1)
  have TOi2 : TO ≠ i2 := fun e => Z.TO2 (e ▸ Z.m2)
  have hTO₂ : IsPair h₂ TO a b := hs₂.extBut _ _ TOi1 (hs₁.extBut _ _ Z.TOz hTO)
  refine wpAny_bind (wpAny_seqItems hTO₂ rfl ?_)
  refine wpAny_bind (wpAny_updateSeq_pair hTO₂ fun h₃ hTO₃ hs₃ => ?_)
  replace hTO₃ : IsPair h₃ TO x b := hTO₃
  replace hs₃ : Heap.SameBut TO h₂ h₃ := hs₃
  refine wpAny_bind (wpAny_letGo (wpAny_pure ?_))
  refine wpAny_bind (wpAny_bind (wpAny_onRaise ?_))
  show wpAny _ _ (Builtin.SmallTypes.nextOf (.ref i2) >>= _) _ _ _
  refine wpAny_bind (D2.item i _ _ _ h2 (D2.frame _ _ _ hs2 fun b hb o e => hs₃.extBut _ _ (fun q => Z.TO2 (q ▸ hb)) (hs₂.extBut _ _ (fun q => Z.n12 (q ▸ hb)) (hs₁.extBut _ _ (ne2 b hb) e))) fun y h₄ tk₄ hy st₄ hs₄ => wpAny_pure ?_)
  replace hs₄ : Heap.SameBut i2 h₃ h₄ := hs₄
  have hTO₄ : IsPair h₄ TO x b := hs₄.extBut _ _ TOi2 hTO₃
  refine wpAny_bind (wpAny_seqItems hTO₄ rfl ?_)
  refine wpAny_bind (wpAny_updateSeq_pair hTO₄ fun h₅ hTO₅ hs₅ => ?_)
  replace hTO₅ : IsPair h₅ TO x y := hTO₅
  replace hs₅ : Heap.SameBut TO h₄ h₅ := hs₅
  refine wpAny_bind (wpAny_letGo (wpAny_pure (wpAny_pure ?_)))
  refine wpAny_bind (wpAny_seqItems hTO₅ rfl ?_)
  refine wpAny_bind (wpAny_newTuple ?_)
  have hz₅ : IsZip h₅ z TI TO .ellipsis := hs₅.extBut _ _ Z.TOz.symm (hs₄.extBut _ _ i2z.symm (hs₃.extBut _ _ Z.TOz.symm (hs₂.extBut _ _ i1z.symm hz₁)))
  have hk₅ : ∀ c o, c ≠ z → c ≠ TO → c ≠ i1 → c ≠ i2 → s.heap.get? c = some o → h₅.get? c = some o := fun c o c1 c2 c3 c4 e =>
    hs₅.extBut _ _ c2 (hs₄.extBut _ _ c4 (hs₃.extBut _ _ c2 (hs₂.extBut _ _ c3 (hs₁.extBut _ _ c1 e))))
  have st1₅ : St1 (i + 1) h₅ := D1.frame _ _ _ st₂ fun b hb o e => hs₅.extBut _ _ (fun q => Z.TO1 (q ▸ hb)) (hs₄.extBut _ _ (fun q => Z.n21 (q ▸ hb)) (hs₃.extBut _ _ (fun q => Z.TO1 (q ▸ hb)) e))
  have st2₅ : St2 (i + 1) h₅ := D2.frame _ _ _ st₄ fun b hb o e => hs₅.extBut _ _ (fun q => Z.TO2 (q ▸ hb)) e
  have hi1lt : i1 < h₅.objs.size := by obtain ⟨_, e⟩ := D1.live _ _ st1₅; exact Heap.lt_size e
  have hi2lt : i2 < h₅.objs.size := by obtain ⟨_, e⟩ := D2.live _ _ st2₅; exact Heap.lt_size e
  have hzlt : z < h₅.objs.size := Heap.lt_size hz₅
  have hTOlt : TO < h₅.objs.size := Heap.lt_size hTO₅
  have hTIlt : TI < h₅.objs.size := Heap.lt_size (hk₅ _ _ Z.TIz Z.TITO Z.TI1 Z.TI2 hTI)
  show wpAny _ _ (Builtin.SmallTypes.ownedTupleHandOut (.ref z) (.ref h₅.objs.size) >>= _) _ _ _
  refine wpAny_bind ?_
  unfold Builtin.SmallTypes.ownedTupleHandOut
  have hz₆ : IsZip (h₅.push { cls := .type "tuple", data := .seq #[x, y] }) z TI TO .ellipsis := Heap.get?_push_of_some _ hz₅
  refine wpAny_bind (wpAny_setField_rec hz₆ (by simp) fun h₇ hz₇ hs₇ => ?_)
  replace hz₇ : IsZip h₇ z TI TO (rawInt h₅.objs.size) := hz₇
  refine wpAny_setField_rec hz₇ (by simp) fun h₈ hz₈ hs₈ => ?_
  replace hz₈ : IsZip h₈ z TI TO (rawInt h₅.objs.size) := hz₈
  have up : ∀ c o, c ≠ z → h₅.get? c = some o → h₈.get? c = some o := fun c o c1 e => hs₈.extBut _ _ c1 (hs₇.extBut _ _ c1 (Heap.get?_push_of_some _ e))
  have hT₈ : IsPair h₈ h₅.objs.size x y := hs₈.extBut _ _ (Nat.ne_of_gt hzlt) (hs₇.extBut _ _ (Nat.ne_of_gt hzlt) (Heap.get?_push_size _ rfl))
  refine wpAny_pure ⟨_, rfl, ?_⟩
  exact hQ h₈ tk₄ x y h₅.objs.size hx hy hz₈ (up _ _ Z.TOz hTO₅) (D1.frame _ _ _ st1₅ fun b hb o e => up b o (ne1 b hb) e) (D2.frame _ _ _ st2₅ fun b hb o e => up b o (ne2 b hb) e) hT₈
    (Nat.ne_of_gt hzlt) (Nat.ne_of_gt hTIlt) (Nat.ne_of_gt hTOlt) (Nat.ne_of_gt hi1lt) (Nat.ne_of_gt hi2lt) fun c o c1 c2 c3 c4 e => up c o c1 (hk₅ c o c1 c2 c3 c4 e)

theorem zd_end {z TI TO i1 i2 : Addr} {fp1 fp2 : List Addr} {n1 n2 i : Nat} {P1 P2 : Nat → Value → Prop} {St1 St2 : Nat → Heap → Prop} {a b : Value} {Q : Fin → Shared → Prop}
    (Z : ZApart z TI TO i1 i2 fp1 fp2) (D1 : Draws prog w A i1 fp1 n1 P1 St1) (D2 : Draws prog w A i2 fp2 n2 P2 St2) (hend : i = n1 ∨ (i < n1 ∧ i = n2))
    (hz : IsZip s.heap z TI TO .none) (hTI : IsPair s.heap TI (.ref i1) (.ref i2)) (hTO : IsPair s.heap TO a b) (hs1 : St1 i s.heap) (hs2 : St2 i s.heap)
    (hE : ∀ h' (tk : Nat) (e : Addr), (∀ c o, c ≠ z → c ≠ TO → c ≠ i1 → c ≠ i2 → s.heap.get? c = some o → h'.get? c = some o) → (∃ o, h'.get? e = some o ∧ o.cls = .type "StopIteration") → E (.ref e) { s with heap := h', toks := tk }) :
    wpAny (model prog w) A (Builtin.«zip.__next__» ⟨[.ref z], []⟩) Q E s := by
  show wpAny _ _ (field (.ref z) 2 >>= _) _ _ _
  refine wpAny_bind (wpAny_field hz rfl (x := .bool false) rfl ?_)
  show wpAny _ _ (field (.ref z) 3 >>= _) _ _ _
  refine wpAny_bind (wpAny_field hz rfl (x := .ref TI) rfl ?_)
  refine wpAny_bind (wpAny_seqItems hTI rfl ?_)
  show wpAny _ _ (Builtin.SmallTypes.ownedTupleIsFree (.ref z) >>= _) _ _ _
  refine wpAny_bind ?_
  unfold Builtin.SmallTypes.ownedTupleIsFree
  refine wpAny_bind (wpAny_field hz rfl (x := .none) rfl (wpAny_pure ?_))
  simp only [if_true]
  refine wpAny_bind (wpAny_rule ?_)
  refine wpAny_bind (wpAny_field hz rfl (x := .ref TO) rfl ?_)
  refine wpAny_bind (wpAny_setField_rec hz (by simp) fun h₁ hz₁ hs₁ => ?_)
  replace hz₁ : IsZip h₁ z TI TO .ellipsis := hz₁
  have ne1 : ∀ b ∈ fp1, b ≠ z := fun b hb e => Z.z1 (e ▸ hb)
  have ne2 : ∀ b ∈ fp2, b ≠ z := fun b hb e => Z.z2 (e ▸ hb)
  have i1z : i1 ≠ z := ne1 _ Z.m1
  have i2z : i2 ≠ z := ne2 _ Z.m2
  have TOi1 : TO ≠ i1 := fun e => Z.TO1 (e ▸ Z.m1)
  have TOi2 : TO ≠ i2 := fun e => Z.TO2 (e ▸ Z.m2)
  refine wpAny_bind ?_
  simp only [List.zipIdx_cons, List.zipIdx_nil, List.forIn_cons, List.forIn_nil]
  refine wpAny_bind (wpAny_bind (wpAny_onRaise ?_))
  show wpAny _ _ (Builtin.SmallTypes.nextOf (.ref i1) >>= _) _ _ _
  rcases hend with rfl | ⟨hlt, rfl⟩
  · refine wpAny_bind (D1.done _ _ _ (D1.frame _ _ _ hs1 fun b hb o e => hs₁.extBut _ _ (ne1 b hb) e) fun h₂ e hs₂ he => ?_)
    replace hs₂ : Heap.ExtBut i1 h₁ h₂ := hs₂
    (refine ex1 he fun oe hz1 => ?_; refine and2 hz1 fun hoe hce => ?_; clear hz1)
    try clear he
    have hz₂ : IsZip h₂ z TI TO .ellipsis := hs₂ _ _ i1z.symm hz₁
    have hez : e ≠ z := fun x => by subst x; rw [hz₂] at hoe; cases hoe; simp at hce
    refine wpAny_setField_rec hz₂ (by simp) fun h₃ _ hs₃ => hE h₃ _ e (fun c o c1 _ c3 _ x => hs₃.extBut _ _ c1 (hs₂ _ _ c3 (hs₁.extBut _ _ c1 x))) ⟨oe, hs₃.extBut _ _ hez hoe, hce⟩
  · refine wpAny_bind (D1.item i _ _ _ hlt (D1.frame _ _ _ hs1 fun b hb o e => hs₁.extBut _ _ (ne1 b hb) e) fun x h₂ tk₂ hx st₂ hs₂ => wpAny_pure ?_)
    replace hs₂ : Heap.SameBut i1 h₁ h₂ := hs₂
    have hTO₂ : IsPair h₂ TO a b := hs₂.extBut _ _ TOi1 (hs₁.extBut _ _ Z.TOz hTO)
    refine wpAny_bind (wpAny_seqItems hTO₂ rfl ?_)
    refine wpAny_bind (wpAny_updateSeq_pair hTO₂ fun h₃ hTO₃ hs₃ => ?_)
    replace hs₃ : Heap.SameBut TO h₂ h₃ := hs₃
    refine wpAny_bind (wpAny_letGo (wpAny_pure ?_))
    refine wpAny_bind (wpAny_bind (wpAny_onRaise ?_))
    show wpAny _ _ (Builtin.SmallTypes.nextOf (.ref i2) >>= _) _ _ _
    refine wpAny_bind (D2.done _ _ _ (D2.frame _ _ _ hs2 fun b hb o e => hs₃.extBut _ _ (fun q => Z.TO2 (q ▸ hb)) (hs₂.extBut _ _ (fun q => Z.n12 (q ▸ hb)) (hs₁.extBut _ _ (ne2 b hb) e))) fun h₄ e hs₄ he => ?_)
    replace hs₄ : Heap.ExtBut i2 h₃ h₄ := hs₄
    (refine ex1 he fun oe hz2 => ?_; refine and2 hz2 fun hoe hce => ?_; clear hz2)
    try clear he
    have hz₄ : IsZip h₄ z TI TO .ellipsis := hs₄ _ _ i2z.symm (hs₃.extBut _ _ Z.TOz.symm (hs₂.extBut _ _ i1z.symm hz₁))
    have hez : e ≠ z := fun x => by subst x; rw [hz₄] at hoe; cases hoe; simp at hce
    refine wpAny_setField_rec hz₄ (by simp) fun h₅ _ hs₅ => hE h₅ _ e (fun c o c1 c2 c3 c4 x => hs₅.extBut _ _ c1 (hs₄ _ _ c4 (hs₃.extBut _ _ c2 (hs₂.extBut _ _ c3 (hs₁.extBut _ _ c1 x))))) ⟨oe, hs₅.extBut _ _ hez hoe, hce⟩
end

theorem zd_walks {prog : Program} {w : World} {A : Around} {z TI TO i1 i2 : Addr} {fp1 fp2 : List Addr} {n1 n2 : Nat} {P1 P2 : Nat → Value → Prop} {St1 St2 : Nat → Heap → Prop}
    (Z : ZApart z TI TO i1 i2 fp1 fp2) (D1 : ∀ A' : Around, A'.handled = none → Draws prog w A' i1 fp1 n1 P1 St1) (D2 : ∀ A' : Around, A'.handled = none → Draws prog w A' i2 fp2 n2 P2 St2) (hh : A.handled = none) :
    WalksU prog w A z (z :: TI :: TO :: (fp1 ++ fp2)) [z, TI, TO, i1, i2] (min n1 n2) (fun i vals => ∃ x y, P1 i x ∧ P2 i y ∧ vals = #[x, y])
      (fun i h => IsZip h z TI TO .none ∧ IsPair h TI (.ref i1) (.ref i2) ∧ (∃ a b, IsPair h TO a b) ∧ St1 i h ∧ St2 i h)
      (fun i T h => IsZip h z TI TO (rawInt T) ∧ IsPair h TI (.ref i1) (.ref i2) ∧ (∃ a b, IsPair h TO a b) ∧ St1 (i + 1) h ∧ St2 (i + 1) h ∧ T ≠ z ∧ T ≠ TI ∧ T ≠ TO ∧ T ≠ i1 ∧ T ≠ i2) where
  sub := fun c hc => by
    simp only [List.mem_cons, List.not_mem_nil, or_false] at hc
    rcases hc with rfl | rfl | rfl | rfl | rfl
    · exact .head _
    · exact .tail _ (.head _)
    · exact .tail _ (.tail _ (.head _))
    · exact .tail _ (.tail _ (.tail _ (List.mem_append_left _ Z.m1)))
    · exact .tail _ (.tail _ (.tail _ (List.mem_append_right _ Z.m2)))
  frame := fun i h h' hst hk => by
    (refine and5 hst fun hz hTI hz3 h1 h2 => ?_)
    try clear hst
    (refine ex2 hz3 fun a b hTO => ?_)
    try clear hz3
    exact ⟨hk z (.head _) _ hz, hk TI (.tail _ (.head _)) _ hTI, ⟨a, b, hk TO (.tail _ (.tail _ (.head _))) _ hTO⟩,
      (D1 A hh).frame _ _ _ h1 fun b hb o e => hk b (.tail _ (.tail _ (.tail _ (List.mem_append_left _ hb)))) o e, (D2 A hh).frame _ _ _ h2 fun b hb o e => hk b (.tail _ (.tail _ (.tail _ (List.mem_append_right _ hb)))) o e⟩
  item := fun i s Q E hi hst hQ => by
    (refine and5 hst fun hz hTI hz8 h1 h2 => ?_)
    try clear hst
    (refine ex2 hz8 fun a b hTO => ?_)
    try clear hz8
    have hT : s.TypeIs (.ref z) "zip" := ⟨_, hz, rfl⟩
    have hi1 : i < n1 := Nat.lt_of_lt_of_le hi (Nat.min_le_left _ _)
    have hi2 : i < n2 := Nat.lt_of_lt_of_le hi (Nat.min_le_right _ _)
    unfold pyNext
    refine wpAny_bind (wpAny_attempt (wpAny_callSpecial?_slot (name := PySem.Str.ofString "__next__") hT F.slot_zip_next (wpAny_call_entry F.slot_zip_next hT F.entry_zip_next
      (zd_item Z (D1 _ (by first | exact hh | rfl)) (D2 _ (by first | exact hh | rfl)) hi1 hi2 hz hTI hTO h1 h2 fun h' tk x y T hx hy a1 a2 a3 a4 a5 t1 t0 t2 t3 t4 hk => wpAny_pure ?_) (F.args_zip_next_1 _))))
    have TI' : IsPair h' TI (.ref i1) (.ref i2) := hk _ _ Z.TIz Z.TITO Z.TI1 Z.TI2 hTI
    exact hQ T #[x, y] h' tk ⟨x, y, hx, hy, rfl⟩ ⟨_, a5, rfl, _, rfl⟩ ⟨a1, TI', ⟨_, _, a2⟩, a3, a4, t1, t0, t2, t3, t4⟩
      fun c o hc e => hk c o (fun q => hc (by simp [q])) (fun q => hc (by simp [q])) (fun q => hc (by simp [q])) (fun q => hc (by simp [q])) e
  go := fun elts k pos i T s Q E hm hQ => by
    (refine and6 hm fun hz hTI hz13 h1 h2 _ => ?_)
    try clear hm
    (refine ex2 hz13 fun a b hTO => ?_)
    try clear hz13
    refine wpAny_letOwnedTupleGo_zip hz fun h' hz' hs' => hQ h' ⟨hz', hs'.extBut _ _ Z.TIz hTI, ⟨a, b, hs'.extBut _ _ Z.TOz hTO⟩,
      (D1 A hh).frame _ _ _ h1 fun b hb o e => hs'.extBut _ _ (fun q => Z.z1 (q ▸ hb)) e, (D2 A hh).frame _ _ _ h2 fun b hb o e => hs'.extBut _ _ (fun q => Z.z2 (q ▸ hb)) e⟩
      fun c o hc e => hs'.extBut _ _ (fun q => hc (by simp [q])) e
  apart := fun i T h hm hT => by
    (refine and10 hm fun _ _ _ _ _ t1 t0 t2 t3 t4 => ?_)
    try clear hm
    simp only [List.mem_cons, List.not_mem_nil, or_false] at hT
    rcases hT with q | q | q | q | q
    · exact t1 q
    · exact t0 q
    · exact t2 q
    · exact t3 q
    · exact t4 q
  done := fun s Q E hst hQ => by
    (refine and5 hst fun hz hTI hz27 h1 h2 => ?_)
    try clear hst
    (refine ex2 hz27 fun a b hTO => ?_)
    try clear hz27
    have hT : s.TypeIs (.ref z) "zip" := ⟨_, hz, rfl⟩
    unfold pyNext
    refine wpAny_bind (wpAny_attempt (wpAny_callSpecial?_slot (name := PySem.Str.ofString "__next__") hT F.slot_zip_next (wpAny_call_entry F.slot_zip_next hT F.entry_zip_next
      (zd_end Z (D1 _ (by first | exact hh | rfl)) (D2 _ (by first | exact hh | rfl)) (min_c _ _) hz hTI hTO h1 h2 fun h' tk e hk he => ?_) (F.args_zip_next_1 _))))
    (refine ex1 he fun o hz32 => ?_; refine and2 hz32 fun ho hc => ?_; clear hz32)
    try clear he
    refine wpAny_bind (wpAny_isInstance (T := "StopIteration") (b := true) ⟨o, ho, hc⟩ isSubtype_stop ?_)
    exact wpAny_pure (hQ _ _ fun c o hc e => hk c o (fun q => hc (by simp [q])) (fun q => hc (by simp [q])) (fun q => hc (by simp [q])) (fun q => hc (by simp [q])) e)
  self := fun i s Q E hst hq => wpAny_pyIter_zip hst.1 hq
end Mine

end
section
open PySem PySem.W PySem.Calls PyProof.Rows
set_option Elab.async false
set_option maxRecDepth 100000
namespace Mine
abbrev zsH1 (h : Heap) (x : PySem.Str) (t : Tok) : Heap := h.push { cls := .type "str_ascii_iterator", data := .fields #[.str x t, .int 0 0] }
abbrev zsH2 (h : Heap) (x : PySem.Str) (t : Tok) (l2 : Addr) : Heap := (zsH1 h x t).push { cls := .type "list_iterator", data := .fields #[.ref l2, .int 0 0] }
abbrev zsH3 (h : Heap) (x : PySem.Str) (t : Tok) (l2 : Addr) : Heap := (zsH2 h x t l2).push { cls := .type "tuple", data := .seq #[.ref h.objs.size, .ref (zsH1 h x t).objs.size] }
abbrev zsH4 (h : Heap) (x : PySem.Str) (t : Tok) (l2 : Addr) : Heap := (zsH3 h x t l2).push { cls := .type "tuple", data := .seq #[.none, .none] }
abbrev zsH5 (h : Heap) (x : PySem.Str) (t : Tok) (l2 : Addr) : Heap := (zsH4 h x t l2).push { cls := .type "zip", data := .fields #[.none, .bool false, .bool false, .ref (zsH2 h x t l2).objs.size, .ref (zsH3 h x t l2).objs.size] }

set_option maxHeartbeats 4000000 in
theorem meets_zip_sl (x : PySem.Str) (t : Tok) (l2 : Addr) (ys : Array Value) (ha : x.cps.all (· < 128) = true) :
    Meets (Builtin.«zip.__new__» ⟨[.type "zip", .str x t, .ref l2], []⟩) (fun _ R s => s.heap.IsList l2 ys ∧
      R (.ok (.ret (.ref (zsH4 s.heap x t l2).objs.size))) { s with heap := zsH5 s.heap x t l2 }) :=
  .of_wp fun prog w A R s h => by
    obtain ⟨hp, g, d, tk, os⟩ := s; obtain ⟨hl2, h⟩ := h
    have hsub := sub_zip
    have hL2 : Heap.IsList (Shared.heap ⟨hp.push { cls := .type "str_ascii_iterator", data := .fields #[.str x t, .int 0 0] }, g, d, tk, os⟩) l2 ys := Heap.IsList.push hl2 _
    wp_walk using wpAny_pyIter_ascii ha, wpAny_pyIter_list hL2
    exact ⟨_, rfl, h⟩

end Mine

end
section
open PySem PySem.W PySem.Calls PyProof.Rows
set_option Elab.async false
set_option maxRecDepth 100000
namespace Mine

section
variable {prog : Program} {w : World} {A : Around} {E : Value → Shared → Prop} {s : Shared} {Q : Value → Shared → Prop}

abbrev ZPt (x : PySem.Str) (vs : List Value) : Nat → Array Value → Prop := fun i vals => ∃ a b, SignAt x i a ∧ vs[i]? = some b ∧ vals = #[a, b]
abbrev EPt (x : PySem.Str) : Nat → Array Value → Prop := fun i vals => ∃ t a, SignAt x i a ∧ vals = #[.int i t, a]
abbrev LPt (vs : List Value) : Nat → Array Value → Prop := fun i vals => ∃ t a, vs[i]? = some a ∧ vals = #[.int i t, a]
theorem zpt2 {x : PySem.Str} {vs : List Value} : ∀ i vals, ZPt x vs i vals → ∃ v0 v1, vals = #[v0, v1] := fun _ _ ⟨_, _, _, _, e⟩ => ⟨_, _, e⟩
theorem ept2 {x : PySem.Str} : ∀ i vals, EPt x i vals → ∃ v0 v1, vals = #[v0, v1] := fun _ _ ⟨_, _, _, e⟩ => ⟨_, _, e⟩
theorem lpt2 {vs : List Value} : ∀ i vals, LPt vs i vals → ∃ v0 v1, vals = #[v0, v1] := fun _ _ ⟨_, _, _, e⟩ => ⟨_, _, e⟩
theorem pair_eq {a b c d : Value} (e : (#[a, b] : Array Value) = #[c, d]) : a = c ∧ b = d := by
  have := congrArg Array.toList e
  simpa only [List.cons.injEq, and_true] using this
theorem zpt_val {x : PySem.Str} {vs : List Value} {i : Nat} {v0 v1 : Value} (h : ZPt x vs i #[v0, v1]) : ∃ c u, x.cps[i]? = some c ∧ v0 = .str ⟨#[c]⟩ u ∧ vs[i]? = some v1 := by
  (refine ex2 h fun a b hz5 => ?_; refine and3 hz5 fun hz1 hb e => ?_; clear hz5)
  try clear h
  (refine ex2 hz1 fun c u hz3 => ?_; refine and2 hz3 fun hc hz2 => ?_; clear hz3)
  try clear hz1
  obtain rfl := hz2
  have hz8 := pair_eq e
  (refine and2 hz8 fun hz9 hz10 => ?_)
  try clear hz8
  obtain rfl := hz9
  obtain rfl := hz10
  exact ⟨c, u, hc, rfl, hb⟩
theorem ept_val {x : PySem.Str} {i : Nat} {v0 v1 : Value} (h : EPt x i #[v0, v1]) : ∃ c t u, x.cps[i]? = some c ∧ v0 = .int i t ∧ v1 = .str ⟨#[c]⟩ u := by
  (refine ex2 h fun t a hz15 => ?_; refine and2 hz15 fun hz11 e => ?_; clear hz15)
  try clear h
  (refine ex2 hz11 fun c u hz13 => ?_; refine and2 hz13 fun hc hz12 => ?_; clear hz13)
  try clear hz11
  obtain rfl := hz12
  have hz17 := pair_eq e
  (refine and2 hz17 fun hz18 hz19 => ?_)
  try clear hz17
  obtain rfl := hz18
  obtain rfl := hz19
  exact ⟨c, t, u, hc, rfl, rfl⟩
theorem lpt_val {vs : List Value} {i : Nat} {v0 v1 : Value} (h : LPt vs i #[v0, v1]) : ∃ t, v0 = .int i t ∧ vs[i]? = some v1 := by
  (refine ex2 h fun t a hz20 => ?_; refine and2 hz20 fun ha e => ?_; clear hz20)
  try clear h
  have hz22 := pair_eq e
  (refine and2 hz22 fun hz23 hz24 => ?_)
  try clear hz22
  obtain rfl := hz23
  obtain rfl := hz24
  exact ⟨t, rfl, ha⟩

theorem none_at_size {h : Heap} {n : Nat} (hn : h.objs.size ≤ n) : h.get? n = none := by
  cases q : h.get? n with
  | none => rfl
  | some o => exact absurd (Heap.lt_size q) (Nat.not_lt.mpr hn)

theorem enum_str {x : PySem.Str} {t : Tok} (hh : A.handled = none) (ha : x.cps.all (· < 128) = true)
    (h : ∀ (e : Addr) (fp wr : List Addr) (St : Nat → Heap → Prop) (Mid : Nat → Addr → Heap → Prop) (h₂ : Heap), WalksU prog w A e fp wr x.cps.size (EPt x) St Mid → NewIt fp wr St s.heap h₂ → Q (.ref e) { s with heap := h₂ }) :
    wpAny (model prog w) A (call (.type "enumerate") [.str x t]) (fun xv s₁ => wpAny (model prog w) A (pyIter xv) Q E s₁) E s := by
  refine call_enumerate_str fun h' he hi hsz hk => wpAny_pyIter_enum he ?_
  have hty : strIterType x = "str_ascii_iterator" := by unfold strIterType; rw [if_pos ha]
  rw [hty] at hi
  refine h _ _ _ _ _ h' (WalksT.enumerateD (Draws.strAscii (A := A.in1) hh s.heap.objs.size x t) (s.heap.objs.size + 1) (Nat.succ_ne_self _) (by simp) (by simp)).toU ⟨hk, ⟨⟨_, he⟩, hi⟩, fun b hb => .inl ?_, fun b hb => ?_, fun b hb => ?_, fun i h st b hb => ?_⟩
  · simpa using hb
  · simp only [List.mem_cons, List.not_mem_nil, or_false] at hb
    rcases hb with rfl | rfl
    · exact none_at_size (Nat.le_succ _)
    · exact none_at_size (Nat.le_refl _)
  · simpa using hb
  · simp only [List.mem_cons, List.not_mem_nil, or_false] at hb
    rcases hb with rfl | rfl
    · obtain ⟨old, e⟩ := st.1; exact ⟨_, e⟩
    · obtain ⟨o, e, _⟩ := st.2; exact ⟨o, e⟩

theorem enum_list {l : Addr} {vs : List Value} (hh : A.handled = none) (hl : s.heap.IsList l vs.toArray)
    (h : ∀ (e : Addr) (fp wr : List Addr) (St : Nat → Heap → Prop) (Mid : Nat → Addr → Heap → Prop) (h₂ : Heap), WalksU prog w A e fp wr vs.length (LPt vs) St Mid → NewIt fp wr St s.heap h₂ → Q (.ref e) { s with heap := h₂ }) :
    wpAny (model prog w) A (call (.type "enumerate") [.ref l]) (fun xv s₁ => wpAny (model prog w) A (pyIter xv) Q E s₁) E s := by
  have hlt : l < s.heap.objs.size := by obtain ⟨o, e, _⟩ := hl; exact Heap.lt_size e
  have n1 : l ≠ s.heap.objs.size + 1 := Nat.ne_of_lt (Nat.lt_succ_of_lt hlt)
  have n2 : l ≠ s.heap.objs.size := Nat.ne_of_lt hlt
  refine call_enumerate_list hl fun h' he hi hsz hk => wpAny_pyIter_enum he ?_
  have hl' : h'.IsList l vs.toArray := hl.at fun o e => hk _ _ e
  have W := (WalksT.enumerateD (Draws.list (prog := prog) (w := w) (A := A.in1) hh s.heap.objs.size l n2 vs.toArray) (s.heap.objs.size + 1) (Nat.succ_ne_self _) (by simp only [List.mem_cons, List.not_mem_nil, or_false, not_or]; exact ⟨Nat.succ_ne_self _, Ne.symm n1⟩) (by simp)).toU
  have hsz' : vs.toArray.size = vs.length := by simp
  rw [hsz'] at W
  refine h _ _ _ _ _ h' { W with item := fun i s Q E hi st hQ => W.item i s Q E hi st fun T vl h' tk hP hT hm hk => hQ T vl h' tk (by obtain ⟨t, x, hx, e⟩ := hP; exact ⟨t, x, by simpa using hx, e⟩) hT hm hk } ⟨hk, ⟨⟨_, he⟩, hi, hl'⟩, fun b hb => ?_, fun b hb => ?_, fun b hb => ?_, fun i h st b hb => ?_⟩
  · simp only [List.mem_cons, List.not_mem_nil, or_false] at hb
    rcases hb with rfl | rfl | rfl
    · exact .inl (by simp)
    · exact .inl (by simp)
    · obtain ⟨o, e, _, n, hd⟩ := hl; exact .inr ⟨o, _, _, e, hd⟩
  · simp only [List.mem_cons, List.not_mem_nil, or_false] at hb
    rcases hb with rfl | rfl
    · exact none_at_size (Nat.le_succ _)
    · exact none_at_size (Nat.le_refl _)
  · simp only [List.mem_cons, List.not_mem_nil, or_false] at hb ⊢
    rcases hb with rfl | rfl <;> simp
  · simp only [List.mem_cons, List.not_mem_nil, or_false] at hb
    rcases hb with rfl | rfl
    · obtain ⟨old, e⟩ := st.1; exact ⟨_, e⟩
    · obtain ⟨o, e, _⟩ := st.2.1; exact ⟨o, e⟩

theorem zip_sl {x : PySem.Str} {t : Tok} {l : Addr} {vs : List Value} (hh : A.handled = none) (ha : x.cps.all (· < 128) = true) (hl : s.heap.IsList l vs.toArray)
    (h : ∀ (e : Addr) (fp wr : List Addr) (St : Nat → Heap → Prop) (Mid : Nat → Addr → Heap → Prop) (h₂ : Heap), WalksU prog w A e fp wr (min x.cps.size vs.length) (ZPt x vs) St Mid → NewIt fp wr St s.heap h₂ → (∀ b ∈ fp, b ∈ wr ∨ b = l) → Q (.ref e) { s with heap := h₂ }) :
    wpAny (model prog w) A (call (.type "zip") [.str x t, .ref l]) (fun xv s₁ => wpAny (model prog w) A (pyIter xv) Q E s₁) E s := by
  have hlt : l < s.heap.objs.size := by obtain ⟨o, e, _⟩ := hl; exact Heap.lt_size e
  refine callType_new F.called_zip (by decide) (F.typeCall_zip_2 _ _) (F.newCall_zip_2 _ _) (fun obj => F.args_object_init_3 obj _ _) F.entry_zip_new (meets_zip_sl x t l vs.toArray ha) ⟨hl, ?_⟩
  have z1 : (zsH1 s.heap x t).objs.size = s.heap.objs.size + 1 := Heap.size_push ..
  have z2 : (zsH2 s.heap x t l).objs.size = s.heap.objs.size + 2 := by rw [Heap.size_push, z1]
  have z3 : (zsH3 s.heap x t l).objs.size = s.heap.objs.size + 3 := by rw [Heap.size_push, z2]
  have z4 : (zsH4 s.heap x t l).objs.size = s.heap.objs.size + 4 := by rw [Heap.size_push, z3]
  have g5 : (zsH5 s.heap x t l).get? (zsH4 s.heap x t l).objs.size = some _ := Heap.get?_push_size _ rfl
  have g4 : (zsH5 s.heap x t l).get? (zsH3 s.heap x t l).objs.size = some _ := Heap.get?_push_of_some _ (Heap.get?_push_size _ rfl)
  have g3 : (zsH5 s.heap x t l).get? (zsH2 s.heap x t l).objs.size = some _ := Heap.get?_push_of_some _ (Heap.get?_push_of_some _ (Heap.get?_push_size _ rfl))
  have g2 : (zsH5 s.heap x t l).get? (zsH1 s.heap x t).objs.size = some _ := Heap.get?_push_of_some _ (Heap.get?_push_of_some _ (Heap.get?_push_of_some _ (Heap.get?_push_size _ rfl)))
  have g1 : (zsH5 s.heap x t l).get? s.heap.objs.size = some _ := Heap.get?_push_of_some _ (Heap.get?_push_of_some _ (Heap.get?_push_of_some _ (Heap.get?_push_of_some _ (Heap.get?_push_size _ rfl))))
  have up : ∀ c o, s.heap.get? c = some o → (zsH5 s.heap x t l).get? c = some o := fun c o e => Heap.get?_push_of_some _ (Heap.get?_push_of_some _ (Heap.get?_push_of_some _ (Heap.get?_push_of_some _ (Heap.get?_push_of_some _ e))))
  show _ ∧ _
  rw [z2, z3, z4] at g5
  rw [z1, z2] at g3
  rw [z3] at g4
  rw [z1] at g2
  rw [z4]
  generalize zsH5 s.heap x t l = h₂ at *
  refine ⟨⟨_, g5, rfl⟩, wpAny_pyIter_zip (s := { s with heap := h₂ }) g5 ?_⟩
  generalize hn : s.heap.objs.size = n at *
  have ln : ∀ k : Nat, l ≠ n + k := fun k e => absurd hlt (by rw [e]; exact Nat.not_lt.mpr (Nat.le_add_right _ _))
  have ne : ∀ a b : Nat, a ≠ b → n + a ≠ n + b := fun a b hab e => hab (Nat.add_left_cancel e)
  have l0 : l ≠ n := fun e => ln 0 (by rw [Nat.add_zero]; exact e)
  have e0 : ∀ a : Nat, a ≠ 0 → n + a ≠ n := fun a ha e => ne a 0 ha (by rw [Nat.add_zero]; exact e)
  have Z : ZApart (n + 4) (n + 2) (n + 3) n (n + 1) [n] [n + 1, l] := by
    constructor
    · exact ne _ _ (by decide)
    · exact ne _ _ (by decide)
    · exact ne _ _ (by decide)
    · exact e0 _ (by decide)
    · exact ne _ _ (by decide)
    · simp only [List.mem_singleton]; exact e0 _ (by decide)
    · simp only [List.mem_cons, List.not_mem_nil, or_false, not_or]; exact ⟨ne _ _ (by decide), (ln _).symm⟩
    · simp only [List.mem_singleton]; exact e0 _ (by decide)
    · simp only [List.mem_cons, List.not_mem_nil, or_false, not_or]; exact ⟨ne _ _ (by decide), (ln _).symm⟩
    · exact List.mem_cons_self
    · exact List.mem_cons_self
    · simp only [List.mem_cons, List.not_mem_nil, or_false, not_or]; exact ⟨(e0 _ (by decide)).symm, l0.symm⟩
    · simp only [List.mem_singleton]; exact e0 _ (by decide)
  have W := zd_walks (prog := prog) (w := w) Z (fun A' hA => Draws.strAscii hA n x t) (fun A' hA => Draws.list hA (n + 1) l (ln 1) vs.toArray) hh
  have hsz' : vs.toArray.size = vs.length := by simp
  rw [hsz'] at W
  refine h _ _ _ _ _ h₂ { W with item := fun i s Q E hi st hQ => W.item i s Q E hi st fun T vl h' tk hP hT hm hk => hQ T vl h' tk (by obtain ⟨a, b, ha, hb, e⟩ := hP; exact ⟨a, b, ha, by simpa using hb, e⟩) hT hm hk } ⟨up, ⟨g5, g3, ⟨_, _, g4⟩, ⟨_, g1, rfl, rfl⟩, ⟨_, g2, rfl, rfl⟩, hl.at fun o e => up _ _ e⟩, fun b hb => ?_, fun b hb => ?_, fun b hb => ?_, fun i h st b hb => ?_⟩ (fun b hb => ?_)
  · simp only [List.mem_cons, List.not_mem_nil, or_false, List.cons_append, List.nil_append] at hb ⊢
    rcases hb with rfl | rfl | rfl | rfl | rfl | rfl
    · exact .inl (.inl rfl)
    · exact .inl (.inr (.inl rfl))
    · exact .inl (.inr (.inr (.inl rfl)))
    · exact .inl (.inr (.inr (.inr (.inl rfl))))
    · exact .inl (.inr (.inr (.inr (.inr rfl))))
    · obtain ⟨o, e, _, k, hd⟩ := hl; exact .inr ⟨o, _, _, e, hd⟩
  · have fresh : ∀ k : Nat, s.heap.get? (n + k) = none := fun k => none_at_size (by rw [hn]; exact Nat.le_add_right _ _)
    revert b hb
    exact fm_cons (fresh 4) (fm_cons (fresh 2) (fm_cons (fresh 3) (fm_cons (fresh 0) (fm_cons (fresh 1) fm_nil))))
  · simp only [List.mem_cons, List.not_mem_nil, or_false, List.cons_append, List.nil_append] at hb ⊢
    rcases hb with rfl | rfl | rfl | rfl | rfl <;> simp
  · revert b hb
    (refine and6 st fun a1 a2 hz25 hz27 hz29 _ => ?_)
    try clear st
    (refine ex2 hz25 fun x y a3 => ?_)
    try clear hz25
    (refine ex1 hz27 fun o1 hz28 => ?_; refine and2 hz28 fun a4 _ => ?_; clear hz28)
    try clear hz27
    (refine ex1 hz29 fun o2 hz30 => ?_; refine and2 hz30 fun a5 _ => ?_; clear hz30)
    try clear hz29
    exact fm_cons ⟨_, a1⟩ (fm_cons ⟨_, a2⟩ (fm_cons ⟨_, a3⟩ (fm_cons ⟨_, a4⟩ (fm_cons ⟨_, a5⟩ fm_nil))))
  · simp only [List.mem_cons, List.not_mem_nil, or_false, List.cons_append, List.nil_append] at hb ⊢
    rcases hb with rfl | rfl | rfl | rfl | rfl | rfl <;> simp
end
end Mine

end
section
open PySem PySem.W PySem.Calls PyProof.Rows
set_option Elab.async false
set_option maxRecDepth 100000
namespace Mine
noncomputable def lowC (c : Nat) : Nat := if 65 ≤ c ∧ c ≤ 90 then c + 32 else c
noncomputable def upC (c : Nat) : Nat := if 97 ≤ c ∧ c ≤ 122 then c - 32 else c
abbrev one (c : Nat) : PySem.Str := ⟨#[c]⟩
theorem lower_tab : (List.range 128).all (fun c => Txt.lower (one c) == one (lowC c)) = true := by decide +kernel
theorem upper_tab : (List.range 128).all (fun c => Txt.upper (one c) == one (upC c)) = true := by decide +kernel
theorem lower_one {c : Nat} (h : c < 128) : Txt.lower (one c) = one (lowC c) := eq_of_beq (List.all_eq_true.mp lower_tab c (List.mem_range.mpr h))
theorem upper_one {c : Nat} (h : c < 128) : Txt.upper (one c) = one (upC c) := eq_of_beq (List.all_eq_true.mp upper_tab c (List.mem_range.mpr h))
theorem one_inj {a b : Nat} : (one a == one b) = decide (a = b) := by
  by_cases h : a = b
  · subst h; simp
  · rw [decide_eq_false h]
    apply Bool.eq_false_iff.mpr
    intro e
    have := eq_of_beq e
    simp only [Str.mk.injEq] at this
    have := congrArg Array.toList this
    simp at this
    exact h this
section
variable {prog : Program} {w : World} {A : Around} {E Q : Value → Shared → Prop} {s : Shared} {c : Nat} {t : Tok}
theorem call_lower1 (hc : c < 128) (h : ∀ t' k, Q (.str (one (lowC c)) t') { s with toks := k }) : wpAny (model prog w) A (call (.builtin "str.lower") [.str (one c) t]) Q E s :=
  KXw.lower (lower_one hc) (by rw [lower_one hc]; rfl) h
theorem call_upper1 (hc : c < 128) (h : ∀ t' k, Q (.str (one (upC c)) t') { s with toks := k }) : wpAny (model prog w) A (call (.builtin "str.upper") [.str (one c) t]) Q E s :=
  KXw.upper (upper_one hc) (by rw [upper_one hc]; rfl) h
end
end Mine

end
section
open PySem PySem.W PySem.Calls PyProof.Rows PySem.Builtin PySem.Builtin.Re
set_option Elab.async false
set_option maxRecDepth 100000
namespace Mine
theorem slot_search : Slot "re.Pattern" "search" "re.Pattern.search" :=
  .of (owner := "re.Pattern") (n := "search") (by rw [typeLookup_type, builtinLookup_eq_fast]; kernel_rfl) (by decide +kernel) (by decide +kernel) (by decide +kernel)
    (by first | exact .inl (by decide +kernel) | exact .inr (by decide +kernel)) (by rw [isSubtype_type]; kernel_rfl)
theorem type_search : typeOf (.builtin "re.Pattern.search") = pure (.type "method_descriptor") := by show builtinType _ = _; rw [builtinType_eq_fast]; kernel_rfl
theorem entry_search : entryFor table "re.Pattern.search" = some Builtin.«re.Pattern.search» := entryFor_of_tree (by kernel_rfl)
theorem args_search (a b : Value) : argsOk "re.Pattern.search" ⟨[a, b], []⟩ := by
  unfold argsOk; kernel_rfl
theorem plainAttrs_pattern : PlainAttrs "re.Pattern" :=
  ⟨⟨"object.__getattribute__", by rw [typeLookup_type, builtinLookup_eq_fast]; kernel_rfl, by decide +kernel⟩, by rw [typeLookup_type, builtinLookup_eq_fast]; kernel_rfl⟩
/-- the machine is out after its first turn, and found nothing -/
noncomputable def noHit (code text : Array Nat) : Bool := match ((Sre.forSearch code text 0 0 text.size false).runFor 4).outcome with
  | some .failed => true
  | _ => false
theorem drive_once {m : Sre.M} {n : Nat} (hn : 0 < n) (h : (m.runFor 4).outcome.isSome = true) : reDrive n m = pure (m.runFor 4) := by
  obtain ⟨n, rfl⟩ : ∃ k, n = k + 1 := ⟨n - 1, (Nat.sub_add_cancel hn).symm⟩
  show (if (m.runFor reTurnSteps).outcome.isSome then pure (m.runFor reTurnSteps) else do rule "sre.turn"; reDrive n (m.runFor reTurnSteps)) = _
  rw [show reTurnSteps = 4 from rfl, if_pos h]
section
variable {prog : Program} {w : World} {A : Around} {E Q : Value → Shared → Prop} {s : Shared}
theorem getMethod_search {a : Addr} {o : Obj} {pl : Sem Bool} {Q : Value × List Value → Shared → Prop} {E : Value → Shared → Prop} (ho : s.heap.get? a = some o) (hc : o.cls = .type "re.Pattern") (hd : o.dict = none) (h : Q (.builtin "re.Pattern.search", [.ref a]) s) :
    wpAny (model prog w) A (getMethod (.ref a) "search" pl) Q E s :=
  getMethod_builtin (T := "re.Pattern") ⟨o, ho, hc⟩ plainAttrs_pattern slot_search type_search (fun b e => by cases e; exact ⟨o, ho, hd⟩) h
theorem wpAny_rules {n : Nat} {f : Nat → Bool} {g : Nat → String} {Q : Unit → Shared → Prop} {E : Value → Shared → Prop} (h : Q () s) : wpAny (model prog w) A (forIn (List.range n) PUnit.unit fun i r => do if f i = true then do { rule (g i); pure (ForInStep.yield PUnit.unit) } else pure (ForInStep.yield PUnit.unit)) Q E s := by
  generalize List.range n = l
  induction l with
  | nil => exact wpAny_pure h
  | cons a l ih =>
    rw [List.forIn_cons]
    refine wpAny_bind ?_
    split
    · exact wpAny_bind (wpAny_rule (wpAny_pure ih))
    · exact wpAny_pure ih
theorem call_search {a c : Addr} {o oc : Obj} {fs items : Array Value} {n : Nat} {x : PySem.Str} {t : Tok} (ho : s.heap.get? a = some o) (hf : o.data = .fields fs) (hc : o.cls = .type "re.Pattern")
    (hcode : fs.getD 5 .none = .ref c) (hgr : reRawNat (fs.getD 2 .none) = 0) (hw : reRawNat (fs.getD 6 .none) = 0) (hoc : s.heap.get? c = some oc) (hoi : oc.data = .seq items n)
    (hno : noHit ((items.map reRawOf).map (·.toNat)) x.cps = true) (hsz : x.cps.size < 2 ^ 62) (h : Q .none s) :
    wpAny (model prog w) A (call (.builtin "re.Pattern.search") [.ref a, .str x t]) Q E s := by
  refine wpAny_call (codeAny_call_builtin slot_search.plain entry_search (slot_search.check _ _ _ _ _ _ _ _ ⟨o, ho, hc⟩ (args_search _ _) ?_))
  show wpAny _ _ (reTarget "re.Pattern.search" "search" ⟨[.ref a, .str x t], []⟩ >>= fun t => reAnswer t (Sre.forSearch t.code t.text t.groups t.pos t.lim false)) _ _ s
  refine wpAny_bind ?_
  have e : reNamed "re.Pattern.search" "search" ["string", "pos", "endpos"] 1 [.str x t] [] = pure [some (.str x t), none, none] := by kernel_rfl
  unfold reTarget
  dsimp only
  rw [e]
  refine wpAny_bind (wpAny_pure ?_)
  dsimp only
  refine wpAny_bind (wpAny_pure ?_)
  refine wpAny_bind (wpAny_pure ?_)
  refine wpAny_bind (wpAny_bind (wpAny_load ho ?_))
  rw [hf]
  refine wpAny_pure ?_
  refine wpAny_bind (wpAny_pure ?_)
  dsimp only
  rw [hw, if_neg (by decide), if_neg (by decide), hcode]
  refine wpAny_bind (wpAny_pure ?_)
  refine wpAny_bind (wpAny_bind (wpAny_seqItems hoc hoi (wpAny_pure ?_)))
  refine wpAny_pure ?_
  dsimp only [Option.getD]
  have e1 : Min.min (Int.toNat 0) x.cps.size = 0 := Nat.zero_min _
  have e2 : Min.min ((2 : Int) ^ 63 - 1).toNat x.cps.size = x.cps.size := Nat.min_eq_right (Nat.le_trans (Nat.le_of_lt hsz) (by decide))
  rw [hgr, e1, e2]
  unfold reAnswer
  dsimp only
  revert hno
  unfold noHit
  split
  next out hout =>
    intro _
    generalize hm : Sre.forSearch _ _ 0 0 _ false = m at hout ⊢
    refine wpAny_bind ?_
    unfold reRunToEnd
    rw [drive_once (m := m) (by decide) (by rw [hout]; rfl)]
    refine wpAny_bind (wpAny_pure ?_)
    refine wpAny_bind ?_
    refine wpAny_rules ?_
    rw [hout]
    refine wpAny_pure ?_
    exact wpAny_pure h
  next => intro e; cases e
end
end Mine
namespace Mine
open PySem.Sre
noncomputable def nameCode : Array Nat := #[14, 10, 4, 1, 1, 22, 0, 31, 16, 127, 0, 13, 7, 22, 0, 31, 16, 127, 0, 1]
noncomputable def valueCode : Array Nat := #[14, 14, 4, 1, 1, 9, 4294966783, 0, 0, 2147483648, 0, 0, 0, 0, 0, 13, 11, 9, 4294966783, 0, 0, 2147483648, 0, 0, 0, 0, 0, 1]
theorem admitted_none {m : M} (h : ∀ (c : Nat) seen, c ∈ m.text.toList → ∃ seen', inSet m.code c m.code.size 5 true seen = .ok (false, seen')) (hl : m.lim = m.text.size) :
    ∀ fuel s seen, ∃ seen', M.admitted m fuel s seen = .ok (none, seen') := by
  intro fuel
  induction fuel with
  | zero => exact fun s seen => ⟨seen, rfl⟩
  | succ n ih =>
    intro s seen
    unfold M.admitted
    split
    · exact ⟨seen, rfl⟩
    · rename_i hs
      have hs' : s < m.text.size := by rw [hl] at hs; exact Nat.lt_of_not_le hs
      have hm : m.text.getD s 0 ∈ m.text.toList := by
        rw [Array.getD_eq_getD_getElem?, Array.getElem?_eq_getElem hs', Option.getD_some]
        exact Array.getElem_mem_toList hs'
      obtain ⟨sn, e⟩ := h _ seen hm
      rw [e]
      exact ih (s + 1) sn
theorem inSet_name {c : Nat} (h1 : 32 ≤ c) (h2 : c < 127) (seen : Sre.Seen) : ∃ seen', inSet nameCode c nameCode.size 5 true seen = .ok (false, seen') := by
  have a1 : (decide (0 ≤ c) && decide (c ≤ 31)) = false := by simp; omega
  have a2 : (c == 127) = false := by simp; omega
  refine ⟨((seen.add 22).add 16).add 0, ?_⟩
  show (if (decide (0 ≤ c) && decide (c ≤ 31)) = true then _ else (if (c == 127) = true then _ else _)) = _
  rw [a1, a2]; rfl
theorem inSet_value {c : Nat} (h1 : 32 ≤ c) (h2 : c < 127) (seen : Sre.Seen) : ∃ seen', inSet valueCode c valueCode.size 5 true seen = .ok (false, seen') := by
  have tab : (List.range 127).all (fun c => decide (c < 32) || !((valueCode.getD (5 + (1 + c / 32)) 0).testBit (c % 32))) = true := by decide +kernel
  have a1 := List.all_eq_true.mp tab c (List.mem_range.mpr h2)
  have a3 : (decide (c < 256) && (valueCode.getD (5 + (1 + c / 32)) 0).testBit (c % 32)) = false := by
    rw [Bool.or_eq_true, decide_eq_true_eq, Bool.not_eq_true'] at a1
    rcases a1 with a1 | a1
    · exact absurd a1 (Nat.not_lt.mpr h1)
    · rw [a1, Bool.and_false]
  refine ⟨(seen.add 9).add 0, ?_⟩
  show (if (decide (c < 256) && (valueCode.getD (5 + (1 + c / 32)) 0).testBit (c % 32)) = true then _ else _) = _
  rw [a3]; rfl
theorem attemptFrom_none {m : M} (hf : m.hasFirstSet = true) (h : ∀ (c : Nat) seen, c ∈ m.text.toList → ∃ seen', inSet m.code c m.code.size 5 true seen = .ok (false, seen')) (hl : m.lim = m.text.size) (s : Nat) :
    ∃ sn, m.attemptFrom s true = M.say { m with seen := sn } false := by
  obtain ⟨sn, e⟩ := admitted_none h hl (m.lim + 1 - s) s m.seen
  refine ⟨sn, ?_⟩
  unfold M.attemptFrom
  rw [hf, e]; rfl
theorem forSearch_none {code x : Array Nat} (hc : ∀ m : M, m.code = code → m.hasFirstSet = true) (h : ∀ (c : Nat) seen, c ∈ x.toList → ∃ seen', inSet code c code.size 5 true seen = .ok (false, seen')) :
    ∃ m : M, forSearch code x 0 0 x.size false = m.say false ∧ m.frames = [] ∧ m.outcome = none := by
  unfold forSearch
  dsimp only
  by_cases hi : 0 > x.size ∨ x.size - 0 < (header code).1
  · rw [if_pos (by simpa using hi)]
    exact ⟨_, rfl, rfl, rfl⟩
  · rw [if_neg (by simpa using hi)]
    refine Exists.elim (attemptFrom_none (hc _ rfl) h rfl 0) fun sn e => ⟨_, e, rfl, rfl⟩
theorem noHit_of {code x : Array Nat} (hc : ∀ m : M, m.code = code → m.hasFirstSet = true) (h : ∀ (c : Nat) seen, c ∈ x.toList → ∃ seen', inSet code c code.size 5 true seen = .ok (false, seen')) : noHit code x = true := by
  obtain ⟨m, e, h1, h2⟩ := forSearch_none hc h
  unfold noHit
  rw [e]
  have : (M.runFor 4 (m.say false)).outcome = some .failed := by
    show (if m.outcome.isSome then _ else M.runFor 3 (M.step (m.say false))).outcome = _
    rw [h2]
    obtain ⟨_, _, _, _, _, _, _, _, _, _, _, _, _, _, _, _, fr, _, _, _, oc⟩ := m
    dsimp only at h1 h2
    subst h1 h2
    rfl
  rw [this]
theorem noHit_name {x : Array Nat} (h : ∀ c ∈ x.toList, 32 ≤ c ∧ c < 127) : noHit nameCode x = true :=
  noHit_of (fun m e => by unfold M.hasFirstSet; rw [e]; rfl) fun c seen hc => inSet_name (h c hc).1 (h c hc).2 seen
theorem noHit_value {x : Array Nat} (h : ∀ c ∈ x.toList, 32 ≤ c ∧ c < 127) : noHit valueCode x = true :=
  noHit_of (fun m e => by unfold M.hasFirstSet; rw [e]; rfl) fun c seen hc => inSet_value (h c hc).1 (h c hc).2 seen
end Mine
namespace Mine
section
variable {prog : Program} {w : World} {A : Around} {E Q : Value → Shared → Prop} {s : Shared} {h₀ : Heap} {L : Addr} {m : PySem.Str → Option Value} {K : Frag}
theorem getMethod_searchK {a : Addr} {fs : Array Value} {pl : Sem Bool} {Q : Value × List Value → Shared → Prop} {E : Value → Shared → Prop} (F : Fr h₀ L s.heap m) (X : K.In h₀)
    (hl : K.lookup a = some { cls := .type "re.Pattern", data := .fields fs }) (h : Q (.builtin "re.Pattern.search", [.ref a]) s) : wpAny (model prog w) A (getMethod (.ref a) "search" pl) Q E s :=
  getMethod_search (F.keep _ _ (X _ _ hl)) rfl rfl h
theorem call_searchK {a c : Addr} {fs items : Array Value} {n : Nat} {x : PySem.Str} {t : Tok} (F : Fr h₀ L s.heap m) (X : K.In h₀)
    (hl : K.lookup a = some { cls := .type "re.Pattern", data := .fields fs }) (hcode : fs.getD 5 .none = .ref c) (hl2 : K.lookup c = some { cls := .type "tuple", data := .seq items n }) (hgr : reRawNat (fs.getD 2 .none) = 0) (hw : reRawNat (fs.getD 6 .none) = 0)
    {code : Array Nat} (hcc : (items.map reRawOf).map (·.toNat) = code) (hno : noHit code x.cps = true) (hsz : x.cps.size ≤ 100) (h : Q .none s) :
    wpAny (model prog w) A (call (.builtin "re.Pattern.search") [.ref a, .str x t]) Q E s :=
  call_search (F.keep _ _ (X _ _ hl)) rfl rfl hcode hgr hw (F.keep _ _ (X _ _ hl2)) rfl (hcc ▸ hno) (Nat.lt_of_le_of_lt hsz (by decide)) h
end
end Mine

end
section
open PySem PySem.W PySem.Calls PyProof.Rows
set_option Elab.async false
set_option maxRecDepth 100000
namespace Mine
abbrev txt (l : List Nat) : PySem.Str := ⟨l.toArray⟩
/-- the rows of a header, told by a ledger: a digit's sign and letters -/
inductive SIn (tl : List (Addr × Obj)) : List Value → List (Nat × List Nat) → Prop
  | nil : SIn tl [] []
  | cons {a : Addr} {n : Nat} {ls : List Nat} {t u : Tok} {vs : List Value} {ps : List (Nat × List Nat)} : (a, tup2 (.str (one (48 + n)) t) (.str (txt ls) u)) ∈ tl → SIn tl vs ps → SIn tl (.ref a :: vs) ((n, ls) :: ps)
inductive HS (h : Heap) : List Value → List (Nat × List Nat) → Prop
  | nil : HS h [] []
  | cons {a : Addr} {n : Nat} {ls : List Nat} {t u : Tok} {vs : List Value} {ps : List (Nat × List Nat)} : h.get? a = some (tup2 (.str (one (48 + n)) t) (.str (txt ls) u)) → HS h vs ps → HS h (.ref a :: vs) ((n, ls) :: ps)
theorem SIn.mono {tl tl' : List (Addr × Obj)} (hs : ∀ p ∈ tl, p ∈ tl') : ∀ {vs ps}, SIn tl vs ps → SIn tl' vs ps
  | _, _, .nil => .nil
  | _, _, .cons h r => .cons (hs _ h) (r.mono hs)
theorem SIn.heap {tl : List (Addr × Obj)} {h : Heap} (hs : ∀ p ∈ tl, h.get? p.1 = some p.2) : ∀ {vs ps}, SIn tl vs ps → HS h vs ps
  | _, _, .nil => .nil
  | _, _, .cons h r => .cons (hs _ h) (r.heap hs)
theorem HS.keeps {h h' : Heap} (hk : ∀ b o, h.get? b = some o → h'.get? b = some o) : ∀ {vs ps}, HS h vs ps → HS h' vs ps
  | _, _, .nil => .nil
  | _, _, .cons e r => .cons (hk _ _ e) (r.keeps hk)
theorem SIn.append {tl : List (Addr × Obj)} {vs' ps'} (k : SIn tl vs' ps') : ∀ {vs ps}, SIn tl vs ps → SIn tl (vs ++ vs') (ps ++ ps')
  | _, _, .nil => k
  | _, _, .cons h r => .cons h (SIn.append k r)
theorem SIn.length {tl : List (Addr × Obj)} : ∀ {vs ps}, SIn tl vs ps → vs.length = ps.length
  | _, _, .nil => rfl
  | _, _, .cons _ r => by simp [r.length]
theorem HS.length {h : Heap} : ∀ {vs ps}, HS h vs ps → vs.length = ps.length
  | _, _, .nil => rfl
  | _, _, .cons _ r => by simp [r.length]
theorem HS.get {h : Heap} : ∀ {vs ps} {i : Nat} {n : Nat} {ls : List Nat}, HS h vs ps → ps[i]? = some (n, ls) → ∃ a t u, vs[i]? = some (.ref a) ∧ h.get? a = some (tup2 (.str (one (48 + n)) t) (.str (txt ls) u))
  | _, _, 0, _, _, .cons e _, hx => by simp at hx; obtain ⟨rfl, rfl⟩ := hx; exact ⟨_, _, _, rfl, e⟩
  | _, _, i + 1, _, _, .cons _ r, hx => by simp at hx; obtain ⟨a, t, u, q, e⟩ := r.get hx; exact ⟨a, t, u, by simpa using q, e⟩

section
variable {prog : Program} {w : World} {A : Around} {env : Env}
theorem iter_tups {s : Shared} {l : Addr} {vs : List Value} {n : Nat} {Pt : Nat → Array Value → Prop} {Q : Value → Shared → Prop} {E : Value → Shared → Prop} (hh : A.handled = none)
    (hl : s.heap.IsList l vs.toArray) (hn : vs.length = n) (key0 : ∀ j, j < n → ∃ a x y, vs[j]? = some (.ref a) ∧ s.heap.get? a = some (tup2 x y) ∧ Pt j #[x, y])
    (h : ∀ (I : Addr) (o : Obj) (fp : List Addr) (St : Nat → Heap → Prop) (Mid : Nat → Addr → Heap → Prop), I = s.heap.objs.size → WalksU prog w A I fp [I] n Pt St Mid → NewIt fp [I] St s.heap (s.heap.push o) → Q (.ref I) { s with heap := s.heap.push o }) :
    wpAny (model prog w) A (pyIter (.ref l)) Q E s := by
  refine wpAny_pyIter_list hl ?_
  let Ts : Nat → Addr := fun j => match vs[j]? with | some (.ref a) => a | _ => 0
  let vals : Nat → Array Value := fun j => match s.heap.get? (Ts j) with | some ⟨_, _, .seq xs _, _⟩ => xs | _ => #[]
  have key : ∀ j, j < n → ∃ a x y, vs[j]? = some (.ref a) ∧ Ts j = a ∧ vals j = #[x, y] ∧ s.heap.get? a = some (tup2 x y) ∧ Pt j #[x, y] := fun j hj => by
    have hz1 := key0 j hj
    (refine ex3 hz1 fun a x y hz3 => ?_; refine and3 hz3 fun q e hp => ?_; clear hz3)
    try clear hz1
    have hT : Ts j = a := by simp only [Ts, q]
    refine ⟨a, x, y, q, hT, ?_, e, hp⟩
    simp only [vals, hT, e]
  have hsz : vs.toArray.size = n := by simp [hn]
  have lt : ∀ j, j < n → Ts j < s.heap.objs.size := fun j hj => by
    have hz6 := key j hj
    (refine ex3 hz6 fun a x y hz7 => ?_; refine and5 hz7 fun _ hT _ e _ => ?_; clear hz7)
    try clear hz6
    rw [hT]; exact Heap.lt_size e
  have W := WalksU.listOfTuples (prog := prog) (w := w) hh s.heap.objs.size l (Nat.ne_of_lt (by obtain ⟨o, e, _⟩ := hl; exact Heap.lt_size e)) vs.toArray Ts vals
    (fun j hj => by rw [hsz] at hj; obtain ⟨a, x, y, q, hT, _⟩ := key j hj; rw [hT]; simpa using q) (fun j hj => Nat.ne_of_lt (lt j (hsz ▸ hj)))
  rw [hsz] at W
  have W' := W.bound
  refine h _ _ _ _ _ rfl { W' with item := fun i s Q E hi st hQ => W'.item i s Q E hi st fun T vl h' tk hP hT hm hk => hQ T vl h' tk ?_ hT hm hk } (NewIt.one ⟨⟨_, Heap.get?_push_size _ rfl, rfl, rfl⟩, hl.push _, fun k hk => ?_⟩ (fun b hb => ?_) ?_ fun i h st => by obtain ⟨o, e, _⟩ := st.1; exact ⟨o, e⟩)
  · (refine and2 hP fun _ hz13 => ?_)
    try clear hP
    obtain rfl := hz13
    have hz14 := key i hi
    (refine ex3 hz14 fun a x y hz18 => ?_; refine and5 hz18 fun q1 _ q3 _ q5 => ?_; clear hz18)
    try clear hz14
    rw [q3]; exact q5
  · have hz21 := key k hk
    (refine ex3 hz21 fun a x y hz22 => ?_; refine and5 hz22 fun _ hT hv e _ => ?_; clear hz22)
    try clear hz21
    rw [hT, hv]
    exact ⟨_, Heap.get?_push_of_some _ e, rfl, _, rfl⟩
  · rcases List.mem_cons.mp hb with e | hb
    · exact .inl e
    · rcases List.mem_cons.mp hb with e | hb
      · obtain ⟨o, q, _, n, hd⟩ := hl; exact .inr ⟨o, _, _, e ▸ q, hd⟩
      · have hz28 := List.mem_map.mp hb
        (refine ex1 hz28 fun k hz29 => ?_; refine and2 hz29 fun hk e => ?_; clear hz29)
        try clear hz28
        have hz30 := key k (List.mem_range.mp hk)
        (refine ex3 hz30 fun a x y hz31 => ?_; refine and5 hz31 fun _ hT _ q _ => ?_; clear hz31)
        try clear hz30
        exact .inr ⟨_, _, _, e ▸ hT ▸ q, rfl⟩
  · exact List.mem_cons_self
abbrev SPt (ps : List (Nat × List Nat)) : Nat → Array Value → Prop := fun i vals => ∃ n ls t u, ps[i]? = some (n, ls) ∧ vals = #[.str (one (48 + n)) t, .str (txt ls) u]
theorem spt2 {ps : List (Nat × List Nat)} : ∀ i vals, SPt ps i vals → ∃ v0 v1, vals = #[v0, v1] := fun _ _ ⟨_, _, _, _, _, e⟩ => ⟨_, _, e⟩
theorem spt_val {ps : List (Nat × List Nat)} {i : Nat} {v0 v1 : Value} (h : SPt ps i #[v0, v1]) : ∃ n ls t u, ps[i]? = some (n, ls) ∧ v0 = .str (one (48 + n)) t ∧ v1 = .str (txt ls) u := by
  (refine ex4 h fun x y t u hz38 => ?_; refine and2 hz38 fun hz37 e => ?_; clear hz38)
  try clear h
  have h := hz37
  clear hz37
  have hz42 := pair_eq e
  (refine and2 hz42 fun a b => ?_)
  try clear hz42
  exact ⟨x, y, t, u, h, a, b⟩
theorem iter_rows {s : Shared} {l : Addr} {vs : List Value} {ps : List (Nat × List Nat)} {Q : Value → Shared → Prop} {E : Value → Shared → Prop} (hh : A.handled = none)
    (hl : s.heap.IsList l vs.toArray) (hp : HS s.heap vs ps)
    (h : ∀ (I : Addr) (o : Obj) (fp : List Addr) (St : Nat → Heap → Prop) (Mid : Nat → Addr → Heap → Prop), I = s.heap.objs.size → WalksU prog w A I fp [I] ps.length (SPt ps) St Mid → NewIt fp [I] St s.heap (s.heap.push o) → Q (.ref I) { s with heap := s.heap.push o }) :
    wpAny (model prog w) A (pyIter (.ref l)) Q E s :=
  iter_tups hh hl hp.length (fun j hj => by
    have hz43 := hp.get (i := j) (n := ps[j].1) (ls := ps[j].2) (by simp [hj])
    (refine ex3 hz43 fun a t u hz44 => ?_; refine and2 hz44 fun q e => ?_; clear hz44)
    try clear hz43
    exact ⟨a, _, _, q, e, _, _, t, u, by simp [hj], rfl⟩) h
end
/-- a header in a ledger -/
abbrev hdr (w : World) (x d l : Addr) (u : Tok) (ts : List Value) (k : Nat) : List (Addr × Obj) :=
  [(x, instObj 241 d), (d, dictOf [{ hash := PyData.keyHash w.params (PySem.Str.ofString "_headers"), key := .str (PySem.Str.ofString "_headers") u, val := .ref l }] 1), (l, listO ts k)]
/-- a callee's frame over the older heap of its caller's ledger -/
theorem into_fr {g h h' : Heap} {m : PySem.Str → Option Value} (hk : ∀ b o, g.get? b = some o → h.get? b = some o) (hs : g.objs.size ≤ h.objs.size) (F : Fr h h.objs.size h' m) : Fr g h.objs.size h' m :=
  ⟨F.ns, fun b o e => F.keep b o (hk b o e), hs⟩
theorem into_news {g h h' : Heap} {m : PySem.Str → Option Value} {own : List (Addr × Obj)} (ho : ∀ p ∈ own, h.get? p.1 = some p.2 ∧ g.get? p.1 = none) (F : Fr h h.objs.size h' m) : News g h.objs.size h' own :=
  fun p hp => ⟨F.keep _ _ (ho p hp).1, Nat.ne_of_lt (Heap.lt_size (ho p hp).1), (ho p hp).2⟩
theorem below_keeps {A : Around} {base g h : Heap} {outer : List Env} (B : Below A base outer g) (hk : ∀ b o, g.get? b = some o → h.get? b = some o) : Below A base outer h :=
  ⟨B.stack, fun b o e => hk b o (B.stays b o e), B.frames.of_keeps fun b o e _ => ⟨o, hk b o e, rfl⟩⟩
theorem hide_up {g h : Heap} {as : List Addr} (hk : ∀ b o, g.get? b = some o → h.get? b = some o) (ha : ∀ a ∈ as, g.get? a = none) : ∀ b o, g.get? b = some o → (hideAll h as).get? b = some o :=
  fun b o e => hideAll_get as (hk b o e) fun hm => by rw [ha b hm] at e; cases e
theorem hide_fr {h h' : Heap} {as : List Addr} {m : PySem.Str → Option Value} (F : Fr h h.objs.size h' m) : Fr (hideAll h as) h.objs.size h' m :=
  into_fr (fun b o e => of_hideAll as e) (Nat.le_of_eq (hideAll_size as h)) F
theorem hide_news {h h' : Heap} {own : List (Addr × Obj)} {m : PySem.Str → Option Value} (ho : ∀ p ∈ own, h.get? p.1 = some p.2) (F : Fr h h.objs.size h' m) : News (hideAll h (own.map (·.1))) h.objs.size h' own :=
  into_news (fun p hp => ⟨ho p hp, hideAll_none _ (List.mem_map_of_mem hp)⟩) F
/-- back over the whole heap: what was hidden still lies there -/
theorem back_fr {h h' : Heap} {L : Addr} {own news : List (Addr × Obj)} {m : PySem.Str → Option Value} (ho : ∀ p ∈ own, h.get? p.1 = some p.2) (hs : ∀ p ∈ own, p ∈ news) (F : Fr (hideAll h (own.map (·.1))) L h' m) (N : News (hideAll h (own.map (·.1))) L h' news) (hL : h.objs.size ≤ L) : Fr h L h' m :=
  ⟨F.ns, fun b o e => by
    by_cases hb : b ∈ own.map (·.1)
    · have hz47 := List.mem_map.mp hb
      (refine ex1 hz47 fun p hz49 => ?_; refine and2 hz49 fun hp hz48 => ?_; clear hz49)
      try clear hz47
      obtain rfl := hz48
      rw [ho p hp] at e
      exact Option.some.inj e ▸ (N p (hs p hp)).1
    · exact F.keep b o (hideAll_get _ e hb), hL⟩
theorem hs_hide {h : Heap} {own : List (Addr × Obj)} (hnt : ∀ p ∈ own, p.2.cls ≠ .type "tuple") (ho : ∀ p ∈ own, h.get? p.1 = some p.2) : ∀ {vs ps}, HS h vs ps → HS (hideAll h (own.map (·.1))) vs ps
  | _, _, .nil => .nil
  | _, _, .cons e r => .cons (hideAll_get _ e fun hm => by
      have hz50 := List.mem_map.mp hm
      (refine ex1 hz50 fun p hz51 => ?_; refine and2 hz51 fun hp q => ?_; clear hz51)
      try clear hz50
      have := ho p hp
      rw [q, e] at this
      exact hnt p hp (Option.some.inj this ▸ rfl)) (hs_hide hnt ho r)
theorem find_none {rows : List (Nat × List Nat)} {c : Nat} (h : ∀ j r, j < rows.length → rows[j]? = some r → r.1 ≠ c) : rows.find? (·.1 == c) = none := by
  rw [List.find?_eq_none]
  intro r hr
  have hz52 := List.getElem_of_mem hr
  (rcases hz52 with ⟨j, hj, e⟩)
  try clear hz52
  have := h j r hj (by rw [List.getElem?_eq_getElem hj, e])
  simpa using this
theorem find_at {c n : Nat} {ls : List Nat} (e : n = c) : ∀ {rows : List (Nat × List Nat)} {i : Nat}, (∀ j r, j < i → rows[j]? = some r → r.1 ≠ c) → rows[i]? = some (n, ls) → rows.find? (·.1 == c) = some (n, ls)
  | [], i, _, h => by simp at h
  | r :: rows, 0, _, h => by
    simp at h
    rw [h, List.find?_cons, show ((n, ls).1 == c) = true from by simpa using e]
  | r :: rows, i + 1, hj, h => by
    have h0 := hj 0 r (Nat.succ_pos i) rfl
    rw [List.find?_cons, show (r.1 == c) = false from by simpa using h0]
    exact find_at (i := i) e (fun j r' hj' hr' => hj (j + 1) r' (Nat.succ_lt_succ hj') (by simpa using hr')) (by simpa using h)
end Mine
namespace Mine
theorem fr_hide {G h : Heap} {L : Addr} {as : List Addr} {m : PySem.Str → Option Value} (F : Fr G L h m) (hg : ∀ a ∈ as, G.get? a = none) (hL : L ∉ as) : Fr G L (hideAll h as) m :=
  ⟨by
    have hz54 := F.ns
    (refine ex3 hz54 fun o es ep hz56 => ?_; refine and3 hz56 fun e hd r => ?_; clear hz56)
    try clear hz54
    exact ⟨o, es, ep, hideAll_get _ e hL, hd, r⟩, hide_up F.keep hg, F.above⟩
/-- what a callee is given whose caller holds some objects in its ledger -/
theorem below_hide {A : Around} {base G h : Heap} {outer : List Env} {L a : Addr} {as : List Addr} {m : PySem.Str → Option Value} {name : PySem.Str} {scope : Scope} {cd : Value} (B : Below A base outer G) (F : Fr G L h m) (hg : ∀ a ∈ as, G.get? a = none) (hL : L ∉ as) (hk : scope.kind = .function) :
    Below (A.deeper (envOf name scope L a cd)) base (envOf name scope L a cd :: outer) (hideAll h as) := B.push (fr_hide F hg hL) hk
noncomputable def Got (rows : List (Nat × List Nat)) (c : Nat) (v : Value) : Prop := match rows.find? (·.1 == c) with | some r => ∃ t', v = .str (txt r.2) t' | none => v = .none
end Mine
namespace Mine
section
variable {M : Model} {A : Around} {env : Env} {s : Shared}
end
end Mine

end
section
open PySem PySem.W PySem.Calls PyProof.Rows
set_option Elab.async false
set_option maxRecDepth 100000
namespace Mine
section
variable {prog : Program} {w : World} {A : Around} {E Q : Value → Shared → Prop} {s : Shared} {h₀ : Heap} {L l : Addr} {m : PySem.Str → Option Value} {news : List (Addr × Obj)} {ts : List Value} {k : Nat} {value slice : Expr}
theorem copy_list (F : Fr h₀ L s.heap m) (N : News h₀ L s.heap news) (hm : (l, listO ts k) ∈ news) (hz : ts.length ≤ sizeLine)
    (h : ∀ D h', Fr h₀ L h' m → News h₀ L h' ((D, listO ts 0) :: news) → (∀ p ∈ news, p.1 < D) → Q (.ref D) { s with heap := h' })
    (hs : subscripted slice false (.ref l) (.ref s.heap.objs.size) = operate [.ref s.heap.objs.size, .ref l] (getItem (.ref l) (.ref s.heap.objs.size)) := by with_unfolding_all rfl) (ht : ∀ r, letTemporaryGo value (.ref l) r = pure () := by intro _; with_unfolding_all rfl) :
    wpAny (model prog w) A (subscriptTail value slice (.ref l) (.ref s.heap.objs.size)) Q E { s with heap := s.heap.push { cls := .type "slice", data := .fields #[.none, .none, .none] } } := by
  refine kms_slice_lit (its := ts.toArray) (zs := ts) F N ⟨_, (N _ hm).1, rfl, k, rfl⟩ (by kmk_part) (by kmk_part) ?_ h hs ht (by rw [List.size_toArray]; exact hz)
  simp [kms_pick, kms_lo, kms_hi]
theorem idx_list {v : Value} {i : Nat} {u : Tok} (N : News h₀ L s.heap news) (hm : (l, listO ts k) ∈ news) (hi : ts[i]? = some v) (hz : i < 2 ^ 60) (h : Q v s)
    (hs : subscripted slice false (.ref l) (.int i u) = operate [.ref l, .int i u] (getItem (.ref l) (.int i u)) := by with_unfolding_all rfl) :
    wpAny (model prog w) A (subscriptTail value slice (.ref l) (.int i u)) Q E s := by
  have hl : s.heap.IsList l ts.toArray := ⟨_, (N _ hm).1, rfl, k, rfl⟩
  refine tail_any hl.typeIs slot_list_getitem.lookup (wpAny_getItem_list hl (Int.natCast_nonneg i) (lt_pow 63 (Nat.lt_of_lt_of_le hz (by decide))) ?_ h) hs
  simpa using hi
end
theorem call_int1 {prog : Program} {w : World} {A : Around} {E Q : Value → Shared → Prop} {s : Shared} {n : Nat} {t : Tok} (hn : n < 8) (h : ∀ t', Q (.int n t') { s with toks := s.toks + 1 }) :
    wpAny (model prog w) A (call (.type "int") [.str (one (48 + n)) t]) Q E s := by
  refine KIN.call_text (n := (n : Int)) ?_ (Nat.le_of_ble_eq_true rfl) (h _)
  have tab : ∀ n < 8, PySem.intText? (one (48 + n)) = some ((n : Nat) : Int) := by decide +kernel
  exact tab n hn
theorem call_str1 {prog : Program} {w : World} {A : Around} {E Q : Value → Shared → Prop} {s : Shared} {n : Nat} {t : Tok} (hn : n < 8) (h : ∀ t', Q (.str (one (48 + n)) t') { s with toks := s.toks + 1 }) :
    wpAny (model prog w) A (call (.type "str") [.int n t]) Q E s := by
  have tab : ∀ n < 8, (PySem.Str.ofString (toString ((n : Nat) : Int))) = one (48 + n) := by decide +kernel
  have tb2 : ∀ n < 8, (((n : Nat) : Int)).natAbs.log2 < 1920 := by decide +kernel
  refine P.str_of_int (tb2 n hn) ?_
  have := h s.toks
  rw [← tab n hn] at this
  exact this
end Mine
namespace Mine
theorem len_list {prog : Program} {w : World} {A : Around} {E Q : Value → Shared → Prop} {s : Shared} {h₀ : Heap} {L l : Addr} {news : List (Addr × Obj)} {ts : List Value} {k : Nat} (N : News h₀ L s.heap news) (hm : (l, listO ts k) ∈ news) (hz : ts.length ≤ sizeLine)
    (h : ∀ t k', Q (.int (ts.length : Nat) t) { s with toks := k' }) : wpAny (model prog w) A (call (.builtin "len") [.ref l]) Q E s := by
  have hl : s.heap.IsList l ts.toArray := ⟨_, (N _ hm).1, rfl, k, rfl⟩
  refine Calls.call_len_list hl ?_ ?_
  · rw [List.size_toArray]; rw [sizeLine_eq] at hz; exact Int.lt_of_le_of_lt (Int.ofNat_le.mpr hz) (by decide)
  · have := h (s.toks + 1) (s.toks + 1 + 1)
    rw [List.size_toArray]; exact this
theorem len_list_of {prog : Program} {w : World} {A : Around} {E Q : Value → Shared → Prop} {s : Shared} {h₀ : Heap} {L l : Addr} {news : List (Addr × Obj)} {ts : List Value} {k n : Nat} (N : News h₀ L s.heap news) (hm : (l, listO ts k) ∈ news) (hz : ts.length ≤ sizeLine) (e : ts.length = n)
    (h : ∀ t k', Q (.int (n : Nat) t) { s with toks := k' }) : wpAny (model prog w) A (call (.builtin "len") [.ref l]) Q E s :=
  len_list N hm hz (e ▸ h)
theorem ite_tt {P Q : Prop} [i : Decidable (true = true)] (h : P) : if true = true then P else Q := by rw [if_pos rfl]; exact h
theorem ite_no {b : Bool} {P Q : Prop} [i : Decidable (b = true)] (hb : b = false) (h : Q) : if b = true then P else Q := by rw [if_neg (by rw [hb]; exact Bool.false_ne_true)]; exact h
theorem SIn.get {tl : List (Addr × Obj)} : ∀ {vs ps} {i : Nat}, SIn tl vs ps → i < ps.length → ∃ n ls a t u, ps[i]? = some (n, ls) ∧ vs[i]? = some (.ref a) ∧ (a, tup2 (.str (one (48 + n)) t) (.str (txt ls) u)) ∈ tl
  | _, _, 0, .cons e _, _ => ⟨_, _, _, _, _, rfl, rfl, e⟩
  | _, _, i + 1, .cons _ r, hx => by
    have hz1 := r.get (i := i) (by simpa using hx)
    (refine ex5 hz1 fun n ls a t u hz3 => ?_; refine and3 hz3 fun q q2 e => ?_; clear hz3)
    try clear hz1
    exact ⟨n, ls, a, t, u, by simpa using q, by simpa using q2, e⟩
end Mine
namespace Mine
theorem xor_nat {n c : Nat} (hn : n < 8) (hc : c < 8) : Builtin.bitXor (n : Int) (c : Int) = ((n ^^^ c : Nat) : Int) := by
  have tab : ∀ n < 8, ∀ c < 8, Builtin.bitXor ((n : Nat) : Int) ((c : Nat) : Int) = ((n ^^^ c : Nat) : Int) := by decide +kernel
  exact tab n hn c hc
theorem call_strx {prog : Program} {w : World} {A : Around} {E Q : Value → Shared → Prop} {s : Shared} {n c : Nat} {t : Tok} (hn : n < 8) (hc : c < 8) (h : ∀ t', Q (.str (one (48 + (n ^^^ c))) t') { s with toks := s.toks + 1 }) :
    wpAny (model prog w) A (call (.type "str") [.int (Builtin.bitXor (n : Int) (c : Int)) t]) Q E s := by
  rw [xor_nat hn hc]
  exact call_str1 (Nat.xor_lt_two_pow (n := 3) hn hc) h
theorem abc_at {i c : Nat} (hi : i < 7) (h : (PySem.Str.ofString "abcdefg").cps[i]? = some c) : c = 97 + i := by
  have tab : ∀ i < 7, (PySem.Str.ofString "abcdefg").cps[i]? = some (97 + i) := by decide +kernel
  rw [tab i hi] at h
  exact (Option.some.inj h).symm
end Mine
namespace Mine
theorem add_txt {prog : Program} {w : World} {A : Around} {E Q : Value → Shared → Prop} {s : Shared} {a b : List Nat} {t u : Tok} (hz : a.length + b.length ≤ 1000000) (h : ∀ t' k, Q (.str (txt (a ++ b)) t') { s with toks := k }) :
    wpAny (model prog w) A (binaryOp .Add (.str (txt a) t) (.str (txt b) u)) Q E s := by
  refine add_str (fun t' k => ?_) ?_
  · have e : txt a ++ txt b = txt (a ++ b) := by
      show (⟨a.toArray ++ b.toArray⟩ : PySem.Str) = _
      rw [List.append_toArray]
    rw [e]; exact h t' k
  · show a.toArray.size + b.toArray.size ≤ _
    rw [List.size_toArray, List.size_toArray, sizeLine_eq]; lia
theorem add_txt1 {prog : Program} {w : World} {A : Around} {E Q : Value → Shared → Prop} {s : Shared} {a : List Nat} {c : Nat} {t u : Tok} (hz : a.length < 1000000) (h : ∀ t' k, Q (.str (txt (a ++ [c])) t') { s with toks := k }) :
    wpAny (model prog w) A (binaryOp .Add (.str (txt a) t) (.str (one c) u)) Q E s := add_txt (b := [c]) (by simp; lia) h
end Mine

end
section
open PySem PySem.W PySem.Calls PyProof.Rows
set_option Elab.async false
set_option maxRecDepth 100000
namespace Mine
section
variable {M : Model} {A : Around} {R : GenEnd} {Y : Protocol} {n : Nat} {s₀ : Shared} {c : Code} {fs : List Frame} {s : Shared} {env : Env}
  {K : Flow → Sem Fin} {H : Value → Sem Fin} {gd : Bool → Bool} {lv : List Value → List Value}
abbrev ownRet (env : Env) (K : Flow → Sem Fin) (H : Value → Sem Fin) (gd : Bool → Bool) (lv : List Value → List Value) (c : Code) (p : Pos) : Frame :=
  .ret (fun r => ((match r with | .ok f => (.pure f : Sem Flow) | .error e => .raise e).onRaise fun (x : Value) => do
        if (← field x 1) == Value.none then unsupported "frame.own-activation:exception-without-traceback"
        setFlight x env.frame).wrap K H gd lv) none (gd false) (lv []) c p []
theorem seg_For {target iter : Expr} {body orelse : List Stmt} {pos : Pos}
    (h : wpAny M (A.over c fs) (eval iter env) (fun x s₁ => wpAny M (A.over c fs) (pyIter x) (fun it s₂ =>
        ∀ p, Seg M A R Y n s₀ (.forLoop target it body orelse env) (M.den (.forLoop target it body orelse env)) (ownRet env K H gd lv c p :: fs) s₂)
        (fun x s' => Seg M A R Y n s₀ c (H x) fs s') s₁) (fun x s' => Seg M A R Y n s₀ c (H x) fs s') s)
    (hs : ∀ x, foldedSetIterable iter env x = pure x := by intro _; rfl) :
    Seg M A R Y n s₀ c ((exec (.For target iter body orelse pos) env).wrap K H gd lv) fs s := by
  rw [exec_For]
  refine seg_at ?_
  show Seg M A R Y n s₀ c ((eval iter env >>= fun v => (do let x ← foldedSetIterable iter env v; standAt iter.pos; let it ← holding [x] (pyIter x); runOwn (.forLoop target it body orelse env) env)).wrap K H gd lv) fs s
  rw [Sem.bind_eq_wrap', Sem.wrap_wrap]
  refine seg_wrap (wpAny_mono h (fun x s₁ h₁ => ?_) fun _ _ x => x)
  rw [hs x]
  refine seg_at ?_
  show Seg M A R Y n s₀ c ((holding [x] (pyIter x) >>= fun it => runOwn (.forLoop target it body orelse env) env).wrap K H gd lv) fs s₁
  rw [Sem.bind_eq_wrap', Sem.wrap_wrap]
  refine seg_wrap (wpAny_holding (wpAny_mono h₁ (fun it s₂ h₂ => ?_) fun _ _ x => x))
  exact seg_call h₂
end
section
variable {prog : Program} {w : World} {A : Around} {R : GenEnd} {Y : Protocol} {n : Nat} {s₀ : Shared} {fs : List Frame} {s : Shared} {env : Env} {it : Value}
theorem seg_forLoop {target : Expr} {body orelse : List Stmt}
    (h : wpAny (model prog w) (A.over (.forLoop target it body orelse env) fs) (pyNext it) (fun r s₁ => match r with
      | none => Seg (model prog w) A R Y n s₀ (.forLoop target it body orelse env) (.pure (.again (.block orelse env))) fs s₁
      | some v => wpAny (model prog w) (A.over (.forLoop target it body orelse env) fs) (letOwnedTupleGo target it v) (fun _ s₂ => wpAny (model prog w) (A.over (.forLoop target it body orelse env) fs) (assign target env v) (fun _ s₃ =>
          Seg (model prog w) A R Y n s₀ (.forLoop target it body orelse env) ((execs body env).wrap (fun f => match f with
            | .next | .cont => .pure (.again (.forLoop target it body orelse env))
            | .brk => .pure (.done .next)
            | .ret v => .pure (.done (.ret v))) (fun e => (do noteFrame e env; theTreesLotGoes e : Sem Unit).wrap (fun _ => .raise e) .raise id id) id id) fs s₃) (fun _ _ => False) s₂) (fun _ _ => False) s₁)
      (fun _ _ => False) s) :
    Seg (model prog w) A R Y n s₀ (.forLoop target it body orelse env) ((model prog w).den (.forLoop target it body orelse env)) fs s := by
  show Seg _ A R Y n s₀ _ ((forTurn target it body orelse env).onRaise (fun x => do noteFrame x env; theTreesLotGoes x)) fs s
  unfold forTurn
  rw [Sem.onRaise_eq_wrap, Sem.bind_eq_wrap', Sem.wrap_wrap]
  refine seg_wrap (wpAny_standAt ?_)
  rw [Sem.bind_eq_wrap', Sem.wrap_wrap]
  refine seg_wrap (wpAny_onRaise (wpAny_mono h (fun r s₁ h₁ => ?_) fun _ _ x => x.elim))
  cases r with
  | none => exact h₁
  | some v =>
    dsimp only at h₁ ⊢
    rw [Sem.bind_eq_wrap', Sem.wrap_wrap]
    refine seg_wrap (wpAny_mono h₁ (fun _ s₂ h₂ => ?_) fun _ _ x => x.elim)
    rw [Sem.bind_eq_wrap', Sem.wrap_wrap]
    refine seg_wrap (wpAny_mono h₂ (fun _ s₃ h₃ => ?_) fun _ _ x => x.elim)
    rw [Sem.bind_eq_wrap', Sem.wrap_wrap]
    rw [Sem.wrap_congr (execs body env) _ _ (K' := fun f => match f with
            | .next | .cont => .pure (.again (.forLoop target it body orelse env))
            | .brk => .pure (.done .next)
            | .ret v => .pure (.done (.ret v))) (H' := (fun e => (do noteFrame e env; theTreesLotGoes e : Sem Unit).wrap (fun _ => .raise e) .raise id id))
        (fun f => by cases f <;> rfl)
        (fun e => by first | exact Sem.bind_eq_wrap _ _ | (show (do noteFrame e env; theTreesLotGoes e : Sem Unit).bind (fun _ => .raise e) = _; rw [Sem.bind_eq_wrap]))]
    exact h₃
theorem seg_If {c : Code} {K : Flow → Sem Fin} {H : Value → Sem Fin} {gd : Bool → Bool} {lv : List Value → List Value} {M : Model} {test : Expr} {body orelse : List Stmt} {pos : Pos}
    (h : wpAny M (A.over c fs) (isTrue test env (eval test env)) (fun b s' => if b = true then Seg M A R Y n s₀ c ((execs body env).wrap K H gd lv) fs s' else Seg M A R Y n s₀ c ((execs orelse env).wrap K H gd lv) fs s') (fun x s' => Seg M A R Y n s₀ c (H x) fs s') s) :
    Seg M A R Y n s₀ c ((exec (.If test body orelse pos) env).wrap K H gd lv) fs s := by
  show Seg M A R Y n s₀ c ((standAt pos >>= fun _ => (isTrue test env (eval test env) >>= fun b => if b = true then execs body env else execs orelse env)).wrap K H gd lv) fs s
  rw [Sem.bind_eq_wrap', Sem.wrap_wrap]
  refine seg_wrap (wpAny_standAt ?_)
  rw [Sem.bind_eq_wrap', Sem.wrap_wrap]
  refine seg_wrap (wpAny_mono h (fun b s' hb => ?_) fun _ _ x => x)
  cases b with
  | true => rw [if_pos rfl] at hb ⊢; exact hb
  | false => rw [if_neg Bool.false_ne_true] at hb ⊢; exact hb
end
end Mine

end
section
open PySem PySem.W PySem.Calls PyProof.Rows
set_option Elab.async false
set_option maxRecDepth 100000
namespace Mine
/-- one step of an iterator that is a generator, its value bound to the target -/
structure TkG (prog : Program) (w : World) (A : Around) (it : Value) (target : Expr) (env : Env) (h₀ : Heap) (wr md fp : List Addr) (n : Nat)
    (Bd : Nat → (PySem.Str → Option Value) → (PySem.Str → Option Value) → Heap → Prop) (St : Nat → Heap → Array GenState → Prop) (Dn : Array GenState → Prop) : Prop where
  frame : ∀ i h h' g, St (i + 1) h g → (∀ b o, h₀.get? b = some o → h'.get? b = some o) → (∀ b ∈ fp, ∀ o, h.get? b = some o → h'.get? b = some o) → St (i + 1) h' g
  item : ∀ i (s : Shared) m (Q : Unit → Shared → Prop), i < n → St i s.heap s.gens → s.heap.Ns env.locals m →
    (∀ h' g' tk m', Bd i m m' h' → St (i + 1) h' g' → h'.Ns env.locals m' → (∀ b o, b ∉ md → s.heap.get? b = some o → h'.get? b = some o) → Q () { s with heap := h', gens := g', toks := tk }) →
    wpAny (model prog w) A (pyNext it) (fun r s₁ => ∃ v, r = some v ∧ wpAny (model prog w) A (letOwnedTupleGo target it v) (fun _ s₂ => wpAny (model prog w) A (assign target env v) Q (fun _ _ => False) s₂) (fun _ _ => False) s₁) (fun _ _ => False) s
  done : ∀ (s : Shared) (Q : Option Value → Shared → Prop), St n s.heap s.gens →
    (∀ h' g' tk, Dn g' → (∀ b o, b ∉ wr → s.heap.get? b = some o → h'.get? b = some o) → Q none { s with heap := h', gens := g', toks := tk }) → wpAny (model prog w) A (pyNext it) Q (fun _ _ => False) s
section
variable {prog : Program} {w : World} {A : Around} {env : Env}
theorem for_coreG {target : Expr} {body : List Stmt} {it : Value} {wr md fp : List Addr} {n : Nat} {Bd : Nat → (PySem.Str → Option Value) → (PySem.Str → Option Value) → Heap → Prop} {St : Nat → Heap → Array GenState → Prop}
    {Dn : Array GenState → Prop} {R : Result → Shared → Prop} {s : Shared} {h₀ : Heap} {m : PySem.Str → Option Value} {nx : List (Addr × Obj)} (J : Nat → (PySem.Str → Option Value) → List (Addr × Obj) → Prop)
    (T : TkG prog w A it target env h₀ wr md fp n Bd St Dn) (hwr : ∀ b ∈ wr, b ∈ md) (hLw : env.locals ∉ wr) (hLf : env.locals ∉ fp) (hmf : ∀ b ∈ md, b = env.locals ∨ b ∈ fp)
    (hlive : ∀ i h g, St (i + 1) h g → ∀ b ∈ md, b = env.locals ∨ ∃ o, h.get? b = some o) (hm0 : ∀ b ∈ md, h₀.get? b = none)
    (hst : St 0 s.heap s.gens) (F : Fr h₀ env.locals s.heap m) (N : News h₀ env.locals s.heap nx) (hn : ∀ p ∈ nx, p.1 ∉ md) (hJ : J 0 m nx)
    (turn : ∀ i m₁ m₂ nx h g tk own, i < n → J i m₁ nx → St (i + 1) h g → Bd i m₁ m₂ h → Fr h₀ env.locals h m₂ → News h₀ env.locals h (nx ++ own) → (∀ p ∈ nx, p.1 ∉ md) → (∀ b ∈ md, b = env.locals ∨ ∃ o, (b, o) ∈ own) → (∀ p ∈ own, p.1 ∈ fp) →
      wpAny (model prog w) A (execs body env) (FPost h₀ env.locals (fun g' => g' = g) nx own (J (i + 1)) R s) (fun _ _ => False) { s with heap := h, gens := g, toks := tk })
    (done : ∀ m₁ nx h g tk, J n m₁ nx → Dn g → Fr h₀ env.locals h m₁ → News h₀ env.locals h nx → (∀ p ∈ nx, p.1 ∉ md) → R (.ok .next) { s with heap := h, gens := g, toks := tk }) :
    codeAny (model prog w) A (.forLoop target it body [] env) R s := by
  refine codeAny_forLoop_any
    (fun k s' => ∃ h' g tk m' nx i, s' = { s with heap := h', gens := g, toks := tk } ∧ St i h' g ∧ Fr h₀ env.locals h' m' ∧ News h₀ env.locals h' nx ∧ (∀ p ∈ nx, p.1 ∉ md) ∧ J i m' nx ∧ i ≤ n ∧ k = n + 1 - i) ?_ (n + 1)
    ⟨s.heap, s.gens, s.toks, m, nx, 0, rfl, hst, F, N, hn, hJ, Nat.zero_le _, rfl⟩
  intro k s'
  intro hz1
  (refine ex6 hz1 fun H g tk m' nx i hz10 => ?_; refine and8 hz10 fun hz2 hst' F' N' hn' hJ' hi hz3 => ?_; clear hz10)
  try clear hz1
  obtain rfl := hz2
  obtain rfl := hz3
  by_cases hlt : i < n
  · refine wpAny_mono (T.item i { s with heap := H, gens := g, toks := tk } m' (fun _ s₂ => wpAny (model prog w) A (execs body env) (fun f s₃ => match f with
            | .next | .cont => ∃ m, m < n + 1 - i ∧ ∃ h' g tk m' nx i, s₃ = { s with heap := h', gens := g, toks := tk } ∧ St i h' g ∧ Fr h₀ env.locals h' m' ∧ News h₀ env.locals h' nx ∧ (∀ p ∈ nx, p.1 ∉ md) ∧ J i m' nx ∧ i ≤ n ∧ m = n + 1 - i
            | .brk => R (.ok .next) s₃
            | .ret v => R (.ok (.ret v)) s₃) (fun _ _ => False) s₂) hlt hst' F'.ns fun h₁ g₁ tk₁ m₁ hB hst₁ hn₁ hk₁ => ?_) (fun r s₁ hr => ?_) fun _ _ e => e.elim
    · have F₁ : Fr h₀ env.locals h₁ m₁ := ⟨hn₁, fun b o e => hk₁ b o (fun hb => by rw [hm0 b hb] at e; cases e) (F'.keep b o e), F'.above⟩
      have N₁ : News h₀ env.locals h₁ nx := fun p hp => ⟨hk₁ _ _ (hn' p hp) (N' p hp).1, (N' p hp).2⟩
      have N₂ : News h₀ env.locals h₁ (nx ++ ownOf h₀ fp h₁) := fun p hp => ((List.mem_append.mp hp).elim (fun h => N₁ p h) fun h => news_ownOf hLf p h)
      refine wpAny_mono (turn i m' m₁ nx h₁ g₁ tk₁ (ownOf h₀ fp h₁) hlt hJ' hst₁ hB F₁ N₂ hn' (fun b hb => ?_) ownOf_sub) (fun f s₃ h₃ => ?_) fun _ _ e => e
      · rcases hmf b hb with e | hf
        · exact .inl e
        · rcases hlive _ _ _ hst₁ b hb with e | ⟨o, e⟩
          · exact .inl e
          · exact .inr ⟨o, mem_ownOf hf (hm0 b hb) e⟩
      · have fin : FEnd h₀ env.locals (fun g' => g' = g₁) nx (ownOf h₀ fp h₁) (J (i + 1)) s s₃ → ∃ m, m < n + 1 - i ∧ ∃ h' g tk m' nx i, s₃ = { s with heap := h', gens := g, toks := tk } ∧ St i h' g ∧ Fr h₀ env.locals h' m' ∧ News h₀ env.locals h' nx ∧ (∀ p ∈ nx, p.1 ∉ md) ∧ J i m' nx ∧ i ≤ n ∧ m = n + 1 - i := by
          intro hz16
          (refine ex6 hz16 fun h' g' tk' m' nx' news' hz25 => ?_; refine and8 hz25 fun hz17 hz18 F₃ N₃ hs ho hne hj => ?_; clear hz25)
          try clear hz16
          obtain rfl := hz17
          obtain rfl := hz18
          refine ⟨n + 1 - (i + 1), sub_step (Nat.lt_succ_of_lt hlt), h', g', tk', m', nx', i + 1, rfl, ?_, F₃, fun p hp => N₃ p (hs p hp), fun p hp hm => ?_, hj, hlt, rfl⟩
          · refine T.frame _ _ _ _ hst₁ F₃.keep fun b hb o e => ?_
            cases hn : h₀.get? b with
            | some o₀ =>
              have : o₀ = o := by have q := F₁.keep b o₀ hn; rw [e] at q; exact (Option.some.inj q).symm
              exact this ▸ F₃.keep b o₀ hn
            | none => exact (N₃ _ (ho _ (mem_ownOf hb hn e))).1
          · rcases hne p hp with ⟨o, h⟩ | h
            · exact hn' _ h hm
            · rcases hmf _ hm with e | hf
              · exact (N₃ p (hs p hp)).2.1 e
              · rcases hlive _ _ _ hst₁ _ hm with e | ⟨o, e⟩
                · exact (N₃ p (hs p hp)).2.1 e
                · exact h _ (mem_ownOf hf (hm0 _ hm) e) rfl
        cases f with
        | ret v => exact h₃
        | brk => exact h₃
        | cont => exact fin h₃
        | next => exact fin h₃
    · (refine ex1 hr fun v hz32 => ?_; refine and2 hz32 fun hz31 hv => ?_; clear hz32)
      try clear hr
      obtain rfl := hz31
      refine wpAny_mono hv (fun _ s₂ h₂ => ?_) fun _ _ e => e.elim
      refine wpAny_mono h₂ (fun _ s₃ h₃ => ?_) fun _ _ e => e.elim
      exact wpAny_mono h₃ (fun f s₄ h₄ => by cases f <;> exact h₄) fun _ _ e => e.elim
  · have hin : i = n := Nat.le_antisymm (by assumption) (Nat.le_of_not_lt (by assumption))
    subst hin
    refine wpAny_mono (T.done { s with heap := H, gens := g, toks := tk } (fun r s₁ => r = none ∧ R (.ok .next) s₁) hst' fun h₁ g₁ tk₁ hd hk₁ => ⟨rfl, ?_⟩) (fun r s₁ hr => ?_) fun _ _ e => e.elim
    · refine done m' nx h₁ g₁ tk₁ hJ' hd ⟨F'.ns.at' fun o e => hk₁ _ o hLw e, fun b o e => hk₁ b o (fun hb => by rw [hm0 b (hwr b hb)] at e; cases e) (F'.keep b o e), F'.above⟩
        (fun p hp => ⟨hk₁ _ _ (fun hb => hn' p hp (hwr _ hb)) (N' p hp).1, (N' p hp).2⟩) hn'
    · (refine and2 hr fun hz33 hz34 => ?_)
      try clear hr
      obtain rfl := hz33
      have hr := hz34
      clear hz34
      exact wpAny_execs_nil hr
end
end Mine

end
section
open PySem PySem.W PySem.Calls PyProof.Rows
set_option Elab.async false
set_option maxRecDepth 100000
namespace Mine
/-- the state of an enumerate over an ascii text, its two objects at K and K + 1 -/
noncomputable def ESt (x : PySem.Str) (t : Tok) (k : Nat) : Nat → Heap → Prop := fun i h => (∃ old, IsEnum h (k + 1) k i old) ∧ h.IsStrIter k "str_ascii_iterator" x t i
noncomputable def EMid (x : PySem.Str) (t : Tok) (k : Nat) : Nat → Addr → Heap → Prop := fun i T h => (∃ y, IsEnumOut h (k + 1) k ((i : Int) + 1) y T) ∧ h.IsStrIter k "str_ascii_iterator" x t (i + 1) ∧ T ≠ k + 1 ∧ T ≠ k
section
variable {prog : Program} {w : World} {A : Around}
theorem enumW (hh : A.handled = none) (x : PySem.Str) (t : Tok) (k : Nat) : WalksU prog w A (k + 1) [k + 1, k] [k + 1, k] x.cps.size (EPt x) (ESt x t k) (EMid x t k) :=
  (WalksT.enumerateD (Draws.strAscii (A := A.in1) hh k x t) (k + 1) (Nat.succ_ne_self _) (by simp) (by simp)).toU
theorem enum_at {s : Shared} {x : PySem.Str} {t : Tok} {Q : Value → Shared → Prop} {E : Value → Shared → Prop} (ha : x.cps.all (· < 128) = true)
    (h : ∀ h₂, ESt x t s.heap.objs.size 0 h₂ → (∀ b o, s.heap.get? b = some o → h₂.get? b = some o) → Q (.ref (s.heap.objs.size + 1)) { s with heap := h₂ }) :
    wpAny (model prog w) A (call (.type "enumerate") [.str x t]) (fun xv s₁ => wpAny (model prog w) A (pyIter xv) Q E s₁) E s := by
  refine call_enumerate_str fun h' he hi hsz hk => wpAny_pyIter_enum he ?_
  have hty : strIterType x = "str_ascii_iterator" := by unfold strIterType; rw [if_pos ha]
  rw [hty] at hi
  exact h h' ⟨⟨_, he⟩, hi⟩ hk
end
section
variable {M : Model} {A : Around} {R : GenEnd} {Y : Protocol} {c : Code} {fs : List Frame} {t : Sem PySem.Fin} {N : Nat}
theorem seg_for_rec (I : Nat → Shared → Shared → Prop)
    (turn : ∀ i, i < N → (∀ s₀ s, I (i + 1) s₀ s → Seg M A R Y (N - (i + 1)) s₀ c t fs s) → ∀ s₀ s, I i s₀ s → Seg M A R Y (N - i) s₀ c t fs s)
    (done : ∀ s₀ s, I N s₀ s → Seg M A R Y 0 s₀ c t fs s) : ∀ j i, i + j = N → ∀ s₀ s, I i s₀ s → Seg M A R Y (N - i) s₀ c t fs s
  | 0, i, e, s₀, s, h => by
    obtain rfl : i = N := e
    rw [Nat.sub_self]; exact done s₀ s h
  | j + 1, i, e, s₀, s, h => turn i (sc_lt (Nat.le_of_eq e)) (fun s₀ s h => seg_for_rec I turn done j (i + 1) ((Nat.add_right_comm i 1 j).trans e) s₀ s h) s₀ s h
theorem seg_for_rec0 (I : Nat → Shared → Shared → Prop) {s₀ s : Shared} (h0 : I 0 s₀ s)
    (turn : ∀ i, i < N → (∀ s₀ s, I (i + 1) s₀ s → Seg M A R Y (N - (i + 1)) s₀ c t fs s) → ∀ s₀ s, I i s₀ s → Seg M A R Y (N - i) s₀ c t fs s)
    (done : ∀ s₀ s, I N s₀ s → Seg M A R Y 0 s₀ c t fs s) : Seg M A R Y N s₀ c t fs s := by
  have h := seg_for_rec I turn done N 0 (Nat.zero_add _) s₀ s h0
  rwa [Nat.sub_zero] at h
end
section
variable {prog : Program} {w : World} {A : Around} {R : GenEnd} {Y : Protocol} {n : Nat} {s₀ : Shared} {fs : List Frame} {s : Shared} {env : Env}
theorem seg_for_pair {body orelse : List Stmt} {x y : PySem.Str} {px py tp : Pos} {k : Nat} {I : Addr} {fp wr : List Addr} {N : Nat} {Pt : Nat → Array Value → Prop} {St : Nat → Heap → Prop} {Mid : Nat → Addr → Heap → Prop} {i : Nat} {m : PySem.Str → Option Value}
    (hh : (A.over (.forLoop (.Tuple [.Name x px, .Name y py] k tp) (.ref I) body orelse env) fs).handled = none)
    (W : WalksU prog w (A.over (.forLoop (.Tuple [.Name x px, .Name y py] k tp) (.ref I) body orelse env) fs) I fp wr N Pt St Mid) (h2 : ∀ i vals, Pt i vals → ∃ v0 v1, vals = #[v0, v1])
    (hx : env.kindOf x = some .local) (hy : env.kindOf y = some .local) (hp : (env.scope.kind == .class || (env.scope.kind == .module && env.locals != env.globals)) = false) (hL : env.locals ∉ fp)
    (hi : i < N) (hst : St i s.heap) (hns : s.heap.Ns env.locals m)
    (h : ∀ h' tk v0 v1, Pt i #[v0, v1] → St (i + 1) h' → h'.Ns env.locals (fun z => if z = y then some v1 else if z = x then some v0 else m z) → (∀ b o, b ∉ env.locals :: wr → s.heap.get? b = some o → h'.get? b = some o) →
      Seg (model prog w) A R Y n s₀ (.forLoop (.Tuple [.Name x px, .Name y py] k tp) (.ref I) body orelse env) ((execs body env).wrap (fun f => match f with
            | .next | .cont => .pure (.again (.forLoop (.Tuple [.Name x px, .Name y py] k tp) (.ref I) body orelse env))
            | .brk => .pure (.done .next)
            | .ret v => .pure (.done (.ret v))) (fun e => (do noteFrame e env; theTreesLotGoes e : Sem Unit).wrap (fun _ => .raise e) .raise id id) id id) fs { s with heap := h', toks := tk }) :
    Seg (model prog w) A R Y n s₀ (.forLoop (.Tuple [.Name x px, .Name y py] k tp) (.ref I) body orelse env) ((model prog w).den (.forLoop (.Tuple [.Name x px, .Name y py] k tp) (.ref I) body orelse env)) fs s := by
  refine seg_forLoop ?_
  refine wpAny_mono ((tk_pair (px := px) (py := py) (tp := tp) (k := k) hh W h2 hx hy hp hL).item i s m (fun _ s₂ => Seg (model prog w) A R Y n s₀ (.forLoop (.Tuple [.Name x px, .Name y py] k tp) (.ref I) body orelse env) ((execs body env).wrap (fun f => match f with
            | .next | .cont => .pure (.again (.forLoop (.Tuple [.Name x px, .Name y py] k tp) (.ref I) body orelse env))
            | .brk => .pure (.done .next)
            | .ret v => .pure (.done (.ret v))) (fun e => (do noteFrame e env; theTreesLotGoes e : Sem Unit).wrap (fun _ => .raise e) .raise id id) id id) fs s₂) hi hst hns fun h₁ tk₁ m₁ hB hst₁ hn₁ hk₁ => ?_) (fun r s₁ hr => ?_) (fun _ _ e => e)
  rotate_left
  · (refine ex1 hr fun v hz2 => ?_; refine and2 hz2 fun hz1 hv => ?_; clear hz2)
    try clear hr
    obtain rfl := hz1
    exact hv
  · (refine ex2 hB fun v0 v1 hz4 => ?_; refine and2 hz4 fun hp hz3 => ?_; clear hz4)
    try clear hB
    obtain rfl := hz3
    exact h h₁ tk₁ v0 v1 hp hst₁ hn₁ hk₁
end
/-- what a yield of the generator gives -/
noncomputable def GenY (x : PySem.Str) (prv : List Addr) (Priv : Nat → Heap → Prop) : Protocol := fun n s₀ v s' kap =>
  ∃ i c a t u h' tk, i + n + 1 = x.cps.size ∧ x.cps[i]? = some c ∧ v = .ref a ∧ s' = { s₀ with heap := h', toks := tk } ∧ h'.get? a = some (tup2 (.int (i : Nat) t) (.str (one c) u)) ∧ s₀.heap.get? a = none ∧
    (∀ b o, b ∉ prv → s₀.heap.get? b = some o → h'.get? b = some o) ∧ Priv (i + 1) h' ∧ ∀ s'', Priv (i + 1) s''.heap → kap (.send .none) s''
noncomputable def GenP (prv : List Addr) : Nat → Shared → Shared → Prop := fun n s₀ s₁ => n = 0 ∧ ∃ h' tk, s₁ = { s₀ with heap := h', toks := tk } ∧ ∀ b o, b ∉ prv → s₀.heap.get? b = some o → h'.get? b = some o
abbrev GenE (prv : List Addr) : GenEnd := fun n s₀ r s₁ => r = .ok (.ret .none) ∧ GenP prv n s₀ s₁
end Mine

end
section
open PySem PySem.W PySem.Calls PyProof.Rows
set_option Elab.async false
set_option maxRecDepth 100000
namespace Mine
section
variable {prog : Program} {w : World} {A : Around} {env : Env}
theorem letOwned_gen {elts : List Expr} {k : Nat} {pos : Pos} {O T : Addr} {g : Nat} {Q : Unit → Shared → Prop} {E : Value → Shared → Prop} {s : Shared} (hg : s.heap.IsGen O g) (hQ : Q () s) :
    wpAny (model prog w) A (letOwnedTupleGo (.Tuple elts k pos) (.ref O) (.ref T)) Q E s := by
  (refine ex3 hg fun o nm qn hz1 => ?_; refine and4 hz1 fun ho hc hd _ => ?_; clear hz1)
  try clear hg
  unfold letOwnedTupleGo
  refine wpAny_bind (wpAny_load ho ?_)
  rw [hc, hd]
  show wpAny _ A (if (["enumerate", "zip", "dict_itemiterator", "dict_reverseitemiterator", "odict_iterator", "itertools.zip_longest", "itertools.pairwise"].contains "generator" &&
      (#[.int g 0, nm, qn] : Array Value)[0]? == some (rawInt T)) = true then _ else _) Q E s
  rw [if_neg (by
    intro h
    rw [show (["enumerate", "zip", "dict_itemiterator", "dict_reverseitemiterator", "odict_iterator", "itertools.zip_longest", "itertools.pairwise"].contains "generator") = false from by decide, Bool.false_and] at h
    cases h)]
  exact wpAny_pure hQ
/-- a suspended generator of iter_c after i of its items -/
noncomputable def GSt (prog : Program) (w : World) (A : Around) (x : PySem.Str) (prv : List Addr) (Priv : Nat → Heap → Prop) (g₀ : Array GenState) (O : Addr) : Nat → Heap → Array GenState → Prop := fun i h gens =>
  h.IsGen O g₀.size ∧ Priv i h ∧ ∃ gs, gens = g₀.push gs ∧ ∀ s'', Priv i s''.heap → GenState.Goes (model prog w) A.in1 (GenE prv) (GenY x prv Priv) (x.cps.size - i) gs (.send .none) s''
theorem push_set {α : Type} (a : Array α) (x y : α) : (a.push x).setIfInBounds a.size y = a.push y := by
  apply Array.ext
  · simp
  · intro i h1 h2
    simp only [Array.size_setIfInBounds, Array.size_push] at h1
    by_cases e : i = a.size
    · subst e; simp
    · rw [Array.getElem_setIfInBounds_ne (by simp; exact h1) (fun q => e q.symm), Array.getElem_push_lt (Nat.lt_of_le_of_ne (Nat.le_of_lt_succ h1) e), Array.getElem_push_lt (Nat.lt_of_le_of_ne (Nat.le_of_lt_succ h1) e)]
theorem tk_gen {x : PySem.Str} {prv : List Addr} {Priv : Nat → Heap → Prop} {g₀ : Array GenState} {O : Addr} {g : Heap} {xa xb : PySem.Str} {pa pb tp : Pos} {k : Nat}
    (hh : A.handled = none) (hroom : A.depth < recursionLimit) (hlim : g.NoLimit) (hPg : ∀ i h, Priv i h → ∀ b o, g.get? b = some o → h.get? b = some o)
    (hfr : ∀ i h h', Priv (i + 1) h → (∀ b o, g.get? b = some o → h'.get? b = some o) → (∀ b ∈ prv, ∀ o, h.get? b = some o → h'.get? b = some o) → Priv (i + 1) h')
    (hO : O ∉ prv) (hOL : O ≠ env.locals) (hL : env.locals ∉ prv) (hgL : g.objs.size ≤ env.locals)
    (hx : env.kindOf xa = some .local) (hy : env.kindOf xb = some .local) (hp : (env.scope.kind == .class || (env.scope.kind == .module && env.locals != env.globals)) = false) :
    TkG prog w A (.ref O) (.Tuple [.Name xa pa, .Name xb pb] k tp) env g prv (env.locals :: prv) (O :: prv) x.cps.size
      (fun i m m' _ => ∃ c t u, x.cps[i]? = some c ∧ m' = fun z => if z = xb then some (.str (one c) u) else if z = xa then some (.int (i : Nat) t) else m z)
      (GSt prog w A x prv Priv g₀ O) (fun g' => g' = g₀.push .finished) where
  frame := fun i h h' gs ⟨h1, h2, h3⟩ hk hf => ⟨(let ⟨o, nm, qn, ho, r⟩ := h1; ⟨o, nm, qn, hf O (.head _) _ ho, r⟩), hfr i h h' h2 hk fun b hb => hf b (.tail _ hb), h3⟩
  item := fun i s m Q hi ⟨hgen, hP, gs, hgens, hgo⟩ hn hQ => by
    have hgo' := hgo (s.setGen g₀.size .running) hP
    have hz6 : ∃ n, x.cps.size - i = n + 1 := ⟨x.cps.size - i - 1, (Nat.sub_add_cancel (Nat.sub_pos_of_lt hi)).symm⟩
    (refine ex1 hz6 fun n hn' => ?_)
    try clear hz6
    rw [hn'] at hgo'
    refine wpAny_pyNext_gen (P := GenP prv) hh (hlim.keeps (hPg _ _ hP)) hroom hgen (by rw [hgens]; simp) hgo' (fun v s₁ gs' hy' => ?_) (fun s₁ hp' => ?_)
    · (refine ex7 hy' fun i' c a t u h₁ tk hz17 => ?_; refine and9 hz17 fun hin hc hz7 hz8 ha hnone hk₁ hPr hkap => ?_; clear hz17)
      try clear hy'
      obtain rfl := hz7
      obtain rfl := hz8
      obtain rfl : i' = i := eq_of_sub (Nat.le_of_lt hi) hn' hin
      refine ⟨_, rfl, ?_⟩
      have hgen₁ : h₁.IsGen O g₀.size := let ⟨o, nm, qn, ho, r⟩ := hgen; ⟨o, nm, qn, hk₁ O o hO ho, r⟩
      refine letOwned_gen (s := _) hgen₁ ?_
      have ht₂ : h₁.IsTuple a #[.int (i' : Nat) t, .str (one c) u] := ⟨_, ha, rfl, _, rfl⟩
      refine wpAny_assign_Tuple hh ht₂ rfl rfl fun h₃ hx₃ => ?_
      replace hx₃ : Heap.ExtBut h₁.objs.size h₁ h₃ := hx₃
      have up₃ : ∀ b o, h₁.get? b = some o → h₃.get? b = some o := fun b o x => hx₃ b o (Nat.ne_of_lt (Heap.lt_size x)) x
      have n₃ : h₃.Ns env.locals m := hn.at' fun o e => up₃ _ _ (hk₁ _ o hL e)
      show wpAny _ A (do holding [.str (one c) u] (assign (.Name xa pa) env (.int (i' : Nat) t)); do holding [] (assign (.Name xb pb) env (.str (one c) u)); pure ()) _ _ _
      refine wpAny_bind (wpAny_holding (wpAny_assign_Name (wpAny_storeName_local hx n₃ (fun h₄ hn₄ hs₄ => ?_) hp)))
      replace hs₄ : Heap.SameBut env.locals h₃ h₄ := hs₄
      refine wpAny_bind (wpAny_holding (wpAny_assign_Name (wpAny_storeName_local hy hn₄ (fun h₅ hn₅ hs₅ => wpAny_pure ?_) hp)))
      replace hs₅ : Heap.SameBut env.locals h₄ h₅ := hs₅
      have up₅ : ∀ b o, b ≠ env.locals → h₁.get? b = some o → h₅.get? b = some o := fun b o hb e => hs₅.extBut b o hb (hs₄.extBut b o hb (up₃ b o e))
      have hgens₅ : (s.gens.setIfInBounds g₀.size .running).setIfInBounds g₀.size gs' = g₀.push gs' := by rw [hgens, push_set, push_set]
      refine hQ h₅ ((s.gens.setIfInBounds g₀.size .running).setIfInBounds g₀.size gs') _ _ ⟨c, t, u, hc, rfl⟩ ⟨?_, ?_, gs', hgens₅, ?_⟩ hn₅ fun b o hb e => ?_
      · exact let ⟨o, nm, qn, ho, r⟩ := hgen₁; ⟨o, nm, qn, up₅ O o hOL ho, r⟩
      · exact hfr _ _ _ hPr (fun b o e => up₅ b o (fun q => Nat.lt_irrefl _ (Nat.lt_of_lt_of_le (q ▸ Heap.lt_size e) hgL)) (hPg _ _ hPr b o e)) fun b hb o e => up₅ b o (fun q => hL (q ▸ hb)) e
      · intro s'' hs''
        have := hkap s'' hs''
        rw [show x.cps.size - (i' + 1) = n from congrArg Nat.pred hn']
        exact this
      · simp only [List.mem_cons, not_or] at hb
        exact up₅ b o hb.1 (hk₁ b o hb.2 e)
    · exact absurd hp'.1 (Nat.succ_ne_zero n)
  done := fun s Q ⟨hgen, hP, gs, hgens, hgo⟩ hQ => by
    have hgo' := hgo (s.setGen g₀.size .running) hP
    rw [Nat.sub_self] at hgo'
    refine wpAny_pyNext_gen (P := GenP prv) hh (hlim.keeps (hPg _ _ hP)) hroom hgen (by rw [hgens]; simp) hgo' (fun v s₁ gs' hy' => ?_) (fun s₁ hp' h' hk' => ?_)
    · (refine ex7 hy' fun i' c a t u h₁ tk hz33 => ?_; refine and9 hz33 fun hin hc hz23 hz24 ha hnone hk₁ hPr hkap => ?_; clear hz33)
      try clear hy'
      obtain rfl := hz23
      obtain rfl := hz24
      exact (hkap { s with heap := h₁ } hPr).elim
    · (rcases hp' with ⟨hz39, h₁, tk, hz40, hk₁⟩)
      try clear hp'
      clear hz39
      obtain rfl := hz40
      refine hQ h' ((s.gens.setIfInBounds g₀.size .running).setIfInBounds g₀.size .finished) _ (by rw [hgens, push_set, push_set]) fun b o hb e => hk' b o (hk₁ b o hb e)
end
end Mine

end
section
open PySem PySem.W PySem.Calls PyProof.Rows
set_option Elab.async false
set_option maxRecDepth 100000
namespace Mine
theorem txt_len (l : List Nat) : (txt l).length = l.length := by show l.toArray.size = _; simp
theorem txt_inj {a b : List Nat} : txt a = txt b ↔ a = b := ⟨fun e => by have := congrArg (·.cps.toList) e; simpa using this, fun e => e ▸ rfl⟩
theorem txt_beq (a b : List Nat) : (txt a == txt b) = decide (a = b) := by
  by_cases h : a = b
  · subst h; simp
  · rw [decide_eq_false h]; exact beq_eq_false_iff_ne.mpr fun e => h (txt_inj.mp e)
theorem sl_ss {l : List Nat} {i j : Nat} (h1 : i ≤ j) (h2 : j ≤ l.length) : Txt.slice (txt l) (some (i : Int)) (some (j : Int)) = txt ((l.drop i).take (j - i)) := by
  have h := beq_iff_eq.mp (slice_closes (x := txt l) (i := i) (j := j) ⟨by lia, by lia, by simp; lia⟩)
  rw [h]
  have e : ((j : Int) - (i : Int)).toNat = j - i := Int.toNat_sub j i
  simp [txt, e]
theorem sl_sn {l : List Nat} {i : Nat} (h1 : i ≤ l.length) : Txt.slice (txt l) (some (i : Int)) none = txt (l.drop i) := by
  have h := beq_iff_eq.mp (slice_closes_from (x := txt l) (i := i) ⟨by lia, by simp; lia⟩)
  rw [h]
  have e : List.take (l.length - i) (List.drop i l) = List.drop i l := List.take_of_length_le (by rw [List.length_drop]; lia)
  simp [txt, e]
theorem sl_ns {l : List Nat} {j : Nat} (h1 : j ≤ l.length) : Txt.slice (txt l) none (some (j : Int)) = txt (l.take j) := by
  have h := beq_iff_eq.mp (slice_closes_to (x := txt l) (j := j) ⟨by lia, by simp; lia⟩)
  rw [h]
  simp [txt]
theorem sl_neg {l : List Nat} {k : Nat} (h0 : 0 < k) (h1 : k ≤ l.length) : Txt.slice (txt l) none (some (-(k : Int))) = txt (l.take (l.length - k)) := by
  rw [← sl_ns (Nat.sub_le _ _)]
  have hl : (txt l).length = l.length := txt_len l
  have e : StrLaws.sliceText (txt l) none (some (-(k : Int))) = StrLaws.sliceText (txt l) none (some ((l.length - k : Nat) : Int)) := by
    unfold StrLaws.sliceText
    have : Builtin.Str.strSliceIndices none (some (-(k : Int))) 1 (txt l).length = Builtin.Str.strSliceIndices none (some ((l.length - k : Nat) : Int)) 1 (txt l).length := by
      have a1 : (-(k : Int)) < 0 := by lia
      have a2 : ¬ (((l.length - k : Nat) : Int) < 0) := by lia
      have a3 : -(k : Int) + (l.length : Int) = ((l.length - k : Nat) : Int) := neg_cast h1
      simp only [Builtin.Str.strSliceIndices, hl, a1, a2, if_true, if_false, a3]
    rw [this]
  exact e
theorem sl_nn {l : List Nat} : Txt.slice (txt l) none none = txt l := by
  have e : Txt.slice (txt l) none none = Txt.slice (txt l) none (some ((txt l).length : Int)) := by
    unfold Txt.slice
    have : Builtin.Str.strSliceIndices none none 1 (txt l).length = Builtin.Str.strSliceIndices none (some ((txt l).length : Int)) 1 (txt l).length := by
      have a2 : ¬ (((txt l).length : Int) < 0) := by lia
      have a3 : max (0 : Int) (min ((txt l).length : Int) ((txt l).length : Int)) = ((txt l).length : Int) := by rw [Int.min_self]; exact Int.max_eq_right (Int.natCast_nonneg _)
      simp only [Builtin.Str.strSliceIndices, a2, if_false]
      simp
    rw [this]
  rw [e, txt_len, sl_ns (Nat.le_refl _), List.take_length]
theorem item_at {l : List Nat} {i c : Nat} (h : l[i]? = some c) : Txt.item (txt l) (i : Int) = one c := by
  have hi : i < l.length := (List.getElem?_eq_some_iff.mp h).1
  have e : Txt.charAt (txt l) (i : Int) = some c := by
    unfold Txt.charAt seqIndex?
    rw [txt_len]
    have a1 : ¬ ((i : Int) < 0) := Int.not_lt.mpr (Int.natCast_nonneg _)
    have a2 : (0 : Int) ≤ (i : Int) ∧ (i : Int) < (l.length : Int) := ⟨Int.natCast_nonneg _, Int.ofNat_lt.mpr hi⟩
    simp only [a1, if_false, decide_eq_true a2.1, decide_eq_true a2.2, Bool.and_self, if_true, Option.bind_some, Int.toNat_natCast]
    simpa [txt] using h
  unfold Txt.item; rw [e]; rfl
theorem item_neg {l : List Nat} {k c : Nat} (h0 : 0 < k) (hk : k ≤ l.length) (h : l[l.length - k]? = some c) : Txt.item (txt l) (-(k : Int)) = one c := by
  have e : Txt.charAt (txt l) (-(k : Int)) = Txt.charAt (txt l) ((l.length - k : Nat) : Int) := by
    unfold Txt.charAt seqIndex?
    rw [txt_len]
    have a1 : (-(k : Int)) < 0 := by lia
    have a2 : ¬ (((l.length - k : Nat) : Int) < 0) := by lia
    have a3 : -(k : Int) + (l.length : Int) = ((l.length - k : Nat) : Int) := neg_cast hk
    simp only [a1, a2, if_true, if_false, a3]
  rw [← item_at h]
  unfold Txt.item; rw [e]
/-- values that are texts -/
inductive TxtsAre : List Value → List (List Nat) → Prop
  | nil : TxtsAre [] []
  | cons {a : List Nat} {t : Tok} {vs : List Value} {ls : List (List Nat)} : TxtsAre vs ls → TxtsAre (.str (txt a) t :: vs) (a :: ls)
theorem TxtsAre.append {vs us : List Value} {ls ks : List (List Nat)} (h : TxtsAre vs ls) (h' : TxtsAre us ks) : TxtsAre (vs ++ us) (ls ++ ks) := by
  induction h with
  | nil => exact h'
  | cons _ ih => exact .cons ih
theorem TxtsAre.snoc {vs : List Value} {ls : List (List Nat)} {a : List Nat} {t : Tok} (h : TxtsAre vs ls) : TxtsAre (vs ++ [.str (txt a) t]) (ls ++ [a]) := h.append (.cons .nil)
theorem TxtsAre.length {vs : List Value} {ls : List (List Nat)} (h : TxtsAre vs ls) : vs.length = ls.length := by
  induction h with
  | nil => rfl
  | cons _ ih => simp [ih]
theorem TxtsAre.strs {vs : List Value} {ls : List (List Nat)} (h : TxtsAre vs ls) : ∃ l, vs = strValues l ∧ l.map (·.1) = ls.map txt := by
  induction h with
  | nil => exact ⟨[], rfl, rfl⟩
  | @cons a t vs ls _ ih =>
    obtain ⟨l, e1, e2⟩ := ih
    exact ⟨(txt a, t) :: l, by rw [e1]; rfl, by rw [List.map_cons, e2]; rfl⟩
theorem txt_append (a b : List Nat) : txt a ++ txt b = txt (a ++ b) := by
  show (⟨a.toArray ++ b.toArray⟩ : PySem.Str) = _
  rw [List.append_toArray]
theorem join_flat : ∀ ls : List (List Nat), Str.join (txt []) (ls.map txt) = txt ls.flatten
  | [] => rfl
  | [a] => by simp [Str.join]
  | a :: b :: r => by
    show txt a ++ txt [] ++ Str.join (txt []) ((b :: r).map txt) = _
    rw [join_flat (b :: r), txt_append, txt_append]
    simp
section
variable {prog : Program} {w : World} {A : Around} {E Q : Value → Shared → Prop} {s : Shared} {h₀ : Heap} {L D : Addr} {m : PySem.Str → Option Value} {news : List (Addr × Obj)} {vs : List Value} {ls : List (List Nat)} {k : Nat} {t u v : Tok} {value slice : Expr} {l : List Nat} {i j : Nat}
theorem join_txts (N : News h₀ L s.heap news) (hm : (D, listO vs k) ∈ news) (hv : TxtsAre vs ls) (h1 : ls.length ≤ 1000) (h2 : ∀ a ∈ ls, a.length ≤ 1000)
    (h : ∀ t' k', Q (.str (txt ls.flatten) t') { s with toks := k' }) : wpAny (model prog w) A (call (.builtin "str.join") [.str (PySem.Str.ofString "") t, .ref D]) Q E s := by
  obtain ⟨l, rfl, e2⟩ := hv.strs
  have e0 : PySem.Str.ofString "" = txt [] := by decide +kernel
  refine SC.join (l := l) (texts := ls.map txt) ⟨_, (N _ hm).1, rfl, k, rfl⟩ e2 ?_ fun t' k' => ?_
  · unfold JoinOk
    rw [Bool.not_eq_true']
    refine StrLaws.joinFits (B := 1000) (fun y hy => ?_) ?_
    · obtain ⟨a, ha, rfl⟩ := List.mem_map.mp hy
      rw [txt_len]; exact h2 a ha
    · rw [e0, txt_len, List.length_map]; simp; exact Nat.le_trans (Nat.mul_le_mul_right 1000 h1) (by decide)
  · have e : Txt.join (PySem.Str.ofString "") (ls.map txt) = txt ls.flatten := by
      unfold Txt.join; rw [StrLaws.glued_eq_join, e0, join_flat]
    rw [e]; exact h t' k'
theorem slice_sn (F : Fr h₀ L s.heap m) (N : News h₀ L s.heap news) (h1 : i ≤ l.length) (hz : l.length ≤ 1000000) (h : ∀ h' t' k, Fr h₀ L h' m → News h₀ L h' news → Q (.str (txt (l.drop i)) t') { s with heap := h', toks := k })
    (hs : subscripted slice false (.str (txt l) t) (.ref s.heap.objs.size) = operate [.ref s.heap.objs.size, .str (txt l) t] (getItem (.str (txt l) t) (.ref s.heap.objs.size)) := by with_unfolding_all rfl)
    (ht : ∀ r, letTemporaryGo value (.str (txt l) t) r = pure () := by intro _; with_unfolding_all rfl) :
    wpAny (model prog w) A (subscriptTail value slice (.str (txt l) t) (.ref s.heap.objs.size)) Q E { s with heap := s.heap.push { cls := .type "slice", data := .fields #[.int (i : Int) u, .none, .none] } } :=
  slice_strN_sn F N (fun h' t' k F' N' => by rw [sl_sn h1]; exact h h' t' k F' N') hs ht (by rw [txt_len, sizeLine_eq]; lia)
theorem slice_ns (F : Fr h₀ L s.heap m) (N : News h₀ L s.heap news) (h1 : i ≤ l.length) (hz : l.length ≤ 1000000) (h : ∀ h' t' k, Fr h₀ L h' m → News h₀ L h' news → Q (.str (txt (l.take i)) t') { s with heap := h', toks := k })
    (hs : subscripted slice false (.str (txt l) t) (.ref s.heap.objs.size) = operate [.ref s.heap.objs.size, .str (txt l) t] (getItem (.str (txt l) t) (.ref s.heap.objs.size)) := by with_unfolding_all rfl)
    (ht : ∀ r, letTemporaryGo value (.str (txt l) t) r = pure () := by intro _; with_unfolding_all rfl) :
    wpAny (model prog w) A (subscriptTail value slice (.str (txt l) t) (.ref s.heap.objs.size)) Q E { s with heap := s.heap.push { cls := .type "slice", data := .fields #[.none, .int (i : Int) u, .none] } } :=
  slice_strN_ns F N (fun h' t' k F' N' => by rw [sl_ns h1]; exact h h' t' k F' N') hs ht (by rw [txt_len, sizeLine_eq]; lia)
theorem slice_neg (F : Fr h₀ L s.heap m) (N : News h₀ L s.heap news) (h0 : 0 < i) (h1 : i ≤ l.length) (hz : l.length ≤ 1000000) (h : ∀ h' t' k, Fr h₀ L h' m → News h₀ L h' news → Q (.str (txt (l.take (l.length - i))) t') { s with heap := h', toks := k })
    (hs : subscripted slice false (.str (txt l) t) (.ref s.heap.objs.size) = operate [.ref s.heap.objs.size, .str (txt l) t] (getItem (.str (txt l) t) (.ref s.heap.objs.size)) := by with_unfolding_all rfl)
    (ht : ∀ r, letTemporaryGo value (.str (txt l) t) r = pure () := by intro _; with_unfolding_all rfl) :
    wpAny (model prog w) A (subscriptTail value slice (.str (txt l) t) (.ref s.heap.objs.size)) Q E { s with heap := s.heap.push { cls := .type "slice", data := .fields #[.none, .int (-(i : Int)) u, .none] } } :=
  slice_strN_ns F N (fun h' t' k F' N' => by rw [sl_neg h0 h1]; exact h h' t' k F' N') hs ht (by rw [txt_len, sizeLine_eq]; lia)
theorem slice_nn (F : Fr h₀ L s.heap m) (N : News h₀ L s.heap news) (hz : l.length ≤ 1000000) (h : ∀ h' t' k, Fr h₀ L h' m → News h₀ L h' news → Q (.str (txt l) t') { s with heap := h', toks := k })
    (hs : subscripted slice false (.str (txt l) t) (.ref s.heap.objs.size) = operate [.ref s.heap.objs.size, .str (txt l) t] (getItem (.str (txt l) t) (.ref s.heap.objs.size)) := by with_unfolding_all rfl)
    (ht : ∀ r, letTemporaryGo value (.str (txt l) t) r = pure () := by intro _; with_unfolding_all rfl) :
    wpAny (model prog w) A (subscriptTail value slice (.str (txt l) t) (.ref s.heap.objs.size)) Q E { s with heap := s.heap.push { cls := .type "slice", data := .fields #[.none, .none, .none] } } :=
  slice_strN_nn F N (fun h' t' k F' N' => by rw [sl_nn]; exact h h' t' k F' N') hs ht (by rw [txt_len, sizeLine_eq]; lia)
theorem sub_at {c : Nat} (hc : l[i]? = some c) (hz : l.length ≤ 1000000) (h : Q (.str (one c) s.toks) { s with toks := s.toks + 1 })
    (hs : subscripted slice false (.str (txt l) t) (.int i u) = operate [.str (txt l) t, .int i u] (getItem (.str (txt l) t) (.int i u)) := by with_unfolding_all rfl)
    (ht : ∀ r, letTemporaryGo value (.str (txt l) t) r = pure () := by intro _; with_unfolding_all rfl) :
    wpAny (model prog w) A (subscriptTail value slice (.str (txt l) t) (.int i u)) Q E s := by
  have hi : i < l.length := (List.getElem?_eq_some_iff.mp hc).1
  exact KXi.item (x := txt l) (n := l.length) (txt_len l) (by lia) (by lia) (by lia) (fun _ => by rw [item_at hc]; exact h) hs ht
theorem sub_neg {c : Nat} (h0 : 0 < i) (hi : i ≤ l.length) (hc : l[l.length - i]? = some c) (hz : l.length ≤ 1000000) (h : Q (.str (one c) s.toks) { s with toks := s.toks + 1 })
    (hs : subscripted slice false (.str (txt l) t) (.int (-(i : Int)) u) = operate [.str (txt l) t, .int (-(i : Int)) u] (getItem (.str (txt l) t) (.int (-(i : Int)) u)) := by with_unfolding_all rfl)
    (ht : ∀ r, letTemporaryGo value (.str (txt l) t) r = pure () := by intro _; with_unfolding_all rfl) :
    wpAny (model prog w) A (subscriptTail value slice (.str (txt l) t) (.int (-(i : Int)) u)) Q E s :=
  KXi.item (x := txt l) (n := l.length) (txt_len l) (by lia) (by lia) (by lia) (fun _ => by rw [item_neg h0 hi hc]; exact h) hs ht
end
end Mine

end
section
open PySem PySem.W PySem.Calls PyProof.Rows
set_option Elab.async false
set_option maxRecDepth 100000
namespace Mine
/-- what stays of a text when all that stands between quotation marks is taken away -/
noncomputable def outF : Bool → List Nat → List Nat
  | _, [] => []
  | b, c :: cs => if c = 34 then outF (!b) cs else if b then outF b cs else c :: outF b cs
noncomputable def mdQ : Bool → List Nat → Bool
  | b, [] => b
  | b, c :: cs => if c = 34 then mdQ (!b) cs else mdQ b cs
theorem mdQ_snoc (c : Nat) : ∀ (cs : List Nat) (b : Bool), mdQ b (cs ++ [c]) = if c = 34 then !mdQ b cs else mdQ b cs
  | [], b => by simp [mdQ]
  | d :: cs, b => by
    simp only [List.cons_append, mdQ]
    split <;> exact mdQ_snoc c cs _
theorem outF_snoc (c : Nat) : ∀ (cs : List Nat) (b : Bool), outF b (cs ++ [c]) = outF b cs ++ (if c = 34 then [] else if mdQ b cs then [] else [c])
  | [], b => by cases b <;> by_cases h : c = 34 <;> simp [mdQ, outF, h]
  | d :: cs, b => by
    simp only [List.cons_append, mdQ, outF]
    split
    · exact outF_snoc c cs _
    · cases b
      · simp only [Bool.false_eq_true, if_false, List.cons_append]; rw [outF_snoc c cs _]
      · simp only [if_true]; exact outF_snoc c cs _
theorem outF_none : ∀ (cs : List Nat), (∀ c ∈ cs, c ≠ 34) → outF false cs = cs
  | [], _ => rfl
  | c :: cs, h => by
    simp only [outF]
    rw [if_neg (h c (.head _)), outF_none cs fun c hc => h c (.tail _ hc)]
    rfl
/-- after i signs: all up to st is told by segs; op is the place of the mark that stands open -/
noncomputable def SInv (x : List Nat) (i st : Nat) (op : Option Nat) (segs : List (List Nat)) : Prop :=
  segs.length ≤ i ∧ (∀ a ∈ segs, a.length ≤ x.length) ∧ st ≤ i ∧ i ≤ x.length ∧
  match op with
  | none => outF false (x.take i) = segs.flatten ++ (x.drop st).take (i - st) ∧ mdQ false (x.take i) = false
  | some p => st ≤ p ∧ p < i ∧ outF false (x.take i) = segs.flatten ++ (x.drop st).take (p - st) ∧ mdQ false (x.take i) = true
variable {x : List Nat} {i st p c : Nat} {segs : List (List Nat)}
theorem SInv.start : SInv x 0 0 none [] := ⟨Nat.le_refl _, (fun _ h => nomatch h), Nat.le_refl _, Nat.zero_le _, rfl, rfl⟩
theorem SInv.keepN (H : SInv x i st none segs) (hc : x[i]? = some c) (h : c ≠ 34) : SInv x (i + 1) st none segs := by
  (refine and6 H fun h1 h2 h3 h4 h5 h6 => ?_)
  try clear H
  have hi : i < x.length := (List.getElem?_eq_some_iff.mp hc).1
  refine ⟨Nat.le_succ_of_le h1, h2, Nat.le_succ_of_le h3, hi, ?_, ?_⟩
  · rw [List.take_add_one, hc, Option.toList_some, outF_snoc, h5, h6, if_neg h, if_neg Bool.false_ne_true, List.append_assoc]
    congr 1
    rw [show i + 1 - st = (i - st) + 1 from Nat.succ_sub h3, List.take_add_one]
    congr 1
    rw [List.getElem?_drop, show st + (i - st) = i from Nat.add_sub_cancel' h3, hc]; rfl
  · rw [List.take_add_one, hc, Option.toList_some, mdQ_snoc, if_neg h, h6]
theorem SInv.keepS (H : SInv x i st (some p) segs) (hc : x[i]? = some c) (h : c ≠ 34) : SInv x (i + 1) st (some p) segs := by
  (refine and8 H fun h1 h2 h3 h4 h7 h8 h5 h6 => ?_)
  try clear H
  have hi : i < x.length := (List.getElem?_eq_some_iff.mp hc).1
  refine ⟨Nat.le_succ_of_le h1, h2, Nat.le_succ_of_le h3, hi, h7, Nat.lt_succ_of_lt h8, ?_, ?_⟩
  · rw [List.take_add_one, hc, Option.toList_some, outF_snoc, h5, h6, if_neg h, if_pos rfl, List.append_nil]
  · rw [List.take_add_one, hc, Option.toList_some, mdQ_snoc, if_neg h, h6]
theorem SInv.openQ (H : SInv x i st none segs) (hc : x[i]? = some 34) : SInv x (i + 1) st (some i) segs := by
  (refine and6 H fun h1 h2 h3 h4 h5 h6 => ?_)
  try clear H
  have hi : i < x.length := (List.getElem?_eq_some_iff.mp hc).1
  refine ⟨Nat.le_succ_of_le h1, h2, Nat.le_succ_of_le h3, hi, h3, Nat.lt_succ_self i, ?_, ?_⟩
  · rw [List.take_add_one, hc, Option.toList_some, outF_snoc, h5, if_pos rfl, List.append_nil]
  · rw [List.take_add_one, hc, Option.toList_some, mdQ_snoc, if_pos rfl, h6]; rfl
theorem SInv.shut0 (H : SInv x i st (some st) segs) (hc : x[i]? = some 34) : SInv x (i + 1) (i + 1) none segs := by
  (refine and8 H fun h1 h2 h3 h4 h7 h8 h5 h6 => ?_)
  try clear H
  have hi : i < x.length := (List.getElem?_eq_some_iff.mp hc).1
  refine ⟨Nat.le_succ_of_le h1, h2, Nat.le_refl _, hi, ?_, ?_⟩
  · rw [List.take_add_one, hc, Option.toList_some, outF_snoc, h5, if_pos rfl, List.append_nil]; simp
  · rw [List.take_add_one, hc, Option.toList_some, mdQ_snoc, if_pos rfl, h6]; rfl
theorem SInv.shut (H : SInv x i st (some p) segs) (hc : x[i]? = some 34) : SInv x (i + 1) (i + 1) none (segs ++ [(x.drop st).take (p - st)]) := by
  (refine and8 H fun h1 h2 h3 h4 h7 h8 h5 h6 => ?_)
  try clear H
  have hi : i < x.length := (List.getElem?_eq_some_iff.mp hc).1
  refine ⟨by simpa using h1, fun a ha => ?_, Nat.le_refl _, hi, ?_, ?_⟩
  · rcases List.mem_append.mp ha with ha | ha
    · exact h2 a ha
    · rw [List.mem_singleton.mp ha, List.length_take, List.length_drop]; exact Nat.le_trans (Nat.min_le_right _ _) (Nat.sub_le _ _)
  · rw [List.take_add_one, hc, Option.toList_some, outF_snoc, h5, if_pos rfl, List.append_nil]; simp
  · rw [List.take_add_one, hc, Option.toList_some, mdQ_snoc, if_pos rfl, h6]; rfl
theorem SInv.fin (H : SInv x x.length st none segs) : outF false x = segs.flatten ++ x.drop st := by
  (refine and6 H fun h1 h2 h3 h4 h5 h6 => ?_)
  try clear H
  rw [List.take_length] at h5
  rw [h5]; congr 1
  exact List.take_of_length_le (by rw [List.length_drop]; exact Nat.le_refl _)
theorem SInv.none_of (H : SInv x x.length st (some p) segs) (hq : mdQ false x = false) : False := by
  (refine and8 H fun h1 h2 h3 h4 h7 h8 h5 h6 => ?_)
  try clear H
  rw [List.take_length, hq] at h6; cases h6
theorem quote_in {x : List Nat} : (!(Builtin.Str.occurrences (txt x) (PySem.Str.ofString "\"") 0 (txt x).length 1).isEmpty) = decide ((34 : Nat) ∈ x) := by
  have e : PySem.Str.ofString "\"" = ⟨#[34]⟩ := by decide +kernel
  rw [e, StrLaws.found_one]
theorem listOf_push (vs : List Value) (v : Value) (k : Nat) : W.listOf (vs.toArray.push v) k = listO (vs ++ [v]) k := by
  show ({ cls := .type "list", data := .seq (vs.toArray.push v) k } : Obj) = { cls := .type "list", data := .seq (vs ++ [v]).toArray k }
  rw [List.push_toArray]
theorem quote_of {c : Nat} (h : (one c == PySem.Str.ofString "\"") = true) : c = 34 := by
  have e := beq_iff_eq.mp h
  rw [show PySem.Str.ofString "\"" = one 34 by decide +kernel] at e
  have := congrArg (·.cps.toList) e
  simpa using this
theorem quote_ne {c : Nat} (h : (one c == PySem.Str.ofString "\"") = false) : c ≠ 34 := fun e => by
  subst e
  rw [show PySem.Str.ofString "\"" = one 34 by decide +kernel] at h
  simp at h
section
variable {prog : Program} {w : World} {A : Around} {E Q : Value → Shared → Prop} {s : Shared} {t u : Tok}
theorem len_txt {l : List Nat} (hz : l.length ≤ 1000000) (h : ∀ t' k, Q (.int (l.length : Nat) t') { s with toks := k }) : wpAny (model prog w) A (call (.builtin "len") [.str (txt l) t]) Q E s :=
  P.len_str (by rw [txt_len]; lia) (by rw [txt_len]; exact h _ _)
theorem notIn_yes {x : List Nat} (hm : (34 : Nat) ∈ x) (h : Q (.bool false) s) : wpAny (model prog w) A (compareOp .NotIn (.str (PySem.Str.ofString "\"") u) (.str (txt x) t)) Q E s :=
  SB.notContains (by unfold Txt.contains; rw [quote_in, decide_eq_true hm]; exact h)
theorem notIn_no {x : List Nat} (hm : (34 : Nat) ∉ x) (h : Q (.bool true) s) : wpAny (model prog w) A (compareOp .NotIn (.str (PySem.Str.ofString "\"") u) (.str (txt x) t)) Q E s :=
  SB.notContains (by unfold Txt.contains; rw [quote_in, decide_eq_false hm]; exact h)
end
end Mine

end
section
open PySem PySem.W PySem.Calls PyProof.Rows
set_option Elab.async false
set_option maxRecDepth 100000
namespace Mine
section
variable {prog : Program} {w : World} {A : Around} {s : Shared} {Q : Value → Shared → Prop} {E : Value → Shared → Prop} {a b : Int} {n : Nat} {t u : Tok}
/-- the state of a range's iterator -/
noncomputable def RSt (I : Addr) (a : Int) (n : Nat) : Nat → Heap → Prop := fun i h => IsRangeIter h I (a + (i : Nat) * 1) ((n : Int) - (i : Nat)) 1
theorem walks_range (hh : A.handled = none) (I : Addr) (a : Int) (n : Nat) : Walks prog w A I [I] [I] n (fun i v => ∃ t, v = .int (a + (i : Nat)) t) (RSt I a n) := by
  have W := Walks.range (prog := prog) (w := w) hh I a 1 n
  simp only [Int.mul_one] at W
  show Walks prog w A I [I] [I] n _ (fun i h => IsRangeIter h I (a + (i : Nat) * 1) ((n : Int) - (i : Nat)) 1)
  simp only [Int.mul_one]
  exact W
theorem range_iter (hh : A.handled = none) (hsm : Builtin.Range.small a b 1 = true) (hn : Builtin.Range.rangeSize a b 1 = (n : Int)) {h₁ : Heap} {r : Addr} {t₁ u₁ v₁ : Tok} {tk : Nat} (hr : IsRange h₁ r a b 1 t₁ u₁ v₁) (hz : s.heap.objs.size ≤ h₁.objs.size) (up : ∀ b o, s.heap.get? b = some o → h₁.get? b = some o)
    (h : ∀ (I : Addr) (h₂ : Heap) tk, Walks prog w A I [I] [I] n (fun i v => ∃ t, v = .int (a + (i : Nat)) t) (RSt I a n) → NewIt [I] [I] (RSt I a n) s.heap h₂ → Q (.ref I) { s with heap := h₂, toks := tk }) :
    wpAny (model prog w) A (pyIter (.ref r)) Q E { s with heap := h₁, toks := tk } := by
  refine wpAny_pyIter_range hr hsm ?_
  refine h _ _ _ (walks_range hh _ a n) ⟨fun b o e => Heap.get?_push_of_some _ (up b o e), ?_, fun b hb => .inl hb, fun b hb => ?_, fun b hb => hb, fun i h st b hb => ⟨_, List.mem_singleton.mp hb ▸ st⟩⟩
  · show IsRangeIter _ _ _ _ _
    rw [hn]
    have e1 : a + ((0 : Nat) : Int) * 1 = a := by simp
    have e2 : (n : Int) - ((0 : Nat) : Int) = n := by simp
    rw [e1, e2]
    exact Heap.get?_push_size _ rfl
  · rw [List.mem_singleton.mp hb]
    exact Heap.get?_none_of_le hz
theorem range2_at (hh : A.handled = none) (hsm : Builtin.Range.small a b 1 = true) (hn : Builtin.Range.rangeSize a b 1 = (n : Int))
    (h : ∀ (I : Addr) (h₂ : Heap) tk, Walks prog w A I [I] [I] n (fun i v => ∃ t, v = .int (a + (i : Nat)) t) (RSt I a n) → NewIt [I] [I] (RSt I a n) s.heap h₂ → Q (.ref I) { s with heap := h₂, toks := tk }) :
    wpAny (model prog w) A (call (.type "range") [.int a t, .int b u]) (fun xv s₁ => wpAny (model prog w) A (pyIter xv) Q E s₁) E s :=
  call_range_2 (range_iter hh hsm hn (IsRange.new ..) (by rw [Heap.size_push]; exact Nat.le_succ _) (fun _ _ e => Heap.get?_push_of_some _ e) h)
theorem range1_at (hh : A.handled = none) (hsm : Builtin.Range.small 0 b 1 = true) (hn : Builtin.Range.rangeSize 0 b 1 = (n : Int))
    (h : ∀ (I : Addr) (h₂ : Heap) tk, Walks prog w A I [I] [I] n (fun i v => ∃ t, v = .int (0 + (i : Nat)) t) (RSt I 0 n) → NewIt [I] [I] (RSt I 0 n) s.heap h₂ → Q (.ref I) { s with heap := h₂, toks := tk }) :
    wpAny (model prog w) A (call (.type "range") [.int b u]) (fun xv s₁ => wpAny (model prog w) A (pyIter xv) Q E s₁) E s :=
  call_range_1 (range_iter hh hsm hn (IsRange.new ..) (by rw [Heap.size_push]; exact Nat.le_succ _) (fun _ _ e => Heap.get?_push_of_some _ e) h)
theorem small_nat {n : Nat} (h : n ≤ 1000) : Builtin.Range.small 0 (n : Int) 1 = true := small_one (by decide) (by decide) (by lia) (by lia)
theorem size_nat (n : Nat) : Builtin.Range.rangeSize 0 (n : Int) 1 = (n : Int) := by rw [rangeSize_one]; split <;> lia
end
end Mine

end
section
open PySem PySem.W PySem.Calls PyProof.Rows
set_option Elab.async false
set_option maxRecDepth 100000
namespace Mine
theorem mdQ_append : ∀ (a b : List Nat) (q : Bool), mdQ q (a ++ b) = mdQ (mdQ q a) b
  | [], _, _ => rfl
  | c :: a, b, q => by
    simp only [List.cons_append, mdQ]
    split <;> exact mdQ_append a b _
theorem outF_append : ∀ (a b : List Nat) (q : Bool), outF q (a ++ b) = outF q a ++ outF (mdQ q a) b
  | [], _, _ => by simp [outF, mdQ]
  | c :: a, b, q => by
    simp only [List.cons_append, mdQ, outF]
    split
    · exact outF_append a b _
    · cases q
      · simp only [Bool.false_eq_true, if_false, List.cons_append]; rw [outF_append a b _]
      · simp only [if_true]; exact outF_append a b _
theorem outF_len : ∀ (a : List Nat) (q : Bool), (outF q a).length ≤ a.length
  | [], _ => Nat.le_refl _
  | c :: a, q => by
    simp only [outF]
    split
    · exact Nat.le_trans (outF_len a _) (Nat.le_succ _)
    · cases q
      · simp only [Bool.false_eq_true, if_false, List.length_cons]; exact Nat.succ_le_succ (outF_len a _)
      · simp only [if_true]; exact Nat.le_trans (outF_len a _) (Nat.le_succ _)
theorem mdQ_marks : ∀ (k : Nat) (q : Bool), mdQ q (List.replicate k 34) = if k % 2 = 0 then q else !q
  | 0, q => by simp [mdQ]
  | k + 1, q => by
    rw [List.replicate_succ]
    simp only [mdQ, if_true]
    rw [mdQ_marks k]
    by_cases h : k % 2 = 0
    · rw [if_pos h, if_neg (odd_s h)]
    · rw [if_neg h, if_pos (even_s h), Bool.not_not]
theorem outF_marks : ∀ (k : Nat) (q : Bool), outF q (List.replicate k 34) = []
  | 0, _ => rfl
  | k + 1, q => by
    rw [List.replicate_succ]
    simp only [outF, if_true]
    exact outF_marks k _
/-- a sign between so many marks on either side -/
noncomputable def blk (k c : Nat) : List Nat := List.replicate k 34 ++ [c] ++ List.replicate k 34
theorem blk_len (k c : Nat) : (blk k c).length = 2 * k + 1 := by simp [blk]; lia
theorem mdQ_blk {k c : Nat} (h : c ≠ 34) (q : Bool) : mdQ q (blk k c) = q := by
  unfold blk
  rw [mdQ_append, mdQ_append, mdQ_marks, mdQ_marks]
  simp only [mdQ, if_neg h]
  by_cases e : k % 2 = 0
  · simp [e]
  · simp [e]
theorem outF_blk {k c : Nat} (h : c ≠ 34) : outF false (blk k c) = if k % 2 = 0 then [c] else [] := by
  unfold blk
  rw [outF_append, outF_append, outF_marks, outF_marks, mdQ_marks]
  by_cases e : k % 2 = 0
  · rw [if_pos e, if_pos e]; simp [outF, h]
  · rw [if_neg e, if_neg e]; simp [outF, h]
noncomputable def popc (n : Nat) : Nat := [0, 1, 1, 2, 1, 2, 2, 3].getD n 0
theorem popc_le (n : Nat) : popc n ≤ 3 := by
  unfold popc
  rcases Nat.lt_or_ge n 8 with h | h
  · have tab : ∀ n < 8, [0, 1, 1, 2, 1, 2, 2, 3].getD n 0 ≤ 3 := by decide
    exact tab n h
  · simp [List.getD, List.getElem?_eq_none (show [0, 1, 1, 2, 1, 2, 2, 3].length ≤ n from h)]
/-- the text of one choice -/
noncomputable def textN (cols : List Nat) (ch : Nat) : Nat → List Nat
  | 0 => []
  | i + 1 => match cols[i]? with
    | some c => textN cols ch i ++ blk (popc (c &&& ch)) (97 + i)
    | none => textN cols ch i
theorem textN_len (cols : List Nat) (ch : Nat) : ∀ i, (textN cols ch i).length ≤ 7 * i
  | 0 => Nat.le_refl _
  | i + 1 => by
    unfold textN
    have h := textN_len cols ch i
    split
    · rename_i c _
      have := popc_le (c &&& ch)
      rw [List.length_append, blk_len]
      exact Nat.add_le_add h (Nat.succ_le_succ (Nat.mul_le_mul_left 2 this))
    · exact Nat.le_trans h (Nat.mul_le_mul_left 7 (Nat.le_succ i))
theorem textN_mdQ (cols : List Nat) (ch : Nat) : ∀ i, mdQ false (textN cols ch i) = false
  | 0 => rfl
  | i + 1 => by
    unfold textN
    split
    · rw [mdQ_append, textN_mdQ cols ch i, mdQ_blk (by lia)]
    · exact textN_mdQ cols ch i
theorem mem_blk {k c d : Nat} (h : d ∈ blk k c) : d = 34 ∨ d = c := by
  unfold blk at h
  simp only [List.mem_append, List.mem_replicate, List.mem_singleton] at h
  lia
theorem textN_mem (cols : List Nat) (ch : Nat) : ∀ i, i ≤ 7 → ∀ d ∈ textN cols ch i, d < 128 ∧ d ≠ 92
  | 0, _, _, h => nomatch h
  | i + 1, hi, d, h => by
    unfold textN at h
    split at h
    · rcases List.mem_append.mp h with h | h
      · exact textN_mem cols ch i (Nat.le_of_succ_le hi) d h
      · rcases mem_blk h with rfl | rfl
        · exact ⟨by decide, by decide⟩
        · exact ⟨Nat.lt_of_lt_of_le (Nat.add_lt_add_left hi 97) (by decide), Nat.ne_of_gt (Nat.lt_of_lt_of_le (by decide : 92 < 97) (Nat.le_add_right 97 i))⟩
    · exact textN_mem cols ch i (Nat.le_of_succ_le hi) d h
noncomputable def sizeN (cols : List Nat) (ch : Nat) : Int := (cols.length : Int) - ((outF false (textN cols ch cols.length)).length : Int)
noncomputable def sizesN (cols : List Nat) (n : Nat) : List Int := (List.range n).map fun i => sizeN cols (i + 1)
theorem sizesN_succ (cols : List Nat) (n : Nat) : sizesN cols (n + 1) = sizesN cols n ++ [sizeN cols (n + 1)] := by
  unfold sizesN; rw [List.range_succ, List.map_append]; rfl
theorem and_nat {n c : Nat} : Builtin.bitAnd (n : Int) (c : Int) = ((n &&& c : Nat) : Int) := by
  unfold Builtin.bitAnd
  rfl
section
variable {prog : Program} {w : World} {A : Around} {E Q : Value → Shared → Prop} {s : Shared} {t u : Tok} {k : Nat}
theorem mul_q (hk : k ≤ 3) (h : ∀ t' k', Q (.str (txt (List.replicate k 34)) t') { s with toks := k' }) : wpAny (model prog w) A (binaryOp .Mult (.str (PySem.Str.ofString "\"") t) (.int (k : Nat) u)) Q E s := by
  have e : Txt.mul (PySem.Str.ofString "\"") (k : Int) = txt (List.replicate k 34) := by
    have tab : ∀ k ≤ 3, Txt.mul (PySem.Str.ofString "\"") ((k : Nat) : Int) = txt (List.replicate k 34) := by decide +kernel
    exact tab k hk
  refine KXi.mul (n := 1) (by decide +kernel) (by decide) (by lia) (by lia) fun t' k' _ _ => ?_
  rw [e]; exact h t' k'
end
end Mine

end
section
open PySem PySem.W PySem.Calls PyProof.Rows
set_option Elab.async false
set_option maxRecDepth 100000
namespace Mine
theorem enterX {w : World} {p : Program} {loose : List PySem.Str} {mean : ExcName → Option Value} {mg mb : PySem.Str → Option Value} {A : Around} {s : Shared}
    {R : Result → Shared → Prop} {name qual : PySem.Str} {params : Arguments} {body : List Stmt} {scope : Scope} {cl : List (PySem.Str × Addr)} {dV kV doc pm cdv ct oc : Value} {an od : Option Addr} {osl : Array (Option Value)} {f : Addr} {args : Args} {binds : List (PySem.Str × Value)}
    (T : Top p loose mean mg mb s.heap)
    (ho : s.heap.get? f = some ⟨oc, od, .func (fnX name qual params body scope cl dV kV doc pm an cdv ct), osl⟩) (hcd : s.heap.CodeRec cdv qual) (hroom : A.depth < recursionLimit)
    (hbind : BindsTo s (fnX name qual params body scope cl dV kV doc pm an cdv ct) args binds) (hloc : ∀ y ∈ binds, scope.names.lookup y.1 = some .local)
    (h : ∀ h₁, Fr s.heap s.heap.objs.size h₁ (fun y => binds.reverse.lookup y) → News s.heap s.heap.objs.size h₁ [] →
      wpAny (model PySem.Challenge.rw_to0081_01.prog w) (A.deeper (envX qual scope s.heap.objs.size f cdv cl)) (execs body (envX qual scope s.heap.objs.size f cdv cl))
        (fun fl s' => R (.ok (.ret (match fl with | .ret v => v | _ => .none))) s') (fun _ _ => False)
        { s with heap := h₁, toks := s.toks + binds.length })
    (hco : scope.isCoroutine = false := by rfl) (hgen : scope.isGenerator = false := by rfl) (hk : scope.kind = .function := by rfl)
    (hcell : ∀ x ∈ scope.names, x.2 ≠ .cell := by decide) : codeAny (model PySem.Challenge.rw_to0081_01.prog w) A (.call (.ref f) args) R s :=
  codeAny_call_def hroom ho rfl T.nolimit hcd rfl hbind hcell hloc
    (fun h₁ hns hk₁ => wpAny_mono (h h₁ ⟨hns, hk₁, Nat.le_refl _⟩ News.nil) (fun _ _ q => q) fun _ _ q => q.elim) hco hgen hk
section
variable {prog : Program} {w : World} {A : Around} {env : Env} {s : Shared} {E Q : Value → Shared → Prop} {g : Heap} {C : Addr} {m : PySem.Str → Option Value} {x : PySem.Str} {pos : Pos} {v : Value}
/-- a free name: its cell lies in the base -/
theorem nm_f {c : Addr} {oc : Obj} (F : Fr g C s.heap m) (hc : env.cells.lookup x = some c) (hg : g.get? c = some oc) (ho : oc.data = .cell (some v)) (hk : env.scope.kind = .function) (hx : env.kindOf x = some .free) (hd : (x == ("__debug__" : PySem.Str)) = false) (hn : (x == ("__classdict__" : PySem.Str)) = false) (h : Q v s) :
    wpAny (model prog w) A (eval (.Name x pos) env) Q E s := wpAny_Name (wpAny_loadName_free hk hx hc ⟨oc, F.keep _ _ hg, ho⟩ h hn) hd
end
section
variable {M : Model} {A : Around} {E : Value → Shared → Prop} {s : Shared} {h₀ : Heap} {L a c P : Addr} {m mg mb : PySem.Str → Option Value} {cn : PySem.Str} {cs : Scope} {ccd : Value} {cl : List (PySem.Str × Addr)} {rest : List (Addr × Obj)}
  {p : Program} {loose : List PySem.Str} {mean : ExcName → Option Value} {name qual : PySem.Str} {params : Arguments} {body : List Stmt} {scope : Scope} {ps : Array Value} {pos : Pos} {firstLine : Nat} {clos : List (PySem.Str × Addr)}
/-- a def within a def, its code table empty or filled -/
theorem nest_both {Q : Value → Shared → Prop} (F : Fr h₀ L s.heap m) (N : News h₀ L s.heap ((P, tabObj ps) :: rest)) (T : Top p loose mean mg mb h₀) (C : CodeHd h₀ c P) (hcd : ccd = .ref c) (hsep : ∀ q ∈ rest, q.1 ≠ P)
    (hps : ps = #[] ∨ ∃ c', ps = #[rawInt pos.line, rawInt pos.col, .ref c'] ∧ h₀.CodeRec (.ref c') qual)
    (hcl : closureFor scope (envX cn cs L a ccd cl) = pure clos) (hhit : ∀ c', codeAmong pos #[rawInt pos.line, rawInt pos.col, .ref c'].toList = some (.ref c'))
    (h : ∀ f c' ctv doc h' tk ex, Fr h₀ L h' m → News h₀ L h' ((f, fnMade name qual params body scope clos doc ((mg "__name__").getD .none) c' ctv) :: (P, tabObj #[rawInt pos.line, rawInt pos.col, .ref c']) :: (rest ++ ex)) →
      (∀ h'' : Heap, (∀ b o, h₀.get? b = some o → h''.get? b = some o) → (∀ q ∈ ex, h''.get? q.1 = some q.2) → h''.CodeRec (.ref c') qual) → c' ≠ P → (∀ q ∈ ex, q.1 ≠ P ∧ ∀ r ∈ rest, r.1 ≠ q.1) → Q (.ref f) { s with heap := h', toks := tk }) :
    wpAny M A (makeFunction name qual params (.stmts body) scope (envX cn cs L a ccd cl) [] [] [] pos firstLine) Q E s := by
  rcases hps with rfl | ⟨c', rfl, hc'⟩
  · refine nest_K F N T C hcd (.head hsep) True.intro rfl hcl fun f c' oc vs t ctv doc h' tk F' N' hd hv hlt hcf => ?_
    refine h f c' ctv doc h' tk [(c', oc)] F' (fun q hq => ?_) (fun h'' _ k => ⟨c', oc, vs, t, rfl, k _ (.head _), hd, hv⟩) (fun e => Nat.lt_irrefl _ (e ▸ hlt _ (.head _))) fun q hq => ?_
    · rcases List.mem_cons.mp hq with rfl | hq
      · exact N' _ (.head _)
      · rcases List.mem_cons.mp hq with rfl | hq
        · exact N' _ (.tail _ (.tail _ (.head _)))
        · rcases List.mem_append.mp hq with hq | hq
          · exact N' _ (.tail _ (.tail _ (.tail _ hq)))
          · rw [List.mem_singleton.mp hq]
            exact N' _ (.tail _ (.head _))
    · rw [List.mem_singleton.mp hq]
      exact ⟨Nat.ne_of_gt (hlt _ (.head _)), fun r hr => Nat.ne_of_lt (hlt r (.tail _ hr))⟩
  · have hne : c' ≠ P := fun e => by
      (refine ex4 hc' fun c2 oc vs t hz1 => ?_; refine and3 hz1 fun e2 e3 _ => ?_; clear hz1)
      try clear hc'
      cases e2
      have := (N _ (.head _)).2.2
      rw [e] at e3
      rw [this] at e3; cases e3
    refine nestHit_K F N T C hcd (.head _) (by simp [TriplesOk, rawInt]) (hhit c') hcl fun f ctv doc h' tk F' N' hlt => ?_
    (refine ex4 hc' fun c2 oc vs t hz6 => ?_; refine and4 hz6 fun e2 e3 e4 e5 => ?_; clear hz6)
    try clear hc'
    exact h f c' ctv doc h' tk [] F' (by rw [List.append_nil]; exact N') (fun h'' k _ => ⟨c2, oc, vs, t, e2, k _ _ e3, e4, e5⟩) hne (fun _ hq => nomatch hq)
end
theorem below_next {A : Around} {base h₀ h : Heap} {outer : List Env} {L : Addr} {m : PySem.Str → Option Value} {env : Env} {d u : Nat} (B : Below A base outer h₀) (F : Fr h₀ L h m) (hf : env.frame = some L) (hk : env.scope.kind = .function) :
    Below (AT d u (env :: outer)) base (env :: outer) h := let B' := pushX B F hf hk; ⟨rfl, B'.stays, B'.frames⟩
theorem name_obj {g h : Heap} {L f : Addr} {o : Obj} {r : List (Addr × Obj)} (N : News g L h ((f, o) :: r)) : ∃ O, O = o ∧ News g L h ((f, O) :: r) := ⟨o, rfl, N⟩
end Mine

end
section
open PySem PySem.W PySem.Calls PyProof.Rows
set_option Elab.async false
set_option maxRecDepth 100000
namespace Mine
section
variable {prog : Program} {w : World} {A : Around} {env : Env}
variable {target : Expr} {body : List Stmt} {R : Result → Shared → Prop} {s₂ : Shared} {h₀ h : Heap} {m : PySem.Str → Option Value} {nx : List (Addr × Obj)} {I : Addr} {fp wr : List Addr} {n : Nat} {St : Nat → Heap → Prop}
theorem for_pairC {Pt : Nat → Array Value → Prop} {Mid : Nat → Addr → Heap → Prop} {x y : PySem.Str} {px py tp : Pos} {k : Nat} {c : Addr} {oc : Obj} {vc : Option Value} (G : Array GenState → Prop) (J : Nat → (PySem.Str → Option Value) → List (Addr × Obj) → Prop)
    (hh : A.handled = none) (W : WalksU prog w A I fp wr n Pt St Mid) (h2 : ∀ i vals, Pt i vals → ∃ v0 v1, vals = #[v0, v1]) (H : NewIt fp wr St h s₂.heap) (hk : env.scope.kind = .function) (hx : env.kindOf x = some .local) (hy : env.kindOf y = some .cell) (hc : env.cells.lookup y = some c) (hp : (env.scope.kind == .class || (env.scope.kind == .module && env.locals != env.globals)) = false)
    (F : Fr h₀ env.locals h m) (N : News h₀ env.locals h ((c, oc) :: nx)) (hoc : oc.data = .cell vc) (hcn : ∀ p ∈ nx, p.1 ≠ c) (hG : G s₂.gens) (hJ : J 0 m nx)
    (turn : ∀ i m₁ nx h g tk own v0 v1 oc, i < n → J i m₁ nx → G g → Pt i #[v0, v1] → oc.data = .cell (some v1) → Fr h₀ env.locals h (fun z => if z = x then some v0 else m₁ z) → News h₀ env.locals h ((c, oc) :: (nx ++ own)) → (∀ p ∈ own, p.1 ∈ c :: fp) →
      wpAny (model prog w) A (execs body env) (FPost h₀ env.locals G nx ((c, oc) :: own) (J (i + 1)) R s₂) (fun _ _ => False) { s₂ with heap := h, gens := g, toks := tk })
    (done : ∀ m₁ nx h g tk, J n m₁ nx → G g → Fr h₀ env.locals h m₁ → News h₀ env.locals h nx → R (.ok .next) { s₂ with heap := h, gens := g, toks := tk }) :
    codeAny (model prog w) A (.forLoop (.Tuple [.Name x px, .Name y py] k tp) (.ref I) body [] env) R s₂ := by
  have hL : env.locals ∉ fp := off_seq H (ns_no_seq F)
  have hcc : IsCell h c vc := ⟨oc, (N _ (.head _)).1, hoc⟩
  have hcf : c ∉ fp := off_seq H (cell_no_seq hcc)
  have hcL : env.locals ≠ c := fun e => (N _ (.head _)).2.1 e.symm
  have hn0 : ∀ b ∈ wr, h₀.get? b = none := fun b hb => by
    cases q : h₀.get? b with
    | none => rfl
    | some o' => have := F.keep _ _ q; rw [H.new b hb] at this; cases this
  have N' : News h₀ env.locals h nx := fun p hp => N p (.tail _ hp)
  refine for_core G (fun i m nx => J i m nx) (tk_pairC hh W h2 hk hx hy hc hp hL hcf hcL) (fun b hb => .tail _ (.tail _ hb)) (fun hb => hL (H.sub _ hb)) (fun hb => ?_) (fun b hb => ?_) (fun i h st b hb => ?_) (fun b hb => ?_) hG ⟨H.st, vc, hcc.at fun o e => H.up _ _ e⟩ (F.keeps H.up) (N'.grown H.up) (fun p hp hm => ?_) hJ
    (fun i m₁ m₂ nx h g tk own hi hj hg hB F N hn ho hof => ?_) (fun m₁ nx h g tk hj hg F N _ => done m₁ nx h g tk hj hg F N)
  · rcases List.mem_cons.mp hb with e | hb
    · exact hcL e
    · exact hL hb
  · rcases List.mem_cons.mp hb with e | hb
    · exact .inl e
    · rcases List.mem_cons.mp hb with e | hb
      · exact .inr (e ▸ List.mem_cons_self)
      · exact .inr (.tail _ (H.sub b hb))
  · rcases List.mem_cons.mp hb with e | hb
    · exact .inl e
    · rcases List.mem_cons.mp hb with e | hb
      · obtain ⟨v, o, q, _⟩ := st.2; exact .inr ⟨o, e ▸ q⟩
      · exact .inr (H.live i h st.1 b hb)
  · rcases List.mem_cons.mp hb with e | hb
    · rw [e]; exact Heap.get?_none_of_le F.above
    · rcases List.mem_cons.mp hb with e | hb
      · rw [e]; exact (N _ (.head _)).2.2
      · exact hn0 b hb
  · rcases List.mem_cons.mp hm with e | hm
    · exact (N' p hp).2.1 e
    · rcases List.mem_cons.mp hm with e | hm
      · exact hcn p hp e
      · have := (N' p hp).1; rw [H.new _ hm] at this; cases this
  · (rcases hB with ⟨v0, v1, hP, hz1, oc', e, hd⟩)
    try clear hB
    obtain rfl := hz1
    have hoc' : (c, oc') ∈ own := by
      rcases ho c (.tail _ (.head _)) with q | ⟨o, q⟩
      · exact absurd q.symm hcL
      · have := (N _ (List.mem_append_right _ q)).1
        rw [e] at this; cases this; exact q
    refine wpAny_mono (turn i m₁ nx h g tk own v0 v1 oc' hi hj hg hP hd F (fun p hp => ?_) hof) (fun f s₃ h₃ => ?_) fun _ _ e => e
    · rcases List.mem_cons.mp hp with rfl | hp
      · exact N _ (List.mem_append_right _ hoc')
      · exact N p hp
    · have fin : FEnd h₀ env.locals G nx ((c, oc') :: own) (J (i + 1)) s₂ s₃ → FEnd h₀ env.locals G nx own (J (i + 1)) s₂ s₃ := by
        intro hz7
        (refine ex6 hz7 fun h' g' tk' m' nx' news' hz14 => ?_; refine and8 hz14 fun e hg F₃ N₃ hs ho' hne hj => ?_; clear hz14)
        try clear hz7
        exact ⟨h', g', tk', m', nx', news', e, hg, F₃, N₃, hs, fun p hp => ho' p (.tail _ hp), fun p hp => (hne p hp).imp id fun q r hr => q r (.tail _ hr), hj⟩
      cases f with
      | ret v => exact h₃
      | brk => exact h₃
      | cont => exact fin h₃
      | next => exact fin h₃
end
section
variable {prog : Program} {w : World} {A : Around} {env : Env}
theorem craw_assignQ {elt target iter : Expr} {ifs : List Expr} {scope : Scope} {cl : List (PySem.Str × Addr)} {pos py : Pos} {y : PySem.Str} {Q : Value → Shared → Prop} {E : Value → Shared → Prop} {h₀ : Heap} {m₀ : PySem.Str → Option Value} {news : List (Addr × Obj)}
    {n : Nat} {md fp : List Addr} {Bd : Nat → (PySem.Str → Option Value) → (PySem.Str → Option Value) → Heap → Prop} {St : Nat → Heap → Prop} {it : Value} {s₂ : Shared} (J : Nat → List Value → List (Addr × Obj) → Prop)
    (S : CSrc prog w A env target scope cl h₀ env.locals m₀ news n md fp Bd St it s₂) (hcell : ∀ y ∈ scope.names, y.2 ≠ .cell) (hkind : scope.kind = .function)
    (hy : env.kindOf y = some .local) (hp : (env.scope.kind == .class || (env.scope.kind == .module && env.locals != env.globals)) = false)
    (hJ : J 0 [] []) (hJl : ∀ i ys tl, J i ys tl → ys.length ≤ i)
    (turn : CTurn prog w A env elt ifs scope cl h₀ env.locals m₀ news J n Bd s₂)
    (fin : ∀ D h tk ys tl, J n ys tl → Fr h₀ env.locals h (fun z => if z = y then some (.ref D) else m₀ z) → News h₀ env.locals h ((D, lst ys) :: (news ++ tl)) → (∀ p ∈ news, p.1 < D) → (∀ p ∈ tl, ∀ q ∈ news, q.1 ≠ p.1) → ∀ v, Q v { s₂ with heap := h, toks := tk }) :
    CRaw prog w A env elt target iter ifs scope cl pos (some (assign (.Name y py) env)) Q E it s₂ := by
  refine comp_core S.T S.self S.st S.fpA S.mdA S.live S.sz hcell hkind J hJ hJl
    (fun i ys tl g C D h tk m m₁ hi hj hg hB F N hD => turn i ys tl g C D h tk m m₁ hi hj (fun b o e => hg b o (fun hb => by rw [S.md0 b hb] at e; cases e) (S.F.keep b o e)) (fun p hp => hg _ _ (fun hb => S.mdN _ hb p hp rfl) (S.N p hp).1) hB F N hD)
    fun D C h tk m' ys tl hj hD hC hk hd ht hn => ?_
  have hCs : ∀ (b : Nat) o, s₂.heap.get? b = some o → b ≠ C := fun b o e q => by have := Heap.lt_size e; rw [q, hC] at this; exact Nat.not_succ_lt_self this
  have hDC : D ≠ C := by rw [hD, hC]; exact Nat.ne_of_lt (Nat.lt_succ_self _)
  have hz20 := csrc_after S (h := h) (C := C) hD hk hd ht
  (refine and2 hz20 fun F' N' => ?_)
  try clear hz20
  have hCL : C ≠ env.locals := fun e => by obtain ⟨o, _, _, q, _⟩ := S.F.ns; exact hCs _ _ q e.symm
  show wpAny _ A (assign (.Name y py) env (.ref D)) _ _ _
  refine wpAny_assign_Name (wpAny_storeName_local hy F'.ns (fun h₂ hn₂ hs₂ => ?_) hp)
  refine ⟨m', hn.sameBut hs₂ hCL, fun h'' hs'' => ?_⟩
  have F₂ := (F'.set hn₂ hs₂)
  have N₂ : News h₀ env.locals h₂ _ := N'.set hs₂
  have hC0 : h₀.get? C = none := by
    cases q : h₀.get? C with
    | none => rfl
    | some o => exact absurd rfl (hCs _ _ (S.F.keep _ _ q))
  refine fin D h'' _ ys tl hj (F₂.change hs'' hCL hC0) (fun p hp => ⟨hs''.extBut _ _ ?_ (N₂ p hp).1, (N₂ p hp).2⟩) (fun p hp => by rw [hD]; exact Heap.lt_size (S.N p hp).1) (fun p hp q hq e => by have := (ht p hp).2.1; rw [← e, (S.N q hq).1] at this; cases this) _
  rcases List.mem_cons.mp hp with rfl | hp
  · exact hDC
  · rcases List.mem_append.mp hp with hp | hp
    · exact hCs _ _ (S.N p hp).1
    · exact (ht p hp).2.2.1
end
end Mine

end
section
open PySem PySem.W PySem.Calls PyProof.Rows
set_option Elab.async false
set_option maxRecDepth 100000
namespace Mine
/-- how many great letters' columns have the bit k, of the first i -/
noncomputable def cntN (cs cols : List Nat) (k : Nat) : Nat → Nat
  | 0 => 0
  | i + 1 => match cs[i]?, cols[i]? with
    | some c, some q => if c = lowC c then cntN cs cols k i else cntN cs cols k i + ((q >>> k) &&& 1)
    | _, _ => cntN cs cols k i
theorem cntN_le (cs cols : List Nat) (k : Nat) : ∀ i, cntN cs cols k i ≤ i
  | 0 => Nat.le_refl _
  | i + 1 => by
    have h := cntN_le cs cols k i
    unfold cntN
    split
    · split
      · exact Nat.le_succ_of_le h
      · rename_i q _ _ _
        have : (q >>> k) &&& 1 ≤ 1 := Nat.and_le_right
        exact Nat.add_le_add h this
    · exact Nat.le_succ_of_le h
theorem bit_at {q j : Nat} (hq : q < 8) (hj : j < 3) : Builtin.bitAnd (((q : Nat) : Int).fdiv (2 ^ (((j : Nat) : Int)).toNat)) 1 = (((q >>> j) &&& 1 : Nat) : Int) := by
  have tab : ∀ q < 8, ∀ j < 3, Builtin.bitAnd (((q : Nat) : Int).fdiv (2 ^ (((j : Nat) : Int)).toNat)) 1 = (((q >>> j) &&& 1 : Nat) : Int) := by decide +kernel
  exact tab q hq j hj
theorem cntN_up {cs cols : List Nat} {i c q : Nat} (hc : cs[i]? = some c) (hq : cols[i]? = some q) (h : c ≠ lowC c) (k : Nat) : cntN cs cols k (i + 1) = cntN cs cols k i + ((q >>> k) &&& 1) := by
  show (match cs[i]?, cols[i]? with
    | some c, some q => if c = lowC c then cntN cs cols k i else cntN cs cols k i + ((q >>> k) &&& 1)
    | _, _ => cntN cs cols k i) = _
  rw [hc, hq]; simp only [if_neg h]
theorem cntN_low {cs cols : List Nat} {i c q : Nat} (hc : cs[i]? = some c) (hq : cols[i]? = some q) (h : c = lowC c) (k : Nat) : cntN cs cols k (i + 1) = cntN cs cols k i := by
  show (match cs[i]?, cols[i]? with
    | some c, some q => if c = lowC c then cntN cs cols k i else cntN cs cols k i + ((q >>> k) &&& 1)
    | _, _ => cntN cs cols k i) = _
  rw [hc, hq]; simp only [if_pos h]
theorem flatten_one (f : Nat → Nat) : ∀ cs : List Nat, (cs.map fun c => [f c]).flatten = cs.map f
  | [] => rfl
  | c :: cs => by simp [flatten_one f cs]
theorem TxtsAre.at {vs : List Value} {ls : List (List Nat)} (h : TxtsAre vs ls) : ∀ {i : Nat} {v : Value}, vs[i]? = some v → ∃ a t, ls[i]? = some a ∧ v = .str (txt a) t := by
  induction h with
  | nil => intro i v e; simp at e
  | @cons a t vs ls _ ih =>
    intro i v e
    cases i with
    | zero => simp at e; exact ⟨a, t, rfl, e.symm⟩
    | succ i => simp at e; obtain ⟨b, t', h1, h2⟩ := ih e; exact ⟨b, t', by simpa using h1, h2⟩
noncomputable def text3 (a b c : Nat) : List Nat := blk a 120 ++ blk b 121 ++ blk c 122
theorem outF_text3 (a b c : Nat) : outF false (text3 a b c) = (if a % 2 = 0 then [120] else []) ++ (if b % 2 = 0 then [121] else []) ++ (if c % 2 = 0 then [122] else []) := by
  unfold text3
  rw [outF_append, outF_append, mdQ_append, mdQ_blk (by decide), mdQ_blk (by decide), outF_blk (by decide), outF_blk (by decide), outF_blk (by decide)]
theorem mdQ_text3 (a b c : Nat) : mdQ false (text3 a b c) = false := by
  unfold text3
  rw [mdQ_append, mdQ_append, mdQ_blk (by decide), mdQ_blk (by decide), mdQ_blk (by decide)]
theorem text3_len (a b c : Nat) : (text3 a b c).length = 2 * (a + b + c) + 3 := by
  unfold text3; rw [List.length_append, List.length_append, blk_len, blk_len, blk_len]; lia
theorem text3_mem {a b c d : Nat} (h : d ∈ text3 a b c) : d < 128 ∧ d ≠ 92 := by
  unfold text3 at h
  rcases List.mem_append.mp h with h | h
  · rcases List.mem_append.mp h with h | h <;> rcases mem_blk h with e | e <;> lia
  · rcases mem_blk h with e | e <;> lia
theorem stay_mem (a b c i : Nat) (hi : i < 3) : (120 + i ∈ outF false (text3 a b c)) ↔ ([a, b, c].getD i 0) % 2 = 0 := by
  rw [outF_text3]
  have := lt3 hi
  rcases this with rfl | rfl | rfl
  · by_cases h1 : a % 2 = 0 <;> by_cases h2 : b % 2 = 0 <;> by_cases h3 : c % 2 = 0 <;> simp [h1, h2, h3]
  · by_cases h1 : a % 2 = 0 <;> by_cases h2 : b % 2 = 0 <;> by_cases h3 : c % 2 = 0 <;> simp [h1, h2, h3]
  · by_cases h1 : a % 2 = 0 <;> by_cases h2 : b % 2 = 0 <;> by_cases h3 : c % 2 = 0 <;> simp [h1, h2, h3]
/-- the number that the odd counts make -/
noncomputable def synN (cs cols : List Nat) : Nat := cntN cs cols 0 cs.length % 2 + 2 * (cntN cs cols 1 cs.length % 2) + 4 * (cntN cs cols 2 cs.length % 2)
theorem synN_lt (cs cols : List Nat) : synN cs cols < 8 := by exact Nat.lt_succ_of_le (Nat.add_le_add (Nat.add_le_add (mod2 _) (Nat.mul_le_mul_left 2 (mod2 _))) (Nat.mul_le_mul_left 4 (mod2 _)))
noncomputable def turnC (c : Nat) : Nat := if c = lowC c then upC c else lowC c
noncomputable def mendF (cs ls : List Nat) : List Nat := cs.map fun c => if lowC c ∈ ls then turnC c else c
section
variable {prog : Program} {w : World} {A : Around} {E Q : Value → Shared → Prop} {s : Shared} {t u : Tok} {k : Nat}
theorem mul_q7 (hk : k ≤ 7) (h : ∀ t' k', Q (.str (txt (List.replicate k 34)) t') { s with toks := k' }) : wpAny (model prog w) A (binaryOp .Mult (.str (PySem.Str.ofString "\"") t) (.int (k : Nat) u)) Q E s := by
  have tab : ∀ k ≤ 7, Txt.mul (PySem.Str.ofString "\"") ((k : Nat) : Int) = txt (List.replicate k 34) := by decide +kernel
  refine KXi.mul (n := 1) (by decide +kernel) (by decide) (by lia) (by lia) fun t' k' _ _ => ?_
  rw [tab k hk]; exact h t' k'
theorem join_at {D : Addr} {vs : List Value} {ls : List (List Nat)} (hl : s.heap.IsList D vs.toArray) (hv : TxtsAre vs ls) (h1 : ls.length ≤ 1000) (h2 : ∀ a ∈ ls, a.length ≤ 1000)
    (h : ∀ t' k', Q (.str (txt ls.flatten) t') { s with toks := k' }) : wpAny (model prog w) A (call (.builtin "str.join") [.str (PySem.Str.ofString "") t, .ref D]) Q E s := by
  obtain ⟨l, rfl, e2⟩ := hv.strs
  have e0 : PySem.Str.ofString "" = txt [] := by decide +kernel
  refine SC.join (l := l) (texts := ls.map txt) hl e2 ?_ fun t' k' => ?_
  · unfold JoinOk
    rw [Bool.not_eq_true']
    refine StrLaws.joinFits (B := 1000) (fun y hy => ?_) ?_
    · obtain ⟨a, ha, rfl⟩ := List.mem_map.mp hy
      rw [txt_len]; exact h2 a ha
    · rw [e0, txt_len, List.length_map]; simp; exact Nat.le_trans (Nat.mul_le_mul_right 1000 h1) (by decide)
  · have e : Txt.join (PySem.Str.ofString "") (ls.map txt) = txt ls.flatten := by
      unfold Txt.join; rw [StrLaws.glued_eq_join, e0, join_flat]
    rw [e]; exact h t' k'
end
theorem xyz_at {i c : Nat} (hi : i < 3) (h : (PySem.Str.ofString "xyz").cps[i]? = some c) : c = 120 + i := by
  have := lt3 hi
  have e : (PySem.Str.ofString "xyz").cps = #[120, 121, 122] := by decide +kernel
  rw [e] at h
  rcases this with rfl | rfl | rfl <;> simp at h <;> lia
section
variable {prog : Program} {w : World} {A : Around} {E Q : Value → Shared → Prop} {s : Shared} {t u : Tok}
theorem notIn_one {x : List Nat} {c : Nat} (h : Q (.bool (!decide (c ∈ x))) s) : wpAny (model prog w) A (compareOp .NotIn (.str (one c) u) (.str (txt x) t)) Q E s :=
  SB.notContains (by unfold Txt.contains; rw [StrLaws.found_one]; exact h)
theorem in_one {x : List Nat} {c : Nat} (h : Q (.bool (decide (c ∈ x))) s) : wpAny (model prog w) A (compareOp .In (.str (one c) u) (.str (txt x) t)) Q E s :=
  SB.contains (by unfold Txt.contains; rw [StrLaws.found_one]; exact h)
end
end Mine

end
section
open PySem PySem.W PySem.Calls PyProof.Rows
set_option Elab.async false
set_option maxRecDepth 100000
namespace Mine
section
variable {prog : Program} {w : World} {A : Around} {s : Shared} {Q : Value → Shared → Prop} {E : Value → Shared → Prop}
/-- a loop over reversed(list) -/
theorem rev_at {l : Addr} {vs : List Value} (hh : A.handled = none) (hl : s.heap.IsList l vs.toArray)
    (h : ∀ (I : Addr) (h₂ : Heap) (fp : List Addr) (St : Nat → Heap → Prop), Walks prog w A I fp [I] vs.length (fun i v => vs.reverse[i]? = some v) St → NewIt fp [I] St s.heap h₂ → (∀ b ∈ fp, b = I ∨ b = l) → Q (.ref I) { s with heap := h₂ }) :
    wpAny (model prog w) A (call (.type "reversed") [.ref l]) (fun xv s₁ => wpAny (model prog w) A (pyIter xv) Q E s₁) E s := by
  refine call_reversed_list hl ?_
  have hsz : vs.toArray.size = vs.length := by simp
  have hne : l ≠ s.heap.objs.size := Nat.ne_of_lt (by obtain ⟨o, e, _⟩ := hl; exact Heap.lt_size e)
  have W := Walks.listRev (prog := prog) (w := w) hh s.heap.objs.size l hne vs.toArray
  have hit : (s.heap.push (revObj l ((vs.toArray.size : Int) - 1))).IsRevIter s.heap.objs.size l ((vs.toArray.size : Int) - 1) := ⟨_, Heap.get?_push_size _ rfl, rfl, rfl⟩
  refine wpAny_pyIter_revIter hit ?_
  rw [hsz] at W
  refine h _ _ _ _ { W with item := fun i s Q E hi st hQ => W.item i s Q E hi st fun v h' tk hP => hQ v h' tk ?_ } (NewIt.one ⟨Nat.zero_le _, ?_, hl.push _⟩ (fun b hb => ?_) List.mem_cons_self fun i h st => by obtain ⟨o, e, _⟩ := st.2.1; exact ⟨o, e⟩) fun b hb => ?_
  · rw [List.getElem?_reverse hi]
    simpa using hP
  · rw [hsz] at hit ⊢
    simpa using hit
  · rcases List.mem_cons.mp hb with e | hb
    · exact .inl e
    · obtain ⟨o, q, _, n, hd⟩ := hl; exact .inr ⟨o, _, _, (List.mem_singleton.mp hb) ▸ q, hd⟩
  · simpa using hb
end
end Mine

end
section
open PySem PySem.W PySem.Calls PyProof.Rows PyProof.V
set_option Elab.async false
set_option maxRecDepth 100000
namespace Mine
noncomputable def costF (a b : Nat) : Int := if a = b then 0 else if lowC a = lowC b then 1 else 2
/-- two words that part only in great and small -/
structure AlikeW (a b : List Nat) : Prop where
  len : a.length = b.length
  l7 : a.length ≤ 7
  a128 : ∀ c ∈ a, c < 128
  b128 : ∀ c ∈ b, c < 128
  cost : ∀ (i j c d : Nat), b[i]? = some c → a[j]? = some d → costF c d = if i = j then (if c = d then 0 else 1) else 2
theorem AlikeW.drop {a b : List Nat} (h : AlikeW a b) (k : Nat) : AlikeW (a.drop k) (b.drop k) where
  len := by rw [List.length_drop, List.length_drop, h.len]
  l7 := by rw [List.length_drop]; exact Nat.le_trans (Nat.sub_le _ _) h.l7
  a128 := fun c hc => h.a128 c (List.mem_of_mem_drop hc)
  b128 := fun c hc => h.b128 c (List.mem_of_mem_drop hc)
  cost := fun i j c d h1 h2 => by
    rw [List.getElem?_drop] at h1 h2
    rw [h.cost _ _ c d h1 h2]
    simp
theorem AlikeW.take {a b : List Nat} (h : AlikeW a b) (k : Nat) : AlikeW (a.take k) (b.take k) where
  len := by rw [List.length_take, List.length_take, h.len]
  l7 := by rw [List.length_take]; exact Nat.le_trans (Nat.min_le_right _ _) h.l7
  a128 := fun c hc => h.a128 c (List.mem_of_mem_take hc)
  b128 := fun c hc => h.b128 c (List.mem_of_mem_take hc)
  cost := fun i j c d h1 h2 => by
    rw [List.getElem?_take] at h1 h2
    split at h1 <;> split at h2 <;> first | exact h.cost _ _ c d h1 h2 | cases h1 | cases h2
/-- in how many places two words part -/
noncomputable def diffN : List Nat → List Nat → Nat
  | c :: r, d :: q => (if c = d then 0 else 1) + diffN r q
  | _, _ => 0
theorem diffN_drop : ∀ (i : Nat) (a b : List Nat), a.length = b.length → (∀ j < i, a[j]? = b[j]?) → diffN (a.drop i) (b.drop i) = diffN a b
  | 0, _, _, _, _ => rfl
  | _ + 1, [], [], _, _ => rfl
  | _ + 1, [], _ :: _, h, _ => by simp at h
  | _ + 1, _ :: _, [], h, _ => by simp at h
  | i + 1, c :: r, d :: q, h, e => by
    rw [List.drop_succ_cons, List.drop_succ_cons, diffN_drop i r q (by simpa using h) fun j hj => by simpa using e (j + 1) (by lia)]
    have := e 0 (by lia)
    simp at this
    rw [diffN, if_pos this, Nat.zero_add]
theorem diffN_take : ∀ (k : Nat) (a b : List Nat), a.length = b.length → (∀ j, k ≤ j → a[j]? = b[j]?) → diffN (a.take k) (b.take k) = diffN a b
  | 0, [], [], _, _ => rfl
  | 0, c :: r, d :: q, h, e => by
    have := e 0 (Nat.le_refl _)
    simp at this
    have ih := diffN_take 0 r q (by simpa using h) fun j _ => by simpa using e (j + 1) (by lia)
    rw [diffN, if_pos this, Nat.zero_add, ← ih]; rfl
  | _ + 1, [], [], _, _ => rfl
  | _, [], _ :: _, h, _ => by simp at h
  | _, _ :: _, [], h, _ => by simp at h
  | k + 1, c :: r, d :: q, h, e => by
    rw [List.take_succ_cons, List.take_succ_cons, diffN, diffN, diffN_take k r q (by simpa using h) fun j hj => by simpa using e (j + 1) (by lia)]
theorem diffN_self : ∀ a : List Nat, diffN a a = 0
  | [] => rfl
  | c :: r => by rw [diffN, if_pos rfl, diffN_self r]
theorem diffN_snoc : ∀ (k : Nat) (a b : List Nat) (c d : Nat), a[k]? = some c → b[k]? = some d → diffN (a.take (k + 1)) (b.take (k + 1)) = diffN (a.take k) (b.take k) + (if c = d then 0 else 1)
  | _, [], _, _, _, h, _ => by simp at h
  | _, _ :: _, [], _, _, _, h => by simp at h
  | 0, x :: a, y :: b, c, d, h, h' => by
    simp at h h'
    subst h h'
    simp [diffN]
  | k + 1, x :: a, y :: b, c, d, h, h' => by
    simp at h h'
    rw [List.take_succ_cons, List.take_succ_cons, List.take_succ_cons, List.take_succ_cons, diffN, diffN, diffN_snoc k a b c d h h', Nat.add_assoc]
theorem diffN_len (a b : List Nat) : diffN a b ≤ a.length := by
  induction a generalizing b with
  | nil => exact Nat.zero_le _
  | cons c r ih =>
    cases b with
    | nil => exact Nat.zero_le _
    | cons d q => rw [diffN, List.length_cons]; have := ih q; split <;> lia
/-- the table of the distance: row i, column j -/
noncomputable def dN (a b : List Nat) (i j : Nat) : Nat := diffN (a.take (min i j)) (b.take (min i j)) + 2 * (i - j) + 2 * (j - i)
theorem dN_diag7 {a b : List Nat} {i : Nat} (h : a.length ≤ 7) : dN a b (i + 1) (i + 1) ≤ 7 := by
  unfold dN
  have := diffN_len (a.take (min (i + 1) (i + 1))) (b.take (min (i + 1) (i + 1)))
  rw [List.length_take] at this
  rw [Nat.sub_self]
  exact Nat.le_trans this (Nat.le_trans (Nat.min_le_right _ _) h)
/-- one step of the table: the signs' places and the distance so far are small, so that the step is a table of its own -/
abbrev dT (t i j : Nat) : Nat := t + 2 * (i - j) + 2 * (j - i)
abbrev stepI (x y z c : Int) : Int := if x + c < (if y < z then y else z) + 2 then x + c else (if y < z then y else z) + 2
theorem step_lt : ∀ i < 7, ∀ j < 7, ∀ t < 8, ∀ e < 2, i < j → stepI (dT t i j : Nat) (dT t i (j + 1) : Nat) (if j = 0 then 2 * i else dT (t + e) (i + 1) j : Nat) 2 = (dT (t + e) (i + 1) (j + 1) : Nat) := by decide +kernel
theorem step_eq : ∀ i < 7, ∀ t < 8, ∀ e < 2, (i = 0 → t = 0) → stepI (dT t i i : Nat) (dT t i (i + 1) : Nat) (if i = 0 then 2 * i else dT t (i + 1) i : Nat) (e : Nat) = (dT (t + e) (i + 1) (i + 1) : Nat) := by decide +kernel
set_option synthInstance.maxSize 4000 in
set_option synthInstance.maxHeartbeats 400000 in
theorem step_gt : ∀ i < 7, ∀ j < 7, ∀ t < 8, ∀ e < 2, (j < i ∧ (j = 0 → t = 0)) → stepI (dT t i j : Nat) (dT (t + e) i (j + 1) : Nat) (if j = 0 then 2 * i else dT t (i + 1) j : Nat) 2 = (dT (t + e) (i + 1) (j + 1) : Nat) := by decide +kernel
theorem bit_lt {p : Prop} [Decidable p] : (if p then 0 else 1 : Nat) < 2 := by split <;> decide
theorem take_len7 {a : List Nat} {k : Nat} (h : a.length ≤ 7) (b : List Nat) : diffN (a.take k) b < 8 := by
  have h1 := diffN_len (a.take k) b
  rw [List.length_take] at h1
  exact Nat.lt_succ_of_le (Nat.le_trans h1 (Nat.le_trans (Nat.min_le_right _ _) h))
theorem dN_step {a b : List Nat} {i j x y res : Nat} {c : Int} (ha7 : a.length ≤ 7) (hb7 : b.length ≤ 7) (hy : b[i]? = some y) (hx : a[j]? = some x) (hc : c = if i = j then (if y = x then 0 else 1) else 2)
    (hr : res = if j = 0 then 2 * i else dN a b (i + 1) j) :
    (if ((dN a b i j : Nat) : Int) + c < (if ((dN a b i (j + 1) : Nat) : Int) < ((res : Nat) : Int) then ((dN a b i (j + 1) : Nat) : Int) else ((res : Nat) : Int)) + 2 then ((dN a b i j : Nat) : Int) + c else (if ((dN a b i (j + 1) : Nat) : Int) < ((res : Nat) : Int) then ((dN a b i (j + 1) : Nat) : Int) else ((res : Nat) : Int)) + 2) = ((dN a b (i + 1) (j + 1) : Nat) : Int) := by
  have hi7 : i < 7 := Nat.lt_of_lt_of_le (List.getElem?_eq_some_iff.mp hy).1 hb7
  have hj7 : j < 7 := Nat.lt_of_lt_of_le (List.getElem?_eq_some_iff.mp hx).1 ha7
  subst hr
  unfold dN
  rcases Nat.lt_trichotomy i j with h | h | h
  · rw [Nat.min_eq_left (Nat.le_of_lt h), Nat.min_eq_left (Nat.le_succ_of_le (Nat.le_of_lt h)), Nat.min_eq_left (Nat.succ_le_of_lt h), Nat.min_eq_left (Nat.succ_le_succ (Nat.le_of_lt h))]
    rw [if_neg (Nat.ne_of_lt h)] at hc
    have hi : i < a.length := Nat.lt_trans h (List.getElem?_eq_some_iff.mp hx).1
    rw [hc, diffN_snoc i a b _ y (List.getElem?_eq_getElem hi) hy]
    exact step_lt i hi7 j hj7 _ (take_len7 ha7 _) _ bit_lt h
  · subst h
    rw [Nat.min_self, Nat.min_eq_left (Nat.le_succ i), Nat.min_eq_right (Nat.le_succ i), Nat.min_self]
    rw [if_pos rfl] at hc
    have hc' : c = ((if x = y then 0 else 1 : Nat) : Int) := by
      rw [hc]
      by_cases q : x = y
      · rw [if_pos q, if_pos q.symm]; rfl
      · rw [if_neg q, if_neg fun e => q e.symm]; rfl
    rw [hc', diffN_snoc i a b x y hx hy]
    exact step_eq i hi7 _ (take_len7 ha7 _) _ bit_lt (by rintro rfl; rfl)
  · rw [Nat.min_eq_right (Nat.le_of_lt h), Nat.min_eq_right (Nat.succ_le_of_lt h), Nat.min_eq_right (Nat.le_succ_of_le (Nat.le_of_lt h)), Nat.min_eq_right (Nat.succ_le_succ (Nat.le_of_lt h))]
    rw [if_neg (Nat.ne_of_gt h)] at hc
    have hi : j < b.length := Nat.lt_trans h (List.getElem?_eq_some_iff.mp hy).1
    rw [hc, diffN_snoc j a b x _ hx (List.getElem?_eq_getElem hi)]
    exact step_gt i hi7 j hj7 _ (take_len7 ha7 _) _ bit_lt ⟨h, by rintro rfl; rfl⟩
/-- the row within the inner loop -/
noncomputable def rowN (a b : List Nat) (i j : Nat) : List Int := (List.range a.length).map fun x => if x < j then ((dN a b (i + 1) (x + 1) : Nat) : Int) else ((dN a b i (x + 1) : Nat) : Int)
theorem rowN_len (a b : List Nat) (i j : Nat) : (rowN a b i j).length = a.length := by simp [rowN]
theorem rowN_get {a b : List Nat} {i j : Nat} (h : j < a.length) : (rowN a b i j)[j]? = some ((dN a b i (j + 1) : Nat) : Int) := by
  simp [rowN, h]
theorem rowN_set {a b : List Nat} {i j : Nat} (h : j < a.length) : (rowN a b i j).set j ((dN a b (i + 1) (j + 1) : Nat) : Int) = rowN a b i (j + 1) := by
  refine List.ext_getElem? fun x => ?_
  rw [List.getElem?_set]
  have hl := rowN_len a b i j
  by_cases e : j = x
  · subst e
    rw [if_pos rfl, hl, if_pos h]
    simp [rowN, h]
  · rw [if_neg e]
    by_cases q : x < a.length
    · simp only [rowN, List.getElem?_map, List.getElem?_range q, Option.map_some]
      by_cases q1 : x < j
      · rw [if_pos q1, if_pos (by lia)]
      · rw [if_neg q1, if_neg (by lia)]
    · rw [List.getElem?_eq_none (by rw [hl]; lia), List.getElem?_eq_none (by rw [rowN_len]; lia)]
theorem rowN_next (a b : List Nat) (i : Nat) : rowN a b i a.length = rowN a b (i + 1) 0 := by
  unfold rowN
  refine List.map_congr_left fun x hx => ?_
  rw [if_pos (List.mem_range.mp hx), if_neg (Nat.not_lt_zero x)]
theorem rowN_zero (a b : List Nat) : rowN a b 0 0 = (List.range a.length).map fun i => (((2 * (i + 1) : Nat)) : Int) := by
  unfold rowN dN
  refine List.map_congr_left fun x hx => ?_
  rw [if_neg (Nat.not_lt_zero x), Nat.zero_min]
  simp [diffN]
theorem dN_diag {a b : List Nat} (h : a.length = b.length) : dN a b b.length a.length = diffN a b := by
  unfold dN
  rw [h, Nat.min_self, Nat.sub_self, List.take_length, ← h, List.take_length]
  lia
theorem truthy_txt {prog : Program} {w : World} {A : Around} {s : Shared} {Q : Bool → Shared → Prop} {E : Value → Shared → Prop} {l : List Nat} {t : Tok} (hp : 0 < l.length) (hz : l.length ≤ 1000000) (h : ∀ k, Q true { s with toks := k }) : wpAny (model prog w) A (PySem.truthy (.str (txt l) t)) Q E s :=
  KXt.truthy_pos (K := 1000000) (by rw [txt_len]; exact hp) (by rw [txt_len]; exact hz) (by decide) h
/-- «post or None» at post = -k -/
noncomputable def postV (k : Nat) (t : Tok) : Value := if k = 0 then .none else .int (-(k : Int)) t
section
variable {prog : Program} {w : World} {A : Around} {env : Env} {E Q : Value → Shared → Prop} {s : Shared} {h₀ : Heap} {L : Addr} {m : PySem.Str → Option Value} {news : List (Addr × Obj)} {l : List Nat} {k c : Nat} {t u : Tok} {value slice : Expr}
theorem post_truthy {pos pc : Pos} {kx : Nat} (h : Q (postV k t) s) : wpAny (model prog w) A (truthy (.int (-(k : Int)) t)) (fun c s₂ => if c = true then Q (.int (-(k : Int)) t) s₂ else wpAny (model prog w) A (eval (.BoolOp .Or [.Constant .none kx pc] pos) env) Q E s₂) E s := by
  refine truthy_int ?_
  unfold postV at h
  split at h
  · rename_i e
    subst e
    rw [if_neg (by decide)]
    exact BoolOp_one (Constant_none h)
  · rw [if_pos (by rw [bne_iff_ne]; lia)]
    exact h
theorem slice_post (F : Fr h₀ L s.heap m) (N : News h₀ L s.heap news) (h1 : k ≤ l.length) (hz : l.length ≤ 1000000) (h : ∀ h' t' k', Fr h₀ L h' m → News h₀ L h' news → Q (.str (txt (l.take (l.length - k))) t') { s with heap := h', toks := k' })
    (hs : subscripted slice false (.str (txt l) t) (.ref s.heap.objs.size) = operate [.ref s.heap.objs.size, .str (txt l) t] (getItem (.str (txt l) t) (.ref s.heap.objs.size)) := by with_unfolding_all rfl)
    (ht : ∀ r, letTemporaryGo value (.str (txt l) t) r = pure () := by intro _; with_unfolding_all rfl) :
    wpAny (model prog w) A (subscriptTail value slice (.str (txt l) t) (.ref s.heap.objs.size)) Q E { s with heap := s.heap.push { cls := .type "slice", data := .fields #[.none, postV k u, .none] } } := by
  unfold postV
  split
  · rename_i e
    subst e
    rw [Nat.sub_zero, List.take_length] at h
    exact slice_nn F N hz h hs ht
  · exact slice_neg F N (by lia) h1 hz h hs ht
theorem sub_post (hk : k < l.length) (hc : l[l.length - (k + 1)]? = some c) (hz : l.length ≤ 1000000) (h : Q (.str (one c) s.toks) { s with toks := s.toks + 1 })
    (hs : ∀ i : Int, subscripted slice false (.str (txt l) t) (.int i u) = operate [.str (txt l) t, .int i u] (getItem (.str (txt l) t) (.int i u)) := by intro _; with_unfolding_all rfl)
    (ht : ∀ r, letTemporaryGo value (.str (txt l) t) r = pure () := by intro _; with_unfolding_all rfl) :
    wpAny (model prog w) A (subscriptTail value slice (.str (txt l) t) (.int (-(k : Int) - 1) u)) Q E s := by
  have e : -(k : Int) - 1 = -((k + 1 : Nat) : Int) := by lia
  rw [e]
  exact sub_neg (Nat.succ_pos k) hk hc hz h (hs _) ht
end
theorem row_list {prog : Program} {w : World} {A : Around} {E Q : Value → Shared → Prop} {s : Shared} {h₀ : Heap} {L r : Addr} {m : PySem.Str → Option Value} {news : List (Addr × Obj)} {n : Nat} {t u v : Tok} (hh : A.handled = none) (F : Fr h₀ L s.heap m) (N : News h₀ L s.heap news)
    (hr : IsRange s.heap r 2 (2 * ((n : Int) + 1)) 2 t u v) (hn : n ≤ 7)
    (h : ∀ h' tk D ys c, Fr h₀ L h' m → News h₀ L h' ((D, listO ys c) :: news) → (∀ p ∈ news, p.1 ≠ D) → IntsAre ys ((List.range n).map fun i => (((2 * (i + 1) : Nat)) : Int)) → Q (.ref D) { s with heap := h', toks := tk }) :
    wpAny (model prog w) A (call (.type "list") [.ref r]) Q E s := by
  have tab : ∀ n ≤ 7, Builtin.Range.small 2 (2 * ((n : Nat) : Int) + 2) 2 = true ∧ Builtin.Range.rangeSize 2 (2 * ((n : Nat) : Int) + 2) 2 = ((n : Nat) : Int) := by decide +kernel
  have e : 2 * ((n : Int) + 1) = 2 * (n : Int) + 2 := by lia
  rw [e] at hr
  refine list_rangeD hh F N hr (tab n hn).1 (tab n hn).2 (by lia) fun h' tk ys F' N' up hnone hl P hc => ?_
  obtain ⟨⟨c, hD⟩, hne⟩ := P
  refine h h' tk _ ys c F' (fun q hq => ?_) hne ?_
  · rcases List.mem_cons.mp hq with rfl | hq
    · exact ⟨hD, NewPlain.ne_locals ⟨⟨c, hD⟩, hne⟩ F', hnone⟩
    · exact N' q hq
  · have := IntsAre.ofCarried hc
    unfold rangeInts at this
    have e2 : (List.range n).map (fun i : Nat => (2 : Int) + (i : Int) * 2) = (List.range n).map fun i => (((2 * (i + 1) : Nat)) : Int) := List.map_congr_left fun i _ => by lia
    rwa [e2] at this
end Mine

end
section
open PySem PySem.W PySem.Calls PyProof.Rows PyProof.V
set_option Elab.async false
set_option maxRecDepth 100000
namespace Mine
theorem ints_each : ∀ {ws : List Value}, (∀ v ∈ ws, ∃ x t, v = .int x t) → ∃ ms, IntsAre ws ms
  | [], _ => ⟨[], .nil⟩
  | v :: r, h => by
    obtain ⟨x, t, rfl⟩ := h v (.head _)
    obtain ⟨ms, hm⟩ := ints_each fun v hv => h v (.tail _ hv)
    exact ⟨x :: ms, .cons x t hm⟩
theorem ints_mem {vs : List Value} {ns : List Int} (h : IntsAre vs ns) : ∀ v ∈ vs, ∃ x t, v = .int x t := by
  induction h with
  | nil => exact fun _ h => nomatch h
  | cons n t _ ih =>
    intro v hv
    rcases List.mem_cons.mp hv with rfl | hv
    · exact ⟨n, t, rfl⟩
    · exact ih v hv
section
variable {prog : Program} {w : World} {A : Around} {E Q : Value → Shared → Prop} {s : Shared} {h₀ : Heap} {L l : Addr} {m : PySem.Str → Option Value} {news : List (Addr × Obj)} {value slice : Expr} {vs : List Value} {ns : List Int}
theorem slice3_ints {vl vu vk : Value} {lo up st : Option Int} {ops : List Value} (F : Fr h₀ L s.heap m) (N : News h₀ L s.heap news) (hl : s.heap.IsList l vs.toArray) (hi : IntsAre vs ns) (pl : IsPart vl lo) (pu : IsPart vu up) (pk : IsPart vk st) (h0 : st ≠ some 0) (hz : ns.length ≤ 1000)
    (h : ∀ D ws ms h', Fr h₀ L h' m → News h₀ L h' ((D, listO ws 0) :: news) → (∀ p ∈ news, p.1 < D) → IntsAre ws ms → Q (.ref D) { s with heap := h' })
    (hs : subscripted slice false (.ref l) (.ref s.heap.objs.size) = operate ops (getItem (.ref l) (.ref s.heap.objs.size)) := by with_unfolding_all rfl) (ht : ∀ r, letTemporaryGo value (.ref l) r = pure () := by intro _; with_unfolding_all rfl) :
    wpAny (model prog w) A (subscriptTail value slice (.ref l) (.ref s.heap.objs.size)) Q E { s with heap := s.heap.push { cls := .type "slice", data := .fields #[vl, vu, vk] } } := by
  obtain ⟨ws, hws⟩ : ∃ ws, (slicePick vs.toArray lo up st).toList = ws := ⟨_, rfl⟩
  have hsub : ∀ v ∈ ws, v ∈ vs := fun v hv => by
    rw [← hws] at hv
    unfold slicePick at hv
    obtain ⟨i, _, e⟩ := List.mem_filterMap.mp hv
    exact List.mem_of_getElem? (by simpa using e)
  obtain ⟨ms, hms⟩ := ints_each fun v hv => ints_mem hi v (hsub v hv)
  refine kmk_slice3_lit F N hl pl pu pk h0 hws (fun D h' F' N' l1 => h D ws ms h' F' N' l1 hms) hs ht ?_
  rw [List.size_toArray, hi.length, sizeLine_eq]; lia
theorem slice2_ints {x y : Int} {t u : Tok} (F : Fr h₀ L s.heap m) (N : News h₀ L s.heap news) (hl : s.heap.IsList l vs.toArray) (hi : IntsAre vs ns) (hx : 0 ≤ x) (hy : 0 ≤ y) (hz : ns.length ≤ 1000)
    (h : ∀ D ws h', Fr h₀ L h' m → News h₀ L h' ((D, listO ws 0) :: news) → (∀ p ∈ news, p.1 < D) → IntsAre ws ((ns.drop x.toNat).take (min y.toNat ns.length - x.toNat)) → Q (.ref D) { s with heap := h' })
    (hs : subscripted slice false (.ref l) (.ref s.heap.objs.size) = operate [.ref s.heap.objs.size, .ref l] (getItem (.ref l) (.ref s.heap.objs.size)) := by with_unfolding_all rfl) (ht : ∀ r, letTemporaryGo value (.ref l) r = pure () := by intro _; with_unfolding_all rfl) :
    wpAny (model prog w) A (subscriptTail value slice (.ref l) (.ref s.heap.objs.size)) Q E { s with heap := s.heap.push { cls := .type "slice", data := .fields #[.int x t, .int y u, .none] } } :=
  kmk_slice_ints F N hl (.int x t) (.int y u) hi (kmk_run hi hx hy) rfl (fun D ws h' F' N' l1 hm _ _ => h D ws h' F' N' l1 hm) hs ht (by rw [List.size_toArray, hi.length, sizeLine_eq]; lia)
end
end Mine

end
section
open PySem PySem.W PySem.Calls PyProof.Rows PyProof.V
set_option Elab.async false
set_option maxRecDepth 100000
namespace Mine
/-! ## the sort's tree of questions, its keys apart -/
noncomputable def tOk {α : Type} (lt : Nat → Nat → Bool) (n : Nat) : KasT α → (α → Prop) → Prop
  | .ret a, P => P a
  | .ask i j k, P => i < n ∧ j < n ∧ tOk lt n (k (lt i j)) P
theorem tOk_bind {α β : Type} {lt : Nat → Nat → Bool} {n : Nat} {f : α → KasT β} {P : β → Prop} : ∀ t : KasT α, tOk lt n t (fun a => tOk lt n (f a) P) → tOk lt n (t.bind f) P
  | .ret _, h => h
  | .ask i j k, ⟨h1, h2, h3⟩ => ⟨h1, h2, tOk_bind (k (lt i j)) h3⟩
theorem tOk_mono {α : Type} {lt : Nat → Nat → Bool} {n : Nat} {P P' : α → Prop} (hp : ∀ a, P a → P' a) : ∀ t : KasT α, tOk lt n t P → tOk lt n t P'
  | .ret _, h => hp _ h
  | .ask i j k, ⟨h1, h2, h3⟩ => ⟨h1, h2, tOk_mono hp (k (lt i j)) h3⟩
theorem tOk_wp {α : Type} {lt : Nat → Nat → Bool} {n : Nat} {cmp : Nat → Nat → (Bool → Shared → Prop) → Shared → Prop} {I : Shared → Prop} {P : α → Prop} {Q : α → Shared → Prop}
    (hc : ∀ i j C s, i < n → j < n → I s → (∀ s', I s' → C (lt i j) s') → cmp i j C s) (hq : ∀ a s, P a → I s → Q a s) : ∀ (t : KasT α) (s : Shared), I s → tOk lt n t P → t.kasWp cmp Q s
  | .ret _, s, hi, h => hq _ s h hi
  | .ask i j k, s, hi, ⟨h1, h2, h3⟩ => hc i j _ s h1 h2 hi fun s' hi' => tOk_wp hc hq (k (lt i j)) s' hi' h3
section
variable {K : Nat → Int} {n : Nat}
noncomputable def ky (K : Nat → Int) (p : Array Nat) (i : Nat) : Int := K (p.getD i 0)
noncomputable def Prm (n : Nat) (p : Array Nat) : Prop := p.Perm (List.toArray (List.range n))
theorem Prm.list {p : Array Nat} (h : Prm n p) : p.toList.Perm (List.range n) := Array.perm_iff_toList_perm.mp h
theorem Prm.size {p : Array Nat} (h : Prm n p) : p.size = n := by
  have := h.list.length_eq
  simpa using this
theorem Prm.at {p : Array Nat} (h : Prm n p) {i : Nat} (hi : i < n) : p.getD i 0 = p[i]'(h.size ▸ hi) := by
  rw [Array.getD_eq_getD_getElem?, Array.getElem?_eq_getElem (h.size ▸ hi)]; rfl
theorem Prm.lt {p : Array Nat} (h : Prm n p) {i : Nat} (hi : i < n) : p.getD i 0 < n := by
  rw [h.at hi]
  have : p[i]'(h.size ▸ hi) ∈ p.toList := by simp
  exact List.mem_range.mp (h.list.mem_iff.mp this)
theorem Prm.inj {p : Array Nat} (h : Prm n p) {i j : Nat} (hi : i < n) (hj : j < n) (e : p.getD i 0 = p.getD j 0) : i = j := by
  rw [h.at hi, h.at hj] at e
  have nd : p.toList.Nodup := h.list.nodup_iff.mpr List.nodup_range
  have h1 : i < p.toList.length := by simpa using h.size ▸ hi
  have h2 : j < p.toList.length := by simpa using h.size ▸ hj
  have pw := List.pairwise_iff_getElem.mp nd
  rcases Nat.lt_trichotomy i j with q | q | q
  · exact absurd (by simpa using e) (pw i j h1 h2 q)
  · exact q
  · exact absurd (by simpa using e.symm) (pw j i h2 h1 q)
theorem Prm.ne {p : Array Nat} (h : Prm n p) (hK : ∀ a b, a < n → b < n → K a = K b → a = b) {i j : Nat} (hi : i < n) (hj : j < n) (hij : i ≠ j) : ky K p i ≠ ky K p j := fun e =>
  hij (h.inj hi hj (hK _ _ (h.lt hi) (h.lt hj) e))
noncomputable def SA (K : Nat → Int) (p : Array Nat) (m : Nat) : Prop := ∀ a b, a < b → b < m → ky K p a < ky K p b
noncomputable def SD (K : Nat → Int) (p : Array Nat) (m : Nat) : Prop := ∀ a b, a < b → b < m → ky K p b < ky K p a
abbrev ltK (K : Nat → Int) : Nat → Nat → Bool := fun i j => decide (K i < K j)
theorem asc_ok (hK : ∀ a b, a < n → b < n → K a = K b → a = b) {p : Array Nat} (hp : Prm n p) : ∀ (f m : Nat), 1 ≤ m → m + f ≤ n → SA K p m → tOk (ltK K) n (kas_asc p f m) fun r => m ≤ r ∧ r ≤ m + f ∧ SA K p r ∧ (r < m + f → ky K p r < ky K p (r - 1))
  | 0, m, _, _, h => ⟨Nat.le_refl _, Nat.le_refl _, h, fun q => absurd q (Nat.lt_irrefl _)⟩
  | f + 1, m, h1, hm, h => by
    have hmn := sc_lt hm
    refine ⟨hp.lt hmn, hp.lt (sub1_lt_of hmn), ?_⟩
    by_cases c : ky K p m < ky K p (m - 1)
    · rw [show ltK K (p.getD m 0) (p.getD (m - 1) 0) = true from decide_eq_true c]
      dsimp only
      rw [if_pos rfl]
      exact ⟨Nat.le_refl _, Nat.le_add_right _ _, h, fun _ => c⟩
    · rw [show ltK K (p.getD m 0) (p.getD (m - 1) 0) = false from decide_eq_false c]
      dsimp only
      rw [if_neg (by decide)]
      refine tOk_mono (fun r ⟨a1, a2, a3, a4⟩ => ⟨Nat.le_of_succ_le a1, le_sc a2, a3, fun q => a4 (lt_sc q)⟩) _ (asc_ok hK hp f (m + 1) (Nat.le_add_left 1 m) (sc_le hm) fun a b hab hb => ?_)
      rcases Nat.lt_or_ge b m with q | q
      · exact h a b hab q
      · have e : b = m := eq_of_ls q hb
        subst e
        have hne := hp.ne hK (i := b) (j := b - 1) hmn (sub1_lt_of hmn) (Nat.ne_of_gt (sub1_lt h1))
        rcases Nat.lt_or_ge a (b - 1) with q2 | q2
        · exact Int.lt_trans (h a (b - 1) q2 (sub1_lt h1)) (lt_n c hne)
        · have e2 : a = b - 1 := Nat.le_antisymm (Nat.le_sub_one_of_lt hab) q2
          subst e2; exact lt_n c hne
theorem desc_ok (hK : ∀ a b, a < n → b < n → K a = K b → a = b) {p : Array Nat} (hp : Prm n p) : ∀ (f m : Nat), 1 ≤ m → m + f ≤ n → SD K p m → tOk (ltK K) n (kas_desc f p m 0) fun r => ∃ k, r = (p, k, 0) ∧ m ≤ k ∧ k ≤ m + f ∧ SD K p k
  | 0, m, _, _, h => ⟨m, rfl, Nat.le_refl _, Nat.le_refl _, h⟩
  | f + 1, m, h1, hm, h => by
    have hmn := sc_lt hm
    refine ⟨hp.lt hmn, hp.lt (sub1_lt_of hmn), ?_⟩
    have hne := hp.ne hK (i := m) (j := m - 1) hmn (sub1_lt_of hmn) (Nat.ne_of_gt (sub1_lt h1))
    by_cases c : ky K p m < ky K p (m - 1)
    · rw [show ltK K (p.getD m 0) (p.getD (m - 1) 0) = true from decide_eq_true c]
      dsimp only
      rw [if_pos rfl, if_neg (Nat.lt_irrefl 0)]
      refine tOk_mono (fun r ⟨k, a1, a2, a3, a4⟩ => ⟨k, a1, Nat.le_of_succ_le a2, le_sc a3, a4⟩) _ (desc_ok hK hp f (m + 1) (Nat.le_add_left 1 m) (sc_le hm) fun a b hab hb => ?_)
      rcases Nat.lt_or_ge b m with q | q
      · exact h a b hab q
      · have e : b = m := eq_of_ls q hb
        subst e
        rcases Nat.lt_or_ge a (b - 1) with q2 | q2
        · exact Int.lt_trans c (h a (b - 1) q2 (sub1_lt h1))
        · have e2 : a = b - 1 := Nat.le_antisymm (Nat.le_sub_one_of_lt hab) q2
          subst e2; exact c
    · rw [show ltK K (p.getD m 0) (p.getD (m - 1) 0) = false from decide_eq_false c]
      dsimp only
      rw [if_neg (by decide)]
      have d : ky K p (m - 1) < ky K p m := lt_n c hne
      refine ⟨hp.lt (sub1_lt_of hmn), hp.lt hmn, ?_⟩
      rw [show ltK K (p.getD (m - 1) 0) (p.getD m 0) = true from decide_eq_true d]
      dsimp only
      rw [if_pos rfl]
      exact ⟨m, rfl, Nat.le_refl _, Nat.le_add_right _ _, h⟩
theorem ky_rev {p : Array Nat} {m : Nat} (hp : Prm n p) (hm : m ≤ n) (i : Nat) : ky K (kas_rev p 0 m) i = if i < m then ky K p (m - 1 - i) else ky K p i := by
  have e := getElem?_mirror_all (xs := p) (i := 0) (j := m) (by rw [hp.size]; exact hm) i
  unfold ky kas_rev
  rw [Array.getD_eq_getD_getElem?, e]
  by_cases h : i < m
  · rw [if_pos ⟨Nat.zero_le _, h⟩, if_pos h, Array.getD_eq_getD_getElem?, Nat.zero_add]
  · rw [if_neg fun q => h q.2, if_neg h, Array.getD_eq_getD_getElem?]
theorem prm_rev {p : Array Nat} {m : Nat} (hp : Prm n p) : Prm n (kas_rev p 0 m) := (mirror_perm _ _ _ _).trans hp
theorem tail_ok (hK : ∀ a b, a < n → b < n → K a = K b → a = b) {p : Array Nat} (hp : Prm n p) {k : Nat} (h1 : 1 ≤ k) (hk : k ≤ n) (h : SD K p k) : tOk (ltK K) n (kas_tail3 k n p) fun r => 1 ≤ r.1 ∧ r.1 ≤ n ∧ Prm n r.2 ∧ SA K r.2 r.1 := by
  unfold kas_tail3
  refine tOk_bind _ (tOk_mono (fun r ⟨a1, a2, a3, _⟩ => ⟨Nat.le_trans h1 a1, Nat.le_trans a2 (add_sub_le hk), prm_rev hp, a3⟩) _ (asc_ok hK (prm_rev hp) (n - k) k h1 (add_sub_le hk) fun a b hab hb => ?_))
  rw [ky_rev hp hk, ky_rev hp hk, if_pos (Nat.lt_trans hab hb), if_pos hb]
  exact h _ _ (rsub_lt hab hb) (Nat.lt_of_le_of_lt (Nat.sub_le _ _) (sub1_lt h1))
theorem count_ok (hK : ∀ a b, a < n → b < n → K a = K b → a = b) {p : Array Nat} (hp : Prm n p) (h1 : 1 ≤ n) : tOk (ltK K) n (kas_count n p) fun r => 1 ≤ r.1 ∧ r.1 ≤ n ∧ Prm n r.2 ∧ SA K r.2 r.1 := by
  unfold kas_count
  refine tOk_bind _ (tOk_mono (fun r ⟨a1, a2, a3, a4⟩ => ?_) _ (asc_ok hK hp (n - 1) 1 (Nat.le_refl _) (add_sub_le h1) fun a b hab hb => absurd hab (by lia)))
  have hrn := Nat.le_trans a2 (add_sub_le h1)
  by_cases c : r = n
  · subst c
    rw [if_pos (by simp)]
    exact ⟨a1, Nat.le_refl _, hp, a3⟩
  · rw [if_neg (by simpa using c)]
    by_cases c2 : r > 1
    · rw [if_pos c2]
      refine ⟨hp.lt h1, hp.lt (Nat.lt_of_lt_of_le (sub1_lt a1) hrn), ?_⟩
      rw [show ltK K (p.getD 0 0) (p.getD (r - 1) 0) = true from decide_eq_true (a3 0 (r - 1) (Nat.sub_pos_of_lt c2) (sub1_lt a1))]
      dsimp only
      rw [if_pos rfl]
      exact ⟨a1, hrn, hp, a3⟩
    · rw [if_neg c2]
      have e : r = 1 := Nat.le_antisymm (Nat.le_of_not_lt c2) a1
      subst e
      have h2 : 1 < n := Nat.lt_of_le_of_ne h1 c
      have a5 := a4 (Nat.lt_add_of_pos_right (Nat.sub_pos_of_lt h2))
      unfold kas_descPart
      refine tOk_bind _ (tOk_mono ?tm _ (desc_ok hK hp (n - (1 + 1)) (1 + 1) (by decide) (add_sub_le h2) ?td))
      case tm =>
        intro r
        intro hz1
        (refine ex1 hz1 fun k hz4 => ?_; refine and4 hz4 fun b1 b2 b3 b4 => ?_; clear hz4)
        try clear hz1
        subst b1
        rw [if_neg (Nat.lt_irrefl 0)]
        show tOk (ltK K) n (kas_tail3 k n p) _
        exact tail_ok hK hp (Nat.le_of_succ_le b2) (Nat.le_trans b3 (add_sub_le h2)) b4
      case td =>
        intro a b hab hb
        have ea : a = 0 := by lia
        have eb : b = 1 := by lia
        subst ea eb
        exact a5
theorem place_ok (hK : ∀ a b, a < n → b < n → K a = K b → a = b) {p : Array Nat} (hp : Prm n p) {k : Nat} (hk : k < n) (hs : SA K p k) : ∀ (f l r : Nat), l ≤ r → r ≤ k → r - l ≤ f → (∀ a, a < l → ky K p a < ky K p k) → (∀ a, r ≤ a → a < k → ky K p k < ky K p a) →
    tOk (ltK K) n (kas_place p k f l r) fun x => x ≤ k ∧ (∀ a, a < x → ky K p a < ky K p k) ∧ ∀ a, x ≤ a → a < k → ky K p k < ky K p a
  | 0, l, r, h1, h2, h3, h4, h5 => ⟨Nat.le_trans h1 h2, h4, fun a ha hb => h5 a (Nat.le_trans (Nat.le_of_sub_eq_zero (Nat.le_zero.mp h3)) ha) hb⟩
  | f + 1, l, r, h1, h2, h3, h4, h5 => by
    unfold kas_place
    by_cases c : l ≥ r
    · rw [if_pos c]
      exact ⟨Nat.le_trans h1 h2, h4, fun a ha hb => h5 a (Nat.le_trans c ha) hb⟩
    · rw [if_neg c]
      have m1 : l ≤ (l + r) / 2 := lo_mid h1
      have m2 : (l + r) / 2 < r := mid_hi (Nat.lt_of_not_le c)
      have m3 : r - ((l + r) / 2 + 1) ≤ f := Nat.le_trans (Nat.sub_le_sub_left (Nat.succ_le_succ m1) r) (Nat.pred_le_pred h3)
      have m4 : (l + r) / 2 - l ≤ f := Nat.le_of_lt_succ (Nat.lt_of_lt_of_le (Nat.sub_lt_sub_right m1 m2) h3)
      generalize (l + r) / 2 = md at *
      have hmd := Nat.lt_of_lt_of_le m2 h2
      refine ⟨hp.lt hk, hp.lt (Nat.lt_trans hmd hk), ?_⟩
      have hne := hp.ne hK (i := k) (j := md) hk (Nat.lt_trans hmd hk) (Nat.ne_of_gt hmd)
      by_cases d : ky K p k < ky K p md
      · rw [show ltK K (p.getD k 0) (p.getD md 0) = true from decide_eq_true d]
        dsimp only
        rw [if_pos rfl]
        refine place_ok hK hp hk hs f l md m1 (Nat.le_of_lt hmd) m4 h4 fun a ha hb => ?_
        rcases Nat.lt_or_ge md a with q | q
        · exact Int.lt_trans d (hs md a q hb)
        · have e : a = md := Nat.le_antisymm q ha
          subst e; exact d
      · rw [show ltK K (p.getD k 0) (p.getD md 0) = false from decide_eq_false d]
        dsimp only
        rw [if_neg (by decide)]
        refine place_ok hK hp hk hs f (md + 1) r m2 h2 m3 (fun a ha => ?_) h5
        rcases Nat.lt_or_ge a md with q | q
        · exact Int.lt_trans (hs a md q hmd) (lt_n d hne)
        · have e : a = md := eq_of_ls q ha
          subst e; exact lt_n d hne
theorem bin_ok (hK : ∀ a b, a < n → b < n → K a = K b → a = b) : ∀ (f : Nat) (p : Array Nat) (k : Nat), Prm n p → k + f = n → SA K p k → tOk (ltK K) n (kas_bin f p k) fun q => Prm n q ∧ SA K q n
  | 0, p, k, hp, he, hs => ⟨hp, by rw [← he]; exact hs⟩
  | f + 1, p, k, hp, he, hs => by
    unfold kas_bin
    have hkn : k < n := sc_lt (Nat.le_of_eq he)
    refine tOk_bind _ (tOk_mono (fun l ⟨a1, a2, a3⟩ => ?_) _ (place_ok hK hp (k := k) hkn hs k 0 k (Nat.zero_le _) (Nat.le_refl _) (Nat.le_refl _) (fun a ha => absurd ha (Nat.not_lt_zero _)) fun a ha hb => absurd hb (Nat.not_lt.mpr ha)))
    have hb : ∀ i, ky K (bubble p k (k - l)) i = if i = l then ky K p k else if l < i ∧ i ≤ k then ky K p (i - 1) else ky K p i := fun i => by
      have e := getElem?_bubble (xs := p) (src := k) (by rw [hp.size]; exact hkn) (k - l) (Nat.sub_le _ _) i
      have e2 : k - (k - l) = l := Nat.sub_sub_self a1
      rw [e2] at e
      unfold ky
      rw [Array.getD_eq_getD_getElem?, e]
      split
      · rw [Array.getD_eq_getD_getElem?]
      · split <;> rw [Array.getD_eq_getD_getElem?]
    refine bin_ok hK f _ (k + 1) ((bubble_perm _ _ _).trans hp) ((Nat.add_right_comm k 1 f).trans he) fun a b hab hbk => ?_
    have hbk' := Nat.le_of_lt_succ hbk
    have hb2 : b - 1 < k := Nat.lt_of_lt_of_le (sub1_lt (Nat.lt_of_le_of_lt (Nat.zero_le a) hab)) hbk'
    rw [hb a, hb b]
    by_cases x1 : a = l
    · rw [if_pos x1, if_neg (x1 ▸ Nat.ne_of_gt hab), if_pos ⟨x1 ▸ hab, hbk'⟩]
      exact a3 _ (Nat.le_sub_one_of_lt (x1 ▸ hab)) hb2
    · rw [if_neg x1]
      by_cases x2 : b = l
      · rw [if_pos x2, if_neg fun q => Nat.lt_irrefl _ (Nat.lt_trans (Nat.lt_of_lt_of_eq hab x2) q.1)]
        exact a2 a (Nat.lt_of_lt_of_eq hab x2)
      · rw [if_neg x2]
        by_cases x3 : l < a
        · rw [if_pos ⟨x3, Nat.le_trans (Nat.le_of_lt hab) hbk'⟩, if_pos ⟨Nat.lt_trans x3 hab, hbk'⟩]
          exact hs _ _ (Nat.sub_lt_sub_right (Nat.lt_of_le_of_lt (Nat.zero_le l) x3) hab) hb2
        · rw [if_neg fun q => x3 q.1]
          by_cases x4 : l < b
          · rw [if_pos ⟨x4, hbk'⟩]
            exact hs _ _ (Nat.lt_of_lt_of_le (Nat.lt_of_le_of_ne (Nat.le_of_not_lt x3) x1) (Nat.le_sub_one_of_lt x4)) hb2
          · rw [if_neg fun q => x4 q.1]
            exact hs _ _ hab (Nat.lt_of_lt_of_le (Nat.lt_of_le_of_ne (Nat.le_of_not_lt x4) x2) a1)
theorem sort_ok (hK : ∀ a b, a < n → b < n → K a = K b → a = b) (h1 : 1 ≤ n) : tOk (ltK K) n (kas_sort n) fun q => Prm n q ∧ SA K q n := by
  unfold kas_sort
  refine tOk_bind _ (tOk_mono (fun r ⟨a1, a2, a3, a4⟩ => ?_) _ (count_ok hK (p := List.toArray (List.range n)) (Array.Perm.refl _) h1))
  by_cases c : r.1 < n
  · rw [if_pos c]
    have em : max r.1 1 = r.1 := Nat.max_eq_left a1
    exact bin_ok hK _ _ _ a3 (by rw [em]; exact Nat.add_sub_cancel' a2) (by rw [em]; exact a4)
  · rw [if_neg c]
    have e : r.1 = n := Nat.le_antisymm a2 (Nat.le_of_not_lt c)
    exact ⟨a3, by rw [← e]; exact a4⟩
end
end Mine

end
section
open PySem PySem.W PySem.Calls PyProof.Rows PyProof.V
set_option Elab.async false
set_option maxRecDepth 100000
namespace Mine
section
variable {prog : Program} {w : World} {A : Around} {E : Value → Shared → Prop} {s : Shared} {h₀ : Heap} {L D : Addr} {m : PySem.Str → Option Value} {rest : List (Addr × Obj)} {vs : List Value} {ps : List (Int × Int)} {c : Nat}
theorem HP.at {h : Heap} (H : HP h vs ps) {i : Nat} (hi : i < ps.length) : ∃ a t u, vs.getD i Value.none = .ref a ∧ h.get? a = some (tup2 (.int (ps.getD i (0, 0)).1 t) (.int (ps.getD i (0, 0)).2 u)) := by
  induction H generalizing i with
  | nil => exact absurd hi (Nat.not_lt_zero _)
  | @cons a x y t u vs ps ha _ ih =>
    cases i with
    | zero => exact ⟨a, t, u, rfl, ha⟩
    | succ i => exact ih (by simpa using hi)
theorem HP.firsts {h : Heap} (H : HP h vs ps) : ∃ fs, KatTups h vs fs ∧ fs.length = ps.length ∧ ∀ v ∈ fs, ∃ x t, v = .int x t := by
  induction H with
  | nil => exact ⟨[], KatTups.nil, rfl, fun _ h => nomatch h⟩
  | @cons a x y t u vs ps ha _ ih =>
    (refine ex1 ih fun fs hz2 => ?_; refine and3 hz2 fun k e hv => ?_; clear hz2)
    try clear ih
    refine ⟨.int x t :: fs, KatTups.cons (n := 0) ha rfl rfl rfl k, by simp [e], fun v hm => ?_⟩
    rcases List.mem_cons.mp hm with rfl | hm
    · exact ⟨x, t, rfl⟩
    · exact hv v hm
/-- one question of the sort, over pairs whose firsts part -/
theorem pair_ask {C : Bool → Shared → Prop} {i j : Nat} (H : HP s.heap vs ps) (hd : (ps.map (·.1)).Nodup) (hi : i < ps.length) (hj : j < ps.length)
    (h : C (ltK (fun i => (ps.getD i (0, 0)).1) i j) s) : kas_ask prog w A (tuples' true) vs i j C s := by
  have hz3 := H.at hi
  (refine ex3 hz3 fun a t u hz4 => ?_; refine and2 hz4 fun ea ga => ?_; clear hz4)
  try clear hz3
  have hz7 := H.at hj
  (refine ex3 hz7 fun b t' u' hz8 => ?_; refine and2 hz8 fun eb gb => ?_; clear hz8)
  try clear hz7
  unfold kas_ask
  rw [ea, eb]
  refine kat_lt (n := 0) (k := 0) ga rfl gb rfl ?_
  refine kat_cons (wpAny_eqBool_int ?_)
  by_cases hij : i = j
  · subst hij
    rw [beq_self_eq_true]
    refine kat_yes (kat_cons (wpAny_eqBool_int ?_))
    rw [beq_self_eq_true]
    refine kat_yes (kat_nil ?_)
    have : ltK (fun i => (ps.getD i (0, 0)).1) i i = false := decide_eq_false (Int.lt_irrefl _)
    rw [this] at h
    exact h
  · have hne : (ps.getD i (0, 0)).1 ≠ (ps.getD j (0, 0)).1 := fun e => by
      have pw := List.pairwise_iff_getElem.mp hd
      have h1 : i < (ps.map (·.1)).length := by simpa using hi
      have h2 : j < (ps.map (·.1)).length := by simpa using hj
      have e' : (ps.map (·.1))[i] = (ps.map (·.1))[j] := by
        simpa [List.getD_eq_getElem?_getD, hi, hj] using e
      rcases Nat.lt_trichotomy i j with q | q | q
      · exact pw i j h1 h2 q e'
      · exact hij q
      · exact pw j i h2 h1 q e'.symm
    rw [beq_eq_false_iff_ne.mpr hne]
    refine kat_no ?_
    exact oneLt_int h
theorem perm_pairs {p : Array Nat} (hp : Prm ps.length p) : (p.toList.map fun i => ps.getD i (0, 0)).Perm ps := by
  have h1 := hp.list.map fun i => ps.getD i (0, 0)
  have e : (List.range ps.length).map (fun i => ps.getD i (0, 0)) = ps := by
    refine List.ext_getElem (by simp) fun i h1 h2 => ?_
    have h3 : i < ps.length := h2
    simp [List.getD_eq_getElem?_getD, h3]
  rwa [e] at h1
theorem pin_pick (H : PIn rest vs ps) : ∀ l : List Nat, (∀ i ∈ l, i < ps.length) → PIn rest (l.map fun i => vs.getD i Value.none) (l.map fun i => ps.getD i (0, 0))
  | [], _ => .nil
  | i :: l, hl => by
    have hi := hl i (.head _)
    have key : ∀ {vs : List Value} {ps : List (Int × Int)} (i : Nat), PIn rest vs ps → i < ps.length → ∃ a t u, vs.getD i Value.none = .ref a ∧ (a, tup2 (.int (ps.getD i (0, 0)).1 t) (.int (ps.getD i (0, 0)).2 u)) ∈ rest := by
      intro vs ps i H hi
      induction H generalizing i with
      | nil => exact absurd hi (Nat.not_lt_zero _)
      | @cons a x y t u vs ps ha _ ih =>
        cases i with
        | zero => exact ⟨a, t, u, rfl, ha⟩
        | succ i => exact ih i (by simpa using hi)
    have hz11 := key i H hi
    (refine ex3 hz11 fun a t u hz12 => ?_; refine and2 hz12 fun e hm => ?_; clear hz12)
    try clear hz11
    rw [List.map_cons, List.map_cons, e]
    exact .cons hm (pin_pick H l fun j hj => hl j (.tail _ hj))
theorem lsort_big {tl : List (Addr × Obj)} {Q : Value → Shared → Prop} (F : Fr h₀ L s.heap m) (N : News h₀ L s.heap ((D, listO vs c) :: rest)) (hsep : ∀ q ∈ rest, q.1 ≠ D) (hsub : ∀ q ∈ tl, q ∈ rest) (hp : PIn tl vs ps) (h2 : 2 ≤ ps.length) (h64 : ps.length < 64) (hd : (ps.map (·.1)).Nodup)
    (h : ∀ h' vs' ps' c', Fr h₀ L h' m → News h₀ L h' ((D, listO vs' c') :: rest) → PIn tl vs' ps' → ps'.Perm ps → ps'.Pairwise (fun a b => a.1 < b.1) → Q .none { s with heap := h' }) :
    wpAny (model prog w) A (call (.builtin "list.sort") [.ref D]) Q E s := by
  have hlen : vs.length = ps.length := (hp.heap fun q hq => (N q (.tail _ (hsub q hq))).1 : HP s.heap vs ps).length
  refine kat_lsort (its := vs.toArray) (n := c) F N (.head hsep) rfl (by rw [hlen]; exact h2) (by rw [hlen]; exact h64) fun e1 h' F' N' => ?_
  have H' : HP h' vs ps := hp.heap fun q hq => (N' q (.tail _ (hsub q hq))).1
  have hz15 := H'.firsts
  (refine ex1 hz15 fun fs hz16 => ?_; refine and3 hz16 fun hk hfl hfv => ?_; clear hz16)
  try clear hz15
  refine kat_kind (T := .type "int") hk (by lia) (fun v hv => ?_) (by decide) ?_
  · have hz18 := hfv v hv
    (refine ex2 hz18 fun x t hz19 => ?_)
    try clear hz18
    obtain rfl := hz19
    exact Looks.of_pure rfl
  rw [show (Value.type "int" != Value.type "tuple") = true by decide]
  refine tOk_wp (I := fun s' => s' = { s with heap := h' }) (P := fun p => Prm ps.length p ∧ SA (fun i => (ps.getD i (0, 0)).1) p ps.length) (lt := ltK fun i => (ps.getD i (0, 0)).1) (n := ps.length)
    (fun i j C s' hi hj hs' hc => ?_) (fun p s' hp' hs' => ?_) _ _ rfl (hlen ▸ sort_ok (fun a b ha hb e => ?_) (by lia))
  · subst hs'
    exact pair_ask (s := { s with heap := h' }) H' hd hi hj (hc _ rfl)
  · subst hs'
    refine KasFin.intro F' N' (.head hsep) fun h'' c' F'' N'' => ?_
    refine h h'' _ (p.toList.map fun i => ps.getD i (0, 0)) c' F'' N'' (pin_pick hp _ fun i hi => List.mem_range.mp (hp'.1.list.mem_iff.mp hi)) (perm_pairs hp'.1) ?_
    rw [List.pairwise_map, List.pairwise_iff_getElem]
    intro i j hi hj hij
    have hs := hp'.1.size
    have hi' : i < p.size := by simpa using hi
    have hj' : j < p.size := by simpa using hj
    have := hp'.2 i j hij (by lia)
    unfold ky at this
    rw [hp'.1.at (by lia), hp'.1.at (by lia)] at this
    simpa using this
  · rw [hlen] at ha hb
    have pw := List.pairwise_iff_getElem.mp hd
    have h1 : a < (ps.map (·.1)).length := by simpa using ha
    have h2' : b < (ps.map (·.1)).length := by simpa using hb
    have e' : (ps.map (·.1))[a] = (ps.map (·.1))[b] := by
      simpa [List.getD_eq_getElem?_getD, ha, hb] using e
    rcases Nat.lt_trichotomy a b with q | q | q
    · exact absurd e' (pw a b h1 h2' q)
    · exact q
    · exact absurd e'.symm (pw b a h2' h1 q)
theorem lsort_small {Q : Value → Shared → Prop} (F : Fr h₀ L s.heap m) (N : News h₀ L s.heap ((D, listO vs c) :: rest)) (hsep : ∀ q ∈ rest, q.1 ≠ D) (h2 : vs.length < 2)
    (h : ∀ h' c', Fr h₀ L h' m → News h₀ L h' ((D, listO vs c') :: rest) → Q .none { s with heap := h' }) :
    wpAny (model prog w) A (call (.builtin "list.sort") [.ref D]) Q E s := by
  have nz := N _ (.head _)
  have ho : s.heap.get? D = some (seqObj "list" vs.toArray c) := nz.1
  have N₀ : News h₀ L s.heap rest := fun q hq => N q (.tail _ hq)
  refine wpAny_call_entry slot_list_sort ⟨_, nz.1, rfl⟩ entry_list_sort ?_ (args_list_sort _)
  rw [list_sort_plain]
  have s1 := Heap.SameBut.update s.heap D (Obj.mapSeq fun _ => (#[] : Array Value))
  have hz21 : ∃ e1, (s.heap.update D (Obj.mapSeq fun _ => (#[] : Array Value))).get? D = some (seqObj "list" #[] e1) := ⟨_, get?_update_seq ho fun _ => #[]⟩
  (refine ex1 hz21 fun e1 ho1 => ?_)
  try clear hz21
  have F3 : Fr h₀ L (((s.heap.update D (Obj.mapSeq fun _ => (#[] : Array Value))).push (seqObj "tuple" vs.toArray 0)).push (seqObj "list" #[] 0)) m := ((kas_fr F s1 nz.2.1 nz.2.2).push _).push _
  have N3 : News h₀ L (((s.heap.update D (Obj.mapSeq fun _ => (#[] : Array Value))).push (seqObj "tuple" vs.toArray 0)).push (seqObj "list" #[] 0)) rest :=
    (kas_news N₀ s1 hsep).grown fun b x e => Heap.get?_push_of_some _ (Heap.get?_push_of_some _ e)
  have ho6 : (((s.heap.update D (Obj.mapSeq fun _ => (#[] : Array Value))).push (seqObj "tuple" vs.toArray 0)).push (seqObj "list" #[] 0)).get? D = some (seqObj "list" #[] e1) := Heap.get?_push_of_some _ (Heap.get?_push_of_some _ ho1)
  have hz : vs.length ≤ sizeLine := by rw [sizeLine_eq]; lia
  refine wpAny_bind (listItems_at ho rfl ?_)
  refine wpAny_bind (listUpdate_at ho rfl ?_ (by rw [List.size_toArray]; exact hz) (Nat.zero_le _))
  refine wpAny_bind (seqEpoch_at ho1 rfl ?_)
  refine wpAny_bind (wpAny_newTuple ?_ hz)
  refine wpAny_bind (wpAny_newList ?_ (Nat.zero_le _))
  refine wpAny_holding ?_
  show wpAny (model prog w) A.in1 _ _ _ { s with heap := ((s.heap.update D (Obj.mapSeq fun _ => (#[] : Array Value))).push (seqObj "tuple" vs.toArray 0)).push (seqObj "list" #[] 0) }
  dsimp only
  have hn2 : vs.toArray.size < 2 := by rw [List.size_toArray]; exact h2
  rw [if_pos hn2, if_pos hn2]
  refine wpAny_bind (wpAny_pure ?_)
  rw [StateT.run_pure]
  refine wpAny_bind (wpAny_pure ?_)
  dsimp only
  have hout : ((arrOf (SortSt.mk' general' (vs.toArray.zip vs.toArray) #[] 7 none)).map (·.2)) = vs.toArray := by
    apply Array.toList_inj.mp
    show ((vs.toArray.zip vs.toArray).map (·.2)).toList = _
    rw [Array.toList_map, Array.toList_zip]
    exact List.map_snd_zip (Nat.le_refl _)
  have s2 := Heap.SameBut.update (((s.heap.update D (Obj.mapSeq fun _ => (#[] : Array Value))).push (seqObj "tuple" vs.toArray 0)).push (seqObj "list" #[] 0)) D (Obj.mapSeq fun _ => vs.toArray)
  have hz22 : ∃ c2, ((((s.heap.update D (Obj.mapSeq fun _ => (#[] : Array Value))).push (seqObj "tuple" vs.toArray 0)).push (seqObj "list" #[] 0)).update D (Obj.mapSeq fun _ => vs.toArray)).get? D = some (seqObj "list" vs.toArray c2) := ⟨_, get?_update_seq ho6 fun _ => vs.toArray⟩
  (refine ex1 hz22 fun c2 hc2 => ?_)
  try clear hz22
  rw [hout]
  refine wpAny_bind (seqEpoch_at ho6 rfl ?_)
  refine wpAny_bind (listUpdate_at ho6 rfl ?_ (Nat.zero_le _) ?_)
  · simp only [bne_self_eq_false, Bool.false_eq_true, if_false]
    show wpAny _ _ (pure _) _ _ _
    refine wpAny_pure ⟨_, rfl, ?_⟩
    refine h _ c2 (kas_fr F3 ?_ nz.2.1 nz.2.2) fun q hq => ?_
    · exact s2
    · rcases List.mem_cons.mp hq with rfl | hq
      · exact ⟨hc2, nz.2⟩
      · exact kas_news N3 s2 hsep q hq
  · rw [List.size_toArray]; exact Nat.le_succ_of_le hz
theorem pw_small {R : Int × Int → Int × Int → Prop} : ∀ {l : List (Int × Int)}, l.length < 2 → l.Pairwise R
  | [], _ => .nil
  | [_], _ => List.pairwise_singleton _ _
theorem lsort_pairs {tl : List (Addr × Obj)} {Q : Value → Shared → Prop} (F : Fr h₀ L s.heap m) (N : News h₀ L s.heap ((D, listO vs c) :: rest)) (hsep : ∀ q ∈ rest, q.1 ≠ D) (hsub : ∀ q ∈ tl, q ∈ rest) (hp : PIn tl vs ps) (h64 : ps.length < 64) (hd : (ps.map (·.1)).Nodup)
    (h : ∀ h' vs' ps' c', Fr h₀ L h' m → News h₀ L h' ((D, listO vs' c') :: rest) → PIn tl vs' ps' → ps'.Perm ps → ps'.Pairwise (fun a b => a.1 < b.1) → Q .none { s with heap := h' }) :
    wpAny (model prog w) A (call (.builtin "list.sort") [.ref D]) Q E s := by
  rcases Nat.lt_or_ge ps.length 2 with h2 | h2
  · have hlen : vs.length = ps.length := (hp.heap fun q hq => (N q (.tail _ (hsub q hq))).1 : HP s.heap vs ps).length
    refine lsort_small F N hsep (by lia) fun h' c' F' N' => h h' vs ps c' F' N' hp (List.Perm.refl _) ?_
    exact pw_small h2
  · exact lsort_big F N hsep hsub hp h2 h64 hd h
theorem sorted_pairs {l : Addr} {news tl : List (Addr × Obj)} {Q : Value → Shared → Prop} (F : Fr h₀ L s.heap m) (N : News h₀ L s.heap news) (hl : s.heap.IsList l vs.toArray) (hsub : ∀ q ∈ tl, q ∈ news) (hp : PIn tl vs ps) (h64 : ps.length < 64) (hd : (ps.map (·.1)).Nodup)
    (h : ∀ B h' vs' ps' c', Fr h₀ L h' m → News h₀ L h' ((B, listO vs' c') :: news) → (∀ q ∈ news, q.1 < B) → PIn tl vs' ps' → ps'.Perm ps → ps'.Pairwise (fun a b => a.1 < b.1) → Q (.ref B) { s with heap := h' }) :
    wpAny (model prog w) A (call (.builtin "sorted") [.ref l]) Q E s := by
  have hlen : vs.length = ps.length := (hp.heap fun q hq => (N q (hsub q hq)).1 : HP s.heap vs ps).length
  have hz : vs.length ≤ sizeLine := by rw [sizeLine_eq]; lia
  refine Calls.call_function_entry kind_sorted plain_sorted entry_sorted (args_sorted1 _) ?_
  unfold Builtin.«sorted»
  refine wpAny_bind (m := checkCount "sorted" 1 1 _) (wpAny_pure ?_)
  refine wpAny_bind (collect_list hl ?_ hz)
  refine wpAny_bind (wpAny_newList ?_ hz)
  have hsz : ((s.heap.push (seqObj "list" #[] 0)).update s.heap.objs.size (Obj.mapSeq (· ++ vs.toArray))).objs.size = s.heap.objs.size + 1 := by
    rw [Heap.size_update, size_push']
  have keep0 : ∀ b o, s.heap.get? b = some o → ((s.heap.push (seqObj "list" #[] 0)).update s.heap.objs.size (Obj.mapSeq (· ++ vs.toArray))).get? b = some o := fun b o q => by
    have hlt : b < s.heap.objs.size := Heap.lt_size q
    rw [Heap.get?_update_ne _ _ _ _ (Nat.ne_of_lt hlt), Heap.get?_push_ne _ _ _ (Nat.ne_of_lt hlt)]
    exact q
  have hg := lsort_pairs (prog := prog) (w := w) (A := A.in1) (E := E) (c := 0) (Q := fun _ s' => Q (.ref (s.heap.objs.size + 1)) s')
    (s := { s with heap := ((s.heap.push (seqObj "list" #[] 0)).update s.heap.objs.size (Obj.mapSeq (· ++ vs.toArray))).push (seqObj "list" vs.toArray 0) })
    (D := s.heap.objs.size + 1) ((F.kept keep0).push _) (by
      have := News.push (F.kept keep0) (N.grown keep0) (seqObj "list" vs.toArray 0) rfl
      rw [hsz] at this
      exact this) (fun q hq => Nat.ne_of_lt (Nat.lt_succ_of_lt (Heap.lt_size (N q hq).1))) hsub hp h64 hd fun h' vs' ps' c' F' N' hp' hpm hpw => h _ h' vs' ps' c' F' N' (fun q hq => Nat.lt_succ_of_lt (Heap.lt_size (N q hq).1)) hp' hpm hpw
  show wpAny _ _ _ _ _ { s with heap := ((s.heap.push (seqObj "list" #[] 0)).update s.heap.objs.size (Obj.mapSeq (· ++ vs.toArray))).push (seqObj "list" vs.toArray 0) }
  rw [hsz]
  refine wpAny_bind (wpAny_holding (wpAny_mono hg (fun _ s' x => ?_) fun _ _ e => e))
  exact wpAny_pure ⟨_, rfl, x⟩
theorem flat_cons (h : Heap) {x y : Int} {r : List (Int × Int)} {kvs : List (Int × Value)} (hf : FlatPairs PyData.int kvs (kdfD ((x, y) :: r))) :
    ∃ v kvs', kvs = (x, v) :: kvs' ∧ (∃ u, v = .int y u) ∧ FlatPairs PyData.int kvs' (kdfD r) := by
  generalize hD : kdfD ((x, y) :: r) = DD at hf
  cases hf with
  | nil => cases hD
  | @cons k v d kvs' D' hfl hf' =>
    have e1 : (PyData.int x, PyData.int y) = (PyData.int k, d) := (List.cons.inj hD).1
    have e2 : kdfD r = D' := (List.cons.inj hD).2
    injection e1 with e1 e3
    injection e1 with e1
    subst e1 e3 e2
    exact ⟨v, kvs', rfl, by have := hfl h; cases this; exact ⟨_, rfl⟩, hf'⟩
theorem tup_at {h : Heap} {a : Addr} {x : Int} {v : Value} {y : Int} {u : Tok} (hv : v = .int y u)
    (hg : ∃ key k x', (some (x, v) : Option (Int × Value)) = some (k, x') ∧ (PySem.intKind prog w).is k key = true ∧ h.get? a = some { cls := .type "tuple", data := .seq #[key, x'] }) :
    ∃ t, h.get? a = some (tup2 (.int x t) (.int y u)) := by
  obtain ⟨key, k', x', f1, f2, f3⟩ := hg
  injection f1 with f1
  injection f1 with f4 f5
  subst f4 f5 hv
  obtain ⟨t, rfl⟩ := Value.isInt_shape f2
  exact ⟨t, f3⟩
theorem items_tups {h : Heap} : ∀ (ps : List (Int × Int)) (kvs : List (Int × Value)) (as : List Addr), FlatPairs PyData.int kvs (kdfD ps) → as.length = kvs.length →
    (∀ (j : Nat) (a : Addr), as[j]? = some a → ∃ key k x, kvs[j]? = some (k, x) ∧ (PySem.intKind prog w).is k key = true ∧ h.get? a = some { cls := .type "tuple", data := .seq #[key, x] }) →
    ∃ tups : List (Addr × Obj), (∀ q ∈ tups, q.1 ∈ as ∧ h.get? q.1 = some q.2) ∧ PIn tups (as.map Value.ref) ps
  | [], kvs, as, hf, hl, _ => by
    cases hf
    have : as = [] := List.length_eq_zero_iff.mp hl
    subst this
    exact ⟨[], (fun _ h => nomatch h), PIn.nil⟩
  | p :: r, kvs, as, hf, hl, hg => by
    refine ex2 (flat_cons h hf) fun v kvs' e => ?_
    refine and3 e fun e hu hf' => ?_
    refine ex1 hu fun u hu => ?_
    subst e
    refine ex2 (List.exists_cons_of_length_eq_add_one hl) fun a as' e => ?_
    subst e
    refine ex1 (tup_at (w := w) (prog := prog) hu (hg 0 a rfl)) fun t f3 => ?_
    refine ex1 (items_tups r kvs' as' hf' (Nat.succ.inj hl) fun j b hb => hg (j + 1) b hb) fun tups hz => ?_
    refine and2 hz fun ht hp => ?_
    refine ⟨(a, tup2 (.int p.1 t) (.int p.2 u)) :: tups, fun q hq => ?_, .cons (.head _) (hp.mono fun _ h => .tail _ h)⟩
    rcases List.mem_cons.mp hq with rfl | hq
    · exact ⟨.head _, f3⟩
    · exact ⟨.tail _ (ht q hq).1, (ht q hq).2⟩
/-- sorted(d.items()) of a dict of ints -/
theorem sorted_items {v d : Addr} {od : Obj} {kvs : List (Int × Value)} {news : List (Addr × Obj)} {Q : Value → Shared → Prop} (hh : A.handled = none) (F : Fr h₀ L s.heap m) (N : News h₀ L s.heap news) (hvw : (v, { cls := .type "dict_items", data := .fields #[.ref d] }) ∈ news) (hmd : (d, od) ∈ news)
    (hod : od.IsDictOf (PySem.intKind prog w) kvs) (hf : FlatPairs PyData.int kvs (kdfD ps)) (h64 : ps.length < 64) (hd : (ps.map (·.1)).Nodup)
    (h : ∀ B h' tk vs' ps' c' tups, Fr h₀ L h' m → News h₀ L h' ((B, listO vs' c') :: (tups ++ news)) → (∀ q ∈ news, q.1 < B) → (∀ q ∈ tups, q.1 ≠ B) → PIn tups vs' ps' → ps'.Perm ps → ps'.Pairwise (fun a b => a.1 < b.1) → (∀ q ∈ tups, ∀ r ∈ news, q.1 ≠ r.1) → Q (.ref B) { s with heap := h', toks := tk }) :
    wpAny (model prog w) A (call (.builtin "sorted") [.ref v]) Q E s := by
  have hz34 := KdkAt.of hod
  (refine ex1 hz34 fun ep hat => ?_)
  try clear hz34
  have hkl : kvs.length = ps.length := by have := hf.length; simp [kdfD] at this; lia
  have hn : kvs.length ≤ sizeLine := by rw [sizeLine_eq]; lia
  refine Calls.call_function_entry kind_sorted plain_sorted entry_sorted (args_sorted1 _) ?_
  unfold Builtin.«sorted»
  refine wpAny_bind (m := checkCount "sorted" 1 1 _) (wpAny_pure ?_)
  refine wpAny_bind (kdx_collect (A := A.in1) (knd := PySem.intKind prog w) (kvs := kvs) (ep := ep) hh ⟨_, (N _ hvw).1, rfl, rfl⟩ (hat.dictAt (N _ hmd).1) hn fun h' tk as hk hl hG => ?_)
  refine wpAny_bind (wpAny_newList ?_ (by rw [List.length_map, hl]; exact hn))
  have hz35 := items_tups (prog := prog) (w := w) ps kvs as hf hl hG.pairs
  (refine ex1 hz35 fun tups hz36 => ?_; refine and2 hz36 fun ht hpt => ?_; clear hz36)
  try clear hz35
  have N' : News h₀ L h' (tups ++ news) := fun q hq => by
    rcases List.mem_append.mp hq with hq | hq
    · exact ⟨(ht q hq).2, kdx_fresh F (Nat.le_of_lt (hG.above _ (ht q hq).1))⟩
    · exact ⟨hk _ _ (N q hq).1, (N q hq).2⟩
  have F' : Fr h₀ L h' m := F.keeps hk
  have hg := lsort_pairs (prog := prog) (w := w) (A := A.in1) (E := E) (c := 0) (Q := fun _ s' => Q (.ref h'.objs.size) s') (rest := tups ++ news)
    (s := { s with heap := h'.push { cls := .type "list", data := .seq (as.map Value.ref).toArray }, toks := tk })
    (D := h'.objs.size) (F'.push _) (News.push F' N' _ rfl) (fun q hq => Nat.ne_of_lt (Heap.lt_size (N' q hq).1)) (fun _ hq => List.mem_append_left _ hq) hpt h64 hd fun h2 vs' ps' c' F2 N2 hp' hpm hpw => ?_
  · refine wpAny_bind (wpAny_holding (wpAny_mono hg (fun _ s' x => ?_) fun _ _ e => e))
    exact wpAny_pure ⟨_, rfl, x⟩
  · refine h _ h2 tk vs' ps' c' tups F2 N2 (fun q hq => Heap.lt_size (N' q (List.mem_append_right _ hq)).1) (fun q hq => Nat.ne_of_lt (Heap.lt_size (N' q (List.mem_append_left _ hq)).1)) hp' hpm hpw fun q hq r hr => Nat.ne_of_gt (Nat.lt_trans (Heap.lt_size (N r hr).1) (hG.above _ (ht q hq).1))
end
section
variable {prog : Program} {w : World} {A : Around} {E : Value → Shared → Prop} {s : Shared} {h₀ : Heap} {L a b : Addr} {news n₁ n₂ : List (Addr × Obj)} {xs ys : List Value} {ps : List (Int × Int)} {ka kb : Nat}
noncomputable def datP (p : Int × Int) : Dat := .tuple [.int p.1, .int p.2]
theorem datAll_pairs (H : PIn n₁ xs ps) : DatAll n₁ xs (ps.map datP) := by
  induction H with
  | nil => exact .nil
  | cons ha _ ih => exact .cons (.tuple (n := 0) (vs := [_, _]) ha (.cons (.int _ _) (.cons (.int _ _) .nil))) ih
theorem datP_ok : ∀ d ∈ ps.map datP, kqdOk 8 d = true := fun d hd => by
  have hz37 := List.mem_map.mp hd
  (refine ex1 hz37 fun p hz39 => ?_; refine and2 hz39 fun _ hz38 => ?_; clear hz39)
  try clear hz37
  obtain rfl := hz38
  rfl
/-- two lists of the same pairs do not part -/
theorem ne_pairs {Q : Value → Shared → Prop} (N : News h₀ L s.heap news) (ma : (a, listO xs ka) ∈ news) (ha : PIn n₁ xs ps) (sa : ∀ p ∈ n₁, p ∈ news) (mb : (b, listO ys kb) ∈ news) (hb : PIn n₂ ys ps) (sb : ∀ p ∈ n₂, p ∈ news)
    (hu : A.units + 64 < cLine) (h : Q (.bool false) s) : wpAny (model prog w) A (compareOp .NotEq (.ref a) (.ref b)) Q E s :=
  kqd_ne N ma rfl rfl (datAll_pairs ha) sa mb rfl rfl (datAll_pairs hb) sb datP_ok datP_ok hu (by simpa using h)
theorem sorted_uniq : ∀ {l l' : List (Int × Int)}, l.Perm l' → l.Pairwise (fun a b => a.1 < b.1) → l'.Pairwise (fun a b => a.1 < b.1) → l = l'
  | [], l', h, _, _ => (List.nil_perm.mp h).symm ▸ rfl
  | a :: l, [], h, _, _ => absurd h.length_eq (by simp)
  | a :: l, b :: l', h, h1, h2 => by
    have h1' := List.pairwise_cons.mp h1
    have h2' := List.pairwise_cons.mp h2
    have e : a = b := by
      rcases List.mem_cons.mp (h.mem_iff.mp (List.mem_cons_self (a := a) (l := l))) with e | ha
      · exact e
      · rcases List.mem_cons.mp (h.mem_iff.mpr (List.mem_cons_self (a := b) (l := l'))) with e | hb
        · exact e.symm
        · have q1 := h2'.1 a ha
          have q2 := h1'.1 b hb
          lia
    subst e
    rw [sorted_uniq (List.Perm.cons_inv h) h1'.2 h2'.2]
end
end Mine

end
section
open PySem PySem.W PySem.Calls PyProof.Rows PyProof.V
set_option Elab.async false
set_option maxRecDepth 100000
namespace Mine
theorem PIn.drop {tl : List (Addr × Obj)} : ∀ {vs ps} (k : Nat), PIn tl vs ps → PIn tl (vs.drop k) (ps.drop k)
  | _, _, 0, h => h
  | _, _, _ + 1, .nil => .nil
  | _, _, k + 1, .cons _ r => r.drop k
theorem PIn.at {tl : List (Addr × Obj)} : ∀ {vs ps} {i : Nat} {x y : Int}, PIn tl vs ps → ps[i]? = some (x, y) → ∃ a t u, vs[i]? = some (.ref a) ∧ (a, tup2 (.int x t) (.int y u)) ∈ tl
  | _, _, 0, _, _, .cons e _, hx => by simp at hx; obtain ⟨rfl, rfl⟩ := hx; exact ⟨_, _, _, rfl, e⟩
  | _, _, i + 1, _, _, .cons _ r, hx => by simp at hx; obtain ⟨a, t, u, q, e⟩ := r.at hx; exact ⟨a, t, u, by simpa using q, e⟩
theorem take_sift_yes {α β : Type} {l : List α} {j : Nat} {a : α} {c : α → Bool} (f : α → β) (h : l[j]? = some a) (hc : c a = true) : ((l.take (j + 1)).filter c).map f = ((l.take j).filter c).map f ++ [f a] := by
  rw [List.take_add_one, h]; simp [hc]
theorem take_sift_no {α β : Type} {l : List α} {j : Nat} {a : α} {c : α → Bool} (f : α → β) (h : l[j]? = some a) (hc : c a = false) : ((l.take (j + 1)).filter c).map f = ((l.take j).filter c).map f := by
  rw [List.take_add_one, h]; simp [hc]
theorem sift_yes {S : List (Int × Int)} {j : Nat} {x y : Int} {t : Tok} {c : Int × Int → Bool} {ys : List Value} (hJ : IntsAre ys (((S.take j).filter c).map (·.2))) (h : S[j]? = some (x, y)) (hc : c (x, y) = true) : IntsAre (ys ++ [.int y t]) (((S.take (j + 1)).filter c).map (·.2)) := by
  rw [take_sift_yes _ h hc]; exact hJ.append (.cons _ _ .nil)
theorem sift_no {S : List (Int × Int)} {j : Nat} {x y : Int} {c : Int × Int → Bool} {ys : List Value} (hJ : IntsAre ys (((S.take j).filter c).map (·.2))) (h : S[j]? = some (x, y)) (hc : c (x, y) = false) : IntsAre ys (((S.take (j + 1)).filter c).map (·.2)) := by
  rw [take_sift_no _ h hc]; exact hJ
theorem sieve_yes {S : List Int} {j : Nat} {x : Int} {t : Tok} {c : Int → Bool} {ys : List Value} (hJ : IntsAre ys ((S.take j).filter c)) (h : S[j]? = some x) (hc : c x = true) : IntsAre (ys ++ [.int x t]) ((S.take (j + 1)).filter c) := by
  rw [List.take_add_one, h, Option.toList_some, List.filter_append, List.filter_cons, if_pos hc]; exact hJ.append (.cons _ _ .nil)
theorem sieve_no {S : List Int} {j : Nat} {x : Int} {c : Int → Bool} {ys : List Value} (hJ : IntsAre ys ((S.take j).filter c)) (h : S[j]? = some x) (hc : c x = false) : IntsAre ys ((S.take (j + 1)).filter c) := by
  rw [List.take_add_one, h, Option.toList_some, List.filter_append, List.filter_cons, if_neg (by rw [hc]; decide), List.filter_nil, List.append_nil]; exact hJ
section
variable {prog : Program} {w : World} {A : Around} {E Q : Value → Shared → Prop} {s : Shared} {h₀ : Heap} {L l : Addr} {m : PySem.Str → Option Value} {news : List (Addr × Obj)} {value slice : Expr} {vs : List Value} {ns : List Int}
theorem slice_from {x : Int} {t : Tok} (F : Fr h₀ L s.heap m) (N : News h₀ L s.heap news) (hl : s.heap.IsList l vs.toArray) (hx : 0 ≤ x) (hz : vs.length ≤ sizeLine)
    (h : ∀ D h', Fr h₀ L h' m → News h₀ L h' ((D, listO (vs.drop x.toNat) 0) :: news) → (∀ p ∈ news, p.1 < D) → Q (.ref D) { s with heap := h' })
    (hs : subscripted slice false (.ref l) (.ref s.heap.objs.size) = operate [.ref s.heap.objs.size, .ref l] (getItem (.ref l) (.ref s.heap.objs.size)) := by with_unfolding_all rfl) (ht : ∀ r, letTemporaryGo value (.ref l) r = pure () := by intro _; with_unfolding_all rfl) :
    wpAny (model prog w) A (subscriptTail value slice (.ref l) (.ref s.heap.objs.size)) Q E { s with heap := s.heap.push { cls := .type "slice", data := .fields #[.int x t, .none, .none] } } := by
  refine kmk_slice_lit F N hl (.int x t) .none ?_ h hs ht (by rw [List.size_toArray]; exact hz)
  have e : sliceBounds (some x) none none vs.toArray.size = (((min x.toNat vs.toArray.size : Nat) : Int), ((vs.toArray.size : Nat) : Int), 1) := by
    simp only [sliceBounds, Option.getD_none, show (1 : Int) > 0 by decide, if_true, if_neg (Int.not_lt.mpr hx)]
    congr 1
    rw [cast_min, Int.toNat_of_nonneg hx, Int.max_eq_right (Int.le_min.mpr ⟨hx, Int.natCast_nonneg _⟩)]
  rw [kmk_pick_nat _ e, List.size_toArray]
  show (vs.drop (min x.toNat vs.length)).take (vs.length - min x.toNat vs.length) = _
  rw [kmk_drop_min, List.take_of_length_le (by rw [List.length_drop]; exact Nat.sub_le_sub_left (Nat.min_le_left _ _) _)]
/-- set(l), then len -/
theorem set_of (hh : A.handled = none) (F : Fr h₀ L s.heap m) (N : News h₀ L s.heap news) (hl : s.heap.IsList l vs.toArray) (hi : IntsAre vs ns) (hb : ns.length ≤ 100)
    (h : ∀ D o h' tk, Fr h₀ L h' m → News h₀ L h' ((D, o) :: news) → o.SetObjOf (intKind prog w) (fun k' => (firstMet (fun i => ns.getD i 0) ns.length).any (· == k')) (firstMet (fun i => ns.getD i 0) ns.length).length → Q (.ref D) { s with heap := h', toks := tk }) :
    wpAny (model prog w) A (call (.type "set") [.ref l]) Q E s := by
  refine PySem.call_set_list hh hl (by simpa using hi) (by rw [List.size_toArray, hi.length]; exact Nat.lt_of_le_of_lt (Nat.succ_le_succ hb) (by decide)) fun h' tk hS hk => ?_
  have e : vs.toArray.size = ns.length := by rw [List.size_toArray, hi.length]
  rw [e] at hS
  have hz1 := hS.objOf
  (refine ex1 hz1 fun o hz2 => ?_; refine and2 hz2 fun ho hso => ?_; clear hz2)
  try clear hz1
  have hz3 := F.ns
  (refine ex3 hz3 fun oL _ _ hz5 => ?_; refine and2 hz5 fun hL _ => ?_; clear hz5)
  try clear hz3
  have hLlt : L < s.heap.objs.size := Heap.lt_size hL
  refine h s.heap.objs.size o h' tk ⟨F.ns.at' fun o' e => hk L o' hLlt e, fun b o' e => hk b o' (Heap.lt_size (F.keep b o' e)) (F.keep b o' e), F.above⟩ (fun p hp => ?_) hso
  rcases List.mem_cons.mp hp with rfl | hp
  · refine ⟨ho, Nat.ne_of_gt hLlt, ?_⟩
    cases hq : h₀.get? s.heap.objs.size with
    | none => rfl
    | some o' => exact absurd (Heap.lt_size (F.keep _ _ hq)) (Nat.lt_irrefl _)
  · exact ⟨hk _ _ (Heap.lt_size (N p hp).1) (N p hp).1, (N p hp).2.1, (N p hp).2.2⟩
theorem len_set {D : Addr} {o : Obj} (N : News h₀ L s.heap ((D, o) :: news)) (hso : o.SetObjOf (intKind prog w) (fun k' => (firstMet (fun i => ns.getD i 0) ns.length).any (· == k')) (firstMet (fun i => ns.getD i 0) ns.length).length) (hb : ns.length ≤ 100)
    (h : ∀ t k', Q (.int ((firstMet (fun i => ns.getD i 0) ns.length).length : Nat) t) { s with toks := k' }) : wpAny (model prog w) A (call (.builtin "len") [.ref D]) Q E s :=
  len_sl1 (own := []) N hso (lt_pow 63 (Nat.lt_of_le_of_lt (Nat.le_trans (firstMet_length_le (fun i => ns.getD i 0) ns.length) hb) (by decide))) (h _ _)
end
end Mine

end
open PySem PySem.W PySem.Calls PyProof.Rows PyProof.V
namespace Mine
local macro_rules | `(tactic| omega) => `(tactic| first | (with_reducible assumption) | (with_reducible exact i_nat _))
local macro_rules | `(tactic| walk_at "eval Name") => `(tactic| (k_here; k_dflt (first
  | (refine' nm_l (by k_asm) (by exact rfl) (by exact rfl) (by exact rfl) (by exact rfl) (by decide) ?_; k_whole)
  | (refine' nm_c (by k_asm) (by exact rfl) (by assumption) (by assumption) (by exact rfl) (by exact rfl) (by decide) ?_; k_whole)
  | (refine' nm_g (by k_asm) (by k_asm) (by k_asm) (by k_is) (by exact rfl) (by exact rfl) (by exact rfl) (by decide) ?_; k_whole)
  | (refine' nm_b (by k_asm) (by k_asm) (by k_asm) (by k_is) (by boot_by_name) (by decide) (by exact rfl) (by exact rfl) (by exact rfl) (by exact rfl) (by decide) ?_; k_whole))))
local macro_rules | `(tactic| walk_at "call builtin:str.lower") => `(tactic| (k_here; (with_reducible show wpAny _ _ (call (Value.builtin "str.lower") [Value.str (one _) _]) _ _ _); (refine call_lower1 (by first | assumption | omega) ?_); intro _ _; (try dsimp only)))
local macro_rules | `(tactic| walk_at "call builtin:str.upper") => `(tactic| (k_here; (with_reducible show wpAny _ _ (call (Value.builtin "str.upper") [Value.str (one _) _]) _ _ _); (refine call_upper1 (by first | assumption | omega) ?_); intro _ _; (try dsimp only)))
local macro_rules | `(tactic| walk_at "getMethod ref") => `(tactic| (k_here; (with_reducible show wpAny _ _ (getMethod (Value.ref _) (PySem.Str.ofString "search") _) _ _ _); k_dflt (refine' getMethod_searchK ?F ?X ?l ?_; (case F => k_asm); (case X => k_asm); (case l => k_is); k_whole)))
local macro_rules | `(tactic| walk_at "call builtin:re.Pattern.search") => `(tactic| (k_here; (with_reducible show wpAny _ _ (call (Value.builtin "re.Pattern.search") [Value.ref _, Value.str _ _]) _ _ _); k_dflt (refine' call_searchK ?F ?X ?l ?c ?l2 ?g ?w ?cc ?no ?sz ?_; (case F => k_asm); (case X => k_asm); (case l => k_is); (case c => exact rfl); (case l2 => k_is); (case g => exact rfl); (case w => exact rfl); (case no => exact noHit_name (by first | assumption | decide +kernel)); (case cc => decide +kernel); (case sz => first | assumption | decide +kernel); k_whole)))
local macro_rules | `(tactic| walk_at "call builtin:re.Pattern.search") => `(tactic| (k_here; (with_reducible show wpAny _ _ (call (Value.builtin "re.Pattern.search") [Value.ref _, Value.str _ _]) _ _ _); k_dflt (refine' call_searchK ?F ?X ?l ?c ?l2 ?g ?w ?cc ?no ?sz ?_; (case F => k_asm); (case X => k_asm); (case l => k_is); (case c => exact rfl); (case l2 => k_is); (case g => exact rfl); (case w => exact rfl); (case no => exact noHit_value (by first | assumption | decide +kernel)); (case cc => decide +kernel); (case sz => first | assumption | decide +kernel); k_whole)))

section
-- hil-done: sums_c
noncomputable def sumsStep (acc : List (Int × Int)) (c : Int) : List (Int × Int) := acc ++ acc.map fun p => (Builtin.bitXor p.1 c, p.2 + 1)
noncomputable def sumsF (cs : List Int) : List (Int × Int) := cs.foldl sumsStep [(0, 0)]
theorem sumsF_len (cs : List Int) : (sumsF cs).length = 2 ^ cs.length := by
  have : ∀ (cs : List Int) (acc : List (Int × Int)), (cs.foldl sumsStep acc).length = acc.length * 2 ^ cs.length := by
    intro cs
    induction cs with
    | nil => intro acc; simp
    | cons c r ih => intro acc; rw [List.foldl_cons, ih, List.length_cons, sumsStep, List.length_append, List.length_map, Nat.pow_succ]; rw [← Nat.two_mul, Nat.mul_comm 2, Nat.mul_assoc, Nat.mul_comm 2]
  simpa [sumsF] using this cs [(0, 0)]
theorem sumsF_take {cs : List Int} {i : Nat} {c : Int} (h : cs[i]? = some c) : sumsF (cs.take (i + 1)) = sumsF (cs.take i) ++ (sumsF (cs.take i)).map fun p => (Builtin.bitXor p.1 c, p.2 + 1) := by
  unfold sumsF
  rw [List.take_add_one, h, Option.toList_some, List.foldl_append]; rfl
set_option maxHeartbeats 1000000
noncomputable def sums_c.S (w : World) (p : Program) (loose : List PySem.Str) (mean : ExcName → Option Value) (mg : PySem.Str → Option Value) (mb : PySem.Str → Option Value) (outer : List Env) (base : Heap) (s : Shared) (R : Result → Shared → Prop) (l : Addr) (vs : List Value) (ns : List Int) : Prop := ∀ (hl : s.heap.IsList l vs.toArray) (hi : IntsAre vs ns) (hlen : ns.length ≤ 7), Below (AT 330 100 outer) base outer s.heap → (hd.heap_1 w.params).In s.heap → Top p loose mean mg mb s.heap →
  (∀ D k vsD L' m' news' h' tk', Fr s.heap L' h' m' → News s.heap L' h' news' → (D, listO vsD k) ∈ news' → PIn news' vsD (sumsF ns) → R (.ok (.ret (.ref D))) { s with heap := h', toks := tk' }) →
  codeAny (model PySem.Challenge.rw_to0081_01.prog w) (AT 330 100 outer) (.call (.ref 250) ⟨[.ref l], []⟩) R s
noncomputable def sums_c.e : World × Program × (List PySem.Str) × (ExcName → Option Value) × (PySem.Str → Option Value) × (PySem.Str → Option Value) × (List Env) × Heap × Shared × (Result → Shared → Prop) × Addr × (List Value) × (List Int) := haveI := ne_w; haveI := ne_s; haveI := ne_a; haveI := ne_g; Classical.epsilon fun x => ¬ sums_c.S x.1 x.2.1 x.2.2.1 x.2.2.2.1 x.2.2.2.2.1 x.2.2.2.2.2.1 x.2.2.2.2.2.2.1 x.2.2.2.2.2.2.2.1 x.2.2.2.2.2.2.2.2.1 x.2.2.2.2.2.2.2.2.2.1 x.2.2.2.2.2.2.2.2.2.2.1 x.2.2.2.2.2.2.2.2.2.2.2.1 x.2.2.2.2.2.2.2.2.2.2.2.2
@[irreducible] noncomputable def sums_c.w : World := sums_c.e.1
@[irreducible] noncomputable def sums_c.p : Program := sums_c.e.2.1
@[irreducible] noncomputable def sums_c.loose : List PySem.Str := sums_c.e.2.2.1
@[irreducible] noncomputable def sums_c.mean : ExcName → Option Value := sums_c.e.2.2.2.1
@[irreducible] noncomputable def sums_c.mg : PySem.Str → Option Value := sums_c.e.2.2.2.2.1
@[irreducible] noncomputable def sums_c.mb : PySem.Str → Option Value := sums_c.e.2.2.2.2.2.1
@[irreducible] noncomputable def sums_c.outer : List Env := sums_c.e.2.2.2.2.2.2.1
@[irreducible] noncomputable def sums_c.base : Heap := sums_c.e.2.2.2.2.2.2.2.1
@[irreducible] noncomputable def sums_c.s : Shared := sums_c.e.2.2.2.2.2.2.2.2.1
@[irreducible] noncomputable def sums_c.R : Result → Shared → Prop := sums_c.e.2.2.2.2.2.2.2.2.2.1
@[irreducible] noncomputable def sums_c.l : Addr := sums_c.e.2.2.2.2.2.2.2.2.2.2.1
@[irreducible] noncomputable def sums_c.vs : List Value := sums_c.e.2.2.2.2.2.2.2.2.2.2.2.1
@[irreducible] noncomputable def sums_c.ns : List Int := sums_c.e.2.2.2.2.2.2.2.2.2.2.2.2
theorem sums_c.core : sums_c.S sums_c.w sums_c.p sums_c.loose sums_c.mean sums_c.mg sums_c.mb sums_c.outer sums_c.base sums_c.s sums_c.R sums_c.l sums_c.vs sums_c.ns := by
  delta sums_c.S
  intro hl hi hlen
  k_fill
  intro B X T ret
  k_dflt (refine' enterC ?k1 ?k2 ?k3 ?k4 ?k5 ?k6 ?k7 ?k8 ?_ ?c2 ?c3 ?c4; (case k1 => k_asm); (case k2 => k_asm); (case k3 => k_is); (case k4 => k_is); (case k5 => exact Nat.le_of_ble_eq_true rfl); (case k6 => exact BindsTo.of_eq rfl); (case k7 => exact rfl); (case k8 => decide +kernel); (case c2 => exact rfl); (case c3 => exact rfl); (case c4 => exact rfl); k_whole; intro h' tk' cells' F' N' Y'; k_cells Y'; (try simp only [List.cons_append, List.nil_append] at N'); (try dsimp only); (try k_fold))
  iterate 16 walk1
  refine wpAny_For ?_
  walk1
  with_reducible rename Fr _ _ _ _ => F1
  with_reducible rename News _ _ _ _ => N1
  with_reducible rename _ = Data.cell _ => hc1
  rename_i oc1 Da hx2 lt1 La hx1 lt2 hc
  refine iter_vals rfl (stays_list F1.keep hl) fun I o fp St eI W H => ?_
  let Jv1 : Nat → (PySem.Str → Option Value) → List (Addr × Obj) → Prop := fun i m nx => ∃ D k vsD, m (PySem.Str.ofString "sums") = some (.ref D) ∧ (D, listO vsD k) ∈ nx ∧ PIn nx vsD (sumsF (ns.take i))
  refine for_cell (fun g => g = s.gens) Jv1
    W H rfl rfl rfl F1 (news_r3 N1) hc1 ?hcn rfl ?hJ ?turn ?done
  case hcn =>
    intro p hp
    simp only [List.mem_cons, List.not_mem_nil, or_false] at hp
    rcases hp with rfl | rfl
    · exact Nat.ne_of_gt lt2.2
    · exact Nat.ne_of_gt lt1
  case hJ => exact ⟨La, 0, [.ref Da], rfl, .head _, .cons (.tail _ (.head _)) .nil⟩
  case done =>
    intro m₁ nx h g tk
    intro hz1
    (refine ex3 hz1 fun D k vsD hz3 => ?_; refine and3 hz3 fun hm hD hP => ?_; clear hz3)
    try clear hz1
    rintro rfl
    intro F N
    rw [upd_self hm] at F
    have hle : ns.length = vs.length := hi.length.symm
    rw [← hle, List.take_length] at hP
    clear F1 N1 hc1 H W
    (try dsimp only)
    k_steps

    exact ret D k vsD _ _ nx h tk F N hD hP
  case turn =>
    intro i m₁ nx h g tk own v oc hi'
    intro hz6
    (refine ex3 hz6 fun D k vsD hz8 => ?_; refine and3 hz8 fun hm hD hP => ?_; clear hz8)
    try clear hz6
    rintro rfl
    intro hv hoc F N hof
    rw [upd_self hm] at F
    have hz11 : ∃ c tc, ns[i]? = some c ∧ v = .int c tc := by
      have hlt : i < ns.length := hi.length ▸ hi'
      obtain ⟨t, ht⟩ := hi.get i (ns[i]) (by simp [hlt])
      rw [ht] at hv
      exact ⟨ns[i], t, by simp [hlt], (Option.some.inj hv).symm⟩
    (refine ex2 hz11 fun c tc hz13 => ?_; refine and2 hz13 fun hc' hz12 => ?_; clear hz13)
    try clear hz11
    obtain rfl := hz12
    clear F1 N1 hc1 H W
    (try k_fold)
    iterate 4 walk1
    refine comp_eval (cl := [(PySem.Str.ofString "column", s.heap.objs.size + 1)]) (by rfl) rfl (by decide) ?_
    walk1
    have hDL : h.IsList D vsD.toArray := ⟨_, (N _ (.tail _ (List.mem_append_left _ hD))).1, rfl, k, rfl⟩
    have hsz : (sumsF (ns.take i)).length ≤ 128 := by
      rw [sumsF_len, List.length_take]
      exact Nat.pow_le_pow_right (by decide) (Nat.le_trans (Nat.min_le_right _ _) hlen)
    have hsl : 256 ≤ sizeLine := by rw [sizeLine_eq]; decide
    refine iter_pairs rfl hDL (hP.heap fun p hp => (N _ (.tail _ (List.mem_append_left _ hp))).1) fun I o fp St Mid eI W H => ?_
    refine craw_eval (fun j ys tl => ys.length = j ∧ PIn tl ys (((sumsF (ns.take i)).take j).map fun p => (Builtin.bitXor p.1 c, p.2 + 1))) (csrc_pair rfl F N W H ppt2 (by lia) rfl rfl rfl) (by decide) rfl ⟨rfl, .nil⟩ (fun _ _ _ h => Nat.le_of_eq h.1) ?turn2 ?fin
    case turn2 =>
      intro j ys tl g C D' h' tk' m m₁ hj hJ hg0 hgN hB F' N' hne
      (refine ex2 hB fun v0 v1 hz16 => ?_; refine and2 hz16 fun hpt hz15 => ?_; clear hz16)
      try clear hB
      obtain rfl := hz15
      have hz18 := ppt_ints hpt
      (refine ex4 hz18 fun x y t u hz22 => ?_; refine and3 hz22 fun hp hz19 hz20 => ?_; clear hz22)
      try clear hz18
      obtain rfl := hz19
      obtain rfl := hz20
      have hcg := hgN _ (.head _)
      have Xg := X.keeps hg0
      have Tg := T.keeps hg0
      clear F N H W
      refine forIn_nil ?_
      refine ite_tt ?_
      (try k_fold)
      k_steps
      with_reducible rename Fr _ _ _ _ => F9
      with_reducible rename News _ _ _ _ => N9
      with_reducible rename _ ∧ AllLt _ _ => l9
      refine cend1 F9 N9 hne (Nat.ne_of_gt l9.1) ⟨by simp [hJ.1], ?_⟩
      rw [take_map_succ _ hp]
      exact (hJ.2.mono fun p hp => .tail _ hp).snoc (.head _)
    case fin =>
      intro D' h' tk' ys tl
      intro hz26
      (refine and2 hz26 fun hyl hJ => ?_)
      try clear hz26
      intro F' N' lt' ne'
      rw [List.take_length] at hJ
      clear F N H W
      refine add_lists (hsz := by rw [hP.length, hJ.length, List.length_map]; lia) F' N' ⟨_, (N' _ (.tail _ (List.mem_append_left _ (.tail _ (List.mem_append_left _ hD))))).1, rfl, k, rfl⟩ ⟨_, (N' _ (.head _)).1, rfl, _, rfl⟩ fun h₂ F₂ N₂ => ?_
      have hlt : ∀ p ∈ (D', lst ys) :: ((s.heap.objs.size + 1, oc) :: (nx ++ own) ++ tl), p.1 < h'.objs.size := fun p hp => Heap.lt_size (N' p hp).1
      clear F' N'
      k_steps
      with_reducible rename Fr _ _ _ _ => F9
      with_reducible rename News _ _ _ _ => N9
      refine fend (nx' := (h'.objs.size, listO (vsD ++ ys) 0) :: (D', lst ys) :: (nx ++ tl)) rfl F9 N9 (fun p hp => ?_) (fun p hp => ?_) (fun p hp => ?_) ⟨_, 0, vsD ++ ys, rfl, .head _, ?_⟩
      · rcases List.mem_cons.mp hp with rfl | hp
        · exact .head _
        · rcases List.mem_cons.mp hp with rfl | hp
          · exact .tail _ (.head _)
          · rcases List.mem_append.mp hp with hp | hp
            · exact .tail _ (.tail _ (List.mem_append_left _ (.tail _ (List.mem_append_left _ hp))))
            · exact .tail _ (.tail _ (List.mem_append_right _ hp))
      · refine .tail _ (.tail _ (List.mem_append_left _ ?_))
        rcases List.mem_cons.mp hp with rfl | hp
        · exact .head _
        · exact .tail _ (List.mem_append_right _ hp)
      · have own' : ∀ q ∈ (s.heap.objs.size + 1, oc) :: own, q ∈ (s.heap.objs.size + 1, oc) :: (nx ++ own) := fun q hq => by
          rcases List.mem_cons.mp hq with rfl | hq
          · exact .head _
          · exact .tail _ (List.mem_append_right _ hq)
        rcases List.mem_cons.mp hp with rfl | hp
        · exact .inr fun q hq => Nat.ne_of_lt (hlt q (.tail _ (List.mem_append_left _ (own' q hq))))
        · rcases List.mem_cons.mp hp with rfl | hp
          · exact .inr fun q hq => Nat.ne_of_lt (lt' q (own' q hq))
          · rcases List.mem_append.mp hp with hp | hp
            · exact .inl ⟨p.2, hp⟩
            · exact .inr fun q hq => ne' p hp q (own' q hq)
      · rw [sumsF_take hc']
        exact PIn.append (hJ.mono fun p hp => .tail _ (.tail _ (List.mem_append_right _ hp))) (hP.mono fun p hp => .tail _ (.tail _ (List.mem_append_left _ hp)))
theorem sums_c (w : World) (p : Program) (loose : List PySem.Str) (mean : ExcName → Option Value) (mg mb : PySem.Str → Option Value) (outer : List Env) (base : Heap) (s : Shared) (R : Result → Shared → Prop) (l : Addr) (vs : List Value) (ns : List Int) (hl : s.heap.IsList l vs.toArray) (hi : IntsAre vs ns) (hlen : ns.length ≤ 7) : Below (AT 330 100 outer) base outer s.heap → (hd.heap_1 w.params).In s.heap → Top p loose mean mg mb s.heap →
  (∀ D k vsD L' m' news' h' tk', Fr s.heap L' h' m' → News s.heap L' h' news' → (D, listO vsD k) ∈ news' → PIn news' vsD (sumsF ns) → R (.ok (.ret (.ref D))) { s with heap := h', toks := tk' }) →
  codeAny (model PySem.Challenge.rw_to0081_01.prog w) (AT 330 100 outer) (.call (.ref 250) ⟨[.ref l], []⟩) R s := hil_ (Q := fun x => sums_c.S x.1 x.2.1 x.2.2.1 x.2.2.2.1 x.2.2.2.2.1 x.2.2.2.2.2.1 x.2.2.2.2.2.2.1 x.2.2.2.2.2.2.2.1 x.2.2.2.2.2.2.2.2.1 x.2.2.2.2.2.2.2.2.2.1 x.2.2.2.2.2.2.2.2.2.2.1 x.2.2.2.2.2.2.2.2.2.2.2.1 x.2.2.2.2.2.2.2.2.2.2.2.2) (by with_unfolding_all exact sums_c.core) (w, p, loose, mean, mg, mb, outer, base, s, R, l, vs, ns) hl hi hlen

end
section
-- hil-done: least_c
noncomputable def leastStep (c : List (Int × Int)) (p : Int × Int) : List (Int × Int) := if (!kdfHas c p.1 || decide (p.2 < kdfLook c p.1 0)) = true then kdfPut c p.1 p.2 else c
noncomputable def leastF (ps : List (Int × Int)) : List (Int × Int) := ps.foldl leastStep []
theorem leastF_take {ps : List (Int × Int)} {i : Nat} {p : Int × Int} (h : ps[i]? = some p) : leastF (ps.take (i + 1)) = leastStep (leastF (ps.take i)) p := by
  unfold leastF
  rw [List.take_add_one, h, Option.toList_some, List.foldl_append]; rfl
theorem leastF_len (ps : List (Int × Int)) : (leastF ps).length ≤ ps.length := by
  have : ∀ (ps c : List (Int × Int)), (ps.foldl leastStep c).length ≤ c.length + ps.length := by
    intro ps
    induction ps with
    | nil => intro c; simp
    | cons p r ih =>
      intro c
      rw [List.foldl_cons, List.length_cons]
      refine Nat.le_trans (ih _) ?_
      have : (leastStep c p).length ≤ c.length + 1 := by
        unfold leastStep
        split
        · exact kdfPut_len _ _ _
        · lia
      lia
  simpa [leastF] using this ps []
set_option maxHeartbeats 1000000
noncomputable def least_c.S (w : World) (p : Program) (loose : List PySem.Str) (mean : ExcName → Option Value) (mg : PySem.Str → Option Value) (mb : PySem.Str → Option Value) (outer : List Env) (base : Heap) (s : Shared) (R : Result → Shared → Prop) (l : Addr) (vs : List Value) (ps : List (Int × Int)) : Prop := ∀ (hl : s.heap.IsList l vs.toArray) (hp : HP s.heap vs ps) (hlen : ps.length ≤ 128), Below (AT 330 100 outer) base outer s.heap → (hd.heap_1 w.params).In s.heap → Top p loose mean mg mb s.heap →
  (∀ d o kvs L' m' news' h' tk', Fr s.heap L' h' m' → News s.heap L' h' news' → (d, o) ∈ news' → o.IsDictOf (PySem.intKind PySem.Challenge.rw_to0081_01.prog w) kvs → FlatPairs PyData.int kvs (kdfD (leastF ps)) → (d == sysModules) = false → R (.ok (.ret (.ref d))) { s with heap := h', toks := tk' }) →
  codeAny (model PySem.Challenge.rw_to0081_01.prog w) (AT 330 100 outer) (.call (.ref 257) ⟨[.ref l], []⟩) R s
noncomputable def least_c.e : World × Program × (List PySem.Str) × (ExcName → Option Value) × (PySem.Str → Option Value) × (PySem.Str → Option Value) × (List Env) × Heap × Shared × (Result → Shared → Prop) × Addr × (List Value) × (List (Int × Int)) := haveI := ne_w; haveI := ne_s; haveI := ne_a; haveI := ne_g; Classical.epsilon fun x => ¬ least_c.S x.1 x.2.1 x.2.2.1 x.2.2.2.1 x.2.2.2.2.1 x.2.2.2.2.2.1 x.2.2.2.2.2.2.1 x.2.2.2.2.2.2.2.1 x.2.2.2.2.2.2.2.2.1 x.2.2.2.2.2.2.2.2.2.1 x.2.2.2.2.2.2.2.2.2.2.1 x.2.2.2.2.2.2.2.2.2.2.2.1 x.2.2.2.2.2.2.2.2.2.2.2.2
@[irreducible] noncomputable def least_c.w : World := least_c.e.1
@[irreducible] noncomputable def least_c.p : Program := least_c.e.2.1
@[irreducible] noncomputable def least_c.loose : List PySem.Str := least_c.e.2.2.1
@[irreducible] noncomputable def least_c.mean : ExcName → Option Value := least_c.e.2.2.2.1
@[irreducible] noncomputable def least_c.mg : PySem.Str → Option Value := least_c.e.2.2.2.2.1
@[irreducible] noncomputable def least_c.mb : PySem.Str → Option Value := least_c.e.2.2.2.2.2.1
@[irreducible] noncomputable def least_c.outer : List Env := least_c.e.2.2.2.2.2.2.1
@[irreducible] noncomputable def least_c.base : Heap := least_c.e.2.2.2.2.2.2.2.1
@[irreducible] noncomputable def least_c.s : Shared := least_c.e.2.2.2.2.2.2.2.2.1
@[irreducible] noncomputable def least_c.R : Result → Shared → Prop := least_c.e.2.2.2.2.2.2.2.2.2.1
@[irreducible] noncomputable def least_c.l : Addr := least_c.e.2.2.2.2.2.2.2.2.2.2.1
@[irreducible] noncomputable def least_c.vs : List Value := least_c.e.2.2.2.2.2.2.2.2.2.2.2.1
@[irreducible] noncomputable def least_c.ps : List (Int × Int) := least_c.e.2.2.2.2.2.2.2.2.2.2.2.2
theorem least_c.core : least_c.S least_c.w least_c.p least_c.loose least_c.mean least_c.mg least_c.mb least_c.outer least_c.base least_c.s least_c.R least_c.l least_c.vs least_c.ps := by
  delta least_c.S
  intro hl hp hlen
  k_fill
  intro B X T ret
  k_dflt (refine' enter ?k1 ?k2 ?k3 ?k4 ?k5 ?k6 ?k7 ?_ ?c2 ?c3 ?c4 ?c5; (case k1 => k_asm); (case k2 => k_asm); (case k3 => k_is); (case k4 => k_is); (case k5 => exact Nat.le_of_ble_eq_true rfl); (case k6 => exact BindsTo.of_eq rfl); (case k7 => exact locs rfl); (case c2 => exact rfl); (case c3 => exact rfl); (case c4 => exact rfl); (case c5 => decide); k_whole; intro h' F' N'; (try dsimp only); (try k_fold))
  k_steps
  refine wpAny_For ?_
  walk1
  with_reducible rename Fr _ _ _ _ => F1
  with_reducible rename News _ _ _ _ => N1
  with_reducible rename Obj.IsDictOf (PySem.intKind _ _) _ _ => hd1
  with_reducible rename FlatPairs PyData.int _ _ => hf1
  rename_i d hx1 o1 lo1 hs1 fs1 lt1 hc
  refine iter_pairs rfl (stays_list F1.keep hl) (hp.keeps F1.keep) fun I o fp St Mid eI W H => ?_
  have hdf : d ∉ fp := off_seq H (by obtain ⟨es, ep, _, q, _⟩ := hd1; exact ⟨o1, (N1 _ (.head _)).1, fun xs k e => by rw [q] at e; cases e⟩)
  let Jv1 : Nat → (PySem.Str → Option Value) → List (Addr × Obj) → Prop := fun i m nx => ∃ o kvs, m (PySem.Str.ofString "least") = some (.ref d) ∧ nx = [(d, o)] ∧ o.IsDictOf (PySem.intKind PySem.Challenge.rw_to0081_01.prog w) kvs ∧ FlatPairs PyData.int kvs (kdfD (leastF (ps.take i)))
  refine for_pair rfl (fun g => g = s.gens) Jv1
    W ppt2 H rfl rfl rfl F1 N1 rfl ⟨o1, [], rfl, rfl, hd1, hf1⟩ ?turn ?done
  case done =>
    intro m₁ nx h g tk
    intro hz1
    (refine ex2 hz1 fun o kvs hz5 => ?_; refine and4 hz5 fun hm hz2 hd hf => ?_; clear hz5)
    try clear hz1
    obtain rfl := hz2
    rintro rfl
    intro F N
    rw [upd_self hm] at F
    rw [List.take_length] at hf
    clear F1 N1 H W
    (try dsimp only)
    k_steps
    exact ret d o kvs _ _ _ h tk F N (.head _) hd hf lo1
  case turn =>
    intro i m₁ nx h g tk own v0 v1 hi'
    intro hz7
    (refine ex2 hz7 fun o kvs hz11 => ?_; refine and4 hz11 fun hm hz8 hd hf => ?_; clear hz11)
    try clear hz7
    obtain rfl := hz8
    rintro rfl
    intro hpt F N hof
    have hz13 := ppt_ints hpt
    (refine ex4 hz13 fun x y t u hz17 => ?_; refine and3 hz17 fun hpi hz14 hz15 => ?_; clear hz17)
    try clear hz13
    obtain rfl := hz14
    obtain rfl := hz15
    rw [upd_self hm] at F
    have hcl : (leastF (ps.take i)).length ≤ 128 := Nat.le_trans (leastF_len _) (by rw [List.length_take]; lia)
    clear F1 N1 H W hd1 hf1 fs1 hs1
    (try k_fold)
    have hsep : ∀ p ∈ own, p.1 ≠ d := fun p hp e => hdf (e ▸ hof p hp)
    have fin : ∀ (s₃ : Shared) (o' : Obj) (kvs' : List (Int × Value)) (h' : Heap) (tk' : Nat) (m' : PySem.Str → Option Value) (news' : List (Addr × Obj)), Fr s.heap s.heap.objs.size h' m' → m' (PySem.Str.ofString "least") = some (.ref d) → News s.heap s.heap.objs.size h' ((d, o') :: own) →
        o'.IsDictOf (PySem.intKind PySem.Challenge.rw_to0081_01.prog w) kvs' → FlatPairs PyData.int kvs' (kdfD (leastStep (leastF (ps.take i)) (x, y))) →
        FEnd s.heap s.heap.objs.size (fun g => g = s₃.gens) [(d, o)] own (fun m nx => ∃ o kvs, m (PySem.Str.ofString "least") = some (.ref d) ∧ nx = [(d, o)] ∧ o.IsDictOf (PySem.intKind PySem.Challenge.rw_to0081_01.prog w) kvs ∧ FlatPairs PyData.int kvs (kdfD (leastF (ps.take (i + 1))))) s₃ { s₃ with heap := h', toks := tk' } :=
      fun s₃ o' kvs' h' tk' m' news' F' hm' N' a b => fend (nx' := [(d, o')]) rfl F' N' (fun p hp => by rw [List.mem_singleton.mp hp]; exact .head _) (fun p hp => .tail _ hp) (fun p hp => .inl ⟨o, by rw [List.mem_singleton.mp hp]; exact .head _⟩)
        ⟨o', kvs', hm', rfl, a, by rw [leastF_take hpi]; exact b⟩
    k_steps
    · refine kdf_setItem F N (.head hsep) hd hf (by lia) fun h' o' kvs' F' N' hd' hf' => ?_
      clear F N
      k_steps
      with_reducible rename Fr _ _ _ _ => F9
      with_reducible rename News _ _ _ _ => N9
      refine fin _ o' kvs' _ _ _ [] F9 (by rfl) N9 hd' ?_
      unfold leastStep
      rw [if_pos (by simp_all)]
      exact hf'
    · refine fin _ o kvs _ _ _ [] F (by rfl) N hd ?_
      unfold leastStep
      rw [if_neg (by simp_all)]
      exact hf
    · refine kdf_setItem F N (.head hsep) hd hf (by lia) fun h' o' kvs' F' N' hd' hf' => ?_
      clear F N
      k_steps
      with_reducible rename Fr _ _ _ _ => F9
      with_reducible rename News _ _ _ _ => N9
      refine fin _ o' kvs' _ _ _ [] F9 (by rfl) N9 hd' ?_
      unfold leastStep
      rw [if_pos (by simp_all)]
      exact hf'
theorem least_c (w : World) (p : Program) (loose : List PySem.Str) (mean : ExcName → Option Value) (mg mb : PySem.Str → Option Value) (outer : List Env) (base : Heap) (s : Shared) (R : Result → Shared → Prop) (l : Addr) (vs : List Value) (ps : List (Int × Int)) (hl : s.heap.IsList l vs.toArray) (hp : HP s.heap vs ps) (hlen : ps.length ≤ 128) : Below (AT 330 100 outer) base outer s.heap → (hd.heap_1 w.params).In s.heap → Top p loose mean mg mb s.heap →
  (∀ d o kvs L' m' news' h' tk', Fr s.heap L' h' m' → News s.heap L' h' news' → (d, o) ∈ news' → o.IsDictOf (PySem.intKind PySem.Challenge.rw_to0081_01.prog w) kvs → FlatPairs PyData.int kvs (kdfD (leastF ps)) → (d == sysModules) = false → R (.ok (.ret (.ref d))) { s with heap := h', toks := tk' }) →
  codeAny (model PySem.Challenge.rw_to0081_01.prog w) (AT 330 100 outer) (.call (.ref 257) ⟨[.ref l], []⟩) R s := hil_ (Q := fun x => least_c.S x.1 x.2.1 x.2.2.1 x.2.2.2.1 x.2.2.2.2.1 x.2.2.2.2.2.1 x.2.2.2.2.2.2.1 x.2.2.2.2.2.2.2.1 x.2.2.2.2.2.2.2.2.1 x.2.2.2.2.2.2.2.2.2.1 x.2.2.2.2.2.2.2.2.2.2.1 x.2.2.2.2.2.2.2.2.2.2.2.1 x.2.2.2.2.2.2.2.2.2.2.2.2) (by with_unfolding_all exact least_c.core) (w, p, loose, mean, mg, mb, outer, base, s, R, l, vs, ps) hl hp hlen

end
section
-- hil-done: bits_c
noncomputable def bitsL (cs : List Nat) : List Int := (cs.zipIdx.filter fun p => decide (p.1 ≠ lowC p.1)).map fun p => (1 : Int) * 2 ^ ((p.2 : Int)).toNat
theorem bitsL_snoc (cs : List Nat) (c : Nat) : bitsL (cs ++ [c]) = bitsL cs ++ (if c = lowC c then [] else [(1 : Int) * 2 ^ ((cs.length : Int)).toNat]) := by
  unfold bitsL
  rw [List.zipIdx_append, List.filter_append, List.map_append]
  congr 1
  by_cases h : c = lowC c
  · rw [if_pos h]; simp [List.zipIdx, ← h]
  · rw [if_neg h]; simp [List.zipIdx, h]
set_option maxHeartbeats 1000000
noncomputable def bits_c.S (w : World) (p : Program) (loose : List PySem.Str) (mean : ExcName → Option Value) (mg : PySem.Str → Option Value) (mb : PySem.Str → Option Value) (outer : List Env) (base : Heap) (s : Shared) (R : Result → Shared → Prop) (x : PySem.Str) (tx : Tok) : Prop := ∀ (hx : ∀ c ∈ x.cps.toList, c < 128) (hlen : x.cps.size ≤ 7), Below (AT 330 100 outer) base outer s.heap → (hd.heap_1 w.params).In s.heap → Top p loose mean mg mb s.heap →
  (∀ L' m' news' h' tk' t', Fr s.heap L' h' m' → News s.heap L' h' news' → R (.ok (.ret (.int (bitsL x.cps.toList).sum t'))) { s with heap := h', toks := tk' }) →
  codeAny (model PySem.Challenge.rw_to0081_01.prog w) (AT 330 100 outer) (.call (.ref 281) ⟨[.str x tx], []⟩) R s
noncomputable def bits_c.e : World × Program × (List PySem.Str) × (ExcName → Option Value) × (PySem.Str → Option Value) × (PySem.Str → Option Value) × (List Env) × Heap × Shared × (Result → Shared → Prop) × PySem.Str × Tok := haveI := ne_w; haveI := ne_s; haveI := ne_a; haveI := ne_g; Classical.epsilon fun x => ¬ bits_c.S x.1 x.2.1 x.2.2.1 x.2.2.2.1 x.2.2.2.2.1 x.2.2.2.2.2.1 x.2.2.2.2.2.2.1 x.2.2.2.2.2.2.2.1 x.2.2.2.2.2.2.2.2.1 x.2.2.2.2.2.2.2.2.2.1 x.2.2.2.2.2.2.2.2.2.2.1 x.2.2.2.2.2.2.2.2.2.2.2
@[irreducible] noncomputable def bits_c.w : World := bits_c.e.1
@[irreducible] noncomputable def bits_c.p : Program := bits_c.e.2.1
@[irreducible] noncomputable def bits_c.loose : List PySem.Str := bits_c.e.2.2.1
@[irreducible] noncomputable def bits_c.mean : ExcName → Option Value := bits_c.e.2.2.2.1
@[irreducible] noncomputable def bits_c.mg : PySem.Str → Option Value := bits_c.e.2.2.2.2.1
@[irreducible] noncomputable def bits_c.mb : PySem.Str → Option Value := bits_c.e.2.2.2.2.2.1
@[irreducible] noncomputable def bits_c.outer : List Env := bits_c.e.2.2.2.2.2.2.1
@[irreducible] noncomputable def bits_c.base : Heap := bits_c.e.2.2.2.2.2.2.2.1
@[irreducible] noncomputable def bits_c.s : Shared := bits_c.e.2.2.2.2.2.2.2.2.1
@[irreducible] noncomputable def bits_c.R : Result → Shared → Prop := bits_c.e.2.2.2.2.2.2.2.2.2.1
@[irreducible] noncomputable def bits_c.x : PySem.Str := bits_c.e.2.2.2.2.2.2.2.2.2.2.1
@[irreducible] noncomputable def bits_c.tx : Tok := bits_c.e.2.2.2.2.2.2.2.2.2.2.2
theorem bits_c.core : bits_c.S bits_c.w bits_c.p bits_c.loose bits_c.mean bits_c.mg bits_c.mb bits_c.outer bits_c.base bits_c.s bits_c.R bits_c.x bits_c.tx := by
  delta bits_c.S
  intro hx hlen
  k_fill
  intro B X T ret
  k_dflt (refine' enter ?k1 ?k2 ?k3 ?k4 ?k5 ?k6 ?k7 ?_ ?c2 ?c3 ?c4 ?c5; (case k1 => k_asm); (case k2 => k_asm); (case k3 => k_is); (case k4 => k_is); (case k5 => exact Nat.le_of_ble_eq_true rfl); (case k6 => exact BindsTo.of_eq rfl); (case k7 => exact locs rfl); (case c2 => exact rfl); (case c3 => exact rfl); (case c4 => exact rfl); (case c5 => decide); k_whole; intro h' F' N'; (try dsimp only); (try k_fold))
  iterate 7 walk1
  refine comp_eval (cl := []) (by rfl) rfl (by decide) ?_
  iterate 6 walk1
  with_reducible rename Fr _ _ _ _ => F1
  with_reducible rename News _ _ _ _ => N1
  have hxa : x.cps.all (· < 128) = true := by
    rw [← Array.all_toList, List.all_eq_true]
    exact fun c hc => decide_eq_true (hx c hc)
  refine enum_str rfl hxa ?_
  intro e fp wr St Mid eI W H
  refine craw_eval (fun i ys tl => tl = [] ∧ ys.length ≤ i ∧ IntsAre ys (bitsL (x.cps.toList.take i))) (csrc_pair rfl F1 N1 W H ept2 (by rw [sizeLine_eq]; lia) rfl rfl rfl) (by decide) rfl ⟨rfl, Nat.le_refl _, by constructor⟩ (fun _ _ _ h => h.2.1) ?turn ?fin
  case turn =>
    intro j ys tl g C D' h' tk' m m₁ hj hJ hg0 hgN hB F' N' hne
    (refine ex2 hB fun v0 v1 hz2 => ?_; refine and2 hz2 fun hpt hz1 => ?_; clear hz2)
    try clear hB
    obtain rfl := hz1
    have hz4 := ept_val hpt
    (refine ex3 hz4 fun c t1 u1 hz8 => ?_; refine and3 hz8 fun hc hz5 hz6 => ?_; clear hz8)
    try clear hz4
    obtain rfl := hz5
    obtain rfl := hz6
    (refine and3 hJ fun hz11 hyl hz12 => ?_)
    try clear hJ
    obtain rfl := hz11
    have hJ := hz12
    clear hz12
    have hcL : x.cps.toList[j]? = some c := by simpa using hc
    have hc1 : c < 128 := hx c (List.mem_of_getElem? hcL)
    have Xg := X.keeps hg0
    have Tg := T.keeps hg0
    clear F1 N1 H W hpt
    have hj7 : j < 7 := Nat.lt_of_lt_of_le hj hlen
    (try k_fold)
    refine wpAny_tests_one ?_
    k_steps
    · with_reducible rename Fr _ _ _ _ => F9
      with_reducible rename News _ _ _ _ => N9
      with_reducible rename (_ != _) = true => b9
      have hne' : c ≠ lowC c := fun e => by rw [bne, one_inj, decide_eq_true e] at b9; cases b9
      refine cend0 F9 N9 hne ⟨rfl, len_le1 hyl, ?_⟩
      rw [List.take_add_one, hcL, Option.toList_some, bitsL_snoc, if_neg hne', List.length_take, Nat.min_eq_left (by simp; lia)]
      exact hJ.append (.cons _ _ .nil)
    · with_reducible rename (_ != _) = false => b9
      have he' : c = lowC c := by
        rw [bne, one_inj] at b9
        simpa using b9
      refine cend0 F' N' hne ⟨rfl, by lia, ?_⟩
      rw [List.take_add_one, hcL, Option.toList_some, bitsL_snoc, if_pos he', List.append_nil]
      exact hJ
  case fin =>
    intro D' h' tk' ys tl
    intro hz14
    (refine and3 hz14 fun hz15 hyl hJ => ?_)
    try clear hz14
    obtain rfl := hz15
    intro F' N' lt' ne'
    clear F1 N1 H W
    rw [List.take_of_length_le (by simp)] at hJ
    have hl' : h'.IsList D' ys.toArray := ⟨_, (N' _ (.head _)).1, rfl, _, rfl⟩
    iterate 2 walk1
    with_reducible rename Fr _ _ _ _ => F9
    with_reducible rename News _ _ _ _ => N9
    exact ret _ _ _ _ _ _ F9 N9
theorem bits_c (w : World) (p : Program) (loose : List PySem.Str) (mean : ExcName → Option Value) (mg mb : PySem.Str → Option Value) (outer : List Env) (base : Heap) (s : Shared) (R : Result → Shared → Prop) (x : PySem.Str) (tx : Tok) (hx : ∀ c ∈ x.cps.toList, c < 128) (hlen : x.cps.size ≤ 7) : Below (AT 330 100 outer) base outer s.heap → (hd.heap_1 w.params).In s.heap → Top p loose mean mg mb s.heap →
  (∀ L' m' news' h' tk' t', Fr s.heap L' h' m' → News s.heap L' h' news' → R (.ok (.ret (.int (bitsL x.cps.toList).sum t'))) { s with heap := h', toks := tk' }) →
  codeAny (model PySem.Challenge.rw_to0081_01.prog w) (AT 330 100 outer) (.call (.ref 281) ⟨[.str x tx], []⟩) R s := hil_ (Q := fun x => bits_c.S x.1 x.2.1 x.2.2.1 x.2.2.2.1 x.2.2.2.2.1 x.2.2.2.2.2.1 x.2.2.2.2.2.2.1 x.2.2.2.2.2.2.2.1 x.2.2.2.2.2.2.2.2.1 x.2.2.2.2.2.2.2.2.2.1 x.2.2.2.2.2.2.2.2.2.2.1 x.2.2.2.2.2.2.2.2.2.2.2) (by with_unfolding_all exact bits_c.core) (w, p, loose, mean, mg, mb, outer, base, s, R, x, tx) hx hlen

end
section
-- hil-done: cost_c
set_option maxHeartbeats 1000000
noncomputable def cost_c.S (w : World) (p : Program) (loose : List PySem.Str) (mean : ExcName → Option Value) (mg : PySem.Str → Option Value) (mb : PySem.Str → Option Value) (outer : List Env) (base : Heap) (s : Shared) (R : Result → Shared → Prop) (a : Nat) (b : Nat) (ta : Tok) (tb : Tok) : Prop := ∀ (ha : a < 128) (hb : b < 128), Below (AT 340 100 outer) base outer s.heap → (hd.heap_1 w.params).In s.heap → Top p loose mean mg mb s.heap →
  (∀ L' m' news' h' tk' t', Fr s.heap L' h' m' → News s.heap L' h' news' → R (.ok (.ret (.int (costF a b) t'))) { s with heap := h', toks := tk' }) →
  codeAny (model PySem.Challenge.rw_to0081_01.prog w) (AT 340 100 outer) (.call (.ref 101) ⟨[.str (one a) ta, .str (one b) tb], []⟩) R s
noncomputable def cost_c.e : World × Program × (List PySem.Str) × (ExcName → Option Value) × (PySem.Str → Option Value) × (PySem.Str → Option Value) × (List Env) × Heap × Shared × (Result → Shared → Prop) × Nat × Nat × Tok × Tok := haveI := ne_w; haveI := ne_s; haveI := ne_a; haveI := ne_g; Classical.epsilon fun x => ¬ cost_c.S x.1 x.2.1 x.2.2.1 x.2.2.2.1 x.2.2.2.2.1 x.2.2.2.2.2.1 x.2.2.2.2.2.2.1 x.2.2.2.2.2.2.2.1 x.2.2.2.2.2.2.2.2.1 x.2.2.2.2.2.2.2.2.2.1 x.2.2.2.2.2.2.2.2.2.2.1 x.2.2.2.2.2.2.2.2.2.2.2.1 x.2.2.2.2.2.2.2.2.2.2.2.2.1 x.2.2.2.2.2.2.2.2.2.2.2.2.2
@[irreducible] noncomputable def cost_c.w : World := cost_c.e.1
@[irreducible] noncomputable def cost_c.p : Program := cost_c.e.2.1
@[irreducible] noncomputable def cost_c.loose : List PySem.Str := cost_c.e.2.2.1
@[irreducible] noncomputable def cost_c.mean : ExcName → Option Value := cost_c.e.2.2.2.1
@[irreducible] noncomputable def cost_c.mg : PySem.Str → Option Value := cost_c.e.2.2.2.2.1
@[irreducible] noncomputable def cost_c.mb : PySem.Str → Option Value := cost_c.e.2.2.2.2.2.1
@[irreducible] noncomputable def cost_c.outer : List Env := cost_c.e.2.2.2.2.2.2.1
@[irreducible] noncomputable def cost_c.base : Heap := cost_c.e.2.2.2.2.2.2.2.1
@[irreducible] noncomputable def cost_c.s : Shared := cost_c.e.2.2.2.2.2.2.2.2.1
@[irreducible] noncomputable def cost_c.R : Result → Shared → Prop := cost_c.e.2.2.2.2.2.2.2.2.2.1
@[irreducible] noncomputable def cost_c.a : Nat := cost_c.e.2.2.2.2.2.2.2.2.2.2.1
@[irreducible] noncomputable def cost_c.b : Nat := cost_c.e.2.2.2.2.2.2.2.2.2.2.2.1
@[irreducible] noncomputable def cost_c.ta : Tok := cost_c.e.2.2.2.2.2.2.2.2.2.2.2.2.1
@[irreducible] noncomputable def cost_c.tb : Tok := cost_c.e.2.2.2.2.2.2.2.2.2.2.2.2.2
theorem cost_c.core : cost_c.S cost_c.w cost_c.p cost_c.loose cost_c.mean cost_c.mg cost_c.mb cost_c.outer cost_c.base cost_c.s cost_c.R cost_c.a cost_c.b cost_c.ta cost_c.tb := by
  delta cost_c.S
  intro ha hb
  k_fill
  intro B X T ret
  k_dflt (refine' enter ?k1 ?k2 ?k3 ?k4 ?k5 ?k6 ?k7 ?_ ?c2 ?c3 ?c4 ?c5; (case k1 => k_asm); (case k2 => k_asm); (case k3 => k_is); (case k4 => k_is); (case k5 => exact Nat.le_of_ble_eq_true rfl); (case k6 => exact BindsTo.of_eq rfl); (case k7 => exact locs rfl); (case c2 => exact rfl); (case c3 => exact rfl); (case c4 => exact rfl); (case c5 => decide); k_whole; intro h' F' N'; (try dsimp only); (try k_fold))
  k_steps
  · with_reducible rename (_ == _) = true => b9
    have e : costF a b = 0 := by rw [one_inj, decide_eq_true_eq] at b9; unfold costF; rw [if_pos b9]
    rw [e] at ret
    exact ret _ _ _ _ _ _ F' N'
  · rename_i b8 _ _ _ _ b9
    have e : costF a b = 1 := by
      rw [one_inj, decide_eq_false_iff_not] at b8
      rw [one_inj, decide_eq_true_eq] at b9
      unfold costF; rw [if_neg b8, if_pos b9]
    rw [e] at ret
    exact ret _ _ _ _ _ _ F' N'
  · rename_i b8 _ _ _ _ b9
    have e : costF a b = 2 := by
      rw [one_inj, decide_eq_false_iff_not] at b8 b9
      unfold costF; rw [if_neg b8, if_neg b9]
    rw [e] at ret
    exact ret _ _ _ _ _ _ F' N'
theorem cost_c (w : World) (p : Program) (loose : List PySem.Str) (mean : ExcName → Option Value) (mg mb : PySem.Str → Option Value) (outer : List Env) (base : Heap) (s : Shared) (R : Result → Shared → Prop) (a b : Nat) (ta tb : Tok) (ha : a < 128) (hb : b < 128) : Below (AT 340 100 outer) base outer s.heap → (hd.heap_1 w.params).In s.heap → Top p loose mean mg mb s.heap →
  (∀ L' m' news' h' tk' t', Fr s.heap L' h' m' → News s.heap L' h' news' → R (.ok (.ret (.int (costF a b) t'))) { s with heap := h', toks := tk' }) →
  codeAny (model PySem.Challenge.rw_to0081_01.prog w) (AT 340 100 outer) (.call (.ref 101) ⟨[.str (one a) ta, .str (one b) tb], []⟩) R s := hil_ (Q := fun x => cost_c.S x.1 x.2.1 x.2.2.1 x.2.2.2.1 x.2.2.2.2.1 x.2.2.2.2.2.1 x.2.2.2.2.2.2.1 x.2.2.2.2.2.2.2.1 x.2.2.2.2.2.2.2.2.1 x.2.2.2.2.2.2.2.2.2.1 x.2.2.2.2.2.2.2.2.2.2.1 x.2.2.2.2.2.2.2.2.2.2.2.1 x.2.2.2.2.2.2.2.2.2.2.2.2.1 x.2.2.2.2.2.2.2.2.2.2.2.2.2) (by with_unfolding_all exact cost_c.core) (w, p, loose, mean, mg, mb, outer, base, s, R, a, b, ta, tb) ha hb
theorem call_cost {w : World} {p : Program} {loose : List PySem.Str} {mean : ExcName → Option Value} {mg mb : PySem.Str → Option Value} {A : Around} {outer : List Env} {base G : Heap} {s : Shared} {Q E : Value → Shared → Prop} {L f : Addr} {m : PySem.Str → Option Value} {name : PySem.Str} {scope : Scope} {cd : Value} {news : List (Addr × Obj)}
    {a b : Nat} {ta tb : Tok} (B : Below A base outer G) (X : (hd.heap_1 w.params).In G) (T : Top p loose mean mg mb G) (F : Fr G L s.heap m) (N : News G L s.heap news) (ha : a < 128) (hb : b < 128)
    (h : ∀ h' tk' t', Fr G L h' m → News G L h' news → Q (.int (costF a b) t') { s with heap := h', toks := tk' })
    (h0 : A.handled = none) (h1 : A.depth ≤ 339) (h2 : A.units ≤ 97) (hkd : scope.kind = .function := by rfl) :
    wpAny (model PySem.Challenge.rw_to0081_01.prog w) (A.deeper (envOf name scope L f cd)) (call (.ref 101) [.str (one a) ta, .str (one b) tb]) Q E s := by
  refine wpAny_call ?_
  have B' := B.push (name := name) (a := f) (cd := cd) F hkd
  have X' := X.keeps F.keep
  have T' := T.keeps F.keep
  refine below_le (d := 340) (u := 100) (outer := envOf name scope L f cd :: outer) ?_ h0 ?_ ?_ ?_
  · exact cost_c w p loose mean mg mb (envOf name scope L f cd :: outer) base s _ a b ta tb ha hb ⟨rfl, B'.stays, B'.frames⟩ X' T' fun L' m' news' h' tk' t' F' N' => h h' tk' t' (F.keeps F'.keep) (N.grown F'.keep)
  · exact Nat.succ_le_succ h1
  · exact Nat.le_trans (Nat.add_le_add_right h2 3) (by decide)
  · exact B'.stack

end
section
-- hil-done: get_c
set_option maxHeartbeats 2000000
noncomputable def get_c.S (w : World) (p : Program) (loose : List PySem.Str) (mean : ExcName → Option Value) (mg : PySem.Str → Option Value) (mb : PySem.Str → Option Value) (outer : List Env) (base : Heap) (s : Shared) (R : Result → Shared → Prop) (g : Heap) (x : Addr) (d : Addr) (l : Addr) (u : Tok) (ts : List Value) (k : Nat) (rows : List (Nat × List Nat)) (c : Nat) (tn : Tok) : Prop := ∀ (hc : c < 8) (hk : ∀ b o, g.get? b = some o → s.heap.get? b = some o) (hg : ∀ p ∈ hdr w x d l u ts k, g.get? p.1 = none) (ho : ∀ p ∈ hdr w x d l u ts k, s.heap.get? p.1 = some p.2) (hr : HS s.heap ts rows) (hrl : rows.length ≤ 8) (hrn : ∀ r ∈ rows, r.1 < 8), Below (AT 336 100 outer) base outer g → (hd.heap_1 w.params).In g → Top p loose mean mg mb g →
  (∀ L' m' h' tk' v, Fr s.heap L' h' m' → Got rows c v → R (.ok (.ret v)) { s with heap := h', toks := tk' }) →
  codeAny (model PySem.Challenge.rw_to0081_01.prog w) (AT 336 100 outer) (.call (.ref 188) ⟨[.ref x, .str (one (48 + c)) tn], []⟩) R s
noncomputable def get_c.e : World × Program × (List PySem.Str) × (ExcName → Option Value) × (PySem.Str → Option Value) × (PySem.Str → Option Value) × (List Env) × Heap × Shared × (Result → Shared → Prop) × Heap × Addr × Addr × Addr × Tok × (List Value) × Nat × (List (Nat × List Nat)) × Nat × Tok := haveI := ne_w; haveI := ne_s; haveI := ne_a; haveI := ne_g; Classical.epsilon fun x => ¬ get_c.S x.1 x.2.1 x.2.2.1 x.2.2.2.1 x.2.2.2.2.1 x.2.2.2.2.2.1 x.2.2.2.2.2.2.1 x.2.2.2.2.2.2.2.1 x.2.2.2.2.2.2.2.2.1 x.2.2.2.2.2.2.2.2.2.1 x.2.2.2.2.2.2.2.2.2.2.1 x.2.2.2.2.2.2.2.2.2.2.2.1 x.2.2.2.2.2.2.2.2.2.2.2.2.1 x.2.2.2.2.2.2.2.2.2.2.2.2.2.1 x.2.2.2.2.2.2.2.2.2.2.2.2.2.2.1 x.2.2.2.2.2.2.2.2.2.2.2.2.2.2.2.1 x.2.2.2.2.2.2.2.2.2.2.2.2.2.2.2.2.1 x.2.2.2.2.2.2.2.2.2.2.2.2.2.2.2.2.2.1 x.2.2.2.2.2.2.2.2.2.2.2.2.2.2.2.2.2.2.1 x.2.2.2.2.2.2.2.2.2.2.2.2.2.2.2.2.2.2.2
@[irreducible] noncomputable def get_c.w : World := get_c.e.1
@[irreducible] noncomputable def get_c.p : Program := get_c.e.2.1
@[irreducible] noncomputable def get_c.loose : List PySem.Str := get_c.e.2.2.1
@[irreducible] noncomputable def get_c.mean : ExcName → Option Value := get_c.e.2.2.2.1
@[irreducible] noncomputable def get_c.mg : PySem.Str → Option Value := get_c.e.2.2.2.2.1
@[irreducible] noncomputable def get_c.mb : PySem.Str → Option Value := get_c.e.2.2.2.2.2.1
@[irreducible] noncomputable def get_c.outer : List Env := get_c.e.2.2.2.2.2.2.1
@[irreducible] noncomputable def get_c.base : Heap := get_c.e.2.2.2.2.2.2.2.1
@[irreducible] noncomputable def get_c.s : Shared := get_c.e.2.2.2.2.2.2.2.2.1
@[irreducible] noncomputable def get_c.R : Result → Shared → Prop := get_c.e.2.2.2.2.2.2.2.2.2.1
@[irreducible] noncomputable def get_c.g : Heap := get_c.e.2.2.2.2.2.2.2.2.2.2.1
@[irreducible] noncomputable def get_c.x : Addr := get_c.e.2.2.2.2.2.2.2.2.2.2.2.1
@[irreducible] noncomputable def get_c.d : Addr := get_c.e.2.2.2.2.2.2.2.2.2.2.2.2.1
@[irreducible] noncomputable def get_c.l : Addr := get_c.e.2.2.2.2.2.2.2.2.2.2.2.2.2.1
@[irreducible] noncomputable def get_c.u : Tok := get_c.e.2.2.2.2.2.2.2.2.2.2.2.2.2.2.1
@[irreducible] noncomputable def get_c.ts : List Value := get_c.e.2.2.2.2.2.2.2.2.2.2.2.2.2.2.2.1
@[irreducible] noncomputable def get_c.k : Nat := get_c.e.2.2.2.2.2.2.2.2.2.2.2.2.2.2.2.2.1
@[irreducible] noncomputable def get_c.rows : List (Nat × List Nat) := get_c.e.2.2.2.2.2.2.2.2.2.2.2.2.2.2.2.2.2.1
@[irreducible] noncomputable def get_c.c : Nat := get_c.e.2.2.2.2.2.2.2.2.2.2.2.2.2.2.2.2.2.2.1
@[irreducible] noncomputable def get_c.tn : Tok := get_c.e.2.2.2.2.2.2.2.2.2.2.2.2.2.2.2.2.2.2.2
theorem get_c.core : get_c.S get_c.w get_c.p get_c.loose get_c.mean get_c.mg get_c.mb get_c.outer get_c.base get_c.s get_c.R get_c.g get_c.x get_c.d get_c.l get_c.u get_c.ts get_c.k get_c.rows get_c.c get_c.tn := by
  delta get_c.S
  intro hc hk hg ho hr hrl hrn
  k_fill
  intro B0 X0 T0 ret
  have X1 := X0.keeps hk
  have T1 := T0.keeps hk
  have hup : ∀ b o, g.get? b = some o → (hideAll s.heap ((hdr w x d l u ts k).map (·.1))).get? b = some o := hide_up hk fun a ha => by
    have hz1 := List.mem_map.mp ha
    (refine ex1 hz1 fun q hz3 => ?_; refine and2 hz3 fun hq hz2 => ?_; clear hz3)
    try clear hz1
    obtain rfl := hz2
    exact hg q hq
  have B := below_keeps B0 hup
  have X := X0.keeps hup
  have T := T0.keeps hup
  k_dflt (refine' enter ?k1 ?k2 ?k3 ?k4 ?k5 ?k6 ?k7 ?_ ?c2 ?c3 ?c4 ?c5; (case k1 => exact X1); (case k2 => exact T1); (case k3 => k_is); (case k4 => k_is); (case k5 => exact Nat.le_of_ble_eq_true rfl); (case k6 => exact binds_K X1 rfl (by k_is) rfl rfl rfl); (case k7 => exact locs rfl); (case c2 => exact rfl); (case c3 => exact rfl); (case c4 => exact rfl); (case c5 => decide); k_whole; intro h' F0 N0; (try dsimp only); (try k_fold))
  have F' := hide_fr (as := (hdr w x d l u ts k).map (·.1)) F0
  have N' : News (hideAll s.heap ((hdr w x d l u ts k).map (·.1))) s.heap.objs.size h' [(x, instObj 241 d), (d, dictOf [{ hash := PyData.keyHash w.params (PySem.Str.ofString "_headers"), key := .str (PySem.Str.ofString "_headers") u, val := .ref l }] 1), (l, listO ts k)] := hide_news ho F0
  have hrG : HS (hideAll s.heap ((hdr w x d l u ts k).map (·.1))) ts rows := hs_hide (by simp [hdr]) ho hr
  generalize hG : hideAll s.heap ((hdr w x d l u ts k).map (·.1)) = G at *
  clear F0 N0 X1 T1 X0 T0 B0
  have hc1 : 48 + c < 128 := dig_128 hc
  have hx : ∀ y ∈ (one (lowC (48 + c))).cps.toList, 32 ≤ y ∧ y < 127 := by
    intro y hy
    have : y = lowC (48 + c) := by simpa using hy
    rw [this]; unfold lowC; rw [if_neg (dig_low hc)]; exact dig_ok hc
  have hsz : (one (lowC (48 + c))).cps.size ≤ 100 := Nat.le_of_ble_eq_true rfl
  k_steps
  refine wpAny_For ?_
  iterate 3 walk1
  with_reducible rename Fr _ _ _ _ => F1
  with_reducible rename News _ _ _ _ => N1
  with_reducible rename (hd.heap_1 w.params).In G => XG
  with_reducible rename Top _ _ _ _ _ G => TG
  refine iter_rows rfl ⟨_, (N1 (l, listO ts k) (.tail _ (.tail _ (.head _)))).1, rfl, k, rfl⟩ (hrG.keeps F1.keep) fun I o fp St Mid eI W H => ?_
  have fin : ∀ h' tk' v m', Fr G s.heap.objs.size h' m' → News G s.heap.objs.size h' [(x, instObj 241 d), (d, dictOf [{ hash := PyData.keyHash w.params (PySem.Str.ofString "_headers"), key := .str (PySem.Str.ofString "_headers") u, val := .ref l }] 1), (l, listO ts k)] →
      Got rows c v → R (.ok (.ret v)) { s with heap := h', toks := tk' } := by
    intro h' tk' v m' F N hv
    subst hG
    exact ret _ m' h' tk' v (back_fr ho (fun p hp => hp) F N (Nat.le_refl _)) hv
  let Jv1 : Nat → (PySem.Str → Option Value) → List (Addr × Obj) → Prop := fun i m nx => (∃ t', m (PySem.Str.ofString "name") = some (.str (one (lowC (48 + c))) t')) ∧ (∀ j r, j < i → rows[j]? = some r → r.1 ≠ c) ∧ m (PySem.Str.ofString "default") = some .none ∧
      nx = [(x, instObj 241 d), (d, dictOf [{ hash := PyData.keyHash w.params (PySem.Str.ofString "_headers"), key := .str (PySem.Str.ofString "_headers") u, val := .ref l }] 1), (l, listO ts k)]
  refine for_pair rfl (fun g => g = s.gens) Jv1
    W spt2 H rfl rfl rfl F1 N1 rfl ⟨⟨_, rfl⟩, fun j _ h => absurd h (Nat.not_lt_zero j), rfl, rfl⟩ ?turn ?done
  case done =>
    intro m₁ nx h g tk
    intro hz4
    (refine and4 hz4 fun hz5 hj hd hz6 => ?_)
    try clear hz4
    (refine ex1 hz5 fun t' hm => ?_)
    try clear hz5
    obtain rfl := hz6
    rintro rfl
    intro F N
    rw [upd_self hd] at F
    clear F1 N1 H W
    (try dsimp only)
    k_steps
    refine fin h tk .none _ F N ?_
    unfold Got; rw [find_none hj]
  case turn =>
    intro i m₁ nx h g tk own v0 v1 hi'
    intro hz9
    (refine and4 hz9 fun hz10 hj hd hz11 => ?_)
    try clear hz9
    (refine ex1 hz10 fun t' hm => ?_)
    try clear hz10
    obtain rfl := hz11
    rintro rfl
    intro hpt F N hof
    have hz14 := spt_val hpt
    (refine ex4 hz14 fun n ls t1 u1 hz18 => ?_; refine and3 hz18 fun hpi hz15 hz16 => ?_; clear hz18)
    try clear hz14
    obtain rfl := hz15
    obtain rfl := hz16
    rw [upd_self hm] at F
    have hn8 : n < 8 := hrn _ (List.mem_of_getElem? hpi)
    have hn1 : 48 + n < 128 := dig_128 hn8
    clear F1 N1 H W hpt
    (try k_fold)
    k_steps
    · with_reducible rename (_ == _) = true => b9
      have e : n = c := by
        rw [one_inj, decide_eq_true_eq] at b9
        unfold lowC at b9; rw [if_neg (dig_low hn8), if_neg (dig_low hc)] at b9; exact Nat.add_left_cancel b9
      refine fin h _ _ _ F (news_sub N fun p hp => List.mem_append_left _ hp) ?_
      unfold Got; rw [find_at e hj hpi]
      exact ⟨_, rfl⟩
    · with_reducible rename (_ == _) = false => b9
      have e : n ≠ c := by
        rintro rfl
        rw [one_inj, decide_eq_false_iff_not] at b9
        exact b9 rfl
      refine fend (nx' := [(x, instObj 241 d), (d, dictOf [{ hash := PyData.keyHash w.params (PySem.Str.ofString "_headers"), key := .str (PySem.Str.ofString "_headers") u, val := .ref l }] 1), (l, listO ts k)]) rfl F N (fun p hp => List.mem_append_left _ hp) (fun p hp => List.mem_append_right _ hp) (fun p hp => .inl ⟨p.2, hp⟩) ⟨⟨t', rfl⟩, fun j r hj' hr' => ?_, hd, rfl⟩
      rcases Nat.lt_succ_iff_lt_or_eq.mp hj' with q | rfl
      · exact hj j r q hr'
      · rw [hpi] at hr'; cases hr'; exact e
theorem get_c (w : World) (p : Program) (loose : List PySem.Str) (mean : ExcName → Option Value) (mg mb : PySem.Str → Option Value) (outer : List Env) (base : Heap) (s : Shared) (R : Result → Shared → Prop) (g : Heap) (x d l : Addr) (u : Tok) (ts : List Value) (k : Nat) (rows : List (Nat × List Nat)) (c : Nat) (tn : Tok) (hc : c < 8) (hk : ∀ b o, g.get? b = some o → s.heap.get? b = some o) (hg : ∀ p ∈ hdr w x d l u ts k, g.get? p.1 = none) (ho : ∀ p ∈ hdr w x d l u ts k, s.heap.get? p.1 = some p.2) (hr : HS s.heap ts rows) (hrl : rows.length ≤ 8) (hrn : ∀ r ∈ rows, r.1 < 8) : Below (AT 336 100 outer) base outer g → (hd.heap_1 w.params).In g → Top p loose mean mg mb g →
  (∀ L' m' h' tk' v, Fr s.heap L' h' m' → Got rows c v → R (.ok (.ret v)) { s with heap := h', toks := tk' }) →
  codeAny (model PySem.Challenge.rw_to0081_01.prog w) (AT 336 100 outer) (.call (.ref 188) ⟨[.ref x, .str (one (48 + c)) tn], []⟩) R s := hil_ (Q := fun x => get_c.S x.1 x.2.1 x.2.2.1 x.2.2.2.1 x.2.2.2.2.1 x.2.2.2.2.2.1 x.2.2.2.2.2.2.1 x.2.2.2.2.2.2.2.1 x.2.2.2.2.2.2.2.2.1 x.2.2.2.2.2.2.2.2.2.1 x.2.2.2.2.2.2.2.2.2.2.1 x.2.2.2.2.2.2.2.2.2.2.2.1 x.2.2.2.2.2.2.2.2.2.2.2.2.1 x.2.2.2.2.2.2.2.2.2.2.2.2.2.1 x.2.2.2.2.2.2.2.2.2.2.2.2.2.2.1 x.2.2.2.2.2.2.2.2.2.2.2.2.2.2.2.1 x.2.2.2.2.2.2.2.2.2.2.2.2.2.2.2.2.1 x.2.2.2.2.2.2.2.2.2.2.2.2.2.2.2.2.2.1 x.2.2.2.2.2.2.2.2.2.2.2.2.2.2.2.2.2.2.1 x.2.2.2.2.2.2.2.2.2.2.2.2.2.2.2.2.2.2.2) (by with_unfolding_all exact get_c.core) (w, p, loose, mean, mg, mb, outer, base, s, R, g, x, d, l, u, ts, k, rows, c, tn) hc hk hg ho hr hrl hrn
set_option maxHeartbeats 400000
theorem call_get {w : World} {p : Program} {loose : List PySem.Str} {mean : ExcName → Option Value} {mg mb : PySem.Str → Option Value} {A : Around} {outer : List Env} {base G : Heap} {s : Shared} {Q E : Value → Shared → Prop} {L a : Addr} {m : PySem.Str → Option Value} {name : PySem.Str} {scope : Scope} {cd : Value} {news : List (Addr × Obj)}
    {x d l : Addr} {u : Tok} {ts : List Value} {k : Nat} {rows : List (Nat × List Nat)} {c : Nat} {tn : Tok} (B : Below A base outer G) (X : (hd.heap_1 w.params).In G) (T : Top p loose mean mg mb G) (F : Fr G L s.heap m) (N : News G L s.heap news)
    (hm : ∀ p ∈ hdr w x d l u ts k, p ∈ news) (hr : HS s.heap ts rows) (hrl : rows.length ≤ 8) (hrn : ∀ r ∈ rows, r.1 < 8) (hc : c < 8)
    (h : ∀ h' tk' v, Fr G L h' m → News G L h' news → HS h' ts rows → Got rows c v → Q v { s with heap := h', toks := tk' })
    (h0 : A.handled = none) (h1 : A.depth ≤ 335) (h2 : A.units ≤ 90) (hkd : scope.kind = .function := by rfl) :
    wpAny (model PySem.Challenge.rw_to0081_01.prog w) (A.deeper (envOf name scope L a cd)) (call (.ref 188) [.ref x, .str (one (48 + c)) tn]) Q E s := by
  refine wpAny_call ?_
  have hz22 : ∃ as : List Addr, as = (hdr w x d l u ts k).map (·.1) := ⟨_, rfl⟩
  (refine ex1 hz22 fun as has => ?_)
  try clear hz22
  have hmem : ∀ q ∈ hdr w x d l u ts k, q.1 ∈ as := fun q hq => has ▸ List.mem_map_of_mem hq
  have hg : ∀ b ∈ as, G.get? b = none := fun b hb => by
    subst has
    have hz23 := List.mem_map.mp hb
    (refine ex1 hz23 fun q hz25 => ?_; refine and2 hz25 fun hq hz24 => ?_; clear hz25)
    try clear hz23
    obtain rfl := hz24
    exact (N q (hm q hq)).2.2
  have hL : L ∉ as := fun hb => by
    subst has
    have hz26 := List.mem_map.mp hb
    (refine ex1 hz26 fun q hz27 => ?_; refine and2 hz27 fun hq e => ?_; clear hz27)
    try clear hz26
    exact (N q (hm q hq)).2.1 e
  have hup : ∀ b o, G.get? b = some o → (hideAll s.heap as).get? b = some o := hide_up F.keep hg
  have B' := below_hide (name := name) (a := a) (cd := cd) B F hg hL hkd
  have X' := X.keeps hup
  have T' := T.keeps hup
  generalize hG' : hideAll s.heap as = G' at *
  have hk1 : ∀ b o, G'.get? b = some o → s.heap.get? b = some o := fun b o e => by rw [← hG'] at e; exact of_hideAll _ e
  have hk2 : ∀ q ∈ hdr w x d l u ts k, G'.get? q.1 = none := fun q hq => by rw [← hG']; exact hideAll_none _ (hmem q hq)
  clear hup hg hL
  refine below_le (d := 336) (u := 100) (outer := envOf name scope L a cd :: outer) ?_ h0 ?_ ?_ ?_
  · refine get_c w p loose mean mg mb (envOf name scope L a cd :: outer) base s _ G' x d l u ts k rows c tn hc hk1 hk2 ?_ hr hrl hrn ?_ X' T' ?_
    · exact fun q hq => (N q (hm q hq)).1
    · exact ⟨rfl, B'.stays, B'.frames⟩
    · exact fun L' m' h' tk' v F' hv => h h' tk' v (F.keeps F'.keep) (N.grown F'.keep) (hr.keeps F'.keep) hv
  · exact Nat.succ_le_succ h1
  · exact Nat.le_trans (Nat.add_le_add_right h2 3) (by decide)
  · show (A.deeper _).frames = _
    rw [show (A.deeper (envOf name scope L a cd)).frames = A.frames.map (envOf name scope L a cd :: ·) from rfl, B.stack]; rfl

end
section
-- hil-done: iter_c
noncomputable def GPriv (g : Heap) (L k : Nat) (x : PySem.Str) (t : Tok) : Nat → Heap → Prop
  | 0 => fun h => (∀ b o, g.get? b = some o → h.get? b = some o) ∧ h.Ns L (fun y => [(PySem.Str.ofString "addr", Value.str x t)].reverse.lookup y) ∧ h.objs.size = k ∧ g.objs.size ≤ L ∧ L < k
  | i + 1 => fun h => (∀ b o, g.get? b = some o → h.get? b = some o) ∧ (∃ m, h.Ns L m ∧ m (PySem.Str.ofString "escape") = some (.bool false)) ∧ ESt x t k (i + 1) h ∧ g.objs.size ≤ L ∧ L < k
theorem GPriv.up {g : Heap} {L k : Nat} {x : PySem.Str} {t : Tok} : ∀ {i : Nat} {h : Heap}, GPriv g L k x t i h → ∀ b o, g.get? b = some o → h.get? b = some o
  | 0, _, h => h.1
  | _ + 1, _, h => h.1
theorem GPriv.frame {g : Heap} {L : Nat} {x : PySem.Str} {t : Tok} {i : Nat} {h h' : Heap} (H : GPriv g L (L + 2) x t (i + 1) h) (hk : ∀ b o, g.get? b = some o → h'.get? b = some o)
    (hf : ∀ b ∈ [L, L + 3, L + 2], ∀ o, h.get? b = some o → h'.get? b = some o) : GPriv g L (L + 2) x t (i + 1) h' := by
  (refine and5 H fun hz1 hz2 hz4 h4 h5 => ?_)
  try clear H
  clear hz1
  (refine ex1 hz2 fun m hz3 => ?_; refine and2 hz3 fun hm he => ?_; clear hz3)
  try clear hz2
  (rcases hz4 with ⟨hz5, o2, h2, h3⟩)
  try clear hz4
  (refine ex1 hz5 fun old h1 => ?_)
  try clear hz5
  exact ⟨hk, ⟨m, hm.at' fun o e => hf L (.head _) o e, he⟩, ⟨⟨old, hf (L + 2 + 1) (.tail _ (.head _)) _ h1⟩, o2, hf (L + 2) (.tail _ (.tail _ (.head _))) _ h2, h3⟩, h4, h5⟩
theorem GPriv.live {g : Heap} {L : Nat} {x : PySem.Str} {t : Tok} {i : Nat} {h : Heap} (H : GPriv g L (L + 2) x t (i + 1) h) : ∀ b ∈ [L, L + 3, L + 2], ∃ o, h.get? b = some o := by
  (refine and5 H fun hz11 hz12 hz18 h4 h5 => ?_)
  try clear H
  clear hz11
  (refine ex1 hz12 fun m hz17 => ?_; refine and2 hz17 fun hz13 he => ?_; clear hz17)
  try clear hz12
  (refine ex3 hz13 fun o1 _ _ hz14 => ?_; refine and2 hz14 fun hm _ => ?_; clear hz14)
  try clear hz13
  (rcases hz18 with ⟨hz19, o2, h2, h3⟩)
  try clear hz18
  (refine ex1 hz19 fun old h1 => ?_)
  try clear hz19
  intro b hb
  simp only [List.mem_cons, List.not_mem_nil, or_false] at hb
  rcases hb with q | q | q
  · exact ⟨_, q ▸ hm⟩
  · exact ⟨_, q ▸ h1⟩
  · exact ⟨_, q ▸ h2⟩
set_option maxHeartbeats 1000000
noncomputable def iter_c.S (w : World) (p : Program) (loose : List PySem.Str) (mean : ExcName → Option Value) (mg : PySem.Str → Option Value) (mb : PySem.Str → Option Value) (A : Around) (s : Shared) (R : Result → Shared → Prop) (g : Heap) (x : PySem.Str) (tx : Tok) : Prop := ∀ (hx : ∀ c ∈ x.cps.toList, c < 128 ∧ c ≠ 92) (hk : ∀ b o, g.get? b = some o → s.heap.get? b = some o) (hgs : g.objs.size ≤ s.heap.objs.size), A.depth ≤ 340 → (hd.heap_1 w.params).In g → Top p loose mean mg mb g →
  (∀ h' tk' gs, (∀ b o, s.heap.get? b = some o → h'.get? b = some o) → h'.IsGen (s.heap.objs.size + 1) s.gens.size → GPriv g s.heap.objs.size (s.heap.objs.size + 2) x tx 0 h' →
    (∀ A', A'.handled = none → ∀ s'', GPriv g s.heap.objs.size (s.heap.objs.size + 2) x tx 0 s''.heap →
      GenState.Goes (model PySem.Challenge.rw_to0081_01.prog w) A' (GenE [s.heap.objs.size, s.heap.objs.size + 3, s.heap.objs.size + 2]) (GenY x [s.heap.objs.size, s.heap.objs.size + 3, s.heap.objs.size + 2] (GPriv g s.heap.objs.size (s.heap.objs.size + 2) x tx)) x.cps.size gs (.send .none) s'') →
    R (.ok (.ret (.ref (s.heap.objs.size + 1)))) { s with heap := h', gens := s.gens.push gs, toks := tk' }) →
  codeAny (model PySem.Challenge.rw_to0081_01.prog w) A (.call (.ref 87) ⟨[.str x tx], []⟩) R s
noncomputable def iter_c.e : World × Program × (List PySem.Str) × (ExcName → Option Value) × (PySem.Str → Option Value) × (PySem.Str → Option Value) × Around × Shared × (Result → Shared → Prop) × Heap × PySem.Str × Tok := haveI := ne_w; haveI := ne_s; haveI := ne_a; haveI := ne_g; Classical.epsilon fun x => ¬ iter_c.S x.1 x.2.1 x.2.2.1 x.2.2.2.1 x.2.2.2.2.1 x.2.2.2.2.2.1 x.2.2.2.2.2.2.1 x.2.2.2.2.2.2.2.1 x.2.2.2.2.2.2.2.2.1 x.2.2.2.2.2.2.2.2.2.1 x.2.2.2.2.2.2.2.2.2.2.1 x.2.2.2.2.2.2.2.2.2.2.2
@[irreducible] noncomputable def iter_c.w : World := iter_c.e.1
@[irreducible] noncomputable def iter_c.p : Program := iter_c.e.2.1
@[irreducible] noncomputable def iter_c.loose : List PySem.Str := iter_c.e.2.2.1
@[irreducible] noncomputable def iter_c.mean : ExcName → Option Value := iter_c.e.2.2.2.1
@[irreducible] noncomputable def iter_c.mg : PySem.Str → Option Value := iter_c.e.2.2.2.2.1
@[irreducible] noncomputable def iter_c.mb : PySem.Str → Option Value := iter_c.e.2.2.2.2.2.1
@[irreducible] noncomputable def iter_c.A : Around := iter_c.e.2.2.2.2.2.2.1
@[irreducible] noncomputable def iter_c.s : Shared := iter_c.e.2.2.2.2.2.2.2.1
@[irreducible] noncomputable def iter_c.R : Result → Shared → Prop := iter_c.e.2.2.2.2.2.2.2.2.1
@[irreducible] noncomputable def iter_c.g : Heap := iter_c.e.2.2.2.2.2.2.2.2.2.1
@[irreducible] noncomputable def iter_c.x : PySem.Str := iter_c.e.2.2.2.2.2.2.2.2.2.2.1
@[irreducible] noncomputable def iter_c.tx : Tok := iter_c.e.2.2.2.2.2.2.2.2.2.2.2
theorem iter_c.core : iter_c.S iter_c.w iter_c.p iter_c.loose iter_c.mean iter_c.mg iter_c.mb iter_c.A iter_c.s iter_c.R iter_c.g iter_c.x iter_c.tx := by
  delta iter_c.S
  intro hx hk hgs
  k_fill
  intro B X T ret
  have X1 := X.keeps hk
  have T1 := T.keeps hk
  k_dflt (refine' codeAny_call_generator ?k5 ?k3 ?kd ?kc ?kg ?kb ?k4 ?k6; (case k5 => exact Nat.lt_of_le_of_lt B (Nat.le_of_ble_eq_true rfl)); (case k3 => exact X1 87 _ (by k_is)); (case kd => exact rfl); (case kc => exact rfl); (case kg => exact rfl); (case kb => exact rfl); (case k4 => exact codeRec_of X1 (by k_is)))
  refine (BindsTo.of_eq rfl : BindsTo s _ _ [(PySem.Str.ofString "addr", Value.str x tx)]) _ _ _ _ ?_
  refine wpAny_newFunctionEnv (by decide) (locs rfl) (fun h₁ hns hsb => ⟨T1.nolimit.fresh _ hsb, ?_⟩) rfl
  have hk₁ : ∀ b o, s.heap.get? b = some o → h₁.get? b = some o := fun b o e => hsb.extBut b o (Nat.ne_of_lt (Heap.lt_size e)) (Heap.get?_push_of_some _ e)
  have hsz : h₁.objs.size = s.heap.objs.size + 1 := by
    have := hsb.1
    rw [Heap.size_push] at this; exact this
  dsimp only
  rw [hsz]
  refine ret _ _ _ (fun b o e => Heap.get?_push_of_some _ (hk₁ b o e)) ?_ ?_ ?_
  · exact ⟨_, _, _, by rw [← hsz]; exact Heap.get?_push_size _ rfl, rfl, rfl, rfl⟩
  · exact ⟨fun b o e => Heap.get?_push_of_some _ (hk₁ b o (hk b o e)), hns.at' fun o e => Heap.get?_push_of_some _ e, by rw [Heap.size_push, hsz], hgs, Nat.lt_succ_of_lt (Nat.lt_succ_self _)⟩
  · intro A' hA s' hP
    refine ⟨rfl, ?_⟩
    generalize s.heap.objs.size = L at *
    rw [show newEnv _ L _ _ _ _ _ _ _ = envOf (PySem.Str.ofString "_iter_escaped_chars") _ L 87 (.ref 86) from rfl]
    (refine and5 hP fun hgk hns' hz hgL hLk => ?_)
    try clear hP
    have F : Fr g L s'.heap _ := ⟨hns', hgk, hgL⟩
    have N : News g L s'.heap [] := News.nil
    clear X1 T1 hk₁ hns hsb hsz hk ret B
    have W0 : ∀ A : Around, A.handled = none → WalksU PySem.Challenge.rw_to0081_01.prog w A (L + 2 + 1) [L + 2 + 1, L + 2] [L + 2 + 1, L + 2] x.cps.size (EPt x) (ESt x tx (L + 2)) (EMid x tx (L + 2)) := fun A hA => enumW hA x tx (L + 2)
    refine seg_func ?_
    refine seg_execs_cons (seg_wrap ?_)
    iterate 2 walk1
    refine wpAny_storeName_local rfl F.ns (fun h₂ hn₂ hs₂ => ?_) rfl
    have F2 := F.set hn₂ hs₂
    have N2 : News g L h₂ [] := News.nil
    have z2 : h₂.objs.size = L + 2 := hs₂.1.trans hz
    have k2 : ∀ b o, b ≠ L → s'.heap.get? b = some o → h₂.get? b = some o := fun b o hb e => hs₂.extBut b o hb e
    clear F N hn₂ hs₂ hns' hz
    dsimp only
    refine seg_execs_cons (seg_wrap ?_)
    iterate 2 walk1
    refine wpAny_storeName_local rfl F2.ns (fun h₃ hn₃ hs₃ => ?_) rfl
    have F3 := F2.set hn₃ hs₃
    have N3 : News g L h₃ [] := News.nil
    have z3 : h₃.objs.size = L + 2 := hs₃.1.trans z2
    have k3 : ∀ b o, b ≠ L → s'.heap.get? b = some o → h₃.get? b = some o := fun b o hb e => hs₃.extBut b o hb (k2 b o hb e)
    clear F2 N2 hn₃ hs₃ z2 k2
    dsimp only
    refine seg_execs_cons (seg_For ?_)
    iterate 6 walk1
    have hxa : x.cps.all (· < 128) = true := by
      rw [← Array.all_toList, List.all_eq_true]
      exact fun c hc => decide_eq_true (hx c hc).1
    refine enum_at hxa fun h₄ hE0 k4 => ?_
    dsimp only at hE0 k4 ⊢
    rw [z3] at hE0
    rw [z3]
    intro pp
    have hns4 := F3.ns.keeps k4
    have kk : ∀ b o, b ∉ [L, L + 3, L + 2] → s'.heap.get? b = some o → h₄.get? b = some o := fun b o hb e => k4 b o (k3 b o (fun q => hb (q ▸ .head _)) e)
    have kg : ∀ b o, g.get? b = some o → h₄.get? b = some o := fun b o e => k4 b o (F3.keep b o e)
    clear F3 N3 k3 k4 z3 hgk
    refine seg_for_rec0 (fun i s₀ s => ∃ h tk, s = { s₀ with heap := h, toks := tk } ∧ (∀ b o, b ∉ [L, L + 3, L + 2] → s₀.heap.get? b = some o → h.get? b = some o) ∧ (∀ b o, g.get? b = some o → h.get? b = some o) ∧ (∃ m, h.Ns L m ∧ m (PySem.Str.ofString "escape") = some (.bool false)) ∧ ESt x tx (L + 2) i h)
      ⟨h₄, _, rfl, kk, kg, ⟨_, hns4, rfl⟩, hE0⟩ ?turn ?done
    case turn =>
      intro i hi ih s₀ s
      intro hz28
      (refine ex2 hz28 fun h tk hz35 => ?_; refine and5 hz35 fun hz29 hkeep hg' hz30 hE => ?_; clear hz35)
      try clear hz28
      obtain rfl := hz29
      (refine ex1 hz30 fun m hz31 => ?_; refine and2 hz31 fun hns hesc => ?_; clear hz31)
      try clear hz30
      refine seg_for_pair ?hh (W0 _ ?hh) ept2 rfl rfl rfl ?hL hi hE hns ?main
      case hh => exact hA
      case hL =>
        show L ∉ [L + 2 + 1, L + 2]
        simp only [List.mem_cons, List.not_mem_nil, or_false, not_or]
        exact ⟨Nat.ne_of_lt (by omega), Nat.ne_of_lt (by omega)⟩
      case main =>
        intro h₁ tk₁ v0 v1 hp hst hns₁ hk₁
        have hz37 := ept_val hp
        (refine ex3 hz37 fun c t0 u0 hz41 => ?_; refine and3 hz41 fun hc hz38 hz39 => ?_; clear hz41)
        try clear hz37
        obtain rfl := hz38
        obtain rfl := hz39
        have kg₁ : ∀ b o, g.get? b = some o → h₁.get? b = some o := fun b o e => by
          have hb : b < L := Nat.lt_of_lt_of_le (Heap.lt_size e) hgL
          refine hk₁ b o ?_ (hg' b o e)
          show b ∉ [L, L + 2 + 1, L + 2]
          simp only [List.mem_cons, List.not_mem_nil, or_false, not_or]
          exact ⟨Nat.ne_of_lt hb, Nat.ne_of_lt (Nat.lt_of_lt_of_le hb (Nat.le_add_right L 3)), Nat.ne_of_lt (Nat.lt_of_lt_of_le hb (Nat.le_add_right L 2))⟩
        have kk₁ : ∀ b o, b ∉ [L, L + 3, L + 2] → s₀.heap.get? b = some o → h₁.get? b = some o := fun b o hb e => hk₁ b o hb (hkeep b o hb e)
        have F : Fr g L h₁ _ := ⟨hns₁, kg₁, hgL⟩
        have N : News g L h₁ [] := News.nil
        rw [upd_self hesc] at F
        have hcc := hx c (List.mem_of_getElem? (by rw [Array.getElem?_toList]; exact hc))
        have hz44 : ∃ n', x.cps.size - i = n' + 1 := ⟨x.cps.size - i - 1, pred_succ (Nat.sub_pos_of_lt hi)⟩
        (refine ex1 hz44 fun n' hn' => ?_)
        try clear hz44
        rw [hn']
        rw [show x.cps.size - (i + 1) = n' from congrArg Nat.pred hn'] at ih
        clear hns₁ hp hns hkeep hk₁ kg₁ hE0 hns4 kk kg hg' hE
        refine seg_execs_cons (seg_If ?_)
        iterate 4 walk1
        refine seg_execs_cons (seg_If ?_)
        iterate 6 walk1
        · rename_i hbad
          refine absurd (beq_iff_eq.mp hbad) fun e => hcc.2 ?_
          have e1 : #[c] = (PySem.Str.ofString "\\").cps := congrArg (·.cps) e
          rw [show (PySem.Str.ofString "\\").cps = #[92] by decide +kernel] at e1
          injection e1 with e1
          injection e1
        refine seg_execs_cons (seg_Expr_Yield rfl rfl rfl ?_)
        iterate 6 walk1
        refine wpAny_newTuple fun kap hkap => ?_
        have hpu : ∀ b o, h₁.get? b = some o → (h₁.push (tup2 (.int (i : Nat) t0) (.str (one c) u0))).get? b = some o := fun b o e => Heap.get?_push_of_some _ e
        have hst' := (W0 A' hA).frame _ _ _ hst fun b _ o e => hpu b o e
        refine ⟨i, c, h₁.objs.size, t0, u0, h₁.push (tup2 (.int (i : Nat) t0) (.str (one c) u0)), _, (show i + n' + 1 = x.cps.size from (Nat.add_comm i (n' + 1)).trans ((Nat.sub_eq_iff_eq_add (Nat.le_of_lt hi)).mp hn').symm), hc, rfl, rfl, Heap.get?_push_size _ rfl, ?_, fun b o hb e => hpu b o (kk₁ b o hb e), ⟨fun b o e => hpu b o (F.keep b o e), ⟨_, F.ns.at' fun o e => hpu _ o e, rfl⟩, hst', hgL, hLk⟩, ?_⟩
        · cases e : s₀.heap.get? h₁.objs.size with
          | none => rfl
          | some o =>
            exfalso
            have hlive : h₁.objs.size ∉ [L, L + 3, L + 2] := by
              intro hm
              (rcases hst with ⟨hz45, o2, hi2, hz46⟩)
              try clear hst
              (refine ex1 hz45 fun _ he => ?_)
              try clear hz45
              clear hz46
              have hz49 := F.ns
              (refine ex3 hz49 fun o3 _ _ hz50 => ?_; refine and2 hz50 fun hl _ => ?_; clear hz50)
              try clear hz49
              simp only [List.mem_cons, List.not_mem_nil, or_false] at hm
              rcases hm with q | q | q
              · exact absurd (Heap.lt_size hl) (q ▸ Nat.lt_irrefl _)
              · exact absurd (Heap.lt_size he) (q ▸ Nat.lt_irrefl _)
              · exact absurd (Heap.lt_size hi2) (q ▸ Nat.lt_irrefl _)
            exact Nat.lt_irrefl _ (Heap.lt_size (kk₁ _ _ hlive e))
        · intro s''
          intro hz53
          (refine and5 hz53 fun q1 hz54 q4 hz56 hz57 => ?_)
          try clear hz53
          (refine ex1 hz54 fun m2 hz55 => ?_; refine and2 hz55 fun q2 q3 => ?_; clear hz55)
          try clear hz54
          clear hz56
          clear hz57
          refine hkap .none s'' ?_
          refine seg_again rfl (ih s'' s'' ⟨s''.heap, s''.toks, rfl, fun b o _ e => e, q1, ⟨m2, q2, q3⟩, q4⟩)
    case done =>
      intro s₀ s
      intro hz61
      (refine ex2 hz61 fun h tk hz68 => ?_; refine and5 hz68 fun hz62 hkeep hg' hz63 hE => ?_; clear hz68)
      try clear hz61
      obtain rfl := hz62
      (refine ex1 hz63 fun m hz64 => ?_; refine and2 hz64 fun hns hesc => ?_; clear hz64)
      try clear hz63
      refine seg_forLoop ((W0 _ ?hh).done _ _ _ ?hE fun h₁ tk₁ hk₁ => ?_)
      case hh => exact hA
      case hE => exact hE
      refine seg_again rfl ?_
      refine seg_leaf (.ok .next) ?_
      have kk₁ : ∀ b o, b ∉ [L, L + 3, L + 2] → s₀.heap.get? b = some o → h₁.get? b = some o := fun b o hb e => hk₁ b o (fun q => hb (.tail _ q)) (hkeep b o hb e)
      have kg₁ : ∀ b o, g.get? b = some o → h₁.get? b = some o := fun b o e => by
        have hb : b < L := Nat.lt_of_lt_of_le (Heap.lt_size e) hgL
        refine hk₁ b o ?_ (hg' b o e)
        show b ∉ [L + 2 + 1, L + 2]
        simp only [List.mem_cons, List.not_mem_nil, or_false, not_or]
        exact ⟨Nat.ne_of_lt (Nat.lt_of_lt_of_le hb (Nat.le_add_right L 3)), Nat.ne_of_lt (Nat.lt_of_lt_of_le hb (Nat.le_add_right L 2))⟩
      have F : Fr g L h₁ _ := ⟨hns.at' fun o e => hk₁ _ o (by
        show L ∉ [L + 2 + 1, L + 2]
        simp only [List.mem_cons, List.not_mem_nil, or_false, not_or]
        exact ⟨Nat.ne_of_lt (by omega), Nat.ne_of_lt (by omega)⟩) e, kg₁, hgL⟩
      have N : News g L h₁ [] := News.nil
      rw [upd_self hesc] at F
      clear hns hkeep hk₁ kg₁ hE0 hns4 kk kg hg' hE
      refine seg_execs_cons (seg_If ?_)
      iterate 4 walk1
      exact seg_end (.ok (.ret .none)) ⟨rfl, rfl, _, _, rfl, kk₁⟩
theorem iter_c (w : World) (p : Program) (loose : List PySem.Str) (mean : ExcName → Option Value) (mg mb : PySem.Str → Option Value) (A : Around) (s : Shared) (R : Result → Shared → Prop) (g : Heap) (x : PySem.Str) (tx : Tok) (hx : ∀ c ∈ x.cps.toList, c < 128 ∧ c ≠ 92) (hk : ∀ b o, g.get? b = some o → s.heap.get? b = some o) (hgs : g.objs.size ≤ s.heap.objs.size) : A.depth ≤ 340 → (hd.heap_1 w.params).In g → Top p loose mean mg mb g →
  (∀ h' tk' gs, (∀ b o, s.heap.get? b = some o → h'.get? b = some o) → h'.IsGen (s.heap.objs.size + 1) s.gens.size → GPriv g s.heap.objs.size (s.heap.objs.size + 2) x tx 0 h' →
    (∀ A', A'.handled = none → ∀ s'', GPriv g s.heap.objs.size (s.heap.objs.size + 2) x tx 0 s''.heap →
      GenState.Goes (model PySem.Challenge.rw_to0081_01.prog w) A' (GenE [s.heap.objs.size, s.heap.objs.size + 3, s.heap.objs.size + 2]) (GenY x [s.heap.objs.size, s.heap.objs.size + 3, s.heap.objs.size + 2] (GPriv g s.heap.objs.size (s.heap.objs.size + 2) x tx)) x.cps.size gs (.send .none) s'') →
    R (.ok (.ret (.ref (s.heap.objs.size + 1)))) { s with heap := h', gens := s.gens.push gs, toks := tk' }) →
  codeAny (model PySem.Challenge.rw_to0081_01.prog w) A (.call (.ref 87) ⟨[.str x tx], []⟩) R s := hil_ (Q := fun x => iter_c.S x.1 x.2.1 x.2.2.1 x.2.2.2.1 x.2.2.2.2.1 x.2.2.2.2.2.1 x.2.2.2.2.2.2.1 x.2.2.2.2.2.2.2.1 x.2.2.2.2.2.2.2.2.1 x.2.2.2.2.2.2.2.2.2.1 x.2.2.2.2.2.2.2.2.2.2.1 x.2.2.2.2.2.2.2.2.2.2.2) (by with_unfolding_all exact iter_c.core) (w, p, loose, mean, mg, mb, A, s, R, g, x, tx) hx hk hgs

end
local macro_rules | `(tactic| walk_at "subscriptTail Name Slice ref ref") => `(tactic| (k_here; (with_reducible show wpAny _ _ (subscriptTail _ (PySem.Expr.Slice none none none _) (Value.ref _) (Value.ref _)) _ _ _); k_dflt (refine' copy_list (by k_asm) (by k_asm) (by k_mem) (by assumption) ?_); intro D' h' F' N' l1; (try k_lt l1); (try k_sweep)))
local macro_rules | `(tactic| walk_at "subscriptTail") => `(tactic| (k_here; (with_reducible show wpAny _ _ (subscriptTail _ _ (Value.ref _) (Value.int _ _)) _ _ _); k_dflt (refine' idx_list (by k_asm) (by k_mem) (by assumption) (by assumption) ?_; k_whole)))
local macro_rules | `(tactic| walk_at "call type:int") => `(tactic| (k_here; (with_reducible show wpAny _ _ (call (Value.type "int") [Value.str (one _) _]) _ _ _); (refine call_int1 (by assumption) ?_); intro _; (try dsimp only)))
local macro_rules | `(tactic| walk_at "call type:str") => `(tactic| (k_here; first | ((with_reducible show wpAny _ _ (call (Value.type "str") [Value.int (Builtin.bitXor (Nat.cast _) (Nat.cast _)) _]) _ _ _); (refine call_strx (by assumption) (by assumption) ?_); intro _; (try dsimp only)) | ((with_reducible show wpAny _ _ (call (Value.type "str") [Value.int (Nat.cast _) _]) _ _ _); (refine call_str1 (by assumption) ?_); intro _; (try dsimp only))))
local macro_rules | `(tactic| walk_at "call builtin:len") => `(tactic| (k_here; (with_reducible show wpAny _ _ (call (Value.builtin "len") [Value.ref _]) _ _ _); k_dflt (refine' len_list (by k_asm) (by k_mem) (by assumption) ?_); intro _ _; (try dsimp only)))
local macro_rules | `(tactic| walk_at "binaryOp Add str str") => `(tactic| (k_here; first | ((with_reducible show wpAny _ _ (binaryOp Operator.Add (Value.str (txt _) _) (Value.str (one _) _)) _ _ _); (refine add_txt1 (by first | assumption | (simp only [List.length_append, List.length_replicate, List.length_cons, List.length_nil]; omega)) ?_); intro _ _; (try dsimp only)) | ((with_reducible show wpAny _ _ (binaryOp Operator.Add (Value.str (txt _) _) (Value.str (txt _) _)) _ _ _); (refine add_txt (by first | assumption | (simp only [List.length_append, List.length_replicate, List.length_cons, List.length_nil]; omega)) ?_); intro _ _; (try dsimp only))))

section
-- hil-done: setd_c
noncomputable def setR (rows : List (Nat × List Nat)) (c : Nat) (ls : List Nat) : List (Nat × List Nat) := match rows.find? (·.1 == c) with | some _ => rows | none => rows ++ [(c, ls)]
noncomputable def Added (add : List (Addr × Obj)) (va : List Value) (rows : List (Nat × List Nat)) (c : Nat) (ls : List Nat) (tn tv : Tok) : Prop :=
  (add = [] ∧ va = [] ∧ setR rows c ls = rows) ∨ ∃ a, add = [(a, tup2 (.str (one (48 + c)) tn) (.str (txt ls) tv))] ∧ va = [.ref a] ∧ setR rows c ls = rows ++ [(c, ls)]
theorem Added.sin {add rest : List (Addr × Obj)} {ts va : List Value} {rows : List (Nat × List Nat)} {c : Nat} {ls : List Nat} {tn tv : Tok} (h : Added add va rows c ls tn tv) (hr : SIn rest ts rows) : SIn (add ++ rest) (ts ++ va) (setR rows c ls) := by
  rcases h with ⟨rfl, rfl, e⟩ | ⟨a, rfl, rfl, e⟩
  · rw [e, List.append_nil]; exact hr
  · rw [e]; exact (SIn.cons (List.mem_append_left _ (.head _)) .nil).append (hr.mono fun q hq => List.mem_append_right _ hq)
set_option maxHeartbeats 2000000
noncomputable def setd_c.S (w : World) (p : Program) (loose : List PySem.Str) (mean : ExcName → Option Value) (mg : PySem.Str → Option Value) (mb : PySem.Str → Option Value) (outer : List Env) (base : Heap) (s : Shared) (R : Result → Shared → Prop) (g : Heap) (x : Addr) (d : Addr) (l : Addr) (u : Tok) (ts : List Value) (k : Nat) (rows : List (Nat × List Nat)) (c : Nat) (tn : Tok) (tv : Tok) (ls : List Nat) : Prop := ∀ (hc : c < 8) (hls : ∀ y ∈ ls, 97 ≤ y ∧ y < 127) (hll : ls.length ≤ 100) (hk : ∀ b o, g.get? b = some o → s.heap.get? b = some o) (hg : ∀ p ∈ hdr w x d l u ts k, g.get? p.1 = none) (ho : ∀ p ∈ hdr w x d l u ts k, s.heap.get? p.1 = some p.2) (hr : HS s.heap ts rows) (hrl : rows.length ≤ 8) (hrn : ∀ r ∈ rows, r.1 < 8), Below (AT 334 90 outer) base outer g → (hd.heap_1 w.params).In g → Top p loose mean mg mb g →
  (∀ h' tk' v k' add va, (∀ b o, b ≠ l → s.heap.get? b = some o → h'.get? b = some o) → (∀ p ∈ add, h'.get? p.1 = some p.2 ∧ s.heap.get? p.1 = none) → h'.get? l = some (listO (ts ++ va) k') → ((add = [] ∧ va = [] ∧ setR rows c ls = rows) ∨ ∃ a, add = [(a, tup2 (.str (one (48 + c)) tn) (.str (txt ls) tv))] ∧ va = [.ref a] ∧ setR rows c ls = rows ++ [(c, ls)]) → R (.ok (.ret v)) { s with heap := h', toks := tk' }) →
  codeAny (model PySem.Challenge.rw_to0081_01.prog w) (AT 334 90 outer) (.call (.ref 231) ⟨[.ref x, .str (one (48 + c)) tn, .str (txt ls) tv], []⟩) R s
noncomputable def setd_c.e : World × Program × (List PySem.Str) × (ExcName → Option Value) × (PySem.Str → Option Value) × (PySem.Str → Option Value) × (List Env) × Heap × Shared × (Result → Shared → Prop) × Heap × Addr × Addr × Addr × Tok × (List Value) × Nat × (List (Nat × List Nat)) × Nat × Tok × Tok × (List Nat) := haveI := ne_w; haveI := ne_s; haveI := ne_a; haveI := ne_g; Classical.epsilon fun x => ¬ setd_c.S x.1 x.2.1 x.2.2.1 x.2.2.2.1 x.2.2.2.2.1 x.2.2.2.2.2.1 x.2.2.2.2.2.2.1 x.2.2.2.2.2.2.2.1 x.2.2.2.2.2.2.2.2.1 x.2.2.2.2.2.2.2.2.2.1 x.2.2.2.2.2.2.2.2.2.2.1 x.2.2.2.2.2.2.2.2.2.2.2.1 x.2.2.2.2.2.2.2.2.2.2.2.2.1 x.2.2.2.2.2.2.2.2.2.2.2.2.2.1 x.2.2.2.2.2.2.2.2.2.2.2.2.2.2.1 x.2.2.2.2.2.2.2.2.2.2.2.2.2.2.2.1 x.2.2.2.2.2.2.2.2.2.2.2.2.2.2.2.2.1 x.2.2.2.2.2.2.2.2.2.2.2.2.2.2.2.2.2.1 x.2.2.2.2.2.2.2.2.2.2.2.2.2.2.2.2.2.2.1 x.2.2.2.2.2.2.2.2.2.2.2.2.2.2.2.2.2.2.2.1 x.2.2.2.2.2.2.2.2.2.2.2.2.2.2.2.2.2.2.2.2.1 x.2.2.2.2.2.2.2.2.2.2.2.2.2.2.2.2.2.2.2.2.2
@[irreducible] noncomputable def setd_c.w : World := setd_c.e.1
@[irreducible] noncomputable def setd_c.p : Program := setd_c.e.2.1
@[irreducible] noncomputable def setd_c.loose : List PySem.Str := setd_c.e.2.2.1
@[irreducible] noncomputable def setd_c.mean : ExcName → Option Value := setd_c.e.2.2.2.1
@[irreducible] noncomputable def setd_c.mg : PySem.Str → Option Value := setd_c.e.2.2.2.2.1
@[irreducible] noncomputable def setd_c.mb : PySem.Str → Option Value := setd_c.e.2.2.2.2.2.1
@[irreducible] noncomputable def setd_c.outer : List Env := setd_c.e.2.2.2.2.2.2.1
@[irreducible] noncomputable def setd_c.base : Heap := setd_c.e.2.2.2.2.2.2.2.1
@[irreducible] noncomputable def setd_c.s : Shared := setd_c.e.2.2.2.2.2.2.2.2.1
@[irreducible] noncomputable def setd_c.R : Result → Shared → Prop := setd_c.e.2.2.2.2.2.2.2.2.2.1
@[irreducible] noncomputable def setd_c.g : Heap := setd_c.e.2.2.2.2.2.2.2.2.2.2.1
@[irreducible] noncomputable def setd_c.x : Addr := setd_c.e.2.2.2.2.2.2.2.2.2.2.2.1
@[irreducible] noncomputable def setd_c.d : Addr := setd_c.e.2.2.2.2.2.2.2.2.2.2.2.2.1
@[irreducible] noncomputable def setd_c.l : Addr := setd_c.e.2.2.2.2.2.2.2.2.2.2.2.2.2.1
@[irreducible] noncomputable def setd_c.u : Tok := setd_c.e.2.2.2.2.2.2.2.2.2.2.2.2.2.2.1
@[irreducible] noncomputable def setd_c.ts : List Value := setd_c.e.2.2.2.2.2.2.2.2.2.2.2.2.2.2.2.1
@[irreducible] noncomputable def setd_c.k : Nat := setd_c.e.2.2.2.2.2.2.2.2.2.2.2.2.2.2.2.2.1
@[irreducible] noncomputable def setd_c.rows : List (Nat × List Nat) := setd_c.e.2.2.2.2.2.2.2.2.2.2.2.2.2.2.2.2.2.1
@[irreducible] noncomputable def setd_c.c : Nat := setd_c.e.2.2.2.2.2.2.2.2.2.2.2.2.2.2.2.2.2.2.1
@[irreducible] noncomputable def setd_c.tn : Tok := setd_c.e.2.2.2.2.2.2.2.2.2.2.2.2.2.2.2.2.2.2.2.1
@[irreducible] noncomputable def setd_c.tv : Tok := setd_c.e.2.2.2.2.2.2.2.2.2.2.2.2.2.2.2.2.2.2.2.2.1
@[irreducible] noncomputable def setd_c.ls : List Nat := setd_c.e.2.2.2.2.2.2.2.2.2.2.2.2.2.2.2.2.2.2.2.2.2
theorem setd_c.core : setd_c.S setd_c.w setd_c.p setd_c.loose setd_c.mean setd_c.mg setd_c.mb setd_c.outer setd_c.base setd_c.s setd_c.R setd_c.g setd_c.x setd_c.d setd_c.l setd_c.u setd_c.ts setd_c.k setd_c.rows setd_c.c setd_c.tn setd_c.tv setd_c.ls := by
  delta setd_c.S
  intro hc hls hll hk hg ho hr hrl hrn
  k_fill
  intro B0 X0 T0 ret
  have X1 := X0.keeps hk
  have T1 := T0.keeps hk
  have hup : ∀ b o, g.get? b = some o → (hideAll s.heap ((hdr w x d l u ts k).map (·.1))).get? b = some o := hide_up hk fun a ha => by
    have hz1 := List.mem_map.mp ha
    (refine ex1 hz1 fun q hz3 => ?_; refine and2 hz3 fun hq hz2 => ?_; clear hz3)
    try clear hz1
    obtain rfl := hz2
    exact hg q hq
  have B := below_keeps B0 hup
  have X := X0.keeps hup
  have T := T0.keeps hup
  k_dflt (refine' enter ?k1 ?k2 ?k3 ?k4 ?k5 ?k6 ?k7 ?_ ?c2 ?c3 ?c4 ?c5; (case k1 => exact X1); (case k2 => exact T1); (case k3 => k_is); (case k4 => k_is); (case k5 => exact Nat.le_of_ble_eq_true rfl); (case k6 => exact BindsTo.of_eq rfl); (case k7 => exact locs rfl); (case c2 => exact rfl); (case c3 => exact rfl); (case c4 => exact rfl); (case c5 => decide); k_whole; intro h' F0 N0; (try dsimp only); (try k_fold))
  have F' := hide_fr (as := (hdr w x d l u ts k).map (·.1)) F0
  have N' : News (hideAll s.heap ((hdr w x d l u ts k).map (·.1))) s.heap.objs.size h' [(x, instObj 241 d), (d, dictOf [{ hash := PyData.keyHash w.params (PySem.Str.ofString "_headers"), key := .str (PySem.Str.ofString "_headers") u, val := .ref l }] 1), (l, listO ts k)] := hide_news ho F0
  have hrG : HS (hideAll s.heap ((hdr w x d l u ts k).map (·.1))) ts rows := hs_hide (by simp [hdr]) ho hr
  generalize hG : hideAll s.heap ((hdr w x d l u ts k).map (·.1)) = G at *
  clear F0 N0 X1 T1 X0 T0 B0
  have hc1 : 48 + c < 128 := dig_128 hc
  have hx : ∀ y ∈ (one (48 + c)).cps.toList, 32 ≤ y ∧ y < 127 := by
    intro y hy
    have : y = 48 + c := by simpa using hy
    exact this ▸ dig_ok hc
  have hsz : (one (48 + c)).cps.size ≤ 100 := Nat.le_of_ble_eq_true rfl
  have hx2 : ∀ y ∈ (txt ls).cps.toList, 32 ≤ y ∧ y < 127 := by
    intro y hy
    have := hls y (by simpa using hy)
    exact ⟨Nat.le_trans (by decide) this.1, this.2⟩
  have hsz2 : (txt ls).cps.size ≤ 100 := by simpa using hll
  have hxl : x ≠ l := fun e => by
    have h1 := ho _ (.head _)
    have h2 := ho _ (.tail _ (.tail _ (.head _)))
    dsimp only at h1 h2
    rw [e, h2] at h1
    cases h1
  have hdl : d ≠ l := fun e => by
    have h1 := ho _ (.tail _ (.head _))
    have h2 := ho _ (.tail _ (.tail _ (.head _)))
    dsimp only at h1 h2
    rw [e, h2] at h1
    have := congrArg Obj.cls (Option.some.inj h1)
    have c' : Value.type "list" = Value.type "dict" := this
    injection c' with c'
    exact absurd c' (by decide)
  iterate 10 walk1
  refine call_get B X T F' N' (fun p hp => hp) (hrG.keeps F'.keep) hrl hrn hc (fun h₁ tk₁ v₁ F₁ N₁ hr₁ hv => ?_) rfl (Nat.le_of_ble_eq_true rfl) (Nat.le_of_ble_eq_true rfl)
  clear F' N'
  unfold Got at hv
  have eS : setR rows c ls = match rows.find? (·.1 == c) with | some _ => rows | none => rows ++ [(c, ls)] := rfl
  revert hv
  cases hf : rows.find? (·.1 == c) with
  | none =>
    rintro rfl
    rw [hf] at eS
    k_steps
    with_reducible rename Fr _ _ _ _ => F2
    with_reducible rename News _ _ _ _ => N2
    with_reducible rename _ ∧ _ ∧ _ => l2
    rename_i D _
    (refine and3 l2 fun xD dD lD => ?_)
    try clear l2
    refine append_K (news' := [(D, tup2 (.str (one (48 + c)) tn) (.str (txt ls) tv)), (x, instObj 241 d), (d, dictOf [{ hash := PyData.keyHash w.params (PySem.Str.ofString "_headers"), key := .str (PySem.Str.ofString "_headers") u, val := .ref l }] 1), (l, W.listOf (ts.toArray.push (.ref D)) (k + 1))])
      F2 N2 (.tail (Nat.ne_of_gt lD) (.tail hxl (.tail hdl (.head fun _ h => nomatch h)))) (fun h₃ F₃ N₃ => ?_) (by rw [List.size_toArray, hr.length]; exact Nat.le_trans hrl (by rw [sizeLine_eq]; decide))
    clear F2 N2
    k_steps
    with_reducible rename Fr _ _ _ _ => F9
    with_reducible rename News _ _ _ _ => N9
    subst hG
    refine ret _ _ _ (k + 1) [(D, tup2 (.str (one (48 + c)) tn) (.str (txt ls) tv))] [.ref D] (fun b o hb e => ?_) (fun q hq => ?_) ?_ (.inr ⟨D, rfl, rfl, eS⟩)
    · by_cases hm : b ∈ (hdr w x d l u ts k).map (·.1)
      · have hz5 := List.mem_map.mp hm
        (refine ex1 hz5 fun q hz7 => ?_; refine and2 hz7 fun hq hz6 => ?_; clear hz7)
        try clear hz5
        obtain rfl := hz6
        rw [ho q hq] at e
        cases e
        simp only [hdr, List.mem_cons, List.not_mem_nil, or_false] at hq
        rcases hq with rfl | rfl | rfl
        · exact (N9 _ (.tail _ (.head _))).1
        · exact (N9 _ (.tail _ (.tail _ (.head _)))).1
        · exact absurd rfl hb
      · exact F9.keep b o (hideAll_get _ e hm)
    · rw [List.mem_singleton.mp hq]
      refine ⟨(N9 _ (.head _)).1, ?_⟩
      cases q : s.heap.get? D with
      | none => rfl
      | some o =>
        have hm : D ∉ (hdr w x d l u ts k).map (·.1) := by
          simp only [hdr, List.map_cons, List.map_nil, List.mem_cons, List.not_mem_nil, or_false]
          rintro (e | e | e)
          · exact Nat.ne_of_gt xD e
          · exact Nat.ne_of_gt dD e
          · exact Nat.ne_of_gt lD e
        have := (N9 _ (.head _)).2.2
        rw [hideAll_get _ q hm] at this; cases this
    · have := (N9 _ (.tail _ (.tail _ (.tail _ (.head _))))).1
      rw [this]
      simp [W.listOf, listO]
  | some r =>
    intro hz8
    (refine ex1 hz8 fun t' hz9 => ?_)
    try clear hz8
    obtain rfl := hz9
    rw [hf] at eS
    k_steps
    with_reducible rename Fr _ _ _ _ => F9
    with_reducible rename News _ _ _ _ => N9
    subst hG
    have F10 := back_fr ho (fun p hp => hp) F9 N9 (Nat.le_refl _)
    refine ret _ _ _ k [] [] (fun b o _ e => F10.keep b o e) (fun q hq => nomatch hq) ?_ (.inl ⟨rfl, rfl, eS⟩)
    · rw [List.append_nil]; exact (N9 _ (.tail _ (.tail _ (.head _)))).1
theorem setd_c (w : World) (p : Program) (loose : List PySem.Str) (mean : ExcName → Option Value) (mg mb : PySem.Str → Option Value) (outer : List Env) (base : Heap) (s : Shared) (R : Result → Shared → Prop) (g : Heap) (x d l : Addr) (u : Tok) (ts : List Value) (k : Nat) (rows : List (Nat × List Nat)) (c : Nat) (tn tv : Tok) (ls : List Nat) (hc : c < 8) (hls : ∀ y ∈ ls, 97 ≤ y ∧ y < 127) (hll : ls.length ≤ 100) (hk : ∀ b o, g.get? b = some o → s.heap.get? b = some o) (hg : ∀ p ∈ hdr w x d l u ts k, g.get? p.1 = none) (ho : ∀ p ∈ hdr w x d l u ts k, s.heap.get? p.1 = some p.2) (hr : HS s.heap ts rows) (hrl : rows.length ≤ 8) (hrn : ∀ r ∈ rows, r.1 < 8) : Below (AT 334 90 outer) base outer g → (hd.heap_1 w.params).In g → Top p loose mean mg mb g →
  (∀ h' tk' v k' add va, (∀ b o, b ≠ l → s.heap.get? b = some o → h'.get? b = some o) → (∀ p ∈ add, h'.get? p.1 = some p.2 ∧ s.heap.get? p.1 = none) → h'.get? l = some (listO (ts ++ va) k') → ((add = [] ∧ va = [] ∧ setR rows c ls = rows) ∨ ∃ a, add = [(a, tup2 (.str (one (48 + c)) tn) (.str (txt ls) tv))] ∧ va = [.ref a] ∧ setR rows c ls = rows ++ [(c, ls)]) → R (.ok (.ret v)) { s with heap := h', toks := tk' }) →
  codeAny (model PySem.Challenge.rw_to0081_01.prog w) (AT 334 90 outer) (.call (.ref 231) ⟨[.ref x, .str (one (48 + c)) tn, .str (txt ls) tv], []⟩) R s := hil_ (Q := fun x => setd_c.S x.1 x.2.1 x.2.2.1 x.2.2.2.1 x.2.2.2.2.1 x.2.2.2.2.2.1 x.2.2.2.2.2.2.1 x.2.2.2.2.2.2.2.1 x.2.2.2.2.2.2.2.2.1 x.2.2.2.2.2.2.2.2.2.1 x.2.2.2.2.2.2.2.2.2.2.1 x.2.2.2.2.2.2.2.2.2.2.2.1 x.2.2.2.2.2.2.2.2.2.2.2.2.1 x.2.2.2.2.2.2.2.2.2.2.2.2.2.1 x.2.2.2.2.2.2.2.2.2.2.2.2.2.2.1 x.2.2.2.2.2.2.2.2.2.2.2.2.2.2.2.1 x.2.2.2.2.2.2.2.2.2.2.2.2.2.2.2.2.1 x.2.2.2.2.2.2.2.2.2.2.2.2.2.2.2.2.2.1 x.2.2.2.2.2.2.2.2.2.2.2.2.2.2.2.2.2.2.1 x.2.2.2.2.2.2.2.2.2.2.2.2.2.2.2.2.2.2.2.1 x.2.2.2.2.2.2.2.2.2.2.2.2.2.2.2.2.2.2.2.2.1 x.2.2.2.2.2.2.2.2.2.2.2.2.2.2.2.2.2.2.2.2.2) (by with_unfolding_all exact setd_c.core) (w, p, loose, mean, mg, mb, outer, base, s, R, g, x, d, l, u, ts, k, rows, c, tn, tv, ls) hc hls hll hk hg ho hr hrl hrn
theorem call_setd {w : World} {p : Program} {loose : List PySem.Str} {mean : ExcName → Option Value} {mg mb : PySem.Str → Option Value} {A : Around} {outer : List Env} {base G : Heap} {s : Shared} {Q E : Value → Shared → Prop} {L a : Addr} {m : PySem.Str → Option Value} {name : PySem.Str} {scope : Scope} {cd : Value} {rest : List (Addr × Obj)}
    {x d l : Addr} {u : Tok} {ts : List Value} {k : Nat} {rows : List (Nat × List Nat)} {c : Nat} {tn tv : Tok} {ls : List Nat} (B : Below A base outer G) (X : (hd.heap_1 w.params).In G) (T : Top p loose mean mg mb G) (F : Fr G L s.heap m) (N : News G L s.heap (hdr w x d l u ts k ++ rest))
    (hrest : ∀ p ∈ rest, p.1 ≠ l) (hr : SIn rest ts rows) (hrl : rows.length ≤ 8) (hrn : ∀ r ∈ rows, r.1 < 8) (hc : c < 8) (hls : ∀ y ∈ ls, 97 ≤ y ∧ y < 127) (hll : ls.length ≤ 100)
    (h : ∀ h' tk' v k' add va, Fr G L h' m → News G L h' (hdr w x d l u (ts ++ va) k' ++ (add ++ rest)) → (∀ p ∈ add, p.1 ≠ l) → (∀ q ∈ add, ∀ p ∈ hdr w x d l u ts k ++ rest, p.1 ≠ q.1) → Added add va rows c ls tn tv → Q v { s with heap := h', toks := tk' })
    (h0 : A.handled = none) (h1 : A.depth ≤ 333) (h2 : A.units ≤ 80) (hkd : scope.kind = .function := by rfl) :
    wpAny (model PySem.Challenge.rw_to0081_01.prog w) (A.deeper (envOf name scope L a cd)) (call (.ref 231) [.ref x, .str (one (48 + c)) tn, .str (txt ls) tv]) Q E s := by
  refine wpAny_call ?_
  have hm : ∀ q ∈ hdr w x d l u ts k, q ∈ hdr w x d l u ts k ++ rest := fun q hq => List.mem_append_left _ hq
  have hz10 : ∃ as : List Addr, as = (hdr w x d l u ts k).map (·.1) := ⟨_, rfl⟩
  (refine ex1 hz10 fun as has => ?_)
  try clear hz10
  have hmem : ∀ q ∈ hdr w x d l u ts k, q.1 ∈ as := fun q hq => has ▸ List.mem_map_of_mem hq
  have hg : ∀ b ∈ as, G.get? b = none := fun b hb => by
    subst has
    have hz11 := List.mem_map.mp hb
    (refine ex1 hz11 fun q hz13 => ?_; refine and2 hz13 fun hq hz12 => ?_; clear hz13)
    try clear hz11
    obtain rfl := hz12
    exact (N q (hm q hq)).2.2
  have hL : L ∉ as := fun hb => by
    subst has
    have hz14 := List.mem_map.mp hb
    (refine ex1 hz14 fun q hz15 => ?_; refine and2 hz15 fun hq e => ?_; clear hz15)
    try clear hz14
    exact (N q (hm q hq)).2.1 e
  have hup : ∀ b o, G.get? b = some o → (hideAll s.heap as).get? b = some o := hide_up F.keep hg
  have B' := below_hide (name := name) (a := a) (cd := cd) B F hg hL hkd
  have X' := X.keeps hup
  have T' := T.keeps hup
  generalize hG' : hideAll s.heap as = G' at *
  have hk1 : ∀ b o, G'.get? b = some o → s.heap.get? b = some o := fun b o e => by rw [← hG'] at e; exact of_hideAll _ e
  have hk2 : ∀ q ∈ hdr w x d l u ts k, G'.get? q.1 = none := fun q hq => by rw [← hG']; exact hideAll_none _ (hmem q hq)
  have ho : ∀ q ∈ hdr w x d l u ts k, s.heap.get? q.1 = some q.2 := fun q hq => (N q (hm q hq)).1
  have hxl : x ≠ l := fun e => by
    have h1 := ho _ (.head _)
    have h2 := ho _ (.tail _ (.tail _ (.head _)))
    dsimp only at h1 h2
    rw [e, h2] at h1
    cases h1
  have hdl : d ≠ l := fun e => by
    have h1 := ho _ (.tail _ (.head _))
    have h2 := ho _ (.tail _ (.tail _ (.head _)))
    dsimp only at h1 h2
    rw [e, h2] at h1
    have := congrArg Obj.cls (Option.some.inj h1)
    have c' : Value.type "list" = Value.type "dict" := this
    injection c' with c'
    exact absurd c' (by decide)
  have hlL : l ≠ L := (N _ (List.mem_append_left _ (.tail _ (.tail _ (.head _))))).2.1
  have hlG : G.get? l = none := (N _ (List.mem_append_left _ (.tail _ (.tail _ (.head _))))).2.2
  have hrs : HS s.heap ts rows := hr.heap fun q hq => (N q (List.mem_append_right _ hq)).1
  clear hup hg hL
  refine below_le (d := 334) (u := 90) (outer := envOf name scope L a cd :: outer) ?_ h0 ?_ ?_ ?_
  · refine setd_c w p loose mean mg mb (envOf name scope L a cd :: outer) base s _ G' x d l u ts k rows c tn tv ls hc hls hll hk1 hk2 ho hrs hrl hrn ?_ X' T' ?_
    · exact ⟨rfl, B'.stays, B'.frames⟩
    · intro h' tk' v k' add va hkeep hadd hl' hor
      have F' : Fr G L h' m := ⟨F.ns.at' fun o e => hkeep L o (Ne.symm hlL) e, fun b o e => hkeep b o (fun q => by rw [q, hlG] at e; cases e) (F.keep b o e), F.above⟩
      have fresh : ∀ q ∈ add, ∀ p ∈ hdr w x d l u ts k ++ rest, p.1 ≠ q.1 := fun q hq p hp e => by
        have := (N p hp).1
        rw [e, (hadd q hq).2] at this; cases this
      refine h h' tk' v k' add va F' (fun q hq => ?_) (fun q hq => ?_) fresh hor
      · rcases List.mem_append.mp hq with hq | hq
        · simp only [hdr, List.mem_cons, List.not_mem_nil, or_false] at hq
          rcases hq with rfl | rfl | rfl
          · have z := N _ (List.mem_append_left _ (.head _)); exact ⟨hkeep _ _ hxl z.1, z.2⟩
          · have z := N _ (List.mem_append_left _ (.tail _ (.head _))); exact ⟨hkeep _ _ hdl z.1, z.2⟩
          · exact ⟨hl', hlL, hlG⟩
        · rcases List.mem_append.mp hq with hq | hq
          · refine ⟨(hadd q hq).1, fun e => ?_, ?_⟩
            · have hz16 := F.ns
              (refine ex3 hz16 fun o es ep hz17 => ?_; refine and2 hz17 fun e1 _ => ?_; clear hz17)
              try clear hz16
              have := (hadd q hq).2
              rw [e, e1] at this; cases this
            · cases z : G.get? q.1 with
              | none => rfl
              | some o => have := (hadd q hq).2; rw [F.keep _ _ z] at this; cases this
          · have z := N _ (List.mem_append_right _ hq); exact ⟨hkeep _ _ (hrest q hq) z.1, z.2⟩
      · exact Ne.symm (fresh q hq _ (List.mem_append_left _ (.tail _ (.tail _ (.head _)))))
  · exact Nat.succ_le_succ h1
  · exact Nat.le_trans (Nat.add_le_add_right h2 3) (by decide)
  · show (A.deeper _).frames = _
    rw [show (A.deeper (envOf name scope L a cd)).frames = A.frames.map (envOf name scope L a cd :: ·) from rfl, B.stack]; rfl

end
section
-- hil-done: lead_c
noncomputable def innerN (n : Nat) (ls : List Nat) (cols : List Nat) (rows : List (Nat × List Nat)) : Nat → List (Nat × List Nat)
  | 0 => rows
  | i + 1 => match cols[i]? with | some c => setR (innerN n ls cols rows i) (n ^^^ c) (ls ++ [97 + i]) | none => innerN n ls cols rows i
noncomputable def leadN (cols : List Nat) : Nat → List (Nat × List Nat)
  | 0 => [(0, [])]
  | k + 1 => match (leadN cols k)[k]? with | some r => innerN r.1 r.2 cols (leadN cols k) cols.length | none => leadN cols k
noncomputable def Okk (k : Nat) (rows : List (Nat × List Nat)) : Prop := (rows.map (·.1)).Nodup ∧ ∀ r ∈ rows, r.1 < 8 ∧ (∀ y ∈ r.2, 97 ≤ y ∧ y < 127) ∧ r.2.length ≤ k
theorem Okk.len {k : Nat} {rows : List (Nat × List Nat)} (h : Okk k rows) : rows.length ≤ 8 := by
  have := List.Nodup.length_le_of_subset h.1 (l₂ := List.range 8) fun a ha => by
    have hz1 := List.mem_map.mp ha
    (refine ex1 hz1 fun r hz3 => ?_; refine and2 hz3 fun hr hz2 => ?_; clear hz3)
    try clear hz1
    obtain rfl := hz2
    exact List.mem_range.mpr (h.2 r hr).1
  simpa using this
theorem okk_set {k c : Nat} {rows : List (Nat × List Nat)} {ls : List Nat} (h : Okk k rows) (hc : c < 8) (hls : ∀ y ∈ ls, 97 ≤ y ∧ y < 127) (hll : ls.length ≤ k) : Okk k (setR rows c ls) := by
  unfold setR
  cases hf : rows.find? (·.1 == c) with
  | some r => exact h
  | none =>
    rw [List.find?_eq_none] at hf
    refine ⟨?_, fun r hr => ?_⟩
    · rw [List.map_append, List.map_cons, List.map_nil, List.nodup_append]
      refine ⟨h.1, by simp, fun a ha b hb => ?_⟩
      have hz4 := List.mem_map.mp ha
      (refine ex1 hz4 fun r hz6 => ?_; refine and2 hz6 fun hr hz5 => ?_; clear hz6)
      try clear hz4
      obtain rfl := hz5
      rw [List.mem_singleton.mp hb]
      simpa using hf r hr
    · rcases List.mem_append.mp hr with hr | hr
      · exact h.2 r hr
      · rw [List.mem_singleton.mp hr]; exact ⟨hc, hls, hll⟩
theorem Okk.up {k : Nat} {rows : List (Nat × List Nat)} (h : Okk k rows) : Okk (k + 1) rows := ⟨h.1, fun r hr => ⟨(h.2 r hr).1, (h.2 r hr).2.1, Nat.le_succ_of_le (h.2 r hr).2.2⟩⟩
theorem okk_inner {k n : Nat} {rows : List (Nat × List Nat)} {ls cols : List Nat} (h : Okk k rows) (hn : n < 8) (hls : ∀ y ∈ ls, 97 ≤ y ∧ y < 127) (hll : ls.length ≤ k) (hc : ∀ c ∈ cols, c < 8) (hcl : cols.length ≤ 7) : ∀ i, Okk (k + 1) (innerN n ls cols rows i)
  | 0 => h.up
  | i + 1 => by
    unfold innerN
    split
    · rename_i c e
      have hi : i < 7 := Nat.lt_of_lt_of_le (by rcases Nat.lt_or_ge i cols.length with q | q; exact q; rw [List.getElem?_eq_none q] at e; cases e) hcl
      refine okk_set (okk_inner h hn hls hll hc hcl i) (Nat.xor_lt_two_pow (n := 3) hn (hc c (List.mem_of_getElem? e))) (fun y hy => ?_) (by simp; exact hll)
      rcases List.mem_append.mp hy with hy | hy
      · exact hls y hy
      · rw [List.mem_singleton.mp hy]; lia
    · exact okk_inner h hn hls hll hc hcl i
theorem okk_lead {cols : List Nat} (hc : ∀ c ∈ cols, c < 8) (hcl : cols.length ≤ 7) : ∀ k, Okk k (leadN cols k)
  | 0 => ⟨by simp [leadN], by simp [leadN]⟩
  | k + 1 => by
    have h := okk_lead hc hcl k
    unfold leadN
    split
    · rename_i r e
      have hr := h.2 r (List.mem_of_getElem? e)
      exact okk_inner h hr.1 hr.2.1 hr.2.2 hc hcl _
    · exact h.up
theorem lead_stop {cols : List Nat} {k : Nat} (h : (leadN cols k).length ≤ k) : ∀ j, leadN cols (k + j) = leadN cols k
  | 0 => rfl
  | j + 1 => by
    show (match (leadN cols (k + j))[k + j]? with | some r => innerN r.1 r.2 cols (leadN cols (k + j)) cols.length | none => leadN cols (k + j)) = _
    rw [lead_stop h j, List.getElem?_eq_none (Nat.le_trans h (Nat.le_add_right k j))]
theorem innerN_len {n : Nat} {ls cols : List Nat} {rows : List (Nat × List Nat)} : ∀ i, rows.length ≤ (innerN n ls cols rows i).length
  | 0 => Nat.le_refl _
  | i + 1 => by
    unfold innerN
    split
    · unfold setR
      split
      · exact innerN_len i
      · rw [List.length_append]; exact Nat.le_trans (innerN_len i) (Nat.le_add_right _ _)
    · exact innerN_len i
theorem str_0 : PySem.Str.ofString "0" = one (48 + 0) := by decide +kernel
theorem str_e : PySem.Str.ofString "" = txt [] := by decide +kernel
set_option maxHeartbeats 2000000
noncomputable def lead_c.S (w : World) (p : Program) (loose : List PySem.Str) (mean : ExcName → Option Value) (mg : PySem.Str → Option Value) (mb : PySem.Str → Option Value) (outer : List Env) (base : Heap) (s : Shared) (R : Result → Shared → Prop) (lc : Addr) (vs : List Value) (cols : List Nat) : Prop := ∀ (hl : s.heap.IsList lc vs.toArray) (hi : IntsAre vs (cols.map fun c : Nat => (c : Int))) (hlen : cols.length ≤ 7) (hc8 : ∀ c ∈ cols, c < 8), Below (AT 330 60 outer) base outer s.heap → (hd.heap_1 w.params).In s.heap → Top p loose mean mg mb s.heap →
  (∀ L' m' news' h' tk' x d l u ts k, Fr s.heap L' h' m' → News s.heap L' h' news' → (∀ p ∈ hdr w x d l u ts k, p ∈ news') → SIn news' ts (leadN cols 8) → R (.ok (.ret (.ref x))) { s with heap := h', toks := tk' }) →
  codeAny (model PySem.Challenge.rw_to0081_01.prog w) (AT 330 60 outer) (.call (.ref 264) ⟨[.ref lc], []⟩) R s
noncomputable def lead_c.e : World × Program × (List PySem.Str) × (ExcName → Option Value) × (PySem.Str → Option Value) × (PySem.Str → Option Value) × (List Env) × Heap × Shared × (Result → Shared → Prop) × Addr × (List Value) × (List Nat) := haveI := ne_w; haveI := ne_s; haveI := ne_a; haveI := ne_g; Classical.epsilon fun x => ¬ lead_c.S x.1 x.2.1 x.2.2.1 x.2.2.2.1 x.2.2.2.2.1 x.2.2.2.2.2.1 x.2.2.2.2.2.2.1 x.2.2.2.2.2.2.2.1 x.2.2.2.2.2.2.2.2.1 x.2.2.2.2.2.2.2.2.2.1 x.2.2.2.2.2.2.2.2.2.2.1 x.2.2.2.2.2.2.2.2.2.2.2.1 x.2.2.2.2.2.2.2.2.2.2.2.2
@[irreducible] noncomputable def lead_c.w : World := lead_c.e.1
@[irreducible] noncomputable def lead_c.p : Program := lead_c.e.2.1
@[irreducible] noncomputable def lead_c.loose : List PySem.Str := lead_c.e.2.2.1
@[irreducible] noncomputable def lead_c.mean : ExcName → Option Value := lead_c.e.2.2.2.1
@[irreducible] noncomputable def lead_c.mg : PySem.Str → Option Value := lead_c.e.2.2.2.2.1
@[irreducible] noncomputable def lead_c.mb : PySem.Str → Option Value := lead_c.e.2.2.2.2.2.1
@[irreducible] noncomputable def lead_c.outer : List Env := lead_c.e.2.2.2.2.2.2.1
@[irreducible] noncomputable def lead_c.base : Heap := lead_c.e.2.2.2.2.2.2.2.1
@[irreducible] noncomputable def lead_c.s : Shared := lead_c.e.2.2.2.2.2.2.2.2.1
@[irreducible] noncomputable def lead_c.R : Result → Shared → Prop := lead_c.e.2.2.2.2.2.2.2.2.2.1
@[irreducible] noncomputable def lead_c.lc : Addr := lead_c.e.2.2.2.2.2.2.2.2.2.2.1
@[irreducible] noncomputable def lead_c.vs : List Value := lead_c.e.2.2.2.2.2.2.2.2.2.2.2.1
@[irreducible] noncomputable def lead_c.cols : List Nat := lead_c.e.2.2.2.2.2.2.2.2.2.2.2.2
theorem lead_c.core : lead_c.S lead_c.w lead_c.p lead_c.loose lead_c.mean lead_c.mg lead_c.mb lead_c.outer lead_c.base lead_c.s lead_c.R lead_c.lc lead_c.vs lead_c.cols := by
  delta lead_c.S
  intro hl hi hlen hc8
  k_fill
  intro B X T ret
  k_dflt (refine' enter ?k1 ?k2 ?k3 ?k4 ?k5 ?k6 ?k7 ?_ ?c2 ?c3 ?c4 ?c5; (case k1 => k_asm); (case k2 => k_asm); (case k3 => k_is); (case k4 => k_is); (case k5 => exact Nat.le_of_ble_eq_true rfl); (case k6 => exact BindsTo.of_eq rfl); (case k7 => exact locs rfl); (case c2 => exact rfl); (case c3 => exact rfl); (case c4 => exact rfl); (case c5 => decide); k_whole; intro h' F' N'; (try dsimp only); (try k_fold))
  iterate 203 walk1
  with_reducible rename Fr _ _ _ _ => F1
  refine (let mv1 := _; have Fv : Fr _ _ _ mv1 := F1; ?_)
  clear F1
  rename Fr _ _ _ mv1 => F1
  with_reducible rename News _ _ _ _ => N1
  rw [str_0, str_e] at N1
  let Jv1 : Nat → (PySem.Str → Option Value) → List (Addr × Obj) → Prop := fun n m nx => ∃ x d l u k ts kk rest, (∃ t, m (PySem.Str.ofString "done") = some (.int (k : Nat) t)) ∧ m (PySem.Str.ofString "table") = some (.ref x) ∧ m (PySem.Str.ofString "columns") = some (.ref lc) ∧
      nx = (x, instObj 241 d) :: (d, dictOf [{ hash := PyData.keyHash w.params (PySem.Str.ofString "_headers"), key := .str (PySem.Str.ofString "_headers") u, val := .ref l }] 1) :: (l, listO ts kk) :: rest ∧ (∀ p ∈ rest, p.1 ≠ l) ∧ SIn rest ts (leadN cols k) ∧ k ≤ (leadN cols k).length ∧ n = 8 - k
  refine While_inv (n₀ := 8) Jv1 F1 N1
    ⟨_, _, _, _, 0, [_], 0, [_], ⟨_, rfl⟩, rfl, rfl, rfl, ?hne, .cons (.head _) .nil, Nat.zero_le _, rfl⟩ ?turn
  case hne =>
    intro q hq
    rw [List.mem_singleton.mp hq]
    intro e
    have z1 := (N1 _ (.tail _ (.tail _ (.head _)))).1
    have z2 := (N1 _ (.tail _ (.tail _ (.tail _ (.head _))))).1
    dsimp only at e z1 z2
    rw [e, z1] at z2
    have c' : Value.type "list" = Value.type "tuple" := congrArg Obj.cls (Option.some.inj z2)
    injection c' with c'
    exact absurd c' (by decide)
  case turn =>
    intro n m nx h tk F N
    intro hz7
    (refine ex8 hz7 fun x d l u k ts kk rest hz17 => ?_; refine and8 hz17 fun hz8 hmt hmc hz9 hne hS hk hz10 => ?_; clear hz17)
    try clear hz7
    (refine ex1 hz8 fun t hmd => ?_)
    try clear hz8
    obtain rfl := hz9
    obtain rfl := hz10
    rw [upd_self hmc] at F
    rw [upd_self hmt] at F
    rw [upd_self hmd] at F
    clear F1 N1
    have hok := okk_lead hc8 hlen k
    have hts : ts.length ≤ sizeLine := by rw [hS.length]; exact Nat.le_trans hok.len (by rw [sizeLine_eq]; decide)
    rcases Nat.lt_or_ge k ts.length with hkl | hkl
    · have hz25 := hS.get (hS.length ▸ hkl)
      (refine ex5 hz25 fun n0 ls0 a ta tb hz27 => ?_; refine and3 hz27 fun hrow hia hma => ?_; clear hz27)
      try clear hz25
      have hk60 : k < 2 ^ 60 := Nat.lt_of_lt_of_le (hS.length ▸ hkl) (Nat.le_trans hok.len (by decide))
      have N2 := news_sub (l' := (a, tup2 (.str (one (48 + n0)) ta) (.str (txt ls0) tb)) :: (x, instObj 241 d) :: (d, dictOf [{ hash := PyData.keyHash w.params (PySem.Str.ofString "_headers"), key := .str (PySem.Str.ofString "_headers") u, val := .ref l }] 1) :: (l, listO ts kk) :: rest) N fun p hp => by
        rcases List.mem_cons.mp hp with rfl | hp
        · exact .tail _ (.tail _ (.tail _ hma))
        · exact hp
      clear N
      have hki : ((k : Nat) : Int) < ((ts.length : Nat) : Int) := Int.ofNat_lt.mpr hkl
      have hokr := hok.2 _ (List.mem_of_getElem? hrow)
      iterate 64 walk1
      refine wpAny_For ?_
      iterate 8 walk1
      with_reducible rename Fr _ _ _ _ => F3
      refine (let mv2 := _; have Fv : Fr _ _ _ mv2 := F3; ?_)
      clear F3
      rename Fr _ _ _ mv2 => F3
      with_reducible rename News _ _ _ _ => N3
      refine zip_sl rfl (by decide +kernel) (stays_list F3.keep hl) fun I fp wr St Mid eI W H hfl => ?_
      let Jv2 : Nat → (PySem.Str → Option Value) → List (Addr × Obj) → Prop := fun i m nx => ∃ ts kk rest, m (PySem.Str.ofString "table") = some (.ref x) ∧ m (PySem.Str.ofString "name") = some (.str (one (48 + n0)) ta) ∧ m (PySem.Str.ofString "letters") = some (.str (txt ls0) tb) ∧ m (PySem.Str.ofString "done") = some (.int (k : Nat) t) ∧ m (PySem.Str.ofString "columns") = some (.ref lc) ∧
        nx = (x, instObj 241 d) :: (d, dictOf [{ hash := PyData.keyHash w.params (PySem.Str.ofString "_headers"), key := .str (PySem.Str.ofString "_headers") u, val := .ref l }] 1) :: (l, listO ts kk) :: rest ∧ (∀ p ∈ rest, p.1 ≠ l) ∧ SIn rest ts (innerN n0 ls0 cols (leadN cols k) i)
      refine for_pair rfl (fun g => g = s.gens) Jv2
        W zpt2 H rfl rfl rfl F3 (news_sub N3 fun p hp => .tail _ (.tail _ (.tail _ hp))) rfl ⟨ts, kk, rest, rfl, rfl, rfl, rfl, rfl, rfl, hne, hS⟩ ?turn2 ?done2
      case done2 =>
        intro m₁ nx h' g tk'
        intro hz32
        (refine ex3 hz32 fun ts₁ kk₁ rest₁ hz40 => ?_; refine and8 hz40 fun h1 h2 h3 h4 h5 hz33 hne₁ hS₁ => ?_; clear hz40)
        try clear hz32
        obtain rfl := hz33
        rintro rfl
        intro F N
        have hvl : vs.length = cols.length := by have := hi.length; simpa using this
        have e7 : min (PySem.Str.ofString "abcdefg").cps.size vs.length = cols.length := by
          rw [hvl]; exact Nat.min_eq_right hlen
        rw [e7] at hS₁
        have eL : leadN cols (k + 1) = innerN n0 ls0 cols (leadN cols k) cols.length := by
          show (match (leadN cols k)[k]? with | some r => innerN r.1 r.2 cols (leadN cols k) cols.length | none => leadN cols k) = _
          rw [hrow]
        rw [upd_self h4] at F
        clear F3 N3 H W
        (try dsimp only)
        k_steps
        with_reducible rename Fr _ _ _ _ => F9
        refine (let mv3 := _; have Fv : Fr _ _ _ mv3 := F9; ?_)
        clear F9
        rename Fr _ _ _ mv3 => F9
        with_reducible rename News _ _ _ _ => N9
        have hkr : k < (leadN cols k).length := hS.length ▸ hkl
        refine WhileStep.intro F9 N9 (n' := 8 - (k + 1)) (sub_step (Nat.lt_of_lt_of_le hkr hok.len)) ⟨x, d, l, u, k + 1, ts₁, kk₁, rest₁, ⟨_, rfl⟩, h1, h5, rfl, hne₁, eL ▸ hS₁, ?_, rfl⟩
        rw [eL]
        exact Nat.le_trans hkr (innerN_len _)
      case turn2 =>
        intro i m₁ nx h' g tk' own v0 v1 hi'
        intro hz43
        (refine ex3 hz43 fun ts₁ kk₁ rest₁ hz51 => ?_; refine and8 hz51 fun h1 h2 h3 h4 h5 hz44 hne₁ hS₁ => ?_; clear hz51)
        try clear hz43
        obtain rfl := hz44
        rintro rfl
        intro hpt F N hof
        have hz54 := zpt_val hpt
        (refine ex2 hz54 fun c' u1 hz57 => ?_; refine and3 hz57 fun hc' hz55 hv1 => ?_; clear hz57)
        try clear hz54
        obtain rfl := hz55
        have hi7 : i < 7 := Nat.lt_of_lt_of_le hi' (Nat.min_le_left _ _)
        have hiv : i < vs.length := Nat.lt_of_lt_of_le hi' (Nat.min_le_right _ _)
        obtain rfl := abc_at hi7 hc'
        have hz59 : ∃ c tc, cols[i]? = some c ∧ v1 = .int (c : Nat) tc := by
          have hlt : i < cols.length := by have := hi.length; simp at this; lia
          obtain ⟨t, ht⟩ := hi.get i ((cols[i] : Nat) : Int) (by simp [hlt])
          rw [ht] at hv1
          exact ⟨cols[i], t, by simp [hlt], (Option.some.inj hv1).symm⟩
        (refine ex2 hz59 fun c tc hz61 => ?_; refine and2 hz61 fun hcc hz60 => ?_; clear hz61)
        try clear hz59
        obtain rfl := hz60
        have hc8' := hc8 c (List.mem_of_getElem? hcc)
        have hn8 : n0 < 8 := hokr.1
        have hoki := okk_inner hok hokr.1 hokr.2.1 hokr.2.2 hc8 hlen i
        rw [upd_self h3] at F
        rw [upd_self h2] at F
        rw [upd_self h1] at F
        have hown : ∀ p ∈ own, p.1 ≠ l := fun p hp e => by
          have hN := N p (List.mem_append_right _ hp)
          rcases hfl _ (hof p hp) with q | q
          · have := H.new _ q
            rw [e] at this
            have z := (N3 (l, listO ts kk) (.tail _ (.tail _ (.tail _ (.tail _ (.tail _ (.head _))))))).1
            rw [this] at z; cases z
          · (refine ex1 hl fun o hz63 => ?_; refine and2 hz63 fun z _ => ?_; clear hz63)
            try clear hl
            have := hN.2.2
            rw [q, z] at this; cases this
        clear F3 N3 H W hpt
        (try k_fold)
        have hl0 : ls0.length < 1000000 := Nat.lt_of_le_of_lt hokr.2.2 (Nat.lt_of_lt_of_le (hS.length ▸ hkl) (Nat.le_trans hok.len (by decide)))
        have hl9 : ls0.length ≤ 8 := Nat.le_trans hokr.2.2 (Nat.le_trans (Nat.le_of_lt (hS.length ▸ hkl)) hok.len)
        iterate 30 walk1
        with_reducible rename (hd.heap_1 w.params).In s.heap => XB
        with_reducible rename Top _ _ _ _ _ s.heap => TB
        refine call_setd (rest := rest₁ ++ own) B XB TB F N (fun q hq => ?_) (hS₁.mono fun q hq => List.mem_append_left _ hq) hoki.len (fun r hr => (hoki.2 r hr).1) (Nat.xor_lt_two_pow (n := 3) hn8 hc8') (fun y hy => ?_) (by simp; lia) (fun h₄ tk₄ v₄ k₄ add va F4 N4 hal hfr hadd => ?_) rfl (Nat.le_of_ble_eq_true rfl) (Nat.le_of_ble_eq_true rfl)
        · rcases List.mem_append.mp hq with hq | hq
          · exact hne₁ q hq
          · exact hown q hq
        · rcases List.mem_append.mp hy with hy | hy
          · exact hokr.2.1 y hy
          · rw [List.mem_singleton.mp hy]; lia
        · clear F N
          walk1
          have eI : innerN n0 ls0 cols (leadN cols k) (i + 1) = setR (innerN n0 ls0 cols (leadN cols k) i) (n0 ^^^ c) (ls0 ++ [97 + i]) := by
            show (match cols[i]? with | some c => setR (innerN n0 ls0 cols (leadN cols k) i) (n0 ^^^ c) (ls0 ++ [97 + i]) | none => innerN n0 ls0 cols (leadN cols k) i) = _
            rw [hcc]
          have N5 : News s.heap s.heap.objs.size h₄ ((x, instObj 241 d) :: (d, dictOf [{ hash := PyData.keyHash w.params (PySem.Str.ofString "_headers"), key := .str (PySem.Str.ofString "_headers") u, val := .ref l }] 1) :: (l, listO (ts₁ ++ va) k₄) :: (add ++ (rest₁ ++ own))) := N4
          refine fend (nx' := (x, instObj 241 d) :: (d, dictOf [{ hash := PyData.keyHash w.params (PySem.Str.ofString "_headers"), key := .str (PySem.Str.ofString "_headers") u, val := .ref l }] 1) :: (l, listO (ts₁ ++ va) k₄) :: (add ++ rest₁)) rfl F4 N5 (fun q hq => ?_) (fun q hq => ?_) (fun q hq => ?_)
            ⟨ts₁ ++ va, k₄, add ++ rest₁, rfl, rfl, rfl, h4, h5, rfl, fun q hq => ?_, eI ▸ hadd.sin hS₁⟩
          · rcases List.mem_cons.mp hq with rfl | hq
            · exact .head _
            · rcases List.mem_cons.mp hq with rfl | hq
              · exact .tail _ (.head _)
              · rcases List.mem_cons.mp hq with rfl | hq
                · exact .tail _ (.tail _ (.head _))
                · refine .tail _ (.tail _ (.tail _ ?_))
                  rcases List.mem_append.mp hq with hq | hq
                  · exact List.mem_append_left _ hq
                  · exact List.mem_append_right _ (List.mem_append_left _ hq)
          · exact .tail _ (.tail _ (.tail _ (List.mem_append_right _ (List.mem_append_right _ hq))))
          · rcases List.mem_cons.mp hq with rfl | hq
            · exact .inl ⟨_, .head _⟩
            · rcases List.mem_cons.mp hq with rfl | hq
              · exact .inl ⟨_, .tail _ (.head _)⟩
              · rcases List.mem_cons.mp hq with rfl | hq
                · exact .inl ⟨_, .tail _ (.tail _ (.head _))⟩
                · rcases List.mem_append.mp hq with hq | hq
                  · exact .inr fun q' hq' => hfr q hq q' (List.mem_append_right _ (List.mem_append_right _ hq'))
                  · exact .inl ⟨q.2, .tail _ (.tail _ (.tail _ hq))⟩
          · rcases List.mem_append.mp hq with hq | hq
            · exact hal q hq
            · exact hne₁ q hq
    · have hst : (leadN cols k).length ≤ k := hS.length ▸ hkl
      have hk8 : k ≤ 8 := Nat.le_trans hk hok.len
      have e8 : leadN cols 8 = leadN cols k := by
        have := lead_stop hst (8 - k)
        rwa [Nat.add_sub_cancel' hk8] at this
      k_steps
      with_reducible rename Fr _ _ _ _ => F9
      refine (let mv4 := _; have Fv : Fr _ _ _ mv4 := F9; ?_)
      clear F9
      rename Fr _ _ _ mv4 => F9
      with_reducible rename News _ _ _ _ => N9
      refine ret _ _ _ _ _ x d l u ts kk F9 N9 (fun q hq => ?_) (e8 ▸ hS.mono fun q hq => .tail _ (.tail _ (.tail _ (.tail _ hq))))
      simp only [hdr, List.mem_cons, List.not_mem_nil, or_false] at hq
      rcases hq with rfl | rfl | rfl
      · exact .tail _ (.head _)
      · exact .tail _ (.tail _ (.head _))
      · exact .tail _ (.tail _ (.tail _ (.head _)))
theorem lead_c (w : World) (p : Program) (loose : List PySem.Str) (mean : ExcName → Option Value) (mg mb : PySem.Str → Option Value) (outer : List Env) (base : Heap) (s : Shared) (R : Result → Shared → Prop) (lc : Addr) (vs : List Value) (cols : List Nat) (hl : s.heap.IsList lc vs.toArray) (hi : IntsAre vs (cols.map fun c : Nat => (c : Int))) (hlen : cols.length ≤ 7) (hc8 : ∀ c ∈ cols, c < 8) : Below (AT 330 60 outer) base outer s.heap → (hd.heap_1 w.params).In s.heap → Top p loose mean mg mb s.heap →
  (∀ L' m' news' h' tk' x d l u ts k, Fr s.heap L' h' m' → News s.heap L' h' news' → (∀ p ∈ hdr w x d l u ts k, p ∈ news') → SIn news' ts (leadN cols 8) → R (.ok (.ret (.ref x))) { s with heap := h', toks := tk' }) →
  codeAny (model PySem.Challenge.rw_to0081_01.prog w) (AT 330 60 outer) (.call (.ref 264) ⟨[.ref lc], []⟩) R s := hil_ (Q := fun x => lead_c.S x.1 x.2.1 x.2.2.1 x.2.2.2.1 x.2.2.2.2.1 x.2.2.2.2.2.1 x.2.2.2.2.2.2.1 x.2.2.2.2.2.2.2.1 x.2.2.2.2.2.2.2.2.1 x.2.2.2.2.2.2.2.2.2.1 x.2.2.2.2.2.2.2.2.2.2.1 x.2.2.2.2.2.2.2.2.2.2.2.1 x.2.2.2.2.2.2.2.2.2.2.2.2) (by with_unfolding_all exact lead_c.core) (w, p, loose, mean, mg, mb, outer, base, s, R, lc, vs, cols) hl hi hlen hc8

end
local macro_rules | `(tactic| walk_at "subscriptTail") => `(tactic| (k_here; first | ((with_reducible show wpAny _ _ (subscriptTail _ _ (Value.str (txt _) _) (Value.int (Nat.cast _) _)) _ _ _); (refine sub_at (by assumption) (by first | assumption | omega) ?_)) | ((with_reducible show wpAny _ _ (subscriptTail _ (PySem.Expr.Slice (some _) none none _) (Value.str (txt _) _) (Value.ref _)) _ _ _); k_dflt (refine' slice_sn (s := ⟨_, _, _, _, _⟩) (by k_asm) (by k_asm) (by first | assumption | omega) (by first | assumption | omega) ?_); intro _ _ _ F' N'; (try dsimp only))))
local macro_rules | `(tactic| walk_at "call builtin:str.join") => `(tactic| (k_here; (with_reducible show wpAny _ _ (call (Value.builtin "str.join") [Value.str _ _, Value.ref _]) _ _ _); k_dflt (refine' join_txts (by k_asm) (by k_mem) (by assumption) (by assumption) (by assumption) ?_); intro _ _; (try dsimp only)))
local macro_rules | `(tactic| walk_at "call builtin:len") => `(tactic| (k_here; (with_reducible show wpAny _ _ (call (Value.builtin "len") [Value.str (txt _) _]) _ _ _); (refine len_txt (by first | assumption | omega) ?_); intro _ _; (try dsimp only)))
local macro_rules | `(tactic| walk_at "binaryOp LShift int int") => `(tactic| (k_here; (with_reducible show wpAny _ _ (binaryOp Operator.LShift (Value.int _ _) (Value.int _ _)) _ _ _); (refine lshift_int_small (by omega) (by omega) (by assumption) ?_); (try dsimp only)))

section
-- hil-done: strip_c
-- macros2 -- macros3
/-- generators that came and went -/
noncomputable def GFin (g g' : Array GenState) : Prop := ∃ k, g' = g ++ Array.replicate k .finished
theorem GFin.refl (g : Array GenState) : GFin g g := ⟨0, by simp⟩
theorem GFin.push {g g' : Array GenState} (h : GFin g g') : GFin g (g'.push .finished) := by
  (refine ex1 h fun k hz1 => ?_)
  try clear h
  obtain rfl := hz1
  exact ⟨k + 1, by rw [Array.replicate_succ, Array.append_push]⟩
theorem GFin.trans {a b c : Array GenState} (h : GFin a b) (h' : GFin b c) : GFin a c := by
  (refine ex1 h fun k hz2 => ?_)
  try clear h
  obtain rfl := hz2
  (refine ex1 h' fun j hz3 => ?_)
  try clear h'
  obtain rfl := hz3
  exact ⟨k + j, by rw [Array.append_assoc, Array.replicate_append_replicate]⟩
section
variable {prog : Program} {w : World} {A : Around} {env : Env}
theorem for_gen {x : PySem.Str} {t : Tok} {g₀ : Array GenState} {K : Nat} {h₀ : Heap} {xa xb : PySem.Str} {pa pb tp : Pos} {k : Nat} {body : List Stmt} {R : Result → Shared → Prop} {s : Shared} {m : PySem.Str → Option Value} {nx : List (Addr × Obj)}
    (J : Nat → (PySem.Str → Option Value) → List (Addr × Obj) → Prop)
    (hh : A.handled = none) (hroom : A.depth < recursionLimit) (hlim : h₀.NoLimit)
    (hst : GSt prog w A x [K, K + 3, K + 2] (GPriv h₀ K (K + 2) x t) g₀ (K + 1) 0 s.heap s.gens)
    (F : Fr h₀ env.locals s.heap m) (N : News h₀ env.locals s.heap nx) (hLK : env.locals < K) (hn : ∀ p ∈ nx, p.1 < K) (hJ : J 0 m nx)
    (hx : env.kindOf xa = some .local) (hy : env.kindOf xb = some .local) (hp : (env.scope.kind == .class || (env.scope.kind == .module && env.locals != env.globals)) = false)
    (turn : ∀ i m₁ nx h g tk own c t u, i < x.cps.size → J i m₁ nx → x.cps[i]? = some c → Fr h₀ env.locals h (fun z => if z = xb then some (.str (one c) u) else if z = xa then some (.int (i : Nat) t) else m₁ z) → News h₀ env.locals h (nx ++ own) → (∀ p ∈ own, p.1 ∈ [K + 1, K, K + 3, K + 2]) →
      wpAny (model prog w) A (execs body env) (FPost h₀ env.locals (fun g' => g' = g) nx own (J (i + 1)) R s) (fun _ _ => False) { s with heap := h, gens := g, toks := tk })
    (done : ∀ m₁ nx h tk, J x.cps.size m₁ nx → Fr h₀ env.locals h m₁ → News h₀ env.locals h nx → R (.ok .next) { s with heap := h, gens := g₀.push .finished, toks := tk }) :
    codeAny (model prog w) A (.forLoop (.Tuple [.Name xa pa, .Name xb pb] k tp) (.ref (K + 1)) body [] env) R s := by
  have hab : h₀.objs.size ≤ env.locals := F.above
  have off : ∀ j, K + j ≠ env.locals := fun j e => Nat.lt_irrefl _ (Nat.lt_of_le_of_lt (Nat.le_add_right K j) (e ▸ hLK))
  have hL : env.locals ∉ [K, K + 3, K + 2] := by
    simp only [List.mem_cons, List.not_mem_nil, or_false, not_or]
    exact ⟨fun e => off 0 e.symm, fun e => off 3 e.symm, fun e => off 2 e.symm⟩
  have hO : K + 1 ∉ [K, K + 3, K + 2] := by
    simp only [List.mem_cons, List.not_mem_nil, or_false, not_or]
    lia
  have hnone : ∀ b, env.locals ≤ b → h₀.get? b = none := fun b hb => Heap.get?_none_of_le (Nat.le_trans hab hb)
  refine for_coreG J (tk_gen (Priv := GPriv h₀ K (K + 2) x t) hh hroom hlim (fun _ _ => GPriv.up) (fun _ _ _ => GPriv.frame) hO (off 1) hL hab hx hy hp) (fun b hb => .tail _ hb) hL
    (fun hb => by
      rcases List.mem_cons.mp hb with e | hb
      · exact off 1 e.symm
      · exact hL hb) (fun b hb => by
      rcases List.mem_cons.mp hb with e | hb
      · exact .inl e
      · exact .inr (.tail _ hb)) (fun i h g st b hb => by
      rcases List.mem_cons.mp hb with e | hb
      · exact .inl e
      · exact .inr (st.2.1.live b hb)) (fun b hb => by
      rcases List.mem_cons.mp hb with e | hb
      · exact hnone b (Nat.le_of_eq e.symm)
      · simp only [List.mem_cons, List.not_mem_nil, or_false] at hb
        rcases hb with e | e | e
        · exact hnone b (e ▸ Nat.le_of_lt hLK)
        · exact hnone b (e ▸ Nat.le_trans (Nat.le_of_lt hLK) (Nat.le_add_right _ _))
        · exact hnone b (e ▸ Nat.le_trans (Nat.le_of_lt hLK) (Nat.le_add_right _ _)))
    hst F N (fun p hp hb => by
      have hpK := hn p hp
      rcases List.mem_cons.mp hb with e | hb
      · exact (N p hp).2.1 e
      · simp only [List.mem_cons, List.not_mem_nil, or_false] at hb
        rcases hb with e | e | e
        · exact Nat.lt_irrefl _ (e ▸ hpK)
        · exact absurd (Nat.le_add_right K 3) (Nat.not_le_of_lt (e ▸ hpK))
        · exact absurd (Nat.le_add_right K 2) (Nat.not_le_of_lt (e ▸ hpK))) hJ
    (fun i m₁ m₂ nx h g tk own hi hj hst hB F N hn ho hof => ?_) (fun m₁ nx h g tk hj hg F N _ => ?_)
  · (refine ex3 hB fun c t u hz5 => ?_; refine and2 hz5 fun hc hz4 => ?_; clear hz5)
    try clear hB
    obtain rfl := hz4
    exact turn i m₁ nx h g tk own c t u hi hj hc F N hof
  · subst hg
    exact done m₁ nx h tk hj F N
end
noncomputable def opV : Option Nat → Tok → Value
  | none, _ => .none
  | some p, t => .int (p : Nat) t
set_option maxHeartbeats 2000000
noncomputable def strip_c.S (w : World) (p : Program) (loose : List PySem.Str) (mean : ExcName → Option Value) (mg : PySem.Str → Option Value) (mb : PySem.Str → Option Value) (outer : List Env) (base : Heap) (s : Shared) (R : Result → Shared → Prop) (x : List Nat) (tx : Tok) : Prop := ∀ (hx : ∀ c ∈ x, c < 128 ∧ c ≠ 92) (hlen : x.length ≤ 900) (hq : mdQ false x = false), Below (AT 334 90 outer) base outer s.heap → (hd.heap_1 w.params).In s.heap → Top p loose mean mg mb s.heap →
  (∀ L' m' news' h' tk' g' t', Fr s.heap L' h' m' → News s.heap L' h' news' → GFin s.gens g' → R (.ok (.ret (.str (txt (outF false x)) t'))) { s with heap := h', gens := g', toks := tk' }) →
  codeAny (model PySem.Challenge.rw_to0081_01.prog w) (AT 334 90 outer) (.call (.ref 94) ⟨[.str (txt x) tx], []⟩) R s
noncomputable def strip_c.e : World × Program × (List PySem.Str) × (ExcName → Option Value) × (PySem.Str → Option Value) × (PySem.Str → Option Value) × (List Env) × Heap × Shared × (Result → Shared → Prop) × (List Nat) × Tok := haveI := ne_w; haveI := ne_s; haveI := ne_a; haveI := ne_g; Classical.epsilon fun x => ¬ strip_c.S x.1 x.2.1 x.2.2.1 x.2.2.2.1 x.2.2.2.2.1 x.2.2.2.2.2.1 x.2.2.2.2.2.2.1 x.2.2.2.2.2.2.2.1 x.2.2.2.2.2.2.2.2.1 x.2.2.2.2.2.2.2.2.2.1 x.2.2.2.2.2.2.2.2.2.2.1 x.2.2.2.2.2.2.2.2.2.2.2
@[irreducible] noncomputable def strip_c.w : World := strip_c.e.1
@[irreducible] noncomputable def strip_c.p : Program := strip_c.e.2.1
@[irreducible] noncomputable def strip_c.loose : List PySem.Str := strip_c.e.2.2.1
@[irreducible] noncomputable def strip_c.mean : ExcName → Option Value := strip_c.e.2.2.2.1
@[irreducible] noncomputable def strip_c.mg : PySem.Str → Option Value := strip_c.e.2.2.2.2.1
@[irreducible] noncomputable def strip_c.mb : PySem.Str → Option Value := strip_c.e.2.2.2.2.2.1
@[irreducible] noncomputable def strip_c.outer : List Env := strip_c.e.2.2.2.2.2.2.1
@[irreducible] noncomputable def strip_c.base : Heap := strip_c.e.2.2.2.2.2.2.2.1
@[irreducible] noncomputable def strip_c.s : Shared := strip_c.e.2.2.2.2.2.2.2.2.1
@[irreducible] noncomputable def strip_c.R : Result → Shared → Prop := strip_c.e.2.2.2.2.2.2.2.2.2.1
@[irreducible] noncomputable def strip_c.x : List Nat := strip_c.e.2.2.2.2.2.2.2.2.2.2.1
@[irreducible] noncomputable def strip_c.tx : Tok := strip_c.e.2.2.2.2.2.2.2.2.2.2.2
theorem strip_c.core : strip_c.S strip_c.w strip_c.p strip_c.loose strip_c.mean strip_c.mg strip_c.mb strip_c.outer strip_c.base strip_c.s strip_c.R strip_c.x strip_c.tx := by
  delta strip_c.S
  intro hx hlen hq
  k_fill
  intro B X T ret
  k_dflt (refine' enter ?k1 ?k2 ?k3 ?k4 ?k5 ?k6 ?k7 ?_ ?c2 ?c3 ?c4 ?c5; (case k1 => k_asm); (case k2 => k_asm); (case k3 => k_is); (case k4 => k_is); (case k5 => exact Nat.le_of_ble_eq_true rfl); (case k6 => exact BindsTo.of_eq rfl); (case k7 => exact locs rfl); (case c2 => exact rfl); (case c3 => exact rfl); (case c4 => exact rfl); (case c5 => decide); k_whole; intro h' F' N'; (try dsimp only); (try k_fold))
  iterate 6 walk1
  by_cases h34 : (34 : Nat) ∈ x
  case neg =>
    refine notIn_no h34 ?_
    k_steps
    with_reducible rename Fr _ _ _ _ => F9
    with_reducible rename News _ _ _ _ => N9
    have e := outF_none x fun c hc q => h34 (q ▸ hc)
    rw [e] at ret
    exact ret _ _ _ _ _ _ _ F9 N9 (GFin.refl _)
  refine notIn_yes h34 ?_
  iterate 20 walk1
  refine wpAny_For ?_
  iterate 6 walk1
  with_reducible rename Fr _ _ _ _ => F1
  with_reducible rename News _ _ _ _ => N1
  refine ⟨X.keeps F1.keep, wpAny_call ?_⟩
  rename_i _ _ D _ _ H1
  have hsz : s.heap.objs.size < H1.objs.size := by
    have hz8 := F1.ns
    (refine ex3 hz8 fun o _ _ hz9 => ?_; refine and2 hz9 fun hl _ => ?_; clear hz9)
    try clear hz8
    exact Heap.lt_size hl
  refine iter_c w p loose mean mg mb _ _ _ s.heap (txt x) tx (fun c hc => hx c (by simpa using hc)) F1.keep (Nat.le_of_lt hsz) (Nat.le_of_ble_eq_true rfl) X T fun h₂ tk₂ gs hk₂ hgen hpriv hgo => ?_
  have F2 := F1.keeps hk₂
  have N2 : News s.heap s.heap.objs.size h₂ [(D, listO [] 0)] := fun p hp => ⟨hk₂ _ _ (N1 p hp).1, (N1 p hp).2⟩
  have hDK : D < H1.objs.size := Heap.lt_size (N1 _ (.head _)).1
  dsimp only at hgen hpriv hgo ⊢
  generalize H1.objs.size = K at *
  refine wpAny_pyIter_gen hgen ?_
  let Jv1 : Nat → (PySem.Str → Option Value) → List (Addr × Obj) → Prop := fun i m nx => ∃ vs k st op segs ts to, m (PySem.Str.ofString "start") = some (.int (st : Nat) ts) ∧ m (PySem.Str.ofString "open_pos") = some (opV op to) ∧ m (PySem.Str.ofString "result") = some (.ref D) ∧ m (PySem.Str.ofString "addr") = some (.str (txt x) tx) ∧
      nx = [(D, listO vs k)] ∧ TxtsAre vs segs ∧ SInv x i st op segs
  refine for_gen (x := txt x) (t := tx) (g₀ := s.gens) (K := K) Jv1
    rfl (Nat.le_of_ble_eq_true rfl) T.nolimit ⟨hgen, hpriv, gs, rfl, hgo _ rfl⟩ F2 N2 hsz (fun p hp => by rw [List.mem_singleton.mp hp]; exact hDK) ⟨[], 0, 0, none, [], _, 0, rfl, rfl, rfl, rfl, rfl, .nil, .start⟩ rfl rfl rfl ?turn ?done
  case turn =>
    intro i m₁ nx h g tk own c t u hi
    intro hz12
    (refine ex7 hz12 fun vs k st op segs ts to hz19 => ?_; refine and7 hz19 fun hms hmo hmr hma hz13 hv hI => ?_; clear hz19)
    try clear hz12
    obtain rfl := hz13
    intro hc F N hof
    rw [upd_self hma] at F
    rw [upd_self hmr] at F
    rw [upd_self hmo] at F
    rw [upd_self hms] at F
    clear F1 N1 F2 N2 hgen hpriv hgo hk₂
    have hcx : x[i]? = some c := by simpa using hc
    have hsep : ∀ q ∈ own, q.1 ≠ D := fun q hq e => by
      have := hof q hq
      simp only [List.mem_cons, List.not_mem_nil, or_false] at this
      have hK : K ≤ q.1 := by
        rcases this with z | z | z | z
        · rw [z]; exact Nat.le_add_right _ _
        · exact Nat.le_of_eq z.symm
        · rw [z]; exact Nat.le_add_right _ _
        · rw [z]; exact Nat.le_add_right _ _
      rw [e] at hK
      exact Nat.lt_irrefl _ (Nat.lt_of_lt_of_le hDK hK)
    have hhead : ∀ (o : Obj), ∀ p ∈ [(D, o)], p ∈ (D, o) :: own := fun o p hp => by rw [List.mem_singleton.mp hp]; exact .head _
    have hold : ∀ (o : Obj), ∀ p ∈ [(D, o)], (∃ o, (p.1, o) ∈ [(D, listO vs k)]) ∨ ∀ q ∈ own, q.1 ≠ p.1 := fun o p hp => .inl ⟨listO vs k, by rw [List.mem_singleton.mp hp]; exact .head _⟩
    cases op with
    | none =>
      dsimp only [opV] at F
      k_steps
      · with_reducible rename Fr _ _ _ _ => F9
        with_reducible rename News _ _ _ _ => N9
        with_reducible rename _ = true => b9
        have ec : c = 34 := quote_of b9
        subst ec
        exact fend (nx' := [(D, listO vs k)]) rfl F9 N9 (hhead _) (fun p hp => .tail _ hp) (hold _) ⟨vs, k, st, some i, segs, ts, t, rfl, rfl, rfl, rfl, rfl, hv, hI.openQ hcx⟩
      · with_reducible rename Fr _ _ _ _ => F9
        with_reducible rename News _ _ _ _ => N9
        with_reducible rename _ = false => b9
        exact fend (nx' := [(D, listO vs k)]) rfl F9 N9 (hhead _) (fun p hp => .tail _ hp) (hold _) ⟨vs, k, st, none, segs, ts, to, rfl, rfl, rfl, rfl, rfl, hv, hI.keepN hcx (quote_ne b9)⟩
    | some p =>
      dsimp only [opV] at F
      have hsp : st ≤ p := hI.2.2.2.2.1
      have hpl : p ≤ x.length := by have h1 := hI.2.2.2.2.2.1; have h2 := hI.2.2.2.1; lia
      have hxl : x.length ≤ 1000000 := by lia
      k_steps
      · rw [sl_ss hsp hpl]
        with_reducible rename Fr _ _ _ _ => F8
        with_reducible rename News _ _ _ _ => N8
        with_reducible rename (_ == _) = true => b9
        have ec : c = 34 := quote_of b9
        subst ec
        have hz : vs.length ≤ sizeLine := by
          have h1 := hI.1
          have h2 := hI.2.2.2.1
          rw [hv.length, sizeLine_eq]; lia
        refine append_K (news' := (D, W.listOf (vs.toArray.push _) (k + 1)) :: own) F8 N8 (.head hsep) (fun h₃ F₃ N₃ => ?_) (by rw [List.size_toArray]; exact hz)
        clear F8 N8
        k_steps
        with_reducible rename Fr _ _ _ _ => F9
        with_reducible rename News _ _ _ _ => N9
        rw [listOf_push] at N9
        exact fend (nx' := [(D, listO (vs ++ [_]) (k + 1))]) rfl F9 N9 (hhead _) (fun p hp => .tail _ hp) (hold _) ⟨_, _, i + 1, none, _, _, 0, rfl, rfl, rfl, rfl, rfl, hv.snoc, hI.shut hcx⟩
      · with_reducible rename Fr _ _ _ _ => F9
        with_reducible rename News _ _ _ _ => N9
        with_reducible rename (_ == _) = true => b9
        with_reducible rename (Nat.cast st) = (Nat.cast p) => e9
        have ec : c = 34 := quote_of b9
        subst ec
        obtain rfl : st = p := by lia
        exact fend (nx' := [(D, listO vs k)]) rfl F9 N9 (hhead _) (fun p hp => .tail _ hp) (hold _) ⟨vs, k, i + 1, none, segs, _, 0, rfl, rfl, rfl, rfl, rfl, hv, hI.shut0 hcx⟩
      · with_reducible rename Fr _ _ _ _ => F9
        with_reducible rename News _ _ _ _ => N9
        with_reducible rename _ = false => b9
        exact fend (nx' := [(D, listO vs k)]) rfl F9 N9 (hhead _) (fun p hp => .tail _ hp) (hold _) ⟨vs, k, st, some p, segs, ts, to, rfl, rfl, rfl, rfl, rfl, hv, hI.keepS hcx (quote_ne b9)⟩
  case done =>
    intro m₁ nx h tk
    intro hz26
    (refine ex7 hz26 fun vs k st op segs ts to hz33 => ?_; refine and7 hz33 fun hms hmo hmr hma hz27 hv hI => ?_; clear hz33)
    try clear hz26
    obtain rfl := hz27
    intro F N
    rw [upd_self hma] at F
    rw [upd_self hmr] at F
    rw [upd_self hms] at F
    clear F1 N1 F2 N2 hgen hpriv hgo hk₂
    rw [show (txt x).cps.size = x.length from txt_len x] at hI
    cases op with
    | some p => exact (hI.none_of hq).elim
    | none =>
      (try dsimp only)
      have hxl : x.length ≤ 1000000 := by lia
      have hfin := hI.fin
      have hstl : st ≤ x.length := hI.2.2.1
      have hsl := hI.1
      have hsg := hI.2.1
      k_steps
      · rw [sl_sn hstl]
        with_reducible rename Fr _ _ _ _ => F8
        with_reducible rename News _ _ _ _ => N8
        refine append_K (news' := [(D, W.listOf (vs.toArray.push _) (k + 1))]) F8 N8 (.head fun _ h => nomatch h) (fun h₃ F₃ N₃ => ?_) (by rw [List.size_toArray, hv.length, sizeLine_eq]; lia)
        clear F8 N8
        k_steps
        with_reducible rename Fr _ _ _ _ => F9
        with_reducible rename News _ _ _ _ => N9
        rw [listOf_push] at N9
        refine join_txts N9 (.head _) (hv.snoc) (by rw [List.length_append]; simp; lia) (fun a ha => ?_) fun t' k' => ?_
        · rcases List.mem_append.mp ha with ha | ha
          · exact Nat.le_trans (hsg a ha) (by lia)
          · rw [List.mem_singleton.mp ha]; simp; lia
        · rw [show (segs ++ [x.drop st]).flatten = outF false x by rw [hfin]; simp]
          k_steps
          exact ret _ _ _ _ _ _ _ F9 N9 (GFin.refl _).push
      · refine join_txts N (.head _) hv (by lia) (fun a ha => Nat.le_trans (hsg a ha) (by lia)) fun t' k' => ?_
        have ed : x.drop st = [] := List.drop_of_length_le (by lia)
        rw [show segs.flatten = outF false x by rw [hfin, ed, List.append_nil]]
        k_steps
        exact ret _ _ _ _ _ _ _ F N (GFin.refl _).push
theorem strip_c (w : World) (p : Program) (loose : List PySem.Str) (mean : ExcName → Option Value) (mg mb : PySem.Str → Option Value) (outer : List Env) (base : Heap) (s : Shared) (R : Result → Shared → Prop) (x : List Nat) (tx : Tok) (hx : ∀ c ∈ x, c < 128 ∧ c ≠ 92) (hlen : x.length ≤ 900) (hq : mdQ false x = false) : Below (AT 334 90 outer) base outer s.heap → (hd.heap_1 w.params).In s.heap → Top p loose mean mg mb s.heap →
  (∀ L' m' news' h' tk' g' t', Fr s.heap L' h' m' → News s.heap L' h' news' → GFin s.gens g' → R (.ok (.ret (.str (txt (outF false x)) t'))) { s with heap := h', gens := g', toks := tk' }) →
  codeAny (model PySem.Challenge.rw_to0081_01.prog w) (AT 334 90 outer) (.call (.ref 94) ⟨[.str (txt x) tx], []⟩) R s := hil_ (Q := fun x => strip_c.S x.1 x.2.1 x.2.2.1 x.2.2.2.1 x.2.2.2.2.1 x.2.2.2.2.2.1 x.2.2.2.2.2.2.1 x.2.2.2.2.2.2.2.1 x.2.2.2.2.2.2.2.2.1 x.2.2.2.2.2.2.2.2.2.1 x.2.2.2.2.2.2.2.2.2.2.1 x.2.2.2.2.2.2.2.2.2.2.2) (by with_unfolding_all exact strip_c.core) (w, p, loose, mean, mg, mb, outer, base, s, R, x, tx) hx hlen hq

end
section
-- hil-done: sizes_c
-- macros2 -- macros3
set_option maxHeartbeats 2000000
theorem call_strip {w : World} {p : Program} {loose : List PySem.Str} {mean : ExcName → Option Value} {mg mb : PySem.Str → Option Value} {A : Around} {outer : List Env} {base G : Heap} {s : Shared} {Q E : Value → Shared → Prop} {L f : Addr} {m : PySem.Str → Option Value} {name : PySem.Str} {scope : Scope} {cd : Value} {news : List (Addr × Obj)}
    {x : List Nat} {tx : Tok} (B : Below A base outer G) (X : (hd.heap_1 w.params).In G) (T : Top p loose mean mg mb G) (F : Fr G L s.heap m) (N : News G L s.heap news) (hx : ∀ c ∈ x, c < 128 ∧ c ≠ 92) (hlen : x.length ≤ 900) (hq : mdQ false x = false)
    (h : ∀ h' tk' g' t', Fr G L h' m → News G L h' news → GFin s.gens g' → Q (.str (txt (outF false x)) t') { s with heap := h', gens := g', toks := tk' })
    (h0 : A.handled = none) (h1 : A.depth ≤ 333) (h2 : A.units ≤ 87) (hkd : scope.kind = .function := by rfl) :
    wpAny (model PySem.Challenge.rw_to0081_01.prog w) (A.deeper (envOf name scope L f cd)) (call (.ref 94) [.str (txt x) tx]) Q E s := by
  refine wpAny_call ?_
  have B' := B.push (name := name) (a := f) (cd := cd) F hkd
  have X' := X.keeps F.keep
  have T' := T.keeps F.keep
  refine below_le (d := 334) (u := 90) (outer := envOf name scope L f cd :: outer) ?_ h0 ?_ ?_ ?_
  · exact strip_c w p loose mean mg mb (envOf name scope L f cd :: outer) base s _ x tx hx hlen hq ⟨rfl, B'.stays, B'.frames⟩ X' T' fun L' m' news' h' tk' g' t' F' N' hg => h h' tk' g' t' (F.keeps F'.keep) (N.grown F'.keep) hg
  · exact Nat.succ_le_succ h1
  · exact Nat.le_trans (Nat.add_le_add_right h2 3) (by decide)
  · exact B'.stack
theorem lit8 {t0 t1 t2 t3 t4 t5 t6 t7 : Tok} {n : Nat} (h : n < 8) : ∃ t, ([.int 0 t0, .int 1 t1, .int 1 t2, .int 2 t3, .int 1 t4, .int 2 t5, .int 2 t6, .int 3 t7] : List Value)[n]? = some (.int (popc n : Nat) t) := by
  have : n = 0 ∨ n = 1 ∨ n = 2 ∨ n = 3 ∨ n = 4 ∨ n = 5 ∨ n = 6 ∨ n = 7 := by lia
  rcases this with rfl | rfl | rfl | rfl | rfl | rfl | rfl | rfl <;> exact ⟨_, rfl⟩
theorem ints_one {x y : Int} {t : Tok} (e : x = y) : IntsAre [.int x t] [y] := e ▸ .cons _ _ .nil
noncomputable def sizes_c.S (w : World) (p : Program) (loose : List PySem.Str) (mean : ExcName → Option Value) (mg : PySem.Str → Option Value) (mb : PySem.Str → Option Value) (outer : List Env) (base : Heap) (s : Shared) (R : Result → Shared → Prop) (lc : Addr) (vs : List Value) (cols : List Nat) : Prop := ∀ (hl : s.heap.IsList lc vs.toArray) (hi : IntsAre vs (cols.map fun c : Nat => (c : Int))) (hlen : cols.length ≤ 7) (hc8 : ∀ c ∈ cols, c < 8), Below (AT 330 60 outer) base outer s.heap → (hd.heap_1 w.params).In s.heap → Top p loose mean mg mb s.heap →
  (∀ L' m' news' h' tk' g' D us k, Fr s.heap L' h' m' → News s.heap L' h' news' → (D, listO us k) ∈ news' → IntsAre us (sizesN cols 7) → GFin s.gens g' → R (.ok (.ret (.ref D))) { s with heap := h', gens := g', toks := tk' }) →
  codeAny (model PySem.Challenge.rw_to0081_01.prog w) (AT 330 60 outer) (.call (.ref 271) ⟨[.ref lc], []⟩) R s
noncomputable def sizes_c.e : World × Program × (List PySem.Str) × (ExcName → Option Value) × (PySem.Str → Option Value) × (PySem.Str → Option Value) × (List Env) × Heap × Shared × (Result → Shared → Prop) × Addr × (List Value) × (List Nat) := haveI := ne_w; haveI := ne_s; haveI := ne_a; haveI := ne_g; Classical.epsilon fun x => ¬ sizes_c.S x.1 x.2.1 x.2.2.1 x.2.2.2.1 x.2.2.2.2.1 x.2.2.2.2.2.1 x.2.2.2.2.2.2.1 x.2.2.2.2.2.2.2.1 x.2.2.2.2.2.2.2.2.1 x.2.2.2.2.2.2.2.2.2.1 x.2.2.2.2.2.2.2.2.2.2.1 x.2.2.2.2.2.2.2.2.2.2.2.1 x.2.2.2.2.2.2.2.2.2.2.2.2
@[irreducible] noncomputable def sizes_c.w : World := sizes_c.e.1
@[irreducible] noncomputable def sizes_c.p : Program := sizes_c.e.2.1
@[irreducible] noncomputable def sizes_c.loose : List PySem.Str := sizes_c.e.2.2.1
@[irreducible] noncomputable def sizes_c.mean : ExcName → Option Value := sizes_c.e.2.2.2.1
@[irreducible] noncomputable def sizes_c.mg : PySem.Str → Option Value := sizes_c.e.2.2.2.2.1
@[irreducible] noncomputable def sizes_c.mb : PySem.Str → Option Value := sizes_c.e.2.2.2.2.2.1
@[irreducible] noncomputable def sizes_c.outer : List Env := sizes_c.e.2.2.2.2.2.2.1
@[irreducible] noncomputable def sizes_c.base : Heap := sizes_c.e.2.2.2.2.2.2.2.1
@[irreducible] noncomputable def sizes_c.s : Shared := sizes_c.e.2.2.2.2.2.2.2.2.1
@[irreducible] noncomputable def sizes_c.R : Result → Shared → Prop := sizes_c.e.2.2.2.2.2.2.2.2.2.1
@[irreducible] noncomputable def sizes_c.lc : Addr := sizes_c.e.2.2.2.2.2.2.2.2.2.2.1
@[irreducible] noncomputable def sizes_c.vs : List Value := sizes_c.e.2.2.2.2.2.2.2.2.2.2.2.1
@[irreducible] noncomputable def sizes_c.cols : List Nat := sizes_c.e.2.2.2.2.2.2.2.2.2.2.2.2
theorem sizes_c.core : sizes_c.S sizes_c.w sizes_c.p sizes_c.loose sizes_c.mean sizes_c.mg sizes_c.mb sizes_c.outer sizes_c.base sizes_c.s sizes_c.R sizes_c.lc sizes_c.vs sizes_c.cols := by
  delta sizes_c.S
  intro hl hi hlen hc8
  k_fill
  intro B X T ret
  k_dflt (refine' enter ?k1 ?k2 ?k3 ?k4 ?k5 ?k6 ?k7 ?_ ?c2 ?c3 ?c4 ?c5; (case k1 => k_asm); (case k2 => k_asm); (case k3 => k_is); (case k4 => k_is); (case k5 => exact Nat.le_of_ble_eq_true rfl); (case k6 => exact BindsTo.of_eq rfl); (case k7 => exact locs rfl); (case c2 => exact rfl); (case c3 => exact rfl); (case c4 => exact rfl); (case c5 => decide); k_whole; intro h' F' N'; (try dsimp only); (try k_fold))
  iterate 9 walk1
  refine wpAny_For ?_
  iterate 8 walk1
  with_reducible rename Fr _ _ _ _ => F1
  with_reducible rename News _ _ _ _ => N1
  rename_i D _ _ H1
  refine range2_at (n := 7) rfl (by decide +kernel) (by decide +kernel) fun I h₂ tk₂ W H => ?_
  let Jv1 : Nat → (PySem.Str → Option Value) → List (Addr × Obj) → Prop := fun i m nx => ∃ us k, m (PySem.Str.ofString "sizes") = some (.ref D) ∧ m (PySem.Str.ofString "columns") = some (.ref lc) ∧ nx = [(D, listO us k)] ∧ IntsAre us (sizesN cols i)
  refine for_name (GFin s.gens) Jv1
    W H rfl rfl F1 N1 (GFin.refl _) ⟨[], 0, rfl, rfl, rfl, .nil⟩ ?turn ?done
  case done =>
    intro m₁ nx h g tk
    intro hz1
    (refine ex2 hz1 fun us k hz3 => ?_; refine and4 hz3 fun hms hmc hz2 hu => ?_; clear hz3)
    try clear hz1
    obtain rfl := hz2
    intro hg F N
    rw [upd_self hms] at F
    clear F1 N1 W H
    (try dsimp only)
    k_steps
    exact ret _ _ _ _ _ _ _ _ _ F N (.head _) hu hg
  case turn =>
    intro i m₁ nx h g tk own v hi7
    intro hz7
    (refine ex2 hz7 fun us k hz9 => ?_; refine and4 hz9 fun hms hmc hz8 hu => ?_; clear hz9)
    try clear hz7
    obtain rfl := hz8
    intro hg
    intro hz13
    (refine ex1 hz13 fun tv hz14 => ?_)
    try clear hz13
    obtain rfl := hz14
    intro F N hof
    rw [upd_self hms] at F
    rw [upd_self hmc] at F
    have hsep : ∀ q ∈ own, q.1 ≠ D := fun q hq e => by
      have q1 := H.new _ (hof q hq)
      have q2 := (N1 _ (.head _)).1
      rw [e, q2] at q1; cases q1
    clear F1 N1 W H hof
    iterate 5 walk1
    refine wpAny_For ?_
    iterate 8 walk1
    with_reducible rename Fr _ _ _ _ => F3
    with_reducible rename News _ _ _ _ => N3
    refine zip_sl rfl (by decide +kernel) (stays_list F3.keep hl) fun I3 fp wr St Mid eI W H hfl => ?_
    have hz15 : ∃ ch : Nat, ch < 8 ∧ (1 : Int) + (i : Nat) = (ch : Nat) := ⟨1 + i, by lia, by lia⟩
    (refine ex1 hz15 fun ch hz16 => ?_; refine and2 hz16 fun hch ech => ?_; clear hz16)
    try clear hz15
    rw [ech] at F3
    have ech' : i + 1 = ch := by lia
    refine for_pair rfl (fun g' => g' = g) (fun j m nx => ∃ tt, m (PySem.Str.ofString "text") = some (.str (txt (textN cols ch j)) tt) ∧ m (PySem.Str.ofString "choice") = some (.int (ch : Nat) tv) ∧ m (PySem.Str.ofString "sizes") = some (.ref D) ∧ m (PySem.Str.ofString "columns") = some (.ref lc) ∧ nx = (D, listO us k) :: own)
        W zpt2 H rfl rfl rfl F3 N3 rfl ⟨_, rfl, rfl, rfl, rfl, rfl⟩ ?turn2 ?done2
    case done2 =>
      intro m₁ nx h' g' tk'
      intro hz17
      (refine ex1 hz17 fun tt hz19 => ?_; refine and5 hz19 fun h1 h2 h3 h4 hz18 => ?_; clear hz19)
      try clear hz17
      obtain rfl := hz18
      rintro rfl
      intro F N
      have hvl : vs.length = cols.length := by have := hi.length; simpa using this
      have e7 : min (PySem.Str.ofString "abcdefg").cps.size vs.length = cols.length := by
        rw [hvl]; exact Nat.min_eq_right hlen
      rw [e7] at h1
      rw [upd_self h4] at F
      rw [upd_self h3] at F
      rw [upd_self h1] at F
      clear F3 N3 W H
      (try dsimp only)
      have hTl := textN_len cols ch cols.length
      iterate 26 walk1
      with_reducible rename (hd.heap_1 w.params).In s.heap => XB
      with_reducible rename Top _ _ _ _ _ s.heap => TB
      refine call_strip B XB TB F N (textN_mem cols ch _ hlen) (by lia) (textN_mdQ cols ch _) (fun h₅ tk₅ g₅ t₅ F5 N5 hg5 => ?_) rfl (Nat.le_of_ble_eq_true rfl) (Nat.le_of_ble_eq_true rfl)
      clear F N
      have hg5' : GFin s.gens g₅ := hg.trans hg5
      have hO : (outF false (textN cols ch cols.length)).length ≤ 1000000 := Nat.le_trans (outF_len _ _) (by lia)
      k_steps
      with_reducible rename Fr _ _ _ _ => F6
      with_reducible rename News _ _ _ _ => N6
      have hz : us.length ≤ sizeLine := by
        have h1 := hu.length
        rw [sizesN, List.length_map, List.length_range] at h1
        rw [h1, sizeLine_eq]; lia
      refine append_K (news' := (D, W.listOf (us.toArray.push _) (k + 1)) :: own) F6 N6 (.head hsep) (fun h₃ F₃ N₃ => ?_) (by rw [List.size_toArray]; exact hz)
      clear F6 N6
      k_steps
      with_reducible rename Fr _ _ _ _ => F9
      with_reducible rename News _ _ _ _ => N9
      rw [listOf_push] at N9
      refine fend (nx' := [(D, listO (us ++ [_]) (k + 1))]) hg5' F9 N9 (fun p hp => by rw [List.mem_singleton.mp hp]; exact .head _) (fun p hp => .tail _ hp) (fun p hp => .inl ⟨listO us k, by rw [List.mem_singleton.mp hp]; exact .head _⟩) ⟨_, _, rfl, rfl, rfl, ?_⟩
      rw [sizesN_succ]
      refine hu.append (ints_one ?_)
      unfold sizeN
      rw [ech', List.length_map]
    case turn2 =>
      intro j m₁ nx h' g' tk' own2 v0 v1 hj
      intro hz23
      (refine ex1 hz23 fun tt hz25 => ?_; refine and5 hz25 fun h1 h2 h3 h4 hz24 => ?_; clear hz25)
      try clear hz23
      obtain rfl := hz24
      rintro rfl
      intro hpt F N hof
      have hz29 := zpt_val hpt
      (refine ex2 hz29 fun c' u1 hz31 => ?_; refine and3 hz31 fun hc' hz30 hv1 => ?_; clear hz31)
      try clear hz29
      obtain rfl := hz30
      have hj7 : j < 7 := Nat.lt_of_lt_of_le hj (Nat.min_le_left _ _)
      have hjv : j < vs.length := Nat.lt_of_lt_of_le hj (Nat.min_le_right _ _)
      obtain rfl := abc_at hj7 hc'
      have hz34 : ∃ c tc, cols[j]? = some c ∧ v1 = .int (c : Nat) tc := by
        have hlt : j < cols.length := by have := hi.length; simp at this; lia
        obtain ⟨t, ht⟩ := hi.get j ((cols[j] : Nat) : Int) (by simp [hlt])
        rw [ht] at hv1
        exact ⟨cols[j], t, by simp [hlt], (Option.some.inj hv1).symm⟩
      (refine ex2 hz34 fun c tc hz36 => ?_; refine and2 hz36 fun hcc hz35 => ?_; clear hz36)
      try clear hz34
      obtain rfl := hz35
      have hc8' := hc8 c (List.mem_of_getElem? hcc)
      rw [upd_self h4] at F
      rw [upd_self h3] at F
      rw [upd_self h2] at F
      rw [upd_self h1] at F
      clear F3 N3 W H hpt
      (try k_fold)
      have hT := textN_len cols ch j
      have hP := popc_le (c &&& ch)
      k_steps
      with_reducible rename Fr _ _ _ _ => F5
      with_reducible rename News _ _ _ _ => N5
      rw [and_nat]
      obtain ⟨tp, hp⟩ := lit8 (n := c &&& ch) (Nat.and_lt_two_pow (n := 3) c hch)
      refine idx_list N5 (.head _) hp (Nat.lt_of_lt_of_le (Nat.and_lt_two_pow (n := 3) c hch) (by decide)) ?_
      refine mul_q hP fun t5 k5 => ?_
      (try dsimp only)
      k_steps
      with_reducible rename Fr _ _ _ _ => F9
      with_reducible rename News _ _ _ _ => N9
      have eT : textN cols ch (j + 1) = textN cols ch j ++ List.replicate (popc (c &&& ch)) 34 ++ [97 + j] ++ List.replicate (popc (c &&& ch)) 34 := by
        show (match cols[j]? with | some c => textN cols ch j ++ blk (popc (c &&& ch)) (97 + j) | none => textN cols ch j) = _
        rw [hcc]
        simp [blk]
      rw [← eT] at F9
      refine fend (nx' := (D, listO us k) :: own) rfl F9 N9 (fun p hp => .tail _ (List.mem_append_left _ hp)) (fun p hp => .tail _ (List.mem_append_right _ hp)) (fun p hp => .inl ⟨p.2, hp⟩) ⟨_, rfl, rfl, rfl, rfl, rfl⟩
theorem sizes_c (w : World) (p : Program) (loose : List PySem.Str) (mean : ExcName → Option Value) (mg mb : PySem.Str → Option Value) (outer : List Env) (base : Heap) (s : Shared) (R : Result → Shared → Prop) (lc : Addr) (vs : List Value) (cols : List Nat) (hl : s.heap.IsList lc vs.toArray) (hi : IntsAre vs (cols.map fun c : Nat => (c : Int))) (hlen : cols.length ≤ 7) (hc8 : ∀ c ∈ cols, c < 8) : Below (AT 330 60 outer) base outer s.heap → (hd.heap_1 w.params).In s.heap → Top p loose mean mg mb s.heap →
  (∀ L' m' news' h' tk' g' D us k, Fr s.heap L' h' m' → News s.heap L' h' news' → (D, listO us k) ∈ news' → IntsAre us (sizesN cols 7) → GFin s.gens g' → R (.ok (.ret (.ref D))) { s with heap := h', gens := g', toks := tk' }) →
  codeAny (model PySem.Challenge.rw_to0081_01.prog w) (AT 330 60 outer) (.call (.ref 271) ⟨[.ref lc], []⟩) R s := hil_ (Q := fun x => sizes_c.S x.1 x.2.1 x.2.2.1 x.2.2.2.1 x.2.2.2.2.1 x.2.2.2.2.2.1 x.2.2.2.2.2.2.1 x.2.2.2.2.2.2.2.1 x.2.2.2.2.2.2.2.2.1 x.2.2.2.2.2.2.2.2.2.1 x.2.2.2.2.2.2.2.2.2.2.1 x.2.2.2.2.2.2.2.2.2.2.2.1 x.2.2.2.2.2.2.2.2.2.2.2.2) (by with_unfolding_all exact sizes_c.core) (w, p, loose, mean, mg, mb, outer, base, s, R, lc, vs, cols) hl hi hlen hc8

end
section
-- hil-done: digs_c
-- macros2 -- macros3
local macro_rules | `(tactic| walk_at "eval Name") => `(tactic| (k_here; k_dflt (refine' nm_f (by k_asm) (by exact rfl) (by assumption) (by assumption) (by exact rfl) (by exact rfl) (by decide) (by decide) ?_; k_whole)))
/-- the sum of the digits L .. R - 1 to the base 2 ^ n -/
noncomputable def valD (ds : List Nat) (n : Nat) : Nat → Nat → Nat
  | _, 0 => 0
  | L, k + 1 => ds.getD L 0 + 2 ^ n * valD ds n (L + 1) k
theorem valD_split (ds : List Nat) (n : Nat) : ∀ (a b L : Nat), valD ds n L (a + b) = valD ds n L a + 2 ^ (a * n) * valD ds n (L + a) b
  | 0, b, L => by simp [valD]
  | a + 1, b, L => by
    rw [show a + 1 + b = (a + b) + 1 by lia]
    show ds.getD L 0 + 2 ^ n * valD ds n (L + 1) (a + b) = ds.getD L 0 + 2 ^ n * valD ds n (L + 1) a + _
    rw [valD_split ds n a b (L + 1), Nat.mul_add, ← Nat.add_assoc, ← Nat.mul_assoc, ← Nat.pow_add, show n + a * n = (a + 1) * n by rw [Nat.succ_mul]; lia, show L + 1 + a = L + (a + 1) by lia]
theorem valD_lt (ds : List Nat) (n : Nat) (hn : n ≤ 4) (hd : ∀ d ∈ ds, d < 256) : ∀ (k L : Nat), valD ds n L k < 2 ^ (8 + 5 * k)
  | 0, _ => by simp [valD]
  | k + 1, L => by
    have h := valD_lt ds n hn hd k (L + 1)
    have h1 : ds.getD L 0 < 256 := by
      unfold List.getD
      cases e : ds[L]? with
      | none => simp
      | some d => exact hd d (List.mem_of_getElem? e)
    have h2 : 2 ^ n ≤ 2 ^ 4 := Nat.pow_le_pow_right (by lia) hn
    have h3 : 2 ^ (8 + 5 * (k + 1)) = 2 ^ (8 + 5 * k) * 32 := by rw [show 8 + 5 * (k + 1) = (8 + 5 * k) + 5 by lia, Nat.pow_add]
    have h4 : 256 ≤ 2 ^ (8 + 5 * k) := by
      have := Nat.pow_le_pow_right (n := 2) (by lia) (show 8 ≤ 8 + 5 * k by lia)
      simpa using this
    have h5 : 2 ^ n * valD ds n (L + 1) k ≤ 16 * valD ds n (L + 1) k := Nat.mul_le_mul_right _ h2
    show ds.getD L 0 + 2 ^ n * valD ds n (L + 1) k < _
    rw [h3]
    exact Nat.lt_of_lt_of_le (Nat.add_lt_add_of_lt_of_le (Nat.lt_of_lt_of_le h1 h4) (Nat.le_trans h5 (Nat.mul_le_mul_left 16 (Nat.le_of_lt h)))) (by rw [Nat.mul_comm 16, Nat.add_comm, ← Nat.mul_succ]; exact Nat.mul_le_mul_left _ (by decide))
theorem valD_b (ds : List Nat) (n : Nat) (hn : n ≤ 4) (hd : ∀ d ∈ ds, d < 256) {k L : Nat} (hk : k ≤ 8) : ((valD ds n L k : Nat) : Int).natAbs < 2 ^ 64 := by
  have h := valD_lt ds n hn hd k L
  have h2 := Nat.pow_le_pow_right (n := 2) (by lia) (show 8 + 5 * k ≤ 48 from Nat.add_le_add_left (Nat.mul_le_mul_left 5 hk) 8)
  have h3 : (2 : Nat) ^ 48 < 2 ^ 64 := by decide
  rw [Int.natAbs_natCast]; exact Nat.lt_of_lt_of_le h (Nat.le_trans h2 (Nat.le_of_lt h3))
set_option maxHeartbeats 2000000
noncomputable def digs_c.S (w : World) (p : Program) (loose : List PySem.Str) (mean : ExcName → Option Value) (mg : PySem.Str → Option Value) (mb : PySem.Str → Option Value) (outer : List Env) (base : Heap) (s : Shared) (R : Result → Shared → Prop) (g : Heap) (dl : Addr) (vs : List Value) (ds : List Nat) (n : Nat) (tn : Tok) (ps : Array Value) : Prop := ∀ (hl : s.heap.IsList dl vs.toArray) (hi : IntsAre vs (ds.map fun c : Nat => (c : Int))) (h8 : ds.length ≤ 8) (h0 : 0 < ds.length) (hn : n ≤ 4) (hdd : ∀ d ∈ ds, d < 256) (hk : ∀ b o, g.get? b = some o → s.heap.get? b = some o) (hg : g.get? 61 = none) (h61 : s.heap.get? 61 = some (tabObj ps)) (hps : ps = #[] ∨ ∃ c', ps = #[rawInt 51, rawInt 4, .ref c'] ∧ s.heap.CodeRec (.ref c') (PySem.Str.ofString "_digits2int.<locals>.inner") ∧ c' ≠ 61), Below (AT 336 100 outer) base outer g → (hd.heap_1 w.params).In g → Top p loose mean mg mb g →
  (∀ h' tk' t' c', (∀ b o, b ≠ 61 → s.heap.get? b = some o → h'.get? b = some o) → h'.get? 61 = some (tabObj #[rawInt 51, rawInt 4, .ref c']) → h'.CodeRec (.ref c') (PySem.Str.ofString "_digits2int.<locals>.inner") → c' ≠ 61 → R (.ok (.ret (.int (valD ds n 0 ds.length : Nat) t'))) { s with heap := h', toks := tk' }) →
  codeAny (model PySem.Challenge.rw_to0081_01.prog w) (AT 336 100 outer) (.call (.ref 66) ⟨[.ref dl, .int (n : Nat) tn], []⟩) R s
noncomputable def digs_c.e : World × Program × (List PySem.Str) × (ExcName → Option Value) × (PySem.Str → Option Value) × (PySem.Str → Option Value) × (List Env) × Heap × Shared × (Result → Shared → Prop) × Heap × Addr × (List Value) × (List Nat) × Nat × Tok × (Array Value) := haveI := ne_w; haveI := ne_s; haveI := ne_a; haveI := ne_g; Classical.epsilon fun x => ¬ digs_c.S x.1 x.2.1 x.2.2.1 x.2.2.2.1 x.2.2.2.2.1 x.2.2.2.2.2.1 x.2.2.2.2.2.2.1 x.2.2.2.2.2.2.2.1 x.2.2.2.2.2.2.2.2.1 x.2.2.2.2.2.2.2.2.2.1 x.2.2.2.2.2.2.2.2.2.2.1 x.2.2.2.2.2.2.2.2.2.2.2.1 x.2.2.2.2.2.2.2.2.2.2.2.2.1 x.2.2.2.2.2.2.2.2.2.2.2.2.2.1 x.2.2.2.2.2.2.2.2.2.2.2.2.2.2.1 x.2.2.2.2.2.2.2.2.2.2.2.2.2.2.2.1 x.2.2.2.2.2.2.2.2.2.2.2.2.2.2.2.2
@[irreducible] noncomputable def digs_c.w : World := digs_c.e.1
@[irreducible] noncomputable def digs_c.p : Program := digs_c.e.2.1
@[irreducible] noncomputable def digs_c.loose : List PySem.Str := digs_c.e.2.2.1
@[irreducible] noncomputable def digs_c.mean : ExcName → Option Value := digs_c.e.2.2.2.1
@[irreducible] noncomputable def digs_c.mg : PySem.Str → Option Value := digs_c.e.2.2.2.2.1
@[irreducible] noncomputable def digs_c.mb : PySem.Str → Option Value := digs_c.e.2.2.2.2.2.1
@[irreducible] noncomputable def digs_c.outer : List Env := digs_c.e.2.2.2.2.2.2.1
@[irreducible] noncomputable def digs_c.base : Heap := digs_c.e.2.2.2.2.2.2.2.1
@[irreducible] noncomputable def digs_c.s : Shared := digs_c.e.2.2.2.2.2.2.2.2.1
@[irreducible] noncomputable def digs_c.R : Result → Shared → Prop := digs_c.e.2.2.2.2.2.2.2.2.2.1
@[irreducible] noncomputable def digs_c.g : Heap := digs_c.e.2.2.2.2.2.2.2.2.2.2.1
@[irreducible] noncomputable def digs_c.dl : Addr := digs_c.e.2.2.2.2.2.2.2.2.2.2.2.1
@[irreducible] noncomputable def digs_c.vs : List Value := digs_c.e.2.2.2.2.2.2.2.2.2.2.2.2.1
@[irreducible] noncomputable def digs_c.ds : List Nat := digs_c.e.2.2.2.2.2.2.2.2.2.2.2.2.2.1
@[irreducible] noncomputable def digs_c.n : Nat := digs_c.e.2.2.2.2.2.2.2.2.2.2.2.2.2.2.1
@[irreducible] noncomputable def digs_c.tn : Tok := digs_c.e.2.2.2.2.2.2.2.2.2.2.2.2.2.2.2.1
@[irreducible] noncomputable def digs_c.ps : Array Value := digs_c.e.2.2.2.2.2.2.2.2.2.2.2.2.2.2.2.2
theorem digs_c.core : digs_c.S digs_c.w digs_c.p digs_c.loose digs_c.mean digs_c.mg digs_c.mb digs_c.outer digs_c.base digs_c.s digs_c.R digs_c.g digs_c.dl digs_c.vs digs_c.ds digs_c.n digs_c.tn digs_c.ps := by
  delta digs_c.S
  intro hl hi h8 h0 hn hdd hk hg h61 hps
  k_fill
  intro B0 X0 T0 ret
  have X1 := X0.keeps hk
  have T1 := T0.keeps hk
  have ho : ∀ p ∈ [(61, tabObj ps)], s.heap.get? p.1 = some p.2 := fun p hp => by rw [List.mem_singleton.mp hp]; exact h61
  have hup : ∀ b o, g.get? b = some o → (hideAll s.heap ([(61, tabObj ps)].map (·.1))).get? b = some o := hide_up hk fun a ha => by
    rw [List.mem_singleton.mp ha]; exact hg
  have B := below_keeps B0 hup
  have X := X0.keeps hup
  have T := T0.keeps hup
  k_dflt (refine' enterC ?k1 ?k2 ?k3 ?k4 ?k5 ?k6 ?k7 ?kn ?_ ?c2 ?c3 ?c4; (case k1 => exact X1); (case k2 => exact T1); (case k3 => k_is); (case k4 => k_is); (case k5 => exact Nat.le_of_ble_eq_true rfl); (case k6 => exact BindsTo.of_eq rfl); (case k7 => exact rfl); (case kn => decide +kernel); (case c2 => exact rfl); (case c3 => exact rfl); (case c4 => exact rfl); k_whole)
  intro h' tk' cells F0 N0 hC
  have hz1 : ∃ o1 o2 o3, cells = [(s.heap.objs.size + 3, o3), (s.heap.objs.size + 2, o2), (s.heap.objs.size + 1, o1)] ∧ o1.data = .cell (some (.ref dl)) ∧ o2.data = .cell (some (.int (n : Nat) tn)) ∧ o3.data = .cell none := by
    cases hC with | cons h3 r => cases r with | cons h2 r => cases r with | cons h1 r => cases r with | nil => exact ⟨_, _, _, rfl, h1, h2, h3⟩
  (refine ex3 hz1 fun o1 o2 o3 hz5 => ?_; refine and4 hz5 fun hz2 d1 d2 d3 => ?_; clear hz5)
  try clear hz1
  obtain rfl := hz2
  clear hC
  have F' := hide_fr (as := [(61, tabObj ps)].map (·.1)) F0
  have hlt61 : (61 : Nat) < s.heap.objs.size := Heap.lt_size h61
  have N' : News (hideAll s.heap ([(61, tabObj ps)].map (·.1))) s.heap.objs.size h' [(61, tabObj ps), (s.heap.objs.size + 3, o3), (s.heap.objs.size + 2, o2), (s.heap.objs.size + 1, o1)] := fun q hq => by
    rcases List.mem_cons.mp hq with rfl | hq
    · exact hide_news ho F0 _ (.head _)
    · have z := N0 q hq
      exact ⟨z.1, z.2.1, by
        cases e : (hideAll s.heap ([(61, tabObj ps)].map (·.1))).get? q.1 with
        | none => rfl
        | some o' => have := of_hideAll _ e; rw [z.2.2] at this; cases this⟩
  have hsep : ∀ q ∈ [(s.heap.objs.size + 3, o3), (s.heap.objs.size + 2, o2), (s.heap.objs.size + 1, o1)], q.1 ≠ 61 := fun q hq e => by
    simp only [List.mem_cons, List.not_mem_nil, or_false] at hq
    rcases hq with rfl | rfl | rfl <;> simp only at e <;> lia
  have C : CodeHd (hideAll s.heap ([(61, tabObj ps)].map (·.1))) 65 61 := codeHd_of_K X (by kernel_rfl)
  have hps' : ps = #[] ∨ ∃ c', ps = #[rawInt 51, rawInt 4, .ref c'] ∧ (hideAll s.heap ([(61, tabObj ps)].map (·.1))).CodeRec (.ref c') (PySem.Str.ofString "_digits2int.<locals>.inner") := by
    rcases hps with e | ⟨c', e, ⟨c2, oc, ws, t, e2, e3, e4⟩, hne⟩
    · exact .inl e
    · cases e2
      exact .inr ⟨c', e, c', oc, ws, t, rfl, hideAll_get _ e3 (fun q => hne (List.mem_singleton.mp q)), e4⟩
  have hlG : (hideAll s.heap ([(61, tabObj ps)].map (·.1))).IsList dl vs.toArray := by
    (refine ex1 hl fun o hz8 => ?_; refine and2 hz8 fun e r => ?_; clear hz8)
    try clear hl
    exact ⟨o, hideAll_get _ e (fun q => by
      rw [List.mem_singleton.mp q, h61] at e
      rw [← Option.some.inj e] at r
      cases r.1), r⟩
  generalize hG : hideAll s.heap ([(61, tabObj ps)].map (·.1)) = G at *
  clear F0 N0 X1 T1 X0 T0 B0 hup ho hps
  iterate 1 walk1
  refine nestDef_K rfl rfl rfl ?_
  refine nest_both F' N' T C rfl hsep hps' rfl (fun _ => rfl) fun f c' ctv doc h2 tk2 ex F2 N2 hrec hne hex => ?_
  clear F' N' hps'
  have hz9 := name_obj N2
  (refine ex1 hz9 fun O hz10 => ?_; refine and2 hz10 fun hO N2 => ?_; clear hz10)
  try clear hz9
  have hf3 : f ≠ s.heap.objs.size + 3 := fun e => by
    have z1 := (N2 _ (.head _)).1
    have z2 := (N2 _ (.tail _ (.tail _ (.head _)))).1
    dsimp only at z1 z2
    rw [e, z2] at z1
    have z3 := Option.some.inj z1
    rw [z3, hO] at d3
    cases d3
  have N3 : News G s.heap.objs.size h2 ((s.heap.objs.size + 3, o3) :: (s.heap.objs.size + 2, o2) :: (s.heap.objs.size + 1, o1) :: (f, O) :: (61, tabObj #[rawInt 51, rawInt 4, .ref c']) :: ex) := news_sub N2 (by repeat' (first | refine List.forall_mem_cons.mpr ⟨?_, ?_⟩ | exact fun _ h => absurd h List.not_mem_nil | exact List.Mem.head _ | refine List.Mem.tail _ ?_ | exact fun _ h => by repeat' (first | exact h | exact List.mem_append_right _ h | refine List.Mem.tail _ ?_)))
  have hx3 : ∀ q ∈ ex, q.1 ≠ s.heap.objs.size + 3 := fun q hq e => (hex q hq).2 _ (.head _) e.symm
  clear N2
  refine storeX_C F2 N3 rfl (.head fun q hq => ?hq) d3 fun h3 o4 F3 N4 d4 => ?_
  case hq =>
    simp only [List.mem_cons] at hq
    rcases hq with h | h | h | h | h
    · subst h; simp
    · subst h; simp
    · subst h; exact hf3
    · subst h; exact fun e => absurd (show (61 : Nat) = s.heap.objs.size + 3 from e) (ne_s2 hlt61 3)
    · exact hx3 q h
  clear F2 d3 N3 hx3 hf3 hsep
  dsimp only at N4 ⊢
  have hrec' := hrec h3 F3.keep (fun q hq => (N4 q (.tail _ (.tail _ (.tail _ (.tail _ (.tail _ hq)))))).1)
  have H61 := (N4 _ (.tail _ (.tail _ (.tail _ (.tail _ (.head _)))))).1
  have Hf := (N4 _ (.tail _ (.tail _ (.tail _ (.head _))))).1
  have H1 := (N4 _ (.tail _ (.tail _ (.head _)))).1
  have H2 := (N4 _ (.tail _ (.head _))).1
  have H3 := (N4 _ (.head _)).1
  dsimp only at H61 Hf H1 H2 H3
  have HlG : h3.IsList dl vs.toArray := by
    (refine ex1 hlG fun o hz11 => ?_; refine and2 hz11 fun e r => ?_; clear hz11)
    try clear hlG
    exact ⟨o, F3.keep _ _ e, r⟩
  have X3 := X.keeps F3.keep
  have T3 := T.keeps F3.keep
  have key : ∀ k, k ≤ 8 → ∀ (outer' : List Env) (s' : Shared) (R' : Result → Shared → Prop) (L j : Nat) (tL tj : Tok), L < j → j ≤ ds.length → j - L = k → (∀ b o, h3.get? b = some o → s'.heap.get? b = some o) → Below (AT (350 - k) (150 - 5 * k) outer') base outer' s'.heap →
      (∀ L' m' news' h' tk' t', Fr s'.heap L' h' m' → News s'.heap L' h' news' → R' (.ok (.ret (.int (valD ds n L (j - L) : Nat) t'))) { s' with heap := h', toks := tk' }) →
      codeAny (model PySem.Challenge.rw_to0081_01.prog w) (AT (350 - k) (150 - 5 * k) outer') (.call (.ref f) ⟨[.int (L : Nat) tL, .int (j : Nat) tj], []⟩) R' s' := by
    clear F3 N4 hrec C hlG X T B ret
    intro k
    induction k using Nat.strongRecOn with
    | _ k ih =>
      intro hk8 outer' s' R' L j tL tj hLj hjd hjk hup B ret
      have X := X3.keeps hup
      have T := T3.keeps hup
      have H1' := hup _ _ H1
      have H2' := hup _ _ H2
      have H3' := hup _ _ H3
      have hl' : s'.heap.IsList dl vs.toArray := by
        (refine ex1 HlG fun o hz12 => ?_; refine and2 hz12 fun e r => ?_; clear hz12)
        try clear HlG
        exact ⟨o, hup _ _ e, r⟩
      have hrec2 : s'.heap.CodeRec (.ref c') _ := let ⟨a1, a2, a3, a4, a5, a6, a7⟩ := hrec'; ⟨a1, a2, a3, a4, a5, hup _ _ a6, a7⟩
      have Hf' := hup _ _ Hf
      have rc : ∀ (E1 : Env) (a b : Nat) (ta tb : Tok) (s2 : Shared) (m2 : PySem.Str → Option Value) (Q : Value → Shared → Prop), E1.frame = some s'.heap.objs.size → E1.scope.kind = .function → a < b → b ≤ ds.length → b - a < k → Fr s'.heap s'.heap.objs.size s2.heap m2 →
          (∀ h' tk' t', Fr s'.heap s'.heap.objs.size h' m2 → Q (.int (valD ds n a (b - a) : Nat) t') { s2 with heap := h', toks := tk' }) →
          wpAny (model PySem.Challenge.rw_to0081_01.prog w) ((AT (350 - k) (150 - 5 * k) outer').deeper E1) (call (.ref f) [.int (a : Nat) ta, .int (b : Nat) tb]) Q (fun _ _ => False) s2 := by
        intro E1 a b ta tb s2 m2 Q hE1 hE2 hab hbd hlt F hQ
        refine wpAny_call ?_
        have B' := pushX B F hE1 hE2
        refine below_le (d := 350 - (b - a)) (u := 150 - 5 * (b - a)) (outer := E1 :: outer') ?_ rfl ?_ ?_ B'.stack
        · exact ih (b - a) hlt (Nat.le_trans (Nat.le_of_lt hlt) hk8) (E1 :: outer') s2 _ a b ta tb hab hbd rfl (fun x o e => F.keep x o (hup x o e)) ⟨rfl, B'.stays, B'.frames⟩ fun L' m' news' h' tk' t' F' N' => hQ h' tk' t' (F.keeps F'.keep)
        · exact d350 hlt hk8
        · exact d150 hlt hk8
      rw [hO] at Hf'
      refine enterX T Hf' hrec2 ?hroom (BindsTo.of_eq rfl) (locs rfl) (fun h₁ F N => ?_) rfl rfl rfl (by decide)
      case hroom => exact Nat.lt_of_le_of_lt (Nat.sub_le 350 k) (Nat.le_of_ble_eq_true rfl)
      k_steps
      · with_reducible rename Fr _ _ _ _ => F5
        with_reducible rename News _ _ _ _ => N5
        with_reducible rename ((_ : Int) = _) => e5
        have ej := succ_cast e5
        have ev : ((ds.map fun c : Nat => (c : Int)).getD ((L : Nat) : Int).toNat 0) = ((valD ds n L (j - L) : Nat) : Int) := by
          rw [ej, show L + 1 - L = 1 from Nat.add_sub_cancel_left L 1]
          have hlt : L < ds.length := Nat.lt_of_lt_of_le hLj hjd
          simp [valD, List.getD, hlt]
        rw [ev]
        exact ret _ _ _ _ _ _ F5 N5
      · with_reducible rename Fr _ _ _ _ => F5
        with_reducible rename News _ _ _ _ => N5
        with_reducible rename ((_ : Int) ≠ _) => e5
        have hz13 : ∃ M : Nat, L < M ∧ M < j ∧ ((L : Int) + (j : Int)).fdiv (2 ^ Int.toNat 1) = (M : Int) := by
          refine ⟨(L + j) / 2, (mid_at hLj e5).1, (mid_at hLj e5).2.1, ?_⟩
          rw [Int.fdiv_eq_ediv_of_nonneg _ (by decide)]
          have : (2 : Int) ^ Int.toNat 1 = 2 := by decide
          rw [this]; exact (mid_at hLj e5).2.2
        (refine ex1 hz13 fun M hz15 => ?_; refine and3 hz15 fun hM1 hM2 em => ?_; clear hz15)
        try clear hz13
        have es : ((M : Int) - (L : Int)) * (n : Int) = (((M - L) * n : Nat) : Int) := by
          rw [Int.natCast_mul, Int.ofNat_sub (Nat.le_of_lt hM1)]
        rw [em, es] at F5
        refine callWith_F ⟨_, _, _, _, F5.keep _ _ Hf'⟩ ?_
        iterate 5 walk1
        with_reducible rename Fr _ _ _ _ => F6
        refine ⟨⟨_, _, _, _, F6.keep _ _ Hf'⟩, rc _ M j _ _ _ _ _ rfl rfl hM2 hjd (hi_k hjk hM1 hM2) F6 fun h6 tk6 t6 F7 => ?_⟩
        have N7 : News s'.heap s'.heap.objs.size h6 [] := News.nil
        clear F6
        have hvb := valD_b ds n hn hdd (k := j - M) (L := M) (Nat.le_trans (Nat.sub_le j M) (Nat.le_trans hjd h8))
        have hsh : (((M - L) * n : Nat) : Int) ≤ 1000000 := by
          have : (M - L) * n ≤ 8 * 4 := Nat.mul_le_mul (Nat.le_trans (Nat.sub_le M L) (Nat.le_trans (Nat.le_of_lt hM2) (Nat.le_trans hjd h8))) hn
          exact Int.ofNat_le.mpr (Nat.le_trans this (by decide))
        iterate 4 walk1
        refine callWith_F ⟨_, _, _, _, F7.keep _ _ Hf'⟩ ?_
        iterate 5 walk1
        with_reducible rename Fr _ _ _ _ => F8
        refine ⟨⟨_, _, _, _, F8.keep _ _ Hf'⟩, rc _ L M _ _ _ _ _ rfl rfl hM1 (Nat.le_trans (Nat.le_of_lt hM2) hjd) (lo_k hjk hM1 hM2) F8 fun h9 tk9 t9 F9 => ?_⟩
        have N9 : News s'.heap s'.heap.objs.size h9 [] := News.nil
        clear F8
        k_steps
        have ev : ((valD ds n M (j - M) : Nat) : Int) * 2 ^ (((M - L) * n : Nat) : Int).toNat + ((valD ds n L (M - L) : Nat) : Int) = ((valD ds n L (j - L) : Nat) : Int) := by
          have h := valD_split ds n (M - L) (j - M) L
          rw [mid_sum hM1 (Nat.le_of_lt hM2), Nat.add_sub_cancel' (Nat.le_of_lt hM1)] at h
          rw [h, Int.toNat_natCast]
          push_cast
          rw [Int.mul_comm, Int.add_comm]
        rw [ev]
        exact ret _ _ _ _ _ _ F9 N9
  iterate 7 walk1
  case refine_2 => rename_i hb; exact absurd (by rw [List.length_map]; exact h0) hb
  iterate 2 walk1
  with_reducible rename Fr _ _ _ _ => F5
  with_reducible rename News _ _ _ _ => N5
  refine callWith_F ⟨_, _, _, _, hO ▸ Hf⟩ ?_
  iterate 11 walk1
  refine ⟨⟨_, _, _, _, hO ▸ Hf⟩, wpAny_call ?_⟩
  rw [List.length_map]
  refine below_le (d := 350 - ds.length) (u := 150 - 5 * ds.length) ?_ rfl ?_ ?_ (Around.frames_deeper B.stack)
  · refine key ds.length h8 _ _ _ 0 ds.length _ _ h0 (Nat.le_refl _) (Nat.sub_zero _) (fun _ _ e => e) (below_next B F5 rfl rfl) fun L' m' news' h' tk' t' F' N' => ?_
    refine ret h' tk' t' c' (fun b o hb e => F'.keep _ _ (F5.keep _ _ (hG ▸ hideAll_get _ e (fun q => hb (List.mem_singleton.mp q))))) (F'.keep _ _ H61) ?_ hne
    exact let ⟨a1, a2, a3, a4, a5, a6, a7⟩ := hrec'; ⟨a1, a2, a3, a4, a5, F'.keep _ _ a6, a7⟩
  · exact d337 h8
  · exact d103 h8
theorem digs_c (w : World) (p : Program) (loose : List PySem.Str) (mean : ExcName → Option Value) (mg mb : PySem.Str → Option Value) (outer : List Env) (base : Heap) (s : Shared) (R : Result → Shared → Prop) (g : Heap) (dl : Addr) (vs : List Value) (ds : List Nat) (n : Nat) (tn : Tok) (ps : Array Value) (hl : s.heap.IsList dl vs.toArray) (hi : IntsAre vs (ds.map fun c : Nat => (c : Int))) (h8 : ds.length ≤ 8) (h0 : 0 < ds.length) (hn : n ≤ 4) (hdd : ∀ d ∈ ds, d < 256) (hk : ∀ b o, g.get? b = some o → s.heap.get? b = some o) (hg : g.get? 61 = none) (h61 : s.heap.get? 61 = some (tabObj ps)) (hps : ps = #[] ∨ ∃ c', ps = #[rawInt 51, rawInt 4, .ref c'] ∧ s.heap.CodeRec (.ref c') (PySem.Str.ofString "_digits2int.<locals>.inner") ∧ c' ≠ 61) : Below (AT 336 100 outer) base outer g → (hd.heap_1 w.params).In g → Top p loose mean mg mb g →
  (∀ h' tk' t' c', (∀ b o, b ≠ 61 → s.heap.get? b = some o → h'.get? b = some o) → h'.get? 61 = some (tabObj #[rawInt 51, rawInt 4, .ref c']) → h'.CodeRec (.ref c') (PySem.Str.ofString "_digits2int.<locals>.inner") → c' ≠ 61 → R (.ok (.ret (.int (valD ds n 0 ds.length : Nat) t'))) { s with heap := h', toks := tk' }) →
  codeAny (model PySem.Challenge.rw_to0081_01.prog w) (AT 336 100 outer) (.call (.ref 66) ⟨[.ref dl, .int (n : Nat) tn], []⟩) R s := hil_ (Q := fun x => digs_c.S x.1 x.2.1 x.2.2.1 x.2.2.2.1 x.2.2.2.2.1 x.2.2.2.2.2.1 x.2.2.2.2.2.2.1 x.2.2.2.2.2.2.2.1 x.2.2.2.2.2.2.2.2.1 x.2.2.2.2.2.2.2.2.2.1 x.2.2.2.2.2.2.2.2.2.2.1 x.2.2.2.2.2.2.2.2.2.2.2.1 x.2.2.2.2.2.2.2.2.2.2.2.2.1 x.2.2.2.2.2.2.2.2.2.2.2.2.2.1 x.2.2.2.2.2.2.2.2.2.2.2.2.2.2.1 x.2.2.2.2.2.2.2.2.2.2.2.2.2.2.2.1 x.2.2.2.2.2.2.2.2.2.2.2.2.2.2.2.2) (by with_unfolding_all exact digs_c.core) (w, p, loose, mean, mg, mb, outer, base, s, R, g, dl, vs, ds, n, tn, ps) hl hi h8 h0 hn hdd hk hg h61 hps

end
section
-- hil-done: mend_c
-- macros2 -- macros3
local macro_rules | `(tactic| walk_at "binaryOp Mult str int") => `(tactic| (k_here; (with_reducible show wpAny _ _ (binaryOp Operator.Mult (Value.str _ _) (Value.int (Nat.cast _) _)) _ _ _); (refine mul_q7 (by first | assumption | omega) ?_); intro _ _; (try dsimp only)))
local macro_rules | `(tactic| walk_at "compareOp NotIn str str") => `(tactic| (k_here; (with_reducible show wpAny _ _ (compareOp CmpOp.NotIn (Value.str (one _) _) (Value.str (txt _) _)) _ _ _); (refine notIn_one ?_); (try dsimp only)))
local macro_rules | `(tactic| walk_at "compareOp In str str") => `(tactic| (k_here; (with_reducible show wpAny _ _ (compareOp CmpOp.In (Value.str (one _) _) (Value.str (txt _) _)) _ _ _); (refine in_one ?_); (try dsimp only)))
set_option maxHeartbeats 2000000
section
variable {w : World} {p : Program} {loose : List PySem.Str} {mean : ExcName → Option Value} {mg mb : PySem.Str → Option Value} {A : Around} {outer : List Env} {base G : Heap} {s : Shared} {Q E : Value → Shared → Prop} {L : Addr} {m : PySem.Str → Option Value} {news : List (Addr × Obj)} {E1 : Env}
theorem callE_strip {x : List Nat} {tx : Tok} (B : Below A base outer G) (X : (hd.heap_1 w.params).In G) (T : Top p loose mean mg mb G) (F : Fr G L s.heap m) (N : News G L s.heap news) (hx : ∀ c ∈ x, c < 128 ∧ c ≠ 92) (hlen : x.length ≤ 900) (hq : mdQ false x = false)
    (h : ∀ h' tk' g' t', Fr G L h' m → News G L h' news → GFin s.gens g' → Q (.str (txt (outF false x)) t') { s with heap := h', gens := g', toks := tk' })
    (h0 : A.handled = none) (h1 : A.depth ≤ 333) (h2 : A.units ≤ 87) (hf : E1.frame = some L := by rfl) (hkd : E1.scope.kind = .function := by rfl) :
    wpAny (model PySem.Challenge.rw_to0081_01.prog w) (A.deeper E1) (call (.ref 94) [.str (txt x) tx]) Q E s := by
  refine wpAny_call ?_
  refine below_le (d := 334) (u := 90) (outer := E1 :: outer) ?_ h0 ?_ ?_ (Around.frames_deeper B.stack)
  · exact strip_c w p loose mean mg mb (E1 :: outer) base s _ x tx hx hlen hq (below_next B F hf hkd) (X.keeps F.keep) (T.keeps F.keep) fun L' m' news' h' tk' g' t' F' N' hg => h h' tk' g' t' (F.keeps F'.keep) (N.grown F'.keep) hg
  · exact Nat.succ_le_succ h1
  · exact Nat.le_trans (Nat.add_le_add_right h2 3) (by decide)
theorem below_hideE {as : List Addr} {h : Heap} {d u : Nat} (B : Below A base outer G) (F : Fr G L h m) (hg : ∀ a ∈ as, G.get? a = none) (hL : L ∉ as) (hf : E1.frame = some L) (hk : E1.scope.kind = .function) :
    Below (AT d u (E1 :: outer)) base (E1 :: outer) (hideAll h as) := let B' := pushX B (fr_hide F hg hL) hf hk; ⟨rfl, B'.stays, B'.frames⟩
theorem callE_get {x d l : Addr} {u : Tok} {ts : List Value} {k : Nat} {rows : List (Nat × List Nat)} {c : Nat} {tn : Tok} (B : Below A base outer G) (X : (hd.heap_1 w.params).In G) (T : Top p loose mean mg mb G) (F : Fr G L s.heap m) (N : News G L s.heap news)
    (hm : ∀ p ∈ hdr w x d l u ts k, p ∈ news) (hr : HS s.heap ts rows) (hrl : rows.length ≤ 8) (hrn : ∀ r ∈ rows, r.1 < 8) (hc : c < 8)
    (h : ∀ h' tk' v, Fr G L h' m → News G L h' news → Got rows c v → Q v { s with heap := h', toks := tk' })
    (h0 : A.handled = none) (h1 : A.depth ≤ 335) (h2 : A.units ≤ 90) (hf : E1.frame = some L := by rfl) (hkd : E1.scope.kind = .function := by rfl) :
    wpAny (model PySem.Challenge.rw_to0081_01.prog w) (A.deeper E1) (call (.ref 188) [.ref x, .str (one (48 + c)) tn]) Q E s := by
  refine wpAny_call ?_
  have hz1 : ∃ as : List Addr, as = (hdr w x d l u ts k).map (·.1) := ⟨_, rfl⟩
  (refine ex1 hz1 fun as has => ?_)
  try clear hz1
  have hmem : ∀ q ∈ hdr w x d l u ts k, q.1 ∈ as := fun q hq => has ▸ List.mem_map_of_mem hq
  have hg : ∀ b ∈ as, G.get? b = none := fun b hb => by
    subst has
    have hz2 := List.mem_map.mp hb
    (refine ex1 hz2 fun q hz4 => ?_; refine and2 hz4 fun hq hz3 => ?_; clear hz4)
    try clear hz2
    obtain rfl := hz3
    exact (N q (hm q hq)).2.2
  have hL : L ∉ as := fun hb => by
    subst has
    have hz5 := List.mem_map.mp hb
    (refine ex1 hz5 fun q hz6 => ?_; refine and2 hz6 fun hq e => ?_; clear hz6)
    try clear hz5
    exact (N q (hm q hq)).2.1 e
  have hup : ∀ b o, G.get? b = some o → (hideAll s.heap as).get? b = some o := hide_up F.keep hg
  have B' : Below (AT 336 100 (E1 :: outer)) base (E1 :: outer) (hideAll s.heap as) := below_hideE B F hg hL hf hkd
  have X' := X.keeps hup
  have T' := T.keeps hup
  generalize hG' : hideAll s.heap as = G' at *
  have hk1 : ∀ b o, G'.get? b = some o → s.heap.get? b = some o := fun b o e => by rw [← hG'] at e; exact of_hideAll _ e
  have hk2 : ∀ q ∈ hdr w x d l u ts k, G'.get? q.1 = none := fun q hq => by rw [← hG']; exact hideAll_none _ (hmem q hq)
  clear hup hg hL
  refine below_le (d := 336) (u := 100) (outer := E1 :: outer) ?_ h0 ?_ ?_ (Around.frames_deeper B.stack)
  · exact get_c w p loose mean mg mb (E1 :: outer) base s _ G' x d l u ts k rows c tn hc hk1 hk2 (fun q hq => (N q (hm q hq)).1) hr hrl hrn B' X' T' fun L' m' h' tk' v F' hv => h h' tk' v (F.keeps F'.keep) (N.grown F'.keep) hv
  · exact Nat.succ_le_succ h1
  · exact Nat.le_trans (Nat.add_le_add_right h2 3) (by decide)
theorem callE_digs {dl : Addr} {vs : List Value} {ds : List Nat} {n : Nat} {tn : Tok} {ps : Array Value} (B : Below A base outer G) (X : (hd.heap_1 w.params).In G) (T : Top p loose mean mg mb G) (F : Fr G L s.heap m) (N : News G L s.heap ((61, tabObj ps) :: news)) (hsep : ∀ q ∈ news, q.1 ≠ 61)
    (hl : s.heap.IsList dl vs.toArray) (hi : IntsAre vs (ds.map fun c : Nat => (c : Int))) (h8 : ds.length ≤ 8) (h0' : 0 < ds.length) (hn : n ≤ 4) (hdd : ∀ d ∈ ds, d < 256)
    (hps : ps = #[] ∨ ∃ c', ps = #[rawInt 51, rawInt 4, .ref c'] ∧ s.heap.CodeRec (.ref c') (PySem.Str.ofString "_digits2int.<locals>.inner") ∧ c' ≠ 61)
    (h : ∀ h' tk' t' c', Fr G L h' m → News G L h' ((61, tabObj #[rawInt 51, rawInt 4, .ref c']) :: news) → (∀ b o, b ≠ 61 → s.heap.get? b = some o → h'.get? b = some o) → h'.CodeRec (.ref c') (PySem.Str.ofString "_digits2int.<locals>.inner") → c' ≠ 61 → Q (.int (valD ds n 0 ds.length : Nat) t') { s with heap := h', toks := tk' })
    (h0 : A.handled = none) (h1 : A.depth ≤ 335) (h2 : A.units ≤ 90) (hf : E1.frame = some L := by rfl) (hkd : E1.scope.kind = .function := by rfl) :
    wpAny (model PySem.Challenge.rw_to0081_01.prog w) (A.deeper E1) (call (.ref 66) [.ref dl, .int (n : Nat) tn]) Q E s := by
  refine wpAny_call ?_
  have n61 := N _ (.head _)
  have hg : ∀ b ∈ [(61 : Addr)], G.get? b = none := fun b hb => by rw [List.mem_singleton.mp hb]; exact n61.2.2
  have hL : L ∉ [(61 : Addr)] := fun hb => n61.2.1 (List.mem_singleton.mp hb).symm
  have hup : ∀ b o, G.get? b = some o → (hideAll s.heap [61]).get? b = some o := hide_up F.keep hg
  have B' : Below (AT 336 100 (E1 :: outer)) base (E1 :: outer) (hideAll s.heap [61]) := below_hideE B F hg hL hf hkd
  refine below_le (d := 336) (u := 100) (outer := E1 :: outer) ?_ h0 ?_ ?_ (Around.frames_deeper B.stack)
  · refine digs_c w p loose mean mg mb (E1 :: outer) base s _ (hideAll s.heap [61]) dl vs ds n tn ps hl hi h8 h0' hn hdd (fun b o e => of_hideAll _ e) (hideAll_none _ (.head _)) n61.1 hps B' (X.keeps hup) (T.keeps hup) fun h' tk' t' c' hk h61 hrec hne => ?_
    have kG : ∀ b o, G.get? b = some o → h'.get? b = some o := fun b o e => hk b o (fun q => by rw [q, n61.2.2] at e; cases e) (F.keep b o e)
    refine h h' tk' t' c' ⟨F.ns.at' fun o e => hk _ o (fun q => n61.2.1 q.symm) e, kG, F.above⟩ (fun q hq => ?_) hk hrec hne
    rcases List.mem_cons.mp hq with rfl | hq
    · exact ⟨h61, n61.2⟩
    · exact ⟨hk _ _ (hsep q hq) (N q (.tail _ hq)).1, (N q (.tail _ hq)).2⟩
  · exact Nat.succ_le_succ h1
  · exact Nat.le_trans (Nat.add_le_add_right h2 3) (by decide)
end
noncomputable def LO (o : Obj) (us : List Value) : Prop := o.cls = .type "list" ∧ ∃ k, o.data = .seq us.toArray k
theorem LO.isList {o : Obj} {us : List Value} {h : Heap} {D : Addr} (H : LO o us) (e : h.get? D = some o) : h.IsList D us.toArray := ⟨o, e, H.1, H.2⟩
theorem ints_one' {x y : Int} {t : Tok} (e : x = y) : IntsAre [.int x t] [y] := e ▸ .cons _ _ .nil
noncomputable def mend_c.S (w : World) (p : Program) (loose : List PySem.Str) (mean : ExcName → Option Value) (mg : PySem.Str → Option Value) (mb : PySem.Str → Option Value) (outer : List Env) (base : Heap) (s : Shared) (R : Result → Shared → Prop) (g : Heap) (lc : Addr) (vs : List Value) (cols : List Nat) (cs : List Nat) (tx : Tok) (x : Addr) (d : Addr) (l : Addr) (u : Tok) (ts : List Value) (k : Nat) (rows : List (Nat × List Nat)) (ps : Array Value) (ls : List Nat) : Prop := ∀ (hl : g.IsList lc vs.toArray) (hi : IntsAre vs (cols.map fun c : Nat => (c : Int))) (hlen : cols.length ≤ 7) (hc8 : ∀ c ∈ cols, c < 8) (hcs : cs.length = cols.length) (hab : ∀ i c, cs[i]? = some c → c = 97 + i ∨ c = 65 + i) (hk : ∀ b o, g.get? b = some o → s.heap.get? b = some o) (hg : ∀ p ∈ (61, tabObj ps) :: hdr w x d l u ts k, g.get? p.1 = none) (ho : ∀ p ∈ (61, tabObj ps) :: hdr w x d l u ts k, s.heap.get? p.1 = some p.2) (hne : ∀ p ∈ hdr w x d l u ts k, p.1 ≠ 61) (hr : HS s.heap ts rows) (hrl : rows.length ≤ 8) (hrn : ∀ r ∈ rows, r.1 < 8) (hps : ps = #[] ∨ ∃ c', ps = #[rawInt 51, rawInt 4, .ref c'] ∧ g.CodeRec (.ref c') (PySem.Str.ofString "_digits2int.<locals>.inner") ∧ c' ≠ 61) (hfind : rows.find? (·.1 == synN cs cols) = some (synN cs cols, ls)) (hls : ls.length ≤ 100), Below (AT 330 60 outer) base outer g → (hd.heap_1 w.params).In g → Top p loose mean mg mb g →
  (∀ h' tk' g' t', (∀ b o, b ≠ 61 → s.heap.get? b = some o → h'.get? b = some o) → (∃ q, h'.get? 61 = some (tabObj q)) → GFin s.gens g' → R (.ok (.ret (.str (txt (mendF cs ls)) t'))) { s with heap := h', gens := g', toks := tk' }) →
  codeAny (model PySem.Challenge.rw_to0081_01.prog w) (AT 330 60 outer) (.call (.ref 276) ⟨[.str (txt cs) tx, .ref lc, .ref x], []⟩) R s
set_option synthInstance.maxSize 4096 in
set_option synthInstance.maxHeartbeats 200000 in
noncomputable def mend_c.e : World × Program × (List PySem.Str) × (ExcName → Option Value) × (PySem.Str → Option Value) × (PySem.Str → Option Value) × (List Env) × Heap × Shared × (Result → Shared → Prop) × Heap × Addr × (List Value) × (List Nat) × (List Nat) × Tok × Addr × Addr × Addr × Tok × (List Value) × Nat × (List (Nat × List Nat)) × (Array Value) × (List Nat) := haveI := ne_w; haveI := ne_s; haveI := ne_a; haveI := ne_g; Classical.epsilon fun x => ¬ mend_c.S x.1 x.2.1 x.2.2.1 x.2.2.2.1 x.2.2.2.2.1 x.2.2.2.2.2.1 x.2.2.2.2.2.2.1 x.2.2.2.2.2.2.2.1 x.2.2.2.2.2.2.2.2.1 x.2.2.2.2.2.2.2.2.2.1 x.2.2.2.2.2.2.2.2.2.2.1 x.2.2.2.2.2.2.2.2.2.2.2.1 x.2.2.2.2.2.2.2.2.2.2.2.2.1 x.2.2.2.2.2.2.2.2.2.2.2.2.2.1 x.2.2.2.2.2.2.2.2.2.2.2.2.2.2.1 x.2.2.2.2.2.2.2.2.2.2.2.2.2.2.2.1 x.2.2.2.2.2.2.2.2.2.2.2.2.2.2.2.2.1 x.2.2.2.2.2.2.2.2.2.2.2.2.2.2.2.2.2.1 x.2.2.2.2.2.2.2.2.2.2.2.2.2.2.2.2.2.2.1 x.2.2.2.2.2.2.2.2.2.2.2.2.2.2.2.2.2.2.2.1 x.2.2.2.2.2.2.2.2.2.2.2.2.2.2.2.2.2.2.2.2.1 x.2.2.2.2.2.2.2.2.2.2.2.2.2.2.2.2.2.2.2.2.2.1 x.2.2.2.2.2.2.2.2.2.2.2.2.2.2.2.2.2.2.2.2.2.2.1 x.2.2.2.2.2.2.2.2.2.2.2.2.2.2.2.2.2.2.2.2.2.2.2.1 x.2.2.2.2.2.2.2.2.2.2.2.2.2.2.2.2.2.2.2.2.2.2.2.2
@[irreducible] noncomputable def mend_c.w : World := mend_c.e.1
@[irreducible] noncomputable def mend_c.p : Program := mend_c.e.2.1
@[irreducible] noncomputable def mend_c.loose : List PySem.Str := mend_c.e.2.2.1
@[irreducible] noncomputable def mend_c.mean : ExcName → Option Value := mend_c.e.2.2.2.1
@[irreducible] noncomputable def mend_c.mg : PySem.Str → Option Value := mend_c.e.2.2.2.2.1
@[irreducible] noncomputable def mend_c.mb : PySem.Str → Option Value := mend_c.e.2.2.2.2.2.1
@[irreducible] noncomputable def mend_c.outer : List Env := mend_c.e.2.2.2.2.2.2.1
@[irreducible] noncomputable def mend_c.base : Heap := mend_c.e.2.2.2.2.2.2.2.1
@[irreducible] noncomputable def mend_c.s : Shared := mend_c.e.2.2.2.2.2.2.2.2.1
@[irreducible] noncomputable def mend_c.R : Result → Shared → Prop := mend_c.e.2.2.2.2.2.2.2.2.2.1
@[irreducible] noncomputable def mend_c.g : Heap := mend_c.e.2.2.2.2.2.2.2.2.2.2.1
@[irreducible] noncomputable def mend_c.lc : Addr := mend_c.e.2.2.2.2.2.2.2.2.2.2.2.1
@[irreducible] noncomputable def mend_c.vs : List Value := mend_c.e.2.2.2.2.2.2.2.2.2.2.2.2.1
@[irreducible] noncomputable def mend_c.cols : List Nat := mend_c.e.2.2.2.2.2.2.2.2.2.2.2.2.2.1
@[irreducible] noncomputable def mend_c.cs : List Nat := mend_c.e.2.2.2.2.2.2.2.2.2.2.2.2.2.2.1
@[irreducible] noncomputable def mend_c.tx : Tok := mend_c.e.2.2.2.2.2.2.2.2.2.2.2.2.2.2.2.1
@[irreducible] noncomputable def mend_c.x : Addr := mend_c.e.2.2.2.2.2.2.2.2.2.2.2.2.2.2.2.2.1
@[irreducible] noncomputable def mend_c.d : Addr := mend_c.e.2.2.2.2.2.2.2.2.2.2.2.2.2.2.2.2.2.1
@[irreducible] noncomputable def mend_c.l : Addr := mend_c.e.2.2.2.2.2.2.2.2.2.2.2.2.2.2.2.2.2.2.1
@[irreducible] noncomputable def mend_c.u : Tok := mend_c.e.2.2.2.2.2.2.2.2.2.2.2.2.2.2.2.2.2.2.2.1
@[irreducible] noncomputable def mend_c.ts : List Value := mend_c.e.2.2.2.2.2.2.2.2.2.2.2.2.2.2.2.2.2.2.2.2.1
@[irreducible] noncomputable def mend_c.k : Nat := mend_c.e.2.2.2.2.2.2.2.2.2.2.2.2.2.2.2.2.2.2.2.2.2.1
@[irreducible] noncomputable def mend_c.rows : List (Nat × List Nat) := mend_c.e.2.2.2.2.2.2.2.2.2.2.2.2.2.2.2.2.2.2.2.2.2.2.1
@[irreducible] noncomputable def mend_c.ps : Array Value := mend_c.e.2.2.2.2.2.2.2.2.2.2.2.2.2.2.2.2.2.2.2.2.2.2.2.1
@[irreducible] noncomputable def mend_c.ls : List Nat := mend_c.e.2.2.2.2.2.2.2.2.2.2.2.2.2.2.2.2.2.2.2.2.2.2.2.2
theorem mend_c.core : mend_c.S mend_c.w mend_c.p mend_c.loose mend_c.mean mend_c.mg mend_c.mb mend_c.outer mend_c.base mend_c.s mend_c.R mend_c.g mend_c.lc mend_c.vs mend_c.cols mend_c.cs mend_c.tx mend_c.x mend_c.d mend_c.l mend_c.u mend_c.ts mend_c.k mend_c.rows mend_c.ps mend_c.ls := by
  delta mend_c.S
  intro hl hi hlen hc8 hcs hab hk hg ho hne hr hrl hrn hps hfind hls
  k_fill
  intro B0 X0 T0 ret
  have h7c : cs.length ≤ 7 := hcs ▸ hlen
  have X1 := X0.keeps hk
  have T1 := T0.keeps hk
  have hz7 : ∃ own, own = (61, tabObj ps) :: hdr w x d l u ts k := ⟨_, rfl⟩
  (refine ex1 hz7 fun own hown => ?_)
  try clear hz7
  rw [← hown] at hg ho
  have hup : ∀ b o, g.get? b = some o → (hideAll s.heap (own.map (·.1))).get? b = some o := hide_up hk fun a ha => by
    have hz8 := List.mem_map.mp ha
    (refine ex1 hz8 fun q hz10 => ?_; refine and2 hz10 fun hq hz9 => ?_; clear hz10)
    try clear hz8
    obtain rfl := hz9
    exact hg q hq
  have B := below_keeps B0 hup
  have X := X0.keeps hup
  have T := T0.keeps hup
  k_dflt (refine' enterC ?k1 ?k2 ?k3 ?k4 ?k5 ?k6 ?k7 ?kn ?_ ?c2 ?c3 ?c4; (case k1 => exact X1); (case k2 => exact T1); (case k3 => k_is); (case k4 => k_is); (case k5 => exact Nat.le_of_ble_eq_true rfl); (case k6 => exact BindsTo.of_eq rfl); (case k7 => exact rfl); (case kn => decide +kernel); (case c2 => exact rfl); (case c3 => exact rfl); (case c4 => exact rfl); k_whole)
  intro h' tk' cells F0 N0 hC
  have hz11 : ∃ o1 o2 o3, cells = [(s.heap.objs.size + 3, o3), (s.heap.objs.size + 2, o2), (s.heap.objs.size + 1, o1)] ∧ o1.data = .cell none ∧ o2.data = .cell none ∧ o3.data = .cell none := by
    cases hC with | cons h3 r => cases r with | cons h2 r => cases r with | cons h1 r => cases r with | nil => exact ⟨_, _, _, rfl, h1, h2, h3⟩
  (refine ex3 hz11 fun o1 o2 o3 hz15 => ?_; refine and4 hz15 fun hz12 d1 d2 d3 => ?_; clear hz15)
  try clear hz11
  obtain rfl := hz12
  clear hC
  have F' := hide_fr (as := own.map (·.1)) F0
  have N1 : News (hideAll s.heap (own.map (·.1))) s.heap.objs.size h' own := hide_news ho F0
  have hrG : HS (hideAll s.heap (own.map (·.1))) ts rows := hs_hide (by rw [hown]; simp [hdr]) ho hr
  have hlt : ∀ q ∈ own, q.1 < s.heap.objs.size := fun q hq => Heap.lt_size (ho q hq)
  have N' : News (hideAll s.heap (own.map (·.1))) s.heap.objs.size h' ((s.heap.objs.size + 1, o1) :: (s.heap.objs.size + 2, o2) :: (s.heap.objs.size + 3, o3) :: own) := fun q hq => by
    have hz : q ∈ [(s.heap.objs.size + 3, o3), (s.heap.objs.size + 2, o2), (s.heap.objs.size + 1, o1)] ∨ q ∈ own := by
      simp only [List.mem_cons, List.not_mem_nil, or_false] at hq ⊢
      rcases hq with h | h | h | h <;> simp [h]
    rcases hz with hq | hq
    · have z := N0 q hq
      exact ⟨z.1, z.2.1, by
        cases e : (hideAll s.heap (own.map (·.1))).get? q.1 with
        | none => rfl
        | some o' => have := of_hideAll _ e; rw [z.2.2] at this; cases this⟩
    · exact N1 q hq
  have hlG : (hideAll s.heap (own.map (·.1))).IsList lc vs.toArray := hl.at fun o e => hup _ _ e
  have hpsG : ps = #[] ∨ ∃ c', ps = #[rawInt 51, rawInt 4, .ref c'] ∧ (hideAll s.heap (own.map (·.1))).CodeRec (.ref c') (PySem.Str.ofString "_digits2int.<locals>.inner") ∧ c' ≠ 61 := by
    rcases hps with e | ⟨c', e, ⟨c2, oc, ws, t, e2, e3, e4⟩, hn⟩
    · exact .inl e
    · exact .inr ⟨c', e, ⟨c2, oc, ws, t, e2, hup _ _ e3, e4⟩, hn⟩
  have fin : ∀ h'' tk'' g'' t'' m'' news'', Fr (hideAll s.heap (own.map (·.1))) s.heap.objs.size h'' m'' → News (hideAll s.heap (own.map (·.1))) s.heap.objs.size h'' news'' → (∀ q ∈ hdr w x d l u ts k, q ∈ news'') → (∃ q, (61, tabObj q) ∈ news'') → GFin s.gens g'' → R (.ok (.ret (.str (txt (mendF cs ls)) t''))) { s with heap := h'', gens := g'', toks := tk'' } := by
    intro h'' tk'' g'' t'' m'' news'' F9 N9 hsub hq61 hg9
    refine ret h'' tk'' g'' t'' (fun b o hb e => ?_) (let ⟨q, hq⟩ := hq61; ⟨q, (N9 _ hq).1⟩) hg9
    by_cases hm : b ∈ own.map (·.1)
    · have hz18 := List.mem_map.mp hm
      (refine ex1 hz18 fun q hz20 => ?_; refine and2 hz20 fun hq hz19 => ?_; clear hz20)
      try clear hz18
      obtain rfl := hz19
      rw [ho q hq] at e
      cases e
      rw [hown] at hq
      rcases List.mem_cons.mp hq with rfl | hq
      · exact absurd rfl hb
      · exact (N9 q (hsub q hq)).1
    · exact F9.keep b o (hideAll_get _ e hm)
  have hsep : ∀ q ∈ (s.heap.objs.size + 2, o2) :: (s.heap.objs.size + 3, o3) :: own, q.1 ≠ s.heap.objs.size + 1 := fun q hq e => by
    simp only [List.mem_cons] at hq
    rcases hq with h | h | h
    · subst h; simp at e
    · subst h; simp at e
    · exact absurd (hlt q h) (Nat.not_lt_of_le (e ▸ Nat.le_succ _))
  generalize hG : hideAll s.heap (own.map (·.1)) = G at *
  clear F0 N0 N1 X1 T1 X0 T0 B0 hup ho hps hg hl hr hk
  iterate 14 walk1
  refine wpAny_For ?_
  iterate 8 walk1
  with_reducible rename Fr _ _ _ _ => F1
  refine (let mv1 := _; have Fv : Fr _ _ _ mv1 := F1; ?_)
  clear F1
  rename Fr _ _ _ mv1 => F1
  with_reducible rename News _ _ _ _ => N1
  have hasc : (txt cs).cps.all (· < 128) = true := by
    rw [← Array.all_toList, List.all_eq_true]
    intro c hc
    have hz21 := List.getElem?_of_mem hc
    (refine ex1 hz21 fun i hi' => ?_)
    try clear hz21
    have hlt' : i < cs.length := by
      have := (List.getElem?_eq_some_iff.mp hi').1
      simpa using this
    have := hab i c (by simpa using hi')
    exact decide_eq_true (c128 this hlt' h7c)
  refine zip_sl rfl hasc (stays_list F1.keep hlG) fun I fp wr St Mid eI WW H hfl => ?_
  rename_i D _ _ H1
  have hz22 := name_obj N1
  (refine ex1 hz22 fun oD hz23 => ?_; refine and2 hz23 fun hoD N1 => ?_; clear hz23)
  try clear hz22
  have hz24 : ∃ us, IntsAre us [0, 0, 0] ∧ LO oD us := ⟨_, .cons _ _ (.cons _ _ (.cons _ _ .nil)), by rw [hoD]; exact ⟨rfl, 0, rfl⟩⟩
  (refine ex1 hz24 fun us0 hz25 => ?_; refine and2 hz25 fun hus0 hLO0 => ?_; clear hz25)
  try clear hz24
  have hD1 : D ≠ s.heap.objs.size + 1 := fun e => by
    have z1 := (N1 _ (.head _)).1
    have z2 := (N1 _ (.tail _ (.head _))).1
    dsimp only at z1 z2
    rw [e, z2] at z1
    have z3 := Option.some.inj z1
    rw [z3, hoD] at d1
    cases d1
  clear hoD
  let Jv1 : Nat → (PySem.Str → Option Value) → List (Addr × Obj) → Prop := fun i m nx => ∃ D o us, m (PySem.Str.ofString "counts") = some (.ref D) ∧ m (PySem.Str.ofString "word") = some (.str (txt cs) tx) ∧ m (PySem.Str.ofString "columns") = some (.ref lc) ∧ m (PySem.Str.ofString "table") = some (.ref x) ∧
      nx = (D, o) :: (s.heap.objs.size + 2, o2) :: (s.heap.objs.size + 3, o3) :: own ∧ D ≠ s.heap.objs.size + 1 ∧ LO o us ∧ IntsAre us [((cntN cs cols 0 i : Nat) : Int), ((cntN cs cols 1 i : Nat) : Int), ((cntN cs cols 2 i : Nat) : Int)]
  refine for_pairC (fun g' => g' = s.gens) Jv1
    rfl WW zpt2 H rfl rfl rfl rfl rfl F1 (nx := (D, oD) :: (s.heap.objs.size + 2, o2) :: (s.heap.objs.size + 3, o3) :: own) (news_sub N1 fun q hq => ?sub) d1 ?hcn rfl ⟨D, oD, us0, rfl, rfl, rfl, rfl, rfl, hD1, hLO0, hus0⟩ ?turn ?done
  case sub =>
    simp only [List.mem_cons] at hq ⊢
    rcases hq with h | h | h | h | h <;> simp [h]
  case hcn =>
    intro q hq
    rcases List.mem_cons.mp hq with rfl | hq
    · exact hD1
    · exact hsep q hq
  case done =>
    intro m₁ nx h g tk
    intro hz26
    (refine ex3 hz26 fun D o us hz34 => ?_; refine and8 hz34 fun hmc hmw hml hmt hz27 hD hLO hus => ?_; clear hz34)
    try clear hz26
    obtain rfl := hz27
    rintro rfl
    intro F N
    have hvl : vs.length = cols.length := by have := hi.length; simpa using this
    have e7 : min (txt cs).cps.size vs.length = cs.length := by
      rw [hvl, ← hcs]
      show min cs.toArray.size cs.length = cs.length
      simp
    rw [e7] at hus
    rw [upd_self hmt] at F
    rw [upd_self hmw] at F
    rw [upd_self hmc] at F
    clear F1 N1 WW H
    (try dsimp only)
    iterate 7 walk1
    have hu3 : us.length = 3 := by have := hus.length; simpa using this
    refine comp_eval (cl := []) (by rfl) rfl (by decide) ?_
    iterate 8 walk1
    refine zip_sl rfl (by decide +kernel) (hLO.isList (N _ (.head _)).1) fun I fp wr St Mid eI WW H hfl => ?_
    have e3 : min (PySem.Str.ofString "xyz").cps.size us.length = 3 := by rw [hu3]; decide +kernel
    (try dsimp only)
    refine craw_eval (fun j ys tl => tl = [] ∧ ys.length = j ∧ TxtsAre ys ([blk (cntN cs cols 0 cs.length) 120, blk (cntN cs cols 1 cs.length) 121, blk (cntN cs cols 2 cs.length) 122].take j)) (csrc_pair rfl F N WW H zpt2 (by rw [e3, sizeLine_eq]; decide) rfl rfl rfl) (by decide) rfl ⟨rfl, rfl, .nil⟩ (fun _ _ _ h => Nat.le_of_eq h.2.1) ?turn3 ?fin3
    case turn3 =>
      intro j ys tl g' C D' h' tk' m m₁ hj hJ hg0 hgN hB F' N' hne
      (refine ex2 hB fun v0 v1 hz38 => ?_; refine and2 hz38 fun hpt hz37 => ?_; clear hz38)
      try clear hB
      obtain rfl := hz37
      have hz40 := zpt_val hpt
      (refine ex2 hz40 fun c u1 hz43 => ?_; refine and3 hz43 fun hc' hz41 hv => ?_; clear hz43)
      try clear hz40
      obtain rfl := hz41
      (refine and3 hJ fun hz45 hyl hz46 => ?_)
      try clear hJ
      obtain rfl := hz45
      have hJ := hz46
      clear hz46
      have hj3 : j < 3 := e3 ▸ hj
      obtain rfl := xyz_at hj3 hc'
      have hz48 : ∃ t2, v1 = .int ((cntN cs cols j cs.length : Nat) : Int) t2 := by
        have : j = 0 ∨ j = 1 ∨ j = 2 := by lia
        rcases this with rfl | rfl | rfl
        · obtain ⟨t, ht⟩ := hus.get 0 _ rfl
          rw [ht] at hv; exact ⟨t, (Option.some.inj hv).symm⟩
        · obtain ⟨t, ht⟩ := hus.get 1 _ rfl
          rw [ht] at hv; exact ⟨t, (Option.some.inj hv).symm⟩
        · obtain ⟨t, ht⟩ := hus.get 2 _ rfl
          rw [ht] at hv; exact ⟨t, (Option.some.inj hv).symm⟩
      (refine ex1 hz48 fun t2 hz49 => ?_)
      try clear hz48
      obtain rfl := hz49
      have Xg := X.keeps hg0
      have Tg := T.keeps hg0
      have hc7 : cntN cs cols j cs.length ≤ 7 := Nat.le_trans (cntN_le cs cols j cs.length) h7c
      clear F N WW H hpt
      refine forIn_nil ?_
      refine ite_tt ?_
      (try k_fold)
      (try dsimp only)
      k_steps
      with_reducible rename Fr _ _ _ _ => F9
      refine (let mv2 := _; have Fv : Fr _ _ _ mv2 := F9; ?_)
      clear F9
      rename Fr _ _ _ mv2 => F9
      with_reducible rename News _ _ _ _ => N9
      refine cend0 F9 N9 hne ⟨rfl, len_eq1 hyl, ?_⟩
      rw [List.take_add_one, show ([blk (cntN cs cols 0 cs.length) 120, blk (cntN cs cols 1 cs.length) 121, blk (cntN cs cols 2 cs.length) 122])[j]? = some (blk (cntN cs cols j cs.length) (120 + j)) by
          have : j = 0 ∨ j = 1 ∨ j = 2 := by lia
          rcases this with rfl | rfl | rfl <;> rfl]
      exact hJ.snoc
    case fin3 =>
      intro D' h' tk' ys tl
      intro hz50
      (refine and3 hz50 fun hz51 hyl hJ => ?_)
      try clear hz50
      obtain rfl := hz51
      intro F' N' lt' ne'
      rw [e3] at hJ
      clear F N WW H
      have hc0 := Nat.le_trans (cntN_le cs cols 0 cs.length) h7c
      have hc1 := Nat.le_trans (cntN_le cs cols 1 cs.length) h7c
      have hc2 := Nat.le_trans (cntN_le cs cols 2 cs.length) h7c
      iterate 1 walk1
      refine join_at ⟨_, (N' _ (.head _)).1, rfl, _, rfl⟩ hJ (by simp) (fun a ha => ?_) fun t1 k1 => ?_
      · have ha' : a = blk (cntN cs cols 0 cs.length) 120 ∨ a = blk (cntN cs cols 1 cs.length) 121 ∨ a = blk (cntN cs cols 2 cs.length) 122 := by simpa using ha
        rcases ha' with rfl | rfl | rfl <;> rw [blk_len] <;> lia
      rw [show (List.take 3 [blk (cntN cs cols 0 cs.length) 120, blk (cntN cs cols 1 cs.length) 121, blk (cntN cs cols 2 cs.length) 122]).flatten = text3 (cntN cs cols 0 cs.length) (cntN cs cols 1 cs.length) (cntN cs cols 2 cs.length) by simp [text3]]
      have NN : News G s.heap.objs.size h' ((s.heap.objs.size + 2, o2) :: (s.heap.objs.size + 3, o3) :: own) := news_sub N' fun q hq => .tail _ (List.mem_append_left _ (.tail _ hq))
      clear N' lt' ne' hJ hyl
      iterate 10 walk1
      with_reducible rename Fr _ _ _ _ => F3
      refine (let mv3 := _; have Fv : Fr _ _ _ mv3 := F3; ?_)
      clear F3
      rename Fr _ _ _ mv3 => F3
      with_reducible rename News _ _ _ _ => N3
      refine ⟨X.keeps F3.keep, callE_strip B X T F3 N3 (fun c hc => text3_mem hc) (by rw [text3_len]; lia) (mdQ_text3 _ _ _) (fun h4 tk4 g4 t4 F4 N4 hg4 => ?_) rfl (Nat.le_of_ble_eq_true rfl) (Nat.le_of_ble_eq_true rfl)⟩
      (try dsimp only)
      clear F3 N3
      refine storeX_C F4 N4 rfl (.head fun q hq => ?hq2) d2 fun h5 o5 F5 N5 d5 => ?_
      case hq2 =>
        rcases List.mem_cons.mp hq with rfl | hq
        · simp
        · exact Nat.ne_of_lt (Nat.lt_of_lt_of_le (hlt q hq) (show s.heap.objs.size ≤ s.heap.objs.size + 2 from Nat.le_add_right _ _))
      clear F4 N4
      replace N5 : News G s.heap.objs.size h5 ((s.heap.objs.size + 2, o5) :: (s.heap.objs.size + 3, o3) :: own) := N5
      dsimp only
      iterate 1 walk1
      refine comp_assign (cl := [(PySem.Str.ofString "stays", s.heap.objs.size + 2)]) (by rfl) (by rfl) rfl (by decide) ?_
      iterate 1 walk1
      refine iter_str rfl fun I o fp St eI WW H => ?_
      have e3x : (PySem.Str.ofString "xyz").cps.size = 3 := by decide +kernel
      (try dsimp only)
      refine craw_assignQ (fun j ys tl => tl = [] ∧ ys.length = j ∧ IntsAre ys (([cntN cs cols 0 cs.length % 2, cntN cs cols 1 cs.length % 2, cntN cs cols 2 cs.length % 2].map fun c : Nat => (c : Int)).take j)) (csrc_name F5 N5 WW H (by rw [e3x, sizeLine_eq]; decide) rfl rfl) (by decide) rfl rfl rfl ⟨rfl, rfl, .nil⟩ (fun _ _ _ h => Nat.le_of_eq h.2.1) ?turn4 ?fin4
      case turn4 =>
        intro j ys tl g' C D' h' tk' m m₁ hj hJ hg0 hgN hB F' N' hne
        (refine ex1 hB fun v0 hz54 => ?_; refine and2 hz54 fun hpt hz53 => ?_; clear hz54)
        try clear hB
        obtain rfl := hz53
        (refine ex2 hpt fun c u1 hz56 => ?_; refine and2 hz56 fun hc' hz55 => ?_; clear hz56)
        try clear hpt
        obtain rfl := hz55
        (refine and3 hJ fun hz58 hyl hz59 => ?_)
        try clear hJ
        obtain rfl := hz58
        have hJ := hz59
        clear hz59
        have hj3 : j < 3 := e3x ▸ hj
        obtain rfl := xyz_at hj3 hc'
        have hcg := hgN _ (.head _)
        have Xg := X.keeps hg0
        have Tg := T.keeps hg0
        clear F5 N5 WW H
        refine forIn_nil ?_
        refine ite_tt ?_
        (try k_fold)
        (try dsimp only)
        k_steps
        with_reducible rename Fr _ _ _ _ => F9
        refine (let mv4 := _; have Fv : Fr _ _ _ mv4 := F9; ?_)
        clear F9
        rename Fr _ _ _ mv4 => F9
        with_reducible rename News _ _ _ _ => N9
        refine cend0 F9 N9 hne ⟨rfl, len_eq1 hyl, ?_⟩
        rw [List.take_add_one, show (([cntN cs cols 0 cs.length % 2, cntN cs cols 1 cs.length % 2, cntN cs cols 2 cs.length % 2].map fun c : Nat => (c : Int)))[j]? = some ((([cntN cs cols 0 cs.length, cntN cs cols 1 cs.length, cntN cs cols 2 cs.length].getD j 0) % 2 : Nat) : Int) by
          have : j = 0 ∨ j = 1 ∨ j = 2 := by lia
          rcases this with rfl | rfl | rfl <;> rfl]
        refine hJ.append (ints_one' ?_)
        have hst := stay_mem (cntN cs cols 0 cs.length) (cntN cs cols 1 cs.length) (cntN cs cols 2 cs.length) j hj3
        by_cases hz : ([cntN cs cols 0 cs.length, cntN cs cols 1 cs.length, cntN cs cols 2 cs.length].getD j 0) % 2 = 0
        · rw [hz, decide_eq_true (hst.mpr hz)]; rfl
        · rw [decide_eq_false (fun q => hz (hst.mp q)), show ([cntN cs cols 0 cs.length, cntN cs cols 1 cs.length, cntN cs cols 2 cs.length].getD j 0) % 2 = 1 by lia]; rfl
      case fin4 =>
        intro D' h' tk' ys tl
        intro hz61
        (refine and3 hz61 fun hz62 hyl hJ => ?_)
        try clear hz61
        obtain rfl := hz62
        intro F' N' lt' ne' _
        rw [e3x] at hJ
        clear F5 N5 WW H
        have N6 : News G s.heap.objs.size h' ((61, tabObj ps) :: (D', lst ys) :: (s.heap.objs.size + 2, o5) :: (s.heap.objs.size + 3, o3) :: (x, instObj 241 d) :: (d, dictOf [{ hash := PyData.keyHash w.params (PySem.Str.ofString "_headers"), key := .str (PySem.Str.ofString "_headers") u, val := .ref l }] 1) :: (l, listO ts k) :: []) := news_sub N' fun q hq => by
          rw [hown]
          simp only [hdr, List.mem_cons, List.mem_append, List.not_mem_nil, or_false] at hq ⊢
          rcases hq with h | h | h | h | h | h | h <;> simp [h]
        have hD61 : D' ≠ 61 := Nat.ne_of_gt (lt' (61, tabObj ps) (.tail _ (.tail _ (by rw [hown]; exact .head _))))
        clear N' ne'
        (try dsimp only)
        iterate 19 walk1
        with_reducible rename Fr _ _ _ _ => F6
        refine (let mv5 := _; have Fv : Fr _ _ _ mv5 := F6; ?_)
        clear F6
        rename Fr _ _ _ mv5 => F6
        have hps6 : ps = #[] ∨ ∃ c', ps = #[rawInt 51, rawInt 4, .ref c'] ∧ Heap.CodeRec h' (.ref c') (PySem.Str.ofString "_digits2int.<locals>.inner") ∧ c' ≠ 61 := by
          rcases hpsG with e | ⟨c', e, ⟨c2, oc, ws, t, e2, e3, e4⟩, hn⟩
          · exact .inl e
          · exact .inr ⟨c', e, ⟨c2, oc, ws, t, e2, F6.keep _ _ e3, e4⟩, hn⟩
        have hlt61 := hlt (61, tabObj ps) (by rw [hown]; exact .head _)
        refine ⟨X.keeps F6.keep, callE_digs (n := 1) (ds := [cntN cs cols 0 cs.length % 2, cntN cs cols 1 cs.length % 2, cntN cs cols 2 cs.length % 2]) B X T F6 N6 (fun q hq => ?hs61) ⟨_, (N6 _ (.tail _ (.head _))).1, rfl, _, rfl⟩ hJ (by simp) (by simp) (by decide) (fun dd hdd => ?hd256) hps6 (fun h7 tk7 t7 c7 F7 N7 _ _ _ => ?_) rfl (Nat.le_of_ble_eq_true rfl) (Nat.le_of_ble_eq_true rfl)⟩
        case hs61 =>
          simp only [List.mem_cons, List.not_mem_nil, or_false] at hq
          rcases hq with h | h | h | h | h | h
          · subst h; exact hD61
          · subst h; exact fun e => absurd (show s.heap.objs.size + 2 = (61 : Nat) from e) (Nat.ne_of_gt (Nat.lt_of_lt_of_le hlt61 (Nat.le_add_right _ 2)))
          · subst h; exact fun e => absurd (show s.heap.objs.size + 3 = (61 : Nat) from e) (Nat.ne_of_gt (Nat.lt_of_lt_of_le hlt61 (Nat.le_add_right _ 3)))
          · exact h ▸ hne _ (.head _)
          · exact h ▸ hne _ (.tail _ (.head _))
          · exact h ▸ hne _ (.tail _ (.tail _ (.head _)))
        case hd256 =>
          have hz : dd = cntN cs cols 0 cs.length % 2 ∨ dd = cntN cs cols 1 cs.length % 2 ∨ dd = cntN cs cols 2 cs.length % 2 := by simpa using hdd
          have hm2 : ∀ n : Nat, n % 2 < 256 := fun n => Nat.lt_of_le_of_lt (mod2 n) (by decide)
          rcases hz with e | e | e <;> rw [e] <;> exact hm2 _
        have ev : valD [cntN cs cols 0 cs.length % 2, cntN cs cols 1 cs.length % 2, cntN cs cols 2 cs.length % 2] 1 0 [cntN cs cols 0 cs.length % 2, cntN cs cols 1 cs.length % 2, cntN cs cols 2 cs.length % 2].length = synN cs cols := by
          simp [valD, synN]; lia
        rw [ev]
        have hs8 := synN_lt cs cols
        generalize synN cs cols = sy at *
        have N8 := news_sub (l' := (s.heap.objs.size + 3, o3) :: (s.heap.objs.size + 2, o5) :: (x, instObj 241 d) :: (d, dictOf [{ hash := PyData.keyHash w.params (PySem.Str.ofString "_headers"), key := .str (PySem.Str.ofString "_headers") u, val := .ref l }] 1) :: (l, listO ts k) :: (61, tabObj #[rawInt 51, rawInt 4, .ref c7]) :: []) N7 (by repeat' (first | refine List.forall_mem_cons.mpr ⟨?_, ?_⟩ | exact fun _ h => absurd h List.not_mem_nil | exact List.Mem.head _ | refine List.Mem.tail _ ?_ | exact fun _ h => by repeat' (first | exact h | exact List.mem_append_right _ h | refine List.Mem.tail _ ?_)))
        clear N6 N7 F6 hps6 hJ hyl lt'
        iterate 4 walk1
        refine callE_get B X T F7 N8 (fun q hq => .tail _ (.tail _ (List.mem_append_left _ hq))) (hrG.keeps F7.keep) hrl hrn hs8 (fun h9 tk9 v9 F9 N9 hgot => ?_) rfl (Nat.le_of_ble_eq_true rfl) (Nat.le_of_ble_eq_true rfl)
        (try dsimp only)
        clear F7 N8
        unfold Got at hgot
        rw [hfind] at hgot
        (refine ex1 hgot fun t9 hz64 => ?_)
        try clear hgot
        obtain rfl := hz64
        refine storeX_C F9 N9 rfl (.head fun q hq => ?hq3) d3 fun h10 o10 F10 N10 d10 => ?_
        case hq3 =>
          have hbig : ∀ q ∈ hdr w x d l u ts k, q.1 ≠ s.heap.objs.size + 3 := fun q hq => Nat.ne_of_lt (Nat.lt_of_lt_of_le (hlt q (by rw [hown]; exact .tail _ hq)) (show s.heap.objs.size ≤ s.heap.objs.size + 3 from Nat.le_add_right _ _))
          rcases List.mem_cons.mp hq with h | h
          · subst h; simp
          rcases List.mem_append.mp (show q ∈ hdr w x d l u ts k ++ [(61, tabObj #[rawInt 51, rawInt 4, .ref c7])] from h) with h | h
          · exact hbig q h
          · rw [List.mem_singleton.mp h]; exact Nat.ne_of_lt (Nat.lt_of_lt_of_le hlt61 (Nat.le_add_right _ 3))
        clear F9 N9
        replace N10 : News G s.heap.objs.size h10 ((s.heap.objs.size + 3, o10) :: (s.heap.objs.size + 2, o5) :: (hdr w x d l u ts k ++ [(61, tabObj #[rawInt 51, rawInt 4, .ref c7])])) := N10
        dsimp only
        iterate 1 walk1
        refine comp_assign (cl := []) (by rfl) (by rfl) rfl (by decide) ?_
        iterate 1 walk1
        refine iter_str rfl fun I o fp St eI WW H => ?_
        have ecs : (txt cs).cps.size = cs.length := txt_len cs
        (try dsimp only)
        refine craw_assignQ (fun j ys tl => tl = [] ∧ ys.length = j ∧ TxtsAre ys ((cs.map fun c => [turnC c]).take j)) (csrc_name F10 N10 WW H (by rw [ecs, sizeLine_eq]; lia) rfl rfl) (by decide) rfl rfl rfl ⟨rfl, rfl, .nil⟩ (fun _ _ _ h => Nat.le_of_eq h.2.1) ?turn5 ?fin5
        case turn5 =>
          intro j ys tl g' C D' h' tk' m m₁ hj hJ hg0 hgN hB F' N' hne
          (refine ex1 hB fun v0 hz66 => ?_; refine and2 hz66 fun hpt hz65 => ?_; clear hz66)
          try clear hB
          obtain rfl := hz65
          (refine ex2 hpt fun c u1 hz68 => ?_; refine and2 hz68 fun hc' hz67 => ?_; clear hz68)
          try clear hpt
          obtain rfl := hz67
          (refine and3 hJ fun hz70 hyl hz71 => ?_)
          try clear hJ
          obtain rfl := hz70
          have hJ := hz71
          clear hz71
          have hcc : cs[j]? = some c := by simpa using hc'
          have hc1 : c < 128 := by
            exact c128 (hab j c hcc) (List.getElem?_eq_some_iff.mp hcc).1 h7c
          have htk : (cs.map fun c => [turnC c]).take (j + 1) = (cs.map fun c => [turnC c]).take j ++ [[turnC c]] := by
            rw [List.take_add_one, List.getElem?_map, hcc]; rfl
          have Xg := X.keeps hg0
          have Tg := T.keeps hg0
          clear F10 N10 WW H
          refine forIn_nil ?_
          refine ite_tt ?_
          (try k_fold)
          (try dsimp only)
          k_steps
          · with_reducible rename Fr _ _ _ _ => F9
            with_reducible rename News _ _ _ _ => N9
            with_reducible rename (_ == _) = true => b9
            refine cend0 F9 N9 hne ⟨rfl, len_eq1 hyl, ?_⟩
            rw [htk]
            have et : turnC c = upC c := by
              unfold turnC; rw [if_pos (by rw [one_inj] at b9; simpa using b9)]
            rw [et]
            exact hJ.snoc
          · with_reducible rename Fr _ _ _ _ => F9
            with_reducible rename News _ _ _ _ => N9
            with_reducible rename (_ == _) = false => b9
            refine cend0 F9 N9 hne ⟨rfl, len_eq1 hyl, ?_⟩
            rw [htk]
            have et : turnC c = lowC c := by
              unfold turnC; rw [if_neg (by rw [one_inj] at b9; simpa using b9)]
            rw [et]
            exact hJ.snoc
        case fin5 =>
          intro D' h' tk' ys tl
          intro hz73
          (refine and3 hz73 fun hz74 hyl hJ => ?_)
          try clear hz73
          obtain rfl := hz74
          intro F' N' lt' ne' _
          rw [ecs] at hJ hyl
          rw [List.take_of_length_le (by simp)] at hJ
          clear F10 N10 WW H
          (try dsimp only)
          iterate 7 walk1
          refine comp_eval (cl := [(PySem.Str.ofString "letters", s.heap.objs.size + 3)]) (by rfl) rfl (by decide) ?_
          iterate 8 walk1
          with_reducible rename Fr _ _ _ _ => F5
          refine (let mv6 := _; have Fv : Fr _ _ _ mv6 := F5; ?_)
          clear F5
          rename Fr _ _ _ mv6 => F5
          refine zip_sl rfl hasc ⟨_, (N' _ (.head _)).1, rfl, _, rfl⟩ fun I fp wr St Mid eI WW H hfl => ?_
          have e8 : min (txt cs).cps.size ys.length = cs.length := by rw [ecs, hyl]; exact Nat.min_self _
          (try dsimp only)
          refine craw_eval (fun j zs tl => tl = [] ∧ zs.length = j ∧ TxtsAre zs ((cs.map fun c => [if lowC c ∈ ls then turnC c else c]).take j)) (csrc_pair rfl F5 N' WW H zpt2 (by rw [e8, sizeLine_eq]; lia) rfl rfl rfl) (by decide) rfl ⟨rfl, rfl, .nil⟩ (fun _ _ _ h => Nat.le_of_eq h.2.1) ?turn6 ?fin6
          case turn6 =>
            intro j zs tl g' C D2 h2 tk2 m m₁ hj hK hg0 hgN hB F2 N2 hne2
            (refine ex2 hB fun v0 v1 hz77 => ?_; refine and2 hz77 fun hpt hz76 => ?_; clear hz77)
            try clear hB
            obtain rfl := hz76
            have hz79 := zpt_val hpt
            (refine ex2 hz79 fun c u1 hz82 => ?_; refine and3 hz82 fun hc' hz80 hv => ?_; clear hz82)
            try clear hz79
            obtain rfl := hz80
            (refine and3 hK fun hz84 hzl hz85 => ?_)
            try clear hK
            obtain rfl := hz84
            have hK := hz85
            clear hz85
            have hcc : cs[j]? = some c := by simpa using hc'
            have hz87 := hJ.at hv
            (refine ex2 hz87 fun a t2 hz89 => ?_; refine and2 hz89 fun ha hz88 => ?_; clear hz89)
            try clear hz87
            obtain rfl := hz88
            rw [List.getElem?_map, hcc] at ha
            obtain rfl : [turnC c] = a := Option.some.inj ha
            have hc1 : c < 128 := by
              exact c128 (hab j c hcc) (List.getElem?_eq_some_iff.mp hcc).1 h7c
            have htk : (cs.map fun c => [if lowC c ∈ ls then turnC c else c]).take (j + 1) = (cs.map fun c => [if lowC c ∈ ls then turnC c else c]).take j ++ [[if lowC c ∈ ls then turnC c else c]] := by
              rw [List.take_add_one, List.getElem?_map, hcc]; rfl
            have hcg := hgN _ (.tail _ (List.mem_append_left _ (.head _)))
            have Xg := X.keeps hg0
            have Tg := T.keeps hg0
            clear F5 N' WW H hpt hv ha
            refine forIn_nil ?_
            refine ite_tt ?_
            (try k_fold)
            (try dsimp only)
            k_steps
            · with_reducible rename Fr _ _ _ _ => F9
              with_reducible rename News _ _ _ _ => N9
              rename_i b9
              refine cend0 F9 N9 hne2 ⟨rfl, len_eq1 hzl, ?_⟩
              rw [htk, if_pos (by simpa using b9)]
              exact hK.snoc
            · with_reducible rename Fr _ _ _ _ => F9
              with_reducible rename News _ _ _ _ => N9
              rename_i b9
              refine cend0 F9 N9 hne2 ⟨rfl, len_eq1 hzl, ?_⟩
              rw [htk, if_neg (by simpa using b9)]
              exact hK.snoc
          case fin6 =>
            intro D2 h2 tk2 zs tl
            intro hz91
            (refine and3 hz91 fun hz92 hzl hK => ?_)
            try clear hz91
            obtain rfl := hz92
            intro F2 N2 lt2 ne2
            rw [e8] at hK hzl
            rw [List.take_of_length_le (by simp)] at hK
            clear F5 N' WW H
            iterate 1 walk1
            refine join_at ⟨_, (N2 _ (.head _)).1, rfl, _, rfl⟩ hK (by simp; lia) (fun a ha => ?_) fun t1 k1 => ?_
            · have hz94 := List.mem_map.mp ha
              (refine ex1 hz94 fun c hz96 => ?_; refine and2 hz96 fun _ hz95 => ?_; clear hz96)
              try clear hz94
              obtain rfl := hz95
              exact Nat.le_of_ble_eq_true rfl
            rw [flatten_one]
            (try dsimp only)
            exact fin _ _ _ _ _ _ F2 N2 (fun q hq => .tail _ (List.mem_append_left _ (.tail _ (List.mem_append_left _ (.tail _ (.tail _ (List.mem_append_left _ hq))))))) ⟨_, .tail _ (List.mem_append_left _ (.tail _ (List.mem_append_left _ (.tail _ (.tail _ (List.mem_append_right _ (.head _)))))))⟩ hg4
  case turn =>
    intro i m₁ nx h g tk own' v0 v1 oc hi'
    intro hz97
    (refine ex3 hz97 fun D o us hz105 => ?_; refine and8 hz105 fun hmc hmw hml hmt hz98 hD hLO hus => ?_; clear hz105)
    try clear hz97
    obtain rfl := hz98
    rintro rfl
    intro hpt hoc F N hof
    have hz108 := zpt_val hpt
    (refine ex2 hz108 fun c u1 hz111 => ?_; refine and3 hz111 fun hc' hz109 hv1 => ?_; clear hz111)
    try clear hz108
    obtain rfl := hz109
    have hcc : cs[i]? = some c := by simpa using hc'
    have hic : i < cs.length := (List.getElem?_eq_some_iff.mp hcc).1
    have hiv : i < vs.length := Nat.lt_of_lt_of_le hi' (Nat.min_le_right _ _)
    have hz113 : ∃ q tc, cols[i]? = some q ∧ v1 = .int (q : Nat) tc := by
      have hlt : i < cols.length := hcs ▸ hic
      obtain ⟨t, ht⟩ := hi.get i ((cols[i] : Nat) : Int) (by simp [hlt])
      rw [ht] at hv1
      exact ⟨cols[i], t, by simp [hlt], (Option.some.inj hv1).symm⟩
    (refine ex2 hz113 fun q tc hz115 => ?_; refine and2 hz115 fun hqq hz114 => ?_; clear hz115)
    try clear hz113
    obtain rfl := hz114
    have hc1 : c < 128 := c128 (hab i c hcc) hic h7c
    rw [upd_self hmt] at F
    rw [upd_self hml] at F
    rw [upd_self hmw] at F
    rw [upd_self hmc] at F
    clear F1 N1 WW H hpt
    (try k_fold)
    (try dsimp only)
    have hsub0 : ∀ (a : Obj) (own' : List (Addr × Obj)), (∀ q ∈ (D, o) :: (s.heap.objs.size + 2, o2) :: (s.heap.objs.size + 3, o3) :: own, q ∈ (s.heap.objs.size + 1, a) :: ((D, o) :: (s.heap.objs.size + 2, o2) :: (s.heap.objs.size + 3, o3) :: own ++ own')) := fun a own' q hq => .tail _ (List.mem_append_left _ hq)
    iterate 12 walk1
    · with_reducible rename (_ != _) = true => b9
      have hne' : c ≠ lowC c := fun e => by rw [bne, one_inj, decide_eq_true e] at b9; cases b9
      iterate 1 walk1
      refine comp_assign (cl := [(PySem.Str.ofString "column", s.heap.objs.size + 1)]) (by rfl) (by rfl) rfl (by decide) ?_
      iterate 6 walk1
      have hq8 := hc8 q (List.mem_of_getElem? hqq)
      have hu3 : us.length = 3 := by have := hus.length; simpa using this
      refine enum_list rfl (hLO.isList (N _ (.tail _ (.head _))).1) fun eI2 fp2 wr2 St2 Mid2 h2 W2 H2 => ?_
      (try dsimp only)
      refine craw_assignQ (fun j ys tl => tl = [] ∧ ys.length = j ∧ IntsAre ys ([((cntN cs cols 0 (i + 1) : Nat) : Int), ((cntN cs cols 1 (i + 1) : Nat) : Int), ((cntN cs cols 2 (i + 1) : Nat) : Int)].take j)) (csrc_pair rfl F N W2 H2 lpt2 (by rw [hu3, sizeLine_eq]; decide) rfl rfl rfl) (by decide) rfl rfl rfl ⟨rfl, rfl, .nil⟩ (fun _ _ _ h => Nat.le_of_eq h.2.1) ?turn2 ?fin2
      case turn2 =>
        intro j ys tl g' C D' h' tk' m m₁ hj hJ hg0 hgN hB F' N' hne
        (refine ex2 hB fun v0 v1 hz118 => ?_; refine and2 hz118 fun hpt hz117 => ?_; clear hz118)
        try clear hB
        obtain rfl := hz117
        have hz120 := lpt_val hpt
        (refine ex1 hz120 fun t1 hz122 => ?_; refine and2 hz122 fun hz121 hv => ?_; clear hz122)
        try clear hz120
        obtain rfl := hz121
        (refine and3 hJ fun hz123 hyl hz124 => ?_)
        try clear hJ
        obtain rfl := hz123
        have hJ := hz124
        clear hz124
        have hj3 : j < 3 := hu3 ▸ hj
        have hz126 : ∃ t2, v1 = .int ((cntN cs cols j i : Nat) : Int) t2 := by
          have : j = 0 ∨ j = 1 ∨ j = 2 := by lia
          rcases this with rfl | rfl | rfl
          · obtain ⟨t, ht⟩ := hus.get 0 _ rfl
            rw [ht] at hv; exact ⟨t, (Option.some.inj hv).symm⟩
          · obtain ⟨t, ht⟩ := hus.get 1 _ rfl
            rw [ht] at hv; exact ⟨t, (Option.some.inj hv).symm⟩
          · obtain ⟨t, ht⟩ := hus.get 2 _ rfl
            rw [ht] at hv; exact ⟨t, (Option.some.inj hv).symm⟩
        (refine ex1 hz126 fun t2 hz127 => ?_)
        try clear hz126
        obtain rfl := hz127
        have hcg := hgN _ (.head _)
        have Xg := X.keeps hg0
        have Tg := T.keeps hg0
        clear F N W2 H2 hpt
        refine forIn_nil ?_
        refine ite_tt ?_
        (try k_fold)
        (try dsimp only)
        k_steps
        with_reducible rename Fr _ _ _ _ => F9
        refine (let mv7 := _; have Fv : Fr _ _ _ mv7 := F9; ?_)
        clear F9
        rename Fr _ _ _ mv7 => F9
        with_reducible rename News _ _ _ _ => N9
        refine cend0 F9 N9 hne ⟨rfl, len_eq1 hyl, ?_⟩
        rw [List.take_add_one]
        refine hJ.append ?_
        rw [bit_at hq8 hj3, show ([((cntN cs cols 0 (i + 1) : Nat) : Int), ((cntN cs cols 1 (i + 1) : Nat) : Int), ((cntN cs cols 2 (i + 1) : Nat) : Int)])[j]? = some ((cntN cs cols j (i + 1) : Nat) : Int) by
          have : j = 0 ∨ j = 1 ∨ j = 2 := by lia
          rcases this with rfl | rfl | rfl <;> rfl]
        refine ints_one' ?_
        rw [cntN_up hcc hqq hne' j]
        push_cast
        rfl
      case fin2 =>
        intro D' h' tk' ys tl
        intro hz128
        (refine and3 hz128 fun hz129 hyl hJ => ?_)
        try clear hz128
        obtain rfl := hz129
        intro F' N' lt' ne' _
        rw [hu3] at hJ
        clear F N W2 H2
        (try dsimp only)
        k_steps
        refine fend (nx' := (D', lst ys) :: (s.heap.objs.size + 2, o2) :: (s.heap.objs.size + 3, o3) :: own) rfl F' N' (fun q hq => ?_) (fun q hq => ?_) (fun q hq => ?_) ⟨D', lst ys, ys, rfl, rfl, rfl, rfl, rfl, Nat.ne_of_gt (lt' _ (.head _)), ⟨rfl, _, rfl⟩, hJ⟩
        · rcases List.mem_cons.mp hq with rfl | hq
          · exact .head _
          · exact .tail _ (List.mem_append_left _ (.tail _ (List.mem_append_left _ (.tail _ hq))))
        · refine .tail _ (List.mem_append_left _ ?_)
          rcases List.mem_cons.mp hq with rfl | hq
          · exact .head _
          · exact .tail _ (List.mem_append_right _ hq)
        · rcases List.mem_cons.mp hq with rfl | hq
          · refine .inr fun r hr => Nat.ne_of_lt (lt' r ?_)
            rcases List.mem_cons.mp hr with rfl | hr
            · exact .head _
            · exact .tail _ (List.mem_append_right _ hr)
          · exact .inl ⟨q.2, .tail _ hq⟩
    · with_reducible rename (_ != _) = false => b9
      have he' : c = lowC c := by
        rw [bne, one_inj] at b9
        simpa using b9
      k_steps
      with_reducible rename Fr _ _ _ _ => F9
      refine (let mv8 := _; have Fv : Fr _ _ _ mv8 := F9; ?_)
      clear F9
      rename Fr _ _ _ mv8 => F9
      with_reducible rename News _ _ _ _ => N9
      refine fend (nx' := (D, o) :: (s.heap.objs.size + 2, o2) :: (s.heap.objs.size + 3, o3) :: own) rfl F9 N9 (fun q hq => .tail _ (List.mem_append_left _ hq)) (fun q hq => ?_) (fun q hq => .inl ⟨q.2, hq⟩) ⟨D, o, us, rfl, rfl, rfl, rfl, rfl, hD, hLO, ?_⟩
      · rcases List.mem_cons.mp hq with rfl | hq
        · exact .head _
        · exact .tail _ (List.mem_append_right _ hq)
      · rw [cntN_low hcc hqq he', cntN_low hcc hqq he', cntN_low hcc hqq he']
        exact hus
theorem mend_c (w : World) (p : Program) (loose : List PySem.Str) (mean : ExcName → Option Value) (mg mb : PySem.Str → Option Value) (outer : List Env) (base : Heap) (s : Shared) (R : Result → Shared → Prop) (g : Heap) (lc : Addr) (vs : List Value) (cols cs : List Nat) (tx : Tok) (x d l : Addr) (u : Tok) (ts : List Value) (k : Nat) (rows : List (Nat × List Nat)) (ps : Array Value) (ls : List Nat) (hl : g.IsList lc vs.toArray) (hi : IntsAre vs (cols.map fun c : Nat => (c : Int))) (hlen : cols.length ≤ 7) (hc8 : ∀ c ∈ cols, c < 8) (hcs : cs.length = cols.length) (hab : ∀ i c, cs[i]? = some c → c = 97 + i ∨ c = 65 + i) (hk : ∀ b o, g.get? b = some o → s.heap.get? b = some o) (hg : ∀ p ∈ (61, tabObj ps) :: hdr w x d l u ts k, g.get? p.1 = none) (ho : ∀ p ∈ (61, tabObj ps) :: hdr w x d l u ts k, s.heap.get? p.1 = some p.2) (hne : ∀ p ∈ hdr w x d l u ts k, p.1 ≠ 61) (hr : HS s.heap ts rows) (hrl : rows.length ≤ 8) (hrn : ∀ r ∈ rows, r.1 < 8) (hps : ps = #[] ∨ ∃ c', ps = #[rawInt 51, rawInt 4, .ref c'] ∧ g.CodeRec (.ref c') (PySem.Str.ofString "_digits2int.<locals>.inner") ∧ c' ≠ 61) (hfind : rows.find? (·.1 == synN cs cols) = some (synN cs cols, ls)) (hls : ls.length ≤ 100) : Below (AT 330 60 outer) base outer g → (hd.heap_1 w.params).In g → Top p loose mean mg mb g →
  (∀ h' tk' g' t', (∀ b o, b ≠ 61 → s.heap.get? b = some o → h'.get? b = some o) → (∃ q, h'.get? 61 = some (tabObj q)) → GFin s.gens g' → R (.ok (.ret (.str (txt (mendF cs ls)) t'))) { s with heap := h', gens := g', toks := tk' }) →
  codeAny (model PySem.Challenge.rw_to0081_01.prog w) (AT 330 60 outer) (.call (.ref 276) ⟨[.str (txt cs) tx, .ref lc, .ref x], []⟩) R s := hil_ (Q := fun x => mend_c.S x.1 x.2.1 x.2.2.1 x.2.2.2.1 x.2.2.2.2.1 x.2.2.2.2.2.1 x.2.2.2.2.2.2.1 x.2.2.2.2.2.2.2.1 x.2.2.2.2.2.2.2.2.1 x.2.2.2.2.2.2.2.2.2.1 x.2.2.2.2.2.2.2.2.2.2.1 x.2.2.2.2.2.2.2.2.2.2.2.1 x.2.2.2.2.2.2.2.2.2.2.2.2.1 x.2.2.2.2.2.2.2.2.2.2.2.2.2.1 x.2.2.2.2.2.2.2.2.2.2.2.2.2.2.1 x.2.2.2.2.2.2.2.2.2.2.2.2.2.2.2.1 x.2.2.2.2.2.2.2.2.2.2.2.2.2.2.2.2.1 x.2.2.2.2.2.2.2.2.2.2.2.2.2.2.2.2.2.1 x.2.2.2.2.2.2.2.2.2.2.2.2.2.2.2.2.2.2.1 x.2.2.2.2.2.2.2.2.2.2.2.2.2.2.2.2.2.2.2.1 x.2.2.2.2.2.2.2.2.2.2.2.2.2.2.2.2.2.2.2.2.1 x.2.2.2.2.2.2.2.2.2.2.2.2.2.2.2.2.2.2.2.2.2.1 x.2.2.2.2.2.2.2.2.2.2.2.2.2.2.2.2.2.2.2.2.2.2.1 x.2.2.2.2.2.2.2.2.2.2.2.2.2.2.2.2.2.2.2.2.2.2.2.1 x.2.2.2.2.2.2.2.2.2.2.2.2.2.2.2.2.2.2.2.2.2.2.2.2) (by with_unfolding_all exact mend_c.core) (w, p, loose, mean, mg, mb, outer, base, s, R, g, lc, vs, cols, cs, tx, x, d, l, u, ts, k, rows, ps, ls) hl hi hlen hc8 hcs hab hk hg ho hne hr hrl hrn hps hfind hls

end
section
-- hil-done: i2d_c/n
-- macros2 -- macros3
local macro_rules | `(tactic| walk_at "eval Name") => `(tactic| (k_here; k_dflt (refine' nm_f (by k_asm) (by exact rfl) (by assumption) (by assumption) (by exact rfl) (by exact rfl) (by decide) (by decide) ?_; k_whole)))
theorem bits_pow {m : Nat} (h : m ≤ 7) : (Builtin.Int.intBits ((2 ^ m : Nat) : Int)) = m + 1 := by
  have tab : ∀ m ≤ 7, (Builtin.Int.intBits ((2 ^ m : Nat) : Int)) = m + 1 := by decide +kernel
  exact tab m h
theorem xor_low {x s : Nat} (hx : x < 256) (hs : s < 17) : Builtin.bitXor (x : Int) ((((x >>> s) <<< s : Nat)) : Int) = ((x % 2 ^ s : Nat) : Int) := by
  have tab : ∀ s < 17, ∀ x < 256, Builtin.bitXor ((x : Nat) : Int) ((((x >>> s) <<< s : Nat)) : Int) = ((x % 2 ^ s : Nat) : Int) := by decide +kernel
  exact tab s hs x hx
theorem ints_rep : ∀ (k : Nat) (t : Tok), IntsAre (List.replicate k [Value.int 0 t]).flatten (List.replicate k 0)
  | 0, _ => .nil
  | k + 1, t => by
    rw [List.replicate_succ, List.flatten_cons, List.replicate_succ]
    exact .cons 0 t (ints_rep k t)
noncomputable def dg (x n i : Nat) : Nat := x / 2 ^ (n * i) % 2 ^ n
theorem dg_low {x n a i : Nat} (h : i < a) : dg (x % 2 ^ (n * a)) n i = dg x n i := by
  unfold dg
  apply Nat.eq_of_testBit_eq
  intro b
  simp only [Nat.testBit_mod_two_pow, Nat.testBit_div_two_pow]
  by_cases hb : b < n
  · have : n * i + b < n * a := by
      have h1 : n * (i + 1) ≤ n * a := Nat.mul_le_mul_left n h
      exact Nat.lt_of_lt_of_le (Nat.add_lt_add_left hb _) h1
    rw [Nat.add_comm b] 
    simp [hb, this]
  · simp [hb]
theorem dg_high {x n a i : Nat} : dg (x / 2 ^ (n * a)) n i = dg x n (i + a) := by
  unfold dg
  rw [Nat.div_div_eq_div_mul, ← Nat.pow_add, ← Nat.mul_add, Nat.add_comm a i]
set_option maxHeartbeats 2000000
noncomputable def i2d_c.S (w : World) (p : Program) (loose : List PySem.Str) (mean : ExcName → Option Value) (mg : PySem.Str → Option Value) (mb : PySem.Str → Option Value) (outer : List Env) (base : Heap) (s : Shared) (R : Result → Shared → Prop) (g : Heap) (mm : Nat) (ta : Tok) (tn : Tok) : Prop := ∀ (n : Nat) (hm : mm ≤ 7) (hn1 : 1 ≤ n) (hn : n ≤ 4) (hk : ∀ b o, g.get? b = some o → s.heap.get? b = some o) (hg : g.get? 54 = none) (h54 : s.heap.get? 54 = some (tabObj #[])), Below (AT 336 100 outer) base outer g → (hd.heap_1 w.params).In g → Top p loose mean mg mb g →
  (∀ h' tk' dl us k, (∀ b o, b ≠ 54 → s.heap.get? b = some o → h'.get? b = some o) → h'.get? dl = some (listO us k) → s.heap.get? dl = none → (∃ q, h'.get? 54 = some (tabObj q)) → IntsAre us ((List.range ((mm + n) / n)).map fun i => (((2 ^ mm / 2 ^ (n * i)) % 2 ^ n : Nat) : Int)) → R (.ok (.ret (.ref dl))) { s with heap := h', toks := tk' }) →
  codeAny (model PySem.Challenge.rw_to0081_01.prog w) (AT 336 100 outer) (.call (.ref 59) ⟨[.int ((2 ^ mm : Nat) : Int) ta, .int (n : Nat) tn], []⟩) R s
noncomputable def i2d_c.e : World × Program × (List PySem.Str) × (ExcName → Option Value) × (PySem.Str → Option Value) × (PySem.Str → Option Value) × (List Env) × Heap × Shared × (Result → Shared → Prop) × Heap × Nat × Tok × Tok := haveI := ne_w; haveI := ne_s; haveI := ne_a; haveI := ne_g; Classical.epsilon fun x => ¬ i2d_c.S x.1 x.2.1 x.2.2.1 x.2.2.2.1 x.2.2.2.2.1 x.2.2.2.2.2.1 x.2.2.2.2.2.2.1 x.2.2.2.2.2.2.2.1 x.2.2.2.2.2.2.2.2.1 x.2.2.2.2.2.2.2.2.2.1 x.2.2.2.2.2.2.2.2.2.2.1 x.2.2.2.2.2.2.2.2.2.2.2.1 x.2.2.2.2.2.2.2.2.2.2.2.2.1 x.2.2.2.2.2.2.2.2.2.2.2.2.2
@[irreducible] noncomputable def i2d_c.w : World := i2d_c.e.1
@[irreducible] noncomputable def i2d_c.p : Program := i2d_c.e.2.1
@[irreducible] noncomputable def i2d_c.loose : List PySem.Str := i2d_c.e.2.2.1
@[irreducible] noncomputable def i2d_c.mean : ExcName → Option Value := i2d_c.e.2.2.2.1
@[irreducible] noncomputable def i2d_c.mg : PySem.Str → Option Value := i2d_c.e.2.2.2.2.1
@[irreducible] noncomputable def i2d_c.mb : PySem.Str → Option Value := i2d_c.e.2.2.2.2.2.1
@[irreducible] noncomputable def i2d_c.outer : List Env := i2d_c.e.2.2.2.2.2.2.1
@[irreducible] noncomputable def i2d_c.base : Heap := i2d_c.e.2.2.2.2.2.2.2.1
@[irreducible] noncomputable def i2d_c.s : Shared := i2d_c.e.2.2.2.2.2.2.2.2.1
@[irreducible] noncomputable def i2d_c.R : Result → Shared → Prop := i2d_c.e.2.2.2.2.2.2.2.2.2.1
@[irreducible] noncomputable def i2d_c.g : Heap := i2d_c.e.2.2.2.2.2.2.2.2.2.2.1
@[irreducible] noncomputable def i2d_c.mm : Nat := i2d_c.e.2.2.2.2.2.2.2.2.2.2.2.1
@[irreducible] noncomputable def i2d_c.ta : Tok := i2d_c.e.2.2.2.2.2.2.2.2.2.2.2.2.1
@[irreducible] noncomputable def i2d_c.tn : Tok := i2d_c.e.2.2.2.2.2.2.2.2.2.2.2.2.2
theorem i2d_c.core : i2d_c.S i2d_c.w i2d_c.p i2d_c.loose i2d_c.mean i2d_c.mg i2d_c.mb i2d_c.outer i2d_c.base i2d_c.s i2d_c.R i2d_c.g i2d_c.mm i2d_c.ta i2d_c.tn := by
  delta i2d_c.S
  intro n hm hn1 hn hk hg h54
  k_fill
  intro B0 X0 T0 ret
  have X1 := X0.keeps hk
  have T1 := T0.keeps hk
  have ho : ∀ p ∈ [(54, tabObj #[])], s.heap.get? p.1 = some p.2 := fun p hp => by rw [List.mem_singleton.mp hp]; exact h54
  have hup : ∀ b o, g.get? b = some o → (hideAll s.heap ([(54, tabObj #[])].map (·.1))).get? b = some o := hide_up hk fun a ha => by
    rw [List.mem_singleton.mp ha]; exact hg
  have B := below_keeps B0 hup
  have X := X0.keeps hup
  have T := T0.keeps hup
  k_dflt (refine' enterC ?k1 ?k2 ?k3 ?k4 ?k5 ?k6 ?k7 ?kn ?_ ?c2 ?c3 ?c4; (case k1 => exact X1); (case k2 => exact T1); (case k3 => k_is); (case k4 => k_is); (case k5 => exact Nat.le_of_ble_eq_true rfl); (case k6 => exact BindsTo.of_eq rfl); (case k7 => exact rfl); (case kn => decide +kernel); (case c2 => exact rfl); (case c3 => exact rfl); (case c4 => exact rfl); k_whole)
  intro h' tk' cells F0 N0 hC
  have hz1 : ∃ o1 o2 o3, cells = [(s.heap.objs.size + 3, o3), (s.heap.objs.size + 2, o2), (s.heap.objs.size + 1, o1)] ∧ o1.data = .cell (some (.int (n : Nat) tn)) ∧ o2.data = .cell none ∧ o3.data = .cell none := by
    cases hC with | cons h3 r => cases r with | cons h2 r => cases r with | cons h1 r => cases r with | nil => exact ⟨_, _, _, rfl, h1, h2, h3⟩
  (refine ex3 hz1 fun o1 o2 o3 hz5 => ?_; refine and4 hz5 fun hz2 d1 d2 d3 => ?_; clear hz5)
  try clear hz1
  obtain rfl := hz2
  clear hC
  have F' := hide_fr (as := [(54, tabObj #[])].map (·.1)) F0
  have hlt54 : (54 : Nat) < s.heap.objs.size := Heap.lt_size h54
  have N' : News (hideAll s.heap ([(54, tabObj #[])].map (·.1))) s.heap.objs.size h' [(54, tabObj #[]), (s.heap.objs.size + 3, o3), (s.heap.objs.size + 2, o2), (s.heap.objs.size + 1, o1)] := fun q hq => by
    rcases List.mem_cons.mp hq with rfl | hq
    · exact hide_news ho F0 _ (.head _)
    · have z := N0 q hq
      exact ⟨z.1, z.2.1, by
        cases e : (hideAll s.heap ([(54, tabObj #[])].map (·.1))).get? q.1 with
        | none => rfl
        | some o' => have := of_hideAll _ e; rw [z.2.2] at this; cases this⟩
  have hsep : ∀ q ∈ [(s.heap.objs.size + 3, o3), (s.heap.objs.size + 2, o2), (s.heap.objs.size + 1, o1)], q.1 ≠ 54 := fun q hq e => by
    simp only [List.mem_cons, List.not_mem_nil, or_false] at hq
    rcases hq with rfl | rfl | rfl <;> simp only at e <;> lia
  have C : CodeHd (hideAll s.heap ([(54, tabObj #[])].map (·.1))) 58 54 := codeHd_of_K X (by kernel_rfl)
  generalize hG : hideAll s.heap ([(54, tabObj #[])].map (·.1)) = G at *
  clear F0 N0 X1 T1 X0 T0 B0 hup ho
  iterate 22 walk1
  (try dsimp only)
  with_reducible rename Fr _ _ _ _ => F1
  with_reducible rename News _ _ _ _ => N1
  have hlen8 : (mm + n) / n ≤ 8 := by
    have tab : ∀ n ≤ 4, 1 ≤ n → ∀ mm ≤ 7, (mm + n) / n ≤ 8 := by decide
    exact tab n hn hn1 mm hm
  have el : (((Builtin.Int.intBits ((2 ^ mm : Nat) : Int) : Nat) : Int) + (n : Int) - 1).fdiv (n : Int) = (((mm + n) / n : Nat) : Int) := by
    rw [bits_pow hm, Int.fdiv_eq_ediv_of_nonneg _ (by lia)]
    have : (((mm + 1 : Nat) : Int) + (n : Int) - 1) = ((mm + n : Nat) : Int) := by push_cast; lia
    rw [this]; rfl
  rw [el]
  have hNpos : 0 < (mm + n) / n := Nat.div_pos (by lia) hn1
  have hpow : 2 ^ mm < 2 ^ (n * ((mm + n) / n)) := Nat.pow_lt_pow_right (by decide) (by
    have h1 := Nat.div_add_mod (mm + n) n
    have h2 := Nat.mod_lt (mm + n) hn1
    exact Nat.lt_of_add_lt_add_right (Nat.lt_of_le_of_lt (Nat.le_of_eq h1.symm) (Nat.add_lt_add_left h2 _)))
  have hp256 : 2 ^ mm < 256 := Nat.lt_of_le_of_lt (Nat.pow_le_pow_right (by decide) hm) (by decide)
  generalize (mm + n) / n = NN at *
  have hz8 : ∃ us0 : List Value, (List.replicate (((NN : Nat) : Int)).toNat [Value.int 0 tk']).flatten = us0 ∧ us0.length = NN := ⟨_, rfl, by simp⟩
  (refine ex1 hz8 fun us0 hz9 => ?_; refine and2 hz9 fun hus0 hl0 => ?_; clear hz9)
  try clear hz8
  refine KMa.mul F1 N1 ⟨_, (N1 _ (.head _)).1, rfl, 0, rfl⟩ (by lia) (by lia) (by simp; lia) hus0 fun D h2 F2 N2 hD => ?_
  clear F1 N1
  replace N2 : News G s.heap.objs.size h2 ((s.heap.objs.size + 2, o2) :: (54, tabObj #[]) :: (D, listO us0 0) :: (s.heap.objs.size + 3, o3) :: (s.heap.objs.size + 1, o1) :: []) := news_sub N2 fun q hq => by
    simp only [List.mem_cons, List.not_mem_nil, or_false] at hq ⊢
    rcases hq with h | h | h | h | h <;> subst h
    · exact .inr (.inr (.inr (.inr (.inl rfl))))
    · exact .inr (.inr (.inl rfl))
    · exact .inl rfl
    · exact .inr (.inr (.inr (.inl rfl)))
    · exact .inr (.inr (.inr (.inr (.inr rfl))))
  have hD2 : D ≠ s.heap.objs.size + 2 := Nat.ne_of_gt (hD (s.heap.objs.size + 2, o2) (by simp))
  have hD3 : D ≠ s.heap.objs.size + 3 := Nat.ne_of_gt (hD (s.heap.objs.size + 3, o3) (by simp))
  have hD1 : D ≠ s.heap.objs.size + 1 := Nat.ne_of_gt (hD (s.heap.objs.size + 1, o1) (by simp))
  have hD54 : D ≠ 54 := Nat.ne_of_gt (hD (54, tabObj #[]) (by simp))
  clear hD
  refine storeX_C F2 N2 rfl (.head fun q hq => ?hq2) d2 fun h3 o4 F3 N3 d4 => ?_
  case hq2 =>
    simp only [List.mem_cons, List.not_mem_nil, or_false] at hq
    rcases hq with h | h | h | h
    · subst h; exact fun e => absurd (show (54 : Nat) = s.heap.objs.size + 2 from e) (ne_s2 hlt54 2)
    · subst h; exact hD2
    · subst h; simp
    · subst h; simp
  clear F2 N2 d2
  replace N3 : News G s.heap.objs.size h3 ((54, tabObj #[]) :: (D, listO us0 0) :: (s.heap.objs.size + 2, o4) :: (s.heap.objs.size + 3, o3) :: (s.heap.objs.size + 1, o1) :: []) := news_sub N3 (by repeat' (first | refine List.forall_mem_cons.mpr ⟨?_, ?_⟩ | exact fun _ h => absurd h List.not_mem_nil | exact List.Mem.head _ | refine List.Mem.tail _ ?_ | exact fun _ h => by repeat' (first | exact h | exact List.mem_append_right _ h | refine List.Mem.tail _ ?_)))
  dsimp only
  iterate 1 walk1
  (try dsimp only)
  refine nestDef_K rfl rfl rfl ?_
  refine nest_both F3 N3 T C rfl (fun q hq => ?hq3) (.inl rfl) rfl (fun _ => rfl) fun f c' ctv doc h4 tk4 ex F4 N4 hrec hne hex => ?_
  case hq3 =>
    rcases List.mem_cons.mp hq with rfl | hq
    · exact hD54
    · simp only [List.mem_cons, List.not_mem_nil, or_false] at hq
      rcases hq with h | h | h
      · subst h; exact fun e => absurd (show s.heap.objs.size + 2 = (54 : Nat) from e) (ne_s2 hlt54 2).symm
      · exact hsep q (by simp [h])
      · exact hsep q (by simp [h])
  have hz10 := name_obj N4
  (refine ex1 hz10 fun O hz11 => ?_; refine and2 hz11 fun hO N4 => ?_; clear hz11)
  try clear hz10
  have hz12 : ∃ p54, News G s.heap.objs.size h4 ((f, O) :: (54, tabObj p54) :: _) := ⟨_, N4⟩
  (refine ex1 hz12 fun p54 N4 => ?_)
  try clear hz12
  have hf3 : f ≠ s.heap.objs.size + 3 := fun e => by
    have z1 := (N4 _ (.head _)).1
    have z2 := (N4 (s.heap.objs.size + 3, o3) (by simp)).1
    dsimp only at z1 z2
    rw [e, z2] at z1
    have z3 := Option.some.inj z1
    rw [z3, hO] at d3
    cases d3
  have hfD : f ≠ D := fun e => by
    have z1 := (N4 _ (.head _)).1
    have z2 := (N4 (D, listO us0 0) (by simp)).1
    dsimp only at z1 z2
    rw [e, z2] at z1
    have z3 := congrArg Obj.data (Option.some.inj z1)
    rw [hO] at z3
    cases z3
  have hx3 : ∀ q ∈ ex, q.1 ≠ s.heap.objs.size + 3 := fun q hq e => (hex q hq).2 (s.heap.objs.size + 3, o3) (by simp) e.symm
  have hxD : ∀ q ∈ ex, q.1 ≠ D := fun q hq e => (hex q hq).2 (D, listO us0 0) (by simp) e.symm
  have N5 : News G s.heap.objs.size h4 ((s.heap.objs.size + 3, o3) :: (f, O) :: (D, listO us0 0) :: (s.heap.objs.size + 2, o4) :: (s.heap.objs.size + 1, o1) :: (54, tabObj p54) :: ex) := news_sub N4 (by repeat' (first | refine List.forall_mem_cons.mpr ⟨?_, ?_⟩ | exact fun _ h => absurd h List.not_mem_nil | exact List.Mem.head _ | refine List.Mem.tail _ ?_ | exact fun _ h => by repeat' (first | exact h | exact List.mem_append_right _ h | refine List.Mem.tail _ ?_)))
  clear N4
  refine storeX_C F4 N5 rfl (.head fun q hq => ?hq4) d3 fun h5 o5 F5 N5 d5 => ?_
  case hq4 =>
    simp only [List.mem_cons] at hq
    rcases hq with h | h | h | h | h | h
    · subst h; exact hf3
    · subst h; exact hD3
    · subst h; simp
    · subst h; simp
    · subst h; exact fun e => absurd (show (54 : Nat) = s.heap.objs.size + 3 from e) (ne_s2 hlt54 3)
    · exact hx3 q h
  clear F4 d3 hx3 hf3
  replace N5 : News G s.heap.objs.size h5 ((s.heap.objs.size + 3, o5) :: (f, O) :: (D, listO us0 0) :: (s.heap.objs.size + 2, o4) :: (s.heap.objs.size + 1, o1) :: (54, tabObj p54) :: ex) := N5
  dsimp only
  have hrec' := hrec h5 F5.keep (fun q hq => (N5 q (.tail _ (.tail _ (.tail _ (.tail _ (.tail _ (.tail _ hq))))))).1)
  have HD := (N5 _ (.tail _ (.tail _ (.head _)))).1
  have Hf := (N5 _ (.tail _ (.head _))).1
  have H1 := (N5 _ (.tail _ (.tail _ (.tail _ (.tail _ (.head _)))))).1
  have H2 := (N5 _ (.tail _ (.tail _ (.tail _ (.head _))))).1
  have H3 := (N5 _ (.head _)).1
  dsimp only at HD Hf H1 H2 H3
  have hcD : c' ≠ D := fun e => by
    (refine ex4 hrec' fun a1 a2 a3 a4 hz14 => ?_; refine and3 hz14 fun a5 a6 a7 => ?_; clear hz14)
    try clear hrec'
    cases a5
    rw [e, HD] at a6
    rw [← Option.some.inj a6] at a7
    cases a7.1
  have key : ∀ k, k ≤ 8 → ∀ (outer' : List Env) (s' : Shared) (R' : Result → Shared → Prop) (xv L j : Nat) (tx tL tj : Tok) (us : List Value) (ns : List Int), L < j → j ≤ NN → j - L = k → xv < 256 → xv < 2 ^ (n * k) → IntsAre us ns → ns.length = NN → (∀ b o, b ≠ D → h5.get? b = some o → s'.heap.get? b = some o) → s'.heap.get? D = some (listO us 0) →
      Below (AT (350 - k) (150 - 5 * k) outer') base outer' (hideAll s'.heap [D]) →
      (∀ h' tk' us' ns', (∀ b o, b ≠ D → s'.heap.get? b = some o → h'.get? b = some o) → h'.get? D = some (listO us' 0) → IntsAre us' ns' → ns'.length = NN → (∀ i, L ≤ i → i < j → ns'[i]? = some ((dg xv n (i - L) : Nat) : Int)) → (∀ i, i < L ∨ j ≤ i → ns'[i]? = ns[i]?) → R' (.ok (.ret .none)) { s' with heap := h', toks := tk' }) →
      codeAny (model PySem.Challenge.rw_to0081_01.prog w) (AT (350 - k) (150 - 5 * k) outer') (.call (.ref f) ⟨[.int (xv : Nat) tx, .int (L : Nat) tL, .int (j : Nat) tj], []⟩) R' s' := by
    have X5 := X.keeps F5.keep
    have T5 := T.keeps F5.keep
    have hDG : G.get? D = none := (N5 _ (.tail _ (.tail _ (.head _)))).2.2
    clear N5 hrec C B ret hex hxD
    intro k
    induction k using Nat.strongRecOn with
    | _ k ih =>
      intro hk8 outer' s' R' xv L j tx tL tj us ns hLj hjN hjk hx hxk hus hnl hup hsD B ret
      have hupG : ∀ b o, G.get? b = some o → (hideAll s'.heap [D]).get? b = some o := fun b o e => by
        have hb : b ≠ D := fun q => by rw [q, hDG] at e; cases e
        exact hideAll_get _ (hup b o hb (F5.keep b o e)) fun q => hb (List.mem_singleton.mp q)
      have X1 := X.keeps hupG
      have T1 := T.keeps hupG
      have hno : ∀ b o, b ≠ D → h5.get? b = some o → (hideAll s'.heap [D]).get? b = some o := fun b o hb e => hideAll_get _ (hup b o hb e) fun q => hb (List.mem_singleton.mp q)
      have H1' := hno _ _ hD1.symm H1
      have H2' := hno _ _ hD2.symm H2
      have H3' := hno _ _ hD3.symm H3
      have Hf' := hup _ _ hfD Hf
      have HfG := hno _ _ hfD Hf
      have hrec2 : s'.heap.CodeRec (.ref c') _ := let ⟨a1, a2, a3, a4, a5, a6, a7⟩ := hrec'; ⟨a1, a2, a3, a4, a5, hup _ _ (by cases a5; exact hcD) a6, a7⟩
      have hD0 : (hideAll s'.heap [D]).get? D = none := hideAll_none _ (.head _)
      have hDs : s'.heap.objs.size ≠ D := Nat.ne_of_gt (Heap.lt_size hsD)
      have rc : ∀ (E1 : Env) (yv a b : Nat) (ty ta tb : Tok) (s2 : Shared) (m2 : PySem.Str → Option Value) (us2 : List Value) (ns2 : List Int) (Q : Value → Shared → Prop), E1.frame = some s'.heap.objs.size → E1.scope.kind = .function → a < b → b ≤ NN → b - a < k → yv < 256 → yv < 2 ^ (n * (b - a)) → IntsAre us2 ns2 → ns2.length = NN →
          Fr (hideAll s'.heap [D]) s'.heap.objs.size s2.heap m2 → News (hideAll s'.heap [D]) s'.heap.objs.size s2.heap [(D, listO us2 0)] →
          (∀ h' tk' us' ns', Fr (hideAll s'.heap [D]) s'.heap.objs.size h' m2 → News (hideAll s'.heap [D]) s'.heap.objs.size h' [(D, listO us' 0)] → IntsAre us' ns' → ns'.length = NN → (∀ i, a ≤ i → i < b → ns'[i]? = some ((dg yv n (i - a) : Nat) : Int)) → (∀ i, i < a ∨ b ≤ i → ns'[i]? = ns2[i]?) → Q .none { s2 with heap := h', toks := tk' }) →
          wpAny (model PySem.Challenge.rw_to0081_01.prog w) ((AT (350 - k) (150 - 5 * k) outer').deeper E1) (call (.ref f) [.int (yv : Nat) ty, .int (a : Nat) ta, .int (b : Nat) tb]) Q (fun _ _ => False) s2 := by
        intro E1 yv a b ty ta tb s2 m2 us2 ns2 Q hE1 hE2 hab hbd hlt hy hyk hus2 hnl2 F N hQ
        refine wpAny_call ?_
        refine below_le (d := 350 - (b - a)) (u := 150 - 5 * (b - a)) (outer := E1 :: outer') ?_ rfl ?_ ?_ (Around.frames_deeper B.stack)
        · refine ih (b - a) hlt (Nat.le_trans (Nat.le_of_lt hlt) hk8) (E1 :: outer') s2 _ yv a b ty ta tb us2 ns2 hab hbd rfl hy hyk hus2 hnl2 (fun x o hx e => F.keep x o (hno x o hx e)) (N _ (.head _)).1 (below_hideE B F (fun q hq => by rw [List.mem_singleton.mp hq]; exact hD0) (fun q => hDs (List.mem_singleton.mp q)) hE1 hE2) fun h' tk' us' ns' hk' hd' h1 h2 h3 h4 => ?_
          refine hQ h' tk' us' ns' ⟨F.ns.at' fun o e => hk' _ o hDs e, fun b o e => hk' b o (fun q => by rw [q, hD0] at e; cases e) (F.keep b o e), F.above⟩ (fun q hq => ?_) h1 h2 h3 h4
          rw [List.mem_singleton.mp hq]
          exact ⟨hd', fun q => hDs q.symm, hD0⟩
        · exact d350 hlt hk8
        · exact d150 hlt hk8
      rw [hO] at Hf'
      have Ts : Top p loose mean mg mb s'.heap := T1.keeps fun b o e => of_hideAll _ e
      refine enterX Ts Hf' hrec2 ?hroom (BindsTo.of_eq rfl) (locs rfl) (fun h₁ F0 N0 => ?_) rfl rfl rfl (by decide)
      case hroom => exact Nat.lt_of_le_of_lt (Nat.sub_le 350 k) (Nat.le_of_ble_eq_true rfl)
      have F := hide_fr (as := [D]) F0
      have N : News (hideAll s'.heap [D]) s'.heap.objs.size h₁ [(D, listO us 0)] := hide_news (own := [(D, listO us 0)]) (fun q hq => by rw [List.mem_singleton.mp hq]; exact hsD) F0
      generalize hG' : hideAll s'.heap [D] = G' at *
      clear F0 N0
      iterate 11 walk1
      (try dsimp only)
      · with_reducible rename ((_ : Int) = _) => e5
        have ej := succ_cast e5
        iterate 6 walk1
        (try dsimp only)
        k_steps
        with_reducible rename Fr _ _ _ _ => F6
        with_reducible rename News _ _ _ _ => N6
        have hi6 : IntsAre (us.set ((L : Nat) : Int).toNat (.int (xv : Nat) tx)) (ns.set ((L : Nat) : Int).toNat ((xv : Nat) : Int)) := ints_set hus _
        refine ret _ _ _ _ (fun b o hb e => F6.keep b o (by rw [← hG']; exact hideAll_get _ e fun q => hb (List.mem_singleton.mp q))) (N6 _ (.head _)).1 hi6 (by rw [List.length_set]; exact hnl) (fun i h1 h2 => ?_) fun i h => ?_
        · obtain rfl : i = L := Nat.le_antisymm (Nat.le_of_lt_succ (Nat.lt_of_lt_of_eq h2 ej)) h1
          rw [Int.toNat_natCast, List.getElem?_set_self (Nat.lt_of_lt_of_le hLj (hnl ▸ hjN)), Nat.sub_self]
          have : dg xv n 0 = xv := by
            unfold dg
            rw [Nat.mul_zero, Nat.pow_zero, Nat.div_one]
            refine Nat.mod_eq_of_lt ?_
            rw [show k = 1 by rw [← hjk, ej, Nat.add_sub_cancel_left], Nat.mul_one] at hxk
            exact hxk
          rw [this]
        · rw [Int.toNat_natCast, List.getElem?_set_ne (by lia)]
      · with_reducible rename ((_ : Int) ≠ _) => e5
        iterate 22 walk1
        (try dsimp only)
        with_reducible rename Fr _ _ _ _ => F6
        have hz18 : ∃ M : Nat, L < M ∧ M < j ∧ M - L ≤ 4 ∧ ((L : Int) + (j : Int)).fdiv (2 ^ Int.toNat 1) = (M : Int) := by
          refine ⟨(L + j) / 2, (mid_at hLj e5).1, (mid_at hLj e5).2.1, mid_le (Nat.le_trans hjN hlen8), ?_⟩
          rw [Int.fdiv_eq_ediv_of_nonneg _ (by decide)]
          have : (2 : Int) ^ Int.toNat 1 = 2 := by decide
          rw [this]; exact (mid_at hLj e5).2.2
        (refine ex1 hz18 fun M hz21 => ?_; refine and4 hz21 fun hM1 hM2 hM4 em => ?_; clear hz21)
        try clear hz18
        have es : ((M : Int) - (L : Int)) * (n : Int) = (((M - L) * n : Nat) : Int) := by
          rw [Int.natCast_mul, Int.ofNat_sub (Nat.le_of_lt hM1)]
        rw [em, es] at F6
        have hs17 : (M - L) * n < 17 := by
          have : (M - L) * n ≤ 4 * 4 := Nat.mul_le_mul hM4 hn
          exact Nat.lt_succ_of_le this
        have hz22 : ∃ sh, sh = (M - L) * n := ⟨_, rfl⟩
        (refine ex1 hz22 fun sh hsh => ?_)
        try clear hz22
        rw [← hsh] at F6 hs17
        have eu : ((xv : Nat) : Int).fdiv (2 ^ ((sh : Nat) : Int).toNat) = ((xv >>> sh : Nat) : Int) := by
          rw [Int.toNat_natCast, Nat.shiftRight_eq_div_pow, Int.fdiv_eq_ediv_of_nonneg _ (by exact Int.le_of_lt (Int.pow_pos (by decide)))]
          push_cast; rfl
        have hvu : ((xv >>> sh : Nat) : Int).natAbs < 2 ^ 64 := by
          rw [Int.natAbs_natCast, Nat.shiftRight_eq_div_pow]
          exact Nat.lt_of_le_of_lt (Nat.div_le_self xv (2 ^ sh)) (Nat.lt_trans hx (by decide))
        have hs0 : (0 : Int) ≤ ((sh : Nat) : Int) := Int.natCast_nonneg _
        have hsm : ((sh : Nat) : Int) ≤ 1000000 := Int.ofNat_le.mpr (Nat.le_trans (Nat.le_of_lt hs17) (by decide))
        iterate 7 walk1
        (try dsimp only)
        with_reducible rename Fr _ _ _ _ => F7
        rw [eu] at F7
        have exl : ((xv >>> sh : Nat) : Int) * 2 ^ ((sh : Nat) : Int).toNat = (((xv >>> sh) <<< sh : Nat) : Int) := by
          rw [Int.toNat_natCast, Nat.shiftLeft_eq]; push_cast; rfl
        iterate 10 walk1
        (try dsimp only)
        with_reducible rename Fr _ _ _ _ => F8
        rw [exl, xor_low hx hs17] at F8
        rw [hO] at HfG
        have hkM : n * (M - L) = sh := by rw [hsh, Nat.mul_comm]
        iterate 4 walk1
        (try dsimp only)
        refine callWith_F ⟨_, _, _, _, F8.keep _ _ HfG⟩ ?_
        (try dsimp only)
        iterate 7 walk1
        (try dsimp only)
        with_reducible rename Fr _ _ _ _ => F8
        with_reducible rename News _ _ _ _ => N8
        refine ⟨⟨_, _, _, _, F8.keep _ _ HfG⟩, rc _ (xv % 2 ^ sh) L M _ _ _ _ _ us ns _ rfl rfl hM1 (Nat.le_trans (Nat.le_of_lt hM2) hjN) (lo_k hjk hM1 hM2) (Nat.lt_of_le_of_lt (Nat.mod_le _ _) hx) (by rw [hkM]; exact Nat.mod_lt _ (Nat.two_pow_pos _)) hus hnl F8 N8 fun h9 tk9 us9 ns9 F9 N9 hus9 hnl9 hd9 hr9 => ?_⟩
        clear F8 N8
        iterate 4 walk1
        (try dsimp only)
        refine callWith_F ⟨_, _, _, _, F9.keep _ _ HfG⟩ ?_
        (try dsimp only)
        iterate 7 walk1
        (try dsimp only)
        with_reducible rename Fr _ _ _ _ => F9
        with_reducible rename News _ _ _ _ => N9
        have hup2 : xv >>> sh < 2 ^ (n * (j - M)) := by
          rw [Nat.shiftRight_eq_div_pow]
          refine Nat.div_lt_of_lt_mul ?_
          rw [← Nat.pow_add, ← hkM, ← Nat.mul_add, show M - L + (j - M) = k from (mid_sum hM1 (Nat.le_of_lt hM2)).trans hjk]
          exact hxk
        have hux : xv >>> sh < 256 := by
          rw [Nat.shiftRight_eq_div_pow]
          exact Nat.lt_of_le_of_lt (Nat.div_le_self _ _) hx
        refine ⟨⟨_, _, _, _, F9.keep _ _ HfG⟩, rc _ (xv >>> sh) M j _ _ _ _ _ us9 ns9 _ rfl rfl hM2 hjN (hi_k hjk hM1 hM2) hux hup2 hus9 hnl9 F9 N9 fun h10 tk10 us10 ns10 F10 N10 hus10 hnl10 hd10 hr10 => ?_⟩
        clear F9 N9
        k_steps
        with_reducible rename Fr _ _ _ _ => F10
        with_reducible rename News _ _ _ _ => N10
        refine ret _ _ _ _ (fun b o hb e => F10.keep b o (by rw [← hG']; exact hideAll_get _ e fun q => hb (List.mem_singleton.mp q))) (N10 _ (.head _)).1 hus10 hnl10 (fun i h1 h2 => ?_) fun i h => ?_
        · rcases Nat.lt_or_ge i M with hiM | hiM
          · rw [hr10 i (.inl hiM), hd9 i h1 hiM, ← hkM, dg_low (Nat.sub_lt_sub_right h1 hiM)]
          · rw [hd10 i hiM h2, Nat.shiftRight_eq_div_pow, ← hkM, dg_high, off_sum (Nat.le_of_lt hM1) hiM]
        · rw [hr10 i (h.imp (fun q => Nat.lt_trans q hM1) id), hr9 i (h.imp id fun q => Nat.le_trans (Nat.le_of_lt hM2) q)]
  have hz0 : us0.length ≤ sizeLine := by rw [hl0, sizeLine_eq]; lia
  have hus1 : IntsAre us0 (List.replicate NN 0) := by
    rw [← hus0, Int.toNat_natCast]
    exact ints_rep NN tk'
  iterate 6 walk1
  (try dsimp only)
  case refine_2 => rename_i hb; exact absurd hb (by have := Nat.two_pow_pos mm; lia)
  iterate 4 walk1
  (try dsimp only)
  refine callWith_F ⟨_, _, _, _, hO ▸ Hf⟩ ?_
  (try dsimp only)
  iterate 13 walk1
  (try dsimp only)
  with_reducible rename Fr _ _ _ _ => F6
  with_reducible rename News _ _ _ _ => N6
  rw [hl0]
  have hDG : G.get? D = none := (N6 _ (.tail _ (.tail _ (.head _)))).2.2
  have hDs : s.heap.objs.size ≠ D := fun e => (N6 _ (.tail _ (.tail _ (.head _)))).2.1 e.symm
  have hlD : s.heap.get? D = none := by
    cases e : s.heap.get? D with
    | none => rfl
    | some o =>
      have hx : (hideAll s.heap ([(54, tabObj #[])].map (·.1))).get? D = some o := hideAll_get _ e fun q => hD54 (List.mem_singleton.mp q)
      rw [hG, hDG] at hx; cases hx
  refine ⟨⟨_, _, _, _, hO ▸ Hf⟩, wpAny_call ?_⟩
  refine below_le (d := 350 - NN) (u := 150 - 5 * NN) ?_ rfl ?_ ?_ (Around.frames_deeper B.stack)
  · refine key NN hlen8 _ _ _ (2 ^ mm) 0 NN _ _ _ us0 (List.replicate NN 0) hNpos (Nat.le_refl _) (Nat.sub_zero _) hp256 hpow hus1 (by simp) (fun _ _ _ e => e) HD (below_hideE B F6 (fun q hq => by rw [List.mem_singleton.mp hq]; exact hDG) (fun q => hDs (List.mem_singleton.mp q)) rfl rfl) fun h7 tk7 us7 ns7 hk7 hd7 hu7 hn7 hdig hoth => ?_
    have F7 : Fr G s.heap.objs.size h7 _ := ⟨F6.ns.at' fun o e => hk7 _ o hDs e, fun b o e => hk7 b o (fun q => by rw [q, hDG] at e; cases e) (F6.keep b o e), F6.above⟩
    have N7 : News G s.heap.objs.size h7 ((D, listO us7 0) :: (s.heap.objs.size + 2, o4) :: (54, tabObj p54) :: []) := fun q hq => by
      simp only [List.mem_cons, List.not_mem_nil, or_false] at hq
      rcases hq with h | h | h
      · subst h; exact ⟨hd7, fun e => hDs e.symm, hDG⟩
      · subst h
        have z := N6 (s.heap.objs.size + 2, o4) (by simp)
        exact ⟨hk7 _ _ hD2.symm z.1, z.2⟩
      · subst h
        have z := N6 (54, tabObj p54) (by simp)
        exact ⟨hk7 _ _ hD54.symm z.1, z.2⟩
    clear F6 N6 key
    k_steps
    refine ret _ _ D us7 0 (fun b o hb e => ?_) hd7 hlD ⟨p54, (N7 _ (.tail _ (.tail _ (.head _)))).1⟩ ?_
    · have hb2 : b ≠ D := fun q => by rw [q, hlD] at e; cases e
      exact F7.keep b o (hG ▸ hideAll_get _ e fun q => hb (List.mem_singleton.mp q))
    · have e : ns7 = (List.range NN).map fun i => (((2 ^ mm / 2 ^ (n * i)) % 2 ^ n : Nat) : Int) := by
        apply List.ext_getElem?
        intro i
        rcases Nat.lt_or_ge i NN with h | h
        · rw [hdig i (Nat.zero_le _) h, List.getElem?_map, List.getElem?_range h, Nat.sub_zero]; rfl
        · rw [List.getElem?_eq_none (by lia), List.getElem?_eq_none (by simp; lia)]
      rw [← e]; exact hu7
  · exact d337 hlen8
  · exact d103 hlen8
theorem i2d_c (w : World) (p : Program) (loose : List PySem.Str) (mean : ExcName → Option Value) (mg mb : PySem.Str → Option Value) (outer : List Env) (base : Heap) (s : Shared) (R : Result → Shared → Prop) (g : Heap) (mm n : Nat) (ta tn : Tok) (hm : mm ≤ 7) (hn1 : 1 ≤ n) (hn : n ≤ 4) (hk : ∀ b o, g.get? b = some o → s.heap.get? b = some o) (hg : g.get? 54 = none) (h54 : s.heap.get? 54 = some (tabObj #[])) : Below (AT 336 100 outer) base outer g → (hd.heap_1 w.params).In g → Top p loose mean mg mb g →
  (∀ h' tk' dl us k, (∀ b o, b ≠ 54 → s.heap.get? b = some o → h'.get? b = some o) → h'.get? dl = some (listO us k) → s.heap.get? dl = none → (∃ q, h'.get? 54 = some (tabObj q)) → IntsAre us ((List.range ((mm + n) / n)).map fun i => (((2 ^ mm / 2 ^ (n * i)) % 2 ^ n : Nat) : Int)) → R (.ok (.ret (.ref dl))) { s with heap := h', toks := tk' }) →
  codeAny (model PySem.Challenge.rw_to0081_01.prog w) (AT 336 100 outer) (.call (.ref 59) ⟨[.int ((2 ^ mm : Nat) : Int) ta, .int (n : Nat) tn], []⟩) R s := hil_ (Q := fun x => i2d_c.S x.1 x.2.1 x.2.2.1 x.2.2.2.1 x.2.2.2.2.1 x.2.2.2.2.2.1 x.2.2.2.2.2.2.1 x.2.2.2.2.2.2.2.1 x.2.2.2.2.2.2.2.2.1 x.2.2.2.2.2.2.2.2.2.1 x.2.2.2.2.2.2.2.2.2.2.1 x.2.2.2.2.2.2.2.2.2.2.2.1 x.2.2.2.2.2.2.2.2.2.2.2.2.1 x.2.2.2.2.2.2.2.2.2.2.2.2.2) (by with_unfolding_all exact i2d_c.core) (w, p, loose, mean, mg, mb, outer, base, s, R, g, mm, ta, tn) n hm hn1 hn hk hg h54

end
section
-- hil-done: dpos_c idm_c
-- macros2 -- macros3
/-- the long division, digit by digit -/
noncomputable def dv (b n : Nat) : List Nat → Nat × List Nat
  | ds => ds.foldl (fun y d => ((y.1 * 2 ^ n + d) % b, y.2 ++ [(y.1 * 2 ^ n + d) / b])) (0, [])
theorem dv_snoc (b n : Nat) (ds : List Nat) (d : Nat) : dv b n (ds ++ [d]) = (((dv b n ds).1 * 2 ^ n + d) % b, (dv b n ds).2 ++ [((dv b n ds).1 * 2 ^ n + d) / b]) := by
  unfold dv; rw [List.foldl_append]; rfl
theorem dv_len (b n : Nat) (ds : List Nat) : (dv b n ds).2.length = ds.length := by
  have key : ∀ (ds : List Nat) (y : Nat × List Nat), (ds.foldl (fun y d => ((y.1 * 2 ^ n + d) % b, y.2 ++ [(y.1 * 2 ^ n + d) / b])) y).2.length = y.2.length + ds.length := by
    intro ds
    induction ds with
    | nil => exact fun y => rfl
    | cons d r ih => intro y; rw [List.foldl_cons, ih]; simp; lia
  rw [dv, key]; simp
theorem code_ex' {G h : Heap} {L c : Addr} {m : PySem.Str → Option Value} {news : List (Addr × Obj)} {qual : PySem.Str} (H : h.CodeRec (.ref c) qual) (F : Fr G L h m) (N : News G L h news) :
    ∃ ex, (∀ h'' : Heap, (∀ b o, G.get? b = some o → h''.get? b = some o) → (∀ q ∈ ex, h''.get? q.1 = some q.2) → h''.CodeRec (.ref c) qual) ∧ (∀ q ∈ ex, q.1 = c) ∧ News G L h (news ++ ex) := by
  (refine ex4 H fun c2 oc ws t hz3 => ?_; refine and4 hz3 fun e2 e3 e4 e5 => ?_; clear hz3)
  try clear H
  cases q0 : G.get? c2 with
  | some o =>
    refine ⟨[], fun h'' k _ => ⟨c2, oc, ws, t, e2, ?_, e4, e5⟩, (fun _ h => nomatch h), by rw [List.append_nil]; exact N⟩
    have := F.keep _ _ q0
    rw [e3] at this; cases this
    exact k _ _ q0
  | none =>
    refine ⟨[(c2, oc)], fun h'' _ k => ⟨c2, oc, ws, t, e2, k _ (.head _), e4, e5⟩, (fun q hq => by rw [List.mem_singleton.mp hq]; exact (Value.ref.inj e2).symm), fun q hq => ?_⟩
    rcases List.mem_append.mp hq with hq | hq
    · exact N q hq
    · rw [List.mem_singleton.mp hq]
      refine ⟨e3, fun e => ?_, q0⟩
      have hz7 := F.ns
      (refine ex3 hz7 fun oL _ _ hz9 => ?_; refine and3 hz9 fun hL hd _ => ?_; clear hz9)
      try clear hz7
      rw [show c2 = L from e, hL] at e3
      cases e3
      rw [e4] at hd; cases hd
theorem code_ex {G h : Heap} {L c : Addr} {m : PySem.Str → Option Value} {news : List (Addr × Obj)} {qual : PySem.Str} (H : h.CodeRec (.ref c) qual) (F : Fr G L h m) (N : News G L h news) :
    ∃ ex, (∀ h'' : Heap, (∀ b o, G.get? b = some o → h''.get? b = some o) → (∀ q ∈ ex, h''.get? q.1 = some q.2) → h''.CodeRec (.ref c) qual) ∧ News G L h (news ++ ex) := let ⟨ex, a, _, b⟩ := code_ex' H F N; ⟨ex, a, b⟩
theorem dv_small {b n : Nat} (hn : n ≤ 4) (hb1 : 1 ≤ b) (hb8 : b ≤ 8) {ds : List Nat} (hd : ∀ d ∈ ds, d < 2 ^ n) : ∀ q ∈ (dv b n ds).2, q < 256 := by
  have h16 : 2 ^ n ≤ 2 ^ 4 := Nat.pow_le_pow_right (by decide) hn
  have key : ∀ (ds : List Nat) (y : Nat × List Nat), (∀ d ∈ ds, d < 2 ^ n) → y.1 < b → (∀ q ∈ y.2, q < 256) → ∀ q ∈ (ds.foldl (fun y d => ((y.1 * 2 ^ n + d) % b, y.2 ++ [(y.1 * 2 ^ n + d) / b])) y).2, q < 256 := by
    intro ds
    induction ds with
    | nil => exact fun y _ _ h => h
    | cons d r ih =>
      intro y hd hy hq
      refine ih _ (fun d hm => hd d (.tail _ hm)) (Nat.mod_lt _ hb1) fun q hm => ?_
      rcases List.mem_append.mp hm with hm | hm
      · exact hq q hm
      · rw [List.mem_singleton.mp hm]
        have h1 := hd d (.head _)
        have h2 : y.1 * 2 ^ n ≤ 8 * 2 ^ 4 := Nat.mul_le_mul (by lia) h16
        exact Nat.lt_of_le_of_lt (Nat.div_le_self _ _) (div256 (q := 0) h16 h2 h1)
  exact key ds _ hd hb1 (fun _ h => nomatch h)
theorem ints_rev {vs : List Value} {ns : List Int} (h : IntsAre vs ns) : IntsAre vs.reverse ns.reverse := by
  induction h with
  | nil => exact .nil
  | cons n t _ ih => rw [List.reverse_cons, List.reverse_cons]; exact ih.append (.cons n t .nil)
theorem dv_lt {b n : Nat} (hb : 1 ≤ b) (ds : List Nat) : (dv b n ds).1 < b := by
  have key : ∀ (ds : List Nat) (y : Nat × List Nat), y.1 < b → (ds.foldl (fun y d => ((y.1 * 2 ^ n + d) % b, y.2 ++ [(y.1 * 2 ^ n + d) / b])) y).1 < b := by
    intro ds
    induction ds with
    | nil => exact fun y h => h
    | cons d r ih => intro y _; exact ih _ (Nat.mod_lt _ hb)
  exact key ds _ hb
theorem bits_le {a : Nat} (h : a < 256) : Builtin.Int.intBits ((a : Nat) : Int) ≤ 9 := by
  have tab : ∀ a < 256, Builtin.Int.intBits ((a : Nat) : Int) ≤ 9 := by decide +kernel
  exact tab a h
theorem div2_c (w : World) (p : Program) (loose : List PySem.Str) (mean : ExcName → Option Value) (mg mb : PySem.Str → Option Value)
  (outer : List Env) (base : Heap) (s : Shared) (R : Result → Shared → Prop) 
  (a b n : Nat) (ta tb tn : Tok) (ha : a < 256) (hb1 : 1 ≤ b) (hb8 : b ≤ 8) (hn : n ≤ 4) : Below (AT 338 100 outer) base outer s.heap → (hd.heap_1 w.params).In s.heap → Top p loose mean mg mb s.heap →
  (∀ L' m' news' h' tk' D t1 t2, Fr s.heap L' h' m' → News s.heap L' h' news' → (D, { cls := .type "tuple", data := .seq #[.int ((a / b : Nat) : Int) t1, .int ((a % b : Nat) : Int) t2] }) ∈ news' → R (.ok (.ret (.ref D))) { s with heap := h', toks := tk' }) →
  codeAny (model PySem.Challenge.rw_to0081_01.prog w) (AT 338 100 outer) (.call (.ref 45) ⟨[.int (a : Nat) ta, .int (b : Nat) tb, .int (n : Nat) tn], []⟩) R s := by
  k_fill
  intro B X T ret
  k_dflt (refine' enter ?k1 ?k2 ?k3 ?k4 ?k5 ?k6 ?k7 ?_ ?c2 ?c3 ?c4 ?c5; (case k1 => k_asm); (case k2 => k_asm); (case k3 => k_is); (case k4 => k_is); (case k5 => exact Nat.le_of_ble_eq_true rfl); (case k6 => exact BindsTo.of_eq rfl); (case k7 => exact locs rfl); (case c2 => exact rfl); (case c3 => exact rfl); (case c4 => exact rfl); (case c5 => decide); k_whole; intro h' F' N'; (try dsimp only); (try k_fold))
  have hbits := bits_le ha
  k_steps
  with_reducible rename Fr _ _ _ _ => F9
  with_reducible rename News _ _ _ _ => N9
  have e1 : ((a : Nat) : Int).fdiv ((b : Nat) : Int) = ((a / b : Nat) : Int) := by rw [Int.fdiv_eq_ediv_of_nonneg _ (by lia)]; rfl
  have e2 : ((a : Nat) : Int).fmod ((b : Nat) : Int) = ((a % b : Nat) : Int) := by rw [Int.fmod_eq_emod_of_nonneg _ (by lia)]; rfl
  rw [e1, e2] at N9
  exact ret _ _ _ _ _ _ _ _ F9 N9 (.head _)
theorem call_div2 {w : World} {p : Program} {loose : List PySem.Str} {mean : ExcName → Option Value} {mg mb : PySem.Str → Option Value} {A : Around} {outer : List Env} {base G : Heap} {s : Shared} {Q E : Value → Shared → Prop} {L f : Addr} {m : PySem.Str → Option Value} {name : PySem.Str} {scope : Scope} {cd : Value} {news : List (Addr × Obj)}
    {a b n : Nat} {ta tb tn : Tok} (B : Below A base outer G) (X : (hd.heap_1 w.params).In G) (T : Top p loose mean mg mb G) (F : Fr G L s.heap m) (N : News G L s.heap news) (ha : a < 256) (hb1 : 1 ≤ b) (hb8 : b ≤ 8) (hn : n ≤ 4)
    (h : ∀ h' tk' D t1 t2, Fr G L h' m → News G L h' ((D, { cls := .type "tuple", data := .seq #[.int ((a / b : Nat) : Int) t1, .int ((a % b : Nat) : Int) t2] }) :: news) → (∀ q ∈ news, q.1 ≠ D) → Q (.ref D) { s with heap := h', toks := tk' })
    (h0 : A.handled = none) (h1 : A.depth ≤ 337) (h2 : A.units ≤ 97) (hkd : scope.kind = .function := by rfl) :
    wpAny (model PySem.Challenge.rw_to0081_01.prog w) (A.deeper (envOf name scope L f cd)) (call (.ref 45) [.int (a : Nat) ta, .int (b : Nat) tb, .int (n : Nat) tn]) Q E s := by
  refine wpAny_call ?_
  have B' := B.push (name := name) (a := f) (cd := cd) F hkd
  have X' := X.keeps F.keep
  have T' := T.keeps F.keep
  refine below_le (d := 338) (u := 100) (outer := envOf name scope L f cd :: outer) ?_ h0 ?_ ?_ ?_
  · refine div2_c w p loose mean mg mb (envOf name scope L f cd :: outer) base s _ a b n ta tb tn ha hb1 hb8 hn ⟨rfl, B'.stays, B'.frames⟩ X' T' fun L' m' news' h' tk' D t1 t2 F' N' hD => h h' tk' D t1 t2 (F.keeps F'.keep) (fun q hq => ?_) fun q hq e => ?_
    · rcases List.mem_cons.mp hq with rfl | hq
      · exact after_news F N F' N' _ (List.mem_append_right _ hD)
      · exact N.grown F'.keep q hq
    · have := (N' _ hD).2.2
      rw [← e, (N q hq).1] at this; cases this
  · exact Nat.succ_le_succ h1
  · exact Nat.le_trans (Nat.add_le_add_right h2 3) (by decide)
  · exact B'.stack
theorem callE_i2d {w : World} {p : Program} {loose : List PySem.Str} {mean : ExcName → Option Value} {mg mb : PySem.Str → Option Value} {A : Around} {outer : List Env} {base G : Heap} {s : Shared} {Q E : Value → Shared → Prop} {L : Addr} {m : PySem.Str → Option Value} {news : List (Addr × Obj)} {E1 : Env}
    {mm n : Nat} {ta tn : Tok} (B : Below A base outer G) (X : (hd.heap_1 w.params).In G) (T : Top p loose mean mg mb G) (F : Fr G L s.heap m) (N : News G L s.heap ((54, tabObj #[]) :: news)) (hsep : ∀ q ∈ news, q.1 ≠ 54) (hm : mm ≤ 7) (hn1 : 1 ≤ n) (hn : n ≤ 4)
    (h : ∀ h' tk' dl us k p54, Fr G L h' m → News G L h' ((dl, listO us k) :: (54, tabObj p54) :: news) → (∀ q ∈ (54, tabObj p54) :: news, q.1 ≠ dl) → IntsAre us ((List.range ((mm + n) / n)).map fun i => (((2 ^ mm / 2 ^ (n * i)) % 2 ^ n : Nat) : Int)) → Q (.ref dl) { s with heap := h', toks := tk' })
    (h0 : A.handled = none) (h1 : A.depth ≤ 335) (h2 : A.units ≤ 90) (hf : E1.frame = some L := by rfl) (hkd : E1.scope.kind = .function := by rfl) :
    wpAny (model PySem.Challenge.rw_to0081_01.prog w) (A.deeper E1) (call (.ref 59) [.int ((2 ^ mm : Nat) : Int) ta, .int (n : Nat) tn]) Q E s := by
  refine wpAny_call ?_
  have n54 := N _ (.head _)
  have hg : ∀ b ∈ [(54 : Addr)], G.get? b = none := fun b hb => by rw [List.mem_singleton.mp hb]; exact n54.2.2
  have hL : L ∉ [(54 : Addr)] := fun hb => n54.2.1 (List.mem_singleton.mp hb).symm
  have hup : ∀ b o, G.get? b = some o → (hideAll s.heap [54]).get? b = some o := hide_up F.keep hg
  have B' : Below (AT 336 100 (E1 :: outer)) base (E1 :: outer) (hideAll s.heap [54]) := below_hideE B F hg hL hf hkd
  refine below_le (d := 336) (u := 100) (outer := E1 :: outer) ?_ h0 ?_ ?_ (Around.frames_deeper B.stack)
  · refine i2d_c w p loose mean mg mb (E1 :: outer) base s _ (hideAll s.heap [54]) mm n ta tn hm hn1 hn (fun b o e => of_hideAll _ e) (hideAll_none _ (.head _)) n54.1 B' (X.keeps hup) (T.keeps hup) fun h' tk' dl us k hk hdl hnew h54q hus => ?_
    (refine ex1 h54q fun p54 hz12 => ?_)
    try clear h54q
    have h54q := hz12
    clear hz12
    have hd54 : dl ≠ 54 := fun e => by rw [e, n54.1] at hnew; cases hnew
    have kG : ∀ b o, G.get? b = some o → h'.get? b = some o := fun b o e => hk b o (fun q => by rw [q, n54.2.2] at e; cases e) (F.keep b o e)
    refine h h' tk' dl us k p54 ⟨F.ns.at' fun o e => hk _ o (fun q => n54.2.1 q.symm) e, kG, F.above⟩ (fun q hq => ?_) (fun q hq e => ?_) hus
    · rcases List.mem_cons.mp hq with rfl | hq
      · refine ⟨hdl, fun e => ?_, ?_⟩
        · have hz13 := F.ns
          (refine ex3 hz13 fun oL _ _ hz14 => ?_; refine and2 hz14 fun hLL _ => ?_; clear hz14)
          try clear hz13
          rw [show dl = L from e, hLL] at hnew; cases hnew
        · show G.get? dl = none
          cases q : G.get? dl with
          | none => rfl
          | some o => rw [F.keep _ _ q] at hnew; cases hnew
      · rcases List.mem_cons.mp hq with rfl | hq
        · exact ⟨h54q, n54.2⟩
        · exact ⟨hk _ _ (hsep q hq) (N q (.tail _ hq)).1, (N q (.tail _ hq)).2⟩
    · rcases List.mem_cons.mp hq with rfl | hq
      · exact hd54 e.symm
      · have := (N q (.tail _ hq)).1
        rw [e, hnew] at this; cases this
  · exact Nat.succ_le_succ h1
  · exact Nat.le_trans (Nat.add_le_add_right h2 3) (by decide)
noncomputable def i2dN (mm n : Nat) : List Nat := (List.range ((mm + n) / n)).map fun i => (2 ^ mm / 2 ^ (n * i)) % 2 ^ n
theorem dv_fin {mm b : Nat} (hm : mm ≤ 7) (hb1 : 1 ≤ b) (hb8 : b ≤ 8) : (dv b (Builtin.Int.intBits ((b : Nat) : Int)) (i2dN mm (Builtin.Int.intBits ((b : Nat) : Int))).reverse).1 = 2 ^ mm % b ∧
    valD (dv b (Builtin.Int.intBits ((b : Nat) : Int)) (i2dN mm (Builtin.Int.intBits ((b : Nat) : Int))).reverse).2.reverse (Builtin.Int.intBits ((b : Nat) : Int)) 0 (dv b (Builtin.Int.intBits ((b : Nat) : Int)) (i2dN mm (Builtin.Int.intBits ((b : Nat) : Int))).reverse).2.length = 2 ^ mm / b := by
  have tab : ∀ mm ≤ 7, ∀ b ≤ 8, 1 ≤ b → (dv b (Builtin.Int.intBits ((b : Nat) : Int)) (i2dN mm (Builtin.Int.intBits ((b : Nat) : Int))).reverse).1 = 2 ^ mm % b ∧
    valD (dv b (Builtin.Int.intBits ((b : Nat) : Int)) (i2dN mm (Builtin.Int.intBits ((b : Nat) : Int))).reverse).2.reverse (Builtin.Int.intBits ((b : Nat) : Int)) 0 (dv b (Builtin.Int.intBits ((b : Nat) : Int)) (i2dN mm (Builtin.Int.intBits ((b : Nat) : Int))).reverse).2.length = 2 ^ mm / b := by decide +kernel
  exact tab mm hm b hb8 hb1
theorem bits_b {b : Nat} (hb1 : 1 ≤ b) (hb8 : b ≤ 8) : 1 ≤ Builtin.Int.intBits ((b : Nat) : Int) ∧ Builtin.Int.intBits ((b : Nat) : Int) ≤ 4 ∧ b ≤ 2 ^ Builtin.Int.intBits ((b : Nat) : Int) := by
  have tab : ∀ b ≤ 8, 1 ≤ b → 1 ≤ Builtin.Int.intBits ((b : Nat) : Int) ∧ Builtin.Int.intBits ((b : Nat) : Int) ≤ 4 ∧ b ≤ 2 ^ Builtin.Int.intBits ((b : Nat) : Int) := by decide +kernel
  exact tab b hb8 hb1
noncomputable def dpos_c.S (w : World) (p : Program) (loose : List PySem.Str) (mean : ExcName → Option Value) (mg : PySem.Str → Option Value) (mb : PySem.Str → Option Value) (outer : List Env) (base : Heap) (s : Shared) (R : Result → Shared → Prop) (g : Heap) (mm : Nat) (b : Nat) (ta : Tok) (tb : Tok) (ps : Array Value) : Prop := ∀ (hm : mm ≤ 7) (hb1 : 1 ≤ b) (hb8 : b ≤ 8) (hk : ∀ b o, g.get? b = some o → s.heap.get? b = some o) (hg54 : g.get? 54 = none) (hg61 : g.get? 61 = none) (h54 : s.heap.get? 54 = some (tabObj #[])) (h61 : s.heap.get? 61 = some (tabObj ps)) (hps : ps = #[] ∨ ∃ c', ps = #[rawInt 51, rawInt 4, .ref c'] ∧ g.CodeRec (.ref c') (PySem.Str.ofString "_digits2int.<locals>.inner") ∧ c' ≠ 61), Below (AT 334 80 outer) base outer g → (hd.heap_1 w.params).In g → Top p loose mean mg mb g →
  (∀ h' tk' D t1 t2 c', (∀ b o, b ≠ 54 → b ≠ 61 → s.heap.get? b = some o → h'.get? b = some o) → h'.get? 61 = some (tabObj #[rawInt 51, rawInt 4, .ref c']) → h'.CodeRec (.ref c') (PySem.Str.ofString "_digits2int.<locals>.inner") → c' ≠ 61 →
    h'.get? D = some { cls := .type "tuple", data := .seq #[.int ((2 ^ mm / b : Nat) : Int) t1, .int ((2 ^ mm % b : Nat) : Int) t2] } → s.heap.get? D = none → (∃ q, h'.get? 54 = some (tabObj q)) → R (.ok (.ret (.ref D))) { s with heap := h', toks := tk' }) →
  codeAny (model PySem.Challenge.rw_to0081_01.prog w) (AT 334 80 outer) (.call (.ref 73) ⟨[.int ((2 ^ mm : Nat) : Int) ta, .int (b : Nat) tb], []⟩) R s
noncomputable def dpos_c.e : World × Program × (List PySem.Str) × (ExcName → Option Value) × (PySem.Str → Option Value) × (PySem.Str → Option Value) × (List Env) × Heap × Shared × (Result → Shared → Prop) × Heap × Nat × Nat × Tok × Tok × (Array Value) := haveI := ne_w; haveI := ne_s; haveI := ne_a; haveI := ne_g; Classical.epsilon fun x => ¬ dpos_c.S x.1 x.2.1 x.2.2.1 x.2.2.2.1 x.2.2.2.2.1 x.2.2.2.2.2.1 x.2.2.2.2.2.2.1 x.2.2.2.2.2.2.2.1 x.2.2.2.2.2.2.2.2.1 x.2.2.2.2.2.2.2.2.2.1 x.2.2.2.2.2.2.2.2.2.2.1 x.2.2.2.2.2.2.2.2.2.2.2.1 x.2.2.2.2.2.2.2.2.2.2.2.2.1 x.2.2.2.2.2.2.2.2.2.2.2.2.2.1 x.2.2.2.2.2.2.2.2.2.2.2.2.2.2.1 x.2.2.2.2.2.2.2.2.2.2.2.2.2.2.2
@[irreducible] noncomputable def dpos_c.w : World := dpos_c.e.1
@[irreducible] noncomputable def dpos_c.p : Program := dpos_c.e.2.1
@[irreducible] noncomputable def dpos_c.loose : List PySem.Str := dpos_c.e.2.2.1
@[irreducible] noncomputable def dpos_c.mean : ExcName → Option Value := dpos_c.e.2.2.2.1
@[irreducible] noncomputable def dpos_c.mg : PySem.Str → Option Value := dpos_c.e.2.2.2.2.1
@[irreducible] noncomputable def dpos_c.mb : PySem.Str → Option Value := dpos_c.e.2.2.2.2.2.1
@[irreducible] noncomputable def dpos_c.outer : List Env := dpos_c.e.2.2.2.2.2.2.1
@[irreducible] noncomputable def dpos_c.base : Heap := dpos_c.e.2.2.2.2.2.2.2.1
@[irreducible] noncomputable def dpos_c.s : Shared := dpos_c.e.2.2.2.2.2.2.2.2.1
@[irreducible] noncomputable def dpos_c.R : Result → Shared → Prop := dpos_c.e.2.2.2.2.2.2.2.2.2.1
@[irreducible] noncomputable def dpos_c.g : Heap := dpos_c.e.2.2.2.2.2.2.2.2.2.2.1
@[irreducible] noncomputable def dpos_c.mm : Nat := dpos_c.e.2.2.2.2.2.2.2.2.2.2.2.1
@[irreducible] noncomputable def dpos_c.b : Nat := dpos_c.e.2.2.2.2.2.2.2.2.2.2.2.2.1
@[irreducible] noncomputable def dpos_c.ta : Tok := dpos_c.e.2.2.2.2.2.2.2.2.2.2.2.2.2.1
@[irreducible] noncomputable def dpos_c.tb : Tok := dpos_c.e.2.2.2.2.2.2.2.2.2.2.2.2.2.2.1
@[irreducible] noncomputable def dpos_c.ps : Array Value := dpos_c.e.2.2.2.2.2.2.2.2.2.2.2.2.2.2.2
theorem dpos_c.core : dpos_c.S dpos_c.w dpos_c.p dpos_c.loose dpos_c.mean dpos_c.mg dpos_c.mb dpos_c.outer dpos_c.base dpos_c.s dpos_c.R dpos_c.g dpos_c.mm dpos_c.b dpos_c.ta dpos_c.tb dpos_c.ps := by
  delta dpos_c.S
  intro hm hb1 hb8 hk hg54 hg61 h54 h61 hps
  k_fill
  intro B0 X0 T0 ret
  have X1 := X0.keeps hk
  have T1 := T0.keeps hk
  have ho : ∀ q ∈ [(54, tabObj #[]), (61, tabObj ps)], s.heap.get? q.1 = some q.2 := fun q hq => by
    rcases List.mem_cons.mp hq with rfl | hq
    · exact h54
    · rw [List.mem_singleton.mp hq]; exact h61
  have hup : ∀ b o, g.get? b = some o → (hideAll s.heap ([(54, tabObj #[]), (61, tabObj ps)].map (·.1))).get? b = some o := hide_up hk fun a ha => by
    simp only [List.map_cons, List.map_nil, List.mem_cons, List.not_mem_nil, or_false] at ha
    rcases ha with rfl | rfl
    · exact hg54
    · exact hg61
  have B := below_keeps B0 hup
  have X := X0.keeps hup
  have T := T0.keeps hup
  k_dflt (refine' enter ?k1 ?k2 ?k3 ?k4 ?k5 ?k6 ?k7 ?_ ?c2 ?c3 ?c4 ?c5; (case k1 => exact X1); (case k2 => exact T1); (case k3 => k_is); (case k4 => k_is); (case k5 => exact Nat.le_of_ble_eq_true rfl); (case k6 => exact BindsTo.of_eq rfl); (case k7 => exact locs rfl); (case c2 => exact rfl); (case c3 => exact rfl); (case c4 => exact rfl); (case c5 => decide); k_whole; intro h' F0 N0; (try dsimp only); (try k_fold))
  have F' := hide_fr (as := [(54, tabObj #[]), (61, tabObj ps)].map (·.1)) F0
  have N' : News (hideAll s.heap ([(54, tabObj #[]), (61, tabObj ps)].map (·.1))) s.heap.objs.size h' [(54, tabObj #[]), (61, tabObj ps)] := hide_news ho F0
  have hpsG : ps = #[] ∨ ∃ c', ps = #[rawInt 51, rawInt 4, .ref c'] ∧ (hideAll s.heap ([(54, tabObj #[]), (61, tabObj ps)].map (·.1))).CodeRec (.ref c') (PySem.Str.ofString "_digits2int.<locals>.inner") ∧ c' ≠ 61 := by
    rcases hps with e | ⟨c', e, ⟨c2, oc, ws, t, e2, e3, e4⟩, hn⟩
    · exact .inl e
    · exact .inr ⟨c', e, ⟨c2, oc, ws, t, e2, hup _ _ e3, e4⟩, hn⟩
  have fin : ∀ h'' tk'' D t1 t2 c' m'' news'', Fr (hideAll s.heap ([(54, tabObj #[]), (61, tabObj ps)].map (·.1))) s.heap.objs.size h'' m'' → News (hideAll s.heap ([(54, tabObj #[]), (61, tabObj ps)].map (·.1))) s.heap.objs.size h'' news'' →
      (61, tabObj #[rawInt 51, rawInt 4, .ref c']) ∈ news'' → (D, ({ cls := .type "tuple", data := .seq #[.int ((2 ^ mm / b : Nat) : Int) t1, .int ((2 ^ mm % b : Nat) : Int) t2] } : Obj)) ∈ news'' → h''.CodeRec (.ref c') (PySem.Str.ofString "_digits2int.<locals>.inner") → c' ≠ 61 → s.heap.get? D = none → (∃ q, (54, tabObj q) ∈ news'') → R (.ok (.ret (.ref D))) { s with heap := h'', toks := tk'' } := by
    intro h'' tk'' D t1 t2 c' m'' news'' F9 N9 h1 hD hc hc61 hD0
    intro hz17
    (refine ex1 hz17 fun q hq => ?_)
    try clear hz17
    refine ret h'' tk'' D t1 t2 c' (fun b o hb hb' e => ?_) (N9 _ h1).1 hc hc61 (N9 _ hD).1 hD0 ⟨q, (N9 _ hq).1⟩
    exact F9.keep b o (hideAll_get _ e (by simp [hb, hb']))
  have hnew : ∀ h'' m'' a, Fr (hideAll s.heap ([(54, tabObj #[]), (61, tabObj ps)].map (·.1))) s.heap.objs.size h'' m'' → a ≠ 54 → a ≠ 61 → (hideAll s.heap ([(54, tabObj #[]), (61, tabObj ps)].map (·.1))).get? a = none → s.heap.get? a = none := by
    intro h'' m'' a F9 h1 h2 h3
    cases q : s.heap.get? a with
    | none => rfl
    | some o => rw [hideAll_get _ q (by simp [h1, h2])] at h3; cases h3
  have hlt61 : (61 : Nat) < s.heap.objs.size := Heap.lt_size h61
  generalize hG : hideAll s.heap ([(54, tabObj #[]), (61, tabObj ps)].map (·.1)) = G at *
  clear F0 N0 X1 T1 X0 T0 B0 hup ho hps hg54 hg61 hk
  have hz18 := bits_b hb1 hb8
  (refine and3 hz18 fun hn1 hn4 hbn => ?_)
  try clear hz18
  iterate 18 walk1
  generalize hnn : Builtin.Int.intBits ((b : Nat) : Int) = nn at *
  with_reducible rename Fr _ _ _ _ => F1
  with_reducible rename News _ _ _ _ => N1
  refine ⟨X.keeps F1.keep, callE_i2d B X T F1 N1 (fun q hq => by rw [List.mem_singleton.mp hq]; show (61 : Nat) ≠ 54; decide) hm hn1 hn4 (fun h2 tk2 dl dus dk p54 F2 N2 hdl hdus => ?_) rfl (Nat.le_of_ble_eq_true rfl) (Nat.le_of_ble_eq_true rfl)⟩
  (try dsimp only)
  clear F1 N1
  have hi2 : IntsAre dus ((i2dN mm nn).map fun c : Nat => (c : Int)) := by
    unfold i2dN
    rw [List.map_map]
    exact hdus
  have hdl8 : (i2dN mm nn).length ≤ 8 := by
    unfold i2dN
    rw [List.length_map, List.length_range]
    have tab : ∀ n ≤ 4, 1 ≤ n → ∀ mm ≤ 7, (mm + n) / n ≤ 8 := by decide
    exact tab nn hn4 hn1 mm (by assumption)
  have hdl1 : 0 < (i2dN mm nn).length := by
    unfold i2dN
    rw [List.length_map, List.length_range]
    exact Nat.div_pos (by lia) hn1
  have hd16 : ∀ d ∈ i2dN mm nn, d < 2 ^ nn := by
    unfold i2dN
    intro d hd
    have hz20 := List.mem_map.mp hd
    (refine ex1 hz20 fun i hz22 => ?_; refine and2 hz22 fun _ hz21 => ?_; clear hz22)
    try clear hz20
    obtain rfl := hz21
    exact Nat.mod_lt _ (Nat.two_pow_pos nn)
  have hfin : (dv b nn (i2dN mm nn).reverse).1 = 2 ^ mm % b ∧ valD (dv b nn (i2dN mm nn).reverse).2.reverse nn 0 (dv b nn (i2dN mm nn).reverse).2.length = 2 ^ mm / b := by
    rw [← hnn]; exact dv_fin hm hb1 hb8
  have hdl61 : (61 : Nat) ≠ dl := hdl _ (.tail _ (.head _))
  clear hdus
  generalize i2dN mm nn = dsN at *
  iterate 14 walk1
  refine wpAny_For ?_
  iterate 6 walk1
  with_reducible rename Fr _ _ _ _ => F1
  with_reducible rename News _ _ _ _ => N1
  with_reducible rename _ ∧ _ => l1
  rename_i Qa _ _
  have hlv : dus.length = dsN.length := by have := hi2.length; simpa using this
  refine rev_at rfl ⟨_, (N1 _ (.tail _ (.head _))).1, rfl, _, rfl⟩ fun I h₂ fp St W H hfl => ?_
  refine for_name (fun g' => g' = s.gens) (fun i m nx => ∃ us k tr, m (PySem.Str.ofString "q_digits") = some (.ref Qa) ∧ m (PySem.Str.ofString "r") = some (.int ((dv b nn (dsN.reverse.take i)).1 : Nat) tr) ∧ m (PySem.Str.ofString "b") = some (.int (b : Nat) tb) ∧ (∃ tn, m (PySem.Str.ofString "n") = some (.int (nn : Nat) tn)) ∧
      nx = [(Qa, listO us k), (dl, listO dus dk), (54, tabObj p54), (61, tabObj ps)] ∧ IntsAre us ((dv b nn (dsN.reverse.take i)).2.map fun c : Nat => (c : Int)))
    W H rfl rfl F1 N1 rfl ⟨[], 0, _, rfl, rfl, rfl, ⟨_, rfl⟩, rfl, .nil⟩ ?turn ?done
  case done =>
    intro m₁ nx h4 g4 tk4
    intro hz23
    (refine ex3 hz23 fun us k tr hz30 => ?_; refine and6 hz30 fun e1 e2 e3 hz24 hz25 hus => ?_; clear hz30)
    try clear hz23
    (refine ex1 hz24 fun tn e4 => ?_)
    try clear hz24
    obtain rfl := hz25
    rintro rfl
    intro F N
    rw [List.take_of_length_le (by rw [List.length_reverse]; lia)] at hus e2
    rw [upd_self e1] at F
    rw [upd_self e2] at F
    rw [upd_self e3] at F
    rw [upd_self e4] at F
    clear F1 N1 W H
    (try dsimp only)
    have hql : (dv b nn dsN.reverse).2.length = dsN.length := by rw [dv_len, List.length_reverse]
    have hq256 := dv_small hn4 hb1 hb8 (ds := dsN.reverse) fun d hd => hd16 d (List.mem_reverse.mp hd)
    (refine and2 hfin fun hf1 hf2 => ?_)
    try clear hfin
    generalize dv b nn dsN.reverse = y at *
    iterate 6 walk1
    have hz : us.length ≤ sizeLine := by
      have h1 := hus.length
      rw [List.length_map] at h1
      rw [h1, sizeLine_eq]; lia
    refine kl_reverse (its := us.toArray) (l := us.reverse) (news' := [(Qa, listO us.reverse k), (dl, listO dus dk), (54, tabObj p54), (61, tabObj ps)]) F N (by simp) (.head fun q hq e => ?hqa) (by simpa using hz) fun h5 F5 N5 => ?_
    case hqa =>
      rcases List.mem_cons.mp hq with rfl | hq
      · exact absurd e (Nat.ne_of_lt l1.1)
      · rcases List.mem_cons.mp hq with rfl | hq
        · exact absurd e (Nat.ne_of_lt l1.2.1)
        · rw [List.mem_singleton.mp hq] at e
          exact absurd e (Nat.ne_of_lt l1.2.2)
    have hus5 : IntsAre us.reverse (y.2.reverse.map fun c : Nat => (c : Int)) := by
      rw [List.map_reverse]; exact ints_rev hus
    clear F N
    iterate 10 walk1
    with_reducible rename Fr _ _ _ _ => F6
    with_reducible rename News _ _ _ _ => N6
    have N7a := news_sub (l' := (61, tabObj ps) :: (Qa, listO us.reverse k) :: (dl, listO dus dk) :: (54, tabObj p54) :: []) N6 (by repeat' (first | refine List.forall_mem_cons.mpr ⟨?_, ?_⟩ | exact fun _ h => absurd h List.not_mem_nil | exact List.Mem.head _ | refine List.Mem.tail _ ?_ | exact fun _ h => by repeat' (first | exact h | exact List.mem_append_right _ h | refine List.Mem.tail _ ?_)))
    have hps6 : ps = #[] ∨ ∃ c', ps = #[rawInt 51, rawInt 4, .ref c'] ∧ Heap.CodeRec h5 (.ref c') (PySem.Str.ofString "_digits2int.<locals>.inner") ∧ c' ≠ 61 := by
      rcases hpsG with e | ⟨c', e, ⟨c2, oc, ws, t, e2, e3, e4⟩, hn⟩
      · exact .inl e
      · exact .inr ⟨c', e, ⟨c2, oc, ws, t, e2, F6.keep _ _ e3, e4⟩, hn⟩
    refine ⟨X.keeps F6.keep, callE_digs (n := nn) (ds := y.2.reverse) B X T F6 N7a (fun q hq => ?hs61) ⟨_, (N6 _ (.head _)).1, rfl, _, rfl⟩ hus5 (by rw [List.length_reverse, hql]; exact hdl8) (by rw [List.length_reverse, hql]; exact hdl1) hn4 (fun dd hdd => hq256 dd (List.mem_reverse.mp hdd)) hps6 (fun h7 tk7 t7 c7 F7 N7 _ hrec hc7 => ?_) rfl (Nat.le_of_ble_eq_true rfl) (Nat.le_of_ble_eq_true rfl)⟩
    case hs61 =>
      rcases List.mem_cons.mp hq with rfl | hq
      · exact Nat.ne_of_gt l1.2.2
      · rcases List.mem_cons.mp hq with rfl | hq
        · exact fun e => hdl61 e.symm
        · rw [List.mem_singleton.mp hq]; show (54 : Nat) ≠ 61; decide
    rw [List.length_reverse, hf2]
    rw [hf1] at F7
    clear F6 N6 N7a
    have hz33 := code_ex hrec F7 N7
    (refine ex1 hz33 fun ex hz34 => ?_; refine and2 hz34 fun hex N7b => ?_; clear hz34)
    try clear hz33
    clear N7 hrec
    k_steps
    with_reducible rename Fr _ _ _ _ => F9
    with_reducible rename News _ _ _ _ => N9
    rename_i D9 _ l9
    refine fin _ _ _ _ _ c7 _ _ F9 N9 (.tail _ (.head _)) (.head _) (hex _ F9.keep fun q hq => (N9 _ (.tail _ (.tail _ (.tail _ (.tail _ (.tail _ hq)))))).1) hc7 ?_ ⟨p54, .tail _ (.tail _ (.tail _ (.tail _ (.head _))))⟩
    exact hnew _ _ _ F9 (Nat.ne_of_gt (Nat.lt_trans (show (54 : Nat) < 61 by decide) (l9 (61, _) (.head _)))) (Nat.ne_of_gt (l9 (61, _) (.head _))) (N9 _ (.head _)).2.2
  case turn =>
    intro i m₁ nx h4 g4 tk4 own v hi7
    intro hz35
    (refine ex3 hz35 fun us k tr hz42 => ?_; refine and6 hz42 fun e1 e2 e3 hz36 hz37 hus => ?_; clear hz42)
    try clear hz35
    (refine ex1 hz36 fun tn e4 => ?_)
    try clear hz36
    obtain rfl := hz37
    rintro rfl
    intro hv F N hof
    rw [upd_self e1] at F
    rw [upd_self e2] at F
    rw [upd_self e3] at F
    rw [upd_self e4] at F
    have hsep : ∀ q ∈ (dl, listO dus dk) :: (54, tabObj p54) :: (61, tabObj ps) :: own, q.1 ≠ Qa := fun q hq e => by
      rcases List.mem_cons.mp hq with rfl | hq
      · exact absurd e (Nat.ne_of_lt l1.1)
      · rcases List.mem_cons.mp hq with rfl | hq
        · exact absurd e (Nat.ne_of_lt l1.2.1)
        · rcases List.mem_cons.mp hq with rfl | hq
          · exact absurd e (Nat.ne_of_lt l1.2.2)
          · rcases hfl _ (hof q hq) with h | h
            · have q1 := H.new I (.head _)
              rw [← h, e, (N1 _ (.head _)).1] at q1; cases q1
            · exact absurd (h.symm.trans e) (Nat.ne_of_lt l1.1)
    clear F1 N1 W H hof
    have hz45 : ∃ d td, dsN.reverse[i]? = some d ∧ v = .int (d : Nat) td := by
      have hi9 : dsN.length - 1 - i < dsN.length := by lia
      rw [List.getElem?_reverse hi7] at hv
      obtain ⟨t, ht⟩ := hi2.get (dus.length - 1 - i) ((dsN[dsN.length - 1 - i] : Nat) : Int) (by rw [hlv, List.getElem?_map, List.getElem?_eq_getElem hi9]; rfl)
      rw [ht] at hv
      exact ⟨dsN[dsN.length - 1 - i], t, by rw [List.getElem?_reverse (by lia), List.getElem?_eq_getElem hi9], (Option.some.inj hv).symm⟩
    (refine ex2 hz45 fun d td hz47 => ?_; refine and2 hz47 fun hdd hz46 => ?_; clear hz47)
    try clear hz45
    obtain rfl := hz46
    have hr := dv_lt (n := nn) hb1 (dsN.reverse.take i)
    have hdlt := hd16 d (List.mem_reverse.mp (List.mem_of_getElem? hdd))
    have h16 : 2 ^ nn ≤ 2 ^ 4 := Nat.pow_le_pow_right (by decide) hn4
    have hsn : dv b nn (dsN.reverse.take (i + 1)) = (((dv b nn (dsN.reverse.take i)).1 * 2 ^ nn + d) % b, (dv b nn (dsN.reverse.take i)).2 ++ [((dv b nn (dsN.reverse.take i)).1 * 2 ^ nn + d) / b]) := by rw [List.take_add_one, hdd, Option.toList_some, dv_snoc]
    rw [hsn]
    have hyl : (dv b nn (dsN.reverse.take i)).2.length ≤ 8 := by
      rw [dv_len, List.length_take]; lia
    generalize dv b nn (dsN.reverse.take i) = y at *
    have hz1 : ((y.1 : Nat) : Int).natAbs < 2 ^ 64 := by rw [Int.natAbs_natCast]; exact Nat.lt_trans (Nat.lt_of_lt_of_le hr hb8) (by decide)
    have hz3 : y.1 * 2 ^ nn ≤ 8 * 2 ^ 4 := Nat.mul_le_mul (by lia) h16
    have hz : us.length ≤ sizeLine := by
      have h1 := hus.length
      rw [List.length_map] at h1
      rw [h1, sizeLine_eq]; lia
    iterate 18 walk1
    have e9 : ((y.1 : Nat) : Int) * 2 ^ ((nn : Nat) : Int).toNat + ((d : Nat) : Int) = ((y.1 * 2 ^ nn + d : Nat) : Int) := by push_cast; simp
    rw [e9]
    refine ⟨X.keeps F.keep, call_div2 B X T F N (div256 (q := 0) h16 hz3 hdlt) hb1 hb8 hn4 (fun h5 tk5 Dt t1 t2 F5 N5 hDt => ?_) rfl (Nat.le_of_ble_eq_true rfl) (Nat.le_of_ble_eq_true rfl)⟩
    (try dsimp only)
    have N6 := news_sub (l' := (Qa, listO us k) :: (Dt, { cls := .type "tuple", data := .seq #[.int (((y.1 * 2 ^ nn + d) / b : Nat) : Int) t1, .int (((y.1 * 2 ^ nn + d) % b : Nat) : Int) t2] }) :: (dl, listO dus dk) :: (54, tabObj p54) :: (61, tabObj ps) :: own) N5 (by repeat' (first | refine List.forall_mem_cons.mpr ⟨?_, ?_⟩ | exact fun _ h => absurd h List.not_mem_nil | exact List.Mem.head _ | refine List.Mem.tail _ ?_ | exact fun _ h => by repeat' (first | exact h | exact List.mem_append_right _ h | refine List.Mem.tail _ ?_)))
    have hsep6 : ∀ q ∈ (Dt, { cls := .type "tuple", data := .seq #[.int (((y.1 * 2 ^ nn + d) / b : Nat) : Int) t1, .int (((y.1 * 2 ^ nn + d) % b : Nat) : Int) t2] }) :: (dl, listO dus dk) :: (54, tabObj p54) :: (61, tabObj ps) :: own, q.1 ≠ Qa := fun q hq e => by
      rcases List.mem_cons.mp hq with rfl | hq
      · exact hDt (Qa, listO us k) (List.mem_append_left _ (.head _)) e.symm
      · exact hsep q hq e
    clear F N N5
    iterate 18 walk1
    with_reducible rename Fr _ _ _ _ => F7
    with_reducible rename News _ _ _ _ => N7
    refine append_K (news' := (Qa, W.listOf (us.toArray.push _) (k + 1)) :: (Dt, { cls := .type "tuple", data := .seq #[.int (((y.1 * 2 ^ nn + d) / b : Nat) : Int) t1, .int (((y.1 * 2 ^ nn + d) % b : Nat) : Int) t2] }) :: (dl, listO dus dk) :: (54, tabObj p54) :: (61, tabObj ps) :: own) F7 N7 (.head hsep6) (fun h8 F8 N8 => ?_) (by rw [List.size_toArray]; exact hz)
    clear F7 N7
    k_steps
    with_reducible rename Fr _ _ _ _ => F9
    with_reducible rename News _ _ _ _ => N9
    rw [listOf_push] at N9
    refine fend (nx' := [(Qa, listO (us ++ [.int (((y.1 * 2 ^ nn + d) / b : Nat) : Int) t1]) (k + 1)), (dl, listO dus dk), (54, tabObj p54), (61, tabObj ps)]) rfl F9 N9 (fun q hq => ?_) (fun q hq => .tail _ (.tail _ (.tail _ (.tail _ (.tail _ hq))))) (fun q hq => .inl ?_) ⟨_, _, _, rfl, rfl, rfl, ⟨_, rfl⟩, rfl, ?_⟩
    · rcases List.mem_cons.mp hq with rfl | hq
      · exact .head _
      · exact .tail _ (.tail _ (by
          rcases List.mem_cons.mp hq with rfl | hq
          · exact .head _
          · exact .tail _ (by
              rcases List.mem_cons.mp hq with rfl | hq
              · exact .head _
              · exact .tail _ (by rw [List.mem_singleton.mp hq]; exact .head _))))
    · rcases List.mem_cons.mp hq with rfl | hq
      · exact ⟨_, .head _⟩
      · exact ⟨q.2, .tail _ hq⟩
    · rw [List.map_append]
      exact hus.append (.cons _ _ .nil)
theorem dpos_c (w : World) (p : Program) (loose : List PySem.Str) (mean : ExcName → Option Value) (mg mb : PySem.Str → Option Value) (outer : List Env) (base : Heap) (s : Shared) (R : Result → Shared → Prop) (g : Heap) (mm b : Nat) (ta tb : Tok) (ps : Array Value) (hm : mm ≤ 7) (hb1 : 1 ≤ b) (hb8 : b ≤ 8) (hk : ∀ b o, g.get? b = some o → s.heap.get? b = some o) (hg54 : g.get? 54 = none) (hg61 : g.get? 61 = none) (h54 : s.heap.get? 54 = some (tabObj #[])) (h61 : s.heap.get? 61 = some (tabObj ps)) (hps : ps = #[] ∨ ∃ c', ps = #[rawInt 51, rawInt 4, .ref c'] ∧ g.CodeRec (.ref c') (PySem.Str.ofString "_digits2int.<locals>.inner") ∧ c' ≠ 61) : Below (AT 334 80 outer) base outer g → (hd.heap_1 w.params).In g → Top p loose mean mg mb g →
  (∀ h' tk' D t1 t2 c', (∀ b o, b ≠ 54 → b ≠ 61 → s.heap.get? b = some o → h'.get? b = some o) → h'.get? 61 = some (tabObj #[rawInt 51, rawInt 4, .ref c']) → h'.CodeRec (.ref c') (PySem.Str.ofString "_digits2int.<locals>.inner") → c' ≠ 61 →
    h'.get? D = some { cls := .type "tuple", data := .seq #[.int ((2 ^ mm / b : Nat) : Int) t1, .int ((2 ^ mm % b : Nat) : Int) t2] } → s.heap.get? D = none → (∃ q, h'.get? 54 = some (tabObj q)) → R (.ok (.ret (.ref D))) { s with heap := h', toks := tk' }) →
  codeAny (model PySem.Challenge.rw_to0081_01.prog w) (AT 334 80 outer) (.call (.ref 73) ⟨[.int ((2 ^ mm : Nat) : Int) ta, .int (b : Nat) tb], []⟩) R s := hil_ (Q := fun x => dpos_c.S x.1 x.2.1 x.2.2.1 x.2.2.2.1 x.2.2.2.2.1 x.2.2.2.2.2.1 x.2.2.2.2.2.2.1 x.2.2.2.2.2.2.2.1 x.2.2.2.2.2.2.2.2.1 x.2.2.2.2.2.2.2.2.2.1 x.2.2.2.2.2.2.2.2.2.2.1 x.2.2.2.2.2.2.2.2.2.2.2.1 x.2.2.2.2.2.2.2.2.2.2.2.2.1 x.2.2.2.2.2.2.2.2.2.2.2.2.2.1 x.2.2.2.2.2.2.2.2.2.2.2.2.2.2.1 x.2.2.2.2.2.2.2.2.2.2.2.2.2.2.2) (by with_unfolding_all exact dpos_c.core) (w, p, loose, mean, mg, mb, outer, base, s, R, g, mm, b, ta, tb, ps) hm hb1 hb8 hk hg54 hg61 h54 h61 hps
theorem callE_dpos {w : World} {p : Program} {loose : List PySem.Str} {mean : ExcName → Option Value} {mg mb : PySem.Str → Option Value} {A : Around} {outer : List Env} {base G : Heap} {s : Shared} {Q E : Value → Shared → Prop} {L : Addr} {m : PySem.Str → Option Value} {news : List (Addr × Obj)} {E1 : Env}
    {mm b : Nat} {ta tb : Tok} (B : Below A base outer G) (X : (hd.heap_1 w.params).In G) (T : Top p loose mean mg mb G) (F : Fr G L s.heap m) (N : News G L s.heap ((54, tabObj #[]) :: (61, tabObj #[]) :: news)) (hsep : ∀ q ∈ news, q.1 ≠ 54 ∧ q.1 ≠ 61) (hm : mm ≤ 7) (hb1 : 1 ≤ b) (hb8 : b ≤ 8)
    (h : ∀ h' tk' D t1 t2 c' p54, Fr G L h' m → News G L h' ((D, { cls := .type "tuple", data := .seq #[.int ((2 ^ mm / b : Nat) : Int) t1, .int ((2 ^ mm % b : Nat) : Int) t2] }) :: (61, tabObj #[rawInt 51, rawInt 4, .ref c']) :: (54, tabObj p54) :: news) → (∀ b o, b ≠ 54 → b ≠ 61 → s.heap.get? b = some o → h'.get? b = some o) →
      h'.CodeRec (.ref c') (PySem.Str.ofString "_digits2int.<locals>.inner") → c' ≠ 61 → s.heap.get? D = none → Q (.ref D) { s with heap := h', toks := tk' })
    (h0 : A.handled = none) (h1 : A.depth ≤ 333) (h2 : A.units ≤ 77) (hf : E1.frame = some L := by rfl) (hkd : E1.scope.kind = .function := by rfl) :
    wpAny (model PySem.Challenge.rw_to0081_01.prog w) (A.deeper E1) (call (.ref 73) [.int ((2 ^ mm : Nat) : Int) ta, .int (b : Nat) tb]) Q E s := by
  refine wpAny_call ?_
  have n54 := N _ (.head _)
  have n61 := N _ (.tail _ (.head _))
  have hg : ∀ b ∈ [(54 : Addr), 61], G.get? b = none := fun b hb => by
    rcases List.mem_cons.mp hb with rfl | hb
    · exact n54.2.2
    · rw [List.mem_singleton.mp hb]; exact n61.2.2
  have hL : L ∉ [(54 : Addr), 61] := fun hb => by
    rcases List.mem_cons.mp hb with e | hb
    · exact n54.2.1 e.symm
    · exact n61.2.1 (List.mem_singleton.mp hb).symm
  have hup : ∀ b o, G.get? b = some o → (hideAll s.heap [54, 61]).get? b = some o := hide_up F.keep hg
  have B' : Below (AT 334 80 (E1 :: outer)) base (E1 :: outer) (hideAll s.heap [54, 61]) := below_hideE B F hg hL hf hkd
  refine below_le (d := 334) (u := 80) (outer := E1 :: outer) ?_ h0 ?_ ?_ (Around.frames_deeper B.stack)
  · refine dpos_c w p loose mean mg mb (E1 :: outer) base s _ (hideAll s.heap [54, 61]) mm b ta tb #[] hm hb1 hb8 (fun b o e => of_hideAll _ e) (hideAll_none _ (.head _)) (hideAll_none _ (.tail _ (.head _))) n54.1 n61.1 (.inl rfl) B' (X.keeps hup) (T.keeps hup) fun h' tk' D t1 t2 c' hk h61 hrec hne hD hnew h54 => ?_
    have kG : ∀ b o, G.get? b = some o → h'.get? b = some o := fun b o e => hk b o (fun q => by rw [q, n54.2.2] at e; cases e) (fun q => by rw [q, n61.2.2] at e; cases e) (F.keep b o e)
    (refine ex1 h54 fun p54 hz49 => ?_)
    try clear h54
    have h54 := hz49
    clear hz49
    refine h h' tk' D t1 t2 c' p54 ⟨F.ns.at' fun o e => hk _ o (fun q => n54.2.1 q.symm) (fun q => n61.2.1 q.symm) e, kG, F.above⟩ (fun q hq => ?_) hk hrec hne hnew
    rcases List.mem_cons.mp hq with rfl | hq
    · refine ⟨hD, fun e => ?_, ?_⟩
      · have hz50 := F.ns
        (refine ex3 hz50 fun oL _ _ hz51 => ?_; refine and2 hz51 fun hLL _ => ?_; clear hz51)
        try clear hz50
        rw [show D = L from e, hLL] at hnew; cases hnew
      · show G.get? D = none
        cases q : G.get? D with
        | none => rfl
        | some o => rw [F.keep _ _ q] at hnew; cases hnew
    · rcases List.mem_cons.mp hq with rfl | hq
      · exact ⟨h61, n61.2⟩
      · rcases List.mem_cons.mp hq with rfl | hq
        · exact ⟨h54, n54.2⟩
        · have z := N q (.tail _ (.tail _ hq))
          exact ⟨hk _ _ (hsep q hq).1 (hsep q hq).2 z.1, z.2⟩
  · exact Nat.succ_le_succ h1
  · exact Nat.le_trans (Nat.add_le_add_right h2 3) (by decide)
noncomputable def idm_c.S (w : World) (p : Program) (loose : List PySem.Str) (mean : ExcName → Option Value) (mg : PySem.Str → Option Value) (mb : PySem.Str → Option Value) (outer : List Env) (base : Heap) (s : Shared) (R : Result → Shared → Prop) (g : Heap) (mm : Nat) (b : Nat) (ta : Tok) (tb : Tok) : Prop := ∀ (hm : mm ≤ 7) (hb1 : 1 ≤ b) (hb8 : b ≤ 8) (hk : ∀ b o, g.get? b = some o → s.heap.get? b = some o) (hg54 : g.get? 54 = none) (hg61 : g.get? 61 = none) (h54 : s.heap.get? 54 = some (tabObj #[])) (h61 : s.heap.get? 61 = some (tabObj #[])), Below (AT 330 60 outer) base outer g → (hd.heap_1 w.params).In g → Top p loose mean mg mb g →
  (∀ h' tk' D t1 t2 c', (∀ b o, b ≠ 54 → b ≠ 61 → s.heap.get? b = some o → h'.get? b = some o) → h'.get? 61 = some (tabObj #[rawInt 51, rawInt 4, .ref c']) → h'.CodeRec (.ref c') (PySem.Str.ofString "_digits2int.<locals>.inner") → c' ≠ 61 →
    h'.get? D = some { cls := .type "tuple", data := .seq #[.int ((2 ^ mm / b : Nat) : Int) t1, .int ((2 ^ mm % b : Nat) : Int) t2] } → s.heap.get? D = none → (∃ q, h'.get? 54 = some (tabObj q)) → R (.ok (.ret (.ref D))) { s with heap := h', toks := tk' }) →
  codeAny (model PySem.Challenge.rw_to0081_01.prog w) (AT 330 60 outer) (.call (.ref 80) ⟨[.int ((2 ^ mm : Nat) : Int) ta, .int (b : Nat) tb], []⟩) R s
noncomputable def idm_c.e : World × Program × (List PySem.Str) × (ExcName → Option Value) × (PySem.Str → Option Value) × (PySem.Str → Option Value) × (List Env) × Heap × Shared × (Result → Shared → Prop) × Heap × Nat × Nat × Tok × Tok := haveI := ne_w; haveI := ne_s; haveI := ne_a; haveI := ne_g; Classical.epsilon fun x => ¬ idm_c.S x.1 x.2.1 x.2.2.1 x.2.2.2.1 x.2.2.2.2.1 x.2.2.2.2.2.1 x.2.2.2.2.2.2.1 x.2.2.2.2.2.2.2.1 x.2.2.2.2.2.2.2.2.1 x.2.2.2.2.2.2.2.2.2.1 x.2.2.2.2.2.2.2.2.2.2.1 x.2.2.2.2.2.2.2.2.2.2.2.1 x.2.2.2.2.2.2.2.2.2.2.2.2.1 x.2.2.2.2.2.2.2.2.2.2.2.2.2.1 x.2.2.2.2.2.2.2.2.2.2.2.2.2.2
@[irreducible] noncomputable def idm_c.w : World := idm_c.e.1
@[irreducible] noncomputable def idm_c.p : Program := idm_c.e.2.1
@[irreducible] noncomputable def idm_c.loose : List PySem.Str := idm_c.e.2.2.1
@[irreducible] noncomputable def idm_c.mean : ExcName → Option Value := idm_c.e.2.2.2.1
@[irreducible] noncomputable def idm_c.mg : PySem.Str → Option Value := idm_c.e.2.2.2.2.1
@[irreducible] noncomputable def idm_c.mb : PySem.Str → Option Value := idm_c.e.2.2.2.2.2.1
@[irreducible] noncomputable def idm_c.outer : List Env := idm_c.e.2.2.2.2.2.2.1
@[irreducible] noncomputable def idm_c.base : Heap := idm_c.e.2.2.2.2.2.2.2.1
@[irreducible] noncomputable def idm_c.s : Shared := idm_c.e.2.2.2.2.2.2.2.2.1
@[irreducible] noncomputable def idm_c.R : Result → Shared → Prop := idm_c.e.2.2.2.2.2.2.2.2.2.1
@[irreducible] noncomputable def idm_c.g : Heap := idm_c.e.2.2.2.2.2.2.2.2.2.2.1
@[irreducible] noncomputable def idm_c.mm : Nat := idm_c.e.2.2.2.2.2.2.2.2.2.2.2.1
@[irreducible] noncomputable def idm_c.b : Nat := idm_c.e.2.2.2.2.2.2.2.2.2.2.2.2.1
@[irreducible] noncomputable def idm_c.ta : Tok := idm_c.e.2.2.2.2.2.2.2.2.2.2.2.2.2.1
@[irreducible] noncomputable def idm_c.tb : Tok := idm_c.e.2.2.2.2.2.2.2.2.2.2.2.2.2.2
theorem idm_c.core : idm_c.S idm_c.w idm_c.p idm_c.loose idm_c.mean idm_c.mg idm_c.mb idm_c.outer idm_c.base idm_c.s idm_c.R idm_c.g idm_c.mm idm_c.b idm_c.ta idm_c.tb := by
  delta idm_c.S
  intro hm hb1 hb8 hk hg54 hg61 h54 h61
  k_fill
  intro B0 X0 T0 ret
  have X1 := X0.keeps hk
  have T1 := T0.keeps hk
  have ho : ∀ q ∈ [(54, tabObj #[]), (61, tabObj #[])], s.heap.get? q.1 = some q.2 := fun q hq => by
    rcases List.mem_cons.mp hq with rfl | hq
    · exact h54
    · rw [List.mem_singleton.mp hq]; exact h61
  have hup : ∀ b o, g.get? b = some o → (hideAll s.heap ([(54, tabObj #[]), (61, tabObj #[])].map (·.1))).get? b = some o := hide_up hk fun a ha => by
    simp only [List.map_cons, List.map_nil, List.mem_cons, List.not_mem_nil, or_false] at ha
    rcases ha with rfl | rfl
    · exact hg54
    · exact hg61
  have B := below_keeps B0 hup
  have X := X0.keeps hup
  have T := T0.keeps hup
  k_dflt (refine' enter ?k1 ?k2 ?k3 ?k4 ?k5 ?k6 ?k7 ?_ ?c2 ?c3 ?c4 ?c5; (case k1 => exact X1); (case k2 => exact T1); (case k3 => k_is); (case k4 => k_is); (case k5 => exact Nat.le_of_ble_eq_true rfl); (case k6 => exact BindsTo.of_eq rfl); (case k7 => exact locs rfl); (case c2 => exact rfl); (case c3 => exact rfl); (case c4 => exact rfl); (case c5 => decide); k_whole; intro h' F0 N0; (try dsimp only); (try k_fold))
  have F' := hide_fr (as := [(54, tabObj #[]), (61, tabObj #[])].map (·.1)) F0
  have N' : News (hideAll s.heap ([(54, tabObj #[]), (61, tabObj #[])].map (·.1))) s.heap.objs.size h' [(54, tabObj #[]), (61, tabObj #[])] := hide_news ho F0
  have hold : ∀ b o, s.heap.get? b = some o → h'.get? b = some o := F0.keep
  generalize hG : hideAll s.heap ([(54, tabObj #[]), (61, tabObj #[])].map (·.1)) = G at *
  clear F0 N0 X1 T1 X0 T0 B0 hup ho hg54 hg61 hk
  have hpos := Nat.two_pow_pos mm
  iterate 7 walk1
  rw [if_neg (show ¬ (((b : Nat) : Int) == 0) = true by simp; lia)]
  iterate 29 walk1
  refine ⟨X.keeps F'.keep, callE_dpos B X T F' N' (fun _ h => nomatch h) hm hb1 hb8 (fun h2 tk2 D t1 t2 c' p54 F2 N2 hk2 hrec hne hD0 => ?_) rfl (Nat.le_of_ble_eq_true rfl) (Nat.le_of_ble_eq_true rfl)⟩
  (try dsimp only)
  refine ret _ _ D t1 t2 c' (fun b o h1 h2 e => hk2 b o h1 h2 (hold b o e)) (N2 _ (.tail _ (.head _))).1 hrec hne (N2 _ (.head _)).1 ?_ ⟨p54, (N2 _ (.tail _ (.tail _ (.head _)))).1⟩
  cases q : s.heap.get? D with
  | none => rfl
  | some o => rw [hold _ _ q] at hD0; cases hD0
theorem idm_c (w : World) (p : Program) (loose : List PySem.Str) (mean : ExcName → Option Value) (mg mb : PySem.Str → Option Value) (outer : List Env) (base : Heap) (s : Shared) (R : Result → Shared → Prop) (g : Heap) (mm b : Nat) (ta tb : Tok) (hm : mm ≤ 7) (hb1 : 1 ≤ b) (hb8 : b ≤ 8) (hk : ∀ b o, g.get? b = some o → s.heap.get? b = some o) (hg54 : g.get? 54 = none) (hg61 : g.get? 61 = none) (h54 : s.heap.get? 54 = some (tabObj #[])) (h61 : s.heap.get? 61 = some (tabObj #[])) : Below (AT 330 60 outer) base outer g → (hd.heap_1 w.params).In g → Top p loose mean mg mb g →
  (∀ h' tk' D t1 t2 c', (∀ b o, b ≠ 54 → b ≠ 61 → s.heap.get? b = some o → h'.get? b = some o) → h'.get? 61 = some (tabObj #[rawInt 51, rawInt 4, .ref c']) → h'.CodeRec (.ref c') (PySem.Str.ofString "_digits2int.<locals>.inner") → c' ≠ 61 →
    h'.get? D = some { cls := .type "tuple", data := .seq #[.int ((2 ^ mm / b : Nat) : Int) t1, .int ((2 ^ mm % b : Nat) : Int) t2] } → s.heap.get? D = none → (∃ q, h'.get? 54 = some (tabObj q)) → R (.ok (.ret (.ref D))) { s with heap := h', toks := tk' }) →
  codeAny (model PySem.Challenge.rw_to0081_01.prog w) (AT 330 60 outer) (.call (.ref 80) ⟨[.int ((2 ^ mm : Nat) : Int) ta, .int (b : Nat) tb], []⟩) R s := hil_ (Q := fun x => idm_c.S x.1 x.2.1 x.2.2.1 x.2.2.2.1 x.2.2.2.2.1 x.2.2.2.2.2.1 x.2.2.2.2.2.2.1 x.2.2.2.2.2.2.2.1 x.2.2.2.2.2.2.2.2.1 x.2.2.2.2.2.2.2.2.2.1 x.2.2.2.2.2.2.2.2.2.2.1 x.2.2.2.2.2.2.2.2.2.2.2.1 x.2.2.2.2.2.2.2.2.2.2.2.2.1 x.2.2.2.2.2.2.2.2.2.2.2.2.2.1 x.2.2.2.2.2.2.2.2.2.2.2.2.2.2) (by with_unfolding_all exact idm_c.core) (w, p, loose, mean, mg, mb, outer, base, s, R, g, mm, b, ta, tb) hm hb1 hb8 hk hg54 hg61 h54 h61

end
section
-- hil-done: lev_c/ds
-- macros2 -- macros3
local macro_rules | `(tactic| walk_at "truthy str") => `(tactic| (k_here; (with_reducible show wpAny _ _ (PySem.truthy (Value.str (txt _) _)) _ _ _); (refine truthy_txt (by omega) (by omega) ?_); intro _; (try dsimp only)))
local macro_rules | `(tactic| walk_at "subscriptTail Name Slice str ref") => `(tactic| (k_here; (with_reducible show wpAny _ _ (subscriptTail _ (PySem.Expr.Slice (some _) none none _) (Value.str (txt _) _) (Value.ref _)) _ _ _); k_dflt (refine' slice_sn (s := ⟨_, _, _, _, _⟩) (by k_asm) (by k_asm) (by first | assumption | omega) (by first | assumption | omega) ?_); intro _ _ _ F' N'; (try dsimp only)))
local macro_rules | `(tactic| walk_at "subscriptTail Name Name str int") => `(tactic| (k_here; (with_reducible show wpAny _ _ (subscriptTail _ _ (Value.str (txt _) _) (Value.int (Nat.cast _) _)) _ _ _); (refine sub_at (by assumption) (by first | assumption | omega) ?_)))
local macro_rules | `(tactic| walk_at "truthy int") => `(tactic| (k_here; (with_reducible show wpAny _ _ (PySem.truthy (Value.int (-(Nat.cast _)) _)) _ _ _); k_dflt (refine post_truthy ?_); (try dsimp only)))
local macro_rules | `(tactic| walk_at "subscriptTail Name Slice str ref") => `(tactic| (k_here; (with_reducible show wpAny _ _ (subscriptTail _ (PySem.Expr.Slice none (some _) none _) (Value.str (txt _) _) (Value.ref _)) _ _ _); k_dflt (refine' slice_post (s := ⟨_, _, _, _, _⟩) (by k_asm) (by k_asm) (by first | assumption | omega) (by first | assumption | omega) ?_); intro _ _ _ F' N'; (try dsimp only)))
local macro_rules | `(tactic| walk_at "subscriptTail Name BinOp str int") => `(tactic| (k_here; (with_reducible show wpAny _ _ (subscriptTail _ _ (Value.str (txt _) _) (Value.int (-(Nat.cast _) - 1) _)) _ _ _); (refine sub_post (by assumption) (by assumption) (by first | assumption | omega) ?_)))
set_option maxHeartbeats 2000000
noncomputable def lev_c.S (w : World) (p : Program) (loose : List PySem.Str) (mean : ExcName → Option Value) (mg : PySem.Str → Option Value) (mb : PySem.Str → Option Value) (outer : List Env) (base : Heap) (s : Shared) (R : Result → Shared → Prop) (cs : List Nat) (ta : Tok) (tb : Tok) (tm : Tok) : Prop := ∀ (ds : List Nat) (hW : AlikeW cs ds), Below (AT 330 60 outer) base outer s.heap → (hd.heap_1 w.params).In s.heap → Top p loose mean mg mb s.heap →
  (∀ L' m' news' h' tk' t', Fr s.heap L' h' m' → News s.heap L' h' news' → R (.ok (.ret (.int (diffN cs ds : Nat) t'))) { s with heap := h', toks := tk' }) →
  codeAny (model PySem.Challenge.rw_to0081_01.prog w) (AT 330 60 outer) (.call (.ref 108) ⟨[.str (txt cs) ta, .str (txt ds) tb, .int 14 tm], []⟩) R s
noncomputable def lev_c.e : World × Program × (List PySem.Str) × (ExcName → Option Value) × (PySem.Str → Option Value) × (PySem.Str → Option Value) × (List Env) × Heap × Shared × (Result → Shared → Prop) × (List Nat) × Tok × Tok × Tok := haveI := ne_w; haveI := ne_s; haveI := ne_a; haveI := ne_g; Classical.epsilon fun x => ¬ lev_c.S x.1 x.2.1 x.2.2.1 x.2.2.2.1 x.2.2.2.2.1 x.2.2.2.2.2.1 x.2.2.2.2.2.2.1 x.2.2.2.2.2.2.2.1 x.2.2.2.2.2.2.2.2.1 x.2.2.2.2.2.2.2.2.2.1 x.2.2.2.2.2.2.2.2.2.2.1 x.2.2.2.2.2.2.2.2.2.2.2.1 x.2.2.2.2.2.2.2.2.2.2.2.2.1 x.2.2.2.2.2.2.2.2.2.2.2.2.2
@[irreducible] noncomputable def lev_c.w : World := lev_c.e.1
@[irreducible] noncomputable def lev_c.p : Program := lev_c.e.2.1
@[irreducible] noncomputable def lev_c.loose : List PySem.Str := lev_c.e.2.2.1
@[irreducible] noncomputable def lev_c.mean : ExcName → Option Value := lev_c.e.2.2.2.1
@[irreducible] noncomputable def lev_c.mg : PySem.Str → Option Value := lev_c.e.2.2.2.2.1
@[irreducible] noncomputable def lev_c.mb : PySem.Str → Option Value := lev_c.e.2.2.2.2.2.1
@[irreducible] noncomputable def lev_c.outer : List Env := lev_c.e.2.2.2.2.2.2.1
@[irreducible] noncomputable def lev_c.base : Heap := lev_c.e.2.2.2.2.2.2.2.1
@[irreducible] noncomputable def lev_c.s : Shared := lev_c.e.2.2.2.2.2.2.2.2.1
@[irreducible] noncomputable def lev_c.R : Result → Shared → Prop := lev_c.e.2.2.2.2.2.2.2.2.2.1
@[irreducible] noncomputable def lev_c.cs : List Nat := lev_c.e.2.2.2.2.2.2.2.2.2.2.1
@[irreducible] noncomputable def lev_c.ta : Tok := lev_c.e.2.2.2.2.2.2.2.2.2.2.2.1
@[irreducible] noncomputable def lev_c.tb : Tok := lev_c.e.2.2.2.2.2.2.2.2.2.2.2.2.1
@[irreducible] noncomputable def lev_c.tm : Tok := lev_c.e.2.2.2.2.2.2.2.2.2.2.2.2.2
theorem lev_c.core : lev_c.S lev_c.w lev_c.p lev_c.loose lev_c.mean lev_c.mg lev_c.mb lev_c.outer lev_c.base lev_c.s lev_c.R lev_c.cs lev_c.ta lev_c.tb lev_c.tm := by
  delta lev_c.S
  intro ds hW
  k_fill
  intro B X T ret
  k_dflt (refine' enter ?k1 ?k2 ?k3 ?k4 ?k5 ?k6 ?k7 ?_ ?c2 ?c3 ?c4 ?c5; (case k1 => k_asm); (case k2 => k_asm); (case k3 => k_is); (case k4 => k_is); (case k5 => exact Nat.le_of_ble_eq_true rfl); (case k6 => exact BindsTo.of_eq rfl); (case k7 => exact locs rfl); (case c2 => exact rfl); (case c3 => exact rfl); (case c4 => exact rfl); (case c5 => decide); k_whole; intro h' F' N'; (try dsimp only); (try k_fold))
  iterate 9 walk1
  · with_reducible rename (_ == _) = true => b9
    rw [txt_beq, decide_eq_true_eq] at b9
    subst b9
    k_steps
    have e0 : diffN cs cs = 0 := diffN_self cs
    rw [e0] at ret
    exact ret _ _ _ _ _ _ F' N'
  with_reducible rename (_ == _) = false => b9
  rw [txt_beq, decide_eq_false_iff_not] at b9
  iterate 6 walk1
  with_reducible rename Fr _ _ _ _ => F1
  refine (let mv1 := _; have Fv : Fr _ _ _ mv1 := F1; ?_)
  clear F1
  rename Fr _ _ _ mv1 => F1
  with_reducible rename News _ _ _ _ => N1
  have hl7 := hW.l7
  have hlen := hW.len
  let Jv1 : Nat → (PySem.Str → Option Value) → List (Addr × Obj) → Prop := fun n m nx => ∃ k t, m (PySem.Str.ofString "pre") = some (.int (k : Nat) t) ∧ m (PySem.Str.ofString "a") = some (.str (txt cs) ta) ∧ m (PySem.Str.ofString "b") = some (.str (txt ds) tb) ∧ m (PySem.Str.ofString "max_cost") = some (.int 14 tm) ∧
      nx = [] ∧ k ≤ cs.length ∧ (∀ j < k, cs[j]? = ds[j]?) ∧ n = cs.length - k
  refine While_inv (n₀ := cs.length) Jv1 F1 N1
    ⟨0, _, rfl, rfl, rfl, rfl, rfl, Nat.zero_le _, fun _ h => absurd h (Nat.not_lt_zero _), rfl⟩ ?turn1
  case turn1 =>
    intro n m nx h1 tk1 F N
    intro hz1
    (refine ex2 hz1 fun k t hz10 => ?_; refine and8 hz10 fun h1 h2 h3 h4 hz2 hk hpre hz3 => ?_; clear hz10)
    try clear hz1
    obtain rfl := hz2
    obtain rfl := hz3
    rw [upd_self h4] at F
    rw [upd_self h3] at F
    rw [upd_self h2] at F
    rw [upd_self h1] at F
    clear F1 N1
    have hkl : k < cs.length := by
      rcases Nat.lt_or_ge k cs.length with h | h
      · exact h
      · exact absurd (List.ext_getElem? fun j => by
          rcases Nat.lt_or_ge j k with q | q
          · exact hpre j q
          · rw [List.getElem?_eq_none (Nat.le_trans h q), List.getElem?_eq_none (hlen ▸ Nat.le_trans h q)]) b9
    have hz12 : ∃ c, cs[k]? = some c := ⟨_, List.getElem?_eq_getElem hkl⟩
    (refine ex1 hz12 fun c hc => ?_)
    try clear hz12
    have hz13 : ∃ d, ds[k]? = some d := ⟨_, List.getElem?_eq_getElem (hlen ▸ hkl)⟩
    (refine ex1 hz13 fun d hd => ?_)
    try clear hz13
    have hz1 : cs.length ≤ 1000000 := Nat.le_trans hl7 (by decide)
    have hz2 : ds.length ≤ 1000000 := hlen ▸ hz1
    have hkd : k ≤ ds.length := hlen ▸ hk
    have hp1 : 0 < (cs.drop k).length := by rw [List.length_drop]; exact Nat.sub_pos_of_lt hkl
    have hp2 : (cs.drop k).length ≤ 1000000 := by rw [List.length_drop]; exact Nat.le_trans (Nat.sub_le _ _) hz1
    have hp3 : 0 < (ds.drop k).length := by rw [List.length_drop]; exact Nat.sub_pos_of_lt (hlen ▸ hkl)
    have hp4 : (ds.drop k).length ≤ 1000000 := by rw [List.length_drop]; exact Nat.le_trans (Nat.sub_le _ _) hz2
    iterate 38 walk1
    · with_reducible rename (_ == _) = true => b8
      rw [one_inj, decide_eq_true_eq] at b8
      subst b8
      clear F N
      k_steps
      with_reducible rename Fr _ _ _ _ => F9
      refine (let mv2 := _; have Fv : Fr _ _ _ mv2 := F9; ?_)
      clear F9
      rename Fr _ _ _ mv2 => F9
      with_reducible rename News _ _ _ _ => N9
      refine WhileStep.intro F9 N9 (n' := cs.length - (k + 1)) (sub_step hkl) ⟨k + 1, _, rfl, rfl, rfl, rfl, rfl, hkl, fun j hj => ?_, rfl⟩
      rcases Nat.lt_or_eq_of_le (Nat.le_of_lt_succ hj) with q | q
      · exact hpre j q
      · rw [q, hc, hd]
    with_reducible rename (_ == _) = false => b8
    rw [one_inj, decide_eq_false_iff_not] at b8
    clear F N
    iterate 31 walk1
    with_reducible rename Fr _ _ _ _ => F1
    with_reducible rename News _ _ _ _ => N1
    have e1 := diffN_drop k cs ds hlen hpre
    have hW1 := hW.drop k
    have hc0 : (cs.drop k)[0]? = some c := by rw [List.getElem?_drop]; exact hc
    have hd0 : (ds.drop k)[0]? = some d := by rw [List.getElem?_drop]; exact hd
    rw [← e1] at ret
    clear hp1 hp2 hp3 hp4
    generalize cs.drop k = a1 at *
    generalize ds.drop k = b1 at *
    clear e1 hpre h1 h2 h3 h4 hkl hc hd hz1 hz2 hkd hk hW b9 hl7 hlen
    have hl7 := hW1.l7
    have hlen := hW1.len
    have ha0 : 0 < a1.length := (List.getElem?_eq_some_iff.mp hc0).1
    have hb0 : 0 < b1.length := hlen ▸ ha0
    let Jv2 : Nat → (PySem.Str → Option Value) → List (Addr × Obj) → Prop := fun n m nx => ∃ k t t1 t2, m (PySem.Str.ofString "post") = some (.int (-((k : Nat) : Int)) t) ∧ m (PySem.Str.ofString "a") = some (.str (txt a1) t1) ∧ m (PySem.Str.ofString "b") = some (.str (txt b1) t2) ∧ m (PySem.Str.ofString "max_cost") = some (.int 14 tm) ∧
        nx = [] ∧ k < a1.length ∧ (∀ j, a1.length - k ≤ j → a1[j]? = b1[j]?) ∧ n = a1.length - k
    refine While_inv (n₀ := a1.length) Jv2 F1 N1
      ⟨0, _, _, _, rfl, rfl, rfl, rfl, rfl, ha0, fun j hj => by rw [List.getElem?_eq_none (show a1.length ≤ j from hj), List.getElem?_eq_none (show b1.length ≤ j from hlen ▸ hj)], rfl⟩ ?turn2
    case turn2 =>
      intro n m nx h1 tk1 F N
      intro hz14
      (refine ex4 hz14 fun k t t1 t2 hz23 => ?_; refine and8 hz23 fun h1 h2 h3 h4 hz15 hk hpre hz16 => ?_; clear hz23)
      try clear hz14
      obtain rfl := hz15
      obtain rfl := hz16
      rw [upd_self h4] at F
      rw [upd_self h3] at F
      rw [upd_self h2] at F
      rw [upd_self h1] at F
      clear F1 N1
      have hz27 : ∃ c, a1[a1.length - (k + 1)]? = some c := ⟨_, List.getElem?_eq_getElem (subk_lt ha0)⟩
      (refine ex1 hz27 fun x hx => ?_)
      try clear hz27
      have hz28 : ∃ d, b1[b1.length - (k + 1)]? = some d := ⟨_, List.getElem?_eq_getElem (subk_lt hb0)⟩
      (refine ex1 hz28 fun y hy => ?_)
      try clear hz28
      have hz1 : a1.length ≤ 1000000 := Nat.le_trans hl7 (by decide)
      have hz2 : b1.length ≤ 1000000 := hlen ▸ hz1
      have hkd : k < b1.length := hlen ▸ hk
      have hka := Nat.le_of_lt hk
      have hkb := Nat.le_of_lt hkd
      have hp1 : 0 < (a1.take (a1.length - k)).length := by rw [List.length_take]; exact Nat.lt_min.mpr ⟨Nat.sub_pos_of_lt hk, ha0⟩
      have hp2 : (a1.take (a1.length - k)).length ≤ 1000000 := by rw [List.length_take]; exact Nat.le_trans (Nat.min_le_right _ _) hz1
      have hp3 : 0 < (b1.take (b1.length - k)).length := by rw [List.length_take]; exact Nat.lt_min.mpr ⟨Nat.sub_pos_of_lt hkd, hb0⟩
      have hp4 : (b1.take (b1.length - k)).length ≤ 1000000 := by rw [List.length_take]; exact Nat.le_trans (Nat.min_le_right _ _) hz2
      iterate 47 walk1
      · with_reducible rename (_ == _) = true => b7
        rw [one_inj, decide_eq_true_eq] at b7
        subst b7
        clear F N
        have e2 : -((k : Nat) : Int) - 1 = -((k + 1 : Nat) : Int) := by lia
        have hk2 : k + 1 < a1.length := by
          rcases Nat.lt_or_ge (k + 1) a1.length with h | h
          · exact h
          · have z1 : a1.length - (k + 1) = 0 := Nat.sub_eq_zero_of_le h
            have z2 : b1.length - (k + 1) = 0 := Nat.sub_eq_zero_of_le (hlen ▸ h)
            rw [z1, hc0] at hx
            rw [z2, hd0] at hy
            exact absurd ((Option.some.inj hx).trans (Option.some.inj hy).symm) b8
        k_steps
        with_reducible rename Fr _ _ _ _ => F9
        refine (let mv4 := _; have Fv : Fr _ _ _ mv4 := F9; ?_)
        clear F9
        rename Fr _ _ _ mv4 => F9
        with_reducible rename News _ _ _ _ => N9
        refine WhileStep.intro F9 N9 (n' := a1.length - (k + 1)) (sub_step hk) ⟨k + 1, _, _, _, congrArg (fun z => some (Value.int z _)) e2, rfl, rfl, rfl, rfl, hk2, fun j hj => ?_, rfl⟩
        rcases Nat.lt_or_ge j (a1.length - k) with q | q
        · have : j = a1.length - (k + 1) := Nat.le_antisymm (Nat.le_sub_one_of_lt q) hj
          rw [this, hx, hlen, hy]
        · exact hpre j q
      with_reducible rename (_ == _) = false => b7
      clear F N b7 hx hy
      iterate 31 walk1
      with_reducible rename Fr _ _ _ _ => F2
      with_reducible rename News _ _ _ _ => N2
      have e2 := diffN_take (a1.length - k) a1 b1 hlen hpre
      have hW2 := hW1.take (a1.length - k)
      have ha2 := hp1
      clear hp1 hp2 hp3 hp4 hka hkb hb0
      rw [← hlen] at F2
      rw [← e2] at ret
      generalize a1.take (a1.length - k) = a2 at *
      generalize b1.take (a1.length - k) = b2 at *
      have hl7' := hW2.l7
      have hlen' := hW2.len
      have hz1' : a2.length ≤ 1000000 := Nat.le_trans hl7' (by decide)
      have hz2' : b2.length ≤ 1000000 := hlen' ▸ hz1'
      clear e2 hpre h1 h2 h3 h4 hk hz1 hz2 hkd hl7 hlen hW1 hc0 hd0 ha0 b8
      iterate 126 walk1
      with_reducible rename Fr _ _ _ _ => F3
      refine (let mv6 := _; have Fv : Fr _ _ _ mv6 := F3; ?_)
      clear F3
      rename Fr _ _ _ mv6 => F3
      with_reducible rename News _ _ _ _ => N3
      with_reducible rename IsRange _ _ _ _ _ _ _ _ => hR
      refine row_list rfl F3 N3 hR hl7' fun h3 tk3 Da ys kk F4 N4 _ hys => ?_
      rw [← rowN_zero a2 b2] at hys
      clear F3 N3 hR
      iterate 7 walk1
      refine wpAny_For ?_
      iterate 12 walk1
      with_reducible rename Fr _ _ _ _ => F5
      refine (let mv7 := _; have Fv : Fr _ _ _ mv7 := F5; ?_)
      clear F5
      rename Fr _ _ _ mv7 => F5
      with_reducible rename News _ _ _ _ => N5
      refine range1_at (n := b2.length) rfl (small_nat (by lia)) (size_nat _) fun I h₂ tk₂ W H => ?_
      let Jv3 : Nat → (PySem.Str → Option Value) → List (Addr × Obj) → Prop := fun i m nx => ∃ us kk ta tb tr, m (PySem.Str.ofString "row") = some (.ref Da) ∧ m (PySem.Str.ofString "a") = some (.str (txt a2) ta) ∧ m (PySem.Str.ofString "b") = some (.str (txt b2) tb) ∧ m (PySem.Str.ofString "max_cost") = some (.int 14 tm) ∧
          m (PySem.Str.ofString "result") = some (.int (if i = 0 then 0 else ((dN a2 b2 i a2.length : Nat) : Int)) tr) ∧ nx = [(Da, listO us kk)] ∧ IntsAre us (rowN a2 b2 i 0)
      refine for_name (fun g' => g' = s.gens) Jv3
        W H rfl rfl F5 N5 rfl ⟨ys, kk, _, _, _, rfl, rfl, rfl, rfl, rfl, rfl, hys⟩ ?turn3 ?done3
      case done3 =>
        intro m₁ nx h g tk
        intro hz29
        (refine ex5 hz29 fun us kk ta tb tr hz36 => ?_; refine and7 hz36 fun h1 h2 h3 h4 h5 hz30 hu => ?_; clear hz36)
        try clear hz29
        obtain rfl := hz30
        rintro rfl
        intro F N
        rw [if_neg (by lia), dN_diag hlen'] at h5
        rw [upd_self h5] at F
        clear F5 N5 W H
        (try dsimp only)
        k_steps
        exact ret _ _ _ _ _ _ F N
      case turn3 =>
        intro i m₁ nx h g tk own v hi7
        intro hz41
        (refine ex5 hz41 fun us₀ kk₀ ta tb tr hz48 => ?_; refine and7 hz48 fun h1 h2 h3 h4 h5 hz42 hu => ?_; clear hz48)
        try clear hz41
        obtain rfl := hz42
        rintro rfl
        intro hz53
        (refine ex1 hz53 fun tv hz54 => ?_)
        try clear hz53
        obtain rfl := hz54
        intro F N hof
        rw [Int.zero_add] at F
        have hsep : ∀ q ∈ own, q.1 ≠ Da := fun q hq e => by
          have q1 := H.new _ (hof q hq)
          have q2 := (N5 _ (.head _)).1
          rw [e, q2] at q1; cases q1
        rw [upd_self h4] at F
        rw [upd_self h3] at F
        rw [upd_self h2] at F
        rw [upd_self h1] at F
        clear F5 N5 W H hof h1 h2 h3 h4 h5
        have hz55 : ∃ y, b2[i]? = some y := ⟨_, List.getElem?_eq_getElem hi7⟩
        (refine ex1 hz55 fun y hy => ?_)
        try clear hz55
        iterate 22 walk1
        refine wpAny_For ?_
        iterate 12 walk1
        with_reducible rename Fr _ _ _ _ => F6
        refine (let mv8 := _; have Fv : Fr _ _ _ mv8 := F6; ?_)
        clear F6
        rename Fr _ _ _ mv8 => F6
        with_reducible rename News _ _ _ _ => N6
        have hib : i < b2.length := hi7
        have hi64 : ((i : Nat) : Int) < 2 ^ 64 := lt_pow 64 (Nat.lt_trans hib (Nat.lt_of_le_of_lt hz2' (by decide)))
        have e0 : ((i : Nat) : Int) * 2 = ((dN a2 b2 i 0 : Nat) : Int) := by
          unfold dN; rw [Nat.min_zero]; simp [diffN]; lia
        refine range1_at (n := a2.length) rfl (small_nat (by lia)) (size_nat _) fun I h₂ tk₂ W H => ?_
        let Jv4 : Nat → (PySem.Str → Option Value) → List (Addr × Obj) → Prop := fun j m nx => ∃ us kk ty td tr tn mn, m (PySem.Str.ofString "row") = some (.ref Da) ∧ m (PySem.Str.ofString "a") = some (.str (txt a2) ta) ∧ m (PySem.Str.ofString "b") = some (.str (txt b2) tb) ∧ m (PySem.Str.ofString "max_cost") = some (.int 14 tm) ∧
            m (PySem.Str.ofString "bchar") = some (.str (one y) ty) ∧ m (PySem.Str.ofString "distance") = some (.int ((dN a2 b2 i j : Nat) : Int) td) ∧ m (PySem.Str.ofString "result") = some (.int (((if j = 0 then 2 * i else dN a2 b2 (i + 1) j) : Nat) : Int) tr) ∧
            m (PySem.Str.ofString "minimum") = some (.int mn tn) ∧ (i < j → mn ≤ 7) ∧ nx = (Da, listO us kk) :: own ∧ IntsAre us (rowN a2 b2 i j)
        refine for_name (fun g' => g' = s.gens) Jv4
          W H rfl rfl F6 N6 rfl ⟨us₀, kk₀, _, _, _, _, _, rfl, rfl, rfl, rfl, rfl, congrArg (fun z => some (Value.int z _)) e0, congrArg (fun z => some (Value.int z _)) (by simp; lia), rfl, fun h => absurd h (Nat.not_lt_zero i), rfl, hu⟩ ?turn4 ?done4
        case done4 =>
          intro m₁ nx h g tk
          intro hz56
          (rcases hz56 with ⟨us, kk, ty, td, tr, tn, mn, h1, h2, h3, h4, h5, h6, h7, h8, hmn, hz57, hu⟩)
          try clear hz56
          obtain rfl := hz57
          rintro rfl
          intro F N
          have hmn7 := hmn (Nat.lt_of_lt_of_eq hib hlen'.symm)
          rw [upd_self h7] at F
          rw [upd_self h4] at F
          rw [upd_self h3] at F
          rw [upd_self h2] at F
          rw [upd_self h1] at F
          rw [upd_self h8] at F
          clear F6 N6 W H
          (try dsimp only)
          k_steps
          refine fend (nx' := [(Da, listO us kk)]) rfl F N (fun q hq => by rw [List.mem_singleton.mp hq]; exact .head _) (fun q hq => .tail _ hq) (fun q hq => .inl ⟨listO us₀ kk₀, ?hqq⟩) ⟨us, kk, ta, tb, tr, rfl, rfl, rfl, rfl, ?_, rfl, rowN_next a2 b2 i ▸ hu⟩
          case hqq => rw [List.mem_singleton.mp hq]; exact .head _
          rw [if_neg (Nat.succ_ne_zero i)]
          refine congrArg (fun z : Nat => some (Value.int (z : Int) tr)) ?_
          rw [if_neg (by lia)]
        case turn4 =>
          intro j m₁ nx h g tk own2 v hj7
          intro hz74
          (rcases hz74 with ⟨us, kk, ty, td, tr, tn, mn, h1, h2, h3, h4, h5, h6, h7, h8, hmn, hz75, hu⟩)
          try clear hz74
          obtain rfl := hz75
          rintro rfl
          intro hz92
          (refine ex1 hz92 fun tv hz93 => ?_)
          try clear hz92
          obtain rfl := hz93
          intro F N hof
          rw [Int.zero_add] at F
          have hsep2 : ∀ q ∈ own ++ own2, q.1 ≠ Da := fun q hq e => by
            rcases List.mem_append.mp hq with hq | hq
            · exact hsep q hq e
            · have q1 := H.new _ (hof q hq)
              have q2 := (N6 _ (.head _)).1
              rw [e, q2] at q1; cases q1
          rw [upd_self h8] at F
          rw [upd_self h7] at F
          rw [upd_self h6] at F
          rw [upd_self h5] at F
          rw [upd_self h4] at F
          rw [upd_self h3] at F
          rw [upd_self h2] at F
          rw [upd_self h1] at F
          clear F6 N6 W H hof h1 h2 h3 h4 h5 h6 h7 h8
          have hz94 : ∃ x, a2[j]? = some x := ⟨_, List.getElem?_eq_getElem hj7⟩
          (refine ex1 hz94 fun x hx => ?_)
          try clear hz94
          have hcost := hW2.cost i j y x hy hx
          have hx8 := hW2.a128 x (List.mem_of_getElem? hx)
          have hy8 := hW2.b128 y (List.mem_of_getElem? hy)
          iterate 15 walk1
          with_reducible rename Fr _ _ _ _ => F7
          refine (let mv9 := _; have Fv : Fr _ _ _ mv9 := F7; ?_)
          clear F7
          rename Fr _ _ _ mv9 => F7
          with_reducible rename News _ _ _ _ => N7
          refine ⟨X.keeps F7.keep, call_cost B X T F7 N7 hy8 hx8 (fun h8 tk8 t8 F8 N8 => ?_) rfl (Nat.le_of_ble_eq_true rfl) (Nat.le_of_ble_eq_true rfl)⟩
          clear F7 N7
          have hz95 := hu.get j ((dN a2 b2 i (j + 1) : Nat) : Int) (rowN_get hj7)
          (refine ex1 hz95 fun tq hq => ?_)
          try clear hz95
          have hj60 : j < 2 ^ 60 := Nat.lt_of_lt_of_le hj7 (Nat.le_trans hl7' (by decide))
          iterate 40 walk1
          with_reducible rename Fr _ _ _ _ => F9
          with_reducible rename News _ _ _ _ => N9
          have hstep := dN_step (a := a2) (b := b2) hW2.l7 (hW2.len ▸ hW2.l7) hy hx hcost rfl
          rw [hstep] at F9
          have hlen9 : (rowN a2 b2 i j).length = a2.length := rowN_len ..
          iterate 4 walk1
          refine ksa_set (vs := us) (n := kk) F9 N9 (.head hsep2) hu (Int.natCast_nonneg j) (by rw [hlen9]; lia) (by lia) fun h10 F10 N10 hi10 hy1 hy2 => ?_
          clear hy1 hy2
          rw [Int.toNat_natCast, rowN_set hj7] at hi10
          rw [Int.toNat_natCast] at N10
          clear F9 N9 hq hstep hcost
          have hz96 : ∃ us', News s.heap s.heap.objs.size h10 ((Da, listO us' kk) :: (own ++ own2)) ∧ IntsAre us' (rowN a2 b2 i (j + 1)) := ⟨_, N10, hi10⟩
          (refine ex1 hz96 fun us' hz97 => ?_; refine and2 hz97 fun N11 hi11 => ?_; clear hz97)
          try clear hz96
          clear N10 hi10
          clear hlen9 hu N
          iterate 8 walk1
          · with_reducible rename _ < mn => b6
            iterate 6 walk1
            with_reducible rename Fr _ _ _ _ => F11
            refine (let mv11 := _; have Fv : Fr _ _ _ mv11 := F11; ?_)
            clear F11
            rename Fr _ _ _ mv11 => F11
            with_reducible rename News _ _ _ _ => N12
            refine fend (nx' := (Da, listO us' kk) :: own) rfl F11 N12 (fun q hq => ?_) (fun q hq => .tail _ (List.mem_append_right _ hq)) (fun q hq => ?_) ⟨us', kk, _, _, _, _, _, rfl, rfl, rfl, rfl, rfl, rfl, rfl, rfl, fun _ => ?_, rfl, hi11⟩
            · rcases List.mem_cons.mp hq with rfl | hq
              · exact .head _
              · exact .tail _ (List.mem_append_left _ hq)
            · rcases List.mem_cons.mp hq with rfl | hq
              · exact .inl ⟨listO us kk, .head _⟩
              · exact .inl ⟨q.2, .tail _ hq⟩
            · rcases Nat.lt_or_ge i j with q | q
              · exact Int.le_of_lt (Int.lt_of_lt_of_le b6 (hmn q))
              · have : i = j := by lia
                subst this
                have := dN_diag7 (b := b2) (i := i) hl7'
                lia
          · with_reducible rename ¬ _ < mn => b6
            iterate 2 walk1
            with_reducible rename Fr _ _ _ _ => F11
            refine (let mv12 := _; have Fv : Fr _ _ _ mv12 := F11; ?_)
            clear F11
            rename Fr _ _ _ mv12 => F11
            refine fend (nx' := (Da, listO us' kk) :: own) rfl F11 N11 (fun q hq => ?_) (fun q hq => .tail _ (List.mem_append_right _ hq)) (fun q hq => ?_) ⟨us', kk, _, _, _, _, _, rfl, rfl, rfl, rfl, rfl, rfl, rfl, rfl, fun _ => ?_, rfl, hi11⟩
            · rcases List.mem_cons.mp hq with rfl | hq
              · exact .head _
              · exact .tail _ (List.mem_append_left _ hq)
            · rcases List.mem_cons.mp hq with rfl | hq
              · exact .inl ⟨listO us kk, .head _⟩
              · exact .inl ⟨q.2, .tail _ hq⟩
            · rcases Nat.lt_or_ge i j with q | q
              · exact hmn q
              · have : i = j := by lia
                subst this
                have := dN_diag7 (b := b2) (i := i) hl7'
                lia
theorem lev_c (w : World) (p : Program) (loose : List PySem.Str) (mean : ExcName → Option Value) (mg mb : PySem.Str → Option Value) (outer : List Env) (base : Heap) (s : Shared) (R : Result → Shared → Prop) (cs ds : List Nat) (ta tb tm : Tok) (hW : AlikeW cs ds) : Below (AT 330 60 outer) base outer s.heap → (hd.heap_1 w.params).In s.heap → Top p loose mean mg mb s.heap →
  (∀ L' m' news' h' tk' t', Fr s.heap L' h' m' → News s.heap L' h' news' → R (.ok (.ret (.int (diffN cs ds : Nat) t'))) { s with heap := h', toks := tk' }) →
  codeAny (model PySem.Challenge.rw_to0081_01.prog w) (AT 330 60 outer) (.call (.ref 108) ⟨[.str (txt cs) ta, .str (txt ds) tb, .int 14 tm], []⟩) R s := hil_ (Q := fun x => lev_c.S x.1 x.2.1 x.2.2.1 x.2.2.2.1 x.2.2.2.2.1 x.2.2.2.2.2.1 x.2.2.2.2.2.2.1 x.2.2.2.2.2.2.2.1 x.2.2.2.2.2.2.2.2.1 x.2.2.2.2.2.2.2.2.2.1 x.2.2.2.2.2.2.2.2.2.2.1 x.2.2.2.2.2.2.2.2.2.2.2.1 x.2.2.2.2.2.2.2.2.2.2.2.2.1 x.2.2.2.2.2.2.2.2.2.2.2.2.2) (by with_unfolding_all exact lev_c.core) (w, p, loose, mean, mg, mb, outer, base, s, R, cs, ta, tb, tm) ds hW

end
section
-- macros2 -- macros3
section
variable {w : World} {p : Program} {loose : List PySem.Str} {mean : ExcName → Option Value} {mg mb : PySem.Str → Option Value} {A : Around} {outer : List Env} {base G : Heap} {s : Shared} {Q E : Value → Shared → Prop} {L : Addr} {m : PySem.Str → Option Value} {news : List (Addr × Obj)} {E1 : Env}
theorem apart_new {h h' : Heap} {L' : Addr} {ex : List (Addr × Obj)} (N : News G L h news) (N' : News h L' h' ex) : ∀ q ∈ news, ∀ r ∈ ex, q.1 ≠ r.1 := fun q hq r hr e => by
  have z := (N' r hr).2.2
  rw [← e, (N q hq).1] at z; cases z
theorem callE_sums {l : Addr} {vs : List Value} {ns : List Int} (B : Below A base outer G) (X : (hd.heap_1 w.params).In G) (T : Top p loose mean mg mb G) (F : Fr G L s.heap m) (N : News G L s.heap news)
    (hl : s.heap.IsList l vs.toArray) (hi : IntsAre vs ns) (hlen : ns.length ≤ 7)
    (h : ∀ D k vsD ex h' tk', Fr G L h' m → News G L h' (news ++ ex) → (D, listO vsD k) ∈ ex → PIn ex vsD (sumsF ns) → (∀ q ∈ news, ∀ r ∈ ex, q.1 ≠ r.1) → Q (.ref D) { s with heap := h', toks := tk' })
    (h0 : A.handled = none) (h1 : A.depth ≤ 329) (h2 : A.units ≤ 57) (hf : E1.frame = some L := by rfl) (hkd : E1.scope.kind = .function := by rfl) :
    wpAny (model PySem.Challenge.rw_to0081_01.prog w) (A.deeper E1) (call (.ref 250) [.ref l]) Q E s := by
  refine wpAny_call ?_
  refine below_le (d := 330) (u := 100) (outer := E1 :: outer) ?_ h0 ?_ ?_ (Around.frames_deeper B.stack)
  · exact sums_c w p loose mean mg mb (E1 :: outer) base s _ l vs ns hl hi hlen (below_next B F hf hkd) (X.keeps F.keep) (T.keeps F.keep) fun D k vsD L' m' news' h' tk' F' N' hD hP => h D k vsD news' h' tk' (F.keeps F'.keep) (after_news F N F' N') hD hP (apart_new N N')
  · exact Nat.succ_le_succ h1
  · exact Nat.le_trans (Nat.add_le_add_right h2 3) (by decide)
theorem callE_least {l : Addr} {vs : List Value} {ps : List (Int × Int)} (B : Below A base outer G) (X : (hd.heap_1 w.params).In G) (T : Top p loose mean mg mb G) (F : Fr G L s.heap m) (N : News G L s.heap news)
    (hl : s.heap.IsList l vs.toArray) (hp : HP s.heap vs ps) (hlen : ps.length ≤ 128)
    (h : ∀ d o kvs ex h' tk', Fr G L h' m → News G L h' (news ++ ex) → (d, o) ∈ ex → o.IsDictOf (PySem.intKind PySem.Challenge.rw_to0081_01.prog w) kvs → FlatPairs PyData.int kvs (kdfD (leastF ps)) → (d == sysModules) = false → (∀ q ∈ news, ∀ r ∈ ex, q.1 ≠ r.1) → Q (.ref d) { s with heap := h', toks := tk' })
    (h0 : A.handled = none) (h1 : A.depth ≤ 329) (h2 : A.units ≤ 57) (hf : E1.frame = some L := by rfl) (hkd : E1.scope.kind = .function := by rfl) :
    wpAny (model PySem.Challenge.rw_to0081_01.prog w) (A.deeper E1) (call (.ref 257) [.ref l]) Q E s := by
  refine wpAny_call ?_
  refine below_le (d := 330) (u := 100) (outer := E1 :: outer) ?_ h0 ?_ ?_ (Around.frames_deeper B.stack)
  · exact least_c w p loose mean mg mb (E1 :: outer) base s _ l vs ps hl hp hlen (below_next B F hf hkd) (X.keeps F.keep) (T.keeps F.keep) fun d o kvs L' m' news' h' tk' F' N' hD hk hP lo => h d o kvs news' h' tk' (F.keeps F'.keep) (after_news F N F' N') hD hk hP lo (apart_new N N')
  · exact Nat.succ_le_succ h1
  · exact Nat.le_trans (Nat.add_le_add_right h2 3) (by decide)
theorem callE_lead {lc : Addr} {vs : List Value} {cols : List Nat} (B : Below A base outer G) (X : (hd.heap_1 w.params).In G) (T : Top p loose mean mg mb G) (F : Fr G L s.heap m) (N : News G L s.heap news)
    (hl : s.heap.IsList lc vs.toArray) (hi : IntsAre vs (cols.map fun c : Nat => (c : Int))) (hlen : cols.length ≤ 7) (hc8 : ∀ c ∈ cols, c < 8)
    (h : ∀ x d l u ts k ex h' tk', Fr G L h' m → News G L h' (news ++ ex) → (∀ p ∈ hdr w x d l u ts k, p ∈ ex) → SIn ex ts (leadN cols 8) → (∀ q ∈ news, ∀ r ∈ ex, q.1 ≠ r.1) → Q (.ref x) { s with heap := h', toks := tk' })
    (h0 : A.handled = none) (h1 : A.depth ≤ 329) (h2 : A.units ≤ 57) (hf : E1.frame = some L := by rfl) (hkd : E1.scope.kind = .function := by rfl) :
    wpAny (model PySem.Challenge.rw_to0081_01.prog w) (A.deeper E1) (call (.ref 264) [.ref lc]) Q E s := by
  refine wpAny_call ?_
  refine below_le (d := 330) (u := 60) (outer := E1 :: outer) ?_ h0 ?_ ?_ (Around.frames_deeper B.stack)
  · exact lead_c w p loose mean mg mb (E1 :: outer) base s _ lc vs cols hl hi hlen hc8 (below_next B F hf hkd) (X.keeps F.keep) (T.keeps F.keep) fun L' m' news' h' tk' x d l u ts k F' N' hh hS => h x d l u ts k news' h' tk' (F.keeps F'.keep) (after_news F N F' N') hh hS (apart_new N N')
  · exact Nat.succ_le_succ h1
  · exact Nat.le_trans (Nat.add_le_add_right h2 3) (by decide)
theorem callE_sizes {lc : Addr} {vs : List Value} {cols : List Nat} (B : Below A base outer G) (X : (hd.heap_1 w.params).In G) (T : Top p loose mean mg mb G) (F : Fr G L s.heap m) (N : News G L s.heap news)
    (hl : s.heap.IsList lc vs.toArray) (hi : IntsAre vs (cols.map fun c : Nat => (c : Int))) (hlen : cols.length ≤ 7) (hc8 : ∀ c ∈ cols, c < 8)
    (h : ∀ D us k ex h' tk' g', Fr G L h' m → News G L h' (news ++ ex) → (D, listO us k) ∈ ex → IntsAre us (sizesN cols 7) → GFin s.gens g' → (∀ q ∈ news, ∀ r ∈ ex, q.1 ≠ r.1) → Q (.ref D) { s with heap := h', gens := g', toks := tk' })
    (h0 : A.handled = none) (h1 : A.depth ≤ 329) (h2 : A.units ≤ 57) (hf : E1.frame = some L := by rfl) (hkd : E1.scope.kind = .function := by rfl) :
    wpAny (model PySem.Challenge.rw_to0081_01.prog w) (A.deeper E1) (call (.ref 271) [.ref lc]) Q E s := by
  refine wpAny_call ?_
  refine below_le (d := 330) (u := 60) (outer := E1 :: outer) ?_ h0 ?_ ?_ (Around.frames_deeper B.stack)
  · exact sizes_c w p loose mean mg mb (E1 :: outer) base s _ lc vs cols hl hi hlen hc8 (below_next B F hf hkd) (X.keeps F.keep) (T.keeps F.keep) fun L' m' news' h' tk' g' D us k F' N' hD hu hg => h D us k news' h' tk' g' (F.keeps F'.keep) (after_news F N F' N') hD hu hg (apart_new N N')
  · exact Nat.succ_le_succ h1
  · exact Nat.le_trans (Nat.add_le_add_right h2 3) (by decide)
theorem callE_bits {x : PySem.Str} {tx : Tok} (B : Below A base outer G) (X : (hd.heap_1 w.params).In G) (T : Top p loose mean mg mb G) (F : Fr G L s.heap m) (N : News G L s.heap news)
    (hx : ∀ c ∈ x.cps.toList, c < 128) (hlen : x.cps.size ≤ 7)
    (h : ∀ h' tk' t', Fr G L h' m → News G L h' news → Q (.int (bitsL x.cps.toList).sum t') { s with heap := h', toks := tk' })
    (h0 : A.handled = none) (h1 : A.depth ≤ 329) (h2 : A.units ≤ 57) (hf : E1.frame = some L := by rfl) (hkd : E1.scope.kind = .function := by rfl) :
    wpAny (model PySem.Challenge.rw_to0081_01.prog w) (A.deeper E1) (call (.ref 281) [.str x tx]) Q E s := by
  refine wpAny_call ?_
  refine below_le (d := 330) (u := 100) (outer := E1 :: outer) ?_ h0 ?_ ?_ (Around.frames_deeper B.stack)
  · exact bits_c w p loose mean mg mb (E1 :: outer) base s _ x tx hx hlen (below_next B F hf hkd) (X.keeps F.keep) (T.keeps F.keep) fun L' m' news' h' tk' t' F' N' => h h' tk' t' (F.keeps F'.keep) (N.grown F'.keep)
  · exact Nat.succ_le_succ h1
  · exact Nat.le_trans (Nat.add_le_add_right h2 3) (by decide)
theorem callE_lev {cs ds : List Nat} {ta tb tm : Tok} (B : Below A base outer G) (X : (hd.heap_1 w.params).In G) (T : Top p loose mean mg mb G) (F : Fr G L s.heap m) (N : News G L s.heap news) (hW : AlikeW cs ds)
    (h : ∀ h' tk' t', Fr G L h' m → News G L h' news → Q (.int (diffN cs ds : Nat) t') { s with heap := h', toks := tk' })
    (h0 : A.handled = none) (h1 : A.depth ≤ 329) (h2 : A.units ≤ 57) (hf : E1.frame = some L := by rfl) (hkd : E1.scope.kind = .function := by rfl) :
    wpAny (model PySem.Challenge.rw_to0081_01.prog w) (A.deeper E1) (call (.ref 108) [.str (txt cs) ta, .str (txt ds) tb, .int 14 tm]) Q E s := by
  refine wpAny_call ?_
  refine below_le (d := 330) (u := 60) (outer := E1 :: outer) ?_ h0 ?_ ?_ (Around.frames_deeper B.stack)
  · exact lev_c w p loose mean mg mb (E1 :: outer) base s _ cs ds ta tb tm hW (below_next B F hf hkd) (X.keeps F.keep) (T.keeps F.keep) fun L' m' news' h' tk' t' F' N' => h h' tk' t' (F.keeps F'.keep) (N.grown F'.keep)
  · exact Nat.succ_le_succ h1
  · exact Nat.le_trans (Nat.add_le_add_right h2 3) (by decide)
/-- int_divmod, the tables empty -/
theorem callE_idm {mm b : Nat} {ta tb : Tok} (B : Below A base outer G) (X : (hd.heap_1 w.params).In G) (T : Top p loose mean mg mb G) (F : Fr G L s.heap m) (N : News G L s.heap ((54, tabObj #[]) :: (61, tabObj #[]) :: news)) (hsep : ∀ q ∈ news, q.1 ≠ 54 ∧ q.1 ≠ 61) (hm : mm ≤ 7) (hb1 : 1 ≤ b) (hb8 : b ≤ 8)
    (h : ∀ h' tk' D t1 t2 c' p54 ex, Fr G L h' m → News G L h' ((D, { cls := .type "tuple", data := .seq #[.int ((2 ^ mm / b : Nat) : Int) t1, .int ((2 ^ mm % b : Nat) : Int) t2] }) :: (61, tabObj #[rawInt 51, rawInt 4, .ref c']) :: (54, tabObj p54) :: (news ++ ex)) →
      (∀ h'' : Heap, (∀ b o, G.get? b = some o → h''.get? b = some o) → (∀ q ∈ ex, h''.get? q.1 = some q.2) → h''.CodeRec (.ref c') (PySem.Str.ofString "_digits2int.<locals>.inner")) → c' ≠ 61 → (∀ q ∈ ex, q.1 = c' ) → Q (.ref D) { s with heap := h', toks := tk' })
    (h0 : A.handled = none) (h1 : A.depth ≤ 329) (h2 : A.units ≤ 57) (hf : E1.frame = some L := by rfl) (hkd : E1.scope.kind = .function := by rfl) :
    wpAny (model PySem.Challenge.rw_to0081_01.prog w) (A.deeper E1) (call (.ref 80) [.int ((2 ^ mm : Nat) : Int) ta, .int (b : Nat) tb]) Q E s := by
  refine wpAny_call ?_
  have n54 := N _ (.head _)
  have n61 := N _ (.tail _ (.head _))
  have hg : ∀ b ∈ [(54 : Addr), 61], G.get? b = none := fun b hb => by
    rcases List.mem_cons.mp hb with rfl | hb
    · exact n54.2.2
    · rw [List.mem_singleton.mp hb]; exact n61.2.2
  have hL : L ∉ [(54 : Addr), 61] := fun hb => by
    rcases List.mem_cons.mp hb with e | hb
    · exact n54.2.1 e.symm
    · exact n61.2.1 (List.mem_singleton.mp hb).symm
  have hup : ∀ b o, G.get? b = some o → (hideAll s.heap [54, 61]).get? b = some o := hide_up F.keep hg
  have B' : Below (AT 330 60 (E1 :: outer)) base (E1 :: outer) (hideAll s.heap [54, 61]) := below_hideE B F hg hL hf hkd
  refine below_le (d := 330) (u := 60) (outer := E1 :: outer) ?_ h0 ?_ ?_ (Around.frames_deeper B.stack)
  · refine idm_c w p loose mean mg mb (E1 :: outer) base s _ (hideAll s.heap [54, 61]) mm b ta tb hm hb1 hb8 (fun b o e => of_hideAll _ e) (hideAll_none _ (.head _)) (hideAll_none _ (.tail _ (.head _))) n54.1 n61.1 B' (X.keeps hup) (T.keeps hup) fun h' tk' D t1 t2 c' hk h61 hrec hne hD hnew h54 => ?_
    obtain ⟨p54, h54⟩ := h54
    have kG : ∀ b o, G.get? b = some o → h'.get? b = some o := fun b o e => hk b o (fun q => by rw [q, n54.2.2] at e; cases e) (fun q => by rw [q, n61.2.2] at e; cases e) (F.keep b o e)
    have F' : Fr G L h' m := ⟨F.ns.at' fun o e => hk _ o (fun q => n54.2.1 q.symm) (fun q => n61.2.1 q.symm) e, kG, F.above⟩
    have N' : News G L h' ((D, { cls := .type "tuple", data := .seq #[.int ((2 ^ mm / b : Nat) : Int) t1, .int ((2 ^ mm % b : Nat) : Int) t2] }) :: (61, tabObj #[rawInt 51, rawInt 4, .ref c']) :: (54, tabObj p54) :: news) := fun q hq => by
      rcases List.mem_cons.mp hq with rfl | hq
      · refine ⟨hD, fun e => ?_, ?_⟩
        · obtain ⟨oL, _, _, hLL, _⟩ := F.ns
          rw [show D = L from e, hLL] at hnew; cases hnew
        · show G.get? D = none
          cases q : G.get? D with
          | none => rfl
          | some o => rw [F.keep _ _ q] at hnew; cases hnew
      · rcases List.mem_cons.mp hq with rfl | hq
        · exact ⟨h61, n61.2⟩
        · rcases List.mem_cons.mp hq with rfl | hq
          · exact ⟨h54, n54.2⟩
          · have z := N q (.tail _ (.tail _ hq))
            exact ⟨hk _ _ (hsep q hq).1 (hsep q hq).2 z.1, z.2⟩
    obtain ⟨ex, hex, hec, N''⟩ := code_ex' hrec F' N'
    exact h h' tk' D t1 t2 c' p54 ex F' N'' hex hne hec
  · exact Nat.succ_le_succ h1
  · exact Nat.le_trans (Nat.add_le_add_right h2 3) (by decide)
/-- _law_mended, the table 61 and the header in the caller's ledger -/
theorem callE_mend {lc : Addr} {vs : List Value} {cols cs : List Nat} {tx : Tok} {x d l : Addr} {u : Tok} {ts : List Value} {k : Nat} {rows : List (Nat × List Nat)} {ps : Array Value} {ls : List Nat} (B : Below A base outer G) (X : (hd.heap_1 w.params).In G) (T : Top p loose mean mg mb G) (F : Fr G L s.heap m) (N : News G L s.heap news)
    (hl : s.heap.IsList lc vs.toArray) (hlc : lc ∉ (((61, tabObj ps) :: hdr w x d l u ts k).map (·.1))) (hi : IntsAre vs (cols.map fun c : Nat => (c : Int))) (hlen : cols.length ≤ 7) (hc8 : ∀ c ∈ cols, c < 8) (hcs : cs.length = cols.length) (hab : ∀ i c, cs[i]? = some c → c = 97 + i ∨ c = 65 + i)
    (hm : ∀ q ∈ (61, tabObj ps) :: hdr w x d l u ts k, q ∈ news) (hne : ∀ q ∈ hdr w x d l u ts k, q.1 ≠ 61) (hr : HS s.heap ts rows) (hrl : rows.length ≤ 8) (hrn : ∀ r ∈ rows, r.1 < 8)
    (hps : ∃ c', ps = #[rawInt 51, rawInt 4, .ref c'] ∧ (hideAll s.heap (((61, tabObj ps) :: hdr w x d l u ts k).map (·.1))).CodeRec (.ref c') (PySem.Str.ofString "_digits2int.<locals>.inner") ∧ c' ≠ 61)
    (hfind : rows.find? (·.1 == synN cs cols) = some (synN cs cols, ls)) (hls : ls.length ≤ 100)
    (h : ∀ h' tk' g' t', (∀ b o, b ≠ 61 → s.heap.get? b = some o → h'.get? b = some o) → (∃ q, h'.get? 61 = some (tabObj q)) → GFin s.gens g' → Q (.str (txt (mendF cs ls)) t') { s with heap := h', gens := g', toks := tk' })
    (h0 : A.handled = none) (h1 : A.depth ≤ 329) (h2 : A.units ≤ 57) (hf : E1.frame = some L := by rfl) (hkd : E1.scope.kind = .function := by rfl) :
    wpAny (model PySem.Challenge.rw_to0081_01.prog w) (A.deeper E1) (call (.ref 276) [.str (txt cs) tx, .ref lc, .ref x]) Q E s := by
  refine wpAny_call ?_
  obtain ⟨own, hown⟩ : ∃ own, own = (61, tabObj ps) :: hdr w x d l u ts k := ⟨_, rfl⟩
  rw [← hown] at hlc hps hm
  have hg : ∀ b ∈ own.map (·.1), G.get? b = none := fun b hb => by
    obtain ⟨q, hq, rfl⟩ := List.mem_map.mp hb
    exact (N q (hm q hq)).2.2
  have hL : L ∉ own.map (·.1) := fun hb => by
    obtain ⟨q, hq, e⟩ := List.mem_map.mp hb
    exact (N q (hm q hq)).2.1 e
  have hup : ∀ b o, G.get? b = some o → (hideAll s.heap (own.map (·.1))).get? b = some o := hide_up F.keep hg
  have B' : Below (AT 330 60 (E1 :: outer)) base (E1 :: outer) (hideAll s.heap (own.map (·.1))) := below_hideE B F hg hL hf hkd
  have hlG : (hideAll s.heap (own.map (·.1))).IsList lc vs.toArray := hl.at fun o e => hideAll_get _ e hlc
  have X' := X.keeps hup
  have T' := T.keeps hup
  have hkk : ∀ b o, (hideAll s.heap (own.map (·.1))).get? b = some o → s.heap.get? b = some o := fun b o e => of_hideAll _ e
  have hgg : ∀ q ∈ own, (hideAll s.heap (own.map (·.1))).get? q.1 = none := fun q hq => hideAll_none _ (List.mem_map_of_mem hq)
  have hoo : ∀ q ∈ own, s.heap.get? q.1 = some q.2 := fun q hq => (N q (hm q hq)).1
  generalize hideAll s.heap (own.map (·.1)) = G' at *
  rw [hown] at hgg hoo
  refine below_le (d := 330) (u := 60) (outer := E1 :: outer) ?_ h0 ?_ ?_ (Around.frames_deeper B.stack)
  · exact mend_c w p loose mean mg mb (E1 :: outer) base s _ G' lc vs cols cs tx x d l u ts k rows ps ls hlG hi hlen hc8 hcs hab hkk hgg hoo hne hr hrl hrn (.inr hps) hfind hls B' X' T' h
  · exact Nat.succ_le_succ h1
  · exact Nat.le_trans (Nat.add_le_add_right h2 3) (by decide)
end

end
section
/-- the sum of the columns that f chooses, of the first i; how many these are; and the number whose bits they are -/
noncomputable def xrF (f : Nat → Bool) (cols : List Nat) : Nat → Nat
  | 0 => 0
  | i + 1 => if f i then xrF f cols i ^^^ cols.getD i 0 else xrF f cols i
noncomputable def szF (f : Nat → Bool) : Nat → Nat
  | 0 => 0
  | i + 1 => if f i then szF f i + 1 else szF f i
noncomputable def vlF (f : Nat → Bool) : Nat → Nat
  | 0 => 0
  | i + 1 => if f i then vlF f i + 2 ^ i else vlF f i
theorem vlF_lt (f : Nat → Bool) : ∀ i, vlF f i < 2 ^ i
  | 0 => by simp [vlF]
  | i + 1 => by
    have h := vlF_lt f i
    unfold vlF
    rw [Nat.pow_succ]
    split <;> lia
theorem vl_sz (f : Nat → Bool) : ∀ i, vlF f i = 0 ↔ szF f i = 0
  | 0 => by simp [vlF, szF]
  | i + 1 => by
    have h := vl_sz f i
    unfold vlF szF
    have := Nat.two_pow_pos i
    split
    · lia
    · exact h
theorem szF_le (f : Nat → Bool) : ∀ i, szF f i ≤ i
  | 0 => Nat.le_refl _
  | i + 1 => by
    have h := szF_le f i
    unfold szF
    split <;> lia
theorem vl_test (k : Nat) : ∀ i, vlF (fun j => k.testBit j) i = k % 2 ^ i
  | 0 => by simp [vlF, Nat.mod_one]
  | i + 1 => by
    unfold vlF
    rw [vl_test k i, Nat.mod_pow_succ, Nat.testBit_eq_decide_div_mod_eq]
    have : k / 2 ^ i % 2 < 2 := Nat.mod_lt _ (by decide)
    by_cases h : k / 2 ^ i % 2 = 1
    · rw [if_pos (decide_eq_true h), h, Nat.mul_one]
    · rw [if_neg (by simpa using h), show k / 2 ^ i % 2 = 0 by lia, Nat.mul_zero, Nat.add_zero]
theorem vl_ext {f g : Nat → Bool} : ∀ {i : Nat}, (∀ j < i, f j = g j) → vlF f i = vlF g i
  | 0, _ => rfl
  | i + 1, h => by
    unfold vlF
    rw [vl_ext fun j hj => h j (by lia), h i (by lia)]
theorem sz_ext {f g : Nat → Bool} : ∀ {i : Nat}, (∀ j < i, f j = g j) → szF f i = szF g i
  | 0, _ => rfl
  | i + 1, h => by
    unfold szF
    rw [sz_ext fun j hj => h j (by lia), h i (by lia)]
theorem xr_ext {f g : Nat → Bool} {cols : List Nat} : ∀ {i : Nat}, (∀ j < i, f j = g j) → xrF f cols i = xrF g cols i
  | 0, _ => rfl
  | i + 1, h => by
    unfold xrF
    rw [xr_ext fun j hj => h j (by lia), h i (by lia)]
theorem xrF_lt {cols : List Nat} (hc8 : ∀ c ∈ cols, c < 8) (f : Nat → Bool) : ∀ i, xrF f cols i < 8
  | 0 => by simp [xrF]
  | i + 1 => by
    have h := xrF_lt hc8 f i
    have hg : cols.getD i 0 < 8 := by
      rw [List.getD_eq_getElem?_getD]
      cases q : cols[i]? with
      | none => simp
      | some c => exact hc8 c (List.mem_of_getElem? q)
    unfold xrF
    split
    · exact Nat.xor_lt_two_pow (n := 3) h hg
    · exact h
abbrev colI (cols : List Nat) : List Int := cols.map fun c : Nat => (c : Int)
theorem sums_take_len (cols : List Nat) {i : Nat} (h : i ≤ cols.length) : (sumsF ((colI cols).take i)).length = 2 ^ i := by
  rw [sumsF_len, List.length_take, List.length_map, Nat.min_eq_left h]
theorem sums_at {cols : List Nat} (hc8 : ∀ c ∈ cols, c < 8) (f : Nat → Bool) : ∀ i, i ≤ cols.length → (sumsF ((colI cols).take i))[vlF f i]? = some (((xrF f cols i : Nat) : Int), ((szF f i : Nat) : Int))
  | 0, _ => by simp [sumsF, vlF, xrF, szF]
  | i + 1, h => by
    have ih := sums_at hc8 f i (by lia)
    have hg8 : cols.getD i 0 < 8 := by
      rw [List.getD_eq_getElem?_getD, List.getElem?_eq_getElem (show i < cols.length from h)]
      exact hc8 _ (List.getElem_mem _)
    have hc : (colI cols)[i]? = some ((cols.getD i 0 : Nat) : Int) := by
      rw [List.getElem?_map, List.getElem?_eq_getElem (show i < cols.length from h), List.getD_eq_getElem?_getD, List.getElem?_eq_getElem (show i < cols.length from h)]
      rfl
    have hl := sums_take_len cols (show i ≤ cols.length by lia)
    have hv := vlF_lt f i
    rw [sumsF_take hc]
    unfold vlF xrF szF
    by_cases hf : f i = true
    · rw [if_pos hf, if_pos hf, if_pos hf, List.getElem?_append_right (by rw [hl]; lia), hl, Nat.add_sub_cancel, List.getElem?_map, ih]
      simp only [Option.map_some]
      rw [xor_nat (xrF_lt hc8 f i) hg8]
      rfl
    · rw [if_neg hf, if_neg hf, if_neg hf, List.getElem?_append_left (by rw [hl]; lia)]
      exact ih
theorem sums_get {cols : List Nat} (hc8 : ∀ c ∈ cols, c < 8) (f : Nat → Bool) : (sumsF (colI cols))[vlF f cols.length]? = some (((xrF f cols cols.length : Nat) : Int), ((szF f cols.length : Nat) : Int)) := by
  have := sums_at hc8 f cols.length (Nat.le_refl _)
  rwa [List.take_of_length_le (by rw [List.length_map]; exact Nat.le_refl _)] at this
theorem sums_bit {cols : List Nat} (hc8 : ∀ c ∈ cols, c < 8) {k : Nat} (h : k < 2 ^ cols.length) : (sumsF (colI cols))[k]? = some (((xrF (fun j => k.testBit j) cols cols.length : Nat) : Int), ((szF (fun j => k.testBit j) cols.length : Nat) : Int)) := by
  have := sums_get hc8 (fun j => k.testBit j)
  rwa [vl_test, Nat.mod_eq_of_lt h] at this
theorem sums_len (cols : List Nat) : (sumsF (colI cols)).length = 2 ^ cols.length := by rw [sumsF_len, List.length_map]
theorem sums_mem {cols : List Nat} (hc8 : ∀ c ∈ cols, c < 8) {p : Int × Int} (h : p ∈ sumsF (colI cols)) : ∃ f, p = (((xrF f cols cols.length : Nat) : Int), ((szF f cols.length : Nat) : Int)) := by
  obtain ⟨k, hk⟩ := List.getElem?_of_mem h
  have hl := (List.getElem?_eq_some_iff.mp hk).1
  rw [sums_len] at hl
  rw [sums_bit hc8 hl] at hk
  exact ⟨_, (Option.some.inj hk).symm⟩
theorem sums_has {cols : List Nat} (hc8 : ∀ c ∈ cols, c < 8) (f : Nat → Bool) : (((xrF f cols cols.length : Nat) : Int), ((szF f cols.length : Nat) : Int)) ∈ sumsF (colI cols) := List.mem_of_getElem? (sums_get hc8 f)
/-- the first entry is told apart by its size -/
theorem drop_mem {cols : List Nat} (hc8 : ∀ c ∈ cols, c < 8) {p : Int × Int} (h : p ∈ (sumsF (colI cols)).drop 1) : ∃ f, p = (((xrF f cols cols.length : Nat) : Int), ((szF f cols.length : Nat) : Int)) ∧ 1 ≤ szF f cols.length := by
  obtain ⟨k, hk⟩ := List.getElem?_of_mem h
  rw [List.getElem?_drop] at hk
  have hl := (List.getElem?_eq_some_iff.mp hk).1
  rw [sums_len] at hl
  rw [sums_bit hc8 hl] at hk
  refine ⟨_, (Option.some.inj hk).symm, ?_⟩
  have := vl_sz (fun j => (1 + k).testBit j) cols.length
  rw [vl_test, Nat.mod_eq_of_lt hl] at this
  exact Nat.pos_of_ne_zero fun q => absurd (this.mpr q) (Nat.ne_of_gt (Nat.lt_of_lt_of_le Nat.one_pos (Nat.le_add_right 1 k)))
theorem drop_has {cols : List Nat} (hc8 : ∀ c ∈ cols, c < 8) (f : Nat → Bool) (h : 1 ≤ szF f cols.length) : (((xrF f cols cols.length : Nat) : Int), ((szF f cols.length : Nat) : Int)) ∈ (sumsF (colI cols)).drop 1 := by
  have := vl_sz f cols.length
  obtain ⟨k, hk⟩ : ∃ k, vlF f cols.length = 1 + k := ⟨vlF f cols.length - 1, (Nat.add_sub_cancel' (Nat.pos_of_ne_zero fun q => Nat.ne_of_gt h (this.mp q))).symm⟩
  have hg := sums_get hc8 f
  rw [hk] at hg
  exact List.mem_of_getElem? (by rw [List.getElem?_drop]; exact hg)

/-! the table of the least sizes -/
structure LeastOk (ps c : List (Int × Int)) : Prop where
  nd : (c.map (·.1)).Nodup
  sub : ∀ p ∈ c, p ∈ ps
  low : ∀ q ∈ ps, ∃ p ∈ c, p.1 = q.1 ∧ p.2 ≤ q.2
theorem nd_keys {α β : Type} {c : List (α × β)} (h : (c.map (·.1)).Nodup) {p q : α × β} (hp : p ∈ c) (hq : q ∈ c) (e : p.1 = q.1) : p = q := by
  induction c with
  | nil => cases hp
  | cons a c ih =>
    rw [List.map_cons, List.nodup_cons] at h
    rcases List.mem_cons.mp hp with h1 | h1 <;> rcases List.mem_cons.mp hq with h2 | h2
    · rw [h1, h2]
    · exact absurd (List.mem_map.mpr ⟨q, h2, by rw [← e, h1]⟩) h.1
    · exact absurd (List.mem_map.mpr ⟨p, h1, by rw [e, h2]⟩) h.1
    · exact ih h.2 h1 h2
theorem look_of {c : List (Int × Int)} (h : (c.map (·.1)).Nodup) {p : Int × Int} (hp : p ∈ c) : kdfHas c p.1 = true ∧ ∀ d, kdfLook c p.1 d = p.2 := by
  have hh : kdfHas c p.1 = true := by unfold kdfHas; rw [List.any_eq_true]; exact ⟨p, hp, by simp⟩
  refine ⟨hh, fun d => ?_⟩
  unfold kdfLook
  cases hf : c.find? fun q => decide (q.1 = p.1) with
  | none => rw [List.find?_eq_none] at hf; exact absurd (by simp) (hf p hp)
  | some q =>
    have h1 := List.mem_of_find?_eq_some hf
    have h2 := List.find?_some hf
    rw [nd_keys h h1 hp (by simpa using h2)]
    rfl
theorem least_step {ps c : List (Int × Int)} (H : LeastOk ps c) (p : Int × Int) : LeastOk (ps ++ [p]) (leastStep c p) := by
  unfold leastStep
  by_cases hh : kdfHas c p.1 = true
  · obtain ⟨r, hr, hre⟩ : ∃ r ∈ c, r.1 = p.1 := by
      unfold kdfHas at hh
      rw [List.any_eq_true] at hh
      obtain ⟨r, hr, e⟩ := hh
      exact ⟨r, hr, by simpa using e⟩
    have hlk : kdfLook c p.1 0 = r.2 := by rw [← hre]; exact (look_of H.nd hr).2 0
    rw [hh, hlk]
    by_cases hlt : p.2 < r.2
    · rw [if_pos (by simp [hlt])]
      unfold kdfPut
      rw [if_pos (show (c.any fun q => decide (q.1 = p.1)) = true from hh)]
      refine ⟨?_, fun q hq => ?_, fun q hq => ?_⟩
      · rw [List.map_map]
        have : ((fun x : Int × Int => x.1) ∘ fun q : Int × Int => if decide (q.1 = p.1) = true then (q.1, p.2) else q) = fun q => q.1 := by
          funext q; simp only [Function.comp]; split <;> rfl
        rw [this]; exact H.nd
      · obtain ⟨q', hq', rfl⟩ := List.mem_map.mp hq
        split
        · rename_i e
          have e' : q'.1 = p.1 := by simpa using e
          rw [e']; simp
        · exact List.mem_append_left _ (H.sub _ hq')
      · rcases List.mem_append.mp hq with hq | hq
        · obtain ⟨a, ha, e1, e2⟩ := H.low q hq
          by_cases he : a.1 = p.1
          · have har : a = r := nd_keys H.nd ha hr (by rw [he, hre])
            refine ⟨(a.1, p.2), List.mem_map.mpr ⟨a, ha, by rw [if_pos (by simp [he])]⟩, e1, ?_⟩
            show p.2 ≤ q.2
            rw [har] at e2; lia
          · exact ⟨a, List.mem_map.mpr ⟨a, ha, by rw [if_neg (by simp [he])]⟩, e1, e2⟩
        · rw [List.mem_singleton.mp hq]
          exact ⟨(r.1, p.2), List.mem_map.mpr ⟨r, hr, by rw [if_pos (by simp [hre])]⟩, hre, Int.le_refl _⟩
    · rw [if_neg (by simp [hlt])]
      refine ⟨H.nd, fun q hq => List.mem_append_left _ (H.sub q hq), fun q hq => ?_⟩
      rcases List.mem_append.mp hq with hq | hq
      · exact H.low q hq
      · rw [List.mem_singleton.mp hq]; exact ⟨r, hr, hre, by lia⟩
  · have hf : kdfHas c p.1 = false := by simpa using hh
    have hno : ∀ q ∈ c, q.1 ≠ p.1 := fun q hq e => hh (by unfold kdfHas; rw [List.any_eq_true]; exact ⟨q, hq, by simp [e]⟩)
    rw [hf, if_pos (by simp)]
    unfold kdfPut
    rw [if_neg (show ¬ (c.any fun q => decide (q.1 = p.1)) = true from hh)]
    refine ⟨?_, fun q hq => ?_, fun q hq => ?_⟩
    · rw [List.map_append, List.nodup_append]
      refine ⟨H.nd, by simp, fun a ha b hb => ?_⟩
      obtain ⟨q, hq, rfl⟩ := List.mem_map.mp ha
      have : b = p.1 := by simpa using hb
      rw [this]; exact hno q hq
    · rcases List.mem_append.mp hq with hq | hq
      · exact List.mem_append_left _ (H.sub q hq)
      · rw [List.mem_singleton.mp hq]; simp
    · rcases List.mem_append.mp hq with hq | hq
      · obtain ⟨a, ha, e1, e2⟩ := H.low q hq
        exact ⟨a, List.mem_append_left _ ha, e1, e2⟩
      · rw [List.mem_singleton.mp hq]; exact ⟨p, by simp, rfl, Int.le_refl _⟩
theorem least_ok (ps : List (Int × Int)) : LeastOk ps (leastF ps) := by
  have : ∀ i, i ≤ ps.length → LeastOk (ps.take i) (leastF (ps.take i)) := by
    intro i
    induction i with
    | zero => intro _; exact ⟨by simp [leastF], by simp [leastF], by simp⟩
    | succ i ih =>
      intro h
      have hp : ps[i]? = some ps[i] := List.getElem?_eq_getElem (show i < ps.length from h)
      rw [leastF_take hp, List.take_add_one, hp]
      exact least_step (ih (by lia)) _
  have h := this ps.length (Nat.le_refl _)
  rwa [List.take_length] at h

end
section
/-! the table of leaders, found breadth first -/
noncomputable def xrL (cols : List Nat) : List Nat → Nat
  | [] => 0
  | y :: r => cols.getD (y - 97) 0 ^^^ xrL cols r
theorem xrL_snoc (cols : List Nat) (y : Nat) : ∀ ls, xrL cols (ls ++ [y]) = xrL cols ls ^^^ cols.getD (y - 97) 0
  | [] => by simp [xrL]
  | z :: r => by simp only [List.cons_append, xrL]; rw [xrL_snoc cols y r, Nat.xor_assoc]
noncomputable def RowOk (cols : List Nat) (r : Nat × List Nat) : Prop := (∀ y ∈ r.2, 97 ≤ y ∧ y < 97 + cols.length) ∧ xrL cols r.2 = r.1
theorem setR_mem {rows : List (Nat × List Nat)} {c : Nat} {ls : List Nat} {r : Nat × List Nat} (h : r ∈ setR rows c ls) : r ∈ rows ∨ r = (c, ls) := by
  unfold setR at h
  split at h
  · exact .inl h
  · simpa using h
theorem setR_pre (rows : List (Nat × List Nat)) (c : Nat) (ls : List Nat) : rows <+: setR rows c ls := by
  unfold setR
  split
  · exact List.prefix_rfl
  · exact List.prefix_append _ _
theorem setR_has (rows : List (Nat × List Nat)) (c : Nat) (ls : List Nat) : ∃ r ∈ setR rows c ls, r.1 = c := by
  unfold setR
  split
  · rename_i r h
    exact ⟨r, List.mem_of_find?_eq_some h, by simpa using List.find?_some h⟩
  · exact ⟨(c, ls), by simp, rfl⟩
abbrev Asc (rows : List (Nat × List Nat)) : Prop := rows.Pairwise fun a b => a.2.length ≤ b.2.length
theorem setR_asc {rows : List (Nat × List Nat)} {c : Nat} {ls : List Nat} (h : Asc rows) (hb : ∀ r ∈ rows, r.2.length ≤ ls.length) : Asc (setR rows c ls) := by
  unfold setR
  split
  · exact h
  · exact List.pairwise_append.mpr ⟨h, by simp, fun a ha b hb' => by rw [List.mem_singleton.mp hb']; exact hb a ha⟩
section
variable {cols : List Nat} {n : Nat} {ls : List Nat} {rows : List (Nat × List Nat)}
theorem innerN_succ (i : Nat) (hi : i < cols.length) : innerN n ls cols rows (i + 1) = setR (innerN n ls cols rows i) (n ^^^ cols.getD i 0) (ls ++ [97 + i]) := by
  show (match cols[i]? with | some c => setR (innerN n ls cols rows i) (n ^^^ c) (ls ++ [97 + i]) | none => innerN n ls cols rows i) = _
  rw [List.getElem?_eq_getElem hi, List.getD_eq_getElem?_getD, List.getElem?_eq_getElem hi]
  rfl
theorem inner_all (ha : Asc rows) (hb : ∀ r ∈ rows, r.2.length ≤ ls.length + 1) (hok : ∀ r ∈ rows, RowOk cols r) (hme : RowOk cols (n, ls)) : ∀ i, i ≤ cols.length →
    rows <+: innerN n ls cols rows i ∧ Asc (innerN n ls cols rows i) ∧ (∀ r ∈ innerN n ls cols rows i, r.2.length ≤ ls.length + 1) ∧ (∀ r ∈ innerN n ls cols rows i, RowOk cols r) ∧
    ∀ j < i, ∃ r ∈ innerN n ls cols rows i, r.1 = n ^^^ cols.getD j 0
  | 0, _ => ⟨List.prefix_rfl, ha, hb, hok, fun j hj => absurd hj (Nat.not_lt_zero j)⟩
  | i + 1, h => by
    have hz1 := inner_all ha hb hok hme i (by lia)
    (refine and5 hz1 fun h1 h2 h3 h4 h5 => ?_)
    try clear hz1
    rw [innerN_succ i h]
    have hl : (ls ++ [97 + i]).length = ls.length + 1 := by simp
    refine ⟨h1.trans (setR_pre _ _ _), setR_asc h2 (by rw [hl]; exact h3), fun r hr => ?_, fun r hr => ?_, fun j hj => ?_⟩
    · rcases setR_mem hr with hr | rfl
      · exact h3 r hr
      · rw [hl]; exact Nat.le_refl _
    · rcases setR_mem hr with hr | rfl
      · exact h4 r hr
      · refine ⟨fun y hy => ?_, ?_⟩
        · rcases List.mem_append.mp hy with hy | hy
          · exact hme.1 y hy
          · rw [List.mem_singleton.mp hy]; lia
        · show xrL cols (ls ++ [97 + i]) = n ^^^ cols.getD i 0
          rw [xrL_snoc, show 97 + i - 97 = i by lia]
          rw [show xrL cols ls = n from hme.2]
    · by_cases e : j = i
      · rw [e]; exact setR_has _ _ _
      · have hz5 := h5 j (by lia)
        (refine ex1 hz5 fun r hz6 => ?_; refine and2 hz6 fun hr e1 => ?_; clear hz6)
        try clear hz5
        exact ⟨r, (setR_pre _ _ _).subset hr, e1⟩
end
structure LeadOk (cols : List Nat) (k : Nat) (rows : List (Nat × List Nat)) : Prop where
  asc : Asc rows
  ok : ∀ r ∈ rows, RowOk cols r
  zero : (0, []) ∈ rows
  bound : ∀ r, rows[k]? = some r → ∀ q ∈ rows, q.2.length ≤ r.2.length + 1
  closed : ∀ j < k, ∀ r, rows[j]? = some r → ∀ i < cols.length, ∃ q ∈ rows, q.1 = r.1 ^^^ cols.getD i 0 ∧ q.2.length ≤ r.2.length + 1
theorem pre_get {α : Type} {l l' : List α} {i : Nat} {a : α} (h : l <+: l') (e : l[i]? = some a) : l'[i]? = some a := by
  (refine ex1 h fun t hz7 => ?_)
  try clear h
  obtain rfl := hz7
  rw [List.getElem?_append_left (List.getElem?_eq_some_iff.mp e).1, e]
theorem asc_get {rows : List (Nat × List Nat)} (h : Asc rows) {i j : Nat} {a b : Nat × List Nat} (hij : i < j) (ea : rows[i]? = some a) (eb : rows[j]? = some b) : a.2.length ≤ b.2.length := by
  have hz8 := List.getElem?_eq_some_iff.mp ea
  (rcases hz8 with ⟨h1, hz9⟩)
  try clear hz8
  obtain rfl := hz9
  have hz10 := List.getElem?_eq_some_iff.mp eb
  (rcases hz10 with ⟨h2, hz11⟩)
  try clear hz10
  obtain rfl := hz11
  exact List.pairwise_iff_getElem.mp h i j h1 h2 hij
theorem lead_ok (cols : List Nat) : ∀ k, LeadOk cols k (leadN cols k)
  | 0 => ⟨by simp [leadN], by simp [leadN, RowOk, xrL], by simp [leadN], by simp [leadN], fun j hj => absurd hj (Nat.not_lt_zero j)⟩
  | k + 1 => by
    have H := lead_ok cols k
    unfold leadN
    split
    · rename_i r e
      have hb := H.bound r e
      have hz12 := inner_all (n := r.1) (ls := r.2) H.asc hb H.ok (H.ok r (List.mem_of_getElem? e)) cols.length (Nat.le_refl _)
      (refine and5 hz12 fun h1 h2 h3 h4 h5 => ?_)
      try clear hz12
      have hrk := pre_get h1 e
      refine ⟨h2, h4, h1.subset H.zero, fun r' e' q hq => ?_, fun j hj r' e' i hi => ?_⟩
      · have := asc_get h2 (Nat.lt_succ_self k) hrk e'
        have := h3 q hq
        lia
      · by_cases ejk : j = k
        · rw [ejk, hrk] at e'
          cases e'
          have hz16 := h5 i hi
          (refine ex1 hz16 fun q hz17 => ?_; refine and2 hz17 fun hq e1 => ?_; clear hz17)
          try clear hz16
          exact ⟨q, hq, e1, h3 q hq⟩
        · have hjl : j < (leadN cols k).length := by
            have := (List.getElem?_eq_some_iff.mp e).1
            lia
          have hold : (leadN cols k)[j]? = some (leadN cols k)[j] := List.getElem?_eq_getElem hjl
          have := pre_get h1 hold
          rw [this] at e'
          cases e'
          have hz18 := H.closed j (by lia) _ hold i hi
          (refine ex1 hz18 fun q hz19 => ?_; refine and3 hz19 fun hq e1 e2 => ?_; clear hz19)
          try clear hz18
          exact ⟨q, h1.subset hq, e1, e2⟩
    · rename_i e
      refine ⟨H.asc, H.ok, H.zero, fun r' e' => ?_, fun j hj r' e' i hi => ?_⟩
      · rw [List.getElem?_eq_none (Nat.le_trans (List.getElem?_eq_none_iff.mp e) (Nat.le_succ k))] at e'; cases e'
      · have : j < k := by
          have h1 := (List.getElem?_eq_some_iff.mp e').1
          have h2 := List.getElem?_eq_none_iff.mp e
          lia
        exact H.closed j this r' e' i hi
section
variable {cols : List Nat} (hc8 : ∀ c ∈ cols, c < 8) (hc7 : cols.length ≤ 7)
include hc8 hc7
theorem lead_closed {r : Nat × List Nat} (hr : r ∈ leadN cols 8) {i : Nat} (hi : i < cols.length) : ∃ q ∈ leadN cols 8, q.1 = r.1 ^^^ cols.getD i 0 ∧ q.2.length ≤ r.2.length + 1 := by
  have hz21 := List.getElem?_of_mem hr
  (refine ex1 hz21 fun j hj => ?_)
  try clear hz21
  have h1 := (List.getElem?_eq_some_iff.mp hj).1
  have h2 := (okk_lead hc8 hc7 8).len
  exact (lead_ok cols 8).closed j (by lia) r hj i hi
/-- what is told for a sum is no more than any choice that has it -/
theorem lead_le (f : Nat → Bool) : ∀ i, i ≤ cols.length → ∃ q ∈ leadN cols 8, q.1 = xrF f cols i ∧ q.2.length ≤ szF f i
  | 0, _ => ⟨(0, []), (lead_ok cols 8).zero, rfl, Nat.le_refl _⟩
  | i + 1, h => by
    have hz22 := lead_le f i (by lia)
    (refine ex1 hz22 fun q hz23 => ?_; refine and3 hz23 fun hq e1 e2 => ?_; clear hz23)
    try clear hz22
    unfold xrF szF
    by_cases hf : f i = true
    · have hz25 := lead_closed hc8 hc7 hq (show i < cols.length from h)
      (refine ex1 hz25 fun q' hz26 => ?_; refine and3 hz26 fun hq' e1' e2' => ?_; clear hz26)
      try clear hz25
      rw [if_pos hf, if_pos hf]
      exact ⟨q', hq', by rw [e1', e1], by lia⟩
    · rw [if_neg hf, if_neg hf]
      exact ⟨q, hq, e1, e2⟩
end
/-! letters as a choice -/
noncomputable def tog (f : Nat → Bool) (i : Nat) : Nat → Bool := fun j => if j = i then !f j else f j
noncomputable def gL : List Nat → Nat → Bool
  | [] => fun _ => false
  | y :: r => tog (gL r) (y - 97)
theorem tog_at (f : Nat → Bool) (cols : List Nat) (i : Nat) : ∀ n, if i < n then xrF (tog f i) cols n = xrF f cols n ^^^ cols.getD i 0 ∧ (if f i then szF (tog f i) n + 1 = szF f n else szF (tog f i) n = szF f n + 1)
    else xrF (tog f i) cols n = xrF f cols n ∧ szF (tog f i) n = szF f n
  | 0 => by simp [xrF, szF]
  | n + 1 => by
    have ih := tog_at f cols i n
    by_cases h1 : i < n
    · rw [if_pos h1] at ih
      rw [if_pos (by lia)]
      have e : tog f i n = f n := by unfold tog; rw [if_neg (by lia)]
      unfold xrF szF
      rw [e, ih.1]
      cases hf : f n
      · simp only [Bool.false_eq_true, if_false]; exact ⟨trivial, ih.2⟩
      · simp only [if_true]
        refine ⟨by rw [Nat.xor_assoc, Nat.xor_assoc, Nat.xor_comm (cols.getD i 0)], ?_⟩
        have := ih.2
        cases hfi : f i
        · rw [hfi] at this; simp only [Bool.false_eq_true, if_false] at this ⊢; lia
        · rw [hfi] at this; simp only [if_true] at this ⊢; lia
    · rw [if_neg h1] at ih
      by_cases h2 : i = n
      · subst h2
        rw [if_pos (by lia)]
        have e : tog f i i = !f i := by unfold tog; rw [if_pos rfl]
        unfold xrF szF
        rw [e, ih.1, ih.2]
        cases hf : f i
        · simp only [Bool.not_false, if_true, Bool.false_eq_true, if_false]
          exact ⟨trivial, trivial⟩
        · simp only [Bool.not_true, if_true, Bool.false_eq_true, if_false]
          exact ⟨by rw [Nat.xor_assoc, Nat.xor_self, Nat.xor_zero], trivial⟩
      · rw [if_neg (by lia)]
        have e : tog f i n = f n := by unfold tog; rw [if_neg (fun q => h2 q.symm)]
        unfold xrF szF
        rw [e, ih.1, ih.2]
        exact ⟨rfl, rfl⟩
theorem gL_sum {cols : List Nat} : ∀ {ls : List Nat}, (∀ y ∈ ls, 97 ≤ y ∧ y < 97 + cols.length) → xrF (gL ls) cols cols.length = xrL cols ls ∧ szF (gL ls) cols.length ≤ ls.length
  | [], _ => by
    have : ∀ n, xrF (gL []) cols n = 0 ∧ szF (gL []) n = 0 := by
      intro n
      induction n with
      | zero => exact ⟨rfl, rfl⟩
      | succ n ih => exact ⟨by simp [xrF, gL]; exact ih.1, by simp [szF, gL]; exact ih.2⟩
    exact ⟨(this _).1, by rw [(this _).2]; exact Nat.zero_le _⟩
  | y :: r, h => by
    have ih := gL_sum (cols := cols) (ls := r) fun z hz => h z (.tail _ hz)
    have hy := h y (.head _)
    have ht := tog_at (gL r) cols (y - 97) cols.length
    rw [if_pos (sub97 hy)] at ht
    show xrF (tog (gL r) (y - 97)) cols cols.length = cols.getD (y - 97) 0 ^^^ xrL cols r ∧ szF (tog (gL r) (y - 97)) cols.length ≤ r.length + 1
    refine ⟨by rw [ht.1, ih.1, Nat.xor_comm], ?_⟩
    have := ht.2
    split at this <;> lia
theorem gL_tight {cols : List Nat} : ∀ {ls : List Nat}, (∀ y ∈ ls, 97 ≤ y ∧ y < 97 + cols.length) → szF (gL ls) cols.length = ls.length → ∀ j, gL ls j = decide (97 + j ∈ ls)
  | [], _, _, j => by simp [gL]
  | y :: r, h, e, j => by
    have ih := gL_sum (cols := cols) (ls := r) fun z hz => h z (.tail _ hz)
    have hy := h y (.head _)
    have ht := tog_at (gL r) cols (y - 97) cols.length
    rw [if_pos (sub97 hy)] at ht
    have e' : szF (tog (gL r) (y - 97)) cols.length = r.length + 1 := e
    have ht2 := ht.2
    have hf : gL r (y - 97) = false := by
      cases q : gL r (y - 97) with
      | false => rfl
      | true => rw [q] at ht2; simp only [if_true] at ht2; have := ih.2; lia
    rw [hf] at ht2
    simp only [Bool.false_eq_true, if_false] at ht2
    have ihj := gL_tight (cols := cols) (ls := r) (fun z hz => h z (.tail _ hz)) (by lia) j
    show tog (gL r) (y - 97) j = _
    unfold tog
    by_cases q : j = y - 97
    · rw [if_pos q, q, hf]
      have : 97 + (y - 97) = y := Nat.add_sub_cancel' hy.1
      simp [this]
    · rw [if_neg q, ihj]
      have : 97 + j ≠ y := fun e => q (by rw [← e, Nat.add_sub_cancel_left])
      simp [this]
section
variable {cols : List Nat} (hc8 : ∀ c ∈ cols, c < 8) (hc7 : cols.length ≤ 7)
include hc8 hc7
/-- each row is a least choice -/
theorem row_tight {r : Nat × List Nat} (hr : r ∈ leadN cols 8) : szF (gL r.2) cols.length = r.2.length ∧ xrF (gL r.2) cols cols.length = r.1 := by
  have hok := (lead_ok cols 8).ok r hr
  have hs := gL_sum hok.1
  have hz28 := lead_le hc8 hc7 (gL r.2) cols.length (Nat.le_refl _)
  (refine ex1 hz28 fun q hz29 => ?_; refine and3 hz29 fun hq e1 e2 => ?_; clear hz29)
  try clear hz28
  have : q = r := nd_keys (okk_lead hc8 hc7 8).1 hq hr (by rw [e1, hs.1, hok.2])
  rw [this] at e2
  exact ⟨by lia, by rw [hs.1, hok.2]⟩
theorem row_least {r : Nat × List Nat} (hr : r ∈ leadN cols 8) (f : Nat → Bool) (e : xrF f cols cols.length = r.1) : r.2.length ≤ szF f cols.length := by
  have hz31 := lead_le hc8 hc7 f cols.length (Nat.le_refl _)
  (refine ex1 hz31 fun q hz32 => ?_; refine and3 hz32 fun hq e1 e2 => ?_; clear hz32)
  try clear hz31
  have : q = r := nd_keys (okk_lead hc8 hc7 8).1 hq hr (by rw [e1, e])
  rwa [this] at e2
end

end
section
/-- the table as pairs -/
noncomputable def rowF (r : Nat × List Nat) : Int × Int := ((r.1 : Int), (r.2.length : Int))
noncomputable def rowsP (cols : List Nat) : List (Int × Int) := (leadN cols 8).map rowF
theorem rowsP_nd {cols : List Nat} (h : ((leadN cols 8).map (·.1)).Nodup) : ((rowsP cols).map (·.1)).Nodup := by
  unfold rowsP
  rw [List.map_map]
  have e : (leadN cols 8).map ((fun x : Int × Int => x.1) ∘ rowF) = ((leadN cols 8).map (·.1)).map fun n : Nat => (n : Int) := by rw [List.map_map]; rfl
  rw [e]
  rw [List.nodup_iff_pairwise_ne, List.pairwise_map]
  exact (List.nodup_iff_pairwise_ne.mp h).imp fun hne q => hne (Int.ofNat_inj.mp q)
theorem nd_of_keys {α β : Type} {c : List (α × β)} (h : (c.map (·.1)).Nodup) : c.Nodup := by
  rw [List.nodup_iff_pairwise_ne] at h ⊢
  rw [List.pairwise_map] at h
  exact h.imp fun hne q => hne (by rw [q])
section
variable {cols : List Nat} (hc8 : ∀ c ∈ cols, c < 8) (hc7 : cols.length ≤ 7)
include hc8 hc7
theorem row_in {r : Nat × List Nat} (hr : r ∈ leadN cols 8) : rowF r ∈ leastF (sumsF (colI cols)) := by
  obtain ⟨h1, h2⟩ := row_tight hc8 hc7 hr
  have hm := sums_has hc8 (gL r.2)
  rw [h1, h2] at hm
  obtain ⟨p, hp, e1, e2⟩ := (least_ok (sumsF (colI cols))).low _ hm
  obtain ⟨f, hf⟩ := sums_mem hc8 ((least_ok _).sub p hp)
  have e1' : p.1 = (r.1 : Int) := e1
  have e2' : p.2 ≤ (r.2.length : Int) := e2
  have hx : xrF f cols cols.length = r.1 := by rw [hf] at e1'; exact Int.ofNat_inj.mp e1'
  have hl := row_least hc8 hc7 hr f hx
  have : p = rowF r := by
    rw [hf] at e2' ⊢
    simp only at e2'
    unfold rowF
    rw [hx, show szF f cols.length = r.2.length by lia]
  rw [← this]; exact hp
theorem in_row {p : Int × Int} (hp : p ∈ leastF (sumsF (colI cols))) : ∃ r ∈ leadN cols 8, p = rowF r := by
  obtain ⟨f, hf⟩ := sums_mem hc8 ((least_ok _).sub p hp)
  obtain ⟨q, hq, e1, e2⟩ := lead_le hc8 hc7 f cols.length (Nat.le_refl _)
  refine ⟨q, hq, ?_⟩
  exact nd_keys (least_ok _).nd hp (row_in hc8 hc7 hq) (by rw [hf]; show ((xrF f cols cols.length : Nat) : Int) = (q.1 : Int); rw [e1])
theorem least_rows : (rowsP cols).Perm (leastF (sumsF (colI cols))) := by
  refine (List.perm_ext_iff_of_nodup (nd_of_keys (rowsP_nd (okk_lead hc8 hc7 8).1)) (nd_of_keys (least_ok _).nd)).mpr fun p => ⟨fun h => ?_, fun h => ?_⟩
  · obtain ⟨r, hr, rfl⟩ := List.mem_map.mp h
    exact row_in hc8 hc7 hr
  · obtain ⟨r, hr, rfl⟩ := in_row hc8 hc7 h
    exact List.mem_map.mpr ⟨r, hr, rfl⟩
theorem least_len8 : (leastF (sumsF (colI cols))).length ≤ 8 := by
  rw [← (least_rows hc8 hc7).length_eq]
  unfold rowsP
  rw [List.length_map]
  exact (okk_lead hc8 hc7 8).len
end
theorem least_nd {cols : List Nat} : ((leastF (sumsF (colI cols))).map (·.1)).Nodup := (least_ok _).nd
theorem vlF_succ (f : Nat → Bool) (i : Nat) : vlF f (i + 1) = if f i then vlF f i + 2 ^ i else vlF f i := rfl
theorem szF_succ (f : Nat → Bool) (i : Nat) : szF f (i + 1) = if f i then szF f i + 1 else szF f i := rfl
theorem xrF_succ (f : Nat → Bool) (cols : List Nat) (i : Nat) : xrF f cols (i + 1) = if f i then xrF f cols i ^^^ cols.getD i 0 else xrF f cols i := rfl
/-! words -/
/-- the drawn word -/
noncomputable def wordN (nb n : Nat) : List Nat := (List.range n).map fun i => if (nb >>> i) &&& 1 = 0 then 97 + i else 65 + i
structure Wd (cs : List Nat) (n : Nat) (f : Nat → Bool) : Prop where
  len : cs.length = n
  get : ∀ i < n, cs[i]? = some (if f i then 65 + i else 97 + i)
theorem word_wd (nb n : Nat) : Wd (wordN nb n) n (fun j => nb.testBit j) where
  len := by simp [wordN]
  get i hi := by
    unfold wordN
    rw [List.getElem?_map, List.getElem?_range hi]
    simp only [Option.map_some, Option.some.injEq]
    have e : nb.testBit i = ((nb >>> i &&& 1) != 0) := by unfold Nat.testBit; rw [Nat.and_comm]
    rw [e]
    by_cases h : nb >>> i &&& 1 = 0
    · rw [if_pos h, h]; rfl
    · rw [if_neg h, if_pos (by simpa using h)]
theorem Wd.at {cs : List Nat} {n : Nat} {f : Nat → Bool} (W : Wd cs n f) {i c : Nat} (h : cs[i]? = some c) : i < n ∧ c = if f i then 65 + i else 97 + i := by
  have hi : i < n := W.len ▸ (List.getElem?_eq_some_iff.mp h).1
  refine ⟨hi, ?_⟩
  rw [W.get i hi] at h
  exact (Option.some.inj h).symm
theorem low_at {i : Nat} (b : Bool) (hi : i < 7) : lowC (if b then 65 + i else 97 + i) = 97 + i := by
  unfold lowC
  cases b
  · simp only [Bool.false_eq_true, if_false]; rw [if_neg (by lia)]
  · simp only [if_true]; rw [if_pos (by lia)]; lia
theorem turn_at {i : Nat} (b : Bool) (hi : i < 7) : turnC (if b then 65 + i else 97 + i) = if (!b) then 65 + i else 97 + i := by
  unfold turnC
  rw [low_at b hi]
  cases b
  · simp only [Bool.not_false, Bool.false_eq_true, if_false, if_true]; unfold upC; rw [if_pos (by lia)]; lia
  · simp only [Bool.not_true, Bool.false_eq_true, if_false, if_true]; rw [if_neg (by lia)]
theorem mend_wd {cs ls : List Nat} {n : Nat} {f : Nat → Bool} (W : Wd cs n f) (h7 : n ≤ 7) : Wd (mendF cs ls) n (fun i => xor (f i) (decide (97 + i ∈ ls))) where
  len := by unfold mendF; rw [List.length_map, W.len]
  get i hi := by
    unfold mendF
    rw [List.getElem?_map, W.get i hi]
    simp only [Option.map_some, Option.some.injEq]
    rw [low_at _ (by lia), turn_at _ (by lia)]
    by_cases h : 97 + i ∈ ls
    · rw [if_pos h, decide_eq_true h]; cases f i <;> rfl
    · rw [if_neg h, decide_eq_false h]; cases f i <;> rfl
theorem Wd.small {cs : List Nat} {n : Nat} {f : Nat → Bool} (W : Wd cs n f) (h7 : n ≤ 7) : ∀ c ∈ cs, c < 128 := fun c hc => by
  obtain ⟨i, hi⟩ := List.getElem?_of_mem hc
  obtain ⟨h1, h2⟩ := W.at hi
  split at h2 <;> lia
theorem word_alike {cs ds : List Nat} {n : Nat} {f g : Nat → Bool} (W : Wd cs n f) (W' : Wd ds n g) (h7 : n ≤ 7) : AlikeW cs ds where
  len := by rw [W.len, W'.len]
  l7 := by rw [W.len]; exact h7
  a128 := W.small h7
  b128 := W'.small h7
  cost i j c d hc hd := by
    obtain ⟨h1, e1⟩ := W'.at hc
    obtain ⟨h2, e2⟩ := W.at hd
    have l1 : lowC c = 97 + i := by rw [e1]; exact low_at _ (by lia)
    have l2 : lowC d = 97 + j := by rw [e2]; exact low_at _ (by lia)
    unfold costF
    by_cases hij : i = j
    · subst hij
      rw [if_pos (show lowC c = lowC d by rw [l1, l2]), if_pos rfl]
    · have hne : lowC c ≠ lowC d := by rw [l1, l2]; lia
      rw [if_neg hij, if_neg (fun q => hne (by rw [q])), if_neg hne]
theorem bits_sum {cs : List Nat} {n : Nat} {f : Nat → Bool} (W : Wd cs n f) (h7 : n ≤ 7) : ∀ i, i ≤ n → (bitsL (cs.take i)).sum = ((vlF f i : Nat) : Int)
  | 0, _ => by simp [bitsL, vlF]
  | i + 1, h => by
    have ih := bits_sum W h7 i (by lia)
    have hg := W.get i (by lia)
    rw [List.take_add_one, hg, Option.toList_some, bitsL_snoc, List.sum_append, ih, low_at _ (by lia), List.length_take, W.len, Nat.min_eq_left (by lia)]
    rw [vlF_succ]
    cases hf : f i
    · simp
    · simp only [if_true]
      rw [if_neg (by lia), Int.toNat_natCast]
      simp
theorem word_bits {cs : List Nat} {n : Nat} {f : Nat → Bool} (W : Wd cs n f) (h7 : n ≤ 7) : (bitsL cs).sum = ((vlF f n : Nat) : Int) := by
  have := bits_sum W h7 n (Nat.le_refl _)
  rwa [List.take_of_length_le (by rw [W.len]; exact Nat.le_refl _)] at this
theorem diff_sz {cs ds : List Nat} {n : Nat} {f g : Nat → Bool} (W : Wd cs n f) (W' : Wd ds n g) : ∀ i, i ≤ n → diffN (cs.take i) (ds.take i) = szF (fun j => xor (f j) (g j)) i
  | 0, _ => by simp [diffN, szF]
  | i + 1, h => by
    have ih := diff_sz W W' i (by lia)
    rw [diffN_snoc i cs ds _ _ (W.get i (by lia)) (W'.get i (by lia)), ih]
    rw [szF_succ]
    cases hf : f i <;> cases hg : g i <;> simp
theorem word_diff {cs ds : List Nat} {n : Nat} {f g : Nat → Bool} (W : Wd cs n f) (W' : Wd ds n g) : diffN cs ds = szF (fun j => xor (f j) (g j)) n := by
  have := diff_sz W W' n (Nat.le_refl _)
  rwa [List.take_of_length_le (by rw [W.len]; exact Nat.le_refl _), List.take_of_length_le (by rw [W'.len]; exact Nat.le_refl _)] at this
theorem xr_lin (f g : Nat → Bool) (cols : List Nat) : ∀ n, xrF (fun j => xor (f j) (g j)) cols n = xrF f cols n ^^^ xrF g cols n
  | 0 => by simp [xrF]
  | n + 1 => by
    have ih := xr_lin f g cols n
    unfold xrF
    rw [ih]
    cases hf : f n <;> cases hg : g n <;> simp only [Bool.xor_false, Bool.xor_true, Bool.not_true, Bool.not_false, Bool.false_eq_true, if_true, if_false]
    · rw [Nat.xor_assoc]
    · rw [Nat.xor_assoc, Nat.xor_assoc, Nat.xor_comm (xrF g cols n)]
    · rw [show xrF f cols n ^^^ cols.getD n 0 ^^^ (xrF g cols n ^^^ cols.getD n 0) = xrF f cols n ^^^ xrF g cols n ^^^ (cols.getD n 0 ^^^ cols.getD n 0) by ac_rfl, Nat.xor_self, Nat.xor_zero]
/-! the sum of a word by counts -/
theorem bit_add {x q k : Nat} (hx : x < 8) (hq : q < 8) (hk : k < 3) : ((x ^^^ q) >>> k) &&& 1 = ((x >>> k &&& 1) + (q >>> k &&& 1)) % 2 := by
  have tab : ∀ x < 8, ∀ q < 8, ∀ k < 3, ((x ^^^ q) >>> k) &&& 1 = ((x >>> k &&& 1) + (q >>> k &&& 1)) % 2 := by decide +kernel
  exact tab x hx q hq k hk
theorem cnt_bit {cs cols : List Nat} {n : Nat} {f : Nat → Bool} (hc8 : ∀ c ∈ cols, c < 8) (hn : cols.length = n) (h7 : n ≤ 7) (W : Wd cs n f) {k : Nat} (hk : k < 3) : ∀ i, i ≤ n → cntN cs cols k i % 2 = (xrF f cols i >>> k) &&& 1
  | 0, _ => by simp [cntN, xrF]
  | i + 1, h => by
    have ih := cnt_bit hc8 hn h7 W hk i (by lia)
    have hg := W.get i (by lia)
    have hi : i < cols.length := by lia
    have hq : cols[i]? = some cols[i] := List.getElem?_eq_getElem hi
    have hd : cols.getD i 0 = cols[i] := by rw [List.getD_eq_getElem?_getD, hq]; rfl
    have hl := low_at (f i) (show i < 7 by lia)
    unfold xrF
    cases hf : f i
    · rw [hf] at hg hl
      rw [cntN_low hg hq (by rw [hl]; simp), ih]
      simp
    · rw [hf] at hg hl
      rw [cntN_up hg hq (by rw [hl]; simp), if_pos rfl, hd, bit_add (xrF_lt hc8 f i) (hc8 _ (List.getElem_mem hi)) hk, ← ih]
      exact (Nat.mod_add_mod _ _ _).symm
theorem syn_word {cs cols : List Nat} {n : Nat} {f : Nat → Bool} (hc8 : ∀ c ∈ cols, c < 8) (hn : cols.length = n) (h7 : n ≤ 7) (W : Wd cs n f) : synN cs cols = xrF f cols n := by
  unfold synN
  rw [W.len, cnt_bit hc8 hn h7 W (by decide) n (Nat.le_refl _), cnt_bit hc8 hn h7 W (by decide) n (Nat.le_refl _), cnt_bit hc8 hn h7 W (by decide) n (Nat.le_refl _)]
  have tab : ∀ x < 8, (x >>> 0 &&& 1) + 2 * (x >>> 1 &&& 1) + 4 * (x >>> 2 &&& 1) = x := by decide +kernel
  exact tab _ (xrF_lt hc8 f n)
/-- what the law asks of the mended word -/
theorem mended_ok {cols : List Nat} (hc8 : ∀ c ∈ cols, c < 8) (hc7 : cols.length ≤ 7) {nb : Nat} (hnb : nb < 2 ^ cols.length) {cs : List Nat} (hcs : cs = wordN nb cols.length) :
    ∃ ls, (leadN cols 8).find? (·.1 == synN cs cols) = some (synN cs cols, ls) ∧ ls.length ≤ 100 ∧ AlikeW cs (mendF cs ls) ∧
      (∃ (k : Nat) (y : Int), (bitsL (mendF cs ls)).sum = (k : Int) ∧ (sumsF (colI cols))[k]? = some (0, y)) ∧
      ∃ (v y : Int), (sumsF (colI cols))[nb]? = some (v, y) ∧ kdfHas (leastF (sumsF (colI cols))) v = true ∧ kdfLook (leastF (sumsF (colI cols))) v 0 = (diffN cs (mendF cs ls) : Nat) := by
  have W : Wd cs cols.length (fun j => nb.testBit j) := hcs ▸ word_wd nb cols.length
  have hsyn := syn_word hc8 rfl hc7 W
  obtain ⟨q, hq, e1, _⟩ := lead_le hc8 hc7 (fun j => nb.testBit j) cols.length (Nat.le_refl _)
  rw [← hsyn] at e1
  have hfind : (leadN cols 8).find? (·.1 == synN cs cols) = some (synN cs cols, q.2) := by
    cases hf : (leadN cols 8).find? (·.1 == synN cs cols) with
    | none => rw [List.find?_eq_none] at hf; exact absurd (by simp [e1]) (hf q hq)
    | some r =>
      have h1 := List.mem_of_find?_eq_some hf
      have h2 := List.find?_some hf
      have h3 : r.1 = synN cs cols := by simpa using h2
      have : r = q := nd_keys (okk_lead hc8 hc7 8).1 h1 hq (by rw [h3, e1])
      rw [this, ← e1]
  have W' := mend_wd (ls := q.2) W hc7
  obtain ⟨ht1, ht2⟩ := row_tight hc8 hc7 hq
  have hgl := gL_tight ((lead_ok cols 8).ok q hq).1 ht1
  have hgx : ∀ j < cols.length, (fun j => decide (97 + j ∈ q.2)) j = gL q.2 j := fun j _ => (hgl j).symm
  have hx : xrF (fun j => decide (97 + j ∈ q.2)) cols cols.length = synN cs cols := by rw [xr_ext hgx, ht2, e1]
  have hsz : szF (fun j => decide (97 + j ∈ q.2)) cols.length = q.2.length := by rw [sz_ext hgx, ht1]
  refine ⟨q.2, hfind, Nat.le_trans ((okk_lead hc8 hc7 8).2 q hq).2.2 (by decide), word_alike W W' hc7, ⟨_, ((szF (fun i => xor (nb.testBit i) (decide (97 + i ∈ q.2))) cols.length : Nat) : Int), word_bits W' hc7, ?_⟩, ⟨_, _, sums_bit hc8 hnb, ?_⟩⟩
  · have h := sums_get hc8 (fun i => xor (nb.testBit i) (decide (97 + i ∈ q.2)))
    rw [xr_lin, ← hsyn, hx, Nat.xor_self] at h
    exact h
  · have hr := row_in hc8 hc7 hq
    have hl := look_of (least_ok _).nd hr
    have ek : (rowF q).1 = ((xrF (fun j => nb.testBit j) cols cols.length : Nat) : Int) := by show (q.1 : Int) = _; rw [e1, hsyn]
    rw [ek] at hl
    refine ⟨hl.1, ?_⟩
    rw [hl.2 0, word_diff W W']
    show ((q.2.length : Nat) : Int) = _
    rw [← hsz]
    congr 1
    refine sz_ext fun j _ => ?_
    cases nb.testBit j <;> simp

end
section
abbrev zf : Nat → Bool := fun _ => false
theorem zf_at (cols : List Nat) : ∀ n, xrF zf cols n = 0 ∧ szF zf n = 0
  | 0 => ⟨rfl, rfl⟩
  | n + 1 => ⟨by rw [xrF_succ, if_neg (by simp)]; exact (zf_at cols n).1, by rw [szF_succ, if_neg (by simp)]; exact (zf_at cols n).2⟩
theorem one_at (cols : List Nat) {i n : Nat} (h : i < n) : xrF (tog zf i) cols n = cols.getD i 0 ∧ szF (tog zf i) n = 1 := by
  have := tog_at zf cols i n
  rw [if_pos h] at this
  simp only [Bool.false_eq_true, if_false] at this
  rw [(zf_at cols n).1, (zf_at cols n).2, Nat.zero_xor] at this
  exact this
theorem two_at (cols : List Nat) {i j n : Nat} (h : i < n) (h' : j < n) (hne : j ≠ i) : xrF (tog (tog zf i) j) cols n = cols.getD i 0 ^^^ cols.getD j 0 ∧ szF (tog (tog zf i) j) n = 2 := by
  have := tog_at (tog zf i) cols j n
  rw [if_pos h', show tog zf i j = false by unfold tog; rw [if_neg hne]] at this
  simp only [Bool.false_eq_true, if_false] at this
  rw [(one_at cols h).1, (one_at cols h).2] at this
  exact this
theorem sz0 {f : Nat → Bool} (cols : List Nat) : ∀ {n}, szF f n = 0 → xrF f cols n = 0
  | 0, _ => rfl
  | n + 1, h => by
    rw [szF_succ] at h
    rw [xrF_succ]
    cases hf : f n
    · rw [hf] at h; simp only [Bool.false_eq_true, if_false] at h ⊢; exact sz0 cols h
    · rw [hf] at h; simp at h
theorem sz1 {f : Nat → Bool} (cols : List Nat) : ∀ {n}, szF f n = 1 → ∃ i < n, xrF f cols n = cols.getD i 0
  | 0, h => by simp [szF] at h
  | n + 1, h => by
    rw [szF_succ] at h
    rw [xrF_succ]
    cases hf : f n
    · rw [hf] at h; simp only [Bool.false_eq_true, if_false] at h ⊢
      obtain ⟨i, hi, e⟩ := sz1 cols h
      exact ⟨i, by lia, e⟩
    · rw [hf] at h; simp only [if_true] at h ⊢
      exact ⟨n, by lia, by rw [sz0 cols (show szF f n = 0 by lia), Nat.zero_xor]⟩
theorem sz2 {f : Nat → Bool} (cols : List Nat) : ∀ {n}, szF f n = 2 → ∃ i j, i < j ∧ j < n ∧ xrF f cols n = cols.getD i 0 ^^^ cols.getD j 0
  | 0, h => by simp [szF] at h
  | n + 1, h => by
    rw [szF_succ] at h
    rw [xrF_succ]
    cases hf : f n
    · rw [hf] at h; simp only [Bool.false_eq_true, if_false] at h ⊢
      obtain ⟨i, j, hij, hj, e⟩ := sz2 cols h
      exact ⟨i, j, hij, by lia, e⟩
    · rw [hf] at h; simp only [if_true] at h ⊢
      obtain ⟨i, hi, e⟩ := sz1 cols (show szF f n = 1 by lia)
      exact ⟨i, n, hi, by lia, by rw [e]⟩
/-- the columns part and none is 0 -/
noncomputable def Dist (cols : List Nat) : Prop := (∀ i < cols.length, cols.getD i 0 ≠ 0) ∧ ∀ i j, i < j → j < cols.length → cols.getD i 0 ≠ cols.getD j 0
theorem dep4 : ∀ a < 8, ∀ b < 8, ∀ c < 8, ∀ d < 8, ((List.range 16).any fun m => Nat.blt 0 m && Nat.beq (xrF (fun j => m.testBit j) [a, b, c, d] 4) 0) = true := by decide +kernel
theorem xr_stop {f : Nat → Bool} {cols : List Nat} {k : Nat} (h : ∀ j, k ≤ j → f j = false) : ∀ n, k ≤ n → xrF f cols n = xrF f cols k ∧ szF f n = szF f k
  | 0, hk => by
    have : k = 0 := by lia
    subst this; exact ⟨rfl, rfl⟩
  | n + 1, hk => by
    by_cases e : k = n + 1
    · subst e; exact ⟨rfl, rfl⟩
    · have ih := xr_stop (cols := cols) h n (by lia)
      rw [xrF_succ, szF_succ, h n (by lia)]
      simp only [Bool.false_eq_true, if_false]
      exact ih
theorem xr_cols {f : Nat → Bool} {cols cols' : List Nat} : ∀ {n}, (∀ i < n, cols.getD i 0 = cols'.getD i 0) → xrF f cols n = xrF f cols' n
  | 0, _ => rfl
  | n + 1, h => by rw [xrF_succ, xrF_succ, xr_cols fun i hi => h i (by lia), h n (by lia)]
theorem col8 {cols : List Nat} (hc8 : ∀ c ∈ cols, c < 8) (i : Nat) : cols.getD i 0 < 8 := by
  rw [List.getD_eq_getElem?_getD]
  cases q : cols[i]? with
  | none => simp
  | some c => exact hc8 c (List.mem_of_getElem? q)
/-- four columns of three bits hang together -/
theorem dep_ex {cols : List Nat} (hc8 : ∀ c ∈ cols, c < 8) (hc4 : 4 ≤ cols.length) : ∃ f, xrF f cols cols.length = 0 ∧ 1 ≤ szF f cols.length ∧ szF f cols.length ≤ 4 := by
  have h := dep4 _ (col8 hc8 0) _ (col8 hc8 1) _ (col8 hc8 2) _ (col8 hc8 3)
  rw [List.any_eq_true] at h
  obtain ⟨m, hm, h⟩ := h
  rw [Bool.and_eq_true] at h
  have h1 : 0 < m := Nat.le_of_ble_eq_true h.1
  have h2 : xrF (fun j => m.testBit j) [cols.getD 0 0, cols.getD 1 0, cols.getD 2 0, cols.getD 3 0] 4 = 0 := Nat.eq_of_beq_eq_true h.2
  have hm16 : m < 16 := List.mem_range.mp hm
  have hs := xr_stop (f := fun j => m.testBit j) (cols := cols) (k := 4) (fun j hj => Nat.testBit_lt_two_pow (Nat.lt_of_lt_of_le hm16 (Nat.pow_le_pow_right (n := 2) (by decide) hj))) cols.length hc4
  refine ⟨fun j => m.testBit j, ?_, ?_, ?_⟩
  · rw [hs.1, ← h2]
    refine xr_cols fun i hi => ?_
    have : i = 0 ∨ i = 1 ∨ i = 2 ∨ i = 3 := by lia
    rcases this with rfl | rfl | rfl | rfl <;> rfl
  · rw [hs.2]
    have := vl_sz (fun j => m.testBit j) 4
    rw [vl_test, Nat.mod_eq_of_lt hm16] at this
    lia
  · rw [hs.2]; exact szF_le _ 4
abbrev zeros (S : List (Int × Int)) : List Int := ((S.drop 1).filter fun p => decide (p.1 = 0)).map (·.2)
section
variable {cols : List Nat} (hc8 : ∀ c ∈ cols, c < 8)
include hc8
theorem zeros_has {f : Nat → Bool} (h0 : xrF f cols cols.length = 0) (h1 : 1 ≤ szF f cols.length) : ((szF f cols.length : Nat) : Int) ∈ zeros (sumsF (colI cols)) := by
  have := drop_has hc8 f h1
  rw [h0] at this
  exact List.mem_map.mpr ⟨_, List.mem_filter.mpr ⟨this, by simp⟩, rfl⟩
theorem zeros_mem {x : Int} (h : x ∈ zeros (sumsF (colI cols))) : ∃ f, x = (szF f cols.length : Nat) ∧ xrF f cols cols.length = 0 ∧ 1 ≤ szF f cols.length := by
  obtain ⟨p, hp, rfl⟩ := List.mem_map.mp h
  obtain ⟨hp, e⟩ := List.mem_filter.mp hp
  obtain ⟨f, rfl, h1⟩ := drop_mem hc8 hp
  refine ⟨f, rfl, ?_, h1⟩
  have e' : ((xrF f cols cols.length : Nat) : Int) = 0 := by simpa using e
  lia
theorem zeros_ne (hc4 : 4 ≤ cols.length) : 0 < (zeros (sumsF (colI cols))).length := by
  obtain ⟨f, h0, h1, _⟩ := dep_ex hc8 hc4
  exact List.length_pos_of_mem (zeros_has hc8 h0 h1)
theorem sure_of (hc4 : 4 ≤ cols.length) {M : Int} (hM : M ∈ zeros (sumsF (colI cols))) (hMm : ∀ a ∈ zeros (sumsF (colI cols)), M ≤ a) : (¬ Dist cols ∧ (M - 1).fdiv 2 = 0) ∨ (Dist cols ∧ (M - 1).fdiv 2 = 1) := by
  obtain ⟨f, rfl, h0, h1⟩ := zeros_mem hc8 hM
  obtain ⟨g, g0, g1, g4⟩ := dep_ex hc8 hc4
  have hg := hMm _ (zeros_has hc8 g0 g1)
  rw [Int.fdiv_eq_ediv_of_nonneg _ (by decide)]
  by_cases hD : Dist cols
  · right
    refine ⟨hD, ?_⟩
    have n1 : szF f cols.length ≠ 1 := fun e => by
      obtain ⟨i, hi, e'⟩ := sz1 cols e
      exact hD.1 i hi (by rw [← e', h0])
    have n2 : szF f cols.length ≠ 2 := fun e => by
      obtain ⟨i, j, hij, hj, e'⟩ := sz2 cols e
      rw [h0] at e'
      refine hD.2 i j hij hj ?_
      have : cols.getD i 0 ^^^ cols.getD j 0 ^^^ cols.getD j 0 = 0 ^^^ cols.getD j 0 := by rw [← e']
      rwa [Nat.xor_assoc, Nat.xor_self, Nat.xor_zero, Nat.zero_xor] at this
    have tab : ∀ k ≤ 4, 1 ≤ k → k ≠ 1 → k ≠ 2 → (((k : Nat) : Int) - 1) / 2 = 1 := by decide +kernel
    exact tab _ (Nat.le_trans (Int.ofNat_le.mp hg) g4) h1 n1 n2
  · left
    refine ⟨hD, ?_⟩
    have h2 : szF f cols.length ≤ 2 := by
      by_cases hz : ∀ i < cols.length, cols.getD i 0 ≠ 0
      · have : ¬ ∀ i j, i < j → j < cols.length → cols.getD i 0 ≠ cols.getD j 0 := fun q => hD ⟨hz, q⟩
        simp only [Classical.not_forall, Classical.not_imp, ne_eq, Classical.not_not] at this
        obtain ⟨i, j, hij, hj, e⟩ := this
        have ht := two_at cols (show i < cols.length by lia) hj (by lia)
        have := hMm _ (zeros_has hc8 (f := tog (tog zf i) j) (by rw [ht.1, e, Nat.xor_self]) (by rw [ht.2]; decide))
        rw [ht.2] at this
        lia
      · simp only [Classical.not_forall, Classical.not_imp, ne_eq, Classical.not_not] at hz
        obtain ⟨i, hi, e⟩ := hz
        have ht := one_at cols hi
        have := hMm _ (zeros_has hc8 (f := tog zf i) (by rw [ht.1, e]) (by rw [ht.2]; decide))
        rw [ht.2] at this
        lia
    have tab : ∀ k ≤ 2, 1 ≤ k → (((k : Nat) : Int) - 1) / 2 = 0 := by decide +kernel
    exact tab _ h2 h1
end
/-! how many choices are small -/
theorem cnt_small (cs : List Int) : ∀ i, i ≤ cs.length → (∀ p ∈ sumsF (cs.take i), 0 ≤ p.2) ∧ (sumsF (cs.take i)).countP (fun p => decide (p.2 ≤ 0)) = 1 ∧ (sumsF (cs.take i)).countP (fun p => decide (p.2 ≤ 1)) = i + 1
  | 0, _ => by simp [sumsF]
  | i + 1, h => by
    obtain ⟨h1, h2, h3⟩ := cnt_small cs i (by lia)
    rw [sumsF_take (List.getElem?_eq_getElem (show i < cs.length from h))]
    refine ⟨fun p hp => ?_, ?_, ?_⟩
    · rcases List.mem_append.mp hp with hp | hp
      · exact h1 p hp
      · obtain ⟨q, hq, rfl⟩ := List.mem_map.mp hp
        have := h1 q hq
        show 0 ≤ q.2 + 1
        lia
    · rw [List.countP_append, h2, List.countP_map]
      have : List.countP ((fun p : Int × Int => decide (p.2 ≤ 0)) ∘ fun p => (Builtin.bitXor p.1 cs[i], p.2 + 1)) (sumsF (cs.take i)) = 0 := by
        rw [List.countP_eq_zero]
        intro q hq
        have := h1 q hq
        simp only [Function.comp, decide_eq_true_eq]
        lia
      rw [this]
    · rw [List.countP_append, h3, List.countP_map]
      have : List.countP ((fun p : Int × Int => decide (p.2 ≤ 1)) ∘ fun p => (Builtin.bitXor p.1 cs[i], p.2 + 1)) (sumsF (cs.take i)) = List.countP (fun p => decide (p.2 ≤ 0)) (sumsF (cs.take i)) := by
        congr 1
        funext q
        simp only [Function.comp]
        congr 1
        exact propext ⟨fun h => by lia, fun h => by lia⟩
      rw [this, h2]
theorem ball_0 (cols : List Nat) : (((sumsF (colI cols)).filter fun p => decide (p.2 ≤ 0)).map (·.2)).length = 1 := by
  have h := (cnt_small (colI cols) (colI cols).length (Nat.le_refl _)).2.1
  rw [List.take_length] at h
  rw [List.length_map, ← List.countP_eq_length_filter, h]
theorem ball_1 (cols : List Nat) : (((sumsF (colI cols)).filter fun p => decide (p.2 ≤ 1)).map (·.2)).length = cols.length + 1 := by
  have h := (cnt_small (colI cols) (colI cols).length (Nat.le_refl _)).2.2
  rw [List.take_length, List.length_map] at h
  rw [List.length_map, ← List.countP_eq_length_filter, h]
/-! how many choices come to 0 -/
noncomputable def stepC (l : List Nat) (c : Nat) : List Nat := (List.range 8).map fun v => l.getD v 0 + l.getD (v ^^^ c) 0
noncomputable def cntC (S : List (Int × Int)) : List Nat := (List.range 8).map fun v => S.countP fun p => decide (p.1 = ((v : Nat) : Int))
theorem cntC_get (S : List (Int × Int)) {v : Nat} (h : v < 8) : (cntC S).getD v 0 = S.countP fun p => decide (p.1 = ((v : Nat) : Int)) := by
  unfold cntC
  rw [List.getD_eq_getElem?_getD, List.getElem?_map, List.getElem?_range h]
  rfl
theorem xor_swap8 {x v c : Nat} : x ^^^ c = v ↔ x = v ^^^ c := by
  constructor
  · rintro rfl; rw [Nat.xor_assoc, Nat.xor_self, Nat.xor_zero]
  · rintro rfl; rw [Nat.xor_assoc, Nat.xor_self, Nat.xor_zero]
theorem cntC_step {cols : List Nat} (hc8 : ∀ c ∈ cols, c < 8) {i : Nat} (hi : i < cols.length) : cntC (sumsF ((colI cols).take (i + 1))) = stepC (cntC (sumsF ((colI cols).take i))) (cols.getD i 0) := by
  have hc : (colI cols)[i]? = some ((cols.getD i 0 : Nat) : Int) := by
    rw [List.getElem?_map, List.getElem?_eq_getElem hi, List.getD_eq_getElem?_getD, List.getElem?_eq_getElem hi]
    rfl
  have hg := col8 hc8 i
  have hx : ∀ p ∈ sumsF ((colI cols).take i), ∃ x : Nat, x < 8 ∧ p.1 = (x : Int) := fun p hp => by
    have e : (colI cols).take i = colI (cols.take i) := (List.map_take).symm
    rw [e] at hp
    have h8 : ∀ c ∈ cols.take i, c < 8 := fun c hc => hc8 c (List.mem_of_mem_take hc)
    obtain ⟨f, rfl⟩ := sums_mem h8 hp
    exact ⟨_, xrF_lt h8 f _, rfl⟩
  rw [sumsF_take hc]
  unfold stepC
  show (List.range 8).map _ = _
  refine List.map_congr_left fun v hv => ?_
  have hv8 : v < 8 := List.mem_range.mp hv
  rw [List.countP_append, List.countP_map, cntC_get _ hv8, cntC_get _ (Nat.xor_lt_two_pow (n := 3) hv8 hg)]
  congr 1
  refine List.countP_congr fun p hp => ?_
  obtain ⟨x, hx8, e⟩ := hx p hp
  simp only [Function.comp, e, xor_nat hx8 hg, decide_eq_true_eq, Int.ofNat_inj]
  exact xor_swap8
theorem four_B : ∀ a < 8, ∀ b < 8, ∀ c < 8, ∀ d < 8, (Nat.beq a 0 || Nat.beq b 0 || Nat.beq c 0 || Nat.beq d 0 || Nat.beq a b || Nat.beq a c || Nat.beq a d || Nat.beq b c || Nat.beq b d || Nat.beq c d || decide (stepC (stepC (stepC (stepC [1, 0, 0, 0, 0, 0, 0, 0] a) b) c) d = [2, 2, 2, 2, 2, 2, 2, 2])) = true := by decide +kernel
theorem four_C {a b c d : Nat} (ha : a < 8) (hb : b < 8) (hc : c < 8) (hd : d < 8) (h1 : a ≠ 0) (h2 : b ≠ 0) (h3 : c ≠ 0) (h4 : d ≠ 0) (h5 : a ≠ b) (h6 : a ≠ c) (h7 : a ≠ d) (h8 : b ≠ c) (h9 : b ≠ d) (h10 : c ≠ d) : stepC (stepC (stepC (stepC [1, 0, 0, 0, 0, 0, 0, 0] a) b) c) d = [2, 2, 2, 2, 2, 2, 2, 2] := by
  have h := four_B a ha b hb c hc d hd
  simp only [Bool.or_eq_true, Nat.beq_eq_true_eq, decide_eq_true_eq] at h
  rcases h with ((((((((((h | h) | h) | h) | h) | h) | h) | h) | h) | h) | h)
  · exact absurd (Nat.eq_of_beq_eq_true h) h1
  · exact absurd (Nat.eq_of_beq_eq_true h) h2
  · exact absurd (Nat.eq_of_beq_eq_true h) h3
  · exact absurd (Nat.eq_of_beq_eq_true h) h4
  · exact absurd (Nat.eq_of_beq_eq_true h) h5
  · exact absurd (Nat.eq_of_beq_eq_true h) h6
  · exact absurd (Nat.eq_of_beq_eq_true h) h7
  · exact absurd (Nat.eq_of_beq_eq_true h) h8
  · exact absurd (Nat.eq_of_beq_eq_true h) h9
  · exact absurd (Nat.eq_of_beq_eq_true h) h10
  · exact h
theorem more_C (t : Nat) : ∀ c < 8, stepC [t, t, t, t, t, t, t, t] c = [2 * t, 2 * t, 2 * t, 2 * t, 2 * t, 2 * t, 2 * t, 2 * t] := fun c hc => by
  have := lt8 hc
  have e : t + t = 2 * t := by lia
  rcases this with rfl | rfl | rfl | rfl | rfl | rfl | rfl | rfl <;> (show [t + t, t + t, t + t, t + t, t + t, t + t, t + t, t + t] = _; rw [e])
theorem cntC_dist {cols : List Nat} (hc8 : ∀ c ∈ cols, c < 8) (hD : Dist cols) : ∀ i, 4 ≤ i → i ≤ cols.length → ∃ t, 8 * t = 2 ^ i ∧ cntC (sumsF ((colI cols).take i)) = [t, t, t, t, t, t, t, t]
  | 0, h, _ => by lia
  | i + 1, h, hi => by
    by_cases e : i = 3
    · subst e
      refine ⟨2, rfl, ?_⟩
      rw [cntC_step hc8 (by lia), cntC_step hc8 (by lia), cntC_step hc8 (by lia), cntC_step hc8 (by lia)]
      exact four_C (col8 hc8 0) (col8 hc8 1) (col8 hc8 2) (col8 hc8 3) (hD.1 0 (by lia)) (hD.1 1 (by lia)) (hD.1 2 (by lia)) (hD.1 3 (by lia)) (hD.2 0 1 (by lia) (by lia)) (hD.2 0 2 (by lia) (by lia)) (hD.2 0 3 (by lia) (by lia)) (hD.2 1 2 (by lia) (by lia)) (hD.2 1 3 (by lia) (by lia)) (hD.2 2 3 (by lia) (by lia))
    · obtain ⟨t, ht, hC⟩ := cntC_dist hc8 hD i (by lia) (by lia)
      exact ⟨2 * t, by rw [Nat.pow_succ]; lia, by rw [cntC_step hc8 (by lia), hC, more_C t _ (col8 hc8 i)]⟩
theorem held_eq (S : List (Int × Int)) : ((S.filter fun p => decide (p.1 = 0)).map (·.2)).length = S.countP fun p => decide (p.1 = 0) := by
  rw [List.length_map, ← List.countP_eq_length_filter]
theorem held_dist {cols : List Nat} (hc8 : ∀ c ∈ cols, c < 8) (hc4 : 4 ≤ cols.length) (hD : Dist cols) : 8 * (((sumsF (colI cols)).filter fun p => decide (p.1 = 0)).map (·.2)).length = 2 ^ cols.length := by
  obtain ⟨t, ht, hC⟩ := cntC_dist hc8 hD cols.length hc4 (Nat.le_refl _)
  rw [List.take_of_length_le (by rw [List.length_map]; exact Nat.le_refl _)] at hC
  have := cntC_get (sumsF (colI cols)) (v := 0) (by decide)
  rw [hC] at this
  rw [held_eq, ← ht]
  have e : t = (sumsF (colI cols)).countP fun p => decide (p.1 = ((0 : Nat) : Int)) := this
  rw [e]
  rfl
theorem held_all {cols : List Nat} (hc8 : ∀ c ∈ cols, c < 8) : (((sumsF (colI cols)).filter fun p => decide (p.1 = 0)).map (·.2)).length = 2 ^ cols.length ↔ ∀ i < cols.length, cols.getD i 0 = 0 := by
  rw [held_eq, ← sums_len cols, List.countP_eq_length]
  constructor
  · intro h i hi
    have := h _ (sums_has hc8 (tog zf i))
    rw [(one_at cols hi).1] at this
    simpa using this
  · intro h p hp
    obtain ⟨f, rfl⟩ := sums_mem hc8 hp
    have : ∀ n, n ≤ cols.length → xrF f cols n = 0 := by
      intro n
      induction n with
      | zero => intro _; rfl
      | succ n ih => intro hn; rw [xrF_succ, ih (by lia), h n (by lia)]; split <;> rfl
    rw [this _ (Nat.le_refl _)]
    rfl

end
section
/-! tables: for each set of columns (its mask), how many of them each sum wants, and the most -/
noncomputable def tabs : List (Nat × List Nat × Nat) := [
  (0, [0, 9, 9, 9, 9, 9, 9, 9], 0), (1, [0, 1, 9, 9, 9, 9, 9, 9], 1), (2, [0, 9, 1, 9, 9, 9, 9, 9], 1), (3, [0, 1, 1, 2, 9, 9, 9, 9], 2), (4, [0, 9, 9, 1, 9, 9, 9, 9], 1), (5, [0, 1, 2, 1, 9, 9, 9, 9], 2), (6, [0, 2, 1, 1, 9, 9, 9, 9], 2), (7, [0, 1, 1, 1, 9, 9, 9, 9], 1),
  (8, [0, 9, 9, 9, 1, 9, 9, 9], 1), (9, [0, 1, 9, 9, 1, 2, 9, 9], 2), (10, [0, 9, 1, 9, 1, 9, 2, 9], 2), (11, [0, 1, 1, 2, 1, 2, 2, 3], 3), (12, [0, 9, 9, 1, 1, 9, 9, 2], 2), (13, [0, 1, 2, 1, 1, 2, 3, 2], 3), (14, [0, 2, 1, 1, 1, 3, 2, 2], 3), (15, [0, 1, 1, 1, 1, 2, 2, 2], 2),
  (16, [0, 9, 9, 9, 9, 1, 9, 9], 1), (17, [0, 1, 9, 9, 2, 1, 9, 9], 2), (18, [0, 9, 1, 9, 9, 1, 9, 2], 2), (19, [0, 1, 1, 2, 2, 1, 3, 2], 3), (20, [0, 9, 9, 1, 9, 1, 2, 9], 2), (21, [0, 1, 2, 1, 2, 1, 2, 3], 3), (22, [0, 2, 1, 1, 3, 1, 2, 2], 3), (23, [0, 1, 1, 1, 2, 1, 2, 2], 2),
  (24, [0, 2, 9, 9, 1, 1, 9, 9], 2), (25, [0, 1, 9, 9, 1, 1, 9, 9], 1), (26, [0, 2, 1, 3, 1, 1, 2, 2], 3), (27, [0, 1, 1, 2, 1, 1, 2, 2], 2), (28, [0, 2, 3, 1, 1, 1, 2, 2], 3), (29, [0, 1, 2, 1, 1, 1, 2, 2], 2), (30, [0, 2, 1, 1, 1, 1, 2, 2], 2), (31, [0, 1, 1, 1, 1, 1, 2, 2], 2),
  (32, [0, 9, 9, 9, 9, 9, 1, 9], 1), (33, [0, 1, 9, 9, 9, 9, 1, 2], 2), (34, [0, 9, 1, 9, 2, 9, 1, 9], 2), (35, [0, 1, 1, 2, 2, 3, 1, 2], 3), (36, [0, 9, 9, 1, 9, 2, 1, 9], 2), (37, [0, 1, 2, 1, 3, 2, 1, 2], 3), (38, [0, 2, 1, 1, 2, 2, 1, 3], 3), (39, [0, 1, 1, 1, 2, 2, 1, 2], 2),
  (40, [0, 9, 2, 9, 1, 9, 1, 9], 2), (41, [0, 1, 2, 3, 1, 2, 1, 2], 3), (42, [0, 9, 1, 9, 1, 9, 1, 9], 1), (43, [0, 1, 1, 2, 1, 2, 1, 2], 2), (44, [0, 3, 2, 1, 1, 2, 1, 2], 3), (45, [0, 1, 2, 1, 1, 2, 1, 2], 2), (46, [0, 2, 1, 1, 1, 2, 1, 2], 2), (47, [0, 1, 1, 1, 1, 2, 1, 2], 2),
  (48, [0, 9, 9, 2, 9, 1, 1, 9], 2), (49, [0, 1, 3, 2, 2, 1, 1, 2], 3), (50, [0, 3, 1, 2, 2, 1, 1, 2], 3), (51, [0, 1, 1, 2, 2, 1, 1, 2], 2), (52, [0, 9, 9, 1, 9, 1, 1, 9], 1), (53, [0, 1, 2, 1, 2, 1, 1, 2], 2), (54, [0, 2, 1, 1, 2, 1, 1, 2], 2), (55, [0, 1, 1, 1, 2, 1, 1, 2], 2),
  (56, [0, 2, 2, 2, 1, 1, 1, 3], 3), (57, [0, 1, 2, 2, 1, 1, 1, 2], 2), (58, [0, 2, 1, 2, 1, 1, 1, 2], 2), (59, [0, 1, 1, 2, 1, 1, 1, 2], 2), (60, [0, 2, 2, 1, 1, 1, 1, 2], 2), (61, [0, 1, 2, 1, 1, 1, 1, 2], 2), (62, [0, 2, 1, 1, 1, 1, 1, 2], 2), (63, [0, 1, 1, 1, 1, 1, 1, 2], 2),
  (64, [0, 9, 9, 9, 9, 9, 9, 1], 1), (65, [0, 1, 9, 9, 9, 9, 2, 1], 2), (66, [0, 9, 1, 9, 9, 2, 9, 1], 2), (67, [0, 1, 1, 2, 3, 2, 2, 1], 3), (68, [0, 9, 9, 1, 2, 9, 9, 1], 2), (69, [0, 1, 2, 1, 2, 3, 2, 1], 3), (70, [0, 2, 1, 1, 2, 2, 3, 1], 3), (71, [0, 1, 1, 1, 2, 2, 2, 1], 2),
  (72, [0, 9, 9, 2, 1, 9, 9, 1], 2), (73, [0, 1, 3, 2, 1, 2, 2, 1], 3), (74, [0, 3, 1, 2, 1, 2, 2, 1], 3), (75, [0, 1, 1, 2, 1, 2, 2, 1], 2), (76, [0, 9, 9, 1, 1, 9, 9, 1], 1), (77, [0, 1, 2, 1, 1, 2, 2, 1], 2), (78, [0, 2, 1, 1, 1, 2, 2, 1], 2), (79, [0, 1, 1, 1, 1, 2, 2, 1], 2),
  (80, [0, 9, 2, 9, 9, 1, 9, 1], 2), (81, [0, 1, 2, 3, 2, 1, 2, 1], 3), (82, [0, 9, 1, 9, 9, 1, 9, 1], 1), (83, [0, 1, 1, 2, 2, 1, 2, 1], 2), (84, [0, 3, 2, 1, 2, 1, 2, 1], 3), (85, [0, 1, 2, 1, 2, 1, 2, 1], 2), (86, [0, 2, 1, 1, 2, 1, 2, 1], 2), (87, [0, 1, 1, 1, 2, 1, 2, 1], 2),
  (88, [0, 2, 2, 2, 1, 1, 3, 1], 3), (89, [0, 1, 2, 2, 1, 1, 2, 1], 2), (90, [0, 2, 1, 2, 1, 1, 2, 1], 2), (91, [0, 1, 1, 2, 1, 1, 2, 1], 2), (92, [0, 2, 2, 1, 1, 1, 2, 1], 2), (93, [0, 1, 2, 1, 1, 1, 2, 1], 2), (94, [0, 2, 1, 1, 1, 1, 2, 1], 2), (95, [0, 1, 1, 1, 1, 1, 2, 1], 2),
  (96, [0, 2, 9, 9, 9, 9, 1, 1], 2), (97, [0, 1, 9, 9, 9, 9, 1, 1], 1), (98, [0, 2, 1, 3, 2, 2, 1, 1], 3), (99, [0, 1, 1, 2, 2, 2, 1, 1], 2), (100, [0, 2, 3, 1, 2, 2, 1, 1], 3), (101, [0, 1, 2, 1, 2, 2, 1, 1], 2), (102, [0, 2, 1, 1, 2, 2, 1, 1], 2), (103, [0, 1, 1, 1, 2, 2, 1, 1], 2),
  (104, [0, 2, 2, 2, 1, 3, 1, 1], 3), (105, [0, 1, 2, 2, 1, 2, 1, 1], 2), (106, [0, 2, 1, 2, 1, 2, 1, 1], 2), (107, [0, 1, 1, 2, 1, 2, 1, 1], 2), (108, [0, 2, 2, 1, 1, 2, 1, 1], 2), (109, [0, 1, 2, 1, 1, 2, 1, 1], 2), (110, [0, 2, 1, 1, 1, 2, 1, 1], 2), (111, [0, 1, 1, 1, 1, 2, 1, 1], 2),
  (112, [0, 2, 2, 2, 3, 1, 1, 1], 3), (113, [0, 1, 2, 2, 2, 1, 1, 1], 2), (114, [0, 2, 1, 2, 2, 1, 1, 1], 2), (115, [0, 1, 1, 2, 2, 1, 1, 1], 2), (116, [0, 2, 2, 1, 2, 1, 1, 1], 2), (117, [0, 1, 2, 1, 2, 1, 1, 1], 2), (118, [0, 2, 1, 1, 2, 1, 1, 1], 2), (119, [0, 1, 1, 1, 2, 1, 1, 1], 2),
  (120, [0, 2, 2, 2, 1, 1, 1, 1], 2), (121, [0, 1, 2, 2, 1, 1, 1, 1], 2), (122, [0, 2, 1, 2, 1, 1, 1, 1], 2), (123, [0, 1, 1, 2, 1, 1, 1, 1], 2), (124, [0, 2, 2, 1, 1, 1, 1, 1], 2), (125, [0, 1, 2, 1, 1, 1, 1, 1], 2), (126, [0, 2, 1, 1, 1, 1, 1, 1], 2), (127, [0, 1, 1, 1, 1, 1, 1, 1], 1)]
noncomputable def wts : List (List Nat) := [[1, 0, 1, 0, 1, 0, 1], [0, 1, 1, 0, 0, 1, 1], [1, 1, 0, 0, 1, 1, 0], [0, 0, 0, 1, 1, 1, 1], [1, 0, 1, 1, 0, 1, 0], [0, 1, 1, 1, 1, 0, 0], [1, 1, 0, 1, 0, 0, 1]]
noncomputable def chkT (e : Nat × List Nat × Nat) : Bool :=
  (List.range 8).all (fun v => bif Nat.beq v 0 then Nat.beq (e.2.1.getD v 9) 0 else Nat.ble 1 (e.2.1.getD v 9)) &&
  (List.range 8).all (fun v => (List.range 7).all fun i => !(e.1.testBit i) || Nat.ble (e.2.1.getD (v ^^^ (i + 1)) 9) (e.2.1.getD v 9 + 1)) &&
  (List.range 8).all (fun v => Nat.beq (e.2.1.getD v 9) 0 || Nat.ble 9 (e.2.1.getD v 9) || (List.range 7).any fun i => e.1.testBit i && Nat.beq (e.2.1.getD (v ^^^ (i + 1)) 9 + 1) (e.2.1.getD v 9)) &&
  (List.range 8).all (fun v => Nat.ble 9 (e.2.1.getD v 9) || Nat.ble (e.2.1.getD v 9) e.2.2) &&
  (List.range 8).any (fun v => Nat.beq (e.2.1.getD v 9) e.2.2) && Nat.ble e.2.2 8
theorem tabs_chk : tabs.all chkT = true := by decide +kernel
theorem tabs_fst : ∀ m < 128, (tabs.getD m (0, [], 0)).1 = m := by decide +kernel
theorem tabs_len : tabs.length = 128 := by decide +kernel
structure TabOk (m : Nat) (T : List Nat) (F : Nat) : Prop where
  zero : T.getD 0 9 = 0
  pos : ∀ v < 8, T.getD v 9 = 0 → v = 0
  up : ∀ v < 8, ∀ i < 7, m.testBit i = true → T.getD (v ^^^ (i + 1)) 9 ≤ T.getD v 9 + 1
  down : ∀ v < 8, T.getD v 9 ≠ 0 → T.getD v 9 < 9 → ∃ i < 7, m.testBit i = true ∧ T.getD (v ^^^ (i + 1)) 9 + 1 = T.getD v 9
  top : ∀ v < 8, T.getD v 9 < 9 → T.getD v 9 ≤ F
  met : ∃ v < 8, T.getD v 9 = F
  small : F ≤ 8
theorem tab_ok {e : Nat × List Nat × Nat} (h : chkT e = true) : TabOk e.1 e.2.1 e.2.2 := by
  unfold chkT at h
  simp only [Bool.and_eq_true, List.all_eq_true, List.any_eq_true, List.mem_range, Bool.or_eq_true, Bool.not_eq_true', cond_eq_ite] at h
  (refine and2 h fun hz1 h6 => ?_)
  try clear h
  (refine and2 hz1 fun hz2 h5 => ?_)
  try clear hz1
  (refine and2 hz2 fun hz3 h4 => ?_)
  try clear hz2
  (refine and2 hz3 fun hz4 h3 => ?_)
  try clear hz3
  (refine and2 hz4 fun h1 h2 => ?_)
  try clear hz4
  refine ⟨?_, fun v hv e0 => ?_, fun v hv i hi hb => ?_, fun v hv h0 h9 => ?_, fun v hv h9 => ?_, ?_, Nat.le_of_ble_eq_true h6⟩
  · have := h1 0 (by decide)
    exact Nat.eq_of_beq_eq_true this
  · have := h1 v hv
    cases v with
    | zero => rfl
    | succ v =>
      have := Nat.le_of_ble_eq_true this
      lia
  · rcases h2 v hv i hi with q | q
    · rw [hb] at q; cases q
    · exact Nat.le_of_ble_eq_true q
  · rcases h3 v hv with (q | q) | ⟨i, hi, q1, q2⟩
    · exact absurd (Nat.eq_of_beq_eq_true q) h0
    · have := Nat.le_of_ble_eq_true q; lia
    · exact ⟨i, hi, q1, Nat.eq_of_beq_eq_true q2⟩
  · rcases h4 v hv with q | q
    · have := Nat.le_of_ble_eq_true q; lia
    · exact Nat.le_of_ble_eq_true q
  · (refine ex1 h5 fun v hz5 => ?_; refine and2 hz5 fun hv q => ?_; clear hz5)
    try clear h5
    exact ⟨v, hv, Nat.eq_of_beq_eq_true q⟩
theorem tab_at {m : Nat} (h : m < 128) : TabOk m (tabs.getD m (0, [], 0)).2.1 (tabs.getD m (0, [], 0)).2.2 := by
  have hm : tabs.getD m (0, [], 0) ∈ tabs := by
    rw [List.getD_eq_getElem?_getD, List.getElem?_eq_getElem (by rw [tabs_len]; exact h)]
    exact List.getElem_mem _
  have := tab_ok (List.all_eq_true.mp tabs_chk _ hm)
  rwa [tabs_fst m h] at this
/-- the set of columns as a mask -/
abbrev hasF (cols : List Nat) : Nat → Bool := fun i => decide (i + 1 ∈ cols)
noncomputable def maskN (cols : List Nat) : Nat := vlF (hasF cols) 7
theorem vl_bit (f : Nat → Bool) : ∀ n, ∀ i < n, (vlF f n).testBit i = f i
  | n + 1, i, hi => by
    rw [vlF_succ]
    have ih := vl_bit f n
    have hl := vlF_lt f n
    by_cases e : i = n
    · subst e
      cases hf : f i
      · simp only [Bool.false_eq_true, if_false]; exact Nat.testBit_lt_two_pow hl
      · simp only [if_true]; rw [Nat.add_comm, Nat.testBit_two_pow_add_eq, Nat.testBit_lt_two_pow hl]; rfl
    · cases hf : f n
      · simp only [Bool.false_eq_true, if_false]; exact ih i (by lia)
      · simp only [if_true]; rw [Nat.add_comm, Nat.testBit_two_pow_add_gt (by lia)]; exact ih i (by lia)
theorem mask_lt (cols : List Nat) : maskN cols < 128 := vlF_lt _ 7
theorem mask_bit (cols : List Nat) {i : Nat} (hi : i < 7) : (maskN cols).testBit i = true ↔ i + 1 ∈ cols := by
  unfold maskN
  rw [vl_bit _ 7 i hi]
  exact decide_eq_true_iff
noncomputable def farN (cols : List Nat) : Nat := (tabs.getD (maskN cols) (0, [], 0)).2.2
section
variable {cols : List Nat} (hc8 : ∀ c ∈ cols, c < 8) (hc7 : cols.length ≤ 7)
include hc8
theorem tab_le {T : List Nat} {F : Nat} (H : TabOk (maskN cols) T F) : ∀ {ls : List Nat}, T.getD (xrL cols ls) 9 ≤ ls.length ∧ xrL cols ls < 8
  | [] => ⟨by show T.getD 0 9 ≤ 0; rw [H.zero]; exact Nat.le_refl _, (by decide : 0 < 8)⟩
  | y :: r => by
    have hz6 := tab_le H (ls := r)
    (refine and2 hz6 fun h1 h2 => ?_)
    try clear hz6
    have hc := col8 hc8 (y - 97)
    show T.getD (cols.getD (y - 97) 0 ^^^ xrL cols r) 9 ≤ r.length + 1 ∧ cols.getD (y - 97) 0 ^^^ xrL cols r < 8
    refine ⟨?_, Nat.xor_lt_two_pow (n := 3) hc h2⟩
    by_cases e : cols.getD (y - 97) 0 = 0
    · rw [e, Nat.zero_xor]; lia
    · have hm : cols.getD (y - 97) 0 ∈ cols := by
        rw [List.getD_eq_getElem?_getD] at e ⊢
        cases q : cols[y - 97]? with
        | none => rw [q] at e; exact absurd rfl e
        | some c => exact List.mem_of_getElem? q
      have hz7 : ∃ i, cols.getD (y - 97) 0 = i + 1 := ⟨cols.getD (y - 97) 0 - 1, pred_succ (Nat.pos_of_ne_zero e)⟩
      (refine ex1 hz7 fun i hi => ?_)
      try clear hz7
      rw [hi] at hm hc ⊢
      have := H.up _ h2 i (by lia) ((mask_bit cols (by lia)).mpr hm)
      rw [Nat.xor_comm]
      lia
include hc7
theorem tab_row {T : List Nat} {F : Nat} (H : TabOk (maskN cols) T F) : ∀ (k v : Nat), v < 8 → T.getD v 9 = k → k < 9 → ∃ q ∈ leadN cols 8, q.1 = v ∧ q.2.length ≤ k
  | 0, v, hv, e, _ => ⟨(0, []), (lead_ok cols 8).zero, (H.pos v hv e).symm, Nat.le_refl _⟩
  | k + 1, v, hv, e, h9 => by
    have hz8 := H.down v hv (by lia) (by lia)
    (refine ex1 hz8 fun i hz9 => ?_; refine and3 hz9 fun hi hb e1 => ?_; clear hz9)
    try clear hz8
    have hm := (mask_bit cols hi).mp hb
    have hz11 := List.getElem?_of_mem hm
    (refine ex1 hz11 fun j hj => ?_)
    try clear hz11
    have hjl := (List.getElem?_eq_some_iff.mp hj).1
    have hg : cols.getD j 0 = i + 1 := by rw [List.getD_eq_getElem?_getD, hj]; rfl
    have hz12 := tab_row H k (v ^^^ (i + 1)) (Nat.xor_lt_two_pow (n := 3) hv (by lia)) (by lia) (by lia)
    (refine ex1 hz12 fun q hz13 => ?_; refine and3 hz13 fun hq q1 q2 => ?_; clear hz13)
    try clear hz12
    have hz15 := lead_closed hc8 hc7 hq hjl
    (refine ex1 hz15 fun r hz16 => ?_; refine and3 hz16 fun hr r1 r2 => ?_; clear hz16)
    try clear hz15
    exact ⟨r, hr, by rw [r1, q1, hg, Nat.xor_assoc, Nat.xor_self, Nat.xor_zero], by lia⟩
/-- the most letters in the table -/
theorem far_eq {X : Int} (hX : ∃ r ∈ leadN cols 8, X = (r.2.length : Nat)) (hXm : ∀ r ∈ leadN cols 8, ((r.2.length : Nat) : Int) ≤ X) : X = (farN cols : Nat) := by
  have H := tab_at (mask_lt cols)
  have hF : (tabs.getD (maskN cols) (0, [], 0)).2.2 = farN cols := rfl
  rw [hF] at H
  generalize (tabs.getD (maskN cols) (0, [], 0)).2.1 = T at H
  have key : ∀ r ∈ leadN cols 8, r.1 < 8 ∧ T.getD r.1 9 = r.2.length := fun r hr => by
    have hok := (lead_ok cols 8).ok r hr
    have hz18 := tab_le hc8 H (ls := r.2)
    (refine and2 hz18 fun h1 h2 => ?_)
    try clear hz18
    rw [hok.2] at h1 h2
    have h8 := ((okk_lead hc8 hc7 8).2 r hr).2.2
    have hz19 := tab_row hc8 hc7 H _ r.1 h2 rfl (by lia)
    (refine ex1 hz19 fun q hz20 => ?_; refine and3 hz20 fun hq q1 q2 => ?_; clear hz20)
    try clear hz19
    have : q = r := nd_keys (okk_lead hc8 hc7 8).1 hq hr q1
    rw [this] at q2
    exact ⟨h2, by lia⟩
  (refine ex1 hX fun r hz23 => ?_; refine and2 hz23 fun hr hz22 => ?_; clear hz23)
  try clear hX
  obtain rfl := hz22
  have hz24 := key r hr
  (refine and2 hz24 fun k1 k2 => ?_)
  try clear hz24
  have h8 := ((okk_lead hc8 hc7 8).2 r hr).2.2
  have t1 := H.top r.1 k1 (by lia)
  have hz25 := H.met
  (refine ex1 hz25 fun v hz26 => ?_; refine and2 hz26 fun hv hv2 => ?_; clear hz26)
  try clear hz25
  have hz27 := tab_row hc8 hc7 H _ v hv rfl (by have := H.small; lia)
  (refine ex1 hz27 fun q hz28 => ?_; refine and3 hz28 fun hq q1 q2 => ?_; clear hz28)
  try clear hz27
  have hz30 := key q hq
  (refine and2 hz30 fun _ k3 => ?_)
  try clear hz30
  rw [q1, hv2] at k3
  have := hXm q hq
  rw [← k3] at this
  lia
end

end
section
/-! the sizes of the mate, by how often each column stands -/
noncomputable def dotN : List Nat → List Nat → Nat
  | a :: r, b :: q => a * b + dotN r q
  | _, _ => 0
noncomputable def cnts (cols : List Nat) : List Nat := [cols.count 1, cols.count 2, cols.count 3, cols.count 4, cols.count 5, cols.count 6, cols.count 7]
noncomputable def stepN (σ : List Nat) (x : Nat) : List Nat := bif σ.any fun y => Nat.beq y x then σ else σ ++ [x]
noncomputable def knN (ws : List Nat) : Nat := ((ws.filter fun x => Nat.blt 0 x).foldl stepN []).length
noncomputable def wtN (ms : List Nat) : List Nat := wts.map fun r => dotN r ms
noncomputable def mskN (ms : List Nat) : Nat := vlF (fun i => Nat.blt 0 (ms.getD i 0)) 7
noncomputable def sumN : List Nat → Nat
  | [] => 0
  | a :: r => a + sumN r
noncomputable def goodK (F K t : Nat) (one : Bool) : Bool :=
  Nat.ble F K && (bif Nat.beq t 0 then Nat.beq F 0 && Nat.beq K 0 else Nat.ble 1 F) && (!one || Nat.blt t 4 || ((Nat.beq F 1 == Nat.beq t 7) && (Nat.beq K 1 == Nat.beq t 7)))
noncomputable def goodN (ms : List Nat) : Bool := goodK (tabs.getD (mskN ms) (0, [], 0)).2.2 (knN (wtN ms)) (sumN ms) (ms.all fun x => Nat.ble x 1)
noncomputable def enumN : Nat → Nat → List Nat → Bool
  | 0, _, ms => goodN ms
  | k + 1, left, ms => (List.range (left + 1)).all fun x => enumN k (left - x) (x :: ms)
theorem en00 : enumN 5 7 [0, 0] = true := by decide +kernel
theorem en01 : enumN 5 6 [1, 0] = true := by decide +kernel
theorem en02 : enumN 5 5 [2, 0] = true := by decide +kernel
theorem en03 : enumN 5 4 [3, 0] = true := by decide +kernel
theorem en04 : enumN 5 3 [4, 0] = true := by decide +kernel
theorem en05 : enumN 5 2 [5, 0] = true := by decide +kernel
theorem en06 : enumN 5 1 [6, 0] = true := by decide +kernel
theorem en07 : enumN 5 0 [7, 0] = true := by decide +kernel
theorem en1 : enumN 6 6 [1] = true := by decide +kernel
theorem en2 : enumN 6 5 [2] = true := by decide +kernel
theorem en3 : enumN 6 4 [3] = true := by decide +kernel
theorem en4 : enumN 6 3 [4] = true := by decide +kernel
theorem en5 : enumN 6 2 [5] = true := by decide +kernel
theorem en6 : enumN 6 1 [6] = true := by decide +kernel
theorem en7 : enumN 6 0 [7] = true := by decide +kernel
theorem en0 : enumN 6 7 [0] = true := List.all_eq_true.mpr fun x hx => by
  rcases lt8 (List.mem_range.mp hx) with rfl | rfl | rfl | rfl | rfl | rfl | rfl | rfl
  · exact en00
  · exact en01
  · exact en02
  · exact en03
  · exact en04
  · exact en05
  · exact en06
  · exact en07
theorem enum_7 : enumN 7 7 [] = true := List.all_eq_true.mpr fun x hx => by
  rcases lt8 (List.mem_range.mp hx) with rfl | rfl | rfl | rfl | rfl | rfl | rfl | rfl
  · exact en0
  · exact en1
  · exact en2
  · exact en3
  · exact en4
  · exact en5
  · exact en6
  · exact en7
theorem enum_ok : ∀ (k left : Nat) (ms : List Nat), enumN k left ms = true → ∀ xs : List Nat, xs.length = k → xs.sum ≤ left → goodN (xs.reverse ++ ms) = true
  | 0, left, ms, h, xs, hl, _ => by
    have : xs = [] := List.eq_nil_of_length_eq_zero hl
    subst this; exact h
  | k + 1, left, ms, h, [], hl, _ => by simp at hl
  | k + 1, left, ms, h, x :: xs, hl, hs => by
    have hs' : x + xs.sum ≤ left := by simpa using hs
    have h1 : ((List.range (left + 1)).all fun x => enumN k (left - x) (x :: ms)) = true := h
    rw [List.all_eq_true] at h1
    have := enum_ok k (left - x) (x :: ms) (h1 x (List.mem_range.mpr (Nat.lt_succ_of_le (Nat.le_trans (Nat.le_add_right _ _) hs')))) xs (by simpa using hl) (Nat.le_sub_of_add_le (by rw [Nat.add_comm]; exact hs'))
    rw [List.reverse_cons, List.append_assoc]
    exact this
theorem count_split {cols : List Nat} (hc8 : ∀ c ∈ cols, c < 8) : cols.length = cols.count 0 + (cnts cols).sum := by
  induction cols with
  | nil => rfl
  | cons c r ih =>
    have ih' := ih fun c hc => hc8 c (.tail _ hc)
    have hc := hc8 c (.head _)
    have cc : ∀ v, (c :: r).count v = r.count v + if c == v then 1 else 0 := fun v => List.count_cons
    simp only [cnts, cc, List.length_cons, List.sum_cons, List.sum_nil] at ih' ⊢
    have tab : ∀ c < 8, (if c == 0 then 1 else 0) + ((if c == 1 then 1 else 0) + ((if c == 2 then 1 else 0) + ((if c == 3 then 1 else 0) + ((if c == 4 then 1 else 0) + ((if c == 5 then 1 else 0) + ((if c == 6 then 1 else 0) + (if c == 7 then 1 else 0))))))) = 1 := by decide
    have t := tab c hc
    generalize (if c == 0 then 1 else 0) = d0 at *
    generalize (if c == 1 then 1 else 0) = d1 at *
    generalize (if c == 2 then 1 else 0) = d2 at *
    generalize (if c == 3 then 1 else 0) = d3 at *
    generalize (if c == 4 then 1 else 0) = d4 at *
    generalize (if c == 5 then 1 else 0) = d5 at *
    generalize (if c == 6 then 1 else 0) = d6 at *
    generalize (if c == 7 then 1 else 0) = d7 at *
    clear cc tab
    lia
theorem cnts_get (cols : List Nat) {i : Nat} (h : i < 7) : (cnts cols).getD i 0 = cols.count (i + 1) := by
  have := lt7 h
  rcases this with rfl | rfl | rfl | rfl | rfl | rfl | rfl <;> rfl
theorem msk_eq (cols : List Nat) : mskN (cnts cols) = maskN cols := by
  unfold mskN maskN
  refine vl_ext fun j hj => ?_
  rw [cnts_get cols hj]
  by_cases h : j + 1 ∈ cols
  · have := List.count_pos_iff.mpr h
    rw [show hasF cols j = true from decide_eq_true h]
    exact Nat.ble_eq_true_of_le this
  · rw [show hasF cols j = false from decide_eq_false h, List.count_eq_zero.mpr h]
    rfl
theorem sumN_eq : ∀ l : List Nat, sumN l = l.sum
  | [] => rfl
  | a :: r => by rw [sumN, sumN_eq r, List.sum_cons]
/-! sizes -/
noncomputable def oddN (ch c : Nat) : Bool := Nat.beq (popc (c &&& ch) % 2) 1
theorem textN_out (cols : List Nat) (ch : Nat) : ∀ i, i ≤ cols.length → cols.length ≤ 7 → (outF false (textN cols ch i)).length + (cols.take i).countP (oddN ch) = i
  | 0, _, _ => by simp [textN, outF]
  | i + 1, h, h7 => by
    have ih := textN_out cols ch i (by lia) h7
    have hq : cols[i]? = some cols[i] := List.getElem?_eq_getElem (show i < cols.length from h)
    have e : textN cols ch (i + 1) = textN cols ch i ++ blk (popc (cols[i] &&& ch)) (97 + i) := by
      show (match cols[i]? with | some c => textN cols ch i ++ blk (popc (c &&& ch)) (97 + i) | none => textN cols ch i) = _
      rw [hq]
    rw [e, outF_append, textN_mdQ, outF_blk (by lia), List.length_append, List.take_add_one, hq, Option.toList_some, List.countP_append]
    by_cases hp : popc (cols[i] &&& ch) % 2 = 0
    · rw [if_pos hp, List.countP_singleton, show oddN ch cols[i] = false by unfold oddN; rw [hp]; rfl]
      simp only [Bool.false_eq_true, if_false, List.length_cons, List.length_nil]
      lia
    · rw [if_neg hp, List.countP_singleton, show oddN ch cols[i] = true by unfold oddN; rw [show popc (cols[i] &&& ch) % 2 = 1 by lia]; rfl]
      simp only [if_true, List.length_nil]
      lia
theorem size_odd {cols : List Nat} (hc7 : cols.length ≤ 7) (ch : Nat) : sizeN cols ch = ((cols.countP (oddN ch) : Nat) : Int) := by
  have := textN_out cols ch cols.length (Nat.le_refl _) hc7
  rw [List.take_length] at this
  unfold sizeN
  lia
noncomputable def indN (c : Nat) : List Nat := [if c == 1 then 1 else 0, if c == 2 then 1 else 0, if c == 3 then 1 else 0, if c == 4 then 1 else 0, if c == 5 then 1 else 0, if c == 6 then 1 else 0, if c == 7 then 1 else 0]
theorem dot_add : ∀ (as bs cs : List Nat), bs.length = cs.length → dotN as (List.zipWith (· + ·) bs cs) = dotN as bs + dotN as cs
  | [], _, _, _ => by simp [dotN]
  | _ :: _, [], [], _ => by simp [dotN]
  | a :: as, b :: bs, c :: cs, h => by
    rw [List.zipWith_cons_cons, dotN, dotN, dotN, dot_add as bs cs (Nat.succ.inj h), Nat.mul_add, Nat.add_add_add_comm]
theorem odd_tab : ∀ j < 7, dotN (wts.getD j []) [0, 0, 0, 0, 0, 0, 0] = 0 ∧ ∀ c < 8, dotN (wts.getD j []) (indN c) = if oddN (j + 1) c then 1 else 0 := by decide +kernel
theorem dot_odd {j : Nat} (hj : j < 7) : ∀ {cols : List Nat}, (∀ c ∈ cols, c < 8) → dotN (wts.getD j []) (cnts cols) = cols.countP (oddN (j + 1))
  | [], _ => (odd_tab j hj).1
  | c :: r, hc8 => by
    have ih := dot_odd hj (cols := r) fun c hc => hc8 c (.tail _ hc)
    have e : cnts (c :: r) = List.zipWith (· + ·) (cnts r) (indN c) := by simp only [cnts, List.count_cons]; rfl
    rw [List.countP_cons, ← ih, e, dot_add _ (cnts r) (indN c) rfl, (odd_tab j hj).2 c (hc8 c (.head _))]
theorem sizes_wt {cols : List Nat} (hc8 : ∀ c ∈ cols, c < 8) (hc7 : cols.length ≤ 7) : sizesN cols 7 = (wtN (cnts cols)).map fun n : Nat => (n : Int) := by
  have h := fun j (hj : j < 7) => dot_odd hj hc8
  have e : ∀ j < 7, sizeN cols (j + 1) = ((dotN (wts.getD j []) (cnts cols) : Nat) : Int) := fun j hj => by rw [size_odd hc7, h j hj]
  have hw : wtN (cnts cols) = (List.range 7).map fun j => dotN (wts.getD j []) (cnts cols) := rfl
  unfold sizesN
  rw [hw, List.map_map]
  exact List.map_congr_left fun j hj => e j (List.mem_range.mp hj)
theorem step_cast (σ : List Nat) (x : Nat) : step_dedup (σ.map fun n : Nat => (n : Int)) (x : Int) = (stepN σ x).map fun n : Nat => (n : Int) := by
  unfold step_dedup stepN
  have e : (σ.map fun n : Nat => (n : Int)).any (· == (x : Int)) = σ.any fun y => Nat.beq y x := by
    rw [List.any_map]
    congr 1
    funext y
    simp only [Function.comp]
    cases h : Nat.beq y x
    · have hne : y ≠ x := fun q => by rw [q, Nat.beq_refl] at h; cases h
      exact beq_eq_false_iff_ne.mpr fun q => hne (Int.ofNat_inj.mp q)
    · rw [Nat.eq_of_beq_eq_true h]; simp
  rw [e]
  cases σ.any fun y => Nat.beq y x <;> simp
theorem fold_cast : ∀ (l σ : List Nat), (l.map fun n : Nat => (n : Int)).foldl step_dedup (σ.map fun n : Nat => (n : Int)) = (l.foldl stepN σ).map fun n : Nat => (n : Int)
  | [], _ => rfl
  | x :: l, σ => by
    rw [List.map_cons, List.foldl_cons, List.foldl_cons, step_cast, fold_cast l]
theorem kinds_eq {cols : List Nat} (hc8 : ∀ c ∈ cols, c < 8) (hc7 : cols.length ≤ 7) : (firstMet (fun i => (List.filter (fun x => decide (0 < x)) (sizesN cols 7)).getD i 0) (List.filter (fun x => decide (0 < x)) (sizesN cols 7)).length).length = knN (wtN (cnts cols)) := by
  have hf : List.filter (fun x => decide (0 < x)) (sizesN cols 7) = ((wtN (cnts cols)).filter fun x => Nat.blt 0 x).map fun n : Nat => (n : Int) := by
    rw [sizes_wt hc8 hc7, List.filter_map]
    congr 1
    refine List.filter_congr fun x _ => ?_
    simp only [Function.comp]
    cases x with
    | zero => rfl
    | succ x => rw [show Nat.blt 0 (x + 1) = true from Nat.ble_eq_true_of_le (by lia)]; exact decide_eq_true (by lia)
  rw [hf]
  unfold knN
  generalize (wtN (cnts cols)).filter (fun x => Nat.blt 0 x) = l at *
  have e : ∀ ns : List Int, (List.range ns.length).map (fun i => ns.getD i 0) = ns := fun ns => by
    refine List.ext_getElem (by simp) fun i h1 h2 => ?_
    simp [List.getD_eq_getElem?_getD, h2]
  unfold firstMet
  rw [e]
  have := fold_cast l []
  rw [List.map_nil] at this
  rw [this, List.length_map]

end
section
theorem getD_of {cols : List Nat} {i : Nat} (h : i < cols.length) : cols.getD i 0 = cols[i] := by
  rw [List.getD_eq_getElem?_getD, List.getElem?_eq_getElem h]; rfl
theorem dist_nodup {cols : List Nat} (hD : Dist cols) : cols.Nodup := by
  rw [List.nodup_iff_pairwise_ne, List.pairwise_iff_getElem]
  intro i j hi hj hij e
  exact hD.2 i j hij hj (by rw [getD_of hi, getD_of hj, e])
theorem dist_zero {cols : List Nat} (hD : Dist cols) : cols.count 0 = 0 := by
  rw [List.count_eq_zero]
  intro h
  obtain ⟨i, hi, e⟩ := List.mem_iff_getElem.mp h
  exact hD.1 i hi (by rw [getD_of hi, e])
theorem all_zero {cols : List Nat} (hc8 : ∀ c ∈ cols, c < 8) : (cnts cols).sum = 0 ↔ ∀ i < cols.length, cols.getD i 0 = 0 := by
  have hs := count_split hc8
  constructor
  · intro h i hi
    have h1 : cols.count 0 = cols.length := by lia
    have h2 := List.count_eq_length.mp h1
    rw [getD_of hi]
    exact (h2 _ (List.getElem_mem hi)).symm
  · intro h
    have h1 : cols.count 0 = cols.length := List.count_eq_length.mpr fun c hc => by
      obtain ⟨i, hi, e⟩ := List.mem_iff_getElem.mp hc
      have := h i hi
      rw [getD_of hi, e] at this
      exact this.symm
    lia
structure GoodK (F K t : Nat) (one : Bool) : Prop where
  le : F ≤ K
  z0 : t = 0 → F = 0 ∧ K = 0
  z1 : t ≠ 0 → 1 ≤ F
  p : one = true → 4 ≤ t → (F = 1 ↔ t = 7) ∧ (K = 1 ↔ t = 7)
theorem beq_iff {a b c d : Nat} (h : (Nat.beq a b == Nat.beq c d) = true) : a = b ↔ c = d := by
  have h' : Nat.beq a b = Nat.beq c d := by simpa using h
  constructor
  · rintro rfl; rw [Nat.beq_refl] at h'; exact Nat.eq_of_beq_eq_true h'.symm
  · rintro rfl; rw [Nat.beq_refl] at h'; exact Nat.eq_of_beq_eq_true h'
theorem good_k {F K t : Nat} {one : Bool} (h : goodK F K t one = true) : GoodK F K t one := by
  unfold goodK at h
  simp only [Bool.and_eq_true, Bool.or_eq_true, Bool.not_eq_true', cond_eq_ite] at h
  obtain ⟨⟨h1, h2⟩, h3⟩ := h
  refine ⟨Nat.le_of_ble_eq_true h1, fun e => ?_, fun e => ?_, fun h4 h5 => ?_⟩
  · rw [if_pos (by rw [e]; rfl), Bool.and_eq_true] at h2
    exact ⟨Nat.eq_of_beq_eq_true h2.1, Nat.eq_of_beq_eq_true h2.2⟩
  · rw [if_neg (fun q => e (Nat.eq_of_beq_eq_true q))] at h2
    exact Nat.le_of_ble_eq_true h2
  · rcases h3 with (q | q) | ⟨q1, q2⟩
    · rw [h4] at q; cases q
    · have := Nat.le_of_ble_eq_true q; lia
    · exact ⟨beq_iff q1, beq_iff q2⟩
theorem good_cols {cols : List Nat} (hc8 : ∀ c ∈ cols, c < 8) (hc7 : cols.length ≤ 7) : GoodK (farN cols) (knN (wtN (cnts cols))) (cnts cols).sum ((cnts cols).all fun x => Nat.ble x 1) := by
  have hs := count_split hc8
  have h := enum_ok 7 7 [] enum_7 (cnts cols).reverse (by rfl) (by rw [List.sum_reverse]; lia)
  rw [List.reverse_reverse, List.append_nil] at h
  unfold goodN at h
  rw [msk_eq, sumN_eq] at h
  exact good_k h
section
variable {cols : List Nat} (hc8 : ∀ c ∈ cols, c < 8) (hc4 : 4 ≤ cols.length) (hc7 : cols.length ≤ 7)
include hc8 hc4 hc7
theorem ball_range {M : Int} (hM : M ∈ zeros (sumsF (colI cols))) (hMm : ∀ a ∈ zeros (sumsF (colI cols)), M ≤ a) {b : Nat} (hb : b = (((sumsF (colI cols)).filter fun p => decide (p.2 ≤ (M - 1).fdiv 2)).map (·.2)).length) : 1 ≤ b ∧ b ≤ 8 := by
  rcases sure_of hc8 hc4 hM hMm with ⟨_, e⟩ | ⟨_, e⟩
  · rw [e, ball_0] at hb; lia
  · rw [e, ball_1] at hb; lia
theorem far_ne {psB : List (Int × Int)} (hpB : psB.Perm (leastF (sumsF (colI cols)))) : 0 < ((psB.filter fun _ => true).map (·.2)).length := by
  have h := (row_in hc8 hc7 (lead_ok cols 8).zero)
  have := hpB.mem_iff.mpr h
  exact List.length_pos_of_mem (List.mem_map.mpr ⟨_, List.mem_filter.mpr ⟨this, rfl⟩, rfl⟩)
theorem law_num {psB : List (Int × Int)} (hpB : psB.Perm (leastF (sumsF (colI cols)))) {M X : Int} (hM : M ∈ zeros (sumsF (colI cols))) (hMm : ∀ a ∈ zeros (sumsF (colI cols)), M ≤ a)
    (hX : X ∈ (psB.filter fun _ => true).map (·.2)) (hXm : ∀ a ∈ (psB.filter fun _ => true).map (·.2), a ≤ X) {Z : List Int} (hZ : Z = sizesN cols 7) {b K : Nat} (hb : b = (((sumsF (colI cols)).filter fun p => decide (p.2 ≤ (M - 1).fdiv 2)).map (·.2)).length)
    (hK : K = (firstMet (fun i => (List.filter (fun x => decide (0 < x)) Z).getD i 0) (List.filter (fun x => decide (0 < x)) Z).length).length) {pf : Bool}
    (hpf : pf = (((2 ^ cols.length / b : Nat) : Int) == ((((sumsF (colI cols)).filter fun p => decide (p.1 = 0)).map (·.2)).length : Int) && ((2 ^ cols.length % b : Nat) : Int) == 0)) :
    (M - 1).fdiv 2 ≤ X ∧ X ≤ (K : Nat) ∧ ((M - 1).fdiv 2 == X) = pf ∧ ((M - 1).fdiv 2 == ((K : Nat) : Int)) = pf := by
  subst hZ
  rw [kinds_eq hc8 hc7] at hK
  have hfar : X = (farN cols : Nat) := by
    refine far_eq hc8 hc7 ?_ fun r hr => ?_
    · obtain ⟨p, hp, rfl⟩ := List.mem_map.mp hX
      obtain ⟨r, hr, e⟩ := in_row hc8 hc7 (hpB.mem_iff.mp (List.mem_filter.mp hp).1)
      exact ⟨r, hr, by rw [e]; rfl⟩
    · exact hXm _ (List.mem_map.mpr ⟨rowF r, List.mem_filter.mpr ⟨hpB.mem_iff.mpr (row_in hc8 hc7 hr), rfl⟩, rfl⟩)
  have G := good_cols hc8 hc7
  rw [← hK] at G
  have hs := count_split hc8
  rcases sure_of hc8 hc4 hM hMm with ⟨_, e⟩ | ⟨hD, e⟩
  · rw [e, ball_0] at hb
    rw [e, hfar]
    have hle := G.le
    by_cases ht : (cnts cols).sum = 0
    · obtain ⟨f0, k0⟩ := G.z0 ht
      have hh := (held_all hc8).mpr ((all_zero hc8).mp ht)
      rw [hb, hh, Nat.div_one, Nat.mod_one, beq_self_eq_true] at hpf
      rw [f0, k0]
      exact ⟨by decide, by decide, by rw [hpf]; rfl, by rw [hpf]; rfl⟩
    · have f1 := G.z1 ht
      have hh : (((sumsF (colI cols)).filter fun p => decide (p.1 = 0)).map (·.2)).length ≠ 2 ^ cols.length := fun q => ht ((all_zero hc8).mpr ((held_all hc8).mp q))
      have hpf' : pf = false := by
        rw [hpf, hb, Nat.div_one]
        rw [beq_eq_false_iff_ne.mpr fun q => hh (Int.ofNat_inj.mp q).symm]
        rfl
      rw [hpf']
      exact ⟨by lia, by lia, beq_eq_false_iff_ne.mpr (by lia), beq_eq_false_iff_ne.mpr (by lia)⟩
  · rw [e, ball_1] at hb
    rw [e, hfar]
    have hle := G.le
    have h0 := dist_zero hD
    have hone : (cnts cols).all (fun x => Nat.ble x 1) = true := by
      have hc := List.nodup_iff_count.mp (dist_nodup hD)
      simp only [cnts, List.all_cons, List.all_nil, Nat.ble_eq_true_of_le (hc 1), Nat.ble_eq_true_of_le (hc 2), Nat.ble_eq_true_of_le (hc 3), Nat.ble_eq_true_of_le (hc 4), Nat.ble_eq_true_of_le (hc 5), Nat.ble_eq_true_of_le (hc 6), Nat.ble_eq_true_of_le (hc 7), Bool.and_self]
    have ht : (cnts cols).sum = cols.length := by lia
    rw [ht] at G
    obtain ⟨g1, g2⟩ := G.p hone hc4
    have f1 := G.z1 (by lia)
    have hh := held_dist hc8 hc4 hD
    generalize (((sumsF (colI cols)).filter fun p => decide (p.1 = 0)).map (·.2)).length = H at *
    have hn : cols.length = 4 ∨ cols.length = 5 ∨ cols.length = 6 ∨ cols.length = 7 := by lia
    have hpf' : pf = decide (cols.length = 7) := by
      rcases hn with n | n | n | n
      · rw [n] at hpf hh hb ⊢
        have : H = 2 := by lia
        rw [hpf, hb, this]; rfl
      · rw [n] at hpf hh hb ⊢
        have : H = 4 := by lia
        rw [hpf, hb, this]; rfl
      · rw [n] at hpf hh hb ⊢
        have : H = 8 := by lia
        rw [hpf, hb, this]; rfl
      · rw [n] at hpf hh hb ⊢
        have : H = 16 := by lia
        rw [hpf, hb, this]; rfl
    rw [hpf']
    refine ⟨by lia, by lia, ?_, ?_⟩
    · by_cases q : cols.length = 7
      · rw [decide_eq_true q, g1.mpr q]; rfl
      · rw [decide_eq_false q]; exact beq_eq_false_iff_ne.mpr fun h => q (g1.mp (by lia))
    · by_cases q : cols.length = 7
      · rw [decide_eq_true q, g2.mpr q]; rfl
      · rw [decide_eq_false q]; exact beq_eq_false_iff_ne.mpr fun h => q (g2.mp (by lia))
end

end
section
/-- the end of a call whose generators are all done: what the head asks, told by the written part without its code tables -/
theorem post_bare {M : Model} {A : Around} {cd : Code} {s s₁ : Shared} {cw : ClaimW} {cl : PySem.Str → Option Addr} {mean : ExcName → Option Value} {args : List WData} {tabs : List (Addr × Addr)} (hT : TabsAt tabs s₁.heap) (hr : ∀ a x, cw.raises a x = false)
    (h : codeAny M A cd (fun r s' => GoodW cw cl mean args { s₁ with heap := ghostOf s₁.heap tabs } r { s' with gens := #[] } ∧ GrownAll tabs s'.heap ∧ AllBare s'.gens) s) : codeAny M A cd (GoodWG cw cl mean args s₁) s := by
  refine codeAny_mono h ?_
  intro r s'
  intro hz1
  (refine and3 hz1 fun hz2 hgr hb => ?_)
  try clear hz1
  (refine and4 hz2 fun hc hk hos _ => ?_)
  try clear hz2
  -- an object that stood before the call stands, or it is a code table, empty before
  have old : ∀ b o, s₁.heap.get? b = some o → s'.heap.get? b = some o ∨ (isCodeTable s₁.heap b ∧ o = tabObj #[] ∧ ∃ ps, s'.heap.get? b = some (tabObj ps)) := by
    intro b o e
    by_cases hm : b ∈ tabs.map (·.2)
    · have hz6 := List.mem_map.mp hm
      (refine ex1 hz6 fun q hz8 => ?_; refine and2 hz8 fun hq hz7 => ?_; clear hz8)
      try clear hz6
      obtain rfl := hz7
      have z := hT q hq
      have e' := z.2
      rw [e] at e'
      exact .inr ⟨(z.1.tab z.2).isCodeTable, Option.some.inj e', hgr.get q hq⟩
    · exact .inl (hk b o (ghost_ne e hm))
  refine ⟨?_, ⟨fun b o e => ?_, fun b o e => ?_⟩, hos, hb⟩
  · rcases hc with ⟨v, d, as, h1, h2, h3, h4, h5⟩ | ⟨_, _, _, _, _, _, h4, _⟩
    · refine .inl ⟨v, d, as, h1, h2, h3, h4, fun q => ⟨(h5 q).1, fun a ha => ?_⟩⟩
      have z := (h5 q).2 a ha
      cases e : s₁.heap.get? a with
      | none => rfl
      | some o =>
        by_cases hm : a ∈ tabs.map (·.2)
        · have hz9 := List.mem_map.mp hm
          (refine ex1 hz9 fun q' hz11 => ?_; refine and2 hz11 fun hq' hz10 => ?_; clear hz11)
          try clear hz9
          obtain rfl := hz10
          have hz12 := hgr.get q' hq'
          (refine ex1 hz12 fun ps hP => ?_)
          try clear hz12
          exact absurd ha (readsW_apart hP rfl h3)
        · have e' : (ghostOf s₁.heap tabs).get? a = some o := ghost_ne e hm
          rw [show (ghostOf s₁.heap tabs).get? a = none from z] at e'
          cases e'
    · rw [hr] at h4; cases h4
  · rcases old b o e with h1 | ⟨h1, rfl, ps, h2⟩
    · exact .inl h1
    · exact .inr (.inl ⟨h1, rfl, #[], ps, rfl, by rw [Array.empty_append]; exact h2⟩)
  · rcases old b o e with h1 | ⟨_, _, ps, h2⟩
    · exact ⟨o, h1⟩
    · exact ⟨_, h2⟩
theorem gfin_bare {g' : Array GenState} (h : GFin #[] g') : AllBare g' := by
  (refine ex1 h fun k hz13 => ?_)
  try clear h
  obtain rfl := hz13
  intro y hy
  rw [Array.empty_append] at hy
  have := (Array.mem_replicate.mp hy).2
  rw [this]
  rfl

end
section
-- hil-done: law_w/m
-- macros2 -- macros3
theorem law_pick {C : PySem.Str → List Stmt → Scope → Prop} {x : Option Obj} {oc od an osl oc' od' an' osl'} {name qual name' qual' : PySem.Str} {params params' : Arguments} {body body' : List Stmt} {scope scope' : Scope} {dV kV doc pm cdv ct dV' kV' doc' pm' cdv' ct' : Value}
    (h : x = some ⟨oc, od, .func (fnOf name qual params body scope dV kV doc pm an cdv ct), osl⟩) (h' : x = some ⟨oc', od', .func (fnOf name' qual' params' body' scope' dV' kV' doc' pm' an' cdv' ct'), osl'⟩) (g : C name' body' scope') : C name body scope := by
  rw [h] at h'
  injection h' with h'
  injection h' with _ _ h' _
  injection h' with h'
  injection h' with e1 _ _ e2 e3
  injection e2 with e2
  subst e1 e2 e3
  exact g
local macro_rules | `(tactic| walk_at "subscriptTail Name Slice ref ref") => `(tactic| (k_here; (with_reducible show wpAny _ _ (subscriptTail _ (PySem.Expr.Slice _ _ (some _) _) (Value.ref _) (Value.ref _)) _ _ _); k_dflt (refine' slice3_ints (s := ⟨_, _, _, _, _⟩) (by k_asm) (by k_asm) (by is_list) (by l_ints) (by exact IsPart.int _ _) (by exact IsPart.int _ _) (by exact IsPart.int _ _) (by decide) (by first | assumption | lia) ?_); intro _ _ _ _ F' N' l1 i1; (try dsimp only)))
theorem mem10 {α : Type} {q a b c d e f g h i j : α} {l : List α} (hq : q ∈ l) : q ∈ a :: b :: c :: d :: e :: f :: g :: h :: i :: j :: l := by simp [hq]
theorem mem5 {α : Type} {q a b c d e : α} {l : List α} (hq : q ∈ l) : q ∈ a :: b :: c :: d :: e :: l := .tail _ (.tail _ (.tail _ (.tail _ (.tail _ hq))))
theorem mem11 {α : Type} {q a : α} {l : List α} (hq : q ∈ l) : q ∈ a :: l := .tail _ hq
theorem nine_ints {t0 t1 t2 t3 t4 t5 t6 t7 t8 : Tok} {x0 x1 x2 x3 x4 x5 x6 x7 x8 : Int} {j : Nat} {v : Value} (h : ([.int x0 t0, .int x1 t1, .int x2 t2, .int x3 t3, .int x4 t4, .int x5 t5, .int x6 t6, .int x7 t7, .int x8 t8] : List Value)[j]? = some v) : ∃ x tx, v = .int x tx := by
  have := List.mem_of_getElem? h
  simp only [List.mem_cons, List.not_mem_nil, or_false] at this
  rcases this with h | h | h | h | h | h | h | h | h <;> exact ⟨_, _, h⟩
theorem code_off {h : Heap} {c a : Addr} {q : PySem.Str} {o : Obj} (H : h.CodeRec (.ref c) q) (e : h.get? a = some o) (hd : ∀ vs, o.data ≠ .fields vs) : c ≠ a := by
  rintro rfl
  (refine ex4 H fun c2 o2 vs t hz3 => ?_; refine and4 hz3 fun e1 e2 e3 _ => ?_; clear hz3)
  try clear H
  cases e1
  rw [e] at e2
  cases e2
  exact hd _ e3
theorem abc_txt : PySem.Str.ofString "abcdefg" = txt [97, 98, 99, 100, 101, 102, 103] := by decide +kernel
theorem abc_take {n j c : Nat} (h : (txt (List.take n [97, 98, 99, 100, 101, 102, 103])).cps[j]? = some c) : c = 97 + j ∧ j < 7 := by
  have h' : (List.take n [97, 98, 99, 100, 101, 102, 103])[j]? = some c := by simpa using h
  rw [List.getElem?_take] at h'
  split at h'
  · have hj : j < 7 := by
      rcases Nat.lt_or_ge j 7 with q | q
      · exact q
      · rw [List.getElem?_eq_none (by simpa using q)] at h'; cases h'
    refine ⟨?_, hj⟩
    rcases lt7 (i := j) (by lia) with rfl | rfl | rfl | rfl | rfl | rfl | rfl <;> simp at h' <;> lia
  · cases h'
theorem abc_small (n : Nat) : (txt (List.take n [97, 98, 99, 100, 101, 102, 103])).cps.all (· < 128) = true := by
  rw [← Array.all_toList, List.all_eq_true]
  intro c hc
  have : c ∈ [97, 98, 99, 100, 101, 102, 103] := List.mem_of_mem_take (by simpa using hc)
  simp at this
  exact decide_eq_true (by lia)
theorem bit128 {q j : Nat} (hq : q < 128) (hj : j < 7) : Builtin.bitAnd (((q : Nat) : Int).fdiv (2 ^ (((j : Nat) : Int)).toNat)) 1 = (((q >>> j) &&& 1 : Nat) : Int) := by
  have tab : ∀ q < 128, ∀ j < 7, Builtin.bitAnd (((q : Nat) : Int).fdiv (2 ^ (((j : Nat) : Int)).toNat)) 1 = (((q >>> j) &&& 1 : Nat) : Int) := by decide +kernel
  exact tab q hq j hj
theorem upC_abc {j : Nat} (h : j < 7) : [65 + j] = [upC (97 + j)] := by
  unfold upC
  rw [if_pos (by lia)]
  congr 1; lia
theorem word_step {ys : List Value} {f : Nat → List Nat} {j c : Nat} {t : Tok} (hJ : TxtsAre ys ((List.range j).map f)) (h : f j = [c]) : TxtsAre (ys ++ [.str (one c) t]) ((List.range (j + 1)).map f) := by
  rw [List.range_succ, List.map_append, List.map_cons, List.map_nil, h]
  exact hJ.append (.cons .nil)
set_option maxHeartbeats 6000000
noncomputable def law_w.S (w : World) (p : Program) (loose : List PySem.Str) (mean : ExcName → Option Value) (mg : PySem.Str → Option Value) (mb : PySem.Str → Option Value) (base : Heap) (G : Heap) (h₁ : Heap) (tk₁ : Nat) (s : Shared) (L : Addr) (fa : Addr) (cd : Value) (name : PySem.Str) (qual : PySem.Str) (params : Arguments) (body : List Stmt) (scope : Scope) (dV : Value) (kV : Value) (doc : Value) (pm : Value) (cdv : Value) (ct : Value) (oc : Value) (od : Option Addr) (an : Option Addr) (osl : Array (Option Value)) (o1 : Obj) (o2 : Obj) (o3 : Obj) (l : Addr) (vs : List Value) (ns : List Int) (Q : Flow → Shared → Prop) (E : Value → Shared → Prop) : Prop := ∀ (m : PySem.Str → Option Value) (ho : (hd.heap_1 w.params).lookup 286 = some ⟨oc, od, .func (fnOf name qual params body scope dV kV doc pm an cdv ct), osl⟩) (F : Fr G L h₁ m) (hm : m = fun _ => none) (N : News G L h₁ [(L + 1 + 1 + 1, o3), (L + 1 + 1, o2), (L + 1, o1), (61, tabObj #[]), (54, tabObj #[])]) (hd3 : o3.data = .cell none) (hd2 : o2.data = .cell none) (hd1 : o1.data = .cell (some (.ref l))) (h61 : 61 < L) (hl : G.IsList l vs.toArray) (hi : IntsAre vs ns) (hlen : ns.length ≤ 63) (ret : ∀ h' tk' g' news' m' p61 p54, Fr G L h' m' → News G L h' news' → (61, tabObj p61) ∈ news' → (54, tabObj p54) ∈ news' → GFin s.gens g' → Q (.ret (.bool true)) { s with heap := h', gens := g', toks := tk' }), Below callerA base [] G → (hd.heap_1 w.params).In G → Top p loose mean mg mb G →
    wpAny (model PySem.Challenge.rw_to0081_01.prog w) (callerA.deeper (envOfC name scope L fa cd)) (execs body (envOfC name scope L fa cd)) Q E { s with heap := h₁, toks := tk₁ }
set_option synthInstance.maxSize 4096 in
set_option synthInstance.maxHeartbeats 200000 in
noncomputable def law_w.e : World × Program × (List PySem.Str) × (ExcName → Option Value) × (PySem.Str → Option Value) × (PySem.Str → Option Value) × Heap × Heap × Heap × Nat × Shared × Addr × Addr × Value × PySem.Str × PySem.Str × Arguments × (List Stmt) × Scope × Value × Value × Value × Value × Value × Value × Value × (Option Addr) × (Option Addr) × (Array (Option Value)) × Obj × Obj × Obj × Addr × (List Value) × (List Int) × (Flow → Shared → Prop) × (Value → Shared → Prop) := haveI := ne_w; haveI := ne_s; haveI := ne_a; haveI := ne_g; Classical.epsilon fun x => ¬ law_w.S x.1 x.2.1 x.2.2.1 x.2.2.2.1 x.2.2.2.2.1 x.2.2.2.2.2.1 x.2.2.2.2.2.2.1 x.2.2.2.2.2.2.2.1 x.2.2.2.2.2.2.2.2.1 x.2.2.2.2.2.2.2.2.2.1 x.2.2.2.2.2.2.2.2.2.2.1 x.2.2.2.2.2.2.2.2.2.2.2.1 x.2.2.2.2.2.2.2.2.2.2.2.2.1 x.2.2.2.2.2.2.2.2.2.2.2.2.2.1 x.2.2.2.2.2.2.2.2.2.2.2.2.2.2.1 x.2.2.2.2.2.2.2.2.2.2.2.2.2.2.2.1 x.2.2.2.2.2.2.2.2.2.2.2.2.2.2.2.2.1 x.2.2.2.2.2.2.2.2.2.2.2.2.2.2.2.2.2.1 x.2.2.2.2.2.2.2.2.2.2.2.2.2.2.2.2.2.2.1 x.2.2.2.2.2.2.2.2.2.2.2.2.2.2.2.2.2.2.2.1 x.2.2.2.2.2.2.2.2.2.2.2.2.2.2.2.2.2.2.2.2.1 x.2.2.2.2.2.2.2.2.2.2.2.2.2.2.2.2.2.2.2.2.2.1 x.2.2.2.2.2.2.2.2.2.2.2.2.2.2.2.2.2.2.2.2.2.2.1 x.2.2.2.2.2.2.2.2.2.2.2.2.2.2.2.2.2.2.2.2.2.2.2.1 x.2.2.2.2.2.2.2.2.2.2.2.2.2.2.2.2.2.2.2.2.2.2.2.2.1 x.2.2.2.2.2.2.2.2.2.2.2.2.2.2.2.2.2.2.2.2.2.2.2.2.2.1 x.2.2.2.2.2.2.2.2.2.2.2.2.2.2.2.2.2.2.2.2.2.2.2.2.2.2.1 x.2.2.2.2.2.2.2.2.2.2.2.2.2.2.2.2.2.2.2.2.2.2.2.2.2.2.2.1 x.2.2.2.2.2.2.2.2.2.2.2.2.2.2.2.2.2.2.2.2.2.2.2.2.2.2.2.2.1 x.2.2.2.2.2.2.2.2.2.2.2.2.2.2.2.2.2.2.2.2.2.2.2.2.2.2.2.2.2.1 x.2.2.2.2.2.2.2.2.2.2.2.2.2.2.2.2.2.2.2.2.2.2.2.2.2.2.2.2.2.2.1 x.2.2.2.2.2.2.2.2.2.2.2.2.2.2.2.2.2.2.2.2.2.2.2.2.2.2.2.2.2.2.2.1 x.2.2.2.2.2.2.2.2.2.2.2.2.2.2.2.2.2.2.2.2.2.2.2.2.2.2.2.2.2.2.2.2.1 x.2.2.2.2.2.2.2.2.2.2.2.2.2.2.2.2.2.2.2.2.2.2.2.2.2.2.2.2.2.2.2.2.2.1 x.2.2.2.2.2.2.2.2.2.2.2.2.2.2.2.2.2.2.2.2.2.2.2.2.2.2.2.2.2.2.2.2.2.2.1 x.2.2.2.2.2.2.2.2.2.2.2.2.2.2.2.2.2.2.2.2.2.2.2.2.2.2.2.2.2.2.2.2.2.2.2.1 x.2.2.2.2.2.2.2.2.2.2.2.2.2.2.2.2.2.2.2.2.2.2.2.2.2.2.2.2.2.2.2.2.2.2.2.2
@[irreducible] noncomputable def law_w.w : World := law_w.e.1
@[irreducible] noncomputable def law_w.p : Program := law_w.e.2.1
@[irreducible] noncomputable def law_w.loose : List PySem.Str := law_w.e.2.2.1
@[irreducible] noncomputable def law_w.mean : ExcName → Option Value := law_w.e.2.2.2.1
@[irreducible] noncomputable def law_w.mg : PySem.Str → Option Value := law_w.e.2.2.2.2.1
@[irreducible] noncomputable def law_w.mb : PySem.Str → Option Value := law_w.e.2.2.2.2.2.1
@[irreducible] noncomputable def law_w.base : Heap := law_w.e.2.2.2.2.2.2.1
@[irreducible] noncomputable def law_w.G : Heap := law_w.e.2.2.2.2.2.2.2.1
@[irreducible] noncomputable def law_w.h₁ : Heap := law_w.e.2.2.2.2.2.2.2.2.1
@[irreducible] noncomputable def law_w.tk₁ : Nat := law_w.e.2.2.2.2.2.2.2.2.2.1
@[irreducible] noncomputable def law_w.s : Shared := law_w.e.2.2.2.2.2.2.2.2.2.2.1
@[irreducible] noncomputable def law_w.L : Addr := law_w.e.2.2.2.2.2.2.2.2.2.2.2.1
@[irreducible] noncomputable def law_w.fa : Addr := law_w.e.2.2.2.2.2.2.2.2.2.2.2.2.1
@[irreducible] noncomputable def law_w.cd : Value := law_w.e.2.2.2.2.2.2.2.2.2.2.2.2.2.1
@[irreducible] noncomputable def law_w.name : PySem.Str := law_w.e.2.2.2.2.2.2.2.2.2.2.2.2.2.2.1
@[irreducible] noncomputable def law_w.qual : PySem.Str := law_w.e.2.2.2.2.2.2.2.2.2.2.2.2.2.2.2.1
@[irreducible] noncomputable def law_w.params : Arguments := law_w.e.2.2.2.2.2.2.2.2.2.2.2.2.2.2.2.2.1
@[irreducible] noncomputable def law_w.body : List Stmt := law_w.e.2.2.2.2.2.2.2.2.2.2.2.2.2.2.2.2.2.1
@[irreducible] noncomputable def law_w.scope : Scope := law_w.e.2.2.2.2.2.2.2.2.2.2.2.2.2.2.2.2.2.2.1
@[irreducible] noncomputable def law_w.dV : Value := law_w.e.2.2.2.2.2.2.2.2.2.2.2.2.2.2.2.2.2.2.2.1
@[irreducible] noncomputable def law_w.kV : Value := law_w.e.2.2.2.2.2.2.2.2.2.2.2.2.2.2.2.2.2.2.2.2.1
@[irreducible] noncomputable def law_w.doc : Value := law_w.e.2.2.2.2.2.2.2.2.2.2.2.2.2.2.2.2.2.2.2.2.2.1
@[irreducible] noncomputable def law_w.pm : Value := law_w.e.2.2.2.2.2.2.2.2.2.2.2.2.2.2.2.2.2.2.2.2.2.2.1
@[irreducible] noncomputable def law_w.cdv : Value := law_w.e.2.2.2.2.2.2.2.2.2.2.2.2.2.2.2.2.2.2.2.2.2.2.2.1
@[irreducible] noncomputable def law_w.ct : Value := law_w.e.2.2.2.2.2.2.2.2.2.2.2.2.2.2.2.2.2.2.2.2.2.2.2.2.1
@[irreducible] noncomputable def law_w.oc : Value := law_w.e.2.2.2.2.2.2.2.2.2.2.2.2.2.2.2.2.2.2.2.2.2.2.2.2.2.1
@[irreducible] noncomputable def law_w.od : Option Addr := law_w.e.2.2.2.2.2.2.2.2.2.2.2.2.2.2.2.2.2.2.2.2.2.2.2.2.2.2.1
@[irreducible] noncomputable def law_w.an : Option Addr := law_w.e.2.2.2.2.2.2.2.2.2.2.2.2.2.2.2.2.2.2.2.2.2.2.2.2.2.2.2.1
@[irreducible] noncomputable def law_w.osl : Array (Option Value) := law_w.e.2.2.2.2.2.2.2.2.2.2.2.2.2.2.2.2.2.2.2.2.2.2.2.2.2.2.2.2.1
@[irreducible] noncomputable def law_w.o1 : Obj := law_w.e.2.2.2.2.2.2.2.2.2.2.2.2.2.2.2.2.2.2.2.2.2.2.2.2.2.2.2.2.2.1
@[irreducible] noncomputable def law_w.o2 : Obj := law_w.e.2.2.2.2.2.2.2.2.2.2.2.2.2.2.2.2.2.2.2.2.2.2.2.2.2.2.2.2.2.2.1
@[irreducible] noncomputable def law_w.o3 : Obj := law_w.e.2.2.2.2.2.2.2.2.2.2.2.2.2.2.2.2.2.2.2.2.2.2.2.2.2.2.2.2.2.2.2.1
@[irreducible] noncomputable def law_w.l : Addr := law_w.e.2.2.2.2.2.2.2.2.2.2.2.2.2.2.2.2.2.2.2.2.2.2.2.2.2.2.2.2.2.2.2.2.1
@[irreducible] noncomputable def law_w.vs : List Value := law_w.e.2.2.2.2.2.2.2.2.2.2.2.2.2.2.2.2.2.2.2.2.2.2.2.2.2.2.2.2.2.2.2.2.2.1
@[irreducible] noncomputable def law_w.ns : List Int := law_w.e.2.2.2.2.2.2.2.2.2.2.2.2.2.2.2.2.2.2.2.2.2.2.2.2.2.2.2.2.2.2.2.2.2.2.1
@[irreducible] noncomputable def law_w.Q : Flow → Shared → Prop := law_w.e.2.2.2.2.2.2.2.2.2.2.2.2.2.2.2.2.2.2.2.2.2.2.2.2.2.2.2.2.2.2.2.2.2.2.2.1
@[irreducible] noncomputable def law_w.E : Value → Shared → Prop := law_w.e.2.2.2.2.2.2.2.2.2.2.2.2.2.2.2.2.2.2.2.2.2.2.2.2.2.2.2.2.2.2.2.2.2.2.2.2
theorem law_w.core : law_w.S law_w.w law_w.p law_w.loose law_w.mean law_w.mg law_w.mb law_w.base law_w.G law_w.h₁ law_w.tk₁ law_w.s law_w.L law_w.fa law_w.cd law_w.name law_w.qual law_w.params law_w.body law_w.scope law_w.dV law_w.kV law_w.doc law_w.pm law_w.cdv law_w.ct law_w.oc law_w.od law_w.an law_w.osl law_w.o1 law_w.o2 law_w.o3 law_w.l law_w.vs law_w.ns law_w.Q law_w.E := by
  delta law_w.S
  intro m ho F hm N hd3 hd2 hd1 h61 hl hi hlen ret
  k_fill
  intro B X T
  k_dflt (refine' law_pick (C := fun name body scope => wpAny (model PySem.Challenge.rw_to0081_01.prog w) (callerA.deeper (envOfC name scope L fa cd)) (execs body (envOfC name scope L fa cd)) Q E { s with heap := h₁, toks := tk₁ }) ho ?k ?_; (case k => k_is))
  clear ho
  subst hm
  iterate 1 walk1
  refine comp_assign (cl := [(PySem.Str.ofString "script", L + 1)]) (by rfl) (by rfl) rfl (by decide) ?_
  iterate 26 walk1
  with_reducible rename Fr _ _ _ _ => F1
  refine (let mv1 := _; have Fv : Fr _ _ _ mv1 := F1; ?_)
  clear F1
  rename Fr _ _ _ mv1 => F1
  with_reducible rename News _ _ _ _ => N1
  have hz7 : ∃ us, News G L _ ((_, listO us 0) :: [(L + 1 + 1 + 1, o3), (L + 1 + 1, o2), (L + 1, o1), (61, tabObj #[]), (54, tabObj #[])]) ∧ us.length = 9 ∧ ∀ j v, us[j]? = some v → ∃ x tx, v = Value.int x tx := ⟨_, N1, rfl, fun _ _ h => nine_ints h⟩
  (refine ex1 hz7 fun us hz9 => ?_; refine and3 hz9 fun N1 hul hus => ?_; clear hz9)
  try clear hz7
  have hl63 : ns.length ≤ 1000 := by lia
  refine enum_list rfl ⟨_, (N1 _ (.head _)).1, rfl, _, rfl⟩ fun eI fp wr St Mid h2 W H => ?_
  (try dsimp only)
  refine craw_assignQ (fun j ys tl => tl = [] ∧ ys.length = j ∧ ∃ ms, IntsAre ys ms) (csrc_pair rfl F1 N1 W H lpt2 (by rw [hul, sizeLine_eq]; decide) rfl rfl rfl) (by decide) rfl rfl rfl ⟨rfl, rfl, [], .nil⟩ (fun _ _ _ h => Nat.le_of_eq h.2.1) ?turn1 ?fin1
  case turn1 =>
    intro j ys tl g C D h' tk' m m₁ hj hJ hg0 hgN hB F' N' hne
    (refine ex2 hB fun v0 v1 hz11 => ?_; refine and2 hz11 fun hpt hz10 => ?_; clear hz11)
    try clear hB
    obtain rfl := hz10
    have hz13 := lpt_val hpt
    (refine ex1 hz13 fun t1 hz15 => ?_; refine and2 hz15 fun hz14 hv => ?_; clear hz15)
    try clear hz13
    obtain rfl := hz14
    (rcases hJ with ⟨hz16, hyl, ms, hz17⟩)
    try clear hJ
    obtain rfl := hz16
    have hJ := hz17
    clear hz17
    have hz20 : ∃ x tx, v1 = .int x tx := hus _ _ hv
    (refine ex2 hz20 fun x tx hz21 => ?_)
    try clear hz20
    obtain rfl := hz21
    have hcg := hgN _ (.tail _ (.tail _ (.tail _ (.head _))))
    have Xg := X.keeps hg0
    have Tg := T.keeps hg0
    clear F1 N1 W H hpt
    refine forIn_nil ?_
    refine ite_tt ?_
    (try k_fold)
    (try dsimp only)
    iterate 15 walk1
    refine slice3_ints (s := ⟨_, _, _, _, _⟩) F' N' (hl.at fun o e => F'.keep _ _ (hg0 _ _ e)) hi (.int _ _) (.int _ _) (.int _ _) (by decide) hl63 fun D2 ws ms2 h3 F3 N3 l3 i3 => ?_
    clear F' N'
    iterate 3 walk1
    with_reducible rename Fr _ _ _ _ => F9
    refine (let mv2 := _; have Fv : Fr _ _ _ mv2 := F9; ?_)
    clear F9
    rename Fr _ _ _ mv2 => F9
    with_reducible rename News _ _ _ _ => N9
    exact cend F9 N9 (tl' := []) (fun q hq => .tail _ hq) hne ⟨rfl, len_eq1 hyl, _, hJ.append (.cons _ _ .nil)⟩
  case fin1 =>
    intro D1 h' tk' ys' tl
    intro hz23
    (rcases hz23 with ⟨hz24, hyl, ms, hJ⟩)
    try clear hz23
    obtain rfl := hz24
    intro F' N' lt' ne' _
    rw [hul] at hyl
    have hm9 : ms.length = 9 := hJ.length ▸ hyl
    have N2 := news_sub (l' := (D1, lst ys') :: (L + 1 + 1 + 1, o3) :: (L + 1 + 1, o2) :: (L + 1, o1) :: (61, tabObj #[]) :: (54, tabObj #[]) :: []) N' fun q hq => pick_mem (is := [0, 2, 3, 4, 5, 6]) hq
    have hD61 : 61 < D1 := lt' (61, tabObj #[]) (by simp)
    have hD1c : L + 1 + 1 + 1 < D1 := lt' (L + 1 + 1 + 1, o3) (by simp)
    have hz27 : ∃ x0, ms[0]? = some x0 := ⟨_, List.getElem?_eq_getElem (by lia)⟩
    (refine ex1 hz27 fun x0 hx0 => ?_)
    try clear hz27
    have hz28 := hJ.get 0 x0 hx0
    (refine ex1 hz28 fun t0 ht0 => ?_)
    try clear hz28
    have hz29 : ∃ x8, ms[8]? = some x8 := ⟨_, List.getElem?_eq_getElem (by lia)⟩
    (refine ex1 hz29 fun x8 hx8 => ?_)
    try clear hz29
    have hz30 := hJ.get 8 x8 hx8
    (refine ex1 hz30 fun t8 ht8 => ?_)
    try clear hz30
    have hz0 : (0 : Nat) < 2 ^ 60 := by decide
    clear F1 N1 W H N' ne' lt'
    dsimp only
    iterate 1 walk1
    refine comp_assign (cl := []) (by rfl) (by rfl) rfl (by decide) ?_
    iterate 17 walk1
    rw [Int.fmod_eq_emod_of_nonneg _ (show (0 : Int) ≤ 4 by decide)]
    refine slice2_ints (s := ⟨_, _, _, _, _⟩) F' N2 ⟨_, (N2 _ (.head _)).1, rfl, _, rfl⟩ hJ (by decide) (by lia) (by lia) fun D2 ws h3 F3 N3 l3 i3 => ?_
    have hz31 : ∃ src, IntsAre ws src ∧ 4 ≤ src.length ∧ src.length ≤ 7 := ⟨_, i3, by simp [hm9]; exact (len47 _).1, by simp [hm9]; exact (len47 _).2⟩
    (refine ex1 hz31 fun src hz33 => ?_; refine and3 hz33 fun hsrc hs4 hs7 => ?_; clear hz33)
    try clear hz31
    clear i3 F' N2
    refine iter_vals rfl ⟨_, (N3 _ (.head _)).1, rfl, _, rfl⟩ fun I o fp St eI W H => ?_
    (try dsimp only)
    refine craw_assignQ (fun j zs tl => tl = [] ∧ zs.length = j ∧ IntsAre zs ((src.map fun x : Int => (((x % 8).toNat : Nat) : Int)).take j)) (csrc_name F3 N3 W H (by rw [hsrc.length, sizeLine_eq]; lia) rfl rfl) (by decide) rfl rfl rfl ⟨rfl, rfl, .nil⟩ (fun _ _ _ h => Nat.le_of_eq h.2.1) ?turn2 ?fin2
    case turn2 =>
      intro j zs tl g C D h' tk' m m₁ hj hK hg0 hgN hB F' N' hne
      (refine ex1 hB fun v0 hz35 => ?_; refine and2 hz35 fun hv hz34 => ?_; clear hz35)
      try clear hB
      obtain rfl := hz34
      (refine and3 hK fun hz36 hzl hz37 => ?_)
      try clear hK
      obtain rfl := hz36
      have hK := hz37
      clear hz37
      have hz39 : ∃ x tx, src[j]? = some x ∧ v0 = .int x tx := by
        have hlt : j < src.length := hsrc.length ▸ hj
        obtain ⟨t, ht⟩ := hsrc.get j (src[j]) (by simp [hlt])
        rw [ht] at hv
        exact ⟨src[j], t, by simp [hlt], (Option.some.inj hv).symm⟩
      (refine ex2 hz39 fun x tx hz41 => ?_; refine and2 hz41 fun hx hz40 => ?_; clear hz41)
      try clear hz39
      obtain rfl := hz40
      have Xg := X.keeps hg0
      have Tg := T.keeps hg0
      clear F3 N3 W H hv
      refine forIn_nil ?_
      refine ite_tt ?_
      (try k_fold)
      (try dsimp only)
      k_steps
      refine cend0 F' N' hne ⟨rfl, len_eq1 hzl, ?_⟩
      rw [List.take_add_one, List.getElem?_map, hx, Int.fmod_eq_emod_of_nonneg _ (show (0 : Int) ≤ 8 by decide)]
      refine hK.append ?_
      have e8 : (((x % 8).toNat : Nat) : Int) = x % 8 := Int.toNat_of_nonneg (Int.emod_nonneg x (by decide))
      show IntsAre [_] [(((x % 8).toNat : Nat) : Int)]
      rw [e8]
      exact .cons _ _ .nil
    case fin2 =>
      intro Dc h' tk' zs tl
      intro hz43
      (refine and3 hz43 fun hz44 hzl hK => ?_)
      try clear hz43
      obtain rfl := hz44
      intro F' N' lt' ne' _
      rw [List.take_of_length_le (by rw [List.length_map]; exact Nat.le_of_eq hsrc.length.symm)] at hK
      have hz46 : ∃ cols : List Nat, IntsAre zs (cols.map fun c : Nat => (c : Int)) ∧ 4 ≤ cols.length ∧ cols.length ≤ 7 ∧ ∀ c ∈ cols, c < 8 :=
        ⟨src.map fun x => (x % 8).toNat, by rw [List.map_map]; exact hK, by simpa using hs4, by simpa using hs7, fun c hc => by obtain ⟨x, _, rfl⟩ := List.mem_map.mp hc; lia⟩
      (refine ex1 hz46 fun cols hz49 => ?_; refine and4 hz49 fun hcols hc4 hc7 hc8 => ?_; clear hz49)
      try clear hz46
      have N2 := news_sub (l' := (Dc, lst zs) :: (D1, lst ys') :: (L + 1 + 1 + 1, o3) :: (L + 1 + 1, o2) :: (L + 1, o1) :: (61, tabObj #[]) :: (54, tabObj #[]) :: []) N' fun q hq => pick_mem (is := [0, 2, 3, 4, 5, 6, 7]) hq
      have hDc61 : 61 < Dc := lt' (61, tabObj #[]) (by simp)
      have hDcc : L + 1 + 1 + 1 < Dc := lt' (L + 1 + 1 + 1, o3) (by simp)
      clear F3 N3 W H N' ne' lt' hsrc hs4 hs7 hK hzl l3 hx0 ht0
      dsimp only
      iterate 8 walk1
      refine ⟨X.keeps F'.keep, callE_sums B X T F' N2 ⟨_, (N2 _ (.head _)).1, rfl, _, rfl⟩ hcols (by simpa using hc7) (fun Ds kS vsS exS h4 tk4 F4 N4 hDs hPS sepS => ?_) rfl (Nat.le_of_ble_eq_true rfl) (Nat.le_of_ble_eq_true rfl)⟩
      (try dsimp only)
      clear F' N2
      iterate 10 walk1
      with_reducible rename Fr _ _ _ _ => F5
      refine (let mv3 := _; have Fv : Fr _ _ _ mv3 := F5; ?_)
      clear F5
      rename Fr _ _ _ mv3 => F5
      with_reducible rename News _ _ _ _ => N5
      refine ⟨X.keeps F5.keep, callE_least B X T F5 N5 ⟨_, (N5 _ (List.mem_append_right _ hDs)).1, rfl, _, rfl⟩ (hPS.heap fun q hq => (N5 _ (List.mem_append_right _ hq)).1) (by rw [sumsF_len]; exact (show 2 ^ _ ≤ 2 ^ 7 from Nat.pow_le_pow_right (by decide) (by simpa using hc7))) (fun dL oL kvL exL h6 tk6 F6 N6 hdL hkL hfL hloL sepL => ?_) rfl (Nat.le_of_ble_eq_true rfl) (Nat.le_of_ble_eq_true rfl)⟩
      (try dsimp only)
      clear F5 N5
      iterate 10 walk1
      with_reducible rename Fr _ _ _ _ => F7
      refine (let mv4 := _; have Fv : Fr _ _ _ mv4 := F7; ?_)
      clear F7
      rename Fr _ _ _ mv4 => F7
      with_reducible rename News _ _ _ _ => N7
      refine ⟨X.keeps F7.keep, callE_lead B X T F7 N7 ⟨_, (N7 _ (List.mem_append_left _ (List.mem_append_left _ (.head _)))).1, rfl, _, rfl⟩ hcols hc7 hc8 (fun xT dT lT uT tsT kT exT h8 tk8 F8 N8 hhT hST sepT => ?_) rfl (Nat.le_of_ble_eq_true rfl) (Nat.le_of_ble_eq_true rfl)⟩
      (try dsimp only)
      clear F7 N7
      have hz50 : ∃ ex, ex = exS ++ exL ++ exT := ⟨_, rfl⟩
      (refine ex1 hz50 fun ex hex => ?_)
      try clear hz50
      have iS : ∀ q ∈ exS, q ∈ ex := fun q hq => by rw [hex]; exact List.mem_append_left _ (List.mem_append_left _ hq)
      have iL : ∀ q ∈ exL, q ∈ ex := fun q hq => by rw [hex]; exact List.mem_append_left _ (List.mem_append_right _ hq)
      have iT : ∀ q ∈ exT, q ∈ ex := fun q hq => by rw [hex]; exact List.mem_append_right _ hq
      have sep : ∀ q ∈ [(Dc, lst zs), (D1, lst ys'), (L + 1 + 1 + 1, o3), (L + 1 + 1, o2), (L + 1, o1), (61, tabObj #[]), (54, tabObj #[])], ∀ r ∈ ex, q.1 ≠ r.1 := fun q hq r hr => by
        rw [hex] at hr
        rcases List.mem_append.mp hr with hr | hr
        · rcases List.mem_append.mp hr with hr | hr
          · exact sepS q hq r hr
          · exact sepL q (List.mem_append_left _ hq) r hr
        · exact sepT q (List.mem_append_left _ (List.mem_append_left _ hq)) r hr
      have N9 : News G L h8 ((xT, instObj 241 dT) :: (dT, dictOf [{ hash := PyData.keyHash w.params (PySem.Str.ofString "_headers"), key := .str (PySem.Str.ofString "_headers") uT, val := .ref lT }] 1) :: (lT, listO tsT kT) :: (Dc, lst zs) :: (D1, lst ys') :: (L + 1 + 1 + 1, o3) :: (L + 1 + 1, o2) :: (L + 1, o1) :: (61, tabObj #[]) :: (54, tabObj #[]) :: ex) := hex ▸ news_join N8 hhT
      have hDs' := iS _ hDs
      have hPS' := hPS.mono iS
      have hdL' := iL _ hdL
      have hST' := hST.mono iT
      have hhT' : ∀ q ∈ hdr w xT dT lT uT tsT kT, q ∈ ex := fun q hq => iT q (hhT q hq)
      clear N8 hDs hPS hdL hST hhT sepS sepL sepT iS iL iT hex
      have hok := okk_lead hc8 hc7 8
      have hts : tsT.length ≤ sizeLine := by rw [hST'.length]; exact Nat.le_trans hok.len (by rw [sizeLine_eq]; decide)
      iterate 8 walk1
      refine comp_eval (cl := []) (by rfl) rfl (by decide) ?_
      iterate 19 walk1
      with_reducible rename Fr _ _ _ _ => F1
      refine (let mv5 := _; have Fv : Fr _ _ _ mv5 := F1; ?_)
      clear F1
      rename Fr _ _ _ mv5 => F1
      with_reducible rename News _ _ _ _ => N1
      have hrow : ∀ r ∈ leadN cols 8, r.1 < 8 ∧ r.2.length ≤ 100 := fun r hr => ⟨(hok.2 r hr).1, Nat.le_trans (hok.2 r hr).2.2 (by decide)⟩
      refine iter_rows rfl ⟨_, (N1 _ (.head _)).1, rfl, _, rfl⟩ (hST'.heap fun q hq => (N1 _ (mem11 (mem10 hq))).1) fun I o fp St Mid eI W H => ?_
      (try clear F4 N4); (try clear F6 N6); (try clear F8); (try clear F')
      (try dsimp only)
      refine craw_eval (fun j ys tl => ys.length = j ∧ PIn tl ys (((leadN cols 8).take j).map rowF)) (csrc_pair rfl F1 N1 W H spt2 (by rw [sizeLine_eq]; have := hok.len; lia) rfl rfl rfl) (by decide) rfl ⟨rfl, .nil⟩ (fun _ _ _ h => Nat.le_of_eq h.1) ?turn3 ?fin3
      case turn3 =>
        intro j ys tl g C D h' tk' m m₁ hj hJ hg0 hgN hB F' N' hne
        (refine ex2 hB fun v0 v1 hz52 => ?_; refine and2 hz52 fun hpt hz51 => ?_; clear hz52)
        try clear hB
        obtain rfl := hz51
        have hz54 := spt_val hpt
        (refine ex4 hz54 fun n ls t1 u1 hz58 => ?_; refine and3 hz58 fun hpi hz55 hz56 => ?_; clear hz58)
        try clear hz54
        obtain rfl := hz55
        obtain rfl := hz56
        have hn8 : n < 8 := (hrow _ (List.mem_of_getElem? hpi)).1
        have hl100 : ls.length ≤ 1000000 := Nat.le_trans (hrow _ (List.mem_of_getElem? hpi)).2 (by decide)
        have Xg := X.keeps hg0
        have Tg := T.keeps hg0
        clear F1 N1 W H hpt
        refine forIn_nil ?_
        refine ite_tt ?_
        (try k_fold)
        (try dsimp only)
        have hDlt : D < h'.objs.size := Heap.lt_size (N' _ (.head _)).1
        k_steps
        with_reducible rename Fr _ _ _ _ => F9
        refine (let mv6 := _; have Fv : Fr _ _ _ mv6 := F9; ?_)
        clear F9
        rename Fr _ _ _ mv6 => F9
        with_reducible rename News _ _ _ _ => N9
        refine cend1 F9 N9 hne (Nat.ne_of_gt hDlt) ⟨by simp [hJ.1], ?_⟩
        rw [take_map_succ _ hpi]
        exact (hJ.2.mono fun q hq => .tail _ hq).snoc (.head _)
      case fin3 =>
        intro Dt h' tk' ys tl
        intro hz62
        (refine and2 hz62 fun hyl hJ => ?_)
        try clear hz62
        intro F' N' lt' ne'
        rw [List.take_length] at hJ
        replace hJ : PIn tl ys (rowsP cols) := hJ
        clear F1 N1 W H
        (try dsimp only)
        iterate 1 walk1
        have hrl : (rowsP cols).length ≤ 8 := by unfold rowsP; rw [List.length_map]; exact hok.len
        refine sorted_pairs F' N' ⟨_, (N' _ (.head _)).1, rfl, _, rfl⟩ (fun q hq => .tail _ (List.mem_append_right _ hq)) hJ (by lia) (rowsP_nd hok.1) fun Bt h3 vsB psB cB F3 N3 l3 hPB hpm hpw => ?_
        have hz63 : ∃ ex3, ex3 = (Bt, listO vsB cB) :: (xT, instObj 241 dT) :: (dT, dictOf [{ hash := PyData.keyHash w.params (PySem.Str.ofString "_headers"), key := .str (PySem.Str.ofString "_headers") uT, val := .ref lT }] 1) :: (lT, listO tsT kT) :: (Dc, lst zs) :: (D1, lst ys') :: (tl ++ ex) := ⟨_, rfl⟩
        (refine ex1 hz63 fun ex3 hex3 => ?_)
        try clear hz63
        have iT : ∀ q ∈ tl, q ∈ ex3 := fun q hq => by rw [hex3]; exact .tail _ (.tail _ (.tail _ (.tail _ (.tail _ (.tail _ (List.mem_append_left _ hq))))))
        have iX : ∀ q ∈ ex, q ∈ ex3 := fun q hq => by rw [hex3]; exact .tail _ (.tail _ (.tail _ (.tail _ (.tail _ (.tail _ (List.mem_append_right _ hq))))))
        have sepx : ∀ q ∈ [(L + 1 + 1 + 1, o3), (L + 1 + 1, o2), (61, tabObj #[]), (54, tabObj #[])], ∀ r ∈ ex3, r.1 ≠ q.1 := fun q hq r hr => by
          have hq7 : q ∈ [(Dc, lst zs), (D1, lst ys'), (L + 1 + 1 + 1, o3), (L + 1 + 1, o2), (L + 1, o1), (61, tabObj #[]), (54, tabObj #[])] := by
            exact pick_mem (is := [2, 3, 5, 6]) hq
          have hqL : q.1 ≤ L + 1 + 1 + 1 := by
            simp only [List.mem_cons, List.not_mem_nil, or_false] at hq
            rcases hq with h | h | h | h
            · rw [h]; exact Nat.le_refl _
            · rw [h]; exact Nat.le_succ _
            · rw [h]; exact Nat.le_trans (Nat.le_of_lt h61) (Nat.le_add_right L 3)
            · rw [h]; exact Nat.le_trans (Nat.le_of_lt (Nat.lt_trans (show 54 < 61 by decide) h61)) (Nat.le_add_right L 3)
          rw [hex3] at hr
          rcases List.mem_cons.mp hr with hr | hr
          · rw [hr]; exact Nat.ne_of_gt (l3 q (.tail _ (List.mem_append_left _ (.tail _ (.tail _ (.tail _ (.tail _ (List.mem_append_left ex hq7))))))))
          rcases List.mem_cons.mp hr with hr | hr
          · rw [hr]; exact Ne.symm (sep q hq7 _ (hhT' _ (.head _)))
          rcases List.mem_cons.mp hr with hr | hr
          · rw [hr]; exact Ne.symm (sep q hq7 _ (hhT' _ (.tail _ (.head _))))
          rcases List.mem_cons.mp hr with hr | hr
          · rw [hr]; exact Ne.symm (sep q hq7 _ (hhT' _ (.tail _ (.tail _ (.head _)))))
          rcases List.mem_cons.mp hr with hr | hr
          · rw [hr]; exact Nat.ne_of_gt (Nat.lt_of_le_of_lt hqL hDcc)
          rcases List.mem_cons.mp hr with hr | hr
          · rw [hr]; exact Nat.ne_of_gt (Nat.lt_of_le_of_lt hqL hD1c)
          rcases List.mem_append.mp hr with hr | hr
          · exact Ne.symm (ne' r hr q (.tail _ (.tail _ (.tail _ (.tail _ (List.mem_append_left ex hq7))))))
          · exact Ne.symm (sep q hq7 r hr)
        have N4 := news_sub (l' := (L + 1 + 1, o2) :: (L + 1 + 1 + 1, o3) :: (L + 1, o1) :: (61, tabObj #[]) :: (54, tabObj #[]) :: ex3) N3 fun q hq => ?hN4
        case hN4 =>
          rw [hex3] at hq
          refine pick_or (is := [9, 8, 10, 11, 12, 0, 3, 4, 5, 6, 7]) (t := tl ++ ex) hq fun h => ?_
          rcases List.mem_append.mp h with h | h
          · exact .tail _ (.tail _ (List.mem_append_right _ h))
          · exact .tail _ (.tail _ (List.mem_append_left _ (.tail _ (mem10 h))))
        have hPB2 := hPB.mono iT
        have hPS2 := hPS'.mono iX
        have hDs2 := iX _ hDs'
        have hdL2 := iX _ hdL'
        have hST2 := hST'.mono iX
        have hhT2 : ∀ q ∈ hdr w xT dT lT uT tsT kT, q ∈ ex3 := fun q hq => iX q (hhT' q hq)
        have hDcx : ∀ q ∈ hdr w xT dT lT uT tsT kT, Dc ≠ q.1 := fun q hq => sep (Dc, lst zs) (.head _) q (hhT' q hq)
        have hD12 : (D1, lst ys') ∈ ex3 := by rw [hex3]; exact .tail _ (.tail _ (.tail _ (.tail _ (.tail _ (.head _)))))
        have hDc2 : (Dc, lst zs) ∈ ex3 := by rw [hex3]; exact .tail _ (.tail _ (.tail _ (.tail _ (.head _))))
        have hBt2 : (Bt, listO vsB cB) ∈ ex3 := by rw [hex3]; exact .head _
        clear F' N' lt' ne' N3 l3 hPB hPS' hDs' hST' hdL' iT iX hex3 sep hJ hyl hhT'
        iterate 12 walk1
        with_reducible rename Fr _ _ _ _ => F5
        refine (let mv7 := _; have Fv : Fr _ _ _ mv7 := F5; ?_)
        clear F5
        rename Fr _ _ _ mv7 => F5
        with_reducible rename News _ _ _ _ => N5
        refine kdl_method (knd := PySem.intKind PySem.Challenge.rw_to0081_01.prog w) PySem.F.slot_dict_items PySem.F.type_dict_items N5 (mem5 hdL2) hkL ?_
        iterate 1 walk1
        refine kdx_view (knd := PySem.intKind PySem.Challenge.rw_to0081_01.prog w) F5 N5 (mem5 hdL2) hkL hloL fun Dv h5 F6 N6 l6 => ?_
        clear F5 N5
        iterate 1 walk1
        refine sorted_items (ps := leastF (sumsF (cols.map fun c : Nat => (c : Int)))) rfl F6 N6 (.head _) (.tail _ (mem5 hdL2)) hkL hfL (Nat.lt_of_le_of_lt (least_len8 hc8 hc7) (by decide)) least_nd fun Bl h7 tk7 vsl psl cl tups F7 N7 l7 n7 hPl hplm hplw hn7 => ?_
        clear F6 N6
        obtain rfl : psB = psl := sorted_uniq ((hpm.trans (least_rows hc8 hc7)).trans hplm.symm) hpw hplw
        refine ne_pairs N7 (.tail _ (List.mem_append_right _ (.tail _ (mem5 hBt2)))) hPB2 (fun q hq => .tail _ (List.mem_append_right _ (.tail _ (mem5 hq)))) (.head _) hPl (fun q hq => .tail _ (List.mem_append_left _ hq)) (by ke_room) ?_
        have N8 := news_sub (l' := (L + 1 + 1, o2) :: (L + 1 + 1 + 1, o3) :: (L + 1, o1) :: (61, tabObj #[]) :: (54, tabObj #[]) :: ex3) N7 fun q hq => .tail _ (List.mem_append_right _ (.tail _ hq))
        clear N7 hPl l6 l7 n7 hn7
        iterate 11 walk1
        refine comp_eval (cl := []) (by rfl) rfl (by decide) ?_
        iterate 7 walk1
        have hSn : (sumsF (cols.map fun c : Nat => (c : Int))).length = 2 ^ cols.length := by rw [sumsF_len, List.length_map]
        have h128 : 2 ^ cols.length ≤ 128 := Nat.pow_le_pow_right (n := 2) (by decide) hc7
        have hline : 128 ≤ sizeLine := by rw [sizeLine_eq]; decide
        have hz64 : ∃ S, S = sumsF (cols.map fun c : Nat => (c : Int)) := ⟨_, rfl⟩
        (refine ex1 hz64 fun S hS => ?_)
        try clear hz64
        rw [← hS] at hSn hPS2 hfL hplm
        have hvS : vsS.length ≤ sizeLine := by rw [hPS2.length, hSn]; exact Nat.le_trans h128 hline
        refine slice_from (s := ⟨_, _, _, _, _⟩) F7 N8 ⟨_, (N8 _ (mem5 hDs2)).1, rfl, _, rfl⟩ (by decide) hvS fun Dq hq F8 N9 l9 => ?_
        clear F7 N8
        have hd1l : (S.drop 1).length ≤ 128 := by rw [List.length_drop]; exact Nat.le_trans (Nat.sub_le _ _) (hSn.symm ▸ h128)
        refine iter_pairs rfl ⟨_, (N9 _ (.head _)).1, rfl, _, rfl⟩ ((hPS2.drop 1).heap fun q hq => (N9 _ (mem11 (mem5 hq))).1) fun I o fp St Mid eI W H => ?_
        (try dsimp only)
        refine craw_eval (fun j ys tl => tl = [] ∧ ys.length ≤ j ∧ IntsAre ys ((((S.drop 1).take j).filter fun p => decide (p.1 = 0)).map (·.2))) (csrc_pair rfl F8 N9 W H ppt2 (Nat.le_trans hd1l hline) rfl rfl rfl) (by decide) rfl ⟨rfl, Nat.le_refl _, .nil⟩ (fun _ _ _ h => h.2.1) ?turn4 ?fin4
        case turn4 =>
          intro j ys tl g C D h' tk' m m₁ hj hJ hg0 hgN hB F' N' hne
          (refine ex2 hB fun v0 v1 hz66 => ?_; refine and2 hz66 fun hpt hz65 => ?_; clear hz66)
          try clear hB
          obtain rfl := hz65
          have hz68 := ppt_ints hpt
          (refine ex4 hz68 fun x y t1 u1 hz72 => ?_; refine and3 hz72 fun hpi hz69 hz70 => ?_; clear hz72)
          try clear hz68
          obtain rfl := hz69
          obtain rfl := hz70
          (refine and3 hJ fun hz76 hyl hz77 => ?_)
          try clear hJ
          obtain rfl := hz76
          have hJ := hz77
          clear hz77
          have Xg := X.keeps hg0
          have Tg := T.keeps hg0
          clear F8 N9 W H hpt
          (try k_fold)
          (try dsimp only)
          refine wpAny_tests_one ?_
          k_steps
          · with_reducible rename _ = (0 : Int) => hx0
            exact cend0 F' N' hne ⟨rfl, len_le1 hyl, sift_yes hJ hpi (decide_eq_true hx0)⟩
          · with_reducible rename ¬_ = (0 : Int) => hx0
            exact cend0 F' N' hne ⟨rfl, Nat.le_succ_of_le hyl, sift_no hJ hpi (decide_eq_false hx0)⟩
        case fin4 =>
          intro Dm h' tk' zm tl
          intro hz79
          (refine and3 hz79 fun hz80 _ hJ => ?_)
          try clear hz79
          obtain rfl := hz80
          intro F' N' lt' ne'
          rw [List.take_length] at hJ
          clear F8 N9 W H ne' lt'
          (try dsimp only)
          iterate 1 walk1
          refine kso_min F' N' ⟨_, (N' _ (.head _)).1, rfl, _, rfl⟩ hJ (by rw [hS]; exact zeros_ne hc8 hc4) rfl fun h1 M tM tk1 F1 N1 hM hMm => ?_
          (try dsimp only)
          clear F' N'
          iterate 4 walk1
          have N2 := news_sub (l' := (L + 1 + 1, o2) :: (L + 1 + 1 + 1, o3) :: (L + 1, o1) :: (61, tabObj #[]) :: (54, tabObj #[]) :: ex3) N1 fun q hq => .tail _ (List.mem_append_left _ (.tail _ hq))
          have hc0 : ∀ q ∈ (L + 1, o1) :: (61, tabObj #[]) :: (54, tabObj #[]) :: ex3, q.1 ≠ L + 1 + 1 ∧ q.1 ≠ L + 1 + 1 + 1 := fun q hq => by
            have h54 : 54 < L := Nat.lt_trans (by decide) h61
            rcases List.mem_cons.mp hq with rfl | hq
            · exact ⟨Nat.ne_of_lt (Nat.lt_succ_self _), Nat.ne_of_lt (Nat.lt_add_of_pos_right (show 0 < 2 by decide))⟩
            rcases List.mem_cons.mp hq with rfl | hq
            · exact ⟨Nat.ne_of_lt (Nat.lt_of_lt_of_le h61 (Nat.le_add_right L 2)), Nat.ne_of_lt (Nat.lt_of_lt_of_le h61 (Nat.le_add_right L 3))⟩
            rcases List.mem_cons.mp hq with rfl | hq
            · exact ⟨Nat.ne_of_lt (Nat.lt_of_lt_of_le h54 (Nat.le_add_right L 2)), Nat.ne_of_lt (Nat.lt_of_lt_of_le h54 (Nat.le_add_right L 3))⟩
            · exact ⟨sepx _ (.tail _ (.head _)) q hq, sepx _ (.head _) q hq⟩
          refine storeX_C F1 N2 rfl (.head fun q hq => ?hq2) hd2 fun h2 o4 F2 N3 d4 => ?_
          case hq2 =>
            rcases List.mem_cons.mp hq with rfl | hq
            · exact Nat.ne_of_gt (Nat.lt_succ_self _)
            · exact (hc0 q hq).1
          clear F1 N1 N2
          obtain ⟨ts, d4⟩ : ∃ ts, o4.data = .cell (some (.int ((M - 1).fdiv 2) ts)) := ⟨_, d4⟩
          iterate 7 walk1
          refine comp_eval (cl := []) (by rfl) rfl (by decide) ?_
          iterate 1 walk1
          have hpl : psB.length ≤ 8 := by rw [hplm.length_eq, hS]; exact least_len8 hc8 hc7
          refine iter_pairs rfl ⟨_, (N3 _ (mem5 hBt2)).1, rfl, _, rfl⟩ (hPB2.heap fun q hq => (N3 _ (mem5 hq)).1) fun I o fp St Mid eI W H => ?_
          (try dsimp only)
          refine craw_eval (fun j ys tl => tl = [] ∧ ys.length ≤ j ∧ IntsAre ys (((psB.take j).filter fun _ => true).map (·.2))) (csrc_pair rfl F2 N3 W H ppt2 (Nat.le_trans hpl (Nat.le_trans (by decide) hline)) rfl rfl rfl) (by decide) rfl ⟨rfl, Nat.le_refl _, .nil⟩ (fun _ _ _ h => h.2.1) ?turn5 ?fin5
          case turn5 =>
            intro j ys tl g C D h' tk' m m₁ hj hJ hg0 hgN hB F' N' hne
            (refine ex2 hB fun v0 v1 hz83 => ?_; refine and2 hz83 fun hpt hz82 => ?_; clear hz83)
            try clear hB
            obtain rfl := hz82
            have hz85 := ppt_ints hpt
            (refine ex4 hz85 fun x y t1 u1 hz89 => ?_; refine and3 hz89 fun hpi hz86 hz87 => ?_; clear hz89)
            try clear hz85
            obtain rfl := hz86
            obtain rfl := hz87
            (refine and3 hJ fun hz93 hyl hz94 => ?_)
            try clear hJ
            obtain rfl := hz93
            have hJ := hz94
            clear hz94
            have Xg := X.keeps hg0
            have Tg := T.keeps hg0
            clear F2 N3 W H hpt
            refine forIn_nil ?_
            refine ite_tt ?_
            (try k_fold)
            (try dsimp only)
            k_steps
            exact cend0 F' N' hne ⟨rfl, len_le1 hyl, sift_yes hJ hpi rfl⟩
          case fin5 =>
            intro Df h' tk' zf tl
            intro hz96
            (refine and3 hz96 fun hz97 _ hJ => ?_)
            try clear hz96
            obtain rfl := hz97
            intro F' N' lt' ne'
            rw [List.take_length] at hJ
            clear F2 N3 W H ne' lt'
            (try dsimp only)
            iterate 1 walk1
            refine kso_max F' N' ⟨_, (N' _ (.head _)).1, rfl, _, rfl⟩ hJ (by rw [hS] at hplm; exact far_ne hc8 hc4 hc7 hplm) rfl fun h1 Xf tX tk1 F1 N1 hXf hXm => ?_
            (try dsimp only)
            clear F' N'
            iterate 7 walk1
            with_reducible rename Fr _ _ _ _ => F2
            refine (let mv8 := _; have Fv : Fr _ _ _ mv8 := F2; ?_)
            clear F2
            rename Fr _ _ _ mv8 => F2
            with_reducible rename News _ _ _ _ => N2
            have N3 := news_sub (l' := (L + 1 + 1, o4) :: (L + 1 + 1 + 1, o3) :: (L + 1, o1) :: (61, tabObj #[]) :: (54, tabObj #[]) :: ex3) N2 fun q hq => .tail _ (List.mem_append_left _ hq)
            clear N2
            iterate 5 walk1
            refine comp_eval (cl := []) (by rfl) rfl (by decide) ?_
            iterate 6 walk1
            refine ⟨X.keeps F2.keep, callE_sizes B X T F2 N3 ⟨_, (N3 _ (mem5 hDc2)).1, rfl, _, rfl⟩ hcols hc7 hc8 (fun Dz uz kz exZ h4 tk4 g4 F4 N4 hDz hiz hg4 sepZ => ?_) rfl (Nat.le_of_ble_eq_true rfl) (Nat.le_of_ble_eq_true rfl)⟩
            (try dsimp only)
            clear F2 N3
            have hz99 : ∃ Z, Z = sizesN cols 7 := ⟨_, rfl⟩
            (refine ex1 hz99 fun Z hZ => ?_)
            try clear hz99
            rw [← hZ] at hiz
            have hZl : Z.length = 7 := by rw [hZ]; simp [sizesN]
            refine iter_vals rfl ⟨_, (N4 _ (List.mem_append_right _ hDz)).1, rfl, _, rfl⟩ fun I o fp St eI W H => ?_
            (try dsimp only)
            refine craw_eval (fun j ys tl => tl = [] ∧ ys.length ≤ j ∧ IntsAre ys ((Z.take j).filter fun x => decide (0 < x))) (csrc_name F4 N4 W H (by rw [hiz.length, hZl]; exact Nat.le_trans (by decide) hline) rfl rfl) (by decide) rfl ⟨rfl, Nat.le_refl _, .nil⟩ (fun _ _ _ h => h.2.1) ?turn6 ?fin6
            case turn6 =>
              intro j ys tl g C D h' tk' m m₁ hj hJ hg0 hgN hB F' N' hne
              (refine ex1 hB fun v0 hz101 => ?_; refine and2 hz101 fun hv hz100 => ?_; clear hz101)
              try clear hB
              obtain rfl := hz100
              (refine and3 hJ fun hz102 hyl hz103 => ?_)
              try clear hJ
              obtain rfl := hz102
              have hJ := hz103
              clear hz103
              have hz105 : ∃ x tx, Z[j]? = some x ∧ v0 = .int x tx := by
                have hlt : j < Z.length := hiz.length ▸ hj
                obtain ⟨t, ht⟩ := hiz.get j (Z[j]) (by simp [hlt])
                rw [ht] at hv
                exact ⟨Z[j], t, by simp [hlt], (Option.some.inj hv).symm⟩
              (refine ex2 hz105 fun x tx hz107 => ?_; refine and2 hz107 fun hx hz106 => ?_; clear hz107)
              try clear hz105
              obtain rfl := hz106
              have Xg := X.keeps hg0
              have Tg := T.keeps hg0
              clear F4 N4 W H hv
              (try k_fold)
              (try dsimp only)
              refine wpAny_tests_one ?_
              k_steps
              · with_reducible rename (0 : Int) < _ => hx0
                exact cend0 F' N' hne ⟨rfl, len_le1 hyl, sieve_yes hJ hx (decide_eq_true hx0)⟩
              · with_reducible rename ¬(0 : Int) < _ => hx0
                exact cend0 F' N' hne ⟨rfl, Nat.le_succ_of_le hyl, sieve_no hJ hx (decide_eq_false hx0)⟩
            case fin6 =>
              intro Dk h' tk' zk tl
              intro hz109
              (refine and3 hz109 fun hz110 _ hJ => ?_)
              try clear hz109
              obtain rfl := hz110
              intro F' N' lt' ne'
              rw [hiz.length, List.take_length] at hJ
              clear F4 N4 W H ne' lt'
              (try dsimp only)
              iterate 1 walk1
              refine set_of rfl F' N' ⟨_, (N' _ (.head _)).1, rfl, _, rfl⟩ hJ (Nat.le_trans (List.length_filter_le _ _) (by lia)) fun Ks oK h1 tk1 F1 N1 hK => ?_
              clear F' N'
              iterate 1 walk1
              refine len_set N1 hK (Nat.le_trans (List.length_filter_le _ _) (by lia)) fun tl1 tk2 => ?_
              iterate 7 walk1
              with_reducible rename Fr _ _ _ _ => F2
              with_reducible rename News _ _ _ _ => N2
              have N3 := news_sub (l' := (L + 1 + 1, o4) :: (L + 1 + 1 + 1, o3) :: (L + 1, o1) :: (61, tabObj #[]) :: (54, tabObj #[]) :: ex3) N2 fun q hq => .tail _ (.tail _ (List.mem_append_left _ (List.mem_append_left _ hq)))
              clear N2
              have hz112 : ∃ K, K = (firstMet (fun i => (List.filter (fun x => decide (0 < x)) Z).getD i 0) (List.filter (fun x => decide (0 < x)) Z).length).length := ⟨_, rfl⟩
              (refine ex1 hz112 fun K hKd => ?_)
              try clear hz112
              rw [← hKd] at F2
              iterate 1 walk1
              refine comp_eval (cl := []) (by rfl) rfl (by decide) ?_
              iterate 1 walk1
              have hSl : S.length ≤ sizeLine := by rw [hSn]; exact Nat.le_trans h128 hline
              refine iter_pairs rfl ⟨_, (N3 _ (mem5 hDs2)).1, rfl, _, rfl⟩ (hPS2.heap fun q hq => (N3 _ (mem5 hq)).1) fun I o fp St Mid eI W H => ?_
              (try dsimp only)
              refine craw_eval (fun j ys tl => tl = [] ∧ ys.length ≤ j ∧ IntsAre ys (((S.take j).filter fun p => decide (p.1 = 0)).map (·.2))) (csrc_pair rfl F2 N3 W H ppt2 hSl rfl rfl rfl) (by decide) rfl ⟨rfl, Nat.le_refl _, .nil⟩ (fun _ _ _ h => h.2.1) ?turn7 ?fin7
              case turn7 =>
                intro j ys tl g C D h' tk' m m₁ hj hJ hg0 hgN hB F' N' hne
                (refine ex2 hB fun v0 v1 hz114 => ?_; refine and2 hz114 fun hpt hz113 => ?_; clear hz114)
                try clear hB
                obtain rfl := hz113
                have hz116 := ppt_ints hpt
                (refine ex4 hz116 fun x y t1 u1 hz120 => ?_; refine and3 hz120 fun hpi hz117 hz118 => ?_; clear hz120)
                try clear hz116
                obtain rfl := hz117
                obtain rfl := hz118
                (refine and3 hJ fun hz124 hyl hz125 => ?_)
                try clear hJ
                obtain rfl := hz124
                have hJ := hz125
                clear hz125
                have Xg := X.keeps hg0
                have Tg := T.keeps hg0
                clear F2 N3 W H hpt
                (try k_fold)
                (try dsimp only)
                refine wpAny_tests_one ?_
                k_steps
                · with_reducible rename _ = (0 : Int) => hx0
                  exact cend0 F' N' hne ⟨rfl, len_le1 hyl, sift_yes hJ hpi (decide_eq_true hx0)⟩
                · with_reducible rename ¬_ = (0 : Int) => hx0
                  exact cend0 F' N' hne ⟨rfl, Nat.le_succ_of_le hyl, sift_no hJ hpi (decide_eq_false hx0)⟩
              case fin7 =>
                intro Dh h' tk' zh tl
                intro hz127
                (refine and3 hz127 fun hz128 hzh hJ => ?_)
                try clear hz127
                obtain rfl := hz128
                intro F' N' lt' ne'
                rw [List.take_length] at hJ
                clear F2 N3 W H ne' lt'
                (try dsimp only)
                iterate 1 walk1
                refine len_list_of N' (.head _) (Nat.le_trans hzh hSl) hJ.length fun th tk2 => ?_
                iterate 7 walk1
                with_reducible rename Fr _ _ _ _ => F2
                refine (let mv10 := _; have Fv : Fr _ _ _ mv10 := F2; ?_)
                clear F2
                rename Fr _ _ _ mv10 => F2
                with_reducible rename News _ _ _ _ => N2
                have N3 := news_sub (l' := (L + 1 + 1, o4) :: (L + 1 + 1 + 1, o3) :: (L + 1, o1) :: (61, tabObj #[]) :: (54, tabObj #[]) :: ex3) N2 fun q hq => .tail _ (List.mem_append_left _ hq)
                clear N2
                iterate 1 walk1
                refine comp_eval (cl := [(PySem.Str.ofString "sure", L + 1 + 1)]) (by rfl) rfl (by decide) ?_
                iterate 1 walk1
                refine iter_pairs rfl ⟨_, (N3 _ (mem5 hDs2)).1, rfl, _, rfl⟩ (hPS2.heap fun q hq => (N3 _ (mem5 hq)).1) fun I o fp St Mid eI W H => ?_
                (try dsimp only)
                refine craw_eval (fun j ys tl => tl = [] ∧ ys.length ≤ j ∧ IntsAre ys (((S.take j).filter fun p => decide (p.2 ≤ (M - 1).fdiv 2)).map (·.2))) (csrc_pair rfl F2 N3 W H ppt2 hSl rfl rfl rfl) (by decide) rfl ⟨rfl, Nat.le_refl _, .nil⟩ (fun _ _ _ h => h.2.1) ?turn8 ?fin8
                case turn8 =>
                  intro j ys tl g C D h' tk' m m₁ hj hJ hg0 hgN hB F' N' hne
                  (refine ex2 hB fun v0 v1 hz131 => ?_; refine and2 hz131 fun hpt hz130 => ?_; clear hz131)
                  try clear hB
                  obtain rfl := hz130
                  have hz133 := ppt_ints hpt
                  (refine ex4 hz133 fun x y t1 u1 hz137 => ?_; refine and3 hz137 fun hpi hz134 hz135 => ?_; clear hz137)
                  try clear hz133
                  obtain rfl := hz134
                  obtain rfl := hz135
                  (refine and3 hJ fun hz141 hyl hz142 => ?_)
                  try clear hJ
                  obtain rfl := hz141
                  have hJ := hz142
                  clear hz142
                  have hcg := hgN _ (.head _)
                  have Xg := X.keeps hg0
                  have Tg := T.keeps hg0
                  clear F2 N3 W H hpt
                  (try k_fold)
                  (try dsimp only)
                  refine wpAny_tests_one ?_
                  k_steps
                  · with_reducible rename _ ≤ (M - 1).fdiv 2 => hx0
                    exact cend0 F' N' hne ⟨rfl, len_le1 hyl, sift_yes hJ hpi (decide_eq_true hx0)⟩
                  · with_reducible rename ¬_ ≤ (M - 1).fdiv 2 => hx0
                    exact cend0 F' N' hne ⟨rfl, Nat.le_succ_of_le hyl, sift_no hJ hpi (decide_eq_false hx0)⟩
                case fin8 =>
                  intro Db h' tk' zb tl
                  intro hz144
                  (refine and3 hz144 fun hz145 hzb hJ => ?_)
                  try clear hz144
                  obtain rfl := hz145
                  intro F' N' lt' ne'
                  rw [List.take_length] at hJ
                  clear F2 N3 W H ne' lt'
                  (try dsimp only)
                  iterate 1 walk1
                  refine len_list_of N' (.head _) (Nat.le_trans hzb hSl) hJ.length fun th tk2 => ?_
                  iterate 4 walk1
                  with_reducible rename Fr _ _ _ _ => F2
                  with_reducible rename News _ _ _ _ => N2
                  have N3 := news_sub (l' := (54, tabObj #[]) :: (61, tabObj #[]) :: (L + 1 + 1, o4) :: (L + 1 + 1 + 1, o3) :: (L + 1, o1) :: ex3) N2 fun q hq => pick_or (is := [5, 4, 1, 2, 3]) (t := ex3) hq fun h => .tail _ (List.mem_append_left _ (mem5 h))
                  clear N2
                  iterate 11 walk1
                  refine len_list_of N3 (.tail _ (.tail _ (.tail _ (.tail _ (.tail _ hDs2))))) hvS (hPS2.length.trans hSn) fun tn tk2 => ?_
                  have hz147 : ∃ b, b = (List.map (fun x : Int × Int => x.2) (List.filter (fun p => decide (p.2 ≤ (M - 1).fdiv 2)) S)).length := ⟨_, rfl⟩
                  (refine ex1 hz147 fun b hb => ?_)
                  try clear hz147
                  rw [← hb] at F2
                  have hz148 : 1 ≤ b ∧ b ≤ 8 := by rw [hS] at hM hMm hb; exact ball_range hc8 hc4 hc7 hM hMm hb
                  (refine and2 hz148 fun hb1 hb8 => ?_)
                  try clear hz148
                  have hsepI : ∀ q ∈ (L + 1 + 1, o4) :: (L + 1 + 1 + 1, o3) :: (L + 1, o1) :: ex3, q.1 ≠ 54 ∧ q.1 ≠ 61 := fun q hq => by
                    have h54 : 54 < L := Nat.lt_trans (by decide) h61
                    rcases List.mem_cons.mp hq with rfl | hq
                    · exact ⟨Nat.ne_of_gt (Nat.lt_of_lt_of_le h54 (Nat.le_add_right L 2)), Nat.ne_of_gt (Nat.lt_of_lt_of_le h61 (Nat.le_add_right L 2))⟩
                    rcases List.mem_cons.mp hq with rfl | hq
                    · exact ⟨Nat.ne_of_gt (Nat.lt_of_lt_of_le h54 (Nat.le_add_right L 3)), Nat.ne_of_gt (Nat.lt_of_lt_of_le h61 (Nat.le_add_right L 3))⟩
                    rcases List.mem_cons.mp hq with rfl | hq
                    · exact ⟨Nat.ne_of_gt (Nat.lt_of_lt_of_le h54 (Nat.le_add_right L 1)), Nat.ne_of_gt (Nat.lt_of_lt_of_le h61 (Nat.le_add_right L 1))⟩
                    · exact ⟨sepx (54, tabObj #[]) (by simp) q hq, sepx (61, tabObj #[]) (by simp) q hq⟩
                  iterate 3 walk1
                  refine ⟨X.keeps F2.keep, callE_idm B X T F2 N3 hsepI hc7 hb1 hb8 (fun h5 tk5 Di t1 t2 c' p54 exI F5 N5 hrec hc61 hexI => ?_) rfl (Nat.le_of_ble_eq_true rfl) (Nat.le_of_ble_eq_true rfl)⟩
                  (try dsimp only)
                  clear F2 N3
                  (try dsimp only)
                  iterate 8 walk1
                  with_reducible rename Fr _ _ _ _ => F2
                  refine (let mv12 := _; have Fv : Fr _ _ _ mv12 := F2; ?_)
                  clear F2
                  rename Fr _ _ _ mv12 => F2
                  with_reducible rename News _ _ _ _ => N2
                  have hz149 : ∃ pf, pf = (((2 ^ cols.length / b : Nat) : Int) == ((List.map (fun x : Int × Int => x.2) (List.filter (fun p => decide (p.1 = 0)) S)).length : Int) && ((2 ^ cols.length % b : Nat) : Int) == 0) := ⟨_, rfl⟩
                  (refine ex1 hz149 fun pf hpf => ?_)
                  try clear hz149
                  rw [← hpf]
                  have N3 := news_sub (l' := (L + 1 + 1, o4) :: (L + 1 + 1 + 1, o3) :: (L + 1, o1) :: (61, tabObj #[rawInt 51, rawInt 4, .ref c']) :: (54, tabObj p54) :: (ex3 ++ exI)) N2 fun q hq => pick_or (is := [4, 5, 6, 2, 3]) (t := ex3 ++ exI) hq fun h => .tail _ (.tail _ (mem5 h))
                  clear N2
                  have hz150 : (M - 1).fdiv 2 ≤ Xf ∧ Xf ≤ (K : Nat) ∧ ((M - 1).fdiv 2 == Xf) = pf ∧ ((M - 1).fdiv 2 == ((K : Nat) : Int)) = pf := by rw [hS] at hM hMm hb hpf hplm; exact law_num hc8 hc4 hc7 hplm hM hMm hXf hXm hZ hb hKd hpf
                  (refine and4 hz150 fun hsf hfk hpe1 hpe2 => ?_)
                  try clear hz150
                  have hcg := (N3 _ (.head _)).1
                  iterate 8 walk1
                  iterate 20 walk1
                  refine ite_no (by rw [hpe1]; exact bne_self_eq_false pf) ?_
                  iterate 8 walk1
                  rw [show (((M - 1).fdiv 2 == ((K : Nat) : Int)) != pf) = false by rw [hpe2]; exact bne_self_eq_false pf]
                  iterate 11 walk1
                  clear hcg
                  with_reducible rename Fr _ _ _ _ => F2
                  refine (let mv13 := _; have Fv : Fr _ _ _ mv13 := F2; ?_)
                  clear F2
                  rename Fr _ _ _ mv13 => F2
                  with_reducible rename News _ _ _ _ => N2
                  have iE : ∀ q ∈ ex3, q ∈ (L + 1 + 1, o4) :: (L + 1 + 1 + 1, o3) :: (L + 1, o1) :: (61, tabObj #[rawInt 51, rawInt 4, .ref c']) :: (54, tabObj p54) :: (ex3 ++ exI) := fun q hq => mem5 (List.mem_append_left _ hq)
                  have hz8 : (8 : Nat) < 2 ^ 60 := by decide
                  refine idx_list N2 (iE _ hD12) ht8 hz8 ?_
                  iterate 6 walk1
                  refine len_list_of N2 (iE _ hDs2) hvS (hPS2.length.trans hSn) fun tn2 tk3 => ?_
                  have hz153 : ∃ n2, n2 = 2 ^ cols.length := ⟨_, rfl⟩
                  (refine ex1 hz153 fun n2 hn2 => ?_)
                  try clear hz153
                  rw [← hn2]
                  have hn2p : 0 < n2 := by rw [hn2]; exact Nat.two_pow_pos _
                  iterate 1 walk1
                  rw [Int.fmod_eq_emod_of_nonneg _ (Int.natCast_nonneg n2)]
                  have hz154 : ∃ nb : Nat, x8 % (n2 : Int) = (nb : Int) ∧ nb < n2 := modn x8 hn2p
                  (refine ex1 hz154 fun nb hz155 => ?_; refine and2 hz155 fun hnb hnb2 => ?_; clear hz155)
                  try clear hz154
                  rw [hnb]
                  (try dsimp only)
                  have hcr := hrec _ F2.keep (fun q hq => (N2 _ (mem5 (List.mem_append_right _ hq))).1)
                  have hI3 : ∀ q ∈ exI, q.1 ≠ L + 1 + 1 + 1 := fun q hq => by
                    rw [hexI q hq]
                    exact code_off hcr (N2 _ (.tail _ (.head _))).1 (fun vs e => by rw [hd3] at e; cases e)
                  have N3 := news_sub (l' := (L + 1 + 1 + 1, o3) :: (L + 1 + 1, o4) :: (L + 1, o1) :: (61, tabObj #[rawInt 51, rawInt 4, .ref c']) :: (54, tabObj p54) :: (ex3 ++ exI)) N2 fun q hq => pick_or (is := [1, 0, 2, 3, 4]) (t := ex3 ++ exI) hq fun h => mem5 h
                  refine storeX_C F2 N3 rfl (.head fun q hq => ?hq3) hd3 fun h6 o5 F6 N6 d5 => ?_
                  case hq3 =>
                    rcases List.mem_cons.mp hq with rfl | hq
                    · exact Nat.ne_of_lt (Nat.lt_succ_self _)
                    rcases List.mem_cons.mp hq with rfl | hq
                    · exact (hc0 _ (.head _)).2
                    rcases List.mem_cons.mp hq with rfl | hq
                    · exact (hc0 (61, tabObj #[]) (.tail _ (.head _))).2
                    rcases List.mem_cons.mp hq with rfl | hq
                    · exact (hc0 (54, tabObj #[]) (.tail _ (.tail _ (.head _)))).2
                    rcases List.mem_append.mp hq with hq | hq
                    · exact (hc0 q (.tail _ (.tail _ (.tail _ hq)))).2
                    · exact hI3 q hq
                  obtain ⟨tN, d5⟩ : ∃ tN, o5.data = .cell (some (.int (nb : Nat) tN)) := ⟨_, d5⟩
                  clear F2 N2 N3 hcr hI3
                  (try dsimp only)
                  iterate 8 walk1
                  refine comp_eval (cl := [(PySem.Str.ofString "number", L + 1 + 1 + 1)]) (by rfl) rfl (by decide) ?_
                  iterate 15 walk1
                  refine len_list_of N6 (mem5 (List.mem_append_left _ hDc2)) (by rw [hcols.length, List.length_map]; exact Nat.le_trans hc7 (Nat.le_trans (by decide) hline)) (hcols.length.trans (List.length_map _)) fun tn3 tk4 => ?_
                  iterate 1 walk1
                  rw [abc_txt]
                  refine slice_ns (s := ⟨_, _, _, _, _⟩) F6 N6 (show cols.length ≤ [97, 98, 99, 100, 101, 102, 103].length from hc7) (by decide) fun h7 t7 tk7 F7 N7 => ?_
                  clear F6 N6
                  (try dsimp only)
                  iterate 1 walk1
                  refine enum_str rfl (abc_small _) fun eI fp wr St Mid h8 W H => ?_
                  (try dsimp only)
                  refine craw_eval (fun j ys tl => tl = [] ∧ ys.length = j ∧ TxtsAre ys ((List.range j).map fun i => [if (nb >>> i) &&& 1 = 0 then 97 + i else 65 + i])) (csrc_pair rfl F7 N7 W H ept2 (by rw [show (txt (List.take cols.length [97, 98, 99, 100, 101, 102, 103])).cps.size = (List.take cols.length [97, 98, 99, 100, 101, 102, 103]).length from txt_len _, List.length_take]; exact Nat.le_trans (Nat.min_le_left _ _) (Nat.le_trans hc7 (Nat.le_trans (by decide) hline))) rfl rfl rfl) (by decide) rfl ⟨rfl, rfl, .nil⟩ (fun _ _ _ h => Nat.le_of_eq h.2.1) ?turn9 ?fin9
                  case turn9 =>
                    intro j ys tl g C D h' tk' m m₁ hj hJ hg0 hgN hB F' N' hne
                    (refine ex2 hB fun v0 v1 hz157 => ?_; refine and2 hz157 fun hpt hz156 => ?_; clear hz157)
                    try clear hB
                    obtain rfl := hz156
                    have hz159 := ept_val hpt
                    (rcases hz159 with ⟨c, t1, u1, hc, hz160, hz161⟩)
                    try clear hz159
                    obtain rfl := hz160
                    obtain rfl := hz161
                    (refine and3 hJ fun hz166 hyl hz167 => ?_)
                    try clear hJ
                    obtain rfl := hz166
                    have hJ := hz167
                    clear hz167
                    have hz169 := abc_take hc
                    (refine and2 hz169 fun hz170 hj7 => ?_)
                    try clear hz169
                    obtain rfl := hz170
                    have hcg := hgN _ (.head _)
                    have hnb128 : nb < 128 := Nat.lt_of_lt_of_le hnb2 (hn2 ▸ h128)
                    have hc1 : 97 + j < 128 := by lia
                    have Xg := X.keeps hg0
                    have Tg := T.keeps hg0
                    clear F7 N7 W H hpt
                    refine forIn_nil ?_
                    refine ite_tt ?_
                    (try k_fold)
                    (try dsimp only)
                    iterate 10 walk1
                    rw [bit128 hnb128 hj7]
                    k_steps
                    · with_reducible rename _ ≠ (0 : Int) => hx0
                      refine cend0 F' N' hne ⟨rfl, len_eq1 hyl, word_step hJ ?_⟩
                      rw [if_neg (fun e => hx0 (by rw [e]; rfl))]
                      exact upC_abc hj7
                    · with_reducible rename _ = (0 : Int) => hx0
                      refine cend0 F' N' hne ⟨rfl, len_eq1 hyl, word_step hJ ?_⟩
                      rw [if_pos (by exact_mod_cast hx0)]
                  case fin9 =>
                    intro Dw h' tk' zw tl
                    intro hz171
                    (refine and3 hz171 fun hz172 hzw hJ => ?_)
                    try clear hz171
                    obtain rfl := hz172
                    intro F' N' lt' ne'
                    have ew : (txt (List.take cols.length [97, 98, 99, 100, 101, 102, 103])).cps.size = cols.length := by rw [show (txt (List.take cols.length [97, 98, 99, 100, 101, 102, 103])).cps.size = (List.take cols.length [97, 98, 99, 100, 101, 102, 103]).length from txt_len _, List.length_take]; exact Nat.min_eq_left hc7
                    rw [ew] at hJ
                    clear F7 N7 W H ne' lt'
                    iterate 1 walk1
                    refine join_at ⟨_, (N' _ (.head _)).1, rfl, _, rfl⟩ hJ (by simp; lia) (fun a ha => ?_) fun t1 k1 => ?_
                    · have hz174 := List.mem_map.mp ha
                      (refine ex1 hz174 fun i hz176 => ?_; refine and2 hz176 fun _ hz175 => ?_; clear hz176)
                      try clear hz174
                      obtain rfl := hz175
                      simp
                    rw [show ((List.range cols.length).map fun i => [if (nb >>> i) &&& 1 = 0 then 97 + i else 65 + i]).flatten = wordN nb cols.length from flatten_one _ _]
                    iterate 14 walk1
                    with_reducible rename Fr _ _ _ _ => F2
                    with_reducible rename News _ _ _ _ => N2
                    have N3 := news_sub (l' := (L + 1 + 1 + 1, o5) :: (L + 1 + 1, o4) :: (L + 1, o1) :: (61, tabObj #[rawInt 51, rawInt 4, .ref c']) :: (54, tabObj p54) :: (ex3 ++ exI)) N2 fun q hq => .tail _ (List.mem_append_left _ hq)
                    clear N2
                    have hcr := hrec _ F2.keep (fun q hq => (N3 _ (mem5 (List.mem_append_right _ hq))).1)
                    have hz177 : ∃ cs, cs = wordN nb cols.length := ⟨_, rfl⟩
                    (refine ex1 hz177 fun cs hcs => ?_)
                    try clear hz177
                    rw [← hcs] at F2
                    rw [← hcs]
                    have hcl : cs.length = cols.length := by rw [hcs]; simp [wordN]
                    have hab : ∀ i c, cs[i]? = some c → c = 97 + i ∨ c = 65 + i := fun i c e => by
                      rw [hcs] at e
                      unfold wordN at e
                      rw [List.getElem?_map] at e
                      cases q : (List.range cols.length)[i]? with
                      | none => rw [q] at e; cases e
                      | some k =>
                        have hk : k = i := by
                          have := List.getElem?_eq_some_iff.mp q
                          (rcases this with ⟨h1, h2⟩)
                          try clear this
                          simpa using h2.symm
                        rw [q] at e
                        simp only [Option.map_some, Option.some.injEq] at e
                        subst hk
                        split at e <;> lia
                    have hz178 := mended_ok hc8 hc7 (nb := nb) (hn2 ▸ hnb2) hcs
                    (rcases hz178 with ⟨ls, hfind, hls, hW, hz179, v2, y2, hs2, hh2, hl2⟩)
                    try clear hz178
                    (refine ex2 hz179 fun k1 y1 hz180 => ?_; refine and2 hz180 fun hk1 hs1 => ?_; clear hz180)
                    try clear hz179
                    rw [← hS] at hs1 hs2 hh2 hl2
                    refine ⟨X.keeps F2.keep, callE_mend B X T F2 N3 (ps := #[rawInt 51, rawInt 4, .ref c']) ⟨_, (N3 _ (mem5 (List.mem_append_left _ hDc2))).1, rfl, _, rfl⟩ ?lc hcols hc7 hc8 hcl hab ?hm (fun q hq => sepx (61, tabObj #[]) (by simp) q (hhT2 q hq)) (hST2.heap fun q hq => (N3 _ (mem5 (List.mem_append_left _ hq))).1) hok.len (fun r hr => (hrow r hr).1) ⟨c', rfl, ?hrec, hc61⟩ hfind hls (fun h9 tk9 g9 t9 hk9 hp61 hg9 => ?_) rfl (Nat.le_of_ble_eq_true rfl) (Nat.le_of_ble_eq_true rfl)⟩
                    (try dsimp only)
                    case lc =>
                      intro hq
                      rcases List.mem_cons.mp hq with e | hq
                      · exact sepx (61, tabObj #[]) (by simp) _ hDc2 e
                      · have hz190 := List.mem_map.mp hq
                        (refine ex1 hz190 fun q hz191 => ?_; refine and2 hz191 fun hq e => ?_; clear hz191)
                        try clear hz190
                        exact hDcx q hq e.symm
                    case hm =>
                      intro q hq
                      rcases List.mem_cons.mp hq with rfl | hq
                      · exact .tail _ (.tail _ (.tail _ (.head _)))
                      · exact mem5 (List.mem_append_left _ (hhT2 q hq))
                    case hrec =>
                      (refine ex4 hcr fun c2 oc ws t hz194 => ?_; refine and4 hz194 fun e1 e2 e3 e4 => ?_; clear hz194)
                      try clear hcr
                      have hc2 : c' = c2 := Value.ref.inj e1
                      refine ⟨c2, oc, ws, t, e1, hideAll_get _ e2 fun hq => ?_, e3, e4⟩
                      have hz198 := List.mem_map.mp hq
                      (refine ex1 hz198 fun q hz199 => ?_; refine and2 hz199 fun hq e => ?_; clear hz199)
                      try clear hz198
                      rcases List.mem_cons.mp hq with rfl | hq
                      · exact hc61 (hc2.trans e.symm)
                      · have hget := (N3 _ (mem5 (List.mem_append_left _ (hhT2 q hq)))).1
                        rw [e, e2] at hget
                        have ed := congrArg Obj.data (Option.some.inj hget)
                        rw [e3] at ed
                        simp only [List.mem_cons, List.not_mem_nil, or_false] at hq
                        rcases hq with h | h | h <;> (rw [h] at ed; cases ed)
                    have hL61 : L ≠ 61 := Nat.ne_of_gt h61
                    have n61 := N3 _ (.tail _ (.tail _ (.tail _ (.head _))))
                    have F4 : Fr G L h9 _ := ⟨F2.ns.at' fun o e => hk9 L o hL61 e, fun b o e => hk9 b o (fun q => by rw [q, n61.2.2] at e; cases e) (F2.keep b o e), F2.above⟩
                    (refine ex1 hp61 fun p61 hz200 => ?_)
                    try clear hp61
                    have hp61 := hz200
                    clear hz200
                    have N4 : News G L h9 ((L + 1 + 1 + 1, o5) :: (L + 1 + 1, o4) :: (L + 1, o1) :: (61, tabObj p61) :: (54, tabObj p54) :: (ex3 ++ exI)) := fun q hq => by
                      have mv : q.1 ≠ 61 → q ∈ (L + 1 + 1 + 1, o5) :: (L + 1 + 1, o4) :: (L + 1, o1) :: (61, tabObj #[rawInt 51, rawInt 4, .ref c']) :: (54, tabObj p54) :: (ex3 ++ exI) → h9.get? q.1 = some q.2 ∧ q.1 ≠ L ∧ G.get? q.1 = none := fun h1 h2 => ⟨hk9 _ _ h1 (N3 q h2).1, (N3 q h2).2⟩
                      rcases List.mem_cons.mp hq with h | hq
                      · exact mv (by rw [h]; exact (hsepI (L + 1 + 1 + 1, o3) (.tail _ (.head _))).2) (h ▸ .head _)
                      rcases List.mem_cons.mp hq with h | hq
                      · exact mv (by rw [h]; exact (hsepI (L + 1 + 1, o4) (.head _)).2) (h ▸ .tail _ (.head _))
                      rcases List.mem_cons.mp hq with h | hq
                      · exact mv (by rw [h]; exact (hsepI (L + 1, o1) (.tail _ (.tail _ (.head _)))).2) (h ▸ .tail _ (.tail _ (.head _)))
                      rcases List.mem_cons.mp hq with h | hq
                      · rw [h]; exact ⟨hp61, n61.2⟩
                      rcases List.mem_cons.mp hq with h | hq
                      · exact mv (by rw [h]; exact Nat.ne_of_lt (show 54 < 61 by decide)) (h ▸ .tail _ (.tail _ (.tail _ (.tail _ (.head _)))))
                      · refine mv ?_ (mem5 hq)
                        rcases List.mem_append.mp hq with hq | hq
                        · exact sepx (61, tabObj #[]) (by simp) q hq
                        · rw [hexI q hq]; exact hc61
                    clear F2 N3 hcr n61 hk9 hp61
                    (try dsimp only)
                    iterate 14 walk1
                    with_reducible rename Fr _ _ _ _ => F2
                    refine (let mv15 := _; have Fv : Fr _ _ _ mv15 := F2; ?_)
                    clear F2
                    rename Fr _ _ _ mv15 => F2
                    with_reducible rename News _ _ _ _ => N2

                    refine ⟨X.keeps F2.keep, callE_bits B X T F2 N2 (fun c hc => hW.b128 c (by simpa using hc)) (by show (mendF cs ls).toArray.size ≤ 7; rw [List.size_toArray, ← hW.len]; exact hW.l7) (fun h10 tk10 t10 F4 N4 => ?_) rfl (Nat.le_of_ble_eq_true rfl) (Nat.le_of_ble_eq_true rfl)⟩
                    (try dsimp only)
                    clear F2 N2
                    rw [hk1]
                    (try dsimp only)
                    have hz1 : k1 < 2 ^ 60 := Nat.lt_of_lt_of_le (List.getElem?_eq_some_iff.mp hs1).1 (by rw [hSn]; exact Nat.le_trans h128 (by decide))
                    have hz201 := hPS2.at hs1
                    (rcases hz201 with ⟨a1, ta1, ua1, hva1, ha1⟩)
                    try clear hz201
                    refine idx_list N4 (mem5 (List.mem_append_left _ hDs2)) hva1 hz1 ?_
                    have ha1m : (a1, tup2 (.int 0 ta1) (.int y1 ua1)) ∈ (L + 1 + 1 + 1, o5) :: (L + 1 + 1, o4) :: (L + 1, o1) :: (61, tabObj p61) :: (54, tabObj p54) :: (ex3 ++ exI) := mem5 (List.mem_append_left _ ha1)
                    have ha1h := (N4 _ ha1m).1
                    iterate 4 walk1
                    clear ha1m ha1h ha1 hva1
                    rw [show ((0 : Int) != 0) = false from rfl]
                    iterate 17 walk1
                    refine ⟨X.keeps F4.keep, callE_lev B X T F4 N4 hW (fun h11 tk11 t11 F6 N6 => ?_) rfl (Nat.le_of_ble_eq_true rfl) (Nat.le_of_ble_eq_true rfl)⟩
                    (try dsimp only)
                    clear F4 N4
                    (try dsimp only)
                    have hz205 := hPS2.at hs2
                    (rcases hz205 with ⟨a2, ta2, ua2, hva2, ha2⟩)
                    try clear hz205
                    have hcg := (N6 _ (.head _)).1
                    iterate 6 walk1
                    refine idx_list N6 (mem5 (List.mem_append_left _ hDs2)) hva2 (Nat.lt_of_lt_of_le hnb2 (by rw [hn2]; exact Nat.le_trans h128 (by decide))) ?_
                    have ha2m : (a2, tup2 (.int v2 ta2) (.int y2 ua2)) ∈ (L + 1 + 1 + 1, o5) :: (L + 1 + 1, o4) :: (L + 1, o1) :: (61, tabObj p61) :: (54, tabObj p54) :: (ex3 ++ exI) := mem5 (List.mem_append_left _ ha2)
                    have ha2h := (N6 _ ha2m).1
                    iterate 2 walk1
                    refine kdf_item (TabAt.ofObj hloL (N6 _ (mem5 (List.mem_append_left _ hdL2))).1 hkL (by assumption)) hh2 fun tv => ?_
                    rw [hl2]
                    clear ha2m ha2h ha2 hva2 hcg
                    iterate 1 walk1
                    rw [beq_self_eq_true]
                    exact ret _ _ _ _ _ _ _ F6 N6 (.tail _ (.tail _ (.tail _ (.head _)))) (.tail _ (.tail _ (.tail _ (.tail _ (.head _))))) (hg4.trans hg9)
theorem law_w {w : World} {p : Program} {loose : List PySem.Str} {mean : ExcName → Option Value} {mg mb : PySem.Str → Option Value} {base G h₁ : Heap} {tk₁ : Nat} {s : Shared} {L : Addr} {fa : Addr} {cd : Value} {name qual : PySem.Str} {params : Arguments} {body : List Stmt} {scope : Scope} {dV kV doc pm cdv ct oc : Value} {od an : Option Addr} {osl : Array (Option Value)} {m : PySem.Str → Option Value} {o1 o2 o3 : Obj} {l : Addr} {vs : List Value} {ns : List Int} {Q : Flow → Shared → Prop} {E : Value → Shared → Prop} (ho : (hd.heap_1 w.params).lookup 286 = some ⟨oc, od, .func (fnOf name qual params body scope dV kV doc pm an cdv ct), osl⟩) (F : Fr G L h₁ m) (hm : m = fun _ => none) (N : News G L h₁ [(L + 1 + 1 + 1, o3), (L + 1 + 1, o2), (L + 1, o1), (61, tabObj #[]), (54, tabObj #[])]) (hd3 : o3.data = .cell none) (hd2 : o2.data = .cell none) (hd1 : o1.data = .cell (some (.ref l))) (h61 : 61 < L) (hl : G.IsList l vs.toArray) (hi : IntsAre vs ns) (hlen : ns.length ≤ 63) (ret : ∀ h' tk' g' news' m' p61 p54, Fr G L h' m' → News G L h' news' → (61, tabObj p61) ∈ news' → (54, tabObj p54) ∈ news' → GFin s.gens g' → Q (.ret (.bool true)) { s with heap := h', gens := g', toks := tk' }) : Below callerA base [] G → (hd.heap_1 w.params).In G → Top p loose mean mg mb G →
    wpAny (model PySem.Challenge.rw_to0081_01.prog w) (callerA.deeper (envOfC name scope L fa cd)) (execs body (envOfC name scope L fa cd)) Q E { s with heap := h₁, toks := tk₁ } := hil_ (Q := fun x => law_w.S x.1 x.2.1 x.2.2.1 x.2.2.2.1 x.2.2.2.2.1 x.2.2.2.2.2.1 x.2.2.2.2.2.2.1 x.2.2.2.2.2.2.2.1 x.2.2.2.2.2.2.2.2.1 x.2.2.2.2.2.2.2.2.2.1 x.2.2.2.2.2.2.2.2.2.2.1 x.2.2.2.2.2.2.2.2.2.2.2.1 x.2.2.2.2.2.2.2.2.2.2.2.2.1 x.2.2.2.2.2.2.2.2.2.2.2.2.2.1 x.2.2.2.2.2.2.2.2.2.2.2.2.2.2.1 x.2.2.2.2.2.2.2.2.2.2.2.2.2.2.2.1 x.2.2.2.2.2.2.2.2.2.2.2.2.2.2.2.2.1 x.2.2.2.2.2.2.2.2.2.2.2.2.2.2.2.2.2.1 x.2.2.2.2.2.2.2.2.2.2.2.2.2.2.2.2.2.2.1 x.2.2.2.2.2.2.2.2.2.2.2.2.2.2.2.2.2.2.2.1 x.2.2.2.2.2.2.2.2.2.2.2.2.2.2.2.2.2.2.2.2.1 x.2.2.2.2.2.2.2.2.2.2.2.2.2.2.2.2.2.2.2.2.2.1 x.2.2.2.2.2.2.2.2.2.2.2.2.2.2.2.2.2.2.2.2.2.2.1 x.2.2.2.2.2.2.2.2.2.2.2.2.2.2.2.2.2.2.2.2.2.2.2.1 x.2.2.2.2.2.2.2.2.2.2.2.2.2.2.2.2.2.2.2.2.2.2.2.2.1 x.2.2.2.2.2.2.2.2.2.2.2.2.2.2.2.2.2.2.2.2.2.2.2.2.2.1 x.2.2.2.2.2.2.2.2.2.2.2.2.2.2.2.2.2.2.2.2.2.2.2.2.2.2.1 x.2.2.2.2.2.2.2.2.2.2.2.2.2.2.2.2.2.2.2.2.2.2.2.2.2.2.2.1 x.2.2.2.2.2.2.2.2.2.2.2.2.2.2.2.2.2.2.2.2.2.2.2.2.2.2.2.2.1 x.2.2.2.2.2.2.2.2.2.2.2.2.2.2.2.2.2.2.2.2.2.2.2.2.2.2.2.2.2.1 x.2.2.2.2.2.2.2.2.2.2.2.2.2.2.2.2.2.2.2.2.2.2.2.2.2.2.2.2.2.2.1 x.2.2.2.2.2.2.2.2.2.2.2.2.2.2.2.2.2.2.2.2.2.2.2.2.2.2.2.2.2.2.2.1 x.2.2.2.2.2.2.2.2.2.2.2.2.2.2.2.2.2.2.2.2.2.2.2.2.2.2.2.2.2.2.2.2.1 x.2.2.2.2.2.2.2.2.2.2.2.2.2.2.2.2.2.2.2.2.2.2.2.2.2.2.2.2.2.2.2.2.2.1 x.2.2.2.2.2.2.2.2.2.2.2.2.2.2.2.2.2.2.2.2.2.2.2.2.2.2.2.2.2.2.2.2.2.2.1 x.2.2.2.2.2.2.2.2.2.2.2.2.2.2.2.2.2.2.2.2.2.2.2.2.2.2.2.2.2.2.2.2.2.2.2.1 x.2.2.2.2.2.2.2.2.2.2.2.2.2.2.2.2.2.2.2.2.2.2.2.2.2.2.2.2.2.2.2.2.2.2.2.2) (by with_unfolding_all exact law_w.core) (w, p, loose, mean, mg, mb, base, G, h₁, tk₁, s, L, fa, cd, name, qual, params, body, scope, dV, kV, doc, pm, cdv, ct, oc, od, an, osl, o1, o2, o3, l, vs, ns, Q, E) m ho F hm N hd3 hd2 hd1 h61 hl hi hlen ret

end
end Mine
open PySem PySem.W PyProof.Rows
namespace Mine
def fin.tw10007411396671696613 : Nat := 0
def fin.tw1012361349325877821 : Nat := 0
def fin.tw10147658903529517814 : Nat := 0
def fin.tw10242451874928486539 : Nat := 0
def fin.tw10511823565363050587 : Nat := 0
def fin.tw10580198807604790814 : Nat := 0
def fin.tw10599938827571368224 : Nat := 0
def fin.tw10696652717036330658 : Nat := 0
def fin.tw10782327089294195420 : Nat := 0
def fin.tw10818889477481085253 : Nat := 0
def fin.tw10852849658779182186 : Nat := 0
def fin.tw10874316729293906858 : Nat := 0
def fin.tw10936777179133785780 : Nat := 0
def fin.tw11039862389202566683 : Nat := 0
def fin.tw11079828417688620724 : Nat := 0
def fin.tw11112386831996348380 : Nat := 0
def fin.tw11154830654865731599 : Nat := 0
def fin.tw11273041486466551846 : Nat := 0
def fin.tw11293339424137598113 : Nat := 0
def fin.tw11298980531735778240 : Nat := 0
def fin.tw11336253725339858928 : Nat := 0
def fin.tw11414674201277728305 : Nat := 0
def fin.tw11466478281803324712 : Nat := 0
def fin.tw11587955951900863698 : Nat := 0
def fin.tw11607805686811502034 : Nat := 0
def fin.tw11615019562542576733 : Nat := 0
def fin.tw11897717083992391400 : Nat := 0
def fin.tw12105171945263650130 : Nat := 0
def fin.tw12135189313929291683 : Nat := 0
def fin.tw12141802397888321627 : Nat := 0
def fin.tw12284014389350100970 : Nat := 0
def fin.tw12291753297600562012 : Nat := 0
def fin.tw12355744275394475900 : Nat := 0
def fin.tw12464766053444552404 : Nat := 0
def fin.tw12550770813317053977 : Nat := 0
def fin.tw12580147959424536363 : Nat := 0
def fin.tw12629903358213643309 : Nat := 0
def fin.tw12649782002744950493 : Nat := 0
def fin.tw12669758225909598566 : Nat := 0
def fin.tw12688315429622103753 : Nat := 0
def fin.tw12696600883282566439 : Nat := 0
def fin.tw12711679700452659978 : Nat := 0
def fin.tw12772533384760812023 : Nat := 0
def fin.tw12876116671307685997 : Nat := 0
def fin.tw12962497063298326498 : Nat := 0
def fin.tw12977279227502587607 : Nat := 0
def fin.tw12981369473037909858 : Nat := 0
def fin.tw13021059552284102479 : Nat := 0
def fin.tw13162651487661262736 : Nat := 0
def fin.tw13177410634674063896 : Nat := 0
def fin.tw13246099349013045253 : Nat := 0
def fin.tw13294311002278339166 : Nat := 0
def fin.tw13360279666012451719 : Nat := 0
def fin.tw13516622038369049944 : Nat := 0
def fin.tw13724452099449386491 : Nat := 0
def fin.tw13790858721211988464 : Nat := 0
def fin.tw13815853411582834384 : Nat := 0
def fin.tw13898374239775968522 : Nat := 0
def fin.tw13925877587632400325 : Nat := 0
def fin.tw13929302177132474383 : Nat := 0
def fin.tw1397303283331804279 : Nat := 0
def fin.tw1405897622057794425 : Nat := 0
def fin.tw14139026862911339306 : Nat := 0
def fin.tw1422313219903470601 : Nat := 0
def fin.tw14333544728242365436 : Nat := 0
def fin.tw14347400895652799225 : Nat := 0
def fin.tw14497727239971306367 : Nat := 0
def fin.tw1450881378762983150 : Nat := 0
def fin.tw14517287926952318261 : Nat := 0
def fin.tw14541005305830221311 : Nat := 0
def fin.tw14568449535678555946 : Nat := 0
def fin.tw14574801432027512755 : Nat := 0
def fin.tw14578271805448956485 : Nat := 0
def fin.tw1463102588140003219 : Nat := 0
def fin.tw14679806638718605512 : Nat := 0
def fin.tw14856888987745899463 : Nat := 0
def fin.tw15144710454662140524 : Nat := 0
def fin.tw15309079848183770524 : Nat := 0
def fin.tw15344004072050561172 : Nat := 0
def fin.tw15373703851562958014 : Nat := 0
def fin.tw15399907426655090358 : Nat := 0
def fin.tw1544503264643628384 : Nat := 0
def fin.tw15523922138108190246 : Nat := 0
def fin.tw15533503492667675913 : Nat := 0
def fin.tw15566928917628492161 : Nat := 0
def fin.tw1560641971993327685 : Nat := 0
def fin.tw15621619335703214680 : Nat := 0
def fin.tw15688172546075569117 : Nat := 0
def fin.tw15815952407149668801 : Nat := 0
def fin.tw15989303212955285315 : Nat := 0
def fin.tw16013192336732917361 : Nat := 0
def fin.tw16026056153885608764 : Nat := 0
def fin.tw16205109500356779066 : Nat := 0
def fin.tw1625080806587739848 : Nat := 0
def fin.tw16275787546110486726 : Nat := 0
def fin.tw16285329926789087883 : Nat := 0
def fin.tw1635022588487117616 : Nat := 0
def fin.tw16496857829328116044 : Nat := 0
def fin.tw16530489862217454893 : Nat := 0
def fin.tw16656299143469825513 : Nat := 0
def fin.tw16893584675192474605 : Nat := 0
def fin.tw16934629359412608497 : Nat := 0
def fin.tw16958243865122950064 : Nat := 0
def fin.tw17123178472405020103 : Nat := 0
def fin.tw17132207802985990308 : Nat := 0
def fin.tw17260493314774615805 : Nat := 0
def fin.tw1740874975398060312 : Nat := 0
def fin.tw17416127249078093707 : Nat := 0
def fin.tw17430205856086898164 : Nat := 0
def fin.tw17449020081951674710 : Nat := 0
def fin.tw17570709534508481193 : Nat := 0
def fin.tw17637551073024348614 : Nat := 0
def fin.tw17656766251404061198 : Nat := 0
def fin.tw17662344363894024548 : Nat := 0
def fin.tw17717364068325071970 : Nat := 0
def fin.tw17719728818120068181 : Nat := 0
def fin.tw17801579834951734752 : Nat := 0
def fin.tw17861066769153400444 : Nat := 0
def fin.tw17933470926392208243 : Nat := 0
def fin.tw17963964198891936676 : Nat := 0
def fin.tw18082680734076937219 : Nat := 0
def fin.tw18164189302063226315 : Nat := 0
def fin.tw18186706949227917456 : Nat := 0
def fin.tw1819255440876223710 : Nat := 0
def fin.tw18255404467826089762 : Nat := 0
def fin.tw1828535557547266763 : Nat := 0
def fin.tw18295790063311454060 : Nat := 0
def fin.tw1976505206021243879 : Nat := 0
def fin.tw2086631506510373192 : Nat := 0
def fin.tw228799423537328835 : Nat := 0
def fin.tw2316539691658765527 : Nat := 0
def fin.tw2321816554428607280 : Nat := 0
def fin.tw2367325634123391141 : Nat := 0
def fin.tw2415902012162501839 : Nat := 0
def fin.tw2462912638960843985 : Nat := 0
def fin.tw2617349483901765261 : Nat := 0
def fin.tw2866121171748074186 : Nat := 0
def fin.tw2976117146107443816 : Nat := 0
def fin.tw3002321193647473803 : Nat := 0
def fin.tw3029852977388229646 : Nat := 0
def fin.tw3105451386036433885 : Nat := 0
def fin.tw3112429581023547943 : Nat := 0
def fin.tw3263211703599914710 : Nat := 0
def fin.tw3343445320678177929 : Nat := 0
def fin.tw3404873503106905745 : Nat := 0
def fin.tw3459265974087741279 : Nat := 0
def fin.tw3506512066687448480 : Nat := 0
def fin.tw357486453476387696 : Nat := 0
def fin.tw3598329298470268980 : Nat := 0
def fin.tw3599858809825778643 : Nat := 0
def fin.tw3683778510129048087 : Nat := 0
def fin.tw3767311804947220896 : Nat := 0
def fin.tw3780939710592286428 : Nat := 0
def fin.tw3812028171767442716 : Nat := 0
def fin.tw3857263333814641470 : Nat := 0
def fin.tw3955986520655104412 : Nat := 0
def fin.tw3998398428148030388 : Nat := 0
def fin.tw4162185377826839926 : Nat := 0
def fin.tw4170516301191304579 : Nat := 0
def fin.tw4171678462856256454 : Nat := 0
def fin.tw4209717502836232480 : Nat := 0
def fin.tw4218790737952374519 : Nat := 0
def fin.tw4265850918314828415 : Nat := 0
def fin.tw428092273266315144 : Nat := 0
def fin.tw4329306826757983850 : Nat := 0
def fin.tw4570111826955561243 : Nat := 0
def fin.tw4588413851689716618 : Nat := 0
def fin.tw4640724917100965312 : Nat := 0
def fin.tw4684940682943077961 : Nat := 0
def fin.tw4719063310657182621 : Nat := 0
def fin.tw4759752924163587094 : Nat := 0
def fin.tw4785532116021230833 : Nat := 0
def fin.tw484438559230344658 : Nat := 0
def fin.tw4868334931027891882 : Nat := 0
def fin.tw4878226113927451544 : Nat := 0
def fin.tw4879674094562380441 : Nat := 0
def fin.tw4898026214463823928 : Nat := 0
def fin.tw4928979718650693569 : Nat := 0
def fin.tw5011121235533021005 : Nat := 0
def fin.tw5045657052860052415 : Nat := 0
def fin.tw5073790198343104882 : Nat := 0
def fin.tw5102460946473063141 : Nat := 0
def fin.tw5227809002895711924 : Nat := 0
def fin.tw5320702786494000081 : Nat := 0
def fin.tw5402249366112354979 : Nat := 0
def fin.tw5678346346211369953 : Nat := 0
def fin.tw5776136370200156792 : Nat := 0
def fin.tw5805905742469029177 : Nat := 0
def fin.tw5863258528049689039 : Nat := 0
def fin.tw5897612983314593646 : Nat := 0
def fin.tw5901363791540438844 : Nat := 0
def fin.tw6081921254191324426 : Nat := 0
def fin.tw612862322836996645 : Nat := 0
def fin.tw6144012678527597917 : Nat := 0
def fin.tw6207176494656529804 : Nat := 0
def fin.tw6232080684201472732 : Nat := 0
def fin.tw6262540009607760666 : Nat := 0
def fin.tw6295955727852119378 : Nat := 0
def fin.tw6303907929938155814 : Nat := 0
def fin.tw6323506392446703087 : Nat := 0
def fin.tw6341822008880759003 : Nat := 0
def fin.tw6381419901266130222 : Nat := 0
def fin.tw6435670951450185984 : Nat := 0
def fin.tw6449190631224713292 : Nat := 0
def fin.tw6455845175183424153 : Nat := 0
def fin.tw6474043946942992101 : Nat := 0
def fin.tw6515953530934532768 : Nat := 0
def fin.tw6531376189190222733 : Nat := 0
def fin.tw6567050819087999508 : Nat := 0
def fin.tw6656226111208285661 : Nat := 0
def fin.tw6667815254911646788 : Nat := 0
def fin.tw670465573061467203 : Nat := 0
def fin.tw6718411051458867188 : Nat := 0
def fin.tw6766378078585498003 : Nat := 0
def fin.tw6766580051018981234 : Nat := 0
def fin.tw6846200578177281708 : Nat := 0
def fin.tw6878024787957991413 : Nat := 0
def fin.tw7055459427971326715 : Nat := 0
def fin.tw7249652514872940865 : Nat := 0
def fin.tw7369631188824622823 : Nat := 0
def fin.tw7380833856163905736 : Nat := 0
def fin.tw7451905468542833597 : Nat := 0
def fin.tw7468727024169554154 : Nat := 0
def fin.tw7470013935711676318 : Nat := 0
def fin.tw7555844199166984167 : Nat := 0
def fin.tw7613857476909055813 : Nat := 0
def fin.tw7675655780812522254 : Nat := 0
def fin.tw7684487725183542926 : Nat := 0
def fin.tw7845872953664198349 : Nat := 0
def fin.tw7995362448368537469 : Nat := 0
def fin.tw8018989035897545986 : Nat := 0
def fin.tw8119881530291889089 : Nat := 0
def fin.tw8269367382603917829 : Nat := 0
def fin.tw8330952907988395303 : Nat := 0
def fin.tw8352470293576582857 : Nat := 0
def fin.tw8383268338085895543 : Nat := 0
def fin.tw8569027658895312972 : Nat := 0
def fin.tw857469055436470443 : Nat := 0
def fin.tw8577089030196625639 : Nat := 0
def fin.tw8643116662766533202 : Nat := 0
def fin.tw876206183137641144 : Nat := 0
def fin.tw8787514255330546292 : Nat := 0
def fin.tw8801175099496975769 : Nat := 0
def fin.tw891787732878383699 : Nat := 0
def fin.tw8947099994592609211 : Nat := 0
def fin.tw895571856199123645 : Nat := 0
def fin.tw9001875181463519149 : Nat := 0
def fin.tw9113340658982188547 : Nat := 0
def fin.tw9247658263007524724 : Nat := 0
def fin.tw9357874355931990178 : Nat := 0
def fin.tw9361326884244611343 : Nat := 0
def fin.tw9363291351745731410 : Nat := 0
def fin.tw9544026089342320630 : Nat := 0
def fin.tw9610726530385051774 : Nat := 0
def fin.tw9632653540210603081 : Nat := 0
def fin.tw9722632081671974098 : Nat := 0
def fin.tw9725021084223525626 : Nat := 0
def fin.tw9746214513668125432 : Nat := 0
def fin.tw9806666330580929782 : Nat := 0
def fin.tw9839346839192117915 : Nat := 0
def fin.tw9913140749668108558 : Nat := 0
def fin.tw999798209818781672 : Nat := 0
section
local macro_rules | `(tactic| kn_posts) => `(tactic| refine post_bare (by assumption) (fun _ _ => rfl) ?_)
set_option Elab.async true
set_option maxRecDepth 100000 in
set_option maxHeartbeats 8000000 in
theorem fin : True → PySem.Challenge.rw_to0081_01.Holds := by
  intro _
  w_on
  o_law
  o_head (kmHook hd.heap_1 [2, 3, 32, 34, 35, 37, 38, 39, 41, 42, 44, 45, 46, 48, 49, 51, 52, 53, 55, 56, 58, 59, 60, 62, 63, 65, 66, 67, 69, 70, 72, 73, 74, 76, 77, 79, 80, 81, 83, 84, 86, 87, 88, 90, 91, 93, 94, 95, 97, 98, 100, 101, 102, 104, 105, 107, 108, 112, 113, 117, 118, 126, 127, 129, 130, 132, 133, 134, 136, 137, 139, 140, 141, 143, 144, 146, 147, 148, 150, 151, 153, 154, 155, 158, 159, 160, 162, 163, 165, 166, 167, 169, 170, 172, 173, 174, 176, 177, 179, 180, 181, 182, 184, 185, 187, 188, 189, 192, 193, 194, 197, 198, 199, 201, 202, 204, 205, 206, 208, 209, 211, 212, 213, 216, 217, 218, 220, 221, 223, 224, 225, 227, 228, 230, 231, 232, 234, 235, 237, 238, 239, 240, 241, 242, 243, 246, 249, 250, 251, 253, 254, 256, 257, 258, 260, 261, 263, 264, 265, 267, 268, 270, 271, 272, 275, 276, 277, 280, 281, 282, 285, 286] (fun _ => by kernel_rfl) [61, 54])
  case hw => w_witness2
  k_go0
  all_goals try k_fold
  rename_i o3 o2 o1 dA dB dC X0 X9 T9 B9 F9 cH N9 l0
  rename IntsAre _ _ => I9
  rename ¬ (_ < _) => c9
  refine' law_w (o1 := o1) (o2 := o2) (o3 := o3) ?zho F9 ?zm N9 ?zd3 ?zd2 ?zd1 l0.1 lifted I9 ?zlen ?zret B9 X9 T9
  case zm => kernel_rfl
  case zd3 => exact dA.trans (by kernel_rfl)
  case zd2 => exact dB.trans (by kernel_rfl)
  case zd1 => exact dC.trans (by kernel_rfl)
  case zlen => omega
  case zho => k_is
  case zret =>
    intro h' tk' g' news' m' p61 p54 F' N' m61 m54 hg
    rename Shared.gens _ = #[] => g0
    rw [g0] at hg
    refine ⟨?zg, ⟨⟨p61, (N' _ m61).1⟩, ⟨p54, (N' _ m54).1⟩, True.intro⟩, gfin_bare hg⟩
    refine goodW_bool F' rfl (raisesW_false ?_) ?_
    · wrow_none_raised
    · wrow_post
end

end Mine
theorem PySem.Challenge.cw_to0081_01_holds : PySem.Challenge.rw_to0081_01.Holds := by
  exact Mine.fin True.intro
