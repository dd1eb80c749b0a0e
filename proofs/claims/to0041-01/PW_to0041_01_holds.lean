import PyProof.Rows.All
import Wide.All
import OpenK.AllK
import Wide.FinOn
import PySem.Challenge.RW_to0041_01
set_option Elab.async false
noncomputable section
namespace Mine
/-! small laws of numbers, each proved once (omega's own proofs are long) -/
theorem z0 (j : Nat) : (0 + (j : Int)).toNat = j := by rw [Int.zero_add]; rfl
theorem tn0 (n : Nat) : ((((n : Int) - 0).toNat : Nat) : Int) = (n : Int) := by rw [Int.sub_zero]; rfl
theorem tn1 (n : Nat) : ((((n : Int) + 1 - 1).toNat : Nat) : Int) = (n : Int) := by rw [Int.add_sub_cancel]; rfl
theorem tnp (h : Nat) : ((h : Int) - 1).toNat = h - 1 := Int.toNat_sub h 1
theorem tns (h : Nat) : ((h : Int) + 1).toNat = h + 1 := rfl
theorem tn2 (h k : Nat) : ((h : Int) - 2 - (0 + (k : Int))).toNat = h - 2 - k := by rw [Int.zero_add, Int.sub_sub, Nat.sub_sub]; exact Int.toNat_sub h (2 + k)
theorem ctn {x : Int} (a : 1 ≤ x.toNat) : x = (x.toNat : Int) := by
  cases x with
  | ofNat n => rfl
  | negSucc n => exact absurd a (Nat.not_succ_le_zero 0)
theorem tri3 {x : Int} (a : 0 ≤ x) (b : x < 3) : x = 0 ∨ x = 1 ∨ x = 2 := by omega
theorem pos3 {z : Nat} (a : 0 < z) (b : z ≤ 3) : z = 1 ∨ z = 2 ∨ z = 3 := by omega
theorem ge62 (n : Nat) : -2 ^ 62 ≤ (n : Int) := Int.le_trans (by decide) (Int.natCast_nonneg n)
theorem ge63 (n : Nat) : -2 ^ 63 ≤ (n : Int) := Int.le_trans (by decide) (Int.natCast_nonneg n)
theorem ilt {n : Nat} (m : Nat) {k : Int} (a : n ≤ m) (b : (m : Int) < k) : (n : Int) < k := Int.lt_of_le_of_lt (Int.ofNat_le.mpr a) b
theorem tlt {x : Int} (k : Nat) (a : 0 ≤ x) (b : x < (k : Int)) : x.toNat < k := (Int.toNat_lt a).mpr b
theorem zlt {j k : Nat} (h : j < k) : 0 + (j : Int) < (k : Int) := by rw [Int.zero_add]; exact Int.ofNat_lt.mpr h
theorem zle (j : Nat) : 0 ≤ 0 + (j : Int) := by rw [Int.zero_add]; exact Int.natCast_nonneg j
theorem psucc {i : Nat} (h : 0 < i) : i = i - 1 + 1 := (Nat.succ_pred_eq_of_pos h).symm
theorem roomK {u : Nat} (k : Nat) {c : Nat} (m : Nat) (h : u + m < c) (hk : k ≤ m) : u + k < c := Nat.lt_of_le_of_lt (Nat.add_le_add_left hk u) h
/-- a list of seven addresses or more below one: the fifth inequality of a long row -/
theorem row5 {P1 P2 P3 P4 R : Prop} {x y : Nat} (h : P1 ∧ P2 ∧ P3 ∧ P4 ∧ x ≠ y ∧ R) : y ≠ x := fun e => h.2.2.2.2.1 e.symm
theorem row3 {P1 P2 : Prop} {x y : Nat} (h : P1 ∧ P2 ∧ x ≠ y) : y ≠ x := fun e => h.2.2 e.symm
theorem row1 {R : Prop} {x y : Nat} (h : x < y ∧ R) : x < y := h.1
theorem sub1 {x q i c : Nat} (h : i + 1 ≤ q) (a : x = q - i + c) : x - 1 = q - (i + 1) + c := by rw [a, Nat.sub_add_eq]; exact Nat.sub_add_comm (Nat.sub_pos_of_lt h)
theorem sub2 {x q i c : Nat} (h : i + 1 ≤ q) (a : x = q - i + c) : x - 1 + 1 = q - (i + 1) + (c + 1) := by rw [sub1 h a]; rfl
theorem sub3 {r q i c : Nat} (h : i < q) (a : r + 1 = q - i + c) (b : c ≤ i) : r < q := by
  show r + 1 ≤ q
  rw [a]; exact Nat.le_trans (Nat.add_le_add_left b _) (Nat.le_of_eq (Nat.sub_add_cancel (Nat.le_of_lt h)))
theorem sub4 {q i c : Nat} (h : i < q) (a : 0 = q - i + c) : False := absurd a (Nat.ne_of_lt (Nat.lt_of_lt_of_le (Nat.sub_pos_of_lt h) (Nat.le_add_right _ _)))
theorem sub5 {x q i c : Nat} (e : q = i) (a : x = q - i + c) : x = c := by rw [a, e, Nat.sub_self, Nat.zero_add]
theorem isub {h j : Nat} (a : j < h) : (h : Int) - 1 - (0 + (j : Int)) = 0 + ((h - 1 - j : Nat) : Int) := by rw [Int.zero_add, Int.zero_add, Int.sub_sub, Nat.sub_sub]; exact (Int.ofNat_sub (by rw [Nat.add_comm]; exact a)).symm
theorem stf {step fuel : Nat} (h1 : 1 ≤ step) (h : step ≤ 100000 - (fuel + 1)) : step + 1 ≤ 100000 - fuel := by
  rw [Nat.sub_add_eq] at h
  have p : 0 < 100000 - fuel := Nat.pos_of_ne_zero fun e => by rw [e] at h; exact Nat.not_succ_le_zero 0 (Nat.le_trans h1 h)
  exact Nat.lt_of_le_of_lt h (Nat.sub_lt p Nat.zero_lt_one)
theorem le1 {n : Nat} (h : n ≤ 30) : 1 ≤ 100000 - n := Nat.le_sub_of_add_le (Nat.le_trans (Nat.add_le_add_left h 1) (by decide))
theorem i63 {n : Nat} (h : n ≤ 30) : (n : Int) < 2 ^ 63 := ilt 30 h (by decide)
theorem i62 {n : Nat} (h : n ≤ 30) : (n : Int) < 2 ^ 62 := ilt 30 h (by decide)
theorem x63 {x : Int} {n : Nat} (hn : n ≤ 30) (h : 0 < x ∧ x ≤ n) : x < 2 ^ 63 := Int.lt_of_le_of_lt h.2 (i63 hn)
theorem xlen {x : Int} {n m : Nat} (e : m = n + 1) (h : 0 < x ∧ x ≤ n) : x < (m : Int) := by rw [e]; exact Int.lt_of_le_of_lt h.2 (Int.ofNat_lt.mpr (Nat.lt_succ_self n))
theorem jn {j n : Nat} (h : j < n) : 0 < 1 + (j : Int) ∧ 1 + (j : Int) ≤ (n : Int) := ⟨Int.lt_of_lt_of_le Int.zero_lt_one (Int.le_add_of_nonneg_right (Int.natCast_nonneg j)), by rw [Int.add_comm]; exact Int.ofNat_le.mpr h⟩
theorem roomK2 {u : Nat} (j k : Nat) {c : Nat} (m : Nat) (h : u + m < c) (hk : j + k ≤ m) : u + j + k < c := by rw [Nat.add_assoc]; exact roomK (j + k) m h hk
theorem len6 {u y r j s : Nat} (a : u = y + r) (b : u = s) (c : s = 6) (d : y = j) : r = 6 - j := by rw [← d, ← c, ← b, a, Nat.add_sub_cancel_left]
theorem big1 {y u h s : Nat} (a : y = h) (b : u = s) (c : s = 6) (d : h < 6) : y + (0 + 1) + (u - (h + 1)) ≤ 16777216 := Nat.le_trans (Nat.add_le_add (Nat.add_le_add_right (Nat.le_of_lt (a ▸ d)) _) (Nat.le_trans (Nat.sub_le ..) (Nat.le_of_eq (b.trans c)))) (by decide : 6 + (0 + 1) + 6 ≤ 16777216)
theorem fit1 {h : Nat} (j : Nat) (a : h < 6) : ((h - 1 - j : Nat) : Int) < 9223372036854775808 := ilt 6 (Nat.le_trans (Nat.sub_le ..) (Nat.le_trans (Nat.sub_le ..) (Nat.le_of_lt a))) (by decide)
theorem lt6 {h j n : Nat} (a : n = 6) (b : h < 6) (c : j < h) : 0 + (j : Int) < (n : Int) := zlt (by rw [a]; exact Nat.lt_trans c b)
theorem lt10 {x i n : Nat} (k : Nat) (a : x ≤ 10 + i) (b : i < n) (c : n ≤ 30) (d : 40 ≤ k) : x < k := Nat.lt_of_lt_of_le (Nat.lt_of_le_of_lt a (Nat.add_lt_add_left b 10)) (Nat.le_trans (Nat.add_le_add_left c 10) d)
theorem lt11 {x i n : Nat} (k : Nat) (a : x ≤ 10 + i) (b : i < n) (c : n ≤ 30) (d : 41 ≤ k) : x + 1 < k := Nat.lt_of_lt_of_le (Nat.succ_lt_succ (lt10 40 a b c (Nat.le_refl _))) d
theorem w1 {n m z k : Nat} (e : k = n - m) (h : m < n) (a : 0 < z) : n - (m + z) < k := by rw [e]; exact Nat.sub_lt_sub_left h (Nat.lt_add_of_pos_right a)
theorem w2 {n m z : Nat} (h : m < n) (a : z ≤ n - m) : m + z ≤ n := by rw [Nat.add_comm]; exact Nat.add_le_of_le_sub (Nat.le_of_lt h) a
theorem w3 {t m z : Nat} (h : t ≤ m + 1) (a : 0 < z) : t + 1 ≤ m + z + 1 := Nat.add_le_add_right (Nat.le_trans h (Nat.add_le_add_left a m)) 1
theorem i48 {x : Int} (a : 0 ≤ x) (b : x < 48) : x / 16 < 3 := Int.ediv_lt_of_lt_mul (by decide) b
theorem c2 {y x : Int} (a : 0 ≤ y ∧ y ≤ 8032) (b : 0 ≤ x) (c : x < 8) : 0 ≤ y + x ∧ y + x ≤ 1114111 := ⟨Int.add_nonneg a.1 b, Int.le_trans (Int.add_le_add a.2 (Int.le_of_lt c)) (by decide)⟩
theorem c26 {y x : Int} (a : 0 ≤ y ∧ y ≤ 120432) (b : 0 ≤ x) (c : x < 26) : 0 ≤ y + x ∧ y + x ≤ 1114111 := ⟨Int.add_nonneg a.1 b, Int.le_trans (Int.add_le_add a.2 (Int.le_of_lt c)) (by decide)⟩
theorem mz {n m : Nat} {x : Int} (a : 0 ≤ x) (h : m < n) : (if (n : Int) - (m : Int) < 1 + x then (n : Int) - (m : Int) else 1 + x) = ((min (1 + x.toNat) (n - m) : Nat) : Int) := by
  have e1 : (n : Int) - (m : Int) = ((n - m : Nat) : Int) := (Int.ofNat_sub (Nat.le_of_lt h)).symm
  have e2 : 1 + x = ((1 + x.toNat : Nat) : Int) := by rw [Int.natCast_add, Int.toNat_of_nonneg a]; rfl
  rw [e1, e2]
  by_cases c : n - m < 1 + x.toNat
  · rw [if_pos (Int.ofNat_lt.mpr c), Nat.min_eq_right (Nat.le_of_lt c)]
  · rw [if_neg fun d => c (Int.ofNat_lt.mp d), Nat.min_eq_left (Nat.le_of_not_lt c)]
theorem mz3 {d t : Nat} (h : 0 < d) (b : t < 3) : 0 < min (1 + t) d ∧ min (1 + t) d ≤ 3 ∧ min (1 + t) d ≤ d :=
  ⟨Nat.lt_min.mpr ⟨Nat.lt_of_lt_of_le Nat.zero_lt_one (Nat.le_add_right 1 t), h⟩, Nat.le_trans (Nat.min_le_left ..) (Nat.add_le_add_left (Nat.le_of_lt_succ b) 1), Nat.min_le_right ..⟩
theorem nm90 {n m : Nat} (h : m < n) (b : n < 8) (k : Nat) (c : 8 ≤ k) : m ≤ k := Nat.le_of_lt (Nat.lt_of_lt_of_le (Nat.lt_trans h b) c)
theorem tm90 {n m t : Nat} (h : m < n) (a : t ≤ m + 1) (b : n < 8) (k : Nat) (c : 8 ≤ k) : t ≤ k := Nat.le_trans a (Nat.le_trans h (Nat.le_trans (Nat.le_of_lt b) c))
theorem big2 {y u h : Nat} (a : y = h) (b : u = 6) (d : h < 6) : y + (0 + 1) + (u - (h + 1)) ≤ 16777216 := big1 a b rfl d
theorem lt18 {x : Int} {i : Nat} (h : i < (x % 18).toNat) : i < 17 := Nat.lt_of_lt_of_le h (Int.toNat_le.mpr (Int.le_of_lt_add_one (Int.emod_lt_of_pos x (by decide))))
theorem tn18 {x : Int} (a : 0 ≤ x) : (((x - 0).toNat : Nat) : Int) = x := by rw [Int.sub_zero]; exact Int.toNat_of_nonneg a
theorem b34 {f l : Nat} (h : f < 6) : min f l + (0 + 1) ≤ 16777216 := Nat.le_trans (Nat.add_le_add_right (Nat.le_trans (Nat.min_le_left ..) (Nat.le_of_lt h)) _) (by decide)
theorem b37 {f l : Nat} (e : l = 6) (h : f < 6) : min f l + (0 + 1) + (l - ((f : Int) + 1).toNat) ≤ 16777216 := Nat.le_trans (Nat.add_le_add (Nat.add_le_add_right (Nat.le_trans (Nat.min_le_left ..) (Nat.le_of_lt h)) _) (Nat.le_trans (Nat.sub_le ..) (Nat.le_of_eq e))) (by decide)
theorem f62 {f : Nat} (h : f < 6) : (f : Int) < 2 ^ 62 := ilt 6 (Nat.le_of_lt h) (by decide)
theorem lenj {f j l : Nat} (e : l = 6) (h : f < 6) (a : j < f) : j < l := by rw [e]; exact Nat.lt_trans a h
theorem hp62 {h : Nat} (a : h ≤ 6) : ((h : Int) - 1) < 2 ^ 63 := Int.lt_of_le_of_lt (Int.sub_le_self _ (by decide)) (ilt 6 a (by decide))
theorem hpl {h l : Nat} (e : l = 6) (a : 1 ≤ h) (b : h ≤ 6) : h - 1 < l := by rw [e]; exact Nat.lt_of_lt_of_le (Nat.sub_lt a (by decide)) b
theorem hpk {h k l : Nat} (e : l = 6) (a : 1 ≤ h) (b : h ≤ 6) : h - 2 - k < l := Nat.lt_of_le_of_lt (Nat.le_trans (Nat.sub_le ..) (Nat.sub_le_sub_left (by decide : 1 ≤ 2) h)) (hpl e a b)
theorem kpl {h k l : Nat} (a : k < h - 1) (b : h ≤ l) : (0 + (k : Int)).toNat < l := by rw [z0]; exact Nat.lt_of_lt_of_le (Nat.lt_of_lt_of_le a (Nat.sub_le ..)) b
theorem kpi {h k l : Nat} (a : k < h - 1) (b : h ≤ l) : 0 + (k : Int) < (l : Int) := zlt (Nat.lt_of_lt_of_le (Nat.lt_of_lt_of_le a (Nat.sub_le ..)) b)
theorem ge2 {h k : Nat} (a : k < h - 1) : 0 ≤ (h : Int) - 2 - (0 + (k : Int)) := by
  rw [Int.zero_add, Int.sub_sub]
  exact Int.sub_nonneg_of_le (Int.ofNat_le.mpr (show 2 + k ≤ h by rw [Nat.add_comm]; exact Nat.add_le_of_le_sub (a := k + 1) (b := 1) (Nat.lt_of_lt_of_le (Nat.zero_lt_of_lt a) (Nat.sub_le ..)) a))
theorem lt2 {h : Nat} (k : Nat) (a : h ≤ 6) : (h : Int) - 2 - (0 + (k : Int)) < 2 ^ 63 := Int.lt_of_le_of_lt (Int.le_trans (Int.sub_le_self _ (zle k)) (Int.sub_le_self _ (by decide))) (ilt 6 a (by decide))
theorem us1 {u r i p : Nat} (e : u = r) (a : r ≤ 10 + i) (b : i < p) (c : p ≤ 30) : u ≤ 16777216 := Nat.le_of_lt (lt10 16777216 (Nat.le_trans (Nat.le_of_eq e) a) b c (by decide))
theorem ac9 {a i p : Nat} (e : a = i) (b : i < p) (c : p ≤ 30) : a ≤ 90000 := Nat.le_trans (Nat.le_of_eq e) (Nat.le_of_lt (Nat.lt_of_lt_of_le b (Nat.le_trans c (by decide))))
theorem pdl {h l : Nat} (a : 1 ≤ h) (b : h ≤ l) : ((h : Int) - 1).toNat < l := by rw [tnp]; exact Nat.lt_of_lt_of_le (Nat.sub_lt a (by decide)) b
theorem m60 {i l : Nat} (h : l ≤ 60 * i + 45) : l ≤ 60 * (i + 1) := Nat.le_trans h (by rw [Nat.mul_succ]; exact Nat.add_le_add_left (by decide) _)
theorem tkm (r : Nat) : min 1 r + (r - 1) ≤ r := by
  cases r with
  | zero => exact Nat.le_refl 0
  | succ r => rw [Nat.min_eq_left (Nat.succ_le_succ (Nat.zero_le r)), Nat.add_comm]; exact Nat.le_refl _
theorem tsum1 {x r : Nat} (h : x + (r + 1) < 1001) : x + min 1 r + (r - 1) < 1001 := by
  rw [Nat.add_assoc]
  exact Nat.lt_of_le_of_lt (Nat.add_le_add_left (Nat.le_succ_of_le (tkm r)) x) h
theorem tsum2 {x r : Nat} (h : x + (r + 1) < 1001) : x + min 1 r ≤ 100000 :=
  Nat.le_trans (Nat.add_le_add_left (Nat.le_trans (Nat.min_le_right ..) (Nat.le_succ r)) x) (Nat.le_of_lt (Nat.lt_trans h (by decide)))
theorem tsum3 {x r : Nat} (h : x + (r + 1) < 1001) : x + (0 + 1) ≤ 100000 :=
  Nat.le_trans (Nat.add_le_add_left (Nat.add_le_add_right (Nat.zero_le r) 1) x) (Nat.le_of_lt (Nat.lt_trans h (by decide)))
theorem tsum4 {x r : Nat} (h : x + (r + 1) < 1001) : x + (0 + 1) + r < 1001 := by
  rw [Nat.add_assoc, Nat.zero_add, Nat.add_comm 1]; exact h
end Mine
end
noncomputable section
open PySem PySem.W PySem.Calls PyProof.Rows
namespace Mine

section
variable (tb : String → Option Builtin) (p : Program) (w : World) (n₀ : Nat)

noncomputable def tick {α : Type} (m : Nat) (x : Option (α × Shared × Pos × Nat)) : Option (α × Shared × Pos × Nat) := x.map fun r => (r.1, r.2.1, r.2.2.1, r.2.2.2 + m)
noncomputable def lrF (cal : Code → Shared → Pos → Option (Flow × Shared × Nat)) {α : Type} (x : Sem α) : Shared → Pos → Option (α × Shared × Pos × Nat) :=
  Sem.rec (motive := fun _ => Shared → Pos → Option (α × Shared × Pos × Nat))
    (fun a s q => some (a, s, q, 0)) (fun _ _ _ => none) (fun _ _ _ => none) (fun _ _ _ => none)
    (fun _ _ ih s q => tick 1 (ih () s q))
    (fun q' _ ih s _ => tick 1 (ih () s q'))
    (fun a _ _ ih s q => (s.heap.get? a).bind fun o => tick 1 (ih o s q))
    (fun a _ f _ ih s q => cond ((Nat.ble n₀ a || a == mainNs) && (s.heap.get? a).isSome) (tick 1 (ih () { s with heap := s.heap.update a f } q)) none)
    (fun o _ ih s q => tick 1 (ih s.heap.objs.size { s with heap := s.heap.push o } q))
    (fun _ _ _ _ _ => none)
    (fun _ _ ih s q => tick 1 (ih () s q))
    (fun _ _ _ _ _ => none)
    (fun _ ih s q => tick 1 (ih s.toks { s with toks := s.toks + 1 } q))
    (fun _ ih s q => tick 1 (ih ⟨p, w.params⟩ s q))
    (fun _ _ _ _ _ _ => none) (fun _ _ _ _ _ _ => none)
    (fun c _ _ _ _ ih s q => (cal c s q).bind fun x => tick (x.2.2 + 2) (ih (.ok x.1) x.2.1 q))
    (fun _ _ _ _ _ => none) (fun _ _ _ _ _ => none) (fun _ _ _ _ _ => none) (fun _ _ _ _ _ _ _ => none) (fun _ _ _ _ _ _ _ => none) (fun _ _ _ _ => none) (fun _ _ _ _ _ => none) (fun _ _ _ _ => none) (fun _ _ _ _ _ _ _ _ => none) x

noncomputable def calF (n : Nat) : Code → Shared → Pos → Option (Flow × Shared × Nat) :=
  Nat.rec (motive := fun _ => Code → Shared → Pos → Option (Flow × Shared × Nat)) (fun _ _ _ => none)
    (fun _ F c s q => (lrF p w n₀ F (denote tb c) s q).bind fun r => PySem.Fin.rec (motive := fun _ => Option (Flow × Shared × Nat)) (fun f => some (f, r.2.1, r.2.2.2))
      (fun c' => cond c'.quiet ((F c' r.2.1 r.2.2.1).map fun y => (y.1, y.2.1, y.2.2 + r.2.2.2 + 1)) none) r.1) n

noncomputable def CalOk (cal : Code → Shared → Pos → Option (Flow × Shared × Nat)) (ann : Option Value) : Prop :=
  ∀ c s q f s' n, cal c s q = some (f, s', n) → ∀ (k : Result → Sem Fin) (h : Option Value) (g : Bool) (l : List Value) (code : Code) (pos : Pos) (kept : List Value) (B : List Frame) (N : Nat) (r : Flow × Shared × Code × Pos), 1 ≤ B.length →
    segRun tb p w n₀ ann 1 N s' ⟨k (.ok f), code, pos, B⟩ = some r → segRun tb p w n₀ ann 1 (n + 1 + N) s ⟨denote tb c, c, q, .ret k h g l code pos kept :: B⟩ = some r
end

section
variable {tb : String → Option Builtin} {p : Program} {w : World} {n₀ : Nat} {ann : Option Value}

theorem wrap_self {α : Type} (t : Sem α) : t.wrap (fun x => Sem.pure x) Sem.raise id id = t := by
  induction t <;> simp only [Sem.wrap, id, *]

noncomputable def isDone (x : Sem Fin) : Bool := Sem.casesOn (motive := fun _ => Bool) x (fun _ => true) (fun _ => false) (fun _ => false) (fun _ => false) (fun _ _ => false) (fun _ _ => false) (fun _ _ _ => false) (fun _ _ _ _ => false) (fun _ _ => false) (fun _ _ => false) (fun _ _ => false) (fun _ _ => false) (fun _ => false) (fun _ => false) (fun _ _ _ => false) (fun _ _ _ => false) (fun _ _ _ _ _ => false) (fun _ _ => false) (fun _ _ => false) (fun _ _ => false) (fun _ _ _ _ => false) (fun _ _ _ _ => false) (fun _ => false) (fun _ _ => false) (fun _ => false) (fun _ _ _ _ _ => false)
theorem endAt_none {b : Nat} {t : Thread} (h : isDone t.cur = false) : endAt b t = none := by
  unfold endAt
  split
  · rename_i e
    rw [e] at h
    cases h
  · rfl
theorem seg_step {N : Nat} {s s' : Shared} {t t' : Thread} {r : Flow × Shared × Code × Pos} (he : endAt 1 t = none) (hk : stepOk n₀ ann t = true) (hs : step (denote tb) p w s t = .go s' t') (h : segRun tb p w n₀ ann 1 N s' t' = some r) :
    segRun tb p w n₀ ann 1 (N + 1) s t = some r := by
  unfold segRun
  rw [he, hk, hs]
  exact h
theorem tick_some {α : Type} {m : Nat} {x : Option (α × Shared × Pos × Nat)} {a : α} {s : Shared} {q : Pos} {n : Nat} (h : tick m x = some (a, s, q, n)) : ∃ n1, x = some (a, s, q, n1) ∧ n = n1 + m := by
  obtain ⟨⟨a1, s1, q1, n1⟩, h1, h2⟩ := Option.map_eq_some_iff.mp h
  cases h2
  exact ⟨n1, h1, rfl⟩
theorem step_ld {a : Addr} {o : Obj} {heap : Heap} {gens : Array GenState} {d : Drawn} {tk : Nat} {os : OsState} {den : Code → Sem Fin} {part : Option Value} {k : Obj → Sem Fin} {code : Code} {q : Pos} {B : List Frame} (h : heap.get? a = some o) :
    step den p w ⟨heap, gens, d, tk, os⟩ ⟨.load a part k, code, q, B⟩ = .go ⟨heap, gens, d, tk, os⟩ ⟨k o, code, q, B⟩ := by
  simp only [step, h]
theorem step_upd {a : Addr} {heap : Heap} {gens : Array GenState} {d : Drawn} {tk : Nat} {os : OsState} {den : Code → Sem Fin} {part : Option Value} {f : Obj → Obj} {k : Unit → Sem Fin} {code : Code} {q : Pos} {B : List Frame} (h : (heap.get? a).isSome = true) :
    step den p w ⟨heap, gens, d, tk, os⟩ ⟨.update a part f k, code, q, B⟩ = .go ⟨heap.update a f, gens, d, tk, os⟩ ⟨k (), code, q, B⟩ := by
  simp only [step, if_pos h]
theorem cond_some {β : Type} {c : Bool} {x : Option β} {y : β} (h : cond c x none = some y) : c = true ∧ x = some y := by
  cases c with
  | false => cases h
  | true => exact ⟨rfl, h⟩
/-- a tree of which lrF speaks the truth -/
noncomputable def Snd (tb : String → Option Builtin) (p : Program) (w : World) (n₀ : Nat) (ann : Option Value) (cal : Code → Shared → Pos → Option (Flow × Shared × Nat)) {α : Type} (t : Sem α) : Prop := ∀ (s : Shared) (q : Pos) (a : α) (s' : Shared) (q' : Pos) (n : Nat), lrF p w n₀ cal t s q = some (a, s', q', n) →
    ∀ (K : α → Sem Fin) (H : Value → Sem Fin) (gd : Bool → Bool) (lv : List Value → List Value) (code : Code) (B : List Frame) (N : Nat) (r : Flow × Shared × Code × Pos), 1 ≤ B.length →
    segRun tb p w n₀ ann 1 N s' ⟨K a, code, q', B⟩ = some r → segRun tb p w n₀ ann 1 (n + N) s ⟨t.wrap K H gd lv, code, q, B⟩ = some r
theorem snd_one {cal : Code → Shared → Pos → Option (Flow × Shared × Nat)} {α : Type} {k : Sem α} {t : Sem Fin} {s s2 : Shared} {q q2 : Pos} {a : α} {s' : Shared} {q' : Pos} {n : Nat} (ih : Snd tb p w n₀ ann cal k) (h : tick 1 (lrF p w n₀ cal k s2 q2) = some (a, s', q', n))
    {K : α → Sem Fin} {H : Value → Sem Fin} {gd : Bool → Bool} {lv : List Value → List Value} {code : Code} {B : List Frame} {N : Nat} {r : Flow × Shared × Code × Pos} (hB : 1 ≤ B.length) (kk : segRun tb p w n₀ ann 1 N s' ⟨K a, code, q', B⟩ = some r)
    (he : isDone t = false) (hk : stepOk n₀ ann ⟨t, code, q, B⟩ = true) (hs : step (denote tb) p w s ⟨t, code, q, B⟩ = .go s2 ⟨k.wrap K H gd lv, code, q2, B⟩) : segRun tb p w n₀ ann 1 (n + N) s ⟨t, code, q, B⟩ = some r := by
  obtain ⟨n1, h1, rfl⟩ := tick_some h
  rw [Nat.add_right_comm]
  exact seg_step (endAt_none he) hk hs (ih _ _ _ _ _ _ h1 K H gd lv code B N r hB kk)

theorem lrF_sound {cal : Code → Shared → Pos → Option (Flow × Shared × Nat)} (hc : CalOk tb p w n₀ cal ann) {α : Type} (t : Sem α) : Snd tb p w n₀ ann cal t := by
  induction t with
  | pure b =>
    intro s q a s' q' n h K H gd lv code B N r hB k
    cases h
    rw [Nat.zero_add]; exact k
  | rule tg k ih => intro s q a s' q' n h K H gd lv code B N r hB kk; cases s; exact snd_one (ih ()) h hB kk rfl rfl rfl
  | «at» tg k ih => intro s q a s' q' n h K H gd lv code B N r hB kk; cases s; exact snd_one (ih ()) h hB kk rfl rfl rfl
  | point tg k ih => intro s q a s' q' n h K H gd lv code B N r hB kk; cases s; exact snd_one (ih ()) h hB kk rfl rfl rfl
  | fresh k ih => intro s q a s' q' n h K H gd lv code B N r hB kk; cases s; exact snd_one (ih _) h hB kk rfl rfl rfl
  | ask k ih => intro s q a s' q' n h K H gd lv code B N r hB kk; cases s; exact snd_one (ih _) h hB kk rfl rfl rfl
  | alloc o k ih => intro s q a s' q' n h K H gd lv code B N r hB kk; cases s; exact snd_one (ih _) h hB kk rfl rfl rfl
  | load b part k ih =>
    intro s q a s' q' n h K H gd lv code B N r hB kk
    obtain ⟨o, ho, h1⟩ := Option.bind_eq_some_iff.mp h
    obtain ⟨heap, gens, drawn, toks, os⟩ := s
    exact snd_one (ih o) h1 hB kk rfl rfl (step_ld ho)
  | update b part f k ih =>
    intro s q a s' q' n h K H gd lv code B N r hB kk
    obtain ⟨hb, h1⟩ := cond_some h
    obtain ⟨heap, gens, drawn, toks, os⟩ := s
    rw [Bool.and_eq_true] at hb
    refine snd_one (ih ()) h1 hB kk rfl ?_ (step_upd hb.2)
    have : (Nat.ble n₀ b || b == mainNs || b == cStatics || ann == some (.ref b)) = true := by rw [hb.1]; rfl
    exact this
  | call c hd g l k ih =>
    intro s q a s' q' n h K H gd lv code B N r hB kk
    obtain ⟨⟨f, s2, n2⟩, ho, h0⟩ := Option.bind_eq_some_iff.mp h
    obtain ⟨n1, h1, rfl⟩ := tick_some h0
    obtain ⟨heap, gens, drawn, toks, os⟩ := s
    rw [show n1 + (n2 + 2) + N = n2 + 1 + (n1 + N) + 1 by omega]
    exact seg_step (endAt_none rfl) rfl rfl (hc _ _ _ _ _ _ ho (fun x => (k x).wrap K H gd lv) hd (gd g) (lv l) code q _ B (n1 + N) r hB (ih _ _ _ _ _ _ _ h1 K H gd lv code B N r hB kk))
  | _ => intro s q a s' q' n h; cases h

theorem calF_ok (ann : Option Value) (n : Nat) : CalOk tb p w n₀ (calF tb p w n₀ n) ann := by
  induction n with
  | zero => intro c s q f s' m h; cases h
  | succ n ih =>
    intro c s q f s' m h k hd g l code pos kept B N r hB kk
    obtain ⟨⟨a1, s1, q1, n1⟩, h1, h2⟩ := Option.bind_eq_some_iff.mp h
    have S := lrF_sound (ann := ann) ih (denote tb c) _ _ _ _ _ _ h1 (fun x => .pure x) .raise id id c (.ret k hd g l code pos kept :: B)
    rw [wrap_self] at S
    have hl : ∀ {x : Sem Fin} {q1 : Pos}, endAt 1 ⟨x, c, q1, .ret k hd g l code pos kept :: B⟩ = none := by
      intro x q1
      have : (((.ret k hd g l code pos kept :: B : List Frame)).length == 1) = false := by rw [List.length_cons, beq_eq_false_iff_ne]; omega
      unfold endAt
      split
      · rename_i e _
        rw [this] at e
        cases e
      · rfl
    cases a1 with
    | done f1 =>
      cases h2
      rw [Nat.add_assoc, Nat.add_comm 1]
      exact S _ _ (Nat.le_add_left ..) (seg_step hl rfl rfl kk)
    | again c' =>
      obtain ⟨hq, h2⟩ := cond_some h2
      obtain ⟨⟨f2, s2, n2⟩, h3, h4⟩ := Option.map_eq_some_iff.mp h2
      cases h4
      have T := ih _ _ _ _ _ _ h3 k hd g l code pos (keptBy c c' l kept) B N r hB kk
      rw [show n2 + n1 + 1 + 1 + N = n1 + (n2 + 1 + N + 1) by omega]
      refine S _ _ (Nat.le_add_left ..) (seg_step hl ?_ ?_ T)
      · have z : Thread.loud ⟨.pure (.again c'), c, q1, .ret k hd g l code pos kept :: B⟩ = false := by rw [Thread.loud_again, hq]; rfl
        show (Thread.calm _ && true) = true
        rw [Thread.calm_eq, z]; rfl
      · obtain ⟨heap, gens, drawn, toks, os⟩ := s1
        exact step_again

variable {cal : Code → Shared → Pos → Option (Flow × Shared × Nat)} {α β : Type}

/-- a tree whose reckoning goes on into the next -/
noncomputable def Wrp (p : Program) (w : World) (n₀ : Nat) (cal : Code → Shared → Pos → Option (Flow × Shared × Nat)) {α β : Type} (K : α → Sem β) (H : Value → Sem β) (gd : Bool → Bool) (lv : List Value → List Value) (t : Sem α) : Prop :=
  ∀ (s : Shared) (q : Pos) (a : α) (s' : Shared) (q' : Pos) (n : Nat) (r : β × Shared × Pos × Nat),
    lrF p w n₀ cal t s q = some (a, s', q', n) → lrF p w n₀ cal (K a) s' q' = some r → lrF p w n₀ cal (t.wrap K H gd lv) s q = tick n (some r)
theorem tick_tick {α : Type} {m n : Nat} {x : α × Shared × Pos × Nat} : tick m (tick n (some x)) = tick (n + m) (some x) := by
  show some (_, _, _, _) = some (_, _, _, _)
  rw [Nat.add_assoc]
theorem wrp_one {K : α → Sem β} {H : Value → Sem β} {gd lv} {k : Sem α} {m : Nat} {s : Shared} {q : Pos} {a : α} {s' : Shared} {q' : Pos} {n : Nat} {r : β × Shared × Pos × Nat} (ih : Wrp p w n₀ cal K H gd lv k) (h : tick m (lrF p w n₀ cal k s q) = some (a, s', q', n)) (kk : lrF p w n₀ cal (K a) s' q' = some r) :
    tick m (lrF p w n₀ cal (k.wrap K H gd lv) s q) = tick n (some r) := by
  obtain ⟨n1, h1, rfl⟩ := tick_some h
  rw [ih _ _ _ _ _ _ _ h1 kk, tick_tick]
theorem lrF_wrp (t : Sem α) (K : α → Sem β) (H : Value → Sem β) (gd lv) : Wrp p w n₀ cal K H gd lv t := by
  induction t with
  | pure c =>
    intro s q a s' q' n r h k
    cases h
    rw [show Sem.wrap K H gd lv (.pure c) = K c from rfl, k]; rfl
  | rule _ k ih => intro s q a s' q' n r h kk; exact wrp_one (ih ()) h kk
  | «at» _ k ih => intro s q a s' q' n r h kk; exact wrp_one (ih ()) h kk
  | point _ k ih => intro s q a s' q' n r h kk; exact wrp_one (ih ()) h kk
  | fresh k ih => intro s q a s' q' n r h kk; exact wrp_one (ih _) h kk
  | ask k ih => intro s q a s' q' n r h kk; exact wrp_one (ih _) h kk
  | alloc _ k ih => intro s q a s' q' n r h kk; exact wrp_one (ih _) h kk
  | load c part k ih =>
    intro s q a s' q' n r h kk
    obtain ⟨o, ho, h1⟩ := Option.bind_eq_some_iff.mp h
    show (s.heap.get? c).bind _ = _
    rw [ho, Option.bind_some]
    exact wrp_one (ih o) h1 kk
  | update c part f k ih =>
    intro s q a s' q' n r h kk
    obtain ⟨hb, h1⟩ := cond_some h
    show cond ((Nat.ble n₀ c || c == mainNs) && (s.heap.get? c).isSome) _ _ = _
    rw [hb]
    exact wrp_one (ih ()) h1 kk
  | call c hd g l k ih =>
    intro s q a s' q' n r h kk
    obtain ⟨x, ho, h1⟩ := Option.bind_eq_some_iff.mp h
    show (cal c s q).bind _ = _
    rw [ho, Option.bind_some]
    exact wrp_one (ih _) h1 kk
  | _ => intro s q a s' q' n r h; cases h
theorem lrF_wrap (t : Sem α) (K : α → Sem β) (H : Value → Sem β) (gd lv) (s : Shared) (q : Pos) {a : α} {s' : Shared} {q' : Pos} {n : Nat} {b : β} {s'' : Shared} {q'' : Pos} {m : Nat}
    (h : lrF p w n₀ cal t s q = some (a, s', q', n)) (k : lrF p w n₀ cal (K a) s' q' = some (b, s'', q'', m)) : lrF p w n₀ cal (t.wrap K H gd lv) s q = some (b, s'', q'', m + n) :=
  lrF_wrp t K H gd lv _ _ _ _ _ _ _ h k

theorem lrF_bind {t : Sem α} {f : α → Sem β} {s : Shared} {q : Pos} {a : α} {s' : Shared} {q' : Pos} {n : Nat} {b : β} {s'' : Shared} {q'' : Pos} {m : Nat}
    (h : lrF p w n₀ cal t s q = some (a, s', q', n)) (k : lrF p w n₀ cal (f a) s' q' = some (b, s'', q'', m)) : lrF p w n₀ cal (t >>= f) s q = some (b, s'', q'', m + n) := by
  rw [Sem.bind_eq_wrap']; exact lrF_wrap t _ _ _ _ s q h k
theorem lrF_ret {t : Sem α} {f : α → Sem β} {s : Shared} {q : Pos} {a : α} {s' : Shared} {q' : Pos} {n : Nat} {b : β} {s'' : Shared} {q'' : Pos}
    (h : lrF p w n₀ cal t s q = some (a, s', q', n)) (k : lrF p w n₀ cal (f a) s' q' = some (b, s'', q'', 0)) : lrF p w n₀ cal (t >>= f) s q = some (b, s'', q'', n) := by
  have := lrF_bind h k
  rwa [Nat.zero_add] at this
theorem lrF_pure {a : α} {s : Shared} {q : Pos} : lrF p w n₀ cal (pure a) s q = some (a, s, q, 0) := rfl
theorem lrF_keep {t : Sem α} {vs : List Value} {s : Shared} {q : Pos} {a : α} {s' : Shared} {q' : Pos} {n : Nat} (h : lrF p w n₀ cal t s q = some (a, s', q', n)) : lrF p w n₀ cal (t.keep vs) s q = some (a, s', q', n) := by
  rw [Sem.keep_eq_wrap]
  have := lrF_wrap t (fun x => Sem.pure x) .raise id (vs ++ ·) s q h (lrF_pure (s := s') (q := q') (a := a) (p := p) (w := w) (n₀ := n₀) (cal := cal))
  rwa [Nat.zero_add] at this
theorem lrF_holding {t : Sem α} {vs : List Value} {s : Shared} {q : Pos} {a : α} {s' : Shared} {q' : Pos} {n : Nat} (h : lrF p w n₀ cal t s q = some (a, s', q', n)) : lrF p w n₀ cal (holding vs t) s q = some (a, s', q', n) := by
  unfold holding
  split
  · exact h
  · exact lrF_keep h
theorem lrF_onRaise {t : Sem α} {k : Value → Sem Unit} {s : Shared} {q : Pos} {a : α} {s' : Shared} {q' : Pos} {n : Nat} (h : lrF p w n₀ cal t s q = some (a, s', q', n)) : lrF p w n₀ cal (t.onRaise k) s q = some (a, s', q', n) := by
  rw [Sem.onRaise_eq_wrap]
  have := lrF_wrap t (fun x => Sem.pure x) (fun e => (k e).bind fun _ => .raise e) id id s q h (lrF_pure (s := s') (q := q') (a := a) (p := p) (w := w) (n₀ := n₀) (cal := cal))
  rwa [Nat.zero_add] at this

/-- a statement run by lrF is a piece of the library's -/
theorem piece_of_lrF {k : Nat} {st : Stmt} {env : Env} {c : Code} {pos pos' q : Pos} {s s' : Shared} {n : Nat} (h : lrF p w n₀ (calF tb p w n₀ k) (exec st env) s pos = some (.next, s', pos', n)) :
    segRun tb p w n₀ ann 1 (n + 1) s (pieceOf st env c pos [topFrame q]) = some (.next, s', c, pos') :=
  lrF_sound (calF_ok ann k) (exec st env) _ _ _ _ _ _ h doneF deadEnd id id c [topFrame q] 1 _ (by simp) rfl
end
end Mine
end
noncomputable section
open PySem PySem.W PySem.Calls PyProof.Rows
set_option maxRecDepth 100000
namespace Mine
noncomputable def hashOf (x : Int) : Int :=
  let h : Int := x.natAbs % (2 ^ 61 - 1 : Nat)
  let h := if x < 0 then -h else h
  if h == -1 then -2 else h
theorem hashOf_eq {i : Int} (h0 : 0 ≤ i) (h1 : i < 2 ^ 60) : hashOf i = i := by
  unfold hashOf
  have e : ((i.natAbs % (2 ^ 61 - 1 : Nat) : Nat) : Int) = i := by omega
  simp only [show ¬ i < 0 by omega, if_false]
  have : ((i.natAbs : Int) % ((2 ^ 61 - 1 : Nat) : Int)) = i := by omega
  rw [this, if_neg]
  rw [beq_iff_eq]; omega
theorem reduced_eq {i : Int} (h0 : 0 ≤ i) (h1 : i < 2 ^ 60) : pyHashByItsType.reduced i = pure i := by
  unfold pyHashByItsType.reduced
  have : (decide (-(2 ^ 63 : Int) ≤ i) && decide (i < 2 ^ 63)) = true := by
    rw [Bool.and_eq_true, decide_eq_true_eq, decide_eq_true_eq]; omega
  rw [if_pos this, if_neg]
  rw [beq_iff_eq]; omega
theorem hash_ask (p : Program) (n₀ : Nat) (i : Int) (tk : Tok) (h : Heap) (g : Array GenState) (d : Drawn) (t : Nat) (os : OsState) (q : Pos) (R : Sem Value) : ∀ w : World,
    lrF p w n₀ (calF treeTable p w n₀ 2) (callSpecialIfBoundUnlessNone? (.int i tk) "__hash__" R) ⟨h, g, d, t, os⟩ q = some (some (.int (hashOf i) t), ⟨h, g, d, t + 1, os⟩, q, 5) :=
  byRow2 "special-get-raises" (P := fun w => lrF p w n₀ (calF treeTable p w n₀ 2) (callSpecialIfBoundUnlessNone? (.int i tk) "__hash__" R) ⟨h, g, d, t, os⟩ q = some (some (.int (hashOf i) t), ⟨h, g, d, t + 1, os⟩, q, 5))
    (fun w => by kernel_rfl) (fun w => by kernel_rfl)
theorem hash_spec (p : Program) (n₀ : Nat) (w : World) (i : Int) (tk : Tok) (s : Shared) (q : Pos) (c : Nat) :
    lrF p w n₀ (calF treeTable p w n₀ c) (specialOf (.int i tk) "__hash__") s q = some (some (.builtin "int.__hash__"), s, q, 0) := by kernel_rfl
theorem hash_int {p : Program} {n₀ : Nat} {i : Int} (h0 : 0 ≤ i) (h1 : i < 2 ^ 60) (tk : Tok) (h : Heap) (g : Array GenState) (d : Drawn) (t : Nat) (os : OsState) (q : Pos) (w : World) :
    lrF p w n₀ (calF treeTable p w n₀ 2) (pyHash (.int i tk)) ⟨h, g, d, t, os⟩ q = some (i, ⟨h, g, d, t + 1, os⟩, q, 5) := by
  show lrF p w n₀ (calF treeTable p w n₀ 2) (pyHashByItsType (.int i tk)) ⟨h, g, d, t, os⟩ q = _
  unfold pyHashByItsType
  refine lrF_bind (m := 5) (n := 0) (a := ()) rfl ?_
  refine lrF_bind (m := 5) (n := 0) (hash_spec ..) ?_
  rw [if_neg (by decide)]
  refine lrF_bind (m := 5) (n := 0) (hash_spec ..) ?_
  rw [if_neg (by decide)]
  refine lrF_bind (m := 0) (n := 5) (hash_ask ..) ?_
  dsimp only
  rw [hashOf_eq h0 h1, reduced_eq h0 h1]
  rfl
end Mine
end
noncomputable section
open PySem PySem.W PySem.Calls PyProof.Rows
set_option maxRecDepth 100000
namespace Mine

structure Src where
  k : Nat
  v : Str
structure Ent where
  k : Nat
  tk : Nat
  v : Str
  tv : Nat
noncomputable def Ent.en (e : Ent) : DictEntry := ⟨(e.k : Int), .int e.k e.tk, .str e.v e.tv⟩
noncomputable def dO (l : List Ent) : Obj := { cls := .type "dict", data := .dict (l.map Ent.en).toArray l.length }
noncomputable def pr (P : Pos) (x : Src) : Sem Value × Sem Value := (mkInt x.k, do let y ← mkText x.v; standAt P; pure y)
noncomputable def longE : Nat → List Src → List Ent
  | _, [] => []
  | t, x :: r => ⟨x.k, t, x.v, t + 1⟩ :: longE (t + 3) r
noncomputable def shortE : Nat → List Src → List Ent
  | _, [] => []
  | t, x :: r => ⟨x.k, t, x.v, t + 1⟩ :: shortE (t + 2) r
theorem longE_length : ∀ (t : Nat) (l : List Src), (longE t l).length = l.length
  | _, [] => rfl
  | t, x :: r => by simp [longE, longE_length]
theorem shortE_length : ∀ (t : Nat) (l : List Src), (shortE t l).length = l.length
  | _, [] => rfl
  | t, x :: r => by simp [shortE, shortE_length]
theorem longE_ks : ∀ (t : Nat) (l : List Src), (longE t l).map (·.k) = l.map (·.k)
  | _, [] => rfl
  | t, x :: r => by simp [longE, longE_ks]
theorem shortE_ks : ∀ (t : Nat) (l : List Src), (shortE t l).map (·.k) = l.map (·.k)
  | _, [] => rfl
  | t, x :: r => by simp [shortE, shortE_ks]

/-- heaps -/
theorem get_push_same (h : Heap) (l : List Ent) : (h.push (dO l)).get? h.objs.size = some (dO l) := Heap.get?_push_size _ rfl
theorem update_push_last (h : Heap) (o : Obj) (f : Obj → Obj) : (h.push o).update h.objs.size f = h.push (f o) := by
  obtain ⟨objs, l⟩ := h
  show Heap.mk _ _ = Heap.mk _ _
  congr 1
  apply Array.ext_getElem?
  intro i
  rw [Array.getElem?_modify, Array.getElem?_push, Array.getElem?_push]
  by_cases e : objs.size = i
  · subst e; simp
  · simp [e, Ne.symm e]
theorem update_update (h : Heap) (a : Addr) (f g : Obj → Obj) : (h.update a f).update a g = h.update a (g ∘ f) := by
  obtain ⟨objs, l⟩ := h
  show Heap.mk _ _ = Heap.mk _ _
  congr 1
  apply Array.ext_getElem?
  intro i
  rw [Array.getElem?_modify, Array.getElem?_modify, Array.getElem?_modify]
  by_cases e : a = i
  · subst e; simp
  · simp [e]
theorem update_congr {h : Heap} {a : Addr} {o : Obj} (f g : Obj → Obj) (ho : h.get? a = some o) (e : f o = g o) : h.update a f = h.update a g := by
  obtain ⟨objs, l⟩ := h
  have hh : objs[a]? = some o := by
    unfold Heap.get? at ho
    dsimp only at ho
    split at ho <;> simp_all
  show Heap.mk _ _ = Heap.mk _ _
  congr 1
  apply Array.ext_getElem?
  intro i
  rw [Array.getElem?_modify, Array.getElem?_modify]
  by_cases q : a = i
  · subst q; simp [hh, e]
  · simp [q]
theorem update_id {h : Heap} {a : Addr} {o : Obj} (f : Obj → Obj) (ho : h.get? a = some o) (e : f o = o) : h.update a f = h := by
  rw [update_congr f id ho e]
  obtain ⟨objs, l⟩ := h
  show Heap.mk _ _ = Heap.mk _ _
  congr 1
  apply Array.ext_getElem?
  intro i
  rw [Array.getElem?_modify]
  by_cases q : a = i <;> simp [q]
noncomputable def app (l : List Ent) : Obj → Obj := fun o => l.foldl (fun o e => Obj.mapDictKeys (·.push e.en) o) o
theorem app_dO : ∀ (l m : List Ent), app l (dO m) = dO (m ++ l)
  | [], m => by simp [app]
  | e :: l, m => by
    have : app (e :: l) (dO m) = app l (dO (m ++ [e])) := by
      show app l (Obj.mapDictKeys (·.push e.en) (dO m)) = _
      congr 1
      simp [dO, Obj.mapDictKeys]
    rw [this, app_dO l (m ++ [e])]
    simp

section
variable {p : Program} {w : World} {n₀ : Nat} {cal : Code → Shared → Pos → Option (Flow × Shared × Nat)} {h : Heap} {g : Array GenState} {d : Drawn} {t : Nat} {os : OsState} {q : Pos}
noncomputable abbrev lr {α : Type} (p : Program) (w : World) (n₀ : Nat) (x : Sem α) (s : Shared) (q : Pos) := lrF p w n₀ (calF treeTable p w n₀ 2) x s q

theorem load_ {a : Addr} {part : Option Value} {o : Obj} (ho : h.get? a = some o) : lrF p w n₀ cal (loadPart a part) ⟨h, g, d, t, os⟩ q = some (o, ⟨h, g, d, t, os⟩, q, 1) := by
  simp only [loadPart, lrF]
  rw [ho]; rfl
theorem entries_ {a : Addr} {part : Option Value} {l : List Ent} (ho : h.get? a = some (dO l)) : lrF p w n₀ cal (dictEntries a part) ⟨h, g, d, t, os⟩ q = some ((l.map Ent.en).toArray, ⟨h, g, d, t, os⟩, q, 1) := by
  unfold dictEntries
  exact lrF_bind (m := 0) (load_ ho) rfl
theorem epoch_ {a : Addr} {part : Option Value} {l : List Ent} (ho : h.get? a = some (dO l)) : lrF p w n₀ cal (dictEpoch a part) ⟨h, g, d, t, os⟩ q = some (l.length, ⟨h, g, d, t, os⟩, q, 1) := by
  unfold dictEpoch
  exact lrF_bind (m := 0) (load_ ho) rfl
theorem places_none {l : List Ent} {k : Nat} (hk : k ∉ l.map (·.k)) : placesWithHash (l.map Ent.en).toArray.size (fun i => (l.map Ent.en).toArray[i]?.map (·.hash)) (k : Int) = [] := by
  unfold placesWithHash
  rw [List.filter_eq_nil_iff]
  intro i _ he
  rw [beq_iff_eq] at he
  obtain ⟨e, h1, h2⟩ := Option.map_eq_some_iff.mp he
  rw [List.getElem?_toArray] at h1
  obtain ⟨x, hx, rfl⟩ := List.mem_map.mp (List.mem_of_getElem? h1)
  have : (x.k : Int) = k := h2
  exact hk (List.mem_map.mpr ⟨x, hx, by omega⟩)
theorem find_none {a : Addr} {l : List Ent} {k tk : Nat} (ho : h.get? a = some (dO l)) (hk : k ∉ l.map (·.k)) : lrF p w n₀ cal (dictFind a (.int k tk) k) ⟨h, g, d, t, os⟩ q = some (none, ⟨h, g, d, t, os⟩, q, 1) := by
  unfold dictFind
  refine lrF_holding ?_
  refine lrF_bind (m := 0) (entries_ ho) ?_
  dsimp only
  rw [places_none hk]
  rfl
theorem grow_ {a : Addr} {l : List Ent} {part : Option Value} {e : Ent} (ho : h.get? a = some (dO l)) (hn : Nat.ble n₀ a = true) (hz : l.length < 1000000) :
    lrF p w n₀ cal (updateDictKeys a (·.push e.en) part) ⟨h, g, d, t, os⟩ q = some ((), ⟨h.update a (app [e]), g, d, t, os⟩, q, 3) := by
  unfold updateDictKeys
  refine lrF_bind (m := 2) (load_ ho) ?_
  dsimp only [dO]
  refine lrF_bind (m := 1) (n := 1) (a := ()) (s' := ⟨h.update a (app [e]), g, d, t, os⟩) (q' := q) ?_ ?_
  · simp only [updatePart, lrF]
    rw [hn, ho]; rfl
  · unfold lookBehind
    have : (h.update a (app [e])).get? a = some (dO (l ++ [e])) := by
      rw [← app_dO]; exact Heap.get?_update_self _ ho (by rw [app_dO]; rfl)
    refine lrF_bind (m := 0) (load_ this) ?_
    have z : (dO (l ++ [e])).data.pastItsLine = none := by
      show (if _ > sizeLine + 1 then some "dict:memory" else none) = none
      rw [if_neg]
      rw [List.size_toArray, List.length_map, List.length_append, List.length_singleton, sizeLine_eq]
      omega
    rw [z]; rfl
theorem set_new {a : Addr} {l : List Ent} {k tk tv : Nat} {v : Str} (ho : h.get? a = some (dO l)) (hk : k ∉ l.map (·.k)) (hn : Nat.ble n₀ a = true) (hz : l.length < 1000000) (hb : k < 2 ^ 60) :
    lr p w n₀ (dictSet a (.int k tk) (.str v tv)) ⟨h, g, d, t, os⟩ q = some ((), ⟨h.update a (app [⟨k, tk, v, tv⟩]), g, d, t + 1, os⟩, q, 10) := by
  unfold dictSet
  refine lrF_holding ?_
  refine lrF_bind (n := 5) (m := 5) (hash_int (by omega) (by omega) ..) ?_
  unfold dictSetHashed
  refine lrF_holding ?_
  refine lrF_bind (n := 1) (m := 4) (find_none ho hk) ?_
  dsimp only
  exact lrF_bind (n := 1) (m := 3) (a := ()) rfl (grow_ (e := ⟨k, tk, v, tv⟩) ho hn hz)

theorem get_app {a : Addr} {l m : List Ent} (ho : h.get? a = some (dO l)) : (h.update a (app m)).get? a = some (dO (l ++ m)) := by
  rw [← app_dO]; exact Heap.get?_update_self _ ho (by rw [app_dO]; rfl)
theorem app_app {a : Addr} {l m r : List Ent} (ho : h.get? a = some (dO l)) : (h.update a (app m)).update a (app r) = h.update a (app (m ++ r)) := by
  rw [update_update]
  refine update_congr _ _ ho ?_
  show app r (app m (dO l)) = _
  rw [app_dO, app_dO, app_dO, List.append_assoc]

/-- the display of a run of seventeen (sixteen or more): one by one -/
theorem long_loop {a : Addr} {P : Pos} (hn : Nat.ble n₀ a = true) : ∀ (r : List Src) (h : Heap) (l : List Ent) (t : Nat) (q : Pos), h.get? a = some (dO l) → (l.map (·.k) ++ r.map (·.k)).Nodup → l.length + r.length < 1000000 → (∀ x ∈ r, x.k < 2 ^ 60) →
    ∃ q', lr p w n₀ (forIn (r.map (pr P)) PUnit.unit fun (x : Sem Value × Sem Value) (_ : PUnit) => (do
        let kv ← x.1
        let vv ← holding [kv] x.2
        holding [kv, vv] (dictSet a kv vv)
        pure (ForInStep.yield PUnit.unit) : Sem (ForInStep PUnit))) ⟨h, g, d, t, os⟩ q = some (PUnit.unit, ⟨h.update a (app (longE t r)), g, d, t + 3 * r.length, os⟩, q', 13 * r.length)
  | [], h, l, t, q, ho, _, _, _ => ⟨q, by
      rw [List.map_nil, List.forIn_nil]
      have : h.update a (app (longE t [])) = h := update_id _ ho rfl
      rw [this]; rfl⟩
  | x :: r, h, l, t, q, ho, hnd, hz, hb => by
    have hk : x.k ∉ l.map (·.k) := by
      intro hm
      rw [List.map_cons, List.nodup_append] at hnd
      exact hnd.2.2 _ hm _ (.head _) rfl
    have hnd' : ((l ++ [(⟨x.k, t, x.v, t + 1⟩ : Ent)]).map (·.k) ++ r.map (·.k)).Nodup := by simpa using hnd
    rw [List.length_cons] at hz
    obtain ⟨q', ih⟩ := long_loop (P := P) hn r (h.update a (app [⟨x.k, t, x.v, t + 1⟩])) (l ++ [⟨x.k, t, x.v, t + 1⟩]) (t + 3) P (get_app ho) hnd' (by simp; omega) (fun y hy => hb y (.tail _ hy))
    refine ⟨q', ?_⟩
    rw [List.map_cons, List.forIn_cons]
    have step : lr p w n₀ (do
        let kv ← (pr P x).1
        let vv ← holding [kv] (pr P x).2
        holding [kv, vv] (dictSet a kv vv)
        pure (ForInStep.yield PUnit.unit) : Sem (ForInStep PUnit)) ⟨h, g, d, t, os⟩ q = some (.yield PUnit.unit, ⟨h.update a (app [⟨x.k, t, x.v, t + 1⟩]), g, d, t + 3, os⟩, P, 13) := by
      refine lrF_bind (n := 1) (m := 12) (a := .int x.k t) (s' := ⟨h, g, d, t + 1, os⟩) (q' := q) rfl ?_
      refine lrF_bind (n := 2) (m := 10) (a := .str x.v (t + 1)) (s' := ⟨h, g, d, t + 2, os⟩) (q' := P) (lrF_holding rfl) ?_
      exact lrF_bind (n := 10) (m := 0) (lrF_holding (set_new ho hk hn (by omega) (hb x (.head _)))) rfl
    rw [show longE t (x :: r) = [⟨x.k, t, x.v, t + 1⟩] ++ longE (t + 3) r from rfl, ← app_app ho]
    rw [show t + 3 * (x :: r).length = t + 3 + 3 * r.length by simp; omega, show 13 * (x :: r).length = 13 * r.length + 13 by simp; omega]
    exact lrF_bind step ih

theorem push_app (h : Heap) (l m : List Ent) : (h.push (dO l)).update h.objs.size (app m) = h.push (dO (l ++ m)) := by
  rw [update_push_last, app_dO]

theorem sub_long {P : Pos} {r : List Src} (hn : Nat.ble n₀ h.objs.size = true) (hl : 15 < r.length) (hnd : (r.map (·.k)).Nodup) (hz : r.length < 1000000) (hb : ∀ x ∈ r, x.k < 2 ^ 60) :
    ∃ q', lr p w n₀ (subDict (r.map (pr P))) ⟨h, g, d, t, os⟩ q = some (h.objs.size, ⟨h.push (dO (longE t r)), g, d, t + 3 * r.length, os⟩, q', 13 * r.length + 2) := by
  obtain ⟨q', e⟩ := long_loop (p := p) (w := w) (n₀ := n₀) (g := g) (d := d) (os := os) (P := P) hn r (h.push (dO [])) [] t q (get_push_same h []) (by simpa using hnd) (by simpa using hz) hb
  rw [push_app, List.nil_append] at e
  refine ⟨q', ?_⟩
  unfold subDict
  refine lrF_bind (n := 1) (m := 13 * r.length + 1) (a := h.objs.size) (s' := ⟨h.push (dO []), g, d, t, os⟩) (q' := q) rfl ?_
  refine lrF_ret (a := ()) (s' := ⟨h.push (dO (longE t r)), g, d, t + 3 * r.length, os⟩) (q' := q') (lrF_holding ?_) rfl
  rw [if_neg (by rw [List.length_map]; omega)]
  refine lrF_bind (n := 1) (m := 13 * r.length) (a := ()) (s' := ⟨h.push (dO []), g, d, t, os⟩) (q' := q) rfl ?_
  exact lrF_ret e rfl

noncomputable def pairsOf (l : List Ent) : List (Value × Value) := l.map fun e => (.int e.k e.tk, .str e.v e.tv)
theorem pairs_ {P : Pos} : ∀ (r : List Src) (t : Nat) (q : Pos), ∃ q', lr p w n₀ (evalPairs (r.map (pr P))) ⟨h, g, d, t, os⟩ q = some (pairsOf (shortE t r), ⟨h, g, d, t + 2 * r.length, os⟩, q', 3 * r.length)
  | [], t, q => ⟨q, rfl⟩
  | x :: r, t, q => by
    obtain ⟨q', e⟩ := pairs_ (P := P) r (t + 2) P
    refine ⟨q', ?_⟩
    rw [List.map_cons]
    show lr p w n₀ (evalPairs ((mkInt x.k, do let y ← mkText x.v; standAt P; pure y) :: r.map (pr P))) _ q = _
    rw [evalPairs]
    rw [show t + 2 * (x :: r).length = t + 2 + 2 * r.length by simp; omega, show 3 * (x :: r).length = (3 * r.length + 2) + 1 by simp; omega]
    refine lrF_bind (n := 1) (m := 3 * r.length + 2) (a := .int x.k t) (s' := ⟨h, g, d, t + 1, os⟩) (q' := q) rfl ?_
    refine lrF_bind (n := 2) (m := 3 * r.length) (a := .str x.v (t + 1)) (s' := ⟨h, g, d, t + 2, os⟩) (q' := P) (lrF_holding rfl) ?_
    refine lrF_ret (lrF_holding e) ?_
    rfl
theorem store_loop {a : Addr} (hn : Nat.ble n₀ a = true) : ∀ (r : List Ent) (h : Heap) (l : List Ent) (t : Nat) (q : Pos), h.get? a = some (dO l) → (l.map (·.k) ++ r.map (·.k)).Nodup → l.length + r.length < 1000000 → (∀ x ∈ r, x.k < 2 ^ 60) →
    lr p w n₀ (forIn (pairsOf r) PUnit.unit fun (x : Value × Value) (_ : PUnit) => (do dictSet a x.1 x.2; pure (ForInStep.yield PUnit.unit) : Sem (ForInStep PUnit))) ⟨h, g, d, t, os⟩ q = some (PUnit.unit, ⟨h.update a (app r), g, d, t + r.length, os⟩, q, 10 * r.length)
  | [], h, l, t, q, ho, _, _, _ => by
      show lr p w n₀ (forIn [] PUnit.unit _) _ q = _
      rw [List.forIn_nil]
      have : h.update a (app []) = h := update_id _ ho rfl
      rw [this]; rfl
  | x :: r, h, l, t, q, ho, hnd, hz, hb => by
    have hk : x.k ∉ l.map (·.k) := by
      intro hm
      rw [List.map_cons, List.nodup_append] at hnd
      exact hnd.2.2 _ hm _ (.head _) rfl
    have hnd' : ((l ++ [x]).map (·.k) ++ r.map (·.k)).Nodup := by simpa using hnd
    rw [List.length_cons] at hz
    have ih := store_loop hn r (h.update a (app [x])) (l ++ [x]) (t + 1) q (get_app ho) hnd' (by simp; omega) (fun y hy => hb y (.tail _ hy))
    show lr p w n₀ (forIn ((.int x.k x.tk, .str x.v x.tv) :: pairsOf r) PUnit.unit _) _ q = _
    rw [List.forIn_cons]
    rw [show t + (x :: r).length = t + 1 + r.length by simp; omega, show 10 * (x :: r).length = 10 * r.length + 10 by simp; omega]
    rw [show x :: r = [x] ++ r from rfl, ← app_app ho]
    exact lrF_bind (n := 10) (m := 10 * r.length) (a := ForInStep.yield PUnit.unit) (lrF_bind (n := 10) (m := 0) (set_new ho hk hn (by omega) (hb x (.head _))) rfl) ih
theorem sub_short {P : Pos} {r : List Src} (hn : Nat.ble n₀ h.objs.size = true) (hl : r.length ≤ 15) (hnd : (r.map (·.k)).Nodup) (hb : ∀ x ∈ r, x.k < 2 ^ 60) :
    ∃ q', lr p w n₀ (subDict (r.map (pr P))) ⟨h, g, d, t, os⟩ q = some (h.objs.size, ⟨h.push (dO (shortE t r)), g, d, t + 3 * r.length, os⟩, q', 13 * r.length + 1) := by
  obtain ⟨q', e⟩ := pairs_ (p := p) (w := w) (n₀ := n₀) (h := h.push (dO [])) (g := g) (d := d) (os := os) (P := P) r t q
  have hk : (shortE t r).map (·.k) = r.map (·.k) := shortE_ks t r
  have e2 := store_loop (p := p) (w := w) (n₀ := n₀) (g := g) (d := d) (os := os) hn (shortE t r) (h.push (dO [])) [] (t + 2 * r.length) q' (get_push_same h []) (by rw [hk]; simpa using hnd) (by rw [shortE_length]; simp; omega) (fun x hx => by
    have : x.k ∈ (shortE t r).map (·.k) := List.mem_map_of_mem hx
    rw [hk] at this
    obtain ⟨y, hy, e⟩ := List.mem_map.mp this
    rw [← e]; exact hb y hy)
  rw [push_app, List.nil_append, shortE_length] at e2
  refine ⟨q', ?_⟩
  unfold subDict
  refine lrF_bind (n := 1) (m := 13 * r.length) (a := h.objs.size) (s' := ⟨h.push (dO []), g, d, t, os⟩) (q' := q) rfl ?_
  refine lrF_ret (a := ()) (s' := ⟨h.push (dO (shortE t r)), g, d, t + 3 * r.length, os⟩) (q' := q') (lrF_holding ?_) rfl
  rw [if_pos (by rw [List.length_map]; omega)]
  rw [show 13 * r.length = 10 * r.length + 3 * r.length by omega, show t + 3 * r.length = t + 2 * r.length + r.length by omega]
  exact lrF_bind (n := 3 * r.length) (m := 10 * r.length) e (lrF_holding (lrF_ret e2 rfl))

theorem put_new {a : Addr} {l : List Ent} {e : Ent} (ho : h.get? a = some (dO l)) (hk : e.k ∉ l.map (·.k)) (hn : Nat.ble n₀ a = true) (hz : l.length < 1000000) :
    lrF p w n₀ cal (dictPut a e.en.hash e.en.key e.en.val) ⟨h, g, d, t, os⟩ q = some ((), ⟨h.update a (app [e]), g, d, t, os⟩, q, 4) := by
  unfold dictPut
  refine lrF_bind (n := 1) (m := 3) (find_none (k := e.k) (tk := e.tk) ho hk) ?_
  exact grow_ (e := e) ho hn hz
theorem app_ne {a b : Addr} {l : List Ent} {o : Obj} (hne : b ≠ a) (ho : h.get? b = some o) : (h.update a (app l)).get? b = some o := (Heap.get?_update_ne _ _ _ _ hne).trans ho
theorem merge_loop {dm ds : Addr} {es : List Ent} (hne : ds ≠ dm) (hn : Nat.ble n₀ dm = true) (hz : es.length < 100000) : ∀ (k i : Nat) (h : Heap) (m : List Ent), i + k = es.length → h.get? dm = some (dO m) → h.get? ds = some (dO es) → (m.map (·.k) ++ (es.drop i).map (·.k)).Nodup → m.length + k < 1000000 →
    lr p w n₀ (forIn (List.range' i k) PUnit.unit fun (i : Nat) (_ : PUnit) => (do
        let some e := (← dictEntries ds)[i]? | unsupported "dict.changed-during-merge"
        holding [e.key, e.val] do
          if false then
            if (← dictFind dm e.key e.hash).isSome then rule "dict.merge.duplicate-key"; raiseNew (← newExc (.type "KeyError") [e.key])
          dictPut dm e.hash e.key e.val
        if (← dictEpoch ds) != es.length then unsupported "dict.changed-during-merge"
        pure (ForInStep.yield PUnit.unit) : Sem (ForInStep PUnit))) ⟨h, g, d, t, os⟩ q = some (PUnit.unit, ⟨h.update dm (app (es.drop i)), g, d, t, os⟩, q, 6 * k)
  | 0, i, h, m, hi, h1, h2, _, _ => by
    rw [List.drop_of_length_le (by omega)]
    have : h.update dm (app []) = h := update_id _ h1 rfl
    rw [this]; rfl
  | k + 1, i, h, m, hi, h1, h2, hnd, hm => by
    have hlt : i < es.length := by omega
    have hd : es.drop i = es[i] :: es.drop (i + 1) := List.drop_eq_getElem_cons hlt
    rw [hd] at hnd ⊢
    have hk : es[i].k ∉ m.map (·.k) := by
      intro hm
      rw [List.map_cons, List.nodup_append] at hnd
      exact hnd.2.2 _ hm _ (.head _) rfl
    have hnd' : ((m ++ [es[i]]).map (·.k) ++ (es.drop (i + 1)).map (·.k)).Nodup := by
      simp only [List.map_append, List.map_cons, List.map_nil, List.append_assoc, List.singleton_append]
      exact hnd
    have ih := merge_loop hne hn hz k (i + 1) (h.update dm (app [es[i]])) (m ++ [es[i]]) (by omega) (get_app h1) (app_ne hne h2) hnd' (by simp; omega)
    rw [List.range'_succ, List.forIn_cons]
    rw [show es[i] :: es.drop (i + 1) = [es[i]] ++ es.drop (i + 1) from rfl, ← app_app h1]
    refine lrF_bind (n := 6) (m := 6 * k) (a := ForInStep.yield PUnit.unit) ?_ ih
    refine lrF_bind (n := 1) (m := 5) (entries_ h2) ?_
    have e0 : (es.map Ent.en).toArray[i]? = some es[i].en := by
      rw [List.getElem?_toArray, List.getElem?_map, List.getElem?_eq_getElem hlt]; rfl
    rw [e0]
    dsimp only
    refine lrF_bind (n := 4) (m := 1) (a := ()) (s' := ⟨h.update dm (app [es[i]]), g, d, t, os⟩) (q' := q) (lrF_holding ?_) ?_
    · rw [if_neg (by decide)]
      exact put_new h1 hk hn (by omega)
    · refine lrF_bind (n := 1) (m := 0) (epoch_ (app_ne hne h2)) ?_
      rw [if_neg (by simp)]
      rfl

theorem isDict_ {a : Addr} {l : List Ent} (ho : h.get? a = some (dO l)) : lr p w n₀ (isInstance (.ref a) (.type "dict")) ⟨h, g, d, t, os⟩ q = some (true, ⟨h, g, d, t, os⟩, q, 1) := by
  have e : lr p w n₀ (typeOf (.ref a)) ⟨h, g, d, t, os⟩ q = some (.type "dict", ⟨h, g, d, t, os⟩, q, 1) := by
    show lr p w n₀ (do return (← load a).cls) _ _ = _
    exact lrF_ret (load_ ho) rfl
  have e2 : lr p w n₀ (isSubtype (.type "dict") (.type "dict")) ⟨h, g, d, t, os⟩ q = some (true, ⟨h, g, d, t, os⟩, q, 0) := by kernel_rfl
  exact lrF_ret e e2
theorem iterOf_ {a : Addr} {l : List Ent} (ho : h.get? a = some (dO l)) : lr p w n₀ (specialOf (.ref a) "__iter__") ⟨h, g, d, t, os⟩ q = some (some (.builtin "dict.__iter__"), ⟨h, g, d, t, os⟩, q, 1) := by
  have e : lr p w n₀ (typeOf (.ref a)) ⟨h, g, d, t, os⟩ q = some (.type "dict", ⟨h, g, d, t, os⟩, q, 1) := by
    show lr p w n₀ (do return (← load a).cls) _ _ = _
    exact lrF_ret (load_ ho) rfl
  have e2 : lr p w n₀ (typeLookup (.type "dict") "__iter__") ⟨h, g, d, t, os⟩ q = some (some (.builtin "dict.__iter__"), ⟨h, g, d, t, os⟩, q, 0) := by kernel_rfl
  exact lrF_ret e e2
theorem merge_ {dm ds : Addr} {m es : List Ent} (hne : ds ≠ dm) (hs : ds ≠ sysModules) (hn : Nat.ble n₀ dm = true) (hz : es.length < 100000) (h1 : h.get? dm = some (dO m)) (h2 : h.get? ds = some (dO es)) (hm0 : m ≠ []) (hnd : (m.map (·.k) ++ es.map (·.k)).Nodup) (hm : m.length + es.length < 1000000) :
    lr p w n₀ (mergeMapping dm (.ref ds) false) ⟨h, g, d, t, os⟩ q = some ((), ⟨h.update dm (app es), g, d, t, os⟩, q, 6 * es.length + 5) := by
  have L := merge_loop (p := p) (w := w) (n₀ := n₀) (g := g) (d := d) (t := t) (os := os) (q := q) hne hn hz es.length 0 h m (by omega) h1 h2 (by simpa using hnd) hm
  rw [List.drop_zero] at L
  unfold mergeMapping
  refine lrF_bind (n := 1) (m := 6 * es.length + 4) (isDict_ h2) ?_
  dsimp only
  rw [if_pos rfl]
  refine lrF_bind (n := 1) (m := 6 * es.length + 3) (iterOf_ h2) ?_
  refine lrF_bind (n := 0) (m := 6 * es.length + 3) (a := true) (s' := ⟨h, g, d, t, os⟩) (q' := q) rfl ?_
  dsimp only
  rw [if_neg (by rw [beq_iff_eq]; exact hs)]
  refine lrF_bind (n := 1) (m := 6 * es.length + 2) (entries_ h1) ?_
  rw [if_neg (by cases m with | nil => exact absurd rfl hm0 | cons _ _ => simp)]
  refine lrF_bind (n := 1) (m := 6 * es.length + 1) (entries_ h2) ?_
  refine lrF_bind (n := 1) (m := 6 * es.length) (epoch_ h2) ?_
  rw [List.size_toArray, List.length_map, List.range_eq_range']
  exact lrF_ret L rfl
end
end Mine
end
noncomputable section
open PySem PySem.W PySem.Calls PyProof.Rows
set_option maxRecDepth 100000
namespace Mine

noncomputable def hp (h0 : Heap) (m : List Ent) : List (List Ent) → Heap
  | [] => h0.push (dO m)
  | s :: r => (hp h0 m r).push (dO s)
theorem hp_size (h0 : Heap) (m : List Ent) : ∀ r, (hp h0 m r).objs.size = h0.objs.size + 1 + r.length
  | [] => by show (h0.push _).objs.size = _; rw [Heap.size_push]; rfl
  | s :: r => by show ((hp h0 m r).push _).objs.size = _; rw [Heap.size_push, hp_size h0 m r]; simp; omega
theorem hp_main (h0 : Heap) (m : List Ent) : ∀ r, (hp h0 m r).get? h0.objs.size = some (dO m)
  | [] => get_push_same h0 m
  | _ :: r => Heap.get?_push_of_some _ (hp_main h0 m r)
theorem update_push_ne (h : Heap) (o : Obj) (a : Addr) (f : Obj → Obj) (ha : a < h.objs.size) : (h.push o).update a f = (h.update a f).push o := by
  obtain ⟨objs, l⟩ := h
  show Heap.mk _ _ = Heap.mk _ _
  congr 1
  apply Array.ext_getElem?
  intro i
  have ha' : a < objs.size := ha
  rw [Array.getElem?_modify, Array.getElem?_push, Array.getElem?_push, Array.getElem?_modify, Array.size_modify]
  by_cases e : a = i
  · subst e
    have : a ≠ objs.size := Nat.ne_of_lt ha'
    simp [this]
  · simp [e]
theorem hp_lt (h0 : Heap) (m : List Ent) (r : List (List Ent)) : @LT.lt Nat _ h0.objs.size (hp h0 m r).objs.size := by rw [hp_size]; omega
theorem hp_app (h0 : Heap) (m s : List Ent) : ∀ r, (hp h0 m r).update h0.objs.size (app s) = hp h0 (m ++ s) r
  | [] => push_app h0 m s
  | x :: r => by
    show ((hp h0 m r).push _).update _ _ = (hp h0 (m ++ s) r).push _
    rw [update_push_ne _ _ _ _ (hp_lt h0 m r), hp_app h0 m s r]

structure DS where
  main : List Ent
  subs : List (List Ent)
  t : Nat
noncomputable def subE (t : Nat) (run : List Src) : List Ent := if run.length ≤ 15 then shortE t run else longE t run
theorem subE_length (t : Nat) (run : List Src) : (subE t run).length = run.length := by
  unfold subE; split
  · exact shortE_length t run
  · exact longE_length t run
theorem subE_ks (t : Nat) (run : List Src) : (subE t run).map (·.k) = run.map (·.k) := by
  unfold subE; split
  · exact shortE_ks t run
  · exact longE_ks t run
noncomputable def flushS (run : List Src) (σ : DS) : DS := match run with
  | [] => σ
  | run => match σ.main with
    | [] => ⟨subE σ.t run, [], σ.t + 3 * run.length⟩
    | m => ⟨m ++ subE σ.t run, subE σ.t run :: σ.subs, σ.t + 3 * run.length⟩
noncomputable def flushN (run : List Src) (σ : DS) : Nat := match run with
  | [] => 0
  | run => (match σ.main with | [] => 0 | _ => 6 * run.length + 5) + (if run.length ≤ 15 then 13 * run.length + 1 else 13 * run.length + 2)
noncomputable def heapS (h0 : Heap) (σ : DS) : Heap := match σ.main with
  | [] => h0
  | m => hp h0 m σ.subs
noncomputable def mainS (h0 : Heap) (σ : DS) : Option Addr := match σ.main with
  | [] => none
  | _ => some h0.objs.size
noncomputable def shS (h0 : Heap) (g : Array GenState) (d : Drawn) (os : OsState) (σ : DS) : Shared := ⟨heapS h0 σ, g, d, σ.t, os⟩
noncomputable def evo : List Src → List Src → DS → List Src × DS
  | [], run, σ => (run, σ)
  | x :: xs, run, σ => if (run ++ [x]).length == 17 then evo xs [] (flushS (run ++ [x]) σ) else evo xs (run ++ [x]) σ
noncomputable def evoN : List Src → List Src → DS → Nat
  | [], _, _ => 0
  | x :: xs, run, σ => if (run ++ [x]).length == 17 then evoN xs [] (flushS (run ++ [x]) σ) + flushN (run ++ [x]) σ else evoN xs (run ++ [x]) σ

noncomputable def flushT (run : List (Sem Value × Sem Value)) (main : Option Addr) : Sem (Option Addr) := do
    if run.isEmpty then return main
    match main with
    | none => return some (← subDict run)
    | some d =>
      let sub ← holding [.ref d] (subDict run)
      (holding [.ref d, .ref sub] (mergeMapping d (.ref sub) false)).onRaise fun x => do let _ ← holding [.ref d, x] (runValue (.builtin "proto.let_go" {}))
      return some d

section
variable {p : Program} {w : World} {n₀ : Nat} {h0 : Heap} {g : Array GenState} {d : Drawn} {os : OsState}
noncomputable def Good (run : List Src) (σ : DS) : Prop := (σ.main.map (·.k) ++ run.map (·.k)).Nodup ∧ σ.main.length + run.length < 100000 ∧ (∀ x ∈ run, x.k < 2 ^ 60)

theorem sub_ {P : Pos} {h : Heap} {t : Nat} {q : Pos} {run : List Src} (hn : Nat.ble n₀ h.objs.size = true) (hnd : (run.map (·.k)).Nodup) (hz : run.length < 100000) (hb : ∀ x ∈ run, x.k < 2 ^ 60) :
    ∃ q', lr p w n₀ (subDict (run.map (pr P))) ⟨h, g, d, t, os⟩ q = some (h.objs.size, ⟨h.push (dO (subE t run)), g, d, t + 3 * run.length, os⟩, q', if run.length ≤ 15 then 13 * run.length + 1 else 13 * run.length + 2) := by
  unfold subE
  by_cases hl : run.length ≤ 15
  · rw [if_pos hl, if_pos hl]; exact sub_short hn hl hnd hb
  · rw [if_neg hl, if_neg hl]; exact sub_long hn (by omega) hnd (by omega) hb

theorem flush_ {P : Pos} {run : List Src} {σ : DS} {q : Pos} (hn : Nat.ble n₀ h0.objs.size = true) (h1 : 1 < h0.objs.size) (G : Good run σ) :
    ∃ q', lr p w n₀ (flushT (run.map (pr P)) (mainS h0 σ)) (shS h0 g d os σ) q = some (mainS h0 (flushS run σ), shS h0 g d os (flushS run σ), q', flushN run σ) := by
  obtain ⟨g1, g2, g3⟩ := G
  cases run with
  | nil => exact ⟨q, rfl⟩
  | cons x r =>
    obtain ⟨main, subs, t⟩ := σ
    have hnd : ((x :: r).map (·.k)).Nodup := (List.nodup_append.mp g1).2.1
    cases main with
    | nil =>
      obtain ⟨q', e⟩ := sub_ (p := p) (w := w) (n₀ := n₀) (g := g) (d := d) (os := os) (P := P) (h := h0) (t := t) (q := q) hn hnd (by simpa using g2) g3
      refine ⟨q', ?_⟩
      unfold flushT
      rw [if_neg (by simp)]
      have hm : subE t (x :: r) ≠ [] := by
        intro z
        have := congrArg List.length z
        rw [subE_length] at this
        simp at this
      have e1 : mainS h0 (flushS (x :: r) ⟨[], subs, t⟩) = some h0.objs.size := by
        show (match subE t (x :: r) with | [] => none | _ => some h0.objs.size) = _
        cases hq : subE t (x :: r) with
        | nil => exact absurd hq hm
        | cons _ _ => rfl
      have e2 : shS h0 g d os (flushS (x :: r) ⟨[], subs, t⟩) = ⟨h0.push (dO (subE t (x :: r))), g, d, t + 3 * (x :: r).length, os⟩ := by
        show Shared.mk (match subE t (x :: r) with | [] => h0 | m => hp h0 m []) _ _ _ _ = _
        cases hq : subE t (x :: r) with
        | nil => exact absurd hq hm
        | cons _ _ => rfl
      rw [e1, e2, show flushN (x :: r) ⟨[], subs, t⟩ = (if (x :: r).length ≤ 15 then 13 * (x :: r).length + 1 else 13 * (x :: r).length + 2) from Nat.zero_add _]
      exact lrF_ret e rfl
    | cons y m =>
      have hsz := hp_size h0 (y :: m) subs
      have hnd2 : ((y :: m).map (·.k) ++ (subE t (x :: r)).map (·.k)).Nodup := by rw [subE_ks]; exact g1
      have g2' : (y :: m).length + (x :: r).length < 100000 := g2
      obtain ⟨q', e⟩ := sub_ (p := p) (w := w) (n₀ := n₀) (g := g) (d := d) (os := os) (P := P) (h := hp h0 (y :: m) subs) (t := t) (q := q) (by rw [hsz]; exact Nat.ble_eq_true_of_le (by have := Nat.le_of_ble_eq_true hn; omega)) hnd (by omega) g3
      have M := merge_ (p := p) (w := w) (n₀ := n₀) (g := g) (d := d) (t := t + 3 * (x :: r).length) (os := os) (q := q') (dm := h0.objs.size) (ds := (hp h0 (y :: m) subs).objs.size) (h := (hp h0 (y :: m) subs).push (dO (subE t (x :: r)))) (m := y :: m) (es := subE t (x :: r))
        (Nat.ne_of_gt (hp_lt h0 (y :: m) subs)) (Nat.ne_of_gt (Nat.lt_trans h1 (hp_lt h0 (y :: m) subs))) hn (by rw [subE_length]; omega) (Heap.get?_push_of_some _ (hp_main h0 (y :: m) subs)) (get_push_same _ _) (by simp) hnd2 (by rw [subE_length]; omega)
      refine ⟨q', ?_⟩
      unfold flushT
      rw [if_neg (by simp)]
      have e2 : shS h0 g d os (flushS (x :: r) ⟨y :: m, subs, t⟩) = ⟨((hp h0 (y :: m) subs).push (dO (subE t (x :: r)))).update h0.objs.size (app (subE t (x :: r))), g, d, t + 3 * (x :: r).length, os⟩ := by
        rw [update_push_ne _ _ _ _ (hp_lt h0 (y :: m) subs), hp_app]; rfl
      rw [e2]
      show lr p w n₀ _ ⟨hp h0 (y :: m) subs, g, d, t, os⟩ q = some (some h0.objs.size, _, q', (6 * (x :: r).length + 5) + (if (x :: r).length ≤ 15 then 13 * (x :: r).length + 1 else 13 * (x :: r).length + 2))
      refine lrF_bind (lrF_holding e) ?_
      rw [subE_length] at M
      exact lrF_ret (lrF_onRaise (lrF_holding M)) rfl

noncomputable def itemOf (P : Pos) (x : Src) : Option (Sem Value) × Sem Value := (some (pr P x).1, (pr P x).2)
theorem good_next {x : Src} {xs run : List Src} {σ : DS} (G : Good (run ++ x :: xs) σ) : Good ((run ++ [x]) ++ xs) σ := by
  rwa [List.append_assoc]
theorem good_front {a b : List Src} {σ : DS} (G : Good (a ++ b) σ) : Good a σ := by
  obtain ⟨g1, g2, g3⟩ := G
  refine ⟨?_, ?_, fun x hx => g3 x (List.mem_append_left _ hx)⟩
  · rw [List.map_append, ← List.append_assoc] at g1
    exact (List.nodup_append.mp g1).1
  · rw [List.length_append] at g2; omega
theorem good_flush {a b : List Src} {σ : DS} (ha : a ≠ []) (G : Good (a ++ b) σ) : Good b (flushS a σ) := by
  obtain ⟨g1, g2, g3⟩ := G
  obtain ⟨main, subs, t⟩ := σ
  have hk : (flushS a ⟨main, subs, t⟩).main.map (·.k) = main.map (·.k) ++ a.map (·.k) := by
    cases a with
    | nil => exact absurd rfl ha
    | cons x r =>
      cases main with
      | nil => show (subE t (x :: r)).map _ = _; rw [subE_ks]; rfl
      | cons y m => show (y :: m ++ subE t (x :: r)).map _ = _; rw [List.map_append, subE_ks]
  refine ⟨?_, ?_, fun x hx => g3 x (List.mem_append_right _ hx)⟩
  · rw [hk, List.append_assoc, ← List.map_append]; exact g1
  · have : (flushS a ⟨main, subs, t⟩).main.length = main.length + a.length := by
      have := congrArg List.length hk
      simpa using this
    rw [this]; rw [List.length_append] at g2; simp only at g2; omega

theorem disp_loop {P : Pos} (hn : Nat.ble n₀ h0.objs.size = true) (h1 : 1 < h0.objs.size) (f : (Option (Sem Value) × Sem Value) → (Option Addr × List (Sem Value × Sem Value)) → Sem (ForInStep (Option Addr × List (Sem Value × Sem Value))))
    (hf : ∀ k v m run, f (some k, v) (m, run) = if (run ++ [(k, v)]).length == 17 then (flushT (run ++ [(k, v)]) m >>= fun main => pure (.yield (main, []))) else pure (.yield (m, run ++ [(k, v)]))) :
    ∀ (xs run : List Src) (σ : DS) (q : Pos), Good (run ++ xs) σ →
    ∃ q', lr p w n₀ (forIn (xs.map (itemOf P)) (mainS h0 σ, run.map (pr P)) f) (shS h0 g d os σ) q =
      some ((mainS h0 (evo xs run σ).2, (evo xs run σ).1.map (pr P)), shS h0 g d os (evo xs run σ).2, q', evoN xs run σ)
  | [], run, σ, q, _ => ⟨q, by rw [List.map_nil, List.forIn_nil]; rfl⟩
  | x :: xs, run, σ, q, G => by
    rw [List.map_cons, List.forIn_cons]
    have G2 := good_next G
    have hmap : run.map (pr P) ++ [((pr P x).1, (pr P x).2)] = (run ++ [x]).map (pr P) := by rw [List.map_append]; rfl
    by_cases hl : ((run ++ [x]).length == 17) = true
    · obtain ⟨q1, e1⟩ := flush_ (p := p) (w := w) (n₀ := n₀) (g := g) (d := d) (os := os) (P := P) (q := q) hn h1 (good_front G2)
      obtain ⟨q2, e2⟩ := disp_loop hn h1 f hf xs [] (flushS (run ++ [x]) σ) q1 (good_flush (by simp) G2)
      refine ⟨q2, ?_⟩
      rw [show evo (x :: xs) run σ = evo xs [] (flushS (run ++ [x]) σ) from if_pos hl, show evoN (x :: xs) run σ = evoN xs [] (flushS (run ++ [x]) σ) + flushN (run ++ [x]) σ from if_pos hl]
      refine lrF_bind (a := ForInStep.yield (mainS h0 (flushS (run ++ [x]) σ), [])) (n := flushN (run ++ [x]) σ) ?_ e2
      rw [show itemOf P x = (some (pr P x).1, (pr P x).2) from rfl, hf, hmap, List.length_map, if_pos hl]
      exact lrF_ret e1 rfl
    · obtain ⟨q2, e2⟩ := disp_loop hn h1 f hf xs (run ++ [x]) σ q G2
      refine ⟨q2, ?_⟩
      rw [show evo (x :: xs) run σ = evo xs (run ++ [x]) σ from if_neg hl, show evoN (x :: xs) run σ = evoN xs (run ++ [x]) σ from if_neg hl]
      refine lrF_bind (a := ForInStep.yield (mainS h0 σ, (run ++ [x]).map (pr P))) (n := 0) ?_ e2
      rw [show itemOf P x = (some (pr P x).1, (pr P x).2) from rfl, hf, hmap, List.length_map, if_neg hl]
      rfl

theorem dictDisplay_ex (items : List (Option (Sem Value) × Sem Value)) : ∃ f : (Option (Sem Value) × Sem Value) → (Option Addr × List (Sem Value × Sem Value)) → Sem (ForInStep (Option Addr × List (Sem Value × Sem Value))),
    (∀ k v m run, f (some k, v) (m, run) = if (run ++ [(k, v)]).length == 17 then (flushT (run ++ [(k, v)]) m >>= fun main => pure (.yield (main, []))) else pure (.yield (m, run ++ [(k, v)]))) ∧
    dictDisplay items = (forIn items ((none : Option Addr), ([] : List (Sem Value × Sem Value))) f >>= fun r => flushT r.2 r.1 >>= fun m => match m with
    | some d => pure (.ref d)
    | none => newDict) := by
  unfold dictDisplay
  refine ⟨_, ?_, rfl⟩
  intro k v m run
  rfl
noncomputable def disp0 (t : Nat) : DS := ⟨[], [], t⟩
noncomputable def dispS (xs : List Src) (t : Nat) : DS := flushS (evo xs [] (disp0 t)).1 (evo xs [] (disp0 t)).2
noncomputable def dispN (xs : List Src) (t : Nat) : Nat := flushN (evo xs [] (disp0 t)).1 (evo xs [] (disp0 t)).2 + evoN xs [] (disp0 t)
theorem good_evo : ∀ (xs run : List Src) (σ : DS), Good (run ++ xs) σ → Good (evo xs run σ).1 (evo xs run σ).2
  | [], run, σ, G => by rw [List.append_nil] at G; exact G
  | x :: xs, run, σ, G => by
    have G2 := good_next G
    by_cases hl : ((run ++ [x]).length == 17) = true
    · rw [show evo (x :: xs) run σ = evo xs [] (flushS (run ++ [x]) σ) from if_pos hl]
      exact good_evo xs [] _ (good_flush (by simp) G2)
    · rw [show evo (x :: xs) run σ = evo xs (run ++ [x]) σ from if_neg hl]
      exact good_evo xs (run ++ [x]) σ G2
theorem display_ {P : Pos} {xs : List Src} {t : Nat} {q : Pos} (hn : Nat.ble n₀ h0.objs.size = true) (h1 : 1 < h0.objs.size) (G : Good xs (disp0 t)) (hm : mainS h0 (dispS xs t) = some h0.objs.size) :
    ∃ q', lr p w n₀ (dictDisplay (xs.map (itemOf P))) ⟨h0, g, d, t, os⟩ q = some (.ref h0.objs.size, shS h0 g d os (dispS xs t), q', dispN xs t) := by
  obtain ⟨f, hf, he⟩ := dictDisplay_ex (xs.map (itemOf P))
  obtain ⟨q1, e1⟩ := disp_loop (p := p) (w := w) (n₀ := n₀) (g := g) (d := d) (os := os) (P := P) hn h1 f hf xs [] (disp0 t) q G
  obtain ⟨q2, e2⟩ := flush_ (p := p) (w := w) (n₀ := n₀) (g := g) (d := d) (os := os) (P := P) (q := q1) hn h1 (good_evo xs [] (disp0 t) G)
  refine ⟨q2, ?_⟩
  rw [he]
  refine lrF_bind e1 ?_
  refine lrF_ret e2 ?_
  show lr p w n₀ (match mainS h0 (dispS xs t) with | some d => pure (.ref d) | none => newDict) _ _ = _
  rw [hm]
  rfl
end
end Mine
end
noncomputable section
open PySem PySem.W PySem.Calls PyProof.Rows
set_option maxRecDepth 100000
namespace Mine
noncomputable section
noncomputable abbrev pw : Program := PySem.Challenge.pw_to0041_01
noncomputable abbrev S (x : String) : PySem.Str := PySem.Str.ofString x
noncomputable def noStmt : Stmt := .Pass ⟨0, 0, 0, 0⟩
noncomputable def stm (i : Nat) : Stmt := (pw.main.body[i]?).getD noStmt
noncomputable def cbody : Stmt → List Stmt
  | .ClassDef _ _ _ b _ _ _ _ _ _ _ => b
  | _ => []
noncomputable def cstm (i j : Nat) : Stmt := ((cbody (stm i))[j]?).getD noStmt
noncomputable def dPar : Stmt → Arguments
  | .FunctionDef _ a _ _ _ _ _ _ _ _ => a
  | _ => { posonlyargs := [], args := [], vararg := none, kwonlyargs := [], kw_defaults := [], kwarg := none, defaults := [] }
noncomputable def dBody : Stmt → List Stmt
  | .FunctionDef _ _ b _ _ _ _ _ _ _ => b
  | _ => []
noncomputable def dScope : Stmt → Scope
  | .FunctionDef _ _ _ _ _ _ s _ _ _ => s
  | _ => { kind := .function, names := [], isGenerator := false, isCoroutine := false, more := [] }
noncomputable def ledOf (P : Params) : Bool := !P.followText "set-order"
/-- the table's rows, as they stand in the text -/
noncomputable def rowOf : Option Expr × Expr → Src
  | (some (.Constant (.int k) _ _), .Constant (.str v) _ _) => ⟨k.toNat, v⟩
  | _ => ⟨0, ⟨#[]⟩⟩
noncomputable def dispOf : Stmt → Option (List (Option Expr) × List Expr × Pos × List Expr × Pos)
  | .Assign ts (.Dict ks vs p) q => some (ks, vs, p, ts, q)
  | _ => none
noncomputable def dKeys : List (Option Expr) := ((dispOf (stm 11)).map (·.1)).getD []
noncomputable def dVals : List Expr := ((dispOf (stm 11)).map (·.2.1)).getD []
noncomputable def dPos : Pos := ((dispOf (stm 11)).map (·.2.2.1)).getD ⟨0, 0, 0, 0⟩
noncomputable def dTgt : List Expr := ((dispOf (stm 11)).map (·.2.2.2.1)).getD []
noncomputable def sPos : Pos := ((dispOf (stm 11)).map (·.2.2.2.2)).getD ⟨0, 0, 0, 0⟩
noncomputable def src : List Src := (dKeys.zip dVals).map rowOf
noncomputable def ddS : DS := dispS src 358
noncomputable def o11_0 (P : Params) : Obj := ⟨(.type "tuple"), none, (.seq #[] 0), #[]⟩
noncomputable def o12_1 (P : Params) : Obj := ⟨.none, none, (.fields #[]), #[]⟩
noncomputable def o13_2 (P : Params) : Obj := ⟨(.type "code"), none, (.fields #[(.str (Str.ofString "<module>") 182), (.str (Str.ofString "<module>") 183), (.str (Str.ofString "/claim/cut.py") 184), (.int (1) 0), (.int (0) 0), (.int (0) 0), (.int (0) 0), (.int (0) 0), (.ref 11), (.bool false), (.int (181) 0), (.ref 12), .none, .none, .none, .none, (.int (185) 0), (.int (1) 0), (.str (Str.ofString "/claim/cut.py") 186)]), #[]⟩
noncomputable def o14_3 (P : Params) : Obj := ⟨(.type "frame"), none, .plain, #[some (.ref 13), some (.ref 3), some (.ref 3), none, some (.str (Str.ofString "__main__") 164), none, some (.ref 0)]⟩
noncomputable def ta (P : Params) : BT := (.node (boot_o_0 P) (.node (boot_o_1 P) (.node (boot_o_3 P) (.node (boot_o_7 P) .nil .nil) (.node (o11_0 P) .nil .nil)) (.node (boot_o_5 P) (.node (boot_o_9 P) .nil .nil) (.node (o13_2 P) .nil .nil))) (.node (boot_o_2 P) (.node (boot_o_4 P) (.node (boot_o_8 P) .nil .nil) (.node (o12_1 P) .nil .nil)) (.node (boot_o_6 P) (.node (boot_o_10 P) .nil .nil) (.node (o14_3 P) .nil .nil))))
noncomputable def o3_4 (P : Params) : Obj := ⟨(.type "dict"), none, (.dict #[⟨PyData.keyHash P (Str.ofString "__name__"), (.str (Str.ofString "__name__") 165), (.str (Str.ofString "cpy313.netrc") 187)⟩, ⟨PyData.keyHash P (Str.ofString "__doc__"), (.str (Str.ofString "__doc__") 166), .none⟩, ⟨PyData.keyHash P (Str.ofString "__package__"), (.str (Str.ofString "__package__") 167), .none⟩, ⟨PyData.keyHash P (Str.ofString "__loader__"), (.str (Str.ofString "__loader__") 168), (.builtin "__main__.__loader__#opaque")⟩, ⟨PyData.keyHash P (Str.ofString "__spec__"), (.str (Str.ofString "__spec__") 169), .none⟩, ⟨PyData.keyHash P (Str.ofString "__annotations__"), (.str (Str.ofString "__annotations__") 170), (.ref 6)⟩, ⟨PyData.keyHash P (Str.ofString "__builtins__"), (.str (Str.ofString "__builtins__") 171), (.ref 4)⟩, ⟨PyData.keyHash P (Str.ofString "__file__"), (.str (Str.ofString "__file__") 173), (.str (Str.ofString "/claim/cut.py") 172)⟩, ⟨PyData.keyHash P (Str.ofString "__cached__"), (.str (Str.ofString "__cached__") 174), .none⟩, ⟨PyData.keyHash P (Str.ofString "_netrclex"), (.str (Str.ofString "_netrclex") 246), (.ref 52)⟩] 10), #[]⟩
noncomputable def o12_5 (P : Params) : Obj := ⟨.none, none, (.fields #[(.int (2) 0), (.int (0) 0), (.ref 20)]), #[]⟩
noncomputable def o15_6 (P : Params) : Obj := ⟨(.type "tuple"), none, (.seq #[] 0), #[]⟩
noncomputable def o16_7 (P : Params) : Obj := ⟨(.type "builtin_function_or_method"), none, (.fields #[(.builtin "type.__prepare__"), (.type "type")]), #[]⟩
noncomputable def o17_8 (P : Params) : Obj := ⟨(.type "dict"), none, (.dict #[⟨PyData.keyHash P (Str.ofString "__module__"), (.str (Str.ofString "__module__") 196), (.str (Str.ofString "cpy313.netrc") 187)⟩, ⟨PyData.keyHash P (Str.ofString "__qualname__"), (.str (Str.ofString "__qualname__") 198), (.str (Str.ofString "_netrclex") 197)⟩, ⟨PyData.keyHash P (Str.ofString "__firstlineno__"), (.str (Str.ofString "__firstlineno__") 200), (.int (2) 199)⟩, ⟨PyData.keyHash P (Str.ofString "__init__"), (.str (Str.ofString "__init__") 208), (.ref 28)⟩, ⟨PyData.keyHash P (Str.ofString "_read_char"), (.str (Str.ofString "_read_char") 216), (.ref 35)⟩, ⟨PyData.keyHash P (Str.ofString "get_token"), (.str (Str.ofString "get_token") 226), (.ref 42)⟩, ⟨PyData.keyHash P (Str.ofString "push_token"), (.str (Str.ofString "push_token") 234), (.ref 49)⟩, ⟨PyData.keyHash P (Str.ofString "__static_attributes__"), (.str (Str.ofString "__static_attributes__") 239), (.ref 50)⟩] 8), #[]⟩
noncomputable def o18_9 (P : Params) : Obj := ⟨(.type "tuple"), none, (.seq #[] 0), #[]⟩
noncomputable def o19_10 (P : Params) : Obj := ⟨.none, none, (.fields #[(.int (4) 0), (.int (4) 0), (.ref 27), (.int (10) 0), (.int (4) 0), (.ref 34), (.int (16) 0), (.int (4) 0), (.ref 41), (.int (43) 0), (.int (4) 0), (.ref 48)]), #[]⟩
noncomputable def o20_11 (P : Params) : Obj := ⟨(.type "code"), none, (.fields #[(.str (Str.ofString "_netrclex") 191), (.str (Str.ofString "_netrclex") 192), (.str (Str.ofString "/claim/cut.py") 193), (.int (2) 0), (.int (0) 0), (.int (0) 0), (.int (0) 0), (.int (0) 0), (.ref 18), (.bool false), (.int (181) 0), (.ref 19), .none, .none, .none, .none, (.int (194) 0), (.int (2) 0), (.str (Str.ofString "/claim/cut.py") 195)]), #[]⟩
noncomputable def o21_12 (P : Params) : Obj := ⟨(.type "frame"), none, .plain, #[some (.ref 20), some (.ref 3), some (.ref 17), none, some (.str (Str.ofString "cpy313.netrc") 187), none, some (.ref 0)]⟩
noncomputable def o22_13 (P : Params) : Obj := ⟨(.type "tuple"), none, (.seq #[] 0), #[]⟩
noncomputable def o23_14 (P : Params) : Obj := ⟨.none, none, (.fields #[]), #[]⟩
noncomputable def o24_15 (P : Params) : Obj := ⟨(.type "tuple"), none, (.seq #[(.str (Str.ofString "self") 204), (.str (Str.ofString "fp") 205)] 0), #[]⟩
noncomputable def o25_16 (P : Params) : Obj := ⟨(.type "tuple"), none, (.seq #[] 0), #[]⟩
noncomputable def o26_17 (P : Params) : Obj := ⟨.none, none, (.func { name := (Str.ofString "__init__"), qualname := (Str.ofString "_netrclex.__init__"), params := dPar (cstm 1 0), body := .stmts (dBody (cstm 1 0)), scope := dScope (cstm 1 0), globals := 0, closure := [], defaults := .none, kwdefaults := .none, doc := .none, pyModule := .none, annotations := none, code := .none, closureTuple := .none, builtins := 0 }), #[]⟩
noncomputable def o27_18 (P : Params) : Obj := ⟨(.type "code"), none, (.fields #[(.str (Str.ofString "__init__") 201), (.str (Str.ofString "_netrclex.__init__") 202), (.str (Str.ofString "/claim/cut.py") 203), (.int (4) 0), (.int (2) 0), (.int (0) 0), (.int (0) 0), (.int (3) 0), (.ref 22), (.bool true), (.int (181) 0), (.ref 23), .none, (.ref 24), (.ref 25), (.ref 26), (.int (206) 0), (.int (4) 0), (.str (Str.ofString "/claim/cut.py") 207)]), #[]⟩
noncomputable def o28_19 (P : Params) : Obj := ⟨(.type "function"), none, (.func { name := (Str.ofString "__init__"), qualname := (Str.ofString "_netrclex.__init__"), params := dPar (cstm 1 0), body := .stmts (dBody (cstm 1 0)), scope := dScope (cstm 1 0), globals := 3, closure := [], defaults := .none, kwdefaults := .none, doc := .none, pyModule := (.str (Str.ofString "cpy313.netrc") 187), annotations := none, code := (.ref 27), closureTuple := .none, builtins := 0 }), #[]⟩
noncomputable def o29_20 (P : Params) : Obj := ⟨(.type "tuple"), none, (.seq #[] 0), #[]⟩
noncomputable def o30_21 (P : Params) : Obj := ⟨.none, none, (.fields #[]), #[]⟩
noncomputable def o31_22 (P : Params) : Obj := ⟨(.type "tuple"), none, (.seq #[(.str (Str.ofString "self") 212), (.str (Str.ofString "ch") 213)] 0), #[]⟩
noncomputable def o32_23 (P : Params) : Obj := ⟨(.type "tuple"), none, (.seq #[] 0), #[]⟩
noncomputable def o33_24 (P : Params) : Obj := ⟨.none, none, (.func { name := (Str.ofString "_read_char"), qualname := (Str.ofString "_netrclex._read_char"), params := dPar (cstm 1 1), body := .stmts (dBody (cstm 1 1)), scope := dScope (cstm 1 1), globals := 0, closure := [], defaults := .none, kwdefaults := .none, doc := .none, pyModule := .none, annotations := none, code := .none, closureTuple := .none, builtins := 0 }), #[]⟩
noncomputable def o34_25 (P : Params) : Obj := ⟨(.type "code"), none, (.fields #[(.str (Str.ofString "_read_char") 209), (.str (Str.ofString "_netrclex._read_char") 210), (.str (Str.ofString "/claim/cut.py") 211), (.int (10) 0), (.int (1) 0), (.int (0) 0), (.int (0) 0), (.int (3) 0), (.ref 29), (.bool true), (.int (181) 0), (.ref 30), .none, (.ref 31), (.ref 32), (.ref 33), (.int (214) 0), (.int (10) 0), (.str (Str.ofString "/claim/cut.py") 215)]), #[]⟩
noncomputable def o35_26 (P : Params) : Obj := ⟨(.type "function"), none, (.func { name := (Str.ofString "_read_char"), qualname := (Str.ofString "_netrclex._read_char"), params := dPar (cstm 1 1), body := .stmts (dBody (cstm 1 1)), scope := dScope (cstm 1 1), globals := 3, closure := [], defaults := .none, kwdefaults := .none, doc := .none, pyModule := (.str (Str.ofString "cpy313.netrc") 187), annotations := none, code := (.ref 34), closureTuple := .none, builtins := 0 }), #[]⟩
noncomputable def o36_27 (P : Params) : Obj := ⟨(.type "tuple"), none, (.seq #[] 0), #[]⟩
noncomputable def o37_28 (P : Params) : Obj := ⟨.none, none, (.fields #[]), #[]⟩
noncomputable def o38_29 (P : Params) : Obj := ⟨(.type "tuple"), none, (.seq #[(.str (Str.ofString "self") 220), (.str (Str.ofString "token") 221), (.str (Str.ofString "fiter") 222), (.str (Str.ofString "ch") 223)] 0), #[]⟩
noncomputable def o39_30 (P : Params) : Obj := ⟨(.type "tuple"), none, (.seq #[] 0), #[]⟩
noncomputable def o40_31 (P : Params) : Obj := ⟨.none, none, (.func { name := (Str.ofString "get_token"), qualname := (Str.ofString "_netrclex.get_token"), params := dPar (cstm 1 2), body := .stmts (dBody (cstm 1 2)), scope := dScope (cstm 1 2), globals := 0, closure := [], defaults := .none, kwdefaults := .none, doc := .none, pyModule := .none, annotations := none, code := .none, closureTuple := .none, builtins := 0 }), #[]⟩
noncomputable def o41_32 (P : Params) : Obj := ⟨(.type "code"), none, (.fields #[(.str (Str.ofString "get_token") 217), (.str (Str.ofString "_netrclex.get_token") 218), (.str (Str.ofString "/claim/cut.py") 219), (.int (16) 0), (.int (1) 0), (.int (0) 0), (.int (0) 0), (.int (3) 0), (.ref 36), (.bool true), (.int (181) 0), (.ref 37), .none, (.ref 38), (.ref 39), (.ref 40), (.int (224) 0), (.int (16) 0), (.str (Str.ofString "/claim/cut.py") 225)]), #[]⟩
noncomputable def o42_33 (P : Params) : Obj := ⟨(.type "function"), none, (.func { name := (Str.ofString "get_token"), qualname := (Str.ofString "_netrclex.get_token"), params := dPar (cstm 1 2), body := .stmts (dBody (cstm 1 2)), scope := dScope (cstm 1 2), globals := 3, closure := [], defaults := .none, kwdefaults := .none, doc := .none, pyModule := (.str (Str.ofString "cpy313.netrc") 187), annotations := none, code := (.ref 41), closureTuple := .none, builtins := 0 }), #[]⟩
noncomputable def o43_34 (P : Params) : Obj := ⟨(.type "tuple"), none, (.seq #[] 0), #[]⟩
noncomputable def o44_35 (P : Params) : Obj := ⟨.none, none, (.fields #[]), #[]⟩
noncomputable def o45_36 (P : Params) : Obj := ⟨(.type "tuple"), none, (.seq #[(.str (Str.ofString "self") 230), (.str (Str.ofString "token") 231)] 0), #[]⟩
noncomputable def o46_37 (P : Params) : Obj := ⟨(.type "tuple"), none, (.seq #[] 0), #[]⟩
noncomputable def o47_38 (P : Params) : Obj := ⟨.none, none, (.func { name := (Str.ofString "push_token"), qualname := (Str.ofString "_netrclex.push_token"), params := dPar (cstm 1 3), body := .stmts (dBody (cstm 1 3)), scope := dScope (cstm 1 3), globals := 0, closure := [], defaults := .none, kwdefaults := .none, doc := .none, pyModule := .none, annotations := none, code := .none, closureTuple := .none, builtins := 0 }), #[]⟩
noncomputable def o48_39 (P : Params) : Obj := ⟨(.type "code"), none, (.fields #[(.str (Str.ofString "push_token") 227), (.str (Str.ofString "_netrclex.push_token") 228), (.str (Str.ofString "/claim/cut.py") 229), (.int (43) 0), (.int (2) 0), (.int (0) 0), (.int (0) 0), (.int (3) 0), (.ref 43), (.bool true), (.int (181) 0), (.ref 44), .none, (.ref 45), (.ref 46), (.ref 47), (.int (232) 0), (.int (43) 0), (.str (Str.ofString "/claim/cut.py") 233)]), #[]⟩
noncomputable def o49_40 (P : Params) : Obj := ⟨(.type "function"), none, (.func { name := (Str.ofString "push_token"), qualname := (Str.ofString "_netrclex.push_token"), params := dPar (cstm 1 3), body := .stmts (dBody (cstm 1 3)), scope := dScope (cstm 1 3), globals := 3, closure := [], defaults := .none, kwdefaults := .none, doc := .none, pyModule := (.str (Str.ofString "cpy313.netrc") 187), annotations := none, code := (.ref 48), closureTuple := .none, builtins := 0 }), #[]⟩
noncomputable def o50_41 (P : Params) : Obj := ⟨(.type "tuple"), none, (.seq #[(.str (Str.ofString "instream") 235), (.str (Str.ofString "lineno") 236), (.str (Str.ofString "pushback") 237), (.str (Str.ofString "whitespace") 238)] 0), #[]⟩
noncomputable def o51_42 (P : Params) : Obj := ⟨(.type "dict"), none, (.dict #[⟨PyData.keyHash P (Str.ofString "__module__"), (.str (Str.ofString "__module__") 196), (.str (Str.ofString "cpy313.netrc") 187)⟩, ⟨PyData.keyHash P (Str.ofString "__firstlineno__"), (.str (Str.ofString "__firstlineno__") 200), (.int (2) 199)⟩, ⟨PyData.keyHash P (Str.ofString "__init__"), (.str (Str.ofString "__init__") 208), (.ref 28)⟩, ⟨PyData.keyHash P (Str.ofString "_read_char"), (.str (Str.ofString "_read_char") 216), (.ref 35)⟩, ⟨PyData.keyHash P (Str.ofString "get_token"), (.str (Str.ofString "get_token") 226), (.ref 42)⟩, ⟨PyData.keyHash P (Str.ofString "push_token"), (.str (Str.ofString "push_token") 234), (.ref 49)⟩, ⟨PyData.keyHash P (Str.ofString "__static_attributes__"), (.str (Str.ofString "__static_attributes__") 239), (.ref 50)⟩, ⟨PyData.keyHash P (Str.ofString "__dict__"), (.str (Str.ofString "__dict__") 241), (.ref 53)⟩, ⟨PyData.keyHash P (Str.ofString "__weakref__"), (.str (Str.ofString "__weakref__") 243), (.ref 54)⟩, ⟨PyData.keyHash P (Str.ofString "__doc__"), (.str (Str.ofString "__doc__") 244), .none⟩] 4), #[]⟩
noncomputable def o52_43 (P : Params) : Obj := ⟨(.type "type"), none, (.cls { name := (Str.ofString "_netrclex"), bases := [(.type "object")], mro := [(.ref 52), (.type "object")], ns := 51, qualname := (Str.ofString "_netrclex"), hasDict := true, slotNames := [], subclasses := [], abstract := false, collection := none, hasDel := false }), #[none, none, some (.str (Str.ofString "_netrclex") 189), some (.str (Str.ofString "_netrclex") 197), some (.builtin "object.__new__"), some (.bool true)]⟩
noncomputable def o53_44 (P : Params) : Obj := ⟨(.type "getset_descriptor"), none, (.fields #[(.str (Str.ofString "__dict__") 240), (.ref 52), (.builtin "function.__dict__"), (.builtin "function.__dict__#set")]), #[]⟩
noncomputable def o54_45 (P : Params) : Obj := ⟨(.type "getset_descriptor"), none, (.fields #[(.str (Str.ofString "__weakref__") 242), (.ref 52), (.builtin "ExceptionGroup.__weakref__"), .none]), #[]⟩
noncomputable def o55_46 (P : Params) : Obj := ⟨(.type "super"), none, (.fields #[(.ref 52), (.ref 52), (.ref 52)]), #[]⟩
noncomputable def o56_47 (P : Params) : Obj := ⟨(.type "builtin_function_or_method"), none, (.fields #[(.builtin "object.__init_subclass__"), (.ref 52)]), #[]⟩
noncomputable def t1 (P : Params) : BT := (.node (boot_o_0 P) (.node (boot_o_1 P) (.node (o3_4 P) (.node (boot_o_7 P) (.node (o15_6 P) (.node (o31_22 P) .nil .nil) (.node (o47_38 P) .nil .nil)) (.node (o23_14 P) (.node (o39_30 P) .nil .nil) (.node (o55_46 P) .nil .nil))) (.node (o11_0 P) (.node (o19_10 P) (.node (o35_26 P) .nil .nil) (.node (o51_42 P) .nil .nil)) (.node (o27_18 P) (.node (o43_34 P) .nil .nil) .nil))) (.node (boot_o_5 P) (.node (boot_o_9 P) (.node (o17_8 P) (.node (o33_24 P) .nil .nil) (.node (o49_40 P) .nil .nil)) (.node (o25_16 P) (.node (o41_32 P) .nil .nil) .nil)) (.node (o13_2 P) (.node (o21_12 P) (.node (o37_28 P) .nil .nil) (.node (o53_44 P) .nil .nil)) (.node (o29_20 P) (.node (o45_36 P) .nil .nil) .nil)))) (.node (boot_o_2 P) (.node (boot_o_4 P) (.node (boot_o_8 P) (.node (o16_7 P) (.node (o32_23 P) .nil .nil) (.node (o48_39 P) .nil .nil)) (.node (o24_15 P) (.node (o40_31 P) .nil .nil) (.node (o56_47 P) .nil .nil))) (.node (o12_5 P) (.node (o20_11 P) (.node (o36_27 P) .nil .nil) (.node (o52_43 P) .nil .nil)) (.node (o28_19 P) (.node (o44_35 P) .nil .nil) .nil))) (.node (boot_o_6 P) (.node (boot_o_10 P) (.node (o18_9 P) (.node (o34_25 P) .nil .nil) (.node (o50_41 P) .nil .nil)) (.node (o26_17 P) (.node (o42_33 P) .nil .nil) .nil)) (.node (o14_3 P) (.node (o22_13 P) (.node (o38_29 P) .nil .nil) (.node (o54_45 P) .nil .nil)) (.node (o30_21 P) (.node (o46_37 P) .nil .nil) .nil)))))
noncomputable def o3_48 (P : Params) : Obj := ⟨(.type "dict"), none, (.dict #[⟨PyData.keyHash P (Str.ofString "__name__"), (.str (Str.ofString "__name__") 165), (.str (Str.ofString "cpy313.stringprep") 289)⟩, ⟨PyData.keyHash P (Str.ofString "__doc__"), (.str (Str.ofString "__doc__") 166), .none⟩, ⟨PyData.keyHash P (Str.ofString "__package__"), (.str (Str.ofString "__package__") 167), .none⟩, ⟨PyData.keyHash P (Str.ofString "__loader__"), (.str (Str.ofString "__loader__") 168), (.builtin "__main__.__loader__#opaque")⟩, ⟨PyData.keyHash P (Str.ofString "__spec__"), (.str (Str.ofString "__spec__") 169), .none⟩, ⟨PyData.keyHash P (Str.ofString "__annotations__"), (.str (Str.ofString "__annotations__") 170), (.ref 6)⟩, ⟨PyData.keyHash P (Str.ofString "__builtins__"), (.str (Str.ofString "__builtins__") 171), (.ref 4)⟩, ⟨PyData.keyHash P (Str.ofString "__file__"), (.str (Str.ofString "__file__") 173), (.str (Str.ofString "/claim/cut.py") 172)⟩, ⟨PyData.keyHash P (Str.ofString "__cached__"), (.str (Str.ofString "__cached__") 174), .none⟩, ⟨PyData.keyHash P (Str.ofString "_netrclex"), (.str (Str.ofString "_netrclex") 246), (.ref 52)⟩, ⟨PyData.keyHash P (Str.ofString "eq"), (.str (Str.ofString "eq") 256), (.ref 63)⟩, ⟨PyData.keyHash P (Str.ofString "floordiv"), (.str (Str.ofString "floordiv") 264), (.ref 70)⟩, ⟨PyData.keyHash P (Str.ofString "mod"), (.str (Str.ofString "mod") 272), (.ref 77)⟩, ⟨PyData.keyHash P (Str.ofString "neg"), (.str (Str.ofString "neg") 279), (.ref 84)⟩, ⟨PyData.keyHash P (Str.ofString "concat"), (.str (Str.ofString "concat") 288), (.ref 91)⟩] 15), #[]⟩
noncomputable def o12_49 (P : Params) : Obj := ⟨.none, none, (.fields #[(.int (2) 0), (.int (0) 0), (.ref 20), (.int (46) 0), (.int (0) 0), (.ref 62), (.int (48) 0), (.int (0) 0), (.ref 69), (.int (50) 0), (.int (0) 0), (.ref 76), (.int (52) 0), (.int (0) 0), (.ref 83), (.int (54) 0), (.int (0) 0), (.ref 90)]), #[]⟩
noncomputable def o57_50 (P : Params) : Obj := ⟨(.type "tuple"), none, (.seq #[] 0), #[]⟩
noncomputable def o58_51 (P : Params) : Obj := ⟨.none, none, (.fields #[]), #[]⟩
noncomputable def o59_52 (P : Params) : Obj := ⟨(.type "tuple"), none, (.seq #[(.str (Str.ofString "a") 252), (.str (Str.ofString "b") 253)] 0), #[]⟩
noncomputable def o60_53 (P : Params) : Obj := ⟨(.type "tuple"), none, (.seq #[] 0), #[]⟩
noncomputable def o61_54 (P : Params) : Obj := ⟨.none, none, (.func { name := (Str.ofString "eq"), qualname := (Str.ofString "eq"), params := dPar (stm 3), body := .stmts (dBody (stm 3)), scope := dScope (stm 3), globals := 0, closure := [], defaults := .none, kwdefaults := .none, doc := .none, pyModule := .none, annotations := none, code := .none, closureTuple := .none, builtins := 0 }), #[]⟩
noncomputable def o62_55 (P : Params) : Obj := ⟨(.type "code"), none, (.fields #[(.str (Str.ofString "eq") 249), (.str (Str.ofString "eq") 250), (.str (Str.ofString "/claim/cut.py") 251), (.int (46) 0), (.int (2) 0), (.int (0) 0), (.int (0) 0), (.int (3) 0), (.ref 57), (.bool true), (.int (181) 0), (.ref 58), .none, (.ref 59), (.ref 60), (.ref 61), (.int (254) 0), (.int (46) 0), (.str (Str.ofString "/claim/cut.py") 255)]), #[]⟩
noncomputable def o63_56 (P : Params) : Obj := ⟨(.type "function"), none, (.func { name := (Str.ofString "eq"), qualname := (Str.ofString "eq"), params := dPar (stm 3), body := .stmts (dBody (stm 3)), scope := dScope (stm 3), globals := 3, closure := [], defaults := .none, kwdefaults := .none, doc := .none, pyModule := (.str (Str.ofString "cpy313.operator") 247), annotations := none, code := (.ref 62), closureTuple := .none, builtins := 0 }), #[]⟩
noncomputable def o64_57 (P : Params) : Obj := ⟨(.type "tuple"), none, (.seq #[] 0), #[]⟩
noncomputable def o65_58 (P : Params) : Obj := ⟨.none, none, (.fields #[]), #[]⟩
noncomputable def o66_59 (P : Params) : Obj := ⟨(.type "tuple"), none, (.seq #[(.str (Str.ofString "a") 260), (.str (Str.ofString "b") 261)] 0), #[]⟩
noncomputable def o67_60 (P : Params) : Obj := ⟨(.type "tuple"), none, (.seq #[] 0), #[]⟩
noncomputable def o68_61 (P : Params) : Obj := ⟨.none, none, (.func { name := (Str.ofString "floordiv"), qualname := (Str.ofString "floordiv"), params := dPar (stm 4), body := .stmts (dBody (stm 4)), scope := dScope (stm 4), globals := 0, closure := [], defaults := .none, kwdefaults := .none, doc := .none, pyModule := .none, annotations := none, code := .none, closureTuple := .none, builtins := 0 }), #[]⟩
noncomputable def o69_62 (P : Params) : Obj := ⟨(.type "code"), none, (.fields #[(.str (Str.ofString "floordiv") 257), (.str (Str.ofString "floordiv") 258), (.str (Str.ofString "/claim/cut.py") 259), (.int (48) 0), (.int (2) 0), (.int (0) 0), (.int (0) 0), (.int (3) 0), (.ref 64), (.bool true), (.int (181) 0), (.ref 65), .none, (.ref 66), (.ref 67), (.ref 68), (.int (262) 0), (.int (48) 0), (.str (Str.ofString "/claim/cut.py") 263)]), #[]⟩
noncomputable def o70_63 (P : Params) : Obj := ⟨(.type "function"), none, (.func { name := (Str.ofString "floordiv"), qualname := (Str.ofString "floordiv"), params := dPar (stm 4), body := .stmts (dBody (stm 4)), scope := dScope (stm 4), globals := 3, closure := [], defaults := .none, kwdefaults := .none, doc := .none, pyModule := (.str (Str.ofString "cpy313.operator") 247), annotations := none, code := (.ref 69), closureTuple := .none, builtins := 0 }), #[]⟩
noncomputable def o71_64 (P : Params) : Obj := ⟨(.type "tuple"), none, (.seq #[] 0), #[]⟩
noncomputable def o72_65 (P : Params) : Obj := ⟨.none, none, (.fields #[]), #[]⟩
noncomputable def o73_66 (P : Params) : Obj := ⟨(.type "tuple"), none, (.seq #[(.str (Str.ofString "a") 268), (.str (Str.ofString "b") 269)] 0), #[]⟩
noncomputable def o74_67 (P : Params) : Obj := ⟨(.type "tuple"), none, (.seq #[] 0), #[]⟩
noncomputable def o75_68 (P : Params) : Obj := ⟨.none, none, (.func { name := (Str.ofString "mod"), qualname := (Str.ofString "mod"), params := dPar (stm 5), body := .stmts (dBody (stm 5)), scope := dScope (stm 5), globals := 0, closure := [], defaults := .none, kwdefaults := .none, doc := .none, pyModule := .none, annotations := none, code := .none, closureTuple := .none, builtins := 0 }), #[]⟩
noncomputable def o76_69 (P : Params) : Obj := ⟨(.type "code"), none, (.fields #[(.str (Str.ofString "mod") 265), (.str (Str.ofString "mod") 266), (.str (Str.ofString "/claim/cut.py") 267), (.int (50) 0), (.int (2) 0), (.int (0) 0), (.int (0) 0), (.int (3) 0), (.ref 71), (.bool true), (.int (181) 0), (.ref 72), .none, (.ref 73), (.ref 74), (.ref 75), (.int (270) 0), (.int (50) 0), (.str (Str.ofString "/claim/cut.py") 271)]), #[]⟩
noncomputable def o77_70 (P : Params) : Obj := ⟨(.type "function"), none, (.func { name := (Str.ofString "mod"), qualname := (Str.ofString "mod"), params := dPar (stm 5), body := .stmts (dBody (stm 5)), scope := dScope (stm 5), globals := 3, closure := [], defaults := .none, kwdefaults := .none, doc := .none, pyModule := (.str (Str.ofString "cpy313.operator") 247), annotations := none, code := (.ref 76), closureTuple := .none, builtins := 0 }), #[]⟩
noncomputable def o78_71 (P : Params) : Obj := ⟨(.type "tuple"), none, (.seq #[] 0), #[]⟩
noncomputable def o79_72 (P : Params) : Obj := ⟨.none, none, (.fields #[]), #[]⟩
noncomputable def o80_73 (P : Params) : Obj := ⟨(.type "tuple"), none, (.seq #[(.str (Str.ofString "a") 276)] 0), #[]⟩
noncomputable def o81_74 (P : Params) : Obj := ⟨(.type "tuple"), none, (.seq #[] 0), #[]⟩
noncomputable def o82_75 (P : Params) : Obj := ⟨.none, none, (.func { name := (Str.ofString "neg"), qualname := (Str.ofString "neg"), params := dPar (stm 6), body := .stmts (dBody (stm 6)), scope := dScope (stm 6), globals := 0, closure := [], defaults := .none, kwdefaults := .none, doc := .none, pyModule := .none, annotations := none, code := .none, closureTuple := .none, builtins := 0 }), #[]⟩
noncomputable def o83_76 (P : Params) : Obj := ⟨(.type "code"), none, (.fields #[(.str (Str.ofString "neg") 273), (.str (Str.ofString "neg") 274), (.str (Str.ofString "/claim/cut.py") 275), (.int (52) 0), (.int (1) 0), (.int (0) 0), (.int (0) 0), (.int (3) 0), (.ref 78), (.bool true), (.int (181) 0), (.ref 79), .none, (.ref 80), (.ref 81), (.ref 82), (.int (277) 0), (.int (52) 0), (.str (Str.ofString "/claim/cut.py") 278)]), #[]⟩
noncomputable def o84_77 (P : Params) : Obj := ⟨(.type "function"), none, (.func { name := (Str.ofString "neg"), qualname := (Str.ofString "neg"), params := dPar (stm 6), body := .stmts (dBody (stm 6)), scope := dScope (stm 6), globals := 3, closure := [], defaults := .none, kwdefaults := .none, doc := .none, pyModule := (.str (Str.ofString "cpy313.operator") 247), annotations := none, code := (.ref 83), closureTuple := .none, builtins := 0 }), #[]⟩
noncomputable def o85_78 (P : Params) : Obj := ⟨(.type "tuple"), none, (.seq #[] 0), #[]⟩
noncomputable def o86_79 (P : Params) : Obj := ⟨.none, none, (.fields #[]), #[]⟩
noncomputable def o87_80 (P : Params) : Obj := ⟨(.type "tuple"), none, (.seq #[(.str (Str.ofString "a") 283), (.str (Str.ofString "b") 284), (.str (Str.ofString "msg") 285)] 0), #[]⟩
noncomputable def o88_81 (P : Params) : Obj := ⟨(.type "tuple"), none, (.seq #[] 0), #[]⟩
noncomputable def o89_82 (P : Params) : Obj := ⟨.none, none, (.func { name := (Str.ofString "concat"), qualname := (Str.ofString "concat"), params := dPar (stm 7), body := .stmts (dBody (stm 7)), scope := dScope (stm 7), globals := 0, closure := [], defaults := .none, kwdefaults := .none, doc := .none, pyModule := .none, annotations := none, code := .none, closureTuple := .none, builtins := 0 }), #[]⟩
noncomputable def o90_83 (P : Params) : Obj := ⟨(.type "code"), none, (.fields #[(.str (Str.ofString "concat") 280), (.str (Str.ofString "concat") 281), (.str (Str.ofString "/claim/cut.py") 282), (.int (54) 0), (.int (2) 0), (.int (0) 0), (.int (0) 0), (.int (3) 0), (.ref 85), (.bool true), (.int (181) 0), (.ref 86), .none, (.ref 87), (.ref 88), (.ref 89), (.int (286) 0), (.int (54) 0), (.str (Str.ofString "/claim/cut.py") 287)]), #[]⟩
noncomputable def o91_84 (P : Params) : Obj := ⟨(.type "function"), none, (.func { name := (Str.ofString "concat"), qualname := (Str.ofString "concat"), params := dPar (stm 7), body := .stmts (dBody (stm 7)), scope := dScope (stm 7), globals := 3, closure := [], defaults := .none, kwdefaults := .none, doc := .none, pyModule := (.str (Str.ofString "cpy313.operator") 247), annotations := none, code := (.ref 90), closureTuple := .none, builtins := 0 }), #[]⟩
noncomputable def t2 (P : Params) : BT := (.node (boot_o_0 P) (.node (boot_o_1 P) (.node (o3_48 P) (.node (boot_o_7 P) (.node (o15_6 P) (.node (o31_22 P) (.node (o63_56 P) .nil .nil) .nil) (.node (o47_38 P) (.node (o79_72 P) .nil .nil) .nil)) (.node (o23_14 P) (.node (o39_30 P) (.node (o71_64 P) .nil .nil) .nil) (.node (o55_46 P) (.node (o87_80 P) .nil .nil) .nil))) (.node (o11_0 P) (.node (o19_10 P) (.node (o35_26 P) (.node (o67_60 P) .nil .nil) .nil) (.node (o51_42 P) (.node (o83_76 P) .nil .nil) .nil)) (.node (o27_18 P) (.node (o43_34 P) (.node (o75_68 P) .nil .nil) .nil) (.node (o59_52 P) (.node (o91_84 P) .nil .nil) .nil)))) (.node (boot_o_5 P) (.node (boot_o_9 P) (.node (o17_8 P) (.node (o33_24 P) (.node (o65_58 P) .nil .nil) .nil) (.node (o49_40 P) (.node (o81_74 P) .nil .nil) .nil)) (.node (o25_16 P) (.node (o41_32 P) (.node (o73_66 P) .nil .nil) .nil) (.node (o57_50 P) (.node (o89_82 P) .nil .nil) .nil))) (.node (o13_2 P) (.node (o21_12 P) (.node (o37_28 P) (.node (o69_62 P) .nil .nil) .nil) (.node (o53_44 P) (.node (o85_78 P) .nil .nil) .nil)) (.node (o29_20 P) (.node (o45_36 P) (.node (o77_70 P) .nil .nil) .nil) (.node (o61_54 P) .nil .nil))))) (.node (boot_o_2 P) (.node (boot_o_4 P) (.node (boot_o_8 P) (.node (o16_7 P) (.node (o32_23 P) (.node (o64_57 P) .nil .nil) .nil) (.node (o48_39 P) (.node (o80_73 P) .nil .nil) .nil)) (.node (o24_15 P) (.node (o40_31 P) (.node (o72_65 P) .nil .nil) .nil) (.node (o56_47 P) (.node (o88_81 P) .nil .nil) .nil))) (.node (o12_49 P) (.node (o20_11 P) (.node (o36_27 P) (.node (o68_61 P) .nil .nil) .nil) (.node (o52_43 P) (.node (o84_77 P) .nil .nil) .nil)) (.node (o28_19 P) (.node (o44_35 P) (.node (o76_69 P) .nil .nil) .nil) (.node (o60_53 P) .nil .nil)))) (.node (boot_o_6 P) (.node (boot_o_10 P) (.node (o18_9 P) (.node (o34_25 P) (.node (o66_59 P) .nil .nil) .nil) (.node (o50_41 P) (.node (o82_75 P) .nil .nil) .nil)) (.node (o26_17 P) (.node (o42_33 P) (.node (o74_67 P) .nil .nil) .nil) (.node (o58_51 P) (.node (o90_83 P) .nil .nil) .nil))) (.node (o14_3 P) (.node (o22_13 P) (.node (o38_29 P) (.node (o70_63 P) .nil .nil) .nil) (.node (o54_45 P) (.node (o86_79 P) .nil .nil) .nil)) (.node (o30_21 P) (.node (o46_37 P) (.node (o78_71 P) .nil .nil) .nil) (.node (o62_55 P) .nil .nil))))))
noncomputable def o3_85 (P : Params) : Obj := ⟨(.type "dict"), none, (.dict #[⟨PyData.keyHash P (Str.ofString "__name__"), (.str (Str.ofString "__name__") 165), (.str (Str.ofString "cpy313.stringprep") 289)⟩, ⟨PyData.keyHash P (Str.ofString "__doc__"), (.str (Str.ofString "__doc__") 166), .none⟩, ⟨PyData.keyHash P (Str.ofString "__package__"), (.str (Str.ofString "__package__") 167), .none⟩, ⟨PyData.keyHash P (Str.ofString "__loader__"), (.str (Str.ofString "__loader__") 168), (.builtin "__main__.__loader__#opaque")⟩, ⟨PyData.keyHash P (Str.ofString "__spec__"), (.str (Str.ofString "__spec__") 169), .none⟩, ⟨PyData.keyHash P (Str.ofString "__annotations__"), (.str (Str.ofString "__annotations__") 170), (.ref 6)⟩, ⟨PyData.keyHash P (Str.ofString "__builtins__"), (.str (Str.ofString "__builtins__") 171), (.ref 4)⟩, ⟨PyData.keyHash P (Str.ofString "__file__"), (.str (Str.ofString "__file__") 173), (.str (Str.ofString "/claim/cut.py") 172)⟩, ⟨PyData.keyHash P (Str.ofString "__cached__"), (.str (Str.ofString "__cached__") 174), .none⟩, ⟨PyData.keyHash P (Str.ofString "_netrclex"), (.str (Str.ofString "_netrclex") 246), (.ref 52)⟩, ⟨PyData.keyHash P (Str.ofString "eq"), (.str (Str.ofString "eq") 256), (.ref 63)⟩, ⟨PyData.keyHash P (Str.ofString "floordiv"), (.str (Str.ofString "floordiv") 264), (.ref 70)⟩, ⟨PyData.keyHash P (Str.ofString "mod"), (.str (Str.ofString "mod") 272), (.ref 77)⟩, ⟨PyData.keyHash P (Str.ofString "neg"), (.str (Str.ofString "neg") 279), (.ref 84)⟩, ⟨PyData.keyHash P (Str.ofString "concat"), (.str (Str.ofString "concat") 288), (.ref 91)⟩, ⟨PyData.keyHash P (Str.ofString "b1_set"), (.str (Str.ofString "b1_set") 350), (.ref 99)⟩] 16), #[]⟩
noncomputable def o92_86 (P : Params) : Obj := ⟨(.type "list"), none, (.seq #[(.int (173) 291), (.int (847) 292), (.int (6150) 293), (.int (6155) 294), (.int (6156) 295), (.int (6157) 296), (.int (8203) 297), (.int (8204) 298), (.int (8205) 299), (.int (8288) 300), (.int (65279) 301)] 0), #[]⟩
noncomputable def o93_87 (P : Params) : Obj := ⟨(.type "range"), none, (.fields #[(.int (65024) 302), (.int (65040) 303), (.int (1) 304)]), #[]⟩
noncomputable def o94_88 (P : Params) : Obj := ⟨(.type "list"), none, (.seq #[(.int (65024) 307), (.int (65025) 308), (.int (65026) 309), (.int (65027) 310), (.int (65028) 311), (.int (65029) 312), (.int (65030) 313), (.int (65031) 314), (.int (65032) 315), (.int (65033) 316), (.int (65034) 317), (.int (65035) 318), (.int (65036) 319), (.int (65037) 320), (.int (65038) 321), (.int (65039) 322)] 18), #[]⟩
noncomputable def o95_89 (P : Params) : Obj := ⟨(.type "range_iterator"), none, (.fields #[(.int (65040) 0), (.int (0) 0), (.int (1) 0)]), #[]⟩
noncomputable def o96_90 (P : Params) : Obj := ⟨(.type "tuple"), none, (.seq #[] 0), #[]⟩
noncomputable def o97_91 (P : Params) : Obj := ⟨(.type "StopIteration"), none, (.fields #[(.ref 96), .none, .none, .none, (.bool false), .none]), #[]⟩
noncomputable def o98_92 (P : Params) : Obj := ⟨(.type "list"), none, (.seq #[(.int (173) 291), (.int (847) 292), (.int (6150) 293), (.int (6155) 294), (.int (6156) 295), (.int (6157) 296), (.int (8203) 297), (.int (8204) 298), (.int (8205) 299), (.int (8288) 300), (.int (65279) 301), (.int (65024) 307), (.int (65025) 308), (.int (65026) 309), (.int (65027) 310), (.int (65028) 311), (.int (65029) 312), (.int (65030) 313), (.int (65031) 314), (.int (65032) 315), (.int (65033) 316), (.int (65034) 317), (.int (65035) 318), (.int (65036) 319), (.int (65037) 320), (.int (65038) 321), (.int (65039) 322)] 0), #[]⟩
noncomputable def o99_93 (P : Params) : Obj := ⟨(.type "set"), none, (.set #[(65024, (.int (65024) 307)), (65025, (.int (65025) 308)), (65026, (.int (65026) 309)), (65027, (.int (65027) 310)), (65028, (.int (65028) 311)), (65029, (.int (65029) 312)), (6150, (.int (6150) 293)), (65030, (.int (65030) 313)), (65031, (.int (65031) 314)), (65032, (.int (65032) 315)), (65033, (.int (65033) 316)), (6155, (.int (6155) 294)), (6156, (.int (6156) 295)), (6157, (.int (6157) 296)), (8203, (.int (8203) 297)), (8204, (.int (8204) 298)), (8205, (.int (8205) 299)), (65034, (.int (65034) 317)), (65035, (.int (65035) 318)), (65036, (.int (65036) 319)), (65037, (.int (65037) 320)), (65038, (.int (65038) 321)), (65039, (.int (65039) 322)), (173, (.int (173) 291)), (847, (.int (847) 292)), (8288, (.int (8288) 300)), (65279, (.int (65279) 301))] 29 { mask := 127, place := #[0, 1, 2, 3, 4, 5, 6, 7, 8, 9, 10, 11, 12, 13, 14, 15, 16, 17, 18, 19, 20, 21, 22, 45, 79, 96, 127], dummies := #[], finger := 0, led := ledOf P, moves := 2, plain := true }), #[]⟩
noncomputable def o100_94 (P : Params) : Obj := ⟨(.type "list_iterator"), none, (.fields #[.none, (.int (27) 0)]), #[]⟩
noncomputable def o101_95 (P : Params) : Obj := ⟨(.type "tuple"), none, (.seq #[] 0), #[]⟩
noncomputable def o102_96 (P : Params) : Obj := ⟨(.type "StopIteration"), none, (.fields #[(.ref 101), .none, .none, .none, (.bool false), .none]), #[]⟩
noncomputable def t3 (P : Params) : BT := (.node (boot_o_0 P) (.node (boot_o_1 P) (.node (o3_85 P) (.node (boot_o_7 P) (.node (o15_6 P) (.node (o31_22 P) (.node (o63_56 P) .nil .nil) (.node (o95_89 P) .nil .nil)) (.node (o47_38 P) (.node (o79_72 P) .nil .nil) .nil)) (.node (o23_14 P) (.node (o39_30 P) (.node (o71_64 P) .nil .nil) .nil) (.node (o55_46 P) (.node (o87_80 P) .nil .nil) .nil))) (.node (o11_0 P) (.node (o19_10 P) (.node (o35_26 P) (.node (o67_60 P) .nil .nil) (.node (o99_93 P) .nil .nil)) (.node (o51_42 P) (.node (o83_76 P) .nil .nil) .nil)) (.node (o27_18 P) (.node (o43_34 P) (.node (o75_68 P) .nil .nil) .nil) (.node (o59_52 P) (.node (o91_84 P) .nil .nil) .nil)))) (.node (boot_o_5 P) (.node (boot_o_9 P) (.node (o17_8 P) (.node (o33_24 P) (.node (o65_58 P) .nil .nil) (.node (o97_91 P) .nil .nil)) (.node (o49_40 P) (.node (o81_74 P) .nil .nil) .nil)) (.node (o25_16 P) (.node (o41_32 P) (.node (o73_66 P) .nil .nil) .nil) (.node (o57_50 P) (.node (o89_82 P) .nil .nil) .nil))) (.node (o13_2 P) (.node (o21_12 P) (.node (o37_28 P) (.node (o69_62 P) .nil .nil) (.node (o101_95 P) .nil .nil)) (.node (o53_44 P) (.node (o85_78 P) .nil .nil) .nil)) (.node (o29_20 P) (.node (o45_36 P) (.node (o77_70 P) .nil .nil) .nil) (.node (o61_54 P) (.node (o93_87 P) .nil .nil) .nil))))) (.node (boot_o_2 P) (.node (boot_o_4 P) (.node (boot_o_8 P) (.node (o16_7 P) (.node (o32_23 P) (.node (o64_57 P) .nil .nil) (.node (o96_90 P) .nil .nil)) (.node (o48_39 P) (.node (o80_73 P) .nil .nil) .nil)) (.node (o24_15 P) (.node (o40_31 P) (.node (o72_65 P) .nil .nil) .nil) (.node (o56_47 P) (.node (o88_81 P) .nil .nil) .nil))) (.node (o12_49 P) (.node (o20_11 P) (.node (o36_27 P) (.node (o68_61 P) .nil .nil) (.node (o100_94 P) .nil .nil)) (.node (o52_43 P) (.node (o84_77 P) .nil .nil) .nil)) (.node (o28_19 P) (.node (o44_35 P) (.node (o76_69 P) .nil .nil) .nil) (.node (o60_53 P) (.node (o92_86 P) .nil .nil) .nil)))) (.node (boot_o_6 P) (.node (boot_o_10 P) (.node (o18_9 P) (.node (o34_25 P) (.node (o66_59 P) .nil .nil) (.node (o98_92 P) .nil .nil)) (.node (o50_41 P) (.node (o82_75 P) .nil .nil) .nil)) (.node (o26_17 P) (.node (o42_33 P) (.node (o74_67 P) .nil .nil) .nil) (.node (o58_51 P) (.node (o90_83 P) .nil .nil) .nil))) (.node (o14_3 P) (.node (o22_13 P) (.node (o38_29 P) (.node (o70_63 P) .nil .nil) (.node (o102_96 P) .nil .nil)) (.node (o54_45 P) (.node (o86_79 P) .nil .nil) .nil)) (.node (o30_21 P) (.node (o46_37 P) (.node (o78_71 P) .nil .nil) .nil) (.node (o62_55 P) (.node (o94_88 P) .nil .nil) .nil))))))
noncomputable def o3_97 (P : Params) : Obj := ⟨(.type "dict"), none, (.dict #[⟨PyData.keyHash P (Str.ofString "__name__"), (.str (Str.ofString "__name__") 165), (.str (Str.ofString "cpy313.stringprep") 289)⟩, ⟨PyData.keyHash P (Str.ofString "__doc__"), (.str (Str.ofString "__doc__") 166), .none⟩, ⟨PyData.keyHash P (Str.ofString "__package__"), (.str (Str.ofString "__package__") 167), .none⟩, ⟨PyData.keyHash P (Str.ofString "__loader__"), (.str (Str.ofString "__loader__") 168), (.builtin "__main__.__loader__#opaque")⟩, ⟨PyData.keyHash P (Str.ofString "__spec__"), (.str (Str.ofString "__spec__") 169), .none⟩, ⟨PyData.keyHash P (Str.ofString "__annotations__"), (.str (Str.ofString "__annotations__") 170), (.ref 6)⟩, ⟨PyData.keyHash P (Str.ofString "__builtins__"), (.str (Str.ofString "__builtins__") 171), (.ref 4)⟩, ⟨PyData.keyHash P (Str.ofString "__file__"), (.str (Str.ofString "__file__") 173), (.str (Str.ofString "/claim/cut.py") 172)⟩, ⟨PyData.keyHash P (Str.ofString "__cached__"), (.str (Str.ofString "__cached__") 174), .none⟩, ⟨PyData.keyHash P (Str.ofString "_netrclex"), (.str (Str.ofString "_netrclex") 246), (.ref 52)⟩, ⟨PyData.keyHash P (Str.ofString "eq"), (.str (Str.ofString "eq") 256), (.ref 63)⟩, ⟨PyData.keyHash P (Str.ofString "floordiv"), (.str (Str.ofString "floordiv") 264), (.ref 70)⟩, ⟨PyData.keyHash P (Str.ofString "mod"), (.str (Str.ofString "mod") 272), (.ref 77)⟩, ⟨PyData.keyHash P (Str.ofString "neg"), (.str (Str.ofString "neg") 279), (.ref 84)⟩, ⟨PyData.keyHash P (Str.ofString "concat"), (.str (Str.ofString "concat") 288), (.ref 91)⟩, ⟨PyData.keyHash P (Str.ofString "b1_set"), (.str (Str.ofString "b1_set") 350), (.ref 99)⟩, ⟨PyData.keyHash P (Str.ofString "in_table_b1"), (.str (Str.ofString "in_table_b1") 357), (.ref 109)⟩] 17), #[]⟩
noncomputable def o12_98 (P : Params) : Obj := ⟨.none, none, (.fields #[(.int (2) 0), (.int (0) 0), (.ref 20), (.int (46) 0), (.int (0) 0), (.ref 62), (.int (48) 0), (.int (0) 0), (.ref 69), (.int (50) 0), (.int (0) 0), (.ref 76), (.int (52) 0), (.int (0) 0), (.ref 83), (.int (54) 0), (.int (0) 0), (.ref 90), (.int (61) 0), (.int (0) 0), (.ref 108)]), #[]⟩
noncomputable def o103_99 (P : Params) : Obj := ⟨(.type "tuple"), none, (.seq #[] 0), #[]⟩
noncomputable def o104_100 (P : Params) : Obj := ⟨.none, none, (.fields #[]), #[]⟩
noncomputable def o105_101 (P : Params) : Obj := ⟨(.type "tuple"), none, (.seq #[(.str (Str.ofString "code") 354)] 0), #[]⟩
noncomputable def o106_102 (P : Params) : Obj := ⟨(.type "tuple"), none, (.seq #[] 0), #[]⟩
noncomputable def o107_103 (P : Params) : Obj := ⟨.none, none, (.func { name := (Str.ofString "in_table_b1"), qualname := (Str.ofString "in_table_b1"), params := dPar (stm 10), body := .stmts (dBody (stm 10)), scope := dScope (stm 10), globals := 0, closure := [], defaults := .none, kwdefaults := .none, doc := .none, pyModule := .none, annotations := none, code := .none, closureTuple := .none, builtins := 0 }), #[]⟩
noncomputable def o108_104 (P : Params) : Obj := ⟨(.type "code"), none, (.fields #[(.str (Str.ofString "in_table_b1") 351), (.str (Str.ofString "in_table_b1") 352), (.str (Str.ofString "/claim/cut.py") 353), (.int (61) 0), (.int (1) 0), (.int (0) 0), (.int (0) 0), (.int (3) 0), (.ref 103), (.bool true), (.int (181) 0), (.ref 104), .none, (.ref 105), (.ref 106), (.ref 107), (.int (355) 0), (.int (61) 0), (.str (Str.ofString "/claim/cut.py") 356)]), #[]⟩
noncomputable def o109_105 (P : Params) : Obj := ⟨(.type "function"), none, (.func { name := (Str.ofString "in_table_b1"), qualname := (Str.ofString "in_table_b1"), params := dPar (stm 10), body := .stmts (dBody (stm 10)), scope := dScope (stm 10), globals := 3, closure := [], defaults := .none, kwdefaults := .none, doc := .none, pyModule := (.str (Str.ofString "cpy313.stringprep") 289), annotations := none, code := (.ref 108), closureTuple := .none, builtins := 0 }), #[]⟩
noncomputable def t4 (P : Params) : BT := (.node (boot_o_0 P) (.node (boot_o_1 P) (.node (o3_97 P) (.node (boot_o_7 P) (.node (o15_6 P) (.node (o31_22 P) (.node (o63_56 P) .nil .nil) (.node (o95_89 P) .nil .nil)) (.node (o47_38 P) (.node (o79_72 P) .nil .nil) .nil)) (.node (o23_14 P) (.node (o39_30 P) (.node (o71_64 P) .nil .nil) (.node (o103_99 P) .nil .nil)) (.node (o55_46 P) (.node (o87_80 P) .nil .nil) .nil))) (.node (o11_0 P) (.node (o19_10 P) (.node (o35_26 P) (.node (o67_60 P) .nil .nil) (.node (o99_93 P) .nil .nil)) (.node (o51_42 P) (.node (o83_76 P) .nil .nil) .nil)) (.node (o27_18 P) (.node (o43_34 P) (.node (o75_68 P) .nil .nil) (.node (o107_103 P) .nil .nil)) (.node (o59_52 P) (.node (o91_84 P) .nil .nil) .nil)))) (.node (boot_o_5 P) (.node (boot_o_9 P) (.node (o17_8 P) (.node (o33_24 P) (.node (o65_58 P) .nil .nil) (.node (o97_91 P) .nil .nil)) (.node (o49_40 P) (.node (o81_74 P) .nil .nil) .nil)) (.node (o25_16 P) (.node (o41_32 P) (.node (o73_66 P) .nil .nil) (.node (o105_101 P) .nil .nil)) (.node (o57_50 P) (.node (o89_82 P) .nil .nil) .nil))) (.node (o13_2 P) (.node (o21_12 P) (.node (o37_28 P) (.node (o69_62 P) .nil .nil) (.node (o101_95 P) .nil .nil)) (.node (o53_44 P) (.node (o85_78 P) .nil .nil) .nil)) (.node (o29_20 P) (.node (o45_36 P) (.node (o77_70 P) .nil .nil) (.node (o109_105 P) .nil .nil)) (.node (o61_54 P) (.node (o93_87 P) .nil .nil) .nil))))) (.node (boot_o_2 P) (.node (boot_o_4 P) (.node (boot_o_8 P) (.node (o16_7 P) (.node (o32_23 P) (.node (o64_57 P) .nil .nil) (.node (o96_90 P) .nil .nil)) (.node (o48_39 P) (.node (o80_73 P) .nil .nil) .nil)) (.node (o24_15 P) (.node (o40_31 P) (.node (o72_65 P) .nil .nil) (.node (o104_100 P) .nil .nil)) (.node (o56_47 P) (.node (o88_81 P) .nil .nil) .nil))) (.node (o12_98 P) (.node (o20_11 P) (.node (o36_27 P) (.node (o68_61 P) .nil .nil) (.node (o100_94 P) .nil .nil)) (.node (o52_43 P) (.node (o84_77 P) .nil .nil) .nil)) (.node (o28_19 P) (.node (o44_35 P) (.node (o76_69 P) .nil .nil) (.node (o108_104 P) .nil .nil)) (.node (o60_53 P) (.node (o92_86 P) .nil .nil) .nil)))) (.node (boot_o_6 P) (.node (boot_o_10 P) (.node (o18_9 P) (.node (o34_25 P) (.node (o66_59 P) .nil .nil) (.node (o98_92 P) .nil .nil)) (.node (o50_41 P) (.node (o82_75 P) .nil .nil) .nil)) (.node (o26_17 P) (.node (o42_33 P) (.node (o74_67 P) .nil .nil) (.node (o106_102 P) .nil .nil)) (.node (o58_51 P) (.node (o90_83 P) .nil .nil) .nil))) (.node (o14_3 P) (.node (o22_13 P) (.node (o38_29 P) (.node (o70_63 P) .nil .nil) (.node (o102_96 P) .nil .nil)) (.node (o54_45 P) (.node (o86_79 P) .nil .nil) .nil)) (.node (o30_21 P) (.node (o46_37 P) (.node (o78_71 P) .nil .nil) .nil) (.node (o62_55 P) (.node (o94_88 P) .nil .nil) .nil))))))
noncomputable def o3_106 (P : Params) : Obj := ⟨(.type "dict"), none, (.dict #[⟨PyData.keyHash P (Str.ofString "__name__"), (.str (Str.ofString "__name__") 165), (.str (Str.ofString "cpy313.stringprep") 289)⟩, ⟨PyData.keyHash P (Str.ofString "__doc__"), (.str (Str.ofString "__doc__") 166), .none⟩, ⟨PyData.keyHash P (Str.ofString "__package__"), (.str (Str.ofString "__package__") 167), .none⟩, ⟨PyData.keyHash P (Str.ofString "__loader__"), (.str (Str.ofString "__loader__") 168), (.builtin "__main__.__loader__#opaque")⟩, ⟨PyData.keyHash P (Str.ofString "__spec__"), (.str (Str.ofString "__spec__") 169), .none⟩, ⟨PyData.keyHash P (Str.ofString "__annotations__"), (.str (Str.ofString "__annotations__") 170), (.ref 6)⟩, ⟨PyData.keyHash P (Str.ofString "__builtins__"), (.str (Str.ofString "__builtins__") 171), (.ref 4)⟩, ⟨PyData.keyHash P (Str.ofString "__file__"), (.str (Str.ofString "__file__") 173), (.str (Str.ofString "/claim/cut.py") 172)⟩, ⟨PyData.keyHash P (Str.ofString "__cached__"), (.str (Str.ofString "__cached__") 174), .none⟩, ⟨PyData.keyHash P (Str.ofString "_netrclex"), (.str (Str.ofString "_netrclex") 246), (.ref 52)⟩, ⟨PyData.keyHash P (Str.ofString "eq"), (.str (Str.ofString "eq") 256), (.ref 63)⟩, ⟨PyData.keyHash P (Str.ofString "floordiv"), (.str (Str.ofString "floordiv") 264), (.ref 70)⟩, ⟨PyData.keyHash P (Str.ofString "mod"), (.str (Str.ofString "mod") 272), (.ref 77)⟩, ⟨PyData.keyHash P (Str.ofString "neg"), (.str (Str.ofString "neg") 279), (.ref 84)⟩, ⟨PyData.keyHash P (Str.ofString "concat"), (.str (Str.ofString "concat") 288), (.ref 91)⟩, ⟨PyData.keyHash P (Str.ofString "b1_set"), (.str (Str.ofString "b1_set") 350), (.ref 99)⟩, ⟨PyData.keyHash P (Str.ofString "in_table_b1"), (.str (Str.ofString "in_table_b1") 357), (.ref 109)⟩, ⟨PyData.keyHash P (Str.ofString "b3_exceptions"), (.str (Str.ofString "b3_exceptions") 2308), (.ref 110)⟩] 18), #[]⟩
noncomputable def o110_107 (P : Params) : Obj := ⟨(.type "dict"), none, (dO ddS.main).data, #[]⟩
noncomputable def o111_108 (P : Params) : Obj := ⟨(.type "dict"), none, (dO ((ddS.subs.reverse[0]?).getD [])).data, #[]⟩
noncomputable def o112_109 (P : Params) : Obj := ⟨(.type "dict"), none, (dO ((ddS.subs.reverse[1]?).getD [])).data, #[]⟩
noncomputable def o113_110 (P : Params) : Obj := ⟨(.type "dict"), none, (dO ((ddS.subs.reverse[2]?).getD [])).data, #[]⟩
noncomputable def o114_111 (P : Params) : Obj := ⟨(.type "dict"), none, (dO ((ddS.subs.reverse[3]?).getD [])).data, #[]⟩
noncomputable def o115_112 (P : Params) : Obj := ⟨(.type "dict"), none, (dO ((ddS.subs.reverse[4]?).getD [])).data, #[]⟩
noncomputable def o116_113 (P : Params) : Obj := ⟨(.type "dict"), none, (dO ((ddS.subs.reverse[5]?).getD [])).data, #[]⟩
noncomputable def o117_114 (P : Params) : Obj := ⟨(.type "dict"), none, (dO ((ddS.subs.reverse[6]?).getD [])).data, #[]⟩
noncomputable def o118_115 (P : Params) : Obj := ⟨(.type "dict"), none, (dO ((ddS.subs.reverse[7]?).getD [])).data, #[]⟩
noncomputable def o119_116 (P : Params) : Obj := ⟨(.type "dict"), none, (dO ((ddS.subs.reverse[8]?).getD [])).data, #[]⟩
noncomputable def o120_117 (P : Params) : Obj := ⟨(.type "dict"), none, (dO ((ddS.subs.reverse[9]?).getD [])).data, #[]⟩
noncomputable def o121_118 (P : Params) : Obj := ⟨(.type "dict"), none, (dO ((ddS.subs.reverse[10]?).getD [])).data, #[]⟩
noncomputable def o122_119 (P : Params) : Obj := ⟨(.type "dict"), none, (dO ((ddS.subs.reverse[11]?).getD [])).data, #[]⟩
noncomputable def o123_120 (P : Params) : Obj := ⟨(.type "dict"), none, (dO ((ddS.subs.reverse[12]?).getD [])).data, #[]⟩
noncomputable def o124_121 (P : Params) : Obj := ⟨(.type "dict"), none, (dO ((ddS.subs.reverse[13]?).getD [])).data, #[]⟩
noncomputable def o125_122 (P : Params) : Obj := ⟨(.type "dict"), none, (dO ((ddS.subs.reverse[14]?).getD [])).data, #[]⟩
noncomputable def o126_123 (P : Params) : Obj := ⟨(.type "dict"), none, (dO ((ddS.subs.reverse[15]?).getD [])).data, #[]⟩
noncomputable def o127_124 (P : Params) : Obj := ⟨(.type "dict"), none, (dO ((ddS.subs.reverse[16]?).getD [])).data, #[]⟩
noncomputable def o128_125 (P : Params) : Obj := ⟨(.type "dict"), none, (dO ((ddS.subs.reverse[17]?).getD [])).data, #[]⟩
noncomputable def o129_126 (P : Params) : Obj := ⟨(.type "dict"), none, (dO ((ddS.subs.reverse[18]?).getD [])).data, #[]⟩
noncomputable def o130_127 (P : Params) : Obj := ⟨(.type "dict"), none, (dO ((ddS.subs.reverse[19]?).getD [])).data, #[]⟩
noncomputable def o131_128 (P : Params) : Obj := ⟨(.type "dict"), none, (dO ((ddS.subs.reverse[20]?).getD [])).data, #[]⟩
noncomputable def o132_129 (P : Params) : Obj := ⟨(.type "dict"), none, (dO ((ddS.subs.reverse[21]?).getD [])).data, #[]⟩
noncomputable def o133_130 (P : Params) : Obj := ⟨(.type "dict"), none, (dO ((ddS.subs.reverse[22]?).getD [])).data, #[]⟩
noncomputable def o134_131 (P : Params) : Obj := ⟨(.type "dict"), none, (dO ((ddS.subs.reverse[23]?).getD [])).data, #[]⟩
noncomputable def o135_132 (P : Params) : Obj := ⟨(.type "dict"), none, (dO ((ddS.subs.reverse[24]?).getD [])).data, #[]⟩
noncomputable def o136_133 (P : Params) : Obj := ⟨(.type "dict"), none, (dO ((ddS.subs.reverse[25]?).getD [])).data, #[]⟩
noncomputable def o137_134 (P : Params) : Obj := ⟨(.type "dict"), none, (dO ((ddS.subs.reverse[26]?).getD [])).data, #[]⟩
noncomputable def o138_135 (P : Params) : Obj := ⟨(.type "dict"), none, (dO ((ddS.subs.reverse[27]?).getD [])).data, #[]⟩
noncomputable def o139_136 (P : Params) : Obj := ⟨(.type "dict"), none, (dO ((ddS.subs.reverse[28]?).getD [])).data, #[]⟩
noncomputable def o140_137 (P : Params) : Obj := ⟨(.type "dict"), none, (dO ((ddS.subs.reverse[29]?).getD [])).data, #[]⟩
noncomputable def o141_138 (P : Params) : Obj := ⟨(.type "dict"), none, (dO ((ddS.subs.reverse[30]?).getD [])).data, #[]⟩
noncomputable def o142_139 (P : Params) : Obj := ⟨(.type "dict"), none, (dO ((ddS.subs.reverse[31]?).getD [])).data, #[]⟩
noncomputable def o143_140 (P : Params) : Obj := ⟨(.type "dict"), none, (dO ((ddS.subs.reverse[32]?).getD [])).data, #[]⟩
noncomputable def o144_141 (P : Params) : Obj := ⟨(.type "dict"), none, (dO ((ddS.subs.reverse[33]?).getD [])).data, #[]⟩
noncomputable def o145_142 (P : Params) : Obj := ⟨(.type "dict"), none, (dO ((ddS.subs.reverse[34]?).getD [])).data, #[]⟩
noncomputable def o146_143 (P : Params) : Obj := ⟨(.type "dict"), none, (dO ((ddS.subs.reverse[35]?).getD [])).data, #[]⟩
noncomputable def o147_144 (P : Params) : Obj := ⟨(.type "dict"), none, (dO ((ddS.subs.reverse[36]?).getD [])).data, #[]⟩
noncomputable def o148_145 (P : Params) : Obj := ⟨(.type "dict"), none, (dO ((ddS.subs.reverse[37]?).getD [])).data, #[]⟩
noncomputable def t5 (P : Params) : BT := (.node (boot_o_0 P) (.node (boot_o_1 P) (.node (o3_106 P) (.node (boot_o_7 P) (.node (o15_6 P) (.node (o31_22 P) (.node (o63_56 P) (.node (o127_124 P) .nil .nil) .nil) (.node (o95_89 P) .nil .nil)) (.node (o47_38 P) (.node (o79_72 P) (.node (o143_140 P) .nil .nil) .nil) (.node (o111_108 P) .nil .nil))) (.node (o23_14 P) (.node (o39_30 P) (.node (o71_64 P) (.node (o135_132 P) .nil .nil) .nil) (.node (o103_99 P) .nil .nil)) (.node (o55_46 P) (.node (o87_80 P) .nil .nil) (.node (o119_116 P) .nil .nil)))) (.node (o11_0 P) (.node (o19_10 P) (.node (o35_26 P) (.node (o67_60 P) (.node (o131_128 P) .nil .nil) .nil) (.node (o99_93 P) .nil .nil)) (.node (o51_42 P) (.node (o83_76 P) (.node (o147_144 P) .nil .nil) .nil) (.node (o115_112 P) .nil .nil))) (.node (o27_18 P) (.node (o43_34 P) (.node (o75_68 P) (.node (o139_136 P) .nil .nil) .nil) (.node (o107_103 P) .nil .nil)) (.node (o59_52 P) (.node (o91_84 P) .nil .nil) (.node (o123_120 P) .nil .nil))))) (.node (boot_o_5 P) (.node (boot_o_9 P) (.node (o17_8 P) (.node (o33_24 P) (.node (o65_58 P) (.node (o129_126 P) .nil .nil) .nil) (.node (o97_91 P) .nil .nil)) (.node (o49_40 P) (.node (o81_74 P) (.node (o145_142 P) .nil .nil) .nil) (.node (o113_110 P) .nil .nil))) (.node (o25_16 P) (.node (o41_32 P) (.node (o73_66 P) (.node (o137_134 P) .nil .nil) .nil) (.node (o105_101 P) .nil .nil)) (.node (o57_50 P) (.node (o89_82 P) .nil .nil) (.node (o121_118 P) .nil .nil)))) (.node (o13_2 P) (.node (o21_12 P) (.node (o37_28 P) (.node (o69_62 P) (.node (o133_130 P) .nil .nil) .nil) (.node (o101_95 P) .nil .nil)) (.node (o53_44 P) (.node (o85_78 P) .nil .nil) (.node (o117_114 P) .nil .nil))) (.node (o29_20 P) (.node (o45_36 P) (.node (o77_70 P) (.node (o141_138 P) .nil .nil) .nil) (.node (o109_105 P) .nil .nil)) (.node (o61_54 P) (.node (o93_87 P) .nil .nil) (.node (o125_122 P) .nil .nil)))))) (.node (boot_o_2 P) (.node (boot_o_4 P) (.node (boot_o_8 P) (.node (o16_7 P) (.node (o32_23 P) (.node (o64_57 P) (.node (o128_125 P) .nil .nil) .nil) (.node (o96_90 P) .nil .nil)) (.node (o48_39 P) (.node (o80_73 P) (.node (o144_141 P) .nil .nil) .nil) (.node (o112_109 P) .nil .nil))) (.node (o24_15 P) (.node (o40_31 P) (.node (o72_65 P) (.node (o136_133 P) .nil .nil) .nil) (.node (o104_100 P) .nil .nil)) (.node (o56_47 P) (.node (o88_81 P) .nil .nil) (.node (o120_117 P) .nil .nil)))) (.node (o12_98 P) (.node (o20_11 P) (.node (o36_27 P) (.node (o68_61 P) (.node (o132_129 P) .nil .nil) .nil) (.node (o100_94 P) .nil .nil)) (.node (o52_43 P) (.node (o84_77 P) (.node (o148_145 P) .nil .nil) .nil) (.node (o116_113 P) .nil .nil))) (.node (o28_19 P) (.node (o44_35 P) (.node (o76_69 P) (.node (o140_137 P) .nil .nil) .nil) (.node (o108_104 P) .nil .nil)) (.node (o60_53 P) (.node (o92_86 P) .nil .nil) (.node (o124_121 P) .nil .nil))))) (.node (boot_o_6 P) (.node (boot_o_10 P) (.node (o18_9 P) (.node (o34_25 P) (.node (o66_59 P) (.node (o130_127 P) .nil .nil) .nil) (.node (o98_92 P) .nil .nil)) (.node (o50_41 P) (.node (o82_75 P) (.node (o146_143 P) .nil .nil) .nil) (.node (o114_111 P) .nil .nil))) (.node (o26_17 P) (.node (o42_33 P) (.node (o74_67 P) (.node (o138_135 P) .nil .nil) .nil) (.node (o106_102 P) .nil .nil)) (.node (o58_51 P) (.node (o90_83 P) .nil .nil) (.node (o122_119 P) .nil .nil)))) (.node (o14_3 P) (.node (o22_13 P) (.node (o38_29 P) (.node (o70_63 P) (.node (o134_131 P) .nil .nil) .nil) (.node (o102_96 P) .nil .nil)) (.node (o54_45 P) (.node (o86_79 P) .nil .nil) (.node (o118_115 P) .nil .nil))) (.node (o30_21 P) (.node (o46_37 P) (.node (o78_71 P) (.node (o142_139 P) .nil .nil) .nil) (.node (o110_107 P) .nil .nil)) (.node (o62_55 P) (.node (o94_88 P) .nil .nil) (.node (o126_123 P) .nil .nil)))))))
noncomputable def o3_146 (P : Params) : Obj := ⟨(.type "dict"), none, (.dict #[⟨PyData.keyHash P (Str.ofString "__name__"), (.str (Str.ofString "__name__") 165), (.str (Str.ofString "law_to0041_01") 2317)⟩, ⟨PyData.keyHash P (Str.ofString "__doc__"), (.str (Str.ofString "__doc__") 166), .none⟩, ⟨PyData.keyHash P (Str.ofString "__package__"), (.str (Str.ofString "__package__") 167), .none⟩, ⟨PyData.keyHash P (Str.ofString "__loader__"), (.str (Str.ofString "__loader__") 168), (.builtin "__main__.__loader__#opaque")⟩, ⟨PyData.keyHash P (Str.ofString "__spec__"), (.str (Str.ofString "__spec__") 169), .none⟩, ⟨PyData.keyHash P (Str.ofString "__annotations__"), (.str (Str.ofString "__annotations__") 170), (.ref 6)⟩, ⟨PyData.keyHash P (Str.ofString "__builtins__"), (.str (Str.ofString "__builtins__") 171), (.ref 4)⟩, ⟨PyData.keyHash P (Str.ofString "__file__"), (.str (Str.ofString "__file__") 173), (.str (Str.ofString "/claim/cut.py") 172)⟩, ⟨PyData.keyHash P (Str.ofString "__cached__"), (.str (Str.ofString "__cached__") 174), .none⟩, ⟨PyData.keyHash P (Str.ofString "_netrclex"), (.str (Str.ofString "_netrclex") 246), (.ref 52)⟩, ⟨PyData.keyHash P (Str.ofString "eq"), (.str (Str.ofString "eq") 256), (.ref 63)⟩, ⟨PyData.keyHash P (Str.ofString "floordiv"), (.str (Str.ofString "floordiv") 264), (.ref 70)⟩, ⟨PyData.keyHash P (Str.ofString "mod"), (.str (Str.ofString "mod") 272), (.ref 77)⟩, ⟨PyData.keyHash P (Str.ofString "neg"), (.str (Str.ofString "neg") 279), (.ref 84)⟩, ⟨PyData.keyHash P (Str.ofString "concat"), (.str (Str.ofString "concat") 288), (.ref 91)⟩, ⟨PyData.keyHash P (Str.ofString "b1_set"), (.str (Str.ofString "b1_set") 350), (.ref 99)⟩, ⟨PyData.keyHash P (Str.ofString "in_table_b1"), (.str (Str.ofString "in_table_b1") 357), (.ref 109)⟩, ⟨PyData.keyHash P (Str.ofString "b3_exceptions"), (.str (Str.ofString "b3_exceptions") 2308), (.ref 110)⟩, ⟨PyData.keyHash P (Str.ofString "map_table_b3"), (.str (Str.ofString "map_table_b3") 2316), (.ref 155)⟩, ⟨PyData.keyHash P (Str.ofString "_law_lexer"), (.str (Str.ofString "_law_lexer") 2327), (.ref 162)⟩, ⟨PyData.keyHash P (Str.ofString "_law_cells"), (.str (Str.ofString "_law_cells") 2336), (.ref 169)⟩, ⟨PyData.keyHash P (Str.ofString "_law_board"), (.str (Str.ofString "_law_board") 2342), (.ref 174)⟩, ⟨PyData.keyHash P (Str.ofString "_law_typed"), (.str (Str.ofString "_law_typed") 2360), (.ref 181)⟩, ⟨PyData.keyHash P (Str.ofString "_law_text"), (.str (Str.ofString "_law_text") 2366), (.ref 186)⟩, ⟨PyData.keyHash P (Str.ofString "_law_prepared"), (.str (Str.ofString "_law_prepared") 2372), (.ref 191)⟩, ⟨PyData.keyHash P (Str.ofString "_law_sown"), (.str (Str.ofString "_law_sown") 2378), (.ref 196)⟩, ⟨PyData.keyHash P (Str.ofString "_law_told"), (.str (Str.ofString "_law_told") 2388), (.ref 203)⟩, ⟨PyData.keyHash P (Str.ofString "_law_struck"), (.str (Str.ofString "_law_struck") 2402), (.ref 210)⟩, ⟨PyData.keyHash P (Str.ofString "_law_home"), (.str (Str.ofString "_law_home") 2408), (.ref 215)⟩, ⟨PyData.keyHash P (Str.ofString "law"), (.str (Str.ofString "law") 2414), (.ref 220)⟩] 30), #[]⟩
noncomputable def o12_147 (P : Params) : Obj := ⟨.none, none, (.fields #[(.int (2) 0), (.int (0) 0), (.ref 20), (.int (46) 0), (.int (0) 0), (.ref 62), (.int (48) 0), (.int (0) 0), (.ref 69), (.int (50) 0), (.int (0) 0), (.ref 76), (.int (52) 0), (.int (0) 0), (.ref 83), (.int (54) 0), (.int (0) 0), (.ref 90), (.int (61) 0), (.int (0) 0), (.ref 108), (.int (64) 0), (.int (0) 0), (.ref 154), (.int (70) 0), (.int (0) 0), (.ref 161), (.int (76) 0), (.int (0) 0), (.ref 168), (.int (81) 0), (.int (0) 0), (.ref 173), (.int (90) 0), (.int (0) 0), (.ref 180), (.int (106) 0), (.int (0) 0), (.ref 185), (.int (112) 0), (.int (0) 0), (.ref 190), (.int (117) 0), (.int (0) 0), (.ref 195), (.int (132) 0), (.int (0) 0), (.ref 202), (.int (139) 0), (.int (0) 0), (.ref 209), (.int (158) 0), (.int (0) 0), (.ref 214), (.int (168) 0), (.int (0) 0), (.ref 219)]), #[]⟩
noncomputable def o149_148 (P : Params) : Obj := ⟨(.type "tuple"), none, (.seq #[] 0), #[]⟩
noncomputable def o150_149 (P : Params) : Obj := ⟨.none, none, (.fields #[]), #[]⟩
noncomputable def o151_150 (P : Params) : Obj := ⟨(.type "tuple"), none, (.seq #[(.str (Str.ofString "code") 2312), (.str (Str.ofString "r") 2313)] 0), #[]⟩
noncomputable def o152_151 (P : Params) : Obj := ⟨(.type "tuple"), none, (.seq #[] 0), #[]⟩
noncomputable def o153_152 (P : Params) : Obj := ⟨.none, none, (.func { name := (Str.ofString "map_table_b3"), qualname := (Str.ofString "map_table_b3"), params := dPar (stm 12), body := .stmts (dBody (stm 12)), scope := dScope (stm 12), globals := 0, closure := [], defaults := .none, kwdefaults := .none, doc := .none, pyModule := .none, annotations := none, code := .none, closureTuple := .none, builtins := 0 }), #[]⟩
noncomputable def o154_153 (P : Params) : Obj := ⟨(.type "code"), none, (.fields #[(.str (Str.ofString "map_table_b3") 2309), (.str (Str.ofString "map_table_b3") 2310), (.str (Str.ofString "/claim/cut.py") 2311), (.int (64) 0), (.int (1) 0), (.int (0) 0), (.int (0) 0), (.int (3) 0), (.ref 149), (.bool true), (.int (181) 0), (.ref 150), .none, (.ref 151), (.ref 152), (.ref 153), (.int (2314) 0), (.int (64) 0), (.str (Str.ofString "/claim/cut.py") 2315)]), #[]⟩
noncomputable def o155_154 (P : Params) : Obj := ⟨(.type "function"), none, (.func { name := (Str.ofString "map_table_b3"), qualname := (Str.ofString "map_table_b3"), params := dPar (stm 12), body := .stmts (dBody (stm 12)), scope := dScope (stm 12), globals := 3, closure := [], defaults := .none, kwdefaults := .none, doc := .none, pyModule := (.str (Str.ofString "cpy313.stringprep") 289), annotations := none, code := (.ref 154), closureTuple := .none, builtins := 0 }), #[]⟩
noncomputable def o156_155 (P : Params) : Obj := ⟨(.type "tuple"), none, (.seq #[] 0), #[]⟩
noncomputable def o157_156 (P : Params) : Obj := ⟨.none, none, (.fields #[]), #[]⟩
noncomputable def o158_157 (P : Params) : Obj := ⟨(.type "tuple"), none, (.seq #[(.str (Str.ofString "text") 2322), (.str (Str.ofString "stream") 2323)] 0), #[]⟩
noncomputable def o159_158 (P : Params) : Obj := ⟨(.type "tuple"), none, (.seq #[(.str (Str.ofString "signs") 2324)] 0), #[]⟩
noncomputable def o160_159 (P : Params) : Obj := ⟨.none, none, (.func { name := (Str.ofString "_law_lexer"), qualname := (Str.ofString "_law_lexer"), params := dPar (stm 14), body := .stmts (dBody (stm 14)), scope := dScope (stm 14), globals := 0, closure := [], defaults := .none, kwdefaults := .none, doc := .none, pyModule := .none, annotations := none, code := .none, closureTuple := .none, builtins := 0 }), #[]⟩
noncomputable def o161_160 (P : Params) : Obj := ⟨(.type "code"), none, (.fields #[(.str (Str.ofString "_law_lexer") 2319), (.str (Str.ofString "_law_lexer") 2320), (.str (Str.ofString "/claim/cut.py") 2321), (.int (70) 0), (.int (1) 0), (.int (0) 0), (.int (0) 0), (.int (3) 0), (.ref 156), (.bool true), (.int (181) 0), (.ref 157), .none, (.ref 158), (.ref 159), (.ref 160), (.int (2325) 0), (.int (70) 0), (.str (Str.ofString "/claim/cut.py") 2326)]), #[]⟩
noncomputable def o162_161 (P : Params) : Obj := ⟨(.type "function"), none, (.func { name := (Str.ofString "_law_lexer"), qualname := (Str.ofString "_law_lexer"), params := dPar (stm 14), body := .stmts (dBody (stm 14)), scope := dScope (stm 14), globals := 3, closure := [], defaults := .none, kwdefaults := .none, doc := .none, pyModule := (.str (Str.ofString "law_to0041_01") 2317), annotations := none, code := (.ref 161), closureTuple := .none, builtins := 0 }), #[]⟩
noncomputable def o163_162 (P : Params) : Obj := ⟨(.type "tuple"), none, (.seq #[] 0), #[]⟩
noncomputable def o164_163 (P : Params) : Obj := ⟨.none, none, (.fields #[]), #[]⟩
noncomputable def o165_164 (P : Params) : Obj := ⟨(.type "tuple"), none, (.seq #[(.str (Str.ofString "script") 2331), (.str (Str.ofString "cells") 2332), (.str (Str.ofString "k") 2333)] 0), #[]⟩
noncomputable def o166_165 (P : Params) : Obj := ⟨(.type "tuple"), none, (.seq #[] 0), #[]⟩
noncomputable def o167_166 (P : Params) : Obj := ⟨.none, none, (.func { name := (Str.ofString "_law_cells"), qualname := (Str.ofString "_law_cells"), params := dPar (stm 15), body := .stmts (dBody (stm 15)), scope := dScope (stm 15), globals := 0, closure := [], defaults := .none, kwdefaults := .none, doc := .none, pyModule := .none, annotations := none, code := .none, closureTuple := .none, builtins := 0 }), #[]⟩
noncomputable def o168_167 (P : Params) : Obj := ⟨(.type "code"), none, (.fields #[(.str (Str.ofString "_law_cells") 2328), (.str (Str.ofString "_law_cells") 2329), (.str (Str.ofString "/claim/cut.py") 2330), (.int (76) 0), (.int (1) 0), (.int (0) 0), (.int (0) 0), (.int (3) 0), (.ref 163), (.bool true), (.int (181) 0), (.ref 164), .none, (.ref 165), (.ref 166), (.ref 167), (.int (2334) 0), (.int (76) 0), (.str (Str.ofString "/claim/cut.py") 2335)]), #[]⟩
noncomputable def o169_168 (P : Params) : Obj := ⟨(.type "function"), none, (.func { name := (Str.ofString "_law_cells"), qualname := (Str.ofString "_law_cells"), params := dPar (stm 15), body := .stmts (dBody (stm 15)), scope := dScope (stm 15), globals := 3, closure := [], defaults := .none, kwdefaults := .none, doc := .none, pyModule := (.str (Str.ofString "law_to0041_01") 2317), annotations := none, code := (.ref 168), closureTuple := .none, builtins := 0 }), #[]⟩
noncomputable def o170_169 (P : Params) : Obj := ⟨(.type "tuple"), none, (.seq #[] 0), #[]⟩
noncomputable def o171_170 (P : Params) : Obj := ⟨.none, none, (.fields #[]), #[]⟩
noncomputable def o172_171 (P : Params) : Obj := ⟨.none, none, (.func { name := (Str.ofString "_law_board"), qualname := (Str.ofString "_law_board"), params := dPar (stm 16), body := .stmts (dBody (stm 16)), scope := dScope (stm 16), globals := 0, closure := [], defaults := .none, kwdefaults := .none, doc := .none, pyModule := .none, annotations := none, code := .none, closureTuple := .none, builtins := 0 }), #[]⟩
noncomputable def o173_172 (P : Params) : Obj := ⟨(.type "code"), none, (.fields #[(.str (Str.ofString "_law_board") 2337), (.str (Str.ofString "_law_board") 2338), (.str (Str.ofString "/claim/cut.py") 2339), (.int (81) 0), (.int (2) 0), (.int (0) 0), (.int (0) 0), (.int (3) 0), (.ref 170), (.bool true), (.int (181) 0), (.ref 171), .none, .none, .none, (.ref 172), (.int (2340) 0), (.int (81) 0), (.str (Str.ofString "/claim/cut.py") 2341)]), #[]⟩
noncomputable def o174_173 (P : Params) : Obj := ⟨(.type "function"), none, (.func { name := (Str.ofString "_law_board"), qualname := (Str.ofString "_law_board"), params := dPar (stm 16), body := .stmts (dBody (stm 16)), scope := dScope (stm 16), globals := 3, closure := [], defaults := .none, kwdefaults := .none, doc := .none, pyModule := (.str (Str.ofString "law_to0041_01") 2317), annotations := none, code := (.ref 173), closureTuple := .none, builtins := 0 }), #[]⟩
noncomputable def o175_174 (P : Params) : Obj := ⟨(.type "tuple"), none, (.seq #[] 0), #[]⟩
noncomputable def o176_175 (P : Params) : Obj := ⟨.none, none, (.fields #[]), #[]⟩
noncomputable def o177_176 (P : Params) : Obj := ⟨(.type "tuple"), none, (.seq #[(.str (Str.ofString "count") 2346), (.str (Str.ofString "cell") 2347), (.str (Str.ofString "k") 2348), (.str (Str.ofString "hidden") 2349), (.str (Str.ofString "beside") 2350), (.str (Str.ofString "typed") 2351), (.str (Str.ofString "meant") 2352), (.str (Str.ofString "pick") 2353), (.str (Str.ofString "size") 2354), (.str (Str.ofString "dress") 2355), (.str (Str.ofString "one") 2356), (.str (Str.ofString "two") 2357)] 0), #[]⟩
noncomputable def o178_177 (P : Params) : Obj := ⟨(.type "tuple"), none, (.seq #[] 0), #[]⟩
noncomputable def o179_178 (P : Params) : Obj := ⟨.none, none, (.func { name := (Str.ofString "_law_typed"), qualname := (Str.ofString "_law_typed"), params := dPar (stm 17), body := .stmts (dBody (stm 17)), scope := dScope (stm 17), globals := 0, closure := [], defaults := .none, kwdefaults := .none, doc := .none, pyModule := .none, annotations := none, code := .none, closureTuple := .none, builtins := 0 }), #[]⟩
noncomputable def o180_179 (P : Params) : Obj := ⟨(.type "code"), none, (.fields #[(.str (Str.ofString "_law_typed") 2343), (.str (Str.ofString "_law_typed") 2344), (.str (Str.ofString "/claim/cut.py") 2345), (.int (90) 0), (.int (2) 0), (.int (0) 0), (.int (0) 0), (.int (3) 0), (.ref 175), (.bool true), (.int (181) 0), (.ref 176), .none, (.ref 177), (.ref 178), (.ref 179), (.int (2358) 0), (.int (90) 0), (.str (Str.ofString "/claim/cut.py") 2359)]), #[]⟩
noncomputable def o181_180 (P : Params) : Obj := ⟨(.type "function"), none, (.func { name := (Str.ofString "_law_typed"), qualname := (Str.ofString "_law_typed"), params := dPar (stm 17), body := .stmts (dBody (stm 17)), scope := dScope (stm 17), globals := 3, closure := [], defaults := .none, kwdefaults := .none, doc := .none, pyModule := (.str (Str.ofString "law_to0041_01") 2317), annotations := none, code := (.ref 180), closureTuple := .none, builtins := 0 }), #[]⟩
noncomputable def o182_181 (P : Params) : Obj := ⟨(.type "tuple"), none, (.seq #[] 0), #[]⟩
noncomputable def o183_182 (P : Params) : Obj := ⟨.none, none, (.fields #[]), #[]⟩
noncomputable def o184_183 (P : Params) : Obj := ⟨.none, none, (.func { name := (Str.ofString "_law_text"), qualname := (Str.ofString "_law_text"), params := dPar (stm 18), body := .stmts (dBody (stm 18)), scope := dScope (stm 18), globals := 0, closure := [], defaults := .none, kwdefaults := .none, doc := .none, pyModule := .none, annotations := none, code := .none, closureTuple := .none, builtins := 0 }), #[]⟩
noncomputable def o185_184 (P : Params) : Obj := ⟨(.type "code"), none, (.fields #[(.str (Str.ofString "_law_text") 2361), (.str (Str.ofString "_law_text") 2362), (.str (Str.ofString "/claim/cut.py") 2363), (.int (106) 0), (.int (2) 0), (.int (0) 0), (.int (0) 0), (.int (3) 0), (.ref 182), (.bool true), (.int (181) 0), (.ref 183), .none, .none, .none, (.ref 184), (.int (2364) 0), (.int (106) 0), (.str (Str.ofString "/claim/cut.py") 2365)]), #[]⟩
noncomputable def o186_185 (P : Params) : Obj := ⟨(.type "function"), none, (.func { name := (Str.ofString "_law_text"), qualname := (Str.ofString "_law_text"), params := dPar (stm 18), body := .stmts (dBody (stm 18)), scope := dScope (stm 18), globals := 3, closure := [], defaults := .none, kwdefaults := .none, doc := .none, pyModule := (.str (Str.ofString "law_to0041_01") 2317), annotations := none, code := (.ref 185), closureTuple := .none, builtins := 0 }), #[]⟩
noncomputable def o187_186 (P : Params) : Obj := ⟨(.type "tuple"), none, (.seq #[] 0), #[]⟩
noncomputable def o188_187 (P : Params) : Obj := ⟨.none, none, (.fields #[]), #[]⟩
noncomputable def o189_188 (P : Params) : Obj := ⟨.none, none, (.func { name := (Str.ofString "_law_prepared"), qualname := (Str.ofString "_law_prepared"), params := dPar (stm 19), body := .stmts (dBody (stm 19)), scope := dScope (stm 19), globals := 0, closure := [], defaults := .none, kwdefaults := .none, doc := .none, pyModule := .none, annotations := none, code := .none, closureTuple := .none, builtins := 0 }), #[]⟩
noncomputable def o190_189 (P : Params) : Obj := ⟨(.type "code"), none, (.fields #[(.str (Str.ofString "_law_prepared") 2367), (.str (Str.ofString "_law_prepared") 2368), (.str (Str.ofString "/claim/cut.py") 2369), (.int (112) 0), (.int (1) 0), (.int (0) 0), (.int (0) 0), (.int (3) 0), (.ref 187), (.bool true), (.int (181) 0), (.ref 188), .none, .none, .none, (.ref 189), (.int (2370) 0), (.int (112) 0), (.str (Str.ofString "/claim/cut.py") 2371)]), #[]⟩
noncomputable def o191_190 (P : Params) : Obj := ⟨(.type "function"), none, (.func { name := (Str.ofString "_law_prepared"), qualname := (Str.ofString "_law_prepared"), params := dPar (stm 19), body := .stmts (dBody (stm 19)), scope := dScope (stm 19), globals := 3, closure := [], defaults := .none, kwdefaults := .none, doc := .none, pyModule := (.str (Str.ofString "law_to0041_01") 2317), annotations := none, code := (.ref 190), closureTuple := .none, builtins := 0 }), #[]⟩
noncomputable def o192_191 (P : Params) : Obj := ⟨(.type "tuple"), none, (.seq #[] 0), #[]⟩
noncomputable def o193_192 (P : Params) : Obj := ⟨.none, none, (.fields #[]), #[]⟩
noncomputable def o194_193 (P : Params) : Obj := ⟨.none, none, (.func { name := (Str.ofString "_law_sown"), qualname := (Str.ofString "_law_sown"), params := dPar (stm 20), body := .stmts (dBody (stm 20)), scope := dScope (stm 20), globals := 0, closure := [], defaults := .none, kwdefaults := .none, doc := .none, pyModule := .none, annotations := none, code := .none, closureTuple := .none, builtins := 0 }), #[]⟩
noncomputable def o195_194 (P : Params) : Obj := ⟨(.type "code"), none, (.fields #[(.str (Str.ofString "_law_sown") 2373), (.str (Str.ofString "_law_sown") 2374), (.str (Str.ofString "/claim/cut.py") 2375), (.int (117) 0), (.int (2) 0), (.int (0) 0), (.int (0) 0), (.int (3) 0), (.ref 192), (.bool true), (.int (181) 0), (.ref 193), .none, .none, .none, (.ref 194), (.int (2376) 0), (.int (117) 0), (.str (Str.ofString "/claim/cut.py") 2377)]), #[]⟩
noncomputable def o196_195 (P : Params) : Obj := ⟨(.type "function"), none, (.func { name := (Str.ofString "_law_sown"), qualname := (Str.ofString "_law_sown"), params := dPar (stm 20), body := .stmts (dBody (stm 20)), scope := dScope (stm 20), globals := 3, closure := [], defaults := .none, kwdefaults := .none, doc := .none, pyModule := (.str (Str.ofString "law_to0041_01") 2317), annotations := none, code := (.ref 195), closureTuple := .none, builtins := 0 }), #[]⟩
noncomputable def o197_196 (P : Params) : Obj := ⟨(.type "tuple"), none, (.seq #[] 0), #[]⟩
noncomputable def o198_197 (P : Params) : Obj := ⟨.none, none, (.fields #[]), #[]⟩
noncomputable def o199_198 (P : Params) : Obj := ⟨(.type "tuple"), none, (.seq #[(.str (Str.ofString "stones") 2382), (.str (Str.ofString "told") 2383), (.str (Str.ofString "rest") 2384), (.str (Str.ofString "k") 2385)] 0), #[]⟩
noncomputable def o200_199 (P : Params) : Obj := ⟨(.type "tuple"), none, (.seq #[] 0), #[]⟩
noncomputable def o201_200 (P : Params) : Obj := ⟨.none, none, (.func { name := (Str.ofString "_law_told"), qualname := (Str.ofString "_law_told"), params := dPar (stm 21), body := .stmts (dBody (stm 21)), scope := dScope (stm 21), globals := 0, closure := [], defaults := .none, kwdefaults := .none, doc := .none, pyModule := .none, annotations := none, code := .none, closureTuple := .none, builtins := 0 }), #[]⟩
noncomputable def o202_201 (P : Params) : Obj := ⟨(.type "code"), none, (.fields #[(.str (Str.ofString "_law_told") 2379), (.str (Str.ofString "_law_told") 2380), (.str (Str.ofString "/claim/cut.py") 2381), (.int (132) 0), (.int (1) 0), (.int (0) 0), (.int (0) 0), (.int (3) 0), (.ref 197), (.bool true), (.int (181) 0), (.ref 198), .none, (.ref 199), (.ref 200), (.ref 201), (.int (2386) 0), (.int (132) 0), (.str (Str.ofString "/claim/cut.py") 2387)]), #[]⟩
noncomputable def o203_202 (P : Params) : Obj := ⟨(.type "function"), none, (.func { name := (Str.ofString "_law_told"), qualname := (Str.ofString "_law_told"), params := dPar (stm 21), body := .stmts (dBody (stm 21)), scope := dScope (stm 21), globals := 3, closure := [], defaults := .none, kwdefaults := .none, doc := .none, pyModule := (.str (Str.ofString "law_to0041_01") 2317), annotations := none, code := (.ref 202), closureTuple := .none, builtins := 0 }), #[]⟩
noncomputable def o204_203 (P : Params) : Obj := ⟨(.type "tuple"), none, (.seq #[] 0), #[]⟩
noncomputable def o205_204 (P : Params) : Obj := ⟨.none, none, (.fields #[]), #[]⟩
noncomputable def o206_205 (P : Params) : Obj := ⟨(.type "tuple"), none, (.seq #[(.str (Str.ofString "stones") 2392), (.str (Str.ofString "lexer") 2393), (.str (Str.ofString "passes") 2394), (.str (Str.ofString "stone") 2395), (.str (Str.ofString "left") 2396), (.str (Str.ofString "step") 2397), (.str (Str.ofString "kept") 2398), (.str (Str.ofString "place") 2399)] 0), #[]⟩
noncomputable def o207_206 (P : Params) : Obj := ⟨(.type "tuple"), none, (.seq #[] 0), #[]⟩
noncomputable def o208_207 (P : Params) : Obj := ⟨.none, none, (.func { name := (Str.ofString "_law_struck"), qualname := (Str.ofString "_law_struck"), params := dPar (stm 22), body := .stmts (dBody (stm 22)), scope := dScope (stm 22), globals := 0, closure := [], defaults := .none, kwdefaults := .none, doc := .none, pyModule := .none, annotations := none, code := .none, closureTuple := .none, builtins := 0 }), #[]⟩
noncomputable def o209_208 (P : Params) : Obj := ⟨(.type "code"), none, (.fields #[(.str (Str.ofString "_law_struck") 2389), (.str (Str.ofString "_law_struck") 2390), (.str (Str.ofString "/claim/cut.py") 2391), (.int (139) 0), (.int (1) 0), (.int (0) 0), (.int (0) 0), (.int (3) 0), (.ref 204), (.bool true), (.int (181) 0), (.ref 205), .none, (.ref 206), (.ref 207), (.ref 208), (.int (2400) 0), (.int (139) 0), (.str (Str.ofString "/claim/cut.py") 2401)]), #[]⟩
noncomputable def o210_209 (P : Params) : Obj := ⟨(.type "function"), none, (.func { name := (Str.ofString "_law_struck"), qualname := (Str.ofString "_law_struck"), params := dPar (stm 22), body := .stmts (dBody (stm 22)), scope := dScope (stm 22), globals := 3, closure := [], defaults := .none, kwdefaults := .none, doc := .none, pyModule := (.str (Str.ofString "law_to0041_01") 2317), annotations := none, code := (.ref 209), closureTuple := .none, builtins := 0 }), #[]⟩
noncomputable def o211_210 (P : Params) : Obj := ⟨(.type "tuple"), none, (.seq #[] 0), #[]⟩
noncomputable def o212_211 (P : Params) : Obj := ⟨.none, none, (.fields #[]), #[]⟩
noncomputable def o213_212 (P : Params) : Obj := ⟨.none, none, (.func { name := (Str.ofString "_law_home"), qualname := (Str.ofString "_law_home"), params := dPar (stm 23), body := .stmts (dBody (stm 23)), scope := dScope (stm 23), globals := 0, closure := [], defaults := .none, kwdefaults := .none, doc := .none, pyModule := .none, annotations := none, code := .none, closureTuple := .none, builtins := 0 }), #[]⟩
noncomputable def o214_213 (P : Params) : Obj := ⟨(.type "code"), none, (.fields #[(.str (Str.ofString "_law_home") 2403), (.str (Str.ofString "_law_home") 2404), (.str (Str.ofString "/claim/cut.py") 2405), (.int (158) 0), (.int (2) 0), (.int (0) 0), (.int (0) 0), (.int (3) 0), (.ref 211), (.bool true), (.int (181) 0), (.ref 212), .none, .none, .none, (.ref 213), (.int (2406) 0), (.int (158) 0), (.str (Str.ofString "/claim/cut.py") 2407)]), #[]⟩
noncomputable def o215_214 (P : Params) : Obj := ⟨(.type "function"), none, (.func { name := (Str.ofString "_law_home"), qualname := (Str.ofString "_law_home"), params := dPar (stm 23), body := .stmts (dBody (stm 23)), scope := dScope (stm 23), globals := 3, closure := [], defaults := .none, kwdefaults := .none, doc := .none, pyModule := (.str (Str.ofString "law_to0041_01") 2317), annotations := none, code := (.ref 214), closureTuple := .none, builtins := 0 }), #[]⟩
noncomputable def o216_215 (P : Params) : Obj := ⟨(.type "tuple"), none, (.seq #[] 0), #[]⟩
noncomputable def o217_216 (P : Params) : Obj := ⟨.none, none, (.fields #[]), #[]⟩
noncomputable def o218_217 (P : Params) : Obj := ⟨.none, none, (.func { name := (Str.ofString "law"), qualname := (Str.ofString "law"), params := dPar (stm 24), body := .stmts (dBody (stm 24)), scope := dScope (stm 24), globals := 0, closure := [], defaults := .none, kwdefaults := .none, doc := .none, pyModule := .none, annotations := none, code := .none, closureTuple := .none, builtins := 0 }), #[]⟩
noncomputable def o219_218 (P : Params) : Obj := ⟨(.type "code"), none, (.fields #[(.str (Str.ofString "law") 2409), (.str (Str.ofString "law") 2410), (.str (Str.ofString "/claim/cut.py") 2411), (.int (168) 0), (.int (1) 0), (.int (0) 0), (.int (0) 0), (.int (3) 0), (.ref 216), (.bool true), (.int (181) 0), (.ref 217), .none, .none, .none, (.ref 218), (.int (2412) 0), (.int (168) 0), (.str (Str.ofString "/claim/cut.py") 2413)]), #[]⟩
noncomputable def o220_219 (P : Params) : Obj := ⟨(.type "function"), none, (.func { name := (Str.ofString "law"), qualname := (Str.ofString "law"), params := dPar (stm 24), body := .stmts (dBody (stm 24)), scope := dScope (stm 24), globals := 3, closure := [], defaults := .none, kwdefaults := .none, doc := .none, pyModule := (.str (Str.ofString "law_to0041_01") 2317), annotations := none, code := (.ref 219), closureTuple := .none, builtins := 0 }), #[]⟩
noncomputable def t6 (P : Params) : BT := (.node (boot_o_0 P) (.node (boot_o_1 P) (.node (o3_146 P) (.node (boot_o_7 P) (.node (o15_6 P) (.node (o31_22 P) (.node (o63_56 P) (.node (o127_124 P) .nil .nil) (.node (o191_190 P) .nil .nil)) (.node (o95_89 P) (.node (o159_158 P) .nil .nil) .nil)) (.node (o47_38 P) (.node (o79_72 P) (.node (o143_140 P) .nil .nil) (.node (o207_206 P) .nil .nil)) (.node (o111_108 P) (.node (o175_174 P) .nil .nil) .nil))) (.node (o23_14 P) (.node (o39_30 P) (.node (o71_64 P) (.node (o135_132 P) .nil .nil) (.node (o199_198 P) .nil .nil)) (.node (o103_99 P) (.node (o167_166 P) .nil .nil) .nil)) (.node (o55_46 P) (.node (o87_80 P) (.node (o151_150 P) .nil .nil) (.node (o215_214 P) .nil .nil)) (.node (o119_116 P) (.node (o183_182 P) .nil .nil) .nil)))) (.node (o11_0 P) (.node (o19_10 P) (.node (o35_26 P) (.node (o67_60 P) (.node (o131_128 P) .nil .nil) (.node (o195_194 P) .nil .nil)) (.node (o99_93 P) (.node (o163_162 P) .nil .nil) .nil)) (.node (o51_42 P) (.node (o83_76 P) (.node (o147_144 P) .nil .nil) (.node (o211_210 P) .nil .nil)) (.node (o115_112 P) (.node (o179_178 P) .nil .nil) .nil))) (.node (o27_18 P) (.node (o43_34 P) (.node (o75_68 P) (.node (o139_136 P) .nil .nil) (.node (o203_202 P) .nil .nil)) (.node (o107_103 P) (.node (o171_170 P) .nil .nil) .nil)) (.node (o59_52 P) (.node (o91_84 P) (.node (o155_154 P) .nil .nil) (.node (o219_218 P) .nil .nil)) (.node (o123_120 P) (.node (o187_186 P) .nil .nil) .nil))))) (.node (boot_o_5 P) (.node (boot_o_9 P) (.node (o17_8 P) (.node (o33_24 P) (.node (o65_58 P) (.node (o129_126 P) .nil .nil) (.node (o193_192 P) .nil .nil)) (.node (o97_91 P) (.node (o161_160 P) .nil .nil) .nil)) (.node (o49_40 P) (.node (o81_74 P) (.node (o145_142 P) .nil .nil) (.node (o209_208 P) .nil .nil)) (.node (o113_110 P) (.node (o177_176 P) .nil .nil) .nil))) (.node (o25_16 P) (.node (o41_32 P) (.node (o73_66 P) (.node (o137_134 P) .nil .nil) (.node (o201_200 P) .nil .nil)) (.node (o105_101 P) (.node (o169_168 P) .nil .nil) .nil)) (.node (o57_50 P) (.node (o89_82 P) (.node (o153_152 P) .nil .nil) (.node (o217_216 P) .nil .nil)) (.node (o121_118 P) (.node (o185_184 P) .nil .nil) .nil)))) (.node (o13_2 P) (.node (o21_12 P) (.node (o37_28 P) (.node (o69_62 P) (.node (o133_130 P) .nil .nil) (.node (o197_196 P) .nil .nil)) (.node (o101_95 P) (.node (o165_164 P) .nil .nil) .nil)) (.node (o53_44 P) (.node (o85_78 P) (.node (o149_148 P) .nil .nil) (.node (o213_212 P) .nil .nil)) (.node (o117_114 P) (.node (o181_180 P) .nil .nil) .nil))) (.node (o29_20 P) (.node (o45_36 P) (.node (o77_70 P) (.node (o141_138 P) .nil .nil) (.node (o205_204 P) .nil .nil)) (.node (o109_105 P) (.node (o173_172 P) .nil .nil) .nil)) (.node (o61_54 P) (.node (o93_87 P) (.node (o157_156 P) .nil .nil) .nil) (.node (o125_122 P) (.node (o189_188 P) .nil .nil) .nil)))))) (.node (boot_o_2 P) (.node (boot_o_4 P) (.node (boot_o_8 P) (.node (o16_7 P) (.node (o32_23 P) (.node (o64_57 P) (.node (o128_125 P) .nil .nil) (.node (o192_191 P) .nil .nil)) (.node (o96_90 P) (.node (o160_159 P) .nil .nil) .nil)) (.node (o48_39 P) (.node (o80_73 P) (.node (o144_141 P) .nil .nil) (.node (o208_207 P) .nil .nil)) (.node (o112_109 P) (.node (o176_175 P) .nil .nil) .nil))) (.node (o24_15 P) (.node (o40_31 P) (.node (o72_65 P) (.node (o136_133 P) .nil .nil) (.node (o200_199 P) .nil .nil)) (.node (o104_100 P) (.node (o168_167 P) .nil .nil) .nil)) (.node (o56_47 P) (.node (o88_81 P) (.node (o152_151 P) .nil .nil) (.node (o216_215 P) .nil .nil)) (.node (o120_117 P) (.node (o184_183 P) .nil .nil) .nil)))) (.node (o12_147 P) (.node (o20_11 P) (.node (o36_27 P) (.node (o68_61 P) (.node (o132_129 P) .nil .nil) (.node (o196_195 P) .nil .nil)) (.node (o100_94 P) (.node (o164_163 P) .nil .nil) .nil)) (.node (o52_43 P) (.node (o84_77 P) (.node (o148_145 P) .nil .nil) (.node (o212_211 P) .nil .nil)) (.node (o116_113 P) (.node (o180_179 P) .nil .nil) .nil))) (.node (o28_19 P) (.node (o44_35 P) (.node (o76_69 P) (.node (o140_137 P) .nil .nil) (.node (o204_203 P) .nil .nil)) (.node (o108_104 P) (.node (o172_171 P) .nil .nil) .nil)) (.node (o60_53 P) (.node (o92_86 P) (.node (o156_155 P) .nil .nil) (.node (o220_219 P) .nil .nil)) (.node (o124_121 P) (.node (o188_187 P) .nil .nil) .nil))))) (.node (boot_o_6 P) (.node (boot_o_10 P) (.node (o18_9 P) (.node (o34_25 P) (.node (o66_59 P) (.node (o130_127 P) .nil .nil) (.node (o194_193 P) .nil .nil)) (.node (o98_92 P) (.node (o162_161 P) .nil .nil) .nil)) (.node (o50_41 P) (.node (o82_75 P) (.node (o146_143 P) .nil .nil) (.node (o210_209 P) .nil .nil)) (.node (o114_111 P) (.node (o178_177 P) .nil .nil) .nil))) (.node (o26_17 P) (.node (o42_33 P) (.node (o74_67 P) (.node (o138_135 P) .nil .nil) (.node (o202_201 P) .nil .nil)) (.node (o106_102 P) (.node (o170_169 P) .nil .nil) .nil)) (.node (o58_51 P) (.node (o90_83 P) (.node (o154_153 P) .nil .nil) (.node (o218_217 P) .nil .nil)) (.node (o122_119 P) (.node (o186_185 P) .nil .nil) .nil)))) (.node (o14_3 P) (.node (o22_13 P) (.node (o38_29 P) (.node (o70_63 P) (.node (o134_131 P) .nil .nil) (.node (o198_197 P) .nil .nil)) (.node (o102_96 P) (.node (o166_165 P) .nil .nil) .nil)) (.node (o54_45 P) (.node (o86_79 P) (.node (o150_149 P) .nil .nil) (.node (o214_213 P) .nil .nil)) (.node (o118_115 P) (.node (o182_181 P) .nil .nil) .nil))) (.node (o30_21 P) (.node (o46_37 P) (.node (o78_71 P) (.node (o142_139 P) .nil .nil) (.node (o206_205 P) .nil .nil)) (.node (o110_107 P) (.node (o174_173 P) .nil .nil) .nil)) (.node (o62_55 P) (.node (o94_88 P) (.node (o158_157 P) .nil .nil) .nil) (.node (o126_123 P) (.node (o190_189 P) .nil .nil) .nil)))))))
noncomputable def life0 : Life := {}
noncomputable def env0 : Env := { scope := pw.main.scope, locals := mainNs, globals := mainNs, cells := [], code := .ref 13, frame := some 14 }
noncomputable def cE : Code := .body (behindTheImports pw) env0
noncomputable def sg (i k : Nat) : List Stmt := (pw.main.body.drop i).take k
noncomputable def fr0 : Pos := ⟨0, 0, 0, 0⟩
noncomputable def SH (t : BT) (n tk : Nat) (os : OsState) : SharedT := ⟨t, n, life0, #[], boot_drawn, tk, os⟩
end
end Mine
end
noncomputable section
open PySem PySem.W PySem.Calls PyProof.Rows
set_option maxRecDepth 100000
set_option maxHeartbeats 0
namespace Mine
theorem pre_ (w : World) (os : OsState) : topGo treeTable pw w 11 (some (.ref 6)) 12 ⟨boot_heap w.params, #[], boot_drawn, boot_toks, os⟩ (topStub pw) = some ((SH (ta w.params) 15 187 os).abs, ⟨denote treeTable cE, cE, fr0, [topFrame fr0]⟩) := by kernel_rfl
theorem block_ (w : World) (os : OsState) : segRun treeTable pw w 11 (some (.ref 6)) 1 1 (SH (ta w.params) 15 187 os).abs (blockOf (behindTheImports pw) env0 cE fr0 [topFrame fr0]) = some (.next, (SH (ta w.params) 15 187 os).abs, cE, fr0) := by kernel_rfl
theorem seg2 (w : World) (os : OsState) : segRunT treeTable pw w 11 (some (.ref 6)) 1 169 (SH (t1 w.params) 57 247 os) (piecesOf (sg 2 7) env0 cE ⟨2, 0, 44, 35⟩ [topFrame fr0]) = some (.next, SH (t2 w.params) 92 291 os, cE, ⟨59, 0, 59, 8⟩) := by kernel_rfl
theorem seg4 (w : World) (os : OsState) : segRunT treeTable pw w 11 (some (.ref 6)) 1 30 (SH (t3 w.params) 103 351 os) (piecesOf (sg 10 1) env0 cE ⟨60, 0, 60, 6⟩ [topFrame fr0]) = some (.next, SH (t4 w.params) 110 358 os, cE, ⟨61, 0, 62, 30⟩) := by kernel_rfl
end Mine
end
noncomputable section
open PySem PySem.W PySem.Calls PyProof.Rows
set_option maxRecDepth 100000
set_option maxHeartbeats 0
namespace Mine
theorem quick_seg {w : World} {n : Nat} {s : SharedT} {l : List Stmt} {q : Pos} {r : Option (Flow × SharedT × Code × Pos)}
    (h : Fast.tw10110043849684766642 Fast.tw14364793385576792824 pw w 11 (some (.ref 6)) 1 n s ⟨(Fast.tw12563942051412417395 l env0).wrap doneF deadEnd id id, cE, q, [topFrame fr0]⟩ = r) :
    segRunT treeTable pw w 11 (some (.ref 6)) 1 n s (piecesOf l env0 cE q [topFrame fr0]) = r := by
  rw [Fast.te10110043849684766642, Fast.te14364793385576792824]
  unfold piecesOf
  rw [Fast.te12563942051412417395]
  exact h
theorem seg3 (os : OsState) : ∀ (w : World), segRunT treeTable pw w 11 (some (.ref 6)) 1 999 (SH (t2 w.params) 92 291 os) (piecesOf (sg 9 1) env0 cE ⟨59, 0, 59, 8⟩ [topFrame fr0]) = some (.next, SH (t3 w.params) 103 351 os, cE, ⟨60, 0, 60, 6⟩) :=
  byRow2 "special-get-raises" (P := fun w => segRunT treeTable pw w 11 (some (.ref 6)) 1 999 (SH (t2 w.params) 92 291 os) (piecesOf (sg 9 1) env0 cE ⟨59, 0, 59, 8⟩ [topFrame fr0]) = some (.next, SH (t3 w.params) 103 351 os, cE, ⟨60, 0, 60, 6⟩)) (fun w => quick_seg (by kernel_rfl)) (fun w => quick_seg (by kernel_rfl))
theorem seg1 (w : World) (os : OsState) : segRunT treeTable pw w 11 (some (.ref 6)) 1 333 (SH (ta w.params) 15 187 os) (piecesOf (sg 0 2) env0 cE fr0 [topFrame fr0]) = some (.next, SH (t1 w.params) 57 247 os, cE, ⟨2, 0, 44, 35⟩) := quick_seg (by kernel_rfl)
end Mine
end
noncomputable section
open PySem PySem.W PySem.Calls PyProof.Rows
set_option maxRecDepth 100000
set_option maxHeartbeats 0
namespace Mine
theorem stm11 : stm 11 = .Assign dTgt (.Dict dKeys dVals dPos) sPos := by kernel_rfl
theorem items_ : (evalEachOpt dKeys env0).zip ((evalEach dVals env0).map fun v => do let x ← v; standAt dPos; pure x) = src.map (itemOf dPos) := by kernel_rfl
noncomputable def okSrc : Bool := src.all (fun x => decide (x.k < 2 ^ 60)) && decide (src.length < 100000)
theorem okSrc_ : okSrc = true := by kernel_rfl
noncomputable def risesB : List Nat → Bool
  | a :: b :: r => Nat.blt a b && risesB (b :: r)
  | _ => true
theorem rises_nodup : ∀ l : List Nat, risesB l = true → l.Pairwise (· < ·)
  | [], _ => .nil
  | [a], _ => by simp
  | a :: b :: r, h => by
    have h' : (Nat.blt a b && risesB (b :: r)) = true := h
    rw [Bool.and_eq_true] at h'
    have hab : a < b := Nat.le_of_ble_eq_true h'.1
    have ih := rises_nodup (b :: r) h'.2
    refine .cons (fun x hx => ?_) ih
    rcases List.mem_cons.mp hx with rfl | hx
    · exact hab
    · exact Nat.lt_trans hab ((List.pairwise_cons.mp ih).1 x hx)
theorem rises_src : risesB (src.map (·.k)) = true := by kernel_rfl
theorem good_src (t : Nat) : Good src (disp0 t) := by
  have h := okSrc_
  unfold okSrc at h
  rw [Bool.and_eq_true, List.all_eq_true, decide_eq_true_eq] at h
  refine ⟨?_, by simpa [disp0] using h.2, fun x hx => of_decide_eq_true (h.1 x hx)⟩
  have := rises_nodup _ rises_src
  show (([] : List Nat) ++ src.map Src.k).Nodup
  rw [List.nil_append]
  exact this.imp fun h => Nat.ne_of_lt h
theorem abs_size (t : BT) (n tk : Nat) (os : OsState) : (SH t n tk os).abs.heap.objs.size = n := absHeap_size t n life0
theorem mainS_dd (h0 : Heap) : mainS h0 ddS = some h0.objs.size := by
  have : (match ddS.main with | [] => false | _ => true) = true := by kernel_rfl
  unfold mainS
  cases h : ddS.main with
  | nil => rw [h] at this; cases this
  | cons _ _ => rfl
theorem heapS_dd (h0 : Heap) : heapS h0 ddS = hp h0 ddS.main ddS.subs := by
  have : (match ddS.main with | [] => false | _ => true) = true := by kernel_rfl
  unfold heapS
  cases h : ddS.main with
  | nil => rw [h] at this; cases this
  | cons _ _ => rfl
theorem dd_t : ddS.t = 2308 := by kernel_rfl
theorem dd_n : dispN src 358 = 12515 := by kernel_rfl

theorem heap5_ (P : Params) : hp (absHeap (t4 P) 110 life0) ddS.main ddS.subs = absHeap ((t5 P).set 3 fun _ => (o3_97 P)) 149 life0 := by kernel_rfl
theorem store5 (w : World) (os : OsState) (q : Pos) : lr pw w 11 (assignStores env0 (.ref 110) none ((assignEach dTgt env0).map (·.2))) (SH ((t5 w.params).set 3 fun _ => (o3_97 w.params)) 149 2308 os).abs q = some (.next, (SH (t5 w.params) 149 2309 os).abs, ⟨63, 0, 63, 13⟩, 7) := by kernel_rfl
theorem swap1 (w : World) (s : Shared) (q : Pos) : lr pw w 11 (swapsWithSole dTgt (.Dict dKeys dVals dPos) sPos.line env0) s q = some (false, s, q, 0) := by kernel_rfl
theorem swap2 (w : World) (s : Shared) (q : Pos) : lr pw w 11 (swappedStores dTgt (.Dict dKeys dVals dPos) env0) s q = some (none, s, q, 0) := by kernel_rfl
end Mine
namespace Mine
theorem seg5 (w : World) (os : OsState) : segRun treeTable pw w 11 (some (.ref 6)) 1 12525 (SH (t4 w.params) 110 358 os).abs (piecesOf (sg 11 1) env0 cE ⟨61, 0, 62, 30⟩ [topFrame fr0]) = some (.next, (SH (t5 w.params) 149 2309 os).abs, cE, ⟨63, 0, 63, 13⟩) := by
  obtain ⟨q', D⟩ := display_ (p := pw) (w := w) (n₀ := 11) (h0 := absHeap (t4 w.params) 110 life0) (g := #[]) (d := boot_drawn) (os := os) (P := dPos) (xs := src) (t := 358) (q := dPos)
    (by rw [absHeap_size]; rfl) (by rw [absHeap_size]; decide) (good_src 358) (by rw [show dispS src 358 = ddS from rfl, mainS_dd])
  rw [absHeap_size, show dispS src 358 = ddS from rfl, dd_n] at D
  unfold shS at D
  rw [heapS_dd, heap5_, dd_t] at D
  have E : lr pw w 11 (exec (stm 11) env0) (SH (t4 w.params) 110 358 os).abs ⟨61, 0, 62, 30⟩ = some (.next, (SH (t5 w.params) 149 2309 os).abs, ⟨63, 0, 63, 13⟩, 12524) := by
    rw [stm11]
    show lr pw w 11 (do
      standAt sPos
      if ← swapsWithSole dTgt (.Dict dKeys dVals dPos) sPos.line env0 then do
        evalThenUse (.Dict dKeys dVals dPos) env0 fun v => assignAll v ((assignEach dTgt env0).map (·.2))
        pure .next
      else do
        let v ← eval (.Dict dKeys dVals dPos) env0
        assignStores env0 v (← swappedStores dTgt (.Dict dKeys dVals dPos) env0) ((assignEach dTgt env0).map (·.2))) _ _ = _
    refine lrF_bind (n := 1) (m := 12523) (a := ()) (s' := (SH (t4 w.params) 110 358 os).abs) (q' := sPos) rfl ?_
    refine lrF_bind (n := 0) (m := 12523) (swap1 w _ _) ?_
    rw [if_neg (by decide)]
    refine lrF_bind (n := 12516) (m := 7) (a := .ref 110) (s' := (SH ((t5 w.params).set 3 fun _ => o3_97 w.params) 149 2308 os).abs) (q' := q') ?_ ?_
    · rw [arm_eval_Dict, items_]
      exact lrF_bind (n := 1) (m := 12515) (a := ()) (s' := (SH (t4 w.params) 110 358 os).abs) (q' := dPos) rfl D
    · refine lrF_bind (n := 0) (m := 7) (swap2 w _ _) ?_
      exact store5 w os q'
  have R := lrF_sound (tb := treeTable) (ann := some (.ref 6)) (calF_ok (some (.ref 6)) 2) (exec (stm 11) env0) _ _ _ _ _ _ E (fun f => match f with | .next => (execs [] env0).wrap doneF deadEnd id id | f => doneF f) deadEnd id id cE [topFrame fr0] 1 (.next, (SH (t5 w.params) 149 2309 os).abs, cE, ⟨63, 0, 63, 13⟩) (by simp) rfl
  unfold piecesOf
  rw [show sg 11 1 = [stm 11] from rfl, execs_cons_wrap]
  exact R
end Mine
end
noncomputable section
open PySem PySem.W PySem.Calls PyProof.Rows
set_option maxRecDepth 100000
set_option maxHeartbeats 0
namespace Mine
theorem seg6 (w : World) (os : OsState) : segRunT treeTable pw w 11 (some (.ref 6)) 1 367 (SH (t5 w.params) 149 2309 os) (piecesOf (sg 12 13) env0 cE ⟨63, 0, 63, 13⟩ [topFrame fr0]) = some (.next, SH (t6 w.params) 221 2415 os, cE, ⟨168, 0, 189, 69⟩) := quick_seg (by kernel_rfl)
theorem fin_ (w : World) (os : OsState) : topRun treeTable pw w 11 (some (.ref 6)) 2 (SH (t6 w.params) 221 2415 os).abs ⟨doneF .next, cE, ⟨168, 0, 189, 69⟩, [topFrame fr0]⟩ = some (SH (t6 w.params) 221 2415 os).abs := by kernel_rfl
end Mine
end
noncomputable section
open PySem PySem.W PySem.Calls PyProof.Rows
set_option maxRecDepth 100000
set_option maxHeartbeats 0
namespace Mine
@[reducible] noncomputable def par_cstm_1_0 : { b : Arguments // b = dPar (cstm 1 0) } := by
  refine ⟨?b, ?h⟩
  case h => (conv => rhs; whnf)
@[reducible] noncomputable def body_cstm_1_0 : { b : List Stmt // b = dBody (cstm 1 0) } := by
  refine ⟨?b, ?h⟩
  case h => (conv => rhs; whnf)
@[reducible] noncomputable def sc_cstm_1_0 : { b : Scope // b = dScope (cstm 1 0) } := by
  refine ⟨?b, ?h⟩
  case h => (conv => rhs; whnf)
@[reducible] noncomputable def k28 (P : Params) : Obj := ⟨(.type "function"), none, (.func { name := (Str.ofString "__init__"), qualname := (Str.ofString "_netrclex.__init__"), params := (par_cstm_1_0).1, body := .stmts ((body_cstm_1_0).1), scope := (sc_cstm_1_0).1, globals := 3, closure := [], defaults := .none, kwdefaults := .none, doc := .none, pyModule := (.str (Str.ofString "cpy313.netrc") 187), annotations := none, code := (.ref 27), closureTuple := .none, builtins := 0 }), #[]⟩
@[reducible] noncomputable def par_cstm_1_1 : { b : Arguments // b = dPar (cstm 1 1) } := by
  refine ⟨?b, ?h⟩
  case h => (conv => rhs; whnf)
@[reducible] noncomputable def body_cstm_1_1 : { b : List Stmt // b = dBody (cstm 1 1) } := by
  refine ⟨?b, ?h⟩
  case h => (conv => rhs; whnf)
@[reducible] noncomputable def sc_cstm_1_1 : { b : Scope // b = dScope (cstm 1 1) } := by
  refine ⟨?b, ?h⟩
  case h => (conv => rhs; whnf)
@[reducible] noncomputable def k35 (P : Params) : Obj := ⟨(.type "function"), none, (.func { name := (Str.ofString "_read_char"), qualname := (Str.ofString "_netrclex._read_char"), params := (par_cstm_1_1).1, body := .stmts ((body_cstm_1_1).1), scope := (sc_cstm_1_1).1, globals := 3, closure := [], defaults := .none, kwdefaults := .none, doc := .none, pyModule := (.str (Str.ofString "cpy313.netrc") 187), annotations := none, code := (.ref 34), closureTuple := .none, builtins := 0 }), #[]⟩
@[reducible] noncomputable def par_cstm_1_2 : { b : Arguments // b = dPar (cstm 1 2) } := by
  refine ⟨?b, ?h⟩
  case h => (conv => rhs; whnf)
@[reducible] noncomputable def body_cstm_1_2 : { b : List Stmt // b = dBody (cstm 1 2) } := by
  refine ⟨?b, ?h⟩
  case h => (conv => rhs; whnf)
@[reducible] noncomputable def sc_cstm_1_2 : { b : Scope // b = dScope (cstm 1 2) } := by
  refine ⟨?b, ?h⟩
  case h => (conv => rhs; whnf)
@[reducible] noncomputable def k42 (P : Params) : Obj := ⟨(.type "function"), none, (.func { name := (Str.ofString "get_token"), qualname := (Str.ofString "_netrclex.get_token"), params := (par_cstm_1_2).1, body := .stmts ((body_cstm_1_2).1), scope := (sc_cstm_1_2).1, globals := 3, closure := [], defaults := .none, kwdefaults := .none, doc := .none, pyModule := (.str (Str.ofString "cpy313.netrc") 187), annotations := none, code := (.ref 41), closureTuple := .none, builtins := 0 }), #[]⟩
@[reducible] noncomputable def par_cstm_1_3 : { b : Arguments // b = dPar (cstm 1 3) } := by
  refine ⟨?b, ?h⟩
  case h => (conv => rhs; whnf)
@[reducible] noncomputable def body_cstm_1_3 : { b : List Stmt // b = dBody (cstm 1 3) } := by
  refine ⟨?b, ?h⟩
  case h => (conv => rhs; whnf)
@[reducible] noncomputable def sc_cstm_1_3 : { b : Scope // b = dScope (cstm 1 3) } := by
  refine ⟨?b, ?h⟩
  case h => (conv => rhs; whnf)
@[reducible] noncomputable def k49 (P : Params) : Obj := ⟨(.type "function"), none, (.func { name := (Str.ofString "push_token"), qualname := (Str.ofString "_netrclex.push_token"), params := (par_cstm_1_3).1, body := .stmts ((body_cstm_1_3).1), scope := (sc_cstm_1_3).1, globals := 3, closure := [], defaults := .none, kwdefaults := .none, doc := .none, pyModule := (.str (Str.ofString "cpy313.netrc") 187), annotations := none, code := (.ref 48), closureTuple := .none, builtins := 0 }), #[]⟩
@[reducible] noncomputable def par_stm_3 : { b : Arguments // b = dPar (stm 3) } := by
  refine ⟨?b, ?h⟩
  case h => (conv => rhs; whnf)
@[reducible] noncomputable def body_stm_3 : { b : List Stmt // b = dBody (stm 3) } := by
  refine ⟨?b, ?h⟩
  case h => (conv => rhs; whnf)
@[reducible] noncomputable def sc_stm_3 : { b : Scope // b = dScope (stm 3) } := by
  refine ⟨?b, ?h⟩
  case h => (conv => rhs; whnf)
@[reducible] noncomputable def k63 (P : Params) : Obj := ⟨(.type "function"), none, (.func { name := (Str.ofString "eq"), qualname := (Str.ofString "eq"), params := (par_stm_3).1, body := .stmts ((body_stm_3).1), scope := (sc_stm_3).1, globals := 3, closure := [], defaults := .none, kwdefaults := .none, doc := .none, pyModule := (.str (Str.ofString "cpy313.operator") 247), annotations := none, code := (.ref 62), closureTuple := .none, builtins := 0 }), #[]⟩
@[reducible] noncomputable def par_stm_4 : { b : Arguments // b = dPar (stm 4) } := by
  refine ⟨?b, ?h⟩
  case h => (conv => rhs; whnf)
@[reducible] noncomputable def body_stm_4 : { b : List Stmt // b = dBody (stm 4) } := by
  refine ⟨?b, ?h⟩
  case h => (conv => rhs; whnf)
@[reducible] noncomputable def sc_stm_4 : { b : Scope // b = dScope (stm 4) } := by
  refine ⟨?b, ?h⟩
  case h => (conv => rhs; whnf)
@[reducible] noncomputable def k70 (P : Params) : Obj := ⟨(.type "function"), none, (.func { name := (Str.ofString "floordiv"), qualname := (Str.ofString "floordiv"), params := (par_stm_4).1, body := .stmts ((body_stm_4).1), scope := (sc_stm_4).1, globals := 3, closure := [], defaults := .none, kwdefaults := .none, doc := .none, pyModule := (.str (Str.ofString "cpy313.operator") 247), annotations := none, code := (.ref 69), closureTuple := .none, builtins := 0 }), #[]⟩
@[reducible] noncomputable def par_stm_5 : { b : Arguments // b = dPar (stm 5) } := by
  refine ⟨?b, ?h⟩
  case h => (conv => rhs; whnf)
@[reducible] noncomputable def body_stm_5 : { b : List Stmt // b = dBody (stm 5) } := by
  refine ⟨?b, ?h⟩
  case h => (conv => rhs; whnf)
@[reducible] noncomputable def sc_stm_5 : { b : Scope // b = dScope (stm 5) } := by
  refine ⟨?b, ?h⟩
  case h => (conv => rhs; whnf)
@[reducible] noncomputable def k77 (P : Params) : Obj := ⟨(.type "function"), none, (.func { name := (Str.ofString "mod"), qualname := (Str.ofString "mod"), params := (par_stm_5).1, body := .stmts ((body_stm_5).1), scope := (sc_stm_5).1, globals := 3, closure := [], defaults := .none, kwdefaults := .none, doc := .none, pyModule := (.str (Str.ofString "cpy313.operator") 247), annotations := none, code := (.ref 76), closureTuple := .none, builtins := 0 }), #[]⟩
@[reducible] noncomputable def par_stm_6 : { b : Arguments // b = dPar (stm 6) } := by
  refine ⟨?b, ?h⟩
  case h => (conv => rhs; whnf)
@[reducible] noncomputable def body_stm_6 : { b : List Stmt // b = dBody (stm 6) } := by
  refine ⟨?b, ?h⟩
  case h => (conv => rhs; whnf)
@[reducible] noncomputable def sc_stm_6 : { b : Scope // b = dScope (stm 6) } := by
  refine ⟨?b, ?h⟩
  case h => (conv => rhs; whnf)
@[reducible] noncomputable def k84 (P : Params) : Obj := ⟨(.type "function"), none, (.func { name := (Str.ofString "neg"), qualname := (Str.ofString "neg"), params := (par_stm_6).1, body := .stmts ((body_stm_6).1), scope := (sc_stm_6).1, globals := 3, closure := [], defaults := .none, kwdefaults := .none, doc := .none, pyModule := (.str (Str.ofString "cpy313.operator") 247), annotations := none, code := (.ref 83), closureTuple := .none, builtins := 0 }), #[]⟩
@[reducible] noncomputable def par_stm_7 : { b : Arguments // b = dPar (stm 7) } := by
  refine ⟨?b, ?h⟩
  case h => (conv => rhs; whnf)
@[reducible] noncomputable def body_stm_7 : { b : List Stmt // b = dBody (stm 7) } := by
  refine ⟨?b, ?h⟩
  case h => (conv => rhs; whnf)
@[reducible] noncomputable def sc_stm_7 : { b : Scope // b = dScope (stm 7) } := by
  refine ⟨?b, ?h⟩
  case h => (conv => rhs; whnf)
@[reducible] noncomputable def k91 (P : Params) : Obj := ⟨(.type "function"), none, (.func { name := (Str.ofString "concat"), qualname := (Str.ofString "concat"), params := (par_stm_7).1, body := .stmts ((body_stm_7).1), scope := (sc_stm_7).1, globals := 3, closure := [], defaults := .none, kwdefaults := .none, doc := .none, pyModule := (.str (Str.ofString "cpy313.operator") 247), annotations := none, code := (.ref 90), closureTuple := .none, builtins := 0 }), #[]⟩
@[reducible] noncomputable def par_stm_10 : { b : Arguments // b = dPar (stm 10) } := by
  refine ⟨?b, ?h⟩
  case h => (conv => rhs; whnf)
@[reducible] noncomputable def body_stm_10 : { b : List Stmt // b = dBody (stm 10) } := by
  refine ⟨?b, ?h⟩
  case h => (conv => rhs; whnf)
@[reducible] noncomputable def sc_stm_10 : { b : Scope // b = dScope (stm 10) } := by
  refine ⟨?b, ?h⟩
  case h => (conv => rhs; whnf)
@[reducible] noncomputable def k109 (P : Params) : Obj := ⟨(.type "function"), none, (.func { name := (Str.ofString "in_table_b1"), qualname := (Str.ofString "in_table_b1"), params := (par_stm_10).1, body := .stmts ((body_stm_10).1), scope := (sc_stm_10).1, globals := 3, closure := [], defaults := .none, kwdefaults := .none, doc := .none, pyModule := (.str (Str.ofString "cpy313.stringprep") 289), annotations := none, code := (.ref 108), closureTuple := .none, builtins := 0 }), #[]⟩
@[reducible] noncomputable def par_stm_12 : { b : Arguments // b = dPar (stm 12) } := by
  refine ⟨?b, ?h⟩
  case h => (conv => rhs; whnf)
@[reducible] noncomputable def body_stm_12 : { b : List Stmt // b = dBody (stm 12) } := by
  refine ⟨?b, ?h⟩
  case h => (conv => rhs; whnf)
@[reducible] noncomputable def sc_stm_12 : { b : Scope // b = dScope (stm 12) } := by
  refine ⟨?b, ?h⟩
  case h => (conv => rhs; whnf)
@[reducible] noncomputable def k155 (P : Params) : Obj := ⟨(.type "function"), none, (.func { name := (Str.ofString "map_table_b3"), qualname := (Str.ofString "map_table_b3"), params := (par_stm_12).1, body := .stmts ((body_stm_12).1), scope := (sc_stm_12).1, globals := 3, closure := [], defaults := .none, kwdefaults := .none, doc := .none, pyModule := (.str (Str.ofString "cpy313.stringprep") 289), annotations := none, code := (.ref 154), closureTuple := .none, builtins := 0 }), #[]⟩
@[reducible] noncomputable def par_stm_14 : { b : Arguments // b = dPar (stm 14) } := by
  refine ⟨?b, ?h⟩
  case h => (conv => rhs; whnf)
@[reducible] noncomputable def body_stm_14 : { b : List Stmt // b = dBody (stm 14) } := by
  refine ⟨?b, ?h⟩
  case h => (conv => rhs; whnf)
@[reducible] noncomputable def sc_stm_14 : { b : Scope // b = dScope (stm 14) } := by
  refine ⟨?b, ?h⟩
  case h => (conv => rhs; whnf)
@[reducible] noncomputable def k162 (P : Params) : Obj := ⟨(.type "function"), none, (.func { name := (Str.ofString "_law_lexer"), qualname := (Str.ofString "_law_lexer"), params := (par_stm_14).1, body := .stmts ((body_stm_14).1), scope := (sc_stm_14).1, globals := 3, closure := [], defaults := .none, kwdefaults := .none, doc := .none, pyModule := (.str (Str.ofString "law_to0041_01") 2317), annotations := none, code := (.ref 161), closureTuple := .none, builtins := 0 }), #[]⟩
@[reducible] noncomputable def par_stm_15 : { b : Arguments // b = dPar (stm 15) } := by
  refine ⟨?b, ?h⟩
  case h => (conv => rhs; whnf)
@[reducible] noncomputable def body_stm_15 : { b : List Stmt // b = dBody (stm 15) } := by
  refine ⟨?b, ?h⟩
  case h => (conv => rhs; whnf)
@[reducible] noncomputable def sc_stm_15 : { b : Scope // b = dScope (stm 15) } := by
  refine ⟨?b, ?h⟩
  case h => (conv => rhs; whnf)
@[reducible] noncomputable def k169 (P : Params) : Obj := ⟨(.type "function"), none, (.func { name := (Str.ofString "_law_cells"), qualname := (Str.ofString "_law_cells"), params := (par_stm_15).1, body := .stmts ((body_stm_15).1), scope := (sc_stm_15).1, globals := 3, closure := [], defaults := .none, kwdefaults := .none, doc := .none, pyModule := (.str (Str.ofString "law_to0041_01") 2317), annotations := none, code := (.ref 168), closureTuple := .none, builtins := 0 }), #[]⟩
@[reducible] noncomputable def par_stm_16 : { b : Arguments // b = dPar (stm 16) } := by
  refine ⟨?b, ?h⟩
  case h => (conv => rhs; whnf)
@[reducible] noncomputable def body_stm_16 : { b : List Stmt // b = dBody (stm 16) } := by
  refine ⟨?b, ?h⟩
  case h => (conv => rhs; whnf)
@[reducible] noncomputable def sc_stm_16 : { b : Scope // b = dScope (stm 16) } := by
  refine ⟨?b, ?h⟩
  case h => (conv => rhs; whnf)
@[reducible] noncomputable def k174 (P : Params) : Obj := ⟨(.type "function"), none, (.func { name := (Str.ofString "_law_board"), qualname := (Str.ofString "_law_board"), params := (par_stm_16).1, body := .stmts ((body_stm_16).1), scope := (sc_stm_16).1, globals := 3, closure := [], defaults := .none, kwdefaults := .none, doc := .none, pyModule := (.str (Str.ofString "law_to0041_01") 2317), annotations := none, code := (.ref 173), closureTuple := .none, builtins := 0 }), #[]⟩
@[reducible] noncomputable def par_stm_17 : { b : Arguments // b = dPar (stm 17) } := by
  refine ⟨?b, ?h⟩
  case h => (conv => rhs; whnf)
@[reducible] noncomputable def body_stm_17 : { b : List Stmt // b = dBody (stm 17) } := by
  refine ⟨?b, ?h⟩
  case h => (conv => rhs; whnf)
@[reducible] noncomputable def sc_stm_17 : { b : Scope // b = dScope (stm 17) } := by
  refine ⟨?b, ?h⟩
  case h => (conv => rhs; whnf)
@[reducible] noncomputable def k181 (P : Params) : Obj := ⟨(.type "function"), none, (.func { name := (Str.ofString "_law_typed"), qualname := (Str.ofString "_law_typed"), params := (par_stm_17).1, body := .stmts ((body_stm_17).1), scope := (sc_stm_17).1, globals := 3, closure := [], defaults := .none, kwdefaults := .none, doc := .none, pyModule := (.str (Str.ofString "law_to0041_01") 2317), annotations := none, code := (.ref 180), closureTuple := .none, builtins := 0 }), #[]⟩
@[reducible] noncomputable def par_stm_18 : { b : Arguments // b = dPar (stm 18) } := by
  refine ⟨?b, ?h⟩
  case h => (conv => rhs; whnf)
@[reducible] noncomputable def body_stm_18 : { b : List Stmt // b = dBody (stm 18) } := by
  refine ⟨?b, ?h⟩
  case h => (conv => rhs; whnf)
@[reducible] noncomputable def sc_stm_18 : { b : Scope // b = dScope (stm 18) } := by
  refine ⟨?b, ?h⟩
  case h => (conv => rhs; whnf)
@[reducible] noncomputable def k186 (P : Params) : Obj := ⟨(.type "function"), none, (.func { name := (Str.ofString "_law_text"), qualname := (Str.ofString "_law_text"), params := (par_stm_18).1, body := .stmts ((body_stm_18).1), scope := (sc_stm_18).1, globals := 3, closure := [], defaults := .none, kwdefaults := .none, doc := .none, pyModule := (.str (Str.ofString "law_to0041_01") 2317), annotations := none, code := (.ref 185), closureTuple := .none, builtins := 0 }), #[]⟩
@[reducible] noncomputable def par_stm_19 : { b : Arguments // b = dPar (stm 19) } := by
  refine ⟨?b, ?h⟩
  case h => (conv => rhs; whnf)
@[reducible] noncomputable def body_stm_19 : { b : List Stmt // b = dBody (stm 19) } := by
  refine ⟨?b, ?h⟩
  case h => (conv => rhs; whnf)
@[reducible] noncomputable def sc_stm_19 : { b : Scope // b = dScope (stm 19) } := by
  refine ⟨?b, ?h⟩
  case h => (conv => rhs; whnf)
@[reducible] noncomputable def k191 (P : Params) : Obj := ⟨(.type "function"), none, (.func { name := (Str.ofString "_law_prepared"), qualname := (Str.ofString "_law_prepared"), params := (par_stm_19).1, body := .stmts ((body_stm_19).1), scope := (sc_stm_19).1, globals := 3, closure := [], defaults := .none, kwdefaults := .none, doc := .none, pyModule := (.str (Str.ofString "law_to0041_01") 2317), annotations := none, code := (.ref 190), closureTuple := .none, builtins := 0 }), #[]⟩
@[reducible] noncomputable def par_stm_20 : { b : Arguments // b = dPar (stm 20) } := by
  refine ⟨?b, ?h⟩
  case h => (conv => rhs; whnf)
@[reducible] noncomputable def body_stm_20 : { b : List Stmt // b = dBody (stm 20) } := by
  refine ⟨?b, ?h⟩
  case h => (conv => rhs; whnf)
@[reducible] noncomputable def sc_stm_20 : { b : Scope // b = dScope (stm 20) } := by
  refine ⟨?b, ?h⟩
  case h => (conv => rhs; whnf)
@[reducible] noncomputable def k196 (P : Params) : Obj := ⟨(.type "function"), none, (.func { name := (Str.ofString "_law_sown"), qualname := (Str.ofString "_law_sown"), params := (par_stm_20).1, body := .stmts ((body_stm_20).1), scope := (sc_stm_20).1, globals := 3, closure := [], defaults := .none, kwdefaults := .none, doc := .none, pyModule := (.str (Str.ofString "law_to0041_01") 2317), annotations := none, code := (.ref 195), closureTuple := .none, builtins := 0 }), #[]⟩
@[reducible] noncomputable def par_stm_21 : { b : Arguments // b = dPar (stm 21) } := by
  refine ⟨?b, ?h⟩
  case h => (conv => rhs; whnf)
@[reducible] noncomputable def body_stm_21 : { b : List Stmt // b = dBody (stm 21) } := by
  refine ⟨?b, ?h⟩
  case h => (conv => rhs; whnf)
@[reducible] noncomputable def sc_stm_21 : { b : Scope // b = dScope (stm 21) } := by
  refine ⟨?b, ?h⟩
  case h => (conv => rhs; whnf)
@[reducible] noncomputable def k203 (P : Params) : Obj := ⟨(.type "function"), none, (.func { name := (Str.ofString "_law_told"), qualname := (Str.ofString "_law_told"), params := (par_stm_21).1, body := .stmts ((body_stm_21).1), scope := (sc_stm_21).1, globals := 3, closure := [], defaults := .none, kwdefaults := .none, doc := .none, pyModule := (.str (Str.ofString "law_to0041_01") 2317), annotations := none, code := (.ref 202), closureTuple := .none, builtins := 0 }), #[]⟩
@[reducible] noncomputable def par_stm_22 : { b : Arguments // b = dPar (stm 22) } := by
  refine ⟨?b, ?h⟩
  case h => (conv => rhs; whnf)
@[reducible] noncomputable def body_stm_22 : { b : List Stmt // b = dBody (stm 22) } := by
  refine ⟨?b, ?h⟩
  case h => (conv => rhs; whnf)
@[reducible] noncomputable def sc_stm_22 : { b : Scope // b = dScope (stm 22) } := by
  refine ⟨?b, ?h⟩
  case h => (conv => rhs; whnf)
@[reducible] noncomputable def k210 (P : Params) : Obj := ⟨(.type "function"), none, (.func { name := (Str.ofString "_law_struck"), qualname := (Str.ofString "_law_struck"), params := (par_stm_22).1, body := .stmts ((body_stm_22).1), scope := (sc_stm_22).1, globals := 3, closure := [], defaults := .none, kwdefaults := .none, doc := .none, pyModule := (.str (Str.ofString "law_to0041_01") 2317), annotations := none, code := (.ref 209), closureTuple := .none, builtins := 0 }), #[]⟩
@[reducible] noncomputable def par_stm_23 : { b : Arguments // b = dPar (stm 23) } := by
  refine ⟨?b, ?h⟩
  case h => (conv => rhs; whnf)
@[reducible] noncomputable def body_stm_23 : { b : List Stmt // b = dBody (stm 23) } := by
  refine ⟨?b, ?h⟩
  case h => (conv => rhs; whnf)
@[reducible] noncomputable def sc_stm_23 : { b : Scope // b = dScope (stm 23) } := by
  refine ⟨?b, ?h⟩
  case h => (conv => rhs; whnf)
@[reducible] noncomputable def k215 (P : Params) : Obj := ⟨(.type "function"), none, (.func { name := (Str.ofString "_law_home"), qualname := (Str.ofString "_law_home"), params := (par_stm_23).1, body := .stmts ((body_stm_23).1), scope := (sc_stm_23).1, globals := 3, closure := [], defaults := .none, kwdefaults := .none, doc := .none, pyModule := (.str (Str.ofString "law_to0041_01") 2317), annotations := none, code := (.ref 214), closureTuple := .none, builtins := 0 }), #[]⟩
@[reducible] noncomputable def par_stm_24 : { b : Arguments // b = dPar (stm 24) } := by
  refine ⟨?b, ?h⟩
  case h => (conv => rhs; whnf)
@[reducible] noncomputable def body_stm_24 : { b : List Stmt // b = dBody (stm 24) } := by
  refine ⟨?b, ?h⟩
  case h => (conv => rhs; whnf)
@[reducible] noncomputable def sc_stm_24 : { b : Scope // b = dScope (stm 24) } := by
  refine ⟨?b, ?h⟩
  case h => (conv => rhs; whnf)
@[reducible] noncomputable def k220 (P : Params) : Obj := ⟨(.type "function"), none, (.func { name := (Str.ofString "law"), qualname := (Str.ofString "law"), params := (par_stm_24).1, body := .stmts ((body_stm_24).1), scope := (sc_stm_24).1, globals := 3, closure := [], defaults := .none, kwdefaults := .none, doc := .none, pyModule := (.str (Str.ofString "law_to0041_01") 2317), annotations := none, code := (.ref 219), closureTuple := .none, builtins := 0 }), #[]⟩
noncomputable def K (P : Params) : Frag := (nat_lit 2, boot_o_2 P) :: (nat_lit 3, o3_146 P) :: (nat_lit 4, boot_o_4 P) :: (nat_lit 5, boot_o_5 P) :: (nat_lit 6, boot_o_6 P) :: (nat_lit 9, boot_o_9 P) :: (nat_lit 11, o11_0 P) :: (nat_lit 13, o13_2 P) :: (nat_lit 14, o14_3 P) :: (nat_lit 15, o15_6 P) :: (nat_lit 16, o16_7 P) :: (nat_lit 17, o17_8 P) :: (nat_lit 18, o18_9 P) :: (nat_lit 20, o20_11 P) :: (nat_lit 21, o21_12 P) :: (nat_lit 22, o22_13 P) :: (nat_lit 24, o24_15 P) :: (nat_lit 25, o25_16 P) :: (nat_lit 27, o27_18 P) :: (nat_lit 28, k28 P) :: (nat_lit 29, o29_20 P) :: (nat_lit 31, o31_22 P) :: (nat_lit 32, o32_23 P) :: (nat_lit 34, o34_25 P) :: (nat_lit 35, k35 P) :: (nat_lit 36, o36_27 P) :: (nat_lit 38, o38_29 P) :: (nat_lit 39, o39_30 P) :: (nat_lit 41, o41_32 P) :: (nat_lit 42, k42 P) :: (nat_lit 43, o43_34 P) :: (nat_lit 45, o45_36 P) :: (nat_lit 46, o46_37 P) :: (nat_lit 48, o48_39 P) :: (nat_lit 49, k49 P) :: (nat_lit 50, o50_41 P) :: (nat_lit 51, o51_42 P) :: (nat_lit 52, o52_43 P) :: (nat_lit 53, o53_44 P) :: (nat_lit 54, o54_45 P) :: (nat_lit 55, o55_46 P) :: (nat_lit 56, o56_47 P) :: (nat_lit 57, o57_50 P) :: (nat_lit 59, o59_52 P) :: (nat_lit 60, o60_53 P) :: (nat_lit 62, o62_55 P) :: (nat_lit 63, k63 P) :: (nat_lit 64, o64_57 P) :: (nat_lit 66, o66_59 P) :: (nat_lit 67, o67_60 P) :: (nat_lit 69, o69_62 P) :: (nat_lit 70, k70 P) :: (nat_lit 71, o71_64 P) :: (nat_lit 73, o73_66 P) :: (nat_lit 74, o74_67 P) :: (nat_lit 76, o76_69 P) :: (nat_lit 77, k77 P) :: (nat_lit 78, o78_71 P) :: (nat_lit 80, o80_73 P) :: (nat_lit 81, o81_74 P) :: (nat_lit 83, o83_76 P) :: (nat_lit 84, k84 P) :: (nat_lit 85, o85_78 P) :: (nat_lit 87, o87_80 P) :: (nat_lit 88, o88_81 P) :: (nat_lit 90, o90_83 P) :: (nat_lit 91, k91 P) :: (nat_lit 93, o93_87 P) :: (nat_lit 95, o95_89 P) :: (nat_lit 96, o96_90 P) :: (nat_lit 97, o97_91 P) :: (nat_lit 99, o99_93 P) :: (nat_lit 100, o100_94 P) :: (nat_lit 101, o101_95 P) :: (nat_lit 102, o102_96 P) :: (nat_lit 103, o103_99 P) :: (nat_lit 105, o105_101 P) :: (nat_lit 106, o106_102 P) :: (nat_lit 108, o108_104 P) :: (nat_lit 109, k109 P) :: (nat_lit 110, o110_107 P) :: (nat_lit 149, o149_148 P) :: (nat_lit 151, o151_150 P) :: (nat_lit 152, o152_151 P) :: (nat_lit 154, o154_153 P) :: (nat_lit 155, k155 P) :: (nat_lit 156, o156_155 P) :: (nat_lit 158, o158_157 P) :: (nat_lit 159, o159_158 P) :: (nat_lit 161, o161_160 P) :: (nat_lit 162, k162 P) :: (nat_lit 163, o163_162 P) :: (nat_lit 165, o165_164 P) :: (nat_lit 166, o166_165 P) :: (nat_lit 168, o168_167 P) :: (nat_lit 169, k169 P) :: (nat_lit 170, o170_169 P) :: (nat_lit 173, o173_172 P) :: (nat_lit 174, k174 P) :: (nat_lit 175, o175_174 P) :: (nat_lit 177, o177_176 P) :: (nat_lit 178, o178_177 P) :: (nat_lit 180, o180_179 P) :: (nat_lit 181, k181 P) :: (nat_lit 182, o182_181 P) :: (nat_lit 185, o185_184 P) :: (nat_lit 186, k186 P) :: (nat_lit 187, o187_186 P) :: (nat_lit 190, o190_189 P) :: (nat_lit 191, k191 P) :: (nat_lit 192, o192_191 P) :: (nat_lit 195, o195_194 P) :: (nat_lit 196, k196 P) :: (nat_lit 197, o197_196 P) :: (nat_lit 199, o199_198 P) :: (nat_lit 200, o200_199 P) :: (nat_lit 202, o202_201 P) :: (nat_lit 203, k203 P) :: (nat_lit 204, o204_203 P) :: (nat_lit 206, o206_205 P) :: (nat_lit 207, o207_206 P) :: (nat_lit 209, o209_208 P) :: (nat_lit 210, k210 P) :: (nat_lit 211, o211_210 P) :: (nat_lit 214, o214_213 P) :: (nat_lit 215, k215 P) :: (nat_lit 216, o216_215 P) :: (nat_lit 219, o219_218 P) :: (nat_lit 220, k220 P) :: []
noncomputable def K2 (P : Params) : Frag := (nat_lit 157, ⟨.none, none, .fields #[], #[]⟩) :: K P
noncomputable def Kas : List Addr := [2, 3, 4, 5, 6, 9, 11, 13, 14, 15, 16, 17, 18, 20, 21, 22, 24, 25, 27, 28, 29, 31, 32, 34, 35, 36, 38, 39, 41, 42, 43, 45, 46, 48, 49, 50, 51, 52, 53, 54, 55, 56, 57, 59, 60, 62, 63, 64, 66, 67, 69, 70, 71, 73, 74, 76, 77, 78, 80, 81, 83, 84, 85, 87, 88, 90, 91, 93, 95, 96, 97, 99, 100, 101, 102, 103, 105, 106, 108, 109, 110, 149, 151, 152, 154, 155, 156, 158, 159, 161, 162, 163, 165, 166, 168, 169, 170, 173, 174, 175, 177, 178, 180, 181, 182, 185, 186, 187, 190, 191, 192, 195, 196, 197, 199, 200, 202, 203, 204, 206, 207, 209, 210, 211, 214, 215, 216, 219, 220]
theorem Kas_ (P : Params) : Kas = (K P).map (·.1) := by kernel_rfl
theorem K2_in (P : Params) : (157 :: Kas).map (absHeap (t6 P) 221 life0).get? = (K2 P).map fun p => some p.2 := by kernel_rfl
theorem K_in (P : Params) : Kas.map (absHeap (t6 P) 221 life0).get? = (K P).map fun p => some p.2 := by kernel_rfl
end Mine
end
noncomputable section
open PySem PySem.W PySem.Calls PyProof.Rows
set_option maxRecDepth 100000
set_option maxHeartbeats 0
namespace Mine
noncomputable def qv : Program := { pw with main := { pw.main with body := [stm 24] } }
noncomputable def looseV : List Str := ["_netrclex", "eq", "floordiv", "mod", "neg", "concat", "b1_set", "in_table_b1", "b3_exceptions", "map_table_b3", "_law_lexer", "_law_cells", "_law_board", "_law_typed", "_law_text", "_law_prepared", "_law_sown", "_law_told", "_law_struck", "_law_home"]
noncomputable def H1 (P : Params) : Heap := absHeap (t6 P) 221 life0
theorem runs (w : World) (os : OsState) : topRun treeTable pw w 11 (some (.ref 6)) (12 + (1 + (333 + (169 + (999 + (30 + (12525 + (367 + 2)))))))) ⟨boot_heap w.params, #[], boot_drawn, boot_toks, os⟩ (topStub pw) = some ⟨H1 w.params, #[], boot_drawn, 2415, os⟩ := by
  refine go_top (pre_ w os) ?_
  refine piece_block (block_ w os) ?_
  rw [show behindTheImports pw = sg 0 2 ++ (sg 2 7 ++ (sg 9 1 ++ (sg 10 1 ++ (sg 11 1 ++ (sg 12 13 ++ []))))) by kernel_rfl]
  refine piece_app (segRun_of (seg1 w os)) ?_
  refine piece_app (segRun_of (seg2 w os)) ?_
  refine piece_app (segRun_of (seg3 os w)) ?_
  refine piece_app (segRun_of (seg4 w os)) ?_
  refine piece_app (seg5 w os) ?_
  refine piece_app (segRun_of (seg6 w os)) ?_
  exact fin_ w os
theorem size_ (w : World) : ((boot_heap w.params).isNs mainGlobals && (#[] : Array GenState).size == 0, (boot_heap w.params).objs.size, (boot_heap w.params).nsMap mainGlobals "__annotations__") = (true, 11, some (.ref 6)) := by kernel_rfl
theorem open_ : ∀ w : World, (fencedOpening treeTable pw w 100000).map (fun s => (s.heap, s.gens, s.drawn, s.toks)) = some (boot_heap w.params, #[], boot_drawn, boot_toks) :=
  boot_open (by kernel_rfl) (by decide +kernel) (fun s => by kernel_rfl)
theorem looks1 (w : World) (os : OsState) : (staticsOk (importedModules pw.main.body) (boot_heap w.params) (H1 w.params) && namesBound pw (H1 w.params) && gensDone ⟨H1 w.params, #[], boot_drawn, 2415, os⟩ && laidKept (boot_heap w.params) (H1 w.params)) = true := by kernel_rfl
theorem looks2 (w : World) (os : OsState) : openSeen qv looseV (importedModules pw.main.body) (fun _ => true) true ⟨H1 w.params, #[], boot_drawn, 2415, os⟩ = openGood qv looseV := by
  rw [Fast.te4187177175401517315]
  kernel_rfl
theorem Kas2_ (P : Params) : 157 :: Kas = (K2 P).map (·.1) := by rw [Kas_ P]; rfl
noncomputable def hk : Hook := ⟨List (Option Obj), fun s => (157 :: Kas).map s.heap.get?, fun w => (K2 w.params).map fun p => some p.2, InK K2, InK.of Kas2_, InK.keeps⟩
theorem left_ : LeftO pw qv looseV (fun _ => true) hk.obs hk.val 100000 :=
  LeftO.of_pieces (H₀ := boot_heap) (H₁ := H1) open_ size_ runs (by decide +kernel) (fun w => funext fun os => by
    rw [looks1, looks2]
    show (true, openGood qv looseV, (157 :: Kas).map (H1 w.params).get?) = _
    rw [show (157 :: Kas).map (H1 w.params).get? = (K2 w.params).map fun p => some p.2 from K2_in w.params]
    rfl)
end Mine
end
noncomputable section
open PySem PySem.W PySem.Calls PyProof.Rows
set_option maxRecDepth 100000
set_option maxHeartbeats 0
namespace Mine
noncomputable abbrev lawRow : OpenLaw := PySem.Challenge.rw_to0041_01
theorem hd (call : WalkO qv looseV (fun _ _ => True) hk.says lawRow.row.toRowW ⟨Str.ofString "law", dPar (stm 24), dBody (stm 24), dScope (stm 24), ⟨168, 0, 189, 69⟩⟩ [] fun f vs => PySem.call f vs) : PySem.Challenge.rw_to0041_01.Holds := by
  refine holds_law (by decide +kernel) fun said => ?_
  refine PySem.W.holds_open (r := lawRow.row) (q := qv) (loose := looseV) (Xt := fun _ => true) (XP := fun _ _ => True) (Yf := hk.obs) (Ya := hk.val) (YP := hk.says) (d := ⟨Str.ofString "law", dPar (stm 24), dBody (stm 24), dScope (stm 24), ⟨168, 0, 189, 69⟩⟩) (kwd := []) (N := 100000) left_ hk.of hk.keeps (fun _ _ => trivial) (fun _ _ _ _ _ => trivial) ?hdef ?hp ?hk (fun s _ => recFacts_of (R := []) rfl) ?hwr (said) ?ok ?hb ?hw call
  case hdef => kernel_rfl
  case hp => kernel_rfl
  case hk => kernel_rfl
  case hwr => kernel_rfl
  case ok => kernel_rfl
  case hb => exact ⟨rfl, rfl, rfl, rfl, rfl, by decide +kernel⟩
  case hw => exact ⟨[.list []], by decide +kernel, by decide +kernel⟩
end Mine
end
noncomputable section
open PySem PySem.W PySem.Calls PyProof.Rows
set_option maxRecDepth 100000
namespace Mine
noncomputable abbrev prog : Program := PySem.Challenge.pw_to0041_01
noncomputable abbrev Led := List (Addr × Obj)


/-- the objects that a call may change, and what it leaves -/
noncomputable def On (h₀ h : Heap) (l : Led) : Prop := ∀ p ∈ l, h.get? p.1 = some p.2 ∧ h₀.get? p.1 = none
noncomputable def Ext (sub : Led) (h h' : Heap) : Prop := ∀ b o, b ∉ sub.map (·.1) → h.get? b = some o → h'.get? b = some o
noncomputable def Lef (sub : Led) (h h' : Heap) (sub' : Led) : Prop := ∀ p ∈ sub', h'.get? p.1 = some p.2 ∧ (p.1 ∈ sub.map (·.1) ∨ h.get? p.1 = none)
/-- how a body ends -/
noncomputable def Lv (g : Heap) (Post : Value → Led → Prop) (s : Shared) (v : Value) (s' : Shared) : Prop :=
  ∃ L m news, Fr g L s'.heap m ∧ News g L s'.heap news ∧ Post v news ∧ s' = { s with heap := s'.heap, toks := s'.toks }

section
variable {w : World} {p : Program} {loose : List Str} {mean : ExcName → Option Value} {mg mb : Str → Option Value}

noncomputable def Ct (w : World) (p : Program) (loose : List Str) (mean : ExcName → Option Value) (mg mb : Str → Option Value) (n k : Nat) (f : Addr) (vs : List Value) (sub : Led) (Post : Value → Led → Prop) : Prop :=
  ∀ (A : Around) (h₀ : Heap) (s : Shared) (Q E : Value → Shared → Prop), A.handled = none → A.depth + n < recursionLimit → A.units + k < cLine → (K w.params).In h₀ → Top p loose mean mg mb h₀ →
    (∀ b o, h₀.get? b = some o → s.heap.get? b = some o) → On h₀ s.heap sub →
    (∀ v sub' h' tk, Ext sub s.heap h' → Lef sub s.heap h' sub' → Post v sub' → Q v { s with heap := h', toks := tk }) → codeAny (model prog w) A (.call (.ref f) ⟨vs, []⟩) (fun r s' => match r with | .ok (.ret v) => Q v s' | .ok _ => False | .error e => E e s') s

theorem lv_out {g : Heap} {Post : Value → Led → Prop} {s s' s₂ : Shared} {sub : Led} {v : Value} {Q : Value → Shared → Prop} (hg : g = hideAll s.heap (sub.map (·.1))) (hs : s₂ = { s with heap := s₂.heap, toks := s₂.toks })
    (ret : ∀ v sub' h' tk, Ext sub s.heap h' → Lef sub s.heap h' sub' → Post v sub' → Q v { s with heap := h', toks := tk }) (h : Lv g Post s₂ v s') : Q v s' := by
  obtain ⟨L, m, news, F, N, P, e⟩ := h
  have e' : s' = { s with heap := s'.heap, toks := s'.toks } := by
    rw [hs] at e; exact e
  rw [e']
  refine ret v news _ _ (fun b o hb q => F.keep b o ?_) (fun q hq => ⟨(N q hq).1, ?_⟩) P
  · rw [hg]; exact hideAll_get _ q hb
  · by_cases hb : q.1 ∈ sub.map (·.1)
    · exact .inl hb
    · refine .inr ?_
      cases hx : s.heap.get? q.1 with
      | none => rfl
      | some o =>
        have := (N q hq).2.2
        rw [hg, hideAll_get _ hx hb] at this
        cases this

theorem ct_def {A : Around} {h₀ : Heap} {s : Shared} {Q E : Value → Shared → Prop} {sub : Led} {Post : Value → Led → Prop} {name qual : Str} {params : Arguments} {body : List Stmt} {scope : Scope} {dV kV doc pm cdv ct oc : Value} {an od : Option Addr} {osl : Array (Option Value)} {f : Addr} {vs : List Value} {binds : List (Str × Value)}
    (X : (K w.params).In h₀) (T : Top p loose mean mg mb h₀) (st : ∀ b o, h₀.get? b = some o → s.heap.get? b = some o) (O : On h₀ s.heap sub)
    (ho : (K w.params).lookup f = some ⟨oc, od, .func (fnOf name qual params body scope dV kV doc pm an cdv ct), osl⟩) (hcd : codeIn (K w.params) cdv qual = true) (hroom : A.depth < recursionLimit)
    (hbind : BindsTo s (fnOf name qual params body scope dV kV doc pm an cdv ct) ⟨vs, []⟩ binds) (hloc : ∀ y ∈ binds, scope.names.lookup y.1 = some .local)
    (ret : ∀ v sub' h' tk, Ext sub s.heap h' → Lef sub s.heap h' sub' → Post v sub' → Q v { s with heap := h', toks := tk })
    (h : ∀ (g : Heap) (L : Addr) (h₁ : Heap), (K w.params).In g → Top p loose mean mg mb g → Fr g L h₁ (fun y => binds.reverse.lookup y) → News g L h₁ sub → (∀ q ∈ sub, q.1 < L) →
      wpAny (model prog w) (A.deeper (envOf qual scope L f cdv)) (execs body (envOf qual scope L f cdv))
        (fun fl s' => Lv g Post { s with heap := h₁, toks := s.toks + binds.length } (match fl with | .ret v => v | _ => .none) s') (fun _ _ => False) { s with heap := h₁, toks := s.toks + binds.length })
    (hco : scope.isCoroutine = false) (hgen : scope.isGenerator = false) (hk : scope.kind = .function) (hcell : ∀ x ∈ scope.names, x.2 ≠ .cell) :
    codeAny (model prog w) A (.call (.ref f) ⟨vs, []⟩) (fun r s' => match r with | .ok (.ret v) => Q v s' | .ok _ => False | .error e => E e s') s := by
  have nm : ∀ b o, h₀.get? b = some o → b ∉ sub.map (·.1) := fun b o e q => by
    obtain ⟨p, hp, rfl⟩ := List.mem_map.mp q
    rw [(O p hp).2] at e; cases e
  have stg : ∀ b o, h₀.get? b = some o → (hideAll s.heap (sub.map (·.1))).get? b = some o := fun b o e => hideAll_get _ (st b o e) (nm b o e)
  refine codeAny_call_def (fd := fnOf name qual params body scope dV kV doc pm an cdv ct) (body := body) (binds := binds) hroom (st _ _ (X _ _ ho)) rfl (T.nolimit.keeps st) (codeRec_of (X.keeps st) hcd) rfl hbind hcell hloc (fun h₁ hns hk₁ => ?_) hco hgen hk
  refine wpAny_mono (h (hideAll s.heap (sub.map (·.1))) s.heap.objs.size h₁ (X.keeps stg) (T.keeps stg) ⟨hns, fun b o e => hk₁ b o (of_hideAll _ e), Nat.le_of_eq (hideAll_size _ _)⟩
    (fun p hp => ⟨hk₁ _ _ (O p hp).1, Nat.ne_of_lt (Heap.lt_size (O p hp).1), hideAll_none _ (List.mem_map_of_mem hp)⟩) (fun p hp => Heap.lt_size (O p hp).1)) (fun fl s' hl => ?_) fun _ _ y => y.elim
  exact lv_out (sub := sub) (s := s) (s₂ := { s with heap := h₁, toks := s.toks + binds.length }) (Q := Q) rfl rfl ret hl

theorem Ct.useC {n k : Nat} {A : Around} {h₀ : Heap} {L : Addr} {m : Str → Option Value} {news sub rest : Led} {s : Shared} {f : Addr} {vs : List Value} {Q E : Value → Shared → Prop} {Post : Value → Led → Prop} (C : Ct w p loose mean mg mb n k f vs sub Post)
    (F : Fr h₀ L s.heap m) (X : (K w.params).In h₀) (N : News h₀ L s.heap news) (T : Top p loose mean mg mb h₀) (hA : A.handled = none) (hd : A.depth + n < recursionLimit) (hu : A.units + k < cLine)
    (hsub : ∀ q ∈ sub, q ∈ news) (hrest : ∀ q ∈ rest, q ∈ news ∧ q.1 ∉ sub.map (·.1))
    (h : ∀ v sub' h' tk, Fr h₀ L h' m → News h₀ L h' (rest ++ sub') → (∀ q ∈ sub', q.1 ∈ sub.map (·.1) ∨ ∀ r ∈ news, r.1 ≠ q.1) → Post v sub' → Q v { s with heap := h', toks := tk }) :
    codeAny (model prog w) A (.call (.ref f) ⟨vs, []⟩) (fun r s' => match r with | .ok (.ret v) => Q v s' | .ok _ => False | .error e => E e s') s := by
  refine (C A h₀ s Q E hA hd hu X T F.keep (fun q hq => ⟨(N q (hsub q hq)).1, (N q (hsub q hq)).2.2⟩) fun v sub' h' tk x l P => ?_)
  have nsub : ∀ b, (∀ p ∈ news, p.1 ≠ b) → b ∉ sub.map (·.1) := fun b hb q => by
    obtain ⟨r, hr, e⟩ := List.mem_map.mp q
    exact hb r (hsub r hr) e
  have key : ∀ q ∈ sub', q.1 ∈ sub.map (·.1) ∨ ∀ r ∈ news, r.1 ≠ q.1 := fun q hq => by
    rcases (l q hq).2 with y | y
    · exact .inl y
    · refine .inr fun r hr e => ?_
      have := (N r hr).1
      rw [e, y] at this; cases this
  refine h v sub' h' tk ⟨?_, fun b o e => x b o (nsub b fun r hr q => ?_) (F.keep b o e), F.above⟩ (fun q hq => ?_) key P
  · obtain ⟨oL, es, ep, hL, r⟩ := F.ns
    exact ⟨oL, es, ep, x L oL (nsub L fun r hr => (N r hr).2.1) hL, r⟩
  · have := (N r hr).2.2; rw [q, e] at this; cases this
  · rcases List.mem_append.mp hq with hq | hq
    · have y := hrest q hq
      have z := N q y.1
      exact ⟨x _ _ y.2 z.1, z.2⟩
    · refine ⟨(l q hq).1, ?_⟩
      rcases (l q hq).2 with y | y
      · obtain ⟨r, hr, e⟩ := List.mem_map.mp y
        rw [← e]; exact (N r (hsub r hr)).2
      · refine ⟨fun e => ?_, ?_⟩
        · obtain ⟨oL, es, ep, hL, r⟩ := F.ns
          rw [e, hL] at y; cases y
        · cases hx : h₀.get? q.1 with
          | none => rfl
          | some o => have := F.keep _ _ hx; rw [y] at this; cases this

theorem Ct.use {n k : Nat} {A : Around} {h₀ : Heap} {L : Addr} {m : Str → Option Value} {news sub rest : Led} {s : Shared} {f : Addr} {vs : List Value} {Q E : Value → Shared → Prop} {Post : Value → Led → Prop} (C : Ct w p loose mean mg mb n k f vs sub Post)
    (F : Fr h₀ L s.heap m) (X : (K w.params).In h₀) (N : News h₀ L s.heap news) (T : Top p loose mean mg mb h₀) (hA : A.handled = none) (hd : A.depth + n < recursionLimit) (hu : A.units + k < cLine)
    (hsub : ∀ q ∈ sub, q ∈ news) (hrest : ∀ q ∈ rest, q ∈ news ∧ q.1 ∉ sub.map (·.1))
    (h : ∀ v sub' h' tk, Fr h₀ L h' m → News h₀ L h' (rest ++ sub') → (∀ q ∈ sub', q.1 ∈ sub.map (·.1) ∨ ∀ r ∈ news, r.1 ≠ q.1) → Post v sub' → Q v { s with heap := h', toks := tk }) :
    wpAny (model prog w) A (call (.ref f) vs) Q E s :=
  wpAny_call (C.useC F X N T hA hd hu hsub hrest h)

/-- a call that changes nothing -/
theorem Ct.use0 {n k : Nat} {A : Around} {h₀ : Heap} {L : Addr} {m : Str → Option Value} {news : Led} {s : Shared} {f : Addr} {vs : List Value} {Q E : Value → Shared → Prop} {Post : Value → Led → Prop} (C : Ct w p loose mean mg mb n k f vs [] Post)
    (F : Fr h₀ L s.heap m) (X : (K w.params).In h₀) (N : News h₀ L s.heap news) (T : Top p loose mean mg mb h₀) (hA : A.handled = none) (hd : A.depth + n < recursionLimit) (hu : A.units + k < cLine)
    (h : ∀ v sub' h' tk, Fr h₀ L h' m → News h₀ L h' news → Post v sub' → Q v { s with heap := h', toks := tk }) :
    wpAny (model prog w) A (call (.ref f) vs) Q E s :=
  C.use (rest := news) F X N T hA hd hu (fun q hq => nomatch hq) (fun q hq => ⟨hq, by simp⟩) fun v sub' h' tk F' N' _ P => h v sub' h' tk F' (fun q hq => N' q (List.mem_append_left _ hq)) P
end

theorem lv_ret {g : Heap} {Post : Value → Led → Prop} {s s' : Shared} {v : Value} {L : Addr} {m : Str → Option Value} {news : Led} (F : Fr g L s'.heap m) (N : News g L s'.heap news) (e : s' = { s with heap := s'.heap, toks := s'.toks }) (h : Post v news) : Lv g Post s v s' := ⟨L, m, news, F, N, h, e⟩
/-- what follows is kept out of sight while a part is walked -/
theorem wp_hide {α : Type} {M : Model} {A : Around} {c : Sem α} {Q : α → Shared → Prop} {E : Value → Shared → Prop} {s : Shared} (h : ∀ Q', Q' = Q → wpAny M A c Q' E s) : wpAny M A c Q E s := h Q rfl
theorem dOk {A : Around} {e : Env} {n k : Nat} (h : A.depth + n < recursionLimit) (hk : k < n := by decide) : (A.deeper e).depth + k < recursionLimit := by
  rw [depth_deeper]; omega
theorem uOk {A : Around} {e : Env} {n k : Nat} (h : A.units + n < cLine) (hk : k + 3 ≤ n := by decide) : (A.deeper e).units + k < cLine := by
  rw [units_deeper]; omega
theorem lne43 (L : Nat) : L + 1 + 1 + 1 + 1 ≠ L + 1 + 1 + 1 := by omega
theorem lne42 (L : Nat) : L + 1 + 1 + 1 + 1 ≠ L + 1 + 1 := by omega
theorem lne41 (L : Nat) : L + 1 + 1 + 1 + 1 ≠ L + 1 := by omega
theorem lne32 (L : Nat) : L + 1 + 1 + 1 ≠ L + 1 + 1 := by omega
theorem lne31 (L : Nat) : L + 1 + 1 + 1 ≠ L + 1 := by omega
theorem lne21 (L : Nat) : L + 1 + 1 ≠ L + 1 := by omega
end Mine
end
noncomputable section
open PySem PySem.W PySem.Calls PyProof.Rows
set_option maxRecDepth 100000
set_option maxHeartbeats 4000000
namespace Mine
theorem k_now : PySem.Challenge.rw_to0041_01.foot = 11 ∧ (K = K) := by
  k_fill
  exact ⟨rfl, rfl⟩
local macro_rules | `(tactic| ktr_rel) => `(tactic| (refine lv_ret (by k_asm) (by k_asm) (by rfl) ?_))
section
variable {w : World} {p : Program} {loose : List Str} {mean : ExcName → Option Value} {mg mb : Str → Option Value}
theorem ct_neg (x : Int) (t : Tok) : Ct w p loose mean mg mb 2 20 84 [.int x t] [] fun v _ => ∃ t, v = .int (-x) t := by
  intro A h₀ s Q E hA hd hu X T st O ret
  k_dflt (refine' ct_def (binds := [(Str.ofString "a", .int x t)]) (sub := _) X T st O ?k6 ?k7 ?k8 ?k9 ?kB ret ?_ ?c2 ?c3 ?c4 ?c5)
  (case k6 => k_is); (case k7 => k_is); (case k8 => omega); (case k9 => first | exact BindsTo.of_eq rfl | exact binds_K (by k_in) rfl (by k_is) rfl rfl rfl); (case c5 => decide); (case kB => exact locs rfl); (case c2 => exact rfl); (case c3 => exact rfl); (case c4 => exact rfl)
  clear ret O st T X; intro g L h₁ X T F N hlt; (try dsimp only); (try k_fold)
  k_steps
  ktr_rel
  exact ⟨_, rfl⟩
theorem ct_mod (x y : Int) (t t' : Tok) (hy : 0 < y) : Ct w p loose mean mg mb 2 20 77 [.int x t, .int y t'] [] fun v _ => ∃ t, v = .int (x % y) t := by
  intro A h₀ s Q E hA hd hu X T st O ret
  k_dflt (refine' ct_def (binds := [(Str.ofString "a", .int x t), (Str.ofString "b", .int y t')]) (sub := _) X T st O ?k6 ?k7 ?k8 ?k9 ?kB ret ?_ ?c2 ?c3 ?c4 ?c5)
  (case k6 => k_is); (case k7 => k_is); (case k8 => omega); (case k9 => first | exact BindsTo.of_eq rfl | exact binds_K (by k_in) rfl (by k_is) rfl rfl rfl); (case c5 => decide); (case kB => exact locs rfl); (case c2 => exact rfl); (case c3 => exact rfl); (case c4 => exact rfl)
  clear ret O st T X; intro g L h₁ X T F N hlt; (try dsimp only); (try k_fold)
  k_steps
  ktr_rel
  rw [Int.fmod_eq_emod_of_nonneg _ (Int.le_of_lt hy)]
  exact ⟨_, rfl⟩
theorem ct_floordiv (x y : Int) (t t' : Tok) (hy : 0 < y) (hy2 : y < 1000000) : Ct w p loose mean mg mb 2 20 70 [.int x t, .int y t'] [] fun v _ => ∃ t, v = .int (x / y) t := by
  intro A h₀ s Q E hA hd hu X T st O ret
  k_dflt (refine' ct_def (binds := [(Str.ofString "a", .int x t), (Str.ofString "b", .int y t')]) (sub := _) X T st O ?k6 ?k7 ?k8 ?k9 ?kB ret ?_ ?c2 ?c3 ?c4 ?c5)
  (case k6 => k_is); (case k7 => k_is); (case k8 => omega); (case k9 => first | exact BindsTo.of_eq rfl | exact binds_K (by k_in) rfl (by k_is) rfl rfl rfl); (case c5 => decide); (case kB => exact locs rfl); (case c2 => exact rfl); (case c3 => exact rfl); (case c4 => exact rfl)
  clear ret O st T X; intro g L h₁ X T F N hlt; (try dsimp only); (try k_fold)
  k_steps
  ktr_rel
  rw [Int.fdiv_eq_ediv_of_nonneg _ (Int.le_of_lt hy)]
  exact ⟨_, rfl⟩
theorem ct_eq (x y : Int) (t t' : Tok) : Ct w p loose mean mg mb 2 20 63 [.int x t, .int y t'] [] fun v _ => v = .bool (decide (x = y)) := by
  intro A h₀ s Q E hA hd hu X T st O ret
  k_dflt (refine' ct_def (binds := [(Str.ofString "a", .int x t), (Str.ofString "b", .int y t')]) (sub := _) X T st O ?k6 ?k7 ?k8 ?k9 ?kB ret ?_ ?c2 ?c3 ?c4 ?c5)
  (case k6 => k_is); (case k7 => k_is); (case k8 => omega); (case k9 => first | exact BindsTo.of_eq rfl | exact binds_K (by k_in) rfl (by k_is) rfl rfl rfl); (case c5 => decide); (case kB => exact locs rfl); (case c2 => exact rfl); (case c3 => exact rfl); (case c4 => exact rfl)
  clear ret O st T X; intro g L h₁ X T F N hlt; (try dsimp only); (try k_fold)
  k_steps
  ktr_rel
  rw [show (x == y) = decide (x = y) from rfl]
end
end Mine
end
noncomputable section
open PySem PySem.W PySem.Calls PyProof.Rows
set_option maxRecDepth 100000
namespace Mine
/-- how a loop's turn ends -/
noncomputable def TurnQ (h₀ : Heap) (L I : Addr) (oI : Obj) (keep : Led) (J : (Str → Option Value) → Led → Prop) (s₁ : Shared) (Q : Flow → Shared → Prop) (f : Flow) (s₂ : Shared) : Prop :=
  match f with
  | .ret v => Q (.ret v) s₂
  | .brk => Q .next s₂
  | _ => ∃ m' nx, s₂ = { s₁ with heap := s₂.heap, toks := s₂.toks } ∧ Fr h₀ L s₂.heap m' ∧ News h₀ L s₂.heap ((I, oI) :: nx) ∧ (∀ p ∈ nx, p.1 ≠ I) ∧ (∀ p ∈ keep, p ∈ nx) ∧ J m' nx

theorem turn_next {h₀ : Heap} {L I : Addr} {oI : Obj} {keep : Led} {J : (Str → Option Value) → Led → Prop} {s₁ s₂ : Shared} {Q : Flow → Shared → Prop} {m' : Str → Option Value} {nx l : Led} (F : Fr h₀ L s₂.heap m') (N : News h₀ L s₂.heap l)
    (e : s₂ = { s₁ with heap := s₂.heap, toks := s₂.toks }) (hs : ∀ p ∈ (I, oI) :: nx, p ∈ l) (hn : ∀ p ∈ nx, @Ne Nat p.1 I) (hk : ∀ p ∈ keep, p ∈ nx) (hj : J m' nx) : TurnQ h₀ L I oI keep J s₁ Q .next s₂ :=
  ⟨m', nx, e, F, fun p hp => N p (hs p hp), hn, hk, hj⟩
theorem turn_cont {h₀ : Heap} {L I : Addr} {oI : Obj} {keep : Led} {J : (Str → Option Value) → Led → Prop} {s₁ s₂ : Shared} {Q : Flow → Shared → Prop} {m' : Str → Option Value} {nx l : Led} (F : Fr h₀ L s₂.heap m') (N : News h₀ L s₂.heap l)
    (e : s₂ = { s₁ with heap := s₂.heap, toks := s₂.toks }) (hs : ∀ p ∈ (I, oI) :: nx, p ∈ l) (hn : ∀ p ∈ nx, @Ne Nat p.1 I) (hk : ∀ p ∈ keep, p ∈ nx) (hj : J m' nx) : TurnQ h₀ L I oI keep J s₁ Q .cont s₂ :=
  ⟨m', nx, e, F, fun p hp => N p (hs p hp), hn, hk, hj⟩
@[reducible] noncomputable def up : List (Str × Option Value) → (Str → Option Value) → Str → Option Value
  | [], b => b
  | (a, v) :: l, b => fun y => if y = a then v else up l b y
theorem loc_up : ∀ (l : List (Str × Option Value)) {m b : Str → Option Value}, (∀ y, y ∉ l.map (·.1) → m y = b y) → (∀ q ∈ l, m q.1 = q.2) → m = up l b
  | [], _, _, h, _ => funext fun y => h y (by simp)
  | (a, v) :: l, m, b, h, hl => by
    funext y
    show m y = if y = a then v else up l b y
    by_cases e : y = a
    · rw [if_pos e, e]; exact hl _ (.head _)
    · rw [if_neg e]
      by_cases hy : y ∈ l.map (·.1)
      · have key : ∀ (l : List (Str × Option Value)), (∀ q ∈ l, m q.1 = q.2) → y ∈ l.map (·.1) → m y = up l b y := by
          intro l
          induction l with
          | nil => intro _ h; cases h
          | cons q l ih =>
            intro hl hy
            obtain ⟨a', v'⟩ := q
            show m y = if y = a' then v' else up l b y
            by_cases e' : y = a'
            · rw [if_pos e', e']; exact hl _ (.head _)
            · rw [if_neg e']
              refine ih (fun q hq => hl q (.tail _ hq)) ?_
              rcases List.mem_cons.mp hy with h1 | h1
              · exact absurd h1 e'
              · exact h1
        exact key l (fun q hq => hl q (.tail _ hq)) hy
      · have key : ∀ (l : List (Str × Option Value)), y ∉ l.map (·.1) → up l b y = b y := by
          intro l
          induction l with
          | nil => intro _; rfl
          | cons q l ih =>
            intro hy
            obtain ⟨a', v'⟩ := q
            show (if y = a' then v' else up l b y) = b y
            rw [if_neg fun e' => hy (by rw [e']; exact .head _)]
            exact ih fun h => hy (.tail _ h)
        rw [key l hy]
        refine h y fun h1 => ?_
        rcases List.mem_cons.mp h1 with h1 | h1
        · exact e h1
        · exact hy h1
theorem map_eq (names : List Str) {m m' : Str → Option Value} (h : ∀ A ∈ names, m A = m' A) (h' : ∀ y, y ∉ names → m y = m' y) : m = m' := by
  funext y
  by_cases hy : y ∈ names
  · exact h y hy
  · exact h' y hy

section
variable {prog : Program} {w : World} {A : Around} {E : Value → Shared → Prop} {s : Shared} {env : Env} {h₀ : Heap} {x : Str} {body : List Stmt} {Q : Flow → Shared → Prop}
theorem loop_gen {I : Addr} {fp : List Addr} {n : Nat} {P : Nat → Value → Prop} {St : Nat → Heap → Prop} {m₀ : Str → Option Value} {news keep : Led} (J : Nat → (Str → Option Value) → Led → Prop)
    (W : Walks prog w A I fp [I] n P St) (hLf : env.locals ∉ fp) (hI0 : h₀.get? I = none) (hI : ∀ i h, St i h → ∃ o, h.get? I = some o) (hIf : I ∈ fp)
    (hfp : ∀ b ∈ fp, b = I ∨ (∃ o, (b, o) ∈ keep) ∨ (∃ o, h₀.get? b = some o)) (hnI : ∀ p ∈ news, p.1 ≠ I) (hk : ∀ p ∈ keep, p ∈ news)
    (hst : St 0 s.heap) (F : Fr h₀ env.locals s.heap m₀) (N : News h₀ env.locals s.heap news) (hj : J 0 m₀ news)
    (turn : ∀ i v m₁ nx h tk oI, i < n → P i v → J i m₁ nx → (∀ p ∈ nx, p.1 ≠ I) → (∀ p ∈ keep, p ∈ nx) → Fr h₀ env.locals h (fun y => if y = x then some v else m₁ y) → News h₀ env.locals h ((I, oI) :: nx) →
      wpAny (model prog w) A (execs body env) (TurnQ h₀ env.locals I oI keep (J (i + 1)) { s with heap := h, toks := tk } Q) E { s with heap := h, toks := tk })
    (done : ∀ m₁ nx h tk, J n m₁ nx → (∀ p ∈ keep, p ∈ nx) → Fr h₀ env.locals h m₁ → News h₀ env.locals h nx → Q .next { s with heap := h, toks := tk }) :
    LoopAtV prog w A h₀ env x body Q E (.ref I) s := by
  let J' : Nat → (Str → Option Value) → Led → Prop := fun i m₁ nx => (∀ p ∈ keep, p ∈ nx) ∧ J i m₁ nx
  refine ⟨I, fp, [I], n, P, St, m₀, news, J', rfl, W, hLf, ?_, ?_, hst, F, N, ⟨hk, hj⟩, ?_, ?_⟩
  · intro b hb; rw [List.mem_singleton.mp hb]; exact hI0
  · intro p hp hb; exact hnI p hp (List.mem_singleton.mp hb)
  · rintro i v m₁ nx s₁ own ⟨hh', tk', rfl⟩ hin hP ⟨hkp, hJ⟩ hoff hown hget hall hst' F₁ N₁
    obtain ⟨oI, hoI⟩ := hI _ _ hst'
    have hmI : (I, oI) ∈ own := hall I hIf hI0 oI hoI
    refine wpAny_mono (turn i v m₁ nx hh' tk' oI hin hP hJ (fun p hp e => hoff p hp (List.mem_singleton.mpr e)) hkp F₁ (fun p hp => ?_)) (fun f s₂ q => ?_) fun _ _ e => e
    · rcases List.mem_cons.mp hp with rfl | hp
      · exact N₁ _ (List.mem_append_left _ hmI)
      · exact N₁ _ (List.mem_append_right _ hp)
    · have fin : (∃ m' nx, s₂ = { { s with heap := hh', toks := tk' } with heap := s₂.heap, toks := s₂.toks } ∧ Fr h₀ env.locals s₂.heap m' ∧ News h₀ env.locals s₂.heap ((I, oI) :: nx) ∧ (∀ p ∈ nx, p.1 ≠ I) ∧ (∀ p ∈ keep, p ∈ nx) ∧ J (i + 1) m' nx) →
          LoopStepU h₀ env.locals [I] own (J' (i + 1)) { s with heap := hh', toks := tk' } .next s₂ := by
        rintro ⟨m', nx', e, F', N', hn', hk', hj'⟩
        refine ⟨rfl, s₂.heap, s₂.toks, m', nx', e, F', fun p hp => ?_, fun p hp hb => hn' p hp (List.mem_singleton.mp hb), hk', hj'⟩
        rcases List.mem_append.mp hp with hp | hp
        · rcases hfp p.1 (hown p hp) with e1 | ⟨o, ho⟩ | ⟨o, ho⟩
          · have : p.2 = oI := by
              have := hget p hp; rw [e1] at this
              exact Option.some.inj (this.symm.trans hoI)
            have e2 : p = (I, oI) := Prod.ext e1 this
            rw [e2]; exact N' _ (.head _)
          · have h1 := N₁ (p.1, o) (List.mem_append_right _ (hkp _ ho))
            have : p.2 = o := Option.some.inj ((hget p hp).symm.trans h1.1)
            have e2 : p = (p.1, o) := Prod.ext rfl this
            rw [e2]; exact N' _ (.tail _ (hk' _ ho))
          · have := (N₁ p (List.mem_append_left _ hp)).2.2
            rw [ho] at this; cases this
        · exact N' p (.tail _ hp)
      cases f with
      | ret v => exact .ret q
      | brk => exact .brk q
      | next => exact .next (fin q)
      | cont => exact .cont (fin q)
  · rintro h' tk m' news' F' N' _ ⟨hk', hJ⟩
    exact done m' news' h' tk hJ hk' F' N'

theorem for_range {L r : Addr} {a₀ b₀ : Int} {t₀ u₀ v₀ : Tok} {n : Nat} {m₀ : Str → Option Value} {news : Led} (J : Nat → (Str → Option Value) → Led → Prop)
    (hh : A.handled = none) (hL : env.locals = L) (hr : IsRange s.heap r a₀ b₀ 1 t₀ u₀ v₀) (hsmall : Builtin.Range.small a₀ b₀ 1 = true) (hn : Builtin.Range.rangeSize a₀ b₀ 1 = (n : Int)) (F : Fr h₀ L s.heap m₀) (N : News h₀ L s.heap news) (hj : J 0 m₀ news)
    (turn : ∀ i t m₁ nx h tk I oI, i < n → J i m₁ nx → (∀ p ∈ nx, @Ne Nat p.1 I) → Fr h₀ L h (fun y => if y = x then some (.int (a₀ + (i : Nat)) t) else m₁ y) → News h₀ L h ((I, oI) :: nx) →
      wpAny (model prog w) A (execs body env) (TurnQ h₀ L I oI [] (J (i + 1)) { s with heap := h, toks := tk } Q) E { s with heap := h, toks := tk })
    (done : ∀ m₁ nx h tk, J n m₁ nx → Fr h₀ L h m₁ → News h₀ L h nx → Q .next { s with heap := h, toks := tk }) :
    wpAny (model prog w) A (pyIter (.ref r)) (fun it s₂ => LoopAtV prog w A h₀ env x body Q E it s₂) E s := by
  subst hL
  refine wpAny_pyIter_range hr hsmall ?_
  have W := Walks.range (prog := prog) (w := w) hh s.heap.objs.size a₀ 1 n
  refine loop_gen (keep := []) J W ?_ (next_is_new F) (fun i h st => ⟨_, st⟩) (by simp) (fun b hb => .inl (List.mem_singleton.mp hb)) (fun p hp e => ?_) (fun _ h => nomatch h) ?_ (F.push _) (fun p hp => ⟨Heap.get?_push_of_some _ (N p hp).1, (N p hp).2⟩) hj ?_ ?_
  · intro hm; exact absurd F.ns.lt ((List.mem_singleton.mp hm) ▸ Nat.lt_irrefl _)
  · exact absurd (Heap.lt_size (N p hp).1) (e ▸ Nat.lt_irrefl _)
  · show IsRangeIter _ _ _ _ _; rw [hn]; simpa using Heap.get?_push_size _ rfl
  · rintro i v m₁ nx h tk oI hi ⟨t, rfl⟩ hJ hI _ F' N'
    have e : a₀ + (i : Int) * 1 = a₀ + (i : Nat) := by simp
    rw [e] at F'
    exact turn i t m₁ nx h tk _ oI hi hJ hI F' N'
  · exact fun m₁ nx h tk hJ _ F' N' => done m₁ nx h tk hJ F' N'

/-- over a list that stands in the ledger and stays -/
theorem for_list {L l : Addr} {ol : Obj} {vs : List Value} {m₀ : Str → Option Value} {news : Led} (J : Nat → (Str → Option Value) → Led → Prop)
    (hh : A.handled = none) (hL : env.locals = L) (hl : s.heap.IsList l vs.toArray) (F : Fr h₀ L s.heap m₀) (N : News h₀ L s.heap news) (hm : (l, ol) ∈ news) (hj : J 0 m₀ news)
    (turn : ∀ i v m₁ nx h tk I oI, vs[i]? = some v → J i m₁ nx → (∀ p ∈ nx, @Ne Nat p.1 I) → (l, ol) ∈ nx → Fr h₀ L h (fun y => if y = x then some v else m₁ y) → News h₀ L h ((I, oI) :: nx) →
      wpAny (model prog w) A (execs body env) (TurnQ h₀ L I oI [(l, ol)] (J (i + 1)) { s with heap := h, toks := tk } Q) E { s with heap := h, toks := tk })
    (done : ∀ m₁ nx h tk, J vs.length m₁ nx → (l, ol) ∈ nx → Fr h₀ L h m₁ → News h₀ L h nx → Q .next { s with heap := h, toks := tk }) :
    wpAny (model prog w) A (pyIter (.ref l)) (fun it s₂ => LoopAtV prog w A h₀ env x body Q E it s₂) E s := by
  subst hL
  refine wpAny_pyIter_list hl ?_
  have hne : l ≠ s.heap.objs.size := Nat.ne_of_lt (Heap.lt_size (N _ hm).1)
  have W := Walks.list (prog := prog) (w := w) hh s.heap.objs.size l hne vs.toArray
  refine loop_gen (keep := [(l, ol)]) (n := vs.toArray.size) J W ?_ (next_is_new F) (fun i h st => ⟨_, st.1.choose_spec.1⟩) (by simp) (fun b hb => ?_) (fun p hp e => ?_) (fun p hp => ?_) ⟨⟨_, Heap.get?_push_size _ rfl, rfl, rfl⟩, hl.at fun o e => Heap.get?_push_of_some _ e⟩ (F.push _) (fun p hp => ⟨Heap.get?_push_of_some _ (N p hp).1, (N p hp).2⟩) hj ?_ ?_
  · intro hmm
    rcases List.mem_cons.mp hmm with e | e
    · exact absurd F.ns.lt (e ▸ Nat.lt_irrefl _)
    · exact (N _ hm).2.1 (List.mem_singleton.mp e).symm
  · rcases List.mem_cons.mp hb with e | e
    · exact .inl e
    · exact .inr (.inl ⟨ol, by rw [List.mem_singleton.mp e]; exact .head _⟩)
  · exact absurd (Heap.lt_size (N p hp).1) (e ▸ Nat.lt_irrefl _)
  · rw [List.mem_singleton.mp hp]; exact hm
  · intro i v m₁ nx h tk oI hi hP hJ hI hk F' N'
    exact turn i v m₁ nx h tk _ oI (by simpa using hP) hJ hI (hk _ (.head _)) F' N'
  · intro m₁ nx h tk hJ hk F' N'
    exact done m₁ nx h tk (by simpa using hJ) (hk _ (.head _)) F' N'
end
end Mine
end
noncomputable section
open PySem PySem.W PySem.Calls PyProof.Rows
set_option maxRecDepth 100000
set_option maxHeartbeats 2000000
namespace Mine
local macro_rules | `(tactic| ktr_rel) => `(tactic| (refine lv_ret (by k_asm) (by k_asm) (by rfl) ?_))
local macro_rules | `(tactic| size_fits) => `(tactic| first | (rw [PySem.sizeLine_eq]; omega) | fail "size_fits: own")
local macro_rules | `(tactic| walk_at "call builtin:list.append") => `(tactic| (k_here; k_dflt (refine' append_K ?k1 ?k2 ?k3 ?_ ?z; (case k1 => k_asm); (case k2 => k_asm); (case k3 => k_upd); (case z => (rw [PySem.sizeLine_eq]; (try rw [List.size_toArray]); omega)); k_whole); intro h' F' N'; (try k_sweep)))
noncomputable def restAt (x : Int) : Nat → Int
  | 0 => x
  | i + 1 => restAt x i + (-restAt x i) / ((i : Int) + 2)
noncomputable def toldAt (x : Int) (i : Nat) : Int := (-restAt x i) % ((i : Int) + 2)
noncomputable def IsL (o : Obj) (ns : List Int) : Prop := ∃ vs n, o = W.listOf vs n ∧ IntsAre vs.toList ns
section
variable {w : World} {p : Program} {loose : List Str} {mean : ExcName → Option Value} {mg mb : Str → Option Value}
theorem ct_told (x : Int) (t : Tok) : Ct w p loose mean mg mb 5 40 203 [.int x t] [] fun v l => ∃ a o, v = .ref a ∧ l = [(a, o)] ∧ IsL o ((List.range 6).map (toldAt x)) := by
  intro A h₀ s Q E hA hd hu X T st O ret
  k_dflt (refine' ct_def (binds := [(Str.ofString "stones", .int x t)]) (sub := _) X T st O ?k6 ?k7 ?k8 ?k9 ?kB ret ?_ ?c2 ?c3 ?c4 ?c5)
  (case k6 => k_is); (case k7 => k_is); (case k8 => omega); (case k9 => first | exact BindsTo.of_eq rfl | exact binds_K (by k_in) rfl (by k_is) rfl rfl rfl); (case c5 => decide); (case kB => exact locs rfl); (case c2 => exact rfl); (case c3 => exact rfl); (case c4 => exact rfl)
  clear ret O st T X; intro g L h₁ X T F N hlt; (try dsimp only); (try k_fold)
  k_steps
  k_dflt (refine for_range (n := 6) (fun i m nx => (∀ y, y ∉ [Str.ofString "k", Str.ofString "rest", Str.ofString "told"] → m y = List.lookup y [(Str.ofString "stones", Value.int x t)].reverse) ∧ (∃ r tr, m (Str.ofString "rest") = some (.int r tr) ∧ r = restAt x i) ∧ ∃ a vs k, m (Str.ofString "told") = some (.ref a) ∧ nx = [(a, W.listOf vs k)] ∧ IntsAre vs.toList ((List.range i).map (toldAt x))) hA rfl (by k_asm) (by rfl) (by rfl) (by k_asm) (by k_asm) ?hj ?turn ?done)
  case hj =>
    k_dflt (refine ⟨?e, ⟨_, _, rfl, rfl⟩, _, _, _, rfl, rfl, .nil⟩)
    (intro y hy; simp only [List.map_cons, List.map_nil, List.mem_cons, List.not_mem_nil, or_false, not_or] at hy; (try dsimp only [up]); (try simp only [hy, if_false, ite_false]); first | done | rfl)
  case turn =>
    rintro i t' m₁ nx h tk I oI hi ⟨hm, ⟨r, tr, hr1, hr⟩, a, vs, k, ha, rfl, hv⟩ hI F1 N1
    obtain ⟨u, hu1⟩ : ∃ u, m₁ (Str.ofString "k") = u := ⟨_, rfl⟩
    rw [loc_up [(Str.ofString "k", u), (Str.ofString "rest", some (.int r tr)), (Str.ofString "told", some (.ref a))] hm (by simp [hr1, hu1, ha])] at F1
    dsimp only [up] at F1
    have hz : vs.size = i := by have := hv.length; simpa using this
    have hI' : @Ne Nat a I := hI _ (.head _)
    k_steps
    with_reducible rename Fr _ _ _ _ => F7
    with_reducible rename News _ _ _ _ => N7
    refine Ct.use0 (ct_neg _ _) F7 X N7 T hA (dOk hd) (uOk hu) fun v' sub' h' tk' F' N' P' => ?_
    obtain ⟨tm, rfl⟩ := P'
    clear F7 N7 sub'
    k_steps
    with_reducible rename Fr _ _ _ _ => F7
    with_reducible rename News _ _ _ _ => N7
    refine Ct.use0 (ct_mod _ _ _ _ (by omega)) F7 X N7 T hA (dOk hd) (uOk hu) fun v' sub' h' tk' F' N' P' => ?_
    obtain ⟨tm, rfl⟩ := P'
    clear F7 N7 sub'
    k_steps
    with_reducible rename Fr _ _ _ _ => F7
    with_reducible rename News _ _ _ _ => N7
    refine Ct.use0 (ct_neg _ _) F7 X N7 T hA (dOk hd) (uOk hu) fun v' sub' h' tk' F' N' P' => ?_
    obtain ⟨tm, rfl⟩ := P'
    clear F7 N7 sub'
    k_steps
    with_reducible rename Fr _ _ _ _ => F7
    with_reducible rename News _ _ _ _ => N7
    refine Ct.use0 (ct_floordiv _ _ _ _ (by omega) (by omega)) F7 X N7 T hA (dOk hd) (uOk hu) fun v' sub' h' tk' F' N' P' => ?_
    obtain ⟨tm, rfl⟩ := P'
    clear F7 N7 sub'
    k_steps
    k_dflt (refine turn_next (nx := [(a, _)]) (by k_asm) (by k_asm) (by rfl) (fun p hp => hp) (fun p hp => by rw [List.mem_singleton.mp hp]; exact hI') (fun _ h => nomatch h) ⟨?e2, ⟨_, _, rfl, ?hr⟩, _, _, _, rfl, rfl, ?hv⟩)
    case e2 => (intro y hy; simp only [List.map_cons, List.map_nil, List.mem_cons, List.not_mem_nil, or_false, not_or] at hy; (try dsimp only [up]); (try simp only [hy, if_false, ite_false]); first | done | rfl)
    case hr =>
      rw [hr]
      show _ = restAt x i + (-restAt x i) / ((i : Int) + 2)
      rw [show (1 : Int) + (i : Int) + 1 = (i : Int) + 2 by omega]
    case hv =>
      rw [List.range_succ, List.map_append, Array.toList_push]
      refine hv.append ?_
      rw [hr, show (1 : Int) + (i : Int) + 1 = (i : Int) + 2 by omega]
      exact .cons _ _ .nil
  case done =>
    rintro m₁ nx h tk ⟨hm, ⟨r, tr, hr1, hr⟩, a, vs, k, ha, rfl, hv⟩ F1 N1
    rw [loc_up [(Str.ofString "k", _), (Str.ofString "rest", some (.int r tr)), (Str.ofString "told", some (.ref a))] hm (by simp [hr1, ha]; rfl)] at F1
    dsimp only [up] at F1
    k_steps
    ktr_rel
    exact ⟨a, _, rfl, rfl, vs, k, rfl, hv⟩
end
end Mine
end
noncomputable section
open PySem PySem.W PySem.Calls PyProof.Rows
set_option maxRecDepth 100000
namespace Mine
section
variable {w : World} {p : Program} {loose : List Str} {mean : ExcName → Option Value} {mg mb : Str → Option Value}
/-- a def some of whose names are cells -/
theorem ct_defC {A : Around} {h₀ : Heap} {s : Shared} {Q E : Value → Shared → Prop} {sub : Led} {Post : Value → Led → Prop} {name qual : Str} {params : Arguments} {body : List Stmt} {scope : Scope} {dV kV doc pm cdv ct oc : Value} {an od : Option Addr} {osl : Array (Option Value)} {f : Addr} {vs : List Value} {binds : List (Str × Value)}
    (X : (K w.params).In h₀) (T : Top p loose mean mg mb h₀) (st : ∀ b o, h₀.get? b = some o → s.heap.get? b = some o) (O : On h₀ s.heap sub)
    (ho : (K w.params).lookup f = some ⟨oc, od, .func (fnOf name qual params body scope dV kV doc pm an cdv ct), osl⟩) (hcd : codeIn (K w.params) cdv qual = true) (hroom : A.depth < recursionLimit)
    (hbind : BindsTo s (fnOf name qual params body scope dV kV doc pm an cdv ct) ⟨vs, []⟩ binds)
    (hkind : (binds.all fun y => scope.names.lookup y.1 == some .local || scope.names.lookup y.1 == some .cell) = true)
    (hnd : ((cellsFrom 0 scope.names []).map (·.1)).Nodup)
    (ret : ∀ v sub' h' tk, Ext sub s.heap h' → Lef sub s.heap h' sub' → Post v sub' → Q v { s with heap := h', toks := tk })
    (h : ∀ (g : Heap) (L : Addr) (h₁ : Heap) (tk : Nat) (cells : Led), (K w.params).In g → Top p loose mean mg mb g → Fr g L h₁ (bindL (envOfC qual scope L f cdv).kindOf binds fun _ => none) → News g L h₁ (cells ++ sub) →
      CellsAre (bindC (envOfC qual scope L f cdv).kindOf binds fun _ => none) (cellsFrom (L + 1) scope.names []) cells → (∀ q ∈ sub, q.1 < L) →
      wpAny (model prog w) (A.deeper (envOfC qual scope L f cdv)) (execs body (envOfC qual scope L f cdv))
        (fun fl s' => Lv g Post { s with heap := h₁, toks := tk } (match fl with | .ret v => v | _ => .none) s') (fun _ _ => False) { s with heap := h₁, toks := tk })
    (hco : scope.isCoroutine = false) (hgen : scope.isGenerator = false) (hk : scope.kind = .function) :
    codeAny (model prog w) A (.call (.ref f) ⟨vs, []⟩) (fun r s' => match r with | .ok (.ret v) => Q v s' | .ok _ => False | .error e => E e s') s := by
  have nm : ∀ b o, h₀.get? b = some o → b ∉ sub.map (·.1) := fun b o e q => by
    obtain ⟨p, hp, rfl⟩ := List.mem_map.mp q
    rw [(O p hp).2] at e; cases e
  have stg : ∀ b o, h₀.get? b = some o → (hideAll s.heap (sub.map (·.1))).get? b = some o := fun b o e => hideAll_get _ (st b o e) (nm b o e)
  refine codeAny_call_function hroom (st _ _ (X _ _ ho)) rfl hco hgen rfl (codeRec_of (X.keeps st) hcd) (hbind _ _ _ _ ?_)
  refine wpAny_newFunctionEnv_cells hk (kindsX hkind _) fun env' he s' x => ?_
  subst he
  refine ⟨(T.nolimit.keeps st).keeps x.toInCall.keep, codeAny_func ?_⟩
  obtain ⟨h₁, tk, rfl, _⟩ := x.done
  have hk₁ := x.toInCall.keep
  obtain ⟨cells, NC, Y⟩ := Cl.news (h₀ := s.heap) (Nat.le_refl _) fun n c hm => ⟨x.cell n c (lookup_of_mem_nodup (cellsFrom_names scope.names 0 (s.heap.objs.size + 1) [] [] rfl ▸ hnd) hm), x.above n c hm⟩
  refine wpAny_mono (h (hideAll s.heap (sub.map (·.1))) s.heap.objs.size h₁ tk cells (X.keeps stg) (T.keeps stg) ⟨x.toInCall.ns, fun b o e => hk₁ b o (of_hideAll _ e), Nat.le_of_eq (hideAll_size _ _)⟩ (fun p hp => ?_) Y (fun p hp => Heap.lt_size (O p hp).1)) (fun fl s' hl => ?_) fun _ _ y => y.elim
  · rcases List.mem_append.mp hp with hp | hp
    · refine ⟨(NC p hp).1, (NC p hp).2.1, ?_⟩
      cases q : (hideAll s.heap (sub.map (·.1))).get? p.1 with
      | none => rfl
      | some o => have := of_hideAll _ q; rw [(NC p hp).2.2] at this; cases this
    · exact ⟨hk₁ _ _ (O p hp).1, Nat.ne_of_lt (Heap.lt_size (O p hp).1), hideAll_none _ (List.mem_map_of_mem hp)⟩
  · exact lv_out (sub := sub) (s := s) (s₂ := { s with heap := h₁, toks := tk }) (Q := Q) rfl rfl ret hl
end

/-- a comprehension by what holds of it -/
theorem comp_inv {prog : Program} {w : World} {A : Around} {s : Shared} {h₀ : Heap} {L : Addr} {m : Str → Option Value} {env : Env} {elt : Expr} {x : Str} {scope : Scope} {cl : List (Str × Addr)} {S : Led → Prop} {P : Nat → Value → Prop} {Fin : List Value → Led → Prop}
    (J : Nat → List Value → Led → Prop) (n : Nat)
    (step : ∀ i ys nx v I oI C oC D m₂ h tk (E' : Value → Shared → Prop), i < n → J i ys nx → P i v → LCg.NsObj oC m₂ → m₂ x = some v → Fr h₀ L h m → News h₀ L h ((I, oI) :: (C, oC) :: (D, LCg.lst ys) :: nx) → LCg.Off3 I C D nx → ((@Ne Nat I C) ∧ (@Ne Nat I D) ∧ (@Ne Nat C D)) →
      wpAny (model prog w) A (eval elt (compEnvC scope cl C env)) (LCg.CompEnd h₀ L m { s with heap := h, toks := tk } I oI C oC D (LCg.lst ys) S (fun y nx' => J (i + 1) (ys ++ [y]) nx')) E' { s with heap := h, toks := tk })
    (fin : ∀ ys nx, J n ys nx → Fin ys nx) : ∀ (k i : Nat) (ys : List Value) (nx : Led), i + k = n → J i ys nx → LCg.CompRest prog w A h₀ L m env elt x scope cl s S P Fin k i ys nx
  | 0, i, ys, nx, e, hj => fin ys nx (by rw [← e]; exact hj)
  | k + 1, i, ys, nx, e, hj => fun v I oI C oC D m₂ h tk E' hP hC hx F N off ne =>
    wpAny_mono (step i ys nx v I oI C oC D m₂ h tk E' (by omega) hj hP hC hx F N off ne) (fun y s₂ q => by
      obtain ⟨h', tk', nx', e', F', N', off', hS, hj'⟩ := q
      exact ⟨h', tk', nx', e', F', N', off', hS, comp_inv J n step fin k (i + 1) (ys ++ [y]) nx' (by omega) hj'⟩) fun _ _ e => e
end Mine
end
noncomputable section
open PySem PySem.W PySem.Calls PyProof.Rows
set_option maxRecDepth 100000
set_option maxHeartbeats 2000000
namespace Mine
/-- the hidden signs -/
noncomputable def e99 : { l : List (Int × Value) // ∀ P, ∃ ep t, (o99_93 P).data = .set l.toArray ep t ∧ t.fits 27 = true } := ⟨_, fun _ => ⟨_, _, rfl, rfl⟩⟩
noncomputable def hid (i : Int) : Bool := e99.1.any fun e => Value.isInt i e.2
theorem e99_ok : (e99.1.all fun e => match e.2 with | .int i _ => e.1 == hashInt i | _ => false) = true := by decide +kernel
theorem e99_len : e99.1.length = 27 := by decide +kernel
theorem set99 {prog : Program} {w : World} {P : Params} {h : Heap} (ho : h.get? 99 = some (o99_93 P)) : h.SetOf (intKind prog w) 99 hid 27 := by
  obtain ⟨ep, t, hd, hf⟩ := e99.2 P
  refine ⟨_, _, ep, t, ho, ⟨rfl, rfl, rfl⟩, hd, ?_, ?_, ?_, ?_, ?_⟩
  · intro e he
    have := List.all_eq_true.mp e99_ok e (by simpa using he)
    obtain ⟨a, v⟩ := e
    cases v with
    | int i tk => exact ⟨⟨i, by show Value.isInt i (.int i tk) = true; simp [Value.isInt], by have h2 : (a == hashInt i) = true := this; exact beq_iff_eq.mp h2⟩, rfl⟩
    | _ => cases this
  · intro k
    show (e99.1.any fun e => Value.isInt k e.2) = true ↔ _
    rw [List.any_eq_true]
    exact ⟨fun ⟨e, h1, h2⟩ => ⟨e, by simpa using h1, h2⟩, fun ⟨e, h1, h2⟩ => ⟨e, by simpa using h1, h2⟩⟩
  · rw [List.size_toArray, e99_len]; decide
  · rw [List.size_toArray, e99_len]; exact hf
  · rw [List.size_toArray, e99_len]
/-- the table B.3 -/
noncomputable def b3f (i : Int) : Option Value := findBy Value.isInt (ddS.main.map Ent.en).toArray i
noncomputable def b3s (i : Int) : Option Str := (src.find? fun x => (x.k : Int) == i).map (·.v)
theorem b3_src : (ddS.main.map fun e => (e.k, e.v)) = src.map fun x => (x.k, x.v) := by decide +kernel
theorem b3_small : (ddS.main.all fun e => Nat.blt e.k 1000000) = true := by decide +kernel
theorem b3_str : ∀ (l : List Ent) (m : List Src), (l.map fun e => (e.k, e.v)) = m.map (fun x => (x.k, x.v)) → ∀ i : Int,
    match (m.find? fun x => (x.k : Int) == i).map (·.v) with
    | some x => ∃ t, findBy Value.isInt (l.map Ent.en).toArray i = some (.str x t)
    | none => findBy Value.isInt (l.map Ent.en).toArray i = none
  | [], [], _, i => by simp [findBy]
  | [], _ :: _, e, _ => by cases e
  | _ :: _, [], e, _ => by cases e
  | a :: l, b :: m, e, i => by
    rw [List.map_cons, List.map_cons] at e
    injection e with e1 e2
    injection e1 with e1 e3
    have ih := b3_str l m e2 i
    by_cases hi : (b.k : Int) = i
    · have h1 : ((b :: m).find? fun x => (x.k : Int) == i) = some b := by simp [hi]
      rw [h1]
      refine ⟨a.tv, ?_⟩
      simp [findBy, Ent.en, Value.isInt, e1, hi, e3]
    · have h1 : ((b :: m).find? fun x => (x.k : Int) == i) = m.find? fun x => (x.k : Int) == i := by simp [hi]
      have h2 : findBy Value.isInt ((a :: l).map Ent.en).toArray i = findBy Value.isInt (l.map Ent.en).toArray i := by
        have : ¬ i = (a.k : Int) := by rw [e1]; exact fun q => hi q.symm
        simp [findBy, Ent.en, Value.isInt, this, Ne.symm this]
      rw [h1, h2]; exact ih
theorem b3_key (i : Int) : (∃ x t, b3s i = some x ∧ b3f i = some (.str x t)) ∨ (b3s i = none ∧ b3f i = none) := by
  have B := b3_str ddS.main src b3_src i
  unfold b3s b3f
  revert B
  cases (src.find? fun x => (x.k : Int) == i).map (·.v) with
  | none => exact fun B => .inr ⟨rfl, B⟩
  | some x => exact fun ⟨t, B⟩ => .inl ⟨x, t, rfl, B⟩
theorem map110 {prog : Program} {w : World} {P : Params} {h : Heap} (ho : h.get? 110 = some (o110_107 P)) : h.MapOf (intKind prog w) 110 b3f := by
  refine ⟨_, (ddS.main.map Ent.en).toArray, _, ho, ⟨rfl, rfl, rfl⟩, rfl, ?_, fun k => rfl⟩
  intro e he
  obtain ⟨x, hx, rfl⟩ := List.mem_map.mp (by simpa using he : e ∈ ddS.main.map Ent.en)
  refine ⟨(x.k : Int), by show Value.isInt (x.k : Int) (.int (x.k : Int) x.tk) = true; simp [Value.isInt], ?_⟩
  show (x.k : Int) = hashInt (x.k : Int)
  have h1 := List.all_eq_true.mp b3_small x hx
  have h2 : x.k < 1000000 := by simpa using h1
  have h3 : rawHash (x.k : Int) = (x.k : Int) := hashOf_eq (by omega) (by omega)
  unfold hashInt
  rw [h3, if_neg]
  rw [beq_iff_eq]; omega
section
variable {w : World} {p : Program} {loose : List Str} {mean : ExcName → Option Value} {mg mb : Str → Option Value}
local macro_rules | `(tactic| ktr_rel) => `(tactic| (refine lv_ret (by k_asm) (by k_asm) (by rfl) ?_))
theorem ct_b1 (c : Nat) (t : Tok) : Ct w p loose mean mg mb 3 30 109 [.str ⟨#[c]⟩ t] [] fun v _ => v = .bool (hid c) := by
  intro A h₀ s Q E hA hd hu X T st O ret
  k_dflt (refine' ct_def (binds := [(Str.ofString "code", .str ⟨#[c]⟩ t)]) (sub := _) X T st O ?k6 ?k7 ?k8 ?k9 ?kB ret ?_ ?c2 ?c3 ?c4 ?c5)
  (case k6 => k_is); (case k7 => k_is); (case k8 => omega); (case k9 => first | exact BindsTo.of_eq rfl | exact binds_K (by k_in) rfl (by k_is) rfl rfl rfl); (case c5 => decide); (case kB => exact locs rfl); (case c2 => exact rfl); (case c3 => exact rfl); (case c4 => exact rfl)
  clear ret O st T X; intro g L h₁ X T F N hlt; (try dsimp only); (try k_fold)
  k_steps
  refine wpAny_inSet_of (knd := intKind _ _) (intKind_is _ _ _ _) rfl (set99 (P := w.params) (F.keep _ _ (X _ _ rfl))) ?_
  k_steps
  ktr_rel
  rfl
theorem ct_b3 (c : Nat) (t : Tok) : Ct w p loose mean mg mb 3 30 155 [.str ⟨#[c]⟩ t] [] fun v _ => ∃ t, v = .str ((b3s c).getD (Txt.lower ⟨#[c]⟩)) t := by
  intro A h₀ s Q E hA hd hu X T st O ret
  k_dflt (refine' ct_def (binds := [(Str.ofString "code", .str ⟨#[c]⟩ t)]) (sub := _) X T st O ?k6 ?k7 ?k8 ?k9 ?kB ret ?_ ?c2 ?c3 ?c4 ?c5)
  (case k6 => k_is); (case k7 => k_is); (case k8 => omega); (case k9 => first | exact BindsTo.of_eq rfl | exact binds_K (by k_in) rfl (by k_is) rfl rfl rfl); (case c5 => decide); (case kB => exact locs rfl); (case c2 => exact rfl); (case c3 => exact rfl); (case c4 => exact rfl)
  clear ret O st T X; intro g L h₁ X T F N hlt; (try dsimp only); (try k_fold)
  k_steps
  have M : h₁.MapOf (intKind prog w) 110 b3f := map110 (P := w.params) (F.keep _ _ (X _ _ rfl))
  refine getMethod_builtin (Heap.MapOf.typeIs M) PySem.F.plainAttrs_dict PySem.F.slot_dict_get PySem.F.type_dict_get (Heap.MapOf.noDict M) ?_
  k_steps
  refine call_meetsIn PySem.F.slot_dict_get (Heap.MapOf.typeIs M) PySem.F.entry_dict_get (PySem.F.args_dict_get_2 _ _) (meets_dict_get (intKind _ _) 110 (intKind_is _ _ _ _) rfl) ⟨_, M, ?_⟩
  rcases b3_key c with ⟨x, t', e1, e2⟩ | ⟨e1, e2⟩
  · rw [e2]
    dsimp only [wants, Option.getD_some]
    k_steps
    ktr_rel
    rw [e1]
    exact ⟨_, rfl⟩
  · rw [e2]
    dsimp only [wants, Option.getD_none]
    k_steps
    dsimp only
    refine SCL.lower (by show 1 ≤ 5592405; decide) ?_
    intro _
    ktr_rel
    rw [e1]
    exact ⟨_, rfl⟩
end
end Mine
end
noncomputable section
open PySem PySem.W PySem.Calls PyProof.Rows
set_option maxRecDepth 100000
set_option maxHeartbeats 2000000
namespace Mine
theorem slot_ci_next : Slot "callable_iterator" "__next__" "callable_iterator.__next__" :=
  .of (owner := "callable_iterator") (n := "__next__") (by rw [typeLookup_type, builtinLookup_eq_fast]; kernel_rfl) (by decide +kernel) (by decide +kernel) (by decide +kernel)
    (by first | exact .inl (by decide +kernel) | exact .inr (by decide +kernel)) (by rw [isSubtype_type]; kernel_rfl)
theorem entry_ci_next : entryFor table "callable_iterator.__next__" = some Builtin.«callable_iterator.__next__» := entryFor_of_tree (by kernel_rfl)
theorem wpAny_callBorrowed {M : Model} {A : Around} {E : Value → Shared → Prop} {s : Shared} {f : Value} {pos : List Value} {Q : Value → Shared → Prop}
    (hc : codeAny M A (.call f ⟨pos, []⟩) (fun r s' => match r with | .ok (.ret v) => Q v s' | .ok _ => False | .error e => E e s') s) : wpAny M A (callBorrowed f pos) Q E s := fun Γ p hΓ => by
  unfold callBorrowed
  rw [Sem.wp_call]
  have h := hc _ p rfl (hΓ.enter (.call f ⟨pos, []⟩) none p (by intro x; cases x))
  refine wpCode_mono ?_ h
  intro r s' hr
  cases r with
  | error e => exact hr
  | ok f => cases f <;> exact hr
section
variable {prog : Program} {w : World} {A : Around} {E : Value → Shared → Prop} {s : Shared}
noncomputable abbrev ciObj (f st : Value) (b : Bool) : Obj := { cls := .type "callable_iterator", data := .fields #[f, st, .bool b] }
theorem args_ci_next_1 (a : Value) : argsOk "callable_iterator.__next__" ⟨[a], []⟩ := by
  unfold argsOk; rw [signature?_of (id := "callable_iterator.__next__") (n := ['_', '_', 't', 'x', 'e', 'n', '_', '_']) (o := ['r', 'o', 't', 'a', 'r', 'e', 't', 'i', '_', 'e', 'l', 'b', 'a', 'l', 'l', 'a', 'c']) (by kernel_rfl) (by kernel_rfl : _ = some Manifest.sig_callable_iterator)]; kernel_rfl
theorem borrows_method {q f : Addr} {self : Value} {o : Obj} {fd : FuncData} {Q : Bool → Shared → Prop} (hq : s.heap.get? q = some (methodObj (.ref f) self)) (hf : s.heap.get? f = some o) (hd : o.data = .func fd) (h : Q true s) :
    wpAny (model prog w) A (borrowsExactly (.ref q)) Q E s := by
  unfold borrowsExactly
  refine wpAny_bind (wpAny_load hq ?_)
  dsimp only
  rw [if_pos (by decide)]
  refine wpAny_bind (wpAny_load hf ?_)
  rw [hd]
  exact wpAny_pure h
noncomputable abbrev ciEnd : Obj := { cls := .type "callable_iterator", data := .fields #[.none, .none, .bool true] }
theorem stop_iter {α : Type} {I : Addr} {R : α → Shared → Prop} {E' : Value → Shared → Prop} {h0 : Heap} (hh : A.handled = none) (hb : Heap.ExtBut I h0 s.heap) (hI : s.heap.get? I = some ciEnd)
    (hE : ∀ e h', h'.get? I = some ciEnd → Heap.ExtBut I h0 h' → ({ s with heap := h' } : Shared).TypeIs (.ref e) "StopIteration" → E' (.ref e) { s with heap := h' }) :
    wpAny (model prog w) A.in1 (Builtin.SmallTypes.stopIteration : Sem α) R E' s := by
  unfold Builtin.SmallTypes.stopIteration
  refine wpAny_bind ?_
  simp only [newExc, newTuple]
  refine wpAny_bind (wpAny_newObj_type ?_ (by size_fits))
  refine wpAny_bind (m := firstArgMember _ _) (wpAny_of_eq (a := Value.none) (by first | rfl | (simp only [firstArgMember]; rfl)) ?_)
  refine wpAny_newObj_type ?_ (by size_fits)
  simp only [raiseNew]
  refine wpAny_bind (wpAny_handled ?_)
  first | rw [show A.in1.handled = none from hh] | rw [hh]
  refine wpAny_bind (wpAny_pure (wpAny_throw ?_))
  exact hE _ _ (Heap.get?_push_of_some _ (Heap.get?_push_of_some _ hI)) ((hb.push _).push _) ⟨_, Heap.get?_push_size _ rfl, rfl⟩
theorem next_ended {I : Addr} {Q : Option Value → Shared → Prop} (hh : A.handled = none) (hI : s.heap.get? I = some ciEnd) (hQ : ∀ h', h'.get? I = some ciEnd → Heap.ExtBut I s.heap h' → Q none { s with heap := h' }) :
    wpAny (model prog w) A (pyNext (.ref I)) Q E s := by
  have hT : s.TypeIs (.ref I) "callable_iterator" := ⟨_, hI, rfl⟩
  unfold pyNext
  refine wpAny_bind (wpAny_attempt (wpAny_callSpecial?_slot (name := Str.ofString "__next__") hT slot_ci_next
    (wpAny_call_entry slot_ci_next hT entry_ci_next ?_ (args_ci_next_1 _))))
  show wpAny _ _ (field (.ref I) 2 >>= _) _ _ s
  refine wpAny_bind (wpAny_field hI rfl (x := .bool true) rfl ?_)
  rw [if_pos (by decide)]
  refine wpAny_bind (wpAny_rule ?_)
  refine wpAny_bind (stop_iter hh (Heap.ExtBut.refl I s.heap) hI fun e h' x1 x2 x3 => ?_)
  dsimp only
  refine wpAny_bind (wpAny_isInstance (b := true) x3 isSubtype_stop ?_)
  exact wpAny_pure (hQ _ x1 x2)
theorem next_called {I q f : Addr} {self : Value} {o : Obj} {fd : FuncData} {sx : Str} {tk : Tok} {Q : Option Value → Shared → Prop} (hh : A.handled = none) (hI : s.heap.get? I = some (ciObj (.ref q) (.str sx tk) false))
    (hq : s.heap.get? q = some (methodObj (.ref f) self)) (hf : s.heap.get? f = some o) (hd : o.data = .func fd)
    (hc : codeAny (model prog w) A.in1 (.call (.ref f) ⟨[self], []⟩) (fun r s₁ => match r with
      | .ok (.ret v) => s₁.heap.get? I = some (ciObj (.ref q) (.str sx tk) false) ∧ s₁.heap.get? q = some (methodObj (.ref f) self) ∧ s₁.heap.get? f = some o ∧
          ∃ x t, v = .str x t ∧ if sx = x then (∀ h', h'.get? I = some ciEnd → Heap.ExtBut I s₁.heap h' → Q none { s₁ with heap := h' }) else Q (some v) s₁
      | .ok _ => False | .error _ => False) s) :
    wpAny (model prog w) A (pyNext (.ref I)) Q E s := by
  have hT : s.TypeIs (.ref I) "callable_iterator" := ⟨_, hI, rfl⟩
  unfold pyNext
  refine wpAny_bind (wpAny_attempt (wpAny_callSpecial?_slot (name := Str.ofString "__next__") hT slot_ci_next
    (wpAny_call_entry slot_ci_next hT entry_ci_next ?_ (args_ci_next_1 _))))
  show wpAny _ _ (field (.ref I) 2 >>= _) _ _ s
  refine wpAny_bind (wpAny_field hI rfl (x := .bool false) rfl ?_)
  rw [if_neg (by decide)]
  refine wpAny_bind (wpAny_field hI rfl (x := .ref q) rfl ?_)
  unfold callOutOfASlot
  refine wpAny_bind (wpAny_attempt (wpAny_bind (borrows_method hq hf hd ?_)))
  rw [if_pos rfl]
  refine wpAny_callBorrowed (method_call hq (codeAny_mono hc ?_))
  intro r s₁ hr
  cases r with
  | error e => exact hr.elim
  | ok fl =>
    cases fl with
    | ret v =>
      obtain ⟨hI1, hq1, hf1, x, t, rfl, hx⟩ := hr
      dsimp only
      refine wpAny_bind (wpAny_field hI1 rfl (x := .bool false) rfl ?_)
      rw [if_neg (by decide)]
      refine wpAny_bind (wpAny_field hI1 rfl (x := .str sx tk) rfl ?_)
      refine wpAny_bind (wpAny_holding (wpAny_eqBool_str ?_))
      by_cases e : sx = x
      · rw [if_pos e] at hx
        rw [if_neg (by simp [e])]
        refine wpAny_bind (wpAny_rule ?_)
        refine wpAny_bind ?_
        refine wpAny_bind (m := field (.ref I) 0) (wpAny_field hI1 rfl (x := .ref q) rfl ?_)
        refine wpAny_bind ?_
        unfold slotLetsGo
        dsimp only
        refine wpAny_bind (borrows_method hq1 hf1 hd ?_)
        rw [if_pos rfl]
        refine wpAny_pure ?_
        refine wpAny_bind (wpAny_setField_rec hI1 (by simp) fun h2 e2 b2 => ?_)
        refine wpAny_bind (wpAny_setField_rec e2 (by simp) fun h3 e3 b3 => ?_)
        refine wpAny_setField_rec e3 (by simp) fun h4 e4 b4 => ?_
        refine stop_iter hh ((b2.trans b3).trans b4).extBut e4 fun e h' x1 x2 x3 => ?_
        dsimp only
        refine wpAny_bind (wpAny_isInstance (b := true) x3 isSubtype_stop ?_)
        exact wpAny_pure (hx _ x1 x2)
      · rw [if_neg e] at hx
        rw [if_pos (by simp [e])]
        exact wpAny_pure ⟨_, rfl, wpAny_pure hx⟩
    | _ => exact hr.elim
end
end Mine
end
noncomputable section
open PySem PySem.W PySem.Calls PyProof.Rows
set_option maxRecDepth 100000
set_option maxHeartbeats 2000000
namespace Mine
section
variable {prog : Program} {w : World} {A : Around} {E : Value → Shared → Prop} {h : Heap} {g : Array GenState} {d : Drawn} {t : Nat} {os : OsState} {x : Str} {u : Tok} {s : Shared}
theorem kind_iter : builtinKind "iter" = none := by decide +kernel
theorem plain_iter : plainId "iter" = true := by decide +kernel
theorem entry_iter : entryFor table "iter" = some Builtin.«iter» := entryFor_of_fast (by kernel_rfl)
theorem args_iter2 (a b : Value) : argsOk "iter" ⟨[a, b], []⟩ := by unfold argsOk; kernel_rfl
theorem lk_method_call : typeLookup (.type "method") "__call__" = pure (some (.builtin "method.__call__")) := by rw [typeLookup_type, builtinLookup_eq_fast]; kernel_rfl
theorem iter_called {q f : Addr} {self st : Value} {Q : Value → Shared → Prop} (hq : s.heap.get? q = some (methodObj (.ref f) self)) (hQ : Q (.ref s.heap.objs.size) { s with heap := s.heap.push (ciObj (.ref q) st false) }) :
    wpAny (model prog w) A (call (.builtin "iter") [.ref q, st]) Q E s := by
  refine call_function_entry kind_iter plain_iter entry_iter (args_iter2 _ _) ?_
  unfold Builtin.«iter»
  refine wpAny_bind (m := someArgs "iter" 1 2 _) (wpAny_pure ?_)
  dsimp only
  refine wpAny_bind (wpAny_specialOf (T := "method") ⟨_, hq, rfl⟩ lk_method_call ?_)
  rw [if_neg (by simp)]
  refine wpAny_bind (wpAny_rule ?_)
  refine wpAny_bind ?_
  unfold newFields
  exact wpAny_newObj_type (wpAny_pure ⟨_, rfl, hQ⟩) (by size_fits)
theorem slot_ci_iter : Slot "callable_iterator" "__iter__" "callable_iterator.__iter__" :=
  .of (owner := "callable_iterator") (n := "__iter__") (by rw [typeLookup_type, builtinLookup_eq_fast]; kernel_rfl) (by decide +kernel) (by decide +kernel) (by decide +kernel)
    (by first | exact .inl (by decide +kernel) | exact .inr (by decide +kernel)) (by rw [isSubtype_type]; kernel_rfl)
theorem entry_ci_iter : entryFor table "callable_iterator.__iter__" = some Builtin.«dict_keyiterator.__iter__» :=
  entryFor_alias (id' := "dict_keyiterator.__iter__") (by kernel_rfl) (by first | rfl | decide +kernel | (unfold String.splitOn; simp +decide [String.splitOnAux])) (by decide +kernel) (by kernel_rfl)
theorem args_ci_iter_1 (a : Value) : argsOk "callable_iterator.__iter__" ⟨[a], []⟩ := by
  unfold argsOk; rw [signature?_of (id := "callable_iterator.__iter__") (n := ['_', '_', 'r', 'e', 't', 'i', '_', '_']) (o := ['r', 'o', 't', 'a', 'r', 'e', 't', 'i', '_', 'e', 'l', 'b', 'a', 'l', 'l', 'a', 'c']) (by kernel_rfl) (by kernel_rfl : _ = some Manifest.sig_callable_iterator)]; kernel_rfl
theorem iter_ci {I : Addr} {o : Obj} {Q : Value → Shared → Prop} (hI : s.heap.get? I = some o) (hc : o.cls = .type "callable_iterator") (hQ : Q (.ref I) s) : wpAny (model prog w) A (pyIter (.ref I)) Q E s := by
  have hT : s.TypeIs (.ref I) "callable_iterator" := ⟨_, hI, hc⟩
  refine wpAny_pyIter_slot hT slot_ci_iter (wpAny_call_entry slot_ci_iter hT entry_ci_iter ?_ (args_ci_iter_1 _))
  show wpAny _ _ (ret (.ref I)) _ _ s
  exact wpAny_pure ⟨_, rfl, "callable_iterator", _, hT, slot_ci_next.lookup, hQ⟩
theorem kind_hasattr : builtinKind "hasattr" = none := by decide +kernel
theorem plain_hasattr : plainId "hasattr" = true := by decide +kernel
theorem entry_hasattr : entryFor table "hasattr" = some Builtin.«hasattr» := entryFor_of_fast (by kernel_rfl)
theorem args_hasattr (a b : Value) : argsOk "hasattr" ⟨[a, b], []⟩ := by unfold argsOk; kernel_rfl
theorem lk_str_getitem : typeLookup (.type "str") "__getitem__" = pure (some (.builtin "str.__getitem__")) := by rw [typeLookup_type, builtinLookup_eq_fast]; kernel_rfl
theorem ty_str_getitem : typeOf (.builtin "str.__getitem__") = pure (.type "wrapper_descriptor") := by show builtinType _ = _; rw [builtinType_eq_fast]; kernel_rfl
theorem slot_wd_get : Slot "wrapper_descriptor" "__get__" "wrapper_descriptor.__get__" :=
  .of (owner := "wrapper_descriptor") (n := "__get__") (by rw [typeLookup_type, builtinLookup_eq_fast]; kernel_rfl) (by decide +kernel) (by decide +kernel) (by decide +kernel)
    (by first | exact .inl (by decide +kernel) | exact .inr (by decide +kernel)) (by rw [isSubtype_type]; kernel_rfl)
theorem lk_wd_set : typeLookup (.type "wrapper_descriptor") "__set__" = pure none := by rw [typeLookup_type, builtinLookup_eq_fast]; kernel_rfl
theorem lk_wd_del : typeLookup (.type "wrapper_descriptor") "__delete__" = pure none := by rw [typeLookup_type, builtinLookup_eq_fast]; kernel_rfl
theorem entry_wd_get : entryFor table "wrapper_descriptor.__get__" = some Builtin.«wrapper_descriptor.__get__» := entryFor_of_tree (by kernel_rfl)
theorem args_wd_get (a b c : Value) : argsOk "wrapper_descriptor.__get__" ⟨[a, b, c], []⟩ := by
  unfold argsOk; rw [signature?_of (id := "wrapper_descriptor.__get__") (n := ['_', '_', 't', 'e', 'g', '_', '_']) (o := ['r', 'o', 't', 'p', 'i', 'r', 'c', 's', 'e', 'd', '_', 'r', 'e', 'p', 'p', 'a', 'r', 'w']) (by kernel_rfl) (by kernel_rfl : _ = some Manifest.sig_wrapper_descriptor)]; kernel_rfl
theorem sub_str_str : isSubtype (.type "str") (.type "str") = pure true := by rw [isSubtype_type]; kernel_rfl
end
end Mine
end
noncomputable section
open PySem PySem.W PySem.Calls PyProof.Rows
set_option maxRecDepth 100000
set_option maxHeartbeats 400000
namespace Mine
section
variable {prog : Program} {w : World} {A : Around} {E : Value → Shared → Prop} {h : Heap} {g : Array GenState} {d : Drawn} {t : Nat} {os : OsState} {x : Str} {u : Tok} {s : Shared}
theorem owner_str_getitem : ".".intercalate ("str.__getitem__".cutAt '.').dropLast = "str" := by decide +kernel
theorem sub_str_own : isSubtype (.type "str") (.type (".".intercalate ("str.__getitem__".cutAt '.').dropLast)) = pure true := by rw [owner_str_getitem]; exact sub_str_str
theorem wd_get_str {R : Result → Shared → Prop} (hq : ∀ (v : Addr) h', (∀ b o, h.get? b = some o → h'.get? b = some o) → R (.ok (.ret (.ref v))) ⟨h', g, d, t, os⟩) :
    codeAny (model prog w) A (.call (.builtin "wrapper_descriptor.__get__") ⟨[.builtin "str.__getitem__", .str x u, .type "str"], []⟩) R ⟨h, g, d, t, os⟩ := by
  have hT : (⟨h, g, d, t, os⟩ : Shared).TypeIs (.str x u) "str" := rfl
  have hT5 : (⟨h, g, d, t, os⟩ : Shared).TypeIs (.builtin "str.__getitem__") "wrapper_descriptor" := ty_str_getitem
  refine codeAny_call_builtin slot_wd_get.plain entry_wd_get (slot_wd_get.check _ _ _ _ _ _ _ _ hT5 (args_wd_get _ _ _) ?_)
  have f1 := sub_str_own
  repeat (any_goals (first | assumption | wp_step))
  all_goals exact hq _ _ fun b o e => Heap.get?_push_of_some _ e
end
end Mine
end
noncomputable section
open PySem PySem.W PySem.Calls PyProof.Rows
set_option maxRecDepth 100000
set_option maxHeartbeats 1000000
namespace Mine
section
variable {prog : Program} {w : World} {A : Around} {E : Value → Shared → Prop} {h : Heap} {g : Array GenState} {d : Drawn} {t : Nat} {os : OsState} {x : Str} {u : Tok} {s : Shared}
theorem get_entry_str {tk : Tok} {Q : Fin → Shared → Prop} (hq : ∀ (v : Addr) h' tk, (∀ b o, h.get? b = some o → h'.get? b = some o) → Q (.done (.ret (.ref v))) ⟨h', g, d, tk, os⟩) :
    wpAny (model prog w) A (Builtin.«object.__getattribute__» ⟨[.str x u, .str "__getitem__" tk], []⟩) Q E ⟨h, g, d, t, os⟩ := by
  have hT : (⟨h, g, d, t, os⟩ : Shared).TypeIs (.str x u) "str" := rfl
  have hT5 : (⟨h, g, d, t, os⟩ : Shared).TypeIs (.builtin "str.__getitem__") "wrapper_descriptor" := ty_str_getitem
  have f4 := lk_str_getitem
  have f5 := ty_str_getitem
  have f6 := slot_wd_get.lookup
  have f7 := lk_wd_set
  have f8 := lk_wd_del
  repeat (any_goals (first | assumption | wp_step))
  refine wd_get_str fun v h' k => ?_
  exact wpAny_pure (hq v h' _ k)
theorem get_call_str {tk : Tok} {R : Result → Shared → Prop} (hq : ∀ (v : Addr) h' tk, (∀ b o, h.get? b = some o → h'.get? b = some o) → R (.ok (.ret (.ref v))) ⟨h', g, d, tk, os⟩) :
    codeAny (model prog w) A (.call (.builtin "object.__getattribute__") ⟨[.str x u, .str "__getitem__" tk], []⟩) R ⟨h, g, d, t, os⟩ :=
  codeAny_call_builtin F.slot_str_getattribute.plain F.entry_object_getattribute (F.slot_str_getattribute.check _ _ _ _ _ _ _ _ (show (⟨h, g, d, t, os⟩ : Shared).TypeIs (.str x u) "str" from rfl) (F.args_object_getattribute_2 _ _) (get_entry_str fun v h' tk k => hq v h' tk k))
theorem get_by_str {tk : Tok} {Q : Value → Shared → Prop} (hq : ∀ (v : Addr) h' tk, (∀ b o, h.get? b = some o → h'.get? b = some o) → Q (.ref v) ⟨h', g, d, tk, os⟩) : wpAny (model prog w) A (getAttrBy (.str x u) (.str "__getitem__" tk) false) Q E ⟨h, g, d, t, os⟩ := by
  have hT : (⟨h, g, d, t, os⟩ : Shared).TypeIs (.str x u) "str" := rfl
  have f2 := F.slot_str_getattribute.lookup
  have f3 := F.slot_str_getattribute.bind (.str x u)
  repeat (any_goals (first | assumption | wp_step))
  refine get_call_str fun v h' tk k => ?_
  repeat (any_goals (first | assumption | wp_step))
  all_goals exact hq _ _ _ k
theorem hasattr_str {tk : Tok} {Q : Value → Shared → Prop} (hq : ∀ h' tk, (∀ b o, h.get? b = some o → h'.get? b = some o) → Q (.bool true) ⟨h', g, d, tk, os⟩) : wpAny (model prog w) A (call (.builtin "hasattr") [.str x u, .str "__getitem__" tk]) Q E ⟨h, g, d, t, os⟩ := by
  refine call_function_entry kind_hasattr plain_hasattr entry_hasattr (args_hasattr _ _) ?_
  unfold Builtin.«hasattr»
  have hT : (⟨h, g, d, t, os⟩ : Shared).TypeIs (.str x u) "str" := rfl
  refine wpAny_bind (m := someArgs "hasattr" 2 2 _) (wpAny_pure ?_)
  dsimp only
  refine wpAny_bind (wpAny_of_eq (a := ()) (by rfl) ?_)
  rw [if_neg (by simp)]
  refine wpAny_bind (wpAny_typeOf hT ?_)
  dsimp only
  refine wpAny_bind (wpAny_of_eq (t := asStr? _) (a := some (Str.ofString "__getitem__")) (by rfl) ?_)
  dsimp only
  refine wpAny_bind (wpAny_of_eq lk_str_getitem ?_)
  dsimp only
  refine wpAny_bind (wpAny_of_eq F.slot_str_getattribute.lookup ?_)
  rw [if_neg (by decide +kernel)]
  refine wpAny_bind (wpAny_of_eq (a := 0) (by rfl) ?_)
  rw [if_neg (by decide)]
  unfold getAttrBy?
  refine wpAny_bind (wpAny_bind (wpAny_attempt (get_by_str fun v h' tk' k => ?_)))
  dsimp only
  refine wpAny_pure ?_
  rw [if_neg (by simp)]
  exact wpAny_pure ⟨_, rfl, hq h' tk' k⟩
end
end Mine
end
noncomputable section
open PySem PySem.W PySem.Calls PyProof.Rows
set_option maxRecDepth 100000
set_option maxHeartbeats 1000000
namespace Mine
local macro_rules | `(tactic| ktr_rel) => `(tactic| (refine lv_ret (by k_asm) (by k_asm) (by rfl) ?_))
theorem News.kept {h₀ h h' : Heap} {L : Addr} {news : Led} (N : News h₀ L h news) (k : ∀ b o, h.get? b = some o → h'.get? b = some o) : News h₀ L h' news := fun p hp => ⟨k _ _ (N p hp).1, (N p hp).2⟩
section
variable {w : World} {p : Program} {loose : List Str} {mean : ExcName → Option Value} {mg mb : Str → Option Value}
theorem ct_concat (x y : Str) (t t' : Tok) (hz : x.length + y.length < 1000000) : Ct w p loose mean mg mb 2 20 91 [.str x t, .str y t'] [] fun v _ => ∃ t, v = .str (x ++ y) t := by
  intro A h₀ s Q E hA hd hu X T st O ret
  k_dflt (refine' ct_def (binds := [(Str.ofString "a", .str x t), (Str.ofString "b", .str y t')]) (sub := _) X T st O ?k6 ?k7 ?k8 ?k9 ?kB ret ?_ ?c2 ?c3 ?c4 ?c5)
  (case k6 => k_is); (case k7 => k_is); (case k8 => omega); (case k9 => first | exact BindsTo.of_eq rfl | exact binds_K (by k_in) rfl (by k_is) rfl rfl rfl); (case c5 => decide); (case kB => exact locs rfl); (case c2 => exact rfl); (case c3 => exact rfl); (case c4 => exact rfl)
  clear ret O st T X; intro g L h₁ X T F N hlt; (try dsimp only); (try k_fold)
  k_steps
  refine hasattr_str fun h2 tk2 k2 => ?_
  have F2 := F.keeps k2
  have N2 := News.kept N k2
  clear F N
  k_steps
  ktr_rel
  exact ⟨_, rfl⟩
end
end Mine
end
noncomputable section
open PySem PySem.W PySem.Calls PyProof.Rows
set_option maxRecDepth 100000
namespace Mine
section
variable {prog : Program} {w : World} {A : Around} {E : Value → Shared → Prop} {s : Shared} {h₀ : Heap} {L : Addr} {m : Str → Option Value} {news : Led} {Q : Value → Shared → Prop}
theorem strs_of_get : ∀ (vs : List Value) (ss : List Str), vs.length = ss.length → (∀ (j : Nat) (v : Value), vs[j]? = some v → ∃ (y : Str) (t : Tok), ss[j]? = some y ∧ v = Value.str y t) → StrsAre vs ss
  | [], [], _, _ => .nil
  | [], _ :: _, e, _ => by cases e
  | _ :: _, [], e, _ => by cases e
  | v :: vs, y :: ss, e, h => by
    obtain ⟨y', t, e1, rfl⟩ := h 0 v rfl
    cases e1
    exact .cons y t (strs_of_get vs ss (by simpa using e) fun j v hv => h (j + 1) v hv)
theorem list_str_K {x : Str} {t : Tok} (hh : A.handled = none) (F : Fr h₀ L s.heap m) (N : News h₀ L s.heap news) (hsz : x.length ≤ 1000000)
    (h : ∀ D h' tk vs n, Fr h₀ L h' m → News h₀ L h' ((D, W.listOf vs n) :: news) → StrsAre vs.toList (signs x) → (∀ p ∈ news, p.1 < D) → Q (.ref D) { s with heap := h', toks := tk }) :
    wpAny (model prog w) A (call (.type "list") [.str x t]) Q E s := by
  refine call_list_str hh x t (hn := Nat.le_trans hsz (by rw [PySem.sizeLine_eq]; decide)) fun h' tk acc' c' hk hS' hacc => ?_
  refine h _ h' tk acc' c' (F.keeps hk) (fun p hp => ?_) (strs_of_get _ _ (by simp [hacc.1, signs]) fun j v hv => ?_) (fun p hp => Heap.lt_size (N p hp).1)
  · rcases List.mem_cons.mp hp with rfl | hp
    · refine ⟨hS', Nat.ne_of_gt F.ns.lt, next_is_new F⟩
    · exact ⟨hk _ _ (N p hp).1, (N p hp).2⟩
  · obtain ⟨c, u, hc, rfl⟩ := hacc.2 j v (by simpa using hv)
    exact ⟨⟨#[c]⟩, u, by simp [signs, hc], rfl⟩
end
end Mine
end
noncomputable section
open PySem PySem.W PySem.Calls PyProof.Rows
set_option maxRecDepth 100000
set_option maxHeartbeats 1000000
namespace Mine
local macro_rules | `(tactic| ktr_rel) => `(tactic| (refine lv_ret (by k_asm) (by k_asm) (by rfl) ?_))
/-- the attributes of a lexer -/
noncomputable abbrev lexEs (w : World) (line : Int) (fp : Value) (pb : Addr) (t : Nat → Tok) : List DictEntry :=
  [⟨PyData.keyHash w.params (Str.ofString "lineno"), .str (Str.ofString "lineno") (t 0), .int line (t 1)⟩,
   ⟨PyData.keyHash w.params (Str.ofString "instream"), .str (Str.ofString "instream") (t 2), fp⟩,
   ⟨PyData.keyHash w.params (Str.ofString "whitespace"), .str (Str.ofString "whitespace") (t 3), .str (Str.ofString "\n\t\r ") (t 4)⟩,
   ⟨PyData.keyHash w.params (Str.ofString "pushback"), .str (Str.ofString "pushback") (t 5), .ref pb⟩]
noncomputable def toks6 (a b c d e f : Tok) : Nat → Tok
  | 0 => a | 1 => b | 2 => c | 3 => d | 4 => e | _ => f
local macro_rules | `(tactic| walk_at "call builtin:list.append") => `(tactic| (k_here; k_dflt (refine' append_K ?k1 ?k2 ?k3 ?_ ?z; (case k1 => k_asm); (case k2 => k_asm); (case k3 => k_upd); (case z => (rw [PySem.sizeLine_eq]; (try rw [List.size_toArray]); omega)); k_whole); intro h' F' N'; (try k_sweep)))
section
variable {w : World} {p : Program} {loose : List Str} {mean : ExcName → Option Value} {mg mb : Str → Option Value}
theorem ct_init (x dx : Addr) (hne : @Ne Nat x dx) (v : Value) : Ct w p loose mean mg mb 2 20 28 [.ref x, v] [(x, instObj 52 dx), (dx, dictOf [] 0)]
    fun r l => r = .none ∧ ∃ pb t, l = [(pb, W.listOf #[] 0), (x, instObj 52 dx), (dx, dictOf (lexEs w 1 v pb t) 4)] ∧ @LT.lt Nat _ x pb := by
  intro A h₀ s Q E hA hd hu X T st O ret
  k_dflt (refine' ct_def (binds := [(Str.ofString "self", .ref x), (Str.ofString "fp", v)]) (sub := _) X T st O ?k6 ?k7 ?k8 ?k9 ?kB ret ?_ ?c2 ?c3 ?c4 ?c5)
  (case k6 => k_is); (case k7 => k_is); (case k8 => omega); (case k9 => first | exact BindsTo.of_eq rfl | exact binds_K (by k_in) rfl (by k_is) rfl rfl rfl); (case c5 => decide); (case kB => exact locs rfl); (case c2 => exact rfl); (case c3 => exact rfl); (case c4 => exact rfl)
  clear ret O st T X; intro g L h₁ X T F N hlt; (try dsimp only); (try k_fold)
  k_steps
  ktr_rel
  exact ⟨rfl, _, toks6 _ _ _ _ _ _, rfl, by omega⟩
theorem ct_push (x dx pb : Addr) (vs : Array Value) (n k : Nat) (v fp : Value) (line : Int) (t : Nat → Tok) (h1 : @Ne Nat x dx) (h2 : @Ne Nat x pb) (h3 : @Ne Nat dx pb) (hv : vs.size < 1000000) :
    Ct w p loose mean mg mb 2 20 49 [.ref x, v] [(x, instObj 52 dx), (dx, dictOf (lexEs w line fp pb t) n), (pb, W.listOf vs k)]
      fun r l => r = .none ∧ l = [(x, instObj 52 dx), (dx, dictOf (lexEs w line fp pb t) n), (pb, W.listOf (vs.push v) (k + 1))] := by
  intro A h₀ s Q E hA hd hu X T st O ret
  k_dflt (refine' ct_def (binds := [(Str.ofString "self", .ref x), (Str.ofString "token", v)]) (sub := _) X T st O ?k6 ?k7 ?k8 ?k9 ?kB ret ?_ ?c2 ?c3 ?c4 ?c5)
  (case k6 => k_is); (case k7 => k_is); (case k8 => omega); (case k9 => first | exact BindsTo.of_eq rfl | exact binds_K (by k_in) rfl (by k_is) rfl rfl rfl); (case c5 => decide); (case kB => exact locs rfl); (case c2 => exact rfl); (case c3 => exact rfl); (case c4 => exact rfl)
  clear ret O st T X; intro g L h₁ X T F N hlt; (try dsimp only); (try k_fold)
  k_steps
  ktr_rel
  exact ⟨rfl, rfl⟩
end
end Mine
end
noncomputable section
open PySem PySem.W PySem.Calls PyProof.Rows
set_option maxRecDepth 100000
set_option maxHeartbeats 1000000
namespace Mine
section
variable {w : World} {p : Program} {loose : List Str} {mean : ExcName → Option Value} {mg mb : Str → Option Value}
theorem new_lex {A : Around} {h₀ : Heap} {L : Addr} {m : Str → Option Value} {news : Led} {s : Shared} {Q E : Value → Shared → Prop} {v : Value} (F : Fr h₀ L s.heap m) (X : (K w.params).In h₀) (N : News h₀ L s.heap news) (T : Top p loose mean mg mb h₀)
    (hA : A.handled = none) (hd : A.depth + 4 < recursionLimit) (hu : A.units + 30 < cLine)
    (h : ∀ x dx pb t h' tk, Fr h₀ L h' m → News h₀ L h' ((x, instObj 52 dx) :: (dx, dictOf (lexEs w 1 v pb t) 4) :: (pb, W.listOf #[] 0) :: news) → (∀ q ∈ news, @LT.lt Nat _ q.1 dx) → @LT.lt Nat _ dx x → @LT.lt Nat _ x pb → Q (.ref x) { s with heap := h', toks := tk }) :
    wpAny (model prog w) A (call (.ref 52) [v]) Q E s := by
  k_dflt (refine' call_cls (K := K w.params) (fI := 28) F X N ?k4 ?k5 ?k6 ?_; (case k4 => k_is); (case k5 => k_is); (case k6 => k_is))
  intro x dx h1 F1 N1 l1 l2
  have C := ct_init (p := p) (loose := loose) (mean := mean) (mg := mg) (mb := mb) (w := w) x dx (Nat.ne_of_gt l2) v
  have hu2 : (A.under (.builtin "type.__call__" ⟨[.ref 52, v], []⟩)).units = A.units + 1 := by rfl
  have key := C.useC (s := { s with heap := h1 }) (A := A.under (.builtin "type.__call__" ⟨[.ref 52, v], []⟩)) (rest := news) (Q := fun r s' => r = .none ∧ Q (.ref x) s') (E := E) F1 X N1 T hA (by rw [depth_under_make]; omega) (by rw [hu2]; omega) (fun q hq => ?_) (fun q hq => ?_) fun r sub' h' tk F2 N2 ne P => ?_
  · refine codeAny_mono key fun r s' hr => ?_
    cases r with
    | error e => exact hr
    | ok fl => cases fl with
      | ret r => exact hr
      | _ => exact hr
  · rcases List.mem_cons.mp hq with rfl | hq
    · exact .head _
    · rcases List.mem_cons.mp hq with rfl | hq
      · exact .tail _ (.head _)
      · cases hq
  · refine ⟨.tail _ (.tail _ hq), fun hm => ?_⟩
    have hlt := l1 q hq
    rcases List.mem_cons.mp hm with e | hm
    · have e' : q.1 = x := e
      have a1 : @LT.lt Nat _ q.1 dx := hlt
      have a2 : @LT.lt Nat _ dx x := l2
      have e2 : @Eq Nat q.1 x := e'
      omega
    · rcases List.mem_cons.mp hm with e | hm
      · have a1 : @LT.lt Nat _ q.1 dx := hlt
        have e2 : @Eq Nat q.1 dx := e
        omega
      · cases hm
  · obtain ⟨rfl, pb, t, rfl, n3⟩ := P
    refine ⟨rfl, h x dx pb t h' tk F2 (fun q hq => ?_) l1 l2 n3⟩
    rcases List.mem_cons.mp hq with rfl | hq
    · exact N2 _ (List.mem_append_right _ (.tail _ (.head _)))
    · rcases List.mem_cons.mp hq with rfl | hq
      · exact N2 _ (List.mem_append_right _ (.tail _ (.tail _ (.head _))))
      · rcases List.mem_cons.mp hq with rfl | hq
        · exact N2 _ (List.mem_append_right _ (.head _))
        · exact N2 _ (List.mem_append_left _ hq)
end
end Mine
end
noncomputable section
open PySem PySem.W PySem.Calls PyProof.Rows
set_option maxRecDepth 100000
set_option maxHeartbeats 1000000
namespace Mine
noncomputable def lamOf : Stmt → Option (Arguments × Expr × Scope)
  | .Assign _ (.Lambda p b s _) _ => some (p, b, s)
  | _ => none
/-- the lambda of _law_lexer -/
@[reducible] noncomputable def lam : { x : Arguments × Expr × Scope // (body_stm_14.1.filterMap lamOf).head? = some x } := ⟨(_, _, _), rfl⟩
noncomputable abbrev lamQ : Str := Str.ofString "_law_lexer.<locals>.<lambda>"
/-- the addresses of a lexer of the law's -/
structure LexA where
  x : Addr
  dx : Addr
  pb : Addr
  D : Addr
  ce : Addr
  lf : Addr
  lc : Addr
  sx : Addr
  sdx : Addr
  spb : Addr
/-- the order in which they were made -/
structure LexA.Ord (a : LexA) : Prop where
  r1 : @LT.lt Nat _ a.ce a.D
  r2 : @LT.lt Nat _ a.D a.sdx
  r3 : @LT.lt Nat _ a.sdx a.sx
  r4 : @LT.lt Nat _ a.sx a.spb
  r5 : @LT.lt Nat _ a.spb a.lf
  r6 : @LT.lt Nat _ a.lf a.dx
  r7 : @LT.lt Nat _ a.dx a.x
  r8 : @LT.lt Nat _ a.x a.pb
  r9 : @LT.lt Nat _ a.lc a.lf
  r10 : @LT.lt Nat _ a.spb a.lc ∨ @LT.lt Nat _ a.lc a.ce
theorem LexA.Ord.pb {a : LexA} (o : a.Ord) : @LT.lt Nat _ a.x a.pb ∧ @LT.lt Nat _ a.dx a.pb ∧ @LT.lt Nat _ a.D a.pb ∧ @LT.lt Nat _ a.ce a.pb ∧ @LT.lt Nat _ a.lf a.pb ∧ @LT.lt Nat _ a.lc a.pb ∧ @LT.lt Nat _ a.sx a.pb ∧ @LT.lt Nat _ a.sdx a.pb ∧ @LT.lt Nat _ a.spb a.pb :=
  have h1 := Nat.lt_trans o.r7 o.r8
  have h2 := Nat.lt_trans o.r6 h1
  have h3 := Nat.lt_trans o.r5 h2
  have h4 := Nat.lt_trans o.r4 h3
  have h5 := Nat.lt_trans o.r3 h4
  have h6 := Nat.lt_trans o.r2 h5
  ⟨o.r8, h1, h6, Nat.lt_trans o.r1 h6, h2, Nat.lt_trans o.r9 h2, h4, h5, h3⟩
theorem LexA.Ord.of_ce {a : LexA} (o : a.Ord) : @LT.lt Nat _ a.ce a.x ∧ @LT.lt Nat _ a.ce a.dx ∧ @LT.lt Nat _ a.ce a.pb ∧ @LT.lt Nat _ a.ce a.D ∧ @LT.lt Nat _ a.ce a.lf ∧ @LT.lt Nat _ a.ce a.sx ∧ @LT.lt Nat _ a.ce a.sdx ∧ @LT.lt Nat _ a.ce a.spb :=
  have h1 := Nat.lt_trans o.r1 o.r2
  have h2 := Nat.lt_trans h1 o.r3
  have h3 := Nat.lt_trans h2 o.r4
  have h4 := Nat.lt_trans h3 o.r5
  have h5 := Nat.lt_trans h4 o.r6
  have h6 := Nat.lt_trans h5 o.r7
  ⟨h6, h5, Nat.lt_trans h6 o.r8, o.r1, h4, h2, h1, h3⟩
noncomputable abbrev strEs (w : World) (pb lf : Addr) (t : Nat → Tok) (u : Tok) : List DictEntry :=
  [⟨PyData.keyHash w.params (Str.ofString "lineno"), .str (Str.ofString "lineno") (t 0), .int 1 (t 1)⟩,
   ⟨PyData.keyHash w.params (Str.ofString "instream"), .str (Str.ofString "instream") (t 2), .none⟩,
   ⟨PyData.keyHash w.params (Str.ofString "whitespace"), .str (Str.ofString "whitespace") (t 3), .str (Str.ofString "\n\t\r ") (t 4)⟩,
   ⟨PyData.keyHash w.params (Str.ofString "pushback"), .str (Str.ofString "pushback") (t 5), .ref pb⟩,
   ⟨PyData.keyHash w.params (Str.ofString "read"), .str (Str.ofString "read") u, .ref lf⟩]
/-- the objects of a lexer: its line, what is pushed back, the signs to come -/
noncomputable abbrev lexL (w : World) (pm ctv : Value) (a : LexA) (line : Int) (pv : Array Value) (pn : Nat) (sv : Array Value) (sn : Nat) (t ts : Nat → Tok) (u : Tok) (oc olc : Obj) (qv : Array Value) (qn : Nat) : Led :=
  [(a.x, instObj 52 a.dx), (a.dx, dictOf (lexEs w line (.ref a.sx) a.pb t) 4), (a.pb, W.listOf pv pn), (a.D, W.listOf sv sn), (a.ce, oc),
   (a.lf, kla_obj (Str.ofString "<lambda>") lamQ lam.1.1 lam.1.2.1 lam.1.2.2 [(Str.ofString "signs", a.ce)] pm a.lc ctv), (a.lc, olc),
   (a.sx, instObj 52 a.sdx), (a.sdx, dictOf (strEs w a.spb a.lf ts u) 5), (a.spb, W.listOf qv qn)]
noncomputable def sgn (l : List Nat) : List Str := l.map fun c => ⟨#[c]⟩
inductive LexR (w : World) (a : LexA) (line : Int) (pv : Array Value) (cs : List Nat) (l : Led) : Prop
  | mk (pm ctv : Value) (pn : Nat) (sv : Array Value) (sn : Nat) (t ts : Nat → Tok) (u : Tok) (oc olc : Obj) (vl : Array Value) (tq : Tok) (qv : Array Value) (qn : Nat)
      (e : l = lexL w pm ctv a line pv pn sv sn t ts u oc olc qv qn) (hs : StrsAre sv.toList (sgn cs)) (ho : oc.data = .cell (some (.ref a.D))) (hd : olc.data = .fields vl) (hq : vl[1]? = some (.str lamQ tq)) (ord : a.Ord) : LexR w a line pv cs l
end Mine
end
noncomputable section
open PySem PySem.W PySem.Calls PyProof.Rows
set_option maxRecDepth 100000
set_option maxHeartbeats 1000000
namespace Mine
local macro_rules | `(tactic| ktr_rel) => `(tactic| (refine lv_ret (by k_asm) (by k_asm) (by rfl) ?_))
section
variable {w : World} {p : Program} {loose : List Str} {mean : ExcName → Option Value} {mg mb : Str → Option Value}
theorem ct_lexer (x : Str) (t : Tok) (hx : x.length < 1000) : Ct w p loose mean mg mb 10 60 162 [.str x t] [(157, tabObj #[])] fun v l => ∃ a l', v = .ref a.x ∧ l = (157, tabObj #[rawInt 74, rawInt 18, .ref a.lc]) :: l' ∧ LexR w a 1 #[] x.cps.toList l' ∧ @LT.lt Nat _ 157 a.ce ∧ @Ne Nat 157 a.lc := by
  intro A h₀ s Q E hA hd hu X T st O ret
  k_dflt (refine' ct_defC (binds := [(Str.ofString "text", .str x t)]) (sub := _) X T st O ?k6 ?k7 ?k8 ?k9 ?kB ?kD ret ?_ ?c2 ?c3 ?c4)
  (case k6 => k_is); (case k7 => k_is); (case k8 => omega); (case k9 => exact BindsTo.of_eq rfl); (case kB => exact rfl); (case kD => decide +kernel); (case c2 => exact rfl); (case c3 => exact rfl); (case c4 => exact rfl)
  clear ret O st T X; intro g L h₁ tk cells X T F N Y hlt; k_cells Y; (try simp only [List.cons_append, List.nil_append] at N); (try dsimp only); (try k_fold)
  k_steps
  refine list_str_K hA F N (by omega) fun D h2 tk2 vs n F2 N2 hv hD => ?_
  clear F N
  have e1 : @LT.lt Nat _ 157 L := hlt _ (.head _)
  have e2 : @LT.lt Nat _ 157 D := hD _ (.tail _ (.head _))
  have e3 : @LT.lt Nat _ (L + 1) D := hD _ (.head _)
  k_steps
  with_reducible rename Fr _ _ _ _ => F3
  with_reducible rename News _ _ _ _ => N3
  (try simp only [List.cons_append, List.nil_append] at N3)
  rename Obj => oc
  refine new_lex F3 X N3 T hA (dOk hd) (uOk hu) fun sx sdx spb st h4 tk4 F4 N4 l1 l3 l4 => ?_
  clear F3 N3
  k_steps
  with_reducible rename Fr _ _ _ _ => F5
  with_reducible rename News _ _ _ _ => N5
  k_lt l1
  refine Ct.use (ct_push sx sdx spb #[] 4 0 _ .none 1 st (Nat.ne_of_gt l3) (Nat.ne_of_lt l4) (Nat.ne_of_lt (Nat.lt_trans l3 l4)) (by decide)) (rest := [(D, W.listOf vs n), (L + 1, oc), (157, tabObj #[])]) F5 X N5 T hA (dOk hd) (uOk hu) ?hs ?hr fun r sub' h6 tk6 F6 N6 ne6 P6 => ?_
  case hs => (repeat' (first | exact List.forall_mem_nil _ | refine List.forall_mem_cons.mpr ⟨by k_mem, ?_⟩))
  case hr => (repeat' (first | exact List.forall_mem_nil _ | refine List.forall_mem_cons.mpr ⟨⟨by k_mem, by simp only [List.map_cons, List.map_nil, List.mem_cons, List.not_mem_nil, or_false, not_or]; refine ⟨?_, ?_, ?_⟩ <;> (refine neN ?_; omega)⟩, ?_⟩))
  obtain ⟨rfl, rfl⟩ := P6
  clear F5 N5
  simp only [List.cons_append, List.nil_append] at N6
  k_steps
  have C : CodeHd g 161 157 := ⟨_, _, _, _, _, _, _, _, _, X 161 _ rfl, rfl, rfl, rfl, rfl, rfl, rfl, rfl, rfl, by decide⟩
  k_dflt (refine' kla_eval ?d0 ?_)
  case d0 => exact rfl
  k_dflt (refine' kla_nest F6 N6 T C ?cd ?U ?t ?n ?cl ?_)
  case cd => exact rfl
  case U => k_updF
  case t => exact True.intro
  case n => rfl
  case cl => exact rfl
  intro lf lc olc vlc tlc ctv h8 tk8 F8 N8 d1 d2 l8 l9
  k_lt l8
  replace l9 := ltN l9
  k_steps
  with_reducible rename Fr _ _ _ _ => F9
  with_reducible rename News _ _ _ _ => N9
  refine new_lex F9 X N9 T hA (dOk hd) (uOk hu) fun x2 dx2 pb2 t2 hA2 tkA FA NA m1 m3 m4 => ?_
  clear F9 N9
  k_steps
  k_lt m1
  (try dsimp only at m1)
  have NB : News g L hA2 ((157, tabObj #[rawInt 74, rawInt 18, .ref lc]) :: lexL w ((mg (Str.ofString "__name__")).getD .none) ctv ⟨x2, dx2, pb2, D, L + 1, lf, lc, sx, sdx, spb⟩ 1 #[] 0 vs n t2 st (tk8 + 1) oc olc #[.str (Str.ofString "#") tk] 1) := fun q hq => NA q (by
    revert q
    k_dflt (repeat' (first | exact List.forall_mem_nil _ | refine List.forall_mem_cons.mpr ⟨by k_mem, ?_⟩)))
  refine lv_ret FA NB (by rfl) ⟨⟨x2, dx2, pb2, D, L + 1, lf, lc, sx, sdx, spb⟩, _, rfl, rfl, ⟨_, ctv, _, vs, n, t2, st, _, oc, olc, vlc, tlc, _, _, rfl, hv, by assumption, d1, d2, ?_⟩, by dsimp only; omega, neN (by dsimp only; omega)⟩
  clear FA NA NB
  refine ⟨?_, ?_, ?_, ?_, ?_, ?_, ?_, ?_, ?_, .inl ?_⟩ <;> (dsimp only; omega)
end
end Mine
end
noncomputable section
open PySem PySem.W PySem.Calls PyProof.Rows
set_option maxRecDepth 100000
set_option maxHeartbeats 1000000
namespace Mine
local macro_rules | `(tactic| ktr_rel) => `(tactic| (refine lv_ret (by k_asm) (by k_asm) (by rfl) ?_))
section
variable {w : World} {p : Program} {loose : List Str} {mean : ExcName → Option Value} {mg mb : Str → Option Value}
theorem ct_lexer2 (x : Str) (t : Tok) (hx : x.length < 1000) (lc : Addr) (olc : Obj) (vlc : Array Value) (tlc : Tok) (d1 : olc.data = .fields vlc) (d2 : vlc[1]? = some (.str lamQ tlc)) (hlc : @Ne Nat 157 lc) :
    Ct w p loose mean mg mb 10 60 162 [.str x t] [(157, tabObj #[rawInt 74, rawInt 18, .ref lc]), (lc, olc)]
      fun v l => ∃ a l', v = .ref a.x ∧ l = (157, tabObj #[rawInt 74, rawInt 18, .ref lc]) :: l' ∧ LexR w a 1 #[] x.cps.toList l' ∧ a.lc = lc ∧ @LT.lt Nat _ 157 a.ce := by
  intro A h₀ s Q E hA hd hu X T st O ret
  k_dflt (refine' ct_defC (binds := [(Str.ofString "text", .str x t)]) (sub := _) X T st O ?k6 ?k7 ?k8 ?k9 ?kB ?kD ret ?_ ?c2 ?c3 ?c4)
  (case k6 => k_is); (case k7 => k_is); (case k8 => omega); (case k9 => exact BindsTo.of_eq rfl); (case kB => exact rfl); (case kD => decide +kernel); (case c2 => exact rfl); (case c3 => exact rfl); (case c4 => exact rfl)
  clear ret O st T X; intro g L h₁ tk cells X T F N Y hlt; k_cells Y; (try simp only [List.cons_append, List.nil_append] at N); (try dsimp only); (try k_fold)
  k_steps
  refine list_str_K hA F N (by omega) fun D h2 tk2 vs n F2 N2 hv hD => ?_
  clear F N
  have e1 : @LT.lt Nat _ 157 L := hlt _ (.head _)
  have e0 : @LT.lt Nat _ lc L := hlt _ (.tail _ (.head _))
  have e5 : @LT.lt Nat _ lc D := hD _ (.tail _ (.tail _ (.head _)))
  have e2 : @LT.lt Nat _ 157 D := hD _ (.tail _ (.head _))
  have e3 : @LT.lt Nat _ (L + 1) D := hD _ (.head _)
  k_steps
  with_reducible rename Fr _ _ _ _ => F3
  with_reducible rename News _ _ _ _ => N3
  (try simp only [List.cons_append, List.nil_append] at N3)
  rename Obj => oc
  refine new_lex F3 X N3 T hA (dOk hd) (uOk hu) fun sx sdx spb st h4 tk4 F4 N4 l1 l3 l4 => ?_
  clear F3 N3
  k_steps
  with_reducible rename Fr _ _ _ _ => F5
  with_reducible rename News _ _ _ _ => N5
  k_lt l1
  refine Ct.use (ct_push sx sdx spb #[] 4 0 _ .none 1 st (Nat.ne_of_gt l3) (Nat.ne_of_lt l4) (Nat.ne_of_lt (Nat.lt_trans l3 l4)) (by decide)) (rest := [(D, W.listOf vs n), (L + 1, oc), (157, tabObj #[rawInt 74, rawInt 18, .ref lc]), (lc, olc)]) F5 X N5 T hA (dOk hd) (uOk hu) ?hs ?hr fun r sub' h6 tk6 F6 N6 ne6 P6 => ?_
  case hs => (repeat' (first | exact List.forall_mem_nil _ | refine List.forall_mem_cons.mpr ⟨by k_mem, ?_⟩))
  case hr => (repeat' (first | exact List.forall_mem_nil _ | refine List.forall_mem_cons.mpr ⟨⟨by k_mem, by simp only [List.map_cons, List.map_nil, List.mem_cons, List.not_mem_nil, or_false, not_or]; refine ⟨?_, ?_, ?_⟩ <;> (refine neN ?_; omega)⟩, ?_⟩))
  obtain ⟨rfl, rfl⟩ := P6
  clear F5 N5
  simp only [List.cons_append, List.nil_append] at N6
  k_steps
  have C : CodeHd g 161 157 := ⟨_, _, _, _, _, _, _, _, _, X 161 _ rfl, rfl, rfl, rfl, rfl, rfl, rfl, rfl, rfl, by decide⟩
  k_dflt (refine' kla_eval ?d0 ?_)
  case d0 => exact rfl
  k_dflt (refine' kla_hit (c' := lc) F6 N6 T C ?qcd ?qmem ?qt ?qn ?qcl ?_)
  case qcd => exact rfl
  case qmem => k_mem
  case qt => kn_triples
  case qn => kn_hit
  case qcl => exact rfl
  intro lf ctv h8 tk8 F8 N8 l8
  k_lt l8
  k_steps
  with_reducible rename Fr _ _ _ _ => F9
  with_reducible rename News _ _ _ _ => N9
  refine new_lex F9 X N9 T hA (dOk hd) (uOk hu) fun x2 dx2 pb2 t2 hA2 tkA FA NA m1 m3 m4 => ?_
  clear F9 N9
  k_steps
  k_lt m1
  (try dsimp only at m1)
  have NB : News g L hA2 ((157, tabObj #[rawInt 74, rawInt 18, .ref lc]) :: lexL w ((mg (Str.ofString "__name__")).getD .none) ctv ⟨x2, dx2, pb2, D, L + 1, lf, lc, sx, sdx, spb⟩ 1 #[] 0 vs n t2 st (tk8 + 1) oc olc #[.str (Str.ofString "#") tk] 1) := fun q hq => NA q (by
    revert q
    k_dflt (repeat' (first | exact List.forall_mem_nil _ | refine List.forall_mem_cons.mpr ⟨by k_mem, ?_⟩)))
  refine lv_ret FA NB (by rfl) ⟨⟨x2, dx2, pb2, D, L + 1, lf, lc, sx, sdx, spb⟩, _, rfl, rfl, ⟨_, ctv, _, vs, n, t2, st, _, oc, olc, vlc, tlc, _, _, rfl, hv, by assumption, d1, d2, ?_⟩, rfl, by dsimp only; omega⟩
  clear FA NA NB
  refine ⟨?_, ?_, ?_, ?_, ?_, ?_, ?_, ?_, ?_, .inr ?_⟩ <;> (dsimp only; omega)
end
end Mine
end
noncomputable section
open PySem PySem.W PySem.Calls PyProof.Rows
set_option maxRecDepth 100000
set_option maxHeartbeats 1000000
namespace Mine
section
variable {w : World} {p : Program} {loose : List Str} {mean : ExcName → Option Value} {mg mb : Str → Option Value}
/-- entering a lambda that stands in the ledger -/
theorem ct_lamE {A : Around} {h₀ : Heap} {s : Shared} {Q E : Value → Shared → Prop} {sub : Led} {Post : Value → Led → Prop} {name qual : Str} {params : Arguments} {body : Expr} {scope : Scope} {cl : List (Str × Addr)} {pm ctv : Value} {c' f : Addr} {oc : Obj} {vl : Array Value} {tq : Tok} {vs : List Value} {binds : List (Str × Value)}
    (X : (K w.params).In h₀) (T : Top p loose mean mg mb h₀) (st : ∀ b o, h₀.get? b = some o → s.heap.get? b = some o) (O : On h₀ s.heap sub)
    (ho : (f, kla_obj name qual params body scope cl pm c' ctv) ∈ sub) (hc : (c', oc) ∈ sub) (hd : oc.data = .fields vl) (hv : vl[1]? = some (.str qual tq)) (hroom : A.depth < recursionLimit)
    (hbind : bindArgs (kla_fn name qual params body scope cl pm (.ref c') ctv) ⟨vs, []⟩ = pure binds) (hloc : ∀ y ∈ binds, scope.names.lookup y.1 = some .local)
    (ret : ∀ v sub' h' tk, Ext sub s.heap h' → Lef sub s.heap h' sub' → Post v sub' → Q v { s with heap := h', toks := tk })
    (h : ∀ (g : Heap) (L : Addr) (h₁ : Heap), (K w.params).In g → Top p loose mean mg mb g → Fr g L h₁ (fun y => binds.reverse.lookup y) → News g L h₁ sub → (∀ q ∈ sub, q.1 < L) →
      wpAny (model prog w) (A.deeper (envX qual scope L f (.ref c') cl)) (eval body (envX qual scope L f (.ref c') cl))
        (fun v s' => Lv g Post { s with heap := h₁, toks := s.toks + binds.length } v s') (fun _ _ => False) { s with heap := h₁, toks := s.toks + binds.length })
    (hco : scope.isCoroutine = false) (hgen : scope.isGenerator = false) (hk : scope.kind = .function) (hcell : ∀ x ∈ scope.names, x.2 ≠ .cell) :
    codeAny (model prog w) A (.call (.ref f) ⟨vs, []⟩) (fun r s' => match r with | .ok (.ret v) => Q v s' | .ok _ => False | .error e => E e s') s := by
  have nm : ∀ b o, h₀.get? b = some o → b ∉ sub.map (·.1) := fun b o e q => by
    obtain ⟨p, hp, rfl⟩ := List.mem_map.mp q
    rw [(O p hp).2] at e; cases e
  have stg : ∀ b o, h₀.get? b = some o → (hideAll s.heap (sub.map (·.1))).get? b = some o := fun b o e => hideAll_get _ (st b o e) (nm b o e)
  refine kla_callFunE hroom (O _ ho).1 rfl hco hgen rfl ⟨c', oc, vl, tq, rfl, (O _ hc).1, hd, hv⟩ ?_
  rw [hbind]
  refine wpAny_pure (wpAny_newFunctionEnv hcell hloc (fun h₁ hns hsb => ⟨((T.nolimit).keeps st).fresh _ hsb, ?_⟩) hk)
  show codeAny _ _ (.expr body (envX qual scope s.heap.objs.size f (.ref c') cl)) _ _
  have hk₁ : ∀ b o, s.heap.get? b = some o → h₁.get? b = some o := fun b o e => hsb.extBut b o (Nat.ne_of_lt (Heap.lt_size e)) (Heap.get?_push_of_some _ e)
  refine kla_codeExpr (wpAny_mono (h (hideAll s.heap (sub.map (·.1))) s.heap.objs.size h₁ (X.keeps stg) (T.keeps stg) ⟨hns, fun b o e => hk₁ b o (of_hideAll _ e), Nat.le_of_eq (hideAll_size _ _)⟩
    (fun p hp => ⟨hk₁ _ _ (O p hp).1, Nat.ne_of_lt (Heap.lt_size (O p hp).1), hideAll_none _ (List.mem_map_of_mem hp)⟩) (fun p hp => Heap.lt_size (O p hp).1)) (fun v s' hl => ?_) fun _ _ y => y.elim)
  exact lv_out (sub := sub) (s := s) (s₂ := { s with heap := h₁, toks := s.toks + binds.length }) (Q := Q) rfl rfl ret hl
end
end Mine
end
noncomputable section
open PySem PySem.W PySem.Calls PyProof.Rows
set_option maxRecDepth 100000
set_option maxHeartbeats 1000000
namespace Mine
local macro_rules | `(tactic| ktr_rel) => `(tactic| (refine lv_ret (by k_asm) (by k_asm) (by rfl) ?_))
local macro_rules | `(tactic| walk_at "eval Name") => `(tactic| (k_here; k_dflt (refine' nameX_F ?N ?c ?m ?d ?_ ?k ?x ?b ?n; (case x => with_unfolding_all rfl); (case k => rfl); (case N => k_asm); (case c => rfl); (case m => k_mem); (case d => assumption); (case b => decide); (case n => decide))))
section
variable {w : World} {p : Program} {loose : List Str} {mean : ExcName → Option Value} {mg mb : Str → Option Value}

theorem ne_nil {A : Around} {E : Value → Shared → Prop} {s : Shared} {D e : Addr} {sv : Array Value} {Q : Value → Shared → Prop} (h1 : s.heap.IsList D sv) (h2 : s.heap.IsList e #[]) (hu : A.units < cLine) (hz : sv.size ≠ 0) (h : Q (.bool true) s) :
    wpAny (model prog w) A (compareOp .NotEq (.ref D) (.ref e)) Q E s :=
  PySem.SeqAt.RcNeAt.lists_lengths (A := A) (s := s) h1 h2 (by simpa using hz) hu prog w E Q h
theorem ne_nil0 {A : Around} {E : Value → Shared → Prop} {s : Shared} {D e : Addr} {sv : Array Value} {Q : Value → Shared → Prop} (h1 : s.heap.IsList D sv) (h2 : s.heap.IsList e #[]) (hu : A.units < cLine) (hz : sv.size = 0) (h : Q (.bool false) s) :
    wpAny (model prog w) A (compareOp .NotEq (.ref D) (.ref e)) Q E s :=
  PySem.SeqAt.RcNeAt.lists (A := A) (s := s) (e := fun _ => true) h1 h2 (by simpa using hz) hu (fun j h1 h2 => absurd h2 (Nat.not_lt_zero _)) prog w E Q (by rw [hz]; exact h)
/-- stream.read(1) -/
theorem ct_lam (pm ctv : Value) (lf lc D ce : Addr) (sv : Array Value) (sn : Nat) (cs : List Nat) (hs : StrsAre sv.toList (sgn cs)) (hlen : cs.length < 1000) (oc olc : Obj) (vl : Array Value) (tq t : Tok) (hoc : oc.data = .cell (some (.ref D))) (d1 : olc.data = .fields vl) (d2 : vl[1]? = some (.str lamQ tq))
    (n1 : @Ne Nat D ce) (n2 : @Ne Nat D lf) (n3 : @Ne Nat D lc) :
    Ct w p loose mean mg mb 2 20 lf [.int 1 t] [(D, W.listOf sv sn), (ce, oc), (lf, kla_obj (Str.ofString "<lambda>") lamQ lam.1.1 lam.1.2.1 lam.1.2.2 [(Str.ofString "signs", ce)] pm lc ctv), (lc, olc)]
      fun v l => ∃ t' sv' sn', v = .str ⟨(cs.take 1).toArray⟩ t' ∧ l = [(D, W.listOf sv' sn'), (ce, oc), (lf, kla_obj (Str.ofString "<lambda>") lamQ lam.1.1 lam.1.2.1 lam.1.2.2 [(Str.ofString "signs", ce)] pm lc ctv), (lc, olc)] ∧ StrsAre sv'.toList (sgn cs.tail) := by
  intro A h₀ s Q E hA hd hu X T st O ret
  k_dflt (refine' ct_lamE (binds := [(Str.ofString "size", .int 1 t)]) (sub := _) X T st O (.tail _ (.tail _ (.head _))) (.tail _ (.tail _ (.tail _ (.head _)))) d1 d2 (by omega) ?kb ?kl ret ?_ ?c2 ?c3 ?c4 ?c5)
  case kb => exact rfl
  case kl => exact locs rfl
  case c2 => exact rfl
  case c3 => exact rfl
  case c4 => exact rfl
  case c5 => decide
  clear ret O st T X; intro g L h₁ X T F N hlt; (try dsimp only); (try k_fold)
  k_steps
  with_reducible rename Fr _ _ _ _ => F2
  with_reducible rename News _ _ _ _ => N2
  obtain ⟨vs⟩ := sv
  have hl := hs.length
  cases cs with
  | nil =>
    cases hs
    refine ne_nil0 (News.isList N2 (.tail _ (.head _))) (News.isList N2 (.head _)) (by rw [units_deeper]; omega) rfl ?_
    k_steps
    exact lv_ret F2 (fun q hq => N2 q (.tail _ hq)) (by rfl) ⟨_, _, _, rfl, rfl, .nil⟩
  | cons c cs =>
    cases hs with | @cons x u vs ys r =>
    refine ne_nil (News.isList N2 (.tail _ (.head _))) (News.isList N2 (.head _)) (by rw [units_deeper]; omega) (Nat.succ_ne_zero _) ?_
    k_steps
    refine kl_popAt (its := (Value.str ⟨#[c]⟩ u :: vs).toArray) F2 N2 (k := 0) (p := []) (q := vs) (y := .str ⟨#[c]⟩ u) (by rfl) ?_ (by rfl) (by k_upd) ?_ fun h' F3 N3 => ?_
    · exact PySem.seqIndex_of (by omega) (by show (0 : Int) < (((vs.length + 1 : Nat)) : Int); omega)
    · have hl' : vs.length + 1 = (sgn (c :: cs)).length := hl
      rw [sgn, List.length_map] at hl'
      show vs.length + 1 ≤ _
      rw [hl', PySem.sizeLine_eq]; omega
    · exact lv_ret F3 (fun q hq => N3 q (.tail _ hq)) (by rfl) ⟨_, _, _, rfl, rfl, r⟩
end
end Mine
end
noncomputable section
open PySem PySem.W PySem.Calls PyProof.Rows
set_option maxRecDepth 100000
set_option maxHeartbeats 1000000
namespace Mine
local macro_rules | `(tactic| ktr_rel) => `(tactic| (refine lv_ret (by k_asm) (by k_asm) (by rfl) ?_))
section
variable {w : World} {p : Program} {loose : List Str} {mean : ExcName → Option Value} {mg mb : Str → Option Value}
noncomputable def lineAft (line : Int) (cs : List Nat) : Int := if cs.head? = some 10 then line + 1 else line
theorem line_eq (cs : List Nat) : ((⟨(cs.take 1).toArray⟩ : Str) == Str.ofString "\n") = (cs.head? == some 10) := by
  cases cs with
  | nil => decide
  | cons c cs =>
    by_cases h : c = 10
    · subst h; simp; decide
    · have h1 : ((c :: cs).head? == some 10) = false := by simpa using h
      rw [h1, beq_eq_false_iff_ne]
      intro e
      have e2 : (⟨[c].toArray⟩ : Str).cps.toList = (Str.ofString "\n").cps.toList := congrArg (fun s : Str => s.cps.toList) e
      have e3 : [c] = [10] := e2
      exact h (by simpa using e3)
theorem line_hit {cs : List Nat} (h : ((⟨(cs.take 1).toArray⟩ : Str) == Str.ofString "\n") = true) : cs.head? = some 10 := by
  rw [line_eq] at h; simpa using h
theorem line_miss {cs : List Nat} (h : ((⟨(cs.take 1).toArray⟩ : Str) == Str.ofString "\n") = false) : ¬ cs.head? = some 10 := by
  rw [line_eq] at h; simpa using h
/-- _read_char -/
theorem ct_read (a : LexA) (line : Int) (pv : Array Value) (cs : List Nat) (hlen : cs.length < 1000) (l : Led) (R : LexR w a line pv cs l) :
    Ct w p loose mean mg mb 6 60 35 [.ref a.x] l fun v l' => ∃ t, v = .str ⟨(cs.take 1).toArray⟩ t ∧ LexR w a (lineAft line cs) pv cs.tail l' := by
  obtain ⟨pm, ctv, pn, sv, sn, t, ts, u, oc, olc, vl, tq, qv, qn, rfl, hs, ho, d1, d2, nd⟩ := R
  intro A h₀ s Q E hA hd hu X T st O ret
  k_dflt (refine' ct_def (binds := [(Str.ofString "self", .ref a.x)]) (sub := _) X T st O ?k6 ?k7 ?k8 ?k9 ?kB ret ?_ ?c2 ?c3 ?c4 ?c5)
  (case k6 => k_is); (case k7 => k_is); (case k8 => omega); (case k9 => first | exact BindsTo.of_eq rfl | exact binds_K (by k_in) rfl (by k_is) rfl rfl rfl); (case c5 => decide); (case kB => exact locs rfl); (case c2 => exact rfl); (case c3 => exact rfl); (case c4 => exact rfl)
  clear ret O st T X; intro g L h₁ X T F N hlt; (try dsimp only); (try k_fold)
  obtain ⟨o1, o2, o3, o4, o5, o6, o7, o8, o9, o10⟩ := nd
  k_steps
  (k_here; k_dflt (refine' callWith_F ?k1 ?_; (case k1 => exact FnAt.of (by k_asm) (by k_mem)); k_whole))
  k_steps
  with_reducible rename Fr _ _ _ _ => F2
  with_reducible rename News _ _ _ _ => N2
  refine Ct.use (ct_lam pm ctv a.lf a.lc a.D a.ce sv sn cs hs hlen oc olc vl tq _ ho d1 d2 (by omega) (by omega) (by omega)) (rest := [(a.x, instObj 52 a.dx), (a.dx, dictOf (lexEs w line (.ref a.sx) a.pb t) 4), (a.pb, W.listOf pv pn), (a.sx, instObj 52 a.sdx), (a.sdx, dictOf (strEs w a.spb a.lf ts u) 5), (a.spb, W.listOf qv qn)]) F2 X N2 T hA (dOk hd) (uOk hu) ?hs ?hr fun r sub' h6 tk6 F6 N6 ne6 P6 => ?_
  case hs => (repeat' (first | exact List.forall_mem_nil _ | refine List.forall_mem_cons.mpr ⟨by k_mem, ?_⟩))
  case hr => (repeat' (first | exact List.forall_mem_nil _ | refine List.forall_mem_cons.mpr ⟨⟨by k_mem, by simp only [List.map_cons, List.map_nil, List.mem_cons, List.not_mem_nil, or_false, not_or]; refine ⟨?_, ?_, ?_, ?_⟩ <;> (refine neN ?_; omega)⟩, ?_⟩))
  obtain ⟨tr, sv', sn', rfl, rfl, hs'⟩ := P6
  clear F2 N2
  simp only [List.cons_append, List.nil_append] at N6
  k_steps
  · with_reducible rename Fr _ _ _ _ => F7
    with_reducible rename News _ _ _ _ => N7
    rename _ = true => hc
    have NB : News g L _ (lexL w pm ctv a (line + 1) pv pn sv' sn' (toks6 (t 0) _ (t 2) (t 3) (t 4) (t 5)) ts u oc olc qv qn) := fun q hq => N7 q (by
      revert q
      k_dflt (repeat' (first | exact List.forall_mem_nil _ | refine List.forall_mem_cons.mpr ⟨by k_mem, ?_⟩)))
    refine lv_ret F7 NB (by rfl) ⟨_, rfl, ?_⟩
    rw [lineAft, if_pos (line_hit hc)]
    exact ⟨_, _, _, _, _, _, _, _, _, _, _, _, _, _, rfl, hs', ho, d1, d2, o1, o2, o3, o4, o5, o6, o7, o8, o9, o10⟩
  · with_reducible rename Fr _ _ _ _ => F7
    with_reducible rename News _ _ _ _ => N7
    rename _ = false => hc
    have NB : News g L _ (lexL w pm ctv a line pv pn sv' sn' t ts u oc olc qv qn) := fun q hq => N7 q (by
      revert q
      k_dflt (repeat' (first | exact List.forall_mem_nil _ | refine List.forall_mem_cons.mpr ⟨by k_mem, ?_⟩)))
    refine lv_ret F7 NB (by rfl) ⟨_, rfl, ?_⟩
    rw [lineAft, if_neg (line_miss hc)]
    exact ⟨_, _, _, _, _, _, _, _, _, _, _, _, _, _, rfl, hs', ho, d1, d2, o1, o2, o3, o4, o5, o6, o7, o8, o9, o10⟩
end
end Mine
end
noncomputable section
open PySem PySem.W PySem.Calls PyProof.Rows
set_option maxRecDepth 100000
set_option maxHeartbeats 1000000
namespace Mine
local macro_rules | `(tactic| omega) => `(tactic| first | assumption | lia | omega +splitNatSub)
noncomputable def ws (c : Nat) : Bool := c == 10 || c == 9 || c == 13 || c == 32
/-- a bare word's rest -/
noncomputable def bareT : List Nat → List Nat → Int → List Nat × Int × List Nat
  | [], acc, line => (acc, line, [])
  | c :: r, acc, line =>
    if ws c = true then (acc, lineAft line (c :: r), r)
    else if c = 92 then bareT r.tail (acc ++ r.take 1) (lineAft (lineAft line (c :: r)) r)
    else bareT r (acc ++ [c]) (lineAft line (c :: r))
termination_by l => l.length
decreasing_by all_goals (simp_wf; try omega)
/-- a quoted word's rest -/
noncomputable def quoT : List Nat → List Nat → Int → List Nat × Int × List Nat
  | [], acc, line => (acc, line, [])
  | c :: r, acc, line =>
    if c = 34 then (acc, lineAft line (c :: r), r)
    else if c = 92 then quoT r.tail (acc ++ r.take 1) (lineAft (lineAft line (c :: r)) r)
    else quoT r (acc ++ [c]) (lineAft line (c :: r))
termination_by l => l.length
decreasing_by all_goals (simp_wf; try omega)
/-- get_token: the token, the line, the signs to come -/
noncomputable def tokT : List Nat → Int → List Nat × Int × List Nat
  | [], line => ([], line, [])
  | c :: r, line =>
    if ws c = true then tokT r (lineAft line (c :: r))
    else if c = 34 then quoT r [] (lineAft line (c :: r))
    else if c = 92 then bareT r.tail (r.take 1) (lineAft (lineAft line (c :: r)) r)
    else bareT r [c] (lineAft line (c :: r))
noncomputable def LexA.adrs (a : LexA) : List Addr := [a.x, a.dx, a.pb, a.D, a.ce, a.lf, a.lc, a.sx, a.sdx, a.spb]
theorem LexR.adr {w : World} {a : LexA} {line : Int} {pv : Array Value} {cs : List Nat} {l : Led} (R : LexR w a line pv cs l) : l.map (·.1) = a.adrs := by
  obtain ⟨pm, ctv, pn, sv, sn, t, ts, u, oc, olc, vl, tq, qv, qn, rfl, -⟩ := R
  rfl
theorem LexR.ord {w : World} {a : LexA} {line : Int} {pv : Array Value} {cs : List Nat} {l : Led} (R : LexR w a line pv cs l) : a.Ord := by
  obtain ⟨pm, ctv, pn, sv, sn, t, ts, u, oc, olc, vl, tq, qv, qn, rfl, h1, h2, h3, h4, h5⟩ := R
  exact h5
theorem off_gt {a : LexA} (O : a.Ord) {b : Addr} (h : @LT.lt Nat _ a.pb b) : b ∉ a.adrs := by
  obtain ⟨p1, p2, p3, p4, p5, p6, p7, p8, p9⟩ := O.pb
  have k : ∀ {c : Nat}, c < a.pb → @Ne Nat b c := fun hc => Nat.ne_of_gt (Nat.lt_trans hc h)
  intro hm
  simp only [LexA.adrs, List.mem_cons, List.not_mem_nil, or_false] at hm
  rcases hm with e | e | e | e | e | e | e | e | e | e
  · exact k p1 e
  · exact k p2 e
  · exact Nat.ne_of_gt h e
  · exact k p3 e
  · exact k p4 e
  · exact k p5 e
  · exact k p6 e
  · exact k p7 e
  · exact k p8 e
  · exact k p9 e
theorem off_lt {a : LexA} (O : a.Ord) {b : Addr} (h : @LT.lt Nat _ b a.ce) (h2 : @Ne Nat b a.lc) : b ∉ a.adrs := by
  obtain ⟨p1, p2, p3, p4, p5, p7, p8, p9⟩ := O.of_ce
  have k : ∀ {c : Nat}, a.ce < c → @Ne Nat b c := fun hc => Nat.ne_of_lt (Nat.lt_trans h hc)
  intro hm
  simp only [LexA.adrs, List.mem_cons, List.not_mem_nil, or_false] at hm
  rcases hm with e | e | e | e | e | e | e | e | e | e
  · exact k p1 e
  · exact k p2 e
  · exact k p3 e
  · exact k p4 e
  · exact Nat.ne_of_lt h e
  · exact k p5 e
  · exact h2 e
  · exact k p7 e
  · exact k p8 e
  · exact k p9 e
theorem nex_x {a : LexA} {b : Nat} (h : b ∉ a.adrs) : @Ne Nat a.x b := fun e => h (by rw [← show a.x = b from e]; simp [LexA.adrs])
theorem nex_dx {a : LexA} {b : Nat} (h : b ∉ a.adrs) : @Ne Nat a.dx b := fun e => h (by rw [← show a.dx = b from e]; simp [LexA.adrs])
theorem nex_pb {a : LexA} {b : Nat} (h : b ∉ a.adrs) : @Ne Nat a.pb b := fun e => h (by rw [← show a.pb = b from e]; simp [LexA.adrs])
theorem nex_D {a : LexA} {b : Nat} (h : b ∉ a.adrs) : @Ne Nat a.D b := fun e => h (by rw [← show a.D = b from e]; simp [LexA.adrs])
theorem nex_ce {a : LexA} {b : Nat} (h : b ∉ a.adrs) : @Ne Nat a.ce b := fun e => h (by rw [← show a.ce = b from e]; simp [LexA.adrs])
theorem nex_lf {a : LexA} {b : Nat} (h : b ∉ a.adrs) : @Ne Nat a.lf b := fun e => h (by rw [← show a.lf = b from e]; simp [LexA.adrs])
theorem nex_lc {a : LexA} {b : Nat} (h : b ∉ a.adrs) : @Ne Nat a.lc b := fun e => h (by rw [← show a.lc = b from e]; simp [LexA.adrs])
theorem nex_sx {a : LexA} {b : Nat} (h : b ∉ a.adrs) : @Ne Nat a.sx b := fun e => h (by rw [← show a.sx = b from e]; simp [LexA.adrs])
theorem nex_sdx {a : LexA} {b : Nat} (h : b ∉ a.adrs) : @Ne Nat a.sdx b := fun e => h (by rw [← show a.sdx = b from e]; simp [LexA.adrs])
theorem nex_spb {a : LexA} {b : Nat} (h : b ∉ a.adrs) : @Ne Nat a.spb b := fun e => h (by rw [← show a.spb = b from e]; simp [LexA.adrs])
theorem off_ne {l : Led} {I : Addr} (h : ∀ p ∈ l, @Ne Nat p.1 I) : I ∉ l.map (·.1) := by
  intro hm
  obtain ⟨p, hp, e⟩ := List.mem_map.mp hm
  exact h p hp e
theorem ne_off {l : Led} {I : Addr} (h : I ∉ l.map (·.1)) : ∀ p ∈ l, @Ne Nat p.1 I := fun p hp e => h (by rw [← show p.1 = I from e]; exact List.mem_map_of_mem hp)
section
variable {prog : Program} {w : World} {A : Around} {E : Value → Shared → Prop} {s : Shared} {h₀ : Heap} {L : Addr} {m : Str → Option Value} {news : Led}
theorem iter_K {q f : Addr} {self st : Value} {Q : Value → Shared → Prop} (F : Fr h₀ L s.heap m) (N : News h₀ L s.heap news) (hm : (q, methodObj (.ref f) self) ∈ news)
    (h : ∀ I h', Fr h₀ L h' m → News h₀ L h' ((I, ciObj (.ref q) st false) :: news) → (∀ p ∈ news, p.1 < I) → Q (.ref I) { s with heap := h' }) :
    wpAny (model prog w) A (call (.builtin "iter") [.ref q, st]) Q E s := by
  refine iter_called (N _ hm).1 (h _ _ (F.push _) (fun p hp => ?_) fun p hp => Heap.lt_size (N p hp).1)
  rcases List.mem_cons.mp hp with rfl | hp
  · exact ⟨Heap.get?_push_size _ rfl, Nat.ne_of_gt F.ns.lt, next_is_new F⟩
  · exact ⟨Heap.get?_push_of_some _ (N p hp).1, (N p hp).2⟩
end
section
variable {w : World} {p : Program} {loose : List Str} {mean : ExcName → Option Value} {mg mb : Str → Option Value} {A : Around} {E : Value → Shared → Prop} {s : Shared} {h₀ : Heap} {L : Addr} {m : Str → Option Value}
theorem fr_but {I : Addr} {h h' : Heap} (F : Fr h₀ L h m) (hI : I ≠ L) (h0 : h₀.get? I = none) (b : Heap.ExtBut I h h') : Fr h₀ L h' m := by
  refine ⟨?_, fun c o e => b c o (fun q => by rw [q, h0] at e; cases e) (F.keep c o e), F.above⟩
  obtain ⟨oL, es, ep, hL, r⟩ := F.ns
  exact ⟨oL, es, ep, b L oL (Ne.symm hI) hL, r⟩
theorem fn_of {K : Frag} {name qual : Str} {params : Arguments} {body : List Stmt} {scope : Scope} {dV kV doc pm cdv ct oc : Value} {an od : Option Addr} {osl : Array (Option Value)} {f : Addr}
    (ho : K.lookup f = some ⟨oc, od, .func (fnOf name qual params body scope dV kV doc pm an cdv ct), osl⟩) : ∃ o fd, K.lookup f = some o ∧ o.data = .func fd := ⟨_, _, ho, rfl⟩
/-- a turn of iter(self._read_char, '') -/
theorem ci_turn {I q : Addr} {a : LexA} {line : Int} {pv : Array Value} {cs : List Nat} {l : Led} {tk : Tok} {Q : Option Value → Shared → Prop} (F : Fr h₀ L s.heap m) (X : (K w.params).In h₀) (T : Top p loose mean mg mb h₀)
    (N : News h₀ L s.heap ((I, ciObj (.ref q) (.str (Str.ofString "") tk) false) :: (q, methodObj (.ref 35) (.ref a.x)) :: l)) (R : LexR w a line pv cs l) (hlen : cs.length < 1000)
    (hA : A.handled = none) (hd : A.depth + 6 < recursionLimit) (hu : A.units + 70 < cLine) (nI : I ∉ a.adrs) (nq : q ∉ a.adrs) (hIq : I ≠ q)
    (h0 : cs = [] → ∀ h' tk' l', Fr h₀ L h' m → News h₀ L h' ((I, ciEnd) :: (q, methodObj (.ref 35) (.ref a.x)) :: l') → LexR w a line pv [] l' → Q none { s with heap := h', toks := tk' })
    (h1 : ∀ c r, cs = c :: r → ∀ h' tk' l' t, Fr h₀ L h' m → News h₀ L h' ((I, ciObj (.ref q) (.str (Str.ofString "") tk) false) :: (q, methodObj (.ref 35) (.ref a.x)) :: l') → LexR w a (lineAft line (c :: r)) pv r l' →
      Q (some (.str ⟨#[c]⟩ t)) { s with heap := h', toks := tk' }) :
    wpAny (model prog w) A (pyNext (.ref I)) Q E s := by
  have hI := (N _ (.head _)).1
  have hq := (N _ (.tail _ (.head _))).1
  obtain ⟨o35, fd35, ho35, hd35⟩ : ∃ o fd, (K w.params).lookup 35 = some o ∧ o.data = .func fd := by
    k_dflt (refine' fn_of ?ka; (case ka => k_is))
  have hf : s.heap.get? 35 = some o35 := F.keep _ _ (X _ _ ho35)
  refine next_called hA hI hq hf hd35 ?_
  have C := ct_read (p := p) (loose := loose) (mean := mean) (mg := mg) (mb := mb) a line pv cs hlen l R
  have key := C.useC (s := s) (A := A.in1) (rest := [(I, ciObj (.ref q) (.str (Str.ofString "") tk) false), (q, methodObj (.ref 35) (.ref a.x))])
    (Q := fun v s₁ => s₁.heap.get? I = some (ciObj (.ref q) (.str (Str.ofString "") tk) false) ∧ s₁.heap.get? q = some (methodObj (.ref 35) (.ref a.x)) ∧ s₁.heap.get? 35 = some o35 ∧
          ∃ x t, v = .str x t ∧ if Str.ofString "" = x then (∀ h', h'.get? I = some ciEnd → Heap.ExtBut I s₁.heap h' → Q none { s₁ with heap := h' }) else Q (some v) s₁) (E := fun _ _ => False)
    F X N T hA (by show A.depth + 6 < _; exact hd) (by show A.units + 1 + 60 < _; omega) (fun q hq => .tail _ (.tail _ hq)) (fun z hz => ?_) fun v sub' h' tk' F' N' ne P => ?_
  · refine codeAny_mono key fun r s' hr => ?_
    cases r with
    | error e => exact hr
    | ok fl => cases fl <;> exact hr
  · rw [R.adr]
    rcases List.mem_cons.mp hz with rfl | hz
    · exact ⟨.head _, nI⟩
    · rcases List.mem_cons.mp hz with rfl | hz
      · exact ⟨.tail _ (.head _), nq⟩
      · cases hz
  · obtain ⟨t, rfl, R'⟩ := P
    have hI' := (N' (I, ciObj (.ref q) (.str (Str.ofString "") tk) false) (.head _))
    have hq' := (N' (q, methodObj (.ref 35) (.ref a.x)) (.tail _ (.head _)))
    refine ⟨hI'.1, hq'.1, F'.keep _ _ (X _ _ ho35), _, t, rfl, ?_⟩
    cases cs with
    | nil =>
      rw [if_pos (by decide)]
      intro h2 e2 b2
      have R2 : LexR w a line pv [] sub' := by simpa [lineAft] using R'
      refine h0 rfl h2 tk' sub' (fr_but F' hI'.2.1 hI'.2.2 b2) (fun z hz => ?_) R2
      rcases List.mem_cons.mp hz with rfl | hz
      · exact ⟨e2, hI'.2⟩
      · have hz' : z ∈ [(I, ciObj (.ref q) (.str (Str.ofString "") tk) false), (q, methodObj (.ref 35) (.ref a.x))] ++ sub' := .tail _ hz
        refine ⟨b2 _ _ ?_ (N' z hz').1, (N' z hz').2⟩
        rcases List.mem_cons.mp hz with rfl | hz
        · exact Ne.symm hIq
        · intro e
          have : z.1 ∈ a.adrs := by rw [← R2.adr]; exact List.mem_map_of_mem hz
          rw [e] at this; exact nI this
    | cons c r =>
      rw [if_neg ?_]
      · exact h1 c r rfl h' tk' sub' t F' N' R'
      · intro e
        have e2 : (Str.ofString "").cps.toList = [c] := congrArg (fun s : Str => s.cps.toList) e
        have e3 : ([] : List Nat) = [c] := e2
        cases e3
end
end Mine
end
noncomputable section
open PySem PySem.W PySem.Calls PyProof.Rows
set_option maxRecDepth 100000
set_option maxHeartbeats 1000000
namespace Mine
local macro_rules | `(tactic| k_ne) => `(tactic| (refine neN ?_; (try dsimp only); first | assumption | exact Ne.symm (by assumption) | exact Nat.ne_of_lt (by assumption) | exact Nat.ne_of_gt (by assumption) | (apply_rules [nex_x, nex_dx, nex_pb, nex_D, nex_ce, nex_lf, nex_lc, nex_sx, nex_sdx, nex_spb, lne43, lne42, lne41, lne32, lne31, lne21]; done) | (refine Ne.symm ?_; apply_rules [nex_x, nex_dx, nex_pb, nex_D, nex_ce, nex_lf, nex_lc, nex_sx, nex_sdx, nex_spb, lne43, lne42, lne41, lne32, lne31, lne21]; done) | exact row5 (by assumption) | exact row3 (by assumption) | omega))
local macro_rules | `(tactic| walk_at "call builtin:list.append") => `(tactic| (k_here; k_dflt (refine' append_K ?k1 ?k2 ?k3 ?_ ?z; (case k1 => k_asm); (case k2 => k_asm); (case k3 => k_upd); (case z => (rw [PySem.sizeLine_eq]; (try rw [List.size_toArray]); omega)); k_whole); intro h' F' N'; (try k_sweep)))
section
variable {w : World} {p : Program} {loose : List Str} {mean : ExcName → Option Value} {mg mb : Str → Option Value}
/-- push_token, on a lexer of the law's -/
theorem ct_pushR (a : LexA) (line : Int) (pv : Array Value) (hv : pv.size < 1000000) (v : Value) (cs : List Nat) (l : Led) (R : LexR w a line pv cs l) :
    Ct w p loose mean mg mb 10 100 49 [.ref a.x, v] l fun r l' => r = .none ∧ LexR w a line (pv.push v) cs l' := by
  obtain ⟨pm, ctv, pn, sv, sn, t, ts, u, oc, olc, vl, tq, qv, qn, rfl, hs, ho, d1, d2, nd⟩ := R
  intro A h₀ s Q E hA hd hu X T st O ret
  k_dflt (refine' ct_def (binds := [(Str.ofString "self", .ref a.x), (Str.ofString "token", v)]) (sub := _) X T st O ?k6 ?k7 ?k8 ?k9 ?kB ret ?_ ?c2 ?c3 ?c4 ?c5)
  (case k6 => k_is); (case k7 => k_is); (case k8 => omega); (case k9 => first | exact BindsTo.of_eq rfl | exact binds_K (by k_in) rfl (by k_is) rfl rfl rfl); (case c5 => decide); (case kB => exact locs rfl); (case c2 => exact rfl); (case c3 => exact rfl); (case c4 => exact rfl)
  clear ret O st T X; intro g L h₁ X T F N hlt; (try dsimp only); (try k_fold)
  obtain ⟨p1, p2, p3, p4, p5, p6, p7, p8, p9⟩ := nd.pb
  k_steps
  with_reducible rename Fr _ _ _ _ => F7
  with_reducible rename News _ _ _ _ => N7
  refine lv_ret F7 N7 (by rfl) ⟨rfl, pm, ctv, _, sv, sn, t, ts, u, oc, olc, vl, tq, qv, qn, rfl, hs, ho, d1, d2, nd⟩
end
end Mine
end
noncomputable section
open PySem PySem.W PySem.Calls PyProof.Rows
set_option maxRecDepth 100000
set_option maxHeartbeats 1000000
namespace Mine
noncomputable abbrev ciL (I q x : Addr) (tk : Tok) (l : Led) : Led := (I, ciObj (.ref q) (.str (Str.ofString "") tk) false) :: (q, methodObj (.ref 35) (.ref x)) :: l
noncomputable abbrev ciE (I q x : Addr) (l : Led) : Led := (I, ciEnd) :: (q, methodObj (.ref 35) (.ref x)) :: l
section
variable {w : World} {p : Program} {loose : List Str} {mean : ExcName → Option Value} {mg mb : Str → Option Value} {A : Around} {s : Shared} {h₀ : Heap} {L : Addr}
noncomputable abbrev CiLoc := List Nat → Int → (Str → Option Value) → Prop
/-- what a loop over the reader's iterator knows -/
noncomputable def CiAt (w : World) (h₀ : Heap) (L : Addr) (I q : Addr) (a : LexA) (pv : Array Value) (tk : Tok) (J : CiLoc) (De : Int → (Str → Option Value) → Prop) (s : Shared) (n : Nat) (s' : Shared) : Prop :=
  s' = { s with heap := s'.heap, toks := s'.toks } ∧
  ((∃ cs line m l, n = cs.length + 1 ∧ cs.length < 1000 ∧ Fr h₀ L s'.heap m ∧ News h₀ L s'.heap (ciL I q a.x tk l) ∧ LexR w a line pv cs l ∧ J cs line m) ∨
   (∃ line m l, n = 0 ∧ Fr h₀ L s'.heap m ∧ News h₀ L s'.heap (ciE I q a.x l) ∧ LexR w a line pv [] l ∧ De line m))
/-- how a turn ends -/
noncomputable def CiTurn (w : World) (h₀ : Heap) (L : Addr) (I q : Addr) (a : LexA) (pv : Array Value) (tk : Tok) (J : CiLoc) (De : Int → (Str → Option Value) → Prop) (s : Shared) (k : Nat) (Q : Flow → Shared → Prop) (f : Flow) (s' : Shared) : Prop :=
  match f with
  | .ret v => Q (.ret v) s'
  | .brk => Q .next s'
  | _ => ∃ n, n ≤ k ∧ CiAt w h₀ L I q a pv tk J De s n s'
theorem ci_ret {I q : Addr} {a : LexA} {pv : Array Value} {tk : Tok} {J : CiLoc} {De : Int → (Str → Option Value) → Prop} {s s' : Shared} {k : Nat} {Q : Flow → Shared → Prop} {v : Value} (h : Q (.ret v) s') : CiTurn w h₀ L I q a pv tk J De s k Q (.ret v) s' := h
theorem for_ci {I q : Addr} {a : LexA} {line : Int} {pv : Array Value} {cs : List Nat} {l : Led} {tk : Tok} {m : Str → Option Value} {Q : Flow → Shared → Prop} {E : Value → Shared → Prop} {cn : Str} {csc : Scope} {ca : Addr} {ccd : Value} {cl : List (Str × Addr)} {x fi : Str} {body : List Stmt} {px pf pos : Pos}
    (J : CiLoc) (De : Int → (Str → Option Value) → Prop)
    (F : Fr h₀ L s.heap m) (X : (K w.params).In h₀) (T : Top p loose mean mg mb h₀) (N : News h₀ L s.heap (ciL I q a.x tk l)) (R : LexR w a line pv cs l) (hlen : cs.length < 1000)
    (hA : A.handled = none) (hd : A.depth + 6 < recursionLimit) (hu : A.units + 70 < cLine) (nI : I ∉ a.adrs) (nq : q ∉ a.adrs) (hIq : I ≠ q) (hm : m fi = some (.ref I)) (hj : J cs line m)
    (turn : ∀ c r line m₁ t h tk' l, r.length < 999 → J (c :: r) line m₁ → LexR w a (lineAft line (c :: r)) pv r l → Fr h₀ L h (fun y => if y = x then some (.str ⟨#[c]⟩ t) else m₁ y) → News h₀ L h (ciL I q a.x tk l) →
      wpAny (model prog w) A (execs body (envX cn csc L ca ccd cl)) (CiTurn w h₀ L I q a pv tk J De s (r.length + 1) Q) (fun _ _ => False) { s with heap := h, toks := tk' })
    (done : ∀ line m₁ h tk l, J [] line m₁ ∨ De line m₁ → LexR w a line pv [] l → Fr h₀ L h m₁ → News h₀ L h (ciE I q a.x l) → Q .next { s with heap := h, toks := tk })
    (hk : csc.kind = .function := by rfl) (hf : (envX cn csc L ca ccd cl).kindOf fi = some .local := by rfl) (hx : (envX cn csc L ca ccd cl).kindOf x = some .local := by rfl) (hdb : (fi == ("__debug__" : Str)) = false := by decide) :
    wpAny (model prog w) A (exec (.For (.Name x px) (.Name fi pf) body [] pos) (envX cn csc L ca ccd cl)) Q E s := by
  refine wpAny_For (nameX_L F hm ?_ hk hf hdb)
  refine iter_ci (N _ (.head _)).1 rfl ?_
  refine codeAny_forLoop (R := fun r s' => match r with | .ok f => Q f s' | .error e => cameBackBy (model prog w) A (envX cn csc L ca ccd cl) E e s') (CiAt w h₀ L I q a pv tk J De s) ?_ (cs.length + 1) ⟨rfl, .inl ⟨cs, line, m, l, rfl, hlen, F, N, R, hj⟩⟩
  rintro n s' ⟨es, ⟨cs, line, m, l, rfl, hlen, F, N, R, hj⟩ | ⟨line, m, l, rfl, F, N, R, hj⟩⟩
  · refine ci_turn F X T N R hlen hA hd hu nI nq hIq (fun e h' tk' l' F' N' R' => ?_) fun c r e h' tk' l' t F' N' R' => ?_
    · refine wpAny_execs_nil ?_
      subst e
      have := done line m h' tk' l' (.inl hj) R' F' N'
      rw [es]; exact this
    · subst e
      refine wpAny_assign_Name (storeX_L F' N' (fun h2 F2 N2 => ?_) hk hx)
      have := turn c r line m t h2 (tk' + 1) l' (by simp at hlen; omega) hj R' F2 N2
      rw [es]
      refine wpAny_mono this (fun f s₂ qq => ?_) fun _ _ x => x.elim
      have fin : (∃ n, n ≤ r.length + 1 ∧ CiAt w h₀ L I q a pv tk J De s n s₂) → ∃ m, m < (c :: r).length + 1 ∧ CiAt w h₀ L I q a pv tk J De s m s₂ := fun ⟨n, hn, z⟩ => ⟨n, by simp; omega, z⟩
      cases f with
      | ret v => exact qq
      | brk => exact qq
      | next => exact fin qq
      | cont => exact fin qq
  · refine next_ended hA (N _ (.head _)).1 fun h' e2 b2 => ?_
    have hI := N _ (.head _)
    refine wpAny_execs_nil ?_
    have := done line m h' s'.toks l (.inr hj) R (fr_but F hI.2.1 hI.2.2 b2) fun z hz => ?_
    · rw [es]; exact this
    · rcases List.mem_cons.mp hz with rfl | hz
      · exact ⟨e2, hI.2⟩
      · have zz := N z (.tail _ hz)
        refine ⟨b2 _ _ ?_ zz.1, zz.2⟩
        rcases List.mem_cons.mp hz with rfl | hz
        · exact Ne.symm hIq
        · intro e
          have : z.1 ∈ a.adrs := by rw [← R.adr]; exact List.mem_map_of_mem hz
          rw [e] at this; exact nI this
end
end Mine
end
noncomputable section
open PySem PySem.W PySem.Calls PyProof.Rows
set_option maxRecDepth 100000
set_option maxHeartbeats 1000000
namespace Mine
theorem one_eq (c d : Nat) : ((⟨#[c]⟩ : Str) == ⟨#[d]⟩) = (c == d) := by
  by_cases h : c = d
  · subst h; simp
  · rw [show (c == d) = false by simpa using h, beq_eq_false_iff_ne]
    intro e
    have e2 : (⟨#[c]⟩ : Str).cps.toList = (⟨#[d]⟩ : Str).cps.toList := congrArg (fun s : Str => s.cps.toList) e
    exact h (by simpa using e2)
theorem sub_one (c : Nat) (i : Nat) (d : Nat) (h : (Str.ofString "\n\t\r ").cps.extract i (i + 1) = #[d]) : Builtin.Str.subAt (Str.ofString "\n\t\r ") ⟨#[c]⟩ i = (c == d) := by
  unfold Builtin.Str.subAt
  show ((Str.ofString "\n\t\r ").cps.extract i (i + 1) == #[c]) = _
  rw [h]
  show (#[d] == #[c]) = _
  by_cases e : c = d
  · subst e; simp
  · rw [show (c == d) = false by simpa using e, beq_eq_false_iff_ne]
    intro q; exact e (by simpa using (congrArg Array.toList q).symm)
theorem sub_end (c : Nat) : Builtin.Str.subAt (Str.ofString "\n\t\r ") ⟨#[c]⟩ 4 = false := by
  unfold Builtin.Str.subAt
  rw [beq_eq_false_iff_ne]
  intro e
  have := congrArg Array.size e
  exact absurd this (by show ¬ (((Str.ofString "\n\t\r ").cps.extract 4 (4 + 1)).size = 1); decide)
theorem occ_ws (c : Nat) : (Builtin.Str.occurrences (Str.ofString "\n\t\r ") ⟨#[c]⟩ 0 (Str.ofString "\n\t\r ").length 1).isEmpty = !ws c := by
  have e0 := sub_one c 0 10 (by decide)
  have e1 := sub_one c 1 9 (by decide)
  have e2 := sub_one c 2 13 (by decide)
  have e3 := sub_one c 3 32 (by decide)
  have e4 := sub_end c
  have hl : (Str.ofString "\n\t\r ").length = 4 := by decide
  have hc : (⟨#[c]⟩ : Str).length = 1 := rfl
  unfold Builtin.Str.occurrences
  rw [hl]
  simp only [Std.Legacy.Range.forIn_eq_forIn_range', Std.Legacy.Range.size, List.range', hc]
  simp [e0, e1, e2, e3, e4, List.range', ws]
  by_cases h0 : c = 10
  · subst h0; rfl
  by_cases h1 : c = 9
  · subst h1; rfl
  by_cases h2 : c = 13
  · subst h2; rfl
  by_cases h3 : c = 32
  · subst h3; rfl
  simp [h0, h1, h2, h3]
theorem app_l (acc b : List Nat) : (⟨acc.toArray⟩ : Str) ++ ⟨b.toArray⟩ = ⟨(acc ++ b).toArray⟩ := by
  show (⟨acc.toArray ++ b.toArray⟩ : Str) = _
  rw [List.append_toArray]
theorem iadd_l {prog : Program} {w : World} {A : Around} {E : Value → Shared → Prop} {s : Shared} {acc b : List Nat} {t u : Tok} {Q : Value → Shared → Prop} (h : ∀ t' tk, Q (.str ⟨(acc ++ b).toArray⟩ t') { s with toks := tk }) (hz : acc.length + b.length ≤ 100000) :
    wpAny (model prog w) A (inplaceOp .Add (.str ⟨acc.toArray⟩ t) (.str ⟨b.toArray⟩ u)) Q E s :=
  iadd_str (fun t' tk => by rw [app_l]; exact h t' tk) (by
    show acc.toArray.size + b.toArray.size ≤ _
    rw [PySem.sizeLine_eq, List.size_toArray, List.size_toArray]; omega)
theorem is_q {c : Nat} : ((⟨#[c]⟩ : Str) == Str.ofString "\"") = (c == 34) := one_eq c 34
theorem is_b {c : Nat} : ((⟨#[c]⟩ : Str) == Str.ofString "\\") = (c == 92) := one_eq c 92
end Mine
end
noncomputable section
open PySem PySem.W PySem.Calls PyProof.Rows
namespace Mine
/-- a goal at which the walk shall stand still -/
noncomputable def Stop (P : Prop) : Prop := P
theorem stopped {P : Prop} (h : Stop P) : P := h
theorem unstop {P : Prop} (h : P) : Stop P := h
/-- a value that is computed and makes nothing -/
noncomputable def CutV (P : Value → Prop) (s : Shared) (v : Value) (s' : Shared) : Prop := P v ∧ ∃ tk, s' = { s with toks := tk }
theorem CutV.mk {P : Value → Prop} {s : Shared} {v : Value} {tk : Nat} (h : P v) : CutV P s v { s with toks := tk } := ⟨h, tk, rfl⟩
theorem cutV {M : Model} {A : Around} {E : Value → Shared → Prop} {s : Shared} {m : Sem Value} {Q : Value → Shared → Prop} (P : Value → Prop)
    (h1 : wpAny M A m (CutV P s) E s) (h2 : ∀ v tk, P v → Q v { s with toks := tk }) : wpAny M A m Q E s :=
  wpAny_mono h1 (fun v s' ⟨hp, tk, e⟩ => by rw [e]; exact h2 v tk hp) fun _ _ e => e
/-- a value that is computed; what is made on the way is forgotten -/
noncomputable def CutN (h₀ : Heap) (L : Addr) (m : Str → Option Value) (news : Led) (P : Value → Prop) (s : Shared) (v : Value) (s' : Shared) : Prop := P v ∧ Fr h₀ L s'.heap m ∧ News h₀ L s'.heap news ∧ ∃ h' tk, s' = { s with heap := h', toks := tk }
theorem CutN.mk {h₀ : Heap} {L : Addr} {m : Str → Option Value} {news all : Led} {P : Value → Prop} {s : Shared} {v : Value} {h' : Heap} {tk : Nat} (F : Fr h₀ L h' m) (N : News h₀ L h' all) (hs : ∀ p ∈ news, p ∈ all) (h : P v) :
    CutN h₀ L m news P s v { s with heap := h', toks := tk } := ⟨h, F, fun p hp => N p (hs p hp), _, _, rfl⟩
theorem cutN {M : Model} {A : Around} {E : Value → Shared → Prop} {s : Shared} {c : Sem Value} {Q : Value → Shared → Prop} {h₀ : Heap} {L : Addr} {m : Str → Option Value} {news : Led} (_F : Fr h₀ L s.heap m) (_N : News h₀ L s.heap news) (P : Value → Prop)
    (h1 : wpAny M A c (CutN h₀ L m news P s) E s) (h2 : ∀ v h' tk, Fr h₀ L h' m → News h₀ L h' news → P v → Q v { s with heap := h', toks := tk }) : wpAny M A c Q E s :=
  wpAny_mono h1 (fun v s' ⟨hp, F, N, h', tk, e⟩ => by rw [e] at F N ⊢; exact h2 v h' tk F N hp) fun _ _ e => e
noncomputable def IsStr (x : List Nat) (v : Value) : Prop := ∃ t, v = .str ⟨x.toArray⟩ t
theorem IsStr.mk (x : List Nat) (t : Tok) : IsStr x (.str ⟨x.toArray⟩ t) := ⟨t, rfl⟩
theorem len_l {prog : Program} {w : World} {A : Around} {E : Value → Shared → Prop} {s : Shared} {l : List Nat} {t : Tok} {Q : Value → Shared → Prop} (hz : l.length < 1000000) (h : ∀ t' tk, Q (.int (l.length : Int) t') { s with toks := tk }) :
    wpAny (model prog w) A (call (.builtin "len") [.str ⟨l.toArray⟩ t]) Q E s := by
  have e : (⟨l.toArray⟩ : Str).length = l.length := by show l.toArray.size = _; rw [List.size_toArray]
  exact PySem.P.len_str (by rw [e]; omega) (by rw [e]; exact h _ _)
theorem badd_s {prog : Program} {w : World} {A : Around} {E : Value → Shared → Prop} {s : Shared} {a : List Nat} {y : Str} {t u : Tok} {Q : Value → Shared → Prop} (hz : a.length + y.length ≤ 100000) (h : ∀ t' tk, Q (.str ⟨(a ++ y.cps.toList).toArray⟩ t') { s with toks := tk }) :
    wpAny (model prog w) A (binaryOp .Add (.str ⟨a.toArray⟩ t) (.str y u)) Q E s :=
  PyProof.Rows.add_str (fun t' tk => by
    have e : (⟨a.toArray⟩ : Str) ++ y = ⟨(a ++ y.cps.toList).toArray⟩ := by
      show (⟨a.toArray ++ y.cps⟩ : Str) = _
      rw [← List.append_toArray, Array.toArray_toList]
    rw [e]; exact h t' tk) (by
    show a.toArray.size + _ ≤ _
    rw [PySem.sizeLine_eq, List.size_toArray]; omega)
theorem iadd_s {prog : Program} {w : World} {A : Around} {E : Value → Shared → Prop} {s : Shared} {a : List Nat} {y : Str} {t u : Tok} {Q : Value → Shared → Prop} (hz : a.length + y.length ≤ 100000) (h : ∀ t' tk, Q (.str ⟨(a ++ y.cps.toList).toArray⟩ t') { s with toks := tk }) :
    wpAny (model prog w) A (inplaceOp .Add (.str ⟨a.toArray⟩ t) (.str y u)) Q E s :=
  PyProof.Rows.iadd_str (fun t' tk => by
    have e : (⟨a.toArray⟩ : Str) ++ y = ⟨(a ++ y.cps.toList).toArray⟩ := by
      show (⟨a.toArray ++ y.cps⟩ : Str) = _
      rw [← List.append_toArray, Array.toArray_toList]
    rw [e]; exact h t' tk) (by
    show a.toArray.size + _ ≤ _
    rw [PySem.sizeLine_eq, List.size_toArray]; omega)
theorem iadd_c {prog : Program} {w : World} {A : Around} {E : Value → Shared → Prop} {s : Shared} {a b : List Nat} {t u : Tok} {Q : Value → Shared → Prop} (hb : b.length ≤ 10) (hz : a.length ≤ 90000) (h : ∀ t' tk, Q (.str ⟨(a ++ b).toArray⟩ t') { s with toks := tk }) :
    wpAny (model prog w) A (inplaceOp .Add (.str ⟨a.toArray⟩ t) (.str ⟨b.toArray⟩ u)) Q E s :=
  iadd_s (y := ⟨b.toArray⟩) (by show _ + b.toArray.size ≤ _; rw [List.size_toArray]; omega) h
/-- an inequality of addresses that omega shall not see -/
noncomputable def NeN (a b : Nat) : Prop := a ≠ b
theorem ne_NeN (a b : Nat) : (a ≠ b) = NeN a b := rfl
theorem NeN.out {a b : Nat} (h : NeN a b) : a ≠ b := h
theorem NeN.sym {a b : Nat} (h : NeN b a) : a ≠ b := Ne.symm h
/-- a fact laid by: omega shall not see it -/
noncomputable def Hid (P : Prop) : Prop := P
theorem Hid.mk {P : Prop} (h : P) : Hid P := h
theorem Hid.out {P : Prop} (h : Hid P) : P := h
/-- while this stands in the context, the own stops are passed by -/
noncomputable def Mark : Prop := True
theorem IsS.intro (x : Str) (t : Tok) : ∃ t', Value.str x t = .str x t' := ⟨t, rfl⟩
end Mine
end
noncomputable section
open PySem PySem.W PySem.Calls PyProof.Rows
set_option maxRecDepth 100000
set_option maxHeartbeats 1000000
namespace Mine
local macro_rules | `(tactic| walk_at "exec For Name Name cons nil") => `(tactic| refine stopped ?_)
local macro_rules | `(tactic| ktr_rel) => `(tactic| (refine lv_ret (by k_asm) (by k_asm) (by rfl) ?_))
local macro_rules | `(tactic| k_ne) => `(tactic| (refine neN ?_; (try dsimp only); first | assumption | exact Ne.symm (by assumption) | exact Nat.ne_of_lt (by assumption) | exact Nat.ne_of_gt (by assumption) | (apply_rules [nex_x, nex_dx, nex_pb, nex_D, nex_ce, nex_lf, nex_lc, nex_sx, nex_sdx, nex_spb, lne43, lne42, lne41, lne32, lne31, lne21]; done) | (refine Ne.symm ?_; apply_rules [nex_x, nex_dx, nex_pb, nex_D, nex_ce, nex_lf, nex_lc, nex_sx, nex_sdx, nex_spb, lne43, lne42, lne41, lne32, lne31, lne21]; done) | exact row5 (by assumption) | exact row3 (by assumption) | omega))
local macro_rules | `(tactic| walk_at "call builtin:iter") => `(tactic| refine stopped ?_)
local macro_rules | `(tactic| walk_at "inplaceOp Add str str") => `(tactic| (k_dflt (refine' iadd_l ?_ ?hz; (case hz => (simp only [List.length_cons, List.length_nil, List.length_take]; first | exact tsum2 (by assumption) | exact tsum3 (by assumption) | omega))); intro _ _))
/-- what the loops of get_token keep -/
inductive TokA (a : LexA) (I : Addr) (cs : List Nat) (line : Int) (cs' : List Nat) (line' : Int) (m : Str → Option Value) : Prop
  | mk (hm : ∀ y, y ∉ [Str.ofString "ch", Str.ofString "token"] → m y = up [(Str.ofString "fiter", some (Value.ref I))] (fun y => List.lookup y [(Str.ofString "self", Value.ref a.x)].reverse) y) (t : Tok) (ht : m (Str.ofString "token") = some (.str ⟨([] : List Nat).toArray⟩ t)) (h : tokT cs' line' = tokT cs line) : TokA a I cs line cs' line' m
inductive TokB (bT : List Nat → List Nat → Int → List Nat × Int × List Nat) (a : LexA) (I : Addr) (cs : List Nat) (line : Int) (cs' : List Nat) (line' : Int) (m : Str → Option Value) : Prop
  | mk (hm : ∀ y, y ∉ [Str.ofString "ch", Str.ofString "token"] → m y = up [(Str.ofString "fiter", some (Value.ref I))] (fun y => List.lookup y [(Str.ofString "self", Value.ref a.x)].reverse) y) (acc : List Nat) (t : Tok) (ht : m (Str.ofString "token") = some (.str ⟨acc.toArray⟩ t)) (ha : acc.length + cs'.length < 1001) (h : tokT cs line = bT cs' acc line') : TokB bT a I cs line cs' line' m
inductive TokD (a : LexA) (I : Addr) (cs : List Nat) (line : Int) (line' : Int) (m : Str → Option Value) : Prop
  | mk (hm : ∀ y, y ∉ [Str.ofString "ch", Str.ofString "token"] → m y = up [(Str.ofString "fiter", some (Value.ref I))] (fun y => List.lookup y [(Str.ofString "self", Value.ref a.x)].reverse) y) (out : List Nat) (t : Tok) (ht : m (Str.ofString "token") = some (.str ⟨out.toArray⟩ t)) (h : tokT cs line = (out, line', [])) : TokD a I cs line line' m
/-- where the two ways behind a bare word's first sign meet -/
inductive TokM (w : World) (g : Heap) (L : Addr) (s : Shared) (a : LexA) (I q : Addr) (tk : Tok) (cs : List Nat) (line : Int) (fl : Flow) (s' : Shared) : Prop
  | mk (h' : Heap) (tk' : Nat) (m : Str → Option Value) (l : Led) (cs' : List Nat) (line' : Int) (x : List Nat) (t t0 : Tok) (e1 : fl = .next) (e2 : s' = { s with heap := h', toks := tk' }) (F : Fr g L h' m) (N : News g L h' (ciL I q a.x tk l)) (R : LexR w a line' #[] cs' l)
    (hm : ∀ y, y ∉ [Str.ofString "ch", Str.ofString "token"] → m y = up [(Str.ofString "fiter", some (Value.ref I))] (fun y => List.lookup y [(Str.ofString "self", Value.ref a.x)].reverse) y) (h2 : m (Str.ofString "token") = some (.str ⟨([] : List Nat).toArray⟩ t0)) (h3 : m (Str.ofString "ch") = some (.str ⟨x.toArray⟩ t)) (hx : x.length ≤ 1) (hl : cs'.length < 999 + 1) (hb : tokT cs line = bareT cs' x line') : TokM w g L s a I q tk cs line fl s'
noncomputable def MarkG : Prop := True
theorem stop_ifA {M : Model} {A : Around} {env : Env} {t v : Expr} {ts : List Expr} {p1 p2 : Pos} {Q : Flow → Shared → Prop} {E : Value → Shared → Prop} {s : Shared} (h : Stop (wpAny M A (exec (Stmt.If t [Stmt.Assign ts v p1] [] p2) env) Q E s)) : wpAny M A (exec (Stmt.If t [Stmt.Assign ts v p1] [] p2) env) Q E s := h
local macro_rules | `(tactic| walk_at "exec If") => `(tactic| ((fail_if_success (rename MarkG => mk9)); with_reducible refine stop_ifA ?_))
section
variable {w : World} {p : Program} {loose : List Str} {mean : ExcName → Option Value} {mg mb : Str → Option Value}
theorem ct_pop (a : LexA) (line : Int) (v : Value) (vs : List Value) (hv : vs.length < 1000000) (cs : List Nat) (l : Led) (R : LexR w a line (v :: vs).toArray cs l) :
    Ct w p loose mean mg mb 10 100 42 [.ref a.x] l fun r l' => r = v ∧ LexR w a line vs.toArray cs l' := by
  obtain ⟨pm, ctv, pn, sv, sn, t, ts, u, oc, olc, vl, tq, qv, qn, rfl, hs, ho, d1, d2, nd⟩ := R
  intro A h₀ s Q E hA hd hu X T st O ret
  k_dflt (refine' ct_def (binds := [(Str.ofString "self", .ref a.x)]) (sub := _) X T st O ?k6 ?k7 ?k8 ?k9 ?kB ret ?_ ?c2 ?c3 ?c4 ?c5)
  (case k6 => k_is); (case k7 => k_is); (case k8 => omega); (case k9 => first | exact BindsTo.of_eq rfl | exact binds_K (by k_in) rfl (by k_is) rfl rfl rfl); (case c5 => decide); (case kB => exact locs rfl); (case c2 => exact rfl); (case c3 => exact rfl); (case c4 => exact rfl)
  clear ret O st T X; intro g L h₁ X T F N hlt; (try dsimp only); (try k_fold)
  obtain ⟨p1, p2, p3, p4, p5, p6, p7, p8, p9⟩ := nd.pb
  k_steps
  refine wpAny_truthy_list (News.isList N (.tail _ (.tail _ (.head _)))) (by show ((vs.length + 1 : Nat) : Int) < 2 ^ 63; omega) ?_
  rw [show (!(v :: vs).toArray.isEmpty) = true from rfl]
  k_steps
  have hl : vs.length + 1 ≤ sizeLine := by rw [PySem.sizeLine_eq]; omega
  k_dflt (refine' kl_popAt (its := (v :: vs).toArray) (k := 0) (p := []) (q := vs) (y := v) ?F ?N ?a ?b ?c ?U ?z ?h; (case F => k_asm); (case N => k_asm); (case a => rfl); (case b => exact PySem.seqIndex_of (by omega) (by show (0 : Int) < (((vs.length + 1 : Nat)) : Int); omega)); (case c => rfl); (case U => k_upd); (case z => exact hl))
  intro h' F' N'
  refine lv_ret F' N' (by rfl) ⟨rfl, pm, ctv, _, sv, sn, t, ts, u, oc, olc, vl, tq, qv, qn, rfl, hs, ho, d1, d2, nd⟩
theorem ct_tok (a : LexA) (line : Int) (cs : List Nat) (hc : cs.length < 1000) (l : Led) (R : LexR w a line #[] cs l) :
    Ct w p loose mean mg mb 10 100 42 [.ref a.x] l fun v l' => ∃ t, v = .str ⟨(tokT cs line).1.toArray⟩ t ∧ LexR w a (tokT cs line).2.1 #[] (tokT cs line).2.2 l' := by
  have RR := R
  obtain ⟨pm, ctv, pn, sv, sn, t, ts, u, oc, olc, vl, tq, qv, qn, rfl, hs, ho, d1, d2, nd⟩ := R
  intro A h₀ s Q E hA hd hu X T st O ret
  k_dflt (refine' ct_def (binds := [(Str.ofString "self", .ref a.x)]) (sub := _) X T st O ?k6 ?k7 ?k8 ?k9 ?kB ret ?_ ?c2 ?c3 ?c4 ?c5)
  (case k6 => k_is); (case k7 => k_is); (case k8 => omega); (case k9 => first | exact BindsTo.of_eq rfl | exact binds_K (by k_in) rfl (by k_is) rfl rfl rfl); (case c5 => decide); (case kB => exact locs rfl); (case c2 => exact rfl); (case c3 => exact rfl); (case c4 => exact rfl)
  clear ret O st T X; intro g L h₁ X T F N hlt; (try dsimp only); (try k_fold)
  have eL := LexR.adr RR
  k_steps
  refine unstop ?_
  k_dflt (refine' iter_K ?F ?N ?m ?_; (case F => k_asm); (case N => k_asm); (case m => k_mem))
  intro I hh1 F' N' lI
  (try k_lt lI)
  (try k_sweep)
  k_steps
  refine unstop ?_
  with_reducible rename Fr _ _ _ _ => F2
  with_reducible rename News _ _ _ _ => N2
  rename_i tk0 hh3 q hh2 lq hh0
  have nI : I ∉ a.adrs := off_gt RR.ord lI.2.2.2.1
  have nq : q ∉ a.adrs := off_gt RR.ord lq.2.2.1
  have hIq : I ≠ q := Nat.ne_of_gt lI.1
  k_dflt (refine for_ci (pv := #[]) (line := line) (cs := cs) (TokA a I cs line) (TokD a I cs line) F2 X T N2 RR hc hA (dOk hd) (uOk hu) ?nI ?nq ?hIq (by rfl) ?hj ?turn ?done ?hk ?hf ?hx ?hdb)
  case hk => rfl
  case hf => rfl
  case hx => rfl
  case hdb => decide
  case nI => exact nI
  case nq => exact nq
  case hIq => exact neN hIq
  case hj =>
    refine ⟨?_, _, rfl, rfl⟩
    (intro y hy; simp only [List.map_cons, List.map_nil, List.mem_cons, List.not_mem_nil, or_false, not_or] at hy; (try dsimp only [up]); (try simp only [hy, if_false, ite_false]); first | done | rfl)
  case turn =>
    rintro c r line1 m₁ t1 h1 tk1 l1 hr ⟨hm, t0, ht, htok⟩ R1 F1 N1
    obtain ⟨u0, hu0⟩ : ∃ u, m₁ (Str.ofString "ch") = u := ⟨_, rfl⟩
    rw [loc_up [(Str.ofString "ch", u0), (Str.ofString "token", some (.str ⟨([] : List Nat).toArray⟩ t0))] hm (by simp [ht, hu0])] at F1
    dsimp only [up] at F1
    have R1' := R1
    obtain ⟨pm1, ctv1, pn1, sv1, sn1, t11, ts1, u1, oc1, olc1, vl1, tq1, qv1, qn1, rfl, hs1, ho1, d11, d21, -⟩ := R1
    clear F2 N2
    k_steps
    rotate_left
    · rename List.isEmpty _ = true => hw2
      rename ((⟨#[c]⟩ : Str) == Str.ofString "\"") = false => hq2
      rw [is_q] at hq2; rw [occ_ws] at hw2
      have hw : ¬ ws c = true := by simpa using hw2
      have hq : ¬ c = 34 := by simpa using hq2
      refine unstop ?_
      refine wpAny_mono (Q := TokM w g L s a I q (tk0 + 1 + 1 + 1) cs line) ?_ (fun fl s' M => ?_) (fun _ _ e => e)
      · have mkg : MarkG := trivial
        k_steps
        · rename ((⟨#[c]⟩ : Str) == Str.ofString "\\") = true => hb2
          rw [is_b] at hb2
          have hb : c = 92 := by simpa using hb2
          rw [tokT, if_neg hw, if_neg hq, if_pos hb] at htok
          replace htok := htok.symm
          with_reducible rename Fr _ _ _ _ => F5
          with_reducible rename News _ _ _ _ => N5
          dsimp only [List.cons_append, List.nil_append]
          refine Ct.use (ct_read a (lineAft line1 (c :: r)) #[] r (by omega) _ R1') (rest := [(I, ciObj (.ref q) (.str (Str.ofString "") (tk0 + 1 + 1 + 1)) false), (q, methodObj (.ref 35) (.ref a.x))]) F5 X N5 T hA (dOk hd) (uOk hu) (fun z hz => .tail _ (.tail _ hz)) ?hr fun rr sub' h6 tk6 F6 N6 ne6 P6 => ?_
          case hr =>
            intro z hz
            rw [R1'.adr]
            rcases List.mem_cons.mp hz with rfl | hz
            · exact ⟨.head _, nI⟩
            · rw [List.mem_singleton.mp hz]; exact ⟨.tail _ (.head _), nq⟩
          obtain ⟨tr, rfl, R6'⟩ := P6
          clear F5 N5
          simp only [List.cons_append, List.nil_append] at N6
          k_steps
          with_reducible rename Fr _ _ _ _ => F8
          with_reducible rename News _ _ _ _ => N8
          refine ⟨_, _, _, _, _, _, _, _, _, rfl, rfl, F8, N8, R6', ?_, rfl, rfl, List.length_take_le _ _, ?_, htok⟩
          · (intro y hy; simp only [List.map_cons, List.map_nil, List.mem_cons, List.not_mem_nil, or_false, not_or] at hy; (try dsimp only [up]); (try simp only [hy, if_false, ite_false]); first | done | rfl)
          · rw [List.length_tail]; omega
        · rename ((⟨#[c]⟩ : Str) == Str.ofString "\\") = false => hb2
          rw [is_b] at hb2
          have hb : ¬ c = 92 := by simpa using hb2
          rw [tokT, if_neg hw, if_neg hq, if_neg hb] at htok
          replace htok := htok.symm
          refine ⟨_, _, _, _, _, _, [c], _, _, rfl, rfl, F1, N1, R1', ?_, rfl, rfl, Nat.le_refl _, Nat.lt_succ_of_lt hr, htok⟩
          (intro y hy; simp only [List.map_cons, List.map_nil, List.mem_cons, List.not_mem_nil, or_false, not_or] at hy; (try dsimp only [up]); (try simp only [hy, if_false, ite_false]); first | done | rfl)
      obtain ⟨h8, tk8, m8, l8, cs8, line8, x8, t8, t80, rfl, rfl, F8, N8, R8, hm8, h82, h83, hx8, hl8, hb8⟩ := M
      rw [loc_up [(Str.ofString "ch", some (.str ⟨x8.toArray⟩ t8)), (Str.ofString "token", some (.str ⟨([] : List Nat).toArray⟩ t80))] hm8 (by simp [h82, h83])] at F8
      dsimp only [up] at F8
      clear F1 N1
      k_steps
      refine unstop ?_
      with_reducible rename Fr _ _ _ _ => F8
      with_reducible rename News _ _ _ _ => N8
      k_dflt (refine for_ci (pv := #[]) (line := line8) (cs := cs8) (TokB bareT a I cs line) (TokD a I cs line) F8 X T N8 R8 hl8 hA (dOk hd) (uOk hu) nI nq ?hIq2 (by rfl) ?hj2 ?turn2 ?done2 ?hk2 ?hf2 ?hx2 ?hdb2)
      case hk2 => rfl
      case hf2 => rfl
      case hx2 => rfl
      case hdb2 => decide
      case hIq2 => exact neN hIq
      case hj2 =>
        refine ⟨?_, x8, _, rfl, by omega, hb8⟩
        (intro y hy; simp only [List.map_cons, List.map_nil, List.mem_cons, List.not_mem_nil, or_false, not_or] at hy; (try dsimp only [up]); (try simp only [hy, if_false, ite_false]); first | done | rfl)
      case turn2 =>
        have mkg : MarkG := trivial
        rintro d r3 line3 m3 t3 h3 tk3 l3 hr3 ⟨hm3, acc3, t30, ht3, ha3, htok3⟩ R3 F3 N3
        simp only [List.length_cons] at ha3
        obtain ⟨u3, hu3⟩ : ∃ u, m3 (Str.ofString "ch") = u := ⟨_, rfl⟩
        rw [loc_up [(Str.ofString "ch", u3), (Str.ofString "token", some (.str ⟨acc3.toArray⟩ t30))] hm3 (by simp [ht3, hu3])] at F3
        dsimp only [up] at F3
        have R3' := R3
        obtain ⟨pm3, ctv3, pn3, sv3, sn3, t13, ts3, u3, oc3, olc3, vl3, tq3, qv3, qn3, rfl, hs3, ho3, d13, d23, -⟩ := R3
        clear F8 N8
        k_steps
        · rename List.isEmpty _ = true => hw3; rw [occ_ws] at hw3; replace hw3 : ws d = false := by simpa using hw3
          rename ((⟨#[d]⟩ : Str) == Str.ofString "\\") = true => hb3; rw [is_b] at hb3
          rw [bareT, if_neg (by simp [hw3]), if_pos (by simpa using hb3)] at htok3
          with_reducible rename Fr _ _ _ _ => F5
          with_reducible rename News _ _ _ _ => N5
          dsimp only [List.cons_append, List.nil_append]
          refine Ct.use (ct_read a (lineAft line3 (d :: r3)) #[] r3 (by omega) _ R3') (rest := [(I, ciObj (.ref q) (.str (Str.ofString "") (tk0 + 1 + 1 + 1)) false), (q, methodObj (.ref 35) (.ref a.x))]) F5 X N5 T hA (dOk hd) (uOk hu) (fun z hz => .tail _ (.tail _ hz)) ?hr fun rr sub' h6 tk6 F6 N6 ne6 P6 => ?_
          case hr =>
            intro z hz
            rw [R3'.adr]
            rcases List.mem_cons.mp hz with rfl | hz
            · exact ⟨.head _, nI⟩
            · rw [List.mem_singleton.mp hz]; exact ⟨.tail _ (.head _), nq⟩
          obtain ⟨tr, rfl, R6⟩ := P6
          have R6' := R6
          obtain ⟨pm2, ctv2, pn2, sv2, sn2, t12, ts2, u2, oc2, olc2, vl2, tq2, qv2, qn2, rfl, hs2, ho2, d12, d22, -⟩ := R6
          clear F5 N5
          simp only [List.cons_append, List.nil_append] at N6
          k_steps
          refine ⟨r3.tail.length + 1, by rw [List.length_tail]; exact Nat.add_le_add_right (Nat.sub_le ..) 1, rfl, .inl ⟨r3.tail, _, _, _, rfl, by rw [List.length_tail]; exact Nat.lt_of_le_of_lt (Nat.sub_le ..) (Nat.lt_succ_of_lt hr3), by k_asm, by k_asm, R6', ?_, acc3 ++ r3.take 1, _, rfl, by (simp only [List.length_append, List.length_take, List.length_tail]; exact tsum1 ha3), htok3⟩⟩
          (intro y hy; simp only [List.map_cons, List.map_nil, List.mem_cons, List.not_mem_nil, or_false, not_or] at hy; (try dsimp only [up]); (try simp only [hy, if_false, ite_false]); first | done | rfl)
        · rename List.isEmpty _ = true => hw3; rw [occ_ws] at hw3; replace hw3 : ws d = false := by simpa using hw3
          rename ((⟨#[d]⟩ : Str) == Str.ofString "\\") = false => hb3; rw [is_b] at hb3
          rw [bareT, if_neg (by simp [hw3]), if_neg (by simpa using hb3)] at htok3
          refine ⟨r3.length + 1, Nat.le_refl _, rfl, .inl ⟨r3, _, _, _, rfl, by omega, by k_asm, by k_asm, R3', ?_, acc3 ++ [d], _, rfl, by (simp only [List.length_append, List.length_cons, List.length_nil]; exact tsum4 ha3), htok3⟩⟩
          (intro y hy; simp only [List.map_cons, List.map_nil, List.mem_cons, List.not_mem_nil, or_false, not_or] at hy; (try dsimp only [up]); (try simp only [hy, if_false, ite_false]); first | done | rfl)
        · rename List.isEmpty _ = false => hw3; rw [occ_ws] at hw3; replace hw3 : ws d = true := by simpa using hw3
          rw [bareT, if_pos hw3] at htok3
          with_reducible rename Fr _ _ _ _ => F7
          with_reducible rename News _ _ _ _ => N7
          refine ci_ret ?_
          refine ci_ret ?_
          refine lv_ret F7 (fun z hz => N7 z (.tail _ (.tail _ hz))) (by rfl) ⟨t30, ?_, ?_⟩
          · rw [htok3]
          · rw [htok3]; exact R3'
      case done2 =>
        rintro line3 m3 h3 tk3 l3 hj3 R3 F3 N3
        have hj4 : TokD a I cs line line3 m3 := by
          rcases hj3 with ⟨hm3, acc3, t3, ht3, -, htok3⟩ | hj3
          · exact ⟨hm3, acc3, t3, ht3, by rw [htok3, bareT]⟩
          · exact hj3
        clear hj3
        k_steps
        exact ⟨0, Nat.zero_le _, rfl, .inr ⟨line3, m3, l3, rfl, F3, N3, R3, hj4⟩⟩
    · rename List.isEmpty _ = false => hw2
      rw [occ_ws] at hw2
      have hw : ws c = true := by simpa using hw2
      rw [tokT, if_pos hw] at htok
      refine ⟨r.length + 1, Nat.le_refl _, rfl, .inl ⟨r, lineAft line1 (c :: r), _, _, rfl, by omega, F1, N1, R1', ?_, t0, rfl, htok⟩⟩
      (intro y hy; simp only [List.map_cons, List.map_nil, List.mem_cons, List.not_mem_nil, or_false, not_or] at hy; (try dsimp only [up]); (try simp only [hy, if_false, ite_false]); first | done | rfl)
    · rename List.isEmpty _ = true => hw2
      rename ((⟨#[c]⟩ : Str) == Str.ofString "\"") = true => hq2
      rw [is_q] at hq2; rw [occ_ws] at hw2
      have hw : ¬ ws c = true := by simpa using hw2
      have hq : c = 34 := by simpa using hq2
      rw [tokT, if_neg hw, if_pos hq] at htok
      replace htok := htok.symm
      refine unstop ?_
      with_reducible rename Fr _ _ _ _ => F8
      with_reducible rename News _ _ _ _ => N8
      k_dflt (refine for_ci (pv := #[]) (line := lineAft line1 (c :: r)) (cs := r) (TokB quoT a I cs line) (TokD a I cs line) F8 X T N8 R1' (by omega) hA (dOk hd) (uOk hu) nI nq ?hIq4 (by rfl) ?hj4 ?turn4 ?done4 ?hk4 ?hf4 ?hx4 ?hdb4)
      case hk4 => rfl
      case hf4 => rfl
      case hx4 => rfl
      case hdb4 => decide
      case hIq4 => exact neN hIq
      case hj4 =>
        refine ⟨?_, [], _, rfl, by (simp only [List.length_cons, List.length_nil, List.length_take, List.length_tail]; omega), htok⟩
        (intro y hy; simp only [List.map_cons, List.map_nil, List.mem_cons, List.not_mem_nil, or_false, not_or] at hy; (try dsimp only [up]); (try simp only [hy, if_false, ite_false]); first | done | rfl)
      case turn4 =>
        have mkg : MarkG := trivial
        rintro d r3 line3 m3 t3 h3 tk3 l3 hr3 ⟨hm3, acc3, t30, ht3, ha3, htok3⟩ R3 F3 N3
        simp only [List.length_cons] at ha3
        obtain ⟨u3, hu3⟩ : ∃ u, m3 (Str.ofString "ch") = u := ⟨_, rfl⟩
        rw [loc_up [(Str.ofString "ch", u3), (Str.ofString "token", some (.str ⟨acc3.toArray⟩ t30))] hm3 (by simp [ht3, hu3])] at F3
        dsimp only [up] at F3
        have R3' := R3
        obtain ⟨pm3, ctv3, pn3, sv3, sn3, t13, ts3, u3, oc3, olc3, vl3, tq3, qv3, qn3, rfl, hs3, ho3, d13, d23, -⟩ := R3
        clear F8 N8
        k_steps
        · rename ((⟨#[d]⟩ : Str) == Str.ofString "\"") = true => hq3; rw [is_q] at hq3
          rw [quoT, if_pos (by simpa using hq3)] at htok3
          with_reducible rename Fr _ _ _ _ => F7
          with_reducible rename News _ _ _ _ => N7
          refine ci_ret ?_
          refine ci_ret ?_
          refine lv_ret F7 (fun z hz => N7 z (.tail _ (.tail _ hz))) (by rfl) ⟨t30, ?_, ?_⟩
          · rw [htok3]
          · rw [htok3]; exact R3'
        · rename ((⟨#[d]⟩ : Str) == Str.ofString "\"") = false => hq3; rw [is_q] at hq3
          rename ((⟨#[d]⟩ : Str) == Str.ofString "\\") = true => hb3; rw [is_b] at hb3
          rw [quoT, if_neg (by simpa using hq3), if_pos (by simpa using hb3)] at htok3
          with_reducible rename Fr _ _ _ _ => F5
          with_reducible rename News _ _ _ _ => N5
          dsimp only [List.cons_append, List.nil_append]
          refine Ct.use (ct_read a (lineAft line3 (d :: r3)) #[] r3 (by omega) _ R3') (rest := [(I, ciObj (.ref q) (.str (Str.ofString "") (tk0 + 1 + 1 + 1)) false), (q, methodObj (.ref 35) (.ref a.x))]) F5 X N5 T hA (dOk hd) (uOk hu) (fun z hz => .tail _ (.tail _ hz)) ?hr fun rr sub' h6 tk6 F6 N6 ne6 P6 => ?_
          case hr =>
            intro z hz
            rw [R3'.adr]
            rcases List.mem_cons.mp hz with rfl | hz
            · exact ⟨.head _, nI⟩
            · rw [List.mem_singleton.mp hz]; exact ⟨.tail _ (.head _), nq⟩
          obtain ⟨tr, rfl, R6⟩ := P6
          have R6' := R6
          obtain ⟨pm2, ctv2, pn2, sv2, sn2, t12, ts2, u2, oc2, olc2, vl2, tq2, qv2, qn2, rfl, hs2, ho2, d12, d22, -⟩ := R6
          clear F5 N5
          simp only [List.cons_append, List.nil_append] at N6
          k_steps
          refine ⟨r3.tail.length + 1, by rw [List.length_tail]; exact Nat.add_le_add_right (Nat.sub_le ..) 1, rfl, .inl ⟨r3.tail, _, _, _, rfl, by rw [List.length_tail]; exact Nat.lt_of_le_of_lt (Nat.sub_le ..) (Nat.lt_succ_of_lt hr3), by k_asm, by k_asm, R6', ?_, acc3 ++ r3.take 1, _, rfl, by (simp only [List.length_append, List.length_take, List.length_tail]; exact tsum1 ha3), htok3⟩⟩
          (intro y hy; simp only [List.map_cons, List.map_nil, List.mem_cons, List.not_mem_nil, or_false, not_or] at hy; (try dsimp only [up]); (try simp only [hy, if_false, ite_false]); first | done | rfl)
        · rename ((⟨#[d]⟩ : Str) == Str.ofString "\"") = false => hq3; rw [is_q] at hq3
          rename ((⟨#[d]⟩ : Str) == Str.ofString "\\") = false => hb3; rw [is_b] at hb3
          rw [quoT, if_neg (by simpa using hq3), if_neg (by simpa using hb3)] at htok3
          refine ⟨r3.length + 1, Nat.le_refl _, rfl, .inl ⟨r3, _, _, _, rfl, by omega, by k_asm, by k_asm, R3', ?_, acc3 ++ [d], _, rfl, by (simp only [List.length_append, List.length_cons, List.length_nil]; exact tsum4 ha3), htok3⟩⟩
          (intro y hy; simp only [List.map_cons, List.map_nil, List.mem_cons, List.not_mem_nil, or_false, not_or] at hy; (try dsimp only [up]); (try simp only [hy, if_false, ite_false]); first | done | rfl)
      case done4 =>
        rintro line3 m3 h3 tk3 l3 hj3 R3 F3 N3
        have hj4 : TokD a I cs line line3 m3 := by
          rcases hj3 with ⟨hm3, acc3, t3, ht3, -, htok3⟩ | hj3
          · exact ⟨hm3, acc3, t3, ht3, by rw [htok3, quoT]⟩
          · exact hj3
        clear hj3
        k_steps
        exact ⟨0, Nat.zero_le _, rfl, .inr ⟨line3, m3, l3, rfl, F3, N3, R3, hj4⟩⟩
  case done =>
    rintro line3 m3 h3 tk3 l3 hj3 R3 F3 N3
    have hj4 : TokD a I cs line line3 m3 := by
      rcases hj3 with ⟨hm3, t3, ht3, htok3⟩ | hj3
      · exact ⟨hm3, [], t3, ht3, by rw [← htok3, tokT]⟩
      · exact hj3
    clear hj3 F2 N2
    obtain ⟨hm3, out3, t30, ht3, htok3⟩ := hj4
    obtain ⟨u3, hu3⟩ : ∃ u, m3 (Str.ofString "ch") = u := ⟨_, rfl⟩
    rw [loc_up [(Str.ofString "ch", u3), (Str.ofString "token", some (.str ⟨out3.toArray⟩ t30))] hm3 (by simp [ht3, hu3])] at F3
    dsimp only [up] at F3
    k_steps
    with_reducible rename Fr _ _ _ _ => F7
    with_reducible rename News _ _ _ _ => N7
    refine lv_ret F7 (fun z hz => N7 z (.tail _ (.tail _ hz))) (by rfl) ⟨t30, ?_, ?_⟩
    · rw [htok3]
    · rw [htok3]; exact R3
end
end Mine
end
noncomputable section
open PySem PySem.W PySem.Calls PyProof.Rows
set_option maxRecDepth 100000
set_option maxHeartbeats 1000000
namespace Mine
local macro_rules | `(tactic| ktr_rel) => `(tactic| (refine lv_ret (by k_asm) (by k_asm) (by rfl) ?_))
section
variable {w : World} {p : Program} {loose : List Str} {mean : ExcName → Option Value} {mg mb : Str → Option Value}
theorem intsAre_set : ∀ {vs : List Value} {ns : List Int}, IntsAre vs ns → ∀ (i : Nat) (x : Int) (t : Tok), IntsAre (vs.set i (.int x t)) (ns.set i x)
  | _, _, .nil, _, _, _ => .nil
  | _, _, .cons k u r, 0, x, t => .cons x t r
  | _, _, .cons k u r, i + 1, x, t => .cons k u (intsAre_set r i x t)
theorem ct_cells (sc : Addr) (vs : List Value) (n : Nat) (ns : List Int) (hs : IntsAre vs ns) (hl : ns.length ≤ 63) :
    Ct w p loose mean mg mb 5 40 169 [.ref sc] [(sc, W.listOf vs.toArray n)] fun v l => ∃ a o cs, v = .ref a ∧ l = [(a, o), (sc, W.listOf vs.toArray n)] ∧ IsL o cs ∧ cs.length = 8 ∧ @LT.lt Nat _ sc a := by
  intro A h₀ s Q E hA hd hu X T st O ret
  k_dflt (refine' ct_def (binds := [(Str.ofString "script", .ref sc)]) (sub := _) X T st O ?k6 ?k7 ?k8 ?k9 ?kB ret ?_ ?c2 ?c3 ?c4 ?c5)
  (case k6 => k_is); (case k7 => k_is); (case k8 => omega); (case k9 => first | exact BindsTo.of_eq rfl | exact binds_K (by k_in) rfl (by k_is) rfl rfl rfl); (case c5 => decide); (case kB => exact locs rfl); (case c2 => exact rfl); (case c3 => exact rfl); (case c4 => exact rfl)
  clear ret O st T X; intro g L h₁ X T F N hlt; (try dsimp only); (try k_fold)
  k_steps
  k_dflt (refine for_range (n := ns.length) (fun i m nx => (∀ y, y ∉ [Str.ofString "k", Str.ofString "cells"] → m y = List.lookup y [(Str.ofString "script", Value.ref sc)].reverse) ∧ ∃ a us k cs, m (Str.ofString "cells") = some (.ref a) ∧ nx = [(a, W.listOf us k), (sc, W.listOf vs.toArray n)] ∧ IntsAre us.toList cs ∧ cs.length = 8 ∧ @LT.lt Nat _ sc a) hA rfl (by k_asm) (PySem.small_one (by omega) (by omega) (by omega) (by omega)) (by rw [rangeSize_nat]; omega) (by k_asm) (by k_asm) ?hj ?turn ?done)
  case hj =>
    refine ⟨?_, _, _, _, [10, 0, 31, 100, 57, 8, 300, 77], rfl, rfl, ?_, rfl, by omega⟩
    · (intro y hy; simp only [List.map_cons, List.map_nil, List.mem_cons, List.not_mem_nil, or_false, not_or] at hy; (try dsimp only [up]); (try simp only [hy, if_false, ite_false]); first | done | rfl)
    · exact .cons _ _ (.cons _ _ (.cons _ _ (.cons _ _ (.cons _ _ (.cons _ _ (.cons _ _ (.cons _ _ .nil)))))))
  case turn =>
    rintro i t m₁ nx h tk I oI hi ⟨hm, a, us, k, cs, ha, rfl, hcs, h8, hlt2⟩ hI F1 N1
    obtain ⟨u, hu1⟩ : ∃ u, m₁ (Str.ofString "k") = u := ⟨_, rfl⟩
    rw [loc_up [(Str.ofString "k", u), (Str.ofString "cells", some (.ref a))] hm (by simp [hu1, ha])] at F1
    dsimp only [up] at F1
    have hI1 : @Ne Nat a I := hI _ (.head _)
    have hI2 : @Ne Nat sc I := hI _ (.tail _ (.head _))
    k_steps
    k_dflt (refine turn_next (nx := [(a, _), (sc, _)]) (by k_asm) (by k_asm) (by rfl) (fun p hp => hp) ?hne (fun _ h => nomatch h) ⟨?e2, a, _, _, _, rfl, rfl, intsAre_set hcs _ _ _, ?hl, hlt2⟩)
    case hne =>
      intro p hp
      rcases List.mem_cons.mp hp with rfl | hp
      · exact hI1
      · rw [List.mem_singleton.mp hp]; exact hI2
    case e2 => (intro y hy; simp only [List.map_cons, List.map_nil, List.mem_cons, List.not_mem_nil, or_false, not_or] at hy; (try dsimp only [up]); (try simp only [hy, if_false, ite_false]); first | done | rfl)
    case hl => rw [List.length_set]; exact h8
  case done =>
    rintro m₁ nx h tk ⟨hm, a, us, k, cs, ha, rfl, hcs, h8, hlt2⟩ F1 N1
    obtain ⟨u, hu1⟩ : ∃ u, m₁ (Str.ofString "k") = u := ⟨_, rfl⟩
    rw [loc_up [(Str.ofString "k", u), (Str.ofString "cells", some (.ref a))] hm (by simp [hu1, ha])] at F1
    dsimp only [up] at F1
    k_steps
    ktr_rel
    exact ⟨a, _, cs, rfl, rfl, ⟨us, k, rfl, hcs⟩, h8, hlt2⟩
end
end Mine
end
noncomputable section
open PySem PySem.W PySem.Calls PyProof.Rows
set_option maxRecDepth 100000
set_option maxHeartbeats 4000000
namespace Mine
local macro_rules | `(tactic| k_ne) => `(tactic| (refine neN ?_; (try dsimp only); first | assumption | exact Ne.symm (by assumption) | exact Nat.ne_of_lt (by assumption) | exact Nat.ne_of_gt (by assumption) | (apply_rules [nex_x, nex_dx, nex_pb, nex_D, nex_ce, nex_lf, nex_lc, nex_sx, nex_sdx, nex_spb, lne43, lne42, lne41, lne32, lne31, lne21]; done) | (refine Ne.symm ?_; apply_rules [nex_x, nex_dx, nex_pb, nex_D, nex_ce, nex_lf, nex_lc, nex_sx, nex_sdx, nex_spb, lne43, lne42, lne41, lne32, lne31, lne21]; done) | exact row5 (by assumption) | exact row3 (by assumption) | omega))
local macro_rules | `(tactic| ktr_rel) => `(tactic| (refine lv_ret (by k_asm) (by k_asm) (by rfl) ?_))
theorem News.drop2 {h₀ h : Heap} {L : Addr} {a b : Addr × Obj} {l : Led} (N : News h₀ L h (a :: b :: l)) : News h₀ L h (a :: l) := fun p hp => N p (by
  rcases List.mem_cons.mp hp with rfl | hp
  · exact .head _
  · exact .tail _ (.tail _ hp))
theorem take_snoc {α : Type} : ∀ (l : List α) (j : Nat) (d : α), j < l.length → l.take (j + 1) = l.take j ++ [l.getD j d]
  | [], j, d, h => by simp at h
  | x :: l, 0, d, _ => by simp
  | x :: l, j + 1, d, h => by
    have := take_snoc l j d (by simpa using h)
    simp only [List.take_succ_cons, List.cons_append, List.getD_cons_succ]
    rw [← this]
noncomputable def bstep (cs : List Int) : List Int :=
  (cs.take (cs.idxOf 0)).map (· - 1) ++ [(cs.idxOf 0 : Int) + 1] ++ cs.drop (cs.idxOf 0 + 1)
noncomputable def brd : Nat → List Int
  | 0 => [0, 0, 0, 0, 0, 0]
  | i + 1 => bstep (brd i)
/-- the board: the holes, and what is spoilt -/
noncomputable def board (st ch : Int) : List Int :=
  if ch % 4 = 2 ∨ (ch % 4 = 3 ∧ 0 < (brd (st % 18).toNat).getD (ch / 4 % 6).toNat 0) then
    (brd (st % 18).toNat).set (ch / 4 % 6).toNat ((brd (st % 18).toNat).getD (ch / 4 % 6).toNat 0 + (5 - 2 * (ch % 4)))
  else brd (st % 18).toNat
theorem e4m (ch : Int) : ch.fmod 4 = ch % 4 := Int.fmod_eq_emod_of_nonneg _ (by decide)
theorem e6m (ch : Int) : (ch.fdiv 4).fmod 6 = ch / 4 % 6 := by rw [Int.fmod_eq_emod_of_nonneg _ (by decide), Int.fdiv_eq_ediv_of_nonneg _ (by decide)]
theorem board_hit {st ch : Int} (h : ch.fmod 4 = 2 ∨ (ch.fmod 4 = 3 ∧ 0 < (brd (st % 18).toNat).getD ((ch.fdiv 4).fmod 6).toNat 0)) :
    board st ch = (brd (st % 18).toNat).set ((ch.fdiv 4).fmod 6).toNat ((brd (st % 18).toNat).getD ((ch.fdiv 4).fmod 6).toNat 0 + (5 - 2 * ch.fmod 4)) := by
  rw [e4m, e6m] at *
  exact if_pos h
theorem board_miss {st ch : Int} (h1 : ch.fmod 4 ≠ 2) (h2 : ch.fmod 4 = 3 → ¬ 0 < (brd (st % 18).toNat).getD ((ch.fdiv 4).fmod 6).toNat 0) : board st ch = brd (st % 18).toNat := by
  rw [e4m] at *
  rw [e6m] at *
  exact if_neg fun h => h.elim h1 fun h => h2 h.1 h.2
theorem News.head {h₀ h : Heap} {L : Addr} {a : Addr × Obj} {l : Led} (N : News h₀ L h (a :: l)) : News h₀ L h [a] := fun p hp => by
  rw [List.mem_singleton.mp hp]; exact N _ (.head _)
theorem brd_len : ∀ i, i < 18 → (brd i).length = 6 := by decide
theorem brd_free : ∀ i, i < 17 → (brd i).idxOf 0 < 6 := by decide
theorem brd_mem : ∀ i, i < 17 → 0 ∈ brd i := by decide
theorem brd_lay : ∀ i, i < 18 → PyData.layable0 (.list ((brd i).map .int)) = true := by decide +kernel
local macro_rules | `(tactic| omega) => `(tactic| with_reducible first | exact tn0 _ | exact z0 _ | exact tn1 _ | exact tnp _ | exact tn2 _ _ | exact ge62 _ | exact ge63 _ | exact zle _ | exact i62 (by assumption) | exact i63 (by assumption) | exact f62 (by assumption) | exact zlt (by assumption) | exact isub (by assumption) | exact row1 (by assumption) | exact fit1 _ (by assumption) | exact b34 (by assumption) | exact b37 (by assumption) (by assumption) | exact tri3 (by assumption) (by assumption) | exact lt6 (by assumption) (by assumption) (by assumption) | exact x63 (by assumption) (by assumption) | exact xlen (by assumption) (by assumption) | exact lt10 _ (by assumption) (by assumption) (by assumption) (by decide) | exact lt11 _ (by assumption) (by assumption) (by assumption) (by decide) | exact roomK _ _ (by assumption) (by decide) | exact roomK2 _ _ _ (by assumption) (by decide) | exact big2 (by assumption) (by assumption) (by assumption) | exact kpl (by assumption) (by assumption) | exact kpi (by assumption) (by assumption) | exact ge2 (by assumption) | exact lt2 _ (by assumption) | exact hp62 (by assumption) | exact hpl (by assumption) (by assumption) (by assumption) | exact hpk (by assumption) (by assumption) (by assumption) | exact pdl (by assumption) (by assumption) | exact us1 (by assumption) (by assumption) (by assumption) (by assumption) | exact ac9 (by assumption) (by assumption) (by assumption) | fail)
local macro_rules | `(tactic| walk_at "storeName") => `(tactic| (dsimp only; walk_at "storeName"))
local macro_rules | `(tactic| walk_at "isTrue BoolOp") => `(tactic| (dsimp only; walk_at "isTrue BoolOp"))
local macro_rules | `(tactic| walk_at "exec AugAssign Subscript") => `(tactic| (dsimp only; walk_at "exec AugAssign Subscript"))
local macro_rules | `(tactic| walk_at "binaryOp Mult int int") => `(tactic| (dsimp only; walk_at "binaryOp Mult int int"))
local macro_rules | `(tactic| walk_at "setItem ref int") => `(tactic| (dsimp only; walk_at "setItem ref int"))
local macro_rules | `(tactic| walk_at "subscriptTail Name Slice ref ref") => `(tactic| (refine stopped ?_))
section
variable {w : World} {p : Program} {loose : List Str} {mean : ExcName → Option Value} {mg mb : Str → Option Value}
theorem ct_board (st ch : Int) (t1 t2 : Tok) :
    Ct w p loose mean mg mb 5 40 174 [.int st t1, .int ch t2] [] fun v l => ∃ a o, v = .ref a ∧ l = [(a, o)] ∧ IsL o (board st ch) := by
  intro A h₀ s Q E hA hd hu X T stt O ret
  k_dflt (refine' ct_defC (binds := [(Str.ofString "stones", .int st t1), (Str.ofString "change", .int ch t2)]) (sub := _) X T stt O ?k6 ?k7 ?k8 ?k9 ?kB ?kD ret ?_ ?c2 ?c3 ?c4)
  (case k6 => k_is); (case k7 => k_is); (case k8 => omega); (case k9 => exact BindsTo.of_eq rfl); (case kB => exact rfl); (case kD => decide +kernel); (case c2 => exact rfl); (case c3 => exact rfl); (case c4 => exact rfl)
  clear ret O stt T X; intro g L h₁ tk cells X T F N Y hlt; k_cells Y; (try simp only [List.cons_append, List.nil_append] at N); (try dsimp only); (try k_fold)
  k_steps
  with_reducible rename News _ _ _ _ => N2
  have N3 := News.drop2 N2
  have hmod : st.fmod 18 = st % 18 := Int.fmod_eq_emod_of_nonneg _ (by decide)
  have hm0 : 0 ≤ st % 18 := Int.emod_nonneg _ (by decide)
  have hm1 : st % 18 < 18 := Int.emod_lt_of_pos _ (by decide)
  k_dflt (refine for_range (n := (st % 18).toNat) (fun i m nx => (∀ y, y ∉ [Str.ofString "turn", Str.ofString "free"] → m y = up [(Str.ofString "change", some (.int ch t2)), (Str.ofString "stones", some (.int st t1))] (fun _ => none) y) ∧ ∃ a us k oC, nx = [(a, W.listOf us.toArray k), (L + 1, oC)] ∧ oC.data = .cell (some (.ref a)) ∧ IntsAre us (brd i) ∧ @LT.lt Nat _ (L + 1) a) hA rfl (by k_asm) (PySem.small_one (by omega) (by omega) (by rw [hmod]; exact Int.le_trans (by decide) hm0) (by rw [hmod]; exact Int.lt_trans hm1 (by decide))) (by rw [rangeSize_nat, hmod]; exact (tn18 hm0).trans (Int.toNat_of_nonneg hm0).symm) (by k_asm) N3 ?hj ?turn ?done)
  case hj =>
    refine ⟨?_, _, _, _, _, rfl, by assumption, by assumption, by omega⟩
    (intro y hy; simp only [List.map_cons, List.map_nil, List.mem_cons, List.not_mem_nil, or_false, not_or] at hy; (try dsimp only [up]); (try simp only [hy, if_false, ite_false]); first | done | rfl)
  case turn =>
    rintro i t m₁ nx h tk I oI hi ⟨hm, a, us, k, oC, rfl, hoC, hcs, hlt2⟩ hI F1 N1
    obtain ⟨u, hu1⟩ : ∃ u, m₁ (Str.ofString "turn") = u := ⟨_, rfl⟩
    obtain ⟨u2, hu2⟩ : ∃ u, m₁ (Str.ofString "free") = u := ⟨_, rfl⟩
    rw [loc_up [(Str.ofString "turn", u), (Str.ofString "free", u2)] hm (by simp [hu1, hu2])] at F1
    dsimp only [up] at F1
    have hI1 : @Ne Nat a I := hI _ (.head _)
    have hI2 : @Ne Nat (L + 1) I := hI _ (.tail _ (.head _))
    have hi17 : i < 17 := lt18 hi
    have hlen : (brd i).length = 6 := brd_len i (Nat.lt_succ_of_lt hi17)
    have hfi : (brd i).idxOf 0 < 6 := brd_free i hi17
    k_steps
    refine index_list_ints (News.isList N1 (.tail _ (.head _))) hcs (brd_lay i (Nat.lt_succ_of_lt hi17)) (brd_mem i hi17) ?_
    generalize hf : (brd i).idxOf 0 = f at hfi
    k_steps
    with_reducible rename Fr _ _ _ _ => F4
    with_reducible rename News _ _ _ _ => N4
    refine LCg.CompSrc.range (n := f) hA F4 N4 (by assumption) (PySem.small_one (by omega) (by omega) (by omega) (by omega)) (by rw [rangeSize_nat]; omega) (by rw [PySem.sizeLine_eq]; omega) fun g1 => ?_
    clear F1 N1 F4 N4
    refine comp_inv (fun j ys nx => nx = [(I, oI), (a, W.listOf us.toArray k), (L + 1, oC)] ∧ IntsAre ys (((brd i).take j).map (· - 1))) f ?step ?fin f 0 [] _ (by omega) ⟨rfl, .nil⟩
    case step =>
      rintro j ys nx v I1 oI1 C oC1 D m2 h1 tk1 E' hj ⟨rfl, hys⟩ ⟨t9, rfl⟩ hC hx F N off ne
      (try simp only [LCg.Off3, and_true] at off)
      obtain ⟨⟨f1, f2, f3⟩, ⟨f4, f5, f6⟩, f7, f8, f9⟩ := off
      k_steps
      rw [take_snoc _ j 0 (lenj hlen hfi hj), List.map_append, show (0 + (j : Int)).toNat = j from z0 j]
      exact hys.append (.cons _ _ .nil)
    case fin =>
      rintro ys nx ⟨rfl, hys⟩
      k_steps
      refine unstop ?_
      k_here
      k_dflt (refine' kmk_slice_ints ?sF ?sN ?sl ?sp ?sq ?si ?sm ?sc ?_ ?ss ?st ?sz; (case sF => k_asm); (case sN => k_asm); (case sl => kmk_list); (case sp => kmk_part); (case sq => kmk_part); (case si => assumption); (case ss => with_unfolding_all rfl); (case st => kmk_pure); (case sz => ((rename IntsAre _ _ => hI9); rw [List.size_toArray, IntsAre.length (by assumption), PySem.sizeLine_eq]; omega)); (case sm => exact kmk_from (by assumption) (by omega)); (case sc => exact rfl))
      intro D' ws' h' F' N' l1 hI' hC' hL'
      (try k_lt l1)
      (try k_sweep)
      k_steps
      rename_i D1 ws1 hh1 hI9 lD hh2 oC2 hF9 hN9 hoC2
      k_dflt (refine turn_next (nx := [(D1, W.listOf ws1.toArray 0), (L + 1, oC2)]) (by k_asm) (by k_asm) (by rfl) ?hsub ?hne (fun _ h => nomatch h) ⟨?e2, D1, ws1, _, _, rfl, by assumption, ?hb, by omega⟩)
      case hsub => (repeat' (first | exact List.forall_mem_nil _ | refine List.forall_mem_cons.mpr ⟨by k_mem, ?_⟩))
      case hne => (repeat' (first | exact List.forall_mem_nil _ | refine List.forall_mem_cons.mpr ⟨neN (by dsimp only; omega), ?_⟩))
      case e2 => (intro y hy; simp only [List.map_cons, List.map_nil, List.mem_cons, List.not_mem_nil, or_false, not_or] at hy; (try dsimp only [up]); (try simp only [hy, if_false, ite_false]); first | done | rfl)
      case hb => rw [brd, bstep, hf, show f + 1 = ((f : Int) + 1).toNat from rfl]; exact hI9
  case done =>
    rintro m₁ nx h tk ⟨hm, a, us, k, oC, rfl, hoC, hcs, hlt2⟩ F1 N1
    obtain ⟨u, hu1⟩ : ∃ u, m₁ (Str.ofString "turn") = u := ⟨_, rfl⟩
    obtain ⟨u2, hu2⟩ : ∃ u, m₁ (Str.ofString "free") = u := ⟨_, rfl⟩
    rw [loc_up [(Str.ofString "turn", u), (Str.ofString "free", u2)] hm (by simp [hu1, hu2])] at F1
    dsimp only [up] at F1
    have hlen : (brd (st % 18).toNat).length = 6 := brd_len _ (by omega)
    k_steps
    · with_reducible rename Fr _ _ _ _ => F7
      with_reducible rename News _ _ _ _ => N7
      rename IntsAre _ _ => hI7
      refine lv_ret F7 (News.head N7) (by rfl) ⟨a, _, rfl, rfl, _, _, rfl, ?_⟩
      rw [board_hit (.inl (by assumption))]
      exact hI7
    · with_reducible rename Fr _ _ _ _ => F7
      with_reducible rename News _ _ _ _ => N7
      rename IntsAre _ _ => hI7
      refine lv_ret F7 (News.head N7) (by rfl) ⟨a, _, rfl, rfl, _, _, rfl, ?_⟩
      rw [board_hit (.inr ⟨by assumption, by assumption⟩)]
      exact hI7
    · with_reducible rename Fr _ _ _ _ => F7
      with_reducible rename News _ _ _ _ => N7
      refine lv_ret F7 (News.head N7) (by rfl) ⟨a, _, rfl, rfl, _, _, rfl, ?_⟩
      rw [board_miss (by assumption) (fun _ => by assumption)]
      exact hcs
    · with_reducible rename Fr _ _ _ _ => F7
      with_reducible rename News _ _ _ _ => N7
      refine lv_ret F7 (News.head N7) (by rfl) ⟨a, _, rfl, rfl, _, _, rfl, ?_⟩
      rw [board_miss (by assumption) (fun h => absurd h (by assumption))]
      exact hcs
end
end Mine
end
noncomputable section
open PySem PySem.W PySem.Calls PyProof.Rows
set_option maxRecDepth 100000
set_option maxHeartbeats 4000000
namespace Mine
noncomputable def MarkT : Prop := True
theorem stop_call {M : Model} {A : Around} {env : Env} {f c t e : Expr} {ks : List Keyword} {p1 p2 : Pos} {Q E : Value → Shared → Prop} {s : Shared} (h : Stop (wpAny M A (eval (Expr.Call f [Expr.IfExp c t e p1] ks p2) env) Q E s)) : wpAny M A (eval (Expr.Call f [Expr.IfExp c t e p1] ks p2) env) Q E s := h
theorem stop_if {M : Model} {A : Around} {env : Env} {f c e : Expr} {as : List Expr} {ks : List Keyword} {p1 p2 : Pos} {Q E : Value → Shared → Prop} {s : Shared} (h : Stop (wpAny M A (eval (Expr.IfExp c (Expr.Call f as ks p1) e p2) env) Q E s)) : wpAny M A (eval (Expr.IfExp c (Expr.Call f as ks p1) e p2) env) Q E s := h
theorem stop_sub {M : Model} {A : Around} {env : Env} {a b : Expr} {es : List Expr} {p1 p2 p3 : Pos} {Q E : Value → Shared → Prop} {s : Shared} (h : Stop (wpAny M A (eval (Expr.Subscript (Expr.List es p1) (Expr.BinOp a Operator.Sub b p2) p3) env) Q E s)) : wpAny M A (eval (Expr.Subscript (Expr.List es p1) (Expr.BinOp a Operator.Sub b p2) p3) env) Q E s := h
theorem len_n {prog : Program} {w : World} {A : Around} {E : Value → Shared → Prop} {s : Shared} {l : List Nat} {n : Nat} {t : Tok} {Q : Value → Shared → Prop} (hz : l.length ≤ n) (hn : n < 8) (h : ∀ t' tk, Q (.int (l.length : Int) t') { s with toks := tk }) :
    wpAny (model prog w) A (call (.builtin "len") [.str ⟨l.toArray⟩ t]) Q E s := len_l (Nat.lt_of_le_of_lt hz (Nat.lt_trans hn (by decide))) h
local macro_rules | `(tactic| ktr_rel) => `(tactic| (refine lv_ret (by k_asm) (by k_asm) (by rfl) ?_))
local macro_rules | `(tactic| walk_at "exec While Compare cons nil") => `(tactic| refine stopped ?_)
local macro_rules | `(tactic| walk_at "storeName") => `(tactic| (dsimp only; walk_at "storeName"))
local macro_rules | `(tactic| walk_at "eval Call") => `(tactic| ((fail_if_success (rename Mark => mk9)); with_reducible refine stop_call ?_))
local macro_rules | `(tactic| walk_at "eval IfExp") => `(tactic| ((fail_if_success (rename Mark => mk9)); with_reducible refine stop_if ?_))
local macro_rules | `(tactic| walk_at "eval Subscript") => `(tactic| ((fail_if_success (rename MarkT => mk9)); with_reducible refine stop_sub ?_))
local macro_rules | `(tactic| walk_at "call builtin:len") => `(tactic| (refine len_n (by assumption) (by assumption) ?_; intro _ _))
local macro_rules | `(tactic| walk_at "binaryOp Add str str") => `(tactic| (refine badd_s (Nat.le_of_ble_eq_true rfl) ?_; intro _ _))
local macro_rules | `(tactic| walk_at "inplaceOp Add str str") => `(tactic| (refine iadd_c (by assumption) (by assumption) ?_; intro _ _))
local macro_rules | `(tactic| walk_at "newList") => `(tactic| (dsimp only; walk_at "newList"))
local macro_rules | `(tactic| walk_at "subscriptTail") => `(tactic| (dsimp only; walk_at "subscriptTail"))
local macro_rules | `(tactic| walk_at "subscriptTail") => `(tactic| ((rename Mark => mk9); refine stopped ?_))
local macro_rules | `(tactic| walk_at "call builtin:chr") => `(tactic| (dsimp only; walk_at "call builtin:chr"))
local macro_rules | `(tactic| walk_at "binaryOp Mod int int") => `(tactic| (dsimp only; walk_at "binaryOp Mod int int"))
local macro_rules | `(tactic| walk_at "ite") => `(tactic| (dsimp only; walk_at "ite"))
noncomputable def hidL : List Int := [173, 847, 6150, 6155, 6156, 6157, 8203, 8204, 8205, 8288, 65279]
noncomputable def besL : List Int := [172, 174, 846, 848, 6149, 6151, 6154, 6158, 8202, 8206, 8287, 8289, 65023, 65040, 65278, 65280]
noncomputable def hdn (k : Int) : Nat := (if k < 11 then hidL.getD k.toNat 0 else 65013 + k).toNat
theorem hidL_ok : ∀ k, k < 11 → 0 ≤ hidL.getD k 0 ∧ hidL.getD k 0 ≤ 1114111 := by decide
theorem oneL_ok : ∀ k, k < 4 → 0 ≤ ([97, 65, 119808, 120432] : List Int).getD k 0 ∧ ([97, 65, 119808, 120432] : List Int).getD k 0 ≤ 120432 := by decide
theorem twoL_ok : ∀ k, k < 3 → 0 ≤ ([7936, 7968, 8032] : List Int).getD k 0 ∧ ([7936, 7968, 8032] : List Int).getD k 0 ≤ 8032 := by decide
theorem besL_ok : ∀ k, k < 16 → 0 ≤ besL.getD k 0 ∧ besL.getD k 0 ≤ 1114111 := by decide
theorem News.last4 {h₀ h : Heap} {L : Addr} {a b c d : Addr × Obj} (N : News h₀ L h [a, b, c, d]) : News h₀ L h [d] := fun p hp => by
  rw [List.mem_singleton.mp hp]; exact N _ (.tail _ (.tail _ (.tail _ (.head _))))
noncomputable def oneN (pick : Int) : Nat := (if (pick.fdiv 26).fmod 5 < 4 then ([97, 65, 119808, 120432] : List Int).getD ((pick.fdiv 26).fmod 5).toNat 0 + pick.fmod 26 else besL.getD (pick.fmod 16).toNat 0).toNat
noncomputable def oneM (pick : Int) : Nat := if (pick.fdiv 26).fmod 5 < 4 then (97 + pick.fmod 26).toNat else oneN pick
noncomputable def sgnT (pick : Int) (size : Nat) : Nat := if size = 1 then oneN pick else if size = 2 then (8064 + pick.fmod 48).toNat else (13201 + pick.fmod 4).toNat
noncomputable def sgnM (pick : Int) (size : Nat) : List Nat :=
  if size = 1 then [oneM pick] else if size = 2 then (([7936, 7968, 8032] : List Int).getD ((pick.fmod 48).fdiv 16).toNat 0 + pick.fmod 8).toNat :: (Str.ofString "ι").cps.toList
  else (Txt.charAt (Str.ofString "kmgt") (pick.fmod 4)).getD 0 :: (Str.ofString "hz").cps.toList
noncomputable def sizeN (n m : Nat) (cell : Int) : Nat := min (1 + (cell.fmod 3).toNat) (n - m)
theorem sgnM_len (pick : Int) {size : Nat} (h0 : 0 < size) (h3 : size ≤ 3) : (sgnM pick size).length = size := by
  have : size = 1 ∨ size = 2 ∨ size = 3 := pos3 h0 h3
  rcases this with rfl | rfl | rfl
  · rfl
  · show (_ :: (Str.ofString "ι").cps.toList).length = 2; rw [List.length_cons]; decide
  · show (_ :: (Str.ofString "hz").cps.toList).length = 3; rw [List.length_cons]; decide
theorem sizeN_le (n m : Nat) (cell : Int) (h : m < n) : 0 < sizeN n m cell ∧ sizeN n m cell ≤ 3 ∧ sizeN n m cell ≤ n - m := by
  unfold sizeN
  exact mz3 (Nat.sub_pos_of_lt h) (tlt 3 (Int.fmod_nonneg_of_pos _ (by decide)) (Int.fmod_lt_of_pos _ (by decide)))
noncomputable def typ (n : Nat) (cell : Int) (T M : List Nat) : List Nat × List Nat :=
  if h : M.length < n then typ n (cell + 7) (T ++ [sgnT (cell.fdiv 3) (sizeN n M.length cell)]) (M ++ sgnM (cell.fdiv 3) (sizeN n M.length cell)) else (T, M)
termination_by n - M.length
decreasing_by
  have := sizeN_le n M.length cell h
  rw [List.length_append, sgnM_len _ this.1 this.2.1]
  exact w1 rfl h this.1
/-- what is typed, and what is meant -/
noncomputable def typed (n : Nat) (cell : Int) : List Nat × List Nat := typ n cell [hdn (cell.fmod 27)] []
noncomputable abbrev pairO (x y : List Nat) (t u : Tok) : Obj := { cls := .type "tuple", data := .seq #[.str ⟨x.toArray⟩ t, .str ⟨y.toArray⟩ u] }
inductive TypJ (n : Nat) (t1 : Tok) (cell : Int) (k : Nat) (m : Str → Option Value) (nx : List (Addr × Obj)) : Prop
  | mk (b : Addr) (bs : List Value) (kb : Nat) (c : Int) (tc : Tok) (T : List Nat) (tT : Tok) (M : List Nat) (tM : Tok) (h1 : m (Str.ofString "count") = some (.int (n : Int) t1)) (h2 : m (Str.ofString "cell") = some (.int c tc)) (h3 : m (Str.ofString "typed") = some (.str ⟨List.toArray T⟩ tT)) (h4 : m (Str.ofString "meant") = some (.str ⟨List.toArray M⟩ tM)) (h5 : m (Str.ofString "beside") = some (.ref b)) (e : nx = [(b, W.listOf (List.toArray bs) kb)]) (hb : IntsAre bs besL) (hk : k = n - M.length) (hM : M.length ≤ n) (hT : T.length ≤ M.length + 1) (ht : typ n c T M = typ n cell [hdn (cell.fmod 27)] []) : TypJ n t1 cell k m nx
section
variable {w : World} {p : Program} {loose : List Str} {mean : ExcName → Option Value} {mg mb : Str → Option Value}
theorem ct_typed (n : Nat) (cell : Int) (t1 t2 : Tok) (hn1 : n < 8) :
    Ct w p loose mean mg mb 5 40 181 [.int (n : Int) t1, .int cell t2] [] fun v l => ∃ a tT tM, v = .ref a ∧ l = [(a, pairO (typed n cell).1 (typed n cell).2 tT tM)] := by
  intro A h₀ s Q E hA hd hu X T st O ret
  k_dflt (refine' ct_def (binds := [(Str.ofString "count", .int (n : Int) t1), (Str.ofString "cell", .int cell t2)]) (sub := _) X T st O ?k6 ?k7 ?k8 ?k9 ?kB ret ?_ ?c2 ?c3 ?c4 ?c5)
  (case k6 => k_is); (case k7 => k_is); (case k8 => omega); (case k9 => first | exact BindsTo.of_eq rfl | exact binds_K (by k_in) rfl (by k_is) rfl rfl rfl); (case c5 => decide); (case kB => exact locs rfl); (case c2 => exact rfl); (case c3 => exact rfl); (case c4 => exact rfl)
  clear ret O st T X; intro g L h₁ X T F N hlt; (try dsimp only); (try k_fold)
  have hk0 : 0 ≤ cell.fmod 27 := Int.fmod_nonneg_of_pos _ (by decide)
  have hk1 : cell.fmod 27 < 27 := Int.fmod_lt_of_pos _ (by decide)
  k_steps
  refine unstop ?_
  dsimp only
  refine cutV (IsStr [hdn (cell.fmod 27)]) ?_ fun v tk9 h => ?_
  · have mk : Mark := trivial
    k_steps
    · have := hidL_ok (cell.fmod 27).toNat (tlt 11 hk0 (by assumption))
      refine chr_of_range this.1 this.2 ?_
      refine CutV.mk ?_
      rw [hdn, if_pos (by assumption)]
      exact IsStr.mk _ _
    · refine CutV.mk ?_
      rw [hdn, if_neg (by omega)]
      exact IsStr.mk _ _
  · obtain ⟨tt, rfl⟩ := h
    k_steps
    refine unstop ?_
    with_reducible rename Fr _ _ _ _ => F2
    with_reducible rename News _ _ _ _ => N2
    k_dflt (refine While_inv (TypJ n t1 cell) F2 (News.head N2) ⟨_, _, _, cell, _, _, _, [], _, rfl, rfl, rfl, rfl, rfl, rfl, ?hb, rfl, Nat.zero_le _, Nat.le_refl _, rfl⟩ ?turn)
    case hb => exact .cons _ _ (.cons _ _ (.cons _ _ (.cons _ _ (.cons _ _ (.cons _ _ (.cons _ _ (.cons _ _ (.cons _ _ (.cons _ _ (.cons _ _ (.cons _ _ (.cons _ _ (.cons _ _ (.cons _ _ (.cons _ _ .nil)))))))))))))))
    case turn =>
      rintro k m₁ nx h tk F1 N1 ⟨b, bs, kb, c, tc, Ty, tT, Me, tM, hm1, hm2, hm3, hm4, hm5, rfl, hb, hk, hM, hT, hty⟩
      rw [loc_up (m := m₁) (b := m₁) [(Str.ofString "count", some (.int (n : Int) t1)), (Str.ofString "cell", some (.int c tc)), (Str.ofString "typed", some (.str ⟨List.toArray Ty⟩ tT)), (Str.ofString "meant", some (.str ⟨List.toArray Me⟩ tM)), (Str.ofString "beside", some (.ref b))] (fun _ _ => rfl) (List.forall_mem_cons.mpr ⟨hm1, List.forall_mem_cons.mpr ⟨hm2, List.forall_mem_cons.mpr ⟨hm3, List.forall_mem_cons.mpr ⟨hm4, List.forall_mem_cons.mpr ⟨hm5, List.forall_mem_nil _⟩⟩⟩⟩⟩)] at F1
      dsimp only [up] at F1
      clear F2 N2
      k_steps
      · have hlt3 : Me.length < n := Int.ofNat_lt.mp (by assumption)
        obtain ⟨y0, z3, zl⟩ := sizeN_le n Me.length c hlt3
        have hMe9 : Me.length ≤ 90000 := nm90 hlt3 hn1 _ (by decide)
        have hTy9 : Ty.length ≤ 90000 := tm90 hlt3 hT hn1 _ (by decide)
        have h1t : [sgnT (c.fdiv 3) (sizeN n Me.length c)].length ≤ 10 := Nat.le_of_ble_eq_true rfl
        have hc0 : 0 ≤ c.fmod 3 := Int.fmod_nonneg_of_pos _ (by decide)
        refine min_two_N hA (by k_asm) (by k_asm) fun h5 tk5 F5 N5 => ?_
        rw [show (if (n : Int) - (Me.length : Int) < 1 + c.fmod 3 then (n : Int) - (Me.length : Int) else 1 + c.fmod 3) = ((sizeN n Me.length c : Nat) : Int) from mz hc0 hlt3]
        rw [typ, dif_pos hlt3] at hty
        generalize hz : sizeN n Me.length c = z at *
        generalize hpk : c.fdiv 3 = pick at *
        have hp26 : 0 ≤ pick.fmod 26 := Int.fmod_nonneg_of_pos _ (by decide)
        have hp26' : pick.fmod 26 < 26 := Int.fmod_lt_of_pos _ (by decide)
        have hp16 : 0 ≤ pick.fmod 16 := Int.fmod_nonneg_of_pos _ (by decide)
        have hp16' : pick.fmod 16 < 16 := Int.fmod_lt_of_pos _ (by decide)
        have hp48 : 0 ≤ pick.fmod 48 := Int.fmod_nonneg_of_pos _ (by decide)
        have hp48' : pick.fmod 48 < 48 := Int.fmod_lt_of_pos _ (by decide)
        have hp8 : 0 ≤ pick.fmod 8 := Int.fmod_nonneg_of_pos _ (by decide)
        have hp8' : pick.fmod 8 < 8 := Int.fmod_lt_of_pos _ (by decide)
        have hp4 : 0 ≤ pick.fmod 4 := Int.fmod_nonneg_of_pos _ (by decide)
        have hp4' : pick.fmod 4 < 4 := Int.fmod_lt_of_pos _ (by decide)
        k_steps
        refine unstop ?_
        with_reducible rename Fr _ _ _ _ => F6
        with_reducible rename News _ _ _ _ => N6
        refine cutN F6 N6 (IsStr [oneN pick]) ?_ fun v h7 tk7 F7 N7 h => ?_
        · have mk : Mark := trivial
          have hd0 : 0 ≤ (pick.fdiv 26).fmod 5 := Int.fmod_nonneg_of_pos _ (by decide)
          k_steps
          · refine unstop ?_
            dsimp only
            refine item_list_intsR (ns := [97, 65, 119808, 120432]) (by is_list) (.cons _ _ (.cons _ _ (.cons _ _ (.cons _ _ .nil)))) (by assumption) (by assumption) (by omega) ?_
            intro _
            k_steps
            have := c26 (oneL_ok ((pick.fdiv 26).fmod 5).toNat (tlt 4 hd0 (by assumption))) hp26 hp26'
            refine chr_of_range this.1 this.2 ?_
            with_reducible rename Fr _ _ _ _ => F8
            with_reducible rename News _ _ _ _ => N8
            refine CutN.mk F8 N8 (fun p hp => .tail _ hp) ?_
            rw [oneN, if_pos (by assumption)]
            exact IsStr.mk _ _
          · have := besL_ok (pick.fmod 16).toNat (tlt 16 hp16 hp16')
            refine chr_of_range this.1 this.2 ?_
            refine CutN.mk F6 N6 (fun p hp => hp) ?_
            rw [oneN, if_neg (by assumption)]
            exact IsStr.mk _ _
        clear F6 N6
        obtain ⟨t7, rfl⟩ := h
        k_steps
        have hi0 : 0 ≤ (pick.fmod 48).fdiv 16 := Int.fdiv_nonneg hp48 (by decide)
        have hi3 : (pick.fmod 48).fdiv 16 < 3 := by rw [Int.fdiv_eq_ediv_of_nonneg _ (by decide)]; exact i48 hp48 hp48'
        have htw := c2 (twoL_ok ((pick.fmod 48).fdiv 16).toNat (tlt 3 hi0 hi3)) hp8 hp8'
        refine chr_of_range htw.1 htw.2 ?_
        dsimp only
        k_steps
        refine unstop ?_
        with_reducible rename Fr _ _ _ _ => F8
        with_reducible rename News _ _ _ _ => N8
        refine cutN F8 N8 (IsStr [sgnT pick z]) ?_ fun v h8 tk8 F9 N9 hv8 => ?_
        · have mk2 : MarkT := trivial
          k_steps
          all_goals
            rename (z : Int) - 1 = _ => kz
            with_reducible rename Fr _ _ _ _ => F11
            with_reducible rename News _ _ _ _ => N11
          · obtain rfl : z = 1 := by omega
            exact CutN.mk F11 N11 (fun p hp => .tail _ hp) (IsStr.mk _ _)
          · obtain rfl : z = 2 := by omega
            exact CutN.mk F11 N11 (fun p hp => .tail _ hp) (IsStr.mk _ _)
          · obtain rfl : z = 3 := by omega
            exact CutN.mk F11 N11 (fun p hp => .tail _ hp) (IsStr.mk _ _)
        clear F8 N8
        obtain ⟨t8, rfl⟩ := hv8
        k_steps
        refine unstop ?_
        with_reducible rename Fr _ _ _ _ => F8
        with_reducible rename News _ _ _ _ => N8
        refine cutN F8 N8 (IsStr (sgnM pick z)) ?_ fun v h9 tk9 F9 N9 hv9 => ?_
        · have mk2 : MarkT := trivial
          k_steps
          refine unstop ?_
          with_reducible rename Fr _ _ _ _ => F9
          with_reducible rename News _ _ _ _ => N9
          refine cutN F9 N9 (IsStr [oneM pick]) ?_ fun v h10 tk10 F10 N10 hv => ?_
          · have mk : Mark := trivial
            k_steps
            · refine CutN.mk F9 N9 (fun p hp => hp) ?_
              rw [oneM, if_pos (by assumption)]
              exact IsStr.mk _ _
            · refine CutN.mk F9 N9 (fun p hp => hp) ?_
              rw [oneM, if_neg (by assumption)]
              exact IsStr.mk _ _
          clear F9 N9
          obtain ⟨t10, rfl⟩ := hv
          k_steps
          all_goals
            rename (z : Int) - 1 = _ => kz
            with_reducible rename Fr _ _ _ _ => F11
            with_reducible rename News _ _ _ _ => N11
          · obtain rfl : z = 1 := by omega
            exact CutN.mk F11 N11 (fun p hp => .tail _ hp) (IsStr.mk _ _)
          · obtain rfl : z = 2 := by omega
            exact CutN.mk F11 N11 (fun p hp => .tail _ hp) (IsStr.mk _ _)
          · obtain rfl : z = 3 := by omega
            exact CutN.mk F11 N11 (fun p hp => .tail _ hp) (IsStr.mk _ _)
        clear F8 N8
        obtain ⟨t9, rfl⟩ := hv9
        have e1 : (sgnM pick z).length = z := sgnM_len _ y0 z3
        have e10 : (sgnM pick z).length ≤ 10 := by rw [e1]; exact Nat.le_trans z3 (by decide)
        k_steps
        with_reducible rename Fr _ _ _ _ => F11
        with_reducible rename News _ _ _ _ => N11
        refine WhileStep.intro F11 (fun p hp => N11 p (by rw [List.mem_singleton.mp hp]; k_mem)) (n' := n - (Me ++ sgnM pick z).length) ?_ ⟨b, bs, kb, c + 7, _, Ty ++ [sgnT pick z], _, Me ++ sgnM pick z, _, rfl, rfl, rfl, rfl, rfl, rfl, hb, rfl, ?_, ?_, hty⟩
        · rw [List.length_append, e1]; exact w1 hk hlt3 y0
        · rw [List.length_append, e1]; exact w2 hlt3 zl
        · rw [List.length_append, List.length_append, e1, List.length_singleton]; exact w3 hT y0
      · with_reducible rename Fr _ _ _ _ => F11
        with_reducible rename News _ _ _ _ => N11
        rw [typ, dif_neg (by omega)] at hty
        refine lv_ret F11 (News.head N11) (by rfl) ⟨_, tT, tM, rfl, ?_⟩
        rw [typed, ← hty]
end
end Mine
end
noncomputable section
open PySem PySem.W PySem.Calls PyProof.Rows
set_option maxRecDepth 100000
set_option maxHeartbeats 1000000
namespace Mine
theorem getD_mem {α : Type} (d : α) : ∀ (l : List α) (k : Nat), k < l.length → l.getD k d ∈ l
  | [], k, h => by simp at h
  | x :: l, 0, _ => .head _
  | x :: l, k + 1, h => .tail _ (getD_mem d l k (Nat.lt_of_succ_lt_succ h))
section
variable {prog : Program} {w : World} {A : Around} {E : Value → Shared → Prop} {s : Shared} {h₀ : Heap} {L : Addr} {m : Str → Option Value} {env : Env}
/-- the source of a comprehension: a str -/
noncomputable def SrcS (prog : Program) (w : World) (A : Around) (h₀ : Heap) (L : Addr) (m : Str → Option Value) (env : Env) (elt : Expr) (x : Str) (scope : Scope) (cl : List (Str × Addr)) (Fin : Shared → List Value → Led → Prop) (xv : Value) (s₁ : Shared) : Prop :=
  ∃ y t news, xv = .str y t ∧ A.handled = none ∧ Fr h₀ L s₁.heap m ∧ News h₀ L s₁.heap news ∧ y.cps.size ≤ sizeLine ∧
    ∀ g : Heap, LCg.CompRest prog w A h₀ L m env elt x scope cl { s₁ with heap := g } (fun _ => True) (SignAt y) (Fin { s₁ with heap := g }) y.cps.size 0 [] news
theorem SrcS.mk {elt : Expr} {x : Str} {scope : Scope} {cl : List (Str × Addr)} {Fin : Shared → List Value → Led → Prop} {y : Str} {t : Tok} {news : Led} {s₁ : Shared} (hh : A.handled = none) (F : Fr h₀ L s₁.heap m) (N : News h₀ L s₁.heap news) (hz : y.cps.size ≤ sizeLine)
    (h : ∀ g : Heap, LCg.CompRest prog w A h₀ L m env elt x scope cl { s₁ with heap := g } (fun _ => True) (SignAt y) (Fin { s₁ with heap := g }) y.cps.size 0 [] news) : SrcS prog w A h₀ L m env elt x scope cl Fin (.str y t) s₁ :=
  ⟨y, t, news, rfl, hh, F, N, hz, h⟩
theorem stri_st {I : Addr} {ty : String} {y : Str} {t : Tok} : ∀ i (h h' : Heap) (o : Obj) (nw : Led), h.IsStrIter I ty y t i → h.get? I = some o → h'.get? I = some o → (∀ b o, h₀.get? b = some o → h'.get? b = some o) → News h₀ L h' nw → True → h'.IsStrIter I ty y t i :=
  fun i h h' o nw st e e' _ _ _ => by
    obtain ⟨o', q, r⟩ := st
    rw [e] at q; cases q
    exact ⟨o, e', r⟩
theorem ListComp_S {elt iter : Expr} {x : Str} {px : Pos} {scope : Scope} {cl : List (Str × Addr)} {pos : Pos} {Q : Value → Shared → Prop} (_F : Fr h₀ L s.heap m)
    (hclos : closureFor scope env = pure cl) (hcell : ∀ y ∈ scope.names, y.2 ≠ .cell) (hkind : scope.kind = .function)
    (hnames : ∀ y ∈ scope.names, y.2 = .local → scope.names.lookup y.1 = some .local) (hx : scope.names.lookup x = some .local)
    (h : wpAny (model prog w) A (eval iter env) (SrcS prog w A h₀ L m env elt x scope cl (fun s₂ => LCg.FinE h₀ L m s₂ Q)) E s)
    (hs : ∀ x, foldedSetIterable iter env x = pure x := by intro _; rfl) :
    wpAny (model prog w) A (eval (.ListComp elt [⟨.Name x px, iter, [], 0⟩] scope pos) env) Q E s := by
  rw [eval_ListComp]
  refine wpAny_comprehension_free (use := none) rfl hs hclos hkind hnames (wpAny_mono h (fun xv s₁ h₁ => ?_) fun _ _ e => e)
  obtain ⟨y, t, news, rfl, hh, F, N, hz, R⟩ := h₁
  have fin : ∀ (s₂ : Shared) (D C : Addr) (h : Heap) (tk : Nat) (m' : Str → Option Value) (ys : List Value) (news' : Led), Fr h₀ L h m → News h₀ L h ((D, LCg.lst ys) :: news') → LCg.Off1 D news' → h.Ns C m' → h₀.get? C = none → C ≠ L → C ≠ D → (∀ p ∈ news', p.1 ≠ C) → LCg.FinE h₀ L m s₂ Q ys news' →
      ∃ m', h.Ns C m' ∧ ∀ h'', Heap.SameBut C h h'' → Q (.ref D) { s₂ with heap := h'', toks := tk } := by
    intro s₂ D C h tk m' ys news' F' N' o1 hn hC₀ hCL hCD offC fin
    refine ⟨m', hn, fun h'' hs'' => fin D h'' tk (F'.change hs'' hCL hC₀) (fun p hp => ⟨hs''.extBut _ _ ?_ (N' p hp).1, (N' p hp).2⟩) o1⟩
    rcases List.mem_cons.mp hp with rfl | hp
    · exact Ne.symm hCD
    · exact offC p hp
  cases ha : y.cps.all (· < 128) with
  | false =>
    refine wpAny_pyIter_wide ha ?_
    refine LCg.block_U (Walks.strWide hh s₁.heap.objs.size y t) hz (fun i h st => by obtain ⟨o, e, _⟩ := st; exact ⟨o, e⟩) stri_st hcell hkind hx ⟨_, Heap.get?_push_size _ rfl, rfl, rfl⟩ (fun b hb => ?_)
      (F.keeps fun _ _ e => Heap.get?_push_of_some _ e) (N.grown fun _ _ e => Heap.get?_push_of_some _ e) (Nat.ne_of_lt F.ns.lt) (next_is_new F) (fun p hp => Nat.ne_of_lt (Heap.lt_size (N p hp).1)) trivial (R _) ?_
    · rw [List.mem_singleton.mp hb]
      show s₁.heap.objs.size < (s₁.heap.push _).objs.size
      rw [Heap.size_push]; exact Nat.lt_succ_self _
    · intro D C h tk m' ys news' F' N' o1 hn hC₀ hD₀ hCL hDL hCD offC f
      exact fin _ D C h tk m' ys news' F' N' o1 hn hC₀ hCL hCD offC f
  | true =>
    refine wpAny_pyIter_ascii ha ?_
    refine LCg.block_U (Walks.strAscii hh s₁.heap.objs.size y t) hz (fun i h st => by obtain ⟨o, e, _⟩ := st; exact ⟨o, e⟩) stri_st hcell hkind hx ⟨_, Heap.get?_push_size _ rfl, rfl, rfl⟩ (fun b hb => ?_)
      (F.keeps fun _ _ e => Heap.get?_push_of_some _ e) (N.grown fun _ _ e => Heap.get?_push_of_some _ e) (Nat.ne_of_lt F.ns.lt) (next_is_new F) (fun p hp => Nat.ne_of_lt (Heap.lt_size (N p hp).1)) trivial (R _) ?_
    · rw [List.mem_singleton.mp hb]
      show s₁.heap.objs.size < (s₁.heap.push _).objs.size
      rw [Heap.size_push]; exact Nat.lt_succ_self _
    · intro D C h tk m' ys news' F' N' o1 hn hC₀ hD₀ hCL hDL hCD offC f
      exact fin _ D C h tk m' ys news' F' N' o1 hn hC₀ hCL hCD offC f
end
end Mine
end
noncomputable section
open PySem PySem.W PySem.Calls PyProof.Rows
set_option maxRecDepth 100000
set_option maxHeartbeats 1000000
namespace Mine
noncomputable abbrev mkS (l : List Nat) : Str := ⟨l.toArray⟩
theorem mk_app (a b : List Nat) : mkS a ++ mkS b = mkS (a ++ b) := by
  show (⟨a.toArray ++ b.toArray⟩ : Str) = _
  rw [List.append_toArray]
theorem mk_len (a : List Nat) : (mkS a).length = a.length := by
  show a.toArray.size = _
  rw [List.size_toArray]
theorem mk_of (x : Str) : x = mkS x.cps.toList := by
  show x = ⟨x.cps.toList.toArray⟩
  rw [Array.toArray_toList]
theorem mk_inj {a b : List Nat} (h : mkS a = mkS b) : a = b := by
  have := congrArg (fun s : Str => s.cps.toList) h
  simpa using this
theorem mk_beq (a b : List Nat) : (mkS a == mkS b) = (a == b) := by
  by_cases h : a = b
  · subst h; simp
  · rw [show (a == b) = false by simpa using h, beq_eq_false_iff_ne]
    exact fun e => h (mk_inj e)
theorem getD_mk : ∀ (ls : List (List Nat)) (k : Nat), (ls.map mkS).getD k Str.empty = mkS (ls.getD k [])
  | [], _ => rfl
  | _ :: _, 0 => rfl
  | _ :: ls, k + 1 => by simpa using getD_mk ls k
theorem join_mk : ∀ ls : List (List Nat), PySem.Str.join (Str.ofString "") (ls.map mkS) = mkS ls.flatten
  | [] => rfl
  | [x] => by simp [PySem.Str.join]
  | x :: y :: r => by
    have ih := join_mk (y :: r)
    show mkS x ++ Str.ofString "" ++ PySem.Str.join (Str.ofString "") ((y :: r).map mkS) = _
    rw [ih, show Str.ofString "" = mkS [] from rfl, mk_app, mk_app]
    simp
theorem sum_len : ∀ ls : List (List Nat), ((ls.map mkS).map (·.length)).sum = ls.flatten.length
  | [] => rfl
  | x :: r => by
    simp only [List.map_cons, List.sum_cons, List.flatten_cons, List.length_append]
    rw [sum_len r, mk_len]
theorem join0 {prog : Program} {w : World} {A : Around} {E : Value → Shared → Prop} {s : Shared} {t : Tok} {D : Addr} {items : Array Value} {ls : List (List Nat)} {Q : Value → Shared → Prop} (hl : s.heap.IsList D items) (hi : StrsAre items.toList (ls.map mkS)) (hz : ls.flatten.length ≤ 100000)
    (h : ∀ t' k, Q (.str (mkS ls.flatten) t') { s with toks := k }) : wpAny (model prog w) A (call (.builtin "str.join") [.str (Str.ofString "") t, .ref D]) Q E s := by
  refine join_list hl hi ?_ fun t' k => ?_
  · rw [sum_len, show (Str.ofString "").length = 0 by decide]; omega
  · have e : Txt.join (Str.ofString "") (ls.map mkS) = mkS ls.flatten := by
      show Builtin.Str.glued _ _ = _
      rw [StrLaws.glued_eq_join, join_mk]
    rw [e]; exact h t' k
theorem strsAre_append : ∀ {vs us : List Value} {xs ys : List Str}, StrsAre vs xs → StrsAre us ys → StrsAre (vs ++ us) (xs ++ ys)
  | _, _, _, _, .nil, h => h
  | _, _, _, _, .cons y t r, h => .cons y t (strsAre_append r h)
theorem strsAre_snoc {vs : List Value} {ls : List (List Nat)} (h : StrsAre vs (ls.map mkS)) (x : List Nat) (t : Tok) : StrsAre (vs ++ [.str (mkS x) t]) ((ls ++ [x]).map mkS) := by
  rw [List.map_append]
  exact strsAre_append h (.cons _ _ .nil)
theorem item_mk (x : List Nat) (j : Nat) (hj : j < x.length) : Txt.item (mkS x) (0 + (j : Int)) = mkS [x.getD j 0] := by
  have e : seqIndex? (0 + (j : Int)) (mkS x).length = some j := by
    rw [mk_len, Int.zero_add, PySem.seqIndex_of (by omega) (by omega)]
    rfl
  show (⟨#[(((seqIndex? (0 + (j : Int)) (mkS x).length).bind fun i => (mkS x).cps[i]?).getD 0)]⟩ : Str) = _
  rw [e]
  simp [List.getD, mkS]
end Mine
end
noncomputable section
open PySem PySem.W PySem.Calls PyProof.Rows
set_option maxRecDepth 100000
set_option maxHeartbeats 1000000
namespace Mine
/-- the holes that may be played, the heaps after hole h (from 0 on), and the game -/
noncomputable def rdy (ws : List (List Nat)) : List Nat := (List.range 6).filter fun k => (ws.getD k []).length == k + 1
noncomputable def sow1 (ws : List (List Nat)) (h : Nat) : List (List Nat) := ((List.range h).map fun k => ws.getD k [] ++ [(ws.getD h []).getD (h - 1 - k) 0]) ++ [[]] ++ ws.drop (h + 1)
noncomputable def sowS (ws : List (List Nat)) : Nat → List (List Nat) × List Nat × List Int
  | 0 => (ws, [], [])
  | i + 1 => match rdy (sowS ws i).1 with
    | [] => sowS ws i
    | h :: _ => (sow1 (sowS ws i).1 h, (sowS ws i).2.1 ++ [((sowS ws i).1.getD h []).getD h 0], (sowS ws i).2.2 ++ [(h : Int) + 1])
theorem filt1 {ws : List (List Nat)} {j : Nat} (h : (ws.getD j []).length = j + 1) : ([j].filter fun k => (ws.getD k []).length == k + 1) = [j] := by
  rw [List.filter_cons, if_pos (by rw [h]; simp)]; rfl
theorem filt0 {ws : List (List Nat)} {j : Nat} (h : (ws.getD j []).length ≠ j + 1) : ([j].filter fun k => (ws.getD k []).length == k + 1) = [] := by
  rw [List.filter_cons, if_neg (by rw [beq_iff_eq]; exact h)]; rfl
theorem getD_len {b : Nat} : ∀ {ws : List (List Nat)}, (∀ x ∈ ws, x.length ≤ b) → ∀ k : Nat, (ws.getD k []).length ≤ b
  | [], _, _ => by simp
  | _ :: _, h, 0 => h _ (.head _)
  | x :: ws, h, k + 1 => by
    have := getD_len (ws := ws) (fun y hy => h y (.tail _ hy)) k
    simpa using this
theorem sow1_len {ws : List (List Nat)} {h : Nat} (h6 : ws.length = 6) (hh : h < 6) : (sow1 ws h).length = 6 := by
  simp only [sow1, List.length_append, List.length_map, List.length_range, List.length_singleton, List.length_drop]; omega
theorem sow1_bnd {ws : List (List Nat)} {h b : Nat} (hb : ∀ x ∈ ws, x.length ≤ b) : ∀ x ∈ sow1 ws h, x.length ≤ b + 1 := by
  intro x hx
  simp only [sow1, List.mem_append, List.mem_map, List.mem_range, List.mem_singleton] at hx
  rcases hx with (⟨k, _, rfl⟩ | rfl) | hx
  · have := getD_len hb k
    simp only [List.length_append, List.length_singleton]; omega
  · exact Nat.zero_le _
  · exact Nat.le_succ_of_le (hb x (List.mem_of_mem_drop hx))
theorem rdy_lt {ws : List (List Nat)} {h : Nat} {r : List Nat} (e : rdy ws = h :: r) : h < 6 ∧ (ws.getD h []).length = h + 1 := by
  have : h ∈ rdy ws := by rw [e]; exact .head _
  simp only [rdy, List.mem_filter, List.mem_range, beq_iff_eq] at this
  exact this
theorem sowS_inv (ws : List (List Nat)) (h6 : ws.length = 6) (hb : ∀ x ∈ ws, x.length ≤ 10) : ∀ i, (sowS ws i).1.length = 6 ∧ (∀ x ∈ (sowS ws i).1, x.length ≤ 10 + i) ∧ (sowS ws i).2.1.length ≤ i ∧ (sowS ws i).2.2.length ≤ i
  | 0 => ⟨h6, hb, Nat.le_refl _, Nat.le_refl _⟩
  | i + 1 => by
    obtain ⟨a, b, c, d⟩ := sowS_inv ws h6 hb i
    rw [sowS]
    split
    · exact ⟨a, fun x hx => Nat.le_succ_of_le (b x hx), Nat.le_succ_of_le c, Nat.le_succ_of_le d⟩
    · rename_i h r e
      refine ⟨sow1_len a (rdy_lt e).1, sow1_bnd b, ?_, ?_⟩
      · simp only [List.length_append, List.length_singleton]; omega
      · simp only [List.length_append, List.length_singleton]; omega
end Mine
end
noncomputable section
open PySem PySem.W PySem.Calls PyProof.Rows
namespace Mine
/-- _law_home on lists: hole h of the board is taken -/
noncomputable def homeT (ls : List (List Nat)) (h : Nat) : List (List Nat) :=
  (List.range 6).map fun i => if i = h - 1 then [] else if i < h - 1 then ls.getD i [] ++ [(ls.getD (h - 1) []).getD (h - 2 - i) 0] else ls.getD i []
noncomputable def homeS : List Nat → List (List Nat) → List Nat
  | [], _ => []
  | h :: r, ls => (ls.getD (h - 1) []).getD (h - 1) 0 :: homeS r (homeT ls h)
/-- may the holes be taken so -/
noncomputable def homeV : List Nat → List (List Nat) → Bool
  | [], _ => true
  | h :: r, ls => decide (1 ≤ h) && decide (h ≤ 6) && decide (h ≤ (ls.getD (h - 1) []).length) && homeV r (homeT ls h)
end Mine
end
noncomputable section
open PySem PySem.W PySem.Calls PyProof.Rows
set_option maxRecDepth 100000
set_option maxHeartbeats 4000000
namespace Mine
local macro_rules | `(tactic| ktr_rel) => `(tactic| (refine lv_ret (by k_asm) (by k_asm) (by rfl) ?_))
local macro_rules | `(tactic| k_ne) => `(tactic| (refine neN ?_; (try dsimp only); first | assumption | exact Ne.symm (by assumption) | exact Nat.ne_of_lt (by assumption) | exact Nat.ne_of_gt (by assumption) | (apply_rules [nex_x, nex_dx, nex_pb, nex_D, nex_ce, nex_lf, nex_lc, nex_sx, nex_sdx, nex_spb, lne43, lne42, lne41, lne32, lne31, lne21]; done) | (refine Ne.symm ?_; apply_rules [nex_x, nex_dx, nex_pb, nex_D, nex_ce, nex_lf, nex_lc, nex_sx, nex_sdx, nex_spb, lne43, lne42, lne41, lne32, lne31, lne21]; done) | exact row5 (by assumption) | exact row3 (by assumption) | omega))
local macro_rules | `(tactic| omega) => `(tactic| with_reducible first | exact tn0 _ | exact z0 _ | exact tn1 _ | exact tnp _ | exact tn2 _ _ | exact ge62 _ | exact ge63 _ | exact zle _ | exact i62 (by assumption) | exact i63 (by assumption) | exact f62 (by assumption) | exact zlt (by assumption) | exact isub (by assumption) | exact row1 (by assumption) | exact fit1 _ (by assumption) | exact b34 (by assumption) | exact b37 (by assumption) (by assumption) | exact tri3 (by assumption) (by assumption) | exact lt6 (by assumption) (by assumption) (by assumption) | exact x63 (by assumption) (by assumption) | exact xlen (by assumption) (by assumption) | exact lt10 _ (by assumption) (by assumption) (by assumption) (by decide) | exact lt11 _ (by assumption) (by assumption) (by assumption) (by decide) | exact roomK _ _ (by assumption) (by decide) | exact roomK2 _ _ _ (by assumption) (by decide) | exact big2 (by assumption) (by assumption) (by assumption) | exact kpl (by assumption) (by assumption) | exact kpi (by assumption) (by assumption) | exact ge2 (by assumption) | exact lt2 _ (by assumption) | exact hp62 (by assumption) | exact hpl (by assumption) (by assumption) (by assumption) | exact hpk (by assumption) (by assumption) (by assumption) | exact pdl (by assumption) (by assumption) | exact us1 (by assumption) (by assumption) (by assumption) (by assumption) | exact ac9 (by assumption) (by assumption) (by assumption) | fail)
local macro_rules | `(tactic| walk_at "storeName") => `(tactic| (dsimp only; walk_at "storeName"))
local macro_rules | `(tactic| walk_at "eval ListComp") => `(tactic| ((fail_if_success (rename Mark => mk9)); refine stopped ?_))
local macro_rules | `(tactic| size_fits) => `(tactic| first | (rw [PySem.sizeLine_eq]; omega) | fail "size_fits: own")
/-- how word k is written -/
noncomputable def way (wl : List (List Nat)) (ch : Int) (k : Nat) : List Nat :=
  if ((k : Int) + ch).fmod 3 = 0 then [32, 13, 34] ++ wl.getD k [] ++ [34]
  else if ((k : Int) + ch).fmod 3 = 1 then ((wl.getD k []).map fun c => [92, c]).flatten ++ [10]
  else wl.getD k [] ++ [9]
noncomputable def text6 (wl : List (List Nat)) (ch : Int) : List Nat := ((List.range 6).map (way wl ch)).flatten ++ [107, 92, 32, 92, 10, 92, 92, 11, 34, 35]
theorem esc_len : ∀ w : List Nat, (w.map fun c => [92, c]).flatten.length = 2 * w.length
  | [] => rfl
  | c :: w => by simp only [List.map_cons, List.flatten_cons, List.length_append, List.length_cons, List.length_nil]; rw [esc_len w]; omega
theorem way_len (wl : List (List Nat)) (ch : Int) (k : Nat) (h : (wl.getD k []).length ≤ 20) : (way wl ch k).length ≤ 45 := by
  unfold way
  split
  · simp only [List.length_append, List.length_cons, List.length_nil]; omega
  · split
    · simp only [List.length_append, esc_len, List.length_cons, List.length_nil]; omega
    · simp only [List.length_append, List.length_cons, List.length_nil]; omega
theorem way0 {wl : List (List Nat)} {ch : Int} {k : Nat} (h : ((k : Int) + ch).fmod 3 = 0) : way wl ch k = [32, 13, 34] ++ wl.getD k [] ++ [34] := if_pos h
theorem way1 {wl : List (List Nat)} {ch : Int} {k : Nat} (h : ((k : Int) + ch).fmod 3 = 1) : way wl ch k = ((wl.getD k []).map fun c => [92, c]).flatten ++ [10] := by
  rw [way, if_neg (by omega), if_pos h]
theorem way2 {wl : List (List Nat)} {ch : Int} {k : Nat} (h : ((k : Int) + ch).fmod 3 = 2) : way wl ch k = wl.getD k [] ++ [9] := by
  rw [way, if_neg (by omega), if_neg (by omega)]
theorem text_end (wl : List (List Nat)) (ch : Int) (t : Tok) : Value.str (mkS ((List.range 6).map (way wl ch)).flatten ++ Str.ofString "k\\ \\\n\\\\\x0b\"#") t = .str (mkS (text6 wl ch)) t := by
  rw [text6, ← mk_app]
  rfl
theorem kE2 {i : Nat} {ch : Int} {r : Int} (h : (0 + (i : Int) + ch).fmod 3 = r) : ((i : Int) + ch).fmod 3 = r := by rw [← h, Int.zero_add]
section
variable {w : World} {p : Program} {loose : List Str} {mean : ExcName → Option Value} {mg mb : Str → Option Value}
theorem ct_text (wa : Addr) (vs : List Value) (kn : Nat) (wl : List (List Nat)) (hs : StrsAre vs (wl.map mkS)) (hl : wl.length = 6) (hw : ∀ x ∈ wl, x.length ≤ 20) (ch : Int) (t2 : Tok) :
    Ct w p loose mean mg mb 5 40 186 [.ref wa, .int ch t2] [(wa, W.listOf vs.toArray kn)] fun v l => ∃ t, v = .str (mkS (text6 wl ch)) t ∧ l = [(wa, W.listOf vs.toArray kn)] := by
  intro A h₀ s Q E hA hd hu X T st O ret
  k_dflt (refine' ct_def (binds := [(Str.ofString "words", .ref wa), (Str.ofString "change", .int ch t2)]) (sub := _) X T st O ?k6 ?k7 ?k8 ?k9 ?kB ret ?_ ?c2 ?c3 ?c4 ?c5)
  (case k6 => k_is); (case k7 => k_is); (case k8 => omega); (case k9 => exact BindsTo.of_eq rfl); (case kB => exact locs rfl); (case c5 => decide); (case c2 => exact rfl); (case c3 => exact rfl); (case c4 => exact rfl)
  clear ret O st T X; intro g L h₁ X T F N hlt; (try dsimp only); (try k_fold)
  k_steps
  k_dflt (refine for_range (n := 6) (fun i m nx => ∃ t, m (Str.ofString "words") = some (.ref wa) ∧ m (Str.ofString "change") = some (.int ch t2) ∧ m (Str.ofString "text") = some (.str (mkS ((List.range i).map (way wl ch)).flatten) t) ∧ nx = [(wa, W.listOf vs.toArray kn)] ∧ ((List.range i).map (way wl ch)).flatten.length ≤ 60 * i) hA rfl (by k_asm) (by rfl) (by rfl) (by k_asm) (by k_asm) ?hj ?turn ?done)
  case hj => exact ⟨_, rfl, rfl, rfl, rfl, Nat.le_refl _⟩
  case turn =>
    rintro i t m₁ nx h tk I oI hi ⟨tx, hm1, hm2, hm3, rfl, hx⟩ hI F1 N1
    rw [loc_up (m := m₁) (b := m₁) [(Str.ofString "words", some (.ref wa)), (Str.ofString "change", some (.int ch t2)), (Str.ofString "text", some (.str (mkS ((List.range i).map (way wl ch)).flatten) tx))] (fun _ _ => rfl) (List.forall_mem_cons.mpr ⟨hm1, List.forall_mem_cons.mpr ⟨hm2, List.forall_mem_cons.mpr ⟨hm3, List.forall_mem_nil _⟩⟩⟩)] at F1
    dsimp only [up] at F1
    have hI1 : @Ne Nat wa I := hI _ (.head _)
    have c1 : (Str.ofString " \r\"").length = 3 := by decide
    have c2 : (Str.ofString "\"").length = 1 := by decide
    have c3 : (Str.ofString "\n").length = 1 := by decide
    have c4 : (Str.ofString "\t").length = 1 := by decide
    have c5 : (Str.ofString "\\").length = 1 := by decide
    have hw0 : (wl.getD i []).length ≤ 20 := hw _ (getD_mem _ _ _ (by omega))
    have hwl : ((wl.map mkS).getD (0 + (i : Int)).toNat Str.empty).length ≤ 20 := by
      rw [getD_mk, mk_len, show (0 + (i : Int)).toNat = i from z0 i]; exact hw0
    have hxl : (mkS ((List.range i).map (way wl ch)).flatten).length ≤ 60 * i := by rw [mk_len]; exact hx
    have hlm : (wl.map mkS).length = 6 := by simpa using hl
    have hnx : ((List.range (i + 1)).map (way wl ch)).flatten.length ≤ 60 * (i + 1) := by
      rw [List.range_succ, List.map_append, List.flatten_append, List.map_singleton, List.flatten_singleton, List.length_append]
      exact m60 (Nat.add_le_add hx (way_len wl ch i hw0))
    k_steps
    refine unstop ?_
    k_dflt (refine' ListComp_S ?hF ?hc1 ?hc2 ?hc3 ?hc4 ?hc5 ?_; (case hF => k_asm); (case hc1 => rfl); (case hc2 => decide); (case hc3 => rfl); (case hc4 => decide); (case hc5 => rfl))
    k_steps
    with_reducible rename Fr _ _ _ _ => F4
    with_reducible rename News _ _ _ _ => N4
    generalize hwd : (wl.map mkS).getD (0 + (i : Int)).toNat Str.empty = wd at *
    obtain rfl : wd = mkS (wl.getD i []) := by rw [← hwd, getD_mk, show (0 + (i : Int)).toNat = i from z0 i]
    generalize hwi : wl.getD i [] = wd at *
    refine SrcS.mk hA F4 N4 (by rw [PySem.sizeLine_eq]; show (mkS wd).length ≤ _; omega) fun g1 => ?_
    clear F4 N4
    refine comp_inv (fun j ys nx => nx = [(I, oI), (wa, W.listOf vs.toArray kn)] ∧ StrsAre ys (((wd.take j).map fun c => [92, c]).map mkS)) wd.length ?step ?fin _ 0 [] _ (by show 0 + (List.toArray wd).size = _; simp) ⟨rfl, .nil⟩
    case step =>
      rintro j ys nx v I1 oI1 C oC1 D m2 h1 tk1 E' hj ⟨rfl, hys⟩ ⟨c, u, hcj, rfl⟩ hC hx2 F N off ne
      (try simp only [LCg.Off3, and_true] at off)
      obtain ⟨⟨f1, f2, f3⟩, f4, f5, f6⟩ := off
      have hc1 : (⟨#[c]⟩ : Str).length = 1 := rfl
      k_steps
      rw [take_snoc _ j 0 hj, List.map_append, show wd.getD j 0 = c by simpa [List.getD] using congrArg (fun o : Option Nat => o.getD 0) hcj]
      exact strsAre_snoc hys [92, c] _
    case fin =>
      rintro ys nx ⟨rfl, hys⟩
      rw [List.take_length] at hys
      k_steps
      refine join0 (ls := wd.map fun c => [92, c]) (by is_list) hys (by rw [esc_len]; omega) fun t5 tk5 => ?_
      have hjl : (mkS (wd.map fun c => [92, c]).flatten).length ≤ 40 := by rw [mk_len, esc_len]; omega
      k_steps
      dsimp only
      rw [getD_mk, show (0 + (i : Int)).toNat = i from z0 i, hwi]
      k_steps
      · rename (0 + (i : Int) + ch).fmod 3 = _ => kE
        with_reducible rename Fr _ _ _ _ => F9
        with_reducible rename News _ _ _ _ => N9
        have hv : mkS ((List.range i).map (way wl ch)).flatten ++ (Str.ofString " \r\"" ++ mkS wd ++ Str.ofString "\"") = mkS ((List.range (i + 1)).map (way wl ch)).flatten := by
          rw [show Str.ofString " \r\"" = mkS [32, 13, 34] from rfl, show Str.ofString "\"" = mkS [34] from rfl, mk_app, mk_app, mk_app]
          rw [List.range_succ, List.map_append, List.flatten_append, List.map_singleton, List.flatten_singleton]
          rw [way0 (kE2 kE), hwi]
        refine turn_next (nx := [(wa, W.listOf vs.toArray kn)]) F9 N9 (by rfl) ?_ ?_ (fun _ h => nomatch h) ⟨_, rfl, rfl, congrArg (fun x => some (Value.str x _)) hv, rfl, ?_⟩
        · (repeat' (first | exact List.forall_mem_nil _ | refine List.forall_mem_cons.mpr ⟨by k_mem, ?_⟩))
        · intro p hp; rw [List.mem_singleton.mp hp]; exact hI1
        · exact hnx
      · rename (0 + (i : Int) + ch).fmod 3 = _ => kE
        with_reducible rename Fr _ _ _ _ => F9
        with_reducible rename News _ _ _ _ => N9
        have hv : mkS ((List.range i).map (way wl ch)).flatten ++ (mkS (List.map (fun c => [92, c]) wd).flatten ++ Str.ofString "\n") = mkS ((List.range (i + 1)).map (way wl ch)).flatten := by
          rw [show Str.ofString "\n" = mkS [10] from rfl, mk_app, mk_app]
          rw [List.range_succ, List.map_append, List.flatten_append, List.map_singleton, List.flatten_singleton]
          rw [way1 (kE2 kE), hwi]
        refine turn_next (nx := [(wa, W.listOf vs.toArray kn)]) F9 N9 (by rfl) ?_ ?_ (fun _ h => nomatch h) ⟨_, rfl, rfl, congrArg (fun x => some (Value.str x _)) hv, rfl, ?_⟩
        · (repeat' (first | exact List.forall_mem_nil _ | refine List.forall_mem_cons.mpr ⟨by k_mem, ?_⟩))
        · intro p hp; rw [List.mem_singleton.mp hp]; exact hI1
        · exact hnx
      · rename (0 + (i : Int) + ch).fmod 3 = _ => kE
        with_reducible rename Fr _ _ _ _ => F9
        with_reducible rename News _ _ _ _ => N9
        have hv : mkS ((List.range i).map (way wl ch)).flatten ++ (mkS wd ++ Str.ofString "\t") = mkS ((List.range (i + 1)).map (way wl ch)).flatten := by
          rw [show Str.ofString "\t" = mkS [9] from rfl, mk_app, mk_app]
          rw [List.range_succ, List.map_append, List.flatten_append, List.map_singleton, List.flatten_singleton]
          rw [way2 (kE2 kE), hwi]
        refine turn_next (nx := [(wa, W.listOf vs.toArray kn)]) F9 N9 (by rfl) ?_ ?_ (fun _ h => nomatch h) ⟨_, rfl, rfl, congrArg (fun x => some (Value.str x _)) hv, rfl, ?_⟩
        · (repeat' (first | exact List.forall_mem_nil _ | refine List.forall_mem_cons.mpr ⟨by k_mem, ?_⟩))
        · intro p hp; rw [List.mem_singleton.mp hp]; exact hI1
        · exact hnx
  case done =>
    rintro m₁ nx h tk ⟨tx, hm1, hm2, hm3, rfl, hx⟩ F1 N1
    rw [loc_up (m := m₁) (b := m₁) [(Str.ofString "words", some (.ref wa)), (Str.ofString "change", some (.int ch t2)), (Str.ofString "text", some (.str (mkS ((List.range 6).map (way wl ch)).flatten) tx))] (fun _ _ => rfl) (List.forall_mem_cons.mpr ⟨hm1, List.forall_mem_cons.mpr ⟨hm2, List.forall_mem_cons.mpr ⟨hm3, List.forall_mem_nil _⟩⟩⟩)] at F1
    dsimp only [up] at F1
    have hxl : (mkS ((List.range 6).map (way wl ch)).flatten).length ≤ 360 := by rw [mk_len]; exact hx
    have c9 : (Str.ofString "k\\ \\\n\\\\\x0b\"#").length = 10 := by decide
    k_steps
    ktr_rel
    exact ⟨_, text_end wl ch _, rfl⟩
end
end Mine
end
noncomputable section
open PySem PySem.W PySem.Calls PyProof.Rows
set_option maxRecDepth 100000
set_option maxHeartbeats 4000000
namespace Mine
local macro_rules | `(tactic| k_ne) => `(tactic| (refine neN ?_; (try dsimp only); first | assumption | exact Ne.symm (by assumption) | exact Nat.ne_of_lt (by assumption) | exact Nat.ne_of_gt (by assumption) | (apply_rules [nex_x, nex_dx, nex_pb, nex_D, nex_ce, nex_lf, nex_lc, nex_sx, nex_sdx, nex_spb, lne43, lne42, lne41, lne32, lne31, lne21]; done) | (refine Ne.symm ?_; apply_rules [nex_x, nex_dx, nex_pb, nex_D, nex_ce, nex_lf, nex_lc, nex_sx, nex_sdx, nex_spb, lne43, lne42, lne41, lne32, lne31, lne21]; done) | exact row5 (by assumption) | exact row3 (by assumption) | omega))
local macro_rules | `(tactic| ktr_rel) => `(tactic| (refine lv_ret (by k_asm) (by k_asm) (by rfl) ?_))
local macro_rules | `(tactic| walk_at "storeName") => `(tactic| (dsimp only; walk_at "storeName"))
local macro_rules | `(tactic| walk_at "eval ListComp") => `(tactic| ((fail_if_success (rename Mark => mk9)); refine stopped ?_))
theorem comp_invT {prog : Program} {w : World} {A : Around} {s : Shared} {h₀ : Heap} {L : Addr} {m : Str → Option Value} {env : Env} {ct elt : Expr} {x : Str} {scope : Scope} {cl : List (Str × Addr)} {S : Led → Prop} {P : Nat → Value → Prop} {Fin : List Value → Led → Prop}
    (J : Nat → List Value → Led → Prop) (n : Nat)
    (step : ∀ i ys nx v I oI C oC D m₂ h tk (E' : Value → Shared → Prop), i < n → J i ys nx → P i v → LCg.NsObj oC m₂ → m₂ x = some v → Fr h₀ L h m → News h₀ L h ((I, oI) :: (C, oC) :: (D, LCg.lst ys) :: nx) → LCg.Off3 I C D nx → ((@Ne Nat I C) ∧ (@Ne Nat I D) ∧ (@Ne Nat C D)) →
      wpAny (model prog w) A (isTrue ct (compEnvC scope cl C env) (eval ct (compEnvC scope cl C env))) (fun ok s' => if ok = true then
        wpAny (model prog w) A (eval elt (compEnvC scope cl C env)) (LCg.CompEnd h₀ L m { s with heap := h, toks := tk } I oI C oC D (LCg.lst ys) S (fun y nx' => J (i + 1) (ys ++ [y]) nx')) E' s'
        else LCg.CompEnd h₀ L m { s with heap := h, toks := tk } I oI C oC D (LCg.lst ys) S (fun _ nx' => J (i + 1) ys nx') Value.none s') E' { s with heap := h, toks := tk })
    (fin : ∀ ys nx, J n ys nx → Fin ys nx) : ∀ (k i : Nat) (ys : List Value) (nx : Led), i + k = n → J i ys nx → LCt.CompRestT prog w A h₀ L m env ct elt x scope cl s S P Fin k i ys nx
  | 0, i, ys, nx, e, hj => fin ys nx (by rw [← e]; exact hj)
  | k + 1, i, ys, nx, e, hj => fun v I oI C oC D m₂ h tk E' hP hC hx F N off ne =>
    wpAny_mono (step i ys nx v I oI C oC D m₂ h tk E' (by omega) hj hP hC hx F N off ne) (fun ok s' q => by
      cases ok with
      | true =>
        simp only [if_true] at q ⊢
        refine wpAny_mono q (fun y s₂ q => ?_) fun _ _ e => e
        obtain ⟨h', tk', nx', e', F', N', off', hS, hj'⟩ := q
        exact ⟨h', tk', nx', e', F', N', off', hS, comp_invT J n step fin k (i + 1) (ys ++ [y]) nx' (by omega) hj'⟩
      | false =>
        simp only [Bool.false_eq_true, if_false] at q ⊢
        obtain ⟨h', tk', nx', e', F', N', off', hS, hj'⟩ := q
        exact ⟨h', tk', nx', e', F', N', off', hS, comp_invT J n step fin k (i + 1) ys nx' (by omega) hj'⟩) fun _ _ e => e
/-- what a prepared word keeps, and how a sign is folded -/
noncomputable def prepL (x : List Nat) : List Nat := x.filter fun c => !hid (c : Int)
noncomputable def lowL (c : Nat) : List Nat := ((b3s (c : Int)).getD (Txt.lower ⟨#[c]⟩)).cps.toList
theorem filt_t {c : Nat} (h : hid (c : Int) = true) : ([c].filter fun (c : Nat) => !hid (c : Int)) = [] := by simp [h]
theorem filt_f {c : Nat} (h : hid (c : Int) = false) : ([c].filter fun (c : Nat) => !hid (c : Int)) = [c] := by simp [h]
section
variable {w : World} {p : Program} {loose : List Str} {mean : ExcName → Option Value} {mg mb : Str → Option Value}
theorem ct_prep (x : List Nat) (hx : x.length ≤ 1000) (hz : ((prepL x).map lowL).flatten.length ≤ 100000) (t : Tok) :
    Ct w p loose mean mg mb 8 80 191 [.str (mkS x) t] [] fun v l => ∃ t, v = .str (mkS ((prepL x).map lowL).flatten) t ∧ l = [] := by
  intro A h₀ s Q E hA hd hu X T stt O ret
  k_dflt (refine' ct_defC (binds := [(Str.ofString "text", .str (mkS x) t)]) (sub := _) X T stt O ?k6 ?k7 ?k8 ?k9 ?kB ?kD ret ?_ ?c2 ?c3 ?c4)
  (case k6 => k_is); (case k7 => k_is); (case k8 => omega); (case k9 => exact BindsTo.of_eq rfl); (case kB => exact rfl); (case kD => decide +kernel); (case c2 => exact rfl); (case c3 => exact rfl); (case c4 => exact rfl)
  clear ret O stt T X; intro g L h₁ tk cells X T F N Y hlt; k_cells Y; (try simp only [List.cons_append, List.nil_append] at N); (try dsimp only); (try k_fold)
  k_steps
  refine unstop ?_
  k_dflt (refine' ListComp_S ?hF ?hc1 ?hc2 ?hc3 ?hc4 ?hc5 ?_; (case hF => k_asm); (case hc1 => rfl); (case hc2 => decide); (case hc3 => rfl); (case hc4 => decide); (case hc5 => rfl))
  k_steps
  rename_i oH oT dT1 dT2
  refine SrcS.mk hA F N (by rw [PySem.sizeLine_eq]; show (mkS x).length ≤ _; rw [mk_len]; omega) fun g1 => ?_
  refine comp_inv (fun j ys nx => nx = [(L + 1 + 1, oH), (L + 1, oT)] ∧ ys = (x.take j).map fun (c : Nat) => Value.bool (hid (c : Int))) x.length ?step ?fin _ 0 [] _ (by show 0 + (List.toArray x).size = _; simp) ⟨rfl, rfl⟩
  case step =>
    rintro j ys nx v I1 oI1 C oC1 D m2 h1 tk1 E' hj ⟨rfl, rfl⟩ ⟨c, u, hcj, rfl⟩ hC hx2 F1 N1 off ne
    (try simp only [LCg.Off3, and_true] at off)
    obtain ⟨⟨f1, f2, f3⟩, f4, f5, f6⟩ := off
    k_steps
    refine Ct.use0 (ct_b1 c u) F1 X N1 T hA (dOk hd) (uOk hu) fun v' sub' h' tk' F' N' P' => ?_
    subst P'
    k_steps
    rw [take_snoc _ j 0 hj, List.map_append, show x.getD j 0 = c by simpa [List.getD] using congrArg (fun o : Option Nat => o.getD 0) hcj]
    rfl
  case fin =>
    rintro ys nx ⟨rfl, rfl⟩
    rw [List.take_length]
    clear F N
    k_steps
    refine unstop ?_
    k_dflt (refine' LCt.ListComp_T ?hF ?hc1 ?hc2 ?hc3 ?hc4 ?hc5 ?_; (case hF => k_asm); (case hc1 => with_unfolding_all rfl); (case hc2 => decide); (case hc3 => rfl); (case hc4 => decide); (case hc5 => rfl))
    k_steps
    with_reducible rename Fr _ _ _ _ => F2
    with_reducible rename News _ _ _ _ => N2
    rename_i D1 hX tkX oX hD1 oD1 dD1
    refine LCt.CompSrcT.ledger hA F2 N2 (.head _) (by rw [PySem.sizeLine_eq]; simp only [List.size_toArray, List.length_map]; omega) fun g2 => ?_
    clear F2 N2
    refine comp_invT (fun j ys nx => nx = [(D1, LCg.lst (x.map fun (c : Nat) => Value.bool (hid (c : Int)))), (L + 1 + 1, oD1), (L + 1, oT)] ∧ ys = []) x.length ?step2 ?fin2 _ 0 [] _ (by simp) ⟨rfl, rfl⟩
    case step2 =>
      rintro j ys nx v I1 oI1 C oC1 D m2 h1 tk1 E' hj ⟨rfl, rfl⟩ hv hC hx2 F1 N1 off ne
      (try simp only [LCg.Off3, and_true] at off)
      obtain ⟨⟨f1, f2, f3⟩, ⟨f4, f5, f6⟩, f7, f8, f9⟩ := off
      obtain ⟨b, rfl⟩ : ∃ b, v = .bool b := ⟨hid (x[j] : Int), by simpa [hj] using hv.symm⟩
      cases b
      · k_steps
      · k_steps
    case fin2 =>
      rintro ys nx ⟨rfl, rfl⟩
      k_steps
      refine unstop ?_
      k_dflt (refine' LCt.ListComp_T ?hF ?hc1 ?hc2 ?hc3 ?hc4 ?hc5 ?_; (case hF => k_asm); (case hc1 => with_unfolding_all rfl); (case hc2 => decide); (case hc3 => rfl); (case hc4 => decide); (case hc5 => rfl))
      k_steps
      refine len_l (by omega) fun t8 tk8 => ?_
      k_steps
      with_reducible rename Fr _ _ _ _ => F5
      with_reducible rename News _ _ _ _ => N5
      have N6 : News g L _ [(D1, LCg.lst (x.map fun (c : Nat) => Value.bool (hid (c : Int)))), (L + 1 + 1, oD1), (L + 1, oT)] := fun p hp => N5 p (.tail _ (.tail _ hp))
      refine LCt.CompSrcT.range (n := x.length) hA F5 N6 (by assumption) (PySem.small_one (by omega) (by omega) (by omega) (by omega)) (by rw [rangeSize_nat]; omega) (by rw [PySem.sizeLine_eq]; omega) fun g3 => ?_
      clear F5 N5 N6
      refine comp_invT (fun j ys nx => nx = [(D1, LCg.lst (x.map fun (c : Nat) => Value.bool (hid (c : Int)))), (L + 1 + 1, oD1), (L + 1, oT)] ∧ StrsAre ys (((prepL (x.take j)).map lowL).map mkS)) x.length ?step3 ?fin3 _ 0 [] _ (by omega) ⟨rfl, .nil⟩
      case step3 =>
        rintro j ys nx v I1 oI1 C oC1 D m2 h1 tk1 E' hj ⟨rfl, hys⟩ ⟨t9, rfl⟩ hC hx2 F1 N1 off ne
        (try simp only [LCg.Off3, and_true] at off)
        obtain ⟨⟨f1, f2, f3⟩, ⟨f4, f5, f6⟩, f7, f8, f9⟩ := off
        k_steps
        have hget : (x.map fun (c : Nat) => Value.bool (hid (c : Int))).toArray[(0 + (j : Int)).toNat]? = some (.bool (hid (x.getD j 0 : Nat))) := by
          rw [show (0 + (j : Int)).toNat = j by omega]
          simp [List.getD, hj]
        refine PyProof.Rows.item_list (by is_list) (by omega) (by omega) hget ?_
        have hsn := take_snoc x j 0 hj
        cases hb : hid (x.getD j 0 : Nat) with
        | true =>
          k_steps
          rw [hsn, prepL, List.filter_append, filt_t hb, List.append_nil]
          exact hys
        | false =>
          k_steps
          refine item_str (by unfold fitsSsize; simp; omega) (by omega) (by rw [mk_len]; omega) fun _ => ?_
          rw [item_mk x j hj]
          k_steps
          refine Ct.use0 (ct_b3 (x.getD j 0) _) F1 X N1 T hA (dOk hd) (uOk hu) fun v' sub' h' tk' F' N' P' => ?_
          obtain ⟨tb, rfl⟩ := P'
          k_steps
          rw [hsn, prepL, List.filter_append, filt_f hb, List.map_append]
          rw [mk_of ((b3s ((x.getD j 0 : Nat) : Int)).getD (Txt.lower ⟨#[x.getD j 0]⟩))]
          exact strsAre_snoc hys (lowL (x.getD j 0)) _
      case fin3 =>
        rintro ys nx ⟨rfl, hys⟩
        rw [List.take_length] at hys
        k_steps
        refine join0 (ls := (prepL x).map lowL) (by is_list) hys hz fun t5 tk5 => ?_
        k_steps
        with_reducible rename Fr _ _ _ _ => F9
        exact lv_ret F9 (news := []) (fun q hq => absurd hq List.not_mem_nil) (by rfl) ⟨_, rfl, rfl⟩
end
end Mine
end
noncomputable section
open PySem PySem.W PySem.Calls PyProof.Rows
set_option maxRecDepth 100000
set_option maxHeartbeats 1000000
namespace Mine
theorem News.tl {h₀ h : Heap} {L : Addr} {a : Addr × Obj} {l : Led} (N : News h₀ L h (a :: l)) : News h₀ L h l := fun p hp => N p (.tail _ hp)
noncomputable def Mark2 : Prop := True
theorem pick_from (vs : List Value) (x : Nat) : (slicePick vs.toArray (some (x : Int)) none none).toList = vs.drop x := by
  have e : sliceBounds (some (x : Int)) none none vs.toArray.size = (((min x vs.toArray.size : Nat) : Int), ((vs.toArray.size : Nat) : Int), 1) := by
    simp only [sliceBounds, Option.getD_none, show (1 : Int) > 0 by decide, if_true, if_neg (show ¬ ((x : Int) < 0) from Int.not_lt.mpr (Int.natCast_nonneg x))]
    congr 1
    show max 0 (min (x : Int) ((vs.toArray.size : Nat) : Int)) = _
    have e : min (x : Int) ((vs.toArray.size : Nat) : Int) = ((min x vs.toArray.size : Nat) : Int) := by
      rcases Nat.le_total x vs.toArray.size with h | h
      · rw [Nat.min_eq_left h, Int.min_eq_left (Int.ofNat_le.mpr h)]
      · rw [Nat.min_eq_right h, Int.min_eq_right (Int.ofNat_le.mpr h)]
    rw [e]; exact Int.max_eq_right (Int.natCast_nonneg _)
  rw [kmk_pick_nat _ e]
  show (vs.drop (min x vs.toArray.size)).take (vs.toArray.size - min x vs.toArray.size) = _
  rw [List.size_toArray, kmk_drop_min, List.take_of_length_le (by rw [List.length_drop]; exact Nat.sub_le_sub_left (Nat.min_le_left ..) _)]
theorem strs_at : ∀ {vs : List Value} {ws : List (List Nat)} {j : Nat} {v : Value}, StrsAre vs (ws.map mkS) → vs[j]? = some v → ∃ t, v = .str (mkS (ws.getD j [])) t
  | [], _, j, _, _, h => by simp at h
  | _ :: _, [], _, _, h, _ => by cases h
  | _ :: _, x :: ws, 0, v, h, hv => by
    cases h with | cons y t r =>
    simp at hv
    exact ⟨t, hv.symm⟩
  | _ :: vs, x :: ws, j + 1, v, h, hv => by
    cases h with | cons y t r =>
    have := strs_at (j := j) (v := v) r (by simpa using hv)
    simpa using this
theorem strs_has {vs : List Value} {ws : List (List Nat)} {j : Nat} (h : StrsAre vs (ws.map mkS)) (hj : j < ws.length) : ∃ t, vs[j]? = some (.str (mkS (ws.getD j [])) t) := by
  have hl := h.length
  rw [List.length_map] at hl
  have hv : vs[j]? = some (vs[j]'(by omega)) := List.getElem?_eq_getElem (by omega)
  obtain ⟨t, e⟩ := strs_at h hv
  exact ⟨t, by rw [hv, e]⟩
theorem strs_drop : ∀ {vs : List Value} {xs : List Str} (k : Nat), StrsAre vs xs → StrsAre (vs.drop k) (xs.drop k)
  | _, _, 0, h => h
  | _, _, _ + 1, .nil => .nil
  | _, _, k + 1, .cons _ _ r => strs_drop k r
theorem map_drop_mk (ws : List (List Nat)) (k : Nat) : (ws.map mkS).drop k = (ws.drop k).map mkS := by rw [List.map_drop]
/-- the state behind the If of a turn -/
inductive SowMid (w : World) (g : Heap) (L I : Addr) (oI : Obj) (H : Addr) (a : LexA) (line : Int) (cs : List Nat) (st : List (List Nat) × List Nat × List Int) (s : Shared) (f : Flow) (s' : Shared) : Prop
  | mk (hf : f = .next) (h' : Heap) (tk : Nat) (m' : Str → Option Value) (D : Addr) (vs : List Value) (kk : Nat) (hv' : List Value) (k' : Nat) (o1 o2 o3 o4 : Obj) (v1 v2 : Option Value) (th : Tok) (l : Led)
      (e : s' = { s with heap := h', toks := tk }) (F : Fr g L h' m')
      (N : News g L h' ((D, W.listOf (List.toArray vs) kk) :: (I, oI) :: (H, W.listOf (List.toArray hv') k') :: (L + 1 + 1 + 1 + 1, o1) :: (L + 1 + 1 + 1, o2) :: (L + 1 + 1, o3) :: (L + 1, o4) :: l))
      (hm : m' (Str.ofString "home") = some (.str (mkS st.2.1) th)) (hm2 : m' (Str.ofString "holes") = some (.ref H)) (d1 : Obj.data o1 = .cell v1) (d2 : Obj.data o2 = .cell v2) (d3 : Obj.data o3 = .cell (some (.ref D))) (d4 : Obj.data o4 = .cell (some (.ref a.x)))
      (hs : StrsAre vs (st.1.map mkS)) (hi : IntsAre hv' st.2.2) (R : LexR w a line #[] cs l) (hD : D ∉ a.adrs) (off : ∀ p ∈ (H, W.listOf (List.toArray hv') k') :: (L + 1 + 1 + 1 + 1, o1) :: (L + 1 + 1 + 1, o2) :: (L + 1 + 1, o3) :: (L + 1, o4) :: l, @Ne Nat p.1 I) : SowMid w g L I oI H a line cs st s f s'
/-- what holds ahead of a turn -/
inductive SowJ (w : World) (a : LexA) (line : Int) (cs : List Nat) (L : Addr) (ws : List (List Nat)) (i : Nat) (m : Str → Option Value) (nx : Led) : Prop
  | mk (l : Led) (us : List Value) (o1 o2 o3 o4 : Obj) (v1 v2 v3 : Option Value) (H : Addr) (hv : List Value) (k : Nat) (th : Tok) (h1 : m (Str.ofString "home") = some (.str (mkS (sowS ws i).2.1) th)) (h2 : m (Str.ofString "holes") = some (.ref H))
      (e : nx = (H, W.listOf (List.toArray hv) k) :: (L + 1 + 1 + 1 + 1, o1) :: (L + 1 + 1 + 1, o2) :: (L + 1 + 1, o3) :: (L + 1, o4) :: l) (d1 : Obj.data o1 = .cell v1) (d2 : Obj.data o2 = .cell v2) (d3 : Obj.data o3 = .cell v3) (d4 : Obj.data o4 = .cell (some (.ref a.x)))
      (R : LexR w a line (List.toArray us) cs l) (hs : StrsAre us ((sowS ws i).1.map mkS)) (hi : IntsAre hv (sowS ws i).2.2) (hH : @LT.lt Nat _ (L + 1 + 1 + 1 + 1) H) : SowJ w a line cs L ws i m nx
/-- what _law_sown leaves -/
inductive SownP (w : World) (a : LexA) (line : Int) (cs : List Nat) (st : List (List Nat) × List Nat × List Int) (v : Value) (l : Led) : Prop
  | mk (tp : Addr) (th : Tok) (H : Addr) (hv : List Value) (k : Nat) (us : List Value) (l' : Led) (hv0 : v = .ref tp) (e : l = (tp, { cls := .type "tuple", data := .seq #[.str (mkS st.2.1) th, .ref H] }) :: (H, W.listOf (List.toArray hv) k) :: l') (hi : IntsAre hv st.2.2) (hs : StrsAre us (st.1.map mkS)) (R : LexR w a line (List.toArray us) cs l') (hH : H ∉ a.adrs) : SownP w a line cs st v l
end Mine
end
noncomputable section
open PySem PySem.W PySem.Calls PyProof.Rows
set_option maxRecDepth 100000
set_option maxHeartbeats 1000000
namespace Mine
theorem fm_self {α : Type} : ∀ (r : List α), (List.range r.length).filterMap (fun k => r[k]?) = r
  | [] => rfl
  | x :: r => by
    rw [List.length_cons, List.range_succ_eq_map, List.filterMap_cons]
    show x :: ((List.range r.length).map Nat.succ).filterMap _ = _
    rw [List.filterMap_map]
    exact congrArg (x :: ·) (fm_self r)
theorem fm_congr {α β : Type} {f g : α → Option β} : ∀ (l : List α), (∀ x ∈ l, f x = g x) → l.filterMap f = l.filterMap g
  | [], _ => rfl
  | x :: l, h => by
    rw [List.filterMap_cons, List.filterMap_cons, h x (.head _), fm_congr l fun y hy => h y (.tail _ hy)]
theorem pick_rev (vs : List Value) : (slicePick vs.toArray none none (some (-1))).toList = vs.reverse := by
  unfold slicePick sliceBounds sliceRange
  simp only [Option.getD_some, show ¬ ((-1 : Int) > 0) by decide, if_false, List.size_toArray]
  have hc : (if (vs.length : Int) - 1 > -1 then ((vs.length : Int) - 1 - -1 - -1 - 1) / (- -1) else 0) = vs.length := by
    split
    · rw [show (- -1 : Int) = 1 by decide, Int.ediv_one]; omega
    · omega
  rw [hc, Int.toNat_natCast, List.filterMap_map]
  rw [fm_congr (g := fun k => vs.reverse[k]?) _ fun k hk => ?_]
  · have := fm_self vs.reverse
    rw [List.length_reverse] at this
    exact this
  · have hk := List.mem_range.mp hk
    show vs.toArray[((vs.length : Int) - 1 + -1 * (k : Int)).toNat]? = _
    rw [List.getElem?_reverse hk, show ((vs.length : Int) - 1 + -1 * (k : Int)).toNat = vs.length - 1 - k by rw [Int.neg_mul, Int.one_mul, ← Int.sub_eq_add_neg, Int.sub_sub, Nat.sub_sub]; exact Int.toNat_sub vs.length (1 + k)]
    simp
/-- the board: lists of one-sign strs -/
noncomputable def BdOk (bd : Led) (r : Nat → List Nat) : Prop := (bd.map (·.1)).Nodup ∧ ∀ i p, bd[i]? = some p → ∃ vs k, p.2 = W.listOf (List.toArray vs) k ∧ StrsAre vs ((r i).map fun c => mkS [c])
theorem upd_set {b : Addr} {o o' : Obj} : ∀ {bd : Led} {i : Nat} (rest : Led), bd[i]? = some (b, o) → (bd.map (·.1)).Nodup → (∀ p ∈ rest, p.1 ≠ b) → Upd b o o' (bd ++ rest) (bd.set i (b, o') ++ rest)
  | [], _, _, h, _, _ => by simp at h
  | q :: bd, 0, rest, h, nd, hr => by
    simp at h
    subst h
    refine .head fun p hp => ?_
    rcases List.mem_append.mp hp with hp | hp
    · intro e
      have hm := List.mem_map_of_mem (f := fun x : Addr × Obj => x.1) hp
      have hm2 : b ∈ bd.map (·.1) := e ▸ hm
      exact (List.nodup_cons.mp nd).1 hm2
    · exact hr p hp
  | q :: bd, i + 1, rest, h, nd, hr => by
    have h' : bd[i]? = some (b, o) := by simpa using h
    refine .tail ?_ (upd_set rest h' (List.nodup_cons.mp nd).2 hr)
    intro e
    have hm := List.mem_map_of_mem (f := fun x : Addr × Obj => x.1) (List.mem_of_getElem? h')
    have hm2 : q.1 ∈ bd.map (·.1) := by rw [e]; exact hm
    exact (List.nodup_cons.mp nd).1 hm2
theorem set_adrs {b : Addr} {o o' : Obj} : ∀ {bd : Led} {i : Nat}, bd[i]? = some (b, o) → (bd.set i (b, o')).map (·.1) = bd.map (·.1)
  | [], _, h => by simp at h
  | q :: bd, 0, h => by simp at h; subst h; rfl
  | q :: bd, i + 1, h => by
    have h' : bd[i]? = some (b, o) := by simpa using h
    show q.1 :: (bd.set i (b, o')).map (·.1) = _
    rw [set_adrs h']; rfl
theorem bd_set {bd : Led} {r r' : Nat → List Nat} {i : Nat} {b : Addr} {o : Obj} {vs : List Value} {k : Nat} (B : BdOk bd r) (h : bd[i]? = some (b, o)) (hi : StrsAre vs ((r' i).map fun c => mkS [c])) (hr : ∀ j, j ≠ i → r' j = r j) :
    BdOk (bd.set i (b, W.listOf (List.toArray vs) k)) r' := by
  refine ⟨by rw [set_adrs h]; exact B.1, fun j p hp => ?_⟩
  by_cases e : j = i
  · subst e
    have hlt : j < bd.length := by
      rcases Nat.lt_or_ge j bd.length with h1 | h1
      · exact h1
      · rw [List.getElem?_eq_none h1] at h; cases h
    rw [List.getElem?_set_self hlt] at hp
    cases hp
    exact ⟨vs, k, rfl, hi⟩
  · rw [List.getElem?_set_ne (Ne.symm e)] at hp
    rw [hr j e]
    exact B.2 j p hp
theorem bd_snoc {bd : Led} {r : Nat → List Nat} {p : Addr × Obj} {vs : List Value} {k : Nat} (B : BdOk bd r) (he : p.2 = W.listOf (List.toArray vs) k) (hi : StrsAre vs ((r bd.length).map fun c => mkS [c])) (hne : ∀ q ∈ bd, @Ne Nat q.1 p.1) : BdOk (bd ++ [p]) r := by
  refine ⟨?_, fun i q hq => ?_⟩
  · rw [List.map_append, List.nodup_append]
    refine ⟨B.1, by simp, fun a ha b hb => ?_⟩
    obtain ⟨q, hq, rfl⟩ := List.mem_map.mp ha
    have hb' : b = p.1 := by simpa using hb
    rw [hb']
    exact hne q hq
  · rcases Nat.lt_trichotomy i bd.length with h | h | h
    · rw [List.getElem?_append_left h] at hq
      exact B.2 i q hq
    · subst h
      rw [List.getElem?_append_right (Nat.le_refl _), Nat.sub_self] at hq
      cases hq
      exact ⟨vs, k, he, hi⟩
    · rw [List.getElem?_append_right (by omega), List.getElem?_eq_none (by simp; omega)] at hq
      cases hq
theorem upd_set0 {b : Addr} {o o' : Obj} {bd : Led} {i : Nat} (h : bd[i]? = some (b, o)) (nd : (bd.map (·.1)).Nodup) : Upd b o o' bd (bd.set i (b, o')) := by
  have := upd_set (o' := o') [] h nd (fun p hp => absurd hp List.not_mem_nil)
  rwa [List.append_nil, List.append_nil] at this
theorem setL_set (v : Value) : ∀ {l : List Value} {i : Nat}, i < l.length → ki_setL l i v = some (l.set i v)
  | [], _, h => by cases h
  | x :: r, 0, _ => rfl
  | x :: r, i + 1, h => by
    have := setL_set v (l := r) (i := i) (by simpa using h)
    unfold ki_setL
    rw [this]
    rfl
theorem set_refs {b : Addr} {o o' : Obj} {bd : Led} {i : Nat} (h : bd[i]? = some (b, o)) : (bd.set i (b, o')).map (fun q => Value.ref q.1) = bd.map (fun q => Value.ref q.1) := by
  have := congrArg (List.map Value.ref) (set_adrs (o' := o') h)
  simpa [List.map_map, Function.comp_def] using this
theorem set_all {P : Nat → Prop} {b : Addr} {o o' : Obj} {bd : Led} {i : Nat} (h : bd[i]? = some (b, o)) (hp : ∀ q ∈ bd, P q.1) : ∀ q ∈ bd.set i (b, o'), P q.1 := by
  intro q hq
  rcases List.mem_or_eq_of_mem_set hq with hq | rfl
  · exact hp q hq
  · exact hp (b, o) (List.mem_of_getElem? h)
theorem bd_congr {bd : Led} {r r' : Nat → List Nat} (B : BdOk bd r) (h : ∀ i, i < bd.length → r' i = r i) : BdOk bd r' := by
  refine ⟨B.1, fun i p hp => ?_⟩
  have hi : i < bd.length := by
    rcases Nat.lt_or_ge i bd.length with h1 | h1
    · exact h1
    · rw [List.getElem?_eq_none h1] at hp; cases hp
  rw [h i hi]
  exact B.2 i p hp
theorem getD_mk1 {x : List Nat} {k : Nat} (h : k < x.length) : (x.map fun c => mkS [c]).getD k Str.empty = mkS [x.getD k 0] := by
  simp [List.getD, h]
/-- a new list stands in row i -/
theorem bd_new {bd : Led} {r r' : Nat → List Nat} {i : Nat} {b : Addr} (B : BdOk bd r) (hi : i < bd.length) (hb : ∀ q ∈ bd, @Ne Nat q.1 b) (h0 : r' i = []) (hr : ∀ j, j ≠ i → r' j = r j) :
    BdOk (bd.set i (b, W.listOf (List.toArray []) 0)) r' := by
  refine ⟨?_, fun j q hq => ?_⟩
  · rw [List.map_set]
    have key : ∀ (l : List Addr) (i : Nat), l.Nodup → b ∉ l → (l.set i b).Nodup := by
      intro l
      induction l with
      | nil => intro i _ _; simp
      | cons x l ih =>
        intro i nd hn
        obtain ⟨n1, n2⟩ := List.nodup_cons.mp nd
        have m1 : b ≠ x := fun e => hn (e ▸ .head _)
        have m2 : b ∉ l := fun h => hn (.tail _ h)
        cases i with
        | zero => exact List.nodup_cons.mpr ⟨m2, n2⟩
        | succ i =>
          refine List.nodup_cons.mpr ⟨fun hx => ?_, ih i n2 m2⟩
          rcases List.mem_or_eq_of_mem_set hx with h | h
          · exact n1 h
          · exact m1 h.symm
    refine key _ i B.1 fun hm => ?_
    obtain ⟨q, hq, e⟩ := List.mem_map.mp hm
    exact hb q hq e
  · by_cases e : j = i
    · subst e
      rw [List.getElem?_set_self hi] at hq
      cases hq
      refine ⟨[], 0, rfl, ?_⟩
      rw [h0]
      exact .nil
    · rw [List.getElem?_set_ne (Ne.symm e)] at hq
      rw [hr j e]
      exact B.2 j q hq
/-- the board while hole h is sown: k letters are out -/
noncomputable def rowP (ls : List (List Nat)) (h k i : Nat) : List Nat :=
  if i = h - 1 then [] else if i < h - 1 ∧ h - 1 - k ≤ i then ls.getD i [] ++ [(ls.getD (h - 1) []).getD (h - 2 - i) 0] else ls.getD i []
theorem rp0 {h k : Nat} : h - 2 - k = h - 1 - k - 1 := Nat.sub_right_comm (h - 1) 1 k
theorem rp1 {h k : Nat} (hk : k < h - 1) : h - 2 - k < h - 1 := Nat.lt_of_le_of_lt (Nat.sub_le (h - 1 - 1) k) (Nat.sub_lt (Nat.zero_lt_of_lt hk) Nat.one_pos)
theorem rp2 {h k : Nat} (hk : k < h - 1) : h - 2 - k < h - 1 - k := by rw [rp0]; exact Nat.sub_lt (Nat.sub_pos_of_lt hk) Nat.one_pos
theorem rp3 {h k i : Nat} (hi : i ≠ h - 2 - k) (c : h - 1 - (k + 1) ≤ i) : h - 1 - k ≤ i := by
  rcases Nat.lt_or_ge k (h - 1) with hk | hk
  · have := Nat.lt_of_le_of_ne (Nat.le_trans (Nat.le_of_eq rp0) c) (Ne.symm hi)
    rw [rp0] at this
    exact Nat.le_trans (Nat.le_of_eq (Nat.succ_pred_eq_of_pos (Nat.sub_pos_of_lt hk)).symm) this
  · rw [Nat.sub_eq_zero_of_le hk]; exact Nat.zero_le _
theorem rowP_end {ls : List (List Nat)} {h : Nat} (i : Nat) (hi : i < 6) : rowP ls h (h - 1) i = (homeT ls h).getD i [] := by
  have e : (homeT ls h).getD i [] = if i = h - 1 then [] else if i < h - 1 then ls.getD i [] ++ [(ls.getD (h - 1) []).getD (h - 2 - i) 0] else ls.getD i [] := by
    unfold homeT
    simp [List.getD, hi]
  rw [e]
  unfold rowP
  by_cases h1 : i = h - 1
  · rw [if_pos h1, if_pos h1]
  · rw [if_neg h1, if_neg h1]
    by_cases h2 : i < h - 1
    · rw [if_pos h2, if_pos ⟨h2, by rw [Nat.sub_self]; exact Nat.zero_le _⟩]
    · rw [if_neg h2, if_neg fun c => h2 c.1]
theorem rowP_0 (ls : List (List Nat)) (h i : Nat) (hi : i ≠ h - 1) : rowP ls h 0 i = ls.getD i [] := by
  unfold rowP
  rw [if_neg hi, if_neg fun c => Nat.not_le_of_lt c.1 c.2]
theorem rowP_at (ls : List (List Nat)) (h k : Nat) (hk : k < h - 1) : rowP ls h k (h - 2 - k) = ls.getD (h - 2 - k) [] ∧ rowP ls h (k + 1) (h - 2 - k) = ls.getD (h - 2 - k) [] ++ [(ls.getD (h - 1) []).getD k 0] := by
  unfold rowP
  refine ⟨by rw [if_neg (Nat.ne_of_lt (rp1 hk)), if_neg fun c => Nat.not_le_of_lt (rp2 hk) c.2], ?_⟩
  rw [if_neg (Nat.ne_of_lt (rp1 hk)), if_pos ⟨rp1 hk, Nat.le_of_eq rp0.symm⟩, show h - 2 - (h - 2 - k) = k from Nat.sub_sub_self (Nat.le_pred_of_lt hk)]
theorem rowP_ne (ls : List (List Nat)) (h k i : Nat) (hi : i ≠ h - 2 - k) : rowP ls h (k + 1) i = rowP ls h k i := by
  unfold rowP
  by_cases h1 : i = h - 1
  · rw [if_pos h1, if_pos h1]
  · rw [if_neg h1, if_neg h1]
    by_cases h2 : i < h - 1 ∧ h - 1 - k ≤ i
    · rw [if_pos h2, if_pos ⟨h2.1, Nat.le_trans (Nat.sub_le_sub_left (Nat.le_succ k) _) h2.2⟩]
    · rw [if_neg h2, if_neg fun c => h2 ⟨c.1, rp3 hi c.2⟩]
theorem off1_mem {D : Addr} : ∀ {l : Led}, LCg.Off1 D l → ∀ p ∈ l, @Ne Nat p.1 D
  | [], _, p, h => absurd h List.not_mem_nil
  | q :: l, o, p, h => by
    rcases List.mem_cons.mp h with rfl | h
    · exact o.1
    · exact off1_mem o.2 p h
theorem ints_get {vs : List Value} {ns : List Int} (h : IntsAre vs ns) {i : Nat} {v : Value} (hv : vs[i]? = some v) : ∃ x t, ns[i]? = some x ∧ v = .int x t := by
  induction h generalizing i with
  | nil => simp at hv
  | cons n t _ ih =>
    cases i with
    | zero => simp at hv; exact ⟨n, t, rfl, hv.symm⟩
    | succ i => simpa using ih (by simpa using hv)
theorem homeT_len (ls : List (List Nat)) (h : Nat) : (homeT ls h).length = 6 := by simp [homeT]
theorem homeT_bnd {ls : List (List Nat)} {h b : Nat} (hb : ∀ x ∈ ls, x.length ≤ b) : ∀ x ∈ homeT ls h, x.length ≤ b + 1 := by
  intro x hx
  obtain ⟨i, _, rfl⟩ := List.mem_map.mp hx
  have := getD_len hb i
  split
  · exact Nat.zero_le _
  · split
    · rw [List.length_append, List.length_singleton]; omega
    · omega
theorem drop_at {α : Type} {l : List α} {i : Nat} {x : α} (h : l[i]? = some x) : l.drop i = x :: l.drop (i + 1) := by
  have hi : i < l.length := by
    rcases Nat.lt_or_ge i l.length with h1 | h1
    · exact h1
    · rw [List.getElem?_eq_none h1] at h; cases h
  rw [List.drop_eq_getElem_cons hi]
  rw [List.getElem?_eq_getElem hi] at h
  rw [Option.some.inj h]
theorem strs1_at {vs : List Value} {x : List Nat} {j : Nat} (h : StrsAre vs (x.map fun c => mkS [c])) (hj : j < x.length) : ∃ t, vs[j]? = some (.str (mkS [x.getD j 0]) t) := by
  have e : (x.map fun c => mkS [c]) = (x.map fun c => [c]).map mkS := by rw [List.map_map]; rfl
  rw [e] at h
  obtain ⟨t, ht⟩ := strs_has (j := j) h (by rw [List.length_map]; exact hj)
  refine ⟨t, ?_⟩
  rw [ht]
  congr 3
  simp [List.getD, hj]
end Mine
end
noncomputable section
open PySem PySem.W PySem.Calls PyProof.Rows
set_option maxRecDepth 100000
set_option maxHeartbeats 4000000
namespace Mine
local macro_rules | `(tactic| k_ne) => `(tactic| (refine neN ?_; (try dsimp only); first | assumption | exact Ne.symm (by assumption) | exact Nat.ne_of_lt (by assumption) | exact Nat.ne_of_gt (by assumption) | (apply_rules [nex_x, nex_dx, nex_pb, nex_D, nex_ce, nex_lf, nex_lc, nex_sx, nex_sdx, nex_spb, lne43, lne42, lne41, lne32, lne31, lne21]; done) | (refine Ne.symm ?_; apply_rules [nex_x, nex_dx, nex_pb, nex_D, nex_ce, nex_lf, nex_lc, nex_sx, nex_sdx, nex_spb, lne43, lne42, lne41, lne32, lne31, lne21]; done) | exact row5 (by assumption) | exact row3 (by assumption) | omega))
local macro_rules | `(tactic| ktr_rel) => `(tactic| (refine lv_ret (by k_asm) (by k_asm) (by rfl) ?_))
local macro_rules | `(tactic| walk_at "storeName") => `(tactic| (dsimp only; walk_at "storeName"))
local macro_rules | `(tactic| omega) => `(tactic| with_reducible first | exact tn0 _ | exact z0 _ | exact tn1 _ | exact tnp _ | exact tn2 _ _ | exact ge62 _ | exact ge63 _ | exact zle _ | exact i62 (by assumption) | exact i63 (by assumption) | exact f62 (by assumption) | exact zlt (by assumption) | exact isub (by assumption) | exact row1 (by assumption) | exact fit1 _ (by assumption) | exact b34 (by assumption) | exact b37 (by assumption) (by assumption) | exact tri3 (by assumption) (by assumption) | exact lt6 (by assumption) (by assumption) (by assumption) | exact x63 (by assumption) (by assumption) | exact xlen (by assumption) (by assumption) | exact lt10 _ (by assumption) (by assumption) (by assumption) (by decide) | exact lt11 _ (by assumption) (by assumption) (by assumption) (by decide) | exact roomK _ _ (by assumption) (by decide) | exact roomK2 _ _ _ (by assumption) (by decide) | exact big2 (by assumption) (by assumption) (by assumption) | exact kpl (by assumption) (by assumption) | exact kpi (by assumption) (by assumption) | exact ge2 (by assumption) | exact lt2 _ (by assumption) | exact hp62 (by assumption) | exact hpl (by assumption) (by assumption) (by assumption) | exact hpk (by assumption) (by assumption) (by assumption) | exact pdl (by assumption) (by assumption) | exact us1 (by assumption) (by assumption) (by assumption) (by assumption) | exact ac9 (by assumption) (by assumption) (by assumption) | fail)
/-- a pass: the stones on the line, the passes so far, how many were pushed again -/
noncomputable def strS (step : Nat) (q ps : List Int) : Nat → List Int × List Int × Nat
  | 0 => (q, ps, 0)
  | i + 1 =>
    if (i : Int) % ((step : Int) + 1) = 0 then ((strS step q ps i).1.tail, (strS step q ps i).2.1.set ((strS step q ps i).1.headD 0).toNat step, (strS step q ps i).2.2)
    else ((strS step q ps i).1.tail ++ [(strS step q ps i).1.headD 0], (strS step q ps i).2.1, (strS step q ps i).2.2 + 1)
noncomputable def strW : Nat → Nat → Nat → List Int → List Int → List Int
  | 0, _, _, _, ps => ps
  | f + 1, left, step, q, ps => if left = 0 then ps else strW f (strS step q ps left).2.2 (step + 1) (strS step q ps left).1 (strS step q ps left).2.1
noncomputable def struck (n : Nat) : List Int := strW n n 1 ((List.range n).map fun (j : Nat) => 1 + (j : Int)) (List.replicate (n + 1) 0)
theorem strS_inv (n step : Nat) (q ps : List Int) (hp : ps.length = n + 1) (hq : ∀ s ∈ q, 0 < s ∧ s ≤ (n : Int)) : ∀ i, i ≤ q.length →
    (strS step q ps i).1.length = q.length - i + (strS step q ps i).2.2 ∧ (strS step q ps i).2.1.length = n + 1 ∧ (strS step q ps i).2.2 ≤ i ∧ ∀ s ∈ (strS step q ps i).1, 0 < s ∧ s ≤ (n : Int)
  | 0, _ => ⟨by simp [strS], hp, Nat.le_refl _, hq⟩
  | i + 1, h => by
    obtain ⟨a, b, c, d⟩ := strS_inv n step q ps hp hq i (by omega)
    have ht : ∀ s ∈ (strS step q ps i).1.tail, 0 < s ∧ s ≤ (n : Int) := fun s hs => d s (List.mem_of_mem_tail hs)
    rw [strS]
    split
    · refine ⟨?_, ?_, Nat.le_succ_of_le c, ht⟩
      · simp only [List.length_tail]; exact sub1 h a
      · simp only [List.length_set]; exact b
    · refine ⟨?_, b, Nat.succ_le_succ c, fun s hs => ?_⟩
      · simp only [List.length_append, List.length_tail, List.length_singleton]; exact sub2 h a
      · rcases List.mem_append.mp hs with hs | hs
        · exact ht s hs
        · rw [List.mem_singleton.mp hs]
          cases e : (strS step q ps i).1 with
          | nil => rw [e] at a; exact (sub4 h a).elim
          | cons x r => exact d x (by rw [e]; exact .head _)
theorem strS_mono (step : Nat) (q ps : List Int) : ∀ i, (strS step q ps (i + 1)).2.2 < i + 1
  | 0 => by rw [strS, if_pos (by simp)]; exact Nat.zero_lt_one
  | i + 1 => by
    have := strS_mono step q ps i
    rw [strS]
    split
    · exact Nat.lt_succ_of_lt this
    · exact Nat.succ_lt_succ this
theorem strS_less (step : Nat) (q ps : List Int) (i : Nat) (h : 0 < i) : (strS step q ps i).2.2 < i := by
  obtain ⟨j, rfl⟩ : ∃ j, i = j + 1 := ⟨i - 1, psucc h⟩
  exact strS_mono step q ps j
theorem strW0 (f step : Nat) (q ps : List Int) : strW f 0 step q ps = ps := by
  cases f with
  | zero => rfl
  | succ f => rw [strW, if_pos rfl]
theorem tok_qk : tokT (Str.ofString "\"k").cps.toList 1 = ([107], 1, []) := by
  rw [show (Str.ofString "\"k").cps.toList = [34, 107] from rfl, tokT, if_neg (by decide), if_pos rfl, quoT, if_neg (by decide), if_neg (by decide), quoT]
  rfl
theorem News.two {h₀ h : Heap} {L : Addr} {a b : Addr × Obj} {l : Led} (N : News h₀ L h (a :: b :: l)) : News h₀ L h [a, b] := fun p hp => N p (by
  rcases List.mem_cons.mp hp with rfl | hp
  · exact .head _
  · rw [List.mem_singleton.mp hp]; exact .tail _ (.head _))
theorem rep_flat {α : Type} (x : α) (n : Nat) : (List.replicate (Int.toNat ((n : Int) + 1)) [x]).flatten = List.replicate (n + 1) x := by
  rw [show ((n : Int) + 1).toNat = n + 1 from tns n]
  simp
inductive StJ1 (w : World) (a : LexA) (n : Nat) (t : Tok) (i : Nat) (m : Str → Option Value) (nx : Led) : Prop
  | mk (l : Led) (pv : Array Value) (D : Addr) (us : List Value) (k : Nat) (h1 : m (Str.ofString "stones") = some (.int (n : Int) t)) (h2 : m (Str.ofString "lexer") = some (.ref a.x)) (h3 : m (Str.ofString "passes") = some (.ref D)) (e : nx = (D, W.listOf (List.toArray us) k) :: (157, tabObj #[rawInt 74, rawInt 18, .ref a.lc]) :: l) (hu : IntsAre us (List.replicate (n + 1) 0)) (R : LexR w a 1 pv (Str.ofString "\"k").cps.toList l) (hp : IntsAre pv.toList ((List.range i).map fun (j : Nat) => 1 + (j : Int))) (hD : @LT.lt Nat _ a.pb D) : StJ1 w a n t i m nx
inductive StJ2 (w : World) (a : LexA) (n : Nat) (kk : Nat) (m : Str → Option Value) (nx : Led) : Prop
  | mk (l : Led) (pv : Array Value) (D : Addr) (us : List Value) (k left step fuel : Nat) (tl ts : Tok) (q ps : List Int) (h1 : m (Str.ofString "lexer") = some (.ref a.x)) (h2 : m (Str.ofString "passes") = some (.ref D)) (h3 : m (Str.ofString "left") = some (.int ((left : Nat) : Int) tl)) (h4 : m (Str.ofString "step") = some (.int ((step : Nat) : Int) ts)) (e : nx = (D, W.listOf (List.toArray us) k) :: (157, tabObj #[rawInt 74, rawInt 18, .ref a.lc]) :: l) (hu : IntsAre us ps) (R : LexR w a 1 pv (Str.ofString "\"k").cps.toList l) (hp : IntsAre pv.toList q) (hD : @LT.lt Nat _ a.pb D) (hq : q.length = left) (hl : ps.length = n + 1) (hs : ∀ s ∈ q, 0 < s ∧ s ≤ (n : Int)) (s1 : 1 ≤ step) (s2 : step ≤ 100000 - fuel) (f1 : left ≤ fuel) (f2 : left ≤ n) (hk : kk = left) (hW : strW fuel left step q ps = struck n) : StJ2 w a n kk m nx
inductive StJ3 (w : World) (a : LexA) (left step : Nat) (tl ts : Tok) (q ps : List Int) (i : Nat) (m : Str → Option Value) (nx : Led) : Prop
  | mk (l : Led) (pv : Array Value) (D : Addr) (us : List Value) (k : Nat) (tk : Tok) (h1 : m (Str.ofString "lexer") = some (.ref a.x)) (h2 : m (Str.ofString "passes") = some (.ref D)) (h3 : m (Str.ofString "left") = some (.int ((left : Nat) : Int) tl)) (h4 : m (Str.ofString "step") = some (.int ((step : Nat) : Int) ts)) (h5 : m (Str.ofString "kept") = some (.int (((strS step q ps i).2.2 : Nat) : Int) tk)) (e : nx = (D, W.listOf (List.toArray us) k) :: (157, tabObj #[rawInt 74, rawInt 18, .ref a.lc]) :: l) (hu : IntsAre us (strS step q ps i).2.1) (R : LexR w a 1 pv (Str.ofString "\"k").cps.toList l) (hp : IntsAre pv.toList (strS step q ps i).1) (hD : @LT.lt Nat _ a.pb D) : StJ3 w a left step tl ts q ps i m nx
local macro_rules | `(tactic| walk_at "exec While Compare cons nil") => `(tactic| refine stopped ?_)
local macro_rules | `(tactic| walk_at "subscriptTail Name Slice ref ref") => `(tactic| (refine stopped ?_))
section
variable {w : World} {p : Program} {loose : List Str} {mean : ExcName → Option Value} {mg mb : Str → Option Value}
theorem ct_struck (n : Nat) (t : Tok) (hn : n ≤ 30) (lc : Addr) (olc : Obj) (vlc : Array Value) (tlc : Tok) (d1 : olc.data = .fields vlc) (d2 : vlc[1]? = some (.str lamQ tlc)) (hlc : @Ne Nat 157 lc) :
    Ct w p loose mean mg mb 20 200 210 [.int (n : Int) t] [(157, tabObj #[rawInt 74, rawInt 18, .ref lc]), (lc, olc)] fun v l => ∃ D o, v = .ref D ∧ l = [(D, o), (157, tabObj #[rawInt 74, rawInt 18, .ref lc])] ∧ IsL o ((struck n).drop 1) := by
  intro A h₀ s Q E hA hd hu X T st O ret
  k_dflt (refine' ct_def (binds := [(Str.ofString "stones", .int (n : Int) t)]) (sub := _) X T st O ?k6 ?k7 ?k8 ?k9 ?kB ret ?_ ?c2 ?c3 ?c4 ?c5)
  (case k6 => k_is); (case k7 => k_is); (case k8 => omega); (case k9 => exact BindsTo.of_eq rfl); (case kB => exact locs rfl); (case c5 => decide); (case c2 => exact rfl); (case c3 => exact rfl); (case c4 => exact rfl)
  clear ret O st T X; intro g L h₁ X T F N hlt; (try dsimp only); (try k_fold)
  k_steps
  have e1 : @LT.lt Nat _ 157 L := hlt _ (.head _)
  have e2 : @LT.lt Nat _ lc L := hlt _ (.tail _ (.head _))
  with_reducible rename Fr _ _ _ _ => F2
  with_reducible rename News _ _ _ _ => N2
  refine Ct.use (ct_lexer2 (Str.ofString "\"k") _ (by decide) lc olc vlc tlc d1 d2 hlc) (rest := []) F2 X N2 T hA (dOk hd) (uOk hu) (fun q hq => hq) (fun q hq => absurd hq List.not_mem_nil) fun rr sub' h6 tk6 F6 N6 ne6 P6 => ?_
  obtain ⟨a, l1, rfl, rfl, R1, hac, h157⟩ := P6
  subst hac
  clear F2 N2 ne6
  obtain ⟨o1, o2, o3, o4, o5, o6, o7, o8, o9, o10⟩ := R1.ord
  have R1' := R1
  obtain ⟨pm1, ctv1, pn1, sv1, sn1, ta1, ts1, u1, oc1, olc1, vl1, tq1, qv1, qn1, rfl, hs1, ho1, da1, db1, -⟩ := R1
  simp only [List.nil_append, List.cons_append] at N6
  k_steps
  with_reducible rename Fr _ _ _ _ => F7
  with_reducible rename News _ _ _ _ => N7
  rename IntsAre _ _ => hz0
  rw [show (List.replicate (Int.toNat ((n : Int) + 1)) [(0 : Int)]).flatten = List.replicate (n + 1) 0 from rep_flat 0 n] at hz0
  have ofl := R1'.ord
  have o157 : 157 ∉ a.adrs := off_lt ofl h157 (by omega)
  have h157p : @LT.lt Nat _ 157 a.pb := Nat.lt_trans h157 ofl.of_ce.2.2.1
  clear o1 o2 o3 o4 o5 o6 o7 o8 o9 o10
  k_dflt (refine for_range (n := n) (StJ1 w a n t) hA rfl (by k_asm) (PySem.small_one (by omega) (by omega) (by omega) (by omega)) (by rw [rangeSize_nat]; omega) F7 (News.drop2 N7) ?hj ?turn ?done)
  case hj => exact ⟨_, _, _, _, _, rfl, rfl, rfl, rfl, hz0, R1', .nil, by omega⟩
  case turn =>
    rintro i t' m₁ nx h tk I oI hi ⟨l, pv, D, us, k, hm1, hm2, hm3, rfl, hus, R2, hpv, hD⟩ hI F1 N1
    rw [loc_up (m := m₁) (b := m₁) [(Str.ofString "stones", some (.int (n : Int) t)), (Str.ofString "lexer", some (.ref a.x)), (Str.ofString "passes", some (.ref D))] (fun _ _ => rfl) (List.forall_mem_cons.mpr ⟨hm1, List.forall_mem_cons.mpr ⟨hm2, List.forall_mem_cons.mpr ⟨hm3, List.forall_mem_nil _⟩⟩⟩)] at F1
    dsimp only [up] at F1
    have R2' := R2
    have hIa : I ∉ a.adrs := by rw [← R2.adr]; exact off_ne fun p hp => hI p (.tail _ (.tail _ hp))
    have hID : @Ne Nat D I := hI _ (.head _)
    have hI7 : @Ne Nat 157 I := hI _ (.tail _ (.head _))
    have hpz : pv.size = i := by have := hpv.length; simpa using this
    obtain ⟨pm2, ctv2, pn2, sv2, sn2, ta2, ts2, u2, oc2, olc2, vl2, tq2, qv2, qn2, rfl, hs2, ho2, da2, db2, -⟩ := R2
    clear F7 N7
    k_steps
    with_reducible rename Fr _ _ _ _ => F8
    with_reducible rename News _ _ _ _ => N8
    refine Ct.use (ct_pushR a 1 pv (by omega) _ _ _ R2') (rest := [(I, oI), (D, W.listOf (List.toArray us) k), (157, tabObj #[rawInt 74, rawInt 18, .ref a.lc])]) F8 X N8 T hA (dOk hd) (uOk hu) (fun q hq => .tail _ (.tail _ (.tail _ hq))) ?hr fun rr sub' h6 tk6 F9 N9 ne6 P6 => ?_
    case hr =>
      intro q hq
      rw [R2'.adr]
      rcases List.mem_cons.mp hq with rfl | hq
      · exact ⟨.head _, hIa⟩
      · rcases List.mem_cons.mp hq with rfl | hq
        · exact ⟨.tail _ (.head _), off_gt ofl hD⟩
        · rw [List.mem_singleton.mp hq]; exact ⟨.tail _ (.tail _ (.head _)), o157⟩
    obtain ⟨rfl, R9⟩ := P6
    clear F8 N8
    k_steps
    refine turn_next (nx := (D, W.listOf (List.toArray us) k) :: (157, tabObj #[rawInt 74, rawInt 18, .ref a.lc]) :: sub') F9 N9 (by rfl) (fun q hq => hq) ?_ (fun _ h => nomatch h) ⟨sub', _, D, us, k, rfl, rfl, rfl, rfl, hus, R9, ?_, hD⟩
    · intro q hq
      rcases List.mem_cons.mp hq with rfl | hq
      · exact hID
      · rcases List.mem_cons.mp hq with rfl | hq
        · exact hI7
        · exact ne_off (by rw [R9.adr]; exact hIa) q hq
    · rw [Array.toList_push, List.range_succ, List.map_append]
      exact hpv.append (.cons _ _ .nil)
  case done =>
    rintro m₁ nx h tk ⟨l, pv, D, us, k, hm1, hm2, hm3, rfl, hus, R2, hpv, hD⟩ F1 N1
    rw [loc_up (m := m₁) (b := m₁) [(Str.ofString "stones", some (.int (n : Int) t)), (Str.ofString "lexer", some (.ref a.x)), (Str.ofString "passes", some (.ref D))] (fun _ _ => rfl) (List.forall_mem_cons.mpr ⟨hm1, List.forall_mem_cons.mpr ⟨hm2, List.forall_mem_cons.mpr ⟨hm3, List.forall_mem_nil _⟩⟩⟩)] at F1
    dsimp only [up] at F1
    clear F7 N7
    k_steps
    refine unstop ?_
    with_reducible rename Fr _ _ _ _ => F8
    with_reducible rename News _ _ _ _ => N8
    k_dflt (refine While_inv (StJ2 w a n) F8 N8 ⟨l, pv, D, us, k, n, 1, n, _, _, _, _, rfl, rfl, rfl, rfl, rfl, hus, R2, hpv, hD, ?_, ?_, ?_, Nat.le_refl _, ?_, Nat.le_refl _, Nat.le_refl _, rfl, rfl⟩ ?turn)
    · simp
    · simp
    · intro s hs
      obtain ⟨j, hj, rfl⟩ := List.mem_map.mp hs
      have := List.mem_range.mp hj
      exact jn this
    · exact le1 hn
    case turn =>
      rintro kk m₁ nx h tk F1 N1 ⟨l, pv, D, us, k, left, step, fuel, tl, ts, q, ps, hm1, hm2, hm3, hm4, rfl, hus, R3, hpv, hD, hql, hpl, hqn, hst1, hst2, hlf, hln, hkk, hW⟩
      rw [loc_up (m := m₁) (b := m₁) [(Str.ofString "lexer", some (.ref a.x)), (Str.ofString "passes", some (.ref D)), (Str.ofString "left", some (.int (left : Int) tl)), (Str.ofString "step", some (.int (step : Int) ts))] (fun _ _ => rfl) (List.forall_mem_cons.mpr ⟨hm1, List.forall_mem_cons.mpr ⟨hm2, List.forall_mem_cons.mpr ⟨hm3, List.forall_mem_cons.mpr ⟨hm4, List.forall_mem_nil _⟩⟩⟩⟩)] at F1
      dsimp only [up] at F1
      have R3' := R3
      obtain ⟨pm3, ctv3, pn3, sv3, sn3, ta3, ts3, u3, oc3, olc3, vl3, tq3, qv3, qn3, rfl, hs3, ho3, da3, db3, -⟩ := R3
      clear F8 N8
      k_steps
      · have hl0 : 0 < left := Int.ofNat_lt.mp (by assumption)
        obtain ⟨fuel, rfl⟩ : ∃ f, fuel = f + 1 := ⟨fuel - 1, psucc (Nat.lt_of_lt_of_le hl0 hlf)⟩
        with_reducible rename Fr _ _ _ _ => F9
        with_reducible rename News _ _ _ _ => N9
        have hl30 : left ≤ 30 := Nat.le_trans hln hn
        k_dflt (refine for_range (n := left) (StJ3 w a left step tl ts q ps) hA rfl (by k_asm) (PySem.small_one (by omega) (by omega) (by omega) (by omega)) (by rw [rangeSize_nat]; omega) F9 N9 ?hj2 ?turn2 ?done2)
        case hj2 => exact ⟨_, _, _, _, _, _, rfl, rfl, rfl, rfl, rfl, rfl, hus, R3', hpv, hD⟩
        case turn2 =>
          rintro i t' m₂ nx h tk I oI hi ⟨l, pv, D, us, k, tk2, hn1, hn2, hn3, hn4, hn5, rfl, hus2, R4, hpv2, hD2⟩ hI F1 N1
          rw [loc_up (m := m₂) (b := m₂) [(Str.ofString "lexer", some (.ref a.x)), (Str.ofString "passes", some (.ref D)), (Str.ofString "left", some (.int (left : Int) tl)), (Str.ofString "step", some (.int (step : Int) ts)), (Str.ofString "kept", some (.int (((strS step q ps i).2.2 : Nat) : Int) tk2))] (fun _ _ => rfl) (List.forall_mem_cons.mpr ⟨hn1, List.forall_mem_cons.mpr ⟨hn2, List.forall_mem_cons.mpr ⟨hn3, List.forall_mem_cons.mpr ⟨hn4, List.forall_mem_cons.mpr ⟨hn5, List.forall_mem_nil _⟩⟩⟩⟩⟩)] at F1
          dsimp only [up] at F1
          clear F9 N9
          have hIa : I ∉ a.adrs := by rw [← R4.adr]; exact off_ne fun p hp => hI p (.tail _ (.tail _ hp))
          have hID : @Ne Nat D I := hI _ (.head _)
          have hI7 : @Ne Nat 157 I := hI _ (.tail _ (.head _))
          obtain ⟨q1, q2, q3, q4⟩ := strS_inv n step q ps hpl hqn i (by rw [hql]; exact Nat.le_of_lt hi)
          obtain ⟨x, r, hxr⟩ : ∃ x r, (strS step q ps i).1 = x :: r := by
            cases e : (strS step q ps i).1 with
            | nil => rw [e] at q1; exact (sub4 (by rw [hql]; exact hi) q1).elim
            | cons x r => exact ⟨x, r, rfl⟩
          have hx := q4 x (by rw [hxr]; exact .head _)
          rw [hxr] at hpv2 q1
          simp only [List.length_cons] at q1
          obtain ⟨pvl⟩ := pv
          cases hpv2 with | @cons _ tx vs _ hvs =>
          have hvl := hvs.length
          have hvb : vs.length < 1000000 := Nat.lt_of_lt_of_le (by rw [hvl]; exact sub3 (by rw [hql]; exact hi) q1 q3) (by rw [hql]; exact Nat.le_trans hl30 (by decide))
          have oD2 : D ∉ a.adrs := off_gt ofl hD2
          have d157 : @Ne Nat 157 D := Nat.ne_of_lt (Nat.lt_trans h157p hD2)
          clear hvl q1 q3 e1 e2
          have R4' := R4
          obtain ⟨pm4, ctv4, pn4, sv4, sn4, ta4, ts4, u4, oc4, olc4, vl4, tq4, qv4, qn4, rfl, hs4, ho4, da4, db4, -⟩ := R4
          have hrest : ∀ q ∈ [(I, oI), (D, W.listOf (List.toArray us) k), (157, tabObj #[rawInt 74, rawInt 18, .ref a.lc])], q.1 ∉ a.adrs := by
            intro q hq
            rcases List.mem_cons.mp hq with rfl | hq
            · exact hIa
            · rcases List.mem_cons.mp hq with rfl | hq
              · exact oD2
              · rw [List.mem_singleton.mp hq]; exact o157
          k_steps
          with_reducible rename Fr _ _ _ _ => F5
          with_reducible rename News _ _ _ _ => N5
          dsimp only [List.cons_append, List.nil_append]
          refine Ct.use (ct_pop a 1 (.int x tx) vs hvb _ _ R4') (rest := [(I, oI), (D, W.listOf (List.toArray us) k), (157, tabObj #[rawInt 74, rawInt 18, .ref a.lc])]) F5 X N5 T hA (dOk hd) (uOk hu) (fun q hq => .tail _ (.tail _ (.tail _ hq))) (fun q hq => ⟨List.mem_append_left _ hq, by rw [R4'.adr]; exact hrest q hq⟩) fun rr sub' h6 tk6 F6 N6 ne6 P6 => ?_
          obtain ⟨rfl, R5⟩ := P6
          have R5' := R5
          obtain ⟨pm5, ctv5, pn5, sv5, sn5, ta5, ts5, u5, oc5, olc5, vl5, tq5, qv5, qn5, rfl, hs5, ho5, da5, db5, -⟩ := R5
          clear F5 N5
          simp only [List.cons_append, List.nil_append] at N6
          k_steps
          with_reducible rename Fr _ _ _ _ => F7
          with_reducible rename News _ _ _ _ => N7
          refine Ct.use0 (ct_mod _ _ _ _ (by omega)) F7 X N7 T hA (dOk hd) (uOk hu) fun v' sub' h' tk' F' N' P' => ?_
          obtain ⟨tm, rfl⟩ := P'
          clear F7 N7
          k_steps
          with_reducible rename Fr _ _ _ _ => F7
          with_reducible rename News _ _ _ _ => N7
          refine Ct.use0 (ct_eq _ _ _ _) F7 X N7 T hA (dOk hd) (uOk hu) fun v' sub' h' tk' F' N' P' => ?_
          subst P'
          clear F7 N7
          k_steps
          · rename _ % _ = (0 : Int) => hc
            with_reducible rename Fr _ _ _ _ => F7
            with_reducible rename News _ _ _ _ => N7
            rename IntsAre (List.set _ _ _) _ => hI8
            have e : strS step q ps (i + 1) = (r, (strS step q ps i).2.1.set x.toNat step, (strS step q ps i).2.2) := by
              rw [strS, if_pos (by simpa using hc), hxr]; rfl
            refine turn_next (nx := (D, _) :: (157, tabObj #[rawInt 74, rawInt 18, .ref a.lc]) :: lexL w pm5 ctv5 a 1 vs.toArray pn5 sv5 sn5 ta5 ts5 u5 oc5 olc5 qv5 qn5) F7 N7 (by rfl) (fun q hq => hq) ?_ (fun _ h => nomatch h) ⟨_, _, D, _, _, tk2, rfl, rfl, rfl, rfl, ?_, rfl, ?_, R5', ?_, hD2⟩
            · intro q hq
              rcases List.mem_cons.mp hq with rfl | hq
              · exact hID
              · rcases List.mem_cons.mp hq with rfl | hq
                · exact hI7
                · exact ne_off (by rw [R5'.adr]; exact hIa) q hq
            · rw [e]; rfl
            · rw [e]; exact hI8
            · rw [e]; exact hvs
          · rename _ % _ ≠ (0 : Int) => hc
            have e : strS step q ps (i + 1) = (r ++ [x], (strS step q ps i).2.1, (strS step q ps i).2.2 + 1) := by
              rw [strS, if_neg (by simpa using hc), hxr]; rfl
            with_reducible rename Fr _ _ _ _ => F7
            with_reducible rename News _ _ _ _ => N7
            refine Ct.use (ct_pushR a 1 vs.toArray (by rw [List.size_toArray]; exact hvb) (.int x tx) _ _ R5') (rest := [(I, oI), (D, W.listOf (List.toArray us) k), (157, tabObj #[rawInt 74, rawInt 18, .ref a.lc])]) F7 X N7 T hA (dOk hd) (uOk hu) (fun q hq => .tail _ (.tail _ (.tail _ hq))) (fun q hq => ⟨List.mem_append_left _ hq, by rw [R5'.adr]; exact hrest q hq⟩) fun rr sub' h8 tk8 F8 N8 ne8 P8 => ?_
            obtain ⟨rfl, R8⟩ := P8
            clear F7 N7
            k_steps
            with_reducible rename Fr _ _ _ _ => F7
            with_reducible rename News _ _ _ _ => N7
            refine turn_next (nx := (D, W.listOf (List.toArray us) k) :: (157, tabObj #[rawInt 74, rawInt 18, .ref a.lc]) :: sub') F7 N7 (by rfl) (fun q hq => hq) ?_ (fun _ h => nomatch h) ⟨_, _, D, us, k, _, rfl, rfl, rfl, rfl, congrArg (fun z : Nat => some (Value.int (z : Int) _)) (congrArg (·.2.2) e).symm, rfl, ?_, R8, ?_, hD2⟩
            · intro q hq
              rcases List.mem_cons.mp hq with rfl | hq
              · exact hID
              · rcases List.mem_cons.mp hq with rfl | hq
                · exact hI7
                · exact ne_off (by rw [R8.adr]; exact hIa) q hq
            · rw [e]; exact hus2
            · rw [e, List.push_toArray]; exact hvs.append (.cons _ _ .nil)
        case done2 =>
          rintro m₂ nx h tk ⟨l, pv, D, us, k, tk2, hn1, hn2, hn3, hn4, hn5, rfl, hus2, R4, hpv2, hD2⟩ F1 N1
          rw [loc_up (m := m₂) (b := m₂) [(Str.ofString "lexer", some (.ref a.x)), (Str.ofString "passes", some (.ref D)), (Str.ofString "left", some (.int (left : Int) tl)), (Str.ofString "step", some (.int (step : Int) ts)), (Str.ofString "kept", some (.int (((strS step q ps left).2.2 : Nat) : Int) tk2))] (fun _ _ => rfl) (List.forall_mem_cons.mpr ⟨hn1, List.forall_mem_cons.mpr ⟨hn2, List.forall_mem_cons.mpr ⟨hn3, List.forall_mem_cons.mpr ⟨hn4, List.forall_mem_cons.mpr ⟨hn5, List.forall_mem_nil _⟩⟩⟩⟩⟩)] at F1
          dsimp only [up] at F1
          clear F9 N9
          obtain ⟨q1, q2, q3, q4⟩ := strS_inv n step q ps hpl hqn left (Nat.le_of_eq hql.symm)
          have q5 := strS_less step q ps left hl0
          k_steps
          with_reducible rename Fr _ _ _ _ => F7
          with_reducible rename News _ _ _ _ => N7
          rw [strW, if_neg (Nat.ne_of_gt hl0)] at hW
          exact WhileStep.intro F7 N7 (n' := (strS step q ps left).2.2) (by rw [hkk]; exact q5) ⟨l, pv, D, us, k, (strS step q ps left).2.2, step + 1, fuel, _, _, (strS step q ps left).1, (strS step q ps left).2.1, rfl, rfl, rfl, rfl, rfl, hus2, R4, hpv2, hD2, sub5 hql q1, q2, q4, Nat.le_add_left .., stf hst1 hst2, Nat.le_of_lt_succ (Nat.lt_of_lt_of_le q5 hlf), Nat.le_trans (Nat.le_of_lt q5) hln, rfl, hW⟩
      · have hl0 : left = 0 := by omega
        subst hl0
        have hq0 : q = [] := List.eq_nil_of_length_eq_zero hql
        subst hq0
        obtain ⟨pvl⟩ := pv
        cases hpv
        rw [strW0] at hW
        have hrest : ∀ q ∈ [(D, W.listOf (List.toArray us) k), (157, tabObj #[rawInt 74, rawInt 18, .ref a.lc])], q.1 ∉ a.adrs := by
          intro q hq
          rcases List.mem_cons.mp hq with rfl | hq
          · exact off_gt ofl hD
          · rw [List.mem_singleton.mp hq]; exact o157
        with_reducible rename Fr _ _ _ _ => F5
        with_reducible rename News _ _ _ _ => N5
        dsimp only [List.cons_append, List.nil_append]
        refine Ct.use (ct_tok a 1 _ (by decide) _ R3') (rest := [(D, W.listOf (List.toArray us) k), (157, tabObj #[rawInt 74, rawInt 18, .ref a.lc])]) F5 X N5 T hA (dOk hd) (uOk hu) (fun q hq => .tail _ (.tail _ hq)) (fun q hq => ⟨List.mem_append_left _ hq, by rw [R3'.adr]; exact hrest q hq⟩) fun rr sub' h6 tk6 F6 N6 ne6 P6 => ?_
        obtain ⟨tk', rfl, R6⟩ := P6
        rw [tok_qk] at *
        clear F5 N5
        have N7 := News.two N6
        clear N6
        k_steps
        refine unstop ?_
        k_here
        k_dflt (refine' kmk_slice_ints ?sF ?sN ?sl ?sp ?sq ?si ?sm ?sc ?_ ?ss ?st ?sz; (case sF => k_asm); (case sN => k_asm); (case sl => kmk_list); (case sp => kmk_part); (case sq => kmk_part); (case si => assumption); (case ss => with_unfolding_all rfl); (case st => kmk_pure); (case sz => ((rename IntsAre _ _ => hI9); rw [List.size_toArray, IntsAre.length (by assumption), PySem.sizeLine_eq]; omega)); (case sm => exact kmk_from (by assumption) (by omega)); (case sc => exact rfl))
        intro D' ws' h' F' N' l1 hI' hC' hL'
        (try k_lt l1)
        (try k_sweep)
        k_steps
        with_reducible rename Fr _ _ _ _ => F9
        with_reducible rename News _ _ _ _ => N9
        rename IntsAre _ (List.drop _ _) => hI9
        refine lv_ret F9 (News.drop2 N9) (by rfl) ⟨_, _, rfl, rfl, _, _, rfl, ?_⟩
        rw [← hW]
        exact hI9
end
end Mine
end
noncomputable section
open PySem PySem.W PySem.Calls PyProof.Rows
set_option maxRecDepth 100000
set_option maxHeartbeats 1000000
namespace Mine
local macro_rules | `(tactic| omega) => `(tactic| first | assumption | lia | omega +splitNatSub)
/-- signs that the lexer reads as they are -/
noncomputable def safe (c : Nat) : Bool := !(c == 10 || c == 9 || c == 13 || c == 32) && c != 34 && c != 92 && decide (c < 1114112)
noncomputable def okS (c : Nat) (m : List Nat) : Bool := !hid (c : Int) && lowL c == m && safe c && m.all (fun c => decide (c < 1114112))
theorem ok_one : ∀ d, d < 4 → ∀ r, r < 26 → okS (([97, 65, 119808, 120432] : List Nat).getD d 0 + r) [97 + r] = true := by decide +kernel
theorem ok_bes : ∀ r, r < 16 → okS (besL.getD r 0).toNat [(besL.getD r 0).toNat] = true := by decide +kernel
theorem ok_two : ∀ r, r < 48 → okS (8064 + r) [([7936, 7968, 8032] : List Nat).getD (r / 16) 0 + r % 8, 953] = true := by decide +kernel
theorem ok_three : ∀ r, r < 4 → okS (13201 + r) [([107, 109, 103, 116] : List Nat).getD r 0, 104, 122] = true := by decide +kernel
theorem ok_hid : ∀ k : Nat, k < 27 → (hid (hdn (k : Int) : Nat) && safe (hdn (k : Int))) = true := by decide +kernel
theorem base_eq : ∀ d, d < 4 → ∀ r : Nat, (([97, 65, 119808, 120432] : List Int).getD d 0 + (r : Int)).toNat = ([97, 65, 119808, 120432] : List Nat).getD d 0 + r
  | 0, _, r => rfl
  | 1, _, r => rfl
  | 2, _, r => rfl
  | 3, _, r => rfl
  | d + 4, h, _ => by omega
theorem base2_eq : ∀ d, d < 3 → ∀ r : Nat, (([7936, 7968, 8032] : List Int).getD d 0 + (r : Int)).toNat = ([7936, 7968, 8032] : List Nat).getD d 0 + r
  | 0, _, r => rfl
  | 1, _, r => rfl
  | 2, _, r => rfl
  | d + 3, h, _ => by omega
theorem kmgt_eq : ∀ r : Nat, r < 4 → (Txt.charAt (Str.ofString "kmgt") (r : Int)).getD 0 = ([107, 109, 103, 116] : List Nat).getD r 0 := by decide +kernel
theorem fmod_nat (x : Int) {m : Nat} (hm : 0 < m) : ∃ r : Nat, r < m ∧ x.fmod (m : Int) = (r : Int) := by
  have h1 : 0 ≤ x.fmod (m : Int) := Int.fmod_nonneg_of_pos _ (by omega)
  have h2 : x.fmod (m : Int) < (m : Int) := Int.fmod_lt_of_pos _ (by omega)
  exact ⟨(x.fmod (m : Int)).toNat, (Int.toNat_lt h1).mpr h2, (Int.toNat_of_nonneg h1).symm⟩
theorem fmod_fmod (x : Int) : ∃ r : Nat, r < 48 ∧ x.fmod 48 = (r : Int) ∧ x.fmod 8 = ((r % 8 : Nat) : Int) ∧ (x.fmod 48).fdiv 16 = ((r / 16 : Nat) : Int) := by
  obtain ⟨r, hr, e⟩ := fmod_nat x (m := 48) (by decide)
  refine ⟨r, hr, e, ?_, ?_⟩
  · rw [Int.fmod_eq_emod_of_nonneg _ (by decide)] at e ⊢
    omega
  · rw [show x.fmod 48 = (r : Int) from e, Int.fdiv_eq_ediv_of_nonneg _ (by decide)]
    omega
theorem ok_sgn (pick : Int) {z : Nat} (h0 : 0 < z) (h3 : z ≤ 3) : okS (sgnT pick z) (sgnM pick z) = true := by
  have hz : z = 1 ∨ z = 2 ∨ z = 3 := pos3 (by assumption) (by assumption)
  rcases hz with rfl | rfl | rfl
  · show okS (oneN pick) [oneM pick] = true
    obtain ⟨d, hd, ed⟩ := fmod_nat (pick.fdiv 26) (m := 5) (by decide)
    obtain ⟨r, hr, er⟩ := fmod_nat pick (m := 26) (by decide)
    replace ed : (pick.fdiv 26).fmod 5 = (d : Int) := ed
    replace er : pick.fmod 26 = (r : Int) := er
    by_cases h4 : d < 4
    · have e1 : oneN pick = ([97, 65, 119808, 120432] : List Nat).getD d 0 + r := by
        rw [oneN, ed, er, if_pos (by omega), Int.toNat_natCast, base_eq d h4]
      have e2 : oneM pick = 97 + r := by
        rw [oneM, ed, er, if_pos (by omega)]; omega
      rw [e1, e2]; exact ok_one d h4 r hr
    · obtain ⟨q, hq, eq⟩ := fmod_nat pick (m := 16) (by decide)
      replace eq : pick.fmod 16 = (q : Int) := eq
      have e1 : oneN pick = (besL.getD q 0).toNat := by
        rw [oneN, ed, if_neg (by omega), eq, Int.toNat_natCast]
      have e2 : oneM pick = (besL.getD q 0).toNat := by
        rw [oneM, ed, if_neg (by omega), e1]
      rw [e1, e2]; exact ok_bes q hq
  · obtain ⟨r, hr, e1, e2, e3⟩ := fmod_fmod pick
    show okS (8064 + pick.fmod 48).toNat ((([7936, 7968, 8032] : List Int).getD ((pick.fmod 48).fdiv 16).toNat 0 + pick.fmod 8).toNat :: (Str.ofString "ι").cps.toList) = true
    rw [e3, e2, e1, Int.toNat_natCast, base2_eq _ (by omega), show (Str.ofString "ι").cps.toList = [953] from rfl, show ((8064 : Int) + r).toNat = 8064 + r from rfl]
    exact ok_two r hr
  · obtain ⟨r, hr, e⟩ := fmod_nat pick (m := 4) (by decide)
    replace e : pick.fmod 4 = (r : Int) := e
    show okS (13201 + pick.fmod 4).toNat ((Txt.charAt (Str.ofString "kmgt") (pick.fmod 4)).getD 0 :: (Str.ofString "hz").cps.toList) = true
    rw [e, kmgt_eq r hr, show (Str.ofString "hz").cps.toList = [104, 122] from rfl, show ((13201 : Int) + r).toNat = 13201 + r from rfl]
    exact ok_three r hr
theorem typ_ok (n : Nat) : ∀ (k : Nat) (cell : Int) (T M : List Nat), n - M.length = k → ((prepL T).map lowL).flatten = M → (∀ c ∈ T, safe c = true) → (∀ c ∈ M, c < 1114112) → M.length ≤ n →
    ((prepL (typ n cell T M).1).map lowL).flatten = (typ n cell T M).2 ∧ (∀ c ∈ (typ n cell T M).1, safe c = true) ∧ (typ n cell T M).2.length = n ∧ (typ n cell T M).1.length ≤ T.length + k ∧ (∀ c ∈ (typ n cell T M).2, c < 1114112) ∧ T.length ≤ (typ n cell T M).1.length := by
  intro k
  induction k using Nat.strongRecOn with
  | _ k ih =>
    intro cell T M hk hp hs hm hl
    rw [typ]
    split
    · rename_i hlt
      obtain ⟨z0, z3, zl⟩ := sizeN_le n M.length cell hlt
      have ok := ok_sgn (cell.fdiv 3) z0 z3
      have hlen := sgnM_len (cell.fdiv 3) z0 z3
      simp only [okS, Bool.and_eq_true, Bool.not_eq_true', beq_iff_eq] at ok
      obtain ⟨⟨⟨o1, o2⟩, o3⟩, o4⟩ := ok
      rw [List.all_eq_true] at o4
      have := ih (n - (M ++ sgnM (cell.fdiv 3) (sizeN n M.length cell)).length) (by rw [List.length_append, hlen]; exact w1 (Eq.symm (by assumption)) hlt z0) (cell + 7) (T ++ [sgnT (cell.fdiv 3) (sizeN n M.length cell)]) (M ++ sgnM (cell.fdiv 3) (sizeN n M.length cell)) rfl
        (by rw [prepL, List.filter_append, filt_f o1, List.map_append, List.flatten_append, ← prepL, hp]; simp [o2])
        (fun c hc => by
          rcases List.mem_append.mp hc with hc | hc
          · exact hs c hc
          · rw [List.mem_singleton.mp hc]; exact o3)
        (fun c hc => by
          rcases List.mem_append.mp hc with hc | hc
          · exact hm c hc
          · exact of_decide_eq_true (o4 c hc))
        (by rw [List.length_append, hlen]; exact w2 hlt zl)
      refine ⟨this.1, this.2.1, this.2.2.1, ?_, this.2.2.2.2.1, ?_⟩
      · have h4 := this.2.2.2.1
        rw [List.length_append, List.length_append, hlen, List.length_singleton] at h4
        refine Nat.le_trans h4 ?_
        rw [Nat.add_assoc, Nat.add_comm 1]
        exact Nat.add_le_add_left (w1 (Eq.symm (by assumption)) hlt z0) _
      · have h5 := this.2.2.2.2.2
        rw [List.length_append] at h5
        exact Nat.le_trans (Nat.le_add_right ..) h5
    · exact ⟨hp, hs, by show M.length = n; omega, by show T.length ≤ T.length + k; omega, hm, Nat.le_refl _⟩
/-- what is typed is prepared to what is meant; it has as many letters as stones; the lexer reads it as it is -/
theorem typed_ok (n : Nat) (cell : Int) : ((prepL (typed n cell).1).map lowL).flatten = (typed n cell).2 ∧ (∀ c ∈ (typed n cell).1, safe c = true) ∧ (typed n cell).2.length = n ∧ (typed n cell).1.length ≤ 1 + n ∧ (∀ c ∈ (typed n cell).2, c < 1114112) ∧ (typed n cell).1 ≠ [] := by
  obtain ⟨k, hk, ek⟩ := fmod_nat cell (m := 27) (by decide)
  replace ek : cell.fmod 27 = (k : Int) := ek
  have h := ok_hid k hk
  rw [Bool.and_eq_true] at h
  have := typ_ok n (n - 0) cell [hdn (cell.fmod 27)] [] rfl (by rw [ek, prepL, filt_t h.1]; rfl) (fun c hc => by rw [List.mem_singleton.mp hc, ek]; exact h.2) (fun c hc => absurd hc List.not_mem_nil) (Nat.zero_le _)
  refine ⟨this.1, this.2.1, this.2.2.1, by have h := this.2.2.2.1; show (typ n cell [hdn (cell.fmod 27)] []).1.length ≤ 1 + n; simpa using h, this.2.2.2.2.1, fun e => ?_⟩
  have h9 := this.2.2.2.2.2
  rw [show (typ n cell [hdn (cell.fmod 27)] []).1 = [] from e] at h9
  simp at h9
end Mine
end
noncomputable section
open PySem PySem.W PySem.Calls PyProof.Rows
set_option maxRecDepth 100000
set_option maxHeartbeats 1000000
namespace Mine
theorem safe_ws {c : Nat} (h : safe c = true) : ¬ ws c = true := by
  unfold safe at h; unfold ws
  simp only [Bool.and_eq_true, Bool.not_eq_true'] at h
  rw [h.1.1.1]; simp
theorem safe_34 {c : Nat} (h : safe c = true) : ¬ c = 34 := by
  unfold safe at h; simp only [Bool.and_eq_true, bne_iff_ne] at h; exact h.1.1.2
theorem safe_92 {c : Nat} (h : safe c = true) : ¬ c = 92 := by
  unfold safe at h; simp only [Bool.and_eq_true, bne_iff_ne] at h; exact h.1.2
theorem safe_lt {c : Nat} (h : safe c = true) : c < 0x110000 := by
  unfold safe at h; simp only [Bool.and_eq_true, decide_eq_true_eq] at h; exact h.2
theorem safe_10 {c : Nat} (h : safe c = true) : ¬ c = 10 := by
  intro e; subst e; exact absurd h (by decide)
theorem line_ne {c : Nat} (h : ¬ c = 10) (line : Int) (r : List Nat) : lineAft line (c :: r) = line := if_neg (by simpa using h)
theorem quo_word : ∀ (w acc rest : List Nat) (line : Int), (∀ c ∈ w, safe c = true) → quoT (w ++ 34 :: rest) acc line = (acc ++ w, line, rest)
  | [], acc, rest, line, _ => by
    rw [List.nil_append, quoT, if_pos rfl, line_ne (by decide), List.append_nil]
  | c :: w, acc, rest, line, h => by
    have hc := h c (.head _)
    rw [List.cons_append, quoT, if_neg (safe_34 hc), if_neg (safe_92 hc), line_ne (safe_10 hc), quo_word w _ rest line fun d hd => h d (.tail _ hd), List.append_assoc]
    rfl
theorem bare_word : ∀ (w acc rest : List Nat) (line : Int), (∀ c ∈ w, safe c = true) → bareT (w ++ 9 :: rest) acc line = (acc ++ w, line, rest)
  | [], acc, rest, line, _ => by
    rw [List.nil_append, bareT, if_pos (by decide), line_ne (by decide), List.append_nil]
  | c :: w, acc, rest, line, h => by
    have hc := h c (.head _)
    rw [List.cons_append, bareT, if_neg (safe_ws hc), if_neg (safe_92 hc), line_ne (safe_10 hc), bare_word w _ rest line fun d hd => h d (.tail _ hd), List.append_assoc]
    rfl
theorem bare_esc : ∀ (w acc rest : List Nat) (line : Int), (∀ c ∈ w, safe c = true) → bareT ((w.map fun c => [92, c]).flatten ++ 10 :: rest) acc line = (acc ++ w, line + 1, rest)
  | [], acc, rest, line, _ => by
    show bareT (10 :: rest) acc line = _
    rw [bareT, if_pos (by decide), List.append_nil]
    rfl
  | c :: w, acc, rest, line, h => by
    have hc := h c (.head _)
    show bareT (92 :: c :: ((w.map fun c => [92, c]).flatten ++ 10 :: rest)) acc line = _
    rw [bareT, if_neg (by decide), if_pos rfl, line_ne (safe_10 hc), line_ne (by decide)]
    show bareT ((w.map fun c => [92, c]).flatten ++ 10 :: rest) (acc ++ [c]) line = _
    rw [bare_esc w _ rest line fun d hd => h d (.tail _ hd), List.append_assoc]
    rfl
/-- is word k written with line feed -/
noncomputable def lfk (ch : Int) (k : Nat) : Int := if ((k : Int) + ch).fmod 3 = 1 then 1 else 0
theorem tok_way (wl : List (List Nat)) (ch : Int) (k : Nat) (rest : List Nat) (line : Int) (hs : ∀ c ∈ wl.getD k [], safe c = true) (hn : wl.getD k [] ≠ []) :
    tokT (way wl ch k ++ rest) line = (wl.getD k [], line + lfk ch k, rest) := by
  obtain ⟨r, hr, er⟩ := fmod_nat ((k : Int) + ch) (m := 3) (by decide)
  replace er : ((k : Int) + ch).fmod 3 = (r : Int) := er
  have h3 : r = 0 ∨ r = 1 ∨ r = 2 := by omega
  rcases h3 with rfl | rfl | rfl
  · rw [way0 er, lfk, er, if_neg (by decide), Int.add_zero]
    generalize wl.getD k [] = w at hs hn ⊢
    show tokT (32 :: 13 :: 34 :: (w ++ [34] ++ rest)) line = _
    rw [tokT, if_pos (by decide), line_ne (by decide), tokT, if_pos (by decide), line_ne (by decide), tokT, if_neg (by decide), if_pos rfl, line_ne (by decide), List.append_assoc]
    exact quo_word w [] rest line hs
  · rw [way1 er, lfk, er, if_pos (by decide)]
    generalize wl.getD k [] = w at hs hn ⊢
    cases w with
    | nil => exact absurd rfl hn
    | cons c w =>
      have hc := hs c (.head _)
      show tokT (92 :: c :: ((w.map fun c => [92, c]).flatten ++ [10] ++ rest)) line = _
      rw [tokT, if_neg (by decide), if_neg (by decide), if_pos rfl, line_ne (safe_10 hc), line_ne (by decide), List.append_assoc]
      exact bare_esc w [c] rest line fun d hd => hs d (.tail _ hd)
  · rw [way2 er, lfk, er, if_neg (by decide), Int.add_zero]
    generalize wl.getD k [] = w at hs hn ⊢
    cases w with
    | nil => exact absurd rfl hn
    | cons c w =>
      have hc := hs c (.head _)
      show tokT (c :: (w ++ [9] ++ rest)) line = _
      rw [tokT, if_neg (safe_ws hc), if_neg (safe_34 hc), if_neg (safe_92 hc), line_ne (safe_10 hc), List.append_assoc]
      exact bare_word w [c] rest line fun d hd => hs d (.tail _ hd)
/-- the last word, and the end -/
theorem tok_last (line : Int) : tokT [107, 92, 32, 92, 10, 92, 92, 11, 34, 35] line = ([107, 32, 10, 92, 11, 34, 35], line + 1, []) := by
  rw [tokT, if_neg (by decide), if_neg (by decide), if_neg (by decide), line_ne (by decide)]
  rw [bareT, if_neg (by decide), if_pos rfl, line_ne (c := 32) (by decide), line_ne (c := 92) (by decide)]
  show bareT [92, 10, 92, 92, 11, 34, 35] [107, 32] line = _
  rw [bareT, if_neg (by decide), if_pos rfl, line_ne (c := 92) (by decide), show lineAft line [10, 92, 92, 11, 34, 35] = line + 1 from rfl]
  show bareT [92, 92, 11, 34, 35] [107, 32, 10] (line + 1) = _
  rw [bareT, if_neg (by decide), if_pos rfl, line_ne (c := 92) (by decide), line_ne (c := 92) (by decide)]
  show bareT [11, 34, 35] [107, 32, 10, 92] (line + 1) = _
  rw [bareT, if_neg (by decide), if_neg (by decide), line_ne (by decide), bareT, if_neg (by decide), if_neg (by decide), line_ne (by decide), bareT, if_neg (by decide), if_neg (by decide), line_ne (by decide), bareT]
  rfl
theorem tok_end (line : Int) : tokT [] line = ([], line, []) := by rw [tokT]
/-- the line feeds among the first j words -/
noncomputable def lfs (ch : Int) : Nat → Int
  | 0 => 0
  | j + 1 => lfs ch j + lfk ch j
theorem lfs6 (ch : Int) : lfs ch 6 = 2 := by
  have key : ∀ k : Nat, lfk ch k = if (((k : Int) + ch) % 3) = 1 then 1 else 0 := fun k => by rw [lfk, Int.fmod_eq_emod_of_nonneg _ (by decide)]
  simp only [lfs, key]
  have h : ch % 3 = 0 ∨ ch % 3 = 1 ∨ ch % 3 = 2 := by omega
  have e : ∀ k : Nat, ((k : Int) + ch) % 3 = ((k : Int) + ch % 3) % 3 := fun k => by omega
  simp only [e]
  rcases h with h | h | h <;> rw [h] <;> decide
end Mine
end
noncomputable section
open PySem PySem.W PySem.Calls PyProof.Rows
set_option maxRecDepth 100000
set_option maxHeartbeats 1000000
namespace Mine
theorem getD_map_lt {α β : Type} (f : α → β) (d : α) (e : β) : ∀ (l : List α) (i : Nat), i < l.length → (l.map f).getD i e = f (l.getD i d)
  | [], i, h => by simp at h
  | _ :: _, 0, _ => rfl
  | _ :: l, i + 1, h => by simpa using getD_map_lt f d e l i (Nat.lt_of_succ_lt_succ h)
noncomputable abbrev mapW (f : Nat → Nat) (ws : List (List Nat)) : List (List Nat) := ws.map fun x => x.map f
theorem getD_mapW (f : Nat → Nat) : ∀ (ws : List (List Nat)) (k : Nat), (mapW f ws).getD k [] = (ws.getD k []).map f
  | [], _ => rfl
  | _ :: _, 0 => rfl
  | _ :: ws, k + 1 => by simpa using getD_mapW f ws k
theorem rdy_map (f : Nat → Nat) (ws : List (List Nat)) : rdy (mapW f ws) = rdy ws := by
  unfold rdy
  congr 1
  funext k
  rw [getD_mapW, List.length_map]
theorem sow1_map (f : Nat → Nat) (ws : List (List Nat)) (h : Nat) (hl : (ws.getD h []).length = h + 1) : sow1 (mapW f ws) h = mapW f (sow1 ws h) := by
  simp only [sow1, mapW, List.map_append, List.map_map, List.map_cons, List.map_nil, List.map_drop]
  congr 2
  apply List.map_congr_left
  intro k hk
  have hk := List.mem_range.mp hk
  show (mapW f ws).getD k [] ++ [((mapW f ws).getD h []).getD (h - 1 - k) 0] = (ws.getD k [] ++ [(ws.getD h []).getD (h - 1 - k) 0]).map f
  rw [getD_mapW, getD_mapW, getD_map_lt f 0 0 _ _ (by omega), List.map_append]
  rfl
theorem sowS_map (f : Nat → Nat) (ws : List (List Nat)) : ∀ i, sowS (mapW f ws) i = (mapW f (sowS ws i).1, (sowS ws i).2.1.map f, (sowS ws i).2.2)
  | 0 => rfl
  | i + 1 => by
    rw [sowS, sowS, sowS_map f ws i]
    dsimp only
    rw [rdy_map]
    cases e : rdy (sowS ws i).1 with
    | nil => rfl
    | cons h r =>
      have hh := rdy_lt e
      dsimp only
      rw [sow1_map f _ h hh.2, getD_mapW, getD_map_lt f 0 0 _ _ (by omega), List.map_append]
      rfl
/-- the letters' numbers -/
noncomputable def ids : Nat → List Nat → List (List Nat)
  | _, [] => []
  | s, c :: cs => (List.range' s c) :: ids (s + c) cs
theorem range_map (l : List Nat) (f : Nat → Nat) : ∀ (s : Nat), (∀ i, i < l.length → f (s + i) = l.getD i 0) → (List.range' s l.length).map f = l := by
  induction l with
  | nil => intro _ _; rfl
  | cons x l ih =>
    intro s h
    rw [List.length_cons, List.range'_succ, List.map_cons, show f s = x from by simpa using h 0 (by simp)]
    congr 1
    refine ih (s + 1) fun i hi => ?_
    have := h (i + 1) (by simpa using hi)
    rw [show s + (i + 1) = s + 1 + i by omega] at this
    simpa using this
theorem ids_map : ∀ (ws : List (List Nat)) (s : Nat) (f : Nat → Nat), (∀ i, i < ws.flatten.length → f (s + i) = ws.flatten.getD i 0) → mapW f (ids s (ws.map (·.length))) = ws
  | [], _, _, _ => rfl
  | x :: ws, s, f, h => by
    show (List.range' s x.length).map f :: mapW f (ids (s + x.length) (ws.map (·.length))) = _
    rw [range_map x f s fun i hi => ?_, ids_map ws (s + x.length) f fun i hi => ?_]
    · have := h (x.length + i) (by simp; simpa using hi)
      rw [show s + (x.length + i) = s + x.length + i by omega] at this
      rw [this, List.flatten_cons]
      simp [List.getD, List.getElem?_append_right]
    · have := h i (by simp; omega)
      rw [this, List.flatten_cons]
      simp [List.getD, List.getElem?_append_left hi]
/-- words are a picture of their letters' numbers -/
theorem ids_of (ws : List (List Nat)) : ws = mapW (fun i => ws.flatten.getD i 0) (ids 0 (ws.map (·.length))) :=
  (ids_map ws 0 _ fun i _ => by rw [Nat.zero_add]).symm
end Mine
end
noncomputable section
open PySem PySem.W PySem.Calls PyProof.Rows
set_option maxRecDepth 100000
set_option maxHeartbeats 1000000
namespace Mine
noncomputable def boardC (r c4 sp : Nat) : List Int := board (r : Int) ((4 * sp + c4 : Nat) : Int)
noncomputable def chk (cs : List Nat) : Bool :=
  let n := cs.sum
  let s := sowS (ids 0 cs) n
  let tot := s.2.1 ++ s.1.flatten
  decide (n ≤ 30) && tot.isPerm (List.range' 0 n) && decide (s.1.length = 6) &&
  (if cs.map (fun (c : Nat) => (c : Int)) = (List.range 6).map (toldAt (n : Int)) then
    decide (s.2.2.reverse = (struck n).drop 1) && homeV (((struck n).drop 1).reverse.map Int.toNat) (ids 0 cs) && decide (s.2.1 = homeS (((struck n).drop 1).reverse.map Int.toNat) (ids 0 cs))
  else decide (s.2.1.length < n))
noncomputable def chkR (r : Nat) : Bool := (List.range 4).all fun c4 => (List.range 6).all fun sp => (boardC r c4 sp).all (fun x => decide (0 ≤ x) && decide (x ≤ 7)) && decide ((boardC r c4 sp).length = 6) && chk ((boardC r c4 sp).map Int.toNat)
theorem chk_0 : chkR 0 = true := by decide +kernel
theorem chk_1 : chkR 1 = true := by decide +kernel
theorem chk_2 : chkR 2 = true := by decide +kernel
theorem chk_3 : chkR 3 = true := by decide +kernel
theorem chk_4 : chkR 4 = true := by decide +kernel
theorem chk_5 : chkR 5 = true := by decide +kernel
theorem chk_6 : chkR 6 = true := by decide +kernel
theorem chk_7 : chkR 7 = true := by decide +kernel
theorem chk_8 : chkR 8 = true := by decide +kernel
theorem chk_9 : chkR 9 = true := by decide +kernel
theorem chk_10 : chkR 10 = true := by decide +kernel
theorem chk_11 : chkR 11 = true := by decide +kernel
theorem chk_12 : chkR 12 = true := by decide +kernel
theorem chk_13 : chkR 13 = true := by decide +kernel
theorem chk_14 : chkR 14 = true := by decide +kernel
theorem chk_15 : chkR 15 = true := by decide +kernel
theorem chk_16 : chkR 16 = true := by decide +kernel
theorem chk_17 : chkR 17 = true := by decide +kernel
theorem chk_all : ∀ r, r < 18 → chkR r = true
  | 0, _ => chk_0
  | 1, _ => chk_1
  | 2, _ => chk_2
  | 3, _ => chk_3
  | 4, _ => chk_4
  | 5, _ => chk_5
  | 6, _ => chk_6
  | 7, _ => chk_7
  | 8, _ => chk_8
  | 9, _ => chk_9
  | 10, _ => chk_10
  | 11, _ => chk_11
  | 12, _ => chk_12
  | 13, _ => chk_13
  | 14, _ => chk_14
  | 15, _ => chk_15
  | 16, _ => chk_16
  | 17, _ => chk_17
  | r + 18, h => by omega
end Mine
end
noncomputable section
open PySem PySem.W PySem.Calls PyProof.Rows
set_option maxRecDepth 100000
set_option maxHeartbeats 1000000
namespace Mine
theorem ids_flat : ∀ (cs : List Nat) (s : Nat), (ids s cs).flatten = List.range' s cs.sum
  | [], _ => rfl
  | c :: cs, s => by
    show List.range' s c ++ (ids (s + c) cs).flatten = _
    rw [ids_flat cs, List.sum_cons, List.range'_append_1]
theorem homeT_map (f : Nat → Nat) (ls : List (List Nat)) (h : Nat) (h1 : 1 ≤ h) (hv : h ≤ (ls.getD (h - 1) []).length) : homeT (mapW f ls) h = mapW f (homeT ls h) := by
  unfold homeT mapW
  rw [List.map_map]
  apply List.map_congr_left
  intro i hi
  show (if i = h - 1 then [] else if i < h - 1 then (mapW f ls).getD i [] ++ [((mapW f ls).getD (h - 1) []).getD (h - 2 - i) 0] else (mapW f ls).getD i []) = (if i = h - 1 then [] else if i < h - 1 then ls.getD i [] ++ [(ls.getD (h - 1) []).getD (h - 2 - i) 0] else ls.getD i []).map f
  split
  · rfl
  · split
    · rw [getD_mapW, getD_mapW, getD_map_lt f 0 0 _ _ (by omega), List.map_append]; rfl
    · rw [getD_mapW]
theorem homeV_map (f : Nat → Nat) : ∀ (hs : List Nat) (ls : List (List Nat)), homeV hs ls = true → homeV hs (mapW f ls) = true
  | [], _, _ => rfl
  | h :: r, ls, hv => by
    simp only [homeV, Bool.and_eq_true, decide_eq_true_eq] at hv ⊢
    obtain ⟨⟨⟨a, b⟩, c⟩, d⟩ := hv
    rw [homeT_map f ls h a c, getD_mapW, List.length_map]
    exact ⟨⟨⟨a, b⟩, c⟩, homeV_map f r _ d⟩
theorem homeS_map (f : Nat → Nat) : ∀ (hs : List Nat) (ls : List (List Nat)), homeV hs ls = true → homeS hs (mapW f ls) = (homeS hs ls).map f
  | [], _, _ => rfl
  | h :: r, ls, hv => by
    simp only [homeV, Bool.and_eq_true, decide_eq_true_eq] at hv
    obtain ⟨⟨⟨a, b⟩, c⟩, d⟩ := hv
    rw [homeS, homeS, homeT_map f ls h a c, homeS_map f r _ d, getD_mapW, getD_map_lt f 0 0 _ _ (by omega)]
    rfl
theorem flat_map (f : Nat → Nat) : ∀ ws : List (List Nat), (mapW f ws).flatten = ws.flatten.map f
  | [] => rfl
  | x :: ws => by
    show x.map f ++ (mapW f ws).flatten = _
    rw [flat_map f ws, List.flatten_cons, List.map_append]
theorem tl18 (x : Int) {m : Nat} (hm : 0 < m) : (x % (m : Int)).toNat < m :=
  (Int.toNat_lt (Int.emod_nonneg _ (Int.ne_of_gt (Int.ofNat_lt.mpr hm)))).mpr (Int.emod_lt_of_pos _ (Int.ofNat_lt.mpr hm))
theorem c46 (x y : Int) (h0 : 0 ≤ x) (h1 : 0 ≤ y) : ((4 * x.toNat + y.toNat : Nat) : Int) = y + 4 * x := by
  rw [Int.natCast_add, Int.natCast_mul, Int.toNat_of_nonneg h0, Int.toNat_of_nonneg h1, Int.add_comm]; rfl
theorem board_mod (st ch : Int) : ∃ r c4 sp : Nat, r < 18 ∧ c4 < 4 ∧ sp < 6 ∧ board st ch = boardC r c4 sp := by
  refine ⟨(st % 18).toNat, (ch % 4).toNat, (ch / 4 % 6).toNat, tl18 st (by decide), tl18 ch (by decide), tl18 (ch / 4) (by decide), ?_⟩
  unfold boardC board
  have e1 : (((st % 18).toNat : Nat) : Int) % 18 = st % 18 := by rw [Int.toNat_of_nonneg (Int.emod_nonneg _ (by decide)), Int.emod_emod]
  have e2 : ((4 * (ch / 4 % 6).toNat + (ch % 4).toNat : Nat) : Int) % 4 = ch % 4 := by rw [c46 _ _ (Int.emod_nonneg _ (by decide)) (Int.emod_nonneg _ (by decide)), Int.add_mul_emod_self_left, Int.emod_emod]
  have e3 : ((4 * (ch / 4 % 6).toNat + (ch % 4).toNat : Nat) : Int) / 4 % 6 = ch / 4 % 6 := by rw [c46 _ _ (Int.emod_nonneg _ (by decide)) (Int.emod_nonneg _ (by decide)), Int.add_mul_ediv_left _ _ (by decide), Int.ediv_eq_zero_of_lt (Int.emod_nonneg _ (by decide)) (Int.emod_lt_of_pos _ (by decide)), Int.zero_add, Int.emod_emod]
  rw [e1, e2, e3]
theorem board_chk (st ch : Int) : (∀ x ∈ board st ch, 0 ≤ x ∧ x ≤ 7) ∧ (board st ch).length = 6 ∧ chk ((board st ch).map Int.toNat) = true := by
  obtain ⟨r, c4, sp, hr, hc, hs, e⟩ := board_mod st ch
  have h := chk_all r hr
  unfold chkR at h
  have h2 := List.all_eq_true.mp (List.all_eq_true.mp h c4 (List.mem_range.mpr hc)) sp (List.mem_range.mpr hs)
  simp only [Bool.and_eq_true, decide_eq_true_eq] at h2
  obtain ⟨⟨a, b⟩, c⟩ := h2
  rw [e]
  exact ⟨fun x hx => by simpa using List.all_eq_true.mp a x hx, b, c⟩
/-- the whole game, for any words -/
theorem game (ms : List (List Nat)) (hc : chk (ms.map (·.length)) = true) :
    ms.flatten.length ≤ 30 ∧ ((sowS ms ms.flatten.length).2.1 ++ (sowS ms ms.flatten.length).1.flatten).Perm ms.flatten ∧ (sowS ms ms.flatten.length).1.length = 6 ∧
    (if ms.map (fun m => (m.length : Int)) = (List.range 6).map (toldAt (ms.flatten.length : Int)) then
      (sowS ms ms.flatten.length).2.2.reverse = (struck ms.flatten.length).drop 1 ∧ homeV (((struck ms.flatten.length).drop 1).reverse.map Int.toNat) ms = true ∧
        (sowS ms ms.flatten.length).2.1 = homeS (((struck ms.flatten.length).drop 1).reverse.map Int.toNat) ms
    else (sowS ms ms.flatten.length).2.1.length < ms.flatten.length) := by
  have hsum : ∀ l : List (List Nat), (l.map (·.length)).sum = l.flatten.length := fun l => by
    induction l with
    | nil => rfl
    | cons x l ih => rw [List.map_cons, List.sum_cons, ih, List.flatten_cons, List.length_append]
  obtain ⟨f, hf⟩ : ∃ f, ms = mapW f (ids 0 (ms.map (·.length))) := ⟨_, ids_of ms⟩
  have hmi : (ms.map (·.length)).map (fun (c : Nat) => (c : Int)) = ms.map (fun m => (m.length : Int)) := by rw [List.map_map]; rfl
  have hfl : ms.flatten = (List.range' 0 ms.flatten.length).map f := by
    rw [← hsum, ← ids_flat, ← flat_map, ← hf]
  unfold chk at hc
  rw [hsum, hmi] at hc
  generalize ms.flatten.length = n at *
  generalize hi : ids 0 (ms.map (·.length)) = iw at *
  simp only [Bool.and_eq_true, decide_eq_true_eq] at hc
  obtain ⟨⟨⟨a, b⟩, c⟩, d⟩ := hc
  have hs := sowS_map f iw n
  rw [← hf] at hs
  rw [hs]
  dsimp only
  refine ⟨a, ?_, by simpa using c, ?_⟩
  · rw [flat_map, ← List.map_append, hfl]
    exact (List.isPerm_iff.mp b).map f
  · split
    · rename_i h
      rw [if_pos h] at d
      simp only [Bool.and_eq_true, decide_eq_true_eq] at d
      obtain ⟨⟨d1, d2⟩, d3⟩ := d
      refine ⟨d1, ?_, ?_⟩
      · rw [hf]; exact homeV_map f _ _ d2
      · rw [hf, homeS_map f _ _ d2, d3]
    · rename_i h
      rw [if_neg h] at d
      simpa using d
end Mine
end
noncomputable section
open PySem PySem.W PySem.Calls PyProof.Rows
set_option maxRecDepth 100000
set_option maxHeartbeats 4000000
namespace Mine
local macro_rules | `(tactic| ktr_rel) => `(tactic| (refine lv_ret (by k_asm) (by k_asm) (by rfl) ?_))
local macro_rules | `(tactic| k_ne) => `(tactic| (refine neN ?_; (try dsimp only); first | assumption | exact Ne.symm (by assumption) | exact Nat.ne_of_lt (by assumption) | exact Nat.ne_of_gt (by assumption) | (apply_rules [nex_x, nex_dx, nex_pb, nex_D, nex_ce, nex_lf, nex_lc, nex_sx, nex_sdx, nex_spb, lne43, lne42, lne41, lne32, lne31, lne21]; done) | (refine Ne.symm ?_; apply_rules [nex_x, nex_dx, nex_pb, nex_D, nex_ce, nex_lf, nex_lc, nex_sx, nex_sdx, nex_spb, lne43, lne42, lne41, lne32, lne31, lne21]; done) | exact row5 (by assumption) | exact row3 (by assumption) | omega))
local macro_rules | `(tactic| omega) => `(tactic| with_reducible first | exact tn0 _ | exact z0 _ | exact tn1 _ | exact tnp _ | exact tn2 _ _ | exact ge62 _ | exact ge63 _ | exact zle _ | exact i62 (by assumption) | exact i63 (by assumption) | exact f62 (by assumption) | exact zlt (by assumption) | exact isub (by assumption) | exact row1 (by assumption) | exact fit1 _ (by assumption) | exact b34 (by assumption) | exact b37 (by assumption) (by assumption) | exact tri3 (by assumption) (by assumption) | exact lt6 (by assumption) (by assumption) (by assumption) | exact x63 (by assumption) (by assumption) | exact xlen (by assumption) (by assumption) | exact lt10 _ (by assumption) (by assumption) (by assumption) (by decide) | exact lt11 _ (by assumption) (by assumption) (by assumption) (by decide) | exact roomK _ _ (by assumption) (by decide) | exact roomK2 _ _ _ (by assumption) (by decide) | exact big2 (by assumption) (by assumption) (by assumption) | exact kpl (by assumption) (by assumption) | exact kpi (by assumption) (by assumption) | exact ge2 (by assumption) | exact lt2 _ (by assumption) | exact hp62 (by assumption) | exact hpl (by assumption) (by assumption) (by assumption) | exact hpk (by assumption) (by assumption) (by assumption) | exact pdl (by assumption) (by assumption) | exact us1 (by assumption) (by assumption) (by assumption) (by assumption) | exact ac9 (by assumption) (by assumption) (by assumption) | fail)
local macro_rules | `(tactic| walk_at "storeName") => `(tactic| (dsimp only; walk_at "storeName"))
local macro_rules | `(tactic| walk_at "exec Assign cons ListComp") => `(tactic| (refine stopped ?_))
local macro_rules | `(tactic| walk_at "exec For Name Subscript cons nil") => `(tactic| refine stopped ?_)
local macro_rules | `(tactic| walk_at "call builtin:list.append") => `(tactic| (refine stopped ?_))
inductive HomJ (hs : List Nat) (ms : List (List Nat)) (B R5 : Addr) (rv : List Value) (i : Nat) (m : Str → Option Value) (nx : Led) : Prop
  | mk (bd : Led) (k : Nat) (rows : List (List Nat)) (acc : List Nat) (th : Tok) (h1 : m (Str.ofString "board") = some (.ref B)) (h2 : m (Str.ofString "home") = some (.str (mkS acc) th)) (e : nx = (R5, W.listOf (List.toArray rv) 0) :: (B, W.listOf (List.toArray (bd.map (fun q => Value.ref q.1))) k) :: bd) (hl : bd.length = 6) (hr : rows.length = 6) (hb : BdOk bd (fun i => rows.getD i [])) (n1 : ∀ q ∈ bd, @Ne Nat q.1 B) (n2 : ∀ q ∈ bd, @Ne Nat q.1 R5) (hV : homeV (hs.drop i) rows = true) (ha : acc ++ homeS (hs.drop i) rows = homeS hs ms) (hn : acc.length = i) (hx : ∀ x ∈ rows, x.length ≤ 10 + i) : HomJ hs ms B R5 rv i m nx
section
variable {w : World} {p : Program} {loose : List Str} {mean : ExcName → Option Value} {mg mb : Str → Option Value}
theorem ct_home (ha pa : Addr) (hv pv : List Value) (kn kp : Nat) (ms : List (List Nat)) (ps : List Int) (hap : @Ne Nat ha pa) (h6 : ms.length = 6) (hms : ∀ x ∈ ms, x.length ≤ 7) (hvs : StrsAre hv (ms.map mkS)) (hps : IntsAre pv ps) (hlp : ps.length ≤ 30) (hV : homeV (ps.reverse.map Int.toNat) ms = true) :
    Ct w p loose mean mg mb 4 40 215 [.ref ha, .ref pa] [(ha, W.listOf (List.toArray hv) kn), (pa, W.listOf (List.toArray pv) kp)] fun v l => ∃ t, v = .str (mkS (homeS (ps.reverse.map Int.toNat) ms)) t := by
  intro A h₀ s Q E hA hd hu X T st O ret
  k_dflt (refine' ct_def (binds := [(Str.ofString "heaps", .ref ha), (Str.ofString "passes", .ref pa)]) (sub := _) X T st O ?k6 ?k7 ?k8 ?k9 ?kB ret ?_ ?c2 ?c3 ?c4 ?c5)
  (case k6 => k_is); (case k7 => k_is); (case k8 => omega); (case k9 => exact BindsTo.of_eq rfl); (case kB => exact locs rfl); (case c5 => decide); (case c2 => exact rfl); (case c3 => exact rfl); (case c4 => exact rfl)
  clear ret O st T X; intro g L h₁ X T F N hlt; (try dsimp only); (try k_fold)
  have hhl := hvs.length
  rw [List.length_map, h6] at hhl
  have hpl := hps.length
  k_steps
  refine unstop ?_
  k_dflt (refine LCg.Assign_ListComp_U (F₀ := by k_asm) (by rfl) (by with_unfolding_all rfl) (by with_unfolding_all rfl) (by decide) (by rfl) (by decide) (by rfl) (by rfl) (by rfl) ?_)
  k_steps
  with_reducible rename Fr _ _ _ _ => F2
  with_reducible rename News _ _ _ _ => N2
  refine LCg.CompSrc.ledger hA F2 N2 (.head _) ?hz9 fun g1 => ?_
  case hz9 => rw [PySem.sizeLine_eq, List.size_toArray]; omega
  clear F2 N2
  refine comp_inv (fun j ys nx => ∃ bd, nx = (ha, W.listOf (List.toArray hv) kn) :: (pa, W.listOf (List.toArray pv) kp) :: bd ∧ ys = bd.map (fun q => Value.ref q.1) ∧ bd.length = j ∧ BdOk bd (fun i => ms.getD i [])) 6 ?step ?fin _ 0 [] _ (by rw [List.size_toArray]; omega) ⟨[], rfl, rfl, rfl, List.nodup_nil, fun i p h => by simp at h⟩
  case step =>
    rintro j ys nx v I1 oI1 C oC1 D m2 h1 tk1 E' hj ⟨bd, rfl, rfl, hbl, hbd⟩ hv' hC hx F1 N1 off ne
    obtain ⟨tv, rfl⟩ := strs_at hvs (show hv[j]? = some v by simpa using hv')
    have hz := getD_len hms j
    k_steps
    refine list_str_K hA F1 N1 (by rw [mk_len]; omega) fun D2 h2 tk2 vs2 n2 F2 N2 hv2 hD2 => ?_
    k_steps
    refine LCg.CompEnd.intro F2 N2 ((ha, W.listOf (List.toArray hv) kn) :: (pa, W.listOf (List.toArray pv) kp) :: (bd ++ [(D2, W.listOf vs2 n2)])) (fun q hq => ?_) (LCg.Off3.of fun q hq => ?_) ?_ ⟨_, rfl, ?_, ?_, ?_⟩
    · simp only [List.mem_cons, List.mem_append, List.not_mem_nil, or_false] at hq ⊢
      rcases hq with h | h | h | h | h | h | h <;> first | exact (.inl h) | exact (.inr (.inl h)) | exact (.inr (.inr (.inl h))) | exact (.inr (.inr (.inr (.inl h)))) | exact (.inr (.inr (.inr (.inr (.inl h))))) | exact (.inr (.inr (.inr (.inr (.inr (.inl h)))))) | exact (.inr (.inr (.inr (.inr (.inr (.inr (.inl h))))))) | exact (.inr (.inr (.inr (.inr (.inr (.inr (.inr (.inl h)))))))) | exact (.inr (.inr (.inr (.inr (.inr (.inr (.inr (.inr (.inl h))))))))) | exact (.inr (.inr (.inr (.inr (.inr (.inr (.inr (.inr (.inr (.inl h)))))))))) | exact (.inr (.inr (.inr (.inr (.inr (.inr (.inr (.inr (.inr (.inr (.inl h))))))))))) | exact (.inr (.inr (.inr (.inr (.inr (.inr (.inr (.inr (.inr (.inr (.inr (.inl h)))))))))))) | exact (.inr (.inr (.inr (.inr (.inr (.inr (.inr (.inr (.inr (.inr (.inr (.inr (.inl h))))))))))))) | exact (.inr (h)) | exact (.inr (.inr (h))) | exact (.inr (.inr (.inr (h)))) | exact (.inr (.inr (.inr (.inr (h))))) | exact (.inr (.inr (.inr (.inr (.inr (h)))))) | exact (.inr (.inr (.inr (.inr (.inr (.inr (h))))))) | exact (.inr (.inr (.inr (.inr (.inr (.inr (.inr (h)))))))) | exact (.inr (.inr (.inr (.inr (.inr (.inr (.inr (.inr (h))))))))) | exact (.inr (.inr (.inr (.inr (.inr (.inr (.inr (.inr (.inr (h)))))))))) | exact (.inr (.inr (.inr (.inr (.inr (.inr (.inr (.inr (.inr (.inr (h))))))))))) | exact (.inr (.inr (.inr (.inr (.inr (.inr (.inr (.inr (.inr (.inr (.inr (h)))))))))))) | exact (.inr (.inr (.inr (.inr (.inr (.inr (.inr (.inr (.inr (.inr (.inr (.inr (h))))))))))))) | simp [h]
    · simp only [List.mem_cons, List.mem_append, List.not_mem_nil, or_false] at hq
      have hof := off.mem
      rcases hq with rfl | rfl | hq | rfl
      · exact hof _ (.head _)
      · exact hof _ (.tail _ (.head _))
      · exact hof _ (.tail _ (.tail _ hq))
      · exact ⟨Nat.ne_of_gt (hD2 _ (.head _)), Nat.ne_of_gt (hD2 _ (.tail _ (.head _))), Nat.ne_of_gt (hD2 _ (.tail _ (.tail _ (.head _))))⟩
    · exact .inr ⟨_, .head _, rfl, _, rfl⟩
    · rw [List.map_append]; rfl
    · rw [List.length_append, hbl]; rfl
    · refine bd_snoc (vs := vs2.toList) (k := n2) hbd (by rw [Array.toArray_toList]) ?_ fun q hq => Nat.ne_of_lt (hD2 _ (.tail _ (.tail _ (.tail _ (.tail _ (.tail _ hq))))))
      rw [hbl]
      simpa [signs, mkS] using hv2
  case fin =>
    rintro ys nx ⟨bd, rfl, rfl, hbl, hbd⟩
    unfold LCg.FinA
    intro B hB tkB FB NB oB
    k_steps
    refine unstop ?_
    k_here
    (rename Fr _ _ _ _ => lF')
    (with_unfolding_all refine' For_invVF lF' ?k1 ?k2 ?_; (case k1 => exact rfl); (case k2 => exact rfl); k_whole)
    k_steps
    with_reducible rename Fr _ _ _ _ => F5
    with_reducible rename News _ _ _ _ => N5
    rename IntsAre _ ps.reverse => hI5
    rename_i R5 rv h5 hC5 l5
    have hbB : ∀ q ∈ bd, @Ne Nat q.1 B := fun q hq => off1_mem oB q (.tail _ (.tail _ hq))
    have hb5 : ∀ q ∈ bd, @Ne Nat q.1 R5 := fun q hq => Nat.ne_of_lt (kst_ltOf l5.2.2.2 q hq)
    have hB5 : @LT.lt Nat _ B R5 := l5.1
    have N6 : News g L h5 ((R5, W.listOf (List.toArray rv) 0) :: (B, W.listOf (List.toArray (bd.map (fun q => Value.ref q.1))) (bd.map (fun q => Value.ref q.1)).length) :: bd) := fun q hq => N5 q (by
      rcases List.mem_cons.mp hq with h | hq
      · rw [h]; exact .head _
      · rcases List.mem_cons.mp hq with h | hq
        · rw [h]; exact .tail _ (.head _)
        · exact .tail _ (.tail _ (.tail _ (.tail _ hq))))
    clear N5 l5 oB
    have hrl := hI5.length
    generalize hhs : ps.reverse.map Int.toNat = hs at hV
    k_dflt (refine for_list (HomJ hs ms B R5 rv) hA rfl (by is_list) F5 N6 (.head _) ?hj ?turn ?done)
    case hj => exact ⟨bd, _, ms, [], _, rfl, rfl, rfl, hbl, h6, hbd, hbB, hb5, hV, rfl, rfl, fun x hx => Nat.le_trans (hms x hx) (by omega)⟩
    case turn =>
      rintro i v m₁ nx h tk I oI hvi ⟨bd, k, rows, acc, th, hm1, hm2, rfl, hbl, hr6, hbd, hbB, hb5, hV, hacc, hal, hrb⟩ hI hkeep F1 N1
      obtain ⟨x, t, hxi, rfl⟩ := ints_get hI5 hvi
      have hsi : hs[i]? = some x.toNat := by rw [← hhs, List.getElem?_map, hxi]; rfl
      have hil : i < ps.reverse.length := by
        rcases Nat.lt_or_ge i ps.reverse.length with h1 | h1
        · exact h1
        · rw [List.getElem?_eq_none h1] at hxi; cases hxi
      rw [List.length_reverse] at hil
      rw [drop_at hsi] at hV hacc
      simp only [homeV, Bool.and_eq_true, decide_eq_true_eq] at hV
      obtain ⟨⟨⟨v1, v2⟩, v3⟩, v4⟩ := hV
      obtain ⟨hh, rfl⟩ : ∃ hh : Nat, x = hh := ⟨x.toNat, ctn v1⟩
      rw [Int.toNat_natCast] at *
      rw [homeS] at hacc
      have hgl := getD_len hrb (hh - 1)
      rw [loc_up (m := m₁) (b := m₁) [(Str.ofString "board", some (.ref B)), (Str.ofString "home", some (.str (mkS acc) th))] (fun _ _ => rfl) (List.forall_mem_cons.mpr ⟨hm1, List.forall_mem_cons.mpr ⟨hm2, List.forall_mem_nil _⟩⟩)] at F1
      dsimp only [up] at F1
      clear F5 N6
      k_steps
      obtain ⟨⟨b0, ob⟩, hb0⟩ : ∃ q, bd[hh - 1]? = some q := ⟨bd[hh - 1]'(by omega), List.getElem?_eq_getElem (by omega)⟩
      have hbm := List.mem_of_getElem? hb0
      obtain ⟨us0, k0, rfl, hus0⟩ := hbd.2 (hh - 1) _ hb0
      have hget : (List.toArray (bd.map (fun q => Value.ref q.1)))[((hh : Int) - 1).toNat]? = some (.ref b0) := by
        rw [show ((hh : Int) - 1).toNat = hh - 1 from tnp hh]
        simp [hb0]
      refine PyProof.Rows.item_list (by is_list) (by omega) (by omega) hget ?_
      k_steps
      with_reducible rename Fr _ _ _ _ => F2
      with_reducible rename News _ _ _ _ => N2
      rename_i Dn h2 l2
      have hID : @LT.lt Nat _ I Dn := l2.1
      have hBD : @LT.lt Nat _ B Dn := l2.2.2.1
      have h5D : @LT.lt Nat _ R5 Dn := l2.2.1
      have hbD : ∀ q ∈ bd, @LT.lt Nat _ q.1 Dn := kst_ltOf l2.2.2.2
      have hIb : ∀ q ∈ bd, @Ne Nat q.1 I := fun q hq => hI q (.tail _ (.tail _ hq))
      have hI5' : @Ne Nat R5 I := hI _ (.head _)
      have hIB : @Ne Nat B I := hI _ (.tail _ (.head _))
      clear l2
      have hU : Upd B (W.listOf (List.toArray (bd.map (fun q => Value.ref q.1))) k) (W.listOf ((bd.map (fun q => Value.ref q.1)).set (hh - 1) (.ref Dn)).toArray k) ((Dn, W.listOf #[] 0) :: (I, oI) :: (R5, W.listOf (List.toArray rv) 0) :: (B, W.listOf (List.toArray (bd.map (fun q => Value.ref q.1))) k) :: bd)
          ((Dn, W.listOf #[] 0) :: (I, oI) :: (R5, W.listOf (List.toArray rv) 0) :: (B, W.listOf ((bd.map (fun q => Value.ref q.1)).set (hh - 1) (.ref Dn)).toArray k) :: bd) :=
        .tail (Nat.ne_of_gt hBD) (.tail (Ne.symm hIB) (.tail (Nat.ne_of_gt hB5) (.head hbB)))
      refine ki_set F2 N2 (by omega) (by omega) (q := (bd.map (fun q => Value.ref q.1)).set (hh - 1) (.ref Dn)) ?hset hU fun h8 F8 N8 => ?_
      case hset =>
        rw [show ((hh : Int) - 1).toNat = hh - 1 from tnp hh]
        exact setL_set _ (by rw [List.length_map]; omega)
      clear F2 N2 hU
      have hbd2 : BdOk (bd.set (hh - 1) (Dn, W.listOf (List.toArray []) 0)) (rowP rows hh 0) := bd_new hbd (by omega) (fun q hq => Nat.ne_of_lt (hbD q hq)) (by unfold rowP; rw [if_pos rfl]) (fun j hj => rowP_0 rows hh j hj)
      have hl2 : (bd.set (hh - 1) (Dn, W.listOf (List.toArray []) 0)).length = 6 := by rw [List.length_set]; exact hbl
      have hnn : ∀ q ∈ bd.set (hh - 1) (Dn, W.listOf (List.toArray []) 0), @Ne Nat q.1 B ∧ @Ne Nat q.1 R5 ∧ @Ne Nat q.1 I ∧ @Ne Nat q.1 b0 := by
        intro q hq
        obtain ⟨j, hj⟩ := List.mem_iff_getElem?.mp hq
        by_cases e : j = hh - 1
        · subst e
          rw [List.getElem?_set_self (by omega)] at hj
          cases hj
          exact ⟨Nat.ne_of_gt hBD, Nat.ne_of_gt h5D, Nat.ne_of_gt hID, Nat.ne_of_gt (hbD _ hbm)⟩
        · rw [List.getElem?_set_ne (Ne.symm e)] at hj
          have hm := List.mem_of_getElem? hj
          refine ⟨hbB q hm, hb5 q hm, hIb q hm, fun e2 => e ?_⟩
          have nd := hbd.1
          have h1 : (bd.map (·.1))[j]? = some b0 := by rw [List.getElem?_map, hj, ← e2]; rfl
          have h2 : (bd.map (·.1))[hh - 1]? = some b0 := by rw [List.getElem?_map, hb0]; rfl
          have hj2 : j < (bd.map (·.1)).length := by
            rcases Nat.lt_or_ge j (bd.map (·.1)).length with h | h
            · exact h
            · rw [List.getElem?_eq_none h] at h1; cases h1
          exact (List.getElem?_inj hj2 nd).mp (h1.trans h2.symm)
      have hb0B : @Ne Nat b0 B := hbB _ hbm
      have hb05 : @Ne Nat b0 R5 := hb5 _ hbm
      have hb0I : @Ne Nat b0 I := hIb _ hbm
      have N9 : News g L h8 ((b0, W.listOf (List.toArray us0) k0) :: (I, oI) :: (R5, W.listOf (List.toArray rv) 0) :: (B, W.listOf (List.toArray ((bd.set (hh - 1) (Dn, W.listOf (List.toArray []) 0)).map (fun q => Value.ref q.1))) k) :: bd.set (hh - 1) (Dn, W.listOf (List.toArray []) 0)) := by
        rw [List.map_set]
        intro q hq
        apply N8 q
        rcases List.mem_cons.mp hq with rfl | hq
        · exact .tail _ (.tail _ (.tail _ (.tail _ hbm)))
        · rcases List.mem_cons.mp hq with rfl | hq
          · exact .tail _ (.head _)
          · rcases List.mem_cons.mp hq with rfl | hq
            · exact .tail _ (.tail _ (.head _))
            · rcases List.mem_cons.mp hq with rfl | hq
              · exact .tail _ (.tail _ (.tail _ (.head _)))
              · rcases List.mem_or_eq_of_mem_set hq with hq | rfl
                · exact .tail _ (.tail _ (.tail _ (.tail _ hq)))
                · exact .head _
      clear N8
      generalize bd.set (hh - 1) (Dn, W.listOf (List.toArray []) 0) = bd2 at *
      clear hbd hb0 hbm hbB hb5 hbD hIb hget hI F1
      replace v2 := Hid.mk v2
      k_steps
      replace v2 := Hid.out v2
      with_reducible rename Fr _ _ _ _ => F8
      with_reducible rename News _ _ _ _ => N9
      k_dflt (refine for_range (n := hh - 1) (fun kk m nx => ∃ bd, m (Str.ofString "board") = some (.ref B) ∧ m (Str.ofString "home") = some (.str (mkS acc) th) ∧ m (Str.ofString "heap") = some (.ref b0) ∧ m (Str.ofString "hole") = some (.int (hh : Int) t) ∧ nx = (b0, W.listOf (List.toArray us0) k0) :: (I, oI) :: (R5, W.listOf (List.toArray rv) 0) :: (B, W.listOf (List.toArray (bd.map (fun q => Value.ref q.1))) k) :: bd ∧ bd.length = 6 ∧ BdOk bd (rowP rows hh kk) ∧ (∀ q ∈ bd, @Ne Nat q.1 B ∧ @Ne Nat q.1 R5 ∧ @Ne Nat q.1 I ∧ @Ne Nat q.1 b0)) hA rfl (by k_asm) (PySem.small_one (by omega) (by omega) (by omega) (by omega)) (by rw [show ((hh : Int) - 1) = ((hh - 1 : Nat) : Int) by omega, rangeSize_nat]; omega) F8 N9 ?hj2 ?turn2 ?done2)
      case hj2 => exact ⟨bd2, rfl, rfl, rfl, rfl, rfl, hl2, hbd2, hnn⟩
      case turn2 =>
        rintro kk t2 m₂ nx h tk I2 oI2 hkk ⟨bd, hn1, hn2, hn3, hn4, rfl, hbl, hbd, hnn⟩ hI F1 N1
        rw [loc_up (m := m₂) (b := m₂) [(Str.ofString "board", some (.ref B)), (Str.ofString "home", some (.str (mkS acc) th)), (Str.ofString "heap", some (.ref b0)), (Str.ofString "hole", some (.int (hh : Int) t))] (fun _ _ => rfl) (List.forall_mem_cons.mpr ⟨hn1, List.forall_mem_cons.mpr ⟨hn2, List.forall_mem_cons.mpr ⟨hn3, List.forall_mem_cons.mpr ⟨hn4, List.forall_mem_nil _⟩⟩⟩⟩)] at F1
        dsimp only [up] at F1
        clear F8 N9 hbd2 hl2
        obtain ⟨⟨b1, ob1⟩, hb1⟩ : ∃ q, bd[hh - 2 - kk]? = some q := ⟨bd[hh - 2 - kk]'(by omega), List.getElem?_eq_getElem (by omega)⟩
        have hbm1 := List.mem_of_getElem? hb1
        obtain ⟨us1, k1, rfl, hus1⟩ := hbd.2 (hh - 2 - kk) _ hb1
        have hget1 : (List.toArray (bd.map (fun q => Value.ref q.1)))[((hh : Int) - 2 - (0 + (kk : Int))).toNat]? = some (.ref b1) := by
          rw [show ((hh : Int) - 2 - (0 + (kk : Int))).toNat = hh - 2 - kk from tn2 hh kk]
          simp [hb1]
        have N1' : News g L h ((b1, W.listOf (List.toArray us1) k1) :: (I2, oI2) :: (b0, W.listOf (List.toArray us0) k0) :: (I, oI) :: (R5, W.listOf (List.toArray rv) 0) :: (B, W.listOf (List.toArray (bd.map (fun q => Value.ref q.1))) k) :: bd) := fun q hq => by
          rcases List.mem_cons.mp hq with rfl | hq
          · exact N1 _ (.tail _ (.tail _ (.tail _ (.tail _ (.tail _ hbm1)))))
          · exact N1 q hq
        clear N1
        k_steps
        refine PyProof.Rows.item_list (by is_list) (by omega) (by omega) hget1 ?_
        k_steps
        refine unstop ?_
        rw [getD_mk1 (by omega), show (0 + (kk : Int)).toNat = kk from z0 kk]
        rename_i ts
        have hlen1 := hus1.length
        rw [List.length_map, (rowP_at rows hh kk hkk).1] at hlen1
        have hgl1 := getD_len hrb (hh - 2 - kk)
        have hn := hnn _ hbm1
        have hU1 : Upd b1 (W.listOf (List.toArray us1) k1) (W.listOf ((List.toArray us1).push (.str (mkS [(rows.getD (hh - 1) []).getD kk 0]) ts)) (k1 + 1)) ((I2, oI2) :: (b0, W.listOf (List.toArray us0) k0) :: (I, oI) :: (R5, W.listOf (List.toArray rv) 0) :: (B, W.listOf (List.toArray (bd.map (fun q => Value.ref q.1))) k) :: bd)
            ((I2, oI2) :: (b0, W.listOf (List.toArray us0) k0) :: (I, oI) :: (R5, W.listOf (List.toArray rv) 0) :: (B, W.listOf (List.toArray (bd.map (fun q => Value.ref q.1))) k) :: bd.set (hh - 2 - kk) (b1, W.listOf ((List.toArray us1).push (.str (mkS [(rows.getD (hh - 1) []).getD kk 0]) ts)) (k1 + 1))) :=
          .tail (Ne.symm (hI _ (.tail _ (.tail _ (.tail _ (.tail _ hbm1)))))) (.tail (Ne.symm hn.2.2.2) (.tail (Ne.symm hn.2.2.1) (.tail (Ne.symm hn.2.1) (.tail (Ne.symm hn.1) (upd_set0 hb1 hbd.1)))))
        refine append_K F1 (News.tl N1') hU1 (fun h3 F3 N3 => ?_) (by rw [PySem.sizeLine_eq, List.size_toArray]; omega)
        clear hU1 N1' F1
        k_steps
        refine turn_next F3 N3 (by rfl) (fun q hq => hq) ?_ (fun _ h => nomatch h) ⟨_, rfl, rfl, rfl, rfl, by rw [set_refs hb1], by rw [List.length_set]; exact hbl, ?_, set_all (P := fun b => @Ne Nat b B ∧ @Ne Nat b R5 ∧ @Ne Nat b I ∧ @Ne Nat b b0) hb1 hnn⟩
        · intro q hq
          rcases List.mem_cons.mp hq with rfl | hq
          · exact hI _ (.head _)
          · rcases List.mem_cons.mp hq with rfl | hq
            · exact hI _ (.tail _ (.head _))
            · rcases List.mem_cons.mp hq with rfl | hq
              · exact hI _ (.tail _ (.tail _ (.head _)))
              · rcases List.mem_cons.mp hq with rfl | hq
                · exact hI _ (.tail _ (.tail _ (.tail _ (.head _))))
                · exact set_all (P := fun b => @Ne Nat b I2) hb1 (fun q hq => hI q (.tail _ (.tail _ (.tail _ (.tail _ hq))))) q hq
        · rw [List.push_toArray]
          refine bd_set hbd hb1 ?_ fun j hj => rowP_ne rows hh kk j hj
          rw [(rowP_at rows hh kk hkk).2, List.map_append]
          rw [(rowP_at rows hh kk hkk).1] at hus1
          exact strsAre_append hus1 (.cons _ _ .nil)
      case done2 =>
        rintro m₂ nx h tk ⟨bd, hn1, hn2, hn3, hn4, rfl, hbl, hbd, hnn⟩ F1 N1
        rw [loc_up (m := m₂) (b := m₂) [(Str.ofString "board", some (.ref B)), (Str.ofString "home", some (.str (mkS acc) th)), (Str.ofString "heap", some (.ref b0)), (Str.ofString "hole", some (.int (hh : Int) t))] (fun _ _ => rfl) (List.forall_mem_cons.mpr ⟨hn1, List.forall_mem_cons.mpr ⟨hn2, List.forall_mem_cons.mpr ⟨hn3, List.forall_mem_cons.mpr ⟨hn4, List.forall_mem_nil _⟩⟩⟩⟩)] at F1
        dsimp only [up] at F1
        clear F8 N9 hbd2 hl2
        replace hbd : BdOk bd (fun i => (homeT rows hh).getD i []) := bd_congr hbd fun i hi => (rowP_end i (by omega)).symm
        k_steps
        rw [getD_mk1 (x := rows.getD (hh - 1) []) (k := ((hh : Int) - 1).toNat) (by omega), show ((hh : Int) - 1).toNat = hh - 1 from tnp hh]
        refine iadd_c (a := acc) (b := [(rows.getD (hh - 1) []).getD (hh - 1) 0]) (by simp) (by omega) fun t8 tk8 => ?_
        k_steps
        with_reducible rename Fr _ _ _ _ => F3
        with_reducible rename News _ _ _ _ => N3
        refine turn_next (nx := (R5, W.listOf (List.toArray rv) 0) :: (B, W.listOf (List.toArray (bd.map (fun q => Value.ref q.1))) k) :: bd) F3 N3 (by rfl) (fun q hq => ?_) ?_ (fun q hq => ?_) ⟨bd, k, homeT rows hh, acc ++ [(rows.getD (hh - 1) []).getD (hh - 1) 0], _, rfl, rfl, rfl, hbl, homeT_len _ _, hbd, (fun q hq => (hnn q hq).1), (fun q hq => (hnn q hq).2.1), v4, ?_, ?_, homeT_bnd hrb⟩
        · exact .tail _ hq
        · intro q hq
          rcases List.mem_cons.mp hq with rfl | hq
          · exact hI5'
          · rcases List.mem_cons.mp hq with rfl | hq
            · exact hIB
            · exact (hnn q hq).2.2.1
        · rw [List.mem_singleton.mp hq]; exact .head _
        · rw [List.append_assoc]; exact hacc
        · rw [List.length_append, hal]; rfl
    case done =>
      rintro m₁ nx h tk ⟨bd, k, rows, acc, th, hm1, hm2, rfl, hbl, hr6, hbd, hbB, hb5, hV, hacc, hal, hrb⟩ hkeep F1 N1
      rw [loc_up (m := m₁) (b := m₁) [(Str.ofString "board", some (.ref B)), (Str.ofString "home", some (.str (mkS acc) th))] (fun _ _ => rfl) (List.forall_mem_cons.mpr ⟨hm1, List.forall_mem_cons.mpr ⟨hm2, List.forall_mem_nil _⟩⟩)] at F1
      dsimp only [up] at F1
      clear F5 N6
      have hnil : hs.drop rv.length = [] := List.drop_of_length_le (by rw [← hhs, List.length_map, hrl]; exact Nat.le_refl _)
      rw [hnil, homeS, List.append_nil] at hacc
      subst hacc
      subst hhs
      k_steps
      exact lv_ret F1 N1 (by rfl) ⟨_, rfl⟩
end
end Mine
end
noncomputable section
open PySem PySem.W PySem.Calls PyProof.Rows
set_option maxRecDepth 100000
set_option maxHeartbeats 4000000
namespace Mine
local macro_rules | `(tactic| k_ne) => `(tactic| (refine neN ?_; (try dsimp only); first | assumption | exact Ne.symm (by assumption) | exact Nat.ne_of_lt (by assumption) | exact Nat.ne_of_gt (by assumption) | (apply_rules [nex_x, nex_dx, nex_pb, nex_D, nex_ce, nex_lf, nex_lc, nex_sx, nex_sdx, nex_spb, lne43, lne42, lne41, lne32, lne31, lne21]; done) | (refine Ne.symm ?_; apply_rules [nex_x, nex_dx, nex_pb, nex_D, nex_ce, nex_lf, nex_lc, nex_sx, nex_sdx, nex_spb, lne43, lne42, lne41, lne32, lne31, lne21]; done) | exact row5 (by assumption) | exact row3 (by assumption) | omega))
local macro_rules | `(tactic| ktr_rel) => `(tactic| (refine lv_ret (by k_asm) (by k_asm) (by rfl) ?_))
local macro_rules | `(tactic| walk_at "storeName") => `(tactic| (dsimp only; walk_at "storeName"))
local macro_rules | `(tactic| walk_at "eval ListComp") => `(tactic| ((fail_if_success (rename Mark => mk9)); refine stopped ?_))
local macro_rules | `(tactic| walk_at "CompEnd") => `(tactic| refine stopped ?_)
local macro_rules | `(tactic| walk_at "exec If") => `(tactic| ((fail_if_success (rename Mark2 => mk9)); refine stopped ?_))
local macro_rules | `(tactic| walk_at "binaryOp Add ref ref") => `(tactic| (refine stopped ?_))
local macro_rules | `(tactic| walk_at "subscriptTail Name Slice ref ref") => `(tactic| (refine stopped ?_))
local macro_rules | `(tactic| walk_at "call builtin:list.append") => `(tactic| (k_here; k_dflt (refine' append_K ?k1 ?k2 ?k3 ?_ ?z; (case k1 => k_asm); (case k2 => k_asm); (case k3 => k_upd); (case z => (rw [PySem.sizeLine_eq]; (try rw [List.size_toArray]); omega)); k_whole); intro h' F' N'; (try k_sweep)))
local macro_rules | `(tactic| omega) => `(tactic| with_reducible first | exact tn0 _ | exact z0 _ | exact tn1 _ | exact tnp _ | exact tn2 _ _ | exact ge62 _ | exact ge63 _ | exact zle _ | exact i62 (by assumption) | exact i63 (by assumption) | exact f62 (by assumption) | exact zlt (by assumption) | exact isub (by assumption) | exact row1 (by assumption) | exact fit1 _ (by assumption) | exact b34 (by assumption) | exact b37 (by assumption) (by assumption) | exact tri3 (by assumption) (by assumption) | exact lt6 (by assumption) (by assumption) (by assumption) | exact x63 (by assumption) (by assumption) | exact xlen (by assumption) (by assumption) | exact lt10 _ (by assumption) (by assumption) (by assumption) (by decide) | exact lt11 _ (by assumption) (by assumption) (by assumption) (by decide) | exact roomK _ _ (by assumption) (by decide) | exact roomK2 _ _ _ (by assumption) (by decide) | exact big2 (by assumption) (by assumption) (by assumption) | exact kpl (by assumption) (by assumption) | exact kpi (by assumption) (by assumption) | exact ge2 (by assumption) | exact lt2 _ (by assumption) | exact hp62 (by assumption) | exact hpl (by assumption) (by assumption) (by assumption) | exact hpk (by assumption) (by assumption) (by assumption) | exact pdl (by assumption) (by assumption) | exact us1 (by assumption) (by assumption) (by assumption) (by assumption) | exact ac9 (by assumption) (by assumption) (by assumption) | fail)
section
variable {w : World} {p : Program} {loose : List Str} {mean : ExcName → Option Value} {mg mb : Str → Option Value}
theorem ct_sown (a : LexA) (line : Int) (cs : List Nat) (l : Led) (ws : List (List Nat)) (vs : List Value) (hvs : StrsAre vs (ws.map mkS)) (h6 : ws.length = 6) (hws : ∀ x ∈ ws, x.length ≤ 10) (R : LexR w a line vs.toArray cs l) (n : Nat) (hn : n ≤ 30) (t : Tok) :
    Ct w p loose mean mg mb 20 200 196 [.ref a.x, .int (n : Int) t] l (SownP w a line cs (sowS ws n)) := by
  have R0 := R
  have ofl := R.ord
  obtain ⟨pm, ctv, pn, sv, sn, ta, ts, u, oc, olc, vl, tq, qv, qn, rfl, hs, ho, da, db, -⟩ := R
  intro A h₀ s Q E hA hd hu X T stt O ret
  k_dflt (refine' ct_defC (binds := [(Str.ofString "lexer", .ref a.x), (Str.ofString "turns", .int (n : Int) t)]) (sub := _) X T stt O ?k6 ?k7 ?k8 ?k9 ?kB ?kD ret ?_ ?c2 ?c3 ?c4)
  (case k6 => k_is); (case k7 => k_is); (case k8 => omega); (case k9 => exact BindsTo.of_eq rfl); (case kB => exact rfl); (case kD => decide +kernel); (case c2 => exact rfl); (case c3 => exact rfl); (case c4 => exact rfl)
  clear ret O stt T X; intro g L h₁ tk cells X T F N Y hlt; k_cells Y; (try simp only [List.cons_append, List.nil_append] at N); (try dsimp only); (try k_fold)
  k_steps
  have aL : @LT.lt Nat _ a.pb L := hlt _ (.tail _ (.tail _ (.head _)))
  have aL1 : @LT.lt Nat _ a.pb (L + 1) := Nat.lt_succ_of_lt aL
  have aL2 : @LT.lt Nat _ a.pb (L + 1 + 1) := Nat.lt_succ_of_lt aL1
  have aL3 : @LT.lt Nat _ a.pb (L + 1 + 1 + 1) := Nat.lt_succ_of_lt aL2
  have aL4 : @LT.lt Nat _ a.pb (L + 1 + 1 + 1 + 1) := Nat.lt_succ_of_lt aL3
  with_reducible rename Fr _ _ _ _ => F7
  with_reducible rename News _ _ _ _ => N7
  k_dflt (refine for_range (n := n) (SowJ w a line cs L ws) hA rfl (by k_asm) (PySem.small_one (by omega) (by omega) (by omega) (by omega)) (by rw [rangeSize_nat]; omega) F7 N7 ?hj ?turn ?done)
  case hj => exact ⟨_, vs, _, _, _, _, _, _, _, _, [], _, _, rfl, rfl, rfl, by assumption, by assumption, by assumption, by assumption, R0, hvs, .nil, by omega⟩
  case turn =>
    rintro i t' m₁ nx h tk I oI hi ⟨l, us, o1, o2, o3, o4, v1, v2, v3, H, hv, k, th, hm1, hm2, rfl, hd1, hd2, hd3, hd4, R2, hus, hhv, hH⟩ hI F1 N1
    rw [loc_up (m := m₁) (b := m₁) [(Str.ofString "home", some (.str (mkS (sowS ws i).2.1) th)), (Str.ofString "holes", some (.ref H))] (fun _ _ => rfl) (List.forall_mem_cons.mpr ⟨hm1, List.forall_mem_cons.mpr ⟨hm2, List.forall_mem_nil _⟩⟩)] at F1
    dsimp only [up] at F1
    obtain ⟨s1, s2, s3, s4⟩ := sowS_inv ws h6 hws i
    generalize hst : sowS ws i = st at *
    have R2' := R2
    have hIa : I ∉ a.adrs := by rw [← R2.adr]; exact off_ne fun p hp => hI p (.tail _ (.tail _ (.tail _ (.tail _ (.tail _ hp)))))
    have hI1 : @Ne Nat H I := hI _ (.head _)
    have hI2 : @Ne Nat (L + 1 + 1 + 1 + 1) I := hI _ (.tail _ (.head _))
    have hI3 : @Ne Nat (L + 1 + 1 + 1) I := hI _ (.tail _ (.tail _ (.head _)))
    have hI4 : @Ne Nat (L + 1 + 1) I := hI _ (.tail _ (.tail _ (.tail _ (.head _))))
    have hI5 : @Ne Nat (L + 1) I := hI _ (.tail _ (.tail _ (.tail _ (.tail _ (.head _)))))
    have hH2 : @Ne Nat (L + 1 + 1) H := Nat.ne_of_lt (Nat.lt_trans (Nat.lt_succ_of_lt (Nat.lt_succ_self _)) hH)
    have hH3 : @Ne Nat (L + 1 + 1 + 1) H := Nat.ne_of_lt (Nat.lt_trans (Nat.lt_succ_self _) hH)
    clear F7 N7
    k_steps
    refine unstop ?_
    k_dflt (refine' LCg.ListComp_U ?hF ?hc1 ?hc2 ?hc3 ?hc4 ?hc5 ?_; (case hF => k_asm); (case hc1 => rfl); (case hc2 => decide); (case hc3 => rfl); (case hc4 => decide); (case hc5 => rfl))
    k_steps
    with_reducible rename Fr _ _ _ _ => F7
    with_reducible rename News _ _ _ _ => N7
    have hul := hus.length
    rw [List.length_map] at hul
    have hIr : I ∉ a.adrs := hIa
    have oL1 : (L + 1 : Nat) ∉ a.adrs := off_gt ofl aL1
    have oL2 : (L + 1 + 1 : Nat) ∉ a.adrs := off_gt ofl aL2
    have oL3 : (L + 1 + 1 + 1 : Nat) ∉ a.adrs := off_gt ofl aL3
    have oL4 : (L + 1 + 1 + 1 + 1 : Nat) ∉ a.adrs := off_gt ofl aL4
    have oH : H ∉ a.adrs := off_gt ofl (Nat.lt_trans aL4 hH)
    refine LCg.CompSrc.range (n := 6) hA F7 N7 (by assumption) (by rfl) (by rfl) (by rw [PySem.sizeLine_eq]; omega) fun g1 => ?_
    clear F7 N7
    refine comp_inv (fun j ys nx => ∃ l us', nx = (I, oI) :: (H, W.listOf (List.toArray hv) k) :: (L + 1 + 1 + 1 + 1, o1) :: (L + 1 + 1 + 1, o2) :: (L + 1 + 1, o3) :: (L + 1, o4) :: l ∧ LexR w a line (List.toArray us') cs l ∧ us = ys ++ us' ∧ ys.length = j) 6 ?step ?fin 6 0 [] _ (by omega) ⟨l, us, rfl, R2, rfl, rfl⟩
    case step =>
      rintro j ys nx v I1 oI1 C oC1 D m2 h1 tk1 E' hj ⟨l, us', rfl, R3, hus', hyl⟩ ⟨t9, rfl⟩ hC hx F N off ne
      have hoff := off.mem
      have hA1 : I1 ∉ a.adrs := by rw [← R3.adr]; exact off_ne fun p hp => (hoff p (.tail _ (.tail _ (.tail _ (.tail _ (.tail _ (.tail _ hp))))))).1
      have hA2 : C ∉ a.adrs := by rw [← R3.adr]; exact off_ne fun p hp => (hoff p (.tail _ (.tail _ (.tail _ (.tail _ (.tail _ (.tail _ hp))))))).2.1
      have hA3 : D ∉ a.adrs := by rw [← R3.adr]; exact off_ne fun p hp => (hoff p (.tail _ (.tail _ (.tail _ (.tail _ (.tail _ (.tail _ hp))))))).2.2
      have hlen : us'.length = 6 - j := by
        have := congrArg List.length hus'
        rw [List.length_append] at this
        exact len6 this hul s1 hyl
      obtain ⟨v0, us2, rfl⟩ : ∃ v0 us2, us' = v0 :: us2 := by
        cases us' with
        | nil => simp at hlen; omega
        | cons x r => exact ⟨x, r, rfl⟩
      have R3' := R3
      obtain ⟨pm3, ctv3, pn3, sv3, sn3, ta3, ts3, u3, oc3, olc3, vl3, tq3, qv3, qn3, rfl, hs3, ho3, da3, db3, -⟩ := R3
      k_steps
      with_reducible rename Fr _ _ _ _ => F5
      with_reducible rename News _ _ _ _ => N5
      dsimp only [List.cons_append, List.nil_append]
      refine Ct.use (ct_pop a line v0 us2 (by have := hlen; simp only [List.length_cons] at this; omega) _ _ R3') (rest := [(I1, oI1), (C, oC1), (D, LCg.lst ys), (I, oI), (H, W.listOf (List.toArray hv) k), (L + 1 + 1 + 1 + 1, o1), (L + 1 + 1 + 1, o2), (L + 1 + 1, o3), (L + 1, o4)]) F5 X N5 T hA (dOk hd) (uOk hu) (fun q hq => List.mem_append_right [(I1, oI1), (C, oC1), (D, LCg.lst ys), (I, oI), (H, W.listOf (List.toArray hv) k), (L + 1 + 1 + 1 + 1, o1), (L + 1 + 1 + 1, o2), (L + 1 + 1, o3), (L + 1, o4)] hq) (fun q hq => ⟨List.mem_append_left _ hq, ?_⟩) fun rr sub' h6 tk6 F6 N6 ne6 P6 => ?_
      · rw [R3'.adr]
        simp only [List.mem_cons, List.not_mem_nil, or_false] at hq
        rcases hq with rfl | rfl | rfl | rfl | rfl | rfl | rfl | rfl | rfl <;> assumption
      · obtain ⟨rfl, R5⟩ := P6
        refine LCg.CompEnd.intro F6 N6 ((I, oI) :: (H, W.listOf (List.toArray hv) k) :: (L + 1 + 1 + 1 + 1, o1) :: (L + 1 + 1 + 1, o2) :: (L + 1 + 1, o3) :: (L + 1, o4) :: sub') (fun p hp => hp) (LCg.Off3.of fun p hp => ?_) trivial ⟨sub', us2, rfl, R5, by rw [hus', List.append_assoc]; rfl, by rw [List.length_append, hyl]; rfl⟩
        have hp2 : p ∈ [(I, oI), (H, W.listOf (List.toArray hv) k), (L + 1 + 1 + 1 + 1, o1), (L + 1 + 1 + 1, o2), (L + 1 + 1, o3), (L + 1, o4)] ++ sub' := hp
        rcases List.mem_append.mp hp2 with hp | hp
        · exact hoff p (List.mem_append_left _ hp)
        · have hm : p.1 ∈ a.adrs := by rw [← R5.adr]; exact List.mem_map_of_mem hp
          exact ⟨fun e => hA1 (e ▸ hm), fun e => hA2 (e ▸ hm), fun e => hA3 (e ▸ hm)⟩
    case fin =>
      rintro ys nx ⟨l, us', rfl, R3, hus', hyl⟩
      have hnil : us' = [] := by
        have := congrArg List.length hus'
        rw [List.length_append] at this
        exact List.eq_nil_of_length_eq_zero (by omega)
      subst hnil
      rw [List.append_nil] at hus'
      subst hus'
      have R3' := R3
      obtain ⟨pm3, ctv3, pn3, sv3, sn3, ta3, ts3, u3, oc3, olc3, vl3, tq3, qv3, qn3, rfl, hs3, ho3, da3, db3, -⟩ := R3
      obtain ⟨w1, w2, w3, w4, w5, w6, w7, w8, w9, w10⟩ := id ofl
      k_steps
      k_dflt (refine LCt.Assign_ListComp_T (F₀ := by k_asm) (by rfl) (by with_unfolding_all rfl) (by with_unfolding_all rfl) (by decide) (by rfl) (by decide) (by rfl) (by rfl) (by rfl) ?_)
      k_steps
      with_reducible rename Fr _ _ _ _ => F7
      with_reducible rename News _ _ _ _ => N7
      rename_i Dr hX1 tkX F8 N8 oX1 hX2 oR F9 N9 dR hX3 tkX2 tA tB tC aR aK
      clear F9 N9 F8 N8
      have oDr : Dr ∉ a.adrs := by
        obtain ⟨-, -, -, -, -, -, y1, y2, y3, y4, y5, y6, y7, y8, y9, y10⟩ := id oX1
        intro hm
        simp only [LexA.adrs, List.mem_cons, List.not_mem_nil, or_false] at hm
        rcases hm with e | e | e | e | e | e | e | e | e | e
        · exact y1 e.symm
        · exact y2 e.symm
        · exact y3 e.symm
        · exact y4 e.symm
        · exact y5 e.symm
        · exact y6 e.symm
        · exact y7 e.symm
        · exact y8 e.symm
        · exact y9 e.symm
        · exact y10 e.symm
      replace oX1 := Hid.mk oX1
      refine LCt.CompSrcT.range (n := 6) hA F7 N7 aR (by rfl) (by rfl) (by rw [PySem.sizeLine_eq]; omega) fun g2 => ?_
      clear F7 N7
      refine comp_invT (fun j ys nx => nx = (Dr, LCg.lst us) :: (I, oI) :: (H, W.listOf (List.toArray hv) k) :: (L + 1 + 1 + 1 + 1, o1) :: (L + 1 + 1 + 1, o2) :: (L + 1 + 1, oR) :: (L + 1, o4) :: lexL w pm3 ctv3 a line #[] pn3 sv3 sn3 ta3 ts3 u3 oc3 olc3 qv3 qn3 ∧ IntsAre ys (((List.range j).filter fun k => (st.1.getD k []).length == k + 1).map fun (k : Nat) => (k : Int))) 6 ?step2 ?fin2 6 0 [] _ (by omega) ⟨rfl, .nil⟩
      case step2 =>
        rintro j ys nx v I1 oI1 C oC1 D m2 h1 tk1 E' hj ⟨rfl, hys⟩ ⟨t9, rfl⟩ hC hx F N off ne
        have hrow := getD_len s2 j
        k_steps
        rw [getD_mk, show (0 + (j : Int)).toNat = j by omega]
        refine len_l (by omega) fun t5 tk5 => ?_
        k_steps
        with_reducible rename Fr _ _ _ _ => F5
        with_reducible rename News _ _ _ _ => N5
        refine Ct.use0 (ct_eq _ _ _ _) F5 X N5 T hA (dOk hd) (uOk hu) fun v' sub' h' tk' F' N' P' => ?_
        subst P'
        clear F5 N5
        by_cases hb : ((st.1.getD j []).length : Int) = 0 + (j : Int) + 1
        · rw [decide_eq_true hb]
          k_steps
          refine unstop ?_
          with_reducible rename Fr _ _ _ _ => F5
          with_reducible rename News _ _ _ _ => N5
          refine LCg.CompEnd.intro F5 N5 ((Dr, LCg.lst us) :: (I, oI) :: (H, W.listOf (List.toArray hv) k) :: (L + 1 + 1 + 1 + 1, o1) :: (L + 1 + 1 + 1, o2) :: (L + 1 + 1, oR) :: (L + 1, o4) :: lexL w pm3 ctv3 a line #[] pn3 sv3 sn3 ta3 ts3 u3 oc3 olc3 qv3 qn3) (fun p hp => hp) off trivial ⟨rfl, ?_⟩
          rw [List.range_succ, List.filter_append, List.map_append]
          rw [show ([j].filter fun k => (st.1.getD k []).length == k + 1) = [j] from filt1 (by omega)]
          rw [show (0 + (j : Int)) = (j : Int) by omega]
          exact hys.append (.cons _ _ .nil)
        · rw [decide_eq_false hb]
          k_steps
          refine unstop ?_
          with_reducible rename Fr _ _ _ _ => F5
          with_reducible rename News _ _ _ _ => N5
          refine LCg.CompEnd.intro F5 N5 ((Dr, LCg.lst us) :: (I, oI) :: (H, W.listOf (List.toArray hv) k) :: (L + 1 + 1 + 1 + 1, o1) :: (L + 1 + 1 + 1, o2) :: (L + 1 + 1, oR) :: (L + 1, o4) :: lexL w pm3 ctv3 a line #[] pn3 sv3 sn3 ta3 ts3 u3 oc3 olc3 qv3 qn3) (fun p hp => hp) off trivial ⟨rfl, ?_⟩
          rw [List.range_succ, List.filter_append, List.map_append]
          rw [show ([j].filter fun k => (st.1.getD k []).length == k + 1) = [] from filt0 (by omega), List.map_nil, List.append_nil]
          exact hys
      case fin2 =>
        rintro ys nx ⟨rfl, hys⟩
        unfold LCg.FinA
        intro Dy hy tky Fy Ny oy
        replace oy := Hid.mk oy
        k_steps
        refine unstop ?_
        have hfr : ((List.range 6).filter fun k => (st.1.getD k []).length == k + 1) = rdy st.1 := rfl
        rw [hfr] at hys
        refine wpAny_mono (Q := SowMid w g L I oI H a line cs (sowS ws (i + 1)) s) ?_ (fun fl s' M => ?_) (fun _ _ e => e)
        · have mk2 : Mark2 := trivial
          rw [sowS, hst]
          have hoff5 : ∀ oa ob oc od oe, ∀ p ∈ (H, oa) :: (L + 1 + 1 + 1 + 1, ob) :: (L + 1 + 1 + 1, oc) :: (L + 1 + 1, od) :: (L + 1, oe) :: lexL w pm3 ctv3 a line #[] pn3 sv3 sn3 ta3 ts3 u3 oc3 olc3 qv3 qn3, @Ne Nat p.1 I := by
            intro oa ob oc od oe p hp
            simp only [List.mem_cons, List.not_mem_nil, or_false] at hp
            rcases hp with rfl | rfl | rfl | rfl | rfl | hp
            · exact hI1
            · exact hI2
            · exact hI3
            · exact hI4
            · exact hI5
            · refine ne_off (l := lexL w pm3 ctv3 a line #[] pn3 sv3 sn3 ta3 ts3 u3 oc3 olc3 qv3 qn3) (by rw [R3'.adr]; exact hIa) p ?_
              simp only [List.mem_cons, List.not_mem_nil, or_false]
              exact hp
          cases hrd : rdy st.1 with
          | nil =>
            rw [hrd] at hys
            cases hys
            k_steps
            with_reducible rename Fr _ _ _ _ => F5
            with_reducible rename News _ _ _ _ => N5
            exact ⟨rfl, _, _, _, Dr, us, _, hv, k, o1, o2, oR, o4, v1, v2, th, _, rfl, F5, (fun p hp => N5 p (.tail _ (.tail _ hp))), rfl, rfl, hd1, hd2, dR, hd4, hus, hhv, R3', oDr, hoff5 _ _ _ _ _⟩
          | cons h0 r0 =>
            obtain ⟨rl1, rl2⟩ := rdy_lt hrd
            have hgl := getD_len s2 h0
            rw [hrd] at hys
            replace hys : IntsAre ys ((h0 : Int) :: r0.map fun (k : Nat) => (k : Int)) := hys
            cases hys with | @cons _ th0 ys' _ hys' =>
            obtain ⟨tu, hu0⟩ := strs_has hus (j := h0) (by omega)
            k_steps
            all_goals first | (exfalso; rename (decide _ = true) => hx; revert hx; simp; done) | skip
            rw [show ((h0 : Int) :: List.map (fun (k : Nat) => (k : Int)) r0).getD (Int.toNat 0) 0 = (h0 : Int) from rfl]
            with_reducible rename Fr _ _ _ _ => F5
            with_reducible rename News _ _ _ _ => N5
            rename (@LT.lt Nat _ Dy _ ∧ _) => l1
            clear l1
            have N6 := News.tl (News.tl N5)
            clear N5
            obtain ⟨-, z2, z3, z4, z5, -⟩ := Hid.out oX1
            k_steps
            rw [getD_mk, show ((h0 : Nat) : Int).toNat = h0 from Int.toNat_natCast h0] at *
            refine item_str (by unfold fitsSsize; simp; omega) (by omega) (by rw [mk_len]; omega) fun _ => ?_
            rw [show Txt.item (mkS (st.1.getD h0 [])) (h0 : Int) = mkS [(st.1.getD h0 []).getD h0 0] by have := item_mk (st.1.getD h0 []) h0 (by omega); rwa [Int.zero_add] at this]
            k_steps
            with_reducible rename Fr _ _ _ _ => F5
            with_reducible rename News _ _ _ _ => N5
            refine Ct.use0 (ct_concat (mkS st.2.1) (mkS [(st.1.getD h0 []).getD h0 0]) _ _ (by rw [mk_len, mk_len]; simp only [List.length_singleton]; omega)) F5 X N5 T hA (dOk hd) (uOk hu) fun v' sub' h' tk' F' N' P' => ?_
            obtain ⟨tc, rfl⟩ := P'
            rw [mk_app]
            clear F5 N5
            have hhl := hhv.length
            k_steps
            rename_i oHole dHole tkA tHeap hB2 oHeap dHeap tkB2 xB hC2 tkC2 hD3 F7 N7
            refine unstop ?_
            k_dflt (refine' LCg.ListComp_U ?hF ?hc1 ?hc2 ?hc3 ?hc4 ?hc5 ?_; (case hF => k_asm); (case hc1 => rfl); (case hc2 => decide); (case hc3 => rfl); (case hc4 => decide); (case hc5 => rfl))
            k_steps
            with_reducible rename Fr _ _ _ _ => F7
            with_reducible rename News _ _ _ _ => N7
            (try rw [List.push_toArray] at N7)
            refine LCg.CompSrc.range (n := h0) hA F7 N7 (by assumption) (PySem.small_one (by omega) (by omega) (by omega) (by omega)) (by rw [rangeSize_nat]; omega) (by rw [PySem.sizeLine_eq]; omega) fun g3 => ?_
            clear F7 N7
            refine comp_inv (fun j ys nx => nx = (Dr, LCg.lst us) :: (I, oI) :: (H, W.listOf (List.toArray (hv ++ [Value.int ((h0 : Int) + 1) (tkC2 + 1)])) (k + 1)) :: (L + 1 + 1 + 1 + 1, oHeap) :: (L + 1 + 1 + 1, oHole) :: (L + 1 + 1, oR) :: (L + 1, o4) :: lexL w pm3 ctv3 a line #[] pn3 sv3 sn3 ta3 ts3 u3 oc3 olc3 qv3 qn3 ∧ StrsAre ys (((List.range j).map fun k => st.1.getD k [] ++ [(st.1.getD h0 []).getD (h0 - 1 - k) 0]).map mkS)) h0 ?step3 ?fin3 h0 0 [] _ (by omega) ⟨rfl, .nil⟩
            case step3 =>
              rintro j ys nx v I1 oI1 C oC1 D m2 h1 tk1 E' hj ⟨rfl, hys⟩ ⟨t9, rfl⟩ hC hx F N off ne
              have hgj := getD_len s2 j
              k_steps
              rw [show ((h0 : Int) - 1 - (0 + (j : Int))) = 0 + ((h0 - 1 - j : Nat) : Int) by omega]
              refine item_str (by unfold fitsSsize; simp; omega) (by omega) (by rw [mk_len]; omega) fun _ => ?_
              rw [item_mk _ _ (by omega), getD_mk, show (0 + (j : Int)).toNat = j by omega]
              k_steps
              with_reducible rename Fr _ _ _ _ => F5
              with_reducible rename News _ _ _ _ => N5
              refine Ct.use0 (ct_concat (mkS (st.1.getD j [])) (mkS [(st.1.getD h0 []).getD (h0 - 1 - j) 0]) _ _ (by rw [mk_len, mk_len]; simp only [List.length_singleton]; omega)) F5 X N5 T hA (dOk hd) (uOk hu) fun v' sub' h' tk' F' N' P' => ?_
              obtain ⟨tc2, rfl⟩ := P'
              rw [mk_app]
              clear F5 N5
              k_steps
              refine unstop ?_
              with_reducible rename Fr _ _ _ _ => F5
              with_reducible rename News _ _ _ _ => N5
              refine LCg.CompEnd.intro F5 N5 _ (fun p hp => hp) off trivial ⟨rfl, ?_⟩
              rw [List.range_succ, List.map_append]
              exact strsAre_snoc hys _ _
            case fin3 =>
              rintro ys nx ⟨rfl, hys⟩
              have hyl := hys.length
              rw [List.length_map, List.length_map, List.length_range] at hyl
              k_steps
              refine unstop ?_
              rename_i DY hY1 tkY oY lY hY2 l1Y F5 N5
              k_dflt (refine' kmk_add_lit ?qF ?qN ?qa ?qb ?qe ?_ ?qz; (case qF => k_asm); (case qN => k_asm); (case qa => kmk_list); (case qb => kmk_list); (case qe => rfl); (case qz => (rw [PySem.sizeLine_eq]; simp only [List.length_cons, List.length_nil]; omega)))
              intro DA hA1 FA NA lA
              clear F5 N5 oY l1Y
              k_steps
              refine unstop ?_
              k_dflt (refine' kmk_slice_lit (its := us.toArray) (zs := us.drop (h0 + 1)) ?sF ?sN ?sl ?sp ?sq ?se ?_ ?ss ?st ?sz; (case sF => k_asm); (case sN => k_asm); (case sl => kmk_list); (case sp => kmk_part); (case sq => kmk_part); (case ss => with_unfolding_all rfl); (case st => kmk_pure); (case sz => (rw [PySem.sizeLine_eq, List.size_toArray]; omega)); (case se => exact pick_from us (h0 + 1)))
              intro DS hS FS NS lS
              clear FA NA lA
              k_steps
              refine unstop ?_
              k_dflt (refine' kmk_add_lit ?wF ?wN ?wa ?wb ?we ?_ ?wz; (case wF => k_asm); (case wN => k_asm); (case wa => kmk_list); (case wb => kmk_list); (case we => rfl); (case wz => (rw [PySem.sizeLine_eq]; simp only [List.length_cons, List.length_nil, List.length_append, List.length_drop]; omega)))
              intro D2 hD2 F2 N2 l2
              clear FS NS lS
              have q2 : @LT.lt Nat _ (L + 1 + 1) D2 := l2 (L + 1 + 1, oR) (by simp)
              have q1 : @LT.lt Nat _ a.pb D2 := Nat.lt_trans aL2 q2
              clear l2
              have N3 : News g L _ (_ :: _) := fun p hp => N2 p (by
                rcases List.mem_cons.mp hp with h | hp
                · exact h ▸ .head _
                · exact .tail _ (.tail _ (.tail _ (.tail _ (.tail _ (.tail _ hp))))))
              clear N2
              k_steps
              rename_i hZ oRow F9 N9 dRow
              refine ⟨rfl, _, _, _, D2, _, _, _, _, oHeap, oHole, oRow, o4, _, _, tc, _, rfl, F9, N9, rfl, rfl, dHeap, dHole, dRow, hd4, ?_, hhv.append (.cons _ _ .nil), R3', off_gt ofl q1, hoff5 _ _ _ _ _⟩
              rw [sow1, List.map_append, List.map_append]
              refine strsAre_append (strsAre_append hys (.cons _ _ .nil)) ?_
              rw [← map_drop_mk]
              exact strs_drop (h0 + 1) hus
        · obtain ⟨rfl, h8, tk8, m8, D8, vs8, kk8, hv8, k8, p1, p2, p3, p4, u1, u2, th8, l8, rfl, F8, N8, hm81, hm82, hd81, hd82, hd83, hd84, hvs8, hhv8, R8, oD8, hoff8⟩ := M
          rw [loc_up (m := m8) (b := m8) [(Str.ofString "home", some (.str (mkS (sowS ws (i + 1)).2.1) th8)), (Str.ofString "holes", some (.ref H))] (fun _ _ => rfl) (List.forall_mem_cons.mpr ⟨hm81, List.forall_mem_cons.mpr ⟨hm82, List.forall_mem_nil _⟩⟩)] at F8
          dsimp only [up] at F8
          clear Fy Ny
          k_steps
          rename IntsAre hv8 _ => hhv8
          have hl8 := hvs8.length
          rw [List.length_map] at hl8
          obtain ⟨x1, x2, x3, x4⟩ := sowS_inv ws h6 hws (i + 1)
          with_reducible rename Fr _ _ _ _ => F9
          with_reducible rename News _ _ _ _ => N9
          have hD1 : D8 ∉ a.adrs := oD8
          k_dflt (refine for_list (fun j m nx => ∃ l, m (Str.ofString "home") = some (.str (mkS (sowS ws (i + 1)).2.1) th8) ∧ m (Str.ofString "holes") = some (.ref H) ∧ nx = (D8, W.listOf (List.toArray vs8) kk8) :: (I, oI) :: (H, W.listOf (List.toArray hv8) k8) :: (L + 1 + 1 + 1 + 1, p1) :: (L + 1 + 1 + 1, p2) :: (L + 1 + 1, p3) :: (L + 1, p4) :: l ∧ LexR w a line (List.toArray (vs8.take j)) cs l) hA rfl (by is_list) F9 N9 (.head _) ?hj3 ?turn3 ?done3)
          case hj3 => exact ⟨l8, rfl, rfl, rfl, by rw [List.take_zero]; exact R8⟩
          case turn3 =>
            rintro j v m₂ nx h tk I3 oI3 hvj ⟨l, hn1, hn2, rfl, R4⟩ hI3' hkeep F1 N1
            rw [loc_up (m := m₂) (b := m₂) [(Str.ofString "home", some (.str (mkS (sowS ws (i + 1)).2.1) th8)), (Str.ofString "holes", some (.ref H))] (fun _ _ => rfl) (List.forall_mem_cons.mpr ⟨hn1, List.forall_mem_cons.mpr ⟨hn2, List.forall_mem_nil _⟩⟩)] at F1
            dsimp only [up] at F1
            clear F9 N9
            have hI3a : I3 ∉ a.adrs := by rw [← R4.adr]; exact off_ne fun p hp => hI3' p (.tail _ (.tail _ (.tail _ (.tail _ (.tail _ (.tail _ (.tail _ hp)))))))
            have R4' := R4
            obtain ⟨pm4, ctv4, pn4, sv4, sn4, ta4, ts4, u4, oc4, olc4, vl4, tq4, qv4, qn4, rfl, hs4, ho4, da4, db4, -⟩ := R4
            k_steps
            with_reducible rename Fr _ _ _ _ => F5
            with_reducible rename News _ _ _ _ => N5
            (try dsimp only [List.cons_append, List.nil_append])
            refine Ct.use (ct_pushR a line _ (by rw [List.size_toArray, List.length_take]; omega) v _ _ R4') (rest := [(I3, oI3), (D8, W.listOf (List.toArray vs8) kk8), (I, oI), (H, W.listOf (List.toArray hv8) k8), (L + 1 + 1 + 1 + 1, p1), (L + 1 + 1 + 1, p2), (L + 1 + 1, p3), (L + 1, p4)]) F5 X N5 T hA (dOk hd) (uOk hu) (fun q hq => List.mem_append_right [(I3, oI3), (D8, W.listOf (List.toArray vs8) kk8), (I, oI), (H, W.listOf (List.toArray hv8) k8), (L + 1 + 1 + 1 + 1, p1), (L + 1 + 1 + 1, p2), (L + 1 + 1, p3), (L + 1, p4)] hq) (fun q hq => ⟨List.mem_append_left _ hq, ?_⟩) fun rr sub' h6 tk6 F6 N6 ne6 P6 => ?_
            · rw [R4'.adr]
              simp only [List.mem_cons, List.not_mem_nil, or_false] at hq
              rcases hq with rfl | rfl | rfl | rfl | rfl | rfl | rfl | rfl <;> assumption
            · obtain ⟨rfl, R5⟩ := P6
              clear F5 N5
              k_steps
              refine turn_next (nx := (D8, W.listOf (List.toArray vs8) kk8) :: (I, oI) :: (H, W.listOf (List.toArray hv8) k8) :: (L + 1 + 1 + 1 + 1, p1) :: (L + 1 + 1 + 1, p2) :: (L + 1 + 1, p3) :: (L + 1, p4) :: sub') F6 N6 (by rfl) (fun q hq => hq) ?_ (fun q hq => by rw [List.mem_singleton.mp hq]; exact .head _) ⟨sub', rfl, rfl, rfl, ?_⟩
              · intro q hq
                simp only [List.mem_cons] at hq
                rcases hq with rfl | rfl | rfl | rfl | rfl | rfl | rfl | hq
                · exact hI3' _ (.head _)
                · exact hI3' _ (.tail _ (.head _))
                · exact hI3' _ (.tail _ (.tail _ (.head _)))
                · exact hI3' _ (.tail _ (.tail _ (.tail _ (.head _))))
                · exact hI3' _ (.tail _ (.tail _ (.tail _ (.tail _ (.head _)))))
                · exact hI3' _ (.tail _ (.tail _ (.tail _ (.tail _ (.tail _ (.head _))))))
                · exact hI3' _ (.tail _ (.tail _ (.tail _ (.tail _ (.tail _ (.tail _ (.head _)))))))
                · exact ne_off (by rw [R5.adr]; exact hI3a) q hq
              · rw [List.push_toArray] at R5
                rw [List.take_add_one, hvj]
                exact R5
          case done3 =>
            rintro m₂ nx h tk ⟨l, hn1, hn2, rfl, R4⟩ hkeep F1 N1
            rw [loc_up (m := m₂) (b := m₂) [(Str.ofString "home", some (.str (mkS (sowS ws (i + 1)).2.1) th8)), (Str.ofString "holes", some (.ref H))] (fun _ _ => rfl) (List.forall_mem_cons.mpr ⟨hn1, List.forall_mem_cons.mpr ⟨hn2, List.forall_mem_nil _⟩⟩)] at F1
            dsimp only [up] at F1
            clear F9 N9
            rw [List.take_length] at R4
            k_steps
            with_reducible rename Fr _ _ _ _ => F5
            with_reducible rename News _ _ _ _ => N5
            refine turn_next (nx := (H, W.listOf (List.toArray hv8) k8) :: (L + 1 + 1 + 1 + 1, p1) :: (L + 1 + 1 + 1, p2) :: (L + 1 + 1, p3) :: (L + 1, p4) :: l) F5 N5 (by rfl) (fun q hq => .tail _ hq) ?_ (fun _ h => nomatch h) ⟨l, vs8, p1, p2, p3, p4, u1, u2, _, H, hv8, k8, th8, rfl, rfl, rfl, hd81, hd82, hd83, hd84, R4, hvs8, hhv8, hH⟩
            intro q hq
            simp only [List.mem_cons] at hq
            rcases hq with rfl | rfl | rfl | rfl | rfl | hq
            · exact hoff8 _ (.head _)
            · exact hoff8 _ (.tail _ (.head _))
            · exact hoff8 _ (.tail _ (.tail _ (.head _)))
            · exact hoff8 _ (.tail _ (.tail _ (.tail _ (.head _))))
            · exact hoff8 _ (.tail _ (.tail _ (.tail _ (.tail _ (.head _)))))
            · exact ne_off (by rw [R4.adr]; exact hIa) q hq
  case done =>
    rintro m₁ nx h tk ⟨l, us, o1, o2, o3, o4, v1, v2, v3, H, hv, k, th, hm1, hm2, rfl, hd1, hd2, hd3, hd4, R2, hus, hhv, hH⟩ F1 N1
    rw [loc_up (m := m₁) (b := m₁) [(Str.ofString "home", some (.str (mkS (sowS ws n).2.1) th)), (Str.ofString "holes", some (.ref H))] (fun _ _ => rfl) (List.forall_mem_cons.mpr ⟨hm1, List.forall_mem_cons.mpr ⟨hm2, List.forall_mem_nil _⟩⟩)] at F1
    dsimp only [up] at F1
    clear F7 N7
    k_steps
    with_reducible rename Fr _ _ _ _ => F5
    with_reducible rename News _ _ _ _ => N5
    refine lv_ret F5 (news := (_, _) :: (H, W.listOf (List.toArray hv) k) :: l) (fun q hq => N5 q ?_) (by rfl) ⟨_, th, H, hv, k, us, l, rfl, rfl, hhv, hus, R2, off_gt ofl (by omega)⟩
    rcases List.mem_cons.mp hq with rfl | hq
    · exact .head _
    · rcases List.mem_cons.mp hq with rfl | hq
      · exact .tail _ (.head _)
      · exact .tail _ (.tail _ (.tail _ (.tail _ (.tail _ (.tail _ hq)))))
end
end Mine
end
noncomputable section
open PySem PySem.W PySem.Calls PyProof.Rows PyProof.V PySem.Spec
set_option maxRecDepth 100000
set_option maxHeartbeats 2000000
namespace Mine
local macro_rules | `(tactic| ktr_rel) => `(tactic| (refine lv_ret (by k_asm) (by k_asm) (by rfl) ?_))
/-- signs that the model takes for strs -/
noncomputable def okL (ls : List (List Nat)) : Prop := ∀ x ∈ ls, ∀ c ∈ x, c < 0x110000
theorem es_canLay : ∀ {ls : List (List Nat)}, okL ls → PyData.canLayAll0 ((ls.map mkS).map PyData.str) = true
  | [], _ => rfl
  | x :: ls, h => by
    have h1 : PyData.strOk (mkS x) = true := by
      unfold PyData.strOk
      show (List.toArray x).all (· < 0x110000) = true
      rw [List.all_toArray, List.all_eq_true]
      intro c hc
      exact decide_eq_true (h x (.head _) c hc)
    simp only [List.map_cons, PyData.canLayAll0, PyData.canLay0, h1, Bool.true_and]
    exact es_canLay fun y hy => h y (.tail _ hy)
theorem es_shaped {ls : List (List Nat)} (h : okL ls) : SeqAt.shaped (.list ((ls.map mkS).map PyData.str)) = true := by
  simp only [SeqAt.shaped, PyData.canLay0, PyData.depth, es_canLay h, depthAll_strs', Bool.true_and]
  decide
theorem es_sameAll : ∀ xs ys : List (List Nat), PySem.Spec.sameAll ((xs.map mkS).map PyData.str) ((ys.map mkS).map PyData.str) = decide (xs = ys)
  | [], [] => by simp [PySem.Spec.sameAll]
  | [], _ :: _ => by simp [PySem.Spec.sameAll]
  | _ :: _, [] => by simp [PySem.Spec.sameAll]
  | a :: r, b :: t => by
    simp only [List.map_cons, PySem.Spec.sameAll, PySem.Spec.same, es_sameAll r t]
    have e : (mkS a = mkS b) = (a = b) := propext ⟨mk_inj, fun h => by rw [h]⟩
    by_cases h : a = b <;> by_cases h' : r = t <;> simp [h, h', e]
theorem es_same (xs ys : List (List Nat)) : PySem.Spec.same (.list ((xs.map mkS).map PyData.str)) (.list ((ys.map mkS).map PyData.str)) = decide (xs = ys) := by
  simp only [PySem.Spec.same]; exact es_sameAll xs ys
theorem es_carried : ∀ {vs : List Value} {ss : List Str}, StrsAre vs ss → CarriedAll vs (ss.map PyData.str)
  | _, _, .nil => .nil
  | _, _, .cons _ t r => .cons (.str _ t) (es_carried r)
section
variable {prog : Program} {w : World} {A : Around} {E : Value → Shared → Prop} {s : Shared} {a b : Addr} {us vs : List Value} {xs ys : List (List Nat)} {Q : Value → Shared → Prop}
theorem es_eq (ha : s.heap.IsList a us.toArray) (hb : s.heap.IsList b vs.toArray) (hi : StrsAre us (xs.map mkS)) (hj : StrsAre vs (ys.map mkS)) (hx : okL xs) (hy : okL ys) (hu : A.units + 64 < cLine) (h : Q (.bool (decide (xs = ys))) s) :
    wpAny (model prog w) A (compareOp .Eq (.ref a) (.ref b)) Q E s :=
  eq_dataH_same (reads_newData ha (es_carried hi)) (reads_newData hb (es_carried hj)) (es_shaped hx) (es_shaped hy) hu (SeqAt.noMix_of_shape (.list .str) rfl _ _ (list_map_has fun _ => rfl) (list_map_has fun _ => rfl)) (by rw [es_same]; exact h)
theorem es_ne (ha : s.heap.IsList a us.toArray) (hb : s.heap.IsList b vs.toArray) (hi : StrsAre us (xs.map mkS)) (hj : StrsAre vs (ys.map mkS)) (hx : okL xs) (hy : okL ys) (hu : A.units + 64 < cLine) (h : Q (.bool (!decide (xs = ys))) s) :
    wpAny (model prog w) A (compareOp .NotEq (.ref a) (.ref b)) Q E s :=
  ne_dataH_same (reads_newData ha (es_carried hi)) (reads_newData hb (es_carried hj)) (es_shaped hx) (es_shaped hy) hu (SeqAt.noMix_of_shape (.list .str) rfl _ _ (list_map_has fun _ => rfl) (list_map_has fun _ => rfl)) (by rw [es_same]; exact h)
end
local macro_rules | `(tactic| walk_at "compareOp Eq ref ref") => `(tactic| (refine stopped ?_))
section
variable {w : World} {p : Program} {loose : List Str} {mean : ExcName → Option Value} {mg mb : Str → Option Value}
theorem ct_eqS (a b : Addr) (us vs : List Value) (ka kb : Nat) (xs ys : List (List Nat)) (hi : StrsAre us (xs.map mkS)) (hj : StrsAre vs (ys.map mkS)) (hx : okL xs) (hy : okL ys) :
    Ct w p loose mean mg mb 2 100 63 [.ref a, .ref b] [(a, W.listOf us.toArray ka), (b, W.listOf vs.toArray kb)] fun v _ => v = .bool (decide (xs = ys)) := by
  intro A h₀ s Q E hA hd hu X T st O ret
  k_dflt (refine' ct_def (binds := [(Str.ofString "a", .ref a), (Str.ofString "b", .ref b)]) (sub := _) X T st O ?k6 ?k7 ?k8 ?k9 ?kB ret ?_ ?c2 ?c3 ?c4 ?c5)
  (case k6 => k_is); (case k7 => k_is); (case k8 => omega); (case k9 => first | exact BindsTo.of_eq rfl | exact binds_K (by k_in) rfl (by k_is) rfl rfl rfl); (case c5 => decide); (case kB => exact locs rfl); (case c2 => exact rfl); (case c3 => exact rfl); (case c4 => exact rfl)
  clear ret O st T X; intro g L h₁ X T F N hlt; (try dsimp only); (try k_fold)
  k_steps
  refine unstop ?_
  refine es_eq (by is_list) (by is_list) hi hj hx hy (uOk hu) ?_
  k_steps
  ktr_rel
  rfl
end
end Mine
end
noncomputable section
open PySem PySem.W PySem.Calls PyProof.Rows PySem.Spec
set_option maxRecDepth 100000
set_option maxHeartbeats 2000000
namespace Mine
section
variable {prog : Program} {w : World} {A : Around} {E : Value → Shared → Prop} {s : Shared} {h₀ : Heap} {L : Addr} {m : Str → Option Value} {news : Led} {Q : Value → Shared → Prop}
theorem sorted_str_K {x : List Nat} {t : Tok} (hh : A.handled = none) (F : Fr h₀ L s.heap m) (N : News h₀ L s.heap news) (h64 : x.length < 64)
    (h : ∀ D h' tk vs ss e, Fr h₀ L h' m → News h₀ L h' ((D, W.listOf (List.toArray vs) e) :: news) → StrsAre vs ss → ss.Perm (x.map fun c => mkS [c]) → sortedS ss = true → (∀ p ∈ news, p.1 < D) → Q (.ref D) { s with heap := h', toks := tk }) :
    wpAny (model prog w) A (call (.builtin "sorted") [.str (mkS x) t]) Q E s := by
  refine Calls.call_function_entry kind_sorted plain_sorted entry_sorted (args_sorted1 _) ?_
  unfold Builtin.«sorted»
  refine wpAny_bind (m := checkCount "sorted" 1 1 _) (wpAny_pure ?_)
  refine wpAny_bind (wpAny_collect_str (by first | exact hh | (show A.handled = none; exact hh)) (mkS x) t (fun s' acc hk hg hdr hos hacc => ?_) (by show (mkS x).length ≤ _; rw [mk_len, PySem.sizeLine_eq]; omega))
  refine wpAny_bind (wpAny_newList ?_ (by rw [Array.length_toList, hacc.1, PySem.sizeLine_eq]; show (mkS x).length ≤ _; rw [mk_len]; omega))
  have hS : StrsAre acc.toList (x.map fun c => mkS [c]) := by
    refine strs_of_get _ _ (by rw [Array.length_toList, hacc.1, List.length_map]; exact mk_len x) fun j v hv => ?_
    obtain ⟨c, u, hc, rfl⟩ := hacc.2 j v (by simpa using hv)
    refine ⟨mkS [c], u, ?_, rfl⟩
    have hc' : (List.toArray x)[j]? = some c := hc
    have hc2 : x[j]? = some c := by simpa using hc'
    simp [hc2]
  have hlen : acc.toList.length = x.length := by rw [hS.length, List.length_map]
  have hoL : (s'.heap.push (seqObj "list" acc.toList.toArray 0)).get? s'.heap.objs.size = some (seqObj "list" acc.toList.toArray 0) := Heap.get?_push_size _ rfl
  refine wpAny_bind (wpAny_holding (wpAny_call_entry slot_list_sort ⟨_, hoL, rfl⟩ entry_list_sort (list_sort_treeK strKind_oneLt hoL hS.keysOf (fun v₁ v₂ rest e => keyKind_strs (by rw [← e]; exact hS)) (by omega) fun st' a1 a2 => ⟨_, rfl, ?_⟩) (args_list_sort _)))
  obtain ⟨ss, b1, b2, b3⟩ := sorted_out_str hS a1 a2
  refine wpAny_pure ⟨_, rfl, ?_⟩
  obtain ⟨e, he⟩ := sortedHeap_at (out := (arrOf st').map (·.2)) hoL
  have hkeep : ∀ b o, s.heap.get? b = some o → (sortedHeap (s'.heap.push (seqObj "list" acc.toList.toArray 0)) s'.heap.objs.size acc.toList ((arrOf st').map (·.2))).get? b = some o := by
    intro b o hb
    have h1 := hk b o hb
    have hlt := Heap.lt_size h1
    rw [sortedHeap_old (Nat.ne_of_lt hlt) (by rw [Heap.size_push]; exact Nat.lt_succ_of_lt hlt)]
    exact Heap.get?_push_of_some _ h1
  have hF : Fr h₀ L (sortedHeap (s'.heap.push (seqObj "list" acc.toList.toArray 0)) s'.heap.objs.size acc.toList ((arrOf st').map (·.2))) m := F.kept hkeep
  have hN : News h₀ L (sortedHeap (s'.heap.push (seqObj "list" acc.toList.toArray 0)) s'.heap.objs.size acc.toList ((arrOf st').map (·.2))) ((s'.heap.objs.size, W.listOf (List.toArray ((arrOf st').map (·.2)).toList) e) :: news) := by
    intro p hp
    rcases List.mem_cons.mp hp with rfl | hp
    · refine ⟨by rw [Array.toArray_toList]; exact he, ?_, ?_⟩
      · obtain ⟨oL, _, _, hL, _⟩ := F.ns
        exact Nat.ne_of_gt (Heap.lt_size (hk _ _ hL))
      · cases hq : h₀.get? s'.heap.objs.size with
        | none => rfl
        | some o' => exact absurd (Heap.lt_size (hk _ _ (F.keep _ _ hq))) (Nat.lt_irrefl _)
    · exact ⟨hkeep _ _ (N p hp).1, (N p hp).2⟩
  have key := h _ _ s'.toks _ ss e hF hN b1 b2 b3 (fun p hp => Heap.lt_size (hk _ _ (N p hp).1))
  rw [← hg, ← hdr, ← hos] at key
  exact key
end
theorem rising_ge : ∀ (l : List Str) (p : Str), risingS p l = true → ∀ x ∈ l, p.cps.toList ≤ x.cps.toList
  | [], _, _, x, hx => absurd hx List.not_mem_nil
  | y :: r, p, h, x, hx => by
    simp only [risingS, Bool.and_eq_true, Bool.not_eq_true', ltCps_eq, decide_eq_false_iff_not] at h
    have h1 : p.cps.toList ≤ y.cps.toList := List.not_lt.mp h.1
    rcases List.mem_cons.mp hx with rfl | hx
    · exact h1
    · exact List.le_trans h1 (rising_ge r y h.2 x hx)
theorem rising_pair : ∀ (l : List Str) (p : Str), risingS p l = true → (p :: l).Pairwise fun a b => a.cps.toList ≤ b.cps.toList
  | [], p, _ => by simp
  | y :: r, p, h => by
    have h2 : risingS y r = true := by
      simp only [risingS, Bool.and_eq_true] at h
      exact h.2
    exact List.pairwise_cons.mpr ⟨rising_ge _ p h, rising_pair r y h2⟩
theorem sorted_pair : ∀ (l : List Str), sortedS l = true → l.Pairwise fun a b => a.cps.toList ≤ b.cps.toList
  | [], _ => List.Pairwise.nil
  | y :: r, h => rising_pair r y h
theorem sorted_eq {a b : List Str} (ha : sortedS a = true) (hb : sortedS b = true) (hp : a.Perm b) : a = b :=
  List.Perm.eq_of_pairwise (fun x y _ _ h1 h2 => by
    have e : x.cps.toList = y.cps.toList := List.le_antisymm h1 h2
    cases x; cases y
    exact congrArg _ (Array.toList_inj.mp e)) (sorted_pair a ha) (sorted_pair b hb) hp
/-- strs are lists of signs -/
theorem as_mk (ss : List Str) : ∃ xs : List (List Nat), ss = xs.map mkS := ⟨ss.map fun x => x.cps.toList, by rw [List.map_map]; exact (List.map_id _).symm.trans (List.map_congr_left fun x _ => mk_of x)⟩
end Mine
end
noncomputable section
open PySem PySem.W PySem.Calls PyProof.Rows
set_option maxRecDepth 100000
namespace Mine
/-- what stays while the body of law is walked -/
structure Cx (w : World) (p : Program) (loose : List Str) (mean : ExcName → Option Value) (mg mb : Str → Option Value) (A : Around) (g : Heap) : Prop where
  hA : A.handled = none
  hd : A.depth + 30 < recursionLimit
  hu : A.units + 300 < cLine
  X : (K w.params).In g
  T : Top p loose mean mg mb g
noncomputable abbrev lawE (L : Addr) : Env := envOfC (Str.ofString "law") sc_stm_24.val L 220 (Value.ref 219)
@[reducible] noncomputable def lawS0 : { x : Stmt // body_stm_24.1[0]? = some x } := ⟨_, rfl⟩
@[reducible] noncomputable def lawS1 : { x : Stmt // body_stm_24.1[1]? = some x } := ⟨_, rfl⟩
@[reducible] noncomputable def lawS2 : { x : Stmt // body_stm_24.1[2]? = some x } := ⟨_, rfl⟩
@[reducible] noncomputable def lawS3 : { x : Stmt // body_stm_24.1[3]? = some x } := ⟨_, rfl⟩
@[reducible] noncomputable def lawS4 : { x : Stmt // body_stm_24.1[4]? = some x } := ⟨_, rfl⟩
@[reducible] noncomputable def lawS5 : { x : Stmt // body_stm_24.1[5]? = some x } := ⟨_, rfl⟩
@[reducible] noncomputable def lawS6 : { x : Stmt // body_stm_24.1[6]? = some x } := ⟨_, rfl⟩
@[reducible] noncomputable def lawS7 : { x : Stmt // body_stm_24.1[7]? = some x } := ⟨_, rfl⟩
@[reducible] noncomputable def lawS8 : { x : Stmt // body_stm_24.1[8]? = some x } := ⟨_, rfl⟩
@[reducible] noncomputable def lawS9 : { x : Stmt // body_stm_24.1[9]? = some x } := ⟨_, rfl⟩
@[reducible] noncomputable def lawS10 : { x : Stmt // body_stm_24.1[10]? = some x } := ⟨_, rfl⟩
@[reducible] noncomputable def lawS11 : { x : Stmt // body_stm_24.1[11]? = some x } := ⟨_, rfl⟩
@[reducible] noncomputable def lawS12 : { x : Stmt // body_stm_24.1[12]? = some x } := ⟨_, rfl⟩
@[reducible] noncomputable def lawS13 : { x : Stmt // body_stm_24.1[13]? = some x } := ⟨_, rfl⟩
@[reducible] noncomputable def lawS14 : { x : Stmt // body_stm_24.1[14]? = some x } := ⟨_, rfl⟩
@[reducible] noncomputable def lawS15 : { x : Stmt // body_stm_24.1[15]? = some x } := ⟨_, rfl⟩
theorem lawS_len : body_stm_24.1.length = 16 := rfl
end Mine
end
noncomputable section
open PySem PySem.W PySem.Calls PyProof.Rows
set_option maxRecDepth 100000
set_option maxHeartbeats 4000000
namespace Mine
local macro_rules | `(tactic| walk_at "storeName") => `(tactic| (dsimp only; walk_at "storeName"))
local macro_rules | `(tactic| walk_at "exec Assign cons ListComp") => `(tactic| (refine stopped ?_))
theorem isL_list {o : Obj} {ns : List Int} (h : IsL o ns) : ∃ (vs : List Value) (n : Nat), o = W.listOf (List.toArray vs) n ∧ IntsAre vs ns := by
  obtain ⟨vs, n, rfl, h⟩ := h
  exact ⟨vs.toList, n, by rw [Array.toArray_toList], h⟩
theorem ne_all {l : Led} {x : Addr} {sub : List Addr} (h : x ∈ sub ∨ ∀ r ∈ l, @Ne Nat r.1 x) (hs : ∀ y ∈ sub, ∀ r ∈ l, r.1 ∉ sub → @Ne Nat r.1 y) : ∀ r ∈ l, r.1 ∉ sub → @Ne Nat r.1 x := by
  intro r hr hn
  rcases h with h | h
  · exact hs x h r hr hn
  · exact h r hr
section
variable {w : World} {p : Program} {loose : List Str} {mean : ExcName → Option Value} {mg mb : Str → Option Value} {A : Around} {g h : Heap} {L : Addr} {s : Shared} {tk : Nat} {m : Str → Option Value} {Q : Flow → Shared → Prop} {E : Value → Shared → Prop}
theorem lw0 (C : Cx w p loose mean mg mb A g) {sc : Addr} {vs : List Value} {kn : Nat} {ns : List Int} (hs : IntsAre vs ns) (hl : ns.length ≤ 63) (hsc : @Ne Nat 157 sc) (hL : @LT.lt Nat _ sc L) {o1 o2 o3 : Obj} {v3 : Option Value} (d3 : o3.data = .cell v3)
    (F : Fr g L h m) (N : News g L h [(L + 1 + 1 + 1, o1), (L + 1 + 1, o2), (L + 1, o3), (157, tabObj #[]), (sc, W.listOf (List.toArray vs) kn)]) (hL7 : @LT.lt Nat _ 157 L) (hm : m (Str.ofString "script") = some (.ref sc))
    (k : ∀ h' tk' m' a us k3 cs o3, Fr g L h' m' → News g L h' [(a, W.listOf (List.toArray us) k3), (L + 1 + 1 + 1, o1), (L + 1 + 1, o2), (L + 1, o3), (157, tabObj #[]), (sc, W.listOf (List.toArray vs) kn)] → o3.data = .cell (some (.ref a)) → IntsAre us cs → cs.length = 8 → (∀ b ∈ [L + 1 + 1 + 1, L + 1 + 1, L + 1, 157], @Ne Nat b a) → @LT.lt Nat _ sc a → Q .next { s with heap := h', toks := tk' }) :
    wpAny (model prog w) (A.deeper (lawE L)) (exec lawS0.1 (lawE L)) Q E { s with heap := h, toks := tk } := by
  obtain ⟨hA, hd, hu, X, T⟩ := C
  rw [loc_up (m := m) (b := m) [(Str.ofString "script", some (.ref sc))] (fun _ _ => rfl) (List.forall_mem_cons.mpr ⟨hm, List.forall_mem_nil _⟩)] at F
  dsimp only [up] at F
  k_steps
  refine Ct.use (ct_cells sc vs kn ns hs hl) (rest := [(L + 1 + 1 + 1, o1), (L + 1 + 1, o2), (L + 1, o3), (157, tabObj #[])]) F X N T hA (dOk hd) (uOk hu) (fun q hq => ?_) (fun q hq => ?_) fun v' sub' h' tk' F' N' ne P' => ?_
  · rw [List.mem_singleton.mp hq]; exact .tail _ (.tail _ (.tail _ (.tail _ (.head _))))
  · refine ⟨List.mem_append_left [(sc, W.listOf (List.toArray vs) kn)] hq, ?_⟩
    simp only [List.mem_cons, List.not_mem_nil, or_false, List.map_cons, List.map_nil] at hq ⊢
    intro e
    replace e : @Eq Nat q.1 sc := e
    rcases hq with rfl | rfl | rfl | rfl <;> (dsimp only at e; omega)
  · obtain ⟨a, o, cs, rfl, rfl, hcs, h8, hsa⟩ := P'
    obtain ⟨us, k3, rfl, hus⟩ := isL_list hcs
    have hna : ∀ b ∈ [L + 1 + 1 + 1, L + 1 + 1, L + 1, 157], @Ne Nat b a := by
      intro b hb e
      replace e : @Eq Nat b a := e
      simp only [List.mem_cons, List.not_mem_nil, or_false] at hb
      rcases ne _ (.head _) with h1 | h1
      · have h2 : @Eq Nat a sc := by simpa using h1
        rcases hb with rfl | rfl | rfl | rfl <;> omega
      · rcases hb with rfl | rfl | rfl | rfl
        · exact h1 _ (.head _) e
        · exact h1 _ (.tail _ (.head _)) e
        · exact h1 _ (.tail _ (.tail _ (.head _))) e
        · exact h1 _ (.tail _ (.tail _ (.tail _ (.head _)))) e
    have n1 : @Ne Nat (L + 1) a := hna _ (by simp)
    have N2 : News g L h' [(a, W.listOf (List.toArray us) k3), (L + 1 + 1 + 1, o1), (L + 1 + 1, o2), (L + 1, o3), (157, tabObj #[]), (sc, W.listOf (List.toArray vs) kn)] := fun q hq => N' q (by
      simp only [List.mem_cons, List.mem_append, List.not_mem_nil, or_false] at hq ⊢
      rcases hq with h | h | h | h | h | h <;> first | exact (.inl h) | exact (.inr (.inl h)) | exact (.inr (.inr (.inl h))) | exact (.inr (.inr (.inr (.inl h)))) | exact (.inr (.inr (.inr (.inr (.inl h))))) | exact (.inr (.inr (.inr (.inr (.inr (.inl h)))))) | exact (.inr (.inr (.inr (.inr (.inr (.inr (.inl h))))))) | exact (.inr (.inr (.inr (.inr (.inr (.inr (.inr (.inl h)))))))) | exact (.inr (.inr (.inr (.inr (.inr (.inr (.inr (.inr (.inl h))))))))) | exact (.inr (.inr (.inr (.inr (.inr (.inr (.inr (.inr (.inr (.inl h)))))))))) | exact (.inr (.inr (.inr (.inr (.inr (.inr (.inr (.inr (.inr (.inr (.inl h))))))))))) | exact (.inr (.inr (.inr (.inr (.inr (.inr (.inr (.inr (.inr (.inr (.inr (.inl h)))))))))))) | exact (.inr (.inr (.inr (.inr (.inr (.inr (.inr (.inr (.inr (.inr (.inr (.inr (.inl h))))))))))))) | exact (.inr (h)) | exact (.inr (.inr (h))) | exact (.inr (.inr (.inr (h)))) | exact (.inr (.inr (.inr (.inr (h))))) | exact (.inr (.inr (.inr (.inr (.inr (h)))))) | exact (.inr (.inr (.inr (.inr (.inr (.inr (h))))))) | exact (.inr (.inr (.inr (.inr (.inr (.inr (.inr (h)))))))) | exact (.inr (.inr (.inr (.inr (.inr (.inr (.inr (.inr (h))))))))) | exact (.inr (.inr (.inr (.inr (.inr (.inr (.inr (.inr (.inr (h)))))))))) | exact (.inr (.inr (.inr (.inr (.inr (.inr (.inr (.inr (.inr (.inr (h))))))))))) | exact (.inr (.inr (.inr (.inr (.inr (.inr (.inr (.inr (.inr (.inr (.inr (h)))))))))))) | exact (.inr (.inr (.inr (.inr (.inr (.inr (.inr (.inr (.inr (.inr (.inr (.inr (h))))))))))))) | simp [h])
    clear F N N'
    k_steps
    with_reducible rename Fr _ _ _ _ => F5
    with_reducible rename News _ _ _ _ => N5
    rename Obj.data _ = Data.cell (some _) => d5
    exact k _ _ _ a us k3 cs _ F5 N5 d5 hus h8 hna hsa
theorem lw1 (C : Cx w p loose mean mg mb A g) {a : Addr} {us : List Value} {k3 : Nat} {cs : List Int} (hus : IntsAre us cs) (h8 : cs.length = 8) {o1 o2 o3 : Obj} {v2 : Option Value} (d2 : o2.data = .cell v2) (d3 : o3.data = .cell (some (.ref a))) (hna : ∀ b ∈ [L + 1 + 1 + 1, L + 1 + 1, L + 1, 157], @Ne Nat b a) (hL7 : @LT.lt Nat _ 157 L)
    (F : Fr g L h m) (N : News g L h [(a, W.listOf (List.toArray us) k3), (L + 1 + 1 + 1, o1), (L + 1 + 1, o2), (L + 1, o3), (157, tabObj #[])])
    (k : ∀ h' tk' m' b ub kb o2, Fr g L h' m' → News g L h' [(b, W.listOf (List.toArray ub) kb), (a, W.listOf (List.toArray us) k3), (L + 1 + 1 + 1, o1), (L + 1 + 1, o2), (L + 1, o3), (157, tabObj #[])] → o2.data = .cell (some (.ref b)) → IntsAre ub (board (cs.getD 0 0) (cs.getD 1 0)) → (∀ x ∈ [L + 1 + 1 + 1, L + 1 + 1, L + 1, 157], @Ne Nat x b) → Q .next { s with heap := h', toks := tk' }) :
    wpAny (model prog w) (A.deeper (lawE L)) (exec lawS1.1 (lawE L)) Q E { s with heap := h, toks := tk } := by
  obtain ⟨hA, hd, hu, X, T⟩ := C
  have hul := hus.length
  have n1 : @Ne Nat (L + 1 + 1) a := hna _ (by simp)
  k_steps
  with_reducible rename Fr _ _ _ _ => F5
  with_reducible rename News _ _ _ _ => N5
  refine Ct.use (ct_board _ _ _ _) (rest := [(a, W.listOf (List.toArray us) k3), (L + 1 + 1 + 1, o1), (L + 1 + 1, o2), (L + 1, o3), (157, tabObj #[])]) F5 X N5 T hA (dOk hd) (uOk hu) (fun q hq => absurd hq List.not_mem_nil) (fun q hq => ⟨hq, by simp⟩) fun v' sub' h' tk' F' N' ne P' => ?_
  obtain ⟨b, o, rfl, rfl, hcs⟩ := P'
  obtain ⟨ub, kb, rfl, hub⟩ := isL_list hcs
  have hna2 : ∀ r ∈ [(a, W.listOf (List.toArray us) k3), (L + 1 + 1 + 1, o1), (L + 1 + 1, o2), (L + 1, o3), (157, tabObj #[])], @Ne Nat r.1 b := by
    rcases ne _ (.head _) with h1 | h1
    · exact absurd h1 (by simp)
    · exact h1
  have n2 : @Ne Nat (L + 1 + 1) b := hna2 (L + 1 + 1, o2) (by simp)
  have N2 : News g L h' [(b, W.listOf (List.toArray ub) kb), (a, W.listOf (List.toArray us) k3), (L + 1 + 1 + 1, o1), (L + 1 + 1, o2), (L + 1, o3), (157, tabObj #[])] := fun q hq => N' q (by
    rcases List.mem_cons.mp hq with rfl | hq
    · exact List.mem_append_right _ (.head _)
    · exact List.mem_append_left _ hq)
  clear F5 N' N5
  k_steps
  with_reducible rename Fr _ _ _ _ => F5
  with_reducible rename News _ _ _ _ => N5
  rename Obj.data _ = Data.cell (some (Value.ref b)) => d5
  refine k _ _ _ b ub kb _ F5 N5 d5 hub ?_
  intro x hx
  simp only [List.mem_cons, List.not_mem_nil, or_false] at hx
  rcases hx with rfl | rfl | rfl | rfl
  · exact hna2 _ (.tail _ (.head _))
  · exact hna2 _ (.tail _ (.tail _ (.head _)))
  · exact hna2 _ (.tail _ (.tail _ (.tail _ (.head _))))
  · exact hna2 _ (.tail _ (.tail _ (.tail _ (.tail _ (.head _)))))
end
end Mine
end
noncomputable section
open PySem PySem.W PySem.Calls PyProof.Rows
set_option maxRecDepth 100000
set_option maxHeartbeats 4000000
namespace Mine
local macro_rules | `(tactic| walk_at "storeName") => `(tactic| (dsimp only; walk_at "storeName"))
local macro_rules | `(tactic| walk_at "exec Assign cons ListComp") => `(tactic| (refine stopped ?_))
/-- how many stones, and the word of a hole as typed and as meant -/
noncomputable def cntW (bs : List Int) (k : Nat) : Nat := (bs.getD k 0).toNat
noncomputable def wT (bs cs : List Int) (k : Nat) : List Nat := (typed (cntW bs k) (cs.getD (2 + k) 0)).1
noncomputable def wM (bs cs : List Int) (k : Nat) : List Nat := (typed (cntW bs k) (cs.getD (2 + k) 0)).2
/-- the words -/
noncomputable def WdOk (bs cs : List Int) (fx : List Addr) (wl : Led) : Prop := (∀ q ∈ wl, ∀ x ∈ fx, @Ne Nat x q.1) ∧ ∀ i q, wl[i]? = some q → ∃ tT tM, q.2 = pairO (wT bs cs i) (wM bs cs i) tT tM
theorem cnt_eq {bs : List Int} (h6 : bs.length = 6) (hbs : ∀ x ∈ bs, 0 ≤ x ∧ x ≤ 7) {j : Nat} (hj : j < 6) : bs.getD j 0 = ((cntW bs j : Nat) : Int) ∧ cntW bs j ≤ 7 := by
  have hm : bs.getD j 0 ∈ bs := by
    have e : bs.getD j 0 = bs[j]'(by omega) := by simp [List.getD, h6, hj]
    rw [e]; exact List.getElem_mem _
  have := hbs _ hm
  unfold cntW
  omega
theorem wd_snoc {bs cs : List Int} {fx : List Addr} {wl : Led} {x : Addr} {tT tM : Tok} (W : WdOk bs cs fx wl) (hx : ∀ y ∈ fx, @Ne Nat y x) : WdOk bs cs fx (wl ++ [(x, pairO (wT bs cs wl.length) (wM bs cs wl.length) tT tM)]) := by
  refine ⟨fun q hq => ?_, fun i q hq => ?_⟩
  · rcases List.mem_append.mp hq with hq | hq
    · exact W.1 q hq
    · rw [List.mem_singleton.mp hq]; exact hx
  · rcases Nat.lt_trichotomy i wl.length with h | h | h
    · rw [List.getElem?_append_left h] at hq
      exact W.2 i q hq
    · subst h
      rw [List.getElem?_append_right (Nat.le_refl _), Nat.sub_self] at hq
      cases hq
      exact ⟨tT, tM, rfl⟩
    · rw [List.getElem?_append_right (by omega), List.getElem?_eq_none (by simp; omega)] at hq
      cases hq
section
variable {w : World} {p : Program} {loose : List Str} {mean : ExcName → Option Value} {mg mb : Str → Option Value} {A : Around} {g h : Heap} {L : Addr} {s : Shared} {tk : Nat} {m : Str → Option Value} {Q : Flow → Shared → Prop} {E : Value → Shared → Prop}
theorem lw2 (C : Cx w p loose mean mg mb A g) {a b : Addr} {us ub : List Value} {k3 kb : Nat} {cs bs : List Int} (hus : IntsAre us cs) (h8 : cs.length = 8) (hub : IntsAre ub bs) (h6 : bs.length = 6) (hbs : ∀ x ∈ bs, 0 ≤ x ∧ x ≤ 7) {o1 o2 o3 : Obj} (d2 : o2.data = .cell (some (.ref b))) (d3 : o3.data = .cell (some (.ref a)))
    (F : Fr g L h m) (N : News g L h [(b, W.listOf (List.toArray ub) kb), (a, W.listOf (List.toArray us) k3), (L + 1 + 1 + 1, o1), (L + 1 + 1, o2), (L + 1, o3), (157, tabObj #[])])
    (k : ∀ h' tk' m' Wa wl kw, Fr g L h' m' → News g L h' ((Wa, W.listOf (List.toArray (wl.map fun q : Addr × Obj => Value.ref q.1)) kw) :: (b, W.listOf (List.toArray ub) kb) :: (a, W.listOf (List.toArray us) k3) :: (L + 1 + 1 + 1, o1) :: (L + 1 + 1, o2) :: (L + 1, o3) :: (157, tabObj #[]) :: wl) → m' (Str.ofString "words") = some (.ref Wa) → wl.length = 6 → WdOk bs cs [L + 1 + 1 + 1, L + 1 + 1, L + 1, 157] wl → (∀ x ∈ [L + 1 + 1 + 1, L + 1 + 1, L + 1, 157], @Ne Nat x Wa) → Q .next { s with heap := h', toks := tk' }) :
    wpAny (model prog w) (A.deeper (lawE L)) (exec lawS2.1 (lawE L)) Q E { s with heap := h, toks := tk } := by
  obtain ⟨hA, hd, hu, X, T⟩ := C
  have hul := hus.length
  have hubl := hub.length
  k_steps
  refine unstop ?_
  k_dflt (refine LCg.Assign_ListComp_U (F₀ := by k_asm) (by rfl) (by with_unfolding_all rfl) (by with_unfolding_all rfl) (by decide) (by rfl) (by decide) (by rfl) (by rfl) (by rfl) ?_)
  k_steps
  with_reducible rename Fr _ _ _ _ => F2
  with_reducible rename News _ _ _ _ => N2
  refine LCg.CompSrc.range (n := 6) hA F2 N2 (by assumption) (by rfl) (by rfl) (by rw [PySem.sizeLine_eq]; omega) fun g1 => ?_
  clear F2 N2
  refine comp_inv (fun j ys nx => ∃ wl, nx = (b, W.listOf (List.toArray ub) kb) :: (a, W.listOf (List.toArray us) k3) :: (L + 1 + 1 + 1, o1) :: (L + 1 + 1, o2) :: (L + 1, o3) :: (157, tabObj #[]) :: wl ∧ ys = wl.map (fun q : Addr × Obj => Value.ref q.1) ∧ wl.length = j ∧ WdOk bs cs [L + 1 + 1 + 1, L + 1 + 1, L + 1, 157] wl) 6 ?step ?fin 6 0 [] _ (by omega) ⟨[], rfl, rfl, rfl, (fun q hq => absurd hq List.not_mem_nil), fun i q h => by simp at h⟩
  case step =>
    rintro j ys nx v I1 oI1 C oC1 D m2 h1 tk1 E' hj ⟨wl, rfl, rfl, hwl, hW⟩ ⟨t9, rfl⟩ hC hx F1 N1 off ne
    k_steps
    obtain ⟨e1, e2⟩ := cnt_eq h6 hbs hj
    rw [show (0 + (j : Int)).toNat = j by omega, show (2 + (0 + (j : Int))).toNat = 2 + j by omega, e1]
    have hof := off.mem
    refine Ct.use (ct_typed (cntW bs j) (cs.getD (2 + j) 0) _ _ (by omega)) (rest := (I1, oI1) :: (C, oC1) :: (D, LCg.lst (wl.map (fun q : Addr × Obj => Value.ref q.1))) :: (b, W.listOf (List.toArray ub) kb) :: (a, W.listOf (List.toArray us) k3) :: (L + 1 + 1 + 1, o1) :: (L + 1 + 1, o2) :: (L + 1, o3) :: (157, tabObj #[]) :: wl) F1 X N1 T hA (dOk hd) (uOk hu) (fun q hq => absurd hq List.not_mem_nil) (fun q hq => ⟨hq, by simp⟩) fun v' sub' h' tk' F6 N6 ne6 P' => ?_
    obtain ⟨x, tT, tM, rfl, rfl⟩ := P'
    have hxx : ∀ r ∈ (I1, oI1) :: (C, oC1) :: (D, LCg.lst (wl.map (fun q : Addr × Obj => Value.ref q.1))) :: (b, W.listOf (List.toArray ub) kb) :: (a, W.listOf (List.toArray us) k3) :: (L + 1 + 1 + 1, o1) :: (L + 1 + 1, o2) :: (L + 1, o3) :: (157, tabObj #[]) :: wl, @Ne Nat r.1 x := by
      rcases ne6 _ (.head _) with h1 | h1
      · exact absurd h1 (by simp)
      · exact h1
    subst hwl
    refine LCg.CompEnd.intro F6 N6 ((b, W.listOf (List.toArray ub) kb) :: (a, W.listOf (List.toArray us) k3) :: (L + 1 + 1 + 1, o1) :: (L + 1 + 1, o2) :: (L + 1, o3) :: (157, tabObj #[]) :: (wl ++ [(x, pairO (wT bs cs wl.length) (wM bs cs wl.length) tT tM)])) (fun q hq => ?_) (LCg.Off3.of fun q hq => ?_) trivial ⟨_, rfl, ?_, ?_, wd_snoc hW (fun y hy => ?_)⟩
    · exact hq
    · have hq2 : q ∈ ((b, W.listOf (List.toArray ub) kb) :: (a, W.listOf (List.toArray us) k3) :: (L + 1 + 1 + 1, o1) :: (L + 1 + 1, o2) :: (L + 1, o3) :: (157, tabObj #[]) :: wl) ++ [(x, pairO (wT bs cs wl.length) (wM bs cs wl.length) tT tM)] := hq
      rcases List.mem_append.mp hq2 with hq | hq
      · exact hof q hq
      · rw [List.mem_singleton.mp hq]
        exact ⟨Ne.symm (hxx _ (.head _)), Ne.symm (hxx _ (.tail _ (.head _))), Ne.symm (hxx _ (.tail _ (.tail _ (.head _))))⟩
    · rw [List.map_append]; rfl
    · rw [List.length_append]; rfl
    · simp only [List.mem_cons, List.not_mem_nil, or_false] at hy
      rcases hy with rfl | rfl | rfl | rfl
      · exact hxx (L + 1 + 1 + 1, o1) (by simp)
      · exact hxx (L + 1 + 1, o2) (by simp)
      · exact hxx (L + 1, o3) (by simp)
      · exact hxx (157, tabObj #[]) (by simp)
  case fin =>
    rintro ys nx ⟨wl, rfl, rfl, hwl, hW⟩
    unfold LCg.FinA
    intro B hB tkB FB NB oB
    k_steps
    with_reducible rename Fr _ _ _ _ => F5
    with_reducible rename News _ _ _ _ => N5
    refine k _ _ _ B wl _ F5 N5 rfl hwl hW ?_
    have hoB := off1_mem oB
    intro x hx
    simp only [List.mem_cons, List.not_mem_nil, or_false] at hx
    rcases hx with rfl | rfl | rfl | rfl
    · exact hoB _ (.tail _ (.tail _ (.head _)))
    · exact hoB _ (.tail _ (.tail _ (.tail _ (.head _))))
    · exact hoB _ (.tail _ (.tail _ (.tail _ (.tail _ (.head _)))))
    · exact hoB _ (.tail _ (.tail _ (.tail _ (.tail _ (.tail _ (.head _))))))
end
end Mine
end
noncomputable section
open PySem PySem.W PySem.Calls PyProof.Rows
set_option maxRecDepth 100000
set_option maxHeartbeats 4000000
namespace Mine
local macro_rules | `(tactic| walk_at "storeName") => `(tactic| (refine stopped ?_))
local macro_rules | `(tactic| walk_at "eval ListComp") => `(tactic| (refine stopped ?_))
theorem updF_mk {c : Addr} {o : Obj} : ∀ (pre : Led) {post : Led}, (∀ q ∈ pre, q.1 ≠ c) → (∀ q ∈ post, q.1 ≠ c) → UpdF c o (pre ++ (c, o) :: post) (fun o' => pre ++ (c, o') :: post)
  | [], _, _, h2 => .head h2
  | q :: pre, _, h1, h2 => .tail (h1 q (.head _)) (updF_mk pre (fun p hp => h1 p (.tail _ hp)) h2)
theorem flat6 (f : Nat → List Nat) (b : Nat) (h : ∀ k, k < 6 → (f k).length ≤ b) : ((List.range 6).map f).flatten.length ≤ 6 * b := by
  have h0 := h 0 (by omega)
  have h1 := h 1 (by omega)
  have h2 := h 2 (by omega)
  have h3 := h 3 (by omega)
  have h4 := h 4 (by omega)
  have h5 := h 5 (by omega)
  rw [show List.range 6 = [0, 1, 2, 3, 4, 5] from rfl]
  simp only [List.map_cons, List.map_nil, List.flatten_cons, List.flatten_nil, List.length_append, List.length_nil]
  omega
theorem getD_range (f : Nat → List Nat) {k : Nat} (hk : k < 6) : ((List.range 6).map f).getD k [] = f k := by simp [List.getD, hk]
theorem text6_len (f : Nat → List Nat) (ch : Int) (h : ∀ k, k < 6 → (f k).length ≤ 20) : (text6 ((List.range 6).map f) ch).length ≤ 280 := by
  have := flat6 (way ((List.range 6).map f) ch) 45 fun k hk => way_len _ _ _ (by rw [getD_range f hk]; exact h k hk)
  unfold text6
  rw [List.length_append]
  simp only [List.length_cons, List.length_nil]
  omega
theorem mem_mid {α : Type} {R l w : List α} {q : α} (h : q ∈ R ++ w) : q ∈ R ++ (l ++ w) := by
  rcases List.mem_append.mp h with h | h
  · exact List.mem_append_left _ h
  · exact List.mem_append_right _ (List.mem_append_right _ h)
theorem mem_swap {α : Type} {R s w : List α} {q : α} (h : q ∈ R ++ (s ++ w)) : q ∈ (R ++ w) ++ s := by
  rcases List.mem_append.mp h with h | h
  · exact List.mem_append_left _ (List.mem_append_left _ h)
  · rcases List.mem_append.mp h with h | h
    · exact List.mem_append_right _ h
    · exact List.mem_append_left _ (List.mem_append_right _ h)
theorem all3 {α : Type} {P : α → Prop} {a b c : α} {r : List α} (h1 : P a) (h2 : P b) (h3 : P c) (hr : ∀ q ∈ r, P q) : ∀ q ∈ a :: b :: c :: r, P q :=
  List.forall_mem_cons.mpr ⟨h1, List.forall_mem_cons.mpr ⟨h2, List.forall_mem_cons.mpr ⟨h3, hr⟩⟩⟩
theorem all5 {α : Type} {P : α → Prop} {a b c d e : α} {r : List α} (h1 : P a) (h2 : P b) (h3 : P c) (h4 : P d) (h5 : P e) (hr : ∀ q ∈ r, P q) : ∀ q ∈ a :: b :: c :: d :: e :: r, P q :=
  all3 h1 h2 h3 (List.forall_mem_cons.mpr ⟨h4, List.forall_mem_cons.mpr ⟨h5, hr⟩⟩)
theorem of5 {α : Type} {P : α → Prop} {a b c d e : α} {r : List α} (h : ∀ q ∈ a :: b :: c :: d :: e :: r, P q) : P a ∧ P b ∧ P c ∧ P d ∧ P e ∧ ∀ q ∈ r, P q :=
  ⟨h _ (.head _), h _ (.tail _ (.head _)), h _ (.tail _ (.tail _ (.head _))), h _ (.tail _ (.tail _ (.tail _ (.head _)))), h _ (.tail _ (.tail _ (.tail _ (.tail _ (.head _))))), fun q hq => h q (.tail _ (.tail _ (.tail _ (.tail _ (.tail _ hq)))))⟩
section
variable {w : World} {p : Program} {loose : List Str} {mean : ExcName → Option Value} {mg mb : Str → Option Value} {A : Around} {g h : Heap} {L : Addr} {s : Shared} {tk : Nat} {m : Str → Option Value} {Q : Flow → Shared → Prop} {E : Value → Shared → Prop}
theorem lw3 (C : Cx w p loose mean mg mb A g) {a b Wa : Addr} {us ub : List Value} {k3 kb kw : Nat} {cs bs : List Int} (hus : IntsAre us cs) (h8 : cs.length = 8) {o1 o2 o3 : Obj} {v1 : Option Value} (d1 : o1.data = .cell v1) (d3 : o3.data = .cell (some (.ref a))) {wl : Led} (hwl : wl.length = 6) (hW : WdOk bs cs [L + 1 + 1 + 1, L + 1 + 1, L + 1, 157] wl) (hT : ∀ k, k < 6 → (wT bs cs k).length ≤ 20)
    (ha : ∀ x ∈ [L + 1 + 1 + 1, L + 1 + 1, L + 1, 157], @Ne Nat x a) (hb : ∀ x ∈ [L + 1 + 1 + 1, L + 1 + 1, L + 1, 157], @Ne Nat x b) (hWa : ∀ x ∈ [L + 1 + 1 + 1, L + 1 + 1, L + 1, 157], @Ne Nat x Wa) (hL7 : @LT.lt Nat _ 157 L)
    (F : Fr g L h m) (N : News g L h ((Wa, W.listOf (List.toArray (wl.map fun q : Addr × Obj => Value.ref q.1)) kw) :: (b, W.listOf (List.toArray ub) kb) :: (a, W.listOf (List.toArray us) k3) :: (L + 1 + 1 + 1, o1) :: (L + 1 + 1, o2) :: (L + 1, o3) :: (157, tabObj #[]) :: wl)) (hm : m (Str.ofString "words") = some (.ref Wa))
    (k : ∀ h' tk' m' ax l o1, Fr g L h' m' → News g L h' ((Wa, W.listOf (List.toArray (wl.map fun q : Addr × Obj => Value.ref q.1)) kw) :: (b, W.listOf (List.toArray ub) kb) :: (L + 1 + 1 + 1, o1) :: (L + 1 + 1, o2) :: (157, tabObj #[rawInt 74, rawInt 18, .ref ax.lc]) :: (l ++ wl)) → o1.data = .cell (some (.ref ax.x)) → LexR w ax 1 #[] (text6 ((List.range 6).map (wT bs cs)) (cs.getD 1 0)) l → (∀ x ∈ [Wa, b, L + 1 + 1 + 1, L + 1 + 1, 157], x ∉ ax.adrs) → (∀ q ∈ wl, q.1 ∉ ax.adrs) → m' (Str.ofString "words") = some (.ref Wa) → Q .next { s with heap := h', toks := tk' }) :
    wpAny (model prog w) (A.deeper (lawE L)) (exec lawS3.1 (lawE L)) Q E { s with heap := h, toks := tk } := by
  obtain ⟨hA, hd, hu, X, T⟩ := C
  have hul := hus.length
  rw [loc_up (m := m) (b := m) [(Str.ofString "words", some (.ref Wa))] (fun _ _ => rfl) (List.forall_mem_cons.mpr ⟨hm, List.forall_mem_nil _⟩)] at F
  dsimp only [up] at F
  k_steps
  refine unstop ?_
  k_dflt (refine' LCg.ListComp_U ?hF ?hc1 ?hc2 ?hc3 ?hc4 ?hc5 ?_; (case hF => k_asm); (case hc1 => rfl); (case hc2 => decide); (case hc3 => rfl); (case hc4 => decide); (case hc5 => rfl))
  k_steps
  with_reducible rename Fr _ _ _ _ => F2
  with_reducible rename News _ _ _ _ => N2
  refine LCg.CompSrc.ledger hA F2 N2 (.head _) ?hz9 fun g1 => ?_
  case hz9 => rw [PySem.sizeLine_eq, List.size_toArray, List.length_map]; omega
  clear F2 N2
  refine comp_inv (fun j ys nx => nx = (Wa, W.listOf (List.toArray (wl.map fun q : Addr × Obj => Value.ref q.1)) kw) :: (b, W.listOf (List.toArray ub) kb) :: (a, W.listOf (List.toArray us) k3) :: (L + 1 + 1 + 1, o1) :: (L + 1 + 1, o2) :: (L + 1, o3) :: (157, tabObj #[]) :: wl ∧ StrsAre ys (((List.range j).map (wT bs cs)).map mkS)) 6 ?step ?fin _ 0 [] _ (by rw [List.size_toArray, List.length_map]; omega) ⟨rfl, .nil⟩
  case step =>
    rintro j ys nx v I1 oI1 C oC1 D m2 h1 tk1 E' hj ⟨rfl, hys⟩ hv hC hx F1 N1 off ne
    obtain ⟨⟨x, ox⟩, hxj⟩ : ∃ q, wl[j]? = some q := ⟨wl[j]'(by omega), List.getElem?_eq_getElem (by omega)⟩
    have hxm := List.mem_of_getElem? hxj
    obtain ⟨tT, tM, rfl⟩ := hW.2 j _ hxj
    obtain rfl : v = .ref x := by simpa [hxj] using hv.symm
    have N1' : News g L h1 ((x, pairO (wT bs cs j) (wM bs cs j) tT tM) :: (I1, oI1) :: (C, oC1) :: (D, LCg.lst ys) :: (Wa, W.listOf (List.toArray (wl.map fun q : Addr × Obj => Value.ref q.1)) kw) :: (b, W.listOf (List.toArray ub) kb) :: (a, W.listOf (List.toArray us) k3) :: (L + 1 + 1 + 1, o1) :: (L + 1 + 1, o2) :: (L + 1, o3) :: (157, tabObj #[]) :: wl) := fun q hq => by
      rcases List.mem_cons.mp hq with rfl | hq
      · exact N1 _ (.tail _ (.tail _ (.tail _ (.tail _ (.tail _ (.tail _ (.tail _ (.tail _ (.tail _ (.tail _ hxm))))))))))
      · exact N1 q hq
    clear N1
    k_steps
    refine LCg.CompEnd.intro F1 N1' _ (fun q hq => .tail _ hq) off ?_ ⟨rfl, ?_⟩
    · exact .inr ⟨_, .head _, rfl, _, rfl⟩
    · rw [List.range_succ, List.map_append]
      exact strsAre_snoc hys _ _
  case fin =>
    rintro ys nx ⟨rfl, hys⟩
    have hyl := hys.length
    simp only [List.length_map, List.length_range] at hyl
    k_steps
    with_reducible rename Fr _ _ _ _ => F2
    with_reducible rename News _ _ _ _ => N2
    rename_i Dy hy tky oy ty
    have hoD : ∀ q ∈ ((Wa, W.listOf (List.toArray (wl.map fun q : Addr × Obj => Value.ref q.1)) kw) :: (b, W.listOf (List.toArray ub) kb) :: (a, W.listOf (List.toArray us) k3) :: (L + 1 + 1 + 1, o1) :: (L + 1 + 1, o2) :: (L + 1, o3) :: (157, tabObj #[]) :: wl), @Ne Nat q.1 Dy := off1_mem (l := ((Wa, W.listOf (List.toArray (wl.map fun q : Addr × Obj => Value.ref q.1)) kw) :: (b, W.listOf (List.toArray ub) kb) :: (a, W.listOf (List.toArray us) k3) :: (L + 1 + 1 + 1, o1) :: (L + 1 + 1, o2) :: (L + 1, o3) :: (157, tabObj #[]) :: wl)) oy
    refine Ct.use (ct_text Dy ys _ ((List.range 6).map (wT bs cs)) hys (by simp) (fun x hx => by
      obtain ⟨k, hk, rfl⟩ := List.mem_map.mp hx
      exact hT k (List.mem_range.mp hk)) _ _) (rest := (Wa, W.listOf (List.toArray (wl.map fun q : Addr × Obj => Value.ref q.1)) kw) :: (b, W.listOf (List.toArray ub) kb) :: (a, W.listOf (List.toArray us) k3) :: (L + 1 + 1 + 1, o1) :: (L + 1 + 1, o2) :: (L + 1, o3) :: (157, tabObj #[]) :: wl) F2 X N2 T hA (dOk hd) (uOk hu) (fun q hq => by rw [List.mem_singleton.mp hq]; exact .head _) (fun q hq => ⟨.tail _ hq, ?_⟩) fun v' sub' h' tk' F6 N6 ne6 P' => ?_
    · intro hm
      have e : @Eq Nat q.1 Dy := by simpa using hm
      exact hoD q hq e
    · obtain ⟨tx, rfl, rfl⟩ := P'
      have N7 : News g L h' ((Wa, W.listOf (List.toArray (wl.map fun q : Addr × Obj => Value.ref q.1)) kw) :: (b, W.listOf (List.toArray ub) kb) :: (a, W.listOf (List.toArray us) k3) :: (L + 1 + 1 + 1, o1) :: (L + 1 + 1, o2) :: (L + 1, o3) :: (157, tabObj #[]) :: wl) := fun q hq => N6 q (List.mem_append_left _ hq)
      clear N6 N2 F2 oy hoD ne6
      k_steps
      refine Ct.use (ct_lexer (mkS (text6 ((List.range 6).map (wT bs cs)) (cs.getD 1 0))) _ (by rw [mk_len]; have := text6_len (wT bs cs) (cs.getD 1 0) hT; omega)) (rest := ((Wa, W.listOf (List.toArray (wl.map fun q : Addr × Obj => Value.ref q.1)) kw) :: (b, W.listOf (List.toArray ub) kb) :: (a, W.listOf (List.toArray us) k3) :: (L + 1 + 1 + 1, o1) :: (L + 1 + 1, o2) :: (L + 1, o3) :: wl)) (by k_asm) X N7 T hA (dOk hd) (uOk hu) (fun q hq => by rw [List.mem_singleton.mp hq]; simp) (fun q hq => ?_) fun v' sub' h8 tk8 F8 N8 ne8 P' => ?_
      · simp only [List.mem_cons] at hq
        have hn : @Ne Nat q.1 157 := by
          rcases hq with rfl | rfl | rfl | rfl | rfl | rfl | hq
          · exact Ne.symm (hWa _ (by simp))
          · exact Ne.symm (hb _ (by simp))
          · exact Ne.symm (ha _ (by simp))
          · dsimp only; omega
          · dsimp only; omega
          · dsimp only; omega
          · exact Ne.symm (hW.1 q hq _ (by simp))
        refine ⟨?_, fun hm => hn (by simpa using hm)⟩
        simp only [List.mem_cons]
        rcases hq with h | h | h | h | h | h | h <;> first | exact (.inl h) | exact (.inr (.inl h)) | exact (.inr (.inr (.inl h))) | exact (.inr (.inr (.inr (.inl h)))) | exact (.inr (.inr (.inr (.inr (.inl h))))) | exact (.inr (.inr (.inr (.inr (.inr (.inl h)))))) | exact (.inr (.inr (.inr (.inr (.inr (.inr (.inl h))))))) | exact (.inr (.inr (.inr (.inr (.inr (.inr (.inr (.inl h)))))))) | exact (.inr (.inr (.inr (.inr (.inr (.inr (.inr (.inr (.inl h))))))))) | exact (.inr (.inr (.inr (.inr (.inr (.inr (.inr (.inr (.inr (.inl h)))))))))) | exact (.inr (.inr (.inr (.inr (.inr (.inr (.inr (.inr (.inr (.inr (.inl h))))))))))) | exact (.inr (.inr (.inr (.inr (.inr (.inr (.inr (.inr (.inr (.inr (.inr (.inl h)))))))))))) | exact (.inr (.inr (.inr (.inr (.inr (.inr (.inr (.inr (.inr (.inr (.inr (.inr (.inl h))))))))))))) | exact (.inr (h)) | exact (.inr (.inr (h))) | exact (.inr (.inr (.inr (h)))) | exact (.inr (.inr (.inr (.inr (h))))) | exact (.inr (.inr (.inr (.inr (.inr (h)))))) | exact (.inr (.inr (.inr (.inr (.inr (.inr (h))))))) | exact (.inr (.inr (.inr (.inr (.inr (.inr (.inr (h)))))))) | exact (.inr (.inr (.inr (.inr (.inr (.inr (.inr (.inr (h))))))))) | exact (.inr (.inr (.inr (.inr (.inr (.inr (.inr (.inr (.inr (h)))))))))) | exact (.inr (.inr (.inr (.inr (.inr (.inr (.inr (.inr (.inr (.inr (h))))))))))) | exact (.inr (.inr (.inr (.inr (.inr (.inr (.inr (.inr (.inr (.inr (.inr (h)))))))))))) | exact (.inr (.inr (.inr (.inr (.inr (.inr (.inr (.inr (.inr (.inr (.inr (.inr (h))))))))))))) | simp [h]
      · obtain ⟨ax, l, rfl, rfl, R, h157, h157c⟩ := P'
        have o157 : 157 ∉ ax.adrs := off_lt R.ord h157 h157c
        have hadr : ∀ x : Addr, (∃ r ∈ ((Wa, W.listOf (List.toArray (wl.map fun q : Addr × Obj => Value.ref q.1)) kw) :: (b, W.listOf (List.toArray ub) kb) :: (a, W.listOf (List.toArray us) k3) :: (L + 1 + 1 + 1, o1) :: (L + 1 + 1, o2) :: (L + 1, o3) :: (157, tabObj #[]) :: wl), r.1 = x) → x ∉ ax.adrs := by
          rintro x ⟨r, hr, rfl⟩ hm
          rw [← R.adr] at hm
          obtain ⟨q, hq, e⟩ := List.mem_map.mp hm
          rcases ne8 q (.tail _ hq) with h1 | h1
          · have h2 : @Eq Nat q.1 157 := by simpa using h1
            exact o157 (by rw [← R.adr]; exact List.mem_map.mpr ⟨q, hq, h2⟩)
          · exact h1 r hr e.symm
        have N9 : News g L h8 ([(Wa, W.listOf (List.toArray (wl.map fun q : Addr × Obj => Value.ref q.1)) kw), (b, W.listOf (List.toArray ub) kb)] ++ (L + 1 + 1 + 1, o1) :: ((L + 1 + 1, o2) :: (157, tabObj #[rawInt 74, rawInt 18, .ref ax.lc]) :: (l ++ wl))) := fun q hq => N8 q (by
          simp only [List.mem_cons, List.mem_append, List.not_mem_nil, or_false] at hq ⊢
          rcases hq with (h | h) | h | h | h | h | h <;> first | exact (.inl h) | exact (.inr (.inl h)) | exact (.inr (.inr (.inl h))) | exact (.inr (.inr (.inr (.inl h)))) | exact (.inr (.inr (.inr (.inr (.inl h))))) | exact (.inr (.inr (.inr (.inr (.inr (.inl h)))))) | exact (.inr (.inr (.inr (.inr (.inr (.inr (.inl h))))))) | exact (.inr (.inr (.inr (.inr (.inr (.inr (.inr (.inl h)))))))) | exact (.inr (.inr (.inr (.inr (.inr (.inr (.inr (.inr (.inl h))))))))) | exact (.inr (.inr (.inr (.inr (.inr (.inr (.inr (.inr (.inr (.inl h)))))))))) | exact (.inr (.inr (.inr (.inr (.inr (.inr (.inr (.inr (.inr (.inr (.inl h))))))))))) | exact (.inr (.inr (.inr (.inr (.inr (.inr (.inr (.inr (.inr (.inr (.inr (.inl h)))))))))))) | exact (.inr (.inr (.inr (.inr (.inr (.inr (.inr (.inr (.inr (.inr (.inr (.inr (.inl h))))))))))))) | exact (.inr (h)) | exact (.inr (.inr (h))) | exact (.inr (.inr (.inr (h)))) | exact (.inr (.inr (.inr (.inr (h))))) | exact (.inr (.inr (.inr (.inr (.inr (h)))))) | exact (.inr (.inr (.inr (.inr (.inr (.inr (h))))))) | exact (.inr (.inr (.inr (.inr (.inr (.inr (.inr (h)))))))) | exact (.inr (.inr (.inr (.inr (.inr (.inr (.inr (.inr (h))))))))) | exact (.inr (.inr (.inr (.inr (.inr (.inr (.inr (.inr (.inr (h)))))))))) | exact (.inr (.inr (.inr (.inr (.inr (.inr (.inr (.inr (.inr (.inr (h))))))))))) | exact (.inr (.inr (.inr (.inr (.inr (.inr (.inr (.inr (.inr (.inr (.inr (h)))))))))))) | exact (.inr (.inr (.inr (.inr (.inr (.inr (.inr (.inr (.inr (.inr (.inr (.inr (h))))))))))))) | simp [h])
        have nA : ∀ q ∈ [(Wa, W.listOf (List.toArray (wl.map fun q : Addr × Obj => Value.ref q.1)) kw), (b, W.listOf (List.toArray ub) kb)], @Ne Nat q.1 (L + 1 + 1 + 1) := by
          intro q hq
          simp only [List.mem_cons, List.not_mem_nil, or_false] at hq
          rcases hq with rfl | rfl
          · exact Ne.symm (hWa _ (by simp))
          · exact Ne.symm (hb _ (by simp))
        have nB : ∀ q ∈ ((L + 1 + 1, o2) :: (157, tabObj #[rawInt 74, rawInt 18, .ref ax.lc]) :: (l ++ wl)), @Ne Nat q.1 (L + 1 + 1 + 1) := by
          intro q hq
          simp only [List.mem_cons, List.mem_append] at hq
          rcases hq with rfl | rfl | hq | hq
          · dsimp only; omega
          · dsimp only; omega
          · exact ne_off (by rw [R.adr]; exact hadr (L + 1 + 1 + 1) ⟨(L + 1 + 1 + 1, o1), by simp, rfl⟩) q hq
          · exact Ne.symm (hW.1 q hq _ (by simp))
        clear N8 N7
        k_steps
        refine unstop ?_
        k_dflt (refine' storeX_C ?qF ?qN ?qc ?qU ?qd ?_ ?qa ?qb; (case qa => rfl); (case qb => rfl); (case qF => k_asm); (case qN => exact N9); (case qc => rfl); (case qU => exact updF_mk _ nA nB); (case qd => k_asm))
        intro h5 o5 F5 N5 d5
        refine k _ _ _ ax l o5 F5 N5 d5 R ?_ (fun q hq => hadr q.1 ⟨q, by simp [hq], rfl⟩) rfl
        intro x hx
        simp only [List.mem_cons, List.not_mem_nil, or_false] at hx
        rcases hx with rfl | rfl | rfl | rfl | rfl
        · exact hadr _ ⟨(_, W.listOf (List.toArray (wl.map fun q : Addr × Obj => Value.ref q.1)) kw), by simp, rfl⟩
        · exact hadr _ ⟨(_, W.listOf (List.toArray ub) kb), by simp, rfl⟩
        · exact hadr _ ⟨(L + 1 + 1 + 1, o1), by simp, rfl⟩
        · exact hadr _ ⟨(L + 1 + 1, o2), by simp, rfl⟩
        · exact o157
end
end Mine
end
noncomputable section
open PySem PySem.W PySem.Calls PyProof.Rows
set_option maxRecDepth 100000
set_option maxHeartbeats 4000000
namespace Mine
local macro_rules | `(tactic| walk_at "storeName") => `(tactic| (dsimp only; walk_at "storeName"))
local macro_rules | `(tactic| walk_at "exec Assign cons ListComp") => `(tactic| (refine stopped ?_))
/-- what is still to be read when k words are read -/
noncomputable def remT (wl : List (List Nat)) (ch : Int) (k : Nat) : List Nat := (((List.range 6).drop k).map (way wl ch)).flatten ++ [107, 92, 32, 92, 10, 92, 92, 11, 34, 35]
theorem remT0 (wl : List (List Nat)) (ch : Int) : remT wl ch 0 = text6 wl ch := rfl
theorem remT6 (wl : List (List Nat)) (ch : Int) : remT wl ch 6 = [107, 92, 32, 92, 10, 92, 92, 11, 34, 35] := rfl
theorem remT_succ (wl : List (List Nat)) (ch : Int) {k : Nat} (hk : k < 6) : remT wl ch k = way wl ch k ++ remT wl ch (k + 1) := by
  unfold remT
  rw [show (List.range 6).drop k = k :: (List.range 6).drop (k + 1) from by
    rw [List.drop_eq_getElem_cons (by simpa using hk)]; simp]
  rw [List.map_cons, List.flatten_cons, List.append_assoc]
theorem remT_len (wl : List (List Nat)) (ch : Int) (k : Nat) : (remT wl ch k).length ≤ (text6 wl ch).length := by
  rw [← remT0]
  unfold remT
  rw [List.length_append, List.length_append]
  have : (((List.range 6).drop k).map (way wl ch)).flatten.length ≤ (((List.range 6).drop 0).map (way wl ch)).flatten.length := by
    have e : (((List.range 6).drop 0).map (way wl ch)).flatten = (((List.range 6).take k).map (way wl ch)).flatten ++ (((List.range 6).drop k).map (way wl ch)).flatten := by
      rw [← List.flatten_append, ← List.map_append, List.take_append_drop, List.drop_zero]
    rw [e, List.length_append]; omega
  omega
section
variable {w : World} {p : Program} {loose : List Str} {mean : ExcName → Option Value} {mg mb : Str → Option Value} {A : Around} {g h : Heap} {L : Addr} {s : Shared} {tk : Nat} {m : Str → Option Value} {Q : Flow → Shared → Prop} {E : Value → Shared → Prop}

theorem lw4 (C : Cx w p loose mean mg mb A g) {b Wa : Addr} {ub : List Value} {kb kw : Nat} {cs bs : List Int} {o1 o2 : Obj} {ax : LexA} {l : Led} (d1 : o1.data = .cell (some (.ref ax.x))) {wl : Led} (hT : ∀ k, k < 6 → (wT bs cs k).length ≤ 20) (hT0 : ∀ k, k < 6 → wT bs cs k ≠ []) (hTs : ∀ k, k < 6 → ∀ c ∈ wT bs cs k, safe c = true)
    (R : LexR w ax 1 #[] (text6 ((List.range 6).map (wT bs cs)) (cs.getD 1 0)) l) (hx : ∀ x ∈ [Wa, b, L + 1 + 1 + 1, L + 1 + 1, 157], x ∉ ax.adrs) (hwx : ∀ q ∈ wl, q.1 ∉ ax.adrs)
    (F : Fr g L h m) (N : News g L h ((Wa, W.listOf (List.toArray (wl.map fun q : Addr × Obj => Value.ref q.1)) kw) :: (b, W.listOf (List.toArray ub) kb) :: (L + 1 + 1 + 1, o1) :: (L + 1 + 1, o2) :: (157, tabObj #[rawInt 74, rawInt 18, .ref ax.lc]) :: (l ++ wl))) (hm : m (Str.ofString "words") = some (.ref Wa))
    (k : ∀ h' tk' m' Rd us kr l', Fr g L h' m' → News g L h' ((Rd, W.listOf (List.toArray us) kr) :: (Wa, W.listOf (List.toArray (wl.map fun q : Addr × Obj => Value.ref q.1)) kw) :: (b, W.listOf (List.toArray ub) kb) :: (L + 1 + 1 + 1, o1) :: (L + 1 + 1, o2) :: (157, tabObj #[rawInt 74, rawInt 18, .ref ax.lc]) :: (l' ++ wl)) → StrsAre us (((List.range 6).map (wT bs cs)).map mkS) → LexR w ax 3 #[] [107, 92, 32, 92, 10, 92, 92, 11, 34, 35] l' → Rd ∉ ax.adrs → m' (Str.ofString "words") = some (.ref Wa) → m' (Str.ofString "read") = some (.ref Rd) → Q .next { s with heap := h', toks := tk' }) :
    wpAny (model prog w) (A.deeper (lawE L)) (exec lawS4.1 (lawE L)) Q E { s with heap := h, toks := tk } := by
  obtain ⟨hA, hd, hu, X, T⟩ := C
  rw [loc_up (m := m) (b := m) [(Str.ofString "words", some (.ref Wa))] (fun _ _ => rfl) (List.forall_mem_cons.mpr ⟨hm, List.forall_mem_nil _⟩)] at F
  dsimp only [up] at F
  k_steps
  refine unstop ?_
  k_dflt (refine LCg.Assign_ListComp_U (F₀ := by k_asm) (by rfl) (by with_unfolding_all rfl) (by with_unfolding_all rfl) (by decide) (by rfl) (by decide) (by rfl) (by rfl) (by rfl) ?_)
  k_steps
  with_reducible rename Fr _ _ _ _ => F2
  with_reducible rename News _ _ _ _ => N2
  refine LCg.CompSrc.range (n := 6) hA F2 N2 (by assumption) (by rfl) (by rfl) (by rw [PySem.sizeLine_eq]; omega) fun g1 => ?_
  clear F2 N2
  refine comp_inv (fun j ys nx => ∃ l, nx = (Wa, W.listOf (List.toArray (wl.map fun q : Addr × Obj => Value.ref q.1)) kw) :: (b, W.listOf (List.toArray ub) kb) :: (L + 1 + 1 + 1, o1) :: (L + 1 + 1, o2) :: (157, tabObj #[rawInt 74, rawInt 18, .ref ax.lc]) :: (l ++ wl) ∧ LexR w ax (1 + lfs (cs.getD 1 0) j) #[] (remT ((List.range 6).map (wT bs cs)) (cs.getD 1 0) j) l ∧ StrsAre ys (((List.range j).map (wT bs cs)).map mkS)) 6 ?step ?fin 6 0 [] _ (by omega) ⟨l, rfl, by rw [remT0]; exact R, .nil⟩
  case step =>
    rintro j ys nx v I1 oI1 C oC1 D m2 h1 tk1 E' hj ⟨l, rfl, R3, hys⟩ ⟨t9, rfl⟩ hC hxx F1 N1 off ne
    have hoff := off.mem
    have hlm : ∀ q ∈ l, q ∈ (Wa, W.listOf (List.toArray (wl.map fun q : Addr × Obj => Value.ref q.1)) kw) :: (b, W.listOf (List.toArray ub) kb) :: (L + 1 + 1 + 1, o1) :: (L + 1 + 1, o2) :: (157, tabObj #[rawInt 74, rawInt 18, .ref ax.lc]) :: (l ++ wl) := fun q hq => List.mem_append_right [(Wa, W.listOf (List.toArray (wl.map fun q : Addr × Obj => Value.ref q.1)) kw), (b, W.listOf (List.toArray ub) kb), (L + 1 + 1 + 1, o1), (L + 1 + 1, o2), (157, tabObj #[rawInt 74, rawInt 18, .ref ax.lc])] (List.mem_append_left wl hq)
    have hA1 : I1 ∉ ax.adrs := by rw [← R3.adr]; exact off_ne fun q hq => (hoff q (hlm q hq)).1
    have hA2 : C ∉ ax.adrs := by rw [← R3.adr]; exact off_ne fun q hq => (hoff q (hlm q hq)).2.1
    have hA3 : D ∉ ax.adrs := by rw [← R3.adr]; exact off_ne fun q hq => (hoff q (hlm q hq)).2.2
    have hrl := remT_len ((List.range 6).map (wT bs cs)) (cs.getD 1 0) j
    have htl := text6_len (wT bs cs) (cs.getD 1 0) hT
    have R3' := R3
    obtain ⟨pm3, ctv3, pn3, sv3, sn3, ta3, ts3, u3, oc3, olc3, vl3, tq3, qv3, qn3, rfl, hs3, ho3, da3, db3, -⟩ := R3
    clear hlm
    simp only [List.cons_append, List.nil_append] at N1
    k_steps
    refine Ct.use (ct_tok ax _ _ (by omega) _ R3') (rest := (I1, oI1) :: (C, oC1) :: (D, LCg.lst ys) :: (Wa, W.listOf (List.toArray (wl.map fun q : Addr × Obj => Value.ref q.1)) kw) :: (b, W.listOf (List.toArray ub) kb) :: (L + 1 + 1 + 1, o1) :: (L + 1 + 1, o2) :: (157, tabObj #[rawInt 74, rawInt 18, .ref ax.lc]) ::  wl) F1 X N1 T hA (dOk hd) (uOk hu) (fun q hq => ?_) (fun q hq => ⟨?_, ?_⟩) fun rr sub' h6 tk6 F6 N6 ne6 P6 => ?_
    · exact List.mem_append_right ((I1, oI1) :: (C, oC1) :: (D, LCg.lst ys) :: [(Wa, W.listOf (List.toArray (wl.map fun q : Addr × Obj => Value.ref q.1)) kw), (b, W.listOf (List.toArray ub) kb), (L + 1 + 1 + 1, o1), (L + 1 + 1, o2), (157, tabObj #[rawInt 74, rawInt 18, .ref ax.lc])]) (List.mem_append_left wl hq)
    · exact mem_mid (l := lexL w pm3 ctv3 ax _ #[] pn3 sv3 sn3 ta3 ts3 u3 oc3 olc3 qv3 qn3) (R := [(I1, oI1), (C, oC1), (D, LCg.lst ys), (Wa, W.listOf (List.toArray (wl.map fun q : Addr × Obj => Value.ref q.1)) kw), (b, W.listOf (List.toArray ub) kb), (L + 1 + 1 + 1, o1), (L + 1 + 1, o2), (157, tabObj #[rawInt 74, rawInt 18, .ref ax.lc])]) hq
    · rw [R3'.adr]
      obtain ⟨x1, x2, x3, x4, x5, -⟩ := of5 hx
      exact all3 (P := fun q : Addr × Obj => q.1 ∉ ax.adrs) hA1 hA2 hA3 (all5 x1 x2 x3 x4 x5 hwx) q hq
    · obtain ⟨tt, rfl, R6⟩ := P6
      have hgd := getD_range (wT bs cs) hj
      have htw := tok_way ((List.range 6).map (wT bs cs)) (cs.getD 1 0) j (remT ((List.range 6).map (wT bs cs)) (cs.getD 1 0) (j + 1)) (1 + lfs (cs.getD 1 0) j) (by rw [hgd]; exact hTs j hj) (by rw [hgd]; exact hT0 j hj)
      rw [← remT_succ _ _ hj, hgd] at htw
      rw [htw] at R6 ⊢
      refine LCg.CompEnd.intro F6 N6 ((Wa, W.listOf (List.toArray (wl.map fun q : Addr × Obj => Value.ref q.1)) kw) :: (b, W.listOf (List.toArray ub) kb) :: (L + 1 + 1 + 1, o1) :: (L + 1 + 1, o2) :: (157, tabObj #[rawInt 74, rawInt 18, .ref ax.lc]) :: (sub' ++ wl)) (fun q hq => ?_) (LCg.Off3.of fun q hq => ?_) trivial ⟨sub', rfl, ?_, ?_⟩
      · exact mem_swap (R := [(I1, oI1), (C, oC1), (D, LCg.lst ys), (Wa, W.listOf (List.toArray (wl.map fun q : Addr × Obj => Value.ref q.1)) kw), (b, W.listOf (List.toArray ub) kb), (L + 1 + 1 + 1, o1), (L + 1 + 1, o2), (157, tabObj #[rawInt 74, rawInt 18, .ref ax.lc])]) hq
      · obtain ⟨y1, y2, y3, y4, y5, yr⟩ := of5 hoff
        refine all5 (P := fun q : Addr × Obj => @Ne Nat q.1 I1 ∧ @Ne Nat q.1 C ∧ @Ne Nat q.1 D) y1 y2 y3 y4 y5 (fun q hq => ?_) q hq
        rcases List.mem_append.mp hq with hq | hq
        · have hm : q.1 ∈ ax.adrs := by rw [← R6.adr]; exact List.mem_map_of_mem hq
          exact ⟨fun e => hA1 (e ▸ hm), fun e => hA2 (e ▸ hm), fun e => hA3 (e ▸ hm)⟩
        · exact yr q (List.mem_append_right _ hq)
      · rw [show 1 + lfs (cs.getD 1 0) (j + 1) = 1 + lfs (cs.getD 1 0) j + lfk (cs.getD 1 0) j by rw [lfs]; omega]
        exact R6
      · show StrsAre (ys ++ [.str (mkS (wT bs cs j)) tt]) (((List.range (j + 1)).map (wT bs cs)).map mkS)
        rw [List.range_succ, List.map_append]
        exact strsAre_snoc hys _ _
  case fin =>
    rintro ys nx ⟨l', rfl, R3, hys⟩
    rw [lfs6, remT6] at R3
    unfold LCg.FinA
    intro B hB tkB FB NB oB
    have hoB := off1_mem oB
    k_steps
    with_reducible rename Fr _ _ _ _ => F5
    with_reducible rename News _ _ _ _ => N5
    refine k _ _ _ B ys _ l' F5 N5 hys R3 ?_ rfl rfl
    rw [← R3.adr]
    exact off_ne fun q hq => hoB q (List.mem_append_right [(Wa, W.listOf (List.toArray (wl.map fun q : Addr × Obj => Value.ref q.1)) kw), (b, W.listOf (List.toArray ub) kb), (L + 1 + 1 + 1, o1), (L + 1 + 1, o2), (157, tabObj #[rawInt 74, rawInt 18, .ref ax.lc])] (List.mem_append_left wl hq))
end
end Mine
end
noncomputable section
open PySem PySem.W PySem.Calls PyProof.Rows
set_option maxRecDepth 100000
set_option maxHeartbeats 4000000
namespace Mine
local macro_rules | `(tactic| walk_at "storeName") => `(tactic| (dsimp only; walk_at "storeName"))
local macro_rules | `(tactic| walk_at "exec Assign cons ListComp") => `(tactic| (refine stopped ?_))
section
variable {w : World} {p : Program} {loose : List Str} {mean : ExcName → Option Value} {mg mb : Str → Option Value} {A : Around} {g h : Heap} {L : Addr} {s : Shared} {tk : Nat} {m : Str → Option Value} {Q : Flow → Shared → Prop} {E : Value → Shared → Prop}

theorem lw5 (C : Cx w p loose mean mg mb A g) {Wa Rd : Addr} {us : List Value} {kr : Nat} {cs bs : List Int} {tl : Led} (hT : ∀ k, k < 6 → (wT bs cs k).length ≤ 20) (hM : ∀ k, k < 6 → (wM bs cs k).length ≤ 20) (hus : StrsAre us (((List.range 6).map (wT bs cs)).map mkS))
    (F : Fr g L h m) (N : News g L h ((Rd, W.listOf (List.toArray us) kr) :: tl)) (hm : m (Str.ofString "words") = some (.ref Wa)) (hm2 : m (Str.ofString "read") = some (.ref Rd))
    (k : ∀ h' tk' m' H hv kh, Fr g L h' m' → News g L h' ((H, W.listOf (List.toArray hv) kh) :: (Rd, W.listOf (List.toArray us) kr) :: tl) → StrsAre hv (((List.range 6).map (wM bs cs)).map mkS) → (∀ q ∈ (Rd, W.listOf (List.toArray us) kr) :: tl, @Ne Nat q.1 H) → m' (Str.ofString "words") = some (.ref Wa) → m' (Str.ofString "read") = some (.ref Rd) → m' (Str.ofString "heaps") = some (.ref H) → Q .next { s with heap := h', toks := tk' }) :
    wpAny (model prog w) (A.deeper (lawE L)) (exec lawS5.1 (lawE L)) Q E { s with heap := h, toks := tk } := by
  obtain ⟨hA, hd, hu, X, T⟩ := C
  have hul := hus.length
  rw [List.length_map, List.length_map, List.length_range] at hul
  rw [loc_up (m := m) (b := m) [(Str.ofString "words", some (.ref Wa)), (Str.ofString "read", some (.ref Rd))] (fun _ _ => rfl) (by simp [hm, hm2])] at F
  dsimp only [up] at F
  k_steps
  refine unstop ?_
  k_dflt (refine LCg.Assign_ListComp_U (F₀ := by k_asm) (by rfl) (by with_unfolding_all rfl) (by with_unfolding_all rfl) (by decide) (by rfl) (by decide) (by rfl) (by rfl) (by rfl) ?_)
  k_steps
  with_reducible rename Fr _ _ _ _ => F2
  with_reducible rename News _ _ _ _ => N2
  refine LCg.CompSrc.ledger hA F2 N2 (.head _) ?hz9 fun g1 => ?_
  case hz9 => rw [PySem.sizeLine_eq, List.size_toArray]; omega
  clear F2 N2
  refine comp_inv (fun j ys nx => nx = (Rd, W.listOf (List.toArray us) kr) :: tl ∧ StrsAre ys (((List.range j).map (wM bs cs)).map mkS)) 6 ?step ?fin _ 0 [] _ (by rw [List.size_toArray]; omega) ⟨rfl, .nil⟩
  case step =>
    rintro j ys nx v I1 oI1 C oC1 D m2 h1 tk1 E' hj ⟨rfl, hys⟩ hv hC hxx F1 N1 off ne
    obtain ⟨tv, rfl⟩ := strs_at hus (show us[j]? = some v by simpa using hv)
    rw [getD_range (wT bs cs) hj] at *
    have hty := (typed_ok (cntW bs j) (cs.getD (2 + j) 0)).1
    have h1T := hT j hj
    have h1M := hM j hj
    k_steps
    refine Ct.use0 (ct_prep (wT bs cs j) (by omega) (by rw [show ((prepL (wT bs cs j)).map lowL).flatten = wM bs cs j from hty]; omega) tv) F1 X N1 T hA (dOk hd) (uOk hu) fun v' sub' h' tk' F' N' P' => ?_
    obtain ⟨tp, rfl, -⟩ := P'
    rw [show ((prepL (wT bs cs j)).map lowL).flatten = wM bs cs j from hty]
    k_steps
    refine LCg.CompEnd.intro F' N' ((Rd, W.listOf (List.toArray us) kr) :: tl) (fun q hq => hq) off ?_ ⟨rfl, ?_⟩
    · exact .inr ⟨_, .head _, rfl, _, rfl⟩
    · rw [List.range_succ, List.map_append]
      exact strsAre_snoc hys _ _
  case fin =>
    rintro ys nx ⟨rfl, hys⟩
    unfold LCg.FinA
    intro B hB tkB FB NB oB
    have hoB := off1_mem oB
    k_steps
    with_reducible rename Fr _ _ _ _ => F5
    with_reducible rename News _ _ _ _ => N5
    exact k _ _ _ B ys _ F5 N5 hys hoB rfl rfl rfl
end
end Mine
end
noncomputable section
open PySem PySem.W PySem.Calls PyProof.Rows
set_option maxRecDepth 100000
set_option maxHeartbeats 4000000
namespace Mine
local macro_rules | `(tactic| walk_at "storeName") => `(tactic| (dsimp only; walk_at "storeName"))
local macro_rules | `(tactic| walk_at "eval ListComp") => `(tactic| (refine stopped ?_))
local macro_rules | `(tactic| walk_at "compareOp NotEq ref ref") => `(tactic| (refine stopped ?_))
section
variable {w : World} {p : Program} {loose : List Str} {mean : ExcName → Option Value} {mg mb : Str → Option Value} {A : Around} {g h : Heap} {L : Addr} {s : Shared} {tk : Nat} {m : Str → Option Value} {Q : Flow → Shared → Prop} {E : Value → Shared → Prop}

theorem lw6 (C : Cx w p loose mean mg mb A g) {Wa Rd H : Addr} {us hv : List Value} {kr kw kh : Nat} {cs bs : List Int} {fx : List Addr} {wl ld : Led} (hwl : wl.length = 6) (hW : WdOk bs cs fx wl) (hus : StrsAre us (((List.range 6).map (wT bs cs)).map mkS)) (hhv : StrsAre hv (((List.range 6).map (wM bs cs)).map mkS)) (okT : okL ((List.range 6).map (wT bs cs))) (okM : okL ((List.range 6).map (wM bs cs)))
    (mH : (H, W.listOf (List.toArray hv) kh) ∈ ld) (mR : (Rd, W.listOf (List.toArray us) kr) ∈ ld) (mW : (Wa, W.listOf (List.toArray (wl.map fun q : Addr × Obj => Value.ref q.1)) kw) ∈ ld) (mw : ∀ q ∈ wl, q ∈ ld)
    (F : Fr g L h m) (N : News g L h ld) (hm : m (Str.ofString "words") = some (.ref Wa)) (hm2 : m (Str.ofString "read") = some (.ref Rd)) (hm3 : m (Str.ofString "heaps") = some (.ref H))
    (k : ∀ h' tk' m', Fr g L h' m' → News g L h' ld → m' (Str.ofString "heaps") = some (.ref H) → Q .next { s with heap := h', toks := tk' }) :
    wpAny (model prog w) (A.deeper (lawE L)) (exec lawS6.1 (lawE L)) Q E { s with heap := h, toks := tk } := by
  obtain ⟨hA, hd, hu, X, T⟩ := C
  rw [loc_up (m := m) (b := m) [(Str.ofString "words", some (.ref Wa)), (Str.ofString "read", some (.ref Rd)), (Str.ofString "heaps", some (.ref H))] (fun _ _ => rfl) (List.forall_mem_cons.mpr ⟨hm, List.forall_mem_cons.mpr ⟨hm2, List.forall_mem_cons.mpr ⟨hm3, List.forall_mem_nil _⟩⟩⟩)] at F
  dsimp only [up] at F
  k_steps
  refine unstop ?_
  k_dflt (refine' LCg.ListComp_U ?hF ?hc1 ?hc2 ?hc3 ?hc4 ?hc5 ?_; (case hF => k_asm); (case hc1 => rfl); (case hc2 => decide); (case hc3 => rfl); (case hc4 => decide); (case hc5 => rfl))
  k_steps
  with_reducible rename Fr _ _ _ _ => F2
  with_reducible rename News _ _ _ _ => N2
  refine LCg.CompSrc.ledger hA F2 N2 mW ?hz9 fun g1 => ?_
  case hz9 => rw [PySem.sizeLine_eq, List.size_toArray, List.length_map]; omega
  clear F2 N2
  refine comp_inv (fun j ys nx => nx = ld ∧ StrsAre ys (((List.range j).map (wT bs cs)).map mkS)) 6 ?step ?fin _ 0 [] _ (by rw [List.size_toArray, List.length_map]; omega) ⟨rfl, .nil⟩
  case step =>
    rintro j ys nx v I1 oI1 C oC1 D m2 h1 tk1 E' hj ⟨rfl, hys⟩ hvv hC hx F1 N1 off ne
    obtain ⟨⟨x, ox⟩, hxj⟩ : ∃ q, wl[j]? = some q := ⟨wl[j]'(by omega), List.getElem?_eq_getElem (by omega)⟩
    have hxm := List.mem_of_getElem? hxj
    obtain ⟨tT, tM, rfl⟩ := hW.2 j _ hxj
    obtain rfl : v = .ref x := by simpa [hxj] using hvv.symm
    have N1' : News g L h1 ((x, pairO (wT bs cs j) (wM bs cs j) tT tM) :: (I1, oI1) :: (C, oC1) :: (D, LCg.lst ys) :: nx) := fun q hq => by
      rcases List.mem_cons.mp hq with rfl | hq
      · exact N1 _ (.tail _ (.tail _ (.tail _ (mw _ hxm))))
      · exact N1 q hq
    clear N1
    k_steps
    refine LCg.CompEnd.intro F1 N1' nx (fun q hq => .tail _ hq) off ?_ ⟨rfl, ?_⟩
    · exact .inr ⟨_, mW, rfl, _, rfl⟩
    · rw [List.range_succ, List.map_append]
      exact strsAre_snoc hys _ _
  case fin =>
    rintro ys nx ⟨rfl, hys⟩
    have hys2 : StrsAre ys (((List.range 6).map (wT bs cs)).map mkS) := by simpa [hwl] using hys
    clear hys
    k_steps
    refine unstop ?_
    with_reducible rename Fr _ _ _ _ => F3
    with_reducible rename News _ _ _ _ => N3
    refine es_ne (by exact News.isList N3 (.tail _ mR)) (by exact News.isList N3 (.head _)) hus hys2 okT okT (uOk hu) ?_
    rw [decide_eq_true rfl, Bool.not_true]
    replace N3 := News.tl N3
    k_steps
    refine unstop ?_
    k_dflt (refine' LCg.ListComp_U ?hF ?hc1 ?hc2 ?hc3 ?hc4 ?hc5 ?_; (case hF => k_asm); (case hc1 => rfl); (case hc2 => decide); (case hc3 => rfl); (case hc4 => decide); (case hc5 => rfl))
    k_steps
    with_reducible rename Fr _ _ _ _ => F2
    with_reducible rename News _ _ _ _ => N2
    refine LCg.CompSrc.ledger hA F2 N2 mW ?hz8 fun g2 => ?_
    case hz8 => rw [PySem.sizeLine_eq, List.size_toArray, List.length_map]; omega
    clear F2 N2
    refine comp_inv (fun j ys n2 => n2 = nx ∧ StrsAre ys (((List.range j).map (wM bs cs)).map mkS)) 6 ?step2 ?fin2 _ 0 [] _ (by rw [List.size_toArray, List.length_map]; omega) ⟨rfl, .nil⟩
    case step2 =>
      rintro j ys n2 v I1 oI1 C oC1 D m2 h1 tk1 E' hj ⟨rfl, hys⟩ hvv hC hx F1 N1 off ne
      obtain ⟨⟨x, ox⟩, hxj⟩ : ∃ q, wl[j]? = some q := ⟨wl[j]'(by omega), List.getElem?_eq_getElem (by omega)⟩
      have hxm := List.mem_of_getElem? hxj
      obtain ⟨tT, tM, rfl⟩ := hW.2 j _ hxj
      obtain rfl : v = .ref x := by simpa [hxj] using hvv.symm
      have N1' : News g L h1 ((x, pairO (wT bs cs j) (wM bs cs j) tT tM) :: (I1, oI1) :: (C, oC1) :: (D, LCg.lst ys) :: n2) := fun q hq => by
        rcases List.mem_cons.mp hq with rfl | hq
        · exact N1 _ (.tail _ (.tail _ (.tail _ (mw _ hxm))))
        · exact N1 q hq
      clear N1
      k_steps
      refine LCg.CompEnd.intro F1 N1' n2 (fun q hq => .tail _ hq) off ?_ ⟨rfl, ?_⟩
      · exact .inr ⟨_, mW, rfl, _, rfl⟩
      · rw [List.range_succ, List.map_append]
        exact strsAre_snoc hys _ _
    case fin2 =>
      rintro ys n2 ⟨rfl, hys⟩
      have hys3 : StrsAre ys (((List.range 6).map (wM bs cs)).map mkS) := by simpa [hwl] using hys
      clear hys
      k_steps
      refine unstop ?_
      with_reducible rename Fr _ _ _ _ => F3
      with_reducible rename News _ _ _ _ => N3
      refine es_ne (by exact News.isList N3 (.tail _ mH)) (by exact News.isList N3 (.head _)) hhv hys3 okM okM (uOk hu) ?_
      rw [decide_eq_true rfl, Bool.not_true]
      replace N3 := News.tl N3
      k_steps
      exact k _ _ _ F3 N3 rfl
end
end Mine
end
noncomputable section
open PySem PySem.W PySem.Calls PyProof.Rows
set_option maxRecDepth 100000
set_option maxHeartbeats 4000000
namespace Mine
local macro_rules | `(tactic| walk_at "storeName") => `(tactic| (dsimp only; walk_at "storeName"))
local macro_rules | `(tactic| walk_at "exec For Name Name cons nil") => `(tactic| refine stopped ?_)
section
variable {w : World} {p : Program} {loose : List Str} {mean : ExcName → Option Value} {mg mb : Str → Option Value} {A : Around} {g h : Heap} {L : Addr} {s : Shared} {tk : Nat} {m : Str → Option Value} {Q : Flow → Shared → Prop} {E : Value → Shared → Prop}

theorem lw7 (C : Cx w p loose mean mg mb A g) {b H : Addr} {ub hv : List Value} {kb kh : Nat} {o1 o2 : Obj} {ax : LexA} {l : Led} {line : Int} {cl : List Nat} (d1 : o1.data = .cell (some (.ref ax.x))) (h6 : hv.length = 6)
    (R : LexR w ax line #[] cl l) (hx : ∀ x ∈ [H, b, L + 1 + 1 + 1, L + 1 + 1, 157], x ∉ ax.adrs)
    (F : Fr g L h m) (N : News g L h ((H, W.listOf (List.toArray hv) kh) :: (b, W.listOf (List.toArray ub) kb) :: (L + 1 + 1 + 1, o1) :: (L + 1 + 1, o2) :: (157, tabObj #[rawInt 74, rawInt 18, .ref ax.lc]) :: l)) (hm : m (Str.ofString "heaps") = some (.ref H))
    (k : ∀ h' tk' m' l', Fr g L h' m' → News g L h' ((H, W.listOf (List.toArray hv) kh) :: (b, W.listOf (List.toArray ub) kb) :: (L + 1 + 1 + 1, o1) :: (L + 1 + 1, o2) :: (157, tabObj #[rawInt 74, rawInt 18, .ref ax.lc]) :: l') → LexR w ax line (List.toArray hv) cl l' → m' (Str.ofString "heaps") = some (.ref H) → Q .next { s with heap := h', toks := tk' }) :
    wpAny (model prog w) (A.deeper (lawE L)) (exec lawS7.1 (lawE L)) Q (fun _ _ => False) { s with heap := h, toks := tk } := by
  obtain ⟨hA, hd, hu, X, T⟩ := C
  rw [loc_up (m := m) (b := m) [(Str.ofString "heaps", some (.ref H))] (fun _ _ => rfl) (List.forall_mem_cons.mpr ⟨hm, List.forall_mem_nil _⟩)] at F
  dsimp only [up] at F
  k_steps
  refine unstop ?_
  k_here
  (rename Fr _ _ _ _ => lF')
  (with_unfolding_all refine' For_invVF lF' ?k1 ?k2 ?_; (case k1 => exact rfl); (case k2 => exact rfl); k_whole)
  k_steps
  with_reducible rename Fr _ _ _ _ => F9
  with_reducible rename News _ _ _ _ => N9
  k_dflt (refine for_list (fun j m nx => ∃ l, m (Str.ofString "heaps") = some (.ref H) ∧ nx = (H, W.listOf (List.toArray hv) kh) :: (b, W.listOf (List.toArray ub) kb) :: (L + 1 + 1 + 1, o1) :: (L + 1 + 1, o2) :: (157, tabObj #[rawInt 74, rawInt 18, .ref ax.lc]) :: l ∧ LexR w ax line (List.toArray (hv.take j)) cl l) hA rfl (by is_list) F9 N9 (.head _) ?hj3 ?turn3 ?done3)
  case hj3 => exact ⟨l, rfl, rfl, by rw [List.take_zero]; exact R⟩
  case turn3 =>
    rintro j v m₂ nx h tk I3 oI3 hvj ⟨l, hn1, rfl, R4⟩ hI3' hkeep F1 N1
    rw [loc_up (m := m₂) (b := m₂) [(Str.ofString "heaps", some (.ref H))] (fun _ _ => rfl) (List.forall_mem_cons.mpr ⟨hn1, List.forall_mem_nil _⟩)] at F1
    dsimp only [up] at F1
    clear F9 N9
    have hI3a : I3 ∉ ax.adrs := by rw [← R4.adr]; exact off_ne fun p hp => hI3' p (List.mem_append_right [(H, W.listOf (List.toArray hv) kh), (b, W.listOf (List.toArray ub) kb), (L + 1 + 1 + 1, o1), (L + 1 + 1, o2), (157, tabObj #[rawInt 74, rawInt 18, .ref ax.lc])] hp)
    have R4' := R4
    obtain ⟨pm4, ctv4, pn4, sv4, sn4, ta4, ts4, u4, oc4, olc4, vl4, tq4, qv4, qn4, rfl, hs4, ho4, da4, db4, -⟩ := R4
    k_steps
    with_reducible rename Fr _ _ _ _ => F5
    with_reducible rename News _ _ _ _ => N5
    refine Ct.use (ct_pushR ax line _ (by rw [List.size_toArray, List.length_take]; omega) v _ _ R4') (rest := (I3, oI3) :: [(H, W.listOf (List.toArray hv) kh), (b, W.listOf (List.toArray ub) kb), (L + 1 + 1 + 1, o1), (L + 1 + 1, o2), (157, tabObj #[rawInt 74, rawInt 18, .ref ax.lc])]) F5 X N5 T hA (dOk hd) (uOk hu) (fun q hq => List.mem_append_right ((I3, oI3) :: [(H, W.listOf (List.toArray hv) kh), (b, W.listOf (List.toArray ub) kb), (L + 1 + 1 + 1, o1), (L + 1 + 1, o2), (157, tabObj #[rawInt 74, rawInt 18, .ref ax.lc])]) hq) (fun q hq => ⟨List.mem_append_left _ hq, ?_⟩) fun rr sub' h6 tk6 F6 N6 ne6 P6 => ?_
    · rw [R4'.adr]
      simp only [List.mem_cons, List.not_mem_nil, or_false] at hq
      rcases hq with rfl | rfl | rfl | rfl | rfl | rfl
      · exact hI3a
      · exact hx _ (by simp)
      · exact hx _ (by simp)
      · exact hx _ (by simp)
      · exact hx _ (by simp)
      · exact hx _ (by simp)
    · obtain ⟨rfl, R5⟩ := P6
      clear F5 N5
      k_steps
      refine turn_next (nx := (H, W.listOf (List.toArray hv) kh) :: (b, W.listOf (List.toArray ub) kb) :: (L + 1 + 1 + 1, o1) :: (L + 1 + 1, o2) :: (157, tabObj #[rawInt 74, rawInt 18, .ref ax.lc]) :: sub') F6 N6 (by rfl) (fun q hq => hq) ?_ (fun q hq => by rw [List.mem_singleton.mp hq]; exact .head _) ⟨sub', rfl, rfl, ?_⟩
      · intro q hq
        simp only [List.mem_cons] at hq
        rcases hq with rfl | rfl | rfl | rfl | rfl | hq
        · exact hI3' _ (.head _)
        · exact hI3' _ (.tail _ (.head _))
        · exact hI3' _ (.tail _ (.tail _ (.head _)))
        · exact hI3' _ (.tail _ (.tail _ (.tail _ (.head _))))
        · exact hI3' _ (.tail _ (.tail _ (.tail _ (.tail _ (.head _)))))
        · exact ne_off (by rw [R5.adr]; exact hI3a) q hq
      · rw [List.push_toArray] at R5
        rw [List.take_add_one, hvj]
        exact R5
  case done3 =>
    rintro m₂ nx h tk ⟨l, hn1, rfl, R4⟩ hkeep F1 N1
    rw [List.take_length] at R4
    exact k _ _ _ l F1 N1 R4 hn1
end
end Mine
end
noncomputable section
open PySem PySem.W PySem.Calls PyProof.Rows
set_option maxRecDepth 100000
set_option maxHeartbeats 4000000
namespace Mine
local macro_rules | `(tactic| walk_at "storeName") => `(tactic| (dsimp only; walk_at "storeName"))
section
variable {w : World} {p : Program} {loose : List Str} {mean : ExcName → Option Value} {mg mb : Str → Option Value} {A : Around} {g h : Heap} {L : Addr} {s : Shared} {tk : Nat} {m : Str → Option Value} {Q : Flow → Shared → Prop} {E : Value → Shared → Prop}

theorem lw8 (C : Cx w p loose mean mg mb A g) {b H : Addr} {ub hv : List Value} {kb kh : Nat} {bs : List Int} {ms : List (List Nat)} {o1 o2 : Obj} {ax : LexA} {l : Led} {line : Int} {cl : List Nat} (d1 : o1.data = .cell (some (.ref ax.x))) (d2 : o2.data = .cell (some (.ref b))) (hhv : StrsAre hv (ms.map mkS)) (h6 : ms.length = 6) (hms : ∀ x ∈ ms, x.length ≤ 10) (hub : IntsAre ub bs) (hb6 : bs.length = 6) (hsum : bs.sum = (ms.flatten.length : Int)) (hn : ms.flatten.length ≤ 30)
    (R : LexR w ax line (List.toArray hv) cl l) (hx : ∀ x ∈ [H, b, L + 1 + 1 + 1, L + 1 + 1, 157], x ∉ ax.adrs)
    (F : Fr g L h m) (N : News g L h ((H, W.listOf (List.toArray hv) kh) :: (b, W.listOf (List.toArray ub) kb) :: (L + 1 + 1 + 1, o1) :: (L + 1 + 1, o2) :: (157, tabObj #[rawInt 74, rawInt 18, .ref ax.lc]) :: l)) (hm : m (Str.ofString "heaps") = some (.ref H))
    (k : ∀ h' tk' m' Ho hov ko us th l', Fr g L h' m' → News g L h' ((Ho, W.listOf (List.toArray hov) ko) :: (H, W.listOf (List.toArray hv) kh) :: (b, W.listOf (List.toArray ub) kb) :: (L + 1 + 1 + 1, o1) :: (L + 1 + 1, o2) :: (157, tabObj #[rawInt 74, rawInt 18, .ref ax.lc]) :: l') → IntsAre hov (sowS ms ms.flatten.length).2.2 → StrsAre us ((sowS ms ms.flatten.length).1.map mkS) → LexR w ax line (List.toArray us) cl l' → (∀ x ∈ [H, b, L + 1 + 1 + 1, L + 1 + 1, 157], @Ne Nat x Ho) → Ho ∉ ax.adrs → m' (Str.ofString "heaps") = some (.ref H) → m' (Str.ofString "home") = some (.str (mkS (sowS ms ms.flatten.length).2.1) th) → m' (Str.ofString "holes") = some (.ref Ho) → Q .next { s with heap := h', toks := tk' }) :
    wpAny (model prog w) (A.deeper (lawE L)) (exec lawS8.1 (lawE L)) Q E { s with heap := h, toks := tk } := by
  obtain ⟨hA, hd, hu, X, T⟩ := C
  rw [loc_up (m := m) (b := m) [(Str.ofString "heaps", some (.ref H))] (fun _ _ => rfl) (by simp [hm])] at F
  dsimp only [up] at F
  have hubl := hub.length
  k_steps
  refine LSm.sum_ints (by k_asm) (by k_asm) (by first | exact hA | (show A.handled = none; exact hA)) (by is_list) hub fun h2 tk2 t2 F2 N2 => ?_
  rw [hsum]
  clear F N
  have R' := R
  k_steps
  refine Ct.use (ct_sown ax line cl _ ms hv hhv h6 hms R' ms.flatten.length hn _) (rest := [(H, W.listOf (List.toArray hv) kh), (b, W.listOf (List.toArray ub) kb), (L + 1 + 1 + 1, o1), (L + 1 + 1, o2), (157, tabObj #[rawInt 74, rawInt 18, .ref ax.lc])]) F2 X N2 T hA (dOk hd) (uOk hu) (fun q hq => List.mem_append_right [(H, W.listOf (List.toArray hv) kh), (b, W.listOf (List.toArray ub) kb), (L + 1 + 1 + 1, o1), (L + 1 + 1, o2), (157, tabObj #[rawInt 74, rawInt 18, .ref ax.lc])] hq) (fun q hq => ⟨List.mem_append_left _ hq, ?_⟩) fun rr sub' h6 tk6 F6 N6 ne6 P6 => ?_
  · rw [R'.adr]
    simp only [List.mem_cons, List.not_mem_nil, or_false] at hq
    rcases hq with rfl | rfl | rfl | rfl | rfl
    · exact hx _ (by simp)
    · exact hx _ (by simp)
    · exact hx _ (by simp)
    · exact hx _ (by simp)
    · exact hx _ (by simp)
  · obtain ⟨tp, th, Ho, hov, ko, us, l', rfl, rfl, hhov, hus, R6, hHo⟩ := P6
    simp only [List.cons_append, List.nil_append] at N6
    clear F2 N2
    k_dflt (refine' unpackN_ ?qF ?qN ?qT ?qh ?q1 ?q2 ?_; (case qF => k_asm); (case qN => k_asm); (case qT => exact News.isTup (by k_asm) (by k_mem)); (case qh => exact hA); (case q1 => exact rfl); (case q2 => exact rfl))
    intro h7 F7 N7
    clear F6 N6
    k_steps
    with_reducible rename Fr _ _ _ _ => F5
    with_reducible rename News _ _ _ _ => N5
    have hne : ∀ r ∈ (H, W.listOf (List.toArray hv) kh) :: (b, W.listOf (List.toArray ub) kb) :: (L + 1 + 1 + 1, o1) :: (L + 1 + 1, o2) :: (157, tabObj #[rawInt 74, rawInt 18, .ref ax.lc]) :: l, @Ne Nat r.1 Ho := by
      rcases ne6 _ (.tail _ (.head _)) with h1 | h1
      · rw [R'.adr] at h1; exact absurd h1 hHo
      · exact h1
    refine k _ _ _ Ho hov ko us th l' F5 (fun q hq => N5 q ?_) hhov hus R6 ?_ hHo rfl rfl rfl
    · simp only [List.mem_cons] at hq ⊢
      rcases hq with h | h | h | h | h | h | h <;> first | exact (.inl h) | exact (.inr (.inl h)) | exact (.inr (.inr (.inl h))) | exact (.inr (.inr (.inr (.inl h)))) | exact (.inr (.inr (.inr (.inr (.inl h))))) | exact (.inr (.inr (.inr (.inr (.inr (.inl h)))))) | exact (.inr (.inr (.inr (.inr (.inr (.inr (.inl h))))))) | exact (.inr (.inr (.inr (.inr (.inr (.inr (.inr (.inl h)))))))) | exact (.inr (.inr (.inr (.inr (.inr (.inr (.inr (.inr (.inl h))))))))) | exact (.inr (.inr (.inr (.inr (.inr (.inr (.inr (.inr (.inr (.inl h)))))))))) | exact (.inr (.inr (.inr (.inr (.inr (.inr (.inr (.inr (.inr (.inr (.inl h))))))))))) | exact (.inr (.inr (.inr (.inr (.inr (.inr (.inr (.inr (.inr (.inr (.inr (.inl h)))))))))))) | exact (.inr (.inr (.inr (.inr (.inr (.inr (.inr (.inr (.inr (.inr (.inr (.inr (.inl h))))))))))))) | exact (.inr (h)) | exact (.inr (.inr (h))) | exact (.inr (.inr (.inr (h)))) | exact (.inr (.inr (.inr (.inr (h))))) | exact (.inr (.inr (.inr (.inr (.inr (h)))))) | exact (.inr (.inr (.inr (.inr (.inr (.inr (h))))))) | exact (.inr (.inr (.inr (.inr (.inr (.inr (.inr (h)))))))) | exact (.inr (.inr (.inr (.inr (.inr (.inr (.inr (.inr (h))))))))) | exact (.inr (.inr (.inr (.inr (.inr (.inr (.inr (.inr (.inr (h)))))))))) | exact (.inr (.inr (.inr (.inr (.inr (.inr (.inr (.inr (.inr (.inr (h))))))))))) | exact (.inr (.inr (.inr (.inr (.inr (.inr (.inr (.inr (.inr (.inr (.inr (h)))))))))))) | exact (.inr (.inr (.inr (.inr (.inr (.inr (.inr (.inr (.inr (.inr (.inr (.inr (h))))))))))))) | simp [h]
    · intro x hx2
      simp only [List.mem_cons, List.not_mem_nil, or_false] at hx2
      rcases hx2 with rfl | rfl | rfl | rfl | rfl
      · exact hne _ (.head _)
      · exact hne _ (.tail _ (.head _))
      · exact hne _ (.tail _ (.tail _ (.head _)))
      · exact hne _ (.tail _ (.tail _ (.tail _ (.head _))))
      · exact hne _ (.tail _ (.tail _ (.tail _ (.tail _ (.head _)))))
end
end Mine
end
noncomputable section
open PySem PySem.W PySem.Calls PyProof.Rows
set_option maxRecDepth 100000
set_option maxHeartbeats 4000000
namespace Mine
local macro_rules | `(tactic| walk_at "storeName") => `(tactic| (dsimp only; walk_at "storeName"))
local macro_rules | `(tactic| walk_at "exec Assign cons ListComp") => `(tactic| (refine stopped ?_))
section
variable {w : World} {p : Program} {loose : List Str} {mean : ExcName → Option Value} {mg mb : Str → Option Value} {A : Around} {g h : Heap} {L : Addr} {s : Shared} {tk : Nat} {m : Str → Option Value} {Q : Flow → Shared → Prop} {E : Value → Shared → Prop}

theorem lw9 (C : Cx w p loose mean mg mb A g) {us : List Value} {o1 : Obj} {ax : LexA} {l rs : Led} {line : Int} {cl : List Nat} {H Ho : Addr} {home : Str} {th : Tok} (d1 : o1.data = .cell (some (.ref ax.x))) (h6 : us.length = 6)
    (R : LexR w ax line (List.toArray us) cl l) (hrs : ∀ q ∈ rs, q.1 ∉ ax.adrs) (h3 : (L + 1 + 1 + 1 : Nat) ∉ ax.adrs)
    (F : Fr g L h m) (N : News g L h ((L + 1 + 1 + 1, o1) :: (l ++ rs))) (hm : m (Str.ofString "heaps") = some (.ref H)) (hm2 : m (Str.ofString "home") = some (.str home th)) (hm3 : m (Str.ofString "holes") = some (.ref Ho))
    (k : ∀ h' tk' m' Lf kl l', Fr g L h' m' → News g L h' ((Lf, W.listOf (List.toArray us) kl) :: (L + 1 + 1 + 1, o1) :: (l' ++ rs)) → LexR w ax line #[] cl l' → (∀ q ∈ (L + 1 + 1 + 1, o1) :: (l' ++ rs), @Ne Nat q.1 Lf) → m' (Str.ofString "heaps") = some (.ref H) → m' (Str.ofString "home") = some (.str home th) → m' (Str.ofString "holes") = some (.ref Ho) → m' (Str.ofString "left") = some (.ref Lf) → Q .next { s with heap := h', toks := tk' }) :
    wpAny (model prog w) (A.deeper (lawE L)) (exec lawS9.1 (lawE L)) Q E { s with heap := h, toks := tk } := by
  obtain ⟨hA, hd, hu, X, T⟩ := C
  rw [loc_up (m := m) (b := m) [(Str.ofString "heaps", some (.ref H)), (Str.ofString "home", some (.str home th)), (Str.ofString "holes", some (.ref Ho))] (fun _ _ => rfl) (List.forall_mem_cons.mpr ⟨hm, List.forall_mem_cons.mpr ⟨hm2, List.forall_mem_cons.mpr ⟨hm3, List.forall_mem_nil _⟩⟩⟩)] at F
  dsimp only [up] at F
  k_steps
  refine unstop ?_
  k_dflt (refine LCg.Assign_ListComp_U (F₀ := by k_asm) (by rfl) (by with_unfolding_all rfl) (by with_unfolding_all rfl) (by decide) (by rfl) (by decide) (by rfl) (by rfl) (by rfl) ?_)
  k_steps
  with_reducible rename Fr _ _ _ _ => F2
  with_reducible rename News _ _ _ _ => N2
  refine LCg.CompSrc.range (n := 6) hA F2 N2 (by assumption) (by rfl) (by rfl) (by rw [PySem.sizeLine_eq]; omega) fun g1 => ?_
  clear F2 N2
  refine comp_inv (fun j ys nx => ∃ l us', nx = (L + 1 + 1 + 1, o1) :: (l ++ rs) ∧ LexR w ax line (List.toArray us') cl l ∧ us = ys ++ us' ∧ ys.length = j) 6 ?step ?fin 6 0 [] _ (by omega) ⟨l, us, rfl, R, rfl, rfl⟩
  case step =>
    rintro j ys nx v I1 oI1 C oC1 D m2 h1 tk1 E' hj ⟨l, us', rfl, R3, hus', hyl⟩ ⟨t9, rfl⟩ hC hx F N off ne
    have hoff := off.mem
    have hlm : ∀ q ∈ l, q ∈ (L + 1 + 1 + 1, o1) :: (l ++ rs) := fun q hq => .tail _ (List.mem_append_left rs hq)
    have hA1 : I1 ∉ ax.adrs := by rw [← R3.adr]; exact off_ne fun q hq => (hoff q (hlm q hq)).1
    have hA2 : C ∉ ax.adrs := by rw [← R3.adr]; exact off_ne fun q hq => (hoff q (hlm q hq)).2.1
    have hA3 : D ∉ ax.adrs := by rw [← R3.adr]; exact off_ne fun q hq => (hoff q (hlm q hq)).2.2
    have hlen : us'.length = 6 - j := by
      have := congrArg List.length hus'
      rw [List.length_append] at this
      omega
    obtain ⟨v0, us2, rfl⟩ : ∃ v0 us2, us' = v0 :: us2 := by
      cases us' with
      | nil => simp at hlen; omega
      | cons x r => exact ⟨x, r, rfl⟩
    have R3' := R3
    obtain ⟨pm3, ctv3, pn3, sv3, sn3, ta3, ts3, u3, oc3, olc3, vl3, tq3, qv3, qn3, rfl, hs3, ho3, da3, db3, -⟩ := R3
    clear hlm
    simp only [List.cons_append, List.nil_append] at N
    k_steps
    refine Ct.use (ct_pop ax line v0 us2 (by have := hlen; simp only [List.length_cons] at this; omega) _ _ R3') (rest := (I1, oI1) :: (C, oC1) :: (D, LCg.lst ys) :: (L + 1 + 1 + 1, o1) :: rs) F X N T hA (dOk hd) (uOk hu) (fun q hq => ?_) (fun q hq => ⟨?_, ?_⟩) fun rr sub' h6 tk6 F6 N6 ne6 P6 => ?_
    · exact List.mem_append_right [(I1, oI1), (C, oC1), (D, LCg.lst ys), (L + 1 + 1 + 1, o1)] (List.mem_append_left rs hq)
    · simp only [List.mem_cons] at hq ⊢
      rcases hq with h | h | h | h | h <;> first | exact (.inl h) | exact (.inr (.inl h)) | exact (.inr (.inr (.inl h))) | exact (.inr (.inr (.inr (.inl h)))) | exact (.inr (.inr (.inr (.inr (.inl h))))) | exact (.inr (.inr (.inr (.inr (.inr (.inl h)))))) | exact (.inr (.inr (.inr (.inr (.inr (.inr (.inl h))))))) | exact (.inr (.inr (.inr (.inr (.inr (.inr (.inr (.inl h)))))))) | exact (.inr (.inr (.inr (.inr (.inr (.inr (.inr (.inr (.inl h))))))))) | exact (.inr (.inr (.inr (.inr (.inr (.inr (.inr (.inr (.inr (.inl h)))))))))) | exact (.inr (.inr (.inr (.inr (.inr (.inr (.inr (.inr (.inr (.inr (.inl h))))))))))) | exact (.inr (.inr (.inr (.inr (.inr (.inr (.inr (.inr (.inr (.inr (.inr (.inl h)))))))))))) | exact (.inr (.inr (.inr (.inr (.inr (.inr (.inr (.inr (.inr (.inr (.inr (.inr (.inl h))))))))))))) | exact (.inr (h)) | exact (.inr (.inr (h))) | exact (.inr (.inr (.inr (h)))) | exact (.inr (.inr (.inr (.inr (h))))) | exact (.inr (.inr (.inr (.inr (.inr (h)))))) | exact (.inr (.inr (.inr (.inr (.inr (.inr (h))))))) | exact (.inr (.inr (.inr (.inr (.inr (.inr (.inr (h)))))))) | exact (.inr (.inr (.inr (.inr (.inr (.inr (.inr (.inr (h))))))))) | exact (.inr (.inr (.inr (.inr (.inr (.inr (.inr (.inr (.inr (h)))))))))) | exact (.inr (.inr (.inr (.inr (.inr (.inr (.inr (.inr (.inr (.inr (h))))))))))) | exact (.inr (.inr (.inr (.inr (.inr (.inr (.inr (.inr (.inr (.inr (.inr (h)))))))))))) | exact (.inr (.inr (.inr (.inr (.inr (.inr (.inr (.inr (.inr (.inr (.inr (.inr (h))))))))))))) | simp [h]
    · rw [R3'.adr]
      simp only [List.mem_cons] at hq
      rcases hq with rfl | rfl | rfl | rfl | hq
      · exact hA1
      · exact hA2
      · exact hA3
      · exact h3
      · exact hrs q hq
    · obtain ⟨rfl, R5⟩ := P6
      refine LCg.CompEnd.intro F6 N6 ((L + 1 + 1 + 1, o1) :: (sub' ++ rs)) (fun q hq => ?_) (LCg.Off3.of fun q hq => ?_) trivial ⟨sub', us2, rfl, R5, by rw [hus', List.append_assoc]; rfl, by rw [List.length_append, hyl]; rfl⟩
      · simp only [List.mem_cons, List.mem_append] at hq ⊢
        rcases hq with h | h | h | h | h | h <;> first | exact (.inl h) | exact (.inr (.inl h)) | exact (.inr (.inr (.inl h))) | exact (.inr (.inr (.inr (.inl h)))) | exact (.inr (.inr (.inr (.inr (.inl h))))) | exact (.inr (.inr (.inr (.inr (.inr (.inl h)))))) | exact (.inr (.inr (.inr (.inr (.inr (.inr (.inl h))))))) | exact (.inr (.inr (.inr (.inr (.inr (.inr (.inr (.inl h)))))))) | exact (.inr (.inr (.inr (.inr (.inr (.inr (.inr (.inr (.inl h))))))))) | exact (.inr (.inr (.inr (.inr (.inr (.inr (.inr (.inr (.inr (.inl h)))))))))) | exact (.inr (.inr (.inr (.inr (.inr (.inr (.inr (.inr (.inr (.inr (.inl h))))))))))) | exact (.inr (.inr (.inr (.inr (.inr (.inr (.inr (.inr (.inr (.inr (.inr (.inl h)))))))))))) | exact (.inr (.inr (.inr (.inr (.inr (.inr (.inr (.inr (.inr (.inr (.inr (.inr (.inl h))))))))))))) | exact (.inr (h)) | exact (.inr (.inr (h))) | exact (.inr (.inr (.inr (h)))) | exact (.inr (.inr (.inr (.inr (h))))) | exact (.inr (.inr (.inr (.inr (.inr (h)))))) | exact (.inr (.inr (.inr (.inr (.inr (.inr (h))))))) | exact (.inr (.inr (.inr (.inr (.inr (.inr (.inr (h)))))))) | exact (.inr (.inr (.inr (.inr (.inr (.inr (.inr (.inr (h))))))))) | exact (.inr (.inr (.inr (.inr (.inr (.inr (.inr (.inr (.inr (h)))))))))) | exact (.inr (.inr (.inr (.inr (.inr (.inr (.inr (.inr (.inr (.inr (h))))))))))) | exact (.inr (.inr (.inr (.inr (.inr (.inr (.inr (.inr (.inr (.inr (.inr (h)))))))))))) | exact (.inr (.inr (.inr (.inr (.inr (.inr (.inr (.inr (.inr (.inr (.inr (.inr (h))))))))))))) | simp [h]
      · simp only [List.mem_cons, List.mem_append] at hq
        rcases hq with h | hq | hq
        · exact hoff q (by simp [h])
        · have hm : q.1 ∈ ax.adrs := by rw [← R5.adr]; exact List.mem_map_of_mem hq
          exact ⟨fun e => hA1 (e ▸ hm), fun e => hA2 (e ▸ hm), fun e => hA3 (e ▸ hm)⟩
        · exact hoff q (by simp [hq])
  case fin =>
    rintro ys nx ⟨l', us', rfl, R3, hus', hyl⟩
    have hnil : us' = [] := by
      have := congrArg List.length hus'
      rw [List.length_append] at this
      exact List.eq_nil_of_length_eq_zero (by omega)
    subst hnil
    rw [List.append_nil] at hus'
    subst hus'
    unfold LCg.FinA
    intro B hB tkB FB NB oB
    have hoB := off1_mem oB
    k_steps
    with_reducible rename Fr _ _ _ _ => F5
    with_reducible rename News _ _ _ _ => N5
    exact k _ _ _ B _ l' F5 N5 R3 hoB rfl rfl rfl rfl
end
end Mine
end
noncomputable section
open PySem PySem.W PySem.Calls PyProof.Rows
set_option maxRecDepth 100000
set_option maxHeartbeats 4000000
namespace Mine
local macro_rules | `(tactic| walk_at "storeName") => `(tactic| (dsimp only; walk_at "storeName"))
theorem News.swp1 {g h : Heap} {L : Addr} {a b : Addr × Obj} {rs l : Led} (N : News g L h (a :: (b :: rs ++ l))) : News g L h (a :: (l ++ rs)) := fun q hq => N q (by
  simp only [List.mem_cons, List.mem_append] at hq ⊢
  rcases hq with h | h | h <;> first | exact (.inl h) | exact (.inr (.inl h)) | exact (.inr (.inr (.inl h))) | exact (.inr (.inr (.inr (.inl h)))) | exact (.inr (.inr (.inr (.inr (.inl h))))) | exact (.inr (.inr (.inr (.inr (.inr (.inl h)))))) | exact (.inr (.inr (.inr (.inr (.inr (.inr (.inl h))))))) | exact (.inr (.inr (.inr (.inr (.inr (.inr (.inr (.inl h)))))))) | exact (.inr (.inr (.inr (.inr (.inr (.inr (.inr (.inr (.inl h))))))))) | exact (.inr (.inr (.inr (.inr (.inr (.inr (.inr (.inr (.inr (.inl h)))))))))) | exact (.inr (.inr (.inr (.inr (.inr (.inr (.inr (.inr (.inr (.inr (.inl h))))))))))) | exact (.inr (.inr (.inr (.inr (.inr (.inr (.inr (.inr (.inr (.inr (.inr (.inl h)))))))))))) | exact (.inr (.inr (.inr (.inr (.inr (.inr (.inr (.inr (.inr (.inr (.inr (.inr (.inl h))))))))))))) | exact (.inr (h)) | exact (.inr (.inr (h))) | exact (.inr (.inr (.inr (h)))) | exact (.inr (.inr (.inr (.inr (h))))) | exact (.inr (.inr (.inr (.inr (.inr (h)))))) | exact (.inr (.inr (.inr (.inr (.inr (.inr (h))))))) | exact (.inr (.inr (.inr (.inr (.inr (.inr (.inr (h)))))))) | exact (.inr (.inr (.inr (.inr (.inr (.inr (.inr (.inr (h))))))))) | exact (.inr (.inr (.inr (.inr (.inr (.inr (.inr (.inr (.inr (h)))))))))) | exact (.inr (.inr (.inr (.inr (.inr (.inr (.inr (.inr (.inr (.inr (h))))))))))) | exact (.inr (.inr (.inr (.inr (.inr (.inr (.inr (.inr (.inr (.inr (.inr (h)))))))))))) | exact (.inr (.inr (.inr (.inr (.inr (.inr (.inr (.inr (.inr (.inr (.inr (.inr (h))))))))))))) | simp [h])
section
variable {w : World} {p : Program} {loose : List Str} {mean : ExcName → Option Value} {mg mb : Str → Option Value} {A : Around} {g h : Heap} {L : Addr} {s : Shared} {tk : Nat} {m : Str → Option Value} {Q : Flow → Shared → Prop} {E : Value → Shared → Prop}

theorem lw10 (C : Cx w p loose mean mg mb A g) {o1 : Obj} {ax : LexA} {l rs : Led} {H Ho Lf : Addr} {home : Str} {th : Tok} (d1 : o1.data = .cell (some (.ref ax.x)))
    (R : LexR w ax 3 #[] [107, 92, 32, 92, 10, 92, 92, 11, 34, 35] l) (hrs : ∀ q ∈ rs, q.1 ∉ ax.adrs) (h3 : (L + 1 + 1 + 1 : Nat) ∉ ax.adrs)
    (F : Fr g L h m) (N : News g L h ((L + 1 + 1 + 1, o1) :: (l ++ rs))) (hm : m (Str.ofString "heaps") = some (.ref H)) (hm2 : m (Str.ofString "home") = some (.str home th)) (hm3 : m (Str.ofString "holes") = some (.ref Ho)) (hm4 : m (Str.ofString "left") = some (.ref Lf))
    (k : ∀ h' tk' m' En vs ke l', Fr g L h' m' → News g L h' ((En, W.listOf (List.toArray vs) ke) :: (l' ++ rs)) → StrsAre vs ([[51], [107, 32, 10, 92, 11, 34, 35], [52], []].map mkS) → LexR w ax 4 #[] [] l' → m' (Str.ofString "heaps") = some (.ref H) → m' (Str.ofString "home") = some (.str home th) → m' (Str.ofString "holes") = some (.ref Ho) → m' (Str.ofString "left") = some (.ref Lf) → m' (Str.ofString "ends") = some (.ref En) → Q .next { s with heap := h', toks := tk' }) :
    wpAny (model prog w) (A.deeper (lawE L)) (exec lawS10.1 (lawE L)) Q E { s with heap := h, toks := tk } := by
  obtain ⟨hA, hd, hu, X, T⟩ := C
  rw [loc_up (m := m) (b := m) [(Str.ofString "heaps", some (.ref H)), (Str.ofString "home", some (.str home th)), (Str.ofString "holes", some (.ref Ho)), (Str.ofString "left", some (.ref Lf))] (fun _ _ => rfl) (by simp [hm, hm2, hm3, hm4])] at F
  dsimp only [up] at F
  have R3' := R
  obtain ⟨pm3, ctv3, pn3, sv3, sn3, ta3, ts3, u3, oc3, olc3, vl3, tq3, qv3, qn3, rfl, hs3, ho3, da3, db3, -⟩ := R
  simp only [List.cons_append, List.nil_append] at N
  k_steps
  dsimp only [List.cons_append, List.nil_append]
  rw [show Str.ofString (toString (3 : Int)) = mkS [51] from by decide +kernel]
  refine Ct.use (ct_tok ax 3 _ (by decide) _ R3') (rest := (L + 1 + 1 + 1, o1) :: rs) F X N T hA (dOk hd) (uOk hu) (fun q hq => List.mem_append_right [(L + 1 + 1 + 1, o1)] (List.mem_append_left rs hq)) (fun q hq => ⟨?_, ?_⟩) fun rr sub1 h6 tk6 F6 N6 ne6 P6 => ?_
  · simp only [List.mem_cons] at hq ⊢
    rcases hq with h | h <;> first | exact (.inl h) | exact (.inr (.inl h)) | exact (.inr (.inr (.inl h))) | exact (.inr (.inr (.inr (.inl h)))) | exact (.inr (.inr (.inr (.inr (.inl h))))) | exact (.inr (.inr (.inr (.inr (.inr (.inl h)))))) | exact (.inr (.inr (.inr (.inr (.inr (.inr (.inl h))))))) | exact (.inr (.inr (.inr (.inr (.inr (.inr (.inr (.inl h)))))))) | exact (.inr (.inr (.inr (.inr (.inr (.inr (.inr (.inr (.inl h))))))))) | exact (.inr (.inr (.inr (.inr (.inr (.inr (.inr (.inr (.inr (.inl h)))))))))) | exact (.inr (.inr (.inr (.inr (.inr (.inr (.inr (.inr (.inr (.inr (.inl h))))))))))) | exact (.inr (.inr (.inr (.inr (.inr (.inr (.inr (.inr (.inr (.inr (.inr (.inl h)))))))))))) | exact (.inr (.inr (.inr (.inr (.inr (.inr (.inr (.inr (.inr (.inr (.inr (.inr (.inl h))))))))))))) | exact (.inr (h)) | exact (.inr (.inr (h))) | exact (.inr (.inr (.inr (h)))) | exact (.inr (.inr (.inr (.inr (h))))) | exact (.inr (.inr (.inr (.inr (.inr (h)))))) | exact (.inr (.inr (.inr (.inr (.inr (.inr (h))))))) | exact (.inr (.inr (.inr (.inr (.inr (.inr (.inr (h)))))))) | exact (.inr (.inr (.inr (.inr (.inr (.inr (.inr (.inr (h))))))))) | exact (.inr (.inr (.inr (.inr (.inr (.inr (.inr (.inr (.inr (h)))))))))) | exact (.inr (.inr (.inr (.inr (.inr (.inr (.inr (.inr (.inr (.inr (h))))))))))) | exact (.inr (.inr (.inr (.inr (.inr (.inr (.inr (.inr (.inr (.inr (.inr (h)))))))))))) | exact (.inr (.inr (.inr (.inr (.inr (.inr (.inr (.inr (.inr (.inr (.inr (.inr (h))))))))))))) | simp [h]
  · rw [R3'.adr]
    simp only [List.mem_cons] at hq
    rcases hq with rfl | hq
    · exact h3
    · exact hrs q hq
  · obtain ⟨tt, rfl, R6⟩ := P6
    rw [tok_last] at R6 ⊢
    dsimp only at R6 ⊢
    rw [show (3 : Int) + 1 = 4 from rfl] at R6
    have N7 : News g L h6 ((L + 1 + 1 + 1, o1) :: (sub1 ++ rs)) := fun q hq => N6 q (by
      simp only [List.mem_cons, List.mem_append] at hq ⊢
      rcases hq with h | h | h <;> first | exact (.inl h) | exact (.inr (.inl h)) | exact (.inr (.inr (.inl h))) | exact (.inr (.inr (.inr (.inl h)))) | exact (.inr (.inr (.inr (.inr (.inl h))))) | exact (.inr (.inr (.inr (.inr (.inr (.inl h)))))) | exact (.inr (.inr (.inr (.inr (.inr (.inr (.inl h))))))) | exact (.inr (.inr (.inr (.inr (.inr (.inr (.inr (.inl h)))))))) | exact (.inr (.inr (.inr (.inr (.inr (.inr (.inr (.inr (.inl h))))))))) | exact (.inr (.inr (.inr (.inr (.inr (.inr (.inr (.inr (.inr (.inl h)))))))))) | exact (.inr (.inr (.inr (.inr (.inr (.inr (.inr (.inr (.inr (.inr (.inl h))))))))))) | exact (.inr (.inr (.inr (.inr (.inr (.inr (.inr (.inr (.inr (.inr (.inr (.inl h)))))))))))) | exact (.inr (.inr (.inr (.inr (.inr (.inr (.inr (.inr (.inr (.inr (.inr (.inr (.inl h))))))))))))) | exact (.inr (h)) | exact (.inr (.inr (h))) | exact (.inr (.inr (.inr (h)))) | exact (.inr (.inr (.inr (.inr (h))))) | exact (.inr (.inr (.inr (.inr (.inr (h)))))) | exact (.inr (.inr (.inr (.inr (.inr (.inr (h))))))) | exact (.inr (.inr (.inr (.inr (.inr (.inr (.inr (h)))))))) | exact (.inr (.inr (.inr (.inr (.inr (.inr (.inr (.inr (h))))))))) | exact (.inr (.inr (.inr (.inr (.inr (.inr (.inr (.inr (.inr (h)))))))))) | exact (.inr (.inr (.inr (.inr (.inr (.inr (.inr (.inr (.inr (.inr (h))))))))))) | exact (.inr (.inr (.inr (.inr (.inr (.inr (.inr (.inr (.inr (.inr (.inr (h)))))))))))) | exact (.inr (.inr (.inr (.inr (.inr (.inr (.inr (.inr (.inr (.inr (.inr (.inr (h))))))))))))) | simp [h])
    clear N6 N F ne6
    have R7 := R6
    obtain ⟨pm4, ctv4, pn4, sv4, sn4, ta4, ts4, u4, oc4, olc4, vl4, tq4, qv4, qn4, rfl, hs4, ho4, da4, db4, -⟩ := R6
    simp only [List.cons_append, List.nil_append] at N7
    k_steps
    dsimp only [List.cons_append, List.nil_append]
    rw [show Str.ofString (toString (4 : Int)) = mkS [52] from by decide +kernel]
    refine Ct.use (ct_tok ax 4 _ (by decide) _ R7) (rest := (L + 1 + 1 + 1, o1) :: rs) (by k_asm) X N7 T hA (dOk hd) (uOk hu) (fun q hq => List.mem_append_right [(L + 1 + 1 + 1, o1)] (List.mem_append_left rs hq)) (fun q hq => ⟨?_, ?_⟩) fun rr sub2 h8 tk8 F8 N8 ne8 P8 => ?_
    · simp only [List.mem_cons] at hq ⊢
      rcases hq with h | h <;> first | exact (.inl h) | exact (.inr (.inl h)) | exact (.inr (.inr (.inl h))) | exact (.inr (.inr (.inr (.inl h)))) | exact (.inr (.inr (.inr (.inr (.inl h))))) | exact (.inr (.inr (.inr (.inr (.inr (.inl h)))))) | exact (.inr (.inr (.inr (.inr (.inr (.inr (.inl h))))))) | exact (.inr (.inr (.inr (.inr (.inr (.inr (.inr (.inl h)))))))) | exact (.inr (.inr (.inr (.inr (.inr (.inr (.inr (.inr (.inl h))))))))) | exact (.inr (.inr (.inr (.inr (.inr (.inr (.inr (.inr (.inr (.inl h)))))))))) | exact (.inr (.inr (.inr (.inr (.inr (.inr (.inr (.inr (.inr (.inr (.inl h))))))))))) | exact (.inr (.inr (.inr (.inr (.inr (.inr (.inr (.inr (.inr (.inr (.inr (.inl h)))))))))))) | exact (.inr (.inr (.inr (.inr (.inr (.inr (.inr (.inr (.inr (.inr (.inr (.inr (.inl h))))))))))))) | exact (.inr (h)) | exact (.inr (.inr (h))) | exact (.inr (.inr (.inr (h)))) | exact (.inr (.inr (.inr (.inr (h))))) | exact (.inr (.inr (.inr (.inr (.inr (h)))))) | exact (.inr (.inr (.inr (.inr (.inr (.inr (h))))))) | exact (.inr (.inr (.inr (.inr (.inr (.inr (.inr (h)))))))) | exact (.inr (.inr (.inr (.inr (.inr (.inr (.inr (.inr (h))))))))) | exact (.inr (.inr (.inr (.inr (.inr (.inr (.inr (.inr (.inr (h)))))))))) | exact (.inr (.inr (.inr (.inr (.inr (.inr (.inr (.inr (.inr (.inr (h))))))))))) | exact (.inr (.inr (.inr (.inr (.inr (.inr (.inr (.inr (.inr (.inr (.inr (h)))))))))))) | exact (.inr (.inr (.inr (.inr (.inr (.inr (.inr (.inr (.inr (.inr (.inr (.inr (h))))))))))))) | simp [h]
    · rw [R7.adr]
      simp only [List.mem_cons] at hq
      rcases hq with rfl | hq
      · exact h3
      · exact hrs q hq
    · obtain ⟨t9, rfl, R9⟩ := P8
      rw [tok_end] at R9 ⊢
      dsimp only at R9 ⊢
      clear N7 F6 ne8
      k_steps
      with_reducible rename Fr _ _ _ _ => F5
      with_reducible rename News _ _ _ _ => N5
      have N6 := News.swp1 N5
      exact k _ _ _ _ _ _ sub2 F5 N6 (.cons _ _ (.cons _ _ (.cons _ _ (.cons _ _ .nil)))) R9 rfl rfl rfl rfl rfl
end
end Mine
end
noncomputable section
open PySem PySem.W PySem.Calls PyProof.Rows
set_option maxRecDepth 100000
set_option maxHeartbeats 4000000
namespace Mine
local macro_rules | `(tactic| walk_at "storeName") => `(tactic| (dsimp only; walk_at "storeName"))
local macro_rules | `(tactic| walk_at "compareOp NotEq ref ref") => `(tactic| (refine stopped ?_))
section
variable {w : World} {p : Program} {loose : List Str} {mean : ExcName → Option Value} {mg mb : Str → Option Value} {A : Around} {g h : Heap} {L : Addr} {s : Shared} {tk : Nat} {m : Str → Option Value} {Q : Flow → Shared → Prop} {E : Value → Shared → Prop}

theorem lw11 (C : Cx w p loose mean mg mb A g) {tl : Led} {H Ho Lf En : Addr} {home : Str} {th : Tok} {vs : List Value} {ke : Nat} (hvs : StrsAre vs ([[51], [107, 32, 10, 92, 11, 34, 35], [52], []].map mkS))
    (F : Fr g L h m) (N : News g L h ((En, W.listOf (List.toArray vs) ke) :: tl)) (hm : m (Str.ofString "heaps") = some (.ref H)) (hm2 : m (Str.ofString "home") = some (.str home th)) (hm3 : m (Str.ofString "holes") = some (.ref Ho)) (hm4 : m (Str.ofString "left") = some (.ref Lf)) (hm5 : m (Str.ofString "ends") = some (.ref En))
    (k : ∀ h' tk' m', Fr g L h' m' → News g L h' tl → m' (Str.ofString "heaps") = some (.ref H) → m' (Str.ofString "home") = some (.str home th) → m' (Str.ofString "holes") = some (.ref Ho) → m' (Str.ofString "left") = some (.ref Lf) → Q .next { s with heap := h', toks := tk' }) :
    wpAny (model prog w) (A.deeper (lawE L)) (exec lawS11.1 (lawE L)) Q E { s with heap := h, toks := tk } := by
  obtain ⟨hA, hd, hu, X, T⟩ := C
  rw [loc_up (m := m) (b := m) [(Str.ofString "heaps", some (.ref H)), (Str.ofString "home", some (.str home th)), (Str.ofString "holes", some (.ref Ho)), (Str.ofString "left", some (.ref Lf)), (Str.ofString "ends", some (.ref En))] (fun _ _ => rfl) (by simp [hm, hm2, hm3, hm4, hm5])] at F
  dsimp only [up] at F
  have ok4 : okL [[51], [107, 32, 10, 92, 11, 34, 35], [52], []] := by unfold okL; decide
  k_steps
  refine unstop ?_
  with_reducible rename Fr _ _ _ _ => F3
  with_reducible rename News _ _ _ _ => N3
  refine es_ne (ys := [[51], [107, 32, 10, 92, 11, 34, 35], [52], []]) (by exact News.isList N3 (.tail _ (.head _))) (by exact News.isList N3 (.head _)) hvs ?hlit ok4 ok4 (uOk hu) ?_
  case hlit => exact .cons (mkS [51]) _ (.cons (mkS [107, 32, 10, 92, 11, 34, 35]) _ (.cons (mkS [52]) _ (.cons (mkS []) _ .nil)))
  rw [decide_eq_true rfl, Bool.not_true]
  replace N3 := News.tl (News.tl N3)
  k_steps
  exact k _ _ _ F3 N3 rfl rfl rfl rfl
end
end Mine
end
noncomputable section
open PySem PySem.W PySem.Calls PyProof.Rows
set_option maxRecDepth 100000
set_option maxHeartbeats 4000000
namespace Mine
local macro_rules | `(tactic| walk_at "storeName") => `(tactic| (dsimp only; walk_at "storeName"))
local macro_rules | `(tactic| walk_at "call builtin:str.join") => `(tactic| (refine stopped ?_))
local macro_rules | `(tactic| walk_at "call builtin:sorted") => `(tactic| (refine stopped ?_))
theorem ok_perm {A : List Nat} {xs : List (List Nat)} (h : (xs.map mkS).Perm (A.map fun c => mkS [c])) (hA : ∀ c ∈ A, c < 0x110000) : okL xs := by
  intro x hx c hc
  have h1 := h.mem_iff.mp (List.mem_map_of_mem (f := mkS) hx)
  obtain ⟨d, hd, e⟩ := List.mem_map.mp h1
  have e2 := mk_inj e
  rw [← e2] at hc
  rw [List.mem_singleton.mp hc]
  exact hA d hd
section
variable {w : World} {p : Program} {loose : List Str} {mean : ExcName → Option Value} {mg mb : Str → Option Value} {A : Around} {g h : Heap} {L : Addr} {s : Shared} {tk : Nat} {m : Str → Option Value} {Q : Flow → Shared → Prop} {E : Value → Shared → Prop}

theorem lw12 (C : Cx w p loose mean mg mb A g) {tl : Led} {H Ho Lf : Addr} {hv us : List Value} {kh kl : Nat} {ms rows : List (List Nat)} {home : List Nat} {th : Tok} (hhv : StrsAre hv (ms.map mkS)) (hus : StrsAre us (rows.map mkS)) (hn : ms.flatten.length ≤ 30) (hp : (home ++ rows.flatten).Perm ms.flatten) (hok : ∀ c ∈ ms.flatten, c < 0x110000)
    (F : Fr g L h m) (N : News g L h ((Lf, W.listOf (List.toArray us) kl) :: (H, W.listOf (List.toArray hv) kh) :: tl)) (hm : m (Str.ofString "heaps") = some (.ref H)) (hm2 : m (Str.ofString "home") = some (.str (mkS home) th)) (hm3 : m (Str.ofString "holes") = some (.ref Ho)) (hm4 : m (Str.ofString "left") = some (.ref Lf))
    (k : ∀ h' tk' m', Fr g L h' m' → News g L h' ((H, W.listOf (List.toArray hv) kh) :: tl) → m' (Str.ofString "heaps") = some (.ref H) → m' (Str.ofString "home") = some (.str (mkS home) th) → m' (Str.ofString "holes") = some (.ref Ho) → Q .next { s with heap := h', toks := tk' }) :
    wpAny (model prog w) (A.deeper (lawE L)) (exec lawS12.1 (lawE L)) Q E { s with heap := h, toks := tk } := by
  obtain ⟨hA, hd, hu, X, T⟩ := C
  rw [loc_up (m := m) (b := m) [(Str.ofString "heaps", some (.ref H)), (Str.ofString "home", some (.str (mkS home) th)), (Str.ofString "holes", some (.ref Ho)), (Str.ofString "left", some (.ref Lf))] (fun _ _ => rfl) (by simp [hm, hm2, hm3, hm4])] at F
  dsimp only [up] at F
  have hpl := hp.length_eq
  rw [List.length_append] at hpl
  k_steps
  refine unstop ?_
  refine join0 (ls := rows) (by is_list) hus (by omega) fun t5 tk5 => ?_
  k_steps
  refine unstop ?_
  rw [mk_app]
  refine sorted_str_K (x := home ++ rows.flatten) (by first | exact hA | (show A.handled = none; exact hA)) (by k_asm) (by k_asm) (by rw [List.length_append]; omega) fun D1 h1 tk1 vs1 ss1 e1 F1 N1 S1 P1 Z1 l1 => ?_
  k_steps
  refine unstop ?_
  refine join0 (ls := ms) (by is_list) hhv (by omega) fun t6 tk6 => ?_
  k_steps
  refine unstop ?_
  refine sorted_str_K (x := ms.flatten) (by first | exact hA | (show A.handled = none; exact hA)) F1 N1 (by omega) fun D2 h2 tk2 vs2 ss2 e2 F2 N2 S2 P2 Z2 l2 => ?_
  have he := sorted_eq Z1 Z2 (P1.trans ((hp.map _).trans P2.symm))
  obtain ⟨x1, rfl⟩ := as_mk ss1
  obtain ⟨x2, rfl⟩ := as_mk ss2
  have e12 : x1 = x2 := by
    have := congrArg (List.map fun s : Str => s.cps.toList) he
    simpa [List.map_map, Function.comp_def] using this
  subst e12
  have ok1 : okL x1 := ok_perm P2 hok
  k_steps
  refine Ct.use (ct_eqS D1 D2 vs1 vs2 e1 e2 x1 x1 S1 S2 ok1 ok1) (rest := (Lf, W.listOf (List.toArray us) kl) :: (H, W.listOf (List.toArray hv) kh) :: tl) F2 X N2 T hA (dOk hd) (uOk hu) (fun q hq => ?_) (fun q hq => ⟨.tail _ (.tail _ hq), ?_⟩) fun v' sub' h3 tk3 F3 N3 ne P' => ?_
  · simp only [List.mem_cons, List.not_mem_nil, or_false] at hq ⊢
    rcases hq with h | h <;> first | exact (.inl h) | exact (.inr (.inl h)) | exact (.inr (.inr (.inl h))) | exact (.inr (.inr (.inr (.inl h)))) | exact (.inr (.inr (.inr (.inr (.inl h))))) | exact (.inr (.inr (.inr (.inr (.inr (.inl h)))))) | exact (.inr (.inr (.inr (.inr (.inr (.inr (.inl h))))))) | exact (.inr (.inr (.inr (.inr (.inr (.inr (.inr (.inl h)))))))) | exact (.inr (.inr (.inr (.inr (.inr (.inr (.inr (.inr (.inl h))))))))) | exact (.inr (.inr (.inr (.inr (.inr (.inr (.inr (.inr (.inr (.inl h)))))))))) | exact (.inr (.inr (.inr (.inr (.inr (.inr (.inr (.inr (.inr (.inr (.inl h))))))))))) | exact (.inr (.inr (.inr (.inr (.inr (.inr (.inr (.inr (.inr (.inr (.inr (.inl h)))))))))))) | exact (.inr (.inr (.inr (.inr (.inr (.inr (.inr (.inr (.inr (.inr (.inr (.inr (.inl h))))))))))))) | exact (.inr (h)) | exact (.inr (.inr (h))) | exact (.inr (.inr (.inr (h)))) | exact (.inr (.inr (.inr (.inr (h))))) | exact (.inr (.inr (.inr (.inr (.inr (h)))))) | exact (.inr (.inr (.inr (.inr (.inr (.inr (h))))))) | exact (.inr (.inr (.inr (.inr (.inr (.inr (.inr (h)))))))) | exact (.inr (.inr (.inr (.inr (.inr (.inr (.inr (.inr (h))))))))) | exact (.inr (.inr (.inr (.inr (.inr (.inr (.inr (.inr (.inr (h)))))))))) | exact (.inr (.inr (.inr (.inr (.inr (.inr (.inr (.inr (.inr (.inr (h))))))))))) | exact (.inr (.inr (.inr (.inr (.inr (.inr (.inr (.inr (.inr (.inr (.inr (h)))))))))))) | exact (.inr (.inr (.inr (.inr (.inr (.inr (.inr (.inr (.inr (.inr (.inr (.inr (h))))))))))))) | simp [h]
  · intro hm9
    simp only [List.map_cons, List.map_nil, List.mem_cons, List.not_mem_nil, or_false] at hm9
    have a1 := l1 q hq
    have a2 := l2 q (.tail _ hq)
    rcases hm9 with e | e
    · exact absurd e (Nat.ne_of_lt a1)
    · exact absurd e (Nat.ne_of_lt a2)
  · subst P'
    rw [decide_eq_true rfl]
    have N4 : News g L h3 ((H, W.listOf (List.toArray hv) kh) :: tl) := fun q hq => N3 q (List.mem_append_left _ (.tail _ hq))
    clear N3 N2 N1 F1 F2 N F ne
    k_steps
    exact k _ _ _ F3 N4 rfl rfl rfl
end
end Mine
end
noncomputable section
open PySem PySem.W PySem.Calls PyProof.Rows
set_option maxRecDepth 100000
set_option maxHeartbeats 4000000
namespace Mine
local macro_rules | `(tactic| walk_at "storeName") => `(tactic| (dsimp only; walk_at "storeName"))
local macro_rules | `(tactic| walk_at "eval ListComp") => `(tactic| (refine stopped ?_))
local macro_rules | `(tactic| walk_at "compareOp NotEq ref ref") => `(tactic| (refine stopped ?_))
noncomputable def strI (x : Int) : List Nat := (Str.ofString (toString x)).cps.toList
theorem strI_mk (x : Int) : Str.ofString (toString x) = mkS (strI x) := mk_of _
theorem told_bnd (x : Int) (i : Nat) (hi : i < 6) : 0 ≤ toldAt x i ∧ toldAt x i ≤ 7 := by
  unfold toldAt
  have h1 := Int.emod_nonneg (-restAt x i) (b := (i : Int) + 2) (by omega)
  have h2 := Int.emod_lt_of_pos (-restAt x i) (b := (i : Int) + 2) (by omega)
  omega
theorem strI_inj8 : ∀ a : Fin 8, ∀ b : Fin 8, strI (a.1 : Int) = strI (b.1 : Int) → a = b := by decide +kernel
theorem strI_inj {x y : Int} (hx : 0 ≤ x ∧ x ≤ 7) (hy : 0 ≤ y ∧ y ≤ 7) (h : strI x = strI y) : x = y := by
  obtain ⟨a, rfl⟩ := Int.eq_ofNat_of_zero_le hx.1
  obtain ⟨b, rfl⟩ := Int.eq_ofNat_of_zero_le hy.1
  have := strI_inj8 ⟨a, by omega⟩ ⟨b, by omega⟩ h
  have e := congrArg Fin.val this
  dsimp only at e
  rw [e]
theorem strI_map : ∀ {xs ys : List Int}, (∀ x ∈ xs, 0 ≤ x ∧ x ≤ 7) → (∀ x ∈ ys, 0 ≤ x ∧ x ≤ 7) → xs.map strI = ys.map strI → xs = ys
  | [], [], _, _, _ => rfl
  | [], _ :: _, _, _, h => by simp at h
  | _ :: _, [], _, _, h => by simp at h
  | x :: xs, y :: ys, hx, hy, h => by
    simp only [List.map_cons, List.cons.injEq] at h
    rw [strI_inj (hx _ (.head _)) (hy _ (.head _)) h.1, strI_map (fun z hz => hx z (.tail _ hz)) (fun z hz => hy z (.tail _ hz)) h.2]
theorem strI_ok8 : ∀ a : Fin 8, ∀ c ∈ strI (a.1 : Int), c < 0x110000 := by decide +kernel
theorem strI_okL {xs : List Int} (h : ∀ x ∈ xs, 0 ≤ x ∧ x ≤ 7) : okL (xs.map strI) := by
  intro y hy
  obtain ⟨x, hx, rfl⟩ := List.mem_map.mp hy
  obtain ⟨h1, h2⟩ := h x hx
  obtain ⟨a, rfl⟩ := Int.eq_ofNat_of_zero_le h1
  exact strI_ok8 ⟨a, by omega⟩
section
variable {w : World} {p : Program} {loose : List Str} {mean : ExcName → Option Value} {mg mb : Str → Option Value} {A : Around} {g h : Heap} {L : Addr} {s : Shared} {tk : Nat} {m : Str → Option Value} {Q : Flow → Shared → Prop} {E : Value → Shared → Prop}

theorem lw13 (C : Cx w p loose mean mg mb A g) {tl : Led} {b H Ho : Addr} {ub : List Value} {kb : Nat} {o2 : Obj} {bs : List Int} {n : Nat} {home : List Nat} {th : Tok} (d2 : o2.data = .cell (some (.ref b))) (hub : IntsAre ub bs) (hb6 : bs.length = 6) (hbs : ∀ x ∈ bs, 0 ≤ x ∧ x ≤ 7) (hsum : bs.sum = (n : Int)) (hn : n ≤ 30) (hhm : home.length ≤ 30)
    (F : Fr g L h m) (N : News g L h ((b, W.listOf (List.toArray ub) kb) :: (L + 1 + 1, o2) :: tl)) (hm : m (Str.ofString "heaps") = some (.ref H)) (hm2 : m (Str.ofString "home") = some (.str (mkS home) th)) (hm3 : m (Str.ofString "holes") = some (.ref Ho))
    (k : bs = (List.range 6).map (toldAt (n : Int)) → ∀ h' tk' m', Fr g L h' m' → News g L h' ((b, W.listOf (List.toArray ub) kb) :: (L + 1 + 1, o2) :: tl) → m' (Str.ofString "heaps") = some (.ref H) → m' (Str.ofString "home") = some (.str (mkS home) th) → m' (Str.ofString "holes") = some (.ref Ho) → Q .next { s with heap := h', toks := tk' })
    (k2 : bs ≠ (List.range 6).map (toldAt (n : Int)) → ∀ h' tk' m', Fr g L h' m' → News g L h' tl → Q (.ret (.bool (decide ((home.length : Int) < (n : Int))))) { s with heap := h', toks := tk' }) :
    wpAny (model prog w) (A.deeper (lawE L)) (exec lawS13.1 (lawE L)) Q E { s with heap := h, toks := tk } := by
  obtain ⟨hA, hd, hu, X, T⟩ := C
  rw [loc_up (m := m) (b := m) [(Str.ofString "heaps", some (.ref H)), (Str.ofString "home", some (.str (mkS home) th)), (Str.ofString "holes", some (.ref Ho))] (fun _ _ => rfl) (List.forall_mem_cons.mpr ⟨hm, List.forall_mem_cons.mpr ⟨hm2, List.forall_mem_cons.mpr ⟨hm3, List.forall_mem_nil _⟩⟩⟩)] at F
  dsimp only [up] at F
  have hubl := hub.length
  k_steps
  refine unstop ?_
  k_dflt (refine' LCg.ListComp_U ?hF ?hc1 ?hc2 ?hc3 ?hc4 ?hc5 ?_; (case hF => k_asm); (case hc1 => rfl); (case hc2 => decide); (case hc3 => rfl); (case hc4 => decide); (case hc5 => rfl))
  k_steps
  with_reducible rename Fr _ _ _ _ => F2
  with_reducible rename News _ _ _ _ => N2
  refine LCg.CompSrc.ledger hA F2 N2 (.head _) ?hz9 fun g1 => ?_
  case hz9 => rw [PySem.sizeLine_eq, List.size_toArray]; omega
  clear F2 N2
  refine comp_inv (fun j ys nx => nx = (b, W.listOf (List.toArray ub) kb) :: (L + 1 + 1, o2) :: tl ∧ StrsAre ys (((bs.take j).map strI).map mkS)) 6 ?step ?fin _ 0 [] _ (by rw [List.size_toArray]; omega) ⟨rfl, .nil⟩
  case step =>
    rintro j ys nx v I1 oI1 C oC1 D m2 h1 tk1 E' hj ⟨rfl, hys⟩ hvv hC hx F1 N1 off ne
    obtain ⟨x, tx, hxj, rfl⟩ := ints_get hub (show ub[j]? = some v by simpa using hvv)
    obtain ⟨xb1, xb2⟩ := hbs x (List.mem_of_getElem? hxj)
    k_steps
    rw [strI_mk]
    k_steps
    refine LCg.CompEnd.intro (by k_asm) (by k_asm) ((b, W.listOf (List.toArray ub) kb) :: (L + 1 + 1, o2) :: tl) (fun q hq => hq) off ?_ ⟨rfl, ?_⟩
    · exact .inr ⟨_, .head _, rfl, _, rfl⟩
    · rw [List.take_add_one, hxj, Option.toList_some, List.map_append]
      exact strsAre_snoc hys _ _
  case fin =>
    rintro ys nx ⟨rfl, hys⟩
    have hys2 : StrsAre ys ((bs.map strI).map mkS) := by
      have e : bs.take 6 = bs := List.take_of_length_le (by omega)
      rw [e] at hys
      exact hys
    clear hys
    k_steps
    refine unstop ?_
    rename_i Dc hc tkc F3 N3 oc
    k_dflt (refine' LCg.ListComp_U ?hF ?hc1 ?hc2 ?hc3 ?hc4 ?hc5 ?_; (case hF => k_asm); (case hc1 => rfl); (case hc2 => decide); (case hc3 => rfl); (case hc4 => decide); (case hc5 => rfl))
    k_steps
    have hbt : ∀ x ∈ (List.range 6).map (toldAt (n : Int)), 0 ≤ x ∧ x ≤ 7 := by
      intro x hx
      obtain ⟨i, hi, rfl⟩ := List.mem_map.mp hx
      exact told_bnd _ _ (List.mem_range.mp hi)
    rename IntsAre ub _ => hub
    have hoc : ∀ q ∈ (b, W.listOf (List.toArray ub) kb) :: (L + 1 + 1, o2) :: tl, @Ne Nat q.1 Dc := off1_mem (l := (b, W.listOf (List.toArray ub) kb) :: (L + 1 + 1, o2) :: tl) oc
    refine LSm.sum_ints F3 N3 (by first | exact hA | (show A.handled = none; exact hA)) (by is_list) hub fun h2 tk2 t2 F2 N2 => ?_
    rw [hsum]
    clear F3 N3
    k_steps
    refine Ct.use (ct_told (n : Int) t2) (rest := (Dc, LCg.lst ys) :: (b, W.listOf (List.toArray ub) kb) :: (L + 1 + 1, o2) :: tl) F2 X N2 T hA (dOk hd) (uOk hu) (fun q hq => absurd hq List.not_mem_nil) (fun q hq => ⟨hq, by simp⟩) fun v' sub' h4 tk4 F4 N4 ne P' => ?_
    obtain ⟨tA, oT, rfl, rfl, hT⟩ := P'
    obtain ⟨ut, kt, rfl, hut⟩ := isL_list hT
    have hutl := hut.length
    rw [List.length_map, List.length_range] at hutl
    have N5 : News g L h4 ((tA, W.listOf (List.toArray ut) kt) :: (Dc, LCg.lst ys) :: (b, W.listOf (List.toArray ub) kb) :: (L + 1 + 1, o2) :: tl) := fun q hq => N4 q (by
      rcases List.mem_cons.mp hq with rfl | hq
      · exact List.mem_append_right _ (.head _)
      · exact List.mem_append_left _ hq)
    clear N4 N2 F2 ne
    refine LCg.CompSrc.ledger hA F4 N5 (.head _) ?hz8 fun g2 => ?_
    case hz8 => rw [PySem.sizeLine_eq, List.size_toArray]; omega
    clear N5 F4
    refine comp_inv (fun j zs nx => nx = (tA, W.listOf (List.toArray ut) kt) :: (Dc, LCg.lst ys) :: (b, W.listOf (List.toArray ub) kb) :: (L + 1 + 1, o2) :: tl ∧ StrsAre zs (((((List.range 6).map (toldAt (n : Int))).take j).map strI).map mkS)) 6 ?step2 ?fin2 _ 0 [] _ (by rw [List.size_toArray]; omega) ⟨rfl, .nil⟩
    case step2 =>
      rintro j zs nx v I1 oI1 C oC1 D m2 h1 tk1 E' hj ⟨rfl, hzs⟩ hvv hC hx F1 N1 off ne
      obtain ⟨x, tx, hxj, rfl⟩ := ints_get hut (show ut[j]? = some v by simpa using hvv)
      obtain ⟨xb1, xb2⟩ := hbt x (List.mem_of_getElem? hxj)
      k_steps
      rw [strI_mk]
      k_steps
      refine LCg.CompEnd.intro (by k_asm) (by k_asm) ((tA, W.listOf (List.toArray ut) kt) :: (Dc, LCg.lst ys) :: (b, W.listOf (List.toArray ub) kb) :: (L + 1 + 1, o2) :: tl) (fun q hq => hq) off ?_ ⟨rfl, ?_⟩
      · exact .inr ⟨_, .head _, rfl, _, rfl⟩
      · rw [List.take_add_one, hxj, Option.toList_some, List.map_append]
        exact strsAre_snoc hzs _ _
    case fin2 =>
      rintro zs nx ⟨rfl, hzs⟩
      have hzs2 : StrsAre zs ((((List.range 6).map (toldAt (n : Int))).map strI).map mkS) := by
        have e : ((List.range 6).map (toldAt (n : Int))).take 6 = (List.range 6).map (toldAt (n : Int)) := List.take_of_length_le (by simp)
        rw [e] at hzs
        exact hzs
      clear hzs
      k_steps
      refine unstop ?_
      with_reducible rename Fr _ _ _ _ => F3
      with_reducible rename News _ _ _ _ => N3
      refine es_ne (by exact News.isList N3 (.tail _ (.tail _ (.head _)))) (by exact News.isList N3 (.head _)) hys2 hzs2 (strI_okL hbs) (strI_okL hbt) (uOk hu) ?_
      replace N3 := News.tl (News.tl (News.tl N3))
      by_cases hb : bs = (List.range 6).map (toldAt (n : Int))
      · rw [decide_eq_true (congrArg (List.map strI) hb), Bool.not_true]
        k_steps
        exact k hb _ _ _ F3 N3 rfl rfl rfl
      · rw [decide_eq_false (fun e => hb (strI_map hbs hbt e)), Bool.not_false]
        k_steps
        refine len_l (by omega) fun t8 tk8 => ?_
        k_steps
        rename IntsAre ub _ => hub
        refine LSm.sum_ints F3 (by exact fun q hq => N3 q hq) (by first | exact hA | (show A.handled = none; exact hA)) (by is_list) hub fun h9 tk9 t9 F9 N9 => ?_
        rw [hsum]
        k_steps
        exact k2 hb _ _ _ F9 (News.tl (News.tl N9))
end
end Mine
end
noncomputable section
open PySem PySem.W PySem.Calls PyProof.Rows
set_option maxRecDepth 100000
set_option maxHeartbeats 4000000
namespace Mine
local macro_rules | `(tactic| walk_at "storeName") => `(tactic| (dsimp only; walk_at "storeName"))
section
variable {w : World} {p : Program} {loose : List Str} {mean : ExcName → Option Value} {mg mb : Str → Option Value} {A : Around} {g h : Heap} {L : Addr} {s : Shared} {tk : Nat} {m : Str → Option Value} {Q : Flow → Shared → Prop} {E : Value → Shared → Prop}

theorem lw14 (C : Cx w p loose mean mg mb A g) {tl : Led} {b H Ho lc : Addr} {ub : List Value} {kb : Nat} {o2 olc : Obj} {bs : List Int} {n : Nat} {home : List Nat} {th tlc : Tok} {vlc : Array Value} (d2 : o2.data = .cell (some (.ref b))) (hub : IntsAre ub bs) (hb6 : bs.length = 6) (hsum : bs.sum = (n : Int)) (hn : n ≤ 30) (da : olc.data = .fields vlc) (db : vlc[1]? = some (.str lamQ tlc)) (hlc : @Ne Nat 157 lc)
    (htl : ∀ q ∈ (b, W.listOf (List.toArray ub) kb) :: (L + 1 + 1, o2) :: tl, q.1 ∉ [157, lc])
    (F : Fr g L h m) (N : News g L h ((b, W.listOf (List.toArray ub) kb) :: (L + 1 + 1, o2) :: (157, tabObj #[rawInt 74, rawInt 18, .ref lc]) :: (lc, olc) :: tl)) (hm : m (Str.ofString "heaps") = some (.ref H)) (hm2 : m (Str.ofString "home") = some (.str (mkS home) th)) (hm3 : m (Str.ofString "holes") = some (.ref Ho))
    (k : ∀ h' tk' m' Pa pv kp, Fr g L h' m' → News g L h' ((Pa, W.listOf (List.toArray pv) kp) :: (157, tabObj #[rawInt 74, rawInt 18, .ref lc]) :: tl) → IntsAre pv ((struck n).drop 1) → (∀ q ∈ tl, @Ne Nat q.1 Pa) → m' (Str.ofString "heaps") = some (.ref H) → m' (Str.ofString "home") = some (.str (mkS home) th) → m' (Str.ofString "holes") = some (.ref Ho) → m' (Str.ofString "passes") = some (.ref Pa) → Q .next { s with heap := h', toks := tk' }) :
    wpAny (model prog w) (A.deeper (lawE L)) (exec lawS14.1 (lawE L)) Q E { s with heap := h, toks := tk } := by
  obtain ⟨hA, hd, hu, X, T⟩ := C
  rw [loc_up (m := m) (b := m) [(Str.ofString "heaps", some (.ref H)), (Str.ofString "home", some (.str (mkS home) th)), (Str.ofString "holes", some (.ref Ho))] (fun _ _ => rfl) (by simp [hm, hm2, hm3])] at F
  dsimp only [up] at F
  k_steps
  rename IntsAre ub _ => hub
  refine LSm.sum_ints F N (by first | exact hA | (show A.handled = none; exact hA)) (by is_list) hub fun h2 tk2 t2 F2 N2 => ?_
  rw [hsum]
  clear F N
  k_steps
  refine Ct.use (ct_struck n t2 hn lc olc vlc tlc da db hlc) (rest := (b, W.listOf (List.toArray ub) kb) :: (L + 1 + 1, o2) :: tl) F2 X N2 T hA (dOk hd) (uOk hu) (fun q hq => ?_) (fun q hq => ⟨?_, fun hx => htl q hq (by simpa using hx)⟩) fun v' sub' h4 tk4 F4 N4 ne P' => ?_
  · simp only [List.mem_cons, List.not_mem_nil, or_false] at hq ⊢
    rcases hq with h | h <;> first | exact (.inl h) | exact (.inr (.inl h)) | exact (.inr (.inr (.inl h))) | exact (.inr (.inr (.inr (.inl h)))) | exact (.inr (.inr (.inr (.inr (.inl h))))) | exact (.inr (.inr (.inr (.inr (.inr (.inl h)))))) | exact (.inr (.inr (.inr (.inr (.inr (.inr (.inl h))))))) | exact (.inr (.inr (.inr (.inr (.inr (.inr (.inr (.inl h)))))))) | exact (.inr (.inr (.inr (.inr (.inr (.inr (.inr (.inr (.inl h))))))))) | exact (.inr (.inr (.inr (.inr (.inr (.inr (.inr (.inr (.inr (.inl h)))))))))) | exact (.inr (.inr (.inr (.inr (.inr (.inr (.inr (.inr (.inr (.inr (.inl h))))))))))) | exact (.inr (.inr (.inr (.inr (.inr (.inr (.inr (.inr (.inr (.inr (.inr (.inl h)))))))))))) | exact (.inr (.inr (.inr (.inr (.inr (.inr (.inr (.inr (.inr (.inr (.inr (.inr (.inl h))))))))))))) | exact (.inr (h)) | exact (.inr (.inr (h))) | exact (.inr (.inr (.inr (h)))) | exact (.inr (.inr (.inr (.inr (h))))) | exact (.inr (.inr (.inr (.inr (.inr (h)))))) | exact (.inr (.inr (.inr (.inr (.inr (.inr (h))))))) | exact (.inr (.inr (.inr (.inr (.inr (.inr (.inr (h)))))))) | exact (.inr (.inr (.inr (.inr (.inr (.inr (.inr (.inr (h))))))))) | exact (.inr (.inr (.inr (.inr (.inr (.inr (.inr (.inr (.inr (h)))))))))) | exact (.inr (.inr (.inr (.inr (.inr (.inr (.inr (.inr (.inr (.inr (h))))))))))) | exact (.inr (.inr (.inr (.inr (.inr (.inr (.inr (.inr (.inr (.inr (.inr (h)))))))))))) | exact (.inr (.inr (.inr (.inr (.inr (.inr (.inr (.inr (.inr (.inr (.inr (.inr (h))))))))))))) | simp [h]
  · simp only [List.mem_cons] at hq ⊢
    rcases hq with h | h | h <;> first | exact (.inl h) | exact (.inr (.inl h)) | exact (.inr (.inr (.inl h))) | exact (.inr (.inr (.inr (.inl h)))) | exact (.inr (.inr (.inr (.inr (.inl h))))) | exact (.inr (.inr (.inr (.inr (.inr (.inl h)))))) | exact (.inr (.inr (.inr (.inr (.inr (.inr (.inl h))))))) | exact (.inr (.inr (.inr (.inr (.inr (.inr (.inr (.inl h)))))))) | exact (.inr (.inr (.inr (.inr (.inr (.inr (.inr (.inr (.inl h))))))))) | exact (.inr (.inr (.inr (.inr (.inr (.inr (.inr (.inr (.inr (.inl h)))))))))) | exact (.inr (.inr (.inr (.inr (.inr (.inr (.inr (.inr (.inr (.inr (.inl h))))))))))) | exact (.inr (.inr (.inr (.inr (.inr (.inr (.inr (.inr (.inr (.inr (.inr (.inl h)))))))))))) | exact (.inr (.inr (.inr (.inr (.inr (.inr (.inr (.inr (.inr (.inr (.inr (.inr (.inl h))))))))))))) | exact (.inr (h)) | exact (.inr (.inr (h))) | exact (.inr (.inr (.inr (h)))) | exact (.inr (.inr (.inr (.inr (h))))) | exact (.inr (.inr (.inr (.inr (.inr (h)))))) | exact (.inr (.inr (.inr (.inr (.inr (.inr (h))))))) | exact (.inr (.inr (.inr (.inr (.inr (.inr (.inr (h)))))))) | exact (.inr (.inr (.inr (.inr (.inr (.inr (.inr (.inr (h))))))))) | exact (.inr (.inr (.inr (.inr (.inr (.inr (.inr (.inr (.inr (h)))))))))) | exact (.inr (.inr (.inr (.inr (.inr (.inr (.inr (.inr (.inr (.inr (h))))))))))) | exact (.inr (.inr (.inr (.inr (.inr (.inr (.inr (.inr (.inr (.inr (.inr (h)))))))))))) | exact (.inr (.inr (.inr (.inr (.inr (.inr (.inr (.inr (.inr (.inr (.inr (.inr (h))))))))))))) | simp [h]
  · obtain ⟨Pa, o, rfl, rfl, hP⟩ := P'
    obtain ⟨pv, kp, rfl, hpv⟩ := isL_list hP
    have hne : ∀ q ∈ (b, W.listOf (List.toArray ub) kb) :: (L + 1 + 1, o2) :: tl, @Ne Nat q.1 Pa := by
      intro q hq e
      rcases ne _ (.head _) with h1 | h1
      · exact htl q hq (by rw [show q.1 = Pa from e]; simpa using h1)
      · refine h1 q ?_ e
        simp only [List.mem_cons] at hq ⊢
        rcases hq with h | h | h <;> first | exact (.inl h) | exact (.inr (.inl h)) | exact (.inr (.inr (.inl h))) | exact (.inr (.inr (.inr (.inl h)))) | exact (.inr (.inr (.inr (.inr (.inl h))))) | exact (.inr (.inr (.inr (.inr (.inr (.inl h)))))) | exact (.inr (.inr (.inr (.inr (.inr (.inr (.inl h))))))) | exact (.inr (.inr (.inr (.inr (.inr (.inr (.inr (.inl h)))))))) | exact (.inr (.inr (.inr (.inr (.inr (.inr (.inr (.inr (.inl h))))))))) | exact (.inr (.inr (.inr (.inr (.inr (.inr (.inr (.inr (.inr (.inl h)))))))))) | exact (.inr (.inr (.inr (.inr (.inr (.inr (.inr (.inr (.inr (.inr (.inl h))))))))))) | exact (.inr (.inr (.inr (.inr (.inr (.inr (.inr (.inr (.inr (.inr (.inr (.inl h)))))))))))) | exact (.inr (.inr (.inr (.inr (.inr (.inr (.inr (.inr (.inr (.inr (.inr (.inr (.inl h))))))))))))) | exact (.inr (h)) | exact (.inr (.inr (h))) | exact (.inr (.inr (.inr (h)))) | exact (.inr (.inr (.inr (.inr (h))))) | exact (.inr (.inr (.inr (.inr (.inr (h)))))) | exact (.inr (.inr (.inr (.inr (.inr (.inr (h))))))) | exact (.inr (.inr (.inr (.inr (.inr (.inr (.inr (h)))))))) | exact (.inr (.inr (.inr (.inr (.inr (.inr (.inr (.inr (h))))))))) | exact (.inr (.inr (.inr (.inr (.inr (.inr (.inr (.inr (.inr (h)))))))))) | exact (.inr (.inr (.inr (.inr (.inr (.inr (.inr (.inr (.inr (.inr (h))))))))))) | exact (.inr (.inr (.inr (.inr (.inr (.inr (.inr (.inr (.inr (.inr (.inr (h)))))))))))) | exact (.inr (.inr (.inr (.inr (.inr (.inr (.inr (.inr (.inr (.inr (.inr (.inr (h))))))))))))) | simp [h]
    have N5 : News g L h4 ((Pa, W.listOf (List.toArray pv) kp) :: (157, tabObj #[rawInt 74, rawInt 18, .ref lc]) :: tl) := fun q hq => N4 q (by
      simp only [List.mem_cons, List.mem_append, List.not_mem_nil, or_false] at hq ⊢
      rcases hq with h | h | h <;> first | exact (.inl h) | exact (.inr (.inl h)) | exact (.inr (.inr (.inl h))) | exact (.inr (.inr (.inr (.inl h)))) | exact (.inr (.inr (.inr (.inr (.inl h))))) | exact (.inr (.inr (.inr (.inr (.inr (.inl h)))))) | exact (.inr (.inr (.inr (.inr (.inr (.inr (.inl h))))))) | exact (.inr (.inr (.inr (.inr (.inr (.inr (.inr (.inl h)))))))) | exact (.inr (.inr (.inr (.inr (.inr (.inr (.inr (.inr (.inl h))))))))) | exact (.inr (.inr (.inr (.inr (.inr (.inr (.inr (.inr (.inr (.inl h)))))))))) | exact (.inr (.inr (.inr (.inr (.inr (.inr (.inr (.inr (.inr (.inr (.inl h))))))))))) | exact (.inr (.inr (.inr (.inr (.inr (.inr (.inr (.inr (.inr (.inr (.inr (.inl h)))))))))))) | exact (.inr (.inr (.inr (.inr (.inr (.inr (.inr (.inr (.inr (.inr (.inr (.inr (.inl h))))))))))))) | exact (.inr (h)) | exact (.inr (.inr (h))) | exact (.inr (.inr (.inr (h)))) | exact (.inr (.inr (.inr (.inr (h))))) | exact (.inr (.inr (.inr (.inr (.inr (h)))))) | exact (.inr (.inr (.inr (.inr (.inr (.inr (h))))))) | exact (.inr (.inr (.inr (.inr (.inr (.inr (.inr (h)))))))) | exact (.inr (.inr (.inr (.inr (.inr (.inr (.inr (.inr (h))))))))) | exact (.inr (.inr (.inr (.inr (.inr (.inr (.inr (.inr (.inr (h)))))))))) | exact (.inr (.inr (.inr (.inr (.inr (.inr (.inr (.inr (.inr (.inr (h))))))))))) | exact (.inr (.inr (.inr (.inr (.inr (.inr (.inr (.inr (.inr (.inr (.inr (h)))))))))))) | exact (.inr (.inr (.inr (.inr (.inr (.inr (.inr (.inr (.inr (.inr (.inr (.inr (h))))))))))))) | simp [h])
    clear N4 N2 F2 ne
    k_steps
    with_reducible rename Fr _ _ _ _ => F9
    with_reducible rename News _ _ _ _ => N9
    exact k _ _ _ Pa pv kp F9 N9 hpv (fun q hq => hne q (.tail _ (.tail _ hq))) rfl rfl rfl rfl
end
end Mine
end
noncomputable section
open PySem PySem.W PySem.Calls PyProof.Rows
set_option maxRecDepth 100000
set_option maxHeartbeats 4000000
namespace Mine
local macro_rules | `(tactic| walk_at "storeName") => `(tactic| (dsimp only; walk_at "storeName"))
section
variable {w : World} {p : Program} {loose : List Str} {mean : ExcName → Option Value} {mg mb : Str → Option Value} {A : Around} {g h : Heap} {L : Addr} {s : Shared} {tk : Nat} {m : Str → Option Value} {Q : Flow → Shared → Prop} {E : Value → Shared → Prop}

theorem lw15 (C : Cx w p loose mean mg mb A g) {tl : Led} {H Ho Pa : Addr} {hv hov pv : List Value} {kh ko kp : Nat} {ms : List (List Nat)} {hz ps : List Int} {home : List Nat} {th : Tok} (hhv : StrsAre hv (ms.map mkS)) (h6 : ms.length = 6) (hms : ∀ x ∈ ms, x.length ≤ 7) (hov1 : IntsAre hov hz) (hpv : IntsAre pv ps) (hrev : hz.reverse = ps) (hlp : ps.length ≤ 30) (hV : homeV (ps.reverse.map Int.toNat) ms = true) (hhome : home = homeS (ps.reverse.map Int.toNat) ms) (hHP : @Ne Nat H Pa) (htl : ∀ q ∈ tl, q.1 ∉ [H, Pa])
    (F : Fr g L h m) (N : News g L h ((Pa, W.listOf (List.toArray pv) kp) :: (H, W.listOf (List.toArray hv) kh) :: (Ho, W.listOf (List.toArray hov) ko) :: tl)) (hm : m (Str.ofString "heaps") = some (.ref H)) (hm2 : m (Str.ofString "home") = some (.str (mkS home) th)) (hm3 : m (Str.ofString "holes") = some (.ref Ho)) (hm4 : m (Str.ofString "passes") = some (.ref Pa))
    (k : ∀ h' tk' m', Fr g L h' m' → News g L h' tl → Q (.ret (.bool true)) { s with heap := h', toks := tk' }) :
    wpAny (model prog w) (A.deeper (lawE L)) (exec lawS15.1 (lawE L)) Q E { s with heap := h, toks := tk } := by
  obtain ⟨hA, hd, hu, X, T⟩ := C
  rw [loc_up (m := m) (b := m) [(Str.ofString "heaps", some (.ref H)), (Str.ofString "home", some (.str (mkS home) th)), (Str.ofString "holes", some (.ref Ho)), (Str.ofString "passes", some (.ref Pa))] (fun _ _ => rfl) (by simp [hm, hm2, hm3, hm4])] at F
  dsimp only [up] at F
  have hvl := hov1.length
  have hpl := hpv.length
  have hzl : hz.length ≤ 30 := by rw [← List.length_reverse, hrev]; exact hlp
  k_steps
  with_reducible rename Fr _ _ _ _ => F2
  with_reducible rename News _ _ _ _ => N2
  refine Ct.use (ct_home H Pa hv pv kh kp ms ps hHP h6 hms hhv hpv hlp hV) (rest := tl) F2 X N2 T hA (dOk hd) (uOk hu) (fun q hq => ?_) (fun q hq => ⟨?_, fun hx => htl q hq (by simpa using hx)⟩) fun v' sub' h4 tk4 F4 N4 ne P' => ?_
  · simp only [List.mem_cons, List.not_mem_nil, or_false] at hq ⊢
    rcases hq with h | h <;> first | exact (.inl h) | exact (.inr (.inl h)) | exact (.inr (.inr (.inl h))) | exact (.inr (.inr (.inr (.inl h)))) | exact (.inr (.inr (.inr (.inr (.inl h))))) | exact (.inr (.inr (.inr (.inr (.inr (.inl h)))))) | exact (.inr (.inr (.inr (.inr (.inr (.inr (.inl h))))))) | exact (.inr (.inr (.inr (.inr (.inr (.inr (.inr (.inl h)))))))) | exact (.inr (.inr (.inr (.inr (.inr (.inr (.inr (.inr (.inl h))))))))) | exact (.inr (.inr (.inr (.inr (.inr (.inr (.inr (.inr (.inr (.inl h)))))))))) | exact (.inr (.inr (.inr (.inr (.inr (.inr (.inr (.inr (.inr (.inr (.inl h))))))))))) | exact (.inr (.inr (.inr (.inr (.inr (.inr (.inr (.inr (.inr (.inr (.inr (.inl h)))))))))))) | exact (.inr (.inr (.inr (.inr (.inr (.inr (.inr (.inr (.inr (.inr (.inr (.inr (.inl h))))))))))))) | exact (.inr (h)) | exact (.inr (.inr (h))) | exact (.inr (.inr (.inr (h)))) | exact (.inr (.inr (.inr (.inr (h))))) | exact (.inr (.inr (.inr (.inr (.inr (h)))))) | exact (.inr (.inr (.inr (.inr (.inr (.inr (h))))))) | exact (.inr (.inr (.inr (.inr (.inr (.inr (.inr (h)))))))) | exact (.inr (.inr (.inr (.inr (.inr (.inr (.inr (.inr (h))))))))) | exact (.inr (.inr (.inr (.inr (.inr (.inr (.inr (.inr (.inr (h)))))))))) | exact (.inr (.inr (.inr (.inr (.inr (.inr (.inr (.inr (.inr (.inr (h))))))))))) | exact (.inr (.inr (.inr (.inr (.inr (.inr (.inr (.inr (.inr (.inr (.inr (h)))))))))))) | exact (.inr (.inr (.inr (.inr (.inr (.inr (.inr (.inr (.inr (.inr (.inr (.inr (h))))))))))))) | simp [h]
  · simp [hq]
  · obtain ⟨t9, rfl⟩ := P'
    rw [← hhome]
    have N5 : News g L h4 tl := fun q hq => N4 q (List.mem_append_left _ hq)
    clear N4 N2 F2 ne
    k_steps
    rw [mk_beq, beq_self_eq_true]
    exact k _ _ _ F4 N5
end
end Mine
end
noncomputable section
open PySem PySem.W PySem.Calls PyProof.Rows
set_option maxRecDepth 100000
set_option maxHeartbeats 1000000
namespace Mine
/-- the words of a board -/
structure WdFacts (bs cs : List Int) : Prop where
  hT : ∀ k, k < 6 → (wT bs cs k).length ≤ 20
  hM : ∀ k, k < 6 → (wM bs cs k).length ≤ 20
  hT0 : ∀ k, k < 6 → wT bs cs k ≠ []
  hTs : ∀ k, k < 6 → ∀ c ∈ wT bs cs k, safe c = true
  okT : okL ((List.range 6).map (wT bs cs))
  okM : okL ((List.range 6).map (wM bs cs))
  len : ∀ x ∈ (List.range 6).map (wM bs cs), x.length ≤ 7
  lens : ((List.range 6).map (wM bs cs)).map (·.length) = bs.map Int.toNat
  lensI : ((List.range 6).map (wM bs cs)).map (fun m => (m.length : Int)) = bs
  sum : bs.sum = (((List.range 6).map (wM bs cs)).flatten.length : Int)
theorem range_get (bs : List Int) (h6 : bs.length = 6) : (List.range 6).map (fun k => bs.getD k 0) = bs := by
  match bs, h6 with
  | [a, b, c, d, e, f], _ => rfl
theorem sum_flat : ∀ ms : List (List Nat), (ms.map (fun m => (m.length : Int))).sum = (ms.flatten.length : Int)
  | [] => rfl
  | m :: ms => by
    rw [List.map_cons, List.sum_cons, sum_flat ms, List.flatten_cons, List.length_append]
    omega
theorem wd_facts {bs cs : List Int} (h6 : bs.length = 6) (hbs : ∀ x ∈ bs, 0 ≤ x ∧ x ≤ 7) : WdFacts bs cs := by
  have key : ∀ k, k < 6 → (wM bs cs k).length = cntW bs k := fun k _ => (typed_ok (cntW bs k) (cs.getD (2 + k) 0)).2.2.1
  have hc : ∀ k, k < 6 → bs.getD k 0 = ((cntW bs k : Nat) : Int) ∧ cntW bs k ≤ 7 := fun k hk => cnt_eq h6 hbs hk
  have lI : ((List.range 6).map (wM bs cs)).map (fun m => (m.length : Int)) = bs := by
    rw [List.map_map]
    refine Eq.trans (List.map_congr_left fun k hk => ?_) (range_get bs h6)
    have hk := List.mem_range.mp hk
    show ((wM bs cs k).length : Int) = bs.getD k 0
    rw [key k hk, (hc k hk).1]
  refine ⟨fun k hk => ?_, fun k hk => ?_, fun k hk => (typed_ok (cntW bs k) (cs.getD (2 + k) 0)).2.2.2.2.2, fun k hk => (typed_ok (cntW bs k) (cs.getD (2 + k) 0)).2.1, ?_, ?_, ?_, ?_, lI, ?_⟩
  · have h1 := (typed_ok (cntW bs k) (cs.getD (2 + k) 0)).2.2.2.1
    have h2 := (hc k hk).2
    show (typed (cntW bs k) (cs.getD (2 + k) 0)).1.length ≤ 20
    omega
  · have h2 := (hc k hk).2
    rw [key k hk]; omega
  · intro x hx c hcx
    obtain ⟨k, hk, rfl⟩ := List.mem_map.mp hx
    exact safe_lt ((typed_ok (cntW bs k) (cs.getD (2 + k) 0)).2.1 c hcx)
  · intro x hx c hcx
    obtain ⟨k, hk, rfl⟩ := List.mem_map.mp hx
    exact (typed_ok (cntW bs k) (cs.getD (2 + k) 0)).2.2.2.2.1 c hcx
  · intro x hx
    obtain ⟨k, hk, rfl⟩ := List.mem_map.mp hx
    have hk := List.mem_range.mp hk
    rw [key k hk]; exact (hc k hk).2
  · have := congrArg (List.map Int.toNat) lI
    rw [List.map_map] at this
    rw [← this]
    exact List.map_congr_left fun m _ => (Int.toNat_natCast _).symm
  · rw [← sum_flat, lI]
/-- all that law asks of the board -/
theorem law_facts (st ch : Int) (cs : List Int) : (board st ch).length = 6 ∧ (∀ x ∈ board st ch, 0 ≤ x ∧ x ≤ 7) ∧ WdFacts (board st ch) cs ∧
    ∃ n, n = ((List.range 6).map (wM (board st ch) cs)).flatten.length ∧ n ≤ 30 ∧
      ((sowS ((List.range 6).map (wM (board st ch) cs)) n).2.1 ++ (sowS ((List.range 6).map (wM (board st ch) cs)) n).1.flatten).Perm ((List.range 6).map (wM (board st ch) cs)).flatten ∧
      (sowS ((List.range 6).map (wM (board st ch) cs)) n).1.length = 6 ∧
      (board st ch = (List.range 6).map (toldAt (n : Int)) → (sowS ((List.range 6).map (wM (board st ch) cs)) n).2.2.reverse = (struck n).drop 1 ∧ homeV (((struck n).drop 1).reverse.map Int.toNat) ((List.range 6).map (wM (board st ch) cs)) = true ∧
        (sowS ((List.range 6).map (wM (board st ch) cs)) n).2.1 = homeS (((struck n).drop 1).reverse.map Int.toNat) ((List.range 6).map (wM (board st ch) cs))) ∧
      (board st ch ≠ (List.range 6).map (toldAt (n : Int)) → (sowS ((List.range 6).map (wM (board st ch) cs)) n).2.1.length < n) := by
  obtain ⟨hbs, h6, hc⟩ := board_chk st ch
  have W := wd_facts (cs := cs) h6 hbs
  have G := game ((List.range 6).map (wM (board st ch) cs)) (by rw [W.lens]; exact hc)
  rw [W.lensI] at G
  refine ⟨h6, hbs, W, _, rfl, G.1, G.2.1, G.2.2.1, fun h => ?_, fun h => ?_⟩
  · have := G.2.2.2; rw [if_pos h] at this; exact this
  · have := G.2.2.2; rw [if_neg h] at this; exact this
end Mine
end
noncomputable section
open PySem PySem.W PySem.Calls PyProof.Rows
set_option maxRecDepth 100000
set_option maxHeartbeats 4000000
namespace Mine
/-- a heap in which one more object stands -/
noncomputable def reveal (g : Heap) (L sc : Addr) (o : Obj) : Heap :=
  ⟨Array.ofFn (n := L) fun b => (if b.1 = sc then some o else g.get? b.1).getD { cls := .none, data := .freed }, g.life⟩
theorem get_unfreed {g : Heap} {b : Addr} {o : Obj} (e : g.get? b = some o) : o.data ≠ .freed := by
  unfold Heap.get? at e
  split at e
  · cases e
  · rename_i x h
    intro hd
    obtain ⟨c, d, dt, sl⟩ := o
    dsimp only at hd
    subst hd
    exact h c d sl e
theorem get_lt {a : Array Obj} {l : Life} {b : Addr} {o : Obj} (hb : b < a.size) (e : a[b] = o) (hd : o.data ≠ .freed) : (Heap.mk a l).get? b = some o := by
  unfold Heap.get?
  rw [Array.getElem?_eq_getElem hb, e]
  split
  · rename_i h
    cases h
    exact absurd rfl hd
  · rfl
theorem reveal_sc {g : Heap} {L sc : Addr} {o : Obj} (hsc : @LT.lt Nat _ sc L) (hd : o.data ≠ .freed) : (reveal g L sc o).get? sc = some o :=
  get_lt (by rw [Array.size_ofFn]; exact hsc) (by rw [Array.getElem_ofFn]; simp) hd
theorem reveal_old {g : Heap} {L sc : Addr} {o x : Obj} {b : Addr} (hL : g.objs.size ≤ L) (hb : b ≠ sc) (e : g.get? b = some x) : (reveal g L sc o).get? b = some x := by
  have hlt : b < L := Nat.lt_of_lt_of_le (Heap.lt_size e) hL
  exact get_lt (by rw [Array.size_ofFn]; exact hlt) (by rw [Array.getElem_ofFn]; simp [hb, e]) (get_unfreed e)
theorem reveal_inv {g : Heap} {L sc : Addr} {o x : Obj} {b : Addr} (e : (reveal g L sc o).get? b = some x) : (b = sc ∧ x = o) ∨ g.get? b = some x := by
  have hd := get_unfreed e
  have hlt : b < L := by have := Heap.lt_size e; rwa [show (reveal g L sc o).objs.size = L from Array.size_ofFn] at this
  have e2 : (reveal g L sc o).objs[b]? = some x := by
    unfold Heap.get? at e
    split at e
    · cases e
    · exact e
  rw [Array.getElem?_eq_getElem (by rw [show (reveal g L sc o).objs.size = L from Array.size_ofFn]; exact hlt)] at e2
  have e3 := Option.some.inj e2
  rw [show (reveal g L sc o).objs[b]'(by rw [show (reveal g L sc o).objs.size = L from Array.size_ofFn]; exact hlt) = (if b = sc then some o else g.get? b).getD { cls := .none, data := .freed } from Array.getElem_ofFn _] at e3
  by_cases hb : b = sc
  · rw [if_pos hb] at e3
    exact .inl ⟨hb, e3.symm⟩
  · rw [if_neg hb] at e3
    cases hg : g.get? b with
    | none => rw [hg] at e3; rw [← e3] at hd; exact absurd rfl hd
    | some y => rw [hg] at e3; exact .inr (congrArg some e3)
section
variable {w : World} {p : Program} {loose : List Str} {mean : ExcName → Option Value} {mg mb : Str → Option Value}
theorem ct_law (sc : Addr) (vs : List Value) (kn : Nat) (ns : List Int) (hs : IntsAre vs ns) (hl : ns.length ≤ 63) (hsc : @Ne Nat 157 sc) :
    Ct w p loose mean mg mb 40 400 220 [.ref sc] [(157, tabObj #[]), (sc, W.listOf (List.toArray vs) kn)] fun v l => v = .bool true ∧ (∃ lc, (157, tabObj #[rawInt 74, rawInt 18, .ref lc]) ∈ l) ∧ (sc, W.listOf (List.toArray vs) kn) ∈ l := by
  intro A h₀ s Q E hA hd hu X T stt O ret
  k_dflt (refine' ct_defC (binds := [(Str.ofString "script", .ref sc)]) (sub := _) X T stt O ?k6 ?k7 ?k8 ?k9 ?kB ?kD ret ?_ ?c2 ?c3 ?c4)
  (case k6 => k_is); (case k7 => k_is); (case k8 => omega); (case k9 => exact BindsTo.of_eq rfl); (case kB => exact rfl); (case kD => decide +kernel); (case c2 => exact rfl); (case c3 => exact rfl); (case c4 => exact rfl)
  clear ret O stt T X; intro g L h₁ tk cells X T F N Y hlt; k_cells Y; (try simp only [List.cons_append, List.nil_append] at N); (try dsimp only); (try k_fold)
  rename_i oa1 oa2 oa3 da1 da2 da3
  have C : Cx w p loose mean mg mb A g := ⟨hA, by omega, by omega, X, T⟩
  have hL7 : @LT.lt Nat _ 157 L := hlt _ (.head _)
  refine wp_hide fun Q1 hQ1 => ?_
  have hLs : @LT.lt Nat _ sc L := hlt _ (.tail _ (.head _))
  have hnsc := (N _ (.tail _ (.tail _ (.tail _ (.tail _ (.head _)))))).2.2
  have habove := F.above
  have hkeep : ∀ b o, g.get? b = some o → (reveal g L sc (W.listOf (List.toArray vs) kn)).get? b = some o := fun b o e =>
    reveal_old habove (fun q => by rw [q, hnsc] at e; cases e) e
  have hrsc : (reveal g L sc (W.listOf (List.toArray vs) kn)).get? sc = some (W.listOf (List.toArray vs) kn) := reveal_sc hLs (by simp)
  have C' : Cx w p loose mean mg mb A (reveal g L sc (W.listOf (List.toArray vs) kn)) := ⟨hA, by omega, by omega, X.keeps hkeep, T.keeps hkeep⟩
  have back : ∀ {h : Heap} {m : Str → Option Value} {l : Led}, Fr (reveal g L sc (W.listOf (List.toArray vs) kn)) L h m → News (reveal g L sc (W.listOf (List.toArray vs) kn)) L h l → Fr g L h m ∧ News g L h ((sc, W.listOf (List.toArray vs) kn) :: l) := by
    intro h m l F' N'
    refine ⟨⟨F'.ns, fun b o e => F'.keep b o (hkeep b o e), habove⟩, fun q hq => ?_⟩
    rcases List.mem_cons.mp hq with rfl | hq
    · exact ⟨F'.keep _ _ hrsc, Nat.ne_of_lt hLs, hnsc⟩
    · refine ⟨(N' q hq).1, (N' q hq).2.1, ?_⟩
      cases e : g.get? q.1 with
      | none => rfl
      | some o => have := (N' q hq).2.2; rw [hkeep _ _ e] at this; cases this
  clear hd hu X T hlt
  refine wpAny_execs_cons ?_
  refine lw0 C hs hl hsc hLs (by assumption) F N hL7 rfl fun h0 tk0 m0 a us k3 cs o3 F00 N00 d3 hus h8 hna hsa => ?_
  clear F N
  have F0 : Fr (reveal g L sc (W.listOf (List.toArray vs) kn)) L h0 m0 := by
    refine ⟨F00.ns, fun b o e => ?_, by rw [show (reveal g L sc (W.listOf (List.toArray vs) kn)).objs.size = L from Array.size_ofFn]; exact Nat.le_refl _⟩
    rcases reveal_inv e with ⟨rfl, rfl⟩ | e
    · exact (N00 (b, W.listOf (List.toArray vs) kn) (by simp)).1
    · exact F00.keep b o e
  have N0 : News (reveal g L sc (W.listOf (List.toArray vs) kn)) L h0 [(a, W.listOf (List.toArray us) k3), (L + 1 + 1 + 1, oa1), (L + 1 + 1, oa2), (L + 1, o3), (157, tabObj #[])] := by
    intro q hq
    have hq0 : q ∈ [(a, W.listOf (List.toArray us) k3), (L + 1 + 1 + 1, oa1), (L + 1 + 1, oa2), (L + 1, o3), (157, tabObj #[]), (sc, W.listOf (List.toArray vs) kn)] := List.mem_append_left [(sc, W.listOf (List.toArray vs) kn)] hq
    have hqs : @Ne Nat q.1 sc := by
      simp only [List.mem_cons, List.not_mem_nil, or_false] at hq
      rcases hq with rfl | rfl | rfl | rfl | rfl
      · exact Nat.ne_of_gt hsa
      · dsimp only; omega
      · dsimp only; omega
      · dsimp only; omega
      · exact hsc
    refine ⟨(N00 q hq0).1, (N00 q hq0).2.1, ?_⟩
    cases e : (reveal g L sc (W.listOf (List.toArray vs) kn)).get? q.1 with
    | none => rfl
    | some o =>
      rcases reveal_inv e with ⟨h1, _⟩ | h1
      · exact absurd h1 hqs
      · have := (N00 q hq0).2.2; rw [h1] at this; cases this
  clear F00 N00 C
  have C := C'
  clear C' hkeep hrsc
  obtain ⟨g2, hg2⟩ : ∃ x, x = reveal g L sc (W.listOf (List.toArray vs) kn) := ⟨_, rfl⟩
  rw [← hg2] at C F0 N0 back
  refine wpAny_execs_cons ?_
  refine lw1 C hus h8 (by assumption) d3 hna hL7 F0 N0 fun h1 tk1 m1 b ub kb o2 F1 N1 d2 hub hnb => ?_
  clear F0 N0
  obtain ⟨hb6, hbs, Wf, n, hn, hn30, hperm, hr6, hwin, hlose⟩ := law_facts (cs.getD 0 0) (cs.getD 1 0) cs
  generalize board (cs.getD 0 0) (cs.getD 1 0) = bs at *
  refine wpAny_execs_cons ?_
  refine lw2 C hus h8 hub hb6 hbs d2 d3 F1 N1 fun h2 tk2 m2 Wa wl kw F2 N2 hm2 hwl hW hWa => ?_
  clear F1 N1
  refine wpAny_execs_cons ?_
  refine lw3 C hus h8 (by assumption) d3 hwl hW Wf.hT hna hnb hWa hL7 F2 N2 hm2 fun h3 tk3 m3 ax l o1 F3 N3 d1 R hx hwx hm3 => ?_
  clear F2 N2
  refine wpAny_execs_cons ?_
  refine lw4 C d1 Wf.hT Wf.hT0 Wf.hTs R hx hwx F3 N3 hm3 fun h4 tk4 m4 Rd us4 kr l4 F4 N4 hus4 R4 hRd hm4 hm4r => ?_
  clear F3 N3
  refine wpAny_execs_cons ?_
  refine lw5 C Wf.hT Wf.hM hus4 F4 N4 hm4 hm4r fun h5 tk5 m5 H hv kh F5 N5 hhv hneH hm5 hm5r hm5h => ?_
  clear F4 N4
  refine wpAny_execs_cons ?_
  refine lw6 C hwl hW hus4 hhv Wf.okT Wf.okM (.head _) (.tail _ (.head _)) (.tail _ (.tail _ (.head _))) (fun q hq => by simp [hq]) F5 N5 hm5 hm5r hm5h fun h6 tk6 m6 F6 N6 hm6 => ?_
  clear F5 N5
  have hHa : H ∉ ax.adrs := by
    rw [← R4.adr]
    exact off_ne fun q hq => hneH q (by simp [hq])
  have hx7 : ∀ x ∈ [H, b, L + 1 + 1 + 1, L + 1 + 1, 157], x ∉ ax.adrs := by
    intro x hx2
    rcases List.mem_cons.mp hx2 with rfl | hx2
    · exact hHa
    · exact hx x (.tail _ hx2)
  have hvl : hv.length = 6 := by rw [hhv.length]; simp
  refine wpAny_execs_cons ?_
  refine lw7 C (ub := ub) (kb := kb) (kh := kh) (o2 := o2) d1 hvl R4 hx7 F6 (fun q hq => N6 q ?_) hm6 fun h7 tk7 m7 l7 F7 N7 R7 hm7 => ?_
  · simp only [List.mem_cons, List.mem_append] at hq ⊢
    rcases hq with h | h | h | h | h | h <;> first | exact (.inl h) | exact (.inr (.inl h)) | exact (.inr (.inr (.inl h))) | exact (.inr (.inr (.inr (.inl h)))) | exact (.inr (.inr (.inr (.inr (.inl h))))) | exact (.inr (.inr (.inr (.inr (.inr (.inl h)))))) | exact (.inr (.inr (.inr (.inr (.inr (.inr (.inl h))))))) | exact (.inr (.inr (.inr (.inr (.inr (.inr (.inr (.inl h)))))))) | exact (.inr (.inr (.inr (.inr (.inr (.inr (.inr (.inr (.inl h))))))))) | exact (.inr (.inr (.inr (.inr (.inr (.inr (.inr (.inr (.inr (.inl h)))))))))) | exact (.inr (.inr (.inr (.inr (.inr (.inr (.inr (.inr (.inr (.inr (.inl h))))))))))) | exact (.inr (.inr (.inr (.inr (.inr (.inr (.inr (.inr (.inr (.inr (.inr (.inl h)))))))))))) | exact (.inr (.inr (.inr (.inr (.inr (.inr (.inr (.inr (.inr (.inr (.inr (.inr (.inl h))))))))))))) | exact (.inr (h)) | exact (.inr (.inr (h))) | exact (.inr (.inr (.inr (h)))) | exact (.inr (.inr (.inr (.inr (h))))) | exact (.inr (.inr (.inr (.inr (.inr (h)))))) | exact (.inr (.inr (.inr (.inr (.inr (.inr (h))))))) | exact (.inr (.inr (.inr (.inr (.inr (.inr (.inr (h)))))))) | exact (.inr (.inr (.inr (.inr (.inr (.inr (.inr (.inr (h))))))))) | exact (.inr (.inr (.inr (.inr (.inr (.inr (.inr (.inr (.inr (h)))))))))) | exact (.inr (.inr (.inr (.inr (.inr (.inr (.inr (.inr (.inr (.inr (h))))))))))) | exact (.inr (.inr (.inr (.inr (.inr (.inr (.inr (.inr (.inr (.inr (.inr (h)))))))))))) | exact (.inr (.inr (.inr (.inr (.inr (.inr (.inr (.inr (.inr (.inr (.inr (.inr (h))))))))))))) | simp [h]
  clear F6 N6
  subst hn
  refine wpAny_execs_cons ?_
  refine lw8 C d1 d2 hhv (by simp) (fun x hx => Nat.le_trans (Wf.len x hx) (by omega)) hub hb6 Wf.sum hn30 R7 hx7 F7 N7 hm7 fun h8 tk8 m8 Ho hov ko us8 th l8 F8 N8 hhov hus8 R8 hneo hHo hm8 hm8h hm8o => ?_
  clear F7 N7
  have nH157 : @Ne Nat H 157 := fun e => hneH (157, tabObj #[rawInt 74, rawInt 18, .ref ax.lc]) (by simp) e.symm
  have hbt := hx7 b (by simp)
  have hL2a := hx7 (L + 1 + 1) (by simp)
  have hL3a := hx7 (L + 1 + 1 + 1) (by simp)
  have h157a := hx7 157 (by simp)
  have wokM := Wf.okM
  have wlen := Wf.len
  have wsum := Wf.sum
  generalize hms : (List.range 6).map (wM bs cs) = ms at *
  have hokf : ∀ c ∈ ms.flatten, c < 0x110000 := by
    intro c hc
    obtain ⟨x, hx1, hx2⟩ := List.mem_flatten.mp hc
    exact wokM x hx1 c hx2
  have hms6 : ms.length = 6 := by rw [← hms]; simp
  have husl : us8.length = 6 := by rw [hus8.length, List.length_map]; exact hr6
  have hrs9 : ∀ q ∈ [(Ho, W.listOf (List.toArray hov) ko), (H, W.listOf (List.toArray hv) kh), (b, W.listOf (List.toArray ub) kb), (L + 1 + 1, o2), (157, tabObj #[rawInt 74, rawInt 18, .ref ax.lc])], q.1 ∉ ax.adrs := by
    intro q hq
    simp only [List.mem_cons, List.not_mem_nil, or_false] at hq
    rcases hq with rfl | rfl | rfl | rfl | rfl
    · exact hHo
    · exact hHa
    · exact hbt
    · exact hL2a
    · exact h157a
  refine wpAny_execs_cons ?_
  refine lw9 C (o1 := o1) (rs := [(Ho, W.listOf (List.toArray hov) ko), (H, W.listOf (List.toArray hv) kh), (b, W.listOf (List.toArray ub) kb), (L + 1 + 1, o2), (157, tabObj #[rawInt 74, rawInt 18, .ref ax.lc])]) d1 husl R8 hrs9 hL3a F8 (fun q hq => N8 q ?_) hm8 hm8h hm8o fun h9 tk9 m9 Lf kl l9 F9 N9 R9 hneL hm9 hm9h hm9o hm9l => ?_
  · simp only [List.mem_cons, List.mem_append, List.not_mem_nil, or_false] at hq ⊢
    rcases hq with h | h | h | h | h | h | h <;> first | exact (.inl h) | exact (.inr (.inl h)) | exact (.inr (.inr (.inl h))) | exact (.inr (.inr (.inr (.inl h)))) | exact (.inr (.inr (.inr (.inr (.inl h))))) | exact (.inr (.inr (.inr (.inr (.inr (.inl h)))))) | exact (.inr (.inr (.inr (.inr (.inr (.inr (.inl h))))))) | exact (.inr (.inr (.inr (.inr (.inr (.inr (.inr (.inl h)))))))) | exact (.inr (.inr (.inr (.inr (.inr (.inr (.inr (.inr (.inl h))))))))) | exact (.inr (.inr (.inr (.inr (.inr (.inr (.inr (.inr (.inr (.inl h)))))))))) | exact (.inr (.inr (.inr (.inr (.inr (.inr (.inr (.inr (.inr (.inr (.inl h))))))))))) | exact (.inr (.inr (.inr (.inr (.inr (.inr (.inr (.inr (.inr (.inr (.inr (.inl h)))))))))))) | exact (.inr (.inr (.inr (.inr (.inr (.inr (.inr (.inr (.inr (.inr (.inr (.inr (.inl h))))))))))))) | exact (.inr (h)) | exact (.inr (.inr (h))) | exact (.inr (.inr (.inr (h)))) | exact (.inr (.inr (.inr (.inr (h))))) | exact (.inr (.inr (.inr (.inr (.inr (h)))))) | exact (.inr (.inr (.inr (.inr (.inr (.inr (h))))))) | exact (.inr (.inr (.inr (.inr (.inr (.inr (.inr (h)))))))) | exact (.inr (.inr (.inr (.inr (.inr (.inr (.inr (.inr (h))))))))) | exact (.inr (.inr (.inr (.inr (.inr (.inr (.inr (.inr (.inr (h)))))))))) | exact (.inr (.inr (.inr (.inr (.inr (.inr (.inr (.inr (.inr (.inr (h))))))))))) | exact (.inr (.inr (.inr (.inr (.inr (.inr (.inr (.inr (.inr (.inr (.inr (h)))))))))))) | exact (.inr (.inr (.inr (.inr (.inr (.inr (.inr (.inr (.inr (.inr (.inr (.inr (h))))))))))))) | simp [h]
  clear F8 N8
  have hLf : Lf ∉ ax.adrs := by
    rw [← R9.adr]
    exact off_ne fun q hq => hneL q (by simp [hq])
  have hrs10 : ∀ q ∈ (Lf, W.listOf (List.toArray us8) kl) :: [(Ho, W.listOf (List.toArray hov) ko), (H, W.listOf (List.toArray hv) kh), (b, W.listOf (List.toArray ub) kb), (L + 1 + 1, o2), (157, tabObj #[rawInt 74, rawInt 18, .ref ax.lc])], q.1 ∉ ax.adrs := by
    intro q hq
    rcases List.mem_cons.mp hq with rfl | hq
    · exact hLf
    · exact hrs9 q hq
  refine wpAny_execs_cons ?_
  refine lw10 C (o1 := o1) (rs := (Lf, W.listOf (List.toArray us8) kl) :: [(Ho, W.listOf (List.toArray hov) ko), (H, W.listOf (List.toArray hv) kh), (b, W.listOf (List.toArray ub) kb), (L + 1 + 1, o2), (157, tabObj #[rawInt 74, rawInt 18, .ref ax.lc])]) d1 R9 hrs10 hL3a F9 (fun q hq => N9 q ?_) hm9 hm9h hm9o hm9l fun h10 tk10 m10 En vs10 ke l10 F10 N10 hvs10 R10 hm10 hm10h hm10o hm10l hm10e => ?_
  · simp only [List.mem_cons, List.mem_append, List.not_mem_nil, or_false] at hq ⊢
    rcases hq with h | h | h | h | h | h | h | h <;> first | exact (.inl h) | exact (.inr (.inl h)) | exact (.inr (.inr (.inl h))) | exact (.inr (.inr (.inr (.inl h)))) | exact (.inr (.inr (.inr (.inr (.inl h))))) | exact (.inr (.inr (.inr (.inr (.inr (.inl h)))))) | exact (.inr (.inr (.inr (.inr (.inr (.inr (.inl h))))))) | exact (.inr (.inr (.inr (.inr (.inr (.inr (.inr (.inl h)))))))) | exact (.inr (.inr (.inr (.inr (.inr (.inr (.inr (.inr (.inl h))))))))) | exact (.inr (.inr (.inr (.inr (.inr (.inr (.inr (.inr (.inr (.inl h)))))))))) | exact (.inr (.inr (.inr (.inr (.inr (.inr (.inr (.inr (.inr (.inr (.inl h))))))))))) | exact (.inr (.inr (.inr (.inr (.inr (.inr (.inr (.inr (.inr (.inr (.inr (.inl h)))))))))))) | exact (.inr (.inr (.inr (.inr (.inr (.inr (.inr (.inr (.inr (.inr (.inr (.inr (.inl h))))))))))))) | exact (.inr (h)) | exact (.inr (.inr (h))) | exact (.inr (.inr (.inr (h)))) | exact (.inr (.inr (.inr (.inr (h))))) | exact (.inr (.inr (.inr (.inr (.inr (h)))))) | exact (.inr (.inr (.inr (.inr (.inr (.inr (h))))))) | exact (.inr (.inr (.inr (.inr (.inr (.inr (.inr (h)))))))) | exact (.inr (.inr (.inr (.inr (.inr (.inr (.inr (.inr (h))))))))) | exact (.inr (.inr (.inr (.inr (.inr (.inr (.inr (.inr (.inr (h)))))))))) | exact (.inr (.inr (.inr (.inr (.inr (.inr (.inr (.inr (.inr (.inr (h))))))))))) | exact (.inr (.inr (.inr (.inr (.inr (.inr (.inr (.inr (.inr (.inr (.inr (h)))))))))))) | exact (.inr (.inr (.inr (.inr (.inr (.inr (.inr (.inr (.inr (.inr (.inr (.inr (h))))))))))))) | simp [h]
  clear F9 N9
  refine wpAny_execs_cons ?_
  refine lw11 C hvs10 F10 N10 hm10 hm10h hm10o hm10l hm10e fun h11 tk11 m11 F11 N11 hm11 hm11h hm11o hm11l => ?_
  clear F10 N10
  refine wpAny_execs_cons ?_
  refine lw12 C (kh := kh) (kl := kl) (tl := (b, W.listOf (List.toArray ub) kb) :: (L + 1 + 1, o2) :: (157, tabObj #[rawInt 74, rawInt 18, .ref ax.lc]) :: (Ho, W.listOf (List.toArray hov) ko) :: l10) hhv hus8 hn30 hperm hokf F11 (fun q hq => N11 q ?_) hm11 hm11h hm11o hm11l fun h12 tk12 m12 F12 N12 hm12 hm12h hm12o => ?_
  · simp only [List.mem_cons, List.mem_append, List.not_mem_nil, or_false] at hq ⊢
    rcases hq with h | h | h | h | h | h | h <;> first | exact (.inl h) | exact (.inr (.inl h)) | exact (.inr (.inr (.inl h))) | exact (.inr (.inr (.inr (.inl h)))) | exact (.inr (.inr (.inr (.inr (.inl h))))) | exact (.inr (.inr (.inr (.inr (.inr (.inl h)))))) | exact (.inr (.inr (.inr (.inr (.inr (.inr (.inl h))))))) | exact (.inr (.inr (.inr (.inr (.inr (.inr (.inr (.inl h)))))))) | exact (.inr (.inr (.inr (.inr (.inr (.inr (.inr (.inr (.inl h))))))))) | exact (.inr (.inr (.inr (.inr (.inr (.inr (.inr (.inr (.inr (.inl h)))))))))) | exact (.inr (.inr (.inr (.inr (.inr (.inr (.inr (.inr (.inr (.inr (.inl h))))))))))) | exact (.inr (.inr (.inr (.inr (.inr (.inr (.inr (.inr (.inr (.inr (.inr (.inl h)))))))))))) | exact (.inr (.inr (.inr (.inr (.inr (.inr (.inr (.inr (.inr (.inr (.inr (.inr (.inl h))))))))))))) | exact (.inr (h)) | exact (.inr (.inr (h))) | exact (.inr (.inr (.inr (h)))) | exact (.inr (.inr (.inr (.inr (h))))) | exact (.inr (.inr (.inr (.inr (.inr (h)))))) | exact (.inr (.inr (.inr (.inr (.inr (.inr (h))))))) | exact (.inr (.inr (.inr (.inr (.inr (.inr (.inr (h)))))))) | exact (.inr (.inr (.inr (.inr (.inr (.inr (.inr (.inr (h))))))))) | exact (.inr (.inr (.inr (.inr (.inr (.inr (.inr (.inr (.inr (h)))))))))) | exact (.inr (.inr (.inr (.inr (.inr (.inr (.inr (.inr (.inr (.inr (h))))))))))) | exact (.inr (.inr (.inr (.inr (.inr (.inr (.inr (.inr (.inr (.inr (.inr (h)))))))))))) | exact (.inr (.inr (.inr (.inr (.inr (.inr (.inr (.inr (.inr (.inr (.inr (.inr (h))))))))))))) | simp [h]
  clear F11 N11
  have hhome : (sowS ms ms.flatten.length).2.1.length ≤ ms.flatten.length := by
    have := hperm.length_eq
    rw [List.length_append] at this
    omega
  refine wpAny_execs_cons ?_
  refine lw13 C (kb := kb) (o2 := o2) (tl := (157, tabObj #[rawInt 74, rawInt 18, .ref ax.lc]) :: (H, W.listOf (List.toArray hv) kh) :: (Ho, W.listOf (List.toArray hov) ko) :: l10) d2 hub hb6 hbs wsum hn30 (by omega) F12 (fun q hq => N12 q ?_) hm12 hm12h hm12o (fun hb h13 tk13 m13 F13 N13 hm13 hm13h hm13o => ?_) (fun hb h13 tk13 m13 F13 N13 => ?_)
  · simp only [List.mem_cons] at hq ⊢
    rcases hq with h | h | h | h | h | h <;> first | exact (.inl h) | exact (.inr (.inl h)) | exact (.inr (.inr (.inl h))) | exact (.inr (.inr (.inr (.inl h)))) | exact (.inr (.inr (.inr (.inr (.inl h))))) | exact (.inr (.inr (.inr (.inr (.inr (.inl h)))))) | exact (.inr (.inr (.inr (.inr (.inr (.inr (.inl h))))))) | exact (.inr (.inr (.inr (.inr (.inr (.inr (.inr (.inl h)))))))) | exact (.inr (.inr (.inr (.inr (.inr (.inr (.inr (.inr (.inl h))))))))) | exact (.inr (.inr (.inr (.inr (.inr (.inr (.inr (.inr (.inr (.inl h)))))))))) | exact (.inr (.inr (.inr (.inr (.inr (.inr (.inr (.inr (.inr (.inr (.inl h))))))))))) | exact (.inr (.inr (.inr (.inr (.inr (.inr (.inr (.inr (.inr (.inr (.inr (.inl h)))))))))))) | exact (.inr (.inr (.inr (.inr (.inr (.inr (.inr (.inr (.inr (.inr (.inr (.inr (.inl h))))))))))))) | exact (.inr (h)) | exact (.inr (.inr (h))) | exact (.inr (.inr (.inr (h)))) | exact (.inr (.inr (.inr (.inr (h))))) | exact (.inr (.inr (.inr (.inr (.inr (h)))))) | exact (.inr (.inr (.inr (.inr (.inr (.inr (h))))))) | exact (.inr (.inr (.inr (.inr (.inr (.inr (.inr (h)))))))) | exact (.inr (.inr (.inr (.inr (.inr (.inr (.inr (.inr (h))))))))) | exact (.inr (.inr (.inr (.inr (.inr (.inr (.inr (.inr (.inr (h)))))))))) | exact (.inr (.inr (.inr (.inr (.inr (.inr (.inr (.inr (.inr (.inr (h))))))))))) | exact (.inr (.inr (.inr (.inr (.inr (.inr (.inr (.inr (.inr (.inr (.inr (h)))))))))))) | exact (.inr (.inr (.inr (.inr (.inr (.inr (.inr (.inr (.inr (.inr (.inr (.inr (h))))))))))))) | simp [h]
  · clear F12 N12
    obtain ⟨g1, g2, g3⟩ := hwin hb
    obtain ⟨pm4, ctv4, pn4, sv4, sn4, ta4, ts4, u4, oc4, olc4, vl4, tq4, qv4, qn4, rfl, hs4, ho4, da4, db4, hord⟩ := R10
    have hlc : @Ne Nat 157 ax.lc := fun e => h157a (by rw [show (157 : Addr) = ax.lc from e]; simp [LexA.adrs])
    have hadl : ∀ x : Addr, x ∉ ax.adrs → @Ne Nat x ax.lc := fun x hx e => hx (by rw [show x = ax.lc from e]; simp [LexA.adrs])
    refine wpAny_execs_cons ?_
    refine lw14 C (kb := kb) (o2 := o2) (lc := ax.lc) (olc := olc4) (tl := [(H, W.listOf (List.toArray hv) kh), (Ho, W.listOf (List.toArray hov) ko)]) d2 hub hb6 wsum hn30 da4 db4 hlc (fun q hq => ?_) F13 (fun q hq => N13 q ?_) hm13 hm13h hm13o fun h14 tk14 m14 Pa pv kp F14 N14 hpv hneP hm14 hm14h hm14o hm14p => ?_
    · simp only [List.mem_cons, List.not_mem_nil, or_false] at hq
      intro hx2
      simp only [List.mem_cons, List.not_mem_nil, or_false] at hx2
      rcases hq with rfl | rfl | rfl | rfl
      · rcases hx2 with e | e
        · exact hnb 157 (by simp) e.symm
        · exact hadl b hbt e
      · rcases hx2 with e | e
        · replace e : @Eq Nat (L + 1 + 1) 157 := e
          omega
        · exact hadl _ hL2a e
      · rcases hx2 with e | e
        · exact nH157 e
        · exact hadl _ hHa e
      · rcases hx2 with e | e
        · exact hneo 157 (by simp) e.symm
        · exact hadl _ hHo e
    · simp only [List.mem_cons, List.not_mem_nil, or_false] at hq ⊢
      rcases hq with h | h | h | h | h | h <;> first | exact (.inl h) | exact (.inr (.inl h)) | exact (.inr (.inr (.inl h))) | exact (.inr (.inr (.inr (.inl h)))) | exact (.inr (.inr (.inr (.inr (.inl h))))) | exact (.inr (.inr (.inr (.inr (.inr (.inl h)))))) | exact (.inr (.inr (.inr (.inr (.inr (.inr (.inl h))))))) | exact (.inr (.inr (.inr (.inr (.inr (.inr (.inr (.inl h)))))))) | exact (.inr (.inr (.inr (.inr (.inr (.inr (.inr (.inr (.inl h))))))))) | exact (.inr (.inr (.inr (.inr (.inr (.inr (.inr (.inr (.inr (.inl h)))))))))) | exact (.inr (.inr (.inr (.inr (.inr (.inr (.inr (.inr (.inr (.inr (.inl h))))))))))) | exact (.inr (.inr (.inr (.inr (.inr (.inr (.inr (.inr (.inr (.inr (.inr (.inl h)))))))))))) | exact (.inr (.inr (.inr (.inr (.inr (.inr (.inr (.inr (.inr (.inr (.inr (.inr (.inl h))))))))))))) | exact (.inr (h)) | exact (.inr (.inr (h))) | exact (.inr (.inr (.inr (h)))) | exact (.inr (.inr (.inr (.inr (h))))) | exact (.inr (.inr (.inr (.inr (.inr (h)))))) | exact (.inr (.inr (.inr (.inr (.inr (.inr (h))))))) | exact (.inr (.inr (.inr (.inr (.inr (.inr (.inr (h)))))))) | exact (.inr (.inr (.inr (.inr (.inr (.inr (.inr (.inr (h))))))))) | exact (.inr (.inr (.inr (.inr (.inr (.inr (.inr (.inr (.inr (h)))))))))) | exact (.inr (.inr (.inr (.inr (.inr (.inr (.inr (.inr (.inr (.inr (h))))))))))) | exact (.inr (.inr (.inr (.inr (.inr (.inr (.inr (.inr (.inr (.inr (.inr (h)))))))))))) | exact (.inr (.inr (.inr (.inr (.inr (.inr (.inr (.inr (.inr (.inr (.inr (.inr (h))))))))))))) | simp [h]
    clear F13 N13
    have hP157 : @Ne Nat Pa 157 := by
      intro e
      have e1 := (N14 _ (.head _)).1
      have e2 := (N14 _ (.tail _ (.head _))).1
      rw [show Pa = (157 : Addr) from e] at e1
      rw [e1] at e2
      cases e2
    refine wpAny_execs_cons ?_
    refine lw15 C (kh := kh) (ko := ko) (kp := kp) (tl := [(157, tabObj #[rawInt 74, rawInt 18, .ref ax.lc])]) hhv hms6 (wlen) hhov hpv g1 ?_ g2 g3 (hneP _ (.head _)) ?_ F14 (fun q hq => N14 q ?_) hm14 hm14h hm14o hm14p fun h15 tk15 m15 F15 N15 => ?_
    · rw [← g1, List.length_reverse]
      have := (sowS_inv ms hms6 (fun x hx => Nat.le_trans (wlen x hx) (by omega)) ms.flatten.length).2.2.2
      omega
    · intro q hq
      rw [List.mem_singleton.mp hq]
      simp only [List.mem_cons, List.not_mem_nil, or_false, not_or]
      exact ⟨fun e => nH157 e.symm, fun e => hP157 e.symm⟩
    · simp only [List.mem_cons, List.not_mem_nil, or_false] at hq ⊢
      rcases hq with h | h | h | h <;> first | exact (.inl h) | exact (.inr (.inl h)) | exact (.inr (.inr (.inl h))) | exact (.inr (.inr (.inr (.inl h)))) | exact (.inr (.inr (.inr (.inr (.inl h))))) | exact (.inr (.inr (.inr (.inr (.inr (.inl h)))))) | exact (.inr (.inr (.inr (.inr (.inr (.inr (.inl h))))))) | exact (.inr (.inr (.inr (.inr (.inr (.inr (.inr (.inl h)))))))) | exact (.inr (.inr (.inr (.inr (.inr (.inr (.inr (.inr (.inl h))))))))) | exact (.inr (.inr (.inr (.inr (.inr (.inr (.inr (.inr (.inr (.inl h)))))))))) | exact (.inr (.inr (.inr (.inr (.inr (.inr (.inr (.inr (.inr (.inr (.inl h))))))))))) | exact (.inr (.inr (.inr (.inr (.inr (.inr (.inr (.inr (.inr (.inr (.inr (.inl h)))))))))))) | exact (.inr (.inr (.inr (.inr (.inr (.inr (.inr (.inr (.inr (.inr (.inr (.inr (.inl h))))))))))))) | exact (.inr (h)) | exact (.inr (.inr (h))) | exact (.inr (.inr (.inr (h)))) | exact (.inr (.inr (.inr (.inr (h))))) | exact (.inr (.inr (.inr (.inr (.inr (h)))))) | exact (.inr (.inr (.inr (.inr (.inr (.inr (h))))))) | exact (.inr (.inr (.inr (.inr (.inr (.inr (.inr (h)))))))) | exact (.inr (.inr (.inr (.inr (.inr (.inr (.inr (.inr (h))))))))) | exact (.inr (.inr (.inr (.inr (.inr (.inr (.inr (.inr (.inr (h)))))))))) | exact (.inr (.inr (.inr (.inr (.inr (.inr (.inr (.inr (.inr (.inr (h))))))))))) | exact (.inr (.inr (.inr (.inr (.inr (.inr (.inr (.inr (.inr (.inr (.inr (h)))))))))))) | exact (.inr (.inr (.inr (.inr (.inr (.inr (.inr (.inr (.inr (.inr (.inr (.inr (h))))))))))))) | simp [h]
    · rw [hQ1]
      exact lv_ret (back F15 N15).1 (back F15 N15).2 (by rfl) ⟨rfl, ⟨_, .tail _ (.head _)⟩, .head _⟩
  · have := hlose hb
    rw [hQ1]
    refine lv_ret (back F13 N13).1 (back F13 N13).2 (by rfl) ⟨?_, ⟨_, .tail _ (.head _)⟩, .head _⟩
    show Value.bool _ = _
    rw [decide_eq_true (by omega)]
end
end Mine
end
noncomputable section
open PySem PySem.W PySem.Calls PyProof.Rows
set_option maxRecDepth 100000
set_option maxHeartbeats 4000000
namespace Mine
/-- the top, when objects that are no dict and no module are hidden -/
theorem top_hide {p : Program} {loose : List Str} {mean : ExcName → Option Value} {mg mb : Str → Option Value} {h₁ : Heap} {bad : List Addr} (hb : ∀ b ∈ bad, ∃ o, h₁.get? b = some o ∧ (∀ es ep, o.data ≠ .dict es ep) ∧ o.cls ≠ .type "module") (T : Top p loose mean mg mb h₁) :
    Top topProg (loose ++ (recsOf p).map (·.name) ++ (litsOf p).map (·.1) ++ (clssOf p loose).map (·.name)) mean mg mb (hideAll h₁ bad) := by
  have hn : ∀ {a : Addr} {mm : Str → Option Value}, h₁.Ns a mm → (hideAll h₁ bad).Ns a mm := by
    rintro a mm ⟨o, es, ep, e, hd, r⟩
    refine ⟨o, es, ep, hideAll_get _ e (fun q => ?_), hd, r⟩
    obtain ⟨o', e', h1, _⟩ := hb a q
    rw [e] at e'
    cases e'
    exact h1 _ _ hd
  exact {
    g := hn T.g
    b := hn T.b
    nolimit := let ⟨mc, a, r⟩ := T.nolimit; ⟨mc, hn a, r⟩
    nodigits := let ⟨mc, a, r⟩ := T.nodigits; ⟨mc, hn a, r⟩
    fn := fun d hd => absurd (show d ∈ ([] : List DefRec) from hd) List.not_mem_nil
    own := fun o ho => absurd (show o ∈ ([] : List OwnSpec) from ho) List.not_mem_nil
    const := fun x d e => by cases (show (none : Option PyData) = some d from e)
    free := fun x h1 h2 _ _ _ => T.free x h1 (fun q => h2 (List.mem_append_left _ (List.mem_append_left _ (List.mem_append_left _ q))))
      (fun q => h2 (List.mem_append_left _ (List.mem_append_left _ (List.mem_append_right _ q)))) (fun q => h2 (List.mem_append_left _ (List.mem_append_right _ q))) fun q => h2 (List.mem_append_right _ q)
    builtins := T.builtins
    tab := fun d hd => absurd (show d ∈ ([] : List DefRec) from hd) List.not_mem_nil
    bmain := by
      obtain ⟨bm, ob, a1, a2, a3, a4, r⟩ := T.bmain
      refine ⟨bm, ob, a1, a2, hideAll_get _ a3 (fun q => ?_), a4, r⟩
      obtain ⟨o', e', _, h2⟩ := hb bm q
      rw [a3] at e'
      cases e'
      exact h2 a4
    seer := fun e => absurd (show false = true from e) Bool.false_ne_true }
noncomputable def noLists (K : Frag) : Bool := K.all fun p => match p.2.cls, p.2.data with
  | .type n, .seq _ _ => n != "list"
  | _, _ => true
theorem walk_ : WalkO qv looseV (fun _ _ => True) hk.says lawRow.row.toRowW ⟨Str.ofString "law", dPar (stm 24), dBody (stm 24), dScope (stm 24), ⟨168, 0, 189, 69⟩⟩ [] fun f vs => PySem.call f vs := by
  intro w s₀ s₁ mg mb G Y a o pm cd doc dV kV ho hdo hcd hD hmg hgens args vals as hpre hlay hrd hwl hlo
  have T := G.T
  have X : InK K2 w s₁.heap := Y
  wrow_args hpre hlay hrd hwl hlo
  rename_i ns hs9 hl0 hL1 hr1 hl2 as1 as2 sc vs as3 hL ra w1 r0 hI hr2 hlen ht
  have X1 : (K w.params).In s₁.heap := by
    intro b o' e
    refine X b o' ?_
    by_cases hb : b = 157
    · subst hb
      have e0 : (K w.params).lookup 157 = none := by kernel_rfl
      rw [e0] at e; cases e
    · show List.lookup b ((157, tabObj #[]) :: K w.params) = some o'
      rw [List.lookup_cons, show (b == 157) = false from beq_eq_false_iff_ne.mpr hb]
      exact e
  have h157 : s₁.heap.get? 157 = some (tabObj #[]) := X 157 _ rfl
  have ha : a = 220 := by
    have e := mg_of X1 T.g (n := Str.ofString "law") (v := .ref 220) (by kernel_rfl)
    have e2 : mg (Str.ofString "law") = some (.ref a) := hmg
    rw [e] at e2
    cases e2
    rfl
  subst ha
  obtain ⟨vs2, hg2, hv2⟩ : ∃ vs2 : List Value, s₁.heap.get? sc = some (W.listOf (List.toArray vs2) 0) ∧ IntsAre vs2 ns := by
    have w2 : Well w.params s₁.heap (.ref sc) (.list (ofPys (ns.map PyData.int))) := by
      have e : ofPy (PyData.list (List.map PyData.int ns)) = .list (ofPys (ns.map PyData.int)) := by simp only [ofPy]
      rw [← e]; exact w1
    cases w2 with | @list _ vs2 _ hg _ =>
    refine ⟨vs2, hg, ?_⟩
    obtain ⟨o2, e2, _, n2, d2⟩ := hL
    rw [hg] at e2
    cases e2
    have : vs2.toArray = vs.toArray := by injection d2
    have : vs2 = vs := by simpa using this
    rw [this]; exact hI
  have hne : @Ne Nat 157 sc := by
    intro e
    rw [show (157 : Addr) = sc from e, hg2] at h157
    cases h157
  have hcode : isCodeTable s₁.heap 157 := ⟨161, _, _, X1 161 _ rfl, rfl, rfl, rfl⟩
  have hbad : ∀ b ∈ [157, sc], ∃ o, s₁.heap.get? b = some o ∧ (∀ es ep, o.data ≠ .dict es ep) ∧ o.cls ≠ .type "module" := by
    intro b hb
    simp only [List.mem_cons, List.not_mem_nil, or_false] at hb
    rcases hb with rfl | rfl
    · refine ⟨_, h157, ?_, ?_⟩
      · intro es ep h; cases h
      · intro h; cases h
    · refine ⟨_, hg2, ?_, ?_⟩
      · intro es ep h; cases h
      · intro h; exact absurd h (by simp)
  have T0 := top_hide hbad T
  have hnl : noLists (K w.params) = true := by kernel_rfl
  have X0 : (K w.params).In (hideAll s₁.heap [157, sc]) := by
    intro b o' e
    refine hideAll_get _ (X1 b o' e) fun hb => ?_
    simp only [List.mem_cons, List.not_mem_nil, or_false] at hb
    rcases hb with rfl | rfl
    · have e0 : (K w.params).lookup 157 = none := by kernel_rfl
      rw [e0] at e; cases e
    · have e1 := X1 _ _ e
      rw [hg2] at e1
      cases e1
      exact absurd (show false = true from List.all_eq_true.mp hnl _ (mem_of_lookupK e)) Bool.false_ne_true
  show wpAny (model prog w) callerA (PySem.call (.ref 220) [.ref sc]) _ _ s₁
  refine wpAny_call (ct_law sc vs2 0 ns hv2 (by omega) hne callerA (hideAll s₁.heap [157, sc]) s₁ (fun v s' => GoodWG lawRow.row.claim (classAt s₀.heap) (ExcName.means s₀.heap) [ofPy (PyData.list (List.map PyData.int ns))] s₁ (Except.ok (Flow.ret v)) s') _ rfl (by decide) (by decide) X0 T0 (fun b o e => of_hideAll _ e) (fun p hp => ?_) (fun v sub' h' tk hx hl hp => ?_))
  · simp only [List.mem_cons, List.not_mem_nil, or_false] at hp
    rcases hp with rfl | rfl
    · exact ⟨h157, hideAll_none _ (.head _)⟩
    · exact ⟨hg2, hideAll_none _ (.tail _ (.head _))⟩
  · obtain ⟨rfl, ⟨lc, m1⟩, m2⟩ := hp
    have e1 := (hl _ m1).1
    have e2 := (hl _ m2).1
    have hkeep : ∀ b o, b ≠ 157 → s₁.heap.get? b = some o → h'.get? b = some o := by
      intro b o hb e
      by_cases hs : b = sc
      · subst hs
        rw [hg2] at e
        cases e
        exact e2
      · exact hx b o (by simp only [List.map_cons, List.map_nil, List.mem_cons, List.not_mem_nil, or_false, not_or]; exact ⟨hb, hs⟩) e
    refine ⟨.inl ⟨_, .bool true, [], rfl, fun _ => ?_, .bool _, ?_, ?_⟩, ⟨fun b o e => ?_, fun b o e => ?_⟩, rfl, .of_eq hgens⟩
    · rfl
    · exact postW_of (X := (true == true)) (by rfl) (w_eq_bool rfl rfl) rfl
    · exact fun _ => ⟨List.nodup_nil, fun a ha => absurd ha List.not_mem_nil⟩
    · by_cases hb : b = 157
      · subst hb
        rw [h157] at e
        cases e
        exact .inr (.inl ⟨hcode, rfl, #[], _, rfl, by rw [Array.empty_append]; exact e1⟩)
      · exact .inl (hkeep b o hb e)
    · by_cases hb : b = 157
      · subst hb; exact ⟨_, e1⟩
      · exact ⟨o, hkeep b o hb e⟩
theorem all_ : PySem.Challenge.rw_to0041_01.Holds := hd walk_
end Mine
end
set_option maxRecDepth 100000 in
theorem PySem.Challenge.cw_to0041_01_holds : PySem.Challenge.rw_to0041_01.Holds :=
  Mine.all_
