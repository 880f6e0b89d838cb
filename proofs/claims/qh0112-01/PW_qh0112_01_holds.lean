import PyProof.Rows.All
import Wide.All
import OpenK.AllK
import Wide.FinOn
import Lean
import PySem.Challenge.RW_qh0112_01
set_option Elab.async false
-- part: Mach
section
namespace Mine

def b64v (c : Int) : Int :=
  if 65 ≤ c ∧ c ≤ 90 then c - 65 else if 97 ≤ c ∧ c ≤ 122 then c - 71 else if 48 ≤ c ∧ c ≤ 57 then c + 4 else if c = 43 then 62 else if c = 47 then 63 else 64

theorem b64v_in (c : Int) : 0 ≤ b64v c ∧ b64v c ≤ 64 := by
  unfold b64v
  repeat' split
  all_goals omega

def turn (st : Bool) (o : List Int) (q l p n : Int) : Option (List Int × Int × Int × Int) :=
  if n = 61 then (if st = false ∨ (2 ≤ q ∧ q + (p + 1) ≤ 4) then some (o, q, l, p + 1) else none)
  else if 64 ≤ b64v n then (if st = true then none else some (o, q, l, p))
  else if p ≠ 0 ∧ st = true then none
  else if q = 0 then some (o, 1, b64v n, 0)
  else if q = 1 then some (o ++ [l * 4 + b64v n / 16], 2, b64v n % 16, 0)
  else if q = 2 then some (o ++ [l * 16 + b64v n / 4], 3, b64v n % 4, 0)
  else some (o ++ [l * 64 + b64v n], 0, 0, 0)

def mach (st : Bool) (ks : List Int) : Option (List Int × Int × Int × Int) :=
  ks.foldl (fun a n => a.bind fun c => turn st c.1 c.2.1 c.2.2.1 c.2.2.2 n) (some ([], 0, 0, 0))

theorem mach_nil (st : Bool) : mach st [] = some ([], 0, 0, 0) := rfl
theorem mach_snoc (st : Bool) (pre : List Int) (n : Int) : mach st (pre ++ [n]) = (mach st pre).bind fun c => turn st c.1 c.2.1 c.2.2.1 c.2.2.2 n := by
  unfold mach
  rw [List.foldl_append]
  rfl
theorem foldl_none (st : Bool) : ∀ ks : List Int, ks.foldl (fun a n => a.bind fun c => turn st c.1 c.2.1 c.2.2.1 c.2.2.2 n) none = none
  | [] => rfl
  | _ :: r => foldl_none st r
theorem mach_app_none (st : Bool) (pre post : List Int) (h : mach st pre = none) : mach st (pre ++ post) = none := by
  unfold mach at h ⊢
  rw [List.foldl_append, h, foldl_none]

def fin (c : List Int × Int × Int × Int) : Option (List Int) := if c.2.1 = 1 then none else if c.2.1 ≠ 0 ∧ c.2.1 + c.2.2.2 < 4 then none else some c.1
def decode (st : Bool) (ks : List Int) : Option (List Int) := (mach st ks).bind fin

/-- what holds between the turns -/
def Inv (st : Bool) (pre o : List Int) (q l p i : Int) : Prop :=
  mach st pre = some (o, q, l, p) ∧ 0 ≤ q ∧ q ≤ 3 ∧ 0 ≤ l ∧ l < 64 ∧ 0 ≤ p ∧ p ≤ (pre.length : Int) ∧ o.length ≤ pre.length ∧ 0 ≤ i ∧ i ≤ (pre.length : Int) ∧ (q = 2 → l < 16) ∧ (q = 3 → l < 4) ∧ ∀ x ∈ o, 0 ≤ x ∧ x < 256

open PySem in
theorem or_low (a r k : Nat) (h : r < 2 ^ k) : (a * 2 ^ k) ||| r = a * 2 ^ k + r := by
  rw [← Nat.shiftLeft_eq, Nat.shiftLeft_add_eq_or_of_lt h]
open PySem in
theorem bor (l v : Int) (k : Nat) (hl : 0 ≤ l) (hv : 0 ≤ v) (h : v < 2 ^ k) : Builtin.bitOr (l * 2 ^ k) v = l * 2 ^ k + v := by
  obtain ⟨a, rfl⟩ := Int.eq_ofNat_of_zero_le hl
  obtain ⟨r, rfl⟩ := Int.eq_ofNat_of_zero_le hv
  have hr : r < 2 ^ k := by
    have : ((2 : Int) ^ k) = ((2 ^ k : Nat) : Int) := by rw [Int.natCast_pow]; rfl
    rw [this] at h
    exact Int.ofNat_lt.mp h
  have e : ((a : Int) * 2 ^ k) = ((a * 2 ^ k : Nat) : Int) := by
    rw [Int.natCast_mul, Int.natCast_pow]; rfl
  rw [e, PyProof.Rows.bitOr_and, PyProof.Rows.bitAnd_pp (Int.natCast_nonneg _) (Int.natCast_nonneg _)]
  rw [Int.toNat_natCast, Int.toNat_natCast]
  have z : (a * 2 ^ k) &&& r = 0 := by
    apply Nat.eq_of_testBit_eq
    intro i
    rw [Nat.testBit_and, Nat.zero_testBit, ← Nat.shiftLeft_eq, Nat.testBit_shiftLeft]
    by_cases hi : k ≤ i
    · rw [Nat.testBit_lt_two_pow (Nat.lt_of_lt_of_le hr (Nat.pow_le_pow_right (by decide) hi))]
      simp
    · simp [hi]
  rw [z]
  simp
theorem pick1 {l v : Int} (hl : 0 ≤ l) (h0 : 0 ≤ v) (h1 : v < 64) : PySem.Builtin.bitOr (l * 2 ^ Int.toNat 2) (v.fdiv (2 ^ Int.toNat 4)) = l * 4 + v / 16 := by
  have e : v.fdiv (2 ^ Int.toNat 4) = v / 16 := Int.fdiv_eq_ediv_of_nonneg v (by decide)
  rw [e]
  exact bor l (v / 16) 2 hl (by omega) (by show v / 16 < 4; omega)
theorem pick2 {l v : Int} (hl : 0 ≤ l) (h0 : 0 ≤ v) (h1 : v < 64) : PySem.Builtin.bitOr (l * 2 ^ Int.toNat 4) (v.fdiv (2 ^ Int.toNat 2)) = l * 16 + v / 4 := by
  have e : v.fdiv (2 ^ Int.toNat 2) = v / 4 := Int.fdiv_eq_ediv_of_nonneg v (by decide)
  rw [e]
  exact bor l (v / 4) 4 hl (by omega) (by show v / 4 < 16; omega)
theorem pick3 {l v : Int} (hl : 0 ≤ l) (h0 : 0 ≤ v) (h1 : v < 64) : PySem.Builtin.bitOr (l * 2 ^ Int.toNat 6) v = l * 64 + v :=
  bor l v 6 hl h0 (by show v < 64; omega)

section
variable {st : Bool} {pre o : List Int} {q l p i n : Int}
theorem Inv.start (st : Bool) : Inv st [] [] 0 0 0 0 := ⟨rfl, by omega, by omega, by omega, by omega, by omega, by simp, by simp, by omega, by simp, by omega, by omega, by simp⟩
theorem Inv.pad (h : Inv st pre o q l p i) (hn : n = 61) (hc : st = false ∨ (2 ≤ q ∧ q + (p + 1) ≤ 4)) : Inv st (pre ++ [n]) o q l (p + 1) (i + 1) := by
  obtain ⟨hm, a1, a2, a3, a4, a5, a6, a7, a8, a9, b1, b2, b3⟩ := h
  refine ⟨?_, a1, a2, a3, a4, by omega, by simp; omega, by simp; omega, by omega, by simp; omega, b1, b2, b3⟩
  rw [mach_snoc, hm]
  show turn st o q l p n = _
  unfold turn
  rw [if_pos hn, if_pos hc]
theorem Inv.skip (h : Inv st pre o q l p i) (hn : n ≠ 61) (hv : 64 ≤ b64v n) (hc : st = false) : Inv st (pre ++ [n]) o q l p (i + 1) := by
  obtain ⟨hm, a1, a2, a3, a4, a5, a6, a7, a8, a9, b1, b2, b3⟩ := h
  refine ⟨?_, a1, a2, a3, a4, by omega, by simp; omega, by simp; omega, by omega, by simp; omega, b1, b2, b3⟩
  rw [mach_snoc, hm]
  show turn st o q l p n = _
  unfold turn
  rw [if_neg hn, if_pos hv, if_neg (by rw [hc]; decide)]
theorem turn_in (hn : n ≠ 61) (hv : ¬ 64 ≤ b64v n) (hc : p = 0 ∨ st = false) : turn st o q l p n = (if q = 0 then some (o, 1, b64v n, 0)
  else if q = 1 then some (o ++ [l * 4 + b64v n / 16], 2, b64v n % 16, 0)
  else if q = 2 then some (o ++ [l * 16 + b64v n / 4], 3, b64v n % 4, 0)
  else some (o ++ [l * 64 + b64v n], 0, 0, 0)) := by
  unfold turn
  rw [if_neg hn, if_neg hv, if_neg (by rintro ⟨h1, h2⟩; rcases hc with h | h; exact h1 h; rw [h] at h2; cases h2)]
theorem in_snoc {x : Int} (b3 : ∀ x ∈ o, 0 ≤ x ∧ x < 256) (h : 0 ≤ x ∧ x < 256) : ∀ y ∈ o ++ [x], 0 ≤ y ∧ y < 256 := by
  intro y hy
  rcases List.mem_append.mp hy with h' | h'
  · exact b3 y h'
  · rw [List.mem_singleton.mp h']; exact h
theorem Inv.q0 (h : Inv st pre o q l p i) (hn : n ≠ 61) (hv : ¬ 64 ≤ b64v n) (hc : p = 0 ∨ st = false) (hq : q = 0) : Inv st (pre ++ [n]) o 1 (b64v n) 0 (i + 1) := by
  obtain ⟨hm, a1, a2, a3, a4, a5, a6, a7, a8, a9, b1, b2, b3⟩ := h
  have hb := b64v_in n
  refine ⟨?_, by omega, by omega, hb.1, by omega, by omega, by simp; omega, by simp; omega, by omega, by simp; omega, by omega, by omega, b3⟩
  rw [mach_snoc, hm]
  show turn st o q l p n = _
  rw [turn_in hn hv hc, if_pos hq]
theorem Inv.q1 (h : Inv st pre o q l p i) (hn : n ≠ 61) (hv : ¬ 64 ≤ b64v n) (hc : p = 0 ∨ st = false) (hq : q = 1) :
    Inv st (pre ++ [n]) (o ++ [PySem.Builtin.bitOr (l * 2 ^ Int.toNat 2) ((b64v n).fdiv (2 ^ Int.toNat 4))]) 2 (PySem.Builtin.bitAnd (b64v n) 15) 0 (i + 1) := by
  obtain ⟨hm, a1, a2, a3, a4, a5, a6, a7, a8, a9, b1, b2, b3⟩ := h
  have hb := b64v_in n
  rw [pick1 a3 hb.1 (by omega), PyProof.Rows.bitAnd_m4]
  refine ⟨?_, by omega, by omega, by omega, by omega, by omega, by simp; omega, by simp; omega, by omega, by simp; omega, by omega, by omega, in_snoc b3 (by omega)⟩
  rw [mach_snoc, hm]
  show turn st o q l p n = _
  rw [turn_in hn hv hc, if_neg (by omega), if_pos hq]
theorem Inv.q2 (h : Inv st pre o q l p i) (hn : n ≠ 61) (hv : ¬ 64 ≤ b64v n) (hc : p = 0 ∨ st = false) (hq : q = 2) :
    Inv st (pre ++ [n]) (o ++ [PySem.Builtin.bitOr (l * 2 ^ Int.toNat 4) ((b64v n).fdiv (2 ^ Int.toNat 2))]) 3 (PySem.Builtin.bitAnd (b64v n) 3) 0 (i + 1) := by
  obtain ⟨hm, a1, a2, a3, a4, a5, a6, a7, a8, a9, b1, b2, b3⟩ := h
  have hb := b64v_in n
  have := b1 hq
  rw [pick2 a3 hb.1 (by omega), PyProof.Rows.bitAnd_m2]
  refine ⟨?_, by omega, by omega, by omega, by omega, by omega, by simp; omega, by simp; omega, by omega, by simp; omega, by omega, by omega, in_snoc b3 (by omega)⟩
  rw [mach_snoc, hm]
  show turn st o q l p n = _
  rw [turn_in hn hv hc, if_neg (by omega), if_neg (by omega), if_pos hq]
theorem Inv.q3 (h : Inv st pre o q l p i) (hn : n ≠ 61) (hv : ¬ 64 ≤ b64v n) (hc : p = 0 ∨ st = false) (h0 : q ≠ 0) (h1 : q ≠ 1) (h2 : q ≠ 2) :
    Inv st (pre ++ [n]) (o ++ [PySem.Builtin.bitOr (l * 2 ^ Int.toNat 6) (b64v n)]) 0 0 0 (i + 1) := by
  obtain ⟨hm, a1, a2, a3, a4, a5, a6, a7, a8, a9, b1, b2, b3⟩ := h
  have hb := b64v_in n
  have := b2 (by omega)
  rw [pick3 a3 hb.1 (by omega)]
  refine ⟨?_, by omega, by omega, by omega, by omega, by omega, by simp; omega, by simp; omega, by omega, by simp; omega, by omega, by omega, in_snoc b3 (by omega)⟩
  rw [mach_snoc, hm]
  show turn st o q l p n = _
  rw [turn_in hn hv hc, if_neg (by omega), if_neg (by omega), if_neg (by omega)]
theorem decode_none {post ks : List Int} (hk : ks = pre ++ n :: post) (hm : mach st pre = some (o, q, l, p)) (ht : turn st o q l p n = none) : decode st ks = none := by
  have h1 : mach st (pre ++ [n]) = none := by rw [mach_snoc, hm]; exact ht
  have h2 : ks = (pre ++ [n]) ++ post := by rw [hk]; simp
  unfold decode
  rw [h2, mach_app_none st _ post h1]
  rfl
theorem decode_pad {post ks : List Int} (hk : ks = pre ++ n :: post) (h : Inv st pre o q l p i) (hn : n = 61) (hs : st = true) (hc : ¬ (2 ≤ q ∧ q + (p + 1) ≤ 4)) : decode st ks = none := by
  refine decode_none hk h.1 ?_
  unfold turn
  rw [if_pos hn, if_neg (by rintro (h' | h'); rw [h'] at hs; cases hs; exact hc h')]
theorem decode_bad {post ks : List Int} (hk : ks = pre ++ n :: post) (h : Inv st pre o q l p i) (hn : n ≠ 61) (hs : st = true) (hv : 64 ≤ b64v n) : decode st ks = none := by
  refine decode_none hk h.1 ?_
  unfold turn
  rw [if_neg hn, if_pos hv, if_pos hs]
theorem decode_late {post ks : List Int} (hk : ks = pre ++ n :: post) (h : Inv st pre o q l p i) (hn : n ≠ 61) (hs : st = true) (hv : ¬ 64 ≤ b64v n) (hp : p ≠ 0) : decode st ks = none := by
  refine decode_none hk h.1 ?_
  unfold turn
  rw [if_neg hn, if_neg hv, if_pos ⟨hp, hs⟩]
theorem decode_one {ks : List Int} (h : Inv st ks o q l p i) (hq : q = 1) : decode st ks = none := by
  unfold decode
  rw [h.1]
  show fin (o, q, l, p) = none
  unfold fin
  rw [if_pos hq]
theorem decode_short {ks : List Int} (h : Inv st ks o q l p i) (hq : q ≠ 0) (hp : q + p < 4) : decode st ks = none := by
  unfold decode
  rw [h.1]
  show fin (o, q, l, p) = none
  unfold fin
  by_cases h1 : q = 1
  · rw [if_pos h1]
  · rw [if_neg h1, if_pos ⟨hq, hp⟩]
theorem decode_some {ks : List Int} (h : Inv st ks o q l p i) (hq : q ≠ 1) (hp : q = 0 ∨ ¬ q + p < 4) : decode st ks = some o := by
  unfold decode
  rw [h.1]
  show fin (o, q, l, p) = some o
  unfold fin
  rw [if_neg hq, if_neg (by rintro ⟨a, b⟩; rcases hp with h' | h'; exact a h'; exact h' b)]
end
end Mine
end
-- part: Plain
section
namespace Mine
def othL : List Int := (List.range 48).map Int.ofNat ++ [58, 59, 60, 62, 63, 64] ++ [91, 92, 93, 94, 95, 96] ++ [123, 124, 125, 126, 127]
def punct (x : Int) : Prop := (33 ≤ x ∧ x ≤ 47) ∨ (58 ≤ x ∧ x ≤ 60) ∨ (62 ≤ x ∧ x ≤ 64) ∨ (91 ≤ x ∧ x ≤ 96) ∨ (123 ≤ x ∧ x ≤ 126)
theorem oth_punct : ∀ a : Fin 31, punct (othL.getD (33 + a.val) 0) := by unfold punct; decide +kernel
theorem oth_inj : ∀ a b : Fin 31, a ≠ b → othL.getD (33 + a.val) 0 ≠ othL.getD (33 + b.val) 0 := by decide +kernel
theorem pair_ok (S : Int) : punct (othL.getD (33 + S.fmod 31).toNat 0) ∧ punct (othL.getD (33 + (S.fmod 31 + 1 + (S.fdiv 31).fmod 30).fmod 31).toNat 0) ∧
    othL.getD (33 + S.fmod 31).toNat 0 ≠ othL.getD (33 + (S.fmod 31 + 1 + (S.fdiv 31).fmod 30).fmod 31).toNat 0 := by
  rw [Int.fmod_eq_emod_of_nonneg S (by decide : (0 : Int) ≤ 31), Int.fmod_eq_emod_of_nonneg (S.fdiv 31) (by decide : (0 : Int) ≤ 30), Int.fmod_eq_emod_of_nonneg _ (by decide : (0 : Int) ≤ 31)]
  have ha := Int.emod_nonneg S (by decide : (31 : Int) ≠ 0)
  have ha' := Int.emod_lt_of_pos S (by decide : (0 : Int) < 31)
  have hc := Int.emod_nonneg (S.fdiv 31) (by decide : (30 : Int) ≠ 0)
  have hc' := Int.emod_lt_of_pos (S.fdiv 31) (by decide : (0 : Int) < 30)
  generalize S % 31 = a at *
  generalize (S.fdiv 31) % 30 = c at *
  have hb := Int.emod_nonneg (a + 1 + c) (by decide : (31 : Int) ≠ 0)
  have hb' := Int.emod_lt_of_pos (a + 1 + c) (by decide : (0 : Int) < 31)
  have hne : (a + 1 + c) % 31 ≠ a := by omega
  generalize (a + 1 + c) % 31 = b at *
  have ea : (33 + a).toNat = 33 + a.toNat := by omega
  have eb : (33 + b).toNat = 33 + b.toNat := by omega
  rw [ea, eb]
  have hna : a.toNat < 31 := by omega
  have hnb : b.toNat < 31 := by omega
  refine ⟨oth_punct ⟨a.toNat, hna⟩, oth_punct ⟨b.toNat, hnb⟩, oth_inj ⟨a.toNat, hna⟩ ⟨b.toNat, hnb⟩ ?_⟩
  intro e
  have := congrArg Fin.val e
  simp only at this
  omega
theorem punct_in {x : Int} (h : punct x) : 0 ≤ x ∧ x < 128 := by unfold punct at h; omega
theorem in2 {x y : Int} (hx : 0 ≤ x ∧ x < 128) (hy : 0 ≤ y ∧ y < 128) : PySem.W.KBa.In [x, y] := by
  intro n hn
  simp only [List.mem_cons, List.not_mem_nil, or_false] at hn
  rcases hn with rfl | rfl <;> omega
def alphL : List Int := (List.range 26).map (fun i => Int.ofNat (65 + i)) ++ (List.range 26).map (fun i => Int.ofNat (97 + i)) ++ (List.range 10).map (fun i => Int.ofNat (48 + i))
def signsL (x y : Int) : List Int := alphL ++ [x, y] ++ [43, 47]
/-- what the law lays for one number -/
def codeOf (x y n : Int) : Int :=
  if (if n % 4 = 3 then n / 4 % 256 else (signsL x y).getD (n / 4 % 66).toNat 0) = 61 then 60 else (if n % 4 = 3 then n / 4 % 256 else (signsL x y).getD (n / 4 % 66).toNat 0)
theorem line_step {x y n v : Int} {pre line : List Int} (h : line = pre.map (codeOf x y)) (hv : v = codeOf x y n) : line ++ [v] = (pre ++ [n]).map (codeOf x y) := by
  rw [h, hv, List.map_append]; rfl
section
variable {x y n v : Int} {pre line : List Int}
theorem lineS (h : line = pre.map (codeOf x y)) (hl : line.length = pre.length) (hv : v = codeOf x y n) : line ++ [v] = (pre ++ [n]).map (codeOf x y) ∧ (line ++ [v]).length = (pre ++ [n]).length :=
  ⟨line_step h hv, by rw [List.length_append, List.length_append, hl]; rfl⟩
theorem fm4 (n : Int) : n.fmod 4 = n % 4 := Int.fmod_eq_emod_of_nonneg n (by decide)
theorem fd4 (n : Int) : n.fdiv 4 = n / 4 := Int.fdiv_eq_ediv_of_nonneg n (by decide)
theorem fm256 (n : Int) : n.fmod 256 = n % 256 := Int.fmod_eq_emod_of_nonneg n (by decide)
theorem fm66 (n : Int) : n.fmod 66 = n % 66 := Int.fmod_eq_emod_of_nonneg n (by decide)
theorem code_a (h : n.fmod 4 = 3) (h2 : (n.fdiv 4).fmod 256 = 61) : 60 = codeOf x y n := by
  rw [fm4] at h; rw [fd4, fm256] at h2
  unfold codeOf
  rw [if_pos h, if_pos h2]
theorem code_b (h : n.fmod 4 = 3) (h2 : (n.fdiv 4).fmod 256 ≠ 61) : (n.fdiv 4).fmod 256 = codeOf x y n := by
  rw [fm4] at h; rw [fd4, fm256] at h2 ⊢
  unfold codeOf
  rw [if_pos h, if_neg h2]
theorem code_c (h : n.fmod 4 ≠ 3) (h2 : (signsL x y).getD ((n.fdiv 4).fmod 66).toNat 0 = 61) : 60 = codeOf x y n := by
  rw [fm4] at h; rw [fd4, fm66] at h2
  unfold codeOf
  rw [if_neg h, if_pos h2]
theorem code_d (h : n.fmod 4 ≠ 3) (h2 : (signsL x y).getD ((n.fdiv 4).fmod 66).toNat 0 ≠ 61) : (signsL x y).getD ((n.fdiv 4).fmod 66).toNat 0 = codeOf x y n := by
  rw [fm4] at h; rw [fd4, fm66] at h2 ⊢
  unfold codeOf
  rw [if_neg h, if_neg h2]
end
def fig (x y c : Int) : Int := if 65 ≤ c ∧ c ≤ 90 then c % 32 - 1 else if 97 ≤ c ∧ c ≤ 122 then c % 32 + 25 else if 48 ≤ c ∧ c ≤ 57 then c % 32 + 36 else if c = x then 62 else if c = y then 63 else if c = 43 then 62 else if c = 47 then 63 else -1
end Mine
end
-- part: Plain2
section
namespace Mine
open PySem PySem.W PyProof.Rows
/-- the sign that translate reads for c -/
def tr (x y c : Int) : Int := if c = y then 47 else if c = x then 43 else c
/-- one octet of the answer -/
def dueK (figs : List Int) (k : Nat) : Int := ((64 * figs.getD (8 * k / 6) 0 + figs.getD (8 * k / 6 + 1) 0) / 2 ^ (4 - 8 * k % 6)) % 256
def dueL (figs : List Int) : List Int := (List.range (6 * figs.length / 8)).map (dueK figs)
def dueOf (figs : List Int) (pads : Nat) : Option (List Int) := if figs.length % 4 ≠ 1 ∧ (figs.length + pads) % 4 = 0 then some (dueL figs) else none
def figsOf (x y : Int) (line : List Int) : List Int := (line.map (fig x y)).filter fun a => decide (0 ≤ a)
def left (figs : List Int) : Int := if figs.length % 4 = 0 then 0 else if figs.length % 4 = 1 then figs.getD (figs.length - 1) 0 else if figs.length % 4 = 2 then figs.getD (figs.length - 1) 0 % 16 else figs.getD (figs.length - 1) 0 % 4

/-- two unlike signs that are no letters, no figures, not = -/
structure Alt (x y : Int) : Prop where
  ne : x ≠ y
  x1 : punct x
  y1 : punct y
theorem tr_off {x y c : Int} (h1 : c ≠ y) (h2 : c ≠ x) : tr x y c = c := by
  unfold tr
  rw [if_neg h1, if_neg h2]
theorem fig_val {x y c : Int} (h : Alt x y) (hc : c ≠ 61) : (0 ≤ fig x y c → b64v (tr x y c) = fig x y c ∧ fig x y c < 64) ∧ (fig x y c < 0 → 64 ≤ b64v (tr x y c)) ∧ tr x y c ≠ 61 := by
  obtain ⟨ne, hx, hy⟩ := h
  unfold punct at hx hy
  by_cases a1 : 65 ≤ c ∧ c ≤ 90
  · have e : fig x y c = c % 32 - 1 := by unfold fig; rw [if_pos a1]
    have f : b64v c = c - 65 := by unfold b64v; rw [if_pos a1]
    rw [tr_off (by omega) (by omega), e, f]
    omega
  by_cases a2 : 97 ≤ c ∧ c ≤ 122
  · have e : fig x y c = c % 32 + 25 := by unfold fig; rw [if_neg a1, if_pos a2]
    have f : b64v c = c - 71 := by unfold b64v; rw [if_neg a1, if_pos a2]
    rw [tr_off (by omega) (by omega), e, f]
    omega
  by_cases a3 : 48 ≤ c ∧ c ≤ 57
  · have e : fig x y c = c % 32 + 36 := by unfold fig; rw [if_neg a1, if_neg a2, if_pos a3]
    have f : b64v c = c + 4 := by unfold b64v; rw [if_neg a1, if_neg a2, if_pos a3]
    rw [tr_off (by omega) (by omega), e, f]
    omega
  have e : fig x y c = if c = x then 62 else if c = y then 63 else if c = 43 then 62 else if c = 47 then 63 else -1 := by unfold fig; rw [if_neg a1, if_neg a2, if_neg a3]
  rw [e]
  by_cases b1 : c = x
  · have f : tr x y c = 43 := by unfold tr; rw [if_neg (fun q => ne (b1.symm.trans q)), if_pos b1]
    rw [if_pos b1, f]
    decide
  by_cases b2 : c = y
  · have f : tr x y c = 47 := by unfold tr; rw [if_pos b2]
    rw [if_neg b1, if_pos b2, f]
    decide
  rw [tr_off b2 b1, if_neg b1, if_neg b2]
  have f : b64v c = if c = 43 then 62 else if c = 47 then 63 else 64 := by unfold b64v; rw [if_neg a1, if_neg a2, if_neg a3]
  rw [f]
  by_cases b3 : c = 43
  · rw [if_pos b3, if_pos b3, b3]
    decide
  by_cases b4 : c = 47
  · rw [if_neg b3, if_pos b4, if_neg b3, if_pos b4, b4]
    decide
  rw [if_neg b3, if_neg b4, if_neg b3, if_neg b4]
  exact ⟨fun q => absurd q (by decide), fun _ => by decide, hc⟩
theorem fig_ascii {x y c : Int} (h : Alt x y) (hc : 0 ≤ fig x y c) : 0 ≤ c ∧ c < 128 := by
  obtain ⟨-, hx, hy⟩ := h
  have hx := punct_in hx
  have hy := punct_in hy
  by_cases a : 0 ≤ c ∧ c < 128
  · exact a
  · have e : fig x y c = -1 := by
      unfold fig
      rw [if_neg (by omega), if_neg (by omega), if_neg (by omega), if_neg (by omega), if_neg (by omega), if_neg (by omega), if_neg (by omega)]
    omega
theorem getD_snoc_lt {l : List Int} {f : Int} {i : Nat} (h : i < l.length) : (l ++ [f]).getD i 0 = l.getD i 0 := by
  rw [List.getD_eq_getElem?_getD, List.getD_eq_getElem?_getD, List.getElem?_append_left h]
theorem getD_snoc_eq {l : List Int} {f : Int} {i : Nat} (h : i = l.length) : (l ++ [f]).getD i 0 = f := by
  subst h
  rw [List.getD_eq_getElem?_getD, List.getElem?_append_right (Nat.le_refl _)]
  simp
theorem dueK_snoc {l : List Int} {f : Int} {k : Nat} (h : k < 6 * l.length / 8) : dueK (l ++ [f]) k = dueK l k := by
  unfold dueK
  rw [getD_snoc_lt (by omega), getD_snoc_lt (by omega)]
theorem dueL_snoc0 {l : List Int} {f : Int} (h : l.length % 4 = 0) : dueL (l ++ [f]) = dueL l := by
  unfold dueL
  have e : 6 * (l ++ [f]).length / 8 = 6 * l.length / 8 := by rw [List.length_append]; simp; omega
  rw [e]
  exact List.map_congr_left fun k hk => dueK_snoc (List.mem_range.mp hk)
theorem dueL_snoc1 {l : List Int} {f : Int} (h : l.length % 4 ≠ 0) : dueL (l ++ [f]) = dueL l ++ [dueK (l ++ [f]) (6 * l.length / 8)] := by
  unfold dueL
  have e : 6 * (l ++ [f]).length / 8 = 6 * l.length / 8 + 1 := by
    rw [List.length_append, List.length_singleton]
    have h3 : l.length % 4 = 1 ∨ l.length % 4 = 2 ∨ l.length % 4 = 3 := by omega
    obtain ⟨d, hd⟩ : ∃ d, d = l.length / 4 := ⟨_, rfl⟩
    rcases h3 with h3 | h3 | h3
    · rw [show l.length = 4 * d + 1 from by omega]; omega
    · rw [show l.length = 4 * d + 2 from by omega]; omega
    · rw [show l.length = 4 * d + 3 from by omega]; omega
  rw [e, List.range_succ, List.map_append]
  congr 1
  exact List.map_congr_left fun k hk => dueK_snoc (List.mem_range.mp hk)
theorem dueK1 {l : List Int} {f : Int} (h : l.length % 4 = 1) (hl : 0 ≤ l.getD (l.length - 1) 0 ∧ l.getD (l.length - 1) 0 < 64) (hf : 0 ≤ f ∧ f < 64) :
    dueK (l ++ [f]) (6 * l.length / 8) = l.getD (l.length - 1) 0 * 4 + f / 16 := by
  unfold dueK
  rw [show 8 * (6 * l.length / 8) / 6 = l.length - 1 from by omega, show l.length - 1 + 1 = l.length from by omega, show 4 - 8 * (6 * l.length / 8) % 6 = 4 from by omega, getD_snoc_lt (by omega), getD_snoc_eq rfl]
  have := hl.1
  have := hl.2
  generalize l.getD (l.length - 1) 0 = a at *
  show (64 * a + f) / 16 % 256 = _
  omega
theorem dueK2 {l : List Int} {f : Int} (h : l.length % 4 = 2) (hl : 0 ≤ l.getD (l.length - 1) 0 ∧ l.getD (l.length - 1) 0 < 64) (hf : 0 ≤ f ∧ f < 64) :
    dueK (l ++ [f]) (6 * l.length / 8) = l.getD (l.length - 1) 0 % 16 * 16 + f / 4 := by
  unfold dueK
  rw [show 8 * (6 * l.length / 8) / 6 = l.length - 1 from by omega, show l.length - 1 + 1 = l.length from by omega, show 4 - 8 * (6 * l.length / 8) % 6 = 2 from by omega, getD_snoc_lt (by omega), getD_snoc_eq rfl]
  have := hl.1
  have := hl.2
  generalize l.getD (l.length - 1) 0 = a at *
  show (64 * a + f) / 4 % 256 = _
  omega
theorem dueK3 {l : List Int} {f : Int} (h : l.length % 4 = 3) (hl : 0 ≤ l.getD (l.length - 1) 0 ∧ l.getD (l.length - 1) 0 < 64) (hf : 0 ≤ f ∧ f < 64) :
    dueK (l ++ [f]) (6 * l.length / 8) = l.getD (l.length - 1) 0 % 4 * 64 + f := by
  unfold dueK
  rw [show 8 * (6 * l.length / 8) / 6 = l.length - 1 from by omega, show l.length - 1 + 1 = l.length from by omega, show 4 - 8 * (6 * l.length / 8) % 6 = 0 from by omega, getD_snoc_lt (by omega), getD_snoc_eq rfl]
  have := hl.1
  have := hl.2
  generalize l.getD (l.length - 1) 0 = a at *
  show (64 * a + f) / 1 % 256 = _
  omega
/-- the machine's state after the signs that are worth these figures -/
def stOf (figs : List Int) : List Int × Int × Int × Int := (dueL figs, ((figs.length % 4 : Nat) : Int), left figs, 0)
theorem left_snoc {l : List Int} {f : Int} (h : (l.length + 1) % 4 = 0) : left (l ++ [f]) = 0 := by
  unfold left
  rw [List.length_append, if_pos (by simpa using h)]
theorem getD_in {l : List Int} (h : ∀ f ∈ l, 0 ≤ f ∧ f < 64) (hn : l.length ≠ 0) : 0 ≤ l.getD (l.length - 1) 0 ∧ l.getD (l.length - 1) 0 < 64 := by
  have hlt : l.length - 1 < l.length := by omega
  rw [List.getD_eq_getElem?_getD, List.getElem?_eq_getElem hlt]
  exact h _ (List.getElem_mem hlt)
theorem turn_snoc {st : Bool} {x y c : Int} {l : List Int} (ha : Alt x y) (hc : c ≠ 61) (hin : ∀ f ∈ l, 0 ≤ f ∧ f < 64) (hf : 0 ≤ fig x y c) :
    turn st (stOf l).1 (stOf l).2.1 (stOf l).2.2.1 (stOf l).2.2.2 (tr x y c) = some (stOf (l ++ [fig x y c])) := by
  obtain ⟨h1, -, h3⟩ := fig_val ha hc
  obtain ⟨h1, h2⟩ := h1 hf
  have e : turn st (stOf l).1 (stOf l).2.1 (stOf l).2.2.1 (stOf l).2.2.2 (tr x y c) = _ := turn_in (st := st) (o := dueL l) (q := ((l.length % 4 : Nat) : Int)) (l := left l) (p := 0) h3 (by rw [h1]; omega) (.inl rfl)
  rw [e, h1]
  generalize fig x y c = f at *
  have hlen : (l ++ [f]).length = l.length + 1 := by simp
  have hcase : l.length % 4 = 0 ∨ l.length % 4 = 1 ∨ l.length % 4 = 2 ∨ l.length % 4 = 3 := by omega
  unfold stOf
  rw [hlen]
  rcases hcase with h | h | h | h
  · rw [if_pos (by omega), dueL_snoc0 h, show (l.length + 1) % 4 = 1 from by omega]
    unfold left
    rw [hlen, if_neg (by omega), if_pos (by omega), getD_snoc_eq (by omega)]
    rfl
  · have hg := getD_in hin (by omega)
    rw [if_neg (by omega), if_pos (by omega), dueL_snoc1 (by omega), dueK1 h hg ⟨hf, h2⟩, show (l.length + 1) % 4 = 2 from by omega]
    unfold left
    rw [hlen, if_neg (by omega), if_pos (by omega), if_neg (by omega), if_neg (by omega), if_pos (by omega), getD_snoc_eq (by omega)]
    rfl
  · have hg := getD_in hin (by omega)
    rw [if_neg (by omega), if_neg (by omega), if_pos (by omega), dueL_snoc1 (by omega), dueK2 h hg ⟨hf, h2⟩, show (l.length + 1) % 4 = 3 from by omega]
    unfold left
    rw [hlen, if_neg (by omega), if_neg (by omega), if_pos (by omega), if_neg (by omega), if_neg (by omega), if_neg (by omega), getD_snoc_eq (by omega)]
    rfl
  · have hg := getD_in hin (by omega)
    rw [if_neg (by omega), if_neg (by omega), if_neg (by omega), dueL_snoc1 (by omega), dueK3 h hg ⟨hf, h2⟩, show (l.length + 1) % 4 = 0 from by omega]
    unfold left
    rw [hlen, if_neg (by omega), if_neg (by omega), if_neg (by omega), if_pos (by omega)]
    rfl
theorem turn_pass {x y c : Int} {l : List Int} (ha : Alt x y) (hc : c ≠ 61) (hf : fig x y c < 0) :
    turn false (stOf l).1 (stOf l).2.1 (stOf l).2.2.1 (stOf l).2.2.2 (tr x y c) = some (stOf l) := by
  obtain ⟨-, h2, h3⟩ := fig_val ha hc
  unfold turn
  rw [if_neg h3, if_pos (h2 hf), if_neg (by decide)]
theorem turn_bad {x y c : Int} {l : List Int} (ha : Alt x y) (hc : c ≠ 61) (hf : fig x y c < 0) :
    turn true (stOf l).1 (stOf l).2.1 (stOf l).2.2.1 (stOf l).2.2.2 (tr x y c) = none := by
  obtain ⟨-, h2, h3⟩ := fig_val ha hc
  unfold turn
  rw [if_neg h3, if_pos (h2 hf), if_pos rfl]
theorem figs_snoc (x y : Int) (pre : List Int) (c : Int) : figsOf x y (pre ++ [c]) = if 0 ≤ fig x y c then figsOf x y pre ++ [fig x y c] else figsOf x y pre := by
  unfold figsOf
  rw [List.map_append, List.filter_append]
  by_cases h : 0 ≤ fig x y c
  · rw [if_pos h]; simp [h]
  · rw [if_neg h]; simp [h]
theorem figs_in {x y : Int} (ha : Alt x y) {line : List Int} (hl : ∀ c ∈ line, c ≠ 61) : ∀ f ∈ figsOf x y line, 0 ≤ f ∧ f < 64 := by
  intro f hf
  unfold figsOf at hf
  obtain ⟨hm, hp⟩ := List.mem_filter.mp hf
  obtain ⟨c, hc, rfl⟩ := List.mem_map.mp hm
  have h0 : 0 ≤ fig x y c := by simpa using hp
  exact ⟨h0, ((fig_val ha (hl c hc)).1 h0).2⟩
theorem figs_le (x y : Int) (line : List Int) : (figsOf x y line).length ≤ line.length := by
  unfold figsOf
  exact Nat.le_trans (List.length_filter_le _ _) (by rw [List.length_map]; exact Nat.le_refl _)
theorem snoc_ind {P : List Int → Prop} (h0 : P []) (h1 : ∀ l a, P l → P (l ++ [a])) : ∀ l, P l := by
  intro l
  have : P l.reverse.reverse := by
    induction l.reverse with
    | nil => exact h0
    | cons a r ih => rw [List.reverse_cons]; exact h1 _ _ ih
  rwa [List.reverse_reverse] at this
theorem mach_loose {x y : Int} (ha : Alt x y) (line : List Int) (hl : ∀ c ∈ line, c ≠ 61) : mach false (line.map (tr x y)) = some (stOf (figsOf x y line)) := by
  induction line using snoc_ind with
  | h0 => simp [mach, stOf, figsOf, dueL, left]
  | h1 l a ih =>
    have hl' : ∀ c ∈ l, c ≠ 61 := fun c hc => hl c (List.mem_append_left _ hc)
    have ha' : a ≠ 61 := hl a (List.mem_append_right _ (List.Mem.head _))
    rw [List.map_append, List.map_singleton, mach_snoc, ih hl', figs_snoc]
    by_cases h : 0 ≤ fig x y a
    · rw [if_pos h]; exact turn_snoc ha ha' (figs_in ha hl') h
    · rw [if_neg h]; exact turn_pass ha ha' (by omega)
theorem mach_strict {x y : Int} (ha : Alt x y) (line : List Int) (hl : ∀ c ∈ line, c ≠ 61) : mach true (line.map (tr x y)) = if (figsOf x y line).length = line.length then some (stOf (figsOf x y line)) else none := by
  induction line using snoc_ind with
  | h0 => simp [mach, stOf, figsOf, dueL, left]
  | h1 l a ih =>
    have hl' : ∀ c ∈ l, c ≠ 61 := fun c hc => hl c (List.mem_append_left _ hc)
    have ha' : a ≠ 61 := hl a (List.mem_append_right _ (List.Mem.head _))
    have hle := figs_le x y l
    rw [List.map_append, List.map_singleton, mach_snoc, ih hl', figs_snoc]
    by_cases h : 0 ≤ fig x y a
    · rw [if_pos h]
      by_cases he : (figsOf x y l).length = l.length
      · rw [if_pos he, if_pos (by simp; omega)]
        exact turn_snoc ha ha' (figs_in ha hl') h
      · rw [if_neg he, if_neg (by simp; omega)]
        rfl
    · rw [if_neg h]
      by_cases he : (figsOf x y l).length = l.length
      · rw [if_pos he, if_neg (by simp; omega)]
        exact turn_bad ha ha' (by omega)
      · rw [if_neg he, if_neg (by simp; omega)]
        rfl
theorem tr_pad {x y : Int} (ha : Alt x y) : tr x y 61 = 61 := by
  obtain ⟨ne, hx, hy⟩ := ha
  unfold punct at hx hy
  unfold tr
  rw [if_neg (by omega), if_neg (by omega)]
theorem mach_pads {ks : List Int} {o : List Int} {q l p : Int} (h : mach false ks = some (o, q, l, p)) : ∀ n : Nat, mach false (ks ++ List.replicate n 61) = some (o, q, l, p + n)
  | 0 => by simpa using h
  | n + 1 => by
    rw [List.replicate_succ', ← List.append_assoc, mach_snoc, mach_pads h n]
    show turn false o q l (p + n) 61 = _
    unfold turn
    rw [if_pos rfl, if_pos (.inl rfl)]
    congr 4
    omega
theorem mach_padsT {ks : List Int} {o : List Int} {q l : Int} (h : mach true ks = some (o, q, l, 0)) (hq : 2 ≤ q) : ∀ n : Nat, q + n ≤ 4 → mach true (ks ++ List.replicate n 61) = some (o, q, l, (n : Int))
  | 0, _ => by simpa using h
  | n + 1, hn => by
    rw [List.replicate_succ', ← List.append_assoc, mach_snoc, mach_padsT h hq n (by omega)]
    show turn true o q l n 61 = _
    unfold turn
    rw [if_pos rfl, if_pos (.inr ⟨hq, by omega⟩)]
    congr 4
theorem mach_padsN {ks : List Int} {o : List Int} {l : Int} (h : mach true ks = some (o, 1, l, 0)) : ∀ n : Nat, mach true (ks ++ List.replicate (n + 1) 61) = none := by
  intro n
  rw [List.replicate_succ, show ks ++ 61 :: List.replicate n 61 = (ks ++ [61]) ++ List.replicate n 61 from by simp]
  refine mach_app_none _ _ _ ?_
  rw [mach_snoc, h]
  show turn true o 1 l 0 61 = none
  unfold turn
  rw [if_pos rfl, if_neg (by rintro (h | h); cases h; omega)]
theorem mach_none_pads {ks : List Int} (h : mach true ks = none) (n : Nat) : mach true (ks ++ List.replicate n 61) = none := mach_app_none _ _ _ h
/-- the octets that the law hands over -/
def octs (line : List Int) (pads : Nat) : List Int := line ++ List.replicate pads 61
theorem octs_tr {x y : Int} (ha : Alt x y) (line : List Int) (pads : Nat) : (octs line pads).map (tr x y) = line.map (tr x y) ++ List.replicate pads 61 := by
  unfold octs
  rw [List.map_append, List.map_replicate, tr_pad ha]
/-- what the law reckons the = to be -/
def padsOk (size pads : Nat) : Prop := pads = 0 ∨ (pads < 4 ∧ (size + pads) % 4 = 0)
theorem fin_due (figs : List Int) (l : Int) (pads : Nat) (hp : padsOk figs.length pads) : Mine.fin (dueL figs, ((figs.length % 4 : Nat) : Int), l, (pads : Int)) = dueOf figs pads := by
  unfold Mine.fin dueOf
  unfold padsOk at hp
  dsimp only
  by_cases h1 : figs.length % 4 = 1
  · rw [if_pos (by omega), if_neg (by omega)]
  · rw [if_neg (by omega)]
    by_cases h2 : (figs.length + pads) % 4 = 0
    · rw [if_neg (by omega), if_pos ⟨h1, h2⟩]
    · rw [if_pos (by omega), if_neg (fun h => h2 h.2)]
theorem law_loose {x y : Int} (ha : Alt x y) (line : List Int) (hl : ∀ c ∈ line, c ≠ 61) (pads : Nat) (hp : padsOk (figsOf x y line).length pads) :
    decode false ((octs line pads).map (tr x y)) = dueOf (figsOf x y line) pads := by
  unfold decode
  rw [octs_tr ha, mach_pads (mach_loose ha line hl)]
  show Mine.fin _ = _
  rw [Int.zero_add]
  exact fin_due _ _ _ hp
theorem law_strict {x y : Int} (ha : Alt x y) (line : List Int) (hl : ∀ c ∈ line, c ≠ 61) (pads : Nat) (hp : padsOk (figsOf x y line).length pads) :
    decode true ((octs line pads).map (tr x y)) = if (figsOf x y line).length = line.length then dueOf (figsOf x y line) pads else none := by
  unfold decode
  rw [octs_tr ha]
  have hm := mach_strict ha line hl
  by_cases he : (figsOf x y line).length = line.length
  · rw [if_pos he] at hm ⊢
    have hf := fin_due (figsOf x y line) (left (figsOf x y line)) pads hp
    unfold padsOk at hp
    generalize hfg : figsOf x y line = figs at *
    unfold stOf at hm
    by_cases h0 : pads = 0
    · subst h0
      rw [show line.map (tr x y) ++ List.replicate 0 61 = line.map (tr x y) from by simp, hm]
      exact hf
    · by_cases h1 : figs.length % 4 = 1
      · have hq : ((figs.length % 4 : Nat) : Int) = 1 := by omega
        rw [hq] at hm
        obtain ⟨n, rfl⟩ : ∃ n, pads = n + 1 := ⟨pads - 1, by omega⟩
        rw [mach_padsN hm n]
        unfold dueOf
        rw [if_neg (by omega)]
        rfl
      · rw [mach_padsT hm (by omega) pads (by omega)]
        exact hf
  · rw [if_neg he] at hm ⊢
    rw [mach_none_pads hm]
    rfl
end Mine
end
-- part: Top
section
open PySem PySem.W PyProof.Rows
set_option maxRecDepth 100000
set_option maxHeartbeats 8000000
namespace Mine
open_top hd for PySem.Challenge.rw_qh0112_01
end Mine
end
-- part: Base
section
open PySem PySem.W PySem.Calls PyProof.Rows
set_option maxRecDepth 100000
set_option maxHeartbeats 8000000
namespace Mine

/-- a def that is called from anywhere: it comes back with a value that meets `P` and all that stood stands, or it raises an exception of a class that meets `X` -/
def Told (r : Nat) (f : Addr) (args : List Value) (kw : List (Str × Value)) (Pre : Heap → Prop) (P : Heap → Value → Prop) (X : Value → Prop) : Prop :=
  ∀ (w : World) (mean : ExcName → Option Value) (mg mb : Str → Option Value) (dp un : Nat) (gd : Option (List Code)) (outer : List Env) (base : Heap) (s : Shared) (Q E : Value → Shared → Prop),
    Below { handled := none, depth := dp, frames := some outer, guards := gd, units := un } base outer s.heap → (hd.heap_39 w.params).In base → Top hd.view_39 (looseW hd.view_39 [Str.ofString "bytes_types", Str.ofString "a2b_base64", Str.ofString "b64decode"]) mean mg mb base → KtsDicts (outer.filterMap (·.frame)) s.heap →
    (hd.heap_39 w.params).In s.heap → Top hd.view_39 (looseW hd.view_39 [Str.ofString "bytes_types", Str.ofString "a2b_base64", Str.ofString "b64decode"]) mean mg mb s.heap →
    dp + r < recursionLimit → un + 20 * r < cLine → Pre s.heap →
    (∀ v h' tk', P h' v → s.heap.StaysIn h' → Q v { s with heap := h', toks := tk' }) →
    (∀ e cls t vs h' tk', X cls → RaisedS base s.heap outer e cls t vs [] h' → s.heap.UpToSlots h' → E (.ref e) { s with heap := h', toks := tk' }) →
    wpAny (model PySem.Challenge.rw_qh0112_01.row.prog w) { handled := none, depth := dp, frames := some outer, guards := gd, units := un } (call (.ref f) args kw) Q E s

theorem enter {prog : Program} {w : World} {A₀ A : Around} {E : Value → Shared → Prop} {s : Shared} {K : Frag} {base : Heap} {mg mb : Str → Option Value} {p : Program} {loose : List Str} {mean : ExcName → Option Value} {Q : Value → Shared → Prop}
    {outer : List Env} {name qual : Str} {params : Arguments} {body : List Stmt} {scope : Scope} {dV kV doc pm cdv ct oc : Value} {an od : Option Addr} {osl : Array (Option Value)} {f : Addr} {args : List Value} {kw : List (Str × Value)} {binds : List (Str × Value)}
    (_B : Below A₀ base outer s.heap) (X : K.In s.heap) (T : Top p loose mean mg mb s.heap)
    (ho : K.lookup f = some ⟨oc, od, .func (fnOf name qual params body scope dV kV doc pm an cdv ct), osl⟩) (hcd : codeIn K cdv qual = true) (hroom : A.depth < recursionLimit)
    (hbind : BindsTo s (fnOf name qual params body scope dV kV doc pm an cdv ct) ⟨args, kw⟩ binds) (hloc : ∀ y ∈ binds, scope.names.lookup y.1 = some .local)
    (h : ∀ L' h₁, Fr s.heap L' h₁ (fun y => binds.reverse.lookup y) → News s.heap L' h₁ [] →
      wpAny (model prog w) (A.deeper (envOf qual scope L' f cdv)) (execs body (envOf qual scope L' f cdv))
        (fun fl s' => Q (match fl with | .ret v => v | _ => .none) s')
        (fun e s' => wpAny (model prog w) (A.deeper (envOf qual scope L' f cdv)) (leaving (envOf qual scope L' f cdv) e) (fun _ s'' => E e s'') (fun e' s'' => E e' s'') s')
        { s with heap := h₁, toks := s.toks + binds.length })
    (hco : scope.isCoroutine = false) (hgen : scope.isGenerator = false) (hk : scope.kind = .function)
    (hcell : ∀ x ∈ scope.names, x.2 ≠ .cell) : wpAny (model prog w) A (call (.ref f) args kw) Q E s := by
  refine wpAny_call ?_
  refine codeAny_call_def (fd := fnOf name qual params body scope dV kV doc pm an cdv ct) (body := body) (binds := binds) hroom (X _ _ ho) rfl T.nolimit (codeRec_of X hcd) rfl hbind hcell hloc (fun h₁ hns hk₁ => ?_) hco hgen hk
  exact h s.heap.objs.size h₁ ⟨hns, hk₁, Nat.le_refl _⟩ News.nil

end Mine
namespace Mine
theorem told_use {r : Nat} {f : Addr} {args : List Value} {kw : List (Str × Value)} {Pre : Heap → Prop} {P : Heap → Value → Prop} {X : Value → Prop} (C : Told r f args kw Pre P X)
    {w : World} {mean : ExcName → Option Value} {mg mb : Str → Option Value} {dp un : Nat} {gd : Option (List Code)} {outer : List Env} {A₀ : Around} {base h₀ : Heap} {cn : Str} {cs : Scope} {L a : Addr} {ccd : Value} {m : Str → Option Value} {news : List (Addr × Obj)} {s : Shared} {Q E : Value → Shared → Prop}
    (B : Below A₀ base outer h₀) (F : Fr h₀ L s.heap m) (N : News h₀ L s.heap news) (XB : (hd.heap_39 w.params).In base) (TB : Top hd.view_39 (looseW hd.view_39 [Str.ofString "bytes_types", Str.ofString "a2b_base64", Str.ofString "b64decode"]) mean mg mb base) (D : KtsDicts (outer.filterMap (·.frame)) h₀)
    (hk : cs.kind = .function) (hd : dp + r < recursionLimit) (hu : un + 20 * r < cLine) (hp : Pre s.heap)
    (ret : ∀ v h' tk', P h' v → Fr h₀ L h' m → News h₀ L h' news → s.heap.StaysIn h' → Q v { s with heap := h', toks := tk' })
    (exc : ∀ e cls t vs h' tk', X cls → RaisedS base s.heap (envOf cn cs L a ccd :: outer) e cls t vs [] h' → s.heap.UpToSlots h' → E (.ref e) { s with heap := h', toks := tk' }) :
    wpAny (model PySem.Challenge.rw_qh0112_01.row.prog w) { handled := none, depth := dp, frames := some (envOf cn cs L a ccd :: outer), guards := gd, units := un } (call (.ref f) args kw) Q E s := by
  have B₁ := B.push (name := cn) (scope := cs) (a := a) (cd := ccd) F hk
  refine C w mean mg mb dp un gd (envOf cn cs L a ccd :: outer) base s Q E ⟨rfl, B₁.stays, B₁.frames⟩ XB TB (fun b hb => ?_) (XB.keeps B₁.stays) (TB.keeps B₁.stays) hd hu hp (fun v h' tk' hv hs => ret v h' tk' hv (F.keptAll hs) (N.grown hs) hs) exc
  rcases kts_mem hb with rfl | hb
  · obtain ⟨oL, es, ep, hL, hLd, _⟩ := F.ns
    exact ⟨oL, es, ep, hL, hLd⟩
  · obtain ⟨o, es, n, ho, hdd⟩ := D b hb
    exact ⟨o, es, n, F.keep _ _ ho, hdd⟩
theorem told_use0 {r : Nat} {f : Addr} {args : List Value} {kw : List (Str × Value)} {Pre : Heap → Prop} {P : Heap → Value → Prop} (C : Told r f args kw Pre P (fun _ => False))
    {w : World} {mean : ExcName → Option Value} {mg mb : Str → Option Value} {dp un : Nat} {gd : Option (List Code)} {outer : List Env} {A₀ : Around} {base h₀ : Heap} {cn : Str} {cs : Scope} {L a : Addr} {ccd : Value} {m : Str → Option Value} {news : List (Addr × Obj)} {s : Shared} {Q E : Value → Shared → Prop}
    (B : Below A₀ base outer h₀) (F : Fr h₀ L s.heap m) (N : News h₀ L s.heap news) (XB : (hd.heap_39 w.params).In base) (TB : Top hd.view_39 (looseW hd.view_39 [Str.ofString "bytes_types", Str.ofString "a2b_base64", Str.ofString "b64decode"]) mean mg mb base) (D : KtsDicts (outer.filterMap (·.frame)) h₀)
    (hk : cs.kind = .function) (hd : dp + r < recursionLimit) (hu : un + 20 * r < cLine) (hp : Pre s.heap)
    (ret : ∀ v h' tk', P h' v → Fr h₀ L h' m → News h₀ L h' news → s.heap.StaysIn h' → Q v { s with heap := h', toks := tk' }) :
    wpAny (model PySem.Challenge.rw_qh0112_01.row.prog w) { handled := none, depth := dp, frames := some (envOf cn cs L a ccd :: outer), guards := gd, units := un } (call (.ref f) args kw) Q E s :=
  told_use C B F N XB TB D hk hd hu hp ret (fun _ _ _ _ _ _ h => h.elim)
end Mine
end
-- part: Fmt
section
open PySem PySem.W PySem.Calls PyProof.Rows
set_option maxRecDepth 100000
set_option maxHeartbeats 8000000
namespace Mine
theorem fmt_bad {prog : Program} {w : World} {A : Around} {E : Value → Shared → Prop} {s : Shared} {n : Int} {t u : Tok} {Q : Value → Shared → Prop} (hn0 : 0 ≤ n) (hn1 : n < 10 ^ 10) (h : ∀ x t' k, Q (.str x t') { s with toks := k }) :
    wpAny (model prog w) A (binaryOp .Mod (.str (Str.ofString "Invalid base64-encoded string: number of data characters (%d) cannot be 1 more than a multiple of 4") t) (.int n u)) Q E s := by
  refine' KPc.mod_int ?kpcF hn0 hn1 ?kpcm (fun t' k => h _ t' k)
  case kpcF => kpc_eq
  case kpcm => k_dflt kpc_run
theorem chars_lo (m : Nat) : 0 ≤ Int.fdiv (m : Int) 3 * 4 + 1 := by
  rw [Int.fdiv_eq_ediv_of_nonneg _ (by decide : (0 : Int) ≤ 3)]
  omega
theorem chars_hi {m : Nat} (h : m ≤ 1000) : Int.fdiv (m : Int) 3 * 4 + 1 < 10 ^ 10 := by
  rw [Int.fdiv_eq_ediv_of_nonneg _ (by decide : (0 : Int) ≤ 3)]
  omega
end Mine
end
-- part: Rules
section
open PySem PySem.W PySem.Calls PyProof.Rows
set_option maxRecDepth 100000
namespace Mine
open Builtin

/-- what maketrans lays, and what translate reads -/
def tableOf (b c : Array UInt8) : Array UInt8 := (b.toList.zip c.toList).foldl (fun t x => t.setIfInBounds x.1.toNat x.2) ((Array.range 256).map (·.toUInt8))
def through (tb b : Array UInt8) : Array UInt8 := b.map fun c => tb.getD c.toNat c

theorem plain_mk : plainId "bytes.maketrans" = true := by decide +kernel
theorem entry_mk : entryFor table "bytes.maketrans" = some Builtin.«bytes.maketrans» := entryFor_of_tree (by kernel_rfl)
theorem check_mk (a b : Value) : checkBuiltinCall "bytes.maketrans" ⟨[a, b], []⟩ = pure () := by kernel_rfl
theorem call_checked {prog : Program} {w : World} {A : Around} {E : Value → Shared → Prop} {s : Shared} {id : String} {b : Builtin} {args : List Value} {Q : Value → Shared → Prop} (hp : plainId id = true) (hb : entryFor table id = some b) (ha : checkBuiltinCall id ⟨args, []⟩ = pure ())
    (hc : wpAny (model prog w) A.in1 (b ⟨args, []⟩) (fun fin s' => ∃ v, fin = .done (.ret v) ∧ Q v s') E s) : wpAny (model prog w) A (call (.builtin id) args) Q E s := by
  refine wpAny_call (codeAny_call_builtin hp hb ?_)
  have hfin := wpAny_mono hc (Q' := fun fin s' => match fin with
      | .done f => (match (Except.ok f : Result) with | .ok (.ret v) => Q v s' | .ok _ => False | .error e => E e s')
      | .again c' => c'.quiet = true ∧ codeAny (model prog w) A c' (fun r s' => match r with | .ok (.ret v) => Q v s' | .ok _ => False | .error e => E e s') s')
    (fun fin s' h' => by obtain ⟨v, rfl, hv⟩ := h'; exact hv) fun _ _ h' => h'
  rw [ha]
  exact wpAny_pure hfin
theorem tableOf_size (b c : Array UInt8) : (tableOf b c).size = 256 := by
  unfold tableOf
  suffices h : ∀ (l : List (UInt8 × UInt8)) (t : Array UInt8), (l.foldl (fun t x => t.setIfInBounds x.1.toNat x.2) t).size = t.size by
    rw [h]; simp
  intro l
  induction l with
  | nil => intro t; rfl
  | cons x r ih => intro t; rw [List.foldl_cons, ih]; simp
section
variable {prog : Program} {w : World} {A : Around} {E : Value → Shared → Prop} {s : Shared} {b c : Array UInt8} {t u : Tok}
theorem call_mk {Q : Value → Shared → Prop} (hs : b.size = c.size) (h : ∀ t' k, Q (.bytes (tableOf b c) t') { s with toks := k }) :
    wpAny (model prog w) A (call (.builtin "bytes.maketrans") [.bytes b t, .bytes c u]) Q E s := by
  refine call_checked plain_mk entry_mk (check_mk _ _) ?_
  show wpAny _ _ (Bytes.bytesLike _ (.bytes b t) >>= fun r => _) _ _ s
  refine wpAny_bind (wpAny_of_eq KBd.like_eq ?_)
  refine wpAny_bind (wpAny_of_eq KBd.like_eq ?_)
  rw [if_neg (by simp [hs])]
  refine wpAny_bind ?_
  show wpAny _ _ (mkBytes (tableOf b c)) _ _ _
  unfold mkBytes
  rw [if_neg (by rw [tableOf_size, sizeLine_eq]; omega)]
  exact wpAny_bind (wpAny_fresh (wpAny_pure (wpAny_pure ⟨_, rfl, h _ _⟩)))
end

theorem slot_tr : Slot "bytes" "translate" "bytes.translate" :=
  .of (owner := "bytes") (n := "translate") (by rw [typeLookup_type, builtinLookup_eq_fast]; kernel_rfl) (by decide +kernel) (by decide +kernel) (by decide +kernel)
    (by first | exact .inl (by decide +kernel) | exact .inr (by decide +kernel)) (by rw [isSubtype_type]; kernel_rfl)
theorem type_tr : typeOf (.builtin "bytes.translate") = pure (.type "method_descriptor") := by show builtinType _ = _; rw [builtinType_eq_fast]; kernel_rfl
theorem entry_tr : entryFor table "bytes.translate" = some Builtin.«bytes.translate» := entryFor_of_tree (by kernel_rfl)
theorem args_tr (a b : Value) : argsOk "bytes.translate" ⟨[a, b], []⟩ := by
  unfold argsOk; kernel_rfl
section
variable {prog : Program} {w : World} {A : Around} {E : Value → Shared → Prop} {s : Shared} {b tb : Array UInt8} {t u : Tok}
theorem method_tr {M : Model} {pl : Sem Bool} {Q : Value × List Value → Shared → Prop} (h : Q (.builtin "bytes.translate", [.bytes b t]) s) : wpAny M A (getMethod (.bytes b t) (Str.ofString "translate") pl) Q E s := by
  with_reducible exact KBd.method_of (.bytes b t) (typeIs_bytes _ _ _) slot_tr type_tr KBd.noRef h
theorem through_size : (through tb b).size = b.size := by unfold through; simp
theorem call_tr {Q : Value → Shared → Prop} (hs : tb.size = 256) (hz : b.size ≤ 16777216) (h : ∀ t' k, Q (.bytes (through tb b) t') { s with toks := k }) :
    wpAny (model prog w) A (call (.builtin "bytes.translate") [.bytes b t, .bytes tb u]) Q E s := by
  refine wpAny_call_entry slot_tr (typeIs_bytes _ _ _) entry_tr ?_ (args_tr _ _)
  unfold «bytes.translate» Bytes.translateM
  dsimp only
  rw [if_neg (by simp), if_neg (by simp)]
  rw [if_neg (by simp)]
  refine wpAny_bind (wpAny_of_eq KBd.like_eq ?_)
  rw [if_neg (by simp [hs])]
  refine wpAny_bind (wpAny_pure ?_)
  show wpAny _ _ (pure #[] >>= fun delete => _) _ _ s
  refine wpAny_bind (wpAny_pure ?_)
  show wpAny _ _ (Bytes.payload (.bytes b t) >>= fun b1 => _) _ _ s
  refine wpAny_bind (wpAny_of_eq (a := b) rfl ?_)
  have e : (Array.map (fun c => tb.getD c.toNat c) (Array.filter (fun x => !(#[] : Array UInt8).contains x) b)) = through tb b := by
    unfold through
    congr 1
    apply Array.filter_eq_self.mpr
    intro a _
    simp
  show wpAny _ _ (if (Array.map (fun c => tb.getD c.toNat c) (Array.filter (fun x => !(#[] : Array UInt8).contains x) b) == b) = true then _ else _) _ _ s
  rw [e]
  by_cases hq : (through tb b == b) = true
  · rw [if_pos hq]
    refine wpAny_bind (wpAny_rule ?_)
    refine wpAny_bind (wpAny_of_eq (a := .bytes b t) rfl (wpAny_pure ⟨_, rfl, ?_⟩))
    have hb : through tb b = b := by simpa using hq
    rw [← hb]
    exact h t s.toks
  · rw [if_neg hq]
    refine wpAny_bind ?_
    show wpAny _ _ (mkBytes _) _ _ _
    unfold mkBytes
    rw [if_neg (by rw [through_size, sizeLine_eq]; omega)]
    exact wpAny_bind (wpAny_fresh (wpAny_pure (wpAny_pure ⟨_, rfl, h _ _⟩)))
end
section
variable {prog : Program} {w : World} {A : Around} {E : Value → Shared → Prop} {s : Shared}
theorem index_short {l : Addr} {vs : List Value} {ns : List Int} {k : Int} {t : Tok} {Q : Value → Shared → Prop} (hl : s.heap.IsList l vs.toArray) (hi : IntsAre vs ns) (hs : ns.length ≤ 100)
    (hk : ns.any (· == k) = true) (h : Q (.int (ns.idxOf k : Nat) s.toks) { s with toks := s.toks + 1 }) : wpAny (model prog w) A (call (.builtin "list.index") [.ref l, .int k t]) Q E s := by
  obtain ⟨⟨cls, dd, data, sl⟩, ho, hc, n, hd⟩ := id hl
  simp only at hc hd
  subst hc hd
  have hm : k ∈ ns := by
    obtain ⟨a, ha, e⟩ := List.any_eq_true.mp hk
    rw [← beq_iff_eq.mp e]; exact ha
  have hlen := hi.length
  have hj : ns.idxOf k < ns.length := List.idxOf_lt_length_iff.mpr hm
  refine call_meets PySem.F.slot_list_index ⟨_, ho, rfl⟩ PySem.F.entry_list_index (PySem.F.args_list_index_2 _ _)
    (PySem.SeqAt.list_indexAt l vs.toArray n dd sl (.int k t) (isInt k) (ns.idxOf k) (by simpa [hlen] using hj) (by omega) ?_ ?_) ⟨ho, fun y hy => (eq_isInt k t hi y (by simpa using hy)).at _ _, h⟩
  · show isInt k vs[ns.idxOf k] = true
    rw [isInt_at k hi _ (by omega) hj]
    simpa using List.getElem_idxOf hj
  · intro j hjs hlt
    show isInt k vs[j] = false
    rw [isInt_at k hi j (by simpa using hjs) (by omega)]
    exact ne_of_lt_idxOf hlt _
end
section
variable {prog : Program} {w : World} {A : Around} {E : Value → Shared → Prop} {s : Shared}
def ByteAt (b : Array UInt8) (i : Nat) (v : Value) : Prop := ∃ c u, b[i]? = some c ∧ v = .int (c.toNat : Int) u
theorem extend_bytes {R : Result → Shared → Prop} (hh : A.handled = none) (b : Array UInt8) (t : Tok) (S : Addr) (res : Value) (c₀ : Nat) (hS : s.heap.get? S = some { cls := .type "list", data := .seq #[] c₀ })
    (hR : ∀ h' tk acc' c', (∀ a o, a ≠ S → s.heap.get? a = some o → h'.get? a = some o) → h'.get? S = some { cls := .type "list", dict := none, data := .seq acc' c', slots := #[] } →
      ItemsOf (ByteAt b) acc' b.size → R (.ok (.ret res)) { s with heap := h', toks := tk }) (hn : b.size ≤ sizeLine) :
    wpAny (model prog w) A.in1 (Builtin.List.listExtendWith (.ref S) (.bytes b t) res)
      (fun fin s' => match fin with | .done f => R (.ok f) s' | .again c' => c'.quiet = true ∧ codeAny (model prog w) A c' R s') (fun e s' => R (.error e) s') s := by
  have hSI : S ≠ s.heap.objs.size := Nat.ne_of_lt (Heap.lt_size hS)
  have hSf : S ∉ [s.heap.objs.size] := fun hm => hSI (List.mem_singleton.mp hm)
  have W := KBw.walks (prog := prog) (w := w) (A := A.in1) hh s.heap.objs.size b t
  unfold Builtin.List.listExtendWith
  refine wpAny_bind (wpAny_typeOf (T := "bytes") (v := .bytes b t) rfl ?_)
  have h1 : Builtin.List.listSameRef (.ref S) (.bytes b t) = false := rfl
  have h2 : (Value.type "bytes" == Value.type "list") = false := by decide
  have h3 : (Value.type "bytes" == Value.type "tuple") = false := by decide
  simp only [h1, h2, h3, Bool.or_false, Bool.false_eq_true, if_false]
  refine wpAny_bind (KBw.pyIter_bytes ?_)
  refine wpAny_bind (wpAny_holding ?_)
  unfold Builtin.List.listLengthHint
  refine wpAny_bind (wpAny_specialOf (T := "bytes") (v := .bytes b t) rfl FB.slot_bytes_len.lookup ?_)
  wp_delta
  refine wpAny_bind (wpAny_isInstance (T := "bytes") (v := .bytes b t) (b := true) rfl (by rw [isSubtype_type]; kernel_rfl) ?_)
  show wpAny _ _ (typeOf (Value.bytes b t) >>= _) _ _ _
  refine wpAny_bind (wpAny_typeOf (T := "bytes") (v := .bytes b t) rfl ?_)
  refine wpAny_pure ?_
  rw [if_neg (by decide)]
  refine wpAny_pure ⟨plainId_quiet F.plain_extend_loop _, codeAny_extend_loopS W.toS hn _ hSf _ b.size 0 _ _ _ rfl (Nat.zero_le _) ⟨_, Heap.get?_push_size _ rfl, rfl, rfl⟩ (Heap.get?_push_of_some _ hS) (ItemsOf.nil _) fun s' acc' c' hm hS' hacc => ?_⟩
  rw [Moved.eq_with hm]
  refine hR s'.heap s'.toks acc' c' (fun a ob ha e => hm.heap a ob (fun hmem => ?_) (Heap.get?_push_of_some _ e)) hS' hacc
  rcases List.mem_cons.mp hmem with e' | hmem
  · exact ha e'
  · exact absurd (Heap.lt_size e) (by rw [List.mem_singleton.mp hmem]; exact Nat.lt_irrefl _)
theorem init_bytes {R : Result → Shared → Prop} (hh : A.handled = none) (b : Array UInt8) (t : Tok) (S : Addr) (hS : s.heap.get? S = some { cls := .type "list", data := .seq #[] })
    (hR : ∀ h' tk acc' c', (∀ a o, a ≠ S → s.heap.get? a = some o → h'.get? a = some o) → h'.get? S = some { cls := .type "list", dict := none, data := .seq acc' c', slots := #[] } →
      ItemsOf (ByteAt b) acc' b.size → R (.ok (.ret .none)) { s with heap := h', toks := tk }) (hn : b.size ≤ sizeLine) :
    wpAny (model prog w) A.in1 (Builtin.«list.__init__» ⟨[.ref S, .bytes b t], []⟩)
      (fun fin s' => match fin with | .done f => R (.ok f) s' | .again c' => c'.quiet = true ∧ codeAny (model prog w) A c' R s') (fun e s' => R (.error e) s') s := by
  show wpAny _ _ (do let old ← Builtin.List.listItems (.ref S); Builtin.List.listUpdate (.ref S) (fun _ => #[]); letGo old.toList.reverse; Builtin.List.listExtendWith (.ref S) (.bytes b t) .none) _ _ s
  refine wpAny_bind ?_
  unfold Builtin.List.listItems
  refine wpAny_bind (wpAny_seqItems hS rfl (wpAny_pure ?_))
  show wpAny _ _ (updateSeq S (fun _ => #[]) >>= fun _ => letGo (#[] : Array Value).toList.reverse >>= fun _ => Builtin.List.listExtendWith (.ref S) (.bytes b t) .none) _ _ s
  refine wpAny_bind (wpAny_updateSeq hS rfl ?_)
  have hS₂ := Heap.get?_update_self (Obj.mapSeq (fun _ => (#[] : Array Value))) hS rfl
  have oth : ∀ a o, a ≠ S → s.heap.get? a = some o → (s.heap.update S (Obj.mapSeq (fun _ => (#[] : Array Value)))).get? a = some o :=
    fun a o ha e => (Heap.get?_update_other _ _ (Ne.symm ha)).trans e
  refine wpAny_bind (wpAny_letGo ?_)
  refine extend_bytes hh b t S .none _ hS₂ (fun h' tk acc' c' hk hS' hacc => ?_) hn
  exact hR h' tk acc' c' (fun a o ha e => hk a o ha (oth a o ha e)) hS' hacc
theorem items_ints : ∀ (l : List UInt8) (vs : List Value), vs.length = l.length → (∀ (j : Nat) (v : Value), vs[j]? = some v → ∃ (c : UInt8) (u : Tok), l[j]? = some c ∧ v = Value.int (c.toNat : Int) u) → IntsAre vs (l.map fun c => (c.toNat : Int))
  | [], [], _, _ => .nil
  | c :: l, v :: vs, hl, h => by
    obtain ⟨c', u, hc, rfl⟩ := h 0 v rfl
    cases hc
    exact .cons _ _ (items_ints l vs (by simpa using hl) fun j v hj => h (j + 1) v (by simpa using hj))
  | [], _ :: _, hl, _ => by simp at hl
  | _ :: _, [], hl, _ => by simp at hl
theorem list_bytes {Q : Value → Shared → Prop} {h₀ : Heap} {L : Addr} {m : Str → Option Value} {news : List (Addr × Obj)} {b : Array UInt8} {t : Tok} (Fh : Fr h₀ L s.heap m) (N : News h₀ L s.heap news) (hh : A.handled = none)
    (hn : b.size ≤ sizeLine)
    (hQ : ∀ l' h' tk ys n, Fr h₀ L h' m → News h₀ L h' ((l', listOf (List.toArray ys) n) :: news) → IntsAre ys (KBw.bInts b) → (∀ p ∈ news, p.1 < l') → Q (.ref l') { s with heap := h', toks := tk }) :
    wpAny (model prog w) A (call (.type "list") [.bytes b t]) Q E s := by
  refine callType_codes (Q₁ := fun obj s₁ => obj = .ref s.heap.objs.size ∧ s₁ = { s with heap := s.heap.push { cls := .type "list", data := .seq #[] } }) F.called_list (F.typeCall_list_1 _) F.entry_list_init
    (code_list_new _ ⟨rfl, rfl⟩) fun obj s₁ h₁ => ?_
  obtain ⟨rfl, rfl⟩ := h₁
  have hS : (s.heap.push { cls := .type "list", data := .seq #[] }).get? s.heap.objs.size = some { cls := .type "list", data := .seq #[] } := Heap.get?_push_size _ rfl
  refine ⟨⟨_, hS, rfl⟩, F.args_list_init_2 _ _, init_bytes (A := A.in1) hh b t _ hS (fun h' tk acc' c' hk hS' hacc => ?_) hn⟩
  have keep : ∀ a o, s.heap.get? a = some o → h'.get? a = some o := fun a o e => hk a o (Nat.ne_of_lt (Heap.lt_size e)) (Heap.get?_push_of_some _ e)
  refine ⟨rfl, hQ s.heap.objs.size h' tk acc'.toList c' (Fh.keeps keep) (fun p hp => ?_) ?_ (fun p hp => Heap.lt_size (N p hp).1)⟩
  · rcases List.mem_cons.mp hp with rfl | hp
    · refine ⟨by simpa using hS', ?_, ?_⟩
      · obtain ⟨oL, _, _, hL, _⟩ := Fh.ns
        exact Nat.ne_of_gt (Heap.lt_size hL)
      · cases q : h₀.get? s.heap.objs.size with
        | none => rfl
        | some o => exact absurd (Heap.lt_size (Fh.keep _ _ q)) (Nat.lt_irrefl _)
    · exact ⟨keep _ _ (N p hp).1, (N p hp).2⟩
  · have e : KBw.bInts b = b.toList.map fun c => (c.toNat : Int) := rfl
    rw [e]
    refine items_ints b.toList acc'.toList (by simp [hacc.1]) fun j v hj => ?_
    obtain ⟨c, u, hc, hv⟩ := hacc.2 j v (by simpa using hj)
    exact ⟨c, u, by simpa using hc, hv⟩
end
end Mine
end
-- part: Base2
section
open PySem PySem.W PySem.Calls PyProof.Rows
set_option maxRecDepth 100000
set_option maxHeartbeats 8000000
namespace Mine
/-- all that stood stands; the frames may have been looked at -/
def Turned (fs : List Addr) (h h' : Heap) : Prop := (∀ b o, h.get? b = some o → b ∉ fs → h'.get? b = some o) ∧ ∀ b o, h.get? b = some o → b ∈ fs → ∃ sl, h'.get? b = some { o with slots := sl }
theorem Turned.of_keep {fs : List Addr} {h h' : Heap} (k : ∀ b o, h.get? b = some o → h'.get? b = some o) : Turned fs h h' := ⟨fun b o e _ => k b o e, fun b o e _ => ⟨o.slots, k b o e⟩⟩
theorem Turned.of_turn {fs : List Addr} {h g h' : Heap} (T : KtsTurn fs h g) (k : ∀ b o, g.get? b = some o → h'.get? b = some o) : Turned fs h h' :=
  ⟨fun b o e m => k _ _ (T.other b o e m), fun b o e m => let ⟨sl, x⟩ := T.frame b o e m; ⟨sl, k _ _ x⟩⟩

/-- a def that catches what it raises -/
def Says (r : Nat) (f : Addr) (args : List Value) (P : Value → Prop) : Prop :=
  ∀ (w : World) (mean : ExcName → Option Value) (mg mb : Str → Option Value) (dp un : Nat) (gd : Option (List Code)) (outer : List Env) (base : Heap) (s : Shared) (Q E : Value → Shared → Prop),
    Below { handled := none, depth := dp, frames := some outer, guards := gd, units := un } base outer s.heap → (hd.heap_39 w.params).In base → Top hd.view_39 (looseW hd.view_39 [Str.ofString "bytes_types", Str.ofString "a2b_base64", Str.ofString "b64decode"]) mean mg mb base → KtsDicts (outer.filterMap (·.frame)) s.heap →
    (hd.heap_39 w.params).In s.heap → Top hd.view_39 (looseW hd.view_39 [Str.ofString "bytes_types", Str.ofString "a2b_base64", Str.ofString "b64decode"]) mean mg mb s.heap →
    dp + r < recursionLimit → un + 20 * r < cLine →
    (∀ v h' tk', P v → Turned (outer.filterMap (·.frame)) s.heap h' → Q v { s with heap := h', toks := tk' }) →
    wpAny (model PySem.Challenge.rw_qh0112_01.row.prog w) { handled := none, depth := dp, frames := some outer, guards := gd, units := un } (call (.ref f) args) Q E s

theorem says_use {r : Nat} {f : Addr} {args : List Value} {P : Value → Prop} (C : Says r f args P)
    {w : World} {mean : ExcName → Option Value} {mg mb : Str → Option Value} {dp un : Nat} {gd : Option (List Code)} {A₀ : Around} {h₀ : Heap} {cn : Str} {cs : Scope} {L a : Addr} {ccd : Value} {m : Str → Option Value} {news : List (Addr × Obj)} {s : Shared} {Q E : Value → Shared → Prop}
    (B : Below A₀ h₀ [] h₀) (F : Fr h₀ L s.heap m) (N : News h₀ L s.heap news) (XB : (hd.heap_39 w.params).In h₀) (TB : Top hd.view_39 (looseW hd.view_39 [Str.ofString "bytes_types", Str.ofString "a2b_base64", Str.ofString "b64decode"]) mean mg mb h₀)
    (hk : cs.kind = .function) (hd : dp + r < recursionLimit) (hu : un + 20 * r < cLine)
    (ret : ∀ v h' tk', P v → Fr h₀ L h' m → News h₀ L h' news → Q v { s with heap := h', toks := tk' }) :
    wpAny (model PySem.Challenge.rw_qh0112_01.row.prog w) { handled := none, depth := dp, frames := some [envOf cn cs L a ccd], guards := gd, units := un } (call (.ref f) args) Q E s := by
  have B₁ := B.push (name := cn) (scope := cs) (a := a) (cd := ccd) F hk
  obtain ⟨oL, es, ep, hL, hLd, hLk, hLf⟩ := F.ns
  refine C w mean mg mb dp un gd [envOf cn cs L a ccd] h₀ s Q E ⟨rfl, B₁.stays, B₁.frames⟩ XB TB (fun b hb => ?_) (XB.keeps B₁.stays) (TB.keeps B₁.stays) hd hu (fun v h' tk' hv hT => ret v h' tk' hv ?_ ?_)
  · rcases kts_mem hb with rfl | hb
    · exact ⟨oL, es, ep, hL, hLd⟩
    · exact absurd hb List.not_mem_nil
  · obtain ⟨sl, hs⟩ := hT.2 L oL hL (List.Mem.head _)
    refine ⟨⟨_, es, ep, hs, hLd, hLk, hLf⟩, fun b o e => hT.1 b o (F.keep b o e) fun hm => ?_, F.above⟩
    rcases kts_mem hm with z | z
    · rw [z, kts_self F] at e; cases e
    · exact absurd z List.not_mem_nil
  · intro p hp
    refine ⟨hT.1 _ _ (N p hp).1 fun hm => ?_, (N p hp).2⟩
    rcases kts_mem hm with z | z
    · exact (N p hp).2.1 z
    · exact absurd z List.not_mem_nil
end Mine
namespace Mine
theorem memE {env : Env} {L b : Addr} {outer : List Env} (hf : env.frame = some L) (hm : b ∈ (env :: outer).filterMap (·.frame)) : b = L ∨ b ∈ outer.filterMap (·.frame) := by
  rw [List.filterMap_cons, hf] at hm
  exact List.mem_cons.mp hm
theorem pushE {A₀ : Around} {base h₀ h : Heap} {outer : List Env} {env : Env} {L : Addr} {m : Str → Option Value} (B : Below A₀ base outer h₀) (F : Fr h₀ L h m) (hf : env.frame = some L) (hk : env.scope.kind = .function) :
    base.StaysIn h ∧ h.FunFrames base (env :: outer) := by
  have hnew : base.get? L = none := by
    cases hq : base.get? L with
    | none => rfl
    | some o => exact absurd (Nat.lt_of_lt_of_le (Heap.lt_size (B.stays L o hq)) F.above) (Nat.lt_irrefl _)
  exact ⟨fun b o e => F.keep b o (B.stays b o e), .cons (by rw [hk]; decide) hf F.ns hnew (B.frames.of_keeps fun b o e _ => ⟨o, F.keep b o e, rfl⟩)⟩
theorem told_useE {r : Nat} {f : Addr} {args : List Value} {kw : List (Str × Value)} {Pre : Heap → Prop} {P : Heap → Value → Prop} (C : Told r f args kw Pre P (fun _ => False))
    {w : World} {mean : ExcName → Option Value} {mg mb : Str → Option Value} {dp un : Nat} {gd : Option (List Code)} {A₀ : Around} {h₀ : Heap} {env : Env} {L : Addr} {m : Str → Option Value} {news : List (Addr × Obj)} {s : Shared} {Q E : Value → Shared → Prop}
    (B : Below A₀ h₀ [] h₀) (F : Fr h₀ L s.heap m) (N : News h₀ L s.heap news) (XB : (hd.heap_39 w.params).In h₀) (TB : Top hd.view_39 (looseW hd.view_39 [Str.ofString "bytes_types", Str.ofString "a2b_base64", Str.ofString "b64decode"]) mean mg mb h₀)
    (hf : env.frame = some L) (hk : env.scope.kind = .function) (hd : dp + r < recursionLimit) (hu : un + 20 * r < cLine) (hp : Pre s.heap)
    (ret : ∀ v h' tk', P h' v → Fr h₀ L h' m → News h₀ L h' news → s.heap.StaysIn h' → Q v { s with heap := h', toks := tk' }) :
    wpAny (model PySem.Challenge.rw_qh0112_01.row.prog w) { handled := none, depth := dp, frames := some [env], guards := gd, units := un } (call (.ref f) args kw) Q E s := by
  obtain ⟨hst, hfr⟩ := pushE B F hf hk
  refine C w mean mg mb dp un gd [env] h₀ s Q E ⟨rfl, hst, hfr⟩ XB TB (fun b hb => ?_) (XB.keeps hst) (TB.keeps hst) hd hu hp (fun v h' tk' hv hs => ret v h' tk' hv (F.keptAll hs) (N.grown hs) hs) (fun _ _ _ _ _ _ h => h.elim)
  rcases memE hf hb with rfl | hb
  · obtain ⟨oL, es, ep, hL, hLd, _⟩ := F.ns
    exact ⟨oL, es, ep, hL, hLd⟩
  · exact absurd hb List.not_mem_nil
theorem says_useE {r : Nat} {f : Addr} {args : List Value} {P : Value → Prop} (C : Says r f args P)
    {w : World} {mean : ExcName → Option Value} {mg mb : Str → Option Value} {dp un : Nat} {gd : Option (List Code)} {A₀ : Around} {h₀ : Heap} {env : Env} {L : Addr} {m : Str → Option Value} {news : List (Addr × Obj)} {s : Shared} {Q E : Value → Shared → Prop}
    (B : Below A₀ h₀ [] h₀) (F : Fr h₀ L s.heap m) (N : News h₀ L s.heap news) (XB : (hd.heap_39 w.params).In h₀) (TB : Top hd.view_39 (looseW hd.view_39 [Str.ofString "bytes_types", Str.ofString "a2b_base64", Str.ofString "b64decode"]) mean mg mb h₀)
    (hf : env.frame = some L) (hk : env.scope.kind = .function) (hd : dp + r < recursionLimit) (hu : un + 20 * r < cLine)
    (ret : ∀ v h' tk', P v → Fr h₀ L h' m → News h₀ L h' news → Q v { s with heap := h', toks := tk' }) :
    wpAny (model PySem.Challenge.rw_qh0112_01.row.prog w) { handled := none, depth := dp, frames := some [env], guards := gd, units := un } (call (.ref f) args) Q E s := by
  obtain ⟨hst, hfr⟩ := pushE B F hf hk
  obtain ⟨oL, es, ep, hL, hLd, hLk, hLf⟩ := F.ns
  refine C w mean mg mb dp un gd [env] h₀ s Q E ⟨rfl, hst, hfr⟩ XB TB (fun b hb => ?_) (XB.keeps hst) (TB.keeps hst) hd hu (fun v h' tk' hv hT => ret v h' tk' hv ?_ ?_)
  · rcases memE hf hb with rfl | hb
    · exact ⟨oL, es, ep, hL, hLd⟩
    · exact absurd hb List.not_mem_nil
  · have hLm : L ∈ [env].filterMap (·.frame) := by rw [List.filterMap_cons, hf]; exact List.Mem.head _
    obtain ⟨sl, hs⟩ := hT.2 L oL hL hLm
    refine ⟨⟨_, es, ep, hs, hLd, hLk, hLf⟩, fun b o e => hT.1 b o (F.keep b o e) fun hm => ?_, F.above⟩
    rcases memE hf hm with z | z
    · rw [z, kts_self F] at e; cases e
    · exact absurd z List.not_mem_nil
  · intro p hp
    refine ⟨hT.1 _ _ (N p hp).1 fun hm => ?_, (N p hp).2⟩
    rcases memE hf hm with z | z
    · exact (N p hp).2.1 z
    · exact absurd z List.not_mem_nil
/-- a statement, what holds behind it, the rest -/
theorem cut {M : Model} {A : Around} {E : Value → Shared → Prop} {s : Shared} {st : Stmt} {rest : List Stmt} {env : Env} {Q : Flow → Shared → Prop} (Mid : Shared → Prop)
    (h1 : wpAny M A (exec st env) (fun f s' => f = .next ∧ Mid s') E s) (h2 : ∀ s', Mid s' → wpAny M A (execs rest env) Q E s') : wpAny M A (execs (st :: rest) env) Q E s := by
  refine wpAny_execs_cons (wpAny_mono h1 (fun f s' h => ?_) fun _ _ h => h)
  obtain ⟨rfl, hm⟩ := h
  exact h2 s' hm
end Mine
namespace Mine
theorem cut2 {M : Model} {A : Around} {E : Value → Shared → Prop} {s : Shared} {a b : Stmt} {rest : List Stmt} {env : Env} {Q : Flow → Shared → Prop} (Mid : Shared → Prop)
    (h1 : wpAny M A (exec a env) (fun f s₁ => f = .next ∧ wpAny M A (exec b env) (fun f s₂ => f = .next ∧ Mid s₂) E s₁) E s) (h2 : ∀ s', Mid s' → wpAny M A (execs rest env) Q E s') : wpAny M A (execs (a :: b :: rest) env) Q E s :=
  cut (fun s₁ => wpAny M A (exec b env) (fun f s₂ => f = .next ∧ Mid s₂) E s₁) h1 fun _ h => cut Mid h h2
theorem cut3 {M : Model} {A : Around} {E : Value → Shared → Prop} {s : Shared} {a b c : Stmt} {rest : List Stmt} {env : Env} {Q : Flow → Shared → Prop} (Mid : Shared → Prop)
    (h1 : wpAny M A (exec a env) (fun f s₁ => f = .next ∧ wpAny M A (exec b env) (fun f s₂ => f = .next ∧ wpAny M A (exec c env) (fun f s₃ => f = .next ∧ Mid s₃) E s₂) E s₁) E s) (h2 : ∀ s', Mid s' → wpAny M A (execs rest env) Q E s') : wpAny M A (execs (a :: b :: c :: rest) env) Q E s :=
  cut (fun s₁ => wpAny M A (exec b env) (fun f s₂ => f = .next ∧ wpAny M A (exec c env) (fun f s₃ => f = .next ∧ Mid s₃) E s₂) E s₁) h1 fun _ h => cut2 Mid h h2
end Mine
end
-- part: Comp
section
open PySem PySem.W PySem.Calls PyProof.Rows
set_option maxRecDepth 100000
namespace Mine
section
variable {prog : Program} {w : World} {A : Around} {E : Value → Shared → Prop} {s₁ : Shared} {h₀ : Heap} {m : Str → Option Value} {news : List (Addr × Obj)}
theorem src_filter {env : Env} {elt : Expr} {x z : Str} {ifs : List Expr} {scope : Scope} {Q : Flow → Shared → Prop} {l : Addr} {vs : List Value} {as : List Int} (pz : Int → Bool)
    (hh : A.handled = none) (hl : s₁.heap.IsList l vs.toArray) (hI : IntsAre vs as) (F : Fr h₀ env.locals s₁.heap m) (N : News h₀ env.locals s₁.heap news)
    (g1 : ∀ C a' t s₂ m₂ E', s₂.heap.Ns (compEnv scope C env).locals m₂ → m₂ x = some (.int a' t) →
        wpAny (model prog w) A (forIn ifs true fun c r => if r = true then do let ok ← isTrue c (compEnv scope C env) (eval c (compEnv scope C env)); pure (ForInStep.yield ok) else pure (ForInStep.yield r))
          (fun ok s₃ => ok = pz a' ∧ Keeps s₂ s₃) E' s₂)
    (g2 : ∀ C a' t s₂ m₂ E', s₂.heap.Ns (compEnv scope C env).locals m₂ → m₂ x = some (.int a' t) → wpAny (model prog w) A (eval elt (compEnv scope C env)) (fun r s₃ => Carried r (.int a') ∧ Keeps s₂ s₃) E' s₂)
    (g3 : ∀ D (ys : List Value) n h' tk, Fr h₀ env.locals h' (fun q => if q = z then some (.ref D) else m q) → News h₀ env.locals h' ((D, listOf ys.toArray n) :: news) → IntsAre ys (as.filter pz) → (∀ p ∈ news, p.1 ≠ D) → Q .next { s₁ with heap := h', toks := tk })
    (hsz : as.length ≤ sizeLine) :
    wpAny (model prog w) A (pyIter (.ref l)) (CompPostA prog w A env scope x z ifs elt Q) E s₁ := by
  have hi : AreOf .int vs as := hI.areOf
  have hlt : l < s₁.heap.objs.size := by obtain ⟨_, e, _⟩ := hl; exact Heap.lt_size e
  refine wpAny_pyIter_list hl ?_
  refine ⟨ItemKind.int.lift pz, fun v r => ∃ a, ItemKind.int.is a v ∧ Carried r (.int a), s₁.heap.objs.size, [s₁.heap.objs.size, l], [s₁.heap.objs.size], vs.toArray.size, _, _, m, rfl, Walks.list hh _ l (Nat.ne_of_lt hlt) vs.toArray, (by rw [List.size_toArray, hi.length]; exact hsz),
    ⟨⟨_, Heap.get?_push_size _ rfl, rfl, rfl⟩, hl.at fun o e => Heap.get?_push_of_some _ e⟩, ?_, ?_, (F.push _).ns, ⟨?_, ?_⟩, ?_⟩
  · intro b hb
    show b < (s₁.heap.push _).objs.size
    rw [Heap.size_push]
    rcases List.mem_cons.mp hb with rfl | hb
    · exact Nat.lt_succ_self _
    · rw [List.mem_singleton.mp hb]; exact Nat.lt_succ_of_lt hlt
  · intro hm
    exact absurd F.ns.lt ((List.mem_singleton.mp hm) ▸ Nat.lt_irrefl _)
  · intro C i v s₃ m₃ E' hP hn hm _ _
    obtain ⟨a', _, ha⟩ := hi.get i v (by simpa using hP)
    rw [ItemKind.lift_is ha]
    obtain ⟨t, rfl⟩ := ha
    exact g1 C _ _ s₃ m₃ E' hn hm
  · intro C i v s₃ m₃ E' hP _ hn hm _ _
    obtain ⟨a', _, ha⟩ := hi.get i v (by simpa using hP)
    obtain ⟨t, rfl⟩ := id ha
    exact wpAny_mono (g2 C _ _ s₃ m₃ E' hn hm) (fun r s₄ h₄ => ⟨⟨_, ha, h₄.1⟩, h₄.2⟩) fun _ _ e => e
  · intro D h' tk ys vs' hnew hlD hplD hlen hP hF hn' hk
    have e' : vs' = vs := by simpa using walked_is hlen hP
    subst e'
    have hcar := hi.paired pz PyData.int _ hF
    have hD : h₀.get? D = none := by
      cases e : h₀.get? D with
      | none => rfl
      | some o' => rw [Heap.get?_push_of_some _ (F.keep _ _ e)] at hnew; cases hnew
    have hDL : D ≠ env.locals := by
      rintro rfl
      obtain ⟨oL, _, _, hL, _⟩ := F.ns
      rw [Heap.get?_push_of_some _ hL] at hnew; cases hnew
    have hDn : ∀ p ∈ news, p.1 ≠ D := fun p hp e => by rw [← e, Heap.get?_push_of_some _ (N p hp).1] at hnew; cases hnew
    obtain ⟨c, hc⟩ := hplD
    refine g3 D ys.toList c h' tk ⟨hn', fun b o' e => hk b o' (Nat.ne_of_lt (Nat.lt_of_lt_of_le (Heap.lt_size e) F.above)) (not_iter_of_old (F.keep b o' e)) (Heap.get?_push_of_some _ (F.keep b o' e)), F.above⟩
      (fun p hp => ?_) (IntsAre.ofCarried (by simpa using hcar)) hDn
    rcases List.mem_cons.mp hp with rfl | hp
    · exact ⟨by simpa using hc, hDL, hD⟩
    · exact ⟨hk _ _ (N p hp).2.1 (not_iter_of_old (N p hp).1) (Heap.get?_push_of_some _ (N p hp).1), (N p hp).2⟩
theorem keeps_refl (s : Shared) : Keeps s s := ⟨s.heap, s.toks, rfl, fun _ _ e => e⟩
theorem keeps_tok (s : Shared) (k : Nat) : Keeps s { s with toks := k } := ⟨s.heap, k, rfl, fun _ _ e => e⟩
theorem src_ge0 {env : Env} {x z : Str} {p1 p2 p3 p4 : Pos} {kk : Nat} {scope : Scope} {Q : Flow → Shared → Prop} {l : Addr} {vs : List Value} {as : List Int}
    (hh : A.handled = none) (hl : s₁.heap.IsList l vs.toArray) (hI : IntsAre vs as) (F : Fr h₀ env.locals s₁.heap m) (N : News h₀ env.locals s₁.heap news)
    (hkind : scope.kind = .function) (hloc : ∀ C, (compEnv scope C env).kindOf x = some .local) (hd : (x == ("__debug__" : Str)) = false)
    (g3 : ∀ D (ys : List Value) n h' tk, Fr h₀ env.locals h' (fun q => if q = z then some (.ref D) else m q) → News h₀ env.locals h' ((D, listOf ys.toArray n) :: news) → IntsAre ys (as.filter fun a => decide (0 ≤ a)) → (∀ p ∈ news, p.1 ≠ D) → Q .next { s₁ with heap := h', toks := tk })
    (hsz : as.length ≤ sizeLine) :
    wpAny (model prog w) A (pyIter (.ref l)) (CompPostA prog w A env scope x z [.Compare (.Name x p2) [.GtE] [.Constant (.int 0) kk p3] p4] (.Name x p1) Q) E s₁ := by
  refine src_filter (fun a => decide (0 ≤ a)) hh hl hI F N ?_ ?_ g3 hsz
  · intro C a' t s₂ m₂ E' hn hm
    rw [List.forIn_cons]
    refine wpAny_bind ?_
    rw [if_pos rfl]
    refine wpAny_bind (wpAny_isTrue_Compare1 ?_)
    refine wpAny_Name (wpAny_loadName_local hkind (hloc C) hn hm ?_) hd
    refine wpAny_Constant_int (ge_int (wpAny_truthy_bool ?_))
    refine wpAny_pure ?_
    dsimp only
    rw [List.forIn_nil]
    refine wpAny_pure ⟨?_, ?_⟩
    · rfl
    · exact keeps_tok _ _
  · intro C a' t s₂ m₂ E' hn hm
    exact wpAny_Name (wpAny_loadName_local hkind (hloc C) hn hm ⟨.int _ _, keeps_refl _⟩) hd
end
end Mine
end
-- part: Comp2
section
open PySem PySem.W PySem.Calls PyProof.Rows
set_option maxRecDepth 100000
namespace Mine
section
variable {prog : Program} {w : World} {A : Around} {E : Value → Shared → Prop} {s : Shared} {h₀ : Heap} {L : Addr} {m : Str → Option Value} {env : Env}
theorem bytes_st {b : Array UInt8} {t : Tok} {I : Addr} : ∀ i (h h' : Heap) (o : Obj) (nw : List (Addr × Obj)), KBw.IsBytesIter h I b t i → h.get? I = some o → h'.get? I = some o → (∀ b o, h₀.get? b = some o → h'.get? b = some o) → News h₀ L h' nw → True → KBw.IsBytesIter h' I b t i :=
  fun i h h' o nw st e e' _ _ _ => by obtain ⟨o', q, r⟩ := st; rw [e] at q; cases q; exact ⟨o, e', r⟩
def SrcB (prog : Program) (w : World) (A : Around) (h₀ : Heap) (L : Addr) (m : Str → Option Value) (env : Env) (elt : Expr) (x : Str) (scope : Scope) (cl : List (Str × Addr)) (Fin : Shared → List Value → List (Addr × Obj) → Prop) (xv : Value) (s₁ : Shared) : Prop :=
  ∃ b t news, xv = .bytes b t ∧ A.handled = none ∧ Fr h₀ L s₁.heap m ∧ News h₀ L s₁.heap news ∧ b.size ≤ sizeLine ∧
    ∀ g, LCg.CompRest prog w A h₀ L m env elt x scope cl { s₁ with heap := g } (fun _ => True) (fun i v => ∃ c u, b[i]? = some c ∧ v = .int (c.toNat : Int) u) (Fin { s₁ with heap := g }) b.size 0 [] news
theorem ListComp_B {elt iter : Expr} {x : Str} {px : Pos} {scope : Scope} {cl : List (Str × Addr)} {pos : Pos} {Q : Value → Shared → Prop} (F₀ : Fr h₀ L s.heap m)
    (hclos : closureFor scope env = pure cl) (hcell : ∀ y ∈ scope.names, y.2 ≠ .cell) (hkind : scope.kind = .function)
    (hnames : ∀ y ∈ scope.names, y.2 = .local → scope.names.lookup y.1 = some .local) (hx : scope.names.lookup x = some .local)
    (h : wpAny (model prog w) A (eval iter env) (SrcB prog w A h₀ L m env elt x scope cl (fun s₂ => LCg.FinE h₀ L m s₂ Q)) E s)
    (hs : ∀ x, foldedSetIterable iter env x = pure x := by intro _; rfl) :
    wpAny (model prog w) A (eval (.ListComp elt [⟨.Name x px, iter, [], 0⟩] scope pos) env) Q E s := by
  rw [eval_ListComp]
  refine wpAny_comprehension_free (use := none) rfl hs hclos hkind hnames (wpAny_mono h (fun xv s₁ h₁ => ?_) fun _ _ e => e)
  obtain ⟨b, t, news, rfl, hh, F, N, hsz, R⟩ := h₁
  refine KBw.pyIter_bytes ?_
  refine LCg.block_U (KBw.walks hh s₁.heap.objs.size b t) hsz (fun i h st => by obtain ⟨o, e, _⟩ := st; exact ⟨o, e⟩) bytes_st hcell hkind hx ⟨_, Heap.get?_push_size _ rfl, rfl, rfl⟩ (fun c hc => ?_)
      (F.keeps fun _ _ e => Heap.get?_push_of_some _ e) (N.grown fun _ _ e => Heap.get?_push_of_some _ e) (Nat.ne_of_lt F.ns.lt) (next_is_new F) (fun p hp => Nat.ne_of_lt (Heap.lt_size (N p hp).1)) trivial (R _) ?_
  · rw [List.mem_singleton.mp hc]
    show s₁.heap.objs.size < (s₁.heap.push _).objs.size
    rw [Heap.size_push]; exact Nat.lt_succ_self _
  · intro D C h tk m' ys news' F' N' o1 hn hC₀ hD₀ hCL hDL hCD offC fin
    refine ⟨m', hn, fun h'' hs'' => fin D h'' tk (F'.change hs'' hCL hC₀) (fun p hp => ?_) o1⟩
    refine ⟨hs''.extBut _ _ ?_ (N' p hp).1, (N' p hp).2⟩
    rcases List.mem_cons.mp hp with rfl | hp
    · exact Ne.symm hCD
    · exact offC p hp
def sgn (k : Int) : Str := ⟨#[k.toNat]⟩
theorem srcB_chr {elt : Expr} {x : Str} {scope : Scope} {cl : List (Str × Addr)} {ks : List Int} {t : Tok} {s₁ : Shared} {Fin : Shared → List Value → List (Addr × Obj) → Prop} {news : List (Addr × Obj)}
    (hh : A.handled = none) (F : Fr h₀ L s₁.heap m) (N : News h₀ L s₁.heap news) (hin : KBa.In ks) (hsz : ks.length ≤ 16777216)
    (turn : ∀ g k t I oI C oC D m₂ ys h tk (E' : Value → Shared → Prop), 0 ≤ k → k < 256 → LCg.NsObj oC m₂ → m₂ x = some (.int k t) → Fr h₀ L h m → News h₀ L h ((I, oI) :: (C, oC) :: (D, LCg.lst ys) :: news) → LCg.Off3 I C D news → ((@Ne Nat I C) ∧ (@Ne Nat I D) ∧ (@Ne Nat C D)) →
      wpAny (model prog w) A (eval elt (compEnvC scope cl C env)) (LCg.CompEnd h₀ L m { s₁ with heap := h, toks := tk } I oI C oC D (LCg.lst ys) (fun _ => True) (fun y news' => KCtEl news (sgn k) y news')) E' { { s₁ with heap := g } with heap := h, toks := tk })
    (fin : ∀ g ys, CarriedAll ys (ks.map fun k => PyData.str (sgn k)) → Fin { s₁ with heap := g } ys news) : SrcB prog w A h₀ L m env elt x scope cl Fin (.bytes (byteArr ks) t) s₁ := by
  refine ⟨_, _, _, rfl, hh, F, N, by rw [byteArr_size, sizeLine_eq]; exact hsz, fun g => ?_⟩
  refine kct_rest (ks := KBw.bInts (byteArr ks)) sgn (KBw.ints_length _) (fun i v hi hv => ?_) (fun k t I oI C oC D m₂ ys h tk E' hk hC hx F N off ne _ => ?_) ?_
  · obtain ⟨c, u, hc, rfl⟩ := hv
    exact ⟨_, u, KBw.ints_get hc, rfl⟩
  · have := KBw.ints_in hk
    exact turn g k t I oI C oC D m₂ ys h tk E' this.1 this.2 hC hx F N off ne
  · intro ys hc _
    rw [KBa.ints_make hin] at hc
    exact fin g ys hc
end
theorem join_sgn (ks : List Int) : Txt.join (Str.ofString "") (ks.map sgn) = ⟨(ks.map Int.toNat).toArray⟩ := by
  show Builtin.Str.glued (Str.ofString "") (ks.map sgn) = _
  cases ks with
  | nil => rfl
  | cons a r =>
    show (⟨(r.map sgn).foldl (fun acc p => acc ++ (Str.ofString "").cps ++ p.cps) #[a.toNat]⟩ : Str) = _
    congr 1
    have z : (Str.ofString "").cps = #[] := by decide +kernel
    have key : ∀ (l : List Int) (acc : Array Nat), (l.map sgn).foldl (fun acc p => acc ++ (Str.ofString "").cps ++ p.cps) acc = acc ++ (l.map Int.toNat).toArray := by
      intro l
      induction l with
      | nil => intro acc; simp
      | cons b l ih =>
        intro acc
        rw [List.map_cons, List.foldl_cons, ih, z]
        show acc ++ #[] ++ #[b.toNat] ++ _ = _
        rw [List.map_cons]
        simp
    rw [key]
    simp
theorem call_join_sgn {prog : Program} {w : World} {A : Around} {E : Value → Shared → Prop} {s : Shared} {D : Addr} {ys : List Value} {ks : List Int} {t : Tok} {Q : Value → Shared → Prop}
    (hl : s.heap.IsList D ys.toArray) (hc : CarriedAll ys (ks.map fun k => PyData.str (sgn k))) (hn : ks.length ≤ 1048576)
    (h : ∀ t' k, Q (.str ⟨(ks.map Int.toNat).toArray⟩ t') { s with toks := k }) : wpAny (model prog w) A (call (.builtin "str.join") [.str (Str.ofString "") t, .ref D]) Q E s := by
  refine KT.join_1 hl hc (fun _ _ => rfl) hn fun t' k _ => ?_
  rw [join_sgn]
  exact h t' k
section
variable {prog : Program} {w : World} {A : Around} {h₀ : Heap} {L : Addr} {m : Str → Option Value} {env : Env} {ct : Expr} {x : Str} {px : Pos} {scope : Scope} {cl : List (Str × Addr)} {s : Shared} {S : List (Addr × Obj) → Prop} {Fin : List Value → List (Addr × Obj) → Prop} {news : List (Addr × Obj)}
theorem rest_filter {vs : List Value} {ns : List Int} (pz : Int → Bool) (hi : IntsAre vs ns) (hS : S news) (hkind : scope.kind = .function) (hloc : ∀ C, (compEnvC scope cl C env).kindOf x = some .local) (hd : (x == ("__debug__" : Str)) = false)
    (turn : ∀ k t I oI C oC D m₂ ys h tk (E' : Value → Shared → Prop), k ∈ ns → LCg.NsObj oC m₂ → m₂ x = some (.int k t) → Fr h₀ L h m → News h₀ L h ((I, oI) :: (C, oC) :: (D, LCg.lst ys) :: news) → LCg.Off3 I C D news → ((@Ne Nat I C) ∧ (@Ne Nat I D) ∧ (@Ne Nat C D)) →
      wpAny (model prog w) A (isTrue ct (compEnvC scope cl C env) (eval ct (compEnvC scope cl C env))) (fun ok s' => ok = pz k ∧ ∃ h' tk', s' = { s with heap := h', toks := tk' } ∧ Fr h₀ L h' m ∧ News h₀ L h' ((I, oI) :: (C, oC) :: (D, LCg.lst ys) :: news)) E' { s with heap := h, toks := tk })
    (fin : ∀ ys, IntsAre ys (ns.filter pz) → Fin ys news) : LCt.CompRestT prog w A h₀ L m env ct (.Name x px) x scope cl s S (fun i v => vs.toArray[i]? = some v) Fin vs.toArray.size 0 [] news := by
  have key : ∀ (j i : Nat) (ys : List Value), i + j = ns.length → IntsAre ys ((ns.take i).filter pz) → LCt.CompRestT prog w A h₀ L m env ct (.Name x px) x scope cl s S (fun i v => vs.toArray[i]? = some v) Fin j i ys news := by
    intro j
    induction j with
    | zero =>
      intro i ys hij hy
      have e : i = ns.length := by omega
      subst e
      rw [List.take_length] at hy
      exact LCt.CompRestT.zero (fin ys hy)
    | succ j ih =>
      intro i ys hij hy
      refine LCt.CompRestT.succ ?_
      intro v I oI C oC D m₂ h tk E' hv hC hx F N off ne
      obtain ⟨k, t, e, hk⟩ := IntsAre.at hi i v (by simpa using hv)
      subst e
      refine wpAny_mono (turn k t I oI C oC D m₂ ys h tk E' (List.mem_of_getElem? hk) hC hx F N off ne) (fun ok s₂ hq => ?_) fun _ _ e => e
      obtain ⟨rfl, h', tk', rfl, F', N'⟩ := hq
      have etake : (ns.take (i + 1)).filter pz = (ns.take i).filter pz ++ (if pz k = true then [k] else []) := by
        rw [List.take_add_one, hk, List.filter_append]
        cases hp : pz k <;> simp [hp]
      cases hp : pz k with
      | true =>
        rw [if_pos rfl]
        rw [hp, if_pos rfl] at etake
        refine LCgL.ld_own N' (.tail _ (.head _)) hC hx ?_ hkind (hloc C) hd
        refine LCg.CompEnd.intro F' N' news (fun p hp => hp) off hS ?_
        refine ih (i + 1) _ (by omega) ?_
        rw [etake]
        exact IntsAre.append hy (.cons k t .nil)
      | false =>
        rw [if_neg (by decide)]
        rw [hp, if_neg (by decide), List.append_nil] at etake
        refine LCg.CompEnd.intro F' N' news (fun p hp => hp) off hS ?_
        refine ih (i + 1) _ (by omega) ?_
        rw [etake]
        exact hy
  have hlen : vs.toArray.size = ns.length := by rw [List.size_toArray]; exact hi.length
  rw [hlen]
  exact key ns.length 0 [] (by omega) (by simpa using IntsAre.nil)
end
end Mine
end
-- part: Enc
section
open PySem PySem.W PySem.Calls PyProof.Rows
set_option maxRecDepth 100000
namespace Mine
open Builtin Builtin._codecs
theorem strict_is : ((none : Option Str).getD (Str.ofString "strict")).toString = "strict" := by decide +kernel
def okLen (x : Str) (i : Nat) : Nat := ((x.cps.extract i x.cps.size).findIdx? asciiCodec.bad).getD (x.cps.extract i x.cps.size).size
def badEnd (x : Str) (i : Nat) : Nat := i + ((x.cps.extract i x.cps.size).findIdx? fun y => !asciiCodec.bad y).getD (x.cps.size - i)
def okPut (x : Str) (i : Nat) (out : Array UInt8) : Array UInt8 := ((x.cps.extract i x.cps.size).extract 0 (okLen x i)).foldl (fun acc y => acc ++ (asciiCodec.bytesOf y).toArray) out
theorem enc_body (self : Value) (x : Str) : ∃ body : Nat → (Nat × Array UInt8 × Faults) → Sem (ForInStep (Nat × Array UInt8 × Faults)),
    encodeNarrow "str.encode" asciiCodec none self x = (forIn (List.range' 0 x.length) (0, #[], {}) body >>= fun s => pure s.2.1) ∧
    (∀ u i out st c, out.size ≤ sizeLine → x.cps[i]? = some c → c < 128 → body u (i, out, st) = pure (.yield (i + okLen x i, okPut x i out, st))) ∧
    (∀ u i out st, out.size ≤ sizeLine → x.cps[i]? = none → body u (i, out, st) = pure (.done (i, out, st))) ∧
    (∀ u i out c, out.size ≤ sizeLine → x.cps[i]? = some c → 128 ≤ c → ∃ (r : String) (rest : PUnit → Sem (ForInStep (Nat × Array UInt8 × Faults))), body u (i, out, {}) = (rule r >>= fun _ => raiseEncodeFault {} "ascii" self i (badEnd x i) "ordinal not in range(128)" >>= rest)) := by
  refine ⟨_, by
    unfold encodeNarrow
    simp only [Std.Legacy.Range.forIn_eq_forIn_range', Std.Legacy.Range.size, Nat.sub_zero, Nat.add_sub_cancel, Nat.div_one]
    rfl, ?_, ?_, ?_⟩
  · intro u i out st c ho hx hc
    dsimp only
    rw [if_neg (by omega), hx]
    dsimp only
    rw [if_pos (show (!asciiCodec.bad c) = true from by show (!decide (c ≥ 128)) = true; simp; omega)]
    rfl
  · intro u i out st ho hx
    dsimp only
    rw [if_neg (by omega), hx]
  · intro u i out c ho hx hc
    dsimp only
    rw [if_neg (by omega), hx]
    dsimp only
    rw [if_neg (show ¬ (!asciiCodec.bad c) = true from by show ¬ (!decide (c ≥ 128)) = true; simp; omega)]
    rw [strict_is]
    exact ⟨_, _, rfl⟩
theorem road_ascii (id : String) (self : Value) (x : Str) : encodeRoad id self x (Str.ofString "ascii") none = (do mkBytes (← encodeNarrow id asciiCodec none self x)) := by
  first | rfl | (unfold encodeRoad; rfl) | (unfold encodeRoad; simp only []; rfl)
theorem enc1 (x : Str) (t : Tok) : Str.textOf (.str x t) = pure x := rfl
theorem enc2 (v : Value) : Str.bindOptional "str.encode" "encode" 0 ["encoding", "errors"] [v] [] = pure [some v, none] := rfl
theorem enc3 (u : Tok) : Str.codecArg "str.encode" "encode" "'encoding'" (some (.str (Str.ofString "ascii") u)) = pure (some (Str.ofString "ascii")) := by
  unfold Str.codecArg Str.strArg
  show (if (Str.ofString "ascii").cps.any (· ≥ 128) = true then _ else _) = _
  rw [if_neg (by decide +kernel), if_neg (by decide +kernel)]
theorem enc4 : Str.codecArg "str.encode" "encode" "'errors'" none = pure none := rfl
theorem encode_tree1 (x : Str) (t u : Tok) : «str.encode» ⟨[.str x t, .str (Str.ofString "ascii") u], []⟩ = (do ret (← encodeRoad "str.encode" (.str x t) x (Str.ofString "ascii") none)) := by
  unfold «str.encode»
  simp only [Str.strSelf, enc1, enc2, enc3, enc4, pure_bind]
  rfl
end Mine
end
-- part: Enc2
section
open PySem PySem.W PySem.Calls PyProof.Rows
set_option maxRecDepth 100000
namespace Mine
open Builtin Builtin._codecs
theorem uee_new : ExcNewFacts "UnicodeEncodeError" "UnicodeEncodeError.__new__" where
  ends := by decide +kernel
  owner := by decide +kernel
  entry := entryFor_alias (id' := "BaseException.__new__") (by rw [fastTable_eq_tree]; kernel_rfl) (by first | rfl | decide +kernel) (by decide +kernel) (by rw [fastTable_eq_tree]; kernel_rfl)
  sub := by rw [isSubtype_type]; kernel_rfl
  notAttr := by rw [isSubtype_type]; kernel_rfl
  notName := by rw [isSubtype_type]; kernel_rfl
  made := by kernel_rfl
theorem uee_notType : (Value.type "UnicodeEncodeError" == Value.type "type") = false := by decide +kernel
theorem uee_canMake : ((Manifest.find? "UnicodeEncodeError").bind fun x => List.findSome? (fun t => (Manifest.find? t).bind fun b =>
    if b.noNew = true then some true else if (b.attrs.any fun x => x.fst == "__new__") = true then some false else none) x.mro).getD false = false := by kernel_rfl
theorem uee_noVector : ∀ args, checkTypeCall "UnicodeEncodeError" args = pure () := fun args => by kernel_rfl
theorem uee_mro : ∃ m, mroOf (.type "UnicodeEncodeError") = pure m ∧ m.isEmpty = false := ⟨[.type "UnicodeEncodeError", .type "UnicodeError", .type "ValueError", .type "Exception", .type "BaseException", .type "object"], by rw [mroOf_type]; kernel_rfl, rfl⟩
theorem uee_madeBy : Bind.madeBy (.type "UnicodeEncodeError") = pure (some "UnicodeEncodeError.__new__") := by kernel_rfl
theorem uee_quiet : "UnicodeEncodeError.__new__".startsWith "lifetime." = false := by decide +kernel
theorem uee_newOk : ∀ rest, checkBuiltinCall "UnicodeEncodeError.__new__" ⟨.type "UnicodeEncodeError" :: rest, []⟩ = pure () := fun rest => by kernel_rfl
theorem uee_init : Slot "UnicodeEncodeError" "__init__" "UnicodeEncodeError.__init__" := .of (owner := "UnicodeEncodeError") (n := "__init__") (by rw [typeLookup_type, builtinLookup_eq_fast]; kernel_rfl) (by decide +kernel) (by decide +kernel) (by decide +kernel)
    (by first | exact .inl (by decide +kernel) | exact .inr (by decide +kernel)) (by rw [isSubtype_type]; kernel_rfl)
theorem uee_initEntry : entryFor table "UnicodeEncodeError.__init__" = some Builtin.«UnicodeEncodeError.__init__» := entryFor_of_tree (by kernel_rfl)
theorem uee_initSplit : splitId "UnicodeEncodeError.__init__" = some ("UnicodeEncodeError", "__init__") := by kernel_rfl
theorem uee_initKind : builtinKind "UnicodeEncodeError.__init__" = some .slot := by kernel_rfl
theorem uee_initRow : Manifest.signature? "UnicodeEncodeError.__init__" = some ⟨.hand, "wrapper __init__", "", .self, []⟩ := by kernel_rfl
theorem uee_noStar : ("UnicodeEncodeError" != "*") = true := by decide +kernel
section
variable {prog : Program} {w : World} {A : Around}
theorem uee_check {M : Model} {self : Value} {rest : List Value} {E : Value → Shared → Prop} {Q : Unit → Shared → Prop}
    {hp : Heap} {g : Array GenState} {d : Drawn} {tk : Nat} {os : OsState} (hT : Shared.TypeIs ⟨hp, g, d, tk, os⟩ self "UnicodeEncodeError") (h : Q () ⟨hp, g, d, tk, os⟩) :
    wpAny M A (checkBuiltinCall "UnicodeEncodeError.__init__" ⟨self :: rest, []⟩) Q E ⟨hp, g, d, tk, os⟩ := by
  have hsub := uee_new.sub
  simp only [checkBuiltinCall, uee_initKind, uee_initSplit, uee_initRow]
  wp_walk
  all_goals exact h
end
open UnicodeEncodeError (Members members setMembers)
def six (t : Addr) : Array Value := #[.ref t, .none, .none, .none, .bool false, .none]
def five (m : Members) : Array Value := #[m.encoding, m.object, rawInt m.start, rawInt m.stop, m.reason]
def UX (h : Heap) (e : Addr) (vs : Array Value) : Prop := h.get? e = some { cls := .type "UnicodeEncodeError", dict := none, data := .fields vs, slots := #[] }
section
variable {M : Model} {A : Around} {E : Value → Shared → Prop} {s : Shared} {e t : Addr}
theorem members0 {Q : Members → Shared → Prop} (ho : UX s.heap e (six t)) (h : Q {} s) : wpAny M A (members (.ref e)) Q E s := by
  unfold members
  refine wpAny_bind (wpAny_fieldsOf ho rfl ?_)
  exact wpAny_pure h
theorem members5 {m : Members} {Q : Members → Shared → Prop} (ho : UX s.heap e (six t ++ five m)) (h : Q m s) : wpAny M A (members (.ref e)) Q E s := by
  unfold members
  refine wpAny_bind (wpAny_fieldsOf ho rfl ?_)
  exact wpAny_pure h
theorem setMembers_ {vs : Array Value} {m : Members} {Q : Unit → Shared → Prop} (ho : UX s.heap e vs) (hs : vs.extract 0 6 = six t)
    (h : ∀ h', UX h' e (six t ++ five m) → Heap.SameBut e s.heap h' → Q () { s with heap := h' }) : wpAny M A (setMembers (.ref e) m) Q E s := by
  unfold setMembers
  refine wpAny_updateFields ho rfl (h _ ?_ (Heap.SameBut.update ..)) ?_
  · have := Heap.get?_update_self (Obj.mapFields fun vs => vs.extract 0 6 ++ #[m.encoding, m.object, rawInt m.start, rawInt m.stop, m.reason]) ho rfl
    refine this.trans ?_
    show some ({ cls := .type "UnicodeEncodeError", dict := none, data := .fields (vs.extract 0 6 ++ five m), slots := #[] } : Obj) = _
    rw [hs]
  · show (vs.extract 0 6 ++ five m).size ≤ sizeLine + 3
    rw [hs, sizeLine_eq, Array.size_append]
    show 6 + 5 ≤ _
    decide
theorem init_begin {rest : List Value} {Q : Value × List Value → Shared → Prop} (hrest : rest.length = 5) (ho : UX s.heap e (six t))
    (h : ∀ h' t', UX h' e (six t' ++ five {}) → (∀ b o, b ≠ e → s.heap.get? b = some o → h'.get? b = some o) → s.heap.get? t' = none → h'.get? t' = some { cls := .type "tuple", data := .seq rest.toArray } → Q (.ref e, rest) { s with heap := h' }) :
    wpAny M A (UnicodeEncodeError.beginInit "UnicodeEncodeError.__init__" 5 ⟨.ref e :: rest, []⟩) Q E s := by
  have hlt := Heap.lt_size ho
  unfold UnicodeEncodeError.beginInit
  show wpAny M A (field (.ref e) 0 >>= fun oldArgs => newTuple rest >>= fun tp => setField (.ref e) 0 tp >>= fun _ => letGo [oldArgs] >>= fun _ => _) Q E s
  refine wpAny_bind (wpAny_field ho rfl (x := .ref t) rfl ?_)
  refine wpAny_bind (wpAny_newTuple ?_ (by rw [hrest, sizeLine_eq]; decide))
  have ho₁ : UX (s.heap.push { cls := .type "tuple", data := .seq rest.toArray }) e (six t) := Heap.get?_push_of_some _ ho
  refine wpAny_bind (wpAny_setField ho₁ rfl (by show 0 < 6; decide) ?_)
  refine wpAny_bind (wpAny_letGo ?_)
  have ho₂ : UX ((s.heap.push { cls := .type "tuple", data := .seq rest.toArray }).update e (Obj.mapFields (·.setIfInBounds 0 (.ref s.heap.objs.size)))) e (six s.heap.objs.size) := Heap.get?_update_self _ ho₁ rfl
  have sb₂ := Heap.SameBut.update (s.heap.push { cls := .type "tuple", data := .seq rest.toArray }) e (Obj.mapFields (·.setIfInBounds 0 (.ref s.heap.objs.size)))
  generalize ((s.heap.push { cls := .type "tuple", data := .seq rest.toArray }).update e (Obj.mapFields (·.setIfInBounds 0 (.ref s.heap.objs.size)))) = g₂ at ho₂ sb₂ ⊢
  rw [if_pos (by decide)]
  refine wpAny_bind (members0 ho₂ ?_)
  refine wpAny_bind (setMembers_ ho₂ rfl fun g₃ ho₃ sb₃ => ?_)
  refine wpAny_bind (wpAny_letGo ?_)
  refine wpAny_bind (members5 ho₃ ?_)
  refine wpAny_bind (setMembers_ ho₃ rfl fun g₄ ho₄ sb₄ => ?_)
  refine wpAny_bind (wpAny_letGo ?_)
  refine wpAny_bind (members5 ho₄ ?_)
  refine wpAny_bind (setMembers_ ho₄ rfl fun g₅ ho₅ sb₅ => ?_)
  refine wpAny_bind (wpAny_letGo ?_)
  rw [if_neg (by simp [hrest])]
  refine wpAny_pure (h g₅ s.heap.objs.size ho₅ ?_ (Heap.get?_none_of_le (Nat.le_refl _)) ?_)
  · intro b o hb hbo
    exact ((sb₂.trans sb₃).trans (sb₄.trans sb₅)).2 b hb ▸ Heap.get?_push_of_some _ hbo
  · exact (((sb₂.trans sb₃).trans (sb₄.trans sb₅)).2 _ (Nat.ne_of_gt hlt)).trans (Heap.get?_push_size _ rfl)
end
section
variable {M : Model} {A : Around} {E : Value → Shared → Prop} {s : Shared} {e t : Addr}
theorem strArg_ {id : String} {i : Nat} {x : Str} {u : Tok} {Q : Unit → Shared → Prop} (h : Q () s) : wpAny M A (UnicodeEncodeError.strArgument id i (.str x u)) Q E s := by
  unfold UnicodeEncodeError.strArgument
  exact wpAny_bind (wpAny_of_eq (a := some x) rfl (wpAny_pure h))
theorem sizeArg_ {id : String} {i : Int} {u : Tok} {Q : Int → Shared → Prop} (h0 : 0 ≤ i) (h1 : i < 2 ^ 63) (h : Q i s) : wpAny M A (UnicodeEncodeError.sizeArgument id (.int i u)) Q E s := by
  unfold UnicodeEncodeError.sizeArgument
  refine wpAny_bind (wpAny_of_eq (a := i) rfl ?_)
  rw [if_neg (by simp; omega)]
  exact wpAny_pure h
theorem uee_initRun {enc obj reason : Str} {i j : Int} {te to_ tr ti tj : Tok} {Q : Fin → Shared → Prop}
    (hi0 : 0 ≤ i) (hi1 : i < 2 ^ 63) (hj0 : 0 ≤ j) (hj1 : j < 2 ^ 63) (ho : UX s.heap e (six t))
    (h : ∀ h' t' m, UX h' e (six t' ++ five m) → (∀ b o, b ≠ e → s.heap.get? b = some o → h'.get? b = some o) → s.heap.get? t' = none → h'.get? t' = some { cls := .type "tuple", data := .seq #[.str enc te, .str obj to_, .int i ti, .int j tj, .str reason tr] } →
      Q (.done (.ret .none)) { s with heap := h' }) :
    wpAny M A (Builtin.«UnicodeEncodeError.__init__» ⟨[.ref e, .str enc te, .str obj to_, .int i ti, .int j tj, .str reason tr], []⟩) Q E s := by
  unfold Builtin.«UnicodeEncodeError.__init__»
  refine wpAny_bind (init_begin rfl ho fun g t' ho₁ k₁ n₁ tp₁ => ?_)
  dsimp only
  refine wpAny_bind (strArg_ ?_)
  refine wpAny_bind (strArg_ ?_)
  refine wpAny_bind ?_
  unfold UnicodeEncodeError.initRange
  refine wpAny_bind (sizeArg_ hi0 hi1 ?_)
  refine wpAny_bind (members5 ho₁ ?_)
  refine wpAny_bind (setMembers_ ho₁ rfl fun g₂ ho₂ sb₂ => ?_)
  refine wpAny_bind (sizeArg_ hj0 hj1 ?_)
  refine wpAny_bind (members5 ho₂ ?_)
  refine setMembers_ ho₂ rfl fun g₃ ho₃ sb₃ => ?_
  refine wpAny_bind (strArg_ ?_)
  refine wpAny_bind (members5 ho₃ ?_)
  refine wpAny_bind (setMembers_ ho₃ rfl fun g₄ ho₄ sb₄ => ?_)
  refine wpAny_pure ?_
  have ne : t' ≠ e := by
    rintro rfl
    rw [show s.heap.get? t' = some _ from ho] at n₁; cases n₁
  refine h g₄ t' _ ho₄ (fun b o hb hbo => ?_) n₁ ?_
  · exact ((sb₂.trans sb₃).trans sb₄).2 b hb ▸ k₁ b o hb hbo
  · exact (((sb₂.trans sb₃).trans sb₄).2 _ ne).trans tp₁
end
end Mine
end
-- part: Enc3
section
open PySem PySem.W PySem.Calls PyProof.Rows
set_option maxRecDepth 100000
namespace Mine
open Builtin Builtin._codecs
theorem ok_len {x : Str} (h : ∀ c ∈ x.cps, c < 128) : okLen x 0 = x.cps.size := by
  unfold okLen
  have e : x.cps.extract 0 x.cps.size = x.cps := by simp
  rw [e, Array.findIdx?_eq_none_iff.mpr]
  · rfl
  · intro c hc
    have := h c hc
    show decide (c ≥ 128) = false
    simpa using this
theorem ok_put {x : Str} (h : ∀ c ∈ x.cps, c < 128) : okPut x 0 #[] = x.cps.map fun c => c.toUInt8 := by
  unfold okPut
  rw [ok_len h]
  have e : (x.cps.extract 0 x.cps.size).extract 0 x.cps.size = x.cps := by simp
  rw [e]
  have key : ∀ (l : List Nat) (acc : Array UInt8), l.foldl (fun acc y => acc ++ (asciiCodec.bytesOf y).toArray) acc = acc ++ (l.map fun c => c.toUInt8).toArray := by
    intro l
    induction l with
    | nil => intro acc; simp
    | cons c l ih =>
      intro acc
      rw [List.foldl_cons, ih]
      show acc ++ #[c.toUInt8] ++ _ = _
      rw [List.map_cons]
      simp
  rw [← Array.foldl_toList, key]
  apply Array.ext'
  simp
theorem put_size (x : Str) (i : Nat) (out : Array UInt8) : (okPut x i out).size ≤ out.size + x.cps.size := by
  unfold okPut
  have key : ∀ (l : List Nat) (acc : Array UInt8), (l.foldl (fun acc y => acc ++ (asciiCodec.bytesOf y).toArray) acc).size = acc.size + l.length := by
    intro l
    induction l with
    | nil => intro acc; rfl
    | cons c l ih =>
      intro acc
      rw [List.foldl_cons, ih, Array.size_append, List.length_cons]
      show acc.size + 1 + l.length = _
      omega
  rw [← Array.foldl_toList, key, Array.length_toList]
  simp
  omega
theorem enc_ok (self : Value) (x : Str) (hlen : x.length ≤ 1000) (h : ∀ c ∈ x.cps, c < 128) : encodeNarrow "str.encode" asciiCodec none self x = pure (x.cps.map fun c => c.toUInt8) := by
  obtain ⟨body, e, p1, p2, _⟩ := enc_body self x
  rw [e]
  have hz : (#[] : Array UInt8).size ≤ sizeLine := Nat.zero_le _
  have hxl : x.length = x.cps.size := rfl
  cases hn : x.cps.size with
  | zero =>
    rw [hxl, hn]
    have : x.cps = #[] := Array.eq_empty_of_size_eq_zero hn
    rw [this, List.range'_zero, List.forIn_nil, pure_bind]
    simp
  | succ n =>
    rw [hxl, hn, List.range'_succ, List.forIn_cons]
    have hg : x.cps[0]? = some x.cps[0] := Array.getElem?_eq_getElem (by omega)
    rw [p1 _ 0 #[] {} _ hz hg (h _ (Array.getElem_mem _)), ok_len h, ok_put h]
    simp only [pure_bind]
    cases n with
    | zero => rfl
    | succ n =>
      rw [List.range'_succ, List.forIn_cons, p2 _ _ _ _ (by rw [Array.size_map, sizeLine_eq]; omega) (by simp)]
      rfl
section
variable {M : Model} {A : Around} {E : Value → Shared → Prop} {s : Shared}
theorem bad_end (x : Str) (i : Nat) : badEnd x i ≤ i + x.cps.size := by
  unfold badEnd
  cases e : (x.cps.extract i x.cps.size).findIdx? fun y => !asciiCodec.bad y with
  | none => show i + (x.cps.size - i) ≤ _; omega
  | some j =>
    have h1 := (Array.findIdx?_eq_some_iff_getElem.mp e).1
    rw [Array.size_extract] at h1
    show i + j ≤ _
    omega
theorem enc_bad {self : Value} {x : Str} {Q : Array UInt8 → Shared → Prop} (hlen : x.length ≤ 1000) (hb : ∃ c ∈ x.cps, 128 ≤ c)
    (h : ∀ (i j : Nat) (Q' : PUnit → Shared → Prop), i ≤ 1000 → j ≤ 2000 → wpAny M A (raiseEncodeFault {} "ascii" self i j "ordinal not in range(128)" : Sem PUnit) Q' E s) :
    wpAny M A (encodeNarrow "str.encode" asciiCodec none self x) Q E s := by
  obtain ⟨body, e, p1, _, p3⟩ := enc_body self x
  rw [e]
  have hz : (#[] : Array UInt8).size ≤ sizeLine := Nat.zero_le _
  have hxl : x.length = x.cps.size := rfl
  obtain ⟨c0, hm, hc0⟩ := hb
  have hpos : 0 < x.cps.size := Array.size_pos_of_mem hm
  have hg : x.cps[0]? = some x.cps[0] := Array.getElem?_eq_getElem hpos
  obtain ⟨n, hn⟩ : ∃ n, x.cps.size = n + 1 := ⟨x.cps.size - 1, by omega⟩
  rw [hxl, hn, List.range'_succ, List.forIn_cons]
  by_cases h0 : 128 ≤ x.cps[0]
  · obtain ⟨r, rest, eb⟩ := p3 0 0 #[] _ hz hg h0
    rw [eb]
    refine wpAny_bind (wpAny_bind (wpAny_bind (wpAny_rule (wpAny_bind (h 0 _ _ (by omega) ?_)))))
    have := bad_end x 0
    omega
  · rw [p1 0 0 #[] {} _ hz hg (by omega)]
    rw [pure_bind]
    have hfe : x.cps.extract 0 x.cps.size = x.cps := by simp
    obtain ⟨j, hj⟩ : ∃ j, x.cps.findIdx? asciiCodec.bad = some j := by
      cases q : x.cps.findIdx? asciiCodec.bad with
      | some j => exact ⟨j, rfl⟩
      | none =>
        have := Array.findIdx?_eq_none_iff.mp q c0 hm
        have hd : decide (c0 ≥ 128) = false := this
        simp at hd
        omega
    have hok : okLen x 0 = j := by unfold okLen; rw [hfe, hj]; rfl
    obtain ⟨hjl, hjb, _⟩ := Array.findIdx?_eq_some_iff_getElem.mp hj
    have hjb' : 128 ≤ x.cps[j] := by
      have : decide (x.cps[j] ≥ 128) = true := hjb
      simpa using this
    have hj0 : j ≠ 0 := by rintro rfl; exact h0 hjb'
    obtain ⟨n', hn'⟩ : ∃ n', n = n' + 1 := ⟨n - 1, by omega⟩
    rw [hn', List.range'_succ]
    dsimp only
    rw [List.forIn_cons, hok]
    have hsz := put_size x 0 #[]
    obtain ⟨r, rest, eb⟩ := p3 (0 + 1) (0 + j) (okPut x 0 #[]) _ (by rw [sizeLine_eq]; simp at hsz; omega) (by rw [Nat.zero_add]; exact Array.getElem?_eq_getElem hjl) hjb'
    rw [eb]
    refine wpAny_bind (wpAny_bind (wpAny_bind (wpAny_rule (wpAny_bind (h (0 + j) _ _ (by omega) ?_)))))
    have := bad_end x (0 + j)
    omega
end
end Mine
end
-- part: Enc4
section
open PySem PySem.W PySem.Calls PyProof.Rows
set_option maxRecDepth 100000
namespace Mine
open Builtin Builtin._codecs
open UnicodeEncodeError (Members members setMembers)
/-- a UnicodeEncodeError has been made -/
structure MadeUee (h h' : Heap) (e : Addr) : Prop where
  keeps : ∀ b o, h.get? b = some o → h'.get? b = some o
  new : h.get? e = none
  there : ∃ t m args, UX h' e (six t ++ five m) ∧ h.get? t = none ∧ h'.get? t = some { cls := .type "tuple", data := .seq (List.toArray args) }
section
variable {prog : Program} {w : World} {A : Around} {E : Value → Shared → Prop}
theorem uee_typeCall {enc obj reason : Str} {i j : Int} {te to_ tr ti tj : Tok} {Q : Fin → Shared → Prop} {hp : Heap} {g : Array GenState} {d : Drawn} {tk : Nat} {os : OsState}
    (hi0 : 0 ≤ i) (hi1 : i < 2 ^ 63) (hj0 : 0 ≤ j) (hj1 : j < 2 ^ 63)
    (h : ∀ h' e, MadeUee hp h' e → Q (.done (.ret (.ref e))) ⟨h', g, d, tk, os⟩) :
    wpAny (model prog w) A (Builtin.«type.__call__» ⟨[.type "UnicodeEncodeError", .str enc te, .str obj to_, .int i ti, .int j tj, .str reason tr], []⟩) Q E ⟨hp, g, d, tk, os⟩ := by
  have hnt := uee_notType
  have hcan := uee_canMake
  have hchk := uee_noVector ⟨[.str enc te, .str obj to_, .int i ti, .int j tj, .str reason tr], []⟩
  obtain ⟨m, hmro, hne⟩ := uee_mro
  have hmade := uee_madeBy
  wp_walk
  refine codeAny_call_builtin_code (Code.quiet_builtin _ uee_quiet) (wpAny_of_eq (uee_newOk _) ?_)
  refine codeAny_exc_new uee_new ?_ (by rw [sizeLine_eq]; show 5 ≤ 16777216; decide)
  show wpAny _ _ _ _ _ _
  have hget : ((hp.push { cls := .type "tuple", data := .seq [Value.str enc te, .str obj to_, .int i ti, .int j tj, .str reason tr].toArray }).push
      { cls := .type "UnicodeEncodeError", data := .fields #[.ref hp.objs.size, .none, .none, .none, .bool false, .none] }).get? (hp.objs.size + 1) = some
      { cls := .type "UnicodeEncodeError", data := .fields #[.ref hp.objs.size, .none, .none, .none, .bool false, .none] } := by heap_get
  refine wpAny_bind (wpAny_isInstance ⟨_, hget, rfl⟩ uee_new.sub ?_)
  wp_step
  refine wpAny_bind (wpAny_holding (wpAny_callSpecial?_slot ⟨_, hget, rfl⟩ uee_init (wpAny_call (codeAny_call_builtin uee_init.plain uee_initEntry (uee_check ⟨_, hget, rfl⟩ ?_)))))
  refine uee_initRun hi0 hi1 hj0 hj1 hget fun h' t' m' hux hk hn ht => ?_
  wp_walk
  refine h _ _ ⟨fun b o hb => ?_, Heap.get?_none_of_le (Nat.le_succ _), t', m', _, hux, ?_, ht⟩
  · exact hk b o (Nat.ne_of_lt (Nat.lt_succ_of_lt (Heap.lt_size hb))) (Heap.get?_push_of_some _ (Heap.get?_push_of_some _ hb))
  · cases q : hp.get? t' with
    | none => rfl
    | some o =>
      have : ((hp.push { cls := .type "tuple", data := .seq [Value.str enc te, .str obj to_, .int i ti, .int j tj, .str reason tr].toArray }).push
        { cls := .type "UnicodeEncodeError", data := .fields #[.ref hp.objs.size, .none, .none, .none, .bool false, .none] }).get? t' = none := hn
      rw [Heap.get?_push_of_some _ (Heap.get?_push_of_some _ q)] at this
      cases this
theorem uee_call {enc obj reason : Str} {i j : Int} {te to_ tr ti tj : Tok} {s : Shared} {Q : Value → Shared → Prop}
    (hi0 : 0 ≤ i) (hi1 : i < 2 ^ 63) (hj0 : 0 ≤ j) (hj1 : j < 2 ^ 63)
    (h : ∀ h' e, MadeUee s.heap h' e → Q (.ref e) { s with heap := h' }) :
    wpAny (model prog w) A (call (.type "UnicodeEncodeError") [.str enc te, .str obj to_, .int i ti, .int j tj, .str reason tr]) Q E s := by
  refine wpAny_call (codeAny_of_tree ?_)
  show wpAny _ _ (again (.builtin "type.__call__" ⟨[.type "UnicodeEncodeError", .str enc te, .str obj to_, .int i ti, .int j tj, .str reason tr], []⟩)) _ _ _
  exact wpAny_pure ⟨Code.quiet_builtin _ (by decide +kernel), codeAny_builtin entry_typeCall (uee_typeCall hi0 hi1 hj0 hj1 fun h' e hm => h h' e hm)⟩
theorem fault_raise {x : Str} {t : Tok} {i j : Nat} {s : Shared} {Q : PUnit → Shared → Prop} (hh : A.handled = none) (hi : i ≤ 1000) (hj : j ≤ 2000)
    (h : ∀ h' tk e, MadeUee s.heap h' e → E (.ref e) { s with heap := h', toks := tk }) :
    wpAny (model prog w) A (raiseEncodeFault {} "ascii" (.str x t) i j "ordinal not in range(128)" : Sem PUnit) Q E s := by
  unfold raiseEncodeFault
  refine wpAny_bind ?_
  show wpAny _ _ (mkStr (Str.ofString "ascii") >>= fun a => pure (Value.str x t) >>= fun o => mkInt (i : Int) >>= fun b => mkInt (j : Int) >>= fun c => mkStr (Str.ofString "ordinal not in range(128)") >>= fun r => call (.type "UnicodeEncodeError") [a, o, b, c, r]) _ _ _
  refine wpAny_bind (wpAny_mkStr ?_ (by rw [PyProof.Rows.ofString_length, sizeLine_eq]; decide +kernel))
  refine wpAny_bind (wpAny_pure ?_)
  refine wpAny_bind (wpAny_mkInt ?_)
  refine wpAny_bind (wpAny_mkInt ?_)
  refine wpAny_bind (wpAny_mkStr ?_ (by rw [PyProof.Rows.ofString_length, sizeLine_eq]; decide +kernel))
  refine uee_call (by omega) (by omega) (by omega) (by omega) fun h' e hm => ?_
  exact wpAny_raiseNew_none hh (h _ _ _ hm)
theorem call_enc_bad {x : Str} {t u : Tok} {s : Shared} {Q : Value → Shared → Prop} (hh : A.handled = none) (hlen : x.length ≤ 1000) (hb : ∃ c ∈ x.cps, 128 ≤ c)
    (h : ∀ h' tk e, MadeUee s.heap h' e → E (.ref e) { s with heap := h', toks := tk }) :
    wpAny (model prog w) A (call (.builtin "str.encode") [.str x t, .str (Str.ofString "ascii") u]) Q E s := by
  refine wpAny_call_entry F.slot_str_encode (typeIs_str _ _ _) F.entry_str_encode ?_ (F.args_str_encode_2 _ _)
  rw [encode_tree1, road_ascii]
  exact wpAny_bind (wpAny_bind (enc_bad hlen hb fun i j Q' hi hj => fault_raise hh hi hj h))
theorem call_enc_ok {x : Str} {t u : Tok} {s : Shared} {Q : Value → Shared → Prop} (hlen : x.length ≤ 1000) (hb : ∀ c ∈ x.cps, c < 128)
    (h : ∀ t' tk, Q (.bytes (x.cps.map fun c => c.toUInt8) t') { s with toks := tk }) :
    wpAny (model prog w) A (call (.builtin "str.encode") [.str x t, .str (Str.ofString "ascii") u]) Q E s := by
  refine wpAny_call_entry F.slot_str_encode (typeIs_str _ _ _) F.entry_str_encode ?_ (F.args_str_encode_2 _ _)
  rw [encode_tree1, road_ascii, enc_ok _ _ hlen hb]
  refine wpAny_bind (wpAny_bind (wpAny_pure (wpAny_mkBytes ?_ ?_)))
  · exact wpAny_pure ⟨_, rfl, h _ _⟩
  · have : x.length = x.cps.size := rfl
    rw [Array.size_map, sizeLine_eq]
    omega
theorem method_enc {M : Model} {x : Str} {t : Tok} {s : Shared} {pl : Sem Bool} {Q : Value × List Value → Shared → Prop} (h : Q (.builtin "str.encode", [.str x t]) s) : wpAny M A (getMethod (.str x t) (Str.ofString "encode") pl) Q E s :=
  getMethod_builtin (typeIs_str _ _ _) F.plainAttrs_str F.slot_str_encode F.type_str_encode (fun a e => nomatch e) h
end
end Mine
end
-- part: Enc5
section
open PySem PySem.W PySem.Calls PyProof.Rows
set_option maxRecDepth 100000
namespace Mine
section
variable {prog : Program} {w : World} {A : Around} {E : Value → Shared → Prop} {s : Shared}
theorem note_first {B : Heap} {env : Env} {outer : List Env} {L e : Addr} {vs : Array Value} {Q : Unit → Shared → Prop}
    (hfr : A.frames = some (env :: outer)) (hl : s.heap.FunFrames B (env :: outer)) (hf : env.frame = some L) (he : UX s.heap e vs) (h1 : vs[1]? = some .none) (hkb : B.StaysIn s.heap) (hen : B.get? e = none)
    (h : ∀ h' T oT ts, B.StaysIn h' → h'.FunFrames B (env :: outer) → UX h' e (vs.setIfInBounds 1 (.ref T)) → h'.get? T = some oT → oT.data = .fields ts → 3 < ts.size → B.get? T = none → T ≠ e → s.heap.UpToSlots h' → Q () { s with heap := h' }) :
    wpAny (model prog w) A (noteFrame (.ref e) env) Q E s := by
  have hsz : 1 < vs.size := (Array.getElem?_eq_some_iff.mp h1).1
  have hene : e ∉ (env :: outer).filterMap (·.frame) := fun hm => by
    obtain ⟨_, o, ho, hnf⟩ := hl.mem hm
    rw [show s.heap.get? e = _ from he] at ho
    cases ho
    exact hnf _ rfl
  unfold noteFrame
  simp only [hf]
  refine wpAny_bind (wpAny_field he rfl h1 ?_)
  rw [if_neg (by decide)]
  refine wpAny_bind (wpAny_frameOf_fun hfr hl hf fun g hg => ?_)
  refine wpAny_bind (wpAny_entryPlaceOf fun pl hpl => ?_)
  unfold EntryCells.newEntry newFields
  refine wpAny_bind (wpAny_newObj_type ?_ (hpl.sizeOk5 _ _ _ _ _))
  have heg : UX g e vs := (hg.2.1 e hene).trans he
  have kg : B.StaysIn g := fun b o hb => (hg.2.1 b fun hm => by rw [(hl.mem hm).1] at hb; cases hb).trans (hkb b o hb)
  generalize hob : ({ cls := .type "traceback", dict := none, data := .fields ([Value.none, .ref L, .none, rawInt L, .none] ++ (if pl.isEmpty then List.replicate 6 Value.none else pl)).toArray } : Obj) = ob
  have hts : ob.data = .fields ([Value.none, .ref L, .none, rawInt L, .none] ++ (if pl.isEmpty then List.replicate 6 Value.none else pl)).toArray := by rw [← hob]
  have hfree : ob.isFreed = false := by rw [← hob]; rfl
  show wpAny (model prog w) A (setField (.ref e) 1 (.ref g.objs.size)) Q E { s with heap := g.push ob }
  have hep : UX (g.push ob) e vs := Heap.get?_push_of_some _ heg
  refine wpAny_setField_rec hep hsz fun h' he' hsb => ?_
  have hTe : g.objs.size ≠ e := Nat.ne_of_gt (Heap.lt_size heg)
  refine h h' g.objs.size ob _ (fun b o hb => ?_) (hl.of_keeps fun b o hb hnf => ?_) he' ?_ hts ?_ kg.fresh hTe (fun b o hb hnf => ?_)
  · refine hsb.extBut b o (fun q => ?_) (Heap.get?_push_of_some _ (kg b o hb))
    rw [q, hen] at hb; cases hb
  · obtain ⟨sl, hs⟩ := hg.2.2 b o hb
    refine ⟨_, hsb.extBut b _ (fun q => ?_) (Heap.get?_push_of_some _ hs), rfl⟩
    rw [q, show s.heap.get? e = _ from he] at hb; cases hb; exact hnf _ rfl
  · exact hsb.extBut _ _ hTe (Heap.get?_push_size _ hfree)
  · simp only [List.size_toArray, List.length_append, List.length_cons, List.length_nil]
    omega
  · obtain ⟨sl, hs⟩ := hg.2.2 b o hb
    refine ⟨sl, hsb.extBut b _ (fun q => ?_) (Heap.get?_push_of_some _ hs)⟩
    rw [q, show s.heap.get? e = _ from he] at hb; cases hb; exact hnf _ rfl
end
end Mine
namespace Mine
section
variable {prog : Program} {w : World} {A : Around} {E : Value → Shared → Prop} {s : Shared}
theorem flight_off {e T : Addr} {vs ts : Array Value} {oT : Obj} {Q : Unit → Shared → Prop} (he : UX s.heap e vs) (h1 : vs[1]? = some (.ref T)) (hT : s.heap.get? T = some oT) (hd : oT.data = .fields ts) (h3 : 3 < ts.size) (hTe : T ≠ e)
    (h : ∀ h' oT' ts', UX h' e vs → h'.get? T = some oT' → oT'.data = .fields ts' → ts'[3]? = some .none → Heap.SameBut T s.heap h' → Q () { s with heap := h' }) :
    wpAny (model prog w) A (setFlight (.ref e) none) Q E s := by
  unfold setFlight
  refine wpAny_bind (wpAny_field he rfl h1 ?_)
  rw [if_pos (show (Value.ref T != Value.none) = true from by simp)]
  have sb := Heap.SameBut.update s.heap T (Obj.mapFields (·.setIfInBounds 3 ((none : Option Addr).elim Value.none fun f => rawInt f)))
  refine wpAny_setField hT hd h3 (h _ _ _ ((sb.2 e (Ne.symm hTe)).trans he) (Heap.get?_update_self _ hT (Obj.isFreed_of_fields (Obj.data_mapFields hd _))) (Obj.data_mapFields hd _) ?_ sb)
  rw [Array.getElem?_setIfInBounds]
  simp [h3]
/-- a flying exception whose tuple of words and whose context are known -/
theorem entry_unchain : entryFor table "proto.unchain" = some Builtin.«proto.unchain» := entryFor_of_tree (by kernel_rfl)
theorem raiseNew_inside {α : Type} {e e₀ t : Addr} {ws : Array Value} {cls : Value} {Q : α → Shared → Prop} (hh : A.handled = some (.ref e₀)) (hne : e₀ ≠ e) (he₀ : UX s.heap e₀ ws) (h2 : ws[2]? = some .none)
    (he : s.heap.get? e = some { cls := cls, dict := none, data := .fields #[.ref t, .none, .none, .none, .bool false, .none], slots := #[] })
    (h : ∀ h', h'.get? e = some { cls := cls, dict := none, data := .fields #[.ref t, .none, .ref e₀, .none, .bool false, .none], slots := #[] } → Heap.SameBut e s.heap h' → E (.ref e) { s with heap := h' }) :
    wpAny (model prog w) A (raiseNew (.ref e) : Sem α) Q E s := by
  unfold raiseNew
  refine wpAny_bind (wpAny_handled ?_)
  rw [hh]
  dsimp only
  rw [if_pos (show (Value.ref e₀ != Value.ref e) = true from by simpa using hne)]
  refine wpAny_bind (wpAny_holding (wpAny_runValue (codeAny_builtin entry_unchain ?_)))
  unfold Builtin.«proto.unchain»
  dsimp only
  refine wpAny_bind (wpAny_field he₀ rfl h2 ?_)
  rw [if_pos (show (Value.none == Value.none) = true from rfl)]
  refine wpAny_pure ?_
  refine wpAny_bind ?_
  show wpAny _ _ (setField (.ref e) 2 (.ref e₀)) _ _ _
  refine wpAny_setField_rec he (by show 2 < 6; decide) fun h' he' hsb => ?_
  exact wpAny_throw (h h' he' hsb)
theorem raise_inside {env : Env} {e₀ : Addr} {cls : String} (F : ExcRaiseFacts cls) {x : Expr} {pos : Pos} {Q : Flow → Shared → Prop} (hh : A.handled = some (.ref e₀))
    (h : wpAny (model prog w) A (eval x env) (fun v s₁ => ∃ e t ws, v = .ref e ∧ e₀ ≠ e ∧ UX s₁.heap e₀ ws ∧ ws[2]? = some .none ∧ s₁.heap.get? e = some { cls := .type cls, dict := none, data := .fields #[.ref t, .none, .none, .none, .bool false, .none], slots := #[] } ∧
      ∀ h', h'.get? e = some { cls := .type cls, dict := none, data := .fields #[.ref t, .none, .ref e₀, .none, .bool false, .none], slots := #[] } → Heap.SameBut e s₁.heap h' → E (.ref e) { s₁ with heap := h' }) E s) :
    wpAny (model prog w) A (exec (.Raise (some x) none pos) env) Q E s := by
  rw [arm_exec_Raise]
  show wpAny _ A (do standAt pos; raiseStmt env (some (do let v ← eval x env; standAt pos; pure v)) none) Q E s
  refine wpAny_bind (wpAny_standAt ?_)
  unfold raiseStmt
  refine wpAny_bind (wpAny_bind (wpAny_mono h (fun v s₁ h₁ => wpAny_bind (wpAny_standAt (wpAny_pure ?_))) fun _ _ x => x))
  obtain ⟨e, t, ws, rfl, hne, he₀, h2, he, hE⟩ := h₁
  obtain ⟨hp, g, d, tk, os⟩ := s₁
  have hsub := F.isExc
  have hmeta := F.plainMeta
  repeat (first | refine wpAny_loadPart he ?_ | wp_step)
  exact raiseNew_inside hh hne he₀ h2 he hE
end
end Mine
end
-- part: Enc6
section
open PySem PySem.W PySem.Calls PyProof.Rows
set_option maxRecDepth 100000
namespace Mine
section
variable {prog : Program} {w : World} {A₀ : Around} {E : Value → Shared → Prop} {s' : Shared} {base g h : Heap} {outer : List Env} {L a e : Addr} {m : Str → Option Value} {name : Str} {scope : Scope} {cd : Value}
  {b₀ : Stmt} {suite : List Stmt} {pos np : Pos} {rest : List ExceptHandler} {Q : Flow → Shared → Prop} {KF : Frag} {p : Program} {loose : List Str} {mean : ExcName → Option Value} {mg mb : Str → Option Value} {x : Str}
theorem uee_exc : isSubtype (.type "UnicodeEncodeError") (.type "BaseException") = pure true := by rw [isSubtype_type]; kernel_rfl
theorem uee_meta : isSubtype (.type ((Manifest.find? "UnicodeEncodeError").elim "type" fun y => y.metatype)) (.type "tuple") = pure false := by
  have e : ((Manifest.find? "UnicodeEncodeError").elim "type" fun y => y.metatype) = "type" := by decide +kernel
  rw [e, isSubtype_type]; kernel_rfl
/-- an except clause of the frame that made it takes it -/
theorem caught_uee (K : Below A₀ base outer g) (F : Fr g L h m) (U : MadeUee h s'.heap e) (XB : KF.In base) (TB : Top p loose mean mg mb base) (D : KtsDicts (outer.filterMap (·.frame)) g)
    (ex : nsIn KF mainGlobals x = some none) (hv : bootBuiltins x = some (.type "UnicodeEncodeError")) (hn' : x ≠ "__name__")
    (k : ∀ h' g' ws, KtsTurn (outer.filterMap (·.frame)) g g' → Fr g' L h' m → UX h' e ws → ws[2]? = some .none → g'.get? e = none → Below A₀ base outer g' → KF.In g' → Top p loose mean mg mb g' → KtsDicts (outer.filterMap (·.frame)) g' →
      wpAny (model prog w) ((A₀.deeper (envOf name scope L a cd)).mark (some (.ref e))) (execs (b₀ :: suite) (envOf name scope L a cd)) Q E { s' with heap := h' })
    (hk : scope.kind = .function := by rfl) (hx : (envOf name scope L a cd).kindOf x = some .globalImplicit := by rfl) (hd : (x == ("__debug__" : Str)) = false := by decide)
    (hE : PassesOwnAt (model prog w) ((A₀.deeper (envOf name scope L a cd)).mark (some (.ref e))) (A₀.deeper (envOf name scope L a cd)) (envOf name scope L a cd) E := by passes_own) :
    wpAny (model prog w) (A₀.deeper (envOf name scope L a cd)) (noteFrame (.ref e) (envOf name scope L a cd))
      (fun _ s₂ => wpAny (model prog w) (A₀.deeper (envOf name scope L a cd)) (setFlight (.ref e) none) (fun _ s₃ =>
        wpAny (model prog w) (A₀.deeper (envOf name scope L a cd)) (handleBy (.ref e) (envOf name scope L a cd) (.ExceptHandler (some (.Name x np)) none (b₀ :: suite) pos :: rest)) Q E s₃) E s₂) E s' := by
  have K' := K.push (name := name) (a := a) (cd := cd) F hk
  obtain ⟨t, um, args, hux, htn, htup⟩ := U.there
  generalize hfs : (envOf name scope L a cd :: outer).filterMap (·.frame) = fs at *
  have hin : ∀ env ∈ (envOf name scope L a cd :: outer), ∀ b, env.frame = some b → b ∈ fs := fun env he b hb => by rw [← hfs]; exact List.mem_filterMap.mpr ⟨env, he, hb⟩
  have hBG : ∀ b o, h.get? b = some o → b ∉ (envOf name scope L a cd :: outer).filterMap (·.frame) → (hideAll h fs).get? b = some o := fun b o q nm => hideAll_get _ q (by rw [← hfs]; exact nm)
  have noneB : ∀ b, h.get? b = none → (hideAll h fs).get? b = none := fun b hb => by
    cases q : (hideAll h fs).get? b with
    | none => rfl
    | some o => rw [of_hideAll _ q] at hb; cases hb
  have kB : (hideAll h fs).StaysIn s'.heap := fun b o q => U.keeps b o (of_hideAll _ q)
  have fB : s'.heap.FunFrames (hideAll h fs) (envOf name scope L a cd :: outer) := (funFrames_hide K'.frames hin).of_keeps fun b o hb _ => ⟨o, U.keeps b o hb, rfl⟩
  have hen := noneB e U.new
  refine note_first (B := hideAll h fs) (Around.frames_deeper K.stack) fB rfl hux rfl kB hen fun h₃ T oT ts k₃ f₃ u₃ hT hdT h3 hBT hTe us₃ => ?_
  refine flight_off u₃ rfl hT hdT h3 hTe fun h₄ oT₄ ts₄ u₄ hT₄ hdT₄ h3₄ sb₄ => ?_
  have k₄ : (hideAll h fs).StaysIn h₄ := fun b o q => (sb₄.2 b fun z => by rw [z, hBT] at q; cases q).trans (k₃ b o q)
  have us₄ : s'.heap.UpToSlots h₄ := fun b o q nf => by
    obtain ⟨sl, hs⟩ := us₃ b o q nf
    refine ⟨sl, (sb₄.2 b fun z => ?_).trans hs⟩
    rw [z, hT] at hs; cases hs; exact nf _ hdT
  obtain ⟨g₄, T₄, F₄, K₄⟩ := kts_ground (h₅ := h₄) K F hBG k₄ ((Heap.UpToSlots.of_keeps U.keeps).trans us₄)
  have X₄ : KF.In g₄ := XB.keeps K₄.stays
  have P₄ : TopRead p loose mg mb g₄ := topRead_of (TB.keeps K₄.stays)
  refine wpAny_handleBy_builtin (X := "UnicodeEncodeError") (T := "UnicodeEncodeError") (b := true) uee_exc uee_meta uee_new.sub (name_B F₄ X₄ P₄ ex hv hn' ⟨rfl, ⟨_, u₄, rfl⟩, ?_⟩ hk hx hd)
  rw [if_pos rfl]
  refine flight_off u₄ rfl hT₄ hdT₄ (by exact (Array.getElem?_eq_some_iff.mp h3₄).1) hTe fun h₅ oT₅ ts₅ u₅ hT₅ hdT₅ h3₅ sb₅ => ?_
  have k₅ : (hideAll h fs).StaysIn h₅ := fun b o q => (sb₅.2 b fun z => by rw [z, hBT] at q; cases q).trans (k₄ b o q)
  have us₅ : s'.heap.UpToSlots h₅ := fun b o q nf => by
    obtain ⟨sl, hs⟩ := us₄ b o q nf
    refine ⟨sl, (sb₅.2 b fun z => ?_).trans hs⟩
    rw [z, hT₄] at hs; cases hs; exact nf _ hdT₄
  obtain ⟨g₅, T₅, F₅, K₅⟩ := kts_ground (h₅ := h₅) K F hBG k₅ ((Heap.UpToSlots.of_keeps U.keeps).trans us₅)
  have ne₅ : g₅.get? e = none := T₅.none_ _ (kts_fresh F hBG hen fun o ho _ => by
    have := F.keep _ _ ho
    rw [U.new] at this; cases this)
  exact wpAny_passesOwnAt hE (k h₅ g₅ _ T₅ F₅ u₅ rfl ne₅ K₅ (XB.keeps K₅.stays) (TB.keeps K₅.stays) (D.turn T₅))
/-- an exception with a context leaves the frame that made it -/
theorem leave_inside {t e₀ : Addr} {cls : Value} {args : List Value} {Q : Unit → Shared → Prop} (K : Below A₀ base outer g) (F : Fr g L h m) (keeps : ∀ b o, h.get? b = some o → s'.heap.get? b = some o) (new : h.get? e = none)
    (he : s'.heap.get? e = some { cls := cls, dict := none, data := .fields #[.ref t, .none, .ref e₀, .none, .bool false, .none], slots := #[] }) (htn : h.get? t = none) (ht : s'.heap.TupAt t args)
    (hQ : ∀ h', RaisedS base g outer e cls t args [] h' → g.UpToSlots h' → Q () { s' with heap := h' }) (hk : scope.kind = .function := by rfl) :
    wpAny (model prog w) (A₀.deeper (envOf name scope L a cd)) (leaving (envOf name scope L a cd) (.ref e)) Q E s' := by
  have K' := K.push (name := name) (a := a) (cd := cd) F hk
  generalize hfs : (envOf name scope L a cd :: outer).filterMap (·.frame) = fs
  have hin : ∀ env ∈ (envOf name scope L a cd :: outer), ∀ b, env.frame = some b → b ∈ fs := fun env he b hb => by rw [← hfs]; exact List.mem_filterMap.mpr ⟨env, he, hb⟩
  have noneB : ∀ b, h.get? b = none → (hideAll h fs).get? b = none := fun b hb => by
    cases q : (hideAll h fs).get? b with
    | none => rfl
    | some o => rw [of_hideAll _ q] at hb; cases hb
  have kB : (hideAll h fs).StaysIn s'.heap := fun b o q => keeps b o (of_hideAll _ q)
  have fB : s'.heap.FunFrames (hideAll h fs) (envOf name scope L a cd :: outer) := (funFrames_hide K'.frames hin).of_keeps fun b o hb _ => ⟨o, keeps b o hb, rfl⟩
  refine wpAny_leaving_firstW (base := hideAll h fs) (a0 := .ref t) (Around.frames_deeper K.stack) fB rfl he kB (noneB e new) rfl rfl rfl fun h' hL => ?_
  obtain ⟨k1, ⟨_, _, k2⟩, k3, k4⟩ := hL
  have st : base.StaysIn (hideAll h fs) := fun b o q => hideAll_get _ (K'.stays b o q) fun hm => by
    rw [← hfs] at hm
    rw [(K'.frames.mem hm).1] at q; cases q
  refine hQ h' ⟨⟨hideAll h fs, st, fun b o q nm => hideAll_get _ (F.keep b o q) fun hm => ?_, fun q hq => (nomatch hq), ⟨k1, noneB e new, k2, k3⟩, noneB t htn⟩, Heap.TupAt.of_slots ht k4⟩ (((Heap.UpToSlots.of_keeps F.keep).trans (Heap.UpToSlots.of_keeps keeps)).trans k4)
  rw [← hfs] at hm
  rcases kts_mem hm with z | z
  · rw [z, kts_self F] at q; cases q
  · exact nm z
end
end Mine
end
section
open PySem PySem.W PySem.Calls PyProof.Rows
set_option maxRecDepth 100000
set_option maxHeartbeats 8000000
namespace Mine
-- part: C1
local macro_rules | `(tactic| ktr_unf) => `(tactic| ((case k1 => k_asm); (case k2 => k_asm); (case k3 => k_asm); (case k4 => k_is); (case k5 => k_is); (case k6 => (dsimp only; omega)); (case k7 => first | exact BindsTo.of_eq rfl | exact binds_K (by k_in) rfl (by k_is) rfl rfl rfl); (case k8 => exact locs rfl); (case c1 => exact rfl); (case c2 => exact rfl); (case c3 => exact rfl); (case c4 => decide); k_whole; intro L' h' F' N'; (try dsimp only); (try k_fold)))
local macro_rules | `(tactic| k_room) => `(tactic| ((try simp only [depth_under_make, depth_under_kw, depth_in1, depth_deeper, depth_caller]); (try dsimp only); omega))
local macro_rules | `(tactic| walk_at $s:str) => `(tactic| k_extra $s)
theorem rows_0 : True := by
  k_with_none
  exact trivial
theorem rows_1 : True := by
  k_with "call type:type" => ((with_reducible show wpAny _ _ (call _ [Value.bytes _ _]) _ _ _); refine call_type_of (Tx := "bytes") rfl (by decide +kernel) ?_)
  exact trivial
theorem value_told (c : Int) (t : Tok) : Told 2 63 [.int c t] [] (fun _ => True) (fun _ v => ∃ t, v = .int (b64v c) t) (fun _ => False) := by
  w_top off
  unfold Told
  k_fill
  intro w mean mg mb dp un gd outer base s Q E B XB TB D X T hd hu hpre hret hexc
  k_dflt (refine' enter (binds := [(Str.ofString "c", .int c t)]) ?k1 ?k2 ?k3 ?k4 ?k5 ?k6 ?k7 ?k8 ?_ ?c1 ?c2 ?c3 ?c4; ktr_unf)
  k_steps
  all_goals (dsimp only; k_unfold; dsimp only; refine hret _ _ _ ?_ (Fr.keep (by assumption)))
  all_goals (unfold b64v; refine ⟨_, congrArg (fun i => Value.int i _) ?_⟩; repeat' split)
  all_goals omega
theorem truth_told (b : Bool) : Told 2 56 [.bool b] [] (fun _ => True) (fun _ v => v = .bool b) (fun _ => False) := by
  w_top off
  unfold Told
  k_fill
  intro w mean mg mb dp un gd outer base s Q E B XB TB D X T hd hu hpre hret hexc
  k_dflt (refine' enter (binds := [(Str.ofString "x", .bool b)]) ?k1 ?k2 ?k3 ?k4 ?k5 ?k6 ?k7 ?k8 ?_ ?c1 ?c2 ?c3 ?c4; ktr_unf)
  cases b
  all_goals k_steps
  all_goals (dsimp only; k_unfold; dsimp only; exact hret _ _ _ rfl (Fr.keep (by assumption)))
theorem buffer_told (b : Array UInt8) (t : Tok) : Told 2 49 [.bytes b t] [] (fun _ => True) (fun _ v => v = .bytes b t) (fun _ => False) := by
  w_top off
  unfold Told
  k_fill
  intro w mean mg mb dp un gd outer base s Q E B XB TB D X T hd hu hpre hret hexc
  k_dflt (refine' enter (binds := [(Str.ofString "data", .bytes b t)]) ?k1 ?k2 ?k3 ?k4 ?k5 ?k6 ?k7 ?k8 ?_ ?c1 ?c2 ?c3 ?c4; ktr_unf)
  k_steps
  all_goals (dsimp only; k_unfold; dsimp only; exact hret _ _ _ rfl (Fr.keep (by assumption)))
theorem given_told (b : Array UInt8) (t : Tok) : Told 2 29 [.bytes b t] [] (fun _ => True) (fun _ v => v = .bytes b t) (fun _ => False) := by
  w_top off
  unfold Told
  k_fill
  intro w mean mg mb dp un gd outer base s Q E B XB TB D X T hd hu hpre hret hexc
  k_dflt (refine' enter (binds := [(Str.ofString "s", .bytes b t)]) ?k1 ?k2 ?k3 ?k4 ?k5 ?k6 ?k7 ?k8 ?_ ?c1 ?c2 ?c3 ?c4; ktr_unf)
  k_steps
  all_goals (dsimp only; k_unfold; dsimp only; exact hret _ _ _ rfl (Fr.keep (by assumption)))
-- part: Loop
structure Cst where
  us : List Value
  nn : Nat
  o : List Int
  q : Int
  tq : Tok
  l : Int
  tl : Tok
  p : Int
  tp : Tok
  i : Int
  ti : Tok
abbrev cPs (d : Addr) (c : Cst) : List (Str × Value) := [(Str.ofString "out", .ref d), (Str.ofString "quad_pos", .int c.q c.tq), (Str.ofString "leftchar", .int c.l c.tl), (Str.ofString "pads", .int c.p c.tp), (Str.ofString "i", .int c.i c.ti)]
theorem turn_end {h₀ h' : Heap} {L d : Addr} {m' m₀ : Str → Option Value} {own : List (Addr × Obj)} {ob : Obj} {s₁ : Shared} {tk : Nat} {st : Bool} {pre' o' : List Int} {us' : List Value} {nn' : Nat} {q' l' p' i' : Int} {tq' tl' tp' ti' : Tok}
    (F : Fr h₀ L h' m') (N : News h₀ L h' ((d, listOf us'.toArray nn') :: own)) (hf : IntsAre us' o')
    (e1 : m' (Str.ofString "out") = some (.ref d)) (e2 : m' (Str.ofString "quad_pos") = some (.int q' tq')) (e3 : m' (Str.ofString "leftchar") = some (.int l' tl')) (e4 : m' (Str.ofString "pads") = some (.int p' tp')) (e5 : m' (Str.ofString "i") = some (.int i' ti'))
    (hr : ∀ z, z ≠ Str.ofString "this_ch" → z ≠ Str.ofString "out" → z ≠ Str.ofString "quad_pos" → z ≠ Str.ofString "leftchar" → z ≠ Str.ofString "pads" → z ≠ Str.ofString "i" → m' z = m₀ z)
    (hp : Inv st pre' o' q' l' p' i') :
    InvEndN h₀ L (KstS (fun c : Cst => [(d, listOf c.us.toArray c.nn)]) (cPs d) (fun c => IntsAre c.us c.o) (Str.ofString "this_ch") [] m₀ (fun pre c => Inv st pre c.o c.q c.l c.p c.i) pre') own (List.map (·.1) [(d, ob)]) s₁ { s₁ with heap := h', toks := tk } := by
  refine kst_end (⟨us', nn', o', q', tq', l', tl', p', tp', i', ti'⟩ : Cst) F N (fun p hp => ?_) (fun p hp => List.Mem.tail _ hp) rfl hf (fun p hp => ?_) (fun z h1 h2 _ => ?_) hp
  · rw [List.mem_singleton.mp hp]; exact List.Mem.head _
  · simp only [List.mem_cons, List.not_mem_nil, or_false] at hp
    rcases hp with rfl | rfl | rfl | rfl | rfl
    · exact e1
    · exact e2
    · exact e3
    · exact e4
    · exact e5
  · have g := fun p hp => h2 p hp
    simp only [List.mem_cons, List.not_mem_nil, or_false, forall_eq_or_imp, forall_eq] at g
    exact hr z h1 g.1 g.2.1 g.2.2.1 g.2.2.2.1 g.2.2.2.2
theorem turn_endP {h₀ h' : Heap} {L d : Addr} {m' m₀ : Str → Option Value} {own : List (Addr × Obj)} {ob : Obj} {s₁ : Shared} {tk : Nat} {st : Bool} {pre' o : List Int} {us : List Value} {nn' : Nat} {x q' l' p' i' : Int} {tx tq' tl' tp' ti' : Tok}
    (F : Fr h₀ L h' m') (N : News h₀ L h' ((d, listOf (us.toArray.push (.int x tx)) nn') :: own)) (hf : IntsAre us o)
    (e1 : m' (Str.ofString "out") = some (.ref d)) (e2 : m' (Str.ofString "quad_pos") = some (.int q' tq')) (e3 : m' (Str.ofString "leftchar") = some (.int l' tl')) (e4 : m' (Str.ofString "pads") = some (.int p' tp')) (e5 : m' (Str.ofString "i") = some (.int i' ti'))
    (hr : ∀ z, z ≠ Str.ofString "this_ch" → z ≠ Str.ofString "out" → z ≠ Str.ofString "quad_pos" → z ≠ Str.ofString "leftchar" → z ≠ Str.ofString "pads" → z ≠ Str.ofString "i" → m' z = m₀ z)
    (hp : Inv st pre' (o ++ [x]) q' l' p' i') :
    InvEndN h₀ L (KstS (fun c : Cst => [(d, listOf c.us.toArray c.nn)]) (cPs d) (fun c => IntsAre c.us c.o) (Str.ofString "this_ch") [] m₀ (fun pre c => Inv st pre c.o c.q c.l c.p c.i) pre') own (List.map (·.1) [(d, ob)]) s₁ { s₁ with heap := h', toks := tk } := by
  rw [List.push_toArray] at N
  exact turn_end F N (IntsAre.append hf (.cons _ _ .nil)) e1 e2 e3 e4 e5 hr hp
theorem raisedS_nil {base G : Heap} {l : List Env} {e : Addr} {cls : Value} {t : Addr} {vs : List Value} {news : List (Addr × Obj)} {h : Heap} (R : RaisedS base G l e cls t vs news h) : RaisedS base G l e cls t vs [] h := by
  obtain ⟨⟨B, hB, hBG, hl, hfl, hnew⟩, htup⟩ := R
  exact ⟨⟨B, hB, hBG, fun _ hq => absurd hq List.not_mem_nil, hfl, hnew⟩, htup⟩
-- part: C2
local macro_rules | `(tactic| ktr_rel) => `(tactic| ((case b => k_asm); (case f => k_asm); (case n => k_asm); (case xb => assumption); (case tb => assumption); (case d => assumption); (case k => exact rfl); (case hd => ((try simp only [depth_in1, depth_deeper, depth_caller]); (try dsimp only); omega)); (case hu => ((have hcL9 := cLine_is); (try simp only [units_in1, units_deeper, Around.mark_units, units_caller]); (try dsimp only); omega))))
local macro_rules | `(tactic| walk_at "call ref") => `(tactic| (k_here; (with_reducible show wpAny _ _ (call (Value.ref 63) [Value.int _ _]) _ _ _); k_dflt (refine' told_use0 (value_told _ _) ?b ?f ?n ?xb ?tb ?d ?k ?hd ?hu ?p ?_; ktr_rel; (case p => trivial); k_whole); intro v9 h9 tk9 hv9 F9 N9 S9; obtain ⟨t9, hv9⟩ := hv9; subst hv9; (have hb9 := b64v_in); (try dsimp only); (try k_sweep)))
local macro_rules | `(tactic| walk_at "call ref") => `(tactic| (k_here; (with_reducible show wpAny _ _ (call (Value.ref 56) [Value.bool _]) _ _ _); k_dflt (refine' told_use0 (truth_told _) ?b ?f ?n ?xb ?tb ?d ?k ?hd ?hu ?p ?_; ktr_rel; (case p => trivial); k_whole); intro v9 h9 tk9 hv9 F9 N9 S9; subst hv9; (try dsimp only); (try k_sweep)))
local macro_rules | `(tactic| walk_at "call ref") => `(tactic| (k_here; (with_reducible show wpAny _ _ (call (Value.ref 49) [Value.bytes _ _]) _ _ _); k_dflt (refine' told_use0 (buffer_told _ _) ?b ?f ?n ?xb ?tb ?d ?k ?hd ?hu ?p ?_; ktr_rel; (case p => trivial); k_whole); intro v9 h9 tk9 hv9 F9 N9 S9; subst hv9; (try dsimp only); (try k_sweep)))
local macro_rules | `(tactic| walk_at "exec For Name Name cons nil") => `(tactic| (k_here; (rename Fr _ _ _ _ => lF'); (with_unfolding_all refine' For_invVF lF' ?k1 ?k2 ?_; (case k1 => exact rfl); (case k2 => exact rfl); k_whole)))
theorem rows_2 : True := by
  k_with "binaryOp Mod str int" => (k_here; (with_reducible refine fmt_bad (by exact chars_lo _) (by exact chars_hi (by omega)) ?_); intro x9 t9 k9; (try dsimp only))
  exact trivial
theorem a2b_told (ks : List Int) (b : Array UInt8) (hb : KBw.bInts b = ks) (hl : ks.length ≤ 100) (t : Tok) (st : Bool) : Told 4 71 [.bytes b t] [(Str.ofString "strict_mode", .bool st)] (fun _ => True) (fun _ v => ∃ o t, decode st ks = some o ∧ v = .bytes (byteArr o) t) (fun c => c = .ref 39 ∧ decode st ks = none) := by
  w_top off
  unfold Told
  k_fill
  intro w mean mg mb dp un gd outer base s Q E B XB TB D X T hd hu hpre hret hexc
  k_dflt (refine' enter (binds := [(Str.ofString "data", .bytes b t), (Str.ofString "strict_mode", .bool st)]) ?k1 ?k2 ?k3 ?k4 ?k5 ?k6 ?k7 ?k8 ?_ ?c1 ?c2 ?c3 ?c4; ktr_unf)
  iterate 51 (any_goals (first | (k_unfold; (try dsimp only)) | (k_end; wrow_close) | walk1 | (dsimp only; walk1) | (leave1; walk_say "STEP leave1"; try dsimp only)))
  with_reducible rename Fr _ _ _ _ => lF
  with_reducible rename News _ _ _ _ => lN
  rename_i d _ _ _ _ _ _ _
  with_unfolding_all refine' KStb.kst_bytes (σ := Cst) (fun c => [(d, listOf c.us.toArray c.nn)]) (cPs d) (fun c => IntsAre c.us c.o) [] (fun pre c => Inv st pre c.o c.q c.l c.p c.i) ⟨[], 0, [], 0, _, 0, _, 0, _, 0, _⟩ hb rfl rfl lF lN .nil ?hk ?hp ?_ ?_
  case hk => (intro p hp; simp only [List.mem_cons, List.not_mem_nil, or_false] at hp; rcases hp with rfl | rfl | rfl | rfl | rfl <;> rfl)
  case hp => exact Inv.start st
  all_goals clear lF lN
  · rintro ⟨us, nn, o, q, tq, l, tl, p, tp, i, ti⟩ pre post n tn u h tk own hks hlen hn0 hn1 hoff hfacts hinv F N
    dsimp only [List.cons_append, List.nil_append] at hfacts hinv N
    dsimp only [kstB, cPs] at F
    simp only [List.contains_nil, Bool.false_eq_true, if_false] at F
    have hinv' := hinv
    obtain ⟨hm, hq0, hq3, hl0, hl1, hp0, hp1, ho, hi0, hi1, h2, h3, hob⟩ := hinv
    have hlo := IntsAre.length hfacts
    show wpAny _ _ _ _ _ _
    k_fold
    k_steps
    all_goals first
      | (refine turn_end (by assumption) (by assumption) hfacts rfl rfl rfl rfl rfl (fun z z1 z2 z3 z4 z5 z6 => by simp only [z1, z2, z3, z4, z5, z6, if_false]) ?_
         first
          | exact hinv'.pad (by assumption) (by first | exact .inl (by assumption) | exact .inr ⟨by omega, by omega⟩)
          | exact hinv'.skip (by assumption) (by assumption) (by assumption)
          | exact hinv'.q0 (by assumption) (by assumption) (by first | exact .inl (by assumption) | exact .inr (by assumption)) (by assumption))
      | (refine turn_endP (by assumption) (by assumption) hfacts rfl rfl rfl rfl rfl (fun z z1 z2 z3 z4 z5 z6 => by simp only [z1, z2, z3, z4, z5, z6, if_false]) ?_
         first
          | exact hinv'.q1 (by assumption) (by assumption) (by first | exact .inl (by assumption) | exact .inr (by assumption)) (by assumption)
          | exact hinv'.q2 (by assumption) (by assumption) (by first | exact .inl (by assumption) | exact .inr (by assumption)) (by assumption)
          | exact hinv'.q3 (by assumption) (by assumption) (by first | exact .inl (by assumption) | exact .inr (by assumption)) (by assumption) (by assumption) (by assumption))
      | exact hexc _ _ _ _ _ _ ⟨rfl, by first
          | exact decode_pad hks hinv' (by assumption) (by assumption) (by omega)
          | exact decode_bad hks hinv' (by assumption) (by assumption) (by assumption)
          | exact decode_late hks hinv' (by assumption) (by assumption) (by assumption) (by assumption)⟩ (raisedS_nil (by assumption)) (by assumption)
  · rintro ⟨us, nn, o, q, tq, l, tl, p, tp, i, ti⟩ u h tk hlen hfacts hinv F N
    dsimp only at hfacts hinv N
    dsimp only [kstB, cPs] at F
    simp only [List.contains_nil, Bool.false_eq_true, if_false] at F
    have hinv' := hinv
    obtain ⟨hm, hq0, hq3, hl0, hl1, hp0, hp1, ho, hi0, hi1, h2, h3, hob⟩ := hinv
    have hlo := IntsAre.length hfacts
    dsimp only
    k_steps
    all_goals first
      | exact hexc _ _ _ _ _ _ ⟨rfl, by first | exact decode_one hinv' (by assumption) | exact decode_short hinv' (by assumption) (by assumption)⟩ (raisedS_nil (by assumption)) (by assumption)
      | exact hret _ _ _ ⟨_, _, decode_some hinv' (by assumption) (by first | exact .inl (by assumption) | exact .inr (by assumption)), rfl⟩ (Fr.keep (by assumption))
-- part: C3
local macro_rules | `(tactic| walk_at "call ref") => `(tactic| (k_here; (with_reducible show wpAny _ _ (call (Value.ref 29) [_]) _ _ _); k_dflt (refine' told_use (f := 29) ?cc ?b ?f ?n ?xb ?tb ?d ?k ?hd ?hu ?p ?_ ?_; (case cc => assumption); ktr_rel; (case p => trivial)); (all_goals (first | ((with_reducible show ∀ (v : Value) (h' : Heap) (tk' : Nat), _ → _ → _ → _ → _); intro v9 h9 tk9 hv9 F9 N9 S9; obtain ⟨t9, hv9, ok9⟩ := hv9; subst hv9; (try dsimp only); (try k_sweep)) | (intro e9 cls9 t9 vs9 h9 tk9 hx9 R9 U9; (try dsimp only))))))
local macro_rules | `(tactic| walk_at "call ref cons") => `(tactic| (k_here; (with_reducible show wpAny _ _ (call (Value.ref 71) [Value.bytes _ _] _) _ _ _); k_dflt (refine' told_use (a2b_told _ _ rfl ?len _ _) ?b ?f ?n ?xb ?tb ?d ?k ?hd ?hu ?p ?_ ?_; (case len => first | assumption | (rw [KBw.ints_length]; first | assumption | (rw [through_size]; assumption))); ktr_rel; (case p => trivial)); (all_goals (first | ((with_reducible show ∀ (v : Value) (h' : Heap) (tk' : Nat), _ → _ → _ → _ → _); intro v9 h9 tk9 hv9 F9 N9 S9; obtain ⟨o9, t9, hv9, ok9⟩ := hv9; subst ok9; (try dsimp only); (try k_sweep)) | (intro e9 cls9 t9 vs9 h9 tk9 hx9 R9 U9; (try dsimp only))))))
local macro_rules | `(tactic| walk_at "getMethod type:bytes") => `(tactic| (k_here; refine' method_type ?F ?X ?m (by decide +kernel) ?e ?h ?_; (case F => k_asm); (case X => k_asm); (case m => (first | rfl | kernel_rfl)); (case e => k_dflt k_is); (case h => k_handed)))
theorem rows_3 : True := by
  k_with "call builtin:bytes.maketrans" => (k_here; (refine call_mk (by first | assumption | rfl) ?_); intro t9 k9; (try dsimp only))
  exact trivial
theorem rows_4 : True := by
  k_with "getMethod bytes" => (k_here; (with_reducible refine method_tr ?_))
  exact trivial
theorem rows_5 : True := by
  k_with "call builtin:bytes.translate" => (k_here; (refine call_tr (tableOf_size _ _) (by first | assumption | omega) ?_); intro t9 k9; (try dsimp only))
  exact trivial
theorem told_mono {r r' : Nat} {f : Addr} {args : List Value} {kw : List (Str × Value)} {Pre : Heap → Prop} {P P' : Heap → Value → Prop} {X X' : Value → Prop} (C : Told r f args kw Pre P X) (hr : r ≤ r') (hP : ∀ h v, P h v → P' h v) (hX : ∀ c, X c → X' c) : Told r' f args kw Pre P' X' :=
  fun w mean mg mb dp un gd outer base s Q E B XB TB D X T hd hu hpre hret hexc =>
    C w mean mg mb dp un gd outer base s Q E B XB TB D X T (by omega) (by omega) hpre (fun v h' tk' hv hs => hret v h' tk' (hP _ _ hv) hs) (fun e cls t vs h' tk' hx R U => hexc e cls t vs h' tk' (hX _ hx) R U)
theorem given_bytes (b : Array UInt8) (t : Tok) : Told 3 29 [.bytes b t] [] (fun _ => True) (fun _ v => ∃ t, v = .bytes b t ∧ True) (fun c => c = .type "ValueError" ∧ ¬ True) :=
  told_mono (given_told b t) (by omega) (fun _ _ h => ⟨t, h, trivial⟩) (fun _ h => h.elim)
theorem x_val {c : Value} {ok D : Prop} (h : c = .type "ValueError" ∧ ¬ ok) : (c = .type "ValueError" ∨ c = .ref 39) ∧ (ok → D) := ⟨.inl h.1, fun k => absurd k h.2⟩
theorem x_err {c : Value} {ok D : Prop} (h : c = .ref 39 ∧ D) : (c = .type "ValueError" ∨ c = .ref 39) ∧ (ok → D) := ⟨.inr h.1, fun _ => h.2⟩
theorem x_never {c : Value} (h : c = .type "ValueError" ∧ ¬ True) : False := h.2 trivial
theorem dec_none (gv : Value) (b : Array UInt8) (ok : Prop) (hb : b.size ≤ 100) (C : Told 3 29 [gv] [] (fun _ => True) (fun _ v => ∃ t, v = .bytes b t ∧ ok) (fun c => c = .type "ValueError" ∧ ¬ ok)) (st : Bool) :
    Told 6 79 [gv, .none, .bool st] [] (fun _ => True) (fun _ v => ∃ o t, ok ∧ decode st (KBw.bInts b) = some o ∧ v = .bytes (byteArr o) t) (fun c => (c = .type "ValueError" ∨ c = .ref 39) ∧ (ok → decode st (KBw.bInts b) = none)) := by
  w_top off
  unfold Told
  k_fill
  intro w mean mg mb dp un gd outer base s Q E B XB TB D X T hd hu hpre hret hexc
  k_dflt (refine' enter (binds := [(Str.ofString "s", gv), (Str.ofString "altchars", .none), (Str.ofString "validate", .bool st)]) ?k1 ?k2 ?k3 ?k4 ?k5 ?k6 ?k7 ?k8 ?_ ?c1 ?c2 ?c3 ?c4; ktr_unf)
  k_steps
  all_goals first
    | exact hret _ _ _ ⟨_, _, by assumption, by assumption, rfl⟩ (Fr.keep (by assumption))
    | exact hexc _ _ _ _ _ _ (x_val (by assumption)) (by assumption) (by assumption)
    | exact hexc _ _ _ _ _ _ (x_err (by assumption)) (by assumption) (by assumption)
theorem dec_altB (gv : Value) (aa : Array UInt8) (ta : Tok) (b ab : Array UInt8) (ok : Prop) (hb : b.size ≤ 100) (hab : ab.size = 2) (C : Told 3 29 [gv] [] (fun _ => True) (fun _ v => ∃ t, v = .bytes b t ∧ ok) (fun c => c = .type "ValueError" ∧ ¬ ok))
    (C' : Told 3 29 [(.bytes aa ta)] [] (fun _ => True) (fun _ v => ∃ t, v = .bytes ab t ∧ True) (fun c => c = .type "ValueError" ∧ ¬ True)) (st : Bool) :
    Told 6 79 [gv, (.bytes aa ta), .bool st] [] (fun _ => True) (fun _ v => ∃ o t, ok ∧ decode st (KBw.bInts (through (tableOf ab #[43, 47]) b)) = some o ∧ v = .bytes (byteArr o) t) (fun c => (c = .type "ValueError" ∨ c = .ref 39) ∧ (ok → decode st (KBw.bInts (through (tableOf ab #[43, 47]) b)) = none)) := by
  w_top off
  unfold Told
  k_fill
  intro w mean mg mb dp un gd outer base s Q E B XB TB D X T hd hu hpre hret hexc
  k_dflt (refine' enter (binds := [(Str.ofString "s", gv), (Str.ofString "altchars", (.bytes aa ta)), (Str.ofString "validate", .bool st)]) ?k1 ?k2 ?k3 ?k4 ?k5 ?k6 ?k7 ?k8 ?_ ?c1 ?c2 ?c3 ?c4; ktr_unf)
  have hlen : (KBw.bInts ab).length = 2 := by rw [KBw.ints_length]; exact hab
  k_steps
  all_goals first
    | exact hret _ _ _ ⟨_, _, by assumption, by assumption, rfl⟩ (Fr.keep (by assumption))
    | exact hexc _ _ _ _ _ _ (x_val (by assumption)) (by assumption) (by assumption)
    | exact hexc _ _ _ _ _ _ (x_err (by assumption)) (by assumption) (by assumption)
    | exact (x_never (by assumption)).elim
    | (exfalso; omega)
theorem dec_altS (gv : Value) (aa : Str) (ta : Tok) (b ab : Array UInt8) (ok : Prop) (hb : b.size ≤ 100) (hab : ab.size = 2) (C : Told 3 29 [gv] [] (fun _ => True) (fun _ v => ∃ t, v = .bytes b t ∧ ok) (fun c => c = .type "ValueError" ∧ ¬ ok))
    (C' : Told 3 29 [(.str aa ta)] [] (fun _ => True) (fun _ v => ∃ t, v = .bytes ab t ∧ True) (fun c => c = .type "ValueError" ∧ ¬ True)) (st : Bool) :
    Told 6 79 [gv, (.str aa ta), .bool st] [] (fun _ => True) (fun _ v => ∃ o t, ok ∧ decode st (KBw.bInts (through (tableOf ab #[43, 47]) b)) = some o ∧ v = .bytes (byteArr o) t) (fun c => (c = .type "ValueError" ∨ c = .ref 39) ∧ (ok → decode st (KBw.bInts (through (tableOf ab #[43, 47]) b)) = none)) := by
  w_top off
  unfold Told
  k_fill
  intro w mean mg mb dp un gd outer base s Q E B XB TB D X T hd hu hpre hret hexc
  k_dflt (refine' enter (binds := [(Str.ofString "s", gv), (Str.ofString "altchars", (.str aa ta)), (Str.ofString "validate", .bool st)]) ?k1 ?k2 ?k3 ?k4 ?k5 ?k6 ?k7 ?k8 ?_ ?c1 ?c2 ?c3 ?c4; ktr_unf)
  have hlen : (KBw.bInts ab).length = 2 := by rw [KBw.ints_length]; exact hab
  k_steps
  all_goals first
    | exact hret _ _ _ ⟨_, _, by assumption, by assumption, rfl⟩ (Fr.keep (by assumption))
    | exact hexc _ _ _ _ _ _ (x_val (by assumption)) (by assumption) (by assumption)
    | exact hexc _ _ _ _ _ _ (x_err (by assumption)) (by assumption) (by assumption)
    | exact (x_never (by assumption)).elim
    | (exfalso; omega)
-- part: C4
local macro_rules | `(tactic| walk_at "call ref") => `(tactic| (k_here; (with_reducible show wpAny _ _ (call (Value.ref 79) [_, _, _]) _ _ _); k_dflt (refine' told_use (f := 79) ?cc ?b ?f ?n ?xb ?tb ?d ?k ?hd ?hu ?p ?_ ?_; (case cc => assumption); ktr_rel; (case p => trivial)); (all_goals (first | ((with_reducible show ∀ (v : Value) (h' : Heap) (tk' : Nat), _ → _ → _ → _ → _); intro v9 h9 tk9 hv9 F9 N9 S9; obtain ⟨o9, t9, hv9, ok9⟩ := hv9; subst ok9; (try dsimp only); (try k_sweep)) | (intro e9 cls9 t9 vs9 h9 tk9 hx9 R9 U9; obtain ⟨hc9, hx9⟩ := hx9; rcases hc9 with hc9 | hc9; all_goals (subst hc9; (try dsimp only)))))))
theorem told_says (gv av : Value) (st : Bool) (res : Option (List Int)) (C : Told 6 79 [gv, av, .bool st] [] (fun _ => True) (fun _ v => ∃ o t, res = some o ∧ v = .bytes (byteArr o) t) (fun c => (c = .type "ValueError" ∨ c = .ref 39) ∧ res = none)) :
    Says 8 135 [gv, av, .bool st] (fun v => (∃ o t, res = some o ∧ v = .bytes (byteArr o) t) ∨ (res = none ∧ v = .none)) := by
  w_top off
  unfold Says
  k_fill
  intro w mean mg mb dp un gd outer base s Q E B XB TB D X T hd hu hret
  k_dflt (refine' enter (binds := [(Str.ofString "given", gv), (Str.ofString "altchars", av), (Str.ofString "strict", .bool st)]) ?k1 ?k2 ?k3 ?k4 ?k5 ?k6 ?k7 ?k8 ?_ ?c1 ?c2 ?c3 ?c4; ktr_unf)
  k_steps
  all_goals (repeat (first | k_unfold | dsimp only))
  all_goals first
    | exact hret _ _ _ (.inl ⟨_, _, by assumption, rfl⟩) (Turned.of_keep (Fr.keep (by assumption)))
    | exact hret _ _ _ (.inr ⟨by assumption, rfl⟩) (Turned.of_turn (by assumption) (Fr.keep (by assumption)))
-- part: C5
theorem ctoi_told (c : Int) (t : Tok) : Told 2 86 [.int c t] [] (fun _ => True) (fun _ v => v = .int c t) (fun _ => False) := by
  w_top off
  unfold Told
  k_fill
  intro w mean mg mb dp un gd outer base s Q E B XB TB D X T hd hu hpre hret hexc
  k_dflt (refine' enter (binds := [(Str.ofString "c", .int c t)]) ?k1 ?k2 ?k3 ?k4 ?k5 ?k6 ?k7 ?k8 ?_ ?c1 ?c2 ?c3 ?c4; ktr_unf)
  k_steps
  all_goals (repeat (first | k_unfold | dsimp only))
  all_goals (exact hret _ _ _ rfl (Fr.keep (by assumption)))
local macro_rules | `(tactic| walk_at "call ref") => `(tactic| (k_here; (with_reducible show wpAny _ _ (call (Value.ref 86) [Value.int _ _]) _ _ _); k_dflt (refine' told_use0 (ctoi_told _ _) ?b ?f ?n ?xb ?tb ?d ?k ?hd ?hu ?p ?_; ktr_rel; (case p => trivial); k_whole); intro v9 h9 tk9 hv9 F9 N9 S9; first | (obtain ⟨t9, hv9⟩ := hv9; subst hv9; (try dsimp only); (try k_sweep)) | (subst hv9; (try dsimp only); (try k_sweep))))
theorem ascii_told (c : Int) (t : Tok) : Told 3 93 [.int c t] [] (fun _ => True) (fun _ v => v = .bool (decide (0 ≤ c ∧ c ≤ 127))) (fun _ => False) := by
  w_top off
  unfold Told
  k_fill
  intro w mean mg mb dp un gd outer base s Q E B XB TB D X T hd hu hpre hret hexc
  k_dflt (refine' enter (binds := [(Str.ofString "c", .int c t)]) ?k1 ?k2 ?k3 ?k4 ?k5 ?k6 ?k7 ?k8 ?_ ?c1 ?c2 ?c3 ?c4; ktr_unf)
  k_steps
  all_goals (repeat (first | k_unfold | dsimp only))
  all_goals (refine hret _ _ _ ?_ (Fr.keep (by assumption)))
  all_goals (first | rfl | (refine congrArg Value.bool ?_; simp only [*]; first | rfl | (simp; done) | (simp; omega)))
theorem digit_told (c : Int) (t : Tok) : Told 3 100 [.int c t] [] (fun _ => True) (fun _ v => v = .bool (decide (48 ≤ c ∧ c ≤ 57))) (fun _ => False) := by
  w_top off
  unfold Told
  k_fill
  intro w mean mg mb dp un gd outer base s Q E B XB TB D X T hd hu hpre hret hexc
  k_dflt (refine' enter (binds := [(Str.ofString "c", .int c t)]) ?k1 ?k2 ?k3 ?k4 ?k5 ?k6 ?k7 ?k8 ?_ ?c1 ?c2 ?c3 ?c4; ktr_unf)
  k_steps
  all_goals (repeat (first | k_unfold | dsimp only))
  all_goals (refine hret _ _ _ ?_ (Fr.keep (by assumption)))
  all_goals (first | rfl | (refine congrArg Value.bool ?_; simp only [*]; first | rfl | (simp; done) | (simp; omega)))
theorem lower_told (c : Int) (t : Tok) : Told 3 107 [.int c t] [] (fun _ => True) (fun _ v => v = .bool (decide (97 ≤ c ∧ c ≤ 122))) (fun _ => False) := by
  w_top off
  unfold Told
  k_fill
  intro w mean mg mb dp un gd outer base s Q E B XB TB D X T hd hu hpre hret hexc
  k_dflt (refine' enter (binds := [(Str.ofString "c", .int c t)]) ?k1 ?k2 ?k3 ?k4 ?k5 ?k6 ?k7 ?k8 ?_ ?c1 ?c2 ?c3 ?c4; ktr_unf)
  k_steps
  all_goals (repeat (first | k_unfold | dsimp only))
  all_goals (refine hret _ _ _ ?_ (Fr.keep (by assumption)))
  all_goals (first | rfl | (refine congrArg Value.bool ?_; simp only [*]; first | rfl | (simp; done) | (simp; omega)))
theorem upper_told (c : Int) (t : Tok) : Told 3 114 [.int c t] [] (fun _ => True) (fun _ v => v = .bool (decide (65 ≤ c ∧ c ≤ 90))) (fun _ => False) := by
  w_top off
  unfold Told
  k_fill
  intro w mean mg mb dp un gd outer base s Q E B XB TB D X T hd hu hpre hret hexc
  k_dflt (refine' enter (binds := [(Str.ofString "c", .int c t)]) ?k1 ?k2 ?k3 ?k4 ?k5 ?k6 ?k7 ?k8 ?_ ?c1 ?c2 ?c3 ?c4; ktr_unf)
  k_steps
  all_goals (repeat (first | k_unfold | dsimp only))
  all_goals (refine hret _ _ _ ?_ (Fr.keep (by assumption)))
  all_goals (first | rfl | (refine congrArg Value.bool ?_; simp only [*]; first | rfl | (simp; done) | (simp; omega)))
theorem ctrl_told (c : Int) (t : Tok) : Told 3 121 [.int c t] [] (fun _ => True) (fun _ v => ∃ t, v = .int (c % 32) t) (fun _ => False) := by
  w_top off
  unfold Told
  k_fill
  intro w mean mg mb dp un gd outer base s Q E B XB TB D X T hd hu hpre hret hexc
  k_dflt (refine' enter (binds := [(Str.ofString "c", .int c t)]) ?k1 ?k2 ?k3 ?k4 ?k5 ?k6 ?k7 ?k8 ?_ ?c1 ?c2 ?c3 ?c4; ktr_unf)
  k_steps
  all_goals (repeat (first | k_unfold | dsimp only))
  all_goals (refine hret _ _ _ ⟨_, congrArg (fun i => Value.int i _) (bitAnd_m5 c)⟩ (Fr.keep (by assumption)))
local macro_rules | `(tactic| walk_at "call ref") => `(tactic| (k_here; (with_reducible show wpAny _ _ (call (Value.ref 93) [Value.int _ _]) _ _ _); k_dflt (refine' told_use0 (ascii_told _ _) ?b ?f ?n ?xb ?tb ?d ?k ?hd ?hu ?p ?_; ktr_rel; (case p => trivial); k_whole); intro v9 h9 tk9 hv9 F9 N9 S9; first | (obtain ⟨t9, hv9⟩ := hv9; subst hv9; (try dsimp only); (try k_sweep)) | (subst hv9; (try dsimp only); (try k_sweep))))
local macro_rules | `(tactic| walk_at "call ref") => `(tactic| (k_here; (with_reducible show wpAny _ _ (call (Value.ref 100) [Value.int _ _]) _ _ _); k_dflt (refine' told_use0 (digit_told _ _) ?b ?f ?n ?xb ?tb ?d ?k ?hd ?hu ?p ?_; ktr_rel; (case p => trivial); k_whole); intro v9 h9 tk9 hv9 F9 N9 S9; first | (obtain ⟨t9, hv9⟩ := hv9; subst hv9; (try dsimp only); (try k_sweep)) | (subst hv9; (try dsimp only); (try k_sweep))))
local macro_rules | `(tactic| walk_at "call ref") => `(tactic| (k_here; (with_reducible show wpAny _ _ (call (Value.ref 107) [Value.int _ _]) _ _ _); k_dflt (refine' told_use0 (lower_told _ _) ?b ?f ?n ?xb ?tb ?d ?k ?hd ?hu ?p ?_; ktr_rel; (case p => trivial); k_whole); intro v9 h9 tk9 hv9 F9 N9 S9; first | (obtain ⟨t9, hv9⟩ := hv9; subst hv9; (try dsimp only); (try k_sweep)) | (subst hv9; (try dsimp only); (try k_sweep))))
local macro_rules | `(tactic| walk_at "call ref") => `(tactic| (k_here; (with_reducible show wpAny _ _ (call (Value.ref 114) [Value.int _ _]) _ _ _); k_dflt (refine' told_use0 (upper_told _ _) ?b ?f ?n ?xb ?tb ?d ?k ?hd ?hu ?p ?_; ktr_rel; (case p => trivial); k_whole); intro v9 h9 tk9 hv9 F9 N9 S9; first | (obtain ⟨t9, hv9⟩ := hv9; subst hv9; (try dsimp only); (try k_sweep)) | (subst hv9; (try dsimp only); (try k_sweep))))
local macro_rules | `(tactic| walk_at "call ref") => `(tactic| (k_here; (with_reducible show wpAny _ _ (call (Value.ref 121) [Value.int _ _]) _ _ _); k_dflt (refine' told_use0 (ctrl_told _ _) ?b ?f ?n ?xb ?tb ?d ?k ?hd ?hu ?p ?_; ktr_rel; (case p => trivial); k_whole); intro v9 h9 tk9 hv9 F9 N9 S9; first | (obtain ⟨t9, hv9⟩ := hv9; subst hv9; (try dsimp only); (try k_sweep)) | (subst hv9; (try dsimp only); (try k_sweep))))
theorem rows_6 : True := by
  k_with "compareOp In int ref" => (k_here; refine in_list_ints (by first | exact Fr.lst (by assumption) (by assumption) | exact News.isList (by assumption) (by k_mem)) (by first | assumption | exact .cons _ _ (.cons _ _ .nil)) ?_)
  exact trivial
theorem rows_7 : True := by
  k_with "call builtin:list.index" => (k_here; refine index_short (by first | exact Fr.lst (by assumption) (by assumption) | exact News.isList (by assumption) (by k_mem)) (by first | assumption | exact .cons _ _ (.cons _ _ .nil)) (by exact Nat.le_of_ble_eq_true rfl) (by assumption) ?_)
  exact trivial
theorem index_meth {l : Addr} {its : Array Value} {n : Nat} {prog : Program} {w : World} {A : Around} {E : Value → Shared → Prop} {s : Shared} {h₀ : Heap} {L : Addr} {m : Str → Option Value} {pl : Sem Bool} {Q : Value × List Value → Shared → Prop} (F : Fr h₀ L s.heap m) (hl : h₀.get? l = some (listOf its n))
    (h : Q (.builtin "list.index", [.ref l]) s) : wpAny (model prog w) A (getMethod (.ref l) (Str.ofString "index") pl) Q E s :=
  getMethod_builtin ⟨_, F.keep _ _ hl, rfl⟩ PySem.F.plainAttrs_list PySem.F.slot_list_index PySem.F.type_list_index (fun a e => by cases e; exact ⟨_, F.keep _ _ hl, rfl⟩) h
theorem rows_8 : True := by
  k_with "getMethod ref" => (k_here; (with_reducible show wpAny _ _ (getMethod (Value.ref _) (PySem.Str.ofString "index") _) _ _ _); k_dflt (refine index_meth (by assumption) (by assumption) ?_))
  exact trivial
theorem figure_told (c x y : Int) (t u v : Tok) (l : Addr) : Told 6 128 [.int c t, .ref l] [] (fun h => ∃ n, h.get? l = some (listOf [Value.int x u, Value.int y v].toArray n)) (fun _ w => ∃ t, w = .int (fig x y c) t) (fun _ => False) := by
  w_top off
  unfold Told
  k_fill
  intro w mean mg mb dp un gd outer base s Q E B XB TB D X T hd hu hpre hret hexc
  k_dflt (refine' enter (binds := [(Str.ofString "code", .int c t), (Str.ofString "pair", .ref l)]) ?k1 ?k2 ?k3 ?k4 ?k5 ?k6 ?k7 ?k8 ?_ ?c1 ?c2 ?c3 ?c4; ktr_unf)
  obtain ⟨nL, hL⟩ := hpre
  have hlist : s.heap.IsList l [Value.int x u, Value.int y v].toArray := ⟨_, hL, rfl, nL, rfl⟩
  have hints : IntsAre [Value.int x u, Value.int y v] [x, y] := .cons _ _ (.cons _ _ .nil)
  k_steps
  all_goals (repeat (first | k_unfold | dsimp only))
  all_goals (refine hret _ _ _ ⟨_, congrArg (fun i => Value.int i _) ?_⟩ (Fr.keep (by assumption)))
  all_goals (simp only [List.any_cons, List.any_nil, Bool.or_false, Bool.or_eq_true, Bool.or_eq_false_iff, beq_iff_eq, beq_eq_false_iff_ne, ne_eq] at *)
  all_goals (unfold fig)
  · rw [if_pos (by assumption)]
  · rw [if_neg (by assumption), if_pos (by assumption)]
  · rw [if_neg (by assumption), if_neg (by assumption), if_pos (by assumption)]
  · rw [if_neg (by assumption), if_neg (by assumption), if_neg (by assumption)]
    by_cases e : c = x
    · rw [if_pos e, List.idxOf_cons, e]; simp
    · rename x = c ∨ y = c => hor
      have e2 : c = y := by rcases hor with h | h; exact absurd h.symm e; exact h.symm
      rw [if_neg e, if_pos e2, List.idxOf_cons, List.idxOf_cons, show (x == c) = false from by simpa using fun h => e h.symm, show (y == c) = true from by simpa using e2.symm]
      rfl
  · rename ¬x = c ∧ ¬y = c => hno
    rw [if_neg (by assumption), if_neg (by assumption), if_neg (by assumption), if_neg (fun h => hno.1 h.symm), if_neg (fun h => hno.2 h.symm)]
    rename 43 = c ∨ 47 = c => hor
    rcases hor with rfl | rfl
    · rfl
    · rfl
  · rename ¬x = c ∧ ¬y = c => hno
    rename ¬43 = c ∧ ¬47 = c => hno'
    rw [if_neg (by assumption), if_neg (by assumption), if_neg (by assumption), if_neg (fun h => hno.1 h.symm), if_neg (fun h => hno.2 h.symm), if_neg (fun h => hno'.1 h.symm), if_neg (fun h => hno'.2 h.symm)]
-- part: G1
theorem rows_9 : True := by
  k_with "getMethod str" => (k_here; (with_reducible show wpAny _ _ (getMethod (Value.str _ _) (PySem.Str.ofString "encode") _) _ _ _); k_dflt (refine method_enc ?_))
  exact trivial
theorem rows_10 : True := by
  k_with "call builtin:str.encode" => (k_here; (with_reducible show wpAny _ _ (call (Value.builtin "str.encode") [Value.str _ _, Value.str _ _]) _ _ _); k_dflt (refine call_enc_ok (by assumption) (by assumption) ?_); intro t9 k9; (try dsimp only))
  exact trivial
theorem str_ok (x : Str) (tx : Tok) (hlen : x.length ≤ 1000) (hasc : ∀ c ∈ x.cps, c < 128) : Told 3 29 [.str x tx] [] (fun _ => True) (fun _ v => ∃ t, v = .bytes (x.cps.map fun c => c.toUInt8) t ∧ True) (fun c => c = .type "ValueError" ∧ ¬ True) := by
  w_top off
  unfold Told
  k_fill
  intro w mean mg mb dp un gd outer base s Q E B XB TB D X T hd hu hpre hret hexc
  k_dflt (refine' enter (binds := [(Str.ofString "s", .str x tx)]) ?k1 ?k2 ?k3 ?k4 ?k5 ?k6 ?k7 ?k8 ?_ ?c1 ?c2 ?c3 ?c4; ktr_unf)
  k_steps
  all_goals (repeat (first | k_unfold | dsimp only))
  all_goals exact hret _ _ _ ⟨_, rfl, trivial⟩ (Fr.keep (by assumption))
theorem str_bad (x : Str) (tx : Tok) (hlen : x.length ≤ 1000) (hasc : ∃ c ∈ x.cps, 128 ≤ c) : Told 3 29 [.str x tx] [] (fun _ => True) (fun _ v => False) (fun c => c = .type "ValueError" ∧ True) := by
  w_top off
  unfold Told
  k_fill
  intro w mean mg mb dp un gd outer base s Q E B XB TB D X T hd hu hpre hret hexc
  k_dflt (refine' enter (binds := [(Str.ofString "s", .str x tx)]) ?k1 ?k2 ?k3 ?k4 ?k5 ?k6 ?k7 ?k8 ?_ ?c1 ?c2 ?c3 ?c4; ktr_unf)
  k_steps
  refine call_enc_bad rfl hlen hasc fun h9 tk9 e9 U9 => ?_
  dsimp only
  with_reducible rename Fr _ _ _ _ => kF
  (try k_unfold)
  k_dflt (refine caught_uee B kF U9 XB TB D (by k_is) (by boot_by_name) (by decide) (fun h₁ g₁ ws₁ hT₁ F₁ hux h2 hge B₁ X₁ T₁ D₁ => ?_) rfl rfl (by decide) ?_)
  · refine wpAny_execs_cons (raise_inside F.excRaise_ValueError rfl ?_)
    iterate 6 (first | walk1 | (dsimp only; walk1))
    refine wpAny_call_exc F.excCall_ValueError (fun h7 e7 M7 => ?_) (by rw [sizeLine_eq]; show 1 ≤ 16777216; decide)
    obtain ⟨t7, ho7, htn7, ht7⟩ := M7.there
    have ux : h₁.get? e9 = _ := hux
    refine ⟨e7, t7, ws₁, rfl, ?_, M7.keeps _ _ hux, h2, ho7, fun h8 ho8 sb8 => ?_⟩
    · intro q
      have := M7.new
      rw [← q, ux] at this
      cases this
    · have hte : t7 ≠ e7 := by
        intro q
        rw [q, ho7] at ht7
        have hh := congrArg Obj.data (Option.some.inj ht7)
        cases hh
      show wpAny _ _ (leaving _ (.ref e7)) _ _ _
      refine leave_inside (args := [_]) B₁ F₁ (fun b o q => sb8.extBut b o (fun z => ?_) (M7.keeps b o q)) M7.new ho8 htn7 ⟨_, _, (sb8.2 t7 hte).trans ht7, rfl, rfl⟩ fun h' R us => ?_
      · have := M7.new
        rw [← z, q] at this
        cases this
      · obtain ⟨⟨Bx, st, bg, _, fl, hn⟩, tup⟩ := R
        exact hexc e7 _ _ _ h' _ ⟨rfl, trivial⟩ ⟨⟨Bx, st, fun b o q nm => bg b o (hT₁.other b o q nm) nm, fun q hq => (nomatch hq), fl, hn⟩, tup⟩ (Heap.UpToSlots.trans (fun b o q _ => hT₁.up q) us)
  · (try k_unfold)
    first | passes_own | with_unfolding_all passes_own
end Mine
end
-- part: Law0
section
open PySem PySem.W PySem.Calls PyProof.Rows
set_option maxRecDepth 100000
set_option maxHeartbeats 8000000
namespace Mine
theorem enterC {prog : Program} {w : World} {A : Around} {s : Shared} {K : Frag} {mg mb : Str → Option Value} {p : Program} {loose : List Str} {mean : ExcName → Option Value} {R : Result → Shared → Prop}
    {name qual : Str} {params : Arguments} {body : List Stmt} {scope : Scope} {dV kV doc pm cdv ct oc : Value} {an od : Option Addr} {osl : Array (Option Value)} {f : Addr} {args : Args} {binds : List (Str × Value)}
    (X : K.In s.heap) (T : Top p loose mean mg mb s.heap)
    (ho : K.lookup f = some ⟨oc, od, .func (fnOf name qual params body scope dV kV doc pm an cdv ct), osl⟩) (hcd : codeIn K cdv qual = true) (hroom : A.depth < recursionLimit)
    (hbind : BindsTo s (fnOf name qual params body scope dV kV doc pm an cdv ct) args binds) (hkind : (binds.all fun y => scope.names.lookup y.1 == some .local || scope.names.lookup y.1 == some .cell) = true)
    (hnd : ((cellsFrom 0 scope.names []).map (·.1)).Nodup)
    (h : ∀ L' h₁ tk cells, Fr s.heap L' h₁ (bindL (envOfC qual scope L' f cdv).kindOf binds fun _ => none) → News s.heap L' h₁ cells → CellsAre (bindC (envOfC qual scope L' f cdv).kindOf binds fun _ => none) (cellsFrom (L' + 1) scope.names []) cells →
      wpAny (model prog w) (A.deeper (envOfC qual scope L' f cdv)) (execs body (envOfC qual scope L' f cdv))
        (fun fl s' => R (.ok (.ret (match fl with | .ret v => v | _ => .none))) s')
        (fun e s' => wpAny (model prog w) (A.deeper (envOfC qual scope L' f cdv)) (leaving (envOfC qual scope L' f cdv) e) (fun _ s'' => R (.error e) s'') (fun e' s'' => R (.error e') s'') s')
        { s with heap := h₁, toks := tk })
    (hco : scope.isCoroutine = false) (hgen : scope.isGenerator = false) (hk : scope.kind = .function) : codeAny (model prog w) A (.call (.ref f) args) R s := by
  refine codeAny_call_function hroom (X _ _ ho) rfl hco hgen rfl (codeRec_of X hcd) (hbind _ _ _ _ ?_)
  refine wpAny_newFunctionEnv_cells hk (kindsX hkind _) fun env' he s' x => ?_
  subst he
  refine ⟨T.nolimit.keeps x.toInCall.keep, codeAny_func ?_⟩
  obtain ⟨h₁, tk, rfl, _⟩ := x.done
  obtain ⟨cells, NC, Y⟩ := Cl.news (h₀ := s.heap) (Nat.le_refl _) fun n c hm => ⟨x.cell n c (lookup_of_mem_nodup (cellsFrom_names scope.names 0 (s.heap.objs.size + 1) [] [] rfl ▸ hnd) hm), x.above n c hm⟩
  exact h s.heap.objs.size h₁ tk cells ⟨x.toInCall.ns, x.toInCall.keep, Nat.le_refl _⟩ NC Y

/-- what the law's call is to give -/
def LawTold : Prop :=
  ∀ (w : World) (mean : ExcName → Option Value) (mg mb : Str → Option Value) (s : Shared) (l : Addr) (vs : List Value) (ns : List Int) (R : Result → Shared → Prop),
    (hd.heap_39 w.params).In s.heap → Top hd.view_39 (looseW hd.view_39 [Str.ofString "bytes_types", Str.ofString "a2b_base64", Str.ofString "b64decode"]) mean mg mb s.heap →
    s.heap.IsList l vs.toArray → IntsAre vs ns → (PyData.list (ns.map PyData.int)).layable0 = true →
    (∀ h' tk' L m, Fr s.heap L h' m → R (.ok (.ret (.bool true))) { s with heap := h', toks := tk' }) →
    codeAny (model PySem.Challenge.rw_qh0112_01.row.prog w) callerA (.call (.ref 140) ⟨[.ref l], []⟩) R s
/-- behind the first two statements -/
def Mid1 (H : Heap) (L : Addr) (s : Shared) (cl : Obj) (s' : Shared) : Prop :=
  ∃ (h : Heap) (tk : Nat) (l : Addr) (vs : List Value) (ns : List Int) (n : Nat) (t : Tok) (m : Str → Option Value), s' = { s with heap := h, toks := tk } ∧
    Fr H L h (fun y => if y = Str.ofString "total" then some (.int (List.sum ns) t) else if y = Str.ofString "numbers" then some (.ref l) else m y) ∧
    News H L h [(l, listOf (List.toArray vs) n), (L + 1, cl)] ∧ IntsAre vs ns ∧ 1 ≤ ns.length ∧ ns.length ≤ 16 ∧ @LT.lt Nat _ (L + 1) l
theorem drop2 {h₀ h : Heap} {L : Addr} {a b c : Addr × Obj} (N : News h₀ L h [a, b, c]) : News h₀ L h [a, c] := fun p hp => N p (by
  rcases List.mem_cons.mp hp with rfl | hp
  · exact List.Mem.head _
  · rw [List.mem_singleton.mp hp]; exact .tail _ (.tail _ (.head _)))
def Mid3 (H : Heap) (L : Addr) (s : Shared) (cl : Obj) (l : Addr) (vs : List Value) (ns : List Int) (n : Nat) (t : Tok) (m : Str → Option Value) (s' : Shared) : Prop :=
  ∃ (h : Heap) (tk : Nat) (lo : Addr) (wo : List Value) (k : Nat), s' = { s with heap := h, toks := tk } ∧
    Fr H L h (fun y => if y = Str.ofString "others" then some (.ref lo) else if y = Str.ofString "total" then some (.int (List.sum ns) t) else if y = Str.ofString "numbers" then some (.ref l) else m y) ∧
    News H L h [(lo, listOf (List.toArray wo) k), (l, listOf (List.toArray vs) n), (L + 1, cl)] ∧ IntsAre wo othL ∧ @LT.lt Nat _ l lo ∧ @LT.lt Nat _ (L + 1) lo
theorem newsSub {h₀ h : Heap} {L : Addr} {news led : List (Addr × Obj)} (N : News h₀ L h news) (hs : ∀ p ∈ led, p ∈ news) : News h₀ L h led := fun p hp => N p (hs p hp)
theorem frPut {H h : Heap} {L : Addr} {m : Str → Option Value} {x : Str} {v : Value} (F : Fr H L h m) (e : m x = some v) : Fr H L h (fun z => if z = x then some v else m z) := by
  have q : (fun z => if z = x then some v else m z) = m := by
    funext z
    by_cases hz : z = x
    · rw [if_pos hz, hz, e]
    · rw [if_neg hz]
  rw [q]; exact F
/-- behind «pair = ..» -/
def Mid4 (H : Heap) (L : Addr) (s : Shared) (l : Addr) (vs : List Value) (ns : List Int) (n : Nat) (t : Tok) (s' : Shared) : Prop :=
  ∃ (h : Heap) (tk : Nat) (lp lo : Addr) (x y : Int) (tx ty : Tok) (np : Nat) (cl : Obj) (m : Str → Option Value), s' = { s with heap := h, toks := tk } ∧
    Fr H L h (fun z => if z = Str.ofString "others" then some (.ref lo) else if z = Str.ofString "total" then some (.int (List.sum ns) t) else if z = Str.ofString "numbers" then some (.ref l) else m z) ∧
    News H L h [(lp, listOf #[.int x tx, .int y ty] np), (l, listOf (List.toArray vs) n), (L + 1, cl)] ∧ cl.data = .cell (some (.ref lp)) ∧ punct x ∧ punct y ∧ x ≠ y ∧ @LT.lt Nat _ l lp ∧ @LT.lt Nat _ (L + 1) lp
/-- the second alphabet's two signs, and how they are handed over -/
def Mode (x y : Int) (av sv : Value) : Prop :=
  (x = 43 ∧ y = 47 ∧ av = .none ∧ sv = .none) ∨ (punct x ∧ punct y ∧ x ≠ y ∧ ∃ t1 t2, av = .bytes (byteArr [x, y]) t1 ∧ sv = .str ⟨#[x.toNat, y.toNat]⟩ t2)
/-- behind altchars and altsigns -/
def Mid6 (H : Heap) (L : Addr) (s : Shared) (l : Addr) (vs : List Value) (ns : List Int) (n : Nat) (t : Tok) (lp : Addr) (x y : Int) (tx ty : Tok) (np : Nat) (cl : Obj) (s' : Shared) : Prop :=
  ∃ (h : Heap) (tk : Nat) (t1 t2 : Tok) (m : Str → Option Value), s' = { s with heap := h, toks := tk } ∧
    Fr H L h (fun z => if z = Str.ofString "altsigns" then some (.str ⟨#[x.toNat, y.toNat]⟩ t2) else if z = Str.ofString "altchars" then some (.bytes (byteArr [x, y]) t1) else if z = Str.ofString "total" then some (.int (List.sum ns) t) else if z = Str.ofString "numbers" then some (.ref l) else m z) ∧
    News H L h [(lp, listOf #[.int x tx, .int y ty] np), (l, listOf (List.toArray vs) n), (L + 1, cl)]
/-- behind the if -/
def Mid7 (H : Heap) (L : Addr) (s : Shared) (l : Addr) (vs : List Value) (ns : List Int) (n : Nat) (t : Tok) (s' : Shared) : Prop :=
  ∃ (h : Heap) (tk : Nat) (lp : Addr) (x y : Int) (tx ty : Tok) (np : Nat) (cl : Obj) (av sv : Value) (m : Str → Option Value), s' = { s with heap := h, toks := tk } ∧
    Fr H L h (fun z => if z = Str.ofString "altsigns" then some sv else if z = Str.ofString "altchars" then some av else if z = Str.ofString "total" then some (.int (List.sum ns) t) else if z = Str.ofString "numbers" then some (.ref l) else m z) ∧
    News H L h [(lp, listOf #[.int x tx, .int y ty] np), (l, listOf (List.toArray vs) n), (L + 1, cl)] ∧ cl.data = .cell (some (.ref lp)) ∧ Mode x y av sv ∧ @LT.lt Nat _ l lp ∧ @LT.lt Nat _ (L + 1) lp
/-- behind «signs = ..» -/
def Mid8 (H : Heap) (L : Addr) (s : Shared) (l : Addr) (vs : List Value) (ns : List Int) (n : Nat) (t : Tok) (lp : Addr) (x y : Int) (tx ty : Tok) (np : Nat) (cl : Obj) (av sv : Value) (s' : Shared) : Prop :=
  ∃ (h : Heap) (tk : Nat) (lg : Addr) (wg : List Value) (ng : Nat) (m : Str → Option Value), s' = { s with heap := h, toks := tk } ∧
    Fr H L h (fun z => if z = Str.ofString "signs" then some (.ref lg) else if z = Str.ofString "altsigns" then some sv else if z = Str.ofString "altchars" then some av else if z = Str.ofString "total" then some (.int (List.sum ns) t) else if z = Str.ofString "numbers" then some (.ref l) else m z) ∧
    News H L h [(lg, listOf (List.toArray wg) ng), (lp, listOf #[.int x tx, .int y ty] np), (l, listOf (List.toArray vs) n), (L + 1, cl)] ∧ IntsAre wg (signsL x y) ∧ @LT.lt Nat _ lp lg ∧ @LT.lt Nat _ l lg ∧ @LT.lt Nat _ (L + 1) lg
structure Lst where
  us : List Value
  nn : Nat
  o : List Int
/-- behind the loop that lays the line -/
def Mid10 (H : Heap) (L : Addr) (s : Shared) (l : Addr) (ns : List Int) (t : Tok) (lp : Addr) (x y : Int) (tx ty : Tok) (np : Nat) (cl : Obj) (av sv : Value) (s' : Shared) : Prop :=
  ∃ (h : Heap) (tk : Nat) (ll : Addr) (us : List Value) (nl : Nat) (m : Str → Option Value), s' = { s with heap := h, toks := tk } ∧
    Fr H L h (fun z => if z = Str.ofString "line" then some (.ref ll) else if z = Str.ofString "altsigns" then some sv else if z = Str.ofString "altchars" then some av else if z = Str.ofString "total" then some (.int (List.sum ns) t) else m z) ∧
    News H L h [(ll, listOf (List.toArray us) nl), (lp, listOf #[.int x tx, .int y ty] np), (L + 1, cl)] ∧ IntsAre us (ns.map (codeOf x y)) ∧ @LT.lt Nat _ lp ll ∧ @LT.lt Nat _ (L + 1) ll
section
variable {prog : Program} {w : World} {A : Around} {E : Value → Shared → Prop} {s : Shared} {h₀ : Heap} {L : Addr} {m : Str → Option Value} {news : List (Addr × Obj)}
theorem add_K {l b : Addr} {vs ws : List Value} {ns ms : List Int} {Q : Value → Shared → Prop} (F : Fr h₀ L s.heap m) (N : News h₀ L s.heap news) (hl : s.heap.IsList l vs.toArray) (hb : s.heap.IsList b ws.toArray)
    (hi : IntsAre vs ns) (hj : IntsAre ws ms)
    (h : ∀ l' h', Fr h₀ L h' m → News h₀ L h' ((l', listOf (vs ++ ws).toArray 0) :: news) → IntsAre (vs ++ ws) (ns ++ ms) → (∀ p ∈ news, p.1 < l') → Q (.ref l') { s with heap := h' })
    (hsz : ns.length + ms.length ≤ sizeLine) : wpAny (model prog w) A (binaryOp .Add (.ref l) (.ref b)) Q E s :=
  add_lists_ints F N hl hb hi hj (fun h' F' N' I' => h _ h' F' N' I' (fun p hp => Heap.lt_size (N p hp).1)) hsz
theorem item_K {value slice : PySem.Expr} {l : Addr} {vs : List Value} {ns : List Int} {k : Int} {u : Tok} {Q : Value → Shared → Prop} (hl : s.heap.IsList l vs.toArray) (hi : IntsAre vs ns) (h0 : 0 ≤ k) (h1 : k < ns.length) (hz : ns.length ≤ 1000)
    (h : ∀ t', Q (.int (ns.getD k.toNat 0) t') s) (hs : subscripted slice false (.ref l) (.int k u) = operate [.ref l, .int k u] (getItem (.ref l) (.int k u)) := by with_unfolding_all rfl) :
    wpAny (model prog w) A (subscriptTail value slice (.ref l) (.int k u)) Q E s := by
  have hlt : k.toNat < ns.length := by omega
  obtain ⟨t', hx⟩ := hi.get k.toNat (ns.getD k.toNat 0) (by rw [List.getD_eq_getElem?_getD, List.getElem?_eq_getElem hlt]; rfl)
  exact tail_any hl.typeIs slot_list_getitem.lookup (wpAny_getItem_list hl h0 (by omega) (by simpa using hx) (h t')) hs
theorem item0_K {value slice : PySem.Expr} {l : Addr} {vs : List Value} {a : Int} {ns : List Int} {u : Tok} {Q : Value → Shared → Prop} (hl : s.heap.IsList l vs.toArray) (hi : IntsAre vs (a :: ns)) (hz : ns.length ≤ 100)
    (h : ∀ t', Q (.int a t') s) (hs : subscripted slice false (.ref l) (.int 0 u) = operate [.ref l, .int 0 u] (getItem (.ref l) (.int 0 u)) := by with_unfolding_all rfl) :
    wpAny (model prog w) A (subscriptTail value slice (.ref l) (.int 0 u)) Q E s :=
  item_K hl hi (by omega) (by rw [List.length_cons]; omega) (by rw [List.length_cons]; omega) h hs
theorem item1_K {value slice : PySem.Expr} {l : Addr} {vs : List Value} {a b : Int} {ns : List Int} {u : Tok} {Q : Value → Shared → Prop} (hl : s.heap.IsList l vs.toArray) (hi : IntsAre vs (a :: b :: ns)) (hz : ns.length ≤ 100)
    (h : ∀ t', Q (.int b t') s) (hs : subscripted slice false (.ref l) (.int 1 u) = operate [.ref l, .int 1 u] (getItem (.ref l) (.int 1 u)) := by with_unfolding_all rfl) :
    wpAny (model prog w) A (subscriptTail value slice (.ref l) (.int 1 u)) Q E s :=
  item_K hl hi (by omega) (by rw [List.length_cons, List.length_cons]; omega) (by rw [List.length_cons, List.length_cons]; omega) h hs
end
end Mine
end
-- part: Law1
section
open PySem PySem.W PySem.Calls PyProof.Rows
set_option maxRecDepth 100000
set_option maxHeartbeats 8000000
namespace Mine
theorem mode_alt {x y : Int} {av sv : Value} (h : Mode x y av sv) : Alt x y := by
  rcases h with ⟨rfl, rfl, _, _⟩ | ⟨hx, hy, hn, _⟩
  · exact ⟨by decide, by unfold punct; omega, by unfold punct; omega⟩
  · exact ⟨hn, hx, hy⟩
theorem getD_all {P : Int → Prop} (h0 : P 0) : ∀ (l : List Int), (∀ a ∈ l, P a) → ∀ i, P (l.getD i 0)
  | [], _, _ => h0
  | a :: _, h, 0 => h a (.head _)
  | _ :: l, h, i + 1 => getD_all h0 l (fun a ha => h a (.tail _ ha)) i
theorem signs_in {x y : Int} (ha : Alt x y) : ∀ c ∈ signsL x y, 0 ≤ c ∧ c < 128 := by
  have bx := punct_in ha.x1
  have by' := punct_in ha.y1
  have hA : ∀ c ∈ alphL, 0 ≤ c ∧ c < 128 := by decide
  intro c hc
  unfold signsL at hc
  simp only [List.mem_append, List.mem_cons, List.not_mem_nil, or_false] at hc
  rcases hc with (h | h | h) | h | h
  · exact hA c h
  · omega
  · omega
  · omega
  · omega
theorem code_in {x y : Int} (ha : Alt x y) (n : Int) : 0 ≤ codeOf x y n ∧ codeOf x y n < 256 ∧ codeOf x y n ≠ 61 := by
  have hs : 0 ≤ (signsL x y).getD (n / 4 % 66).toNat 0 ∧ (signsL x y).getD (n / 4 % 66).toNat 0 < 128 := getD_all (P := fun c => 0 ≤ c ∧ c < 128) (by omega) (signsL x y) (signs_in ha) (n / 4 % 66).toNat
  unfold codeOf
  generalize (signsL x y).getD (n / 4 % 66).toNat 0 = z at *
  repeat' split
  all_goals omega
theorem line_in {x y : Int} (ha : Alt x y) (ns : List Int) : ∀ c ∈ ns.map (codeOf x y), 0 ≤ c ∧ c < 256 ∧ c ≠ 61 := by
  intro c hc
  obtain ⟨n, _, rfl⟩ := List.mem_map.mp hc
  exact code_in ha n
/-- behind figures -/
def Mid11 (H : Heap) (L : Addr) (s : Shared) (x y : Int) (ln : List Int) (S : Int) (t : Tok) (av sv : Value) (s' : Shared) : Prop :=
  ∃ (h : Heap) (tk : Nat) (ll lf : Addr) (us wf : List Value) (nl nf : Nat) (m : Str → Option Value), s' = { s with heap := h, toks := tk } ∧
    Fr H L h (fun z => if z = Str.ofString "figures" then some (.ref lf) else if z = Str.ofString "line" then some (.ref ll) else if z = Str.ofString "altsigns" then some sv else if z = Str.ofString "altchars" then some av else if z = Str.ofString "total" then some (.int S t) else m z) ∧
    News H L h [(lf, listOf (List.toArray wf) nf), (ll, listOf (List.toArray us) nl)] ∧ IntsAre us ln ∧ IntsAre wf (figsOf x y ln) ∧ ll ≠ lf
/-- behind size, pads, due = None -/
def Mid14 (H : Heap) (L : Addr) (s : Shared) (figs : List Int) (ll lf : Addr) (us wf : List Value) (nl nf : Nat) (av sv : Value) (s' : Shared) : Prop :=
  ∃ (h : Heap) (tk : Nat) (pi : Int) (ts tp : Tok) (m : Str → Option Value), s' = { s with heap := h, toks := tk } ∧
    Fr H L h (fun z => if z = Str.ofString "due" then some .none else if z = Str.ofString "pads" then some (.int pi tp) else if z = Str.ofString "size" then some (.int (figs.length : Int) ts) else if z = Str.ofString "figures" then some (.ref lf) else if z = Str.ofString "line" then some (.ref ll) else if z = Str.ofString "altsigns" then some sv else if z = Str.ofString "altchars" then some av else m z) ∧
    News H L h [(lf, listOf (List.toArray wf) nf), (ll, listOf (List.toArray us) nl)] ∧ ∃ pd : Nat, pi = (pd : Int) ∧ padsOk figs.length pd
theorem pads_zero (n : Nat) : ∃ pd : Nat, (0 : Int) = (pd : Int) ∧ padsOk n pd := ⟨0, rfl, .inl rfl⟩
theorem pads_mod (n : Nat) : ∃ pd : Nat, (-(n : Int)).fmod 4 = (pd : Int) ∧ padsOk n pd := by
  rw [Int.fmod_eq_emod_of_nonneg _ (by decide : (0 : Int) ≤ 4)]
  refine ⟨((-(n : Int)) % 4).toNat, by omega, ?_⟩
  unfold padsOk
  omega
/-- what due is -/
def Due (d : Option (List Int)) (v : Value) : Prop := match d with | none => v = .none | some o => ∃ t, v = .bytes (byteArr o) t
/-- behind the if that reckons due -/
def Mid15 (H : Heap) (L : Addr) (s : Shared) (figs : List Int) (ll : Addr) (us : List Value) (nl : Nat) (pd : Nat) (ts tp : Tok) (av sv : Value) (s' : Shared) : Prop :=
  ∃ (h : Heap) (tk : Nat) (dv : Value) (m : Str → Option Value), s' = { s with heap := h, toks := tk } ∧
    Fr H L h (fun z => if z = Str.ofString "due" then some dv else if z = Str.ofString "pads" then some (.int (pd : Int) tp) else if z = Str.ofString "size" then some (.int (figs.length : Int) ts) else if z = Str.ofString "line" then some (.ref ll) else if z = Str.ofString "altsigns" then some sv else if z = Str.ofString "altchars" then some av else m z) ∧
    News H L h [(ll, listOf (List.toArray us) nl)] ∧ Due (dueOf figs pd) dv
end Mine
namespace Mine
def dueI (figs : List Int) (k : Int) : Int := ((64 * figs.getD (8 * k / 6).toNat 0 + figs.getD (8 * k / 6 + 1).toNat 0) / 2 ^ (4 - 8 * k % 6).toNat) % 256
end Mine
namespace Mine
theorem exp_in (k : Int) : 0 ≤ 4 - Int.fmod (8 * k) 6 ∧ 4 - Int.fmod (8 * k) 6 ≤ 1000000 := by
  rw [Int.fmod_eq_emod_of_nonneg _ (by decide : (0 : Int) ≤ 6)]
  omega
theorem exp_lt (k : Int) : 4 - Int.fmod (8 * k) 6 < 9000 := by
  rw [Int.fmod_eq_emod_of_nonneg _ (by decide : (0 : Int) ≤ 6)]
  omega
section
variable {figs : List Int} {k v : Int} {pre due : List Int}
theorem due_val : ((64 * figs.getD ((8 * k).fdiv 6).toNat 0 + figs.getD ((8 * k).fdiv 6 + 1).toNat 0).fdiv (2 ^ (4 - (8 * k).fmod 6).toNat)).fmod 256 = dueI figs k := by
  unfold dueI
  rw [Int.fmod_eq_emod_of_nonneg _ (by decide : (0 : Int) ≤ 256), Int.fmod_eq_emod_of_nonneg _ (by decide : (0 : Int) ≤ 6), Int.fdiv_eq_ediv_of_nonneg _ (by decide : (0 : Int) ≤ 6), Int.fdiv_eq_ediv_of_nonneg _ (Int.le_of_lt (Int.pow_pos (by decide : (0 : Int) < 2)))]
theorem dueS (h : due = pre.map (dueI figs)) (hl : due.length = pre.length) (hv : v = dueI figs k) : due ++ [v] = (pre ++ [k]).map (dueI figs) ∧ (due ++ [v]).length = (pre ++ [k]).length :=
  ⟨by rw [h, hv, List.map_append]; rfl, by rw [List.length_append, List.length_append, hl]; rfl⟩
end
theorem dueI_nat (figs : List Int) (k : Nat) : dueI figs (k : Int) = dueK figs k := by
  unfold dueI dueK
  rw [show (8 * (k : Int) / 6).toNat = 8 * k / 6 from by omega, show (8 * (k : Int) / 6 + 1).toNat = 8 * k / 6 + 1 from by omega, show (4 - 8 * (k : Int) % 6).toNat = 4 - 8 * k % 6 from by omega]
end Mine
namespace Mine
theorem mod_due {prog : Program} {w : World} {A : Around} {E : Value → Shared → Prop} {s : Shared} {figs : List Int} {k : Int} {t u : Tok} {Q : Value → Shared → Prop}
    (h : ∀ v, v = dueI figs k → Q (.int v s.toks) { s with toks := s.toks + 1 }) :
    wpAny (model prog w) A (binaryOp .Mod (.int ((64 * figs.getD ((8 * k).fdiv 6).toNat 0 + figs.getD ((8 * k).fdiv 6 + 1).toNat 0).fdiv (2 ^ (4 - (8 * k).fmod 6).toNat)) u) (.int 256 t)) Q E s :=
  mod_int' (by decide) (h _ due_val)
theorem in_due {figs pre due : List Int} (h : due = pre.map (dueI figs)) : KBa.In due := by
  intro n hn
  rw [h] at hn
  obtain ⟨k, _, rfl⟩ := List.mem_map.mp hn
  unfold dueI
  exact ⟨Int.emod_nonneg _ (by decide), Int.emod_lt_of_pos _ (by decide)⟩
end Mine
namespace Mine
theorem due_room {n m : Nat} (h : n < ((6 * (m : Int)).fdiv 8 - 0).toNat) (hm : m ≤ 16) : n < 12 := by
  rw [Int.fdiv_eq_ediv_of_nonneg _ (by decide : (0 : Int) ≤ 8)] at h
  omega
theorem due_many (m : Nat) : ((6 * (m : Int)).fdiv 8 - 0).toNat = 6 * m / 8 := by
  rw [Int.fdiv_eq_ediv_of_nonneg _ (by decide : (0 : Int) ≤ 8)]
  omega
theorem due_fits {l : List Int} {m : Nat} (h : l.length = (rangeKs 0 ((6 * (m : Int)).fdiv 8 - 0).toNat).length) (hm : m ≤ 16) : l.length ≤ 16777216 := by
  rw [h, rangeKs_length, due_many]
  omega
theorem due_all (figs : List Int) : (rangeKs 0 ((6 * (figs.length : Int)).fdiv 8 - 0).toNat).map (dueI figs) = dueL figs := by
  rw [due_many]
  unfold rangeKs dueL
  rw [List.map_map]
  refine List.map_congr_left fun k _ => ?_
  show dueI figs (0 + (k : Int)) = dueK figs k
  rw [Int.zero_add, dueI_nat]
theorem due_done {figs fst : List Int} {pd : Nat} {t : Tok} (h : fst = (rangeKs 0 ((6 * (figs.length : Int)).fdiv 8 - 0).toNat).map (dueI figs)) (h1 : (figs.length : Int).fmod 4 ≠ 1) (h2 : ((figs.length : Int) + (pd : Int)).fmod 4 = 0) :
    Due (dueOf figs pd) (.bytes (byteArr fst) t) := by
  rw [fm4] at h1 h2
  unfold dueOf
  rw [if_pos ⟨by omega, by omega⟩, h, due_all]
  exact ⟨_, rfl⟩
theorem due_none1 {figs : List Int} {pd : Nat} (h1 : (figs.length : Int).fmod 4 = 1) : Due (dueOf figs pd) .none := by
  rw [fm4] at h1
  unfold dueOf
  rw [if_neg (by omega)]
  exact rfl
theorem due_none2 {figs : List Int} {pd : Nat} (h2 : ((figs.length : Int) + (pd : Int)).fmod 4 ≠ 0) : Due (dueOf figs pd) .none := by
  rw [fm4] at h2
  unfold dueOf
  rw [if_neg (by omega)]
  exact rfl
end Mine
namespace Mine
theorem byteArr_octs (ln : List Int) (pd : Nat) : byteArr ln ++ (List.replicate ((pd : Int)).toNat [(61 : UInt8)]).flatten.toArray = byteArr (octs ln pd) := by
  have e : (List.replicate ((pd : Int)).toNat [(61 : UInt8)]).flatten = (List.replicate pd (61 : Int)).map fun n => n.toNat.toUInt8 := by
    rw [Int.toNat_natCast, List.map_replicate]
    induction pd with
    | zero => rfl
    | succ n ih => rw [List.replicate_succ, List.flatten_cons, ih, List.replicate_succ]; rfl
  rw [e]
  unfold byteArr octs
  rw [List.map_append]
  simp
theorem add_oct {prog : Program} {w : World} {A : Around} {E : Value → Shared → Prop} {s : Shared} {ln : List Int} {pd : Nat} {t u : Tok} {Q : Value → Shared → Prop} (hl : ln.length ≤ 16) (hp : pd < 4)
    (h : ∀ t' k, Q (.bytes (byteArr (octs ln pd)) t') { s with toks := k }) :
    wpAny (model prog w) A (binaryOp .Add (.bytes (byteArr ln) t) (.bytes (List.replicate ((pd : Int)).toNat [(61 : UInt8)]).flatten.toArray u)) Q E s := by
  refine KBy.add_bytes ?_ fun t' k => ?_
  · rw [byteArr_size]
    have : (List.replicate ((pd : Int)).toNat [(61 : UInt8)]).flatten.toArray.size = pd := by
      rw [Int.toNat_natCast]
      simp
    omega
  · rw [byteArr_octs]
    exact h t' k
theorem octs_len (ln : List Int) (pd : Nat) : (octs ln pd).length = ln.length + pd := by unfold octs; simp
theorem octs_in {ln : List Int} {pd : Nat} (h : KBa.In ln) : KBa.In (octs ln pd) := by
  intro n hn
  unfold octs at hn
  rcases List.mem_append.mp hn with h' | h'
  · exact h n h'
  · rw [(List.mem_replicate.mp h').2]; omega
/-- behind octets -/
def Mid16 (H : Heap) (L : Addr) (s : Shared) (n : Nat) (oc : List Int) (ll : Addr) (us : List Value) (nl : Nat) (ts : Tok) (dv av sv : Value) (s' : Shared) : Prop :=
  ∃ (h : Heap) (tk : Nat) (to_ : Tok) (m : Str → Option Value), s' = { s with heap := h, toks := tk } ∧
    Fr H L h (fun z => if z = Str.ofString "octets" then some (.bytes (byteArr oc) to_) else if z = Str.ofString "due" then some dv else if z = Str.ofString "size" then some (.int (n : Int) ts) else if z = Str.ofString "line" then some (.ref ll) else if z = Str.ofString "altsigns" then some sv else if z = Str.ofString "altchars" then some av else m z) ∧
    News H L h [(ll, listOf (List.toArray us) nl)]
end Mine
namespace Mine
/-- behind text -/
def Mid17 (H : Heap) (L : Addr) (s : Shared) (n : Nat) (oc : List Int) (ll : Addr) (us : List Value) (nl : Nat) (ts to_ : Tok) (dv av sv : Value) (s' : Shared) : Prop :=
  ∃ (h : Heap) (tk : Nat) (tt : Tok) (m : Str → Option Value), s' = { s with heap := h, toks := tk } ∧
    Fr H L h (fun z => if z = Str.ofString "text" then some (.str ⟨(oc.map Int.toNat).toArray⟩ tt) else if z = Str.ofString "octets" then some (.bytes (byteArr oc) to_) else if z = Str.ofString "due" then some dv else if z = Str.ofString "size" then some (.int (n : Int) ts) else if z = Str.ofString "line" then some (.ref ll) else if z = Str.ofString "altsigns" then some sv else if z = Str.ofString "altchars" then some av else m z) ∧
    News H L h [(ll, listOf (List.toArray us) nl)]
/-- behind the first if -/
def Mid18 (H : Heap) (L : Addr) (s : Shared) (n : Nat) (oc : List Int) (ll : Addr) (us : List Value) (nl : Nat) (ts to_ tt : Tok) (dv av sv : Value) (s' : Shared) : Prop :=
  ∃ (h : Heap) (tk : Nat) (m : Str → Option Value), s' = { s with heap := h, toks := tk } ∧
    Fr H L h (fun z => if z = Str.ofString "text" then some (.str ⟨(oc.map Int.toNat).toArray⟩ tt) else if z = Str.ofString "octets" then some (.bytes (byteArr oc) to_) else if z = Str.ofString "due" then some dv else if z = Str.ofString "size" then some (.int (n : Int) ts) else if z = Str.ofString "line" then some (.ref ll) else if z = Str.ofString "altsigns" then some sv else if z = Str.ofString "altchars" then some av else m z) ∧
    News H L h [(ll, listOf (List.toArray us) nl)]
/-- behind narrow -/
def Mid19 (H : Heap) (L : Addr) (s : Shared) (D : Option (List Int)) (oc : List Int) (ll : Addr) (us : List Value) (nl : Nat) (to_ tt : Tok) (dv av sv : Value) (s' : Shared) : Prop :=
  ∃ (h : Heap) (tk : Nat) (nv : Value) (m : Str → Option Value), s' = { s with heap := h, toks := tk } ∧
    Fr H L h (fun z => if z = Str.ofString "narrow" then some nv else if z = Str.ofString "text" then some (.str ⟨(oc.map Int.toNat).toArray⟩ tt) else if z = Str.ofString "octets" then some (.bytes (byteArr oc) to_) else if z = Str.ofString "due" then some dv else if z = Str.ofString "line" then some (.ref ll) else if z = Str.ofString "altsigns" then some sv else if z = Str.ofString "altchars" then some av else m z) ∧
    News H L h [(ll, listOf (List.toArray us) nl)] ∧ Due D nv
/-- behind the second if -/
def Mid20 (H : Heap) (L : Addr) (s : Shared) (oc : List Int) (ll : Addr) (us : List Value) (nl : Nat) (tt : Tok) (dv sv : Value) (s' : Shared) : Prop :=
  ∃ (h : Heap) (tk : Nat) (m : Str → Option Value), s' = { s with heap := h, toks := tk } ∧
    Fr H L h (fun z => if z = Str.ofString "text" then some (.str ⟨(oc.map Int.toNat).toArray⟩ tt) else if z = Str.ofString "due" then some dv else if z = Str.ofString "line" then some (.ref ll) else if z = Str.ofString "altsigns" then some sv else m z) ∧
    News H L h [(ll, listOf (List.toArray us) nl)]
/-- behind beyond -/
def Mid21 (H : Heap) (L : Addr) (s : Shared) (oc ln : List Int) (tt : Tok) (dv sv : Value) (s' : Shared) : Prop :=
  ∃ (h : Heap) (tk : Nat) (lb : Addr) (wb : List Value) (nb : Nat) (m : Str → Option Value), s' = { s with heap := h, toks := tk } ∧
    Fr H L h (fun z => if z = Str.ofString "beyond" then some (.ref lb) else if z = Str.ofString "text" then some (.str ⟨(oc.map Int.toNat).toArray⟩ tt) else if z = Str.ofString "due" then some dv else if z = Str.ofString "altsigns" then some sv else m z) ∧
    News H L h [(lb, listOf (List.toArray wb) nb)] ∧ IntsAre wb (ln.filter fun a => !decide (0 ≤ a ∧ a ≤ 127))
end Mine
namespace Mine
theorem due_is_none {v : Value} (h : Due none v) : v = .none := h
theorem due_is_some {v : Value} {o : List Int} (h : Due (some o) v) : ∃ t, v = .bytes (byteArr o) t := h
theorem due_of_none : Due none .none := rfl
theorem due_of_some {o : List Int} {t : Tok} : Due (some o) (.bytes (byteArr o) t) := ⟨_, rfl⟩
end Mine
namespace Mine
theorem bne_off {l : List UInt8} (h : (l != l) = true) : False := by simp at h
end Mine
namespace Mine
theorem narrow_yes {a b : Nat} {D : Option (List Int)} {v : Value} (h : (a : Int) = (b : Int)) (hd : Due D v) : Due (if a = b then D else none) v := by
  rw [if_pos (by omega)]; exact hd
theorem narrow_no {a b : Nat} {D : Option (List Int)} (h : (a : Int) ≠ (b : Int)) : Due (if a = b then D else none) .none := by
  rw [if_neg (by omega)]; exact rfl
end Mine
namespace Mine
theorem ret_same {R : Result → Shared → Prop} {s : Shared} {l : List UInt8} {h : Heap} {tk : Nat} {L : Addr} {m : Str → Option Value} {g : Heap}
    (hret : ∀ h' tk' L m, Fr g L h' m → R (.ok (.ret (.bool true))) { s with heap := h', toks := tk' }) (F : Fr g L h m) : R (.ok (.ret (.bool (l == l)))) { s with heap := h, toks := tk } := by
  rw [show (l == l) = true from by simp]
  exact hret _ _ _ _ F
end Mine
end
-- part: Law2
section
open PySem PySem.W PySem.Calls PyProof.Rows
set_option maxRecDepth 100000
set_option maxHeartbeats 8000000
namespace Mine
theorem toU8_nat {k : Int} (h0 : 0 ≤ k) (h1 : k < 256) : k.toNat.toUInt8.toNat = k.toNat := by
  show k.toNat % 256 = k.toNat
  omega
theorem table_at {x y : Int} (hx : 0 ≤ x ∧ x < 128) (hy : 0 ≤ y ∧ y < 128) (c : UInt8) : (((tableOf (byteArr [x, y]) #[43, 47]).getD c.toNat c).toNat : Int) = tr x y (c.toNat : Int) := by
  have hc := c.toNat_lt
  have e : tableOf (byteArr [x, y]) #[43, 47] = ((((Array.range 256).map (·.toUInt8)).setIfInBounds x.toNat.toUInt8.toNat 43).setIfInBounds y.toNat.toUInt8.toNat 47) := rfl
  have hr : ((Array.range 256).map (·.toUInt8))[c.toNat]? = some c := by
    rw [Array.getElem?_map, Array.getElem?_range, if_pos (by omega)]
    simp
  rw [e, toU8_nat hx.1 (by omega), toU8_nat hy.1 (by omega), Array.getD_eq_getD_getElem?, Array.getElem?_setIfInBounds]
  unfold tr
  by_cases h1 : y.toNat = c.toNat
  · rw [if_pos h1, if_pos (by simp; omega), if_pos (by omega)]
    rfl
  · rw [if_neg h1, if_neg (by omega), Array.getElem?_setIfInBounds]
    by_cases h2 : x.toNat = c.toNat
    · rw [if_pos h2, if_pos (by simp; omega), if_pos (by omega)]
      rfl
    · rw [if_neg h2, if_neg (by omega), hr]
      rfl
theorem through_tr {x y : Int} (hx : 0 ≤ x ∧ x < 128) (hy : 0 ≤ y ∧ y < 128) (b : Array UInt8) : KBw.bInts (through (tableOf (byteArr [x, y]) #[43, 47]) b) = (KBw.bInts b).map (tr x y) := by
  unfold KBw.bInts through
  rw [Array.toList_map, List.map_map, List.map_map]
  refine List.map_congr_left fun c _ => ?_
  exact table_at hx hy c
theorem tr_same (ks : List Int) : ks.map (tr 43 47) = ks := by
  have : tr 43 47 = fun c => c := by
    funext c
    unfold tr
    split
    · omega
    · split <;> omega
  rw [this]
  simp
theorem says_mono {r : Nat} {f : Addr} {args : List Value} {P P' : Value → Prop} (C : Says r f args P) (h : ∀ v, P v → P' v) : Says r f args P' :=
  fun w mean mg mb dp un gd outer base s Q E B XB TB D X T hd hu hret => C w mean mg mb dp un gd outer base s Q E B XB TB D X T hd hu fun v h' tk' hv hT => hret v h' tk' (h v hv) hT
theorem dec_res {gv av : Value} {st : Bool} {ok : Prop} {dres : Option (List Int)} (C : Told 6 79 [gv, av, .bool st] [] (fun _ => True) (fun _ v => ∃ o t, ok ∧ dres = some o ∧ v = .bytes (byteArr o) t) (fun c => (c = .type "ValueError" ∨ c = .ref 39) ∧ (ok → dres = none)))
    (res : Option (List Int)) (h1 : ok → res = dres) (h2 : ¬ ok → res = none) : Says 8 135 [gv, av, .bool st] (Due res) := by
  have C' : Told 6 79 [gv, av, .bool st] [] (fun _ => True) (fun _ v => ∃ o t, res = some o ∧ v = .bytes (byteArr o) t) (fun c => (c = .type "ValueError" ∨ c = .ref 39) ∧ res = none) :=
    told_mono C (Nat.le_refl _) (fun _ v ⟨o, t, hok, hd, hv⟩ => ⟨o, t, (h1 hok).trans hd, hv⟩) (fun c ⟨hc, hd⟩ => ⟨hc, by
      by_cases hok : ok
      · rw [h1 hok, hd hok]
      · exact h2 hok⟩)
  refine says_mono (told_says gv av st res C') fun v hv => ?_
  rcases hv with ⟨o, t, e, hv⟩ | ⟨e, hv⟩
  · rw [e]; exact ⟨t, hv⟩
  · rw [e]; exact hv
/-- what _bytes_from_decode_data says of one value -/
def Given (gv : Value) (b : Array UInt8) (ok : Prop) : Prop := Told 3 29 [gv] [] (fun _ => True) (fun _ v => ∃ t, v = .bytes b t ∧ ok) (fun c => c = .type "ValueError" ∧ ¬ ok)
theorem str_bytes {ks : List Int} : (⟨(ks.map Int.toNat).toArray⟩ : Str).cps.map (fun c => c.toUInt8) = byteArr ks := by
  unfold byteArr
  apply Array.ext'
  simp
theorem given_text {ks : List Int} (hlen : ks.length ≤ 1000) (hin : KBa.In ks) (t : Tok) : Given (.str ⟨(ks.map Int.toNat).toArray⟩ t) (byteArr ks) (∀ k ∈ ks, k < 128) := by
  have hl : (⟨(ks.map Int.toNat).toArray⟩ : Str).length ≤ 1000 := by
    show (ks.map Int.toNat).toArray.size ≤ 1000
    simpa using hlen
  unfold Given
  by_cases hok : ∀ k ∈ ks, k < 128
  · refine told_mono (str_ok _ t hl fun c hc => ?_) (Nat.le_refl _) (fun _ v ⟨t', hv, _⟩ => ⟨t', by rw [hv, str_bytes], hok⟩) (fun c h => absurd trivial h.2)
    have hc' : c ∈ ks.map Int.toNat := by simpa using hc
    obtain ⟨k, hk, rfl⟩ := List.mem_map.mp hc'
    have := hok k hk
    have := (hin k hk).1
    omega
  · refine told_mono (str_bad _ t hl ?_) (Nat.le_refl _) (fun _ v h => h.elim) (fun c h => ⟨h.1, hok⟩)
    have : ∃ k ∈ ks, 128 ≤ k := by
      by_cases hx : ∃ k ∈ ks, 128 ≤ k
      · exact hx
      · exact absurd (fun k hk => by
          by_cases hk2 : k < 128
          · exact hk2
          · exact absurd ⟨k, hk, by omega⟩ hx) hok
    obtain ⟨k, hk, hk2⟩ := this
    refine ⟨k.toNat, ?_, by omega⟩
    show k.toNat ∈ (ks.map Int.toNat).toArray
    simpa using ⟨k, hk, rfl⟩
theorem given_by (b : Array UInt8) (t : Tok) : Given (.bytes b t) b True := given_bytes b t
theorem given_alt {x y : Int} (hx : 0 ≤ x ∧ x < 128) (hy : 0 ≤ y ∧ y < 128) (t : Tok) : Given (.str ⟨#[x.toNat, y.toNat]⟩ t) (byteArr [x, y]) True := by
  have h := given_text (ks := [x, y]) (by show 2 ≤ 1000; decide) (in2 hx hy) t
  have hok : ∀ k ∈ [x, y], k < 128 := by
    intro k hk
    simp only [List.mem_cons, List.not_mem_nil, or_false] at hk
    rcases hk with rfl | rfl <;> omega
  exact told_mono h (Nat.le_refl _) (fun _ v ⟨t', hv, _⟩ => ⟨t', hv, trivial⟩) (fun c hc => absurd hok hc.2)
section
variable {x y : Int} {av sv gv : Value} {ks : List Int} {ok : Prop}
theorem says_b (hm : Mode x y av sv) (hin : KBa.In ks) (hlen : ks.length ≤ 100) (C : Given gv (byteArr ks) ok) (st : Bool) (res : Option (List Int))
    (h1 : ok → res = decode st (ks.map (tr x y))) (h2 : ¬ ok → res = none) : Says 8 135 [gv, av, .bool st] (Due res) := by
  have hb : (byteArr ks).size ≤ 100 := by rw [byteArr_size]; exact hlen
  rcases hm with ⟨rfl, rfl, rfl, rfl⟩ | ⟨hx, hy, _, t1, t2, rfl, rfl⟩
  · refine dec_res (dec_none gv (byteArr ks) ok hb C st) res (fun h => ?_) h2
    rw [KBa.ints_make hin, h1 h, tr_same]
  · refine dec_res (dec_altB gv (byteArr [x, y]) t1 (byteArr ks) (byteArr [x, y]) ok hb (by rw [byteArr_size]; rfl) C (given_by _ _) st) res (fun h => ?_) h2
    rw [through_tr (punct_in hx) (punct_in hy), KBa.ints_make hin, h1 h]
theorem says_s (hm : Mode x y av sv) (hin : KBa.In ks) (hlen : ks.length ≤ 100) (C : Given gv (byteArr ks) ok) (st : Bool) (res : Option (List Int))
    (h1 : ok → res = decode st (ks.map (tr x y))) (h2 : ¬ ok → res = none) : Says 8 135 [gv, sv, .bool st] (Due res) := by
  have hb : (byteArr ks).size ≤ 100 := by rw [byteArr_size]; exact hlen
  rcases hm with ⟨rfl, rfl, rfl, rfl⟩ | ⟨hx, hy, _, t1, t2, rfl, rfl⟩
  · refine dec_res (dec_none gv (byteArr ks) ok hb C st) res (fun h => ?_) h2
    rw [KBa.ints_make hin, h1 h, tr_same]
  · refine dec_res (dec_altS gv ⟨#[x.toNat, y.toNat]⟩ t2 (byteArr ks) (byteArr [x, y]) ok hb (by rw [byteArr_size]; rfl) C (given_alt (punct_in hx) (punct_in hy) t2) st) res (fun h => ?_) h2
    rw [through_tr (punct_in hx) (punct_in hy), KBa.ints_make hin, h1 h]
end
theorem figs_all {x y : Int} {ln : List Int} (h : (figsOf x y ln).length = ln.length) : ∀ c ∈ ln, 0 ≤ fig x y c := by
  unfold figsOf at h
  have h' : ((ln.map (fig x y)).filter fun a => decide (0 ≤ a)).length = (ln.map (fig x y)).length := by rw [h, List.length_map]
  rw [List.length_filter_eq_length_iff] at h'
  intro c hc
  have := h' _ (List.mem_map.mpr ⟨c, hc, rfl⟩)
  simpa using this
theorem law_says {x y : Int} {av sv : Value} {ln : List Int} {pd : Nat} (hm : Mode x y av sv) (hlin : ∀ c ∈ ln, 0 ≤ c ∧ c < 256 ∧ c ≠ 61) (hlen : ln.length ≤ 16) (hpd : padsOk (figsOf x y ln).length pd) (to_ tt : Tok) :
    Says 8 135 [.bytes (byteArr (octs ln pd)) to_, av, .bool false] (Due (dueOf (figsOf x y ln) pd)) ∧
    Says 8 135 [.bytes (byteArr (octs ln pd)) to_, av, .bool true] (Due (if (figsOf x y ln).length = ln.length then dueOf (figsOf x y ln) pd else none)) ∧
    Says 8 135 [.str ⟨((octs ln pd).map Int.toNat).toArray⟩ tt, sv, .bool true] (Due (if (figsOf x y ln).length = ln.length then dueOf (figsOf x y ln) pd else none)) ∧
    Says 8 135 [.str ⟨((octs ln pd).map Int.toNat).toArray⟩ tt, sv, .bool false] (Due (if ln.filter (fun a => !decide (0 ≤ a ∧ a ≤ 127)) = [] then dueOf (figsOf x y ln) pd else none)) := by
  have ha := mode_alt hm
  have hl61 : ∀ c ∈ ln, c ≠ 61 := fun c hc => (hlin c hc).2.2
  have hin : KBa.In (octs ln pd) := octs_in fun c hc => ⟨(hlin c hc).1, (hlin c hc).2.1⟩
  have hpd4 : pd < 4 := hpd.elim (fun h => h ▸ (by decide)) fun h => h.1
  have hol : (octs ln pd).length ≤ 20 := by rw [octs_len]; omega
  have hloose := law_loose ha ln hl61 pd hpd
  have hstrict := law_strict ha ln hl61 pd hpd
  have hok : (∀ k ∈ octs ln pd, k < 128) ↔ ∀ k ∈ ln, k < 128 := by
    unfold octs
    constructor
    · intro h k hk
      exact h k (List.mem_append_left _ hk)
    · intro h k hk
      rcases List.mem_append.mp hk with h' | h'
      · exact h k h'
      · rw [(List.mem_replicate.mp h').2]; decide
  refine ⟨says_b hm hin (by omega) (given_by _ _) false _ (fun _ => hloose.symm) (fun h => absurd trivial h), says_b hm hin (by omega) (given_by _ _) true _ (fun _ => hstrict.symm) (fun h => absurd trivial h),
    says_s hm hin (by omega) (given_text (by omega) hin tt) true _ (fun _ => hstrict.symm) (fun h => ?_), says_s hm hin (by omega) (given_text (by omega) hin tt) false _ (fun h => ?_) (fun h => ?_)⟩
  · rw [if_neg fun he => h (hok.mpr fun k hk => (fig_ascii ha (figs_all he k hk)).2)]
  · rw [hloose, if_pos]
    rw [List.filter_eq_nil_iff]
    intro k hk
    have h1 := hok.mp h k hk
    have h0 := (hlin k hk).1
    simp
    omega
  · rw [if_neg]
    intro he
    rw [List.filter_eq_nil_iff] at he
    refine h (hok.mpr fun k hk => ?_)
    have := he k hk
    simp at this
    have h0 := (hlin k hk).1
    omega
end Mine
end
-- part: L0
section
open PySem PySem.W PySem.W.X PySem.Calls PyProof.Rows
set_option maxRecDepth 100000
set_option maxHeartbeats 8000000
namespace Mine
theorem holds_of (H : LawTold) : PySem.Challenge.rw_qh0112_01.Holds := hd (by
  w_top off
  w_strict (
    k_fill
    intro w s₀ s₁ mg mb G Y fa o pm cd doc dV kV ho hd hcd hD hmg hg args vals as hpre hlay hrd hwl hlo
    have KX := kIn_of Y
    refine Ground.open G ?_
    intro T B D TE TW
    wrow_args hpre hlay hrd hwl hlo
    x_fa T KX hmg
    refine enter_call ?_
    refine H w _ mg mb s₁ _ _ _ _ KX T (by assumption) (by assumption) (by assumption) ?_
    intro h' tk' L m F
    refine GoodW.toG ?_
    wrow_close))
end Mine
end
-- part: L1
section
open PySem PySem.W PySem.Calls PyProof.Rows
set_option maxRecDepth 100000
set_option maxHeartbeats 8000000
namespace Mine
local macro_rules | `(tactic| walk_at $s:str) => `(tactic| k_extra $s)
theorem rows_law1 : True := by
  k_with_none
  exact trivial
theorem rows_law2 : True := by
  k_with "binaryOp Add ref ref" => (k_here; refine' add_K (by k_asm) (by k_asm) (by first | exact News.isList (by k_asm) (by k_mem) | assumption) (by first | exact News.isList (by k_asm) (by k_mem) | assumption) (by first | assumption | exact IntsAre.ofCarried (by assumption) | exact .cons _ _ (.cons _ _ .nil)) (by first | assumption | exact IntsAre.ofCarried (by assumption) | exact .cons _ _ (.cons _ _ .nil)) ?_ (by first | (rw [sizeLine_eq]; decide) | exact Nat.le_of_ble_eq_true rfl); intro l9 h9 F9 N9 I9 l1; (try k_lt l1); (try k_sweep))
  exact trivial
theorem rows_law3 : True := by
  k_with "subscriptTail Name" => (k_here; (with_reducible show wpAny _ _ (subscriptTail _ _ (Value.ref _) (Value.int _ _)) _ _ _); k_dflt (refine' item_K (by exact News.isList (by k_asm) (by k_mem)) (by assumption) (by first | omega | (law_fm; omega)) (by first | omega | (law_fm; omega)) (by first | omega | decide) ?_ (by with_unfolding_all rfl); k_whole); intro t9; (try dsimp only))
  exact trivial
theorem rows_law4 : True := by
  k_with "call type:bytes" => (k_here; (with_reducible show wpAny _ _ (call (Value.type "bytes") [Value.ref _]) _ _ _); k_dflt (refine' KBa.make_K (by k_asm) (by k_asm) (by rfl) (by exact News.isList (by k_asm) (by k_mem)) (by first | assumption | exact .cons _ _ (.cons _ _ .nil)) (by first | assumption | exact in_due (by assumption) | exact in2 (by assumption) (by assumption)) (by first | exact Nat.le_of_ble_eq_true rfl | exact due_fits (by assumption) (by assumption) | omega) ?_); intro h9 t9 k9 F9 N9 I9; (try dsimp only); (try k_sweep))
  exact trivial
theorem rows_law5 : True := by
  k_with "subscriptTail Name Constant ref int" => (k_here; (with_reducible show wpAny _ _ (subscriptTail _ _ (Value.ref _) (Value.int 0 _)) _ _ _); k_dflt (refine' item0_K (by exact News.isList (by k_asm) (by k_mem)) (by exact .cons _ _ (.cons _ _ .nil)) (by exact Nat.le_of_ble_eq_true rfl) ?_ (by with_unfolding_all rfl); k_whole); intro t9; (try dsimp only))
  exact trivial
theorem rows_law6 : True := by
  k_with "subscriptTail Name Constant ref int" => (k_here; (with_reducible show wpAny _ _ (subscriptTail _ _ (Value.ref _) (Value.int 1 _)) _ _ _); k_dflt (refine' item1_K (by exact News.isList (by k_asm) (by k_mem)) (by exact .cons _ _ (.cons _ _ .nil)) (by exact Nat.le_of_ble_eq_true rfl) ?_ (by with_unfolding_all rfl); k_whole); intro t9; (try dsimp only))
  exact trivial
theorem rows_law7 : True := by
  k_with "binaryOp Add str str" => (k_here; (with_reducible show wpAny _ _ (binaryOp Operator.Add (Value.str (Str.mk #[_]) _) (Value.str (Str.mk #[_]) _)) _ _ _); (refine PyProof.Rows.add_str ?_ (by (show 1 + 1 ≤ sizeLine); rw [sizeLine_eq]; decide)); intro t9 k9; (try dsimp only))
  exact trivial
theorem rows_law8 : True := by
  k_with "execs cons Assign cons" => (k_here; first | k_gentoks | ((with_reducible refine wpAny_execs_cons ?_); (try dsimp only)))
  exact trivial
theorem rows_law9 : True := by
  k_with "execs cons Assign nil" => (k_here; first | k_gentoks | ((with_reducible refine wpAny_execs_cons ?_); (try dsimp only)))
  exact trivial
theorem rows_law10 : True := by
  k_with "call type:list" => (k_here; (with_reducible show wpAny _ _ (call (Value.type "list") [Value.bytes _ _]) _ _ _); k_dflt (refine' list_bytes (by k_asm) (by k_asm) (by rfl) (by first | exact Nat.le_of_ble_eq_true rfl | (rw [sizeLine_eq]; omega)) ?_; k_whole); intro l9 h9 tk9 ys9 n9 F9 N9 I9 l1; (try k_lt l1); (try dsimp only); (try k_sweep))
  exact trivial
local macro_rules | `(tactic| ktr_rel) => `(tactic| ((case b => k_asm); (case f => k_asm); (case n => k_asm); (case xb => assumption); (case tb => assumption); (case ef => exact rfl); (case ek => exact rfl); (case hd => ((try simp only [depth_in1, depth_deeper, depth_caller]); (try dsimp only); decide)); (case hu => ((have hcL9 := cLine_is); (try simp only [units_in1, units_deeper, Around.mark_units, units_caller]); (try dsimp only); omega))))
local macro_rules | `(tactic| walk_at "call ref") => `(tactic| (k_here; (with_reducible show wpAny _ _ (call (Value.ref 128) [Value.int _ _, Value.ref _]) _ _ _); k_dflt (refine' told_useE (figure_told _ _ _ _ _ _ _) ?b ?f ?n ?xb ?tb ?ef ?ek ?hd ?hu ?p ?_; (case p => exact ⟨_, News.get (by k_asm) (by k_mem)⟩); ktr_rel; k_whole); intro v9 h9 tk9 hv9 F9 N9 S9; obtain ⟨t9, hv9⟩ := hv9; subst hv9; (try dsimp only); (try k_sweep)))
theorem rows_law11 : True := by
  k_with "binaryOp Pow int int" => (k_here; (with_reducible refine pow_int_small (by exact (exp_in _).1) (by exact (exp_in _).2) (by decide) ?_))
  exact trivial
theorem rows_law12 : True := by
  k_with "binaryOp FloorDiv int int" => (k_here; (with_reducible show wpAny _ _ (binaryOp Operator.FloorDiv (Value.int _ _) (Value.int (2 ^ Int.toNat (4 - Int.fmod (8 * _) 6)) _)) _ _ _); (with_reducible refine floordiv_int (by exact Int.ne_of_gt (Int.pow_pos (by decide))) ?_ (Or.inl (PyProof.noPylong_of_log2 (by exact kbt_py (exp_lt _))))))
  exact trivial
theorem rows_law13 : True := by
  k_with "binaryOp Mod int int" => (k_here; (with_reducible show wpAny _ _ (binaryOp Operator.Mod (Value.int (Int.fdiv _ (2 ^ Int.toNat (4 - Int.fmod (8 * _) 6))) _) (Value.int 256 _)) _ _ _); (with_reducible refine mod_due ?_); intro v9 hv9; (have hr9 := due_room (by assumption) (by assumption)); (try dsimp only))
  exact trivial
theorem rows_law14 : True := by
  k_with "binaryOp Mod int int" => (k_here; (with_reducible show wpAny _ _ (binaryOp Operator.Mod (Value.int (8 * _) _) (Value.int 6 _)) _ _ _); (with_reducible refine mod_int' (by decide) ?_))
  exact trivial
theorem rows_law15 : True := by
  k_with "binaryOp Add bytes bytes" => (k_here; (with_reducible refine add_oct (by assumption) (by assumption) ?_); intro t9 k9; (try dsimp only))
  exact trivial
theorem rows_law16 : True := by
  k_with "eval ListComp Call cons" => (k_here; (with_reducible show wpAny _ _ (eval (Expr.ListComp (Expr.Call (Expr.Name (PySem.Str.ofString "chr") _) _ _ _) _ _ _) _) _ _ _); k_dflt (refine ListComp_B (F₀ := by k_asm) (by with_unfolding_all rfl) (by decide) (by rfl) (by decide) (by rfl) ?_); walk1; (try dsimp only); k_dflt (refine srcB_chr (by rfl) (by k_asm) (by k_asm) (by assumption) (by omega) (fun g' k' t' I' oI' C' oC' D' m' ys' h' tk' E' hlo' hhi' hC' hx' F' N' off' ne' => ?_) (fun g' ys' hc' => ?_)); (all_goals (try (simp only [LCg.Off3, and_true] at off'))); (all_goals (try k_fold)))
  exact trivial
theorem rows_law17 : True := by
  k_with "call builtin:str.join" => (k_here; (with_reducible show wpAny _ _ (call (Value.builtin "str.join") [Value.str _ _, Value.ref _]) _ _ _); (with_reducible rename CarriedAll _ (List.map _ _) => ktC); k_dflt (refine call_join_sgn (by first | assumption | exact News.isList (by k_asm) (by k_mem)) ktC (by omega) ?_); intro t9 k9; (try dsimp only))
  exact trivial
theorem rows_law18 : True := by
  k_with "KCtEl" => exact ⟨rfl, _, rfl⟩
  exact trivial
local macro_rules | `(tactic| walk_at "call ref") => `(tactic| (k_here; (with_reducible show wpAny _ _ (call (Value.ref 135) [_, _, Value.bool _]) _ _ _); k_dflt (refine' says_useE (f := 135) ?c ?b ?f ?n ?xb ?tb ?ef ?ek ?hd ?hu ?_; (case c => assumption); ktr_rel; k_whole); intro v9 h9 tk9 hv9 F9 N9; (first | (have hv8 := due_is_none hv9; subst hv8) | (obtain ⟨t9, hv8⟩ := due_is_some hv9; subst hv8)); clear hv9; (try dsimp only); (try k_sweep)))
theorem rows_law19 : True := by
  k_with "exec Assign cons ListComp" => (k_here; (with_reducible show wpAny _ _ (exec (Stmt.Assign [Expr.Name (PySem.Str.ofString "beyond") _] _ _) _) _ _ _); k_dflt (refine LCt.Assign_ListComp_T (F₀ := by k_asm) (by rfl) (by with_unfolding_all rfl) (by with_unfolding_all rfl) (by decide) (by rfl) (by decide) (by rfl) (by rfl) (by rfl) ?_); walk1; (try dsimp only); k_dflt (refine LCt.CompSrcT.ledger (by rfl) (by k_asm) (by k_asm) (by k_mem) (by (rw [sizeLine_eq, List.size_toArray]; omega)) ?_); intro g'; k_dflt (refine rest_filter (fun a => !decide (0 ≤ a ∧ a ≤ 127)) (by assumption) (by exact Or.inr ⟨_, by k_mem, rfl, _, rfl⟩) (by rfl) (fun _ => by rfl) (by decide) (fun k' t' I' oI' C' oC' D' m' ys' h' tk' E' hk' hC' hx' F' N' off' ne' => ?_) (fun ys' hy' => ?_)); (all_goals (try (simp only [LCg.Off3, and_true] at off'))); (all_goals (try k_fold)))
  exact trivial
local macro_rules | `(tactic| walk_at "call ref") => `(tactic| (k_here; (with_reducible show wpAny _ _ (call (Value.ref 93) [Value.int _ _]) _ _ _); k_dflt (refine' told_useE (ascii_told _ _) ?b ?f ?n ?xb ?tb ?ef ?ek ?hd ?hu ?p ?_; (case p => trivial); ktr_rel; k_whole); intro v9 h9 tk9 hv9 F9 N9 S9; subst hv9; (try dsimp only); (try k_sweep)))
local macro_rules | `(tactic| walk_at "pyIter ref") => `(tactic| (k_here; (with_reducible show wpAny _ _ (pyIter (Value.ref _)) (CompPostA _ _ _ _ _ _ _ _ _ _) _ _); k_dflt (refine' src_ge0 ?h ?l ?i ?F ?N ?k ?c ?d ?_ ?z; (case h => exact rfl); (case l => exact News.isList (by k_asm) (by k_mem)); (case i => assumption); (case F => k_asm); (case N => k_asm); (case k => exact rfl); (case c => (intro _; exact rfl)); (case d => decide); (case z => (simp only [List.length_map]; rw [sizeLine_eq]; omega))); intro D9 ys9 n9 h9 tk9 F9 N9 I9 l1; (try dsimp only)))
theorem law_told : LawTold := by
  w_top off
  unfold LawTold
  k_fill
  intro w mean mg mb s l vs ns R X T hL hI hlay hret
  have B0 := below_caller s.heap
  have D0 : KtsDicts [] s.heap := ktsDicts_nil
  k_dflt (refine' enterC (binds := [(Str.ofString "script", .ref l)]) ?k2 ?k3 ?k4 ?k5 ?k6 ?k7 ?k8 ?k9 ?_ ?c1 ?c2 ?c3; (case k2 => k_asm); (case k3 => k_asm); (case k4 => k_is); (case k5 => k_is); (case k6 => decide); (case k7 => first | exact BindsTo.of_eq rfl | exact binds_K (by k_in) rfl (by k_is) rfl rfl rfl); (case k8 => exact rfl); (case k9 => decide +kernel); (case c1 => exact rfl); (case c2 => exact rfl); (case c3 => exact rfl); k_whole)
  intro L h₁ tk cells F N Y
  obtain ⟨cl, hE, hcl⟩ := CellsAre.one Y
  subst hE
  clear Y
  replace F : Fr s.heap L h₁ (fun y => if y = Str.ofString "script" then some (.ref l) else none) := F
  replace hcl : cl.data = .cell none := hcl
  show wpAny _ _ _ _ _ _
  k_fold
  refine cut2 (Mid1 s.heap L s cl) ?_ ?_
  · k_steps
    all_goals (try trivial)
    · exact ⟨_, _, _, _, _, _, _, _, rfl, by assumption, by assumption, by assumption, by omega, by omega, by omega⟩
    · refine ⟨_, _, _, _, [248, 252, 256, 260], _, _, _, rfl, by assumption, drop2 (by assumption), .cons _ _ (.cons _ _ (.cons _ _ (.cons _ _ .nil))), by decide, by decide, ?_⟩
      omega
  rintro s' ⟨h, tk, l, vs, ns, n, t, m, rfl, F, N, hI, hn1, hn2, hlt⟩
  refine cut (Mid3 s.heap L s cl l vs ns n t m) ?_ ?_
  · k_steps
    all_goals (try trivial)
    exact ⟨_, _, _, _, _, rfl, by assumption, newsSub (by assumption) (by kcj_all), by assumption, by omega, by omega⟩
  clear F N hlt
  rintro s' ⟨h, tk, lo, wo, k, rfl, F, N, hO, hl1, hl2⟩
  have hO65 : othL.length = 65 := by decide
  refine cut (Mid4 s.heap L s l vs ns n t) ?_ ?_
  · k_steps
    all_goals (try trivial)
    obtain ⟨p1, p2, p3⟩ := pair_ok ns.sum
    exact ⟨_, _, _, _, _, _, _, _, _, _, _, rfl, by assumption, newsSub (by assumption) (by kcj_all), by assumption, p1, p2, p3, by omega, by omega⟩
  clear F N hl1 hl2 hO hO65 hcl
  rintro s' ⟨h, tk, lp, lo, x, y, tx, ty, np, cl, m, rfl, F, N, hcl, px, py, pxy, hl1, hl2⟩
  have bx := punct_in px
  have by' := punct_in py
  refine cut2 (Mid6 s.heap L s l vs ns n t lp x y tx ty np cl) ?_ ?_
  · k_steps
    all_goals (try trivial)
    exact ⟨_, _, _, _, _, rfl, frPut (frPut (frPut (frPut (by assumption) rfl) rfl) rfl) rfl, by assumption⟩
  clear F N
  rintro s' ⟨h, tk, t1, t2, m, rfl, F, N⟩
  refine cut (Mid7 s.heap L s l vs ns n t) ?_ ?_
  · k_steps
    all_goals (try trivial)
    · exact ⟨_, _, _, _, _, _, _, _, _, _, _, _, rfl, frPut (frPut (frPut (frPut (by assumption) rfl) rfl) rfl) rfl, newsSub (by assumption) (by kcj_all), by assumption, .inl ⟨rfl, rfl, rfl, rfl⟩, by omega, by omega⟩
    · exact ⟨_, _, _, _, _, _, _, _, _, _, _, _, rfl, by assumption, by assumption, hcl, .inr ⟨px, py, pxy, _, _, rfl, rfl⟩, hl1, hl2⟩
  clear F N hcl px py pxy hl1 hl2 bx by'
  rintro s' ⟨h, tk, lp, x, y, tx, ty, np, cl, av, sv, m, rfl, F, N, hcl, hmode, hl1, hl2⟩
  refine cut (Mid8 s.heap L s l vs ns n t lp x y tx ty np cl av sv) ?_ ?_
  · k_steps
    all_goals (try trivial)
    exact ⟨_, _, _, _, _, _, rfl, by assumption, newsSub (by assumption) (by kcj_all), by assumption, by omega, by omega, by omega⟩
  clear F N
  rintro s' ⟨h, tk, lg, wg, ng, m, rfl, F, N, hG, hg1, hg2, hg3⟩
  refine cut2 (Mid10 s.heap L s l ns t lp x y tx ty np cl av sv) ?_ ?_
  · skip
    k_with "pyIter ref" => k_state (fun pre line => line = pre.map (codeOf x y) ∧ line.length = pre.length) "line"
    k_with "state" => (first | exact ⟨rfl, rfl⟩ | exact lineS (by assumption) (by assumption) (code_a (by assumption) (by assumption)) | exact lineS (by assumption) (by assumption) (code_b (by assumption) (by assumption)) | exact lineS (by assumption) (by assumption) (code_c (by assumption) (by assumption)) | exact lineS (by assumption) (by assumption) (code_d (by assumption) (by assumption)))
    k_steps
    all_goals (try trivial)
    with_reducible rename Fr _ _ _ _ => kF
    with_reducible rename News _ _ _ _ => kN
    rename _ = List.map (codeOf x y) ns => hmap
    subst hmap
    exact ⟨_, _, _, _, _, _, rfl, frPut (frPut (frPut (frPut kF rfl) rfl) rfl) rfl, newsSub kN (by kcj_all), by assumption, by omega, by omega⟩
  clear F N hG hg1 hg2 hg3 hl1 hl2 hI
  rintro s' ⟨h, tk, ll, us, nl, m, rfl, F, N, hU, hl1, hl2⟩
  have halt := mode_alt hmode
  have hlin := line_in halt ns
  have hlen : (ns.map (codeOf x y)).length ≤ 16 := by rw [List.length_map]; exact hn2
  generalize hln : ns.map (codeOf x y) = ln at *
  generalize hS : ns.sum = S at *
  refine cut (Mid11 s.heap L s x y ln S t av sv) ?_ ?_
  · k_steps
    all_goals (try trivial)
    rename (∀ p : Addr × Obj, p ∈ (_ : List (Addr × Obj)) → p.1 ≠ (_ : Addr)) => hne
    exact ⟨_, _, _, _, _, _, _, _, _, rfl, by assumption, newsSub (by assumption) (by kcj_all), by assumption, by assumption, hne _ (.tail _ (.head _))⟩
  clear F N hl1 hl2 hcl
  rintro s' ⟨h, tk, ll, lf, us, wf, nl, nf, m, rfl, F, N, hU, hW, hne⟩
  have hfl := Nat.le_trans (figs_le x y ln) hlen
  have hfi := figs_in halt fun c hc => (hlin c hc).2.2
  generalize hfg : figsOf x y ln = figs at *
  refine cut3 (Mid14 s.heap L s figs ll lf us wf nl nf av sv) ?_ ?_
  · k_steps
    all_goals (try trivial)
    all_goals exact ⟨_, _, _, _, _, _, rfl, by assumption, by assumption, by first | exact pads_zero _ | exact pads_mod _⟩
  clear F N
  rintro s' ⟨h, tk, pi, ts, tp, m, rfl, F, N, pd, rfl, hpd⟩
  refine cut (Mid15 s.heap L s figs ll us nl pd ts tp av sv) ?_ ?_
  · skip
    k_with "pyIter ref" => k_state (fun pre due => due = pre.map (dueI figs) ∧ due.length = pre.length) "due"
    k_with "state" => (first | exact ⟨rfl, rfl⟩ | exact dueS (by assumption) (by assumption) (by assumption))
    k_steps
    all_goals (try trivial)
    all_goals (with_reducible rename Fr _ _ _ _ => kF; with_reducible rename News _ _ _ _ => kN)
    all_goals exact ⟨_, _, _, _, rfl, frPut (frPut (frPut (frPut (frPut (frPut kF rfl) rfl) rfl) rfl) rfl) rfl, newsSub kN (by kcj_all), by first | exact due_done (by assumption) (by assumption) (by assumption) | exact due_none1 (by assumption) | exact due_none2 (by assumption)⟩
  clear F N hW hfi hne
  rintro s' ⟨h, tk, dv, m, rfl, F, N, hdue⟩
  have hIn : KBa.In ln := fun c hc => ⟨(hlin c hc).1, (hlin c hc).2.1⟩
  have hpd4 : pd < 4 := hpd.elim (fun h => h ▸ (by decide)) fun h => h.1
  refine cut (Mid16 s.heap L s figs.length (octs ln pd) ll us nl ts dv av sv) ?_ ?_
  · k_steps
    all_goals (try trivial)
    with_reducible rename Fr _ _ _ _ => kF
    exact ⟨_, _, _, _, rfl, frPut (frPut (frPut (frPut (frPut (frPut kF rfl) rfl) rfl) rfl) rfl) rfl, by assumption⟩
  clear F N
  have hol : (octs ln pd).length ≤ 20 := by rw [octs_len]; omega
  have hoi := octs_in (pd := pd) hIn
  generalize hoc : octs ln pd = oc at *
  rintro s' ⟨h, tk, to_, m, rfl, F, N⟩
  refine cut (Mid17 s.heap L s figs.length oc ll us nl ts to_ dv av sv) ?_ ?_
  · k_steps
    all_goals (try trivial)
    with_reducible rename Fr _ _ _ _ => kF
    with_reducible rename News _ _ _ _ => kN
    exact ⟨_, _, _, _, rfl, kF, newsSub kN (by kcj_all)⟩
  clear F N
  rintro s' ⟨h, tk, tt, m, rfl, F, N⟩
  have hsays := law_says hmode hlin hlen (by rw [hfg]; exact hpd) to_ tt
  rw [hfg, hoc] at hsays
  obtain ⟨hA, hB, hC, hD⟩ := hsays
  clear hlin hIn hpd4 hpd hol hoi hoc hmode
  generalize dueOf figs pd = D at *
  refine cut (Mid18 s.heap L s figs.length oc ll us nl ts to_ tt dv av sv) ?_ ?_
  · rcases D with _ | o
    · replace hdue : dv = .none := hdue
      subst hdue
      k_steps
      all_goals (try trivial)
      all_goals exact ⟨_, _, _, rfl, by assumption, by assumption⟩
    · obtain ⟨td, hdue⟩ := hdue
      subst hdue
      k_steps
      all_goals (try trivial)
      all_goals first
        | exact ⟨_, _, _, rfl, by assumption, by assumption⟩
        | (exfalso; exact bne_off (by assumption))
  clear F N hA
  rintro s' ⟨h, tk, m, rfl, F, N⟩
  refine cut (Mid19 s.heap L s (if figs.length = ln.length then D else none) oc ll us nl to_ tt dv av sv) ?_ ?_
  · k_steps
    all_goals (try trivial)
    all_goals (with_reducible rename Fr _ _ _ _ => kF)
    all_goals exact ⟨_, _, _, _, rfl, frPut (frPut (frPut (frPut (frPut (frPut (frPut kF rfl) rfl) rfl) rfl) rfl) rfl) rfl, by assumption, by first | exact narrow_yes (by assumption) (by assumption) | exact narrow_no (by assumption)⟩
  clear F N
  rintro s' ⟨h, tk, nv, m, rfl, F, N, hnv⟩
  refine cut (Mid20 s.heap L s oc ll us nl tt dv sv) ?_ ?_
  · generalize (if figs.length = ln.length then D else none) = D' at *
    rcases D' with _ | o
    · replace hnv : nv = .none := hnv
      subst hnv
      k_steps
      all_goals (try trivial)
      all_goals (with_reducible rename Fr _ _ _ _ => kF)
      all_goals exact ⟨_, _, _, rfl, frPut (frPut (frPut (frPut kF rfl) rfl) rfl) rfl, by assumption⟩
    · obtain ⟨td, hnv⟩ := hnv
      subst hnv
      k_steps
      all_goals (try trivial)
      all_goals first
        | ((with_reducible rename Fr _ _ _ _ => kF); exact ⟨_, _, _, rfl, frPut (frPut (frPut (frPut kF rfl) rfl) rfl) rfl, by assumption⟩)
        | (exfalso; exact bne_off (by assumption))
  clear F N hB hC
  rintro s' ⟨h, tk, m, rfl, F, N⟩
  have hul := hU.length
  refine cut (Mid21 s.heap L s oc ln tt dv sv) ?_ ?_
  · k_steps
    all_goals (try trivial)
    all_goals first
      | assumption
      | ((with_reducible rename Fr _ _ _ _ => kF); (with_reducible rename News _ _ _ _ => kN); exact ⟨_, _, _, _, _, _, rfl, frPut (frPut (frPut (frPut kF rfl) rfl) rfl) rfl, newsSub kN (by kcj_all), by assumption⟩)
  clear F N
  rintro s' ⟨h, tk, lb, wb, nb, m, rfl, F, N, hW⟩
  by_cases hb : ln.filter (fun a => !decide (0 ≤ a ∧ a ≤ 127)) = []
  · rw [if_pos hb] at hD
    rw [hb] at hW
    cases hW
    rcases D with _ | o
    · replace hdue : dv = .none := hdue
      subst hdue
      k_steps
      all_goals first | exact hret _ _ _ _ (by assumption) | exact ret_same hret (by assumption)
    · obtain ⟨td, hdue⟩ := hdue
      subst hdue
      k_steps
      all_goals first | exact hret _ _ _ _ (by assumption) | exact ret_same hret (by assumption)
  · rw [if_neg hb] at hD
    generalize ln.filter (fun a => !decide (0 ≤ a ∧ a ≤ 127)) = bl at *
    cases bl with
    | nil => exact absurd rfl hb
    | cons a r =>
      cases hW
      k_steps
      all_goals first | exact hret _ _ _ _ (by assumption) | exact ret_same hret (by assumption)
end Mine
end
theorem PySem.Challenge.cw_qh0112_01_holds : PySem.Challenge.rw_qh0112_01.Holds := by
  exact Mine.holds_of Mine.law_told
