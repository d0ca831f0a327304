import PyProof.Rows.All
import Wide.All
import OpenK.AllK
import Wide.FinOn
import PySem.Challenge.RW_bh0007_01
open PySem PySem.W PyProof.Rows
set_option Elab.async false
set_option maxRecDepth 100000
namespace Mine
/-! ## the plain law: the text's functions on ints -/
def isLeap (y : Int) : Bool := decide (Int.fmod y 4 = 0) && (decide (Int.fmod y 100 ≠ 0) || decide (Int.fmod y 400 = 0))
def gjd (y m d : Int) : Int :=
  1721426 - 1 + 365 * (y - 1) + Int.fdiv (y - 1) 4 + -(Int.fdiv (y - 1) 100) + Int.fdiv (y - 1) 400 + (Int.fdiv (367 * m - 362) 12 + (if m ≤ 2 then 0 else if isLeap y then -1 else -2) + d)
def iLeap (y : Int) : Bool := decide (Int.fmod (y * 11 + 14) 30 < 11)
def ijd (y m d : Int) : Int :=
  d + -(Int.fdiv (-59 * (m - 1)) 2) + (y - 1) * 354 + Int.fdiv (3 + 11 * y) 30 + 1948440 - 1
def mlen (y m : Int) : Int := if m = 1 ∨ m = 3 ∨ m = 5 ∨ m = 7 ∨ m = 9 ∨ m = 11 ∨ (m = 12 ∧ iLeap y = true) then 30 else 29
def ylen (y : Int) : Int := if iLeap y then 355 else 354
def iY (j : Int) : Int := Int.fdiv (30 * (j - 1948440) + 10646) 10631
def iQ (j : Int) : Int := -(Int.fdiv (-2 * (j - (29 + ijd (iY j) 1 1))) 59) + 1
def iM (j : Int) : Int := if iQ j < 12 then iQ j else 12
def iD (j : Int) : Int := j - ijd (iY j) (iM j) 1 + 1
def gY (j : Int) : Int :=
  if Int.fdiv (Int.fmod (j - 1721426) 146097) 36524 = 4 ∨ Int.fdiv (Int.fmod (Int.fmod (Int.fmod (j - 1721426) 146097) 36524) 1461) 365 = 4 then
    Int.fdiv (j - 1721426) 146097 * 400 + Int.fdiv (Int.fmod (j - 1721426) 146097) 36524 * 100 + Int.fdiv (Int.fmod (Int.fmod (j - 1721426) 146097) 36524) 1461 * 4 + Int.fdiv (Int.fmod (Int.fmod (Int.fmod (j - 1721426) 146097) 36524) 1461) 365
  else
    Int.fdiv (j - 1721426) 146097 * 400 + Int.fdiv (Int.fmod (j - 1721426) 146097) 36524 * 100 + Int.fdiv (Int.fmod (Int.fmod (j - 1721426) 146097) 36524) 1461 * 4 + Int.fdiv (Int.fmod (Int.fmod (Int.fmod (j - 1721426) 146097) 36524) 1461) 365 + 1
/-- the Islamic year of the month's first day behind 1 January -/
def islOf (T I m : Int) : Int := if I < m then T else T + 1
def tg (y m d : Int) : Int := ijd (if m < iM (gjd y 1 1) then iY (gjd y 1 1) + 1 else iY (gjd y 1 1)) m d

theorem fd (a : Int) {n : Int} (h : 0 ≤ n) : Int.fdiv a n = a / n := Int.fdiv_eq_ediv_of_nonneg a h
theorem fm (a : Int) {n : Int} (h : 0 ≤ n) : Int.fmod a n = a % n := Int.fmod_eq_emod_of_nonneg a h

theorem ijd_def (y m d : Int) : ijd y m d = d + -((-59 * (m - 1)) / 2) + (y - 1) * 354 + (3 + 11 * y) / 30 + 1948439 := by
  unfold ijd; rw [fd _ (by decide), fd _ (by decide)]; omega
theorem iLeap_def (y : Int) : iLeap y = decide ((y * 11 + 14) % 30 < 11) := by unfold iLeap; rw [fm _ (by decide)]
theorem iY_def (j : Int) : iY j = (30 * (j - 1948440) + 10646) / 10631 := by unfold iY; rw [fd _ (by decide)]
theorem iQ_def (j : Int) : iQ j = -((-2 * (j - (29 + ijd (iY j) 1 1))) / 59) + 1 := by unfold iQ; rw [fd _ (by decide)]
theorem mlen_cases (y m : Int) : mlen y m = 29 ∨ mlen y m = 30 := by unfold mlen; split <;> simp

theorem iY_ijd (y m d : Int) (h1 : 1 ≤ m) (h2 : m ≤ 12) (h3 : 1 ≤ d) (h4 : d ≤ 29) : iY (ijd y m d) = y := by
  rw [iY_def, ijd_def]; omega
theorem iM_ijd (y m d : Int) (h1 : 1 ≤ m) (h2 : m ≤ 12) (h3 : 1 ≤ d) (h4 : d ≤ 29) : iM (ijd y m d) = m := by
  have e := iY_ijd y m d h1 h2 h3 h4
  have q : iQ (ijd y m d) = m := by
    rw [iQ_def, e, ijd_def, ijd_def]; omega
  unfold iM; rw [q]; split <;> omega
theorem iD_ijd (y m d : Int) (h1 : 1 ≤ m) (h2 : m ≤ 12) (h3 : 1 ≤ d) (h4 : d ≤ 29) : iD (ijd y m d) = d := by
  unfold iD
  rw [iY_ijd y m d h1 h2 h3 h4, iM_ijd y m d h1 h2 h3 h4, ijd_def, ijd_def]; omega
/-- 1 January lies in its own Islamic year and month -/
theorem inside (j : Int) : 1 ≤ iM j ∧ iM j ≤ 12 ∧ ijd (iY j) (iM j) 1 ≤ j ∧ j < ijd (iY j) (iM j) 1 + (if iM j = 12 then 30 else -((-59 * iM j) / 2) + (-59 * (iM j - 1)) / 2) ∧ (iM j = 12 → j < ijd (iY j + 1) 1 1) := by
  have e : iM j = if iQ j < 12 then iQ j else 12 := rfl
  have q := iQ_def j
  have y := iY_def j
  rw [ijd_def] at q ⊢
  generalize iQ j = Q at *
  generalize iM j = M at *
  generalize iY j = Y at *
  rw [ijd_def]
  split at e <;> (subst e; refine ⟨?_, ?_, ?_, ?_, ?_⟩) <;> (first | omega | (split <;> omega))
theorem gjd_jan (y : Int) : gjd y 1 1 = 1721426 + 365 * (y - 1) + (y - 1) / 4 - (y - 1) / 100 + (y - 1) / 400 := by
  unfold gjd
  rw [fd _ (by decide), fd _ (by decide), fd _ (by decide), fd _ (by decide), if_pos (by decide)]
  omega
theorem gY_in (y j : Int) (h1 : gjd y 1 1 ≤ j) (h2 : j < gjd y 1 1 + 365) : gY j = y := by
  rw [gjd_jan] at h1 h2
  unfold gY
  rw [fd _ (by decide), fd _ (by decide), fd _ (by decide), fd _ (by decide), fm _ (by decide), fm _ (by decide), fm _ (by decide)]
  obtain ⟨a, b, c, e, k, hp, hb, hc, he, hk, hy, hj⟩ : ∃ a b c e k : Int, y - 1 = 400 * a + 100 * b + 4 * c + e ∧ (0 ≤ b ∧ b ≤ 3) ∧ (0 ≤ c ∧ c ≤ 24) ∧ (0 ≤ e ∧ e ≤ 3) ∧ (0 ≤ k ∧ k ≤ 364) ∧ y = 400 * a + 100 * b + 4 * c + e + 1 ∧ j - 1721426 = 146097 * a + 36524 * b + 1461 * c + 365 * e + k := by
    refine ⟨(y - 1) / 400, (y - 1) / 100 - 4 * ((y - 1) / 400), (y - 1) / 4 - 25 * ((y - 1) / 100), (y - 1) - 4 * ((y - 1) / 4), j - (1721426 + 365 * (y - 1) + (y - 1) / 4 - (y - 1) / 100 + (y - 1) / 400), ?_, ?_, ?_, ?_, ?_, ?_, ?_⟩ <;> omega
  clear h1 h2
  rw [hj, hy]
  have a1 : (146097 * a + 36524 * b + 1461 * c + 365 * e + k) / 146097 = a := by omega
  have a2 : (146097 * a + 36524 * b + 1461 * c + 365 * e + k) % 146097 = 36524 * b + 1461 * c + 365 * e + k := by omega
  have e1 : (36524 * b + 1461 * c + 365 * e + k) / 36524 = b := by omega
  have e2 : (36524 * b + 1461 * c + 365 * e + k) % 36524 = 1461 * c + 365 * e + k := by omega
  have e3 : (1461 * c + 365 * e + k) / 1461 = c := by omega
  have e4 : (1461 * c + 365 * e + k) % 1461 = 365 * e + k := by omega
  have e5 : (365 * e + k) / 365 = e := by omega
  rw [a1, a2, e1, e2, e3, e4, e5, if_neg (by omega)]
  omega
/-- what stands of a number told for a month that is not 1 January's -/
theorem number_facts (y m d : Int) (h1 : 1 ≤ m) (h2 : m ≤ 12) (h3 : 1 ≤ d) (h4 : d ≤ 29) (hm : m ≠ iM (gjd y 1 1)) :
    tg y m d = ijd (islOf (iY (gjd y 1 1)) (iM (gjd y 1 1)) m) m d ∧ gjd y 1 1 ≤ tg y m d ∧ tg y m d < gjd y 1 1 + 355 ∧ ijd (islOf (iY (gjd y 1 1)) (iM (gjd y 1 1)) m - 1) m d < gjd y 1 1 := by
  obtain ⟨a1, a2, a3, a4, a5⟩ := inside (gjd y 1 1)
  unfold tg islOf
  generalize gjd y 1 1 = S at *
  generalize iY S = T at *
  generalize iM S = I at *
  rw [ijd_def] at a3 a4 a5
  by_cases hlt : I < m
  · rw [if_neg (by omega), if_pos hlt, ijd_def, ijd_def]
    refine ⟨rfl, ?_, ?_, ?_⟩
    · omega
    · omega
    · omega
  · have hg : m < I := by omega
    rw [if_pos hg, if_neg hlt, ijd_def, ijd_def]
    refine ⟨rfl, ?_, ?_, ?_⟩
    · omega
    · split at a4 <;> omega
    · omega
theorem carry (y : Int) : (¬ (y * 11 + 14) % 30 < 11 ∧ (3 + 11 * (y + 1)) / 30 = (3 + 11 * y) / 30) ∨ ((y * 11 + 14) % 30 < 11 ∧ (3 + 11 * (y + 1)) / 30 = (3 + 11 * y) / 30 + 1) := by
  by_cases h : (3 + 11 * y) % 30 < 19
  · left
    have e1 : (3 + 11 * (y + 1)) / 30 = (3 + 11 * y) / 30 := by omega
    have e2 : (y * 11 + 14) % 30 = (3 + 11 * y) % 30 + 11 := by omega
    exact ⟨by omega, e1⟩
  · right
    have e1 : (3 + 11 * (y + 1)) / 30 = (3 + 11 * y) / 30 + 1 := by omega
    have e2 : (y * 11 + 14) % 30 = (3 + 11 * y) % 30 - 19 := by omega
    exact ⟨by omega, e1⟩
theorem ylen_step (y : Int) : ijd (y + 1) 1 1 - ijd y 1 1 = ylen y := by
  unfold ylen; rw [ijd_def, ijd_def, iLeap_def]
  simp only [decide_eq_true_eq]
  rcases carry y with ⟨h, e⟩ | ⟨h, e⟩
  · rw [if_neg h, e]; omega
  · rw [if_pos h, e]; omega
theorem month_step (y m d : Int) (h1 : 1 ≤ m) (h2 : m ≤ 11) : ijd y (m + 1) d - ijd y m d = mlen y m := by
  unfold mlen; rw [ijd_def, ijd_def]
  have h : (m = 12) = False := by simp; omega
  simp only [h, false_and, or_false]
  have hm : m = 1 ∨ m = 2 ∨ m = 3 ∨ m = 4 ∨ m = 5 ∨ m = 6 ∨ m = 7 ∨ m = 8 ∨ m = 9 ∨ m = 10 ∨ m = 11 := by omega
  generalize (y - 1) * 354 = a
  generalize (3 + 11 * y) / 30 = b
  rcases hm with h | h | h | h | h | h | h | h | h | h | h <;> subst h <;> simp <;> omega
theorem year_step (y d : Int) : ijd (y + 1) 1 d - ijd y 12 d = mlen y 12 := by
  unfold mlen; rw [ijd_def, ijd_def, iLeap_def]
  rcases carry y with ⟨h, e⟩ | ⟨h, e⟩
  · rw [if_neg (by simp [h]), e]; omega
  · rw [if_pos (by simp [h]), e]; omega
theorem mlen_sum (y : Int) : ([1, 2, 3, 4, 5, 6, 7, 8, 9, 10, 11, 12].map (mlen y)).sum = ylen y := by
  unfold ylen
  cases h : iLeap y <;> simp [mlen, h]
theorem rangeKs_1_13 : rangeKs 1 (13 - 1 : Int).toNat = [1, 2, 3, 4, 5, 6, 7, 8, 9, 10, 11, 12] := by decide
/-- the months in their order -/
def mons (I : Int) : List Int := rangeKs (I + 1) (13 - (I + 1)).toNat ++ rangeKs 1 (I - 1).toNat
theorem mons_get {I : Int} (h1 : 1 ≤ I) (h2 : I ≤ 12) {k : Nat} {m : Int} (h : (mons I)[k]? = some m) :
    (m = I + 1 + k ∧ I < m ∧ m ≤ 12) ∨ (m = (k : Int) - 11 + I ∧ m < I ∧ 1 ≤ m) := by
  unfold mons at h
  rw [List.getElem?_append] at h
  rw [rangeKs_length] at h
  split at h
  · rename_i hk
    have e : (rangeKs (I + 1) (13 - (I + 1)).toNat)[k]? = some (I + 1 + (k : Int)) := by simp [rangeKs, hk]
    rw [e] at h
    left
    have := Option.some.inj h
    omega
  · rename_i hk
    have hk2 : k - (13 - (I + 1)).toNat < (I - 1).toNat := by
      rcases List.getElem?_eq_some_iff.mp h with ⟨hlt, _⟩
      rwa [rangeKs_length] at hlt
    have e : (rangeKs 1 (I - 1).toNat)[k - (13 - (I + 1)).toNat]? = some (1 + ((k - (13 - (I + 1)).toNat : Nat) : Int)) := by
      unfold rangeKs
      rw [List.getElem?_map, List.getElem?_range hk2]; rfl
    rw [e] at h
    right
    have := Option.some.inj h
    omega
theorem mons_mem {I : Int} (h1 : 1 ≤ I) (h2 : I ≤ 12) {m : Int} (h : m ∈ mons I) : 1 ≤ m ∧ m ≤ 12 ∧ m ≠ I := by
  obtain ⟨k, hk⟩ := List.getElem?_of_mem h
  have := mons_get h1 h2 hk
  omega
theorem mons_next {I : Int} (h1 : 1 ≤ I) (h2 : I ≤ 12) {q post : List Int} {m n : Int} (h : mons I = (q ++ [m]) ++ n :: post) :
    (1 ≤ m ∧ m ≤ 11 ∧ n = m + 1 ∧ (I < m ↔ I < n)) ∨ (m = 12 ∧ n = 1 ∧ I < m ∧ ¬ I < n) := by
  have hm : (mons I)[q.length]? = some m := by rw [h]; simp
  have hn : (mons I)[q.length + 1]? = some n := by rw [h]; simp [List.getElem?_append]
  have a := mons_get h1 h2 hm
  have b := mons_get h1 h2 hn
  omega
theorem mons_len {I : Int} (h1 : 1 ≤ I) (h2 : I ≤ 12) : (mons I).length = 11 := by
  unfold mons; rw [List.length_append, rangeKs_length, rangeKs_length]; omega
theorem isl_step {T I m n d : Int} (h : (1 ≤ m ∧ m ≤ 11 ∧ n = m + 1 ∧ (I < m ↔ I < n)) ∨ (m = 12 ∧ n = 1 ∧ I < m ∧ ¬ I < n)) :
    ijd (islOf T I n) n d - ijd (islOf T I m) m d = mlen (islOf T I m) m := by
  rcases h with ⟨a, b, rfl, c⟩ | ⟨rfl, rfl, c, e⟩
  · have : islOf T I (m + 1) = islOf T I m := by unfold islOf; by_cases hq : I < m <;> simp [hq, c.mp] <;> omega
    rw [this]
    exact month_step _ _ _ a b
  · unfold islOf
    rw [if_pos c, if_neg e]
    exact year_step _ _
/-! markers -/
def YearOk (b : Int) : Prop := 0 ≤ b
def DayOk (b : Int) : Prop := 1 ≤ b ∧ b ≤ 29
abbrev yOf {b : Int} (_ : YearOk b) : Int := b
abbrev dOf {b : Int} (_ : DayOk b) : Int := b
abbrev cOf {o : Obj} {x : Int} {t : Tok} (_ : o.data = .cell (some (.int x t))) : Int := x
/-- what the loop keeps: nothing yet, or the month told last -/
def Inv (y d : Int) (pre : List Int) (x : Dat) : Prop :=
  (pre = [] ∧ x = .none) ∨ ∃ q m, pre = q ++ [m] ∧ x = .tuple [.int (tg y m d), .int (islOf (iY (gjd y 1 1)) (iM (gjd y 1 1)) m), .int m]
theorem inv_start {y d : Int} : Inv y d [] .none := .inl ⟨rfl, rfl⟩
theorem inv_next {y d n : Int} {pre : List Int} : Inv y d (pre ++ [n]) (.tuple [.int (tg y n d), .int (islOf (iY (gjd y 1 1)) (iM (gjd y 1 1)) n), .int n]) := .inr ⟨pre, n, rfl, rfl⟩
theorem turn_facts {y d : Int} (hd : DayOk d) {pre post : List Int} {n : Int}
    (e : rangeKs (iM (gjd y 1 1) + 1) (13 - (iM (gjd y 1 1) + 1)).toNat ++ rangeKs 1 (iM (gjd y 1 1) - 1).toNat = pre ++ n :: post) :
    (1 ≤ n ∧ n ≤ 12 ∧ n ≠ iM (gjd y 1 1)) ∧ (gjd y 1 1 ≤ tg y n d ∧ tg y n d < gjd y 1 1 + 355 ∧ ijd (islOf (iY (gjd y 1 1)) (iM (gjd y 1 1)) n - 1) n d < gjd y 1 1) ∧
      (iY (tg y n d) = islOf (iY (gjd y 1 1)) (iM (gjd y 1 1)) n ∧ iM (tg y n d) = n ∧ iD (tg y n d) = d ∧ gY (tg y n d) = y) := by
  have hi := inside (gjd y 1 1)
  have hm : n ∈ mons (iM (gjd y 1 1)) := by
    show n ∈ rangeKs (iM (gjd y 1 1) + 1) (13 - (iM (gjd y 1 1) + 1)).toNat ++ rangeKs 1 (iM (gjd y 1 1) - 1).toNat
    rw [e]; simp
  have hb := mons_mem hi.1 hi.2.1 hm
  have hf := number_facts y n d hb.1 hb.2.1 hd.1 hd.2 hb.2.2
  refine ⟨hb, ⟨hf.2.1, hf.2.2.1, hf.2.2.2⟩, ?_, ?_, ?_, ?_⟩
  · rw [hf.1]; exact iY_ijd _ _ _ hb.1 hb.2.1 hd.1 hd.2
  · rw [hf.1]; exact iM_ijd _ _ _ hb.1 hb.2.1 hd.1 hd.2
  · rw [hf.1]; exact iD_ijd _ _ _ hb.1 hb.2.1 hd.1 hd.2
  · exact gY_in y _ hf.2.1 (by omega)
theorem inv_open {y d : Int} (hd : DayOk d) {pre post : List Int} {n : Int} {x : Dat} (h : Inv y d pre x)
    (e : rangeKs (iM (gjd y 1 1) + 1) (13 - (iM (gjd y 1 1) + 1)).toNat ++ rangeKs 1 (iM (gjd y 1 1) - 1).toNat = pre ++ n :: post) :
    x = .none ∨ ∃ m, x = .tuple [.int (tg y m d), .int (islOf (iY (gjd y 1 1)) (iM (gjd y 1 1)) m), .int m] ∧ tg y n d - tg y m d = mlen (islOf (iY (gjd y 1 1)) (iM (gjd y 1 1)) m) m := by
  rcases h with ⟨_, hx⟩ | ⟨q, m, hp, hx⟩
  · exact .inl hx
  · refine .inr ⟨m, hx, ?_⟩
    subst hp
    have hi := inside (gjd y 1 1)
    have e' : mons (iM (gjd y 1 1)) = (q ++ [m]) ++ n :: post := e
    have hn : n ∈ mons (iM (gjd y 1 1)) := by rw [e']; simp
    have hm : m ∈ mons (iM (gjd y 1 1)) := by rw [e']; simp
    have bn := mons_mem hi.1 hi.2.1 hn
    have bm := mons_mem hi.1 hi.2.1 hm
    rw [(number_facts y n d bn.1 bn.2.1 hd.1 hd.2 bn.2.2).1, (number_facts y m d bm.1 bm.2.1 hd.1 hd.2 bm.2.2).1]
    exact isl_step (mons_next hi.1 hi.2.1 e')
theorem dat_none {news : List (Addr × Obj)} {v : Value} (h : DatIn news v .none) : v = .none := by cases h; rfl
theorem dat_tup {news : List (Addr × Obj)} {v : Value} {a b c : Int} (h : DatIn news v (.tuple [.int a, .int b, .int c])) :
    ∃ (D : Addr) (t1 t2 t3 : Tok) (n : Nat), v = .ref D ∧ (D, ({ cls := .type "tuple", data := .seq #[.int a t1, .int b t2, .int c t3] n } : Obj)) ∈ news := by
  cases h with
  | tuple hm hall =>
    cases hall with
    | cons h1 r1 =>
      cases r1 with
      | cons h2 r2 =>
        cases r2 with
        | cons h3 r3 =>
          cases r3
          cases h1; cases h2; cases h3
          exact ⟨_, _, _, _, _, rfl, hm⟩
theorem inv_both {y d : Int} (hd : DayOk d) {pre post : List Int} {n : Int} {x : Dat} {v : Value} {news : List (Addr × Obj)} (h : Inv y d pre x)
    (e : rangeKs (iM (gjd y 1 1) + 1) (13 - (iM (gjd y 1 1) + 1)).toNat ++ rangeKs 1 (iM (gjd y 1 1) - 1).toNat = pre ++ n :: post) (hf : DatIn news v x) :
    v = .none ∨ ∃ (m : Int) (D : Addr) (t1 t2 t3 : Tok) (k : Nat), v = .ref D ∧ (D, ({ cls := .type "tuple", data := .seq #[.int (tg y m d) t1, .int (islOf (iY (gjd y 1 1)) (iM (gjd y 1 1)) m) t2, .int m t3] k } : Obj)) ∈ news ∧ tg y n d - tg y m d = mlen (islOf (iY (gjd y 1 1)) (iM (gjd y 1 1)) m) m := by
  rcases inv_open hd h e with hx | ⟨m, hx, hm⟩
  · subst hx; exact .inl (dat_none hf)
  · subst hx
    obtain ⟨D, t1, t2, t3, k, hv, hq⟩ := dat_tup hf
    exact .inr ⟨m, D, t1, t2, t3, k, hv, hq, hm⟩
section
variable {prog : Program} {w : World} {A : Around} {E : Value → Shared → Prop} {s : Shared} {K : Frag} {L a : Addr} {h₀ : Heap} {m : Str → Option Value} {n : Nat}
theorem in_top {l : List Value} {ns : List Int} {dd : Option Addr} {sl : Array (Option Value)} {k : Int} {u : Tok} {Q : Value → Shared → Prop}
    (F : Fr h₀ L s.heap m) (X₀ : K.In h₀) (hl : K.lookup a = some ⟨.type "tuple", dd, .seq l.toArray n, sl⟩) (hi : IntsAre l ns)
    (h : Q (.bool (ns.any (· == k))) s) : wpAny (model prog w) A (compareOp .In (.int k u) (.ref a)) Q E s :=
  in_tuple_ints (tupK (X₀.keeps F.keep) hl) hi h
end
/-- what a call of a def of the text's comes to, said once -/
abbrev Told1 (prog : Program) (w : World) (K : Frag) (f : Addr) (room : Nat) (vs : List Value) (Ret : Heap → Addr → (Str → Option Value) → List (Addr × Obj) → Shared → (Value → Shared → Prop) → Prop) : Prop :=
  ∀ {p : Program} {loose : List Str} {mean : ExcName → Option Value} {mg mb : Str → Option Value} {dp un : Nat} {gd : Option (List Code)} {cn : Str} {cs : Scope} {a : Addr} {ccd : Value} {cl : List (Str × Addr)} {outer : List Env} {A₀ : Around} {base h₀ : Heap} {L : Addr} {m : Str → Option Value} {news : List (Addr × Obj)} {s : Shared} {Q E : Value → Shared → Prop},
    Below A₀ base outer h₀ → Fr h₀ L s.heap m → K.In h₀ → News h₀ L s.heap news → Top p loose mean mg mb h₀ → cs.kind = .function → dp + room < recursionLimit → un + 8 * room < cLine → Ret h₀ L m news s Q →
      wpAny (model prog w) (ktrTop dp un gd cn cs L a ccd cl outer) (call (.ref f) vs) Q E s
abbrev RetI (x : Int) (h₀ : Heap) (L : Addr) (m : Str → Option Value) (news : List (Addr × Obj)) (s : Shared) (Q : Value → Shared → Prop) : Prop :=
  ∀ (t : Tok) (h' : Heap) (tk' : Nat), Fr h₀ L h' m → News h₀ L h' news → Q (.int x t) { s with heap := h', toks := tk' }
abbrev RetB (x : Bool) (h₀ : Heap) (L : Addr) (m : Str → Option Value) (news : List (Addr × Obj)) (s : Shared) (Q : Value → Shared → Prop) : Prop :=
  ∀ (t : Tok) (h' : Heap) (tk' : Nat), Fr h₀ L h' m → News h₀ L h' news → Q (.bool x) { s with heap := h', toks := tk' }
theorem gjd_lo {y m d : Int} (h : m ≤ 2) : 1721426 - 1 + 365 * (y - 1) + Int.fdiv (y - 1) 4 + -(Int.fdiv (y - 1) 100) + Int.fdiv (y - 1) 400 + (Int.fdiv (367 * m - 362) 12 + 0 + d) = gjd y m d := by
  unfold gjd; rw [if_pos h]
theorem gjd_leap {y m d : Int} (h : ¬ m ≤ 2) (hl : isLeap y = true) : 1721426 - 1 + 365 * (y - 1) + Int.fdiv (y - 1) 4 + -(Int.fdiv (y - 1) 100) + Int.fdiv (y - 1) 400 + (Int.fdiv (367 * m - 362) 12 + -1 + d) = gjd y m d := by
  unfold gjd; rw [if_neg h, if_pos hl]
theorem gjd_com {y m d : Int} (h : ¬ m ≤ 2) (hl : isLeap y = false) : 1721426 - 1 + 365 * (y - 1) + Int.fdiv (y - 1) 4 + -(Int.fdiv (y - 1) 100) + Int.fdiv (y - 1) 400 + (Int.fdiv (367 * m - 362) 12 + -2 + d) = gjd y m d := by
  unfold gjd; rw [if_neg h, if_neg (by rw [hl]; simp)]
theorem mlen_a {y k : Int} (h : (1 == k || (3 == k || (5 == k || (7 == k || (9 == k || 11 == k))))) = true) : 30 = mlen y k := by
  simp only [Bool.or_eq_true, beq_iff_eq] at h
  unfold mlen; rw [if_pos (by omega)]
theorem mlen_b {y k : Int} (h : (1 == k || (3 == k || (5 == k || (7 == k || (9 == k || 11 == k))))) = false) (h2 : k = 12) (hl : iLeap y = true) : 30 = mlen y k := by
  unfold mlen; rw [if_pos (by simp [h2, hl])]
theorem mlen_c {y k : Int} (h : (1 == k || (3 == k || (5 == k || (7 == k || (9 == k || 11 == k))))) = false) (h2 : k ≠ 12) : 29 = mlen y k := by
  simp only [Bool.or_eq_false_iff, beq_eq_false_iff_ne] at h
  unfold mlen; rw [if_neg (by omega)]
theorem mlen_d {y k : Int} (h : (1 == k || (3 == k || (5 == k || (7 == k || (9 == k || 11 == k))))) = false) (hl : iLeap y = false) : 29 = mlen y k := by
  simp only [Bool.or_eq_false_iff, beq_eq_false_iff_ne] at h
  unfold mlen; rw [if_neg (by simp only [hl, Bool.false_eq_true, and_false, or_false]; omega)]
theorem sum_is {y : Int} : ((rangeKs 1 (13 - 1 : Int).toNat).map (fun a => mlen y a)).sum = ylen y := by
  rw [rangeKs_1_13]; exact mlen_sum y
abbrev RetT (x y z : Int) (h₀ : Heap) (L : Addr) (m : Str → Option Value) (news : List (Addr × Obj)) (s : Shared) (Q : Value → Shared → Prop) : Prop :=
  ∀ (D : Addr) (t1 t2 t3 : Tok) (n : Nat) (h' : Heap) (tk' : Nat), Fr h₀ L h' m → News h₀ L h' ((D, ({ cls := .type "tuple", data := .seq #[.int x t1, .int y t2, .int z t3] n } : Obj)) :: news) → AllLt D news → Q (.ref D) { s with heap := h', toks := tk' }
abbrev RetG (x : Int) (h₀ : Heap) (L : Addr) (m : Str → Option Value) (news : List (Addr × Obj)) (s : Shared) (Q : Value → Shared → Prop) : Prop :=
  ∀ (D : Addr) (y z : Int) (t1 t2 t3 : Tok) (n : Nat) (h' : Heap) (tk' : Nat), Fr h₀ L h' m → News h₀ L h' ((D, ({ cls := .type "tuple", data := .seq #[.int x t1, .int y t2, .int z t3] n } : Obj)) :: news) → AllLt D news → Q (.ref D) { s with heap := h', toks := tk' }
abbrev RetM (j : Int) (h₀ : Heap) (L : Addr) (m : Str → Option Value) (news : List (Addr × Obj)) (s : Shared) (Q : Value → Shared → Prop) : Prop :=
  ∀ (D : Addr) (t1 t2 t3 : Tok) (n : Nat) (h' : Heap) (tk' : Nat), 1 ≤ iM j → iM j ≤ 12 → Fr h₀ L h' m → News h₀ L h' ((D, ({ cls := .type "tuple", data := .seq #[.int (iY j) t1, .int (iM j) t2, .int (iD j) t3] n } : Obj)) :: news) → AllLt D news → Q (.ref D) { s with heap := h', toks := tk' }
theorem retT {x y z x' y' z' : Int} {h₀ h' : Heap} {L D : Addr} {m : Str → Option Value} {news news' : List (Addr × Obj)} {s : Shared} {Q : Value → Shared → Prop} {t1 t2 t3 : Tok} {n tk' : Nat}
    (hret : RetT x y z h₀ L m news s Q) (e : x' = x ∧ y' = y ∧ z' = z) (F : Fr h₀ L h' m) (NM : News h₀ L h' news' ∧ (D, ({ cls := .type "tuple", data := .seq #[.int x' t1, .int y' t2, .int z' t3] n } : Obj)) ∈ news') (hn : ∀ p ∈ news, p ∈ news') (hl : AllLt D news) : Q (.ref D) { s with heap := h', toks := tk' } := by
  obtain ⟨e1, e2, e3⟩ := e
  subst e1; subst e2; subst e3
  refine hret D t1 t2 t3 n h' tk' F (fun p hp => ?_) hl
  rcases List.mem_cons.mp hp with rfl | hp
  · exact NM.1 _ NM.2
  · exact NM.1 p (hn p hp)
theorem retG {x x' y z : Int} {h₀ h' : Heap} {L D : Addr} {m : Str → Option Value} {news news' : List (Addr × Obj)} {s : Shared} {Q : Value → Shared → Prop} {t1 t2 t3 : Tok} {n tk' : Nat}
    (hret : RetG x h₀ L m news s Q) (e : x' = x) (F : Fr h₀ L h' m) (NM : News h₀ L h' news' ∧ (D, ({ cls := .type "tuple", data := .seq #[.int x' t1, .int y t2, .int z t3] n } : Obj)) ∈ news') (hn : ∀ p ∈ news, p ∈ news') (hl : AllLt D news) : Q (.ref D) { s with heap := h', toks := tk' } := by
  subst e
  refine hret D y z t1 t2 t3 n h' tk' F (fun p hp => ?_) hl
  rcases List.mem_cons.mp hp with rfl | hp
  · exact NM.1 _ NM.2
  · exact NM.1 p (hn p hp)
theorem isl_1 {y : Int} (h : ¬ Int.fmod y 4 = 0) : (Int.fmod y 4 == 0) = isLeap y := by simp [isLeap, h]
theorem isl_2 {y : Int} (h4 : Int.fmod y 4 = 0) (h : ¬ Int.fmod y 100 = 0) : (Int.fmod y 100 != 0) = isLeap y := by simp [isLeap, h, h4]
theorem isl_3 {y : Int} (h4 : Int.fmod y 4 = 0) (h : Int.fmod y 100 = 0) : (Int.fmod y 400 == 0) = isLeap y := by
  unfold isLeap; rw [h4, h]; cases hq : (Int.fmod y 400 == 0) <;> simp_all
end Mine
namespace Mine
/-- ways that meet in an int of which one word is kept -/
def JInt (P : Int → Prop) (h₀ : Heap) (L : Addr) (m : Str → Option Value) (news : List (Addr × Obj)) (s : Shared) (v : Value) (s' : Shared) : Prop :=
  ∃ (b : Int) (t : Tok) (h : Heap) (tk : Nat), P b ∧ v = .int b t ∧ s' = { s with heap := h, toks := tk } ∧ Fr h₀ L h m ∧ News h₀ L h news
theorem jint_end {P : Int → Prop} {h₀ h : Heap} {L : Addr} {m : Str → Option Value} {news news' : List (Addr × Obj)} {s s' : Shared} {v : Value} {b : Int} {t : Tok} {tk : Nat}
    (hp : P b) (hv : v = .int b t) (hs : s' = { s with heap := h, toks := tk }) (F : Fr h₀ L h m) (N : News h₀ L h news') (hn : ∀ p ∈ news, p ∈ news') : JInt P h₀ L m news s v s' :=
  ⟨b, t, h, tk, hp, hv, hs, F, fun p hp => N p (hn p hp)⟩
theorem jint (P : Int → Prop) {M : Model} {A : Around} {E : Value → Shared → Prop} {Q : Value → Shared → Prop} {s : Shared} {h₀ : Heap} {L : Addr} {m : Str → Option Value} {news : List (Addr × Obj)} {c : Sem Value}
    (_F : Fr h₀ L s.heap m) (_N : News h₀ L s.heap news)
    (hc : wpAny M A c (fun v s₂ => JInt P h₀ L m news s v s₂) E s)
    (hk : ∀ (b : Int) (t : Tok) (h : Heap) (tk : Nat), P b → Fr h₀ L h m → News h₀ L h news → Q (.int b t) { s with heap := h, toks := tk }) : wpAny M A c Q E s := by
  refine wpAny_mono hc (fun v s₂ hq => ?_) fun _ _ h => h
  obtain ⟨b, t, h, tk, hp, hv, hs, F, N⟩ := hq
  subst hv
  subst hs
  exact hk b t h tk hp F N
theorem jterm (x : Int) {M : Model} {A : Around} {E : Value → Shared → Prop} {Q : Value → Shared → Prop} {s : Shared} {h₀ : Heap} {L : Addr} {m : Str → Option Value} {news : List (Addr × Obj)} {c : Sem Value}
    (F : Fr h₀ L s.heap m) (N : News h₀ L s.heap news)
    (hc : wpAny M A c (fun v s₂ => JInt (fun b => b = x) h₀ L m news s v s₂) E s)
    (hk : ∀ (t : Tok) (h : Heap) (tk : Nat), Fr h₀ L h m → News h₀ L h news → Q (.int x t) { s with heap := h, toks := tk }) : wpAny M A c Q E s :=
  jint _ F N hc (by
    intro b t h tk hb
    subst hb
    exact hk t h tk)
theorem ne_same {prog : Program} {w : World} {A : Around} {E : Value → Shared → Prop} {s : Shared} {a b : Int} {t u : Tok} {Q : Value → Shared → Prop} (e : a = b) (h : Q (.bool false) s) : wpAny (model prog w) A (compareOp .NotEq (.int a t) (.int b u)) Q E s := by
  subst e
  exact ne_int (by simpa using h)
theorem jisl {n y : Int} (_hne : n ≠ iM (gjd y 1 1)) {M : Model} {A : Around} {E : Value → Shared → Prop} {Q : Value → Shared → Prop} {s : Shared} {h₀ : Heap} {L : Addr} {m : Str → Option Value} {news : List (Addr × Obj)} {c : Sem Value}
    (F : Fr h₀ L s.heap m) (N : News h₀ L s.heap news)
    (hc : wpAny M A c (fun v s₂ => JInt (fun b => b = islOf (iY (gjd y 1 1)) (iM (gjd y 1 1)) n) h₀ L m news s v s₂) E s)
    (hk : ∀ (t : Tok) (h : Heap) (tk : Nat), Fr h₀ L h m → News h₀ L h news → Q (.int (islOf (iY (gjd y 1 1)) (iM (gjd y 1 1)) n) t) { s with heap := h, toks := tk }) : wpAny M A c Q E s :=
  jterm _ F N hc hk
theorem shrink {h₀ h : Heap} {L : Addr} {a b c d e f g i j k : Addr × Obj} (N : News h₀ L h [a, b, c, d, e, f, g, i, j, k]) : News h₀ L h [a, k] :=
  fun p hp => N p (by
    simp only [List.mem_cons, List.not_mem_nil, or_false] at hp ⊢
    rcases hp with rfl | rfl <;> simp)
end Mine
open Mine
local macro_rules | `(tactic| walk_at "compareOp In int ref") => `(tactic| (k_here; (with_reducible show wpAny _ _ (compareOp CmpOp.In (Value.int _ _) (Value.ref _)) _ _ _); k_dflt (refine' in_top ?F ?X ?l ?i ?_; (case F => k_asm); (case X => k_asm); (case l => k_is); (case i => repeat constructor); k_whole; (try simp only [List.any_cons, List.any_nil, Bool.or_false])); walk_say "IN TOP"))
local macro_rules | `(tactic| walk_at "eval Call") => `(tactic| (k_here; (with_reducible show wpAny _ _ (eval (Expr.Call (Expr.Name _ _) _ [] _) _) _ _ _); k_dflt (refine Call_ ?_)))
namespace Mine
set_option maxHeartbeats 8000000 in
open_top hd for PySem.Challenge.rw_bh0007_01
end Mine
set_option maxHeartbeats 8000000 in
theorem Mine.t_leap (w : World) {y : Int} {t : Tok} : Told1 PySem.Challenge.rw_bh0007_01.row.prog w (Mine.hd.heap_39 w.params) 51 1 [.int y t] (RetB (iLeap y)) := by
  intro p loose mean mg mb dp un gd cn cs a ccd cl outer A₀ base h₀ L m news s Q E hB hF hX hN hT hk hd hu hret
  refine wpAny_call ?_
  k_dflt cell_enter
  k_steps
  all_goals (refine cb_retB hret ?_ (by assumption) (by assumption); rfl)
set_option maxHeartbeats 8000000 in
theorem Mine.t_isleap (w : World) {y : Int} {t : Tok} : Told1 PySem.Challenge.rw_bh0007_01.row.prog w (Mine.hd.heap_39 w.params) 21 1 [.int y t] (RetB (isLeap y)) := by
  intro p loose mean mg mb dp un gd cn cs a ccd cl outer A₀ base h₀ L m news s Q E hB hF hX hN hT hk hd hu hret
  refine wpAny_call ?_
  k_dflt cell_enter
  k_steps
  all_goals (refine cb_retB hret ?_ (by assumption) (by assumption); first | exact isl_1 (by assumption) | exact isl_2 (by assumption) (by assumption) | exact isl_3 (by assumption) (by assumption) | fail "isleap")
set_option maxHeartbeats 8000000 in
theorem Mine.t_ijd (w : World) {y mo d : Int} {t t' t'' : Tok} : Told1 PySem.Challenge.rw_bh0007_01.row.prog w (Mine.hd.heap_39 w.params) 58 1 [.int y t, .int mo t', .int d t''] (RetI (ijd y mo d)) := by
  intro p loose mean mg mb dp un gd cn cs a ccd cl outer A₀ base h₀ L m news s Q E hB hF hX hN hT hk hd hu hret
  refine wpAny_call ?_
  k_dflt cell_enter
  k_steps
  all_goals (refine cb_retI hret ?_ (by assumption) (by assumption); rfl)
local macro_rules | `(tactic| walk_at "call ref") => `(tactic| (k_here; (with_reducible show wpAny _ _ (call (Value.ref 51) [Value.int _ _]) _ _ _); k_dflt (refine' t_leap _ ?k1 ?k2 ?k3 ?k4 ?k5 ?kK ?kd ?ku ?_; (case k1 => k_asm); (case k2 => k_asm); (case k3 => k_asm); (case k4 => k_asm); (case k5 => k_asm); (case kK => first | exact rfl | assumption); (case kd => first | ((try simp only [depth_deeper, depth_caller]); decide) | ((try simp only [depth_deeper]); (try dsimp only [ktrTop]); simp only [recursionLimit] at *; omega) | ktr_room); (case ku => first | ((try simp only [units_deeper, units_caller]); decide) | ((try simp only [units_deeper]); (try dsimp only [ktrTop]); simp only [cLine_is] at *; omega) | ktr_units | fail "units")); intro t9 h9 tk9 F9 N9; (try dsimp only); (try k_fold); walk_say "t_leap _"))
local macro_rules | `(tactic| walk_at "call ref") => `(tactic| (k_here; (with_reducible show wpAny _ _ (call (Value.ref 21) [Value.int _ _]) _ _ _); k_dflt (refine' t_isleap _ ?k1 ?k2 ?k3 ?k4 ?k5 ?kK ?kd ?ku ?_; (case k1 => k_asm); (case k2 => k_asm); (case k3 => k_asm); (case k4 => k_asm); (case k5 => k_asm); (case kK => first | exact rfl | assumption); (case kd => first | ((try simp only [depth_deeper, depth_caller]); decide) | ((try simp only [depth_deeper]); (try dsimp only [ktrTop]); simp only [recursionLimit] at *; omega) | ktr_room); (case ku => first | ((try simp only [units_deeper, units_caller]); decide) | ((try simp only [units_deeper]); (try dsimp only [ktrTop]); simp only [cLine_is] at *; omega) | ktr_units | fail "units")); intro t9 h9 tk9 F9 N9; (try dsimp only); (try k_fold); walk_say "t_isleap _"))
local macro_rules | `(tactic| walk_at "call ref") => `(tactic| (k_here; (with_reducible show wpAny _ _ (call (Value.ref 58) [Value.int _ _, Value.int _ _, Value.int _ _]) _ _ _); k_dflt (refine' t_ijd _ ?k1 ?k2 ?k3 ?k4 ?k5 ?kK ?kd ?ku ?_; (case k1 => k_asm); (case k2 => k_asm); (case k3 => k_asm); (case k4 => k_asm); (case k5 => k_asm); (case kK => first | exact rfl | assumption); (case kd => first | ((try simp only [depth_deeper, depth_caller]); decide) | ((try simp only [depth_deeper]); (try dsimp only [ktrTop]); simp only [recursionLimit] at *; omega) | ktr_room); (case ku => first | ((try simp only [units_deeper, units_caller]); decide) | ((try simp only [units_deeper]); (try dsimp only [ktrTop]); simp only [cLine_is] at *; omega) | ktr_units | fail "units")); intro t9 h9 tk9 F9 N9; (try dsimp only); (try k_fold); walk_say "t_ijd _"))
set_option maxHeartbeats 8000000 in
theorem Mine.t_legal (w : World) {y mo d : Int} {t t' t'' : Tok} (h1 : 1 ≤ d) (h2 : d ≤ 28) : Told1 PySem.Challenge.rw_bh0007_01.row.prog w (Mine.hd.heap_39 w.params) 29 2 [.int y t, .int mo t', .int d t''] (RetB true) := by
  intro p loose mean mg mb dp un gd cn cs a ccd cl outer A₀ base h₀ L m news s Q E hB hF hX hN hT hk hd hu hret
  refine wpAny_call ?_
  k_dflt cell_enter
  k_steps
  all_goals (refine cb_retB hret ?_ (by assumption) (by assumption); rfl)
set_option maxHeartbeats 8000000 in
theorem Mine.t_mlen (w : World) {y mo : Int} {t t' : Tok} : Told1 PySem.Challenge.rw_bh0007_01.row.prog w (Mine.hd.heap_39 w.params) 79 2 [.int y t, .int mo t'] (RetI (mlen y mo)) := by
  intro p loose mean mg mb dp un gd cn cs a ccd cl outer A₀ base h₀ L m news s Q E hB hF hX hN hT hk hd hu hret
  refine wpAny_call ?_
  k_dflt cell_enter
  k_steps
  all_goals (refine cb_retI hret ?_ (by assumption) (by assumption); first | exact mlen_a (by assumption) | exact mlen_d (by assumption) (by assumption) | exact mlen_c (by assumption) (by omega) | exact mlen_b (by assumption) (by omega) (by assumption))
local macro_rules | `(tactic| walk_at "call ref") => `(tactic| (k_here; (with_reducible show wpAny _ _ (call (Value.ref 29) [Value.int _ _, Value.int _ _, Value.int _ _]) _ _ _); k_dflt (refine' t_legal _ (by omega) (by omega) ?k1 ?k2 ?k3 ?k4 ?k5 ?kK ?kd ?ku ?_; (case k1 => k_asm); (case k2 => k_asm); (case k3 => k_asm); (case k4 => k_asm); (case k5 => k_asm); (case kK => first | exact rfl | assumption); (case kd => first | ((try simp only [depth_deeper, depth_caller]); decide) | ((try simp only [depth_deeper]); (try dsimp only [ktrTop]); simp only [recursionLimit] at *; omega) | ktr_room); (case ku => first | ((try simp only [units_deeper, units_caller]); decide) | ((try simp only [units_deeper]); (try dsimp only [ktrTop]); simp only [cLine_is] at *; omega) | ktr_units | fail "units")); intro t9 h9 tk9 F9 N9; (try dsimp only); (try k_fold); walk_say "t_legal _ (by omega) (by omega)"))
local macro_rules | `(tactic| walk_at "call ref") => `(tactic| (k_here; (with_reducible show wpAny _ _ (call (Value.ref 79) [Value.int _ _, Value.int _ _]) _ _ _); k_dflt (refine' t_mlen _ ?k1 ?k2 ?k3 ?k4 ?k5 ?kK ?kd ?ku ?_; (case k1 => k_asm); (case k2 => k_asm); (case k3 => k_asm); (case k4 => k_asm); (case k5 => k_asm); (case kK => first | exact rfl | assumption); (case kd => first | ((try simp only [depth_deeper, depth_caller]); decide) | ((try simp only [depth_deeper]); (try dsimp only [ktrTop]); simp only [recursionLimit] at *; omega) | ktr_room); (case ku => first | ((try simp only [units_deeper, units_caller]); decide) | ((try simp only [units_deeper]); (try dsimp only [ktrTop]); simp only [cLine_is] at *; omega) | ktr_units | fail "units")); intro t9 h9 tk9 F9 N9; (try dsimp only); (try k_fold); walk_say "t_mlen _"))
set_option maxHeartbeats 8000000 in
theorem Mine.t_gjd (w : World) {y mo d : Int} {t t' t'' : Tok} (h1 : 1 ≤ d) (h2 : d ≤ 28) : Told1 PySem.Challenge.rw_bh0007_01.row.prog w (Mine.hd.heap_39 w.params) 36 3 [.int y t, .int mo t', .int d t''] (RetI (gjd y mo d)) := by
  intro p loose mean mg mb dp un gd cn cs a ccd cl outer A₀ base h₀ L m news s Q E hB hF hX hN hT hk hd hu hret
  refine wpAny_call ?_
  k_dflt cell_enter
  k_steps
  all_goals (refine cb_retI hret ?_ (by assumption) (by assumption); first | exact gjd_lo (by omega) | exact gjd_leap (by omega) (by assumption) | exact gjd_com (by omega) (by assumption))
local macro_rules | `(tactic| walk_at "call ref") => `(tactic| (k_here; (with_reducible show wpAny _ _ (call (Value.ref 36) [Value.int _ _, Value.int _ _, Value.int _ _]) _ _ _); k_dflt (refine' t_gjd _ (by omega) (by omega) ?k1 ?k2 ?k3 ?k4 ?k5 ?kK ?kd ?ku ?_; (case k1 => k_asm); (case k2 => k_asm); (case k3 => k_asm); (case k4 => k_asm); (case k5 => k_asm); (case kK => first | exact rfl | assumption); (case kd => first | ((try simp only [depth_deeper, depth_caller]); decide) | ((try simp only [depth_deeper]); (try dsimp only [ktrTop]); simp only [recursionLimit] at *; omega) | ktr_room); (case ku => first | ((try simp only [units_deeper, units_caller]); decide) | ((try simp only [units_deeper]); (try dsimp only [ktrTop]); simp only [cLine_is] at *; omega) | ktr_units | fail "units")); intro t9 h9 tk9 F9 N9; (try dsimp only); (try k_fold); walk_say "t_gjd _ (by omega) (by omega)"))
set_option maxHeartbeats 8000000 in
theorem Mine.t_fromi (w : World) {j : Int} {t : Tok} : Told1 PySem.Challenge.rw_bh0007_01.row.prog w (Mine.hd.heap_39 w.params) 65 2 [.int j t] (RetT (iY j) (iM j) (iD j)) := by
  intro p loose mean mg mb dp un gd cn cs a ccd cl outer A₀ base h₀ L m news s Q E hB hF hX hN hT hk hd hu hret
  refine wpAny_call ?_
  k_dflt cell_enter
  k_steps
  all_goals (refine' retT hret ?e ?F ?n ?nn ?l; (case F => assumption); (case n => kcu_news); (case nn => first | exact fun _ hp => hp | exact fun _ hp => List.mem_cons_of_mem _ hp | exact fun _ hp => List.mem_cons_of_mem _ (List.mem_cons_of_mem _ hp) | kcj_in); (case l => kcu_lt); (case e => (unfold iD iM iQ iY; exact ⟨rfl, rfl, rfl⟩)))
set_option maxHeartbeats 8000000 in
theorem Mine.t_fromg (w : World) {j : Int} {t : Tok} : Told1 PySem.Challenge.rw_bh0007_01.row.prog w (Mine.hd.heap_39 w.params) 43 4 [.int j t] (RetG (gY j)) := by
  intro p loose mean mg mb dp un gd cn cs a ccd cl outer A₀ base h₀ L m news s Q E hB hF hX hN hT hk hd hu hret
  refine wpAny_call ?_
  k_dflt cell_enter
  k_steps
  all_goals (refine' retG hret ?e ?F ?n ?nn ?l; (case F => assumption); (case n => kcu_news); (case nn => first | exact fun _ hp => hp | exact fun _ hp => List.mem_cons_of_mem _ hp | exact fun _ hp => List.mem_cons_of_mem _ (List.mem_cons_of_mem _ hp) | kcj_in); (case l => kcu_lt); (case e => (unfold gY; first | (rw [if_neg (by omega)]; done) | (rw [if_pos (by omega)]; done))))
theorem Mine.t_fromm (w : World) {j : Int} {t : Tok} : Told1 PySem.Challenge.rw_bh0007_01.row.prog w (Mine.hd.heap_39 w.params) 65 2 [.int j t] (RetM j) := by
  intro p loose mean mg mb dp un gd cn cs a ccd cl outer A₀ base h₀ L m news s Q E hB hF hX hN hT hk hd hu hret
  exact t_fromi w hB hF hX hN hT hk hd hu fun D t1 t2 t3 n h' tk' => hret D t1 t2 t3 n h' tk' (inside j).1 (inside j).2.1
local macro_rules | `(tactic| walk_at "call ref") => `(tactic| (k_here; (with_reducible show wpAny _ _ (call (Value.ref 65) [Value.int _ _]) _ _ _); k_dflt (refine' t_fromm _ ?k1 ?k2 ?k3 ?k4 ?k5 ?kK ?kd ?ku ?_; (case k1 => k_asm); (case k2 => k_asm); (case k3 => k_asm); (case k4 => k_asm); (case k5 => k_asm); (case kK => first | exact rfl | assumption); (case kd => first | ((try simp only [depth_deeper, depth_caller]); decide) | ((try simp only [depth_deeper]); (try dsimp only [ktrTop]); simp only [recursionLimit] at *; omega) | ktr_room); (case ku => first | ((try simp only [units_deeper, units_caller]); decide) | ((try simp only [units_deeper]); (try dsimp only [ktrTop]); simp only [cLine_is] at *; omega) | ktr_units | fail "units")); intro D9 t19 t29 t39 n9 h9 tk9 lo9 hi9 F9 N9 l9; (try simp only [AllLt, and_true] at l9); (try dsimp only); (try k_fold); walk_say "t_fromm _"))
local macro_rules | `(tactic| walk_at "call ref") => `(tactic| (k_here; (with_reducible show wpAny _ _ (call (Value.ref 43) [Value.int _ _]) _ _ _); k_dflt (refine' t_fromg _ ?k1 ?k2 ?k3 ?k4 ?k5 ?kK ?kd ?ku ?_; (case k1 => k_asm); (case k2 => k_asm); (case k3 => k_asm); (case k4 => k_asm); (case k5 => k_asm); (case kK => first | exact rfl | assumption); (case kd => first | ((try simp only [depth_deeper, depth_caller]); decide) | ((try simp only [depth_deeper]); (try dsimp only [ktrTop]); simp only [recursionLimit] at *; omega) | ktr_room); (case ku => first | ((try simp only [units_deeper, units_caller]); decide) | ((try simp only [units_deeper]); (try dsimp only [ktrTop]); simp only [cLine_is] at *; omega) | ktr_units | fail "units")); intro D9 y9 z9 t19 t29 t39 n9 h9 tk9 F9 N9 l9; (try simp only [AllLt, and_true] at l9); (try dsimp only); (try k_fold); walk_say "t_fromg _"))
theorem Mine.t_fromn (w : World) {j a b c : Int} {t : Tok} (e1 : iY j = a) (e2 : iM j = b) (e3 : iD j = c) : Told1 PySem.Challenge.rw_bh0007_01.row.prog w (Mine.hd.heap_39 w.params) 65 2 [.int j t] (RetT a b c) := by
  subst e1; subst e2; subst e3
  exact t_fromi w
theorem Mine.t_fromh (w : World) {j a : Int} {t : Tok} (e1 : gY j = a) : Told1 PySem.Challenge.rw_bh0007_01.row.prog w (Mine.hd.heap_39 w.params) 43 4 [.int j t] (RetG a) := by
  subst e1
  exact t_fromg w
local macro_rules | `(tactic| walk_at "call ref") => `(tactic| (k_here; (with_reducible show wpAny _ _ (call (Value.ref 65) [Value.int _ _]) _ _ _); k_dflt (refine' t_fromn _ ?e1 ?e2 ?e3 ?k1 ?k2 ?k3 ?k4 ?k5 ?kK ?kd ?ku ?_; (case e1 => with_reducible assumption); (case e2 => with_reducible assumption); (case e3 => with_reducible assumption); (case k1 => k_asm); (case k2 => k_asm); (case k3 => k_asm); (case k4 => k_asm); (case k5 => k_asm); (case kK => first | exact rfl | assumption); (case kd => first | ((try simp only [depth_deeper, depth_caller]); decide) | ((try simp only [depth_deeper]); (try dsimp only [ktrTop]); simp only [recursionLimit] at *; omega) | ktr_room); (case ku => first | ((try simp only [units_deeper, units_caller]); decide) | ((try simp only [units_deeper]); (try dsimp only [ktrTop]); simp only [cLine_is] at *; omega) | ktr_units | fail "units")); intro D9 t19 t29 t39 n9 h9 tk9 F9 N9 l9; (try simp only [AllLt, and_true] at l9); (try dsimp only); (try k_fold); walk_say "t_fromn _ ?e1 ?e2 ?e3"))
local macro_rules | `(tactic| walk_at "call ref") => `(tactic| (k_here; (with_reducible show wpAny _ _ (call (Value.ref 43) [Value.int _ _]) _ _ _); k_dflt (refine' t_fromh _ ?e1 ?k1 ?k2 ?k3 ?k4 ?k5 ?kK ?kd ?ku ?_; (case e1 => with_reducible assumption); (case k1 => k_asm); (case k2 => k_asm); (case k3 => k_asm); (case k4 => k_asm); (case k5 => k_asm); (case kK => first | exact rfl | assumption); (case kd => first | ((try simp only [depth_deeper, depth_caller]); decide) | ((try simp only [depth_deeper]); (try dsimp only [ktrTop]); simp only [recursionLimit] at *; omega) | ktr_room); (case ku => first | ((try simp only [units_deeper, units_caller]); decide) | ((try simp only [units_deeper]); (try dsimp only [ktrTop]); simp only [cLine_is] at *; omega) | ktr_units | fail "units")); intro D9 y9 z9 t19 t29 t39 n9 h9 tk9 F9 N9 l9; (try simp only [AllLt, and_true] at l9); (try dsimp only); (try k_fold); walk_say "t_fromh _ ?e1"))
set_option maxHeartbeats 8000000 in
theorem Mine.t_tell (w : World) {y mo d : Int} {t t' t'' : Tok} : Told1 PySem.Challenge.rw_bh0007_01.row.prog w (Mine.hd.heap_39 w.params) 72 4 [.int y t, .int mo t', .int d t''] (RetI (tg y mo d)) := by
  intro p loose mean mg mb dp un gd cn cs a ccd cl outer A₀ base h₀ L m news s Q E hB hF hX hN hT hk hd hu hret
  refine wpAny_call ?_
  k_dflt cell_enter
  k_steps
  all_goals (refine cb_retI hret ?_ (by assumption) (cb_drop (by assumption) (by first | exact fun _ hp => hp | exact fun _ hp => List.mem_cons_of_mem _ hp)); (unfold tg; first | (rw [if_pos (by omega)]; done) | (rw [if_neg (by omega)]; done)))
local macro_rules | `(tactic| walk_at "call ref") => `(tactic| (k_here; (with_reducible show wpAny _ _ (call (Value.ref 72) [Value.int _ _, Value.int _ _, Value.int _ _]) _ _ _); k_dflt (refine' t_tell _ ?k1 ?k2 ?k3 ?k4 ?k5 ?kK ?kd ?ku ?_; (case k1 => k_asm); (case k2 => k_asm); (case k3 => k_asm); (case k4 => k_asm); (case k5 => k_asm); (case kK => first | exact rfl | assumption); (case kd => first | ((try simp only [depth_deeper, depth_caller]); decide) | ((try simp only [depth_deeper]); (try dsimp only [ktrTop]); simp only [recursionLimit] at *; omega) | ktr_room); (case ku => first | ((try simp only [units_deeper, units_caller]); decide) | ((try simp only [units_deeper]); (try dsimp only [ktrTop]); simp only [cLine_is] at *; omega) | ktr_units | fail "units")); intro t9 h9 tk9 F9 N9; (try dsimp only); (try k_fold); walk_say "t_tell _"))
local macro_rules | `(tactic| walk_at "CompSrc") => `(tactic| (k_here; (rename IsRange _ _ 1441 1447 1 _ _ _ => hR); k_dflt (refine LCg.CompSrc.range (by rfl) (by k_asm) (by k_asm) hR (by decide) (by rfl) (by exact Nat.le_of_ble_eq_true rfl) ?_; intro g'; lcg_lit)))
local macro_rules | `(tactic| walk_at "eval IfExp") => `(tactic| (k_here; (with_reducible show wpAny _ _ (eval (Expr.IfExp (Expr.Compare (Expr.Call (Expr.Name _ _) _ _ _) _ _ _) (Expr.Call _ _ _ _) (Expr.Constant _ _ _) _) _) _ _ _); (rename Fr _ _ _ _ => cF'); (rename News _ _ _ _ => cN'); refine' jint YearOk cF' cN' ?_ ?_; rotate_left; (clear cF' cN'; intro b' t' h' tk' hb' F' N'; (try dsimp only); (try k_fold)); rotate_left; (refine IfExp_ ?_; (try k_fold)); walk_say "MY IFEXP"))
local macro_rules | `(tactic| walk_at "eval IfExp") => `(tactic| (k_here; (with_reducible show wpAny _ _ (eval (Expr.IfExp (Expr.Compare (Expr.Call (Expr.Name _ _) _ _ _) _ _ _) (Expr.BinOp _ _ _ _) (Expr.Constant _ _ _) _) _) _ _ _); (rename Fr _ _ _ _ => cF'); (rename News _ _ _ _ => cN'); refine' jint DayOk cF' cN' ?_ ?_; rotate_left; (clear cF' cN'; intro b' t' h' tk' hb' F' N'; (try dsimp only); (try k_fold)); rotate_left; (refine IfExp_ ?_; (try k_fold)); walk_say "MY IFEXP"))
local macro_rules | `(tactic| walk_at "eval IfExp") => `(tactic| (k_here; (with_reducible show wpAny _ _ (eval (Expr.IfExp (Expr.Call (Expr.Name _ _) _ _ _) (Expr.Constant (Const.int 355) _ _) (Expr.Constant (Const.int 354) _ _) _) _) _ _ _); (rename Fr _ _ _ _ => cF'); (rename News _ _ _ _ => cN'); (rename (Obj.data _ = Data.cell (some (Value.int _ _))) => hC'); refine' jterm (ylen (cOf hC')) cF' cN' ?_ ?_; rotate_left; (clear cF' cN'; intro t' h' tk' F' N'; (try dsimp only); (try k_fold)); rotate_left; (refine IfExp_ ?_; (try k_fold)); walk_say "MY IFEXP"))
local macro_rules | `(tactic| walk_at "eval IfExp") => `(tactic| (k_here; (with_reducible show wpAny _ _ (eval (Expr.IfExp (Expr.Compare (Expr.Name _ _) _ _ _) (Expr.Name _ _) (Expr.BinOp _ _ _ _) _) _) _ _ _); (rename Fr _ _ _ _ => cF'); (rename News _ _ _ _ => cN'); (rename (_ ≠ iM (gjd _ 1 1)) => hne'); refine' jisl hne' cF' cN' ?_ ?_; rotate_left; (clear cF' cN'; intro t' h' tk' F' N'; (try dsimp only); (try k_fold)); rotate_left; (refine IfExp_ ?_; (try k_fold)); walk_say "MY IFEXP"))
local macro_rules | `(tactic| walk_at "compareOp NotEq int int") => `(tactic| (k_here; refine ne_same ?e ?_; (case e => first | with_reducible assumption | with_reducible exact rfl | with_reducible exact sum_is | with_reducible exact ylen_step _)))
local macro_rules | `(tactic| walk_at "JInt") => `(tactic| (refine' jint_end ?p ?v ?s ?F ?N ?nn; (case v => with_unfolding_all rfl); (case s => rfl); (case F => assumption); (case N => assumption); (case nn => first | exact fun _ hp => hp | exact fun _ hp => List.mem_cons_of_mem _ hp | exact fun _ hp => List.mem_cons_of_mem _ (List.mem_cons_of_mem _ hp) | kcj_in | kcj_all); (case p => ((try dsimp only); first | ((with_reducible show YearOk _); (show 0 ≤ _); omega) | ((with_reducible show DayOk _); (show 1 ≤ _ ∧ _ ≤ 29); (try simp only [Int.fmod_eq_emod_of_nonneg _ (show (0:Int) ≤ 29 by decide)]); omega) | exact gjd_lo (by omega) | exact gjd_leap (by omega) (by assumption) | exact gjd_com (by omega) (by assumption) | exact mlen_a (by assumption) | exact mlen_d (by assumption) (by assumption) | exact mlen_c (by assumption) (by omega) | exact mlen_b (by assumption) (by omega) (by assumption) | (unfold islOf; rw [if_pos (by omega)]; done) | (unfold islOf; rw [if_neg (by omega)]; done) | (unfold tg; rw [if_pos (by omega)]; done) | (unfold tg; rw [if_neg (by omega)]; done) | (simp [ylen, *]; done) | decide)); walk_say "MY JINT"))
set_option maxHeartbeats 8000000 in
theorem PySem.Challenge.cw_bh0007_01_holds : PySem.Challenge.rw_bh0007_01.Holds := by
  refine Mine.hd ?_
  k_with "state" => first | exact inv_start | exact inv_next
  k_with "pyIter ref" => (
    (rename (IntsAre _ (rangeKs _ _ ++ rangeKs _ _)) => iW9)
    (rename YearOk _ => hY9)
    (rename DayOk _ => hD9)
    (rename News _ _ _ _ => nW9)
    (have nV9 := shrink nW9)
    (clear nW9)
    k_dat (fun pre x => Inv (700 + yOf hY9) (dOf hD9) pre x) "before*"
    all_goals (try (
      have hT9 := turn_facts hD9 kEq
      obtain ⟨⟨a1, a2, a3⟩, ⟨b1, b2, b3⟩, c1, c2, c3, c4⟩ := hT9
      rcases inv_both hD9 kInv kEq kFacts with hv9 | ⟨m9, D9, t19, t29, t39, n9, hv9, hm9, hd9⟩ <;> subst hv9)))
  k_go
