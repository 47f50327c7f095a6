namespace Go.Proofs.Qxb6601248a.Cal

def lp (y : Int) : Int := if y % 4 = 0 ∧ (y % 100 ≠ 0 ∨ y % 400 = 0) then 1 else 0
def mlen (y m : Int) : Int :=
  if m = 1 ∨ m = 3 ∨ m = 5 ∨ m = 7 ∨ m = 8 ∨ m = 10 ∨ m = 12 then 31 else if m = 4 ∨ m = 6 ∨ m = 9 ∨ m = 11 then 30 else if m = 2 then 28 + lp y else 0
def dby (y : Int) : Int := 365 * y + (y + 3) / 4 - (y + 99) / 100 + (y + 399) / 400
def cum (y m : Int) : Int :=
  if m ≤ 1 then 0 else if m = 2 then 31 else
  (if m = 3 then 59 else if m = 4 then 90 else if m = 5 then 120 else if m = 6 then 151 else if m = 7 then 181 else if m = 8 then 212 else if m = 9 then 243 else if m = 10 then 273 else if m = 11 then 304 else if m = 12 then 334 else 365) + lp y
def num (y m d : Int) : Int := dby y + cum y m + d - 1
def Valid (y m d : Int) : Prop := 0 ≤ y ∧ y ≤ 9999 ∧ 1 ≤ m ∧ m ≤ 12 ∧ 1 ≤ d ∧ d ≤ mlen y m

def yoe (e : Int) : Int := (e - e / 1460 + e / 36524 - e / 146096) / 365
def doy (e : Int) : Int := e - (365 * yoe e + yoe e / 4 - yoe e / 100)
def mp (e : Int) : Int := (5 * doy e + 2) / 153
def cday (e : Int) : Int := doy e - (153 * mp e + 2) / 5 + 1
def cmonth (e : Int) : Int := if 12 < mp e + 3 then mp e + 3 - 12 else mp e + 3
def cyear (a e : Int) : Int := if 12 < mp e + 3 then yoe e + a * 400 + 1 else yoe e + a * 400

theorem yoe_of (c q r s : Int) (hc : 0 ≤ c ∧ c ≤ 3) (hq : 0 ≤ q ∧ q ≤ 24) (hr : 0 ≤ r ∧ r ≤ 3) (hs : 0 ≤ s ∧ s ≤ 365) (hl : s = 365 → r = 3 ∧ (q = 24 → c = 3)) :
    yoe (36524 * c + 1461 * q + 365 * r + s) = 100 * c + 4 * q + r := by
  unfold yoe
  have h1 : (36524 * c + 1461 * q + 365 * r + s) / 146096 = if c = 3 ∧ q = 24 ∧ r = 3 ∧ s = 365 then 1 else 0 := by
    split <;> omega
  have h2 : (36524 * c + 1461 * q + 365 * r + s) / 36524 = c + if c = 3 ∧ q = 24 ∧ r = 3 ∧ s = 365 then 1 else 0 := by
    split <;> omega
  rw [h1, h2]
  split <;> omega

theorem lp_01 (y : Int) : 0 ≤ lp y ∧ lp y ≤ 1 := by unfold lp; split <;> omega

theorem dby_succ (y : Int) : dby (y + 1) = dby y + 365 + lp y := by
  unfold dby lp
  split <;> omega

theorem cum_succ (y m : Int) (h1 : 1 ≤ m) (h2 : m ≤ 12) : cum y (m + 1) = cum y m + mlen y m := by
  obtain rfl | rfl | rfl | rfl | rfl | rfl | rfl | rfl | rfl | rfl | rfl | rfl : m = 1 ∨ m = 2 ∨ m = 3 ∨ m = 4 ∨ m = 5 ∨ m = 6 ∨ m = 7 ∨ m = 8 ∨ m = 9 ∨ m = 10 ∨ m = 11 ∨ m = 12 := by omega
  all_goals (simp [cum, mlen] <;> omega)
def off (m : Int) : Int :=
  if m = 1 then 306 else if m = 2 then 337 else if m = 3 then 0 else if m = 4 then 31 else if m = 5 then 61 else if m = 6 then 92 else if m = 7 then 122 else if m = 8 then 153 else if m = 9 then 184 else if m = 10 then 214 else if m = 11 then 245 else 275

theorem doy_of (c q r s : Int) (hc : 0 ≤ c ∧ c ≤ 3) (hq : 0 ≤ q ∧ q ≤ 24) (hr : 0 ≤ r ∧ r ≤ 3) (hs : 0 ≤ s ∧ s ≤ 365) (hl : s = 365 → r = 3 ∧ (q = 24 → c = 3)) :
    doy (36524 * c + 1461 * q + 365 * r + s) = s := by
  unfold doy
  rw [yoe_of c q r s hc hq hr hs hl]
  omega

theorem months (m : Int) (h1 : 1 ≤ m) (h2 : m ≤ 12) : m = 1 ∨ m = 2 ∨ m = 3 ∨ m = 4 ∨ m = 5 ∨ m = 6 ∨ m = 7 ∨ m = 8 ∨ m = 9 ∨ m = 10 ∨ m = 11 ∨ m = 12 := by omega

/-- The day number of a date, told by the era, the century, the quad and the year of a year that begins in March. -/
theorem parts_of (y m d : Int) (hv : Valid y m d) :
    ∃ a c q r : Int, -1 ≤ a ∧ a ≤ 24 ∧ (0 ≤ c ∧ c ≤ 3) ∧ (0 ≤ q ∧ q ≤ 24) ∧ (0 ≤ r ∧ r ≤ 3) ∧ (0 ≤ off m + d - 1 ∧ off m + d - 1 ≤ 365) ∧
      (off m + d - 1 = 365 → r = 3 ∧ (q = 24 → c = 3)) ∧
      num y m d - 60 = 146097 * a + (36524 * c + 1461 * q + 365 * r + (off m + d - 1)) ∧
      (y = 400 * a + (100 * c + 4 * q + r) + if m ≤ 2 then 1 else 0) := by
  obtain ⟨h0, h1, h2, h3, h4, h5⟩ := hv
  by_cases hm : m ≤ 2
  · refine ⟨(y - 1) / 400, (y - 1) % 400 / 100, (y - 1) % 100 / 4, (y - 1) % 4, by omega, by omega, by omega, by omega, by omega, ?_⟩
    obtain rfl | rfl : m = 1 ∨ m = 2 := by omega
    · simp [mlen] at h5
      simp [off, num, cum, dby]
      omega
    · simp [mlen, lp] at h5
      simp [off, num, cum, dby]
      split at h5 <;> omega
  · refine ⟨y / 400, y % 400 / 100, y % 100 / 4, y % 4, by omega, by omega, by omega, by omega, by omega, ?_⟩
    have hd : d ≤ 31 := by
      have : mlen y m ≤ 31 := by unfold mlen; have := lp_01 y; split <;> (try split) <;> (try split) <;> omega
      omega
    have hcum : cum y m = 59 + lp y + off m := by
      rcases months m h2 h3 with rfl | rfl | rfl | rfl | rfl | rfl | rfl | rfl | rfl | rfl | rfl | rfl <;> simp [cum, off] at hm ⊢ <;> omega
    have hoff : 0 ≤ off m ∧ off m ≤ 275 := by
      rcases months m h2 h3 with rfl | rfl | rfl | rfl | rfl | rfl | rfl | rfl | rfl | rfl | rfl | rfl <;> simp [off] at hm ⊢
    simp only [num, hcum, dby, lp, hm, if_false]
    generalize off m = o at *
    split <;> omega

theorem civil_of (y m d : Int) (hv : Valid y m d) : ∃ a e : Int, num y m d - 60 = 146097 * a + e ∧ 0 ≤ e ∧ e < 146097 ∧ -1 ≤ a ∧ a ≤ 24 ∧ cyear a e = y ∧ cmonth e = m ∧ cday e = d := by
  obtain ⟨a, c, q, r, ha, ha', hc, hq, hr, hs, hl, hn, hy⟩ := parts_of y m d hv
  refine ⟨a, _, hn, by omega, by omega, ha, ha', ?_⟩
  have h1 := yoe_of c q r _ hc hq hr hs hl
  have h2 := doy_of c q r _ hc hq hr hs hl
  simp only [cyear, cmonth, cday, mp, h1, h2]
  obtain ⟨_, _, m1, m12, d1, dl⟩ := hv
  rcases months m m1 m12 with rfl | rfl | rfl | rfl | rfl | rfl | rfl | rfl | rfl | rfl | rfl | rfl <;> simp [off] at hy hs ⊢ <;> simp [mlen] at dl <;> omega

/-- What civilDate comes to at the z-th day, counted from 1 March of the year 0. -/
theorem civil (y m d z : Int) (hv : Valid y m d) (hz : num y m d = z + 60) :
    cyear (z / 146097) (z % 146097) = y ∧ cmonth (z % 146097) = m ∧ cday (z % 146097) = d := by
  obtain ⟨a, e, h, h0, h1, _, _, g⟩ := civil_of y m d hv
  have ea : z / 146097 = a := by omega
  have ee : z % 146097 = e := by omega
  rw [ea, ee]
  exact g

theorem civil_bd (y m d z : Int) (hv : Valid y m d) (hz : num y m d = z + 60) :
    (0 ≤ yoe (z % 146097) ∧ yoe (z % 146097) ≤ 399) ∧ (0 ≤ doy (z % 146097) ∧ doy (z % 146097) ≤ 365) := by
  obtain ⟨a, c, q, r, ha, ha', hc, hq, hr, hs, hl, hn, hy⟩ := parts_of y m d hv
  have ee : z % 146097 = 36524 * c + 1461 * q + 365 * r + (off m + d - 1) := by omega
  rw [ee, yoe_of c q r _ hc hq hr hs hl, doy_of c q r _ hc hq hr hs hl]
  exact ⟨by omega, hs⟩

theorem num_bd (y m d : Int) (hv : Valid y m d) : 0 ≤ num y m d ∧ num y m d ≤ 3652484 := by
  obtain ⟨a, e, h, h0, h1, h2, h3, g⟩ := civil_of y m d hv
  refine ⟨?_, by omega⟩
  obtain ⟨y0, y1, m1, m2, d1, d2⟩ := hv
  have hl := lp_01 y
  have hc : 0 ≤ cum y m := by
    rcases months m m1 m2 with rfl | rfl | rfl | rfl | rfl | rfl | rfl | rfl | rfl | rfl | rfl | rfl <;> simp [cum] <;> omega
  have hd : 0 ≤ dby y := by unfold dby; omega
  unfold num; omega

def succ (y m d : Int) : Int × Int × Int := if d < mlen y m then (y, m, d + 1) else if m < 12 then (y, m + 1, 1) else (y + 1, 1, 1)

theorem mlen_pos (y m : Int) (h1 : 1 ≤ m) (h2 : m ≤ 12) : 28 ≤ mlen y m ∧ mlen y m ≤ 31 := by
  have := lp_01 y
  rcases months m h1 h2 with rfl | rfl | rfl | rfl | rfl | rfl | rfl | rfl | rfl | rfl | rfl | rfl <;> simp [mlen] <;> omega

theorem num_last : num 9999 12 31 = 3652424 := by decide
theorem num_first : num 0 1 1 = 0 := by decide

theorem num_succ (y m d : Int) (hv : Valid y m d) : num (succ y m d).1 (succ y m d).2.1 (succ y m d).2.2 = num y m d + 1 := by
  obtain ⟨h0, h1, h2, h3, h4, h5⟩ := hv
  unfold succ
  split
  · simp only [num]; omega
  · split
    · have := cum_succ y m h2 h3
      simp only [num]; omega
    · obtain rfl : m = 12 := by omega
      have e1 := dby_succ y
      have e2 := cum_succ y 12 (by omega) (by omega)
      have e3 : cum y (12 + 1) = 365 + lp y := by simp [cum]
      have e4 : cum (y + 1) 1 = 0 := by simp [cum]
      simp only [num, e4]; omega

theorem dby_mono (a b : Int) (h : a ≤ b) : dby a ≤ dby b := by unfold dby; omega

theorem valid_succ (y m d : Int) (hv : Valid y m d) (hn : num y m d < 3652424) : Valid (succ y m d).1 (succ y m d).2.1 (succ y m d).2.2 := by
  have hs := num_succ y m d hv
  obtain ⟨h0, h1, h2, h3, h4, h5⟩ := hv
  unfold succ at hs ⊢
  split at hs
  · rename_i h; rw [if_pos h]; exact ⟨h0, h1, h2, h3, by simp; omega, by simp; omega⟩
  · rename_i h; rw [if_neg h]
    split at hs
    · rename_i h'; rw [if_pos h']
      have := mlen_pos y (m + 1) (by omega) (by omega)
      exact ⟨h0, h1, by simp; omega, by simp; omega, by simp, by simp; omega⟩
    · rename_i h'; rw [if_neg h']
      have := mlen_pos (y + 1) 1 (by omega) (by omega)
      refine ⟨by simp; omega, ?_, by simp, by simp, by simp, by simp; omega⟩
      have hs' : num (y + 1) 1 1 = num y m d + 1 := hs
      have hb : num (y + 1) 1 1 = dby (y + 1) := by simp [num, cum]
      have e : dby (y + 1) ≤ 3652424 := by omega
      simp only
      unfold dby at e; omega

theorem exists_date (n : Nat) (h : n ≤ 3652424) : ∃ y m d : Int, Valid y m d ∧ num y m d = n := by
  induction n with
  | zero => exact ⟨0, 1, 1, ⟨by decide, by decide, by decide, by decide, by decide, by decide⟩, by decide⟩
  | succ n ih =>
    obtain ⟨y, m, d, hv, hn⟩ := ih (by omega)
    exact ⟨_, _, _, valid_succ y m d hv (by omega), by rw [num_succ y m d hv, hn]; omega⟩
end Go.Proofs.Qxb6601248a.Cal
