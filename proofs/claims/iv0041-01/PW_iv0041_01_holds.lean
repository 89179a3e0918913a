import PyProof.Rows.All
import Wide.All
import OpenK.AllK
import Wide.FinOn
import Lean
import PySem.Challenge.RW_iv0041_01
set_option Elab.async false
set_option linter.unusedVariables false
set_option compiler.extract_closed false
section
open PySem PySem.W PyProof.Rows
set_option Elab.async false
set_option maxRecDepth 100000
set_option maxHeartbeats 8000000
namespace Iv
open_top hd for PySem.Challenge.rw_iv0041_01
end Iv

end
section
open Lean.Grind
set_option linter.unusedVariables false
namespace Iv
section
variable {F : Type} [Field F]

/-- l is the slope of the line through (or the tangent at) two points -/
noncomputable def Slope (a x1 y1 x2 y2 l : F) : Prop := y1 - y2 = l*(x1-x2) ∧ l*(y1+y2) = x1^2+x1*x2+x2^2+a

theorem key1 (a x1 y1 x2 y2 x3 y3 x4 y4 x6 l u al : F)
  (h1 : y1 - y2 = l*(x1-x2)) (h1' : l*(y1+y2) = x1^2+x1*x2+x2^2+a)
  (h2 : y2 - y3 = u*(x2-x3)) (h2' : u*(y2+y3) = x2^2+x2*x3+x3^2+a)
  (e4 : x4 = l^2-x1-x2) (f4 : y4 = l*(x1-x4)-y1) (e6 : x6 = u^2-x2-x3)
  (h3 : y4 - y3 = al*(x4-x3)) :
  (2*(l-u)*al - (x1+x6-x3-x4-(l-u)^2))*(x4-x3)=0 := by
  grind
theorem key1' (a x1 y1 x2 y2 x3 y3 x4 y4 x6 l u al : F)
  (h1 : y1 - y2 = l*(x1-x2)) (h1' : l*(y1+y2) = x1^2+x1*x2+x2^2+a)
  (h2 : y2 - y3 = u*(x2-x3)) (h2' : u*(y2+y3) = x2^2+x2*x3+x3^2+a)
  (e4 : x4 = l^2-x1-x2) (f4 : y4 = l*(x1-x4)-y1) (e6 : x6 = u^2-x2-x3)
  (ex : x4 = x3) (ey : y4 = y3)
  (h3' : al*(y4+y3) = x4^2+x4*x3+x3^2+a) :
  (2*(l-u)*al - (x1+x6-x3-x4-(l-u)^2))*(y4+y3)=0 := by
  grind
theorem fmul0 {x y : F} (h : x*y = 0) (hy : y ≠ 0) : x = 0 := by grind
/-- the slope of the second sum, from the left -/
theorem slopeL (a x1 y1 x2 y2 x3 y3 x4 y4 x6 l u al : F)
  (S1 : Slope a x1 y1 x2 y2 l) (S2 : Slope a x2 y2 x3 y3 u)
  (e4 : x4 = l^2-x1-x2) (f4 : y4 = l*(x1-x4)-y1) (e6 : x6 = u^2-x2-x3)
  (S3 : Slope a x4 y4 x3 y3 al) (hn : ¬ (x4 = x3 ∧ y4 + y3 = 0)) :
  2*(l-u)*al = x1+x6-x3-x4-(l-u)^2 := by
  have k := key1 a x1 y1 x2 y2 x3 y3 x4 y4 x6 l u al S1.1 S1.2 S2.1 S2.2 e4 f4 e6 S3.1
  by_cases ex : x4 = x3
  · have ey : y4 = y3 := by have := S3.1; grind
    have k' := key1' a x1 y1 x2 y2 x3 y3 x4 y4 x6 l u al S1.1 S1.2 S2.1 S2.2 e4 f4 e6 ex ey S3.2
    have := fmul0 k' (fun h => hn ⟨ex, h⟩)
    grind
  · have := fmul0 k (by grind)
    grind
theorem slopeL_sym {a x1 y1 x2 y2 l : F} (S : Slope a x1 y1 x2 y2 l) : Slope a x2 y2 x1 y1 l := by
  obtain ⟨h1, h2⟩ := S
  constructor <;> grind
theorem key2 (x1 x3 x4 x6 l u al be x2 : F) (h2 : (2:F) ≠ 0) (hD : l - u ≠ 0)
  (e4 : x4 = l^2-x1-x2) (e6 : x6 = u^2-x2-x3)
  (ha : 2*(l-u)*al = (x1+x6-x3-x4-(l-u)^2)) (hb : 2*(l-u)*be = (x1+x6-x3-x4+(l-u)^2)) :
  be = al + (l - u) := by
  grind

/-- the generic way: both sums are the same point -/
theorem assoc_gen (a x1 y1 x2 y2 x3 y3 x4 y4 x6 y6 l u al be : F) (h2 : (2:F) ≠ 0) (hD : l - u ≠ 0)
  (S1 : Slope a x1 y1 x2 y2 l) (S2 : Slope a x2 y2 x3 y3 u)
  (e4 : x4 = l^2-x1-x2) (f4 : y4 = l*(x1-x4)-y1) (e6 : x6 = u^2-x2-x3) (f6 : y6 = u*(x2-x6)-y2)
  (S3 : Slope a x4 y4 x3 y3 al) (hn3 : ¬ (x4 = x3 ∧ y4 + y3 = 0))
  (S4 : Slope a x1 y1 x6 y6 be) (hn4 : ¬ (x1 = x6 ∧ y1 + y6 = 0)) :
  al^2-x4-x3 = be^2-x1-x6 ∧ al*(x4-(al^2-x4-x3)) - y4 = be*(x1-(be^2-x1-x6))-y1 := by
  have ha := slopeL a x1 y1 x2 y2 x3 y3 x4 y4 x6 l u al S1 S2 e4 f4 e6 S3 hn3
  have hb := slopeL a x3 y3 x2 y2 x1 y1 x6 y6 x4 u l be (slopeL_sym S2) (slopeL_sym S1) (by grind) (by have := S2.1; grind) (by grind) (slopeL_sym S4) (by grind)
  have hb' : 2*(l-u)*be = (x1+x6-x3-x4+(l-u)^2) := by grind
  have hbe := key2 x1 x3 x4 x6 l u al be x2 h2 hD e4 e6 ha hb'
  have hx : al^2-x4-x3 = be^2-x1-x6 := by
    clear S1 S2 S3 S4 hb f4 f6
    grind
  refine ⟨hx, ?_⟩
  rw [← hx]
  have s1 := S1.1
  have s2 := S2.1
  have s3 := S3.1
  clear hb hb' hx hn3 hn4 
  -- everything by al; y1, y3 from y2
  have E : (l-u)^2 * (al^2-x4-x3) - (l-u)^2 * (be*x1 - al*x4 + y4 - y1) * 0 = (l-u)^2 * (al^2-x4-x3) := by grind
  have hy : al*(x4-x3) = y4-y3 := by grind
  have goal2 : (l-u)*(al*(x4-(al^2-x4-x3)) - y4 - (be*(x1-(al^2-x4-x3))-y1)) = 0 := by
    subst hbe
    have : al*x4 - y4 = al*x3 - y3 := by grind
    have d1 : (l-u)*(2*(2*(l-u)*al)) = 2*(l-u)*(x1+x6-x3-x4-(l-u)^2) := by grind
    have y13 : y3 - y1 = l*(x2-x1) - u*(x2-x3) := by grind
    have r : al*(x4-(al^2-x4-x3)) - y4 - ((al+(l-u))*(x1-(al^2-x4-x3))-y1) = al*(x3-x1) - (y3 - y1) - (l-u)*(x1-(al^2-x4-x3)) := by grind
    rw [r, y13]
    clear r y13 this d1 E hy s1 s2 s3 S1 S2 S3 S4 f4 f6
    have q : 4*((l-u)*(al * (x3 - x1) - (l * (x2 - x1) - u * (x2 - x3)) - (l - u) * (x1 - (al ^ 2 - x4 - x3)))) = 0 := by grind
    grind
  grind

/-! ## points -/
/-- on the curve y^2 = x^3 + a x + b -/
noncomputable def On (a b : F) : Option (F × F) → Prop
  | none => True
  | some q => q.2^2 = q.1^3 + a*q.1 + b
noncomputable def neg : Option (F × F) → Option (F × F)
  | none => none
  | some q => some (q.1, -q.2)
open Classical in
/-- the chord and the tangent -/
noncomputable def sum (a : F) : Option (F × F) → Option (F × F) → Option (F × F)
  | none, q => q
  | some p, none => some p
  | some p, some q =>
    if p.1 = q.1 ∧ p.2 + q.2 = 0 then none
    else if p = q then
      let m := (3*p.1*p.1 + a) * (2*p.2)⁻¹
      some (m*m - p.1 - q.1, m*(p.1 - (m*m - p.1 - q.1)) - p.2)
    else
      let m := (q.2 - p.2) * (q.1 - p.1)⁻¹
      some (m*m - p.1 - q.1, m*(p.1 - (m*m - p.1 - q.1)) - p.2)

variable {a b : F}
theorem sum_none_left (q : Option (F × F)) : sum a none q = q := by cases q <;> rfl
theorem sum_none_right (q : Option (F × F)) : sum a q none = q := by cases q <;> rfl
theorem sum_opp {p q : F × F} (h : p.1 = q.1 ∧ p.2 + q.2 = 0) : sum a (some p) (some q) = none := by
  simp only [sum]; rw [if_pos h]
/-- two points of the curve over one place are equal or opposite -/
theorem same_x {p q : F × F} (hp : On a b (some p)) (hq : On a b (some q)) (hx : p.1 = q.1) : p.2 = q.2 ∨ p.2 + q.2 = 0 := by
  simp only [On] at hp hq
  have : (p.2 - q.2)*(p.2+q.2) = 0 := by grind
  by_cases h : p.2 + q.2 = 0
  · exact .inr h
  · left; have := fmul0 this h; grind
theorem slope_ex (h2 : (2:F) ≠ 0) {p q : F × F} (hp : On a b (some p)) (hq : On a b (some q)) (h : ¬ (p.1 = q.1 ∧ p.2 + q.2 = 0)) :
    ∃ l, Slope a p.1 p.2 q.1 q.2 l ∧ sum a (some p) (some q) = some (l^2 - p.1 - q.1, l*(p.1 - (l^2 - p.1 - q.1)) - p.2) := by
  by_cases e : p = q
  · subst e
    refine ⟨(3*p.1*p.1 + a) * (2*p.2)⁻¹, ⟨by grind, ?_⟩, ?_⟩
    · have : p.2 + p.2 ≠ 0 := fun z => h ⟨rfl, z⟩
      grind
    · simp only [sum]; rw [if_neg h, if_pos trivial]
      simp only [Semiring.pow_two]
  · have hx : p.1 ≠ q.1 := by
      intro hx
      rcases same_x hp hq hx with k | k
      · exact e (Prod.ext hx k)
      · exact h ⟨hx, k⟩
    simp only [On] at hp hq
    have hne : q.1 - p.1 ≠ 0 := by grind
    have hl : (q.2 - p.2) * (q.1 - p.1)⁻¹ * (q.1 - p.1) = q.2 - p.2 := by grind
    refine ⟨(q.2 - p.2) * (q.1 - p.1)⁻¹, ⟨by grind, ?_⟩, ?_⟩
    · generalize (q.2 - p.2) * (q.1 - p.1)⁻¹ = l at *
      have : (l * (p.2 + q.2) - (p.1 ^ 2 + p.1 * q.1 + q.1 ^ 2 + a)) * (q.1 - p.1) = 0 := by grind
      have := fmul0 this hne
      grind
    · simp only [sum]; rw [if_neg h, if_neg e]
      simp only [Semiring.pow_two]
/-- whatever slope one names, it is the one -/
theorem slope_one (h2 : (2:F) ≠ 0) {p q : F × F} (hp : On a b (some p)) (hq : On a b (some q)) (h : ¬ (p.1 = q.1 ∧ p.2 + q.2 = 0)) {l : F} (S : Slope a p.1 p.2 q.1 q.2 l) :
    sum a (some p) (some q) = some (l^2 - p.1 - q.1, l*(p.1 - (l^2 - p.1 - q.1)) - p.2) := by
  obtain ⟨u, S', e⟩ := slope_ex h2 hp hq h
  rw [e]
  have : l = u := by
    obtain ⟨s1, s2⟩ := S
    obtain ⟨s1', s2'⟩ := S'
    by_cases hx : p.1 = q.1
    · have : (l-u)*(p.2+q.2) = 0 := by grind
      have := fmul0 this (fun z => h ⟨hx, z⟩)
      grind
    · have : (l-u)*(p.1 - q.1) = 0 := by grind
      have := fmul0 this (by grind)
      grind
  rw [this]
theorem sum_on (h2 : (2:F) ≠ 0) {p q : Option (F × F)} (hp : On a b p) (hq : On a b q) : On a b (sum a p q) := by
  cases p with
  | none => rw [sum_none_left]; exact hq
  | some p =>
    cases q with
    | none => exact hp
    | some q =>
      by_cases h : p.1 = q.1 ∧ p.2 + q.2 = 0
      · rw [sum_opp h]; trivial
      · obtain ⟨l, ⟨s1, s2⟩, e⟩ := slope_ex h2 hp hq h
        rw [e]
        simp only [On] at hp hq ⊢
        grind
theorem neg_on {p : Option (F × F)} (hp : On a b p) : On a b (neg p) := by
  cases p with
  | none => trivial
  | some p => simp only [On, neg] at *; grind
theorem sum_comm (h2 : (2:F) ≠ 0) {p q : Option (F × F)} (hp : On a b p) (hq : On a b q) : sum a p q = sum a q p := by
  cases p with
  | none => rw [sum_none_left, sum_none_right]
  | some p =>
    cases q with
    | none => rfl
    | some q =>
      by_cases h : p.1 = q.1 ∧ p.2 + q.2 = 0
      · rw [sum_opp h, sum_opp (by grind)]
      · obtain ⟨l, S, e⟩ := slope_ex h2 hp hq h
        rw [e, slope_one h2 hq hp (by grind) (slopeL_sym S)]
        have := S.1
        congr 2 <;> grind
theorem neg_neg (p : Option (F × F)) : neg (neg p) = p := by
  cases p with
  | none => rfl
  | some p => simp only [neg]; congr 2; grind
theorem sum_neg (p : Option (F × F)) : sum a p (neg p) = none := by
  cases p with
  | none => rfl
  | some p => exact sum_opp (by grind)
theorem neg_sum (h2 : (2:F) ≠ 0) {p q : Option (F × F)} (hp : On a b p) (hq : On a b q) : neg (sum a p q) = sum a (neg p) (neg q) := by
  cases p with
  | none => rw [sum_none_left]; simp only [neg]; rw [sum_none_left]
  | some p =>
    cases q with
    | none => rfl
    | some q =>
      by_cases h : p.1 = q.1 ∧ p.2 + q.2 = 0
      · rw [sum_opp h]; simp only [neg]; rw [sum_opp (by grind)]
      · obtain ⟨l, ⟨s1, s2⟩, e⟩ := slope_ex h2 hp hq h
        rw [e]
        have hn : sum a (neg (some p)) (neg (some q)) = some ((-l)^2 - p.1 - q.1, (-l)*(p.1 - ((-l)^2 - p.1 - q.1)) - (-p.2)) :=
          slope_one (b := b) h2 (p := (p.1, -p.2)) (q := (q.1, -q.2)) (neg_on hp) (neg_on hq) (by grind) ⟨by grind, by grind⟩
        rw [hn]
        simp only [neg]
        congr 2 <;> grind
/-- no point of order two -/
noncomputable def NoTwo (a b : F) : Prop := ∀ x : F, x^3 + a*x + b ≠ 0
theorem y_ne (h : NoTwo a b) {p : F × F} (hp : On a b (some p)) : p.2 ≠ 0 := by
  intro z
  simp only [On] at hp
  exact h p.1 (by grind)
/-- what is added is taken away again -/
theorem sum_sub (h2 : (2:F) ≠ 0) (hN : NoTwo a b) {p q : Option (F × F)} (hp : On a b p) (hq : On a b q) : sum a (sum a p q) (neg q) = p := by
  cases q with
  | none => simp only [neg]; rw [sum_none_right, sum_none_right]
  | some q =>
    cases p with
    | none => rw [sum_none_left, sum_neg]
    | some p =>
      have yq := y_ne hN hq
      by_cases h : p.1 = q.1 ∧ p.2 + q.2 = 0
      · rw [sum_opp h, sum_none_left]; simp only [neg]; congr 1; exact Prod.ext h.1.symm (by grind)
      · obtain ⟨l, ⟨s1, s2⟩, e⟩ := slope_ex h2 hp hq h
        have ho := sum_on h2 hp hq
        rw [e] at ho ⊢
        have hn : On a b (some (q.1, -q.2)) := neg_on hq
        simp only [neg]
        have hne : ¬ ((l^2 - p.1 - q.1) = q.1 ∧ (l*(p.1 - (l^2 - p.1 - q.1)) - p.2) + -q.2 = 0) := by
          rintro ⟨z1, z2⟩
          rw [z1] at z2
          have : (2:F) * q.2 = 0 := by grind
          exact yq (by grind)
        rw [slope_one h2 (l := -l) ho hn hne ⟨by grind, by simp only [On] at hp hq; grind⟩]
        congr 1
        refine Prod.ext ?_ ?_
        · grind
        · grind
theorem sum_cancel (h2 : (2:F) ≠ 0) (hN : NoTwo a b) {p q r : Option (F × F)} (hp : On a b p) (hq : On a b q) (hr : On a b r) (h : sum a p r = sum a q r) : p = q := by
  have := congrArg (fun z => sum a z (neg r)) h
  simpa only [sum_sub h2 hN hp hr, sum_sub h2 hN hq hr] using this

theorem neg_eq {p q : F × F} (h : p.1 = q.1 ∧ p.2 + q.2 = 0) : some q = neg (some p) := by
  simp only [neg]; congr 1; exact Prod.ext h.1.symm (by grind)
/-- the sum is associative -/
theorem sum_assoc (h2 : (2:F) ≠ 0) (hN : NoTwo a b) {p q r : Option (F × F)} (hp : On a b p) (hq : On a b q) (hr : On a b r) :
    sum a (sum a p q) r = sum a p (sum a q r) := by
  cases p with
  | none => rw [sum_none_left, sum_none_left]
  | some p =>
  cases q with
  | none => rw [sum_none_left, sum_none_right]
  | some q =>
  cases r with
  | none => rw [sum_none_right, sum_none_right]
  | some r =>
  by_cases c1 : p.1 = q.1 ∧ p.2 + q.2 = 0
  · rw [sum_opp c1, sum_none_left, neg_eq c1]
    have hn := neg_on hp
    rw [sum_comm h2 hn hr, sum_comm h2 hp (sum_on h2 hr hn)]
    have := sum_sub h2 hN hr hn
    rw [neg_neg] at this
    exact this.symm
  by_cases c2 : q.1 = r.1 ∧ q.2 + r.2 = 0
  · rw [sum_opp c2, sum_none_right, neg_eq c2]
    exact sum_sub h2 hN hp hq
  obtain ⟨l, S1, e1⟩ := slope_ex h2 hp hq c1
  obtain ⟨u, S2, e2⟩ := slope_ex h2 hq hr c2
  have hs := sum_on h2 hp hq
  have ht := sum_on h2 hq hr
  by_cases c3 : (l^2 - p.1 - q.1) = r.1 ∧ (l*(p.1 - (l^2 - p.1 - q.1)) - p.2) + r.2 = 0
  · have hr' : some r = neg (sum a (some p) (some q)) := by rw [e1]; exact neg_eq c3
    rw [hr', sum_neg, neg_sum h2 hp hq, sum_comm h2 hq (sum_on h2 (neg_on hp) (neg_on hq))]
    have := sum_sub h2 hN (neg_on hp) (neg_on hq)
    rw [neg_neg] at this
    rw [this, sum_neg]
  by_cases c4 : p.1 = (u^2 - q.1 - r.1) ∧ p.2 + (u*(q.1 - (u^2 - q.1 - r.1)) - q.2) = 0
  · have hp' : some p = neg (sum a (some q) (some r)) := by rw [e2]; exact neg_eq ⟨c4.1.symm, by have := c4.2; grind⟩
    rw [hp', sum_comm h2 (neg_on ht) ht, sum_neg, neg_sum h2 hq hr, sum_comm h2 (neg_on hq) (neg_on hr)]
    have := sum_sub h2 hN (neg_on hr) (neg_on hq)
    rw [neg_neg] at this
    rw [this, sum_comm h2 (neg_on hr) hr, sum_neg]
  by_cases hD : l - u = 0
  · have k : (r.1 - p.1) * (r.1 - (l^2 - p.1 - q.1)) = 0 := by
      obtain ⟨s1, s1'⟩ := S1
      obtain ⟨s2, s2'⟩ := S2
      simp only [On] at hp hq hr
      by_cases z : q.1 = r.1
      · have hlu : l = u := by grind
        subst hlu
        clear hs ht e1 e2 c3 c4
        grind
      · have hlu : l = u := by grind
        subst hlu
        clear hs ht e1 e2 c3 c4
        have : ((r.1 - p.1) * (r.1 - (l^2 - p.1 - q.1))) * (q.1 - r.1) = 0 := by grind
        exact fmul0 this (by grind)
    have hy : p.2 - r.2 = l*(p.1 - r.1) := by have := S1.1; have := S2.1; grind
    have hrp : r = p := by
      by_cases z : r.1 = p.1
      · exact Prod.ext z (by grind)
      · have : r.1 = l^2 - p.1 - q.1 := by
          have : (r.1 - (l^2 - p.1 - q.1)) * (r.1 - p.1) = 0 := by grind
          have := fmul0 this (by grind)
          grind
        exact absurd ⟨this.symm, by grind⟩ c3
    subst hrp
    rw [sum_comm h2 hs hr, sum_comm h2 hp hq]
  rw [e1] at hs ⊢
  rw [e2] at ht ⊢
  obtain ⟨al, S3, e3⟩ := slope_ex h2 hs hr c3
  obtain ⟨be, S4, e4⟩ := slope_ex h2 hp ht c4
  rw [e3, e4]
  have := assoc_gen a p.1 p.2 q.1 q.2 r.1 r.2 _ _ _ _ l u al be h2 hD S1 S2 rfl rfl rfl rfl S3 c3 S4 c4
  congr 1
  exact Prod.ext this.1 this.2

/-- the multiples -/
noncomputable def smul (a : F) (P : Option (F × F)) : Nat → Option (F × F)
  | 0 => none
  | n + 1 => sum a (smul a P n) P
theorem smul_on (h2 : (2:F) ≠ 0) {P : Option (F × F)} (hp : On a b P) : ∀ n, On a b (smul a P n)
  | 0 => trivial
  | n + 1 => sum_on h2 (smul_on h2 hp n) hp
theorem smul_add (h2 : (2:F) ≠ 0) (hN : NoTwo a b) {P : Option (F × F)} (hp : On a b P) (m : Nat) : ∀ n, smul a P (m + n) = sum a (smul a P m) (smul a P n)
  | 0 => (sum_none_right _).symm
  | n + 1 => by
    show sum a (smul a P (m + n)) P = sum a _ (sum a _ P)
    rw [smul_add h2 hN hp m n, sum_assoc h2 hN (smul_on h2 hp m) (smul_on h2 hp n) hp]
theorem smul_one {P : Option (F × F)} : smul a P 1 = P := sum_none_left P
theorem smul_none : ∀ n, smul a (none : Option (F × F)) n = none
  | 0 => rfl
  | n + 1 => by show sum a (smul a none n) none = none; rw [smul_none n]; rfl
theorem smul_two {P : Option (F × F)} (h2 : (2:F) ≠ 0) (hN : NoTwo a b) (hp : On a b P) (n : Nat) : smul a P (2 * n) = sum a (smul a P n) (smul a P n) := by
  rw [show 2 * n = n + n by omega, smul_add h2 hN hp]
theorem smul_smul (h2 : (2:F) ≠ 0) (hN : NoTwo a b) {P : Option (F × F)} (hp : On a b P) (m : Nat) : ∀ n, smul a (smul a P m) n = smul a P (m * n)
  | 0 => rfl
  | n + 1 => by
    show sum a (smul a (smul a P m) n) (smul a P m) = _
    rw [smul_smul h2 hN hp m n, Nat.mul_succ, smul_add h2 hN hp]
end
end Iv

end
section
open Lean.Grind
set_option linter.unusedVariables false
namespace Iv
/-! ## primes and Fermat -/
noncomputable def IsPrime (p : Nat) : Prop := 2 ≤ p ∧ ∀ d, d ∣ p → d = 1 ∨ d = p
theorem IsPrime.coprime {p a : Nat} (hp : IsPrime p) (h : ¬ p ∣ a) : Nat.Coprime p a := by
  rcases hp.2 (Nat.gcd p a) (Nat.gcd_dvd_left p a) with k | k
  · exact k
  · exact absurd (k ▸ Nat.gcd_dvd_right p a) h
theorem IsPrime.dvd_mul {p a b : Nat} (hp : IsPrime p) (h : p ∣ a * b) : p ∣ a ∨ p ∣ b := by
  by_cases k : p ∣ a
  · exact .inl k
  · exact .inr ((hp.coprime k).dvd_of_dvd_mul_left h)

noncomputable def ch : Nat → Nat → Nat
  | _, 0 => 1
  | 0, _ + 1 => 0
  | n + 1, k + 1 => ch n k + ch n (k + 1)
theorem ch_big : ∀ n k, n < k → ch n k = 0
  | 0, k + 1, _ => rfl
  | n + 1, k + 1, h => by rw [ch, ch_big n k (by omega), ch_big n (k + 1) (by omega)]
theorem ch_self : ∀ n, ch n n = 1
  | 0 => rfl
  | n + 1 => by rw [ch, ch_self n, ch_big n (n + 1) (by omega)]
theorem ch_mul : ∀ n k, (k + 1) * ch (n + 1) (k + 1) = (n + 1) * ch n k
  | 0, 0 => rfl
  | 0, k + 1 => by
    have e1 : ch 0 (k + 1) = 0 := rfl
    have e2 : ch (0 + 1) (k + 1 + 1) = 0 := rfl
    rw [e1, e2]; omega
  | n + 1, 0 => by
    have := ch_mul n 0
    have e : ch (n + 1) 0 = 1 := rfl
    have e3 : ch (n + 1 + 1) (0 + 1) = ch (n + 1) 0 + ch (n + 1) (0 + 1) := rfl
    have e' : ch n 0 = 1 := by cases n <;> rfl
    rw [e3, e]; rw [e'] at this
    omega
  | n + 1, k + 1 => by
    have h1 := ch_mul n k
    have h2 := ch_mul n (k + 1)
    rw [ch]
    have h3 : ch (n + 1) (k + 1) = ch n k + ch n (k + 1) := rfl
    grind
theorem dvd_ch {p : Nat} (hp : IsPrime p) {k : Nat} (h0 : 0 < k) (hk : k < p) : p ∣ ch p k := by
  obtain ⟨k, rfl⟩ : ∃ j, k = j + 1 := ⟨k - 1, by omega⟩
  obtain ⟨q, rfl⟩ : ∃ j, p = j + 1 := ⟨p - 1, by omega⟩
  have h := ch_mul q k
  rcases hp.dvd_mul (a := k + 1) (b := ch (q + 1) (k + 1)) ⟨ch q k, h⟩ with d | d
  · exact absurd (Nat.le_of_dvd (by omega) d) (by omega)
  · exact d
noncomputable def bsum (n a : Nat) : Nat → Nat
  | 0 => 0
  | m + 1 => bsum n a m + ch n m * a ^ m
theorem bsum_step (n a : Nat) : ∀ m, bsum (n + 1) a (m + 1) = bsum n a (m + 1) + a * bsum n a m
  | 0 => by simp only [bsum]; have : ch (n + 1) 0 = 1 := rfl; have e : ch n 0 = 1 := by cases n <;> rfl
            rw [this, e]; rfl
  | m + 1 => by
    have ih := bsum_step n a m
    have e1 : bsum (n + 1) a (m + 1 + 1) = bsum (n + 1) a (m + 1) + ch (n + 1) (m + 1) * a ^ (m + 1) := rfl
    have e2 : bsum n a (m + 1 + 1) = bsum n a (m + 1) + ch n (m + 1) * a ^ (m + 1) := rfl
    have e3 : bsum n a (m + 1) = bsum n a m + ch n m * a ^ m := rfl
    have e4 : ch (n + 1) (m + 1) = ch n m + ch n (m + 1) := rfl
    rw [e1, ih, e2, e4, Nat.pow_succ]
    grind
theorem binom (a : Nat) : ∀ n, (1 + a) ^ n = bsum n a (n + 1)
  | 0 => by simp [bsum, ch]
  | n + 1 => by
    rw [Nat.pow_succ, binom a n, bsum_step]
    have : bsum n a (n + 1 + 1) = bsum n a (n + 1) + ch n (n + 1) * a ^ (n + 1) := rfl
    rw [this, ch_big n (n + 1) (by omega)]
    grind
theorem bsum_mod {p a : Nat} (hp : IsPrime p) : ∀ m, m < p → bsum p a (m + 1) % p = 1 % p
  | 0, _ => by simp only [bsum]; have : ch p 0 = 1 := by cases p <;> rfl
               rw [this]; simp
  | m + 1, h => by
    have ih := bsum_mod (a := a) hp m (by omega)
    rw [bsum, Nat.add_mod, ih]
    have d : (ch p (m + 1) * a ^ (m + 1)) % p = 0 := Nat.mod_eq_zero_of_dvd (Nat.dvd_trans (dvd_ch hp (by omega) h) (Nat.dvd_mul_right _ _))
    rw [d]; simp
theorem fermat {p : Nat} (hp : IsPrime p) : ∀ a, a ^ p % p = a % p
  | 0 => by rw [Nat.zero_pow (by have := hp.1; omega)]
  | a + 1 => by
    rw [Nat.add_comm a 1, binom]
    have h2 := hp.1
    obtain ⟨q, rfl⟩ : ∃ j, p = j + 1 := ⟨p - 1, by omega⟩
    have e : bsum (q + 1) a (q + 1 + 1) = bsum (q + 1) a (q + 1) + ch (q + 1) (q + 1) * a ^ (q + 1) := rfl
    rw [e, ch_self, Nat.one_mul, Nat.add_mod, bsum_mod hp q (by omega), fermat hp a, ← Nat.add_mod]
theorem fermat' {p : Nat} (hp : IsPrime p) {a : Nat} (h : ¬ p ∣ a) : a ^ (p - 1) % p = 1 := by
  have f := fermat hp a
  have h2 := hp.1
  obtain ⟨q, rfl⟩ : ∃ j, p = j + 1 := ⟨p - 1, by omega⟩
  rw [Nat.add_sub_cancel]
  rw [Nat.pow_succ] at f
  by_cases ha : a = 0
  · subst ha; exact absurd (Nat.dvd_zero _) h
  have hpos : 1 ≤ a ^ q := Nat.pow_pos (Nat.pos_of_ne_zero ha)
  have d : (q + 1) ∣ a ^ q * a - a := Nat.dvd_of_mod_eq_zero (Nat.sub_mod_eq_zero_of_mod_eq f)
  have e : a ^ q * a - a = a * (a ^ q - 1) := by rw [Nat.mul_sub_one, Nat.mul_comm]
  rw [e] at d
  have d' : (q + 1) ∣ a ^ q - 1 := (hp.coprime h).dvd_of_dvd_mul_left d
  obtain ⟨c, hc⟩ := d'
  have : a ^ q = 1 + (q + 1) * c := by omega
  rw [this, Nat.add_mul_mod_self_left]
  exact Nat.mod_eq_of_lt (by omega)

/-! ## the field of p elements -/
noncomputable def zset (p : Nat) : Setoid Int := ⟨fun x y => x % (p : Int) = y % (p : Int), ⟨fun _ => rfl, fun h => h.symm, fun h k => h.trans k⟩⟩
noncomputable def Zp (p : Nat) : Type := Quotient (zset p)
namespace Zp
variable {p : Nat}
noncomputable def mk (x : Int) : Zp p := Quotient.mk (zset p) x
theorem mk_eq {x y : Int} : (mk x : Zp p) = mk y ↔ x % (p : Int) = y % (p : Int) := ⟨fun h => Quotient.exact (s := zset p) h, fun h => Quotient.sound (s := zset p) h⟩
theorem ind {P : Zp p → Prop} (h : ∀ x, P (mk x)) (z : Zp p) : P z := Quotient.ind (s := zset p) h z
noncomputable def lift2 (f : Int → Int → Int) (h : ∀ x x' y y', x % (p : Int) = x' % (p : Int) → y % (p : Int) = y' % (p : Int) → f x y % (p : Int) = f x' y' % (p : Int)) (a b : Zp p) : Zp p :=
  Quotient.liftOn₂ (s₁ := zset p) (s₂ := zset p) a b (fun x y => mk (f x y)) fun x y x' y' hx hy => mk_eq.mpr (h x x' y y' hx hy)
noncomputable def lift1 (f : Int → Int) (h : ∀ x x', x % (p : Int) = x' % (p : Int) → f x % (p : Int) = f x' % (p : Int)) (a : Zp p) : Zp p :=
  Quotient.liftOn (s := zset p) a (fun x => mk (f x)) fun x x' hx => mk_eq.mpr (h x x' hx)
theorem pow_cong {x x' : Int} (h : x % (p : Int) = x' % (p : Int)) : ∀ n : Nat, x ^ n % (p : Int) = x' ^ n % (p : Int)
  | 0 => by rw [Int.pow_zero, Int.pow_zero]
  | n + 1 => by rw [Int.pow_succ, Int.pow_succ, Int.mul_emod, pow_cong h n, h, ← Int.mul_emod]
noncomputable def add (a b : Zp p) : Zp p := lift2 (· + ·) (fun x x' y y' h k => by rw [Int.add_emod, h, k, ← Int.add_emod]) a b
noncomputable def mul (a b : Zp p) : Zp p := lift2 (· * ·) (fun x x' y y' h k => by rw [Int.mul_emod, h, k, ← Int.mul_emod]) a b
noncomputable def sub (a b : Zp p) : Zp p := lift2 (· - ·) (fun x x' y y' h k => by rw [Int.sub_emod, h, k, ← Int.sub_emod]) a b
noncomputable def neg (a : Zp p) : Zp p := lift1 (fun x => -x) (fun x x' h => by rw [show -x = 0 - x by omega, show -x' = 0 - x' by omega, Int.sub_emod, h, ← Int.sub_emod]) a
noncomputable def npow (a : Zp p) (n : Nat) : Zp p := lift1 (fun x => x ^ n) (fun x x' h => pow_cong h n) a
noncomputable def inv (a : Zp p) : Zp p := if p = 2 then a else npow a (p - 2)
noncomputable abbrev ring : CommRing (Zp p) where
  add := add
  mul := mul
  natCast := ⟨fun n => mk n⟩
  ofNat n := ⟨mk (n : Int)⟩
  nsmul := ⟨fun n a => mul (mk n) a⟩
  npow := ⟨npow⟩
  neg := neg
  sub := sub
  intCast := ⟨mk⟩
  zsmul := ⟨fun n a => mul (mk n) a⟩
  add_zero := ind fun x => congrArg mk (Int.add_zero x)
  add_comm := ind fun x => ind fun y => congrArg mk (Int.add_comm x y)
  add_assoc := ind fun x => ind fun y => ind fun z => congrArg mk (Int.add_assoc x y z)
  mul_assoc := ind fun x => ind fun y => ind fun z => congrArg mk (Int.mul_assoc x y z)
  mul_comm := ind fun x => ind fun y => congrArg mk (Int.mul_comm x y)
  mul_one := ind fun x => congrArg mk (Int.mul_one x)
  one_mul := ind fun x => congrArg mk (Int.one_mul x)
  left_distrib := ind fun x => ind fun y => ind fun z => congrArg mk (Int.mul_add x y z)
  right_distrib := ind fun x => ind fun y => ind fun z => congrArg mk (Int.add_mul x y z)
  zero_mul := ind fun x => congrArg mk (Int.zero_mul x)
  mul_zero := ind fun x => congrArg mk (Int.mul_zero x)
  pow_zero := ind fun x => congrArg mk (Int.pow_zero x)
  pow_succ := ind fun x => fun n => congrArg mk (Int.pow_succ x n)
  ofNat_succ n := rfl
  neg_add_cancel := ind fun x => congrArg mk (Int.add_left_neg x)
  sub_eq_add_neg := ind fun x => ind fun y => congrArg mk Int.sub_eq_add_neg
  neg_zsmul i := ind fun x => congrArg mk (Int.neg_mul i x)
  intCast_ofNat n := rfl
  intCast_neg i := rfl

theorem mul_inv {p : Nat} (hp : IsPrime p) (a : Zp p) (h : a ≠ mk 0) : mul a (inv a) = mk 1 := by
  have h2 := hp.1
  revert h
  refine ind (P := fun a => a ≠ mk 0 → mul a (inv a) = mk 1) (fun x => ?_) a
  intro h
  have hx : ¬ (p : Int) ∣ x := fun d => h (mk_eq.mpr (by rw [Int.emod_eq_zero_of_dvd d, Int.zero_emod]))
  -- the natural number behind
  have key : x ^ (p - 1) % (p : Int) = 1 % (p : Int) := by
    have e : x % (p : Int) = ((x % (p : Int)).toNat : Int) % (p : Int) := by
      rw [Int.toNat_of_nonneg (Int.emod_nonneg _ (by omega)), Int.emod_emod_of_dvd _ (Int.dvd_refl _)]
    rw [pow_cong e]
    have hn : ¬ p ∣ (x % (p : Int)).toNat := fun d => hx (Int.dvd_of_emod_eq_zero (by
      obtain ⟨c, hc⟩ := d
      have l1 := Int.emod_nonneg x (b := (p : Int)) (by omega)
      have l2 := Int.emod_lt_of_pos x (b := (p : Int)) (by omega)
      cases c with
      | zero => omega
      | succ c => rw [Nat.mul_succ] at hc; omega))
    have f := fermat' hp hn
    have : (((x % (p : Int)).toNat ^ (p - 1) % p : Nat) : Int) = ((1 : Nat) : Int) := by rw [f]
    rw [Int.natCast_emod, Int.natCast_pow] at this
    rw [this, Int.emod_eq_of_lt (by omega) (by omega)]; rfl
  unfold inv
  by_cases e : p = 2
  · rw [if_pos e]
    subst e
    refine mk_eq.mpr ?_
    have : x ^ 1 % 2 = 1 % 2 := key
    rw [Int.pow_one] at this
    show x * x % 2 = 1 % 2
    rw [Int.mul_emod, this]
    rfl
  · rw [if_neg e]
    refine mk_eq.mpr ?_
    show x * x ^ (p - 2) % (p : Int) = _
    rw [Int.mul_comm, ← Int.pow_succ, show (p - 2).succ = p - 1 by omega]
    exact key
/-- x to an int -/
noncomputable def zpow (a : Zp p) : Int → Zp p
  | .ofNat n => npow a n
  | .negSucc n => inv (npow a (n + 1))
theorem inv_zero {p : Nat} (hp : IsPrime p) : inv (mk 0 : Zp p) = mk 0 := by
  have := hp.1
  unfold inv
  split
  · rfl
  · exact congrArg mk (Int.zero_pow (by omega))
theorem inv_one {p : Nat} (hp : IsPrime p) : inv (mk 1 : Zp p) = mk 1 := by
  have := hp.1
  unfold inv
  split
  · rfl
  · exact congrArg mk (Int.one_pow)
theorem inv_inv {p : Nat} (hp : IsPrime p) (a : Zp p) : inv (inv a) = a := by
  letI := ring (p := p)
  by_cases h : a = mk 0
  · rw [h, inv_zero hp, inv_zero hp]
  · have k := mul_inv hp a h
    have h' : inv a ≠ mk 0 := by
      intro e
      rw [e] at k
      have k : a * 0 = (1 : Zp p) := k
      rw [Semiring.mul_zero] at k
      have : (0 : Int) % p = 1 % p := mk_eq.mp k
      have := hp.1
      rw [Int.zero_emod, Int.emod_eq_of_lt (by omega) (by omega)] at *
      omega
    have k' := mul_inv hp (inv a) h'
    have k1 : a * inv a = (1 : Zp p) := k
    have k2 : inv a * inv (inv a) = (1 : Zp p) := k'
    calc inv (inv a) = 1 * inv (inv a) := (Semiring.one_mul _).symm
      _ = (a * inv a) * inv (inv a) := by rw [k1]
      _ = a * (inv a * inv (inv a)) := Semiring.mul_assoc _ _ _
      _ = a := by rw [k2, Semiring.mul_one]
noncomputable abbrev field {p : Nat} (hp : IsPrime p) : Field (Zp p) :=
  { ring with
    inv := inv
    div := fun a b => mul a (inv b)
    zpow := ⟨zpow⟩
    div_eq_mul_inv := fun _ _ => rfl
    zero_ne_one := fun e => by
      have : (0 : Int) % p = 1 % p := mk_eq.mp e
      have := hp.1
      rw [Int.zero_emod, Int.emod_eq_of_lt (by omega) (by omega)] at *
      omega
    inv_zero := inv_zero hp
    mul_inv_cancel := fun h => mul_inv hp _ h
    zpow_zero := ind fun x => congrArg mk (Int.pow_zero x)
    zpow_succ := ind fun x => fun n => congrArg mk (Int.pow_succ x n)
    zpow_neg := fun a n => by
      cases n with
      | ofNat n => cases n with
        | zero =>
          show npow a 0 = inv (npow a 0)
          have : npow a 0 = mk 1 := by revert a; exact ind fun x => congrArg mk (Int.pow_zero x)
          rw [this, inv_one hp]
        | succ n => rfl
      | negSucc n => exact (inv_inv hp _).symm }
end Zp

/-! ## the ints over a field of p elements -/
structure Over (F : Type) [Field F] (p : Nat) where
  c : Int → F
  add : ∀ x y, c (x + y) = c x + c y
  mul : ∀ x y, c (x * y) = c x * c y
  sub : ∀ x y, c (x - y) = c x - c y
  pow : ∀ x (n : Nat), c (x ^ n) = c x ^ n
  one : c 1 = 1
  zero : c 0 = 0
  iff : ∀ x y, c x = c y ↔ x % (p : Int) = y % (p : Int)
  v : F → Int
  v0 : ∀ a, 0 ≤ v a
  vp : ∀ a, v a < p
  cv : ∀ a, c (v a) = a
noncomputable def Zp.over {p : Nat} (hp : IsPrime p) : @Over (Zp p) (Zp.field hp) p :=
  letI := Zp.field hp
  { c := Zp.mk
    add := fun _ _ => rfl
    mul := fun _ _ => rfl
    sub := fun _ _ => rfl
    pow := fun _ _ => rfl
    one := rfl
    zero := rfl
    iff := fun _ _ => Zp.mk_eq
    v := fun a => Quotient.liftOn (s := zset p) a (fun x => x % (p : Int)) fun _ _ h => h
    v0 := Zp.ind fun x => Int.emod_nonneg _ (by have := hp.1; omega)
    vp := Zp.ind fun x => Int.emod_lt_of_pos _ (by have := hp.1; omega)
    cv := Zp.ind fun x => Zp.mk_eq.mpr (Int.emod_emod_of_dvd _ (Int.dvd_refl _)) }
end Iv

end
section
set_option linter.unusedVariables false
namespace Iv
/-! ## primes by certificates -/
theorem prime_factor : ∀ n : Nat, 2 ≤ n → ∃ d, IsPrime d ∧ d ∣ n := by
  intro n
  induction n using Nat.strongRecOn with
  | ind n ih =>
    intro h
    by_cases k : IsPrime n
    · exact ⟨n, k, Nat.dvd_refl n⟩
    · have : ∃ d, d ∣ n ∧ d ≠ 1 ∧ d ≠ n := by
        refine Classical.byContradiction fun q => k ⟨h, fun d hd => ?_⟩
        by_cases h1 : d = 1
        · exact .inl h1
        · by_cases h2 : d = n
          · exact .inr h2
          · exact absurd ⟨d, hd, h1, h2⟩ q
      obtain ⟨d, hd, h1, h2⟩ := this
      have hle := Nat.le_of_dvd (by omega) hd
      have hpos : 0 < d := Nat.pos_of_dvd_of_pos hd (by omega)
      obtain ⟨e, he, hed⟩ := ih d (by omega) (by omega)
      exact ⟨e, he, Nat.dvd_trans hed hd⟩
theorem prime_of {n : Nat} (h2 : 2 ≤ n) (h : ∀ d, IsPrime d → d ∣ n → n < d * d) : IsPrime n := by
  refine ⟨h2, fun e he => ?_⟩
  obtain ⟨f, rfl⟩ := he
  by_cases e1 : e = 1
  · exact .inl e1
  by_cases f1 : f = 1
  · right; rw [f1, Nat.mul_one]
  exfalso
  have e0 : e ≠ 0 := by intro z; rw [z, Nat.zero_mul] at h2; omega
  have f0 : f ≠ 0 := by intro z; rw [z, Nat.mul_zero] at h2; omega
  obtain ⟨d, hd, hde⟩ := prime_factor e (by omega)
  obtain ⟨g, hg, hgf⟩ := prime_factor f (by omega)
  have l1 := Nat.le_of_dvd (by omega) hde
  have l2 := Nat.le_of_dvd (by omega) hgf
  have a1 := h d hd (Nat.dvd_trans hde (Nat.dvd_mul_right _ _))
  have a2 := h g hg (Nat.dvd_trans hgf (Nat.dvd_mul_left _ _))
  have m := Nat.mul_le_mul l1 l2
  rcases Nat.le_total d g with k | k
  · have := Nat.mul_le_mul_left d k; omega
  · have := Nat.mul_le_mul_right g k; omega
/-- no divisor among d, d + 1, .., k of them -/
noncomputable def noDiv (n : Nat) : Nat → Nat → Bool
  | 0, _ => true
  | k + 1, d => if n % d = 0 then false else noDiv n k (d + 1)
theorem noDiv_spec {n : Nat} : ∀ k d, noDiv n k d = true → ∀ e, d ≤ e → e < d + k → ¬ e ∣ n
  | 0, _, _, _, _, _ => by omega
  | k + 1, d, h, e, h1, h2 => by
    rw [noDiv] at h
    split at h
    · cases h
    · rename_i hn
      by_cases q : e = d
      · subst q; exact fun z => hn (Nat.mod_eq_zero_of_dvd z)
      · exact noDiv_spec k (d + 1) h e (by omega) (by omega)
theorem prime_trial {n k : Nat} (h2 : 2 ≤ n) (hk : n < (k + 2) * (k + 2)) (h : noDiv n k 2 = true) : IsPrime n := by
  refine prime_of h2 fun d hd hdn => ?_
  have := noDiv_spec k 2 h d hd.1
  have : k + 2 ≤ d := by
    by_cases q : d < 2 + k
    · exact absurd hdn (this q)
    · omega
  have := Nat.mul_le_mul this this
  omega

noncomputable def pm (m : Nat) : Nat → Nat → Nat → Nat
  | 0, _, _ => 1 % m
  | k + 1, b, e => if e % 2 = 0 then pm m k (b * b % m) (e / 2) else b * pm m k (b * b % m) (e / 2) % m
theorem pow_mod_base (m b : Nat) : ∀ e, (b % m) ^ e % m = b ^ e % m := fun e => (Nat.pow_mod b e m).symm
theorem pm_spec (m : Nat) : ∀ k b e, e < 2 ^ k → pm m k b e = b ^ e % m
  | 0, b, e, h => by
    have : e = 0 := by simpa using h
    subst this; rfl
  | k + 1, b, e, h => by
    have hk : e / 2 < 2 ^ k := by rw [Nat.pow_succ] at h; omega
    have ih := pm_spec m k (b * b % m) (e / 2) hk
    have ih' : pm m k (b * b % m) (e / 2) = b ^ (2 * (e / 2)) % m := by
      rw [ih, pow_mod_base, Nat.pow_mul, Nat.pow_two]
    rw [pm, ih']
    by_cases q : e % 2 = 0
    · rw [if_pos q, show 2 * (e / 2) = e by omega]
    · rw [if_neg q, Nat.mul_mod_mod, ← Nat.pow_succ', show (2 * (e / 2)).succ = e by omega]

theorem pow_gcd {d a : Nat} : ∀ m n, a ^ m % d = 1 % d → a ^ n % d = 1 % d → a ^ (Nat.gcd m n) % d = 1 % d := by
  intro m
  induction m using Nat.strongRecOn with
  | ind m ih =>
    intro n hm hn
    by_cases z : m = 0
    · subst z; rw [Nat.gcd_zero_left]; exact hn
    · rw [Nat.gcd_rec]
      refine ih (n % m) (Nat.mod_lt _ (by omega)) m ?_ hm
      have e : a ^ n = (a ^ m) ^ (n / m) * a ^ (n % m) := by
        rw [← Nat.pow_mul, ← Nat.pow_add, Nat.div_add_mod]
      rw [e, Nat.mul_mod, Nat.pow_mod, hm, ← Nat.pow_mod, Nat.one_pow, ← Nat.mul_mod, Nat.one_mul] at hn
      exact hn
/-- Pocklington's step: a prime power of n - 1 divides d - 1 for each prime d in n -/
theorem pock {n l e a d : Nat} (hl : IsPrime l) (hle : l ^ (e + 1) ∣ n - 1) (h1 : a ^ (n - 1) % n = 1) (hn : 2 ≤ n)
    (hg : Nat.gcd (a ^ ((n - 1) / l) % n + (n - 1)) n = 1) (hd : IsPrime d) (hdn : d ∣ n) : l ^ (e + 1) ∣ d - 1 := by
  have hl2 := hl.1
  have hd2 := hd.1
  have a1 : a ^ (n - 1) % d = 1 % d := by
    rw [← Nat.mod_mod_of_dvd _ hdn, h1]
  have ha : ¬ d ∣ a := by
    intro q
    have : d ∣ a ^ (n - 1) := Nat.dvd_trans q (by have := Nat.pow_dvd_pow a (show 1 ≤ n - 1 by omega); rwa [Nat.pow_one] at this)
    rw [Nat.mod_eq_zero_of_dvd this, Nat.mod_eq_of_lt (by omega)] at a1
    omega
  have a2 : a ^ (d - 1) % d = 1 % d := by rw [fermat' hd ha, Nat.mod_eq_of_lt (by omega)]
  have a3 := pow_gcd _ _ a1 a2
  obtain ⟨k, hk⟩ := Nat.gcd_dvd_left (n - 1) (d - 1)
  by_cases q : l ∣ k
  · exfalso
    obtain ⟨k', rfl⟩ := q
    have : (n - 1) / l = Nat.gcd (n - 1) (d - 1) * k' := by
      conv => lhs; rw [hk]
      rw [show Nat.gcd (n - 1) (d - 1) * (l * k') = l * (Nat.gcd (n - 1) (d - 1) * k') by
        rw [← Nat.mul_assoc, ← Nat.mul_assoc, Nat.mul_comm l]]
      exact Nat.mul_div_cancel_left _ (by omega)
    have a4 : a ^ ((n - 1) / l) % d = 1 % d := by
      rw [this, Nat.pow_mul, Nat.pow_mod, a3, ← Nat.pow_mod, Nat.one_pow]
    have b1 : (a ^ ((n - 1) / l) % n) % d = 1 % d := by rw [Nat.mod_mod_of_dvd _ hdn]; exact a4
    have : d ∣ a ^ ((n - 1) / l) % n + (n - 1) := by
      refine Nat.dvd_of_mod_eq_zero ?_
      rw [Nat.add_mod, b1, ← Nat.add_mod, show 1 + (n - 1) = n by omega]
      exact Nat.mod_eq_zero_of_dvd hdn
    have := Nat.dvd_gcd this hdn
    rw [hg] at this
    have := Nat.le_of_dvd (by omega) this
    omega
  · have hc : Nat.Coprime (l ^ (e + 1)) k := Nat.Coprime.pow_left _ (hl.coprime q)
    have : l ^ (e + 1) ∣ Nat.gcd (n - 1) (d - 1) := by
      rw [hk] at hle
      exact hc.dvd_of_dvd_mul_right hle
    exact Nat.dvd_trans this (Nat.gcd_dvd_right _ _)
/-- the same, with the powers reckoned -/
theorem pock' {n l a d k u : Nat} (hl : IsPrime l) (hle : (n - 1) % l = 0) (hn : 2 ≤ n) (hk : n - 1 < 2 ^ k) (h1 : pm n k a (n - 1) = 1)
    (hu : pm n k a ((n - 1) / l) = u) (hg : Nat.gcd (u + (n - 1)) n = 1) (hd : IsPrime d) (hdn : d ∣ n) : l ∣ d - 1 := by
  have := pock (e := 0) (a := a) hl (by rw [Nat.pow_one]; exact Nat.dvd_of_mod_eq_zero hle) (by rw [← pm_spec n k a _ hk]; exact h1) hn (by
    rw [← pm_spec n k a _ (Nat.lt_of_le_of_lt (Nat.div_le_self _ _) hk), hu]; exact hg) hd hdn
  simpa using this

theorem prime_a : IsPrime 107590001 := prime_trial (k := 10372) (by decide) (by decide) (by decide +kernel)
theorem prime_b : IsPrime 7240687 := prime_trial (k := 2690) (by decide) (by decide) (by decide +kernel)
theorem prime_c : IsPrime 96557 := prime_trial (k := 310) (by decide) (by decide) (by decide +kernel)

noncomputable abbrev pR : Nat := 255515944373312847190720520512484175977
noncomputable abbrev pQ : Nat := 205115282021455665897114700593932402728804164701536103180137503955397371
noncomputable abbrev pP : Nat := 115792089237316195423570985008687907853269984665640564039457584007908834671663
theorem coprime_mul_dvd {a b c : Nat} (h : Nat.Coprime a b) (h1 : a ∣ c) (h2 : b ∣ c) : a * b ∣ c := h.mul_dvd_of_dvd_of_dvd h1 h2
/-- a divisor of d - 1 whose square is n or more -/
theorem big_of {n F d : Nat} (hF : n ≤ F * F) (h : F ∣ d - 1) (hd : IsPrime d) : n < d * d := by
  have h2 := hd.1
  have := Nat.le_of_dvd (by omega) h
  have h3 : F + 1 ≤ d := by omega
  have h4 := Nat.mul_le_mul h3 h3
  have : F * F < (F + 1) * (F + 1) := Nat.mul_lt_mul_of_lt_of_le (by omega) (by omega) (by omega)
  omega
theorem prime_R : IsPrime pR := by
  refine prime_of (by decide +kernel) fun d hd hdn => ?_
  have d1 := pock' (n := pR) (k := 128) (a := 2) (u := 82381214149343919061612748413412685903) prime_a (by decide +kernel) (by decide +kernel) (by decide +kernel) (by decide +kernel) (by decide +kernel) (by decide +kernel) hd hdn
  have d2 := pock' (n := pR) (k := 128) (a := 2) (u := 111233916942653821000329437866037388564) prime_b (by decide +kernel) (by decide +kernel) (by decide +kernel) (by decide +kernel) (by decide +kernel) (by decide +kernel) hd hdn
  have d3 := pock' (n := pR) (k := 128) (a := 2) (u := 47418180093458530687350227428022525796) prime_c (by decide +kernel) (by decide +kernel) (by decide +kernel) (by decide +kernel) (by decide +kernel) (by decide +kernel) hd hdn
  exact big_of (by decide +kernel) (coprime_mul_dvd (by decide +kernel) (coprime_mul_dvd (by decide +kernel) d1 d2) d3) hd
theorem prime_Q : IsPrime pQ := by
  refine prime_of (by decide +kernel) fun d hd hdn => ?_
  have d1 := pock' (n := pQ) (k := 238) (a := 2) (u := 53072002638256206696760401718638995221936714922431175139555783581918754) prime_R (by decide +kernel) (by decide +kernel) (by decide +kernel) (by decide +kernel) (by decide +kernel) (by decide +kernel) hd hdn
  exact big_of (by decide +kernel) d1 hd
theorem prime_P : IsPrime pP := by
  refine prime_of (by decide +kernel) fun d hd hdn => ?_
  have d1 := pock' (n := pP) (k := 256) (a := 2) (u := 30133174243114333125352536507925183895021889065932097717961225114769139489296) prime_Q (by decide +kernel) (by decide +kernel) (by decide +kernel) (by decide +kernel) (by decide +kernel) (by decide +kernel) hd hdn
  exact big_of (by decide +kernel) d1 hd
end Iv

end
section
open Lean.Grind
set_option linter.unusedVariables false
namespace Iv
/-! ## what the program reckons, in plain functions -/
noncomputable def jdblF (P A : Int) (J : Int × Int × Int) : Int × Int × Int :=
  if J.2.1 = 0 then (0, 0, 0) else
  let ysq := (J.2.1 ^ 2).fmod P
  let S := (4 * J.1 * ysq).fmod P
  let M := (3 * J.1 ^ 2 + A * J.2.2 ^ 4).fmod P
  let nx := (M ^ 2 - 2 * S).fmod P
  (nx, (M * (S - nx) - 8 * ysq ^ 2).fmod P, (2 * J.2.1 * J.2.2).fmod P)
noncomputable def jaddF (P A : Int) (J K : Int × Int × Int) : Int × Int × Int :=
  if J.2.1 = 0 then K else if K.2.1 = 0 then J else
  let U1 := (J.1 * K.2.2 ^ 2).fmod P
  let U2 := (K.1 * J.2.2 ^ 2).fmod P
  let S1 := (J.2.1 * K.2.2 ^ 3).fmod P
  let S2 := (K.2.1 * J.2.2 ^ 3).fmod P
  if U1 = U2 then (if S1 ≠ S2 then (0, 0, 1) else jdblF P A J) else
  let H2 := ((U2 - U1) * (U2 - U1)).fmod P
  let H3 := ((U2 - U1) * H2).fmod P
  let U1H2 := (U1 * H2).fmod P
  let nx := ((S2 - S1) ^ 2 - H3 - 2 * U1H2).fmod P
  (nx, ((S2 - S1) * (U1H2 - nx) - S1 * H3).fmod P, ((U2 - U1) * J.2.2 * K.2.2).fmod P)
noncomputable def invL : Nat → Int → Int → Int → Int → Int
  | 0, lm, _, _, _ => lm
  | k + 1, lm, low, hm, high => if 1 < low then invL k (hm - lm * high.fdiv low) (high - low * high.fdiv low) lm low else lm
noncomputable def invF (a n : Int) : Int := if a = 0 then 0 else (invL (a.fmod n).toNat 1 (a.fmod n) 0 n).fmod n
noncomputable def fromJF (P : Int) (J : Int × Int × Int) : Int × Int := ((J.1 * invF J.2.2 P ^ 2).fmod P, (J.2.1 * invF J.2.2 P ^ 3).fmod P)
/-- pow with three arguments (the exponent not negative) -/
noncomputable def powF (b e m : Int) : Int := (b ^ e.toNat).emod m
noncomputable def sumF (P A : Int) : Option (Int × Int) → Option (Int × Int) → Option (Int × Int)
  | none, q => q
  | some p, none => some p
  | some p, some q =>
    if p.1 = q.1 ∧ (p.2 + q.2).fmod P = 0 then none
    else
      let m := if p = q then (3 * p.1 * p.1 + A) * powF ((2 * p.2).fmod P) (P - 2) P else (q.2 - p.2) * powF ((q.1 - p.1).fmod P) (P - 2) P
      let x := (m * m - p.1 - q.1).fmod P
      some (x, (m * (p.1 - x) - p.2).fmod P)

section
variable {F : Type} [Field F] {p : Nat} (K : Over F p)
variable {a b : F}
theorem Over.fmod (h : 0 < p) (x : Int) : K.c (x.fmod p) = K.c x := by
  rw [K.iff, Int.fmod_eq_emod_of_nonneg _ (by omega), Int.emod_emod_of_dvd _ (Int.dvd_refl _)]
theorem fmod_lo (h : 0 < p) (x : Int) : 0 ≤ x.fmod p := by rw [Int.fmod_eq_emod_of_nonneg _ (by omega)]; exact Int.emod_nonneg _ (by omega)
theorem fmod_hi (h : 0 < p) (x : Int) : x.fmod p < p := by rw [Int.fmod_eq_emod_of_nonneg _ (by omega)]; exact Int.emod_lt_of_pos _ (by omega)
theorem Over.inj {x y : Int} (h : K.c x = K.c y) (x0 : 0 ≤ x) (xp : x < p) (y0 : 0 ≤ y) (yp : y < p) : x = y := by
  have := (K.iff x y).mp h
  rwa [Int.emod_eq_of_lt x0 xp, Int.emod_eq_of_lt y0 yp] at this
theorem Over.z_iff {x : Int} (x0 : 0 ≤ x) (xp : x < p) : K.c x = 0 ↔ x = 0 :=
  ⟨fun h => K.inj (h.trans K.zero.symm) x0 xp (by omega) (by omega), fun h => h ▸ K.zero⟩
theorem Over.vc {x : Int} (x0 : 0 ≤ x) (xp : x < p) : K.v (K.c x) = x := K.inj (K.cv _) (K.v0 _) (K.vp _) x0 xp
theorem Over.nat (n : Nat) : K.c (n : Int) = (OfNat.ofNat n : F) := by
  induction n with
  | zero => exact K.zero
  | succ n ih =>
    rw [Int.natCast_add, K.add, ih]
    exact (congrArg (fun z => OfNat.ofNat n + z) K.one).trans (Semiring.ofNat_succ n).symm
theorem Over.two : K.c 2 = 2 := K.nat 2
theorem Over.three : K.c 3 = 3 := K.nat 3
theorem Over.four : K.c 4 = 4 := K.nat 4
theorem Over.eight : K.c 8 = 8 := K.nat 8
include K in
theorem Over.two_ne (h : 2 < p) : (2 : F) ≠ 0 := by
  rw [← K.two]
  intro e
  have := (K.z_iff (by omega) (by omega)).mp e
  omega
include K in
theorem Over.fermat (hp : IsPrime p) (x : F) : x ^ p = x := by
  have h2 := hp.1
  rw [← K.cv x, ← K.pow, K.iff]
  have h0 := K.v0 x
  obtain ⟨n, hn⟩ := Int.eq_ofNat_of_zero_le h0
  rw [hn]
  have := Iv.fermat hp n
  rw [← Int.natCast_pow, ← Int.natCast_emod, ← Int.natCast_emod, this]
theorem Over.powF (hp : IsPrime p) (h2 : 2 < p) {x : Int} (hx : K.c x ≠ 0) : K.c (powF (x.fmod p) (p - 2) p) = (K.c x)⁻¹ := by
  unfold Iv.powF
  have e1 : ∀ y : Int, K.c (y.emod p) = K.c y := fun y => by
    rw [K.iff]; exact Int.emod_emod_of_dvd _ (Int.dvd_refl _)
  rw [e1, K.pow, K.fmod (by omega)]
  have f := K.fermat hp (K.c x)
  have : ((p : Int) - 2).toNat = p - 2 := by omega
  rw [this]
  have e : p = (p - 2) + 1 + 1 := by omega
  have f' : K.c x ^ (p - 2 + 1 + 1) = K.c x := by rw [← e]; exact f
  rw [Semiring.pow_succ, Semiring.pow_succ] at f'
  generalize K.c x ^ (p - 2) = z at *
  clear f
  grind

/-- the ints of a point -/
noncomputable def iz (q : Option (F × F)) : Option (Int × Int) := q.map fun q => (K.v q.1, K.v q.2)
noncomputable def flat (q : Option (F × F)) : Int × Int := (iz K q).getD (0, 0)

theorem sumF_eq (hp : IsPrime p) (h2 : 2 < p) {A : Int} {q r : Option (F × F)} (hq : On (K.c A) b q) (hr : On (K.c A) b r) :
    sumF p A (iz K q) (iz K r) = iz K (sum (K.c A) q r) := by
  have hp0 : 0 < p := by omega
  have t2 := K.two_ne h2
  cases q with
  | none => rw [sum_none_left]; cases r <;> rfl
  | some q =>
  cases r with
  | none => rfl
  | some r =>
    obtain ⟨x1, y1⟩ := q
    obtain ⟨x2, y2⟩ := r
    have ex : K.v x1 = K.v x2 ↔ x1 = x2 := ⟨fun h => by rw [← K.cv x1, ← K.cv x2, h], fun h => by rw [h]⟩
    have ey : K.v y1 = K.v y2 ↔ y1 = y2 := ⟨fun h => by rw [← K.cv y1, ← K.cv y2, h], fun h => by rw [h]⟩
    have es : (K.v y1 + K.v y2).fmod p = 0 ↔ y1 + y2 = 0 := by
      rw [← K.z_iff (fmod_lo hp0 _) (fmod_hi hp0 _), K.fmod hp0, K.add, K.cv, K.cv]
    simp only [iz, Option.map_some, sumF]
    by_cases c : x1 = x2 ∧ y1 + y2 = 0
    · rw [if_pos (by rw [ex, es]; exact c), sum_opp (by exact c)]; rfl
    · rw [if_neg (by rw [ex, es]; exact c)]
      have key : ∀ (mi : Int) (m : F), K.c mi = m → sum (K.c A) (some (x1, y1)) (some (x2, y2)) = some (m*m - x1 - x2, m*(x1 - (m*m - x1 - x2)) - y1) →
          some ((mi * mi - K.v x1 - K.v x2).fmod p, (mi * (K.v x1 - (mi * mi - K.v x1 - K.v x2).fmod p) - K.v y1).fmod p) = Option.map (fun q => (K.v q.1, K.v q.2)) (sum (K.c A) (some (x1, y1)) (some (x2, y2))) := by
        intro mi m hm e
        rw [e]
        simp only [Option.map_some]
        have e1 : K.c ((mi * mi - K.v x1 - K.v x2).fmod p) = m*m - x1 - x2 := by
          rw [K.fmod hp0, K.sub, K.sub, K.mul, hm, K.cv, K.cv]
        congr 2
        · exact K.inj (by rw [e1, K.cv]) (fmod_lo hp0 _) (fmod_hi hp0 _) (K.v0 _) (K.vp _)
        · refine K.inj ?_ (fmod_lo hp0 _) (fmod_hi hp0 _) (K.v0 _) (K.vp _)
          rw [K.fmod hp0, K.sub, K.mul, K.sub, e1, hm, K.cv, K.cv, K.cv]
      by_cases e : (x1, y1) = (x2, y2)
      · have e' : (K.v x1, K.v y1) = (K.v x2, K.v y2) := by cases e; rfl
        rw [if_pos e']
        refine key _ ((3*x1*x1 + K.c A) * (2*y1)⁻¹) ?_ ?_
        · have hne : K.c (2 * K.v y1) ≠ 0 := by
            rw [K.mul, K.two, K.cv]
            intro z
            cases e
            exact c ⟨rfl, by grind⟩
          rw [K.mul, K.powF hp h2 hne, K.add, K.mul, K.mul, K.three, K.cv, K.mul, K.two, K.cv]
        · simp only [sum]; rw [if_neg c, if_pos e]
      · have e' : ¬ (K.v x1, K.v y1) = (K.v x2, K.v y2) := fun z => e (by
          have z1 := congrArg Prod.fst z
          have z2 := congrArg Prod.snd z
          exact Prod.ext (ex.mp z1) (ey.mp z2))
        rw [if_neg e']
        have hx : x1 ≠ x2 := by
          intro hx
          rcases same_x hq hr hx with k | k
          · exact e (Prod.ext hx k)
          · exact c ⟨hx, k⟩
        refine key _ ((y2 - y1) * (x2 - x1)⁻¹) ?_ ?_
        · have hne : K.c (K.v x2 - K.v x1) ≠ 0 := by
            rw [K.sub, K.cv, K.cv]; grind
          rw [K.mul, K.powF hp h2 hne, K.sub, K.sub, K.cv, K.cv, K.cv, K.cv]
        · simp only [sum]; rw [if_neg c, if_neg e]

/-! ### the inverse -/
theorem invL_spec {al : F} : ∀ (k : Nat) (lm low hm high : Int), 1 ≤ low → low < high → low.toNat ≤ k → Int.gcd low high = 1 → K.c lm * al = K.c low → K.c hm * al = K.c high → K.c (invL k lm low hm high) * al = 1
  | 0, lm, low, hm, high, h1, _, hk, _, _, _ => by omega
  | k + 1, lm, low, hm, high, h1, hl, hk, hg, e1, e2 => by
    rw [invL]
    by_cases q : 1 < low
    · rw [if_pos q]
      have hr : high - low * high.fdiv low = high % low := by
        rw [Int.fdiv_eq_ediv_of_nonneg _ (by omega)]
        have := Int.emod_add_mul_ediv high low
        omega
      have l0 := Int.emod_nonneg high (b := low) (by omega)
      have l1 := Int.emod_lt_of_pos high (b := low) (by omega)
      have hg' : Int.gcd (high % low) low = 1 := by
        have : Int.gcd low (high % low) = Int.gcd low high := by
          show Nat.gcd _ _ = Nat.gcd _ _
          obtain ⟨l, hl⟩ := Int.eq_ofNat_of_zero_le (show 0 ≤ low by omega)
          obtain ⟨h, hh⟩ := Int.eq_ofNat_of_zero_le (show 0 ≤ high by omega)
          subst hl; subst hh
          have : ((h : Int) % (l : Int)).natAbs = h % l := by rw [← Int.natCast_emod]; rfl
          rw [this]
          show Nat.gcd l (h % l) = Nat.gcd l h
          rw [Nat.gcd_comm, ← Nat.gcd_rec]
        rw [Int.gcd_comm, this]; exact hg
      have hne : high % low ≠ 0 := by
        intro z
        rw [z, Int.gcd_zero_left] at hg'
        omega
      refine invL_spec k _ _ _ _ (by rw [hr]; omega) (by rw [hr]; exact l1) (by rw [hr]; omega) (by rw [hr]; exact hg') ?_ e1
      rw [K.sub, K.sub, K.mul, K.mul]
      grind
    · rw [if_neg q]
      have : low = 1 := by omega
      rw [e1, this, K.one]
theorem Over.inv_mul (hp : IsPrime p) {x : Int} (hx : K.c x ≠ 0) : K.c (invF x p) * K.c x = 1 := by
  have h2 := hp.1
  have hp0 : 0 < p := by omega
  unfold invF
  rw [if_neg (by intro z; exact hx (by rw [z, K.zero])), K.fmod hp0]
  have l0 := fmod_lo hp0 x
  have l1 := fmod_hi hp0 x
  have hne : x.fmod p ≠ 0 := fun z => hx (by rw [← K.fmod hp0, z, K.zero])
  refine invL_spec K _ _ _ _ _ (by omega) l1 (Nat.le_refl _) ?_ ?_ ?_
  · obtain ⟨l, hl⟩ := Int.eq_ofNat_of_zero_le l0
    rw [hl] at hne l1 ⊢
    show Nat.gcd l p = 1
    rw [Nat.gcd_comm]
    refine hp.coprime fun d => ?_
    have := Nat.le_of_dvd (by omega) d
    omega
  · rw [K.one, K.fmod hp0]; grind
  · rw [K.zero]
    have : K.c (p : Int) = 0 := by rw [← K.zero, K.iff, Int.emod_self, Int.zero_emod]
    rw [this]; grind
theorem Over.inv (hp : IsPrime p) {x : Int} (hx : K.c x ≠ 0) : K.c (invF x p) = (K.c x)⁻¹ := by
  have := K.inv_mul hp hx
  grind

/-! ### the coordinates with a scale -/
noncomputable def Rep (q : Option (F × F)) (J : Int × Int × Int) : Prop :=
  (0 ≤ J.1 ∧ J.1 < p) ∧ (0 ≤ J.2.1 ∧ J.2.1 < p) ∧ (0 ≤ J.2.2 ∧ J.2.2 < p) ∧
  match q with
  | none => J.1 = 0 ∧ J.2.1 = 0
  | some q => K.c J.2.2 ≠ 0 ∧ K.c J.1 = q.1 * K.c J.2.2 ^ 2 ∧ K.c J.2.1 = q.2 * K.c J.2.2 ^ 3
theorem fromJ_eq (hp : IsPrime p) {q : Option (F × F)} {J : Int × Int × Int} (R : Rep K q J) : fromJF p J = flat K q := by
  have hp0 : 0 < p := by have := hp.1; omega
  obtain ⟨⟨_, _⟩, ⟨_, _⟩, ⟨_, _⟩, R⟩ := R
  cases q with
  | none =>
    obtain ⟨r1, r2⟩ := R
    unfold fromJF
    rw [r1, r2, Int.zero_mul, Int.zero_mul, Int.zero_fmod]
    rfl
  | some q =>
    obtain ⟨r0, r1, r2⟩ := R
    have e := K.inv hp r0
    unfold fromJF
    refine Prod.ext ?_ ?_
    · refine K.inj ?_ (fmod_lo hp0 _) (fmod_hi hp0 _) (K.v0 _) (K.vp _)
      rw [K.fmod hp0, K.mul, K.pow, e, r1]
      show _ = K.c (K.v q.1)
      rw [K.cv]
      grind
    · refine K.inj ?_ (fmod_lo hp0 _) (fmod_hi hp0 _) (K.v0 _) (K.vp _)
      rw [K.fmod hp0, K.mul, K.pow, e, r2]
      show _ = K.c (K.v q.2)
      rw [K.cv]
      grind
theorem fmul_ne {x y : F} (hx : x ≠ 0) (hy : y ≠ 0) : x * y ≠ 0 := by grind
theorem Rep.y_iff (hN : NoTwo (K.c A) b) {q : Option (F × F)} {J : Int × Int × Int} (hq : On (K.c A) b q) (R : Rep K q J) : J.2.1 = 0 ↔ q = none := by
  obtain ⟨_, ⟨y0, yp⟩, _, R⟩ := R
  cases q with
  | none => exact ⟨fun _ => rfl, fun _ => R.2⟩
  | some q =>
    refine ⟨fun h => ?_, fun h => by cases h⟩
    obtain ⟨r0, _, r2⟩ := R
    rw [h, K.zero] at r2
    have := y_ne hN hq
    grind
theorem jdbl_rep (hp : IsPrime p) (h2 : 2 < p) {A : Int} (hN : NoTwo (K.c A) b) {q : Option (F × F)} {J : Int × Int × Int} (hq : On (K.c A) b q) (R : Rep K q J) :
    Rep K (sum (K.c A) q q) (jdblF p A J) := by
  have hp0 : 0 < p := by omega
  have t2 := K.two_ne h2
  have hy := R.y_iff K hN hq
  unfold jdblF
  cases q with
  | none =>
    rw [if_pos (hy.mpr rfl)]
    exact ⟨⟨by simp, by simp; omega⟩, ⟨by simp, by simp; omega⟩, ⟨by simp, by simp; omega⟩, rfl, rfl⟩
  | some q =>
    rw [if_neg (fun z => by cases hy.mp z)]
    obtain ⟨_, _, _, r0, r1, r2⟩ := R
    obtain ⟨X, Y, Z⟩ := J
    obtain ⟨x, y⟩ := q
    have yn : y ≠ 0 := y_ne hN hq
    have hyy : y + y ≠ 0 := by grind
    obtain ⟨l, S, e⟩ := slope_ex t2 hq hq (fun z => hyy z.2)
    rw [e]
    dsimp only at *
    refine ⟨⟨fmod_lo hp0 _, fmod_hi hp0 _⟩, ⟨fmod_lo hp0 _, fmod_hi hp0 _⟩, ⟨fmod_lo hp0 _, fmod_hi hp0 _⟩, ?_⟩
    dsimp only
    have hl : l * (2 * y) = 3 * x ^ 2 + K.c A := by have := S.2; grind
    simp only [K.fmod hp0, K.mul, K.sub, K.add, K.pow, K.two, K.three, K.four, K.eight, r1, r2]
    generalize K.c Z = z at *
    generalize K.c A = a at *
    have eM : 3 * (x * z ^ 2) ^ 2 + a * z ^ 4 = (l * (2 * y)) * z ^ 4 := by rw [hl]; grind
    rw [eM]
    refine ⟨?_, ?_, ?_⟩
    · exact fmul_ne (fmul_ne t2 (fmul_ne yn (by grind))) r0
    · clear e S hl eM hq hN; grind
    · clear e S hl eM hq hN; grind
theorem jadd_rep (hp : IsPrime p) (h2 : 2 < p) {A : Int} (hN : NoTwo (K.c A) b) {q r : Option (F × F)} {J L : Int × Int × Int} (hq : On (K.c A) b q) (hr : On (K.c A) b r)
    (R : Rep K q J) (R' : Rep K r L) : Rep K (sum (K.c A) q r) (jaddF p A J L) := by
  have hp0 : 0 < p := by omega
  have t2 := K.two_ne h2
  have hy := R.y_iff K hN hq
  have hy' := R'.y_iff K hN hr
  have RD := jdbl_rep K hp h2 hN hq R
  have R0 := R
  unfold jaddF
  cases q with
  | none => rw [if_pos (hy.mpr rfl), sum_none_left]; exact R'
  | some q =>
  rw [if_neg (fun z => by cases hy.mp z)]
  cases r with
  | none => rw [if_pos (hy'.mpr rfl), sum_none_right]; exact R
  | some r =>
  rw [if_neg (fun z => by cases hy'.mp z)]
  obtain ⟨_, _, _, r0, r1, r2⟩ := R
  obtain ⟨_, _, _, s0, s1, s2⟩ := R'
  obtain ⟨X, Y, Z⟩ := J
  obtain ⟨X', Y', Z'⟩ := L
  obtain ⟨x, y⟩ := q
  obtain ⟨x', y'⟩ := r
  dsimp only at *
  have cU1 : K.c ((X * Z' ^ 2).fmod p) = x * (K.c Z * K.c Z') ^ 2 := by rw [K.fmod hp0, K.mul, K.pow, r1]; grind
  have cU2 : K.c ((X' * Z ^ 2).fmod p) = x' * (K.c Z * K.c Z') ^ 2 := by rw [K.fmod hp0, K.mul, K.pow, s1]; grind
  have cS1 : K.c ((Y * Z' ^ 3).fmod p) = y * (K.c Z * K.c Z') ^ 3 := by rw [K.fmod hp0, K.mul, K.pow, r2]; grind
  have cS2 : K.c ((Y' * Z ^ 3).fmod p) = y' * (K.c Z * K.c Z') ^ 3 := by rw [K.fmod hp0, K.mul, K.pow, s2]; grind
  have zz : K.c Z * K.c Z' ≠ 0 := fmul_ne r0 s0
  have eU : (X * Z' ^ 2).fmod p = (X' * Z ^ 2).fmod p ↔ x = x' := by
    constructor
    · intro h; rw [← h, cU1] at cU2; grind
    · intro h; exact K.inj (by rw [cU1, cU2, h]) (fmod_lo hp0 _) (fmod_hi hp0 _) (fmod_lo hp0 _) (fmod_hi hp0 _)
  have eS : (Y * Z' ^ 3).fmod p = (Y' * Z ^ 3).fmod p ↔ y = y' := by
    constructor
    · intro h; rw [← h, cS1] at cS2; grind
    · intro h; exact K.inj (by rw [cS1, cS2, h]) (fmod_lo hp0 _) (fmod_hi hp0 _) (fmod_lo hp0 _) (fmod_hi hp0 _)
  have yn : y ≠ 0 := y_ne hN hq
  by_cases hx : x = x'
  · rw [if_pos (eU.mpr hx)]
    rcases same_x hq hr hx with k | k
    · dsimp only at k
      rw [if_neg (fun z => z (eS.mpr k))]
      subst hx; subst k
      exact RD
    · dsimp only at k
      have : y ≠ y' := fun z => by subst z; exact yn (by grind)
      rw [if_pos (fun z => this (eS.mp z)), sum_opp ⟨hx, k⟩]
      exact ⟨⟨by simp, by simp; omega⟩, ⟨by simp, by simp; omega⟩, ⟨by simp, by simp; omega⟩, rfl, rfl⟩
  · rw [if_neg (fun z => hx (eU.mp z))]
    obtain ⟨l, S, e⟩ := slope_ex t2 hq hr (fun z => hx z.1)
    rw [e]
    refine ⟨⟨fmod_lo hp0 _, fmod_hi hp0 _⟩, ⟨fmod_lo hp0 _, fmod_hi hp0 _⟩, ⟨fmod_lo hp0 _, fmod_hi hp0 _⟩, ?_⟩
    dsimp only at *
    have hl : y' - y = l * (x' - x) := by have := S.1; grind
    generalize (X * Z' ^ 2).fmod p = U1 at *
    generalize (X' * Z ^ 2).fmod p = U2 at *
    generalize (Y * Z' ^ 3).fmod p = S1 at *
    generalize (Y' * Z ^ 3).fmod p = S2 at *
    simp only [K.fmod hp0, K.mul, K.sub, K.pow, K.two, cU1, cU2, cS1, cS2]
    have hw : (x' * (K.c Z * K.c Z') ^ 2 - x * (K.c Z * K.c Z') ^ 2) * K.c Z * K.c Z' = (x' - x) * (K.c Z * K.c Z') ^ 3 := by grind
    rw [hw]
    generalize K.c Z * K.c Z' = w at *
    have y'e : y' = y + l * (x' - x) := by grind
    rw [y'e]
    refine ⟨?_, ?_, ?_⟩
    · have : x' - x ≠ 0 := by grind
      have w3 : w ^ 3 ≠ 0 := by grind
      exact fmul_ne this w3
    · clear e S hl hq hr hN hw; grind
    · clear e S hl hq hr hN hw; grind
end
end Iv

end
section
open Lean.Grind
set_option linter.unusedVariables false
namespace Iv
/-! ## the curves -/
structure Cv where
  p : Nat
  n : Nat
  a : Nat
  b : Nat
  x : Nat
  y : Nat
noncomputable abbrev Tri := Nat × Nat × Nat
noncomputable def pmul (p na nb : Nat) (u w : Tri) : Tri :=
  ((u.1 * w.1 + nb * (u.2.1 * w.2.2 + u.2.2 * w.2.1)) % p,
   (u.1 * w.2.1 + u.2.1 * w.1 + na * (u.2.1 * w.2.2 + u.2.2 * w.2.1) + nb * (u.2.2 * w.2.2)) % p,
   (u.1 * w.2.2 + u.2.1 * w.2.1 + u.2.2 * w.1 + na * (u.2.2 * w.2.2)) % p)
noncomputable def ppow (p na nb : Nat) : Nat → Tri → Nat → Tri
  | 0, _, _ => (1, 0, 0)
  | k + 1, u, e => if e % 2 = 0 then ppow p na nb k (pmul p na nb u u) (e / 2) else pmul p na nb u (ppow p na nb k (pmul p na nb u u) (e / 2))
noncomputable def less1 (p : Nat) (g : Tri) : Tri := (g.1, g.2.1 + (p - 1), g.2.2)
section
variable {F : Type} [Field F] {p : Nat} (K : Over F p)
noncomputable def ev (r : F) (u : Tri) : F := K.c u.1 + K.c u.2.1 * r + K.c u.2.2 * r ^ 2
theorem Over.nmod (n : Nat) : K.c ((n % p : Nat) : Int) = K.c n := by
  rw [K.iff, Int.natCast_emod, Int.emod_emod_of_dvd _ (Int.dvd_refl _)]
theorem Over.np : K.c (p : Int) = 0 := by rw [← K.zero, K.iff, Int.emod_self, Int.zero_emod]
theorem ev_mul {na nb : Nat} {r : F} (hr : r ^ 3 = K.c na * r + K.c nb) (u w : Tri) : ev K r (pmul p na nb u w) = ev K r u * ev K r w := by
  obtain ⟨u0, u1, u2⟩ := u
  obtain ⟨w0, w1, w2⟩ := w
  simp only [ev, pmul, K.nmod, Int.natCast_add, Int.natCast_mul, K.add, K.mul]
  grind
theorem sq_pow (x : F) (n : Nat) : (x * x) ^ n = x ^ (2 * n) := by
  induction n with
  | zero => rw [Semiring.pow_zero]; exact (Semiring.pow_zero x).symm
  | succ n ih =>
    rw [Semiring.pow_succ, ih, show 2 * (n + 1) = 2 * n + 1 + 1 by omega, Semiring.pow_succ, Semiring.pow_succ, Semiring.mul_assoc]
theorem ev_pow {na nb : Nat} {r : F} (hr : r ^ 3 = K.c na * r + K.c nb) : ∀ (k : Nat) (u : Tri) (e : Nat), e < 2 ^ k → ev K r (ppow p na nb k u e) = ev K r u ^ e := by
  intro k
  induction k with
  | zero =>
    intro u e h
    have : e = 0 := by simpa using h
    subst this
    rw [Semiring.pow_zero]
    show K.c 1 + K.c 0 * r + K.c 0 * r ^ 2 = 1
    rw [K.one, K.zero]; grind
  | succ k ih =>
    intro u e h
    have hk : e / 2 < 2 ^ k := by rw [Nat.pow_succ] at h; omega
    have i := ih (pmul p na nb u u) (e / 2) hk
    rw [ev_mul K hr, sq_pow] at i
    rw [ppow]
    by_cases q : e % 2 = 0
    · rw [if_pos q, i, show 2 * (e / 2) = e by omega]
    · rw [if_neg q, ev_mul K hr, i]
      have : e = 2 * (e / 2) + 1 := by omega
      conv => rhs; rw [this, Semiring.pow_succ]
      exact CommSemiring.mul_comm _ _
theorem noTwo_of (hp : IsPrime p) {a b na nb k : Nat} (ha : (a + na) % p = 0) (hb : (b + nb) % p = 0) (hk : p < 2 ^ k) (t : Tri)
    (h : pmul p na nb (less1 p (ppow p na nb k (0, 1, 0) p)) t = (1, 0, 0)) : NoTwo (K.c a) (K.c b) := by
  have h2 := hp.1
  intro r hr
  have ea : K.c a + K.c na = 0 := by rw [← K.add, ← Int.natCast_add, ← K.nmod, ha]; exact K.zero
  have eb : K.c b + K.c nb = 0 := by rw [← K.add, ← Int.natCast_add, ← K.nmod, hb]; exact K.zero
  have hr' : r ^ 3 = K.c na * r + K.c nb := by grind
  have e := congrArg (ev K r) h
  rw [ev_mul K hr'] at e
  have z : ev K r (less1 p (ppow p na nb k (0, 1, 0) p)) = 0 := by
    have f := ev_pow K hr' k (0, 1, 0) p hk
    have x : ev K r (0, 1, 0) = r := by
      show K.c 0 + K.c 1 * r + K.c 0 * r ^ 2 = r
      rw [K.one, K.zero]; grind
    rw [x, K.fermat hp] at f
    generalize ppow p na nb k (0, 1, 0) p = g at *
    simp only [ev, less1] at *
    have : K.c ((g.2.1 + (p - 1) : Nat) : Int) = K.c g.2.1 - 1 := by
      rw [show ((g.2.1 + (p - 1) : Nat) : Int) = g.2.1 + (p : Int) - 1 by omega, K.sub, K.add, K.np, K.one]
      grind
    rw [this]
    grind
  rw [z] at e
  have : ev K r (1, 0, 0) = 1 := by
    show K.c 1 + K.c 0 * r + K.c 0 * r ^ 2 = 1
    rw [K.one, K.zero]; grind
  rw [this] at e
  grind
end
/-- what is asked of a curve -/
structure GoodCv (C : Cv) : Prop where
  prime : IsPrime C.p
  p2 : 2 < C.p
  pb : C.p < 2 ^ 256
  n1 : 1 < C.n
  nb : C.n < 2 ^ 256
  ap : C.a < C.p
  bp : C.b < C.p
  xp : C.x < C.p
  yp : C.y < C.p
  on : C.y ^ 2 % C.p = (C.x ^ 3 + C.a * C.x + C.b) % C.p
  no : ∀ (F : Type) [Field F] (K : Over F C.p), NoTwo (K.c C.a) (K.c C.b)
theorem goodCv_of {C : Cv} {k : Nat} (t : Tri) (hp : IsPrime C.p) (h : (decide (2 < C.p) && decide (C.p < 2 ^ 256) && decide (1 < C.n) && decide (C.n < 2 ^ 256) && decide (C.a < C.p) && decide (C.b < C.p) && decide (C.x < C.p) && decide (C.y < C.p)
    && decide (C.y ^ 2 % C.p = (C.x ^ 3 + C.a * C.x + C.b) % C.p) && decide (C.p < 2 ^ k)) = true)
    (hc : pmul C.p (C.p - C.a) (C.p - C.b) (less1 C.p (ppow C.p (C.p - C.a) (C.p - C.b) k (0, 1, 0) C.p)) t = (1, 0, 0)) : GoodCv C := by
  simp only [Bool.and_eq_true, decide_eq_true_eq] at h
  obtain ⟨⟨⟨⟨⟨⟨⟨⟨⟨h1, h2⟩, h3⟩, h4⟩, h5⟩, h6⟩, h7⟩, h8⟩, h9⟩, h10⟩ := h
  exact ⟨hp, h1, h2, h3, h4, h5, h6, h7, h8, h9, fun F _ K => noTwo_of K hp (by rw [Nat.add_sub_cancel' (Nat.le_of_lt h5)]; exact Nat.mod_self _) (by rw [Nat.add_sub_cancel' (Nat.le_of_lt h6)]; exact Nat.mod_self _) h10 t hc⟩
theorem prime_11 : IsPrime 11 := prime_trial (k := 2) (by decide +kernel) (by decide +kernel) (by decide +kernel)
theorem prime_19 : IsPrime 19 := prime_trial (k := 3) (by decide +kernel) (by decide +kernel) (by decide +kernel)
theorem prime_31 : IsPrime 31 := prime_trial (k := 4) (by decide +kernel) (by decide +kernel) (by decide +kernel)
theorem prime_43 : IsPrime 43 := prime_trial (k := 5) (by decide +kernel) (by decide +kernel) (by decide +kernel)
theorem prime_67 : IsPrime 67 := prime_trial (k := 7) (by decide +kernel) (by decide +kernel) (by decide +kernel)
theorem prime_79 : IsPrime 79 := prime_trial (k := 7) (by decide +kernel) (by decide +kernel) (by decide +kernel)
theorem prime_127 : IsPrime 127 := prime_trial (k := 10) (by decide +kernel) (by decide +kernel) (by decide +kernel)
theorem prime_1019 : IsPrime 1019 := prime_trial (k := 30) (by decide +kernel) (by decide +kernel) (by decide +kernel)
theorem prime_10007 : IsPrime 10007 := prime_trial (k := 99) (by decide +kernel) (by decide +kernel) (by decide +kernel)
theorem prime_65519 : IsPrime 65519 := prime_trial (k := 254) (by decide +kernel) (by decide +kernel) (by decide +kernel)
noncomputable abbrev curves : List Cv := [⟨11, 13, 1, 6, 2, 4⟩, ⟨11, 17, 6, 5, 1, 1⟩, ⟨19, 13, 0, 2, 4, 16⟩, ⟨19, 13, 0, 3, 1, 17⟩, ⟨31, 43, 0, 3, 1, 2⟩, ⟨43, 31, 0, 7, 2, 31⟩, ⟨43, 37, 6, 5, 2, 38⟩, ⟨67, 79, 0, 7, 2, 22⟩, ⟨67, 73, 0, 2, 2, 55⟩, ⟨79, 67, 0, 7, 1, 18⟩, ⟨79, 97, 0, 3, 1, 2⟩, ⟨127, 127, 0, 7, 1, 32⟩, ⟨127, 127, 0, 3, 1, 2⟩, ⟨1019, 1033, 1, 20, 7, 215⟩, ⟨1019, 1031, 1, 23, 1, 5⟩, ⟨1019, 1009, 1, 24, 1, 364⟩, ⟨10007, 9851, 1, 28, 2, 5425⟩, ⟨10007, 10079, 1, 38, 2, 4099⟩, ⟨10007, 9851, 1, 48, 1, 6809⟩, ⟨65519, 65357, 2, 54, 4, 34290⟩, ⟨65519, 65101, 3, 53, 4, 23366⟩]
noncomputable abbrev secp : Cv := ⟨115792089237316195423570985008687907853269984665640564039457584007908834671663, 115792089237316195423570985008687907852837564279074904382605163141518161494337, 0, 7, 55066263022277343669578718895168534326250603453777594175500187360389116729240, 32670510020758816978083085130507043184471273380659243275938904335757337482424⟩
theorem good_secp : GoodCv secp := goodCv_of (k := 256) (0, 0, 46758632835564736012269203954919337884311706168562511263687580192619680188360) prime_P (by decide +kernel) (by decide +kernel)
theorem good_0 : GoodCv ⟨11, 13, 1, 6, 2, 4⟩ := goodCv_of (k := 17) (0, 10, 3) prime_11 (by decide +kernel) (by decide +kernel)
theorem good_1 : GoodCv ⟨11, 17, 6, 5, 1, 1⟩ := goodCv_of (k := 17) (6, 2, 0) prime_11 (by decide +kernel) (by decide +kernel)
theorem good_2 : GoodCv ⟨19, 13, 0, 2, 4, 16⟩ := goodCv_of (k := 17) (0, 0, 11) prime_19 (by decide +kernel) (by decide +kernel)
theorem good_3 : GoodCv ⟨19, 13, 0, 3, 1, 17⟩ := goodCv_of (k := 17) (0, 0, 1) prime_19 (by decide +kernel) (by decide +kernel)
theorem good_4 : GoodCv ⟨31, 43, 0, 3, 1, 2⟩ := goodCv_of (k := 17) (0, 0, 3) prime_31 (by decide +kernel) (by decide +kernel)
theorem good_5 : GoodCv ⟨43, 31, 0, 7, 2, 31⟩ := goodCv_of (k := 17) (0, 0, 27) prime_43 (by decide +kernel) (by decide +kernel)
theorem good_6 : GoodCv ⟨43, 37, 6, 5, 2, 38⟩ := goodCv_of (k := 17) (9, 31, 35) prime_43 (by decide +kernel) (by decide +kernel)
theorem good_7 : GoodCv ⟨67, 79, 0, 7, 2, 22⟩ := goodCv_of (k := 17) (0, 0, 27) prime_67 (by decide +kernel) (by decide +kernel)
theorem good_8 : GoodCv ⟨67, 73, 0, 2, 2, 55⟩ := goodCv_of (k := 17) (0, 0, 40) prime_67 (by decide +kernel) (by decide +kernel)
theorem good_9 : GoodCv ⟨79, 67, 0, 7, 1, 18⟩ := goodCv_of (k := 17) (0, 0, 14) prime_79 (by decide +kernel) (by decide +kernel)
theorem good_10 : GoodCv ⟨79, 97, 0, 3, 1, 2⟩ := goodCv_of (k := 17) (0, 0, 73) prime_79 (by decide +kernel) (by decide +kernel)
theorem good_11 : GoodCv ⟨127, 127, 0, 7, 1, 32⟩ := goodCv_of (k := 17) (0, 0, 108) prime_127 (by decide +kernel) (by decide +kernel)
theorem good_12 : GoodCv ⟨127, 127, 0, 3, 1, 2⟩ := goodCv_of (k := 17) (0, 0, 125) prime_127 (by decide +kernel) (by decide +kernel)
theorem good_13 : GoodCv ⟨1019, 1033, 1, 20, 7, 215⟩ := goodCv_of (k := 17) (134, 785, 270) prime_1019 (by decide +kernel) (by decide +kernel)
theorem good_14 : GoodCv ⟨1019, 1031, 1, 23, 1, 5⟩ := goodCv_of (k := 17) (917, 728, 404) prime_1019 (by decide +kernel) (by decide +kernel)
theorem good_15 : GoodCv ⟨1019, 1009, 1, 24, 1, 364⟩ := goodCv_of (k := 17) (928, 737, 753) prime_1019 (by decide +kernel) (by decide +kernel)
theorem good_16 : GoodCv ⟨10007, 9851, 1, 28, 2, 5425⟩ := goodCv_of (k := 17) (1270, 5522, 3597) prime_10007 (by decide +kernel) (by decide +kernel)
theorem good_17 : GoodCv ⟨10007, 10079, 1, 38, 2, 4099⟩ := goodCv_of (k := 17) (4178, 3912, 2375) prime_10007 (by decide +kernel) (by decide +kernel)
theorem good_18 : GoodCv ⟨10007, 9851, 1, 48, 1, 6809⟩ := goodCv_of (k := 17) (6856, 9366, 5963) prime_10007 (by decide +kernel) (by decide +kernel)
theorem good_19 : GoodCv ⟨65519, 65357, 2, 54, 4, 34290⟩ := goodCv_of (k := 17) (27641, 39163, 53359) prime_65519 (by decide +kernel) (by decide +kernel)
theorem good_20 : GoodCv ⟨65519, 65101, 3, 53, 4, 23366⟩ := goodCv_of (k := 17) (29935, 47701, 49851) prime_65519 (by decide +kernel) (by decide +kernel)
theorem good_curves : ∀ C ∈ curves, GoodCv C := by
  intro C h
  simp only [curves, List.mem_cons, List.not_mem_nil, or_false] at h
  rcases h with rfl | rfl | rfl | rfl | rfl | rfl | rfl | rfl | rfl | rfl | rfl | rfl | rfl | rfl | rfl | rfl | rfl | rfl | rfl | rfl | rfl
  · exact good_0
  · exact good_1
  · exact good_2
  · exact good_3
  · exact good_4
  · exact good_5
  · exact good_6
  · exact good_7
  · exact good_8
  · exact good_9
  · exact good_10
  · exact good_11
  · exact good_12
  · exact good_13
  · exact good_14
  · exact good_15
  · exact good_16
  · exact good_17
  · exact good_18
  · exact good_19
  · exact good_20
end Iv

end
section
set_option linter.unusedVariables false
namespace Iv
theorem inv_rest {low high : Int} (h : 0 < low) : high - low * high.fdiv low = high % low := by
  rw [Int.fdiv_eq_ediv_of_nonneg _ (by omega)]
  have := Int.emod_add_mul_ediv high low
  omega
theorem invL_fuel : ∀ (k k' : Nat) (lm low hm high : Int), low.toNat ≤ k → low.toNat ≤ k' → invL k lm low hm high = invL k' lm low hm high
  | 0, k', lm, low, hm, high, h, _ => by
    cases k' with
    | zero => rfl
    | succ k' => rw [invL, invL, if_neg (by omega)]
  | k + 1, k', lm, low, hm, high, h, h' => by
    by_cases q : 1 < low
    · cases k' with
      | zero => omega
      | succ j =>
        rw [invL, invL, if_pos q, if_pos q]
        have e := inv_rest (low := low) (high := high) (by omega)
        have l0 := Int.emod_nonneg high (b := low) (by omega)
        have l1 := Int.emod_lt_of_pos high (b := low) (by omega)
        exact invL_fuel k j _ _ _ _ (by omega) (by omega)
    · rw [invL, if_neg q]
      cases k' with
      | zero => rfl
      | succ j => rw [invL, if_neg q]
/-- what holds between the turns of the inverse's loop -/
noncomputable def InvOK (n lm low hm high : Int) : Prop := 0 ≤ low ∧ low < high ∧ high ≤ n ∧ (lm.natAbs : Int) * high + hm.natAbs * low ≤ n
theorem InvOK.start {n low : Int} (h0 : 0 ≤ low) (h1 : low < n) : InvOK n 1 low 0 n := ⟨h0, h1, Int.le_refl _, by simp⟩
theorem InvOK.turn {n lm low hm high : Int} (h : InvOK n lm low hm high) (hl : 1 < low) :
    InvOK n (hm - lm * high.fdiv low) (high - low * high.fdiv low) lm low ∧ high - low * high.fdiv low < low := by
  obtain ⟨h0, h1, h2, h3⟩ := h
  have e := inv_rest (low := low) (high := high) (by omega)
  have l0 := Int.emod_nonneg high (b := low) (by omega)
  have l1 := Int.emod_lt_of_pos high (b := low) (by omega)
  refine ⟨⟨by omega, by omega, by omega, ?_⟩, by omega⟩
  have r0 : 0 ≤ high.fdiv low := by rw [Int.fdiv_eq_ediv_of_nonneg _ (by omega)]; exact Int.ediv_nonneg (by omega) (by omega)
  generalize high.fdiv low = r at *
  have t : ((hm - lm * r).natAbs : Int) ≤ hm.natAbs + lm.natAbs * r := by
    have a1 := Int.natAbs_sub_le hm (lm * r)
    have a2 : ((lm * r).natAbs : Int) = lm.natAbs * r := by
      rw [Int.natAbs_mul, Int.natCast_mul]
      congr 1
      omega
    omega
  have t2 : ((hm - lm * r).natAbs : Int) * low ≤ (hm.natAbs + lm.natAbs * r) * low := Int.mul_le_mul_of_nonneg_right t (by omega)
  have t3 : ((hm.natAbs : Int) + lm.natAbs * r) * low = hm.natAbs * low + lm.natAbs * (low * r) := by
    rw [Int.add_mul, Int.mul_assoc, Int.mul_comm r low]
  have t4 : (lm.natAbs : Int) * (high - low * r) = lm.natAbs * high - lm.natAbs * (low * r) := Int.mul_sub _ _ _
  omega
theorem InvOK.lm {n lm low hm high : Int} (h : InvOK n lm low hm high) : (lm.natAbs : Int) ≤ n := by
  obtain ⟨h0, h1, h2, h3⟩ := h
  have a : (lm.natAbs : Int) * 1 ≤ lm.natAbs * high := Int.mul_le_mul_of_nonneg_left (by omega) (by omega)
  have b : (0 : Int) ≤ hm.natAbs * low := Int.mul_nonneg (by omega) h0
  omega
theorem InvOK.hm {n lm low hm high : Int} (h : InvOK n lm low hm high) (hl : 1 < low) : (hm.natAbs : Int) ≤ n := by
  obtain ⟨h0, h1, h2, h3⟩ := h
  have a : (hm.natAbs : Int) * 1 ≤ hm.natAbs * low := Int.mul_le_mul_of_nonneg_left (by omega) (by omega)
  have b : (0 : Int) ≤ lm.natAbs * high := Int.mul_nonneg (by omega) (by omega)
  omega
theorem invL_turn {lm low hm high : Int} (hl : 1 < low) : invL low.toNat lm low hm high = invL (high - low * high.fdiv low).toNat (hm - lm * high.fdiv low) (high - low * high.fdiv low) lm low := by
  obtain ⟨k, hk⟩ : ∃ k, low.toNat = k + 1 := ⟨low.toNat - 1, by omega⟩
  rw [hk, invL, if_pos hl]
  have e := inv_rest (low := low) (high := high) (by omega)
  have l0 := Int.emod_nonneg high (b := low) (by omega)
  have l1 := Int.emod_lt_of_pos high (b := low) (by omega)
  exact invL_fuel _ _ _ _ _ _ (by omega) (Nat.le_refl _)
theorem invL_end {lm low hm high : Int} (hl : ¬ 1 < low) : invL low.toNat lm low hm high = lm := by
  cases low.toNat with
  | zero => rfl
  | succ k => rw [invL, if_neg hl]
end Iv

end
section
open PySem PySem.W PyProof.Rows PySem.Calls PySem.Spec
set_option maxRecDepth 100000
set_option maxHeartbeats 4000000
set_option linter.unusedVariables false
namespace Iv
theorem powMod_loop (b e m : Nat) : ∀ (k p : Nat), p = b ^ (e / 2 ^ k) % m →
    (List.range k).reverse.foldl (fun p i => if e.testBit i then p * p % m * b % m else p * p % m) p = b ^ e % m := by
  intro k
  induction k with
  | zero => intro p hp; rw [hp]; simp
  | succ k ih =>
    intro p hp
    rw [List.range_succ, List.reverse_append, List.reverse_cons, List.reverse_nil, List.nil_append, List.foldl_append, List.foldl_cons, List.foldl_nil]
    refine ih _ ?_
    have hq : e / 2 ^ k = 2 * (e / 2 ^ (k + 1)) + (if e.testBit k then 1 else 0) := by
      have h1 : e / 2 ^ (k + 1) = e / 2 ^ k / 2 := by rw [Nat.pow_succ, Nat.div_div_eq_div_mul]
      have h2 : e.testBit k = decide (e / 2 ^ k % 2 = 1) := Nat.testBit_eq_decide_div_mod_eq
      rw [h1, h2]
      by_cases q : e / 2 ^ k % 2 = 1
      · simp only [q, decide_true, if_true]; omega
      · simp only [q, decide_false, Bool.false_eq_true, if_false]; omega
    rw [hq, hp]
    have hs : b ^ (e / 2 ^ (k + 1)) % m * (b ^ (e / 2 ^ (k + 1)) % m) % m = b ^ (2 * (e / 2 ^ (k + 1))) % m := by
      rw [← Nat.mul_mod, ← Nat.pow_add, Nat.two_mul]
    split
    · rw [hs]; show _ = b ^ (2 * (e / 2 ^ (k + 1)) + 1) % m; rw [Nat.pow_succ b, Nat.mod_mul_mod]
    · rw [hs]; rfl
theorem powMod_eq (b e m : Nat) : Builtin.powMod b e m = b ^ e % m := by
  unfold Builtin.powMod
  refine powMod_loop b e m _ _ ?_
  have : e / 2 ^ (Builtin.Int.intBits e) = 0 := by
    refine Nat.div_eq_of_lt ?_
    have := natAbs_lt_pow_bits (e : Int)
    simpa using this
  rw [this, Nat.pow_zero]
theorem boot_pow : bootBuiltins "pow" = some (.builtin "pow") := by decide +kernel
theorem kind_pow : builtinKind "pow" = none := by decide +kernel
theorem plain_pow : plainId "pow" = true := by decide +kernel
theorem entry_pow : entryFor table "pow" = some Builtin.«pow» := entryFor_of_fast (by kernel_rfl)
theorem args_pow3 (a b c : Value) : argsOk "pow" ⟨[a, b, c], []⟩ := by unfold argsOk; kernel_rfl
theorem args_int_pow3 (a b c : Value) : argsOk "int.__pow__" ⟨[a, b, c], []⟩ := by unfold argsOk; kernel_rfl
section
variable {prog : Program} {w : World} {A : Around} {E : Value → Shared → Prop} {s : Shared} {b e m : Int} {t u v : Tok} {Q : Value → Shared → Prop}
theorem call_int_pow3 (he : 0 ≤ e) (hm : 1 < m) (h : Q (.int (powF b e m) s.toks) { s with toks := s.toks + 1 }) :
    wpAny (model prog w) A (call (.builtin "int.__pow__") [.int b t, .int e u, .int m v]) (fun v s' => v ≠ .notImplemented ∧ Q v s') E s := by
  refine wpAny_call_entry slot_int_pow (typeIs_int s b t) entry_int_pow ?_ (args_int_pow3 _ _ _)
  have hval : (if (decide (m < 0) && (Builtin.powMod (b % (m.natAbs : Int)).toNat e.natAbs m.natAbs : Int) != 0) = true then (Builtin.powMod (b % (m.natAbs : Int)).toNat e.natAbs m.natAbs : Int) - m.natAbs else (Builtin.powMod (b % (m.natAbs : Int)).toNat e.natAbs m.natAbs : Int)) = powF b e m := by
    rw [if_neg (by simp; omega), powMod_eq]
    unfold powF
    have hm' : (m.natAbs : Int) = m := by omega
    have he' : e.natAbs = e.toNat := by omega
    rw [he', Int.natCast_emod, Int.natCast_pow, Int.toNat_of_nonneg (by rw [hm']; exact Int.emod_nonneg _ (by omega)), hm']
    have c := Zp.pow_cong (p := m.natAbs) (x := b % m) (x' := b) (by rw [hm', Int.emod_emod_of_dvd _ (Int.dvd_refl _)]) e.toNat
    rw [hm'] at c
    exact c
  show wpAny _ _ (if (m == 0) = true then _ else _) _ _ s
  rw [if_neg (by simp; omega)]
  show wpAny _ _ (if (m.natAbs == 1) = true then _ else _) _ _ s
  rw [if_neg (by simp; omega)]
  show wpAny _ _ (if e < 0 then _ else _) _ _ s
  rw [if_neg (by omega)]
  rw [← hval] at h
  exact (show wpAny _ _ (do ret (← mkInt (if (decide (m < 0) && (Builtin.powMod (b % (m.natAbs : Int)).toNat e.natAbs m.natAbs : Int) != 0) = true then (Builtin.powMod (b % (m.natAbs : Int)).toNat e.natAbs m.natAbs : Int) - m.natAbs else (Builtin.powMod (b % (m.natAbs : Int)).toNat e.natAbs m.natAbs : Int)))) _ _ s from wpAny_ret_mkInt ⟨by simp, h⟩)
theorem pow3 (he : 0 ≤ e) (hm : 1 < m) (h : Q (.int (powF b e m) s.toks) { s with toks := s.toks + 1 }) :
    wpAny (model prog w) A (call (.builtin "pow") [.int b t, .int e u, .int m v]) Q E s := by
  refine Calls.call_function_entry kind_pow plain_pow entry_pow (args_pow3 _ _ _) ?_
  unfold Builtin.«pow»
  refine wpAny_bind (m := Builtin.Builtins.bindParams "pow" ["base", "exp", "mod"] 2 ⟨[.int b t, .int e u, .int m v], []⟩) (wpAny_pure (a := [some (Value.int b t), some (Value.int e u), some (Value.int m v)]) ?_)
  refine wpAny_bind (wpAny_rule ?_)
  refine wpAny_bind (m := typeOf (.int b t)) (wpAny_pure (a := Value.type "int") ?_)
  refine wpAny_bind (m := typeLookup (.type "int") (Str.ofString "__pow__")) ?_
  rw [show typeLookup (.type "int") (Str.ofString "__pow__") = _ from slot_int_pow.lookup]
  refine wpAny_pure ?_
  refine wpAny_bind (wpAny_callSpecial?_slot (typeIs_int _ b t) slot_int_pow ?_)
  refine wpAny_mono (call_int_pow3 (Q := Q) he hm h) (fun r s' hr => ?_) fun _ _ x => x
  dsimp only
  rw [if_pos (by simpa using hr.1)]
  exact wpAny_pure ⟨_, rfl, hr.2⟩
end
end Iv

end
section
open PySem PySem.W PyProof.Rows PySem.Calls PySem.Spec
set_option Elab.async false
set_option maxRecDepth 100000
set_option maxHeartbeats 4000000
set_option linter.unusedVariables false
namespace Iv
theorem fill : (hd.heap_39 = hd.heap_39) ∧ PySem.Challenge.rw_iv0041_01 = PySem.Challenge.rw_iv0041_01 := by
  k_fill
  exact ⟨rfl, rfl⟩
noncomputable abbrev tupN (vs : List Value) (n : Nat) : Obj := { cls := .type "tuple", data := .seq vs.toArray n }
/-- the curve's tuple: made in the call, or the module's own -/
noncomputable def CurveAt (news : List (Addr × Obj)) (c : Addr) (C : Cv) : Prop :=
  (∃ t1 t2 t3 t4 t5 t6 n, (c, tupN [.int C.p t1, .int C.n t2, .int C.a t3, .int C.b t4, .int C.x t5, .int C.y t6] n) ∈ news) ∨ (c = 15 ∧ C = secp)
theorem CurveAt.mono {news news' : List (Addr × Obj)} {c : Addr} {C : Cv} (h : CurveAt news c C) (s : ∀ q ∈ news, q ∈ news') : CurveAt news' c C := by
  rcases h with ⟨t1, t2, t3, t4, t5, t6, n, h⟩ | h
  · exact .inl ⟨t1, t2, t3, t4, t5, t6, n, s _ h⟩
  · exact .inr h
theorem CurveAt.cons {news : List (Addr × Obj)} {c : Addr} {C : Cv} {q : Addr × Obj} (h : CurveAt news c C) : CurveAt (q :: news) c C := h.mono fun _ x => .tail _ x
theorem look15 {P : Params} : (hd.heap_39 P).lookup 15 = some ⟨.type "tuple", none, .seq [.int 115792089237316195423570985008687907853269984665640564039457584007908834671663 197, .int 115792089237316195423570985008687907852837564279074904382605163141518161494337 199, .int 0 201, .int 7 203, .int 55066263022277343669578718895168534326250603453777594175500187360389116729240 205, .int 32670510020758816978083085130507043184471273380659243275938904335757337482424 207].toArray 0, #[]⟩ := by
  k_dflt k_is
theorem CurveAt.tup {w : World} {h₀ h : Heap} {L : Addr} {m : Str → Option Value} {news : List (Addr × Obj)} {c : Addr} {C : Cv} (F : Fr h₀ L h m) (X : (hd.heap_39 w.params).In h₀) (N : News h₀ L h news) (hc : CurveAt news c C) :
    ∃ t1 t2 t3 t4 t5 t6, IsTup h c [Value.int C.p t1, .int C.n t2, .int C.a t3, .int C.b t4, .int C.x t5, .int C.y t6].toArray := by
  rcases hc with ⟨t1, t2, t3, t4, t5, t6, n, hm⟩ | ⟨rfl, rfl⟩
  · exact ⟨t1, t2, t3, t4, t5, t6, N.isTup hm⟩
  · exact ⟨197, 199, 201, 203, 205, 207, ⟨_, F.keep _ _ (X _ _ look15), rfl, 0, rfl⟩⟩
theorem fr_name {h₀ h : Heap} {L : Addr} {m : Str → Option Value} {x : Str} {v : Value} (F : Fr h₀ L h m) (e : m x = some v) : Fr h₀ L h (fun y => if y = x then some v else m y) := by
  have : (fun y => if y = x then some v else m y) = m := funext fun y => by
    by_cases q : y = x
    · rw [if_pos q, q, e]
    · rw [if_neg q]
  rw [this]; exact F
theorem bits_le_of {x n : Int} {k : Nat} (h : (x.natAbs : Int) ≤ n) (hb : Builtin.Int.intBits n ≤ k) : Builtin.Int.intBits x ≤ k := by
  rw [intBits_le_iff] at *
  omega
/-- the walk stops here -/
noncomputable def Stop (P : Prop) : Prop := P
theorem Stop.out {P : Prop} (h : Stop P) : P := h
theorem news_sub {h₀ h : Heap} {L : Addr} {news news' : List (Addr × Obj)} (N : News h₀ L h news') (hs : ∀ q ∈ news, q ∈ news') : News h₀ L h news := fun p hp => N _ (hs _ hp)
theorem news_dup {h₀ h : Heap} {L : Addr} {news : List (Addr × Obj)} {q : Addr × Obj} (N : News h₀ L h news) (hq : q ∈ news) : News h₀ L h (q :: news) := fun p hp => by
  rcases List.mem_cons.mp hp with rfl | hp
  · exact N _ hq
  · exact N _ hp
open Builtin.Int in
theorem bits_fmodP {P x : Int} (h : 0 < P) (hb : intBits P ≤ 256) : intBits (x.fmod P) ≤ 256 := by
  rw [intBits_le_iff] at *
  have h1 := Int.emod_nonneg x (b := P) (by omega)
  have h2 := Int.emod_lt_of_pos x h
  rw [Int.fmod_eq_emod_of_nonneg _ (by omega)]
  omega
open Builtin.Int in
theorem bits_pow2 {x : Int} {m : Nat} (h : intBits x ≤ m) : intBits (x ^ 2) ≤ m * 2 + 1 := intBits_pow_le h 2
open Builtin.Int in
theorem bits_pow3 {x : Int} {m : Nat} (h : intBits x ≤ m) : intBits (x ^ 3) ≤ m * 3 + 1 := intBits_pow_le h 3
open Builtin.Int in
theorem bits_pow4 {x : Int} {m : Nat} (h : intBits x ≤ m) : intBits (x ^ 4) ≤ m * 4 + 1 := intBits_pow_le h 4
section
variable {prog : Program} {w : World} {A : Around} {E : Value → Shared → Prop} {s : Shared} {a : Int} {t u : Tok} {Q : Value → Shared → Prop}
open Builtin.Int in
theorem powL2 {k : Nat} {n : Int} (hn : n = 2) (hb : intBits a ≤ k) (hk : k ≤ 10000) (h : Q (.int (a ^ 2) s.toks) { s with toks := s.toks + 1 }) : wpAny (model prog w) A (binaryOp .Pow (.int a t) (.int n u)) Q E s := by
  subst hn
  exact pow_int (by decide) (by omega) h
open Builtin.Int in
theorem powL3 {k : Nat} {n : Int} (hn : n = 3) (hb : intBits a ≤ k) (hk : k ≤ 10000) (h : Q (.int (a ^ 3) s.toks) { s with toks := s.toks + 1 }) : wpAny (model prog w) A (binaryOp .Pow (.int a t) (.int n u)) Q E s := by
  subst hn
  exact pow_int (by decide) (by omega) h
open Builtin.Int in
theorem powL4 {k : Nat} {n : Int} (hn : n = 4) (hb : intBits a ≤ k) (hk : k ≤ 10000) (h : Q (.int (a ^ 4) s.toks) { s with toks := s.toks + 1 }) : wpAny (model prog w) A (binaryOp .Pow (.int a t) (.int n u)) Q E s := by
  subst hn
  exact pow_int (by decide) (by omega) h
theorem mulL {b : Int} (hm : IntMulOk a b) (h : Q (.int (a * b) s.toks) { s with toks := s.toks + 1 }) : wpAny (model prog w) A (binaryOp .Mult (.int a t) (.int b u)) Q E s := mul_int h hm
theorem divL {b : Int} (hb : 0 < b) (hbb : Builtin.Int.intBits b ≤ 256) (h : Q (.int (a.fdiv b) s.toks) { s with toks := s.toks + 1 }) : wpAny (model prog w) A (binaryOp .FloorDiv (.int a t) (.int b u)) Q E s :=
  floordiv_int (by omega) h (Or.inl (PyProof.noPylong_of_log2 (by
    have := intBits_le_iff.mp hbb
    rw [Nat.log2_lt (by omega)]
    exact Nat.lt_of_lt_of_le this (Nat.pow_le_pow_right (by decide) (by decide)))))
theorem modL {b : Int} (hb : 0 < b) (h : Q (.int (a.fmod b) s.toks) { s with toks := s.toks + 1 }) : wpAny (model prog w) A (binaryOp .Mod (.int a t) (.int b u)) Q E s := mod_int' (by omega) h
end
end Iv

end
section
open PySem PySem.W PyProof.Rows PySem.Calls PySem.Spec
namespace Iv
local macro_rules | `(tactic| bits_by_make) => `(tactic| first
  | with_reducible assumption
  | (with_reducible exact bits_fmodP (by assumption) (by assumption))
  | ((with_reducible apply bits_pow2); bits_by_make)
  | ((with_reducible apply bits_pow3); bits_by_make)
  | ((with_reducible apply bits_pow4); bits_by_make))
local macro_rules | `(tactic| walk_at "binaryOp Mult int int") => `(tactic| (k_here; (with_reducible refine mulL ?k1 ?_); (case k1 => mul_fits)))
local macro_rules | `(tactic| walk_at "binaryOp Mod int int") => `(tactic| (k_here; (with_reducible refine modL ?k1 ?_); (case k1 => first | assumption | omega)))
local macro_rules | `(tactic| walk_at "binaryOp Pow int int") => `(tactic| (k_here; first
  | ((with_reducible refine' powL2 ?k0 ?k1 ?k2 ?_); (case k0 => rfl); (case k1 => bits_by_make); (case k2 => decide))
  | ((with_reducible refine' powL3 ?k0 ?k1 ?k2 ?_); (case k0 => rfl); (case k1 => bits_by_make); (case k2 => decide))
  | ((with_reducible refine' powL4 ?k0 ?k1 ?k2 ?_); (case k0 => rfl); (case k1 => bits_by_make); (case k2 => decide))))
section
open PySem PySem.W PyProof.Rows PySem.Calls PySem.Spec
set_option Elab.async false
set_option maxRecDepth 100000
set_option maxHeartbeats 4000000
set_option linter.unusedVariables false
theorem fillA : (hd.heap_39 = hd.heap_39) ∧ PySem.Challenge.rw_iv0041_01 = PySem.Challenge.rw_iv0041_01 := by
  k_fill
  exact ⟨rfl, rfl⟩

section
variable {prog : Program} {w : World} {p : Program} {loose : List Str} {mean : ExcName → Option Value} {mg mb : Str → Option Value}
  {dp un : Nat} {gd : Option (List Code)} {cn : Str} {cs : Scope} {a : Addr} {ccd : Value} {cl : List (Str × Addr)} {outer : List Env} {A₀ : Around} {base h₀ : Heap} {L : Addr} {m : Str → Option Value} {news : List (Addr × Obj)} {s : Shared}
  {Q E : Value → Shared → Prop}
open Builtin.Int
theorem to_jacobian_says (B : Below A₀ base outer h₀) (F : Fr h₀ L s.heap m) (X : (hd.heap_39 w.params).In h₀) (N : News h₀ L s.heap news) (T : Top p loose mean mg mb h₀) (hk : cs.kind = .function)
  (hd : dp + 1 < recursionLimit) (hu : un + 8 < cLine)
  {pa : Addr} {x y : Int} {tx ty : Tok} {n : Nat} (hp : (pa, tupN [Value.int x tx, .int y ty] n) ∈ news)
  (ret : ∀ D h' tk' t, Fr h₀ L h' m → News h₀ L h' ((D, tupN [.int x tx, .int y ty, .int 1 t] 0) :: news) → Q (.ref D) { s with heap := h', toks := tk' }) :
  wpAny (model prog w) (ktrTop dp un gd cn cs L a ccd cl outer) (call (.ref 29) [.ref pa]) Q E s := by
  refine wpAny_call ?_
  k_dflt ktr_enter
  k_steps
  all_goals exact ret _ _ _ _ (by k_asm) (by k_asm)

theorem double_says (B : Below A₀ base outer h₀) (F : Fr h₀ L s.heap m) (X : (hd.heap_39 w.params).In h₀) (N : News h₀ L s.heap news) (T : Top p loose mean mg mb h₀) (hk : cs.kind = .function)
  (hd : dp + 1 < recursionLimit) (hu : un + 8 < cLine)
  {ca : Addr} {C : Cv} (hc : CurveAt news ca C) (hP : 0 < (C.p : Int)) (hPb : intBits (C.p : Int) ≤ 256) (hAb : intBits (C.a : Int) ≤ 256)
  {pa : Addr} {x y z : Int} {tx ty tz : Tok} {n : Nat} (hp : (pa, tupN [Value.int x tx, .int y ty, .int z tz] n) ∈ news)
  (hx : intBits x ≤ 256) (hy : intBits y ≤ 256) (hz : intBits z ≤ 256)
  (ret : ∀ D h' tk' t t' t'' x' y' z' n', (x', y', z') = jdblF C.p C.a (x, y, z) → Fr h₀ L h' m → News h₀ L h' ((D, tupN [.int x' t, .int y' t', .int z' t''] n') :: news) → Q (.ref D) { s with heap := h', toks := tk' }) :
  wpAny (model prog w) (ktrTop dp un gd cn cs L a ccd cl outer) (call (.ref 36) [.ref pa, .ref ca]) Q E s := by
  refine wpAny_call ?_
  k_dflt ktr_enter
  obtain ⟨t1, t2, t3, t4, t5, t6, hT⟩ := CurveAt.tup (by k_asm) (by k_asm) (by k_asm) hc
  k_steps
  all_goals (refine ret _ _ _ _ _ _ _ _ _ _ ?_ (by k_asm) (by k_asm))
  all_goals (simp only [jdblF]; split <;> first | rfl | contradiction)
local macro_rules | `(tactic| walk_at "call ref") => `(tactic| (k_here; k_dflt (refine' double_says ?ivB ?ivF ?ivX ?ivN ?ivT ?ivK ?ivd ?ivu ?ivc ?ivP ?ivb ?ivA ?ivp ?ivx ?ivy ?ivz ?_); (case ivB => k_asm); (case ivF => k_asm); (case ivX => k_asm); (case ivN => k_asm); (case ivT => k_asm); (case ivK => rfl); (case ivd => ktr_room); (case ivu => ktr_units); (case ivc => assumption); (case ivP => assumption); (case ivb => assumption); (case ivA => assumption); (case ivp => k_mem); (case ivx => bits_by_make); (case ivy => bits_by_make); (case ivz => bits_by_make); intro D' h' tk' t1' t2' t3' x' y' z' n' e' F' N'))

theorem add_says (B : Below A₀ base outer h₀) (F : Fr h₀ L s.heap m) (X : (hd.heap_39 w.params).In h₀) (N : News h₀ L s.heap news) (T : Top p loose mean mg mb h₀) (hk : cs.kind = .function)
  (hd : dp + 2 < recursionLimit) (hu : un + 16 < cLine)
  {ca : Addr} {C : Cv} (hc : CurveAt news ca C) (hP : 0 < (C.p : Int)) (hPb : intBits (C.p : Int) ≤ 256) (hAb : intBits (C.a : Int) ≤ 256)
  {pa : Addr} {x y z : Int} {tx ty tz : Tok} {n : Nat} (hp : (pa, tupN [Value.int x tx, .int y ty, .int z tz] n) ∈ news)
  (hx : intBits x ≤ 256) (hy : intBits y ≤ 256) (hz : intBits z ≤ 256)
  {qa : Addr} {u v o : Int} {tu tv to : Tok} {n2 : Nat} (hq : (qa, tupN [Value.int u tu, .int v tv, .int o to] n2) ∈ news)
  (hu' : intBits u ≤ 256) (hv : intBits v ≤ 256) (ho : intBits o ≤ 256)
  (ret : ∀ D h' tk' t t' t'' x' y' z' n', (x', y', z') = jaddF C.p C.a (x, y, z) (u, v, o) → Fr h₀ L h' m → News h₀ L h' ((D, tupN [.int x' t, .int y' t', .int z' t''] n') :: news) → Q (.ref D) { s with heap := h', toks := tk' }) :
  wpAny (model prog w) (ktrTop dp un gd cn cs L a ccd cl outer) (call (.ref 43) [.ref pa, .ref qa, .ref ca]) Q E s := by
  refine wpAny_call ?_
  k_dflt ktr_enter
  obtain ⟨t1, t2, t3, t4, t5, t6, hT⟩ := CurveAt.tup (by k_asm) (by k_asm) (by k_asm) hc
  k_steps
  all_goals (first | refine ret _ _ _ _ _ _ _ _ _ _ ?_ (by k_asm) (by k_asm) | refine ret _ _ _ _ _ _ _ _ _ _ ?_ (by k_asm) (news_dup (by k_asm) hp) | refine ret _ _ _ _ _ _ _ _ _ _ ?_ (by k_asm) (news_dup (by k_asm) hq))
  all_goals (simp only [jaddF]; (repeat' split) <;> first | rfl | contradiction | assumption)
end

end
local macro_rules | `(tactic| walk_at "binaryOp FloorDiv int int") => `(tactic| (k_here; (with_reducible refine divL ?k1 ?k2 ?_); (case k1 => first | assumption | omega); (case k2 => first | assumption | bits_by_make)))
local macro_rules | `(tactic| walk_at "exec While Compare cons nil") => `(tactic| (k_here; (with_reducible show wpAny _ _ (exec (Stmt.While _ _ _ _) _) _ _ _); refine Stop.out ?_))
section
open PySem PySem.W PyProof.Rows PySem.Calls PySem.Spec
set_option Elab.async false
set_option maxRecDepth 100000
set_option maxHeartbeats 4000000
set_option linter.unusedVariables false
theorem fillB : (hd.heap_39 = hd.heap_39) ∧ PySem.Challenge.rw_iv0041_01 = PySem.Challenge.rw_iv0041_01 := by
  k_fill
  exact ⟨rfl, rfl⟩

section
variable {prog : Program} {w : World} {p : Program} {loose : List Str} {mean : ExcName → Option Value} {mg mb : Str → Option Value}
  {dp un : Nat} {gd : Option (List Code)} {cn : Str} {cs : Scope} {a : Addr} {ccd : Value} {cl : List (Str × Addr)} {outer : List Env} {A₀ : Around} {base h₀ : Heap} {L : Addr} {m : Str → Option Value} {news : List (Addr × Obj)} {s : Shared}
  {Q E : Value → Shared → Prop}
open Builtin.Int

/-- the inverse's loop: a turn's state -/
noncomputable def InvJ (n R : Int) (tn : Tok) (news : List (Addr × Obj)) (k : Nat) (m₁ : Str → Option Value) (news₁ : List (Addr × Obj)) : Prop :=
  news₁ = news ∧ ∃ (m₀ : Str → Option Value) (lm low hm high : Int) (t1 t2 t3 t4 : Tok),
    m₁ = (fun y => if y = Str.ofString "n" then some (.int n tn) else if y = Str.ofString "lm" then some (.int lm t1) else if y = Str.ofString "low" then some (.int low t2) else if y = Str.ofString "hm" then some (.int hm t3) else if y = Str.ofString "high" then some (.int high t4) else m₀ y)
    ∧ k = low.toNat ∧ InvOK n lm low hm high ∧ invL low.toNat lm low hm high = R
theorem inv_says (B : Below A₀ base outer h₀) (F : Fr h₀ L s.heap m) (X : (hd.heap_39 w.params).In h₀) (N : News h₀ L s.heap news) (T : Top p loose mean mg mb h₀) (hk : cs.kind = .function)
  (hd : dp + 1 < recursionLimit) (hu : un + 8 < cLine)
  {x n : Int} {tx tn : Tok} (hn : 0 < n) (hnb : intBits n ≤ 256)
  (ret : ∀ v h' tk' t, v = invF x n → intBits v ≤ 256 → Fr h₀ L h' m → News h₀ L h' news → Q (.int v t) { s with heap := h', toks := tk' }) :
  wpAny (model prog w) (ktrTop dp un gd cn cs L a ccd cl outer) (call (.ref 22) [.int x tx, .int n tn]) Q E s := by
  have l0 : 0 ≤ x.fmod n := by rw [Int.fmod_eq_emod_of_nonneg _ (by omega)]; exact Int.emod_nonneg _ (by omega)
  have l1 : x.fmod n < n := by rw [Int.fmod_eq_emod_of_nonneg _ (by omega)]; exact Int.emod_lt_of_pos _ (by omega)
  refine wpAny_call ?_
  k_dflt ktr_enter
  k_steps
  · refine ret _ _ _ _ ?_ (by decide) (by k_asm) (by k_asm)
    rw [invF, if_pos (by assumption)]
  · refine Stop.out ?_
    unfold Stop
    (with_reducible rename Fr _ _ _ _ => F9)
    (with_reducible rename News _ _ _ _ => N9)
    refine While_inv (InvJ n (invL (x.fmod n).toNat 1 (x.fmod n) 0 n) tn _) (fr_name (x := Str.ofString "n") (fr_name (x := Str.ofString "lm") (fr_name (x := Str.ofString "low") (fr_name (x := Str.ofString "hm") (fr_name (x := Str.ofString "high") F9 rfl) rfl) rfl) rfl) rfl) N9
      ⟨rfl, _, 1, _, 0, _, _, _, _, _, rfl, rfl, InvOK.start l0 l1, rfl⟩ ?_ ?hE
    case hE => first | passes_own | with_unfolding_all passes_own
    clear F9 N9
    intro k m₁ news₁ h₁ tk₁ F₁ N₁ hJ
    obtain ⟨hn1, m₀, lm, low, hm, high, t1, t2, t3, t4, hm1, hk, ok, hR⟩ := hJ
    subst hn1
    subst hm1
    have b1 : intBits lm ≤ 256 := bits_le_of ok.lm hnb
    have b2 : intBits low ≤ 256 := bits_le_of (by have := ok; unfold InvOK at this; omega) hnb
    have b3 : intBits high ≤ 256 := bits_le_of (by have := ok; unfold InvOK at this; omega) hnb
    k_steps
    · obtain ⟨ok', hlt⟩ := ok.turn (by assumption)
      have hT := invL_turn (lm := lm) (low := low) (hm := hm) (high := high) (by assumption)
      (with_reducible rename Fr _ _ _ _ => F9)
      (with_reducible rename News _ _ _ _ => N9)
      exact WhileStep.intro (n' := (high - low * high.fdiv low).toNat) (fr_name (x := Str.ofString "n") (fr_name (x := Str.ofString "lm") (fr_name (x := Str.ofString "low") (fr_name (x := Str.ofString "hm") (fr_name (x := Str.ofString "high") F9 rfl) rfl) rfl) rfl) rfl)
        (news_sub N9 fun q hq => .tail _ (.tail _ hq)) (by unfold InvOK at ok; omega) ⟨rfl, _, _, _, _, _, _, _, _, _, rfl, rfl, ok', by rw [← hT]; exact hR⟩
    · refine ret _ _ _ _ ?_ (bits_fmodP hn hnb) (by k_asm) (news_sub (by k_asm) fun q hq => .tail _ (.tail _ hq))
      rw [invF, if_neg (by assumption), ← hR, invL_end (by assumption)]

local macro_rules | `(tactic| walk_at "call ref") => `(tactic| (k_here; k_dflt (refine' inv_says ?ivB ?ivF ?ivX ?ivN ?ivT ?ivK ?ivd ?ivu ?ivP ?ivb ?_); (case ivB => k_asm); (case ivF => k_asm); (case ivX => k_asm); (case ivN => k_asm); (case ivT => k_asm); (case ivK => rfl); (case ivd => ktr_room); (case ivu => ktr_units); (case ivP => assumption); (case ivb => assumption); intro v' h' tk' t1' e' b' F' N'))
theorem from_jacobian_says (B : Below A₀ base outer h₀) (F : Fr h₀ L s.heap m) (X : (hd.heap_39 w.params).In h₀) (N : News h₀ L s.heap news) (T : Top p loose mean mg mb h₀) (hk : cs.kind = .function)
  (hd : dp + 2 < recursionLimit) (hu : un + 16 < cLine)
  {ca : Addr} {C : Cv} (hc : CurveAt news ca C) (hP : 0 < (C.p : Int)) (hPb : intBits (C.p : Int) ≤ 256)
  {pa : Addr} {x y z : Int} {tx ty tz : Tok} {n : Nat} (hp : (pa, tupN [Value.int x tx, .int y ty, .int z tz] n) ∈ news)
  (hx : intBits x ≤ 256) (hy : intBits y ≤ 256)
  (ret : ∀ D h' tk' t t' x' y' n', (x', y') = fromJF C.p (x, y, z) → Fr h₀ L h' m → News h₀ L h' ((D, tupN [.int x' t, .int y' t'] n') :: news) → Q (.ref D) { s with heap := h', toks := tk' }) :
  wpAny (model prog w) (ktrTop dp un gd cn cs L a ccd cl outer) (call (.ref 50) [.ref pa, .ref ca]) Q E s := by
  refine wpAny_call ?_
  k_dflt ktr_enter
  obtain ⟨t1, t2, t3, t4, t5, t6, hT⟩ := CurveAt.tup (by k_asm) (by k_asm) (by k_asm) hc
  k_steps
  all_goals (refine ret _ _ _ _ _ _ _ _ ?_ (by k_asm) (by k_asm))
  all_goals (simp only [fromJF]; (try subst_vars); rfl)
end

end
section
open PySem PySem.W PyProof.Rows PySem.Calls PySem.Spec
set_option Elab.async false
set_option maxRecDepth 100000
set_option maxHeartbeats 4000000
set_option linter.unusedVariables false
open Lean.Grind Builtin.Int
theorem news_t2 {h₀ h : Heap} {L : Addr} {news : List (Addr × Obj)} {q a1 : Addr × Obj} (N : News h₀ L h (q :: a1 :: news)) : News h₀ L h (q :: news) := fun p hp => by
  rcases List.mem_cons.mp hp with rfl | hx
  · exact N _ (.head _)
  · exact N _ (.tail _ (.tail _ hx))
theorem news_t3 {h₀ h : Heap} {L : Addr} {news : List (Addr × Obj)} {q a1 a2 : Addr × Obj} (N : News h₀ L h (q :: a1 :: a2 :: news)) : News h₀ L h (q :: news) := fun p hp => by
  rcases List.mem_cons.mp hp with rfl | hx
  · exact N _ (.head _)
  · exact N _ (.tail _ (.tail _ (.tail _ hx)))
theorem news_t4 {h₀ h : Heap} {L : Addr} {news : List (Addr × Obj)} {q a1 a2 a3 : Addr × Obj} (N : News h₀ L h (q :: a1 :: a2 :: a3 :: news)) : News h₀ L h (q :: news) := fun p hp => by
  rcases List.mem_cons.mp hp with rfl | hx
  · exact N _ (.head _)
  · exact N _ (.tail _ (.tail _ (.tail _ (.tail _ hx))))
theorem news_t5 {h₀ h : Heap} {L : Addr} {news : List (Addr × Obj)} {q a1 a2 a3 a4 : Addr × Obj} (N : News h₀ L h (q :: a1 :: a2 :: a3 :: a4 :: news)) : News h₀ L h (q :: news) := fun p hp => by
  rcases List.mem_cons.mp hp with rfl | hx
  · exact N _ (.head _)
  · exact N _ (.tail _ (.tail _ (.tail _ (.tail _ (.tail _ hx)))))
theorem news_t6 {h₀ h : Heap} {L : Addr} {news : List (Addr × Obj)} {q a1 a2 a3 a4 a5 : Addr × Obj} (N : News h₀ L h (q :: a1 :: a2 :: a3 :: a4 :: a5 :: news)) : News h₀ L h (q :: news) := fun p hp => by
  rcases List.mem_cons.mp hp with rfl | hx
  · exact N _ (.head _)
  · exact N _ (.tail _ (.tail _ (.tail _ (.tail _ (.tail _ (.tail _ hx))))))
section
variable {F' : Type} [iF : Field F'] {C : Cv} {K : Over F' C.p}
/-- a point of the curve and its coordinates with a scale -/
noncomputable def PR (C : Cv) {F' : Type} [Field F'] (K : Over F' C.p) (q : Option (F' × F')) (x y z : Int) : Prop := On (K.c C.a) (K.c C.b) q ∧ Rep K q (x, y, z)
/-- a point of the curve and its plain coordinates -/
noncomputable def PF (C : Cv) {F' : Type} [Field F'] (K : Over F' C.p) (q : Option (F' × F')) (x y : Int) : Prop := On (K.c C.a) (K.c C.b) q ∧ (x, y) = flat K q
theorem GoodCv.pos (g : GoodCv C) : 0 < (C.p : Int) := by have := g.p2; omega
theorem bits_of_lt {x : Int} (h0 : 0 ≤ x) (h : x < (2 : Int) ^ 256) : intBits x ≤ 256 := by
  rw [intBits_le_iff]
  have : (2 : Int) ^ 256 = ((2 ^ 256 : Nat) : Int) := by decide +kernel
  rw [this] at h
  omega
theorem GoodCv.pi (g : GoodCv C) : (C.p : Int) < (2 : Int) ^ 256 := by
  have : (2 : Int) ^ 256 = ((2 ^ 256 : Nat) : Int) := by decide +kernel
  rw [this]
  exact Int.ofNat_lt.mpr g.pb
theorem GoodCv.bitsP (g : GoodCv C) : intBits (C.p : Int) ≤ 256 := bits_of_lt (by omega) g.pi
theorem GoodCv.bitsA (g : GoodCv C) : intBits (C.a : Int) ≤ 256 := bits_of_lt (by omega) (by have := g.pi; have := g.ap; omega)
theorem GoodCv.bitsN (g : GoodCv C) : intBits (C.n : Int) ≤ 256 := bits_of_lt (by omega) (by
  have : (2 : Int) ^ 256 = ((2 ^ 256 : Nat) : Int) := by decide +kernel
  rw [this]
  exact Int.ofNat_lt.mpr g.nb)
theorem PR.bits {q : Option (F' × F')} {x y z : Int} (g : GoodCv C) (R : PR C K q x y z) : intBits x ≤ 256 ∧ intBits y ≤ 256 ∧ intBits z ≤ 256 := by
  obtain ⟨_, ⟨a1, a2⟩, ⟨b1, b2⟩, ⟨c1, c2⟩, _⟩ := R
  have := g.pi
  dsimp only at *
  exact ⟨bits_of_lt a1 (by omega), bits_of_lt b1 (by omega), bits_of_lt c1 (by omega)⟩
theorem flat_lo (q : Option (F' × F')) : 0 ≤ (flat K q).1 ∧ 0 ≤ (flat K q).2 := by
  cases q with
  | none => exact ⟨Int.le_refl _, Int.le_refl _⟩
  | some q => exact ⟨K.v0 _, K.v0 _⟩
theorem flat_hi (g : GoodCv C) (q : Option (F' × F')) : (flat K q).1 < C.p ∧ (flat K q).2 < C.p := by
  cases q with
  | none => exact ⟨g.pos, g.pos⟩
  | some q => exact ⟨K.vp _, K.vp _⟩
theorem PF.rep {q : Option (F' × F')} {x y : Int} (g : GoodCv C) (R : PF C K q x y) : PR C K q x y 1 := by
  obtain ⟨ho, e⟩ := R
  refine ⟨ho, ?_⟩
  have l := flat_lo (K := K) q
  have h := flat_hi (K := K) g q
  rw [← e] at l h
  have := g.p2
  refine ⟨⟨l.1, h.1⟩, ⟨l.2, h.2⟩, ⟨by simp, by simp; omega⟩, ?_⟩
  cases q with
  | none => exact ⟨congrArg Prod.fst e, congrArg Prod.snd e⟩
  | some q =>
    have e1 : x = K.v q.1 := congrArg Prod.fst e
    have e2 : y = K.v q.2 := congrArg Prod.snd e
    refine ⟨?_, ?_, ?_⟩
    · show K.c 1 ≠ 0
      rw [K.one]; grind
    · show K.c x = q.1 * K.c 1 ^ 2
      rw [e1, K.cv, K.one]; grind
    · show K.c y = q.2 * K.c 1 ^ 3
      rw [e2, K.cv, K.one]; grind
theorem GoodCv.two (g : GoodCv C) (K : Over F' C.p) : (2 : F') ≠ 0 := K.two_ne g.p2
theorem zeroPR (g : GoodCv C) : PR C K none 0 0 1 := by
  have := g.p2
  exact ⟨trivial, ⟨by simp, by simp; omega⟩, ⟨by simp, by simp; omega⟩, ⟨by simp, by simp; omega⟩, rfl, rfl⟩
theorem smul_even (g : GoodCv C) {q : Option (F' × F')} (h : On (K.c C.a) (K.c C.b) q) {n : Int} (h0 : 0 ≤ n) (h2 : n.fmod 2 = 0) :
    smul (K.c C.a) q n.toNat = sum (K.c C.a) (smul (K.c C.a) q (n.fdiv 2).toNat) (smul (K.c C.a) q (n.fdiv 2).toNat) := by
  have f2 : n.fdiv 2 = n / 2 := Int.fdiv_eq_ediv_of_nonneg _ (by decide)
  have m2 : n.fmod 2 = n % 2 := Int.fmod_eq_emod_of_nonneg _ (by decide)
  rw [← smul_two (g.two K) (g.no F' K) h]
  congr 1
  omega
theorem smul_odd (g : GoodCv C) {q : Option (F' × F')} (h : On (K.c C.a) (K.c C.b) q) {n : Int} (h0 : 0 ≤ n) (h2 : n.fmod 2 = 1) :
    smul (K.c C.a) q n.toNat = sum (K.c C.a) (sum (K.c C.a) (smul (K.c C.a) q (n.fdiv 2).toNat) (smul (K.c C.a) q (n.fdiv 2).toNat)) q := by
  have f2 : n.fdiv 2 = n / 2 := Int.fdiv_eq_ediv_of_nonneg _ (by decide)
  have m2 : n.fmod 2 = n % 2 := Int.fmod_eq_emod_of_nonneg _ (by decide)
  rw [← smul_two (g.two K) (g.no F' K) h]
  have : n.toNat = 2 * (n.fdiv 2).toNat + 1 := by omega
  rw [this]
  rfl
theorem PF.bits {q : Option (F' × F')} {x y : Int} (g : GoodCv C) (R : PF C K q x y) : intBits x ≤ 256 ∧ intBits y ≤ 256 := ⟨(R.rep g).bits g |>.1, (R.rep g).bits g |>.2.1⟩
theorem PR.y {q : Option (F' × F')} {x y z : Int} (g : GoodCv C) (R : PR C K q x y z) : y = 0 ↔ q = none := R.2.y_iff K (g.no F' K) R.1
end
section
variable {prog : Program} {w : World} {p : Program} {loose : List Str} {mean : ExcName → Option Value} {mg mb : Str → Option Value}
  {dp un : Nat} {gd : Option (List Code)} {cn : Str} {cs : Scope} {a : Addr} {ccd : Value} {cl : List (Str × Addr)} {outer : List Env} {A₀ : Around} {base h₀ : Heap} {L : Addr} {m : Str → Option Value} {news : List (Addr × Obj)} {s : Shared}
  {Q E : Value → Shared → Prop}
variable {F' : Type} [iF : Field F'] {C : Cv} {K : Over F' C.p}
theorem double_sem (B : Below A₀ base outer h₀) (F : Fr h₀ L s.heap m) (X : (hd.heap_39 w.params).In h₀) (N : News h₀ L s.heap news) (T : Top p loose mean mg mb h₀) (hk : cs.kind = .function)
  (hd : dp + 1 < recursionLimit) (hu : un + 8 < cLine)
  {ca pa : Addr} {x y z : Int} {tx ty tz : Tok} {n : Nat} {q : Option (F' × F')} (hp : (pa, tupN [Value.int x tx, .int y ty, .int z tz] n) ∈ news)
  (R : PR C K q x y z) (hc : CurveAt news ca C) (g : GoodCv C)
  (ret : ∀ D h' tk' t t' t'' x' y' z' n', PR C K (sum (K.c C.a) q q) x' y' z' → Fr h₀ L h' m → News h₀ L h' ((D, tupN [.int x' t, .int y' t', .int z' t''] n') :: news) → Q (.ref D) { s with heap := h', toks := tk' }) :
  wpAny (model prog w) (ktrTop dp un gd cn cs L a ccd cl outer) (call (.ref 36) [.ref pa, .ref ca]) Q E s := by
  obtain ⟨b1, b2, b3⟩ := R.bits g
  refine double_says B F X N T hk hd hu hc g.pos g.bitsP g.bitsA hp b1 b2 b3 fun D h' tk' t t' t'' x' y' z' n' e F9 N9 => ret D h' tk' t t' t'' x' y' z' n' ⟨sum_on (g.two K) R.1 R.1, ?_⟩ F9 N9
  rw [e]
  exact jdbl_rep K g.prime g.p2 (g.no F' K) R.1 R.2
theorem add_sem (B : Below A₀ base outer h₀) (F : Fr h₀ L s.heap m) (X : (hd.heap_39 w.params).In h₀) (N : News h₀ L s.heap news) (T : Top p loose mean mg mb h₀) (hk : cs.kind = .function)
  (hd : dp + 2 < recursionLimit) (hu : un + 16 < cLine)
  {ca pa : Addr} {x y z : Int} {tx ty tz : Tok} {n : Nat} {q : Option (F' × F')} (hp : (pa, tupN [Value.int x tx, .int y ty, .int z tz] n) ∈ news)
  {qa : Addr} {u v o : Int} {tu tv to : Tok} {n2 : Nat} {r : Option (F' × F')} (hq : (qa, tupN [Value.int u tu, .int v tv, .int o to] n2) ∈ news)
  (R : PR C K q x y z) (R' : PR C K r u v o) (hc : CurveAt news ca C) (g : GoodCv C)
  (ret : ∀ D h' tk' t t' t'' x' y' z' n', PR C K (sum (K.c C.a) q r) x' y' z' → Fr h₀ L h' m → News h₀ L h' ((D, tupN [.int x' t, .int y' t', .int z' t''] n') :: news) → Q (.ref D) { s with heap := h', toks := tk' }) :
  wpAny (model prog w) (ktrTop dp un gd cn cs L a ccd cl outer) (call (.ref 43) [.ref pa, .ref qa, .ref ca]) Q E s := by
  obtain ⟨b1, b2, b3⟩ := R.bits g
  obtain ⟨c1, c2, c3⟩ := R'.bits g
  refine add_says B F X N T hk hd hu hc g.pos g.bitsP g.bitsA hp b1 b2 b3 hq c1 c2 c3 fun D h' tk' t t' t'' x' y' z' n' e F9 N9 => ret D h' tk' t t' t'' x' y' z' n' ⟨sum_on (g.two K) R.1 R'.1, ?_⟩ F9 N9
  rw [e]
  exact jadd_rep K g.prime g.p2 (g.no F' K) R.1 R'.1 R.2 R'.2
theorem from_sem (B : Below A₀ base outer h₀) (F : Fr h₀ L s.heap m) (X : (hd.heap_39 w.params).In h₀) (N : News h₀ L s.heap news) (T : Top p loose mean mg mb h₀) (hk : cs.kind = .function)
  (hd : dp + 2 < recursionLimit) (hu : un + 16 < cLine)
  {ca pa : Addr} {x y z : Int} {tx ty tz : Tok} {n : Nat} {q : Option (F' × F')} (hp : (pa, tupN [Value.int x tx, .int y ty, .int z tz] n) ∈ news)
  (R : PR C K q x y z) (hc : CurveAt news ca C) (g : GoodCv C)
  (ret : ∀ D h' tk' t t' x' y' n', PF C K q x' y' → Fr h₀ L h' m → News h₀ L h' ((D, tupN [.int x' t, .int y' t'] n') :: news) → Q (.ref D) { s with heap := h', toks := tk' }) :
  wpAny (model prog w) (ktrTop dp un gd cn cs L a ccd cl outer) (call (.ref 50) [.ref pa, .ref ca]) Q E s := by
  obtain ⟨b1, b2, b3⟩ := R.bits g
  refine from_jacobian_says B F X N T hk hd hu hc g.pos g.bitsP hp b1 b2 fun D h' tk' t t' x' y' n' e F9 N9 => ret D h' tk' t t' x' y' n' ⟨R.1, ?_⟩ F9 N9
  rw [e]
  exact fromJ_eq K g.prime R.2
theorem to_sem (B : Below A₀ base outer h₀) (F : Fr h₀ L s.heap m) (X : (hd.heap_39 w.params).In h₀) (N : News h₀ L s.heap news) (T : Top p loose mean mg mb h₀) (hk : cs.kind = .function)
  (hd : dp + 1 < recursionLimit) (hu : un + 8 < cLine)
  {pa : Addr} {x y : Int} {tx ty : Tok} {n : Nat} {q : Option (F' × F')} (hp : (pa, tupN [Value.int x tx, .int y ty] n) ∈ news)
  (R : PF C K q x y) (g : GoodCv C)
  (ret : ∀ D h' tk' t t' t'' n', PR C K q x y 1 → Fr h₀ L h' m → News h₀ L h' ((D, tupN [.int x t, .int y t', .int 1 t''] n') :: news) → Q (.ref D) { s with heap := h', toks := tk' }) :
  wpAny (model prog w) (ktrTop dp un gd cn cs L a ccd cl outer) (call (.ref 29) [.ref pa]) Q E s :=
  to_jacobian_says B F X N T hk hd hu hp fun D h' tk' t F9 N9 => ret D h' tk' tx ty t 0 (R.rep g) F9 N9
end
/-! ### the law's own points -/
section
variable {F' : Type} [iF : Field F'] {C : Cv} {K : Over F' C.p}
/-- v is the point q, as None or as the pair that the entry e of the ledger holds -/
noncomputable def PtE {F' : Type} [Field F'] {p : Nat} (K : Over F' p) (e : Addr × Obj) (v : Value) : Option (F' × F') → Prop
  | none => v = .none
  | some q => ∃ a tx ty n, v = .ref a ∧ e = (a, tupN [.int (K.v q.1) tx, .int (K.v q.2) ty] n)
noncomputable def PtAt (C : Cv) {F' : Type} [Field F'] (K : Over F' C.p) (news : List (Addr × Obj)) (v : Value) (q : Option (F' × F')) : Prop :=
  On (K.c C.a) (K.c C.b) q ∧ ∃ e, e ∈ news ∧ PtE K e v q
theorem PtAt.mono {news news' : List (Addr × Obj)} {v : Value} {q : Option (F' × F')} (h : PtAt C K news v q) (s : ∀ e ∈ news, e ∈ news') : PtAt C K news' v q :=
  let ⟨ho, e, he, hp⟩ := h; ⟨ho, e, s _ he, hp⟩
theorem PtAt.cons {news : List (Addr × Obj)} {v : Value} {q : Option (F' × F')} {e : Addr × Obj} (h : PtAt C K news v q) : PtAt C K (e :: news) v q := h.mono fun _ x => .tail _ x
theorem PtAt.head {news : List (Addr × Obj)} {v : Value} {q : Option (F' × F')} {e : Addr × Obj} (ho : On (K.c C.a) (K.c C.b) q) (h : PtE K e v q) : PtAt C K (e :: news) v q := ⟨ho, e, .head _, h⟩
theorem pte_none {q r : Option (F' × F')} (g : GoodCv C) (hq : On (K.c C.a) (K.c C.b) q) (hr : On (K.c C.a) (K.c C.b) r) (e : Addr × Obj) (h : sumF C.p C.a (iz K q) (iz K r) = none) : PtE K e .none (sum (K.c C.a) q r) := by
  rw [sumF_eq K g.prime g.p2 hq hr] at h
  cases e' : sum (K.c C.a) q r with
  | none => rfl
  | some z => rw [e'] at h; cases h
theorem pte_some {q r : Option (F' × F')} (g : GoodCv C) (hq : On (K.c C.a) (K.c C.b) q) (hr : On (K.c C.a) (K.c C.b) r) {D : Addr} {X Y : Int} {t t' : Tok} {n : Nat} (h : sumF C.p C.a (iz K q) (iz K r) = some (X, Y)) :
    PtE K (D, tupN [.int X t, .int Y t'] n) (.ref D) (sum (K.c C.a) q r) := by
  rw [sumF_eq K g.prime g.p2 hq hr] at h
  cases e' : sum (K.c C.a) q r with
  | none => rw [e'] at h; cases h
  | some z =>
    rw [e'] at h
    have h1 := Option.some.inj h
    have hx : K.v z.1 = X := congrArg Prod.fst h1
    have hy : K.v z.2 = Y := congrArg Prod.snd h1
    exact ⟨D, t, t', n, rfl, by rw [hx, hy]⟩
theorem times_turn (g : GoodCv C) {qt qp : Option (F' × F')} (ht : On (K.c C.a) (K.c C.b) qt) (hp : On (K.c C.a) (K.c C.b) qp) {n : Int} (h0 : 0 < n) :
    sum (K.c C.a) (if n.fmod 2 = 1 then sum (K.c C.a) qt qp else qt) (smul (K.c C.a) (sum (K.c C.a) qp qp) (n.fdiv 2).toNat) = sum (K.c C.a) qt (smul (K.c C.a) qp n.toNat) := by
  have f2 : n.fdiv 2 = n / 2 := Int.fdiv_eq_ediv_of_nonneg _ (by decide)
  have m2 : n.fmod 2 = n % 2 := Int.fmod_eq_emod_of_nonneg _ (by decide)
  have h2 := g.two K
  have hN := g.no F' K
  have e2 : sum (K.c C.a) qp qp = smul (K.c C.a) qp 2 := by show _ = sum _ (sum _ none qp) qp; rw [sum_none_left]
  rw [e2, smul_smul h2 hN hp]
  by_cases q : n.fmod 2 = 1
  · rw [if_pos q, sum_assoc h2 hN ht hp (smul_on h2 hp _)]
    congr 1
    rw [sum_comm h2 hp (smul_on h2 hp _)]
    show smul _ _ (2 * (n.fdiv 2).toNat + 1) = _
    congr 1
    omega
  · rw [if_neg q]
    congr 2
    omega
theorem scaled_rep {q : Option (F' × F')} {x y sc : Int} (g : GoodCv C) (R : PF C K q x y) (h1 : 0 < sc) (h2 : sc < C.p) : PR C K q ((x * sc * sc).fmod C.p) ((y * sc * sc * sc).fmod C.p) sc := by
  obtain ⟨ho, e⟩ := R
  have hp := g.p2
  have hp0 : 0 < C.p := by omega
  refine ⟨ho, ⟨fmod_lo hp0 _, fmod_hi hp0 _⟩, ⟨fmod_lo hp0 _, fmod_hi hp0 _⟩, ⟨by show (0:Int) ≤ sc; omega, h2⟩, ?_⟩
  cases q with
  | none =>
    have e1 : x = 0 := congrArg Prod.fst e
    have e2 : y = 0 := congrArg Prod.snd e
    subst e1; subst e2
    constructor <;> simp
  | some q =>
    have e1 : x = K.v q.1 := congrArg Prod.fst e
    have e2 : y = K.v q.2 := congrArg Prod.snd e
    subst e1; subst e2
    refine ⟨?_, ?_, ?_⟩
    · show K.c sc ≠ 0
      intro z
      have := (K.z_iff (by omega) h2).mp z
      omega
    · show K.c ((K.v q.1 * sc * sc).fmod C.p) = q.1 * K.c sc ^ 2
      rw [K.fmod hp0, K.mul, K.mul, K.cv]; grind
    · show K.c ((K.v q.2 * sc * sc * sc).fmod C.p) = q.2 * K.c sc ^ 3
      rw [K.fmod hp0, K.mul, K.mul, K.mul, K.cv]; grind
theorem v_bits (g : GoodCv C) (x : F') : intBits (K.v x) ≤ 256 := bits_of_lt (K.v0 x) (by have := K.vp x; have := g.pi; omega)
theorem bits_powF {b e m : Int} (hm : 0 < m) (hb : intBits m ≤ 256) : intBits (powF b e m) ≤ 256 := by
  unfold powF
  have := bits_fmodP (x := b ^ e.toNat) hm hb
  rwa [Int.fmod_eq_emod_of_nonneg _ (by omega)] at this
end
section
variable {prog : Program} {w : World} {A : Around} {E : Value → Shared → Prop} {s : Shared} {h₀ : Heap} {L : Addr} {m : Str → Option Value} {news : List (Addr × Obj)} {C : Cv} {Q : Value → Shared → Prop}
theorem curve_item {value slice : PySem.Expr} {ca : Addr} {k : Int} {u : Tok} {j : Nat} (sel : Cv → Nat) (F : Fr h₀ L s.heap m) (X : (hd.heap_39 w.params).In h₀) (N : News h₀ L s.heap news) (hc : CurveAt news ca C)
    (hlo : -(2 ^ 63) ≤ k) (hhi : k < 2 ^ 63) (hj : seqIndex? k 6 = some j)
    (hx : ∀ t1 t2 t3 t4 t5 t6 : Tok, ∃ t, [Value.int C.p t1, .int C.n t2, .int C.a t3, .int C.b t4, .int C.x t5, .int C.y t6][j]? = some (.int (sel C) t))
    (h : ∀ t, Q (.int (sel C) t) s)
    (hs : subscripted slice false (.ref ca) (.int k u) = operate [.ref ca, .int k u] (getItem (.ref ca) (.int k u)) := by with_unfolding_all rfl) :
    wpAny (model prog w) A (subscriptTail value slice (.ref ca) (.int k u)) Q E s := by
  obtain ⟨t1, t2, t3, t4, t5, t6, hT⟩ := CurveAt.tup F X N hc
  obtain ⟨t, ht⟩ := hx t1 t2 t3 t4 t5 t6
  exact item_tupleT hT hlo hhi hj ht (h t) hs
theorem two_pts {F' : Type} [Field F'] {K : Over F' C.p} {h : Heap} {big : List (Addr × Obj)} {vt vp : Value} {qt qp : Option (F' × F')} (N : News h₀ L h big) (hs : ∀ q ∈ news, q ∈ big) (P1 : PtAt C K big vt qt) (P2 : PtAt C K big vp qp) :
    ∃ e1 e2, News h₀ L h (e1 :: e2 :: news) ∧ PtAt C K (e1 :: e2 :: news) vt qt ∧ PtAt C K (e1 :: e2 :: news) vp qp := by
  obtain ⟨o1, e1, h1, p1⟩ := P1
  obtain ⟨o2, e2, h2, p2⟩ := P2
  refine ⟨e1, e2, fun x hx => N x ?_, ⟨o1, e1, .head _, p1⟩, ⟨o2, e2, .tail _ (.head _), p2⟩⟩
  rcases List.mem_cons.mp hx with rfl | hx
  · exact h1
  · rcases List.mem_cons.mp hx with rfl | hx
    · exact h2
    · exact hs _ hx
theorem one_pt {F' : Type} [Field F'] {K : Over F' C.p} {h : Heap} {big : List (Addr × Obj)} {vt : Value} {qt : Option (F' × F')} (N : News h₀ L h big) (hs : ∀ q ∈ news, q ∈ big) (P1 : PtAt C K big vt qt) :
    ∃ e1, News h₀ L h (e1 :: news) ∧ PtAt C K (e1 :: news) vt qt := by
  obtain ⟨o1, e1, h1, p1⟩ := P1
  refine ⟨e1, fun x hx => N x ?_, ⟨o1, e1, .head _, p1⟩⟩
  rcases List.mem_cons.mp hx with rfl | hx
  · exact h1
  · exact hs _ hx
theorem isTup_of {a : Addr} {vs : List Value} {n : Nat} (N : News h₀ L s.heap news) (h : (a, tupN vs n) ∈ news) : IsTup s.heap a vs.toArray := N.isTup h
end

end
local macro_rules | `(tactic| k_mem) => `(tactic| (first | assumption | (refine List.mem_cons_of_mem _ ?_; first | assumption | (refine List.mem_cons_of_mem _ ?_; first | assumption | (refine List.mem_cons_of_mem _ ?_; first | assumption | (refine List.mem_cons_of_mem _ ?_; first | assumption | (refine List.mem_cons_of_mem _ ?_; first | assumption | (refine List.mem_cons_of_mem _ ?_; first | assumption | (refine List.mem_cons_of_mem _ ?_; first | assumption | (refine List.mem_cons_of_mem _ ?_; first | assumption | (refine List.mem_cons_of_mem _ ?_; first | assumption | (refine List.mem_cons_of_mem _ ?_; first | assumption | (refine List.mem_cons_of_mem _ ?_; first | assumption | (refine List.mem_cons_of_mem _ ?_; first | assumption | (refine List.mem_cons_of_mem _ ?_; first | assumption | (refine List.mem_cons_of_mem _ ?_; first | assumption | (refine List.mem_cons_of_mem _ ?_; first | assumption | (refine List.mem_cons_of_mem _ ?_; first | assumption | (refine List.mem_cons_of_mem _ ?_; first | assumption | (refine List.mem_cons_of_mem _ ?_; first | assumption | (refine List.mem_cons_of_mem _ ?_; first | assumption | (refine List.mem_cons_of_mem _ ?_; first | assumption | (refine List.mem_cons_of_mem _ ?_; first | assumption | (refine List.mem_cons_of_mem _ ?_; first | assumption | (refine List.mem_cons_of_mem _ ?_; first | assumption | (refine List.mem_cons_of_mem _ ?_; first | assumption | (refine List.mem_cons_of_mem _ ?_; first | assumption | (refine List.mem_cons_of_mem _ ?_; first | assumption | (refine List.mem_cons_of_mem _ ?_; first | assumption | (refine List.mem_cons_of_mem _ ?_; first | assumption))))))))))))))))))))))))))))))
section
open PySem PySem.W PyProof.Rows PySem.Calls PySem.Spec
set_option Elab.async false
set_option maxRecDepth 100000
set_option maxHeartbeats 4000000
set_option linter.unusedVariables false
theorem fillC : (hd.heap_39 = hd.heap_39) ∧ PySem.Challenge.rw_iv0041_01 = PySem.Challenge.rw_iv0041_01 := by
  k_fill
  exact ⟨rfl, rfl⟩

section
variable {prog : Program} {w : World} {p : Program} {loose : List Str} {mean : ExcName → Option Value} {mg mb : Str → Option Value}
  {dp un : Nat} {gd : Option (List Code)} {cn : Str} {cs : Scope} {a : Addr} {ccd : Value} {cl : List (Str × Addr)} {outer : List Env} {A₀ : Around} {base h₀ : Heap} {L : Addr} {m : Str → Option Value} {news : List (Addr × Obj)} {s : Shared}
  {Q E : Value → Shared → Prop}
open Builtin.Int
open Lean.Grind
variable {F' : Type} [iF : Field F'] {C : Cv} {K : Over F' C.p}

local macro_rules | `(tactic| walk_at "call ref") => `(tactic| (k_here; k_dflt (refine' double_sem (K := K) ?ivB ?ivF ?ivX ?ivN ?ivT ?ivK ?ivd ?ivu ?ivp ?ivR ?ivc ?ivg ?_); (case ivB => k_asm); (case ivF => k_asm); (case ivX => k_asm); (case ivN => k_asm); (case ivT => k_asm); (case ivK => rfl); (case ivd => ktr_room); (case ivu => ktr_units); (case ivp => k_mem); (case ivR => assumption); (case ivc => first | assumption | exact CurveAt.cons (by assumption) | exact CurveAt.cons (CurveAt.cons (by assumption)) | exact CurveAt.cons (CurveAt.cons (CurveAt.cons (by assumption))) | exact CurveAt.cons (CurveAt.cons (CurveAt.cons (CurveAt.cons (by assumption))))); (case ivg => assumption); intro D' h' tk' t1' t2' t3' x' y' z' n' e' F' N'))
local macro_rules | `(tactic| walk_at "call ref") => `(tactic| (k_here; k_dflt (refine' add_sem (K := K) ?ivB ?ivF ?ivX ?ivN ?ivT ?ivK ?ivd ?ivu ?ivp ?ivq ?ivR ?ivS ?ivc ?ivg ?_); (case ivB => k_asm); (case ivF => k_asm); (case ivX => k_asm); (case ivN => k_asm); (case ivT => k_asm); (case ivK => rfl); (case ivd => ktr_room); (case ivu => ktr_units); (case ivp => k_mem); (case ivq => k_mem); (case ivR => assumption); (case ivS => assumption); (case ivc => first | assumption | exact CurveAt.cons (by assumption) | exact CurveAt.cons (CurveAt.cons (by assumption)) | exact CurveAt.cons (CurveAt.cons (CurveAt.cons (by assumption))) | exact CurveAt.cons (CurveAt.cons (CurveAt.cons (CurveAt.cons (by assumption))))); (case ivg => assumption); intro D' h' tk' t1' t2' t3' x' y' z' n' e' F' N'))
local macro_rules | `(tactic| walk_at "call ref") => `(tactic| (k_here; k_dflt (refine' from_sem (K := K) ?ivB ?ivF ?ivX ?ivN ?ivT ?ivK ?ivd ?ivu ?ivp ?ivR ?ivc ?ivg ?_); (case ivB => k_asm); (case ivF => k_asm); (case ivX => k_asm); (case ivN => k_asm); (case ivT => k_asm); (case ivK => rfl); (case ivd => ktr_room); (case ivu => ktr_units); (case ivp => k_mem); (case ivR => assumption); (case ivc => first | assumption | exact CurveAt.cons (by assumption) | exact CurveAt.cons (CurveAt.cons (by assumption)) | exact CurveAt.cons (CurveAt.cons (CurveAt.cons (by assumption))) | exact CurveAt.cons (CurveAt.cons (CurveAt.cons (CurveAt.cons (by assumption))))); (case ivg => assumption); intro D' h' tk' t1' t2' x' y' n' e' F' N'))
local macro_rules | `(tactic| walk_at "call ref") => `(tactic| (k_here; k_dflt (refine' to_sem (K := K) ?ivB ?ivF ?ivX ?ivN ?ivT ?ivK ?ivd ?ivu ?ivp ?ivR ?ivg ?_); (case ivB => k_asm); (case ivF => k_asm); (case ivX => k_asm); (case ivN => k_asm); (case ivT => k_asm); (case ivK => rfl); (case ivd => ktr_room); (case ivu => ktr_units); (case ivp => k_mem); (case ivR => assumption); (case ivg => assumption); intro D' h' tk' t1' t2' t3' n' e' F' N'))

theorem fmod_eq' {x y : Int} (h : 0 ≤ y) : x.fmod y = x % y := Int.fmod_eq_emod_of_nonneg _ h
/-- a multiple by doubling, from the top: 0 ≤ n < 2 ^ k -/
noncomputable def JmulTells (prog : Program) (w : World) (p : Program) (loose : List Str) (mean : ExcName → Option Value) (mg mb : Str → Option Value) (C : Cv) {F' : Type} [Field F'] (K : Over F' C.p) (q : Option (F' × F')) (k : Nat) : Prop :=
  ∀ (dp un : Nat) (gd : Option (List Code)) (cn : Str) (cs : Scope) (a : Addr) (ccd : Value) (cl : List (Str × Addr)) (outer : List Env) (A₀ : Around) (base h₀ : Heap) (L : Addr) (m : Str → Option Value) (news : List (Addr × Obj)) (s : Shared) (Q E : Value → Shared → Prop)
    (ca pa : Addr) (x y z n : Int) (tx ty tz tn : Tok) (n1 : Nat),
  Below A₀ base outer h₀ → Fr h₀ L s.heap m → (hd.heap_39 w.params).In h₀ → News h₀ L s.heap news → Top p loose mean mg mb h₀ → cs.kind = .function →
  dp + k + 3 < recursionLimit → un + 8 * k + 24 < cLine →
  (pa, tupN [Value.int x tx, .int y ty, .int z tz] n1) ∈ news → PR C K q x y z → CurveAt news ca C → 0 ≤ n → n < 2 ^ k → n < C.n →
  (∀ D h' tk' t t' t'' x' y' z' n', PR C K (smul (K.c C.a) q n.toNat) x' y' z' → Fr h₀ L h' m → News h₀ L h' ((D, tupN [.int x' t, .int y' t', .int z' t''] n') :: news) → Q (.ref D) { s with heap := h', toks := tk' }) →
  wpAny (model prog w) (ktrTop dp un gd cn cs L a ccd cl outer) (call (.ref 57) [.ref pa, .int n tn, .ref ca]) Q E s
theorem JmulTells.use {q : Option (F' × F')} {k : Nat} (H : JmulTells prog w p loose mean mg mb C K q k) (B : Below A₀ base outer h₀) (F : Fr h₀ L s.heap m) (X : (hd.heap_39 w.params).In h₀) (N : News h₀ L s.heap news) (T : Top p loose mean mg mb h₀) (hk : cs.kind = .function)
  (hd : dp + k + 3 < recursionLimit) (hu : un + 8 * k + 24 < cLine)
  {ca pa : Addr} {x y z n : Int} {tx ty tz tn : Tok} {n1 : Nat} (hp : (pa, tupN [Value.int x tx, .int y ty, .int z tz] n1) ∈ news)
  (R : PR C K q x y z) (hc : CurveAt news ca C) (h0 : 0 ≤ n) (h1 : n < 2 ^ k) (h2 : n < C.n)
  (ret : ∀ D h' tk' t t' t'' x' y' z' n', PR C K (smul (K.c C.a) q n.toNat) x' y' z' → Fr h₀ L h' m → News h₀ L h' ((D, tupN [.int x' t, .int y' t', .int z' t''] n') :: news) → Q (.ref D) { s with heap := h', toks := tk' }) :
  wpAny (model prog w) (ktrTop dp un gd cn cs L a ccd cl outer) (call (.ref 57) [.ref pa, .int n tn, .ref ca]) Q E s :=
  H _ _ _ _ _ _ _ _ _ _ _ _ _ _ _ _ _ _ _ _ _ _ _ _ _ _ _ _ _ B F X N T hk hd hu hp R hc h0 h1 h2 ret
local macro_rules | `(tactic| walk_at "call ref") => `(tactic| (k_here; (rename JmulTells _ _ _ _ _ _ _ _ _ _ _ => IH); k_dflt (refine' JmulTells.use IH ?ivB ?ivF ?ivX ?ivN ?ivT ?ivK ?ivd ?ivu ?ivp ?ivR ?ivc ?ivh0 ?ivh1 ?ivh2 ?_); (case ivB => k_asm); (case ivF => k_asm); (case ivX => k_asm); (case ivN => k_asm); (case ivT => k_asm); (case ivK => rfl); (case ivd => ktr_room); (case ivu => ktr_units); (case ivp => k_mem); (case ivR => assumption); (case ivc => assumption); (case ivh0 => omega); (case ivh1 => omega); (case ivh2 => omega); intro D' h' tk' t1' t2' t3' x' y' z' n' e' F' N'))
theorem jmul_step {q : Option (F' × F')} (g : GoodCv C) {k : Nat} (IH : JmulTells prog w p loose mean mg mb C K q k) : JmulTells prog w p loose mean mg mb C K q (k + 1) := by
  unfold JmulTells
  intro dp un gd cn cs a ccd cl outer A₀ base h₀ L m news s Q E ca pa x y z n tx ty tz tn n1 B F X N T hk hd hu hp R hc h0 h1 h2 ret
  have hy := R.y g
  have bP := g.bitsP
  have bN := g.bitsN
  have hP := g.pos
  have hN := g.n1
  obtain ⟨b1, b2, b3⟩ := R.bits g
  have f2 : n.fdiv 2 = n / 2 := Int.fdiv_eq_ediv_of_nonneg _ (by decide)
  have m2 : n.fmod 2 = n % 2 := Int.fmod_eq_emod_of_nonneg _ (by decide)
  have p2 : (2 : Int) ^ (k + 1) = 2 * 2 ^ k := by rw [Int.pow_succ, Int.mul_comm]
  refine wpAny_call ?_
  k_dflt ktr_enter
  obtain ⟨t1, t2, t3, t4, t5, t6, hT⟩ := CurveAt.tup (by k_asm) (by k_asm) (by k_asm) hc
  k_steps
  · refine ret _ _ _ _ _ _ _ _ _ _ ?_ (by k_asm) (by k_asm)
    rw [hy.mp (by assumption), smul_none]
    exact zeroPR g
  · refine ret _ _ _ _ _ _ _ _ _ _ ?_ (by k_asm) (by k_asm)
    subst_vars
    exact zeroPR g
  · refine ret _ _ _ _ _ _ _ _ _ _ ?_ (by k_asm) (news_dup (by k_asm) hp)
    subst_vars
    show PR C K (smul (K.c C.a) q 1) _ _ _
    rw [smul_one]
    exact R
  · refine ret _ _ _ _ _ _ _ _ _ _ ?_ (by k_asm) (news_sub (news' := _ :: _ :: news) (by k_asm) fun q hq => by
      rcases List.mem_cons.mp hq with e | hq
      · exact e ▸ .head _
      · exact .tail _ (.tail _ hq))
    rw [smul_even g R.1 h0 (by assumption)]
    assumption
  · refine ret _ _ _ _ _ _ _ _ _ _ ?_ (by k_asm) (news_sub (news' := _ :: _ :: _ :: news) (by k_asm) fun q hq => by
      rcases List.mem_cons.mp hq with e | hq
      · exact e ▸ .head _
      · exact .tail _ (.tail _ (.tail _ hq)))
    rw [smul_odd g R.1 h0 (by assumption)]
    assumption
  · exfalso; omega
theorem jmul_zero {q : Option (F' × F')} (g : GoodCv C) : JmulTells prog w p loose mean mg mb C K q 0 := by
  unfold JmulTells
  intro dp un gd cn cs a ccd cl outer A₀ base h₀ L m news s Q E ca pa x y z n tx ty tz tn n1 B F X N T hk hd hu hp R hc h0 h1 h2 ret
  have h1' : n < 1 := by simpa using h1
  have e : n = 0 := by omega
  subst e
  have hy := R.y g
  have hP := g.pos
  refine wpAny_call ?_
  k_dflt ktr_enter
  obtain ⟨t1, t2, t3, t4, t5, t6, hT⟩ := CurveAt.tup (by k_asm) (by k_asm) (by k_asm) hc
  k_steps
  all_goals exact ret _ _ _ _ _ _ _ _ _ _ (zeroPR g) (by k_asm) (by k_asm)
theorem jmul_all {q : Option (F' × F')} (g : GoodCv C) (k : Nat) : JmulTells prog w p loose mean mg mb C K q k := by
  induction k with
  | zero => exact jmul_zero g
  | succ k ih => exact jmul_step g ih
/-- any count: it goes by the number of points -/
theorem jmul_sem (B : Below A₀ base outer h₀) (F : Fr h₀ L s.heap m) (X : (hd.heap_39 w.params).In h₀) (N : News h₀ L s.heap news) (T : Top p loose mean mg mb h₀) (hk : cs.kind = .function)
  (hd : dp + 24 < recursionLimit) (hu : un + 192 < cLine)
  {ca pa : Addr} {x y z n : Int} {tx ty tz tn : Tok} {n1 : Nat} {q : Option (F' × F')} (hp : (pa, tupN [Value.int x tx, .int y ty, .int z tz] n1) ∈ news)
  (R : PR C K q x y z) (hc : CurveAt news ca C) (g : GoodCv C) (hn : n.fmod C.n < 2 ^ 17)
  (ret : ∀ D h' tk' t t' t'' x' y' z' n', PR C K (smul (K.c C.a) q (n.fmod C.n).toNat) x' y' z' → Fr h₀ L h' m → News h₀ L h' ((D, tupN [.int x' t, .int y' t', .int z' t''] n') :: news) → Q (.ref D) { s with heap := h', toks := tk' }) :
  wpAny (model prog w) (ktrTop dp un gd cn cs L a ccd cl outer) (call (.ref 57) [.ref pa, .int n tn, .ref ca]) Q E s := by
  have hN := g.n1
  have IH := jmul_all (prog := prog) (w := w) (p := p) (loose := loose) (mean := mean) (mg := mg) (mb := mb) (K := K) (q := q) g 17
  have em : n.fmod C.n = n % C.n := Int.fmod_eq_emod_of_nonneg _ (by omega)
  have r0 := Int.emod_nonneg n (b := (C.n : Int)) (by omega)
  have r1 := Int.emod_lt_of_pos n (b := (C.n : Int)) (by omega)
  by_cases h : 0 ≤ n ∧ n < C.n
  · have e : n.fmod C.n = n := by rw [em, Int.emod_eq_of_lt h.1 h.2]
    rw [e] at ret hn
    exact IH.use B F X N T hk (by omega) (by omega) hp R hc h.1 hn h.2 ret
  have hy := R.y g
  have hP := g.pos
  have bN := g.bitsN
  have hNi : 0 < (C.n : Int) := by omega
  have hlt : n.fmod C.n < C.n := by omega
  have hge : 0 ≤ n.fmod C.n := by omega
  refine wpAny_call ?_
  k_dflt ktr_enter
  obtain ⟨t1, t2, t3, t4, t5, t6, hT⟩ := CurveAt.tup (by k_asm) (by k_asm) (by k_asm) hc
  k_steps
  · refine ret _ _ _ _ _ _ _ _ _ _ ?_ (by k_asm) (by k_asm)
    rw [hy.mp (by assumption), smul_none]
    exact zeroPR g
  · exfalso; omega
  · exfalso; omega
  · exact ret _ _ _ _ _ _ _ _ _ _ (by assumption) (by k_asm) (by k_asm)
  · exact ret _ _ _ _ _ _ _ _ _ _ (by assumption) (by k_asm) (by k_asm)
local macro_rules | `(tactic| walk_at "call ref") => `(tactic| (k_here; k_dflt (refine' jmul_sem (K := K) ?ivB ?ivF ?ivX ?ivN ?ivT ?ivK ?ivd ?ivu ?ivp ?ivR ?ivc ?ivg ?ivn ?_); (case ivB => k_asm); (case ivF => k_asm); (case ivX => k_asm); (case ivN => k_asm); (case ivT => k_asm); (case ivK => rfl); (case ivd => ktr_room); (case ivu => ktr_units); (case ivp => k_mem); (case ivR => assumption); (case ivc => first | assumption | exact CurveAt.cons (by assumption) | exact CurveAt.cons (CurveAt.cons (by assumption)) | exact CurveAt.cons (CurveAt.cons (CurveAt.cons (by assumption))) | exact CurveAt.cons (CurveAt.cons (CurveAt.cons (CurveAt.cons (by assumption))))); (case ivg => assumption); (case ivn => assumption); intro D' h' tk' t1' t2' t3' x' y' z' n' e' F' N'))
theorem multiply_sem (B : Below A₀ base outer h₀) (F : Fr h₀ L s.heap m) (X : (hd.heap_39 w.params).In h₀) (N : News h₀ L s.heap news) (T : Top p loose mean mg mb h₀) (hk : cs.kind = .function)
  (hd : dp + 25 < recursionLimit) (hu : un + 200 < cLine)
  {ca pa : Addr} {x y n : Int} {tx ty tn : Tok} {n1 : Nat} {q : Option (F' × F')} (hp : (pa, tupN [Value.int x tx, .int y ty] n1) ∈ news)
  (R : PF C K q x y) (hc : CurveAt news ca C) (g : GoodCv C) (hn : n.fmod C.n < 2 ^ 17)
  (ret : ∀ D h' tk' t t' x' y' n', PF C K (smul (K.c C.a) q (n.fmod C.n).toNat) x' y' → Fr h₀ L h' m → News h₀ L h' ((D, tupN [.int x' t, .int y' t'] n') :: news) → Q (.ref D) { s with heap := h', toks := tk' }) :
  wpAny (model prog w) (ktrTop dp un gd cn cs L a ccd cl outer) (call (.ref 64) [.ref pa, .int n tn, .ref ca]) Q E s := by
  refine wpAny_call ?_
  k_dflt ktr_enter
  obtain ⟨t1, t2, t3, t4, t5, t6, hT⟩ := CurveAt.tup (by k_asm) (by k_asm) (by k_asm) hc
  k_steps
  all_goals exact ret _ _ _ _ _ _ _ _ (by assumption) (by k_asm) (news_t3 (by k_asm))
theorem plus_sem (B : Below A₀ base outer h₀) (F : Fr h₀ L s.heap m) (X : (hd.heap_39 w.params).In h₀) (N : News h₀ L s.heap news) (T : Top p loose mean mg mb h₀) (hk : cs.kind = .function)
  (hd : dp + 25 < recursionLimit) (hu : un + 200 < cLine)
  {ca pa : Addr} {x y : Int} {tx ty : Tok} {n1 : Nat} {q : Option (F' × F')} (hp : (pa, tupN [Value.int x tx, .int y ty] n1) ∈ news)
  {qa : Addr} {u v : Int} {tu tv : Tok} {n2 : Nat} {r : Option (F' × F')} (hq : (qa, tupN [Value.int u tu, .int v tv] n2) ∈ news)
  (R : PF C K q x y) (R' : PF C K r u v) (hc : CurveAt news ca C) (g : GoodCv C)
  (ret : ∀ D h' tk' t t' x' y' n', PF C K (sum (K.c C.a) q r) x' y' → Fr h₀ L h' m → News h₀ L h' ((D, tupN [.int x' t, .int y' t'] n') :: news) → Q (.ref D) { s with heap := h', toks := tk' }) :
  wpAny (model prog w) (ktrTop dp un gd cn cs L a ccd cl outer) (call (.ref 71) [.ref pa, .ref qa, .ref ca]) Q E s := by
  refine wpAny_call ?_
  k_dflt ktr_enter
  obtain ⟨t1, t2, t3, t4, t5, t6, hT⟩ := CurveAt.tup (by k_asm) (by k_asm) (by k_asm) hc
  k_steps
  all_goals exact ret _ _ _ _ _ _ _ _ (by assumption) (by k_asm) (news_t4 (by k_asm))
end

end
local macro_rules | `(tactic| bits_by_make) => `(tactic| first
  | (with_reducible exact v_bits (by assumption) _)
  | (with_reducible exact bits_powF (by assumption) (by assumption))
  | (with_reducible exact bits_fmodP (by assumption) (by assumption))
  | with_reducible assumption)
local macro_rules | `(tactic| ktr_rel) => `(tactic| (first | assumption | exact CurveAt.cons (by assumption) | exact CurveAt.cons (CurveAt.cons (by assumption)) | exact CurveAt.cons (CurveAt.cons (CurveAt.cons (by assumption))) | exact CurveAt.cons (CurveAt.cons (CurveAt.cons (CurveAt.cons (by assumption)))) | exact CurveAt.cons (CurveAt.cons (CurveAt.cons (CurveAt.cons (CurveAt.cons (by assumption))))) | exact CurveAt.cons (CurveAt.cons (CurveAt.cons (CurveAt.cons (CurveAt.cons (CurveAt.cons (by assumption)))))) | exact CurveAt.cons (CurveAt.cons (CurveAt.cons (CurveAt.cons (CurveAt.cons (CurveAt.cons (CurveAt.cons (by assumption))))))) | exact CurveAt.cons (CurveAt.cons (CurveAt.cons (CurveAt.cons (CurveAt.cons (CurveAt.cons (CurveAt.cons (CurveAt.cons (by assumption)))))))) | exact CurveAt.cons (CurveAt.cons (CurveAt.cons (CurveAt.cons (CurveAt.cons (CurveAt.cons (CurveAt.cons (CurveAt.cons (CurveAt.cons (by assumption))))))))) | exact CurveAt.cons (CurveAt.cons (CurveAt.cons (CurveAt.cons (CurveAt.cons (CurveAt.cons (CurveAt.cons (CurveAt.cons (CurveAt.cons (CurveAt.cons (by assumption)))))))))) | exact CurveAt.cons (CurveAt.cons (CurveAt.cons (CurveAt.cons (CurveAt.cons (CurveAt.cons (CurveAt.cons (CurveAt.cons (CurveAt.cons (CurveAt.cons (CurveAt.cons (by assumption))))))))))) | exact CurveAt.cons (CurveAt.cons (CurveAt.cons (CurveAt.cons (CurveAt.cons (CurveAt.cons (CurveAt.cons (CurveAt.cons (CurveAt.cons (CurveAt.cons (CurveAt.cons (CurveAt.cons (by assumption)))))))))))) | exact CurveAt.cons (CurveAt.cons (CurveAt.cons (CurveAt.cons (CurveAt.cons (CurveAt.cons (CurveAt.cons (CurveAt.cons (CurveAt.cons (CurveAt.cons (CurveAt.cons (CurveAt.cons (CurveAt.cons (by assumption))))))))))))) | exact CurveAt.cons (CurveAt.cons (CurveAt.cons (CurveAt.cons (CurveAt.cons (CurveAt.cons (CurveAt.cons (CurveAt.cons (CurveAt.cons (CurveAt.cons (CurveAt.cons (CurveAt.cons (CurveAt.cons (CurveAt.cons (by assumption)))))))))))))) | exact CurveAt.cons (CurveAt.cons (CurveAt.cons (CurveAt.cons (CurveAt.cons (CurveAt.cons (CurveAt.cons (CurveAt.cons (CurveAt.cons (CurveAt.cons (CurveAt.cons (CurveAt.cons (CurveAt.cons (CurveAt.cons (CurveAt.cons (by assumption))))))))))))))) | exact CurveAt.cons (CurveAt.cons (CurveAt.cons (CurveAt.cons (CurveAt.cons (CurveAt.cons (CurveAt.cons (CurveAt.cons (CurveAt.cons (CurveAt.cons (CurveAt.cons (CurveAt.cons (CurveAt.cons (CurveAt.cons (CurveAt.cons (CurveAt.cons (by assumption)))))))))))))))) | exact CurveAt.cons (CurveAt.cons (CurveAt.cons (CurveAt.cons (CurveAt.cons (CurveAt.cons (CurveAt.cons (CurveAt.cons (CurveAt.cons (CurveAt.cons (CurveAt.cons (CurveAt.cons (CurveAt.cons (CurveAt.cons (CurveAt.cons (CurveAt.cons (CurveAt.cons (by assumption))))))))))))))))) | exact CurveAt.cons (CurveAt.cons (CurveAt.cons (CurveAt.cons (CurveAt.cons (CurveAt.cons (CurveAt.cons (CurveAt.cons (CurveAt.cons (CurveAt.cons (CurveAt.cons (CurveAt.cons (CurveAt.cons (CurveAt.cons (CurveAt.cons (CurveAt.cons (CurveAt.cons (CurveAt.cons (by assumption)))))))))))))))))) | exact CurveAt.cons (CurveAt.cons (CurveAt.cons (CurveAt.cons (CurveAt.cons (CurveAt.cons (CurveAt.cons (CurveAt.cons (CurveAt.cons (CurveAt.cons (CurveAt.cons (CurveAt.cons (CurveAt.cons (CurveAt.cons (CurveAt.cons (CurveAt.cons (CurveAt.cons (CurveAt.cons (CurveAt.cons (by assumption))))))))))))))))))) | exact CurveAt.cons (CurveAt.cons (CurveAt.cons (CurveAt.cons (CurveAt.cons (CurveAt.cons (CurveAt.cons (CurveAt.cons (CurveAt.cons (CurveAt.cons (CurveAt.cons (CurveAt.cons (CurveAt.cons (CurveAt.cons (CurveAt.cons (CurveAt.cons (CurveAt.cons (CurveAt.cons (CurveAt.cons (CurveAt.cons (by assumption)))))))))))))))))))) | exact CurveAt.cons (CurveAt.cons (CurveAt.cons (CurveAt.cons (CurveAt.cons (CurveAt.cons (CurveAt.cons (CurveAt.cons (CurveAt.cons (CurveAt.cons (CurveAt.cons (CurveAt.cons (CurveAt.cons (CurveAt.cons (CurveAt.cons (CurveAt.cons (CurveAt.cons (CurveAt.cons (CurveAt.cons (CurveAt.cons (CurveAt.cons (by assumption))))))))))))))))))))) | exact CurveAt.cons (CurveAt.cons (CurveAt.cons (CurveAt.cons (CurveAt.cons (CurveAt.cons (CurveAt.cons (CurveAt.cons (CurveAt.cons (CurveAt.cons (CurveAt.cons (CurveAt.cons (CurveAt.cons (CurveAt.cons (CurveAt.cons (CurveAt.cons (CurveAt.cons (CurveAt.cons (CurveAt.cons (CurveAt.cons (CurveAt.cons (CurveAt.cons (by assumption)))))))))))))))))))))) | exact CurveAt.cons (CurveAt.cons (CurveAt.cons (CurveAt.cons (CurveAt.cons (CurveAt.cons (CurveAt.cons (CurveAt.cons (CurveAt.cons (CurveAt.cons (CurveAt.cons (CurveAt.cons (CurveAt.cons (CurveAt.cons (CurveAt.cons (CurveAt.cons (CurveAt.cons (CurveAt.cons (CurveAt.cons (CurveAt.cons (CurveAt.cons (CurveAt.cons (CurveAt.cons (by assumption))))))))))))))))))))))) | exact CurveAt.cons (CurveAt.cons (CurveAt.cons (CurveAt.cons (CurveAt.cons (CurveAt.cons (CurveAt.cons (CurveAt.cons (CurveAt.cons (CurveAt.cons (CurveAt.cons (CurveAt.cons (CurveAt.cons (CurveAt.cons (CurveAt.cons (CurveAt.cons (CurveAt.cons (CurveAt.cons (CurveAt.cons (CurveAt.cons (CurveAt.cons (CurveAt.cons (CurveAt.cons (CurveAt.cons (by assumption)))))))))))))))))))))))) | exact CurveAt.cons (CurveAt.cons (CurveAt.cons (CurveAt.cons (CurveAt.cons (CurveAt.cons (CurveAt.cons (CurveAt.cons (CurveAt.cons (CurveAt.cons (CurveAt.cons (CurveAt.cons (CurveAt.cons (CurveAt.cons (CurveAt.cons (CurveAt.cons (CurveAt.cons (CurveAt.cons (CurveAt.cons (CurveAt.cons (CurveAt.cons (CurveAt.cons (CurveAt.cons (CurveAt.cons (CurveAt.cons (by assumption)))))))))))))))))))))))))))
local macro_rules | `(tactic| tb_start) => `(tactic| (first | assumption | exact PtAt.cons (by assumption) | exact PtAt.cons (PtAt.cons (by assumption)) | exact PtAt.cons (PtAt.cons (PtAt.cons (by assumption))) | exact PtAt.cons (PtAt.cons (PtAt.cons (PtAt.cons (by assumption)))) | exact PtAt.cons (PtAt.cons (PtAt.cons (PtAt.cons (PtAt.cons (by assumption))))) | exact PtAt.cons (PtAt.cons (PtAt.cons (PtAt.cons (PtAt.cons (PtAt.cons (by assumption)))))) | exact PtAt.cons (PtAt.cons (PtAt.cons (PtAt.cons (PtAt.cons (PtAt.cons (PtAt.cons (by assumption))))))) | exact PtAt.cons (PtAt.cons (PtAt.cons (PtAt.cons (PtAt.cons (PtAt.cons (PtAt.cons (PtAt.cons (by assumption)))))))) | exact PtAt.cons (PtAt.cons (PtAt.cons (PtAt.cons (PtAt.cons (PtAt.cons (PtAt.cons (PtAt.cons (PtAt.cons (by assumption))))))))) | exact PtAt.cons (PtAt.cons (PtAt.cons (PtAt.cons (PtAt.cons (PtAt.cons (PtAt.cons (PtAt.cons (PtAt.cons (PtAt.cons (by assumption)))))))))) | exact PtAt.cons (PtAt.cons (PtAt.cons (PtAt.cons (PtAt.cons (PtAt.cons (PtAt.cons (PtAt.cons (PtAt.cons (PtAt.cons (PtAt.cons (by assumption))))))))))) | exact PtAt.cons (PtAt.cons (PtAt.cons (PtAt.cons (PtAt.cons (PtAt.cons (PtAt.cons (PtAt.cons (PtAt.cons (PtAt.cons (PtAt.cons (PtAt.cons (by assumption)))))))))))) | exact PtAt.cons (PtAt.cons (PtAt.cons (PtAt.cons (PtAt.cons (PtAt.cons (PtAt.cons (PtAt.cons (PtAt.cons (PtAt.cons (PtAt.cons (PtAt.cons (PtAt.cons (by assumption))))))))))))) | exact PtAt.cons (PtAt.cons (PtAt.cons (PtAt.cons (PtAt.cons (PtAt.cons (PtAt.cons (PtAt.cons (PtAt.cons (PtAt.cons (PtAt.cons (PtAt.cons (PtAt.cons (PtAt.cons (by assumption)))))))))))))) | exact PtAt.cons (PtAt.cons (PtAt.cons (PtAt.cons (PtAt.cons (PtAt.cons (PtAt.cons (PtAt.cons (PtAt.cons (PtAt.cons (PtAt.cons (PtAt.cons (PtAt.cons (PtAt.cons (PtAt.cons (by assumption))))))))))))))) | exact PtAt.cons (PtAt.cons (PtAt.cons (PtAt.cons (PtAt.cons (PtAt.cons (PtAt.cons (PtAt.cons (PtAt.cons (PtAt.cons (PtAt.cons (PtAt.cons (PtAt.cons (PtAt.cons (PtAt.cons (PtAt.cons (by assumption)))))))))))))))) | exact PtAt.cons (PtAt.cons (PtAt.cons (PtAt.cons (PtAt.cons (PtAt.cons (PtAt.cons (PtAt.cons (PtAt.cons (PtAt.cons (PtAt.cons (PtAt.cons (PtAt.cons (PtAt.cons (PtAt.cons (PtAt.cons (PtAt.cons (by assumption))))))))))))))))) | exact PtAt.cons (PtAt.cons (PtAt.cons (PtAt.cons (PtAt.cons (PtAt.cons (PtAt.cons (PtAt.cons (PtAt.cons (PtAt.cons (PtAt.cons (PtAt.cons (PtAt.cons (PtAt.cons (PtAt.cons (PtAt.cons (PtAt.cons (PtAt.cons (by assumption)))))))))))))))))) | exact PtAt.cons (PtAt.cons (PtAt.cons (PtAt.cons (PtAt.cons (PtAt.cons (PtAt.cons (PtAt.cons (PtAt.cons (PtAt.cons (PtAt.cons (PtAt.cons (PtAt.cons (PtAt.cons (PtAt.cons (PtAt.cons (PtAt.cons (PtAt.cons (PtAt.cons (by assumption))))))))))))))))))) | exact PtAt.cons (PtAt.cons (PtAt.cons (PtAt.cons (PtAt.cons (PtAt.cons (PtAt.cons (PtAt.cons (PtAt.cons (PtAt.cons (PtAt.cons (PtAt.cons (PtAt.cons (PtAt.cons (PtAt.cons (PtAt.cons (PtAt.cons (PtAt.cons (PtAt.cons (PtAt.cons (by assumption)))))))))))))))))))) | exact PtAt.cons (PtAt.cons (PtAt.cons (PtAt.cons (PtAt.cons (PtAt.cons (PtAt.cons (PtAt.cons (PtAt.cons (PtAt.cons (PtAt.cons (PtAt.cons (PtAt.cons (PtAt.cons (PtAt.cons (PtAt.cons (PtAt.cons (PtAt.cons (PtAt.cons (PtAt.cons (PtAt.cons (by assumption))))))))))))))))))))) | exact PtAt.cons (PtAt.cons (PtAt.cons (PtAt.cons (PtAt.cons (PtAt.cons (PtAt.cons (PtAt.cons (PtAt.cons (PtAt.cons (PtAt.cons (PtAt.cons (PtAt.cons (PtAt.cons (PtAt.cons (PtAt.cons (PtAt.cons (PtAt.cons (PtAt.cons (PtAt.cons (PtAt.cons (PtAt.cons (by assumption)))))))))))))))))))))) | exact PtAt.cons (PtAt.cons (PtAt.cons (PtAt.cons (PtAt.cons (PtAt.cons (PtAt.cons (PtAt.cons (PtAt.cons (PtAt.cons (PtAt.cons (PtAt.cons (PtAt.cons (PtAt.cons (PtAt.cons (PtAt.cons (PtAt.cons (PtAt.cons (PtAt.cons (PtAt.cons (PtAt.cons (PtAt.cons (PtAt.cons (by assumption))))))))))))))))))))))) | exact PtAt.cons (PtAt.cons (PtAt.cons (PtAt.cons (PtAt.cons (PtAt.cons (PtAt.cons (PtAt.cons (PtAt.cons (PtAt.cons (PtAt.cons (PtAt.cons (PtAt.cons (PtAt.cons (PtAt.cons (PtAt.cons (PtAt.cons (PtAt.cons (PtAt.cons (PtAt.cons (PtAt.cons (PtAt.cons (PtAt.cons (PtAt.cons (by assumption)))))))))))))))))))))))) | exact PtAt.cons (PtAt.cons (PtAt.cons (PtAt.cons (PtAt.cons (PtAt.cons (PtAt.cons (PtAt.cons (PtAt.cons (PtAt.cons (PtAt.cons (PtAt.cons (PtAt.cons (PtAt.cons (PtAt.cons (PtAt.cons (PtAt.cons (PtAt.cons (PtAt.cons (PtAt.cons (PtAt.cons (PtAt.cons (PtAt.cons (PtAt.cons (PtAt.cons (by assumption)))))))))))))))))))))))))))
local macro_rules | `(tactic| walk_at "call builtin:pow") => `(tactic| (k_here; (with_reducible refine pow3 ?ive ?ivm ?_); (case ive => omega); (case ivm => omega)))
local macro_rules | `(tactic| walk_at "subscriptTail") => `(tactic| (k_here; (with_reducible show wpAny _ _ (subscriptTail _ _ (Value.ref _) (Value.int _ _)) _ _ _); (refine' curve_item (j := 0) Cv.p ?ivF ?ivX ?ivN ?ivc ?ivl ?ivh ?ivj ?ivx ?_); (case ivj => rfl); (case ivF => k_asm); (case ivX => k_asm); (case ivN => k_asm); (case ivc => ktr_rel); (case ivl => decide); (case ivh => decide); (case ivx => exact fun _ _ _ _ _ _ => ⟨_, rfl⟩); intro tc'))
local macro_rules | `(tactic| walk_at "subscriptTail") => `(tactic| (k_here; (with_reducible show wpAny _ _ (subscriptTail _ _ (Value.ref _) (Value.int _ _)) _ _ _); (refine' curve_item (j := 1) Cv.n ?ivF ?ivX ?ivN ?ivc ?ivl ?ivh ?ivj ?ivx ?_); (case ivj => rfl); (case ivF => k_asm); (case ivX => k_asm); (case ivN => k_asm); (case ivc => ktr_rel); (case ivl => decide); (case ivh => decide); (case ivx => exact fun _ _ _ _ _ _ => ⟨_, rfl⟩); intro tc'))
local macro_rules | `(tactic| walk_at "subscriptTail") => `(tactic| (k_here; (with_reducible show wpAny _ _ (subscriptTail _ _ (Value.ref _) (Value.int _ _)) _ _ _); (refine' curve_item (j := 2) Cv.a ?ivF ?ivX ?ivN ?ivc ?ivl ?ivh ?ivj ?ivx ?_); (case ivj => rfl); (case ivF => k_asm); (case ivX => k_asm); (case ivN => k_asm); (case ivc => ktr_rel); (case ivl => decide); (case ivh => decide); (case ivx => exact fun _ _ _ _ _ _ => ⟨_, rfl⟩); intro tc'))
local macro_rules | `(tactic| walk_at "subscriptTail") => `(tactic| (k_here; (with_reducible show wpAny _ _ (subscriptTail _ _ (Value.ref _) (Value.int _ _)) _ _ _); (refine' curve_item (j := 4) Cv.x ?ivF ?ivX ?ivN ?ivc ?ivl ?ivh ?ivj ?ivx ?_); (case ivj => rfl); (case ivF => k_asm); (case ivX => k_asm); (case ivN => k_asm); (case ivc => ktr_rel); (case ivl => decide); (case ivh => decide); (case ivx => exact fun _ _ _ _ _ _ => ⟨_, rfl⟩); intro tc'))
local macro_rules | `(tactic| walk_at "subscriptTail") => `(tactic| (k_here; (with_reducible show wpAny _ _ (subscriptTail _ _ (Value.ref _) (Value.int _ _)) _ _ _); (refine' curve_item (j := 5) Cv.y ?ivF ?ivX ?ivN ?ivc ?ivl ?ivh ?ivj ?ivx ?_); (case ivj => rfl); (case ivF => k_asm); (case ivX => k_asm); (case ivN => k_asm); (case ivc => ktr_rel); (case ivl => decide); (case ivh => decide); (case ivx => exact fun _ _ _ _ _ _ => ⟨_, rfl⟩); intro tc'))
section


open Lean.Grind PySem PySem.W PyProof.Rows PySem.Calls PySem.Spec
set_option Elab.async false
set_option maxRecDepth 100000
set_option maxHeartbeats 4000000
set_option linter.unusedVariables false
theorem fillD : (hd.heap_39 = hd.heap_39) ∧ PySem.Challenge.rw_iv0041_01 = PySem.Challenge.rw_iv0041_01 := by
  k_fill
  exact ⟨rfl, rfl⟩

section
variable {prog : Program} {w : World} {p : Program} {loose : List Str} {mean : ExcName → Option Value} {mg mb : Str → Option Value}
  {dp un : Nat} {gd : Option (List Code)} {cn : Str} {cs : Scope} {a : Addr} {ccd : Value} {cl : List (Str × Addr)} {outer : List Env} {A₀ : Around} {base h₀ : Heap} {L : Addr} {m : Str → Option Value} {news : List (Addr × Obj)} {s : Shared}
  {Q E : Value → Shared → Prop}
open Builtin.Int
open Lean.Grind
variable {F' : Type} [iF : Field F'] {C : Cv} {K : Over F' C.p}

theorem lsum_sem (B : Below A₀ base outer h₀) (F : Fr h₀ L s.heap m) (X : (hd.heap_39 w.params).In h₀) (N : News h₀ L s.heap news) (T : Top p loose mean mg mb h₀) (hk : cs.kind = .function)
  (hd : dp + 1 < recursionLimit) (hu : un + 80 < cLine)
  {ca : Addr} {v1 v2 : Value} {q r : Option (F' × F')} (hc : CurveAt news ca C) (g : GoodCv C) (P1 : PtAt C K news v1 q) (P2 : PtAt C K news v2 r)
  (ret : ∀ v e h' tk', PtAt C K (e :: news) v (sum (K.c C.a) q r) → Fr h₀ L h' m → News h₀ L h' (e :: news) → Q v { s with heap := h', toks := tk' }) :
  wpAny (model prog w) (ktrTop dp un gd cn cs L a ccd cl outer) (call (.ref 99) [.ref ca, v1, v2]) Q E s := by
  obtain ⟨ho1, e1, he1, p1⟩ := P1
  obtain ⟨ho2, e2, he2, p2⟩ := P2
  have ho := sum_on (g.two K) ho1 ho2
  have hP := g.pos
  have hP2 : 2 < (C.p : Int) := by have := g.p2; omega
  have bP := g.bitsP
  have bA := g.bitsA
  cases q with
  | none =>
    have e : v1 = .none := p1
    subst e
    cases r with
    | none =>
      have e : v2 = .none := p2
      subst e
      refine wpAny_call ?_
      k_dflt ktr_enter
      k_steps
      all_goals exact ret _ e1 _ _ (PtAt.head ho rfl) (by k_asm) (news_dup (by k_asm) he1)
    | some r =>
      obtain ⟨a2, tx2, ty2, n2, rfl, rfl⟩ := p2
      refine wpAny_call ?_
      k_dflt ktr_enter
      k_steps
      all_goals exact ret _ _ _ _ (PtAt.head ho ⟨a2, tx2, ty2, n2, rfl, rfl⟩) (by k_asm) (news_dup (by k_asm) he2)
  | some q =>
    obtain ⟨a1, tx1, ty1, n1, rfl, rfl⟩ := p1
    cases r with
    | none =>
      have e : v2 = .none := p2
      subst e
      refine wpAny_call ?_
      k_dflt ktr_enter
      k_steps
      all_goals exact ret _ _ _ _ (PtAt.head ho ⟨a1, tx1, ty1, n1, rfl, rfl⟩) (by k_asm) (news_dup (by k_asm) he1)
    | some r =>
      obtain ⟨a2, tx2, ty2, n2, rfl, rfl⟩ := p2
      obtain ⟨x1, y1⟩ := q
      obtain ⟨x2, y2⟩ := r
      have b1 := v_bits (K := K) g x1
      have b2 := v_bits (K := K) g y1
      have b3 := v_bits (K := K) g x2
      have b4 := v_bits (K := K) g y2
      refine wpAny_call ?_
      k_dflt ktr_enter
      k_steps
      · refine ret _ _ _ _ (PtAt.head ho (pte_none g ho1 ho2 _ ?_)) (by k_asm) (news_dup (by k_asm) he1)
        show sumF _ _ (some (K.v x1, K.v y1)) (some (K.v x2, K.v y2)) = none
        simp only [sumF]
        rw [if_pos ⟨by assumption, by assumption⟩]
      all_goals (refine ret _ _ _ _ (PtAt.head ho (pte_some g ho1 ho2 ?_)) (by k_asm) (by k_asm))
      all_goals (
        show sumF _ _ (some (K.v x1, K.v y1)) (some (K.v x2, K.v y2)) = _
        simp only [sumF]
        rw [if_neg (by rintro ⟨z1, z2⟩; first | exact absurd z1 (by assumption) | exact absurd z2 (by assumption))]
        first
        | rw [if_pos (show (K.v x1, K.v y1) = (K.v x2, K.v y2) from by
            have z := (‹(_ && _) = true› : (K.v x1 == K.v x2 && K.v y1 == K.v y2) = true)
            simpa [Prod.mk.injEq] using z)]
        | rw [if_neg (show ¬ (K.v x1, K.v y1) = (K.v x2, K.v y2) from by
            have z := (‹(_ && _) = false› : (K.v x1 == K.v x2 && K.v y1 == K.v y2) = false)
            intro z'
            rw [Prod.mk.injEq] at z'
            rw [z'.1, z'.2] at z
            simp at z)])
end

end
section


open Lean.Grind PySem PySem.W PyProof.Rows PySem.Calls PySem.Spec
set_option Elab.async false
set_option maxRecDepth 100000
set_option maxHeartbeats 4000000
set_option linter.unusedVariables false
theorem fillE : (hd.heap_39 = hd.heap_39) ∧ PySem.Challenge.rw_iv0041_01 = PySem.Challenge.rw_iv0041_01 := by
  k_fill
  exact ⟨rfl, rfl⟩

section
variable {prog : Program} {w : World} {p : Program} {loose : List Str} {mean : ExcName → Option Value} {mg mb : Str → Option Value}
  {dp un : Nat} {gd : Option (List Code)} {cn : Str} {cs : Scope} {a : Addr} {ccd : Value} {cl : List (Str × Addr)} {outer : List Env} {A₀ : Around} {base h₀ : Heap} {L : Addr} {m : Str → Option Value} {news : List (Addr × Obj)} {s : Shared}
  {Q E : Value → Shared → Prop}
open Builtin.Int
open Lean.Grind
variable {F' : Type} [iF : Field F'] {C : Cv} {K : Over F' C.p}
local macro_rules | `(tactic| walk_at "call ref") => `(tactic| (k_here; k_dflt (refine' lsum_sem (K := K) ?ivB ?ivF ?ivX ?ivN ?ivT ?ivK ?ivd ?ivu ?ivc ?ivg ?ivP ?ivR ?_); (case ivB => k_asm); (case ivF => k_asm); (case ivX => k_asm); (case ivN => k_asm); (case ivT => k_asm); (case ivK => rfl); (case ivd => ktr_room); (case ivu => ktr_units); (case ivc => ktr_rel); (case ivg => assumption); (case ivP => tb_start); (case ivR => tb_start); intro v' e' h' tk' P' F' N'))

/-- the counting loop: a turn's state -/
noncomputable def TimesJ (C : Cv) {F' : Type} [Field F'] (K : Over F' C.p) (R : Option (F' × F')) (ca : Addr) (news : List (Addr × Obj)) (k : Nat) (m₁ : Str → Option Value) (news₁ : List (Addr × Obj)) : Prop :=
  ∃ (m₀ : Str → Option Value) (vt vp : Value) (nn : Int) (tn : Tok) (qt qp : Option (F' × F')) (e1 e2 : Addr × Obj),
    news₁ = e1 :: e2 :: news ∧
    m₁ = (fun y => if y = Str.ofString "curve" then some (.ref ca) else if y = Str.ofString "told" then some vt else if y = Str.ofString "point" then some vp else if y = Str.ofString "n" then some (.int nn tn) else m₀ y)
    ∧ k = nn.toNat ∧ 0 ≤ nn ∧ intBits nn ≤ 256 ∧ PtAt C K news₁ vt qt ∧ PtAt C K news₁ vp qp ∧ sum (K.c C.a) qt (smul (K.c C.a) qp nn.toNat) = R
theorem times_sem (B : Below A₀ base outer h₀) (F : Fr h₀ L s.heap m) (X : (hd.heap_39 w.params).In h₀) (N : News h₀ L s.heap news) (T : Top p loose mean mg mb h₀) (hk : cs.kind = .function)
  (hd : dp + 2 < recursionLimit) (hu : un + 88 < cLine)
  {ca : Addr} {v1 : Value} {n : Int} {tn : Tok} {q : Option (F' × F')} (hc : CurveAt news ca C) (g : GoodCv C) (P1 : PtAt C K news v1 q)
  (ret : ∀ v e h' tk', PtAt C K (e :: news) v (smul (K.c C.a) q (n.fmod C.n).toNat) → Fr h₀ L h' m → News h₀ L h' (e :: news) → Q v { s with heap := h', toks := tk' }) :
  wpAny (model prog w) (ktrTop dp un gd cn cs L a ccd cl outer) (call (.ref 106) [.ref ca, v1, .int n tn]) Q E s := by
  have hN1 := g.n1
  have hN : 0 < (C.n : Int) := by omega
  have bN := g.bitsN
  have r0 : 0 ≤ n.fmod C.n := by rw [Int.fmod_eq_emod_of_nonneg _ (by omega)]; exact Int.emod_nonneg _ (by omega)
  have rb : intBits (n.fmod C.n) ≤ 256 := bits_fmodP hN bN
  obtain ⟨ho1, e1, he1, p1⟩ := P1
  have P0 : PtAt C K (e1 :: e1 :: news) v1 q := ⟨ho1, e1, .head _, p1⟩
  have P00 : PtAt C K (e1 :: e1 :: news) .none (none : Option (F' × F')) := ⟨trivial, e1, .head _, rfl⟩
  refine wpAny_call ?_
  k_dflt ktr_enter
  k_steps
  refine Stop.out ?_
  unfold Stop
  (with_reducible rename Fr _ _ _ _ => F9)
  (with_reducible rename News _ _ _ _ => N9)
  refine While_inv (TimesJ C K (smul (K.c C.a) q (n.fmod C.n).toNat) ca news) (fr_name (x := Str.ofString "curve") (fr_name (x := Str.ofString "told") (fr_name (x := Str.ofString "point") (fr_name (x := Str.ofString "n") F9 rfl) rfl) rfl) rfl) (news_dup (news_dup N9 he1) (.head _))
    ⟨_, _, _, _, _, none, q, e1, e1, rfl, rfl, rfl, r0, rb, P00, P0, sum_none_left _⟩ ?_ ?hE
  case hE => first | passes_own | with_unfolding_all passes_own
  clear F9 N9
  intro k m₁ news₁ h₁ tk₁ F₁ N₁ hJ
  obtain ⟨m₀, vt, vp, nn, tn1, qt, qp, e2, e3, hn1, hm1, hk1, h0, hnb, Pt, Pp, hR⟩ := hJ
  subst hn1
  subst hm1
  have hc2 : CurveAt (e2 :: e3 :: news) ca C := hc.mono fun _ x => .tail _ (.tail _ x)
  have tt := fun hlt => times_turn (K := K) g Pt.1 Pp.1 (n := nn) hlt
  k_steps
  · (with_reducible rename Fr _ _ _ _ => F9)
    (with_reducible rename News _ _ _ _ => N9)
    have hpos : 0 < nn := by assumption
    obtain ⟨e5, e6, N8, Pa, Pb⟩ := two_pts (K := K) (news := news) (qt := sum (K.c C.a) qt qp) (qp := sum (K.c C.a) qp qp) N9 (fun q hq => .tail _ (.tail _ (.tail _ (.tail _ hq)))) (by tb_start) (by tb_start)
    have hf : nn.fdiv 2 = nn / 2 := Int.fdiv_eq_ediv_of_nonneg _ (by decide)
    exact WhileStep.intro (n' := (nn.fdiv 2).toNat) (fr_name (x := Str.ofString "curve") (fr_name (x := Str.ofString "told") (fr_name (x := Str.ofString "point") (fr_name (x := Str.ofString "n") F9 rfl) rfl) rfl) rfl) N8 (by omega)
      ⟨_, _, _, _, _, _, _, e5, e6, rfl, rfl, rfl, by omega, intBits_fdiv_le hnb, Pa, Pb, by rw [← hR, ← tt hpos, if_pos (by assumption)]⟩
  · (with_reducible rename Fr _ _ _ _ => F9)
    (with_reducible rename News _ _ _ _ => N9)
    have hpos : 0 < nn := by assumption
    obtain ⟨e5, e6, N8, Pa, Pb⟩ := two_pts (K := K) (news := news) (vt := vt) (qt := qt) (qp := sum (K.c C.a) qp qp) N9 (fun q hq => .tail _ (.tail _ (.tail _ hq))) (by tb_start) (by tb_start)
    have hf : nn.fdiv 2 = nn / 2 := Int.fdiv_eq_ediv_of_nonneg _ (by decide)
    exact WhileStep.intro (n' := (nn.fdiv 2).toNat) (fr_name (x := Str.ofString "curve") (fr_name (x := Str.ofString "told") (fr_name (x := Str.ofString "point") (fr_name (x := Str.ofString "n") F9 rfl) rfl) rfl) rfl) N8 (by omega)
      ⟨_, _, _, _, _, _, _, e5, e6, rfl, rfl, rfl, by omega, intBits_fdiv_le hnb, Pa, Pb, by rw [← hR, ← tt hpos, if_neg (by assumption)]⟩
  · have hz : nn.toNat = 0 := by
      have : ¬ 0 < nn := by assumption
      omega
    have e : qt = smul (K.c C.a) q (n.fmod C.n).toNat := by
      rw [← hR, hz]
      exact (sum_none_right _).symm
    rw [e] at Pt
    (with_reducible rename News _ _ _ _ => N9)
    obtain ⟨e5, N8, Pa⟩ := one_pt (K := K) (news := news) N9 (fun q hq => .tail _ (.tail _ hq)) Pt
    exact ret _ e5 _ _ Pa (by k_asm) N8
end

end
local macro_rules | `(tactic| bits_by_make) => `(tactic| first
  | (with_reducible exact (PF.bits (by assumption) (by assumption)).1)
  | (with_reducible exact (PF.bits (by assumption) (by assumption)).2))
section
open Lean.Grind PySem PySem.W PyProof.Rows PySem.Calls PySem.Spec
set_option Elab.async false
set_option maxRecDepth 100000
set_option maxHeartbeats 4000000
set_option linter.unusedVariables false
theorem fillF : (hd.heap_39 = hd.heap_39) ∧ PySem.Challenge.rw_iv0041_01 = PySem.Challenge.rw_iv0041_01 := by
  k_fill
  exact ⟨rfl, rfl⟩

section
variable {prog : Program} {w : World} {p : Program} {loose : List Str} {mean : ExcName → Option Value} {mg mb : Str → Option Value}
  {dp un : Nat} {gd : Option (List Code)} {cn : Str} {cs : Scope} {a : Addr} {ccd : Value} {cl : List (Str × Addr)} {outer : List Env} {A₀ : Around} {base h₀ : Heap} {L : Addr} {m : Str → Option Value} {news : List (Addr × Obj)} {s : Shared}
  {Q E : Value → Shared → Prop}
open Builtin.Int
open Lean.Grind
variable {F' : Type} [iF : Field F'] {C : Cv} {K : Over F' C.p}

theorem flat_sem (B : Below A₀ base outer h₀) (F : Fr h₀ L s.heap m) (X : (hd.heap_39 w.params).In h₀) (N : News h₀ L s.heap news) (T : Top p loose mean mg mb h₀) (hk : cs.kind = .function)
  (hd : dp + 1 < recursionLimit) (hu : un + 8 < cLine)
  {v1 : Value} {q : Option (F' × F')} (P1 : PtAt C K news v1 q)
  (ret : ∀ D h' tk' t t' x' y' n', PF C K q x' y' → Fr h₀ L h' m → News h₀ L h' ((D, tupN [.int x' t, .int y' t'] n') :: news) → Q (.ref D) { s with heap := h', toks := tk' }) :
  wpAny (model prog w) (ktrTop dp un gd cn cs L a ccd cl outer) (call (.ref 113) [v1]) Q E s := by
  obtain ⟨ho1, e1, he1, p1⟩ := P1
  cases q with
  | none =>
    have e : v1 = .none := p1
    subst e
    refine wpAny_call ?_
    k_dflt ktr_enter
    k_steps
    all_goals exact ret _ _ _ _ _ _ _ _ ⟨trivial, rfl⟩ (by k_asm) (by k_asm)
  | some q =>
    obtain ⟨a1, tx1, ty1, n1, rfl, rfl⟩ := p1
    refine wpAny_call ?_
    k_dflt ktr_enter
    k_steps
    all_goals exact ret _ _ _ _ _ _ _ _ ⟨ho1, rfl⟩ (by k_asm) (news_dup (by k_asm) he1)
local macro_rules | `(tactic| walk_at "call ref") => `(tactic| (k_here; k_dflt (refine' flat_sem (K := K) ?ivB ?ivF ?ivX ?ivN ?ivT ?ivK ?ivd ?ivu ?ivP ?_); (case ivB => k_asm); (case ivF => k_asm); (case ivX => k_asm); (case ivN => k_asm); (case ivT => k_asm); (case ivK => rfl); (case ivd => ktr_room); (case ivu => ktr_units); (case ivP => tb_start); intro D' h' tk' t1' t2' x' y' n' P' F' N'))

theorem scaled_sem (B : Below A₀ base outer h₀) (F : Fr h₀ L s.heap m) (X : (hd.heap_39 w.params).In h₀) (N : News h₀ L s.heap news) (T : Top p loose mean mg mb h₀) (hk : cs.kind = .function)
  (hd : dp + 2 < recursionLimit) (hu : un + 16 < cLine)
  {ca : Addr} {v1 : Value} {sc : Int} {tn : Tok} {q : Option (F' × F')} (hc : CurveAt news ca C) (g : GoodCv C) (P1 : PtAt C K news v1 q) (h1 : 0 < sc) (h2 : sc < C.p)
  (ret : ∀ D h' tk' t t' t'' x' y' n', PR C K q x' y' sc → Fr h₀ L h' m → News h₀ L h' ((D, tupN [.int x' t, .int y' t', .int sc t''] n') :: news) → Q (.ref D) { s with heap := h', toks := tk' }) :
  wpAny (model prog w) (ktrTop dp un gd cn cs L a ccd cl outer) (call (.ref 120) [.ref ca, v1, .int sc tn]) Q E s := by
  have hP := g.pos
  have bP := g.bitsP
  have bS : intBits sc ≤ 256 := bits_of_lt (by omega) (by have := g.pi; omega)
  obtain ⟨b1, b2⟩ : (∀ x y, PF C K q x y → intBits x ≤ 256) ∧ (∀ x y, PF C K q x y → intBits y ≤ 256) := ⟨fun x y h => (h.bits g).1, fun x y h => (h.bits g).2⟩
  refine wpAny_call ?_
  k_dflt ktr_enter
  k_steps
  all_goals exact ret _ _ _ _ _ _ _ _ _ (scaled_rep g (by assumption) h1 h2) (by k_asm) (news_t2 (by k_asm))
/-- what the law reads of its list -/
noncomputable def lawAt (ns : List Int) (k : Int) : Int := if k < ns.length then ns.getD k.toNat 0 else 5 * k + 2
theorem at_says (B : Below A₀ base outer h₀) (F : Fr h₀ L s.heap m) (X : (hd.heap_39 w.params).In h₀) (N : News h₀ L s.heap news) (T : Top p loose mean mg mb h₀) (hk : cs.kind = .function)
  (hd : dp + 1 < recursionLimit) (hu : un + 8 < cLine)
  {sa : Addr} {vs : List Value} {ns : List Int} {k : Int} {tk : Tok} (hL : base.IsList sa vs.toArray) (hI : IntsAre vs ns) (hlen : ns.length ≤ 63) (h0 : 0 ≤ k) (h9 : k < 100)
  (ret : ∀ v h' tk' t, v = lawAt ns k → Fr h₀ L h' m → News h₀ L h' news → Q (.int v t) { s with heap := h', toks := tk' }) :
  wpAny (model prog w) (ktrTop dp un gd cn cs L a ccd cl outer) (call (.ref 92) [.ref sa, .int k tk]) Q E s := by
  have hLn := IntsAre.length hI
  refine wpAny_call ?_
  k_dflt ktr_enter
  (with_reducible rename Below _ _ _ _ => B9)
  k_lift B9
  k_steps
  all_goals (refine ret _ _ _ _ ?_ (by k_asm) (by k_asm); unfold lawAt)
  · rw [if_pos (by assumption)]
  · rw [if_neg (by assumption)]
end

end
section


open Lean.Grind PySem PySem.W PyProof.Rows PySem.Calls PySem.Spec
set_option Elab.async false
set_option maxRecDepth 100000
set_option maxHeartbeats 4000000
set_option linter.unusedVariables false
theorem fillG : (hd.heap_39 = hd.heap_39) ∧ PySem.Challenge.rw_iv0041_01 = PySem.Challenge.rw_iv0041_01 := by
  k_fill
  exact ⟨rfl, rfl⟩

section
variable {prog : Program} {w : World} {p : Program} {loose : List Str} {mean : ExcName → Option Value} {mg mb : Str → Option Value}
  {dp un : Nat} {gd : Option (List Code)} {cn : Str} {cs : Scope} {a : Addr} {ccd : Value} {cl : List (Str × Addr)} {outer : List Env} {A₀ : Around} {base h₀ : Heap} {L : Addr} {m : Str → Option Value} {news : List (Addr × Obj)} {s : Shared}
  {Q E : Value → Shared → Prop}
open Builtin.Int
open Lean.Grind
variable {F' : Type} [iF : Field F'] {C : Cv} {K : Over F' C.p}
theorem pow256 {A : Around} {a n : Int} {t u : Tok} (ha : a = 2) (hn : n = 256) (h : Q (.int 115792089237316195423570985008687907853269984665640564039457584007913129639936 s.toks) { s with toks := s.toks + 1 }) : wpAny (model prog w) A (binaryOp .Pow (.int a t) (.int n u)) Q E s := by
  subst ha; subst hn
  refine pow_int (by decide) (by decide +kernel) ?_
  rw [show (2 : Int) ^ Int.toNat 256 = 115792089237316195423570985008687907853269984665640564039457584007913129639936 by decide +kernel]
  exact h
theorem pow32 {A : Around} {a n : Int} {t u : Tok} (ha : a = 2) (hn : n = 32) (h : Q (.int 4294967296 s.toks) { s with toks := s.toks + 1 }) : wpAny (model prog w) A (binaryOp .Pow (.int a t) (.int n u)) Q E s := by
  subst ha; subst hn
  refine pow_int (by decide) (by decide +kernel) ?_
  rw [show (2 : Int) ^ Int.toNat 32 = 4294967296 by decide +kernel]
  exact h
local macro_rules | `(tactic| walk_at "binaryOp Pow int int") => `(tactic| (k_here; first
  | ((with_reducible refine' pow256 ?ivk0 ?ivk1 ?_); (case ivk0 => rfl); (case ivk1 => rfl))
  | ((with_reducible refine' pow32 ?ivk0 ?ivk1 ?_); (case ivk0 => rfl); (case ivk1 => rfl))))
theorem news_num {h₀ h : Heap} {L D : Addr} {news : List (Addr × Obj)} {p n p' n' a b x y : Int} {t1 t2 t3 t4 t5 t6 : Tok} {k : Nat} (e1 : p = p') (e2 : n = n')
    (N : News h₀ L h ((D, tupN [.int p t1, .int n t2, .int a t3, .int b t4, .int x t5, .int y t6] k) :: news)) :
    News h₀ L h ((D, tupN [.int p' t1, .int n' t2, .int a t3, .int b t4, .int x t5, .int y t6] k) :: news) := by
  subst e1; subst e2; exact N
theorem secp_says (B : Below A₀ base outer h₀) (F : Fr h₀ L s.heap m) (X : (hd.heap_39 w.params).In h₀) (N : News h₀ L s.heap news) (T : Top p loose mean mg mb h₀) (hk : cs.kind = .function)
  (hd : dp + 1 < recursionLimit) (hu : un + 8 < cLine)
  (ret : ∀ D h' tk' t1 t2 t3 t4 t5 t6 n, Fr h₀ L h' m → News h₀ L h' ((D, tupN [.int secp.p t1, .int secp.n t2, .int secp.a t3, .int secp.b t4, .int secp.x t5, .int secp.y t6] n) :: news) → Q (.ref D) { s with heap := h', toks := tk' }) :
  wpAny (model prog w) (ktrTop dp un gd cn cs L a ccd cl outer) (call (.ref 78) []) Q E s := by
  refine wpAny_call ?_
  k_dflt ktr_enter
  k_steps
  have e1 : (115792089237316195423570985008687907853269984665640564039457584007913129639936 : Int) - 4294967296 - 977 = ((secp.p : Nat) : Int) := by decide +kernel
  have e2 : (115792089237316195423570985008687907853269984665640564039457584007913129639936 : Int) - 432420386565659656852420866394968145599 = ((secp.n : Nat) : Int) := by decide +kernel
  (with_reducible rename News _ _ _ _ => N9)
  exact ret _ _ _ _ _ _ _ _ _ _ (by k_asm) (news_num e1 e2 N9)

local macro_rules | `(tactic| walk_at "newTuple") => `(tactic| (k_here; k_dflt (refine' newTuple_N ?ivF ?ivN ?_ ?ivz; (case ivF => k_asm); (case ivN => k_asm); (case ivz => size_fits)); intro h' F' N'; (try k_sweep)))
local macro_rules | `(tactic| walk_at "newList") => `(tactic| (k_here; k_dflt (refine' newList_N ?ivF ?ivN ?_ ?ivz; (case ivF => k_asm); (case ivN => k_asm); (case ivz => size_fits)); intro h' F' N'; (try k_sweep)))
theorem tup6 {A : Around} {ρ : Env} {a b c d e f : Int} {k1 k2 k3 k4 k5 k6 k7 : Nat} {p1 p2 p3 p4 p5 p6 p7 : Pos} (F : Fr h₀ L s.heap m) (N : News h₀ L s.heap news)
    (ret : ∀ D h' tk' t1 t2 t3 t4 t5 t6 n, Fr h₀ L h' m → News h₀ L h' ((D, tupN [.int a t1, .int b t2, .int c t3, .int d t4, .int e t5, .int f t6] n) :: news) → Q (.ref D) { s with heap := h', toks := tk' }) :
    wpAny (model prog w) A (eval (.Tuple [.Constant (.int a) k1 p1, .Constant (.int b) k2 p2, .Constant (.int c) k3 p3, .Constant (.int d) k4 p4, .Constant (.int e) k5 p5, .Constant (.int f) k6 p6] k7 p7) ρ) Q E s := by
  obtain ⟨h, g, dr, tk, o⟩ := s
  dsimp only at F N ret ⊢
  k_steps
  (with_reducible rename News _ _ _ _ => N9)
  exact ret _ _ _ _ _ _ _ _ _ _ (by k_asm) N9
local macro_rules | `(tactic| walk_at "eval Tuple") => `(tactic| (k_here; k_dflt (refine' tup6 ?ivF ?ivN ?_; (case ivF => k_asm); (case ivN => k_asm)); intro D' h' tk' t1' t2' t3' t4' t5' t6' n' F' N'; dsimp only; (try k_sweep)))
/-- the list of the curves' tuples -/
noncomputable def AllC (news : List (Addr × Obj)) : List Value → List Cv → Prop
  | [], [] => True
  | v :: vs, D :: Ds => (∃ c, v = .ref c ∧ CurveAt news c D) ∧ AllC news vs Ds
  | _, _ => False
theorem curves_says (B : Below A₀ base outer h₀) (F : Fr h₀ L s.heap m) (X : (hd.heap_39 w.params).In h₀) (N : News h₀ L s.heap []) (T : Top p loose mean mg mb h₀) (hk : cs.kind = .function)
  (hd : dp + 1 < recursionLimit) (hu : un + 8 < cLine)
  (ret : ∀ D vs n news' h' tk', Fr h₀ L h' m → News h₀ L h' ((D, ({ cls := .type "list", data := .seq vs.toArray n } : Obj)) :: news') → AllC news' vs curves → Q (.ref D) { s with heap := h', toks := tk' }) :
  wpAny (model prog w) (ktrTop dp un gd cn cs L a ccd cl outer) (call (.ref 85) []) Q E s := by
  refine wpAny_call ?_
  k_dflt ktr_enter
  k_steps
  (with_reducible rename News _ _ _ _ => N9)
  refine ret _ _ _ _ _ _ (by k_asm) N9 ?_
  iterate 21 (refine ⟨⟨_, rfl, .inl ⟨_, _, _, _, _, _, _, by repeat' (first | exact List.Mem.head _ | refine List.Mem.tail _ ?_)⟩⟩, ?_⟩)
  exact True.intro
theorem AllC.at {news : List (Addr × Obj)} : ∀ {vs : List Value} {Cs : List Cv}, AllC news vs Cs → ∀ i, i < Cs.length → ∃ c D, vs[i]? = some (.ref c) ∧ D ∈ Cs ∧ CurveAt news c D
  | [], [], _, i, h => absurd h (Nat.not_lt_zero _)
  | v :: vs, D :: Ds, h, i, hi => by
    obtain ⟨⟨c, hv, hc⟩, hr⟩ := h
    cases i with
    | zero => exact ⟨c, D, by rw [hv]; rfl, .head _, hc⟩
    | succ i =>
      obtain ⟨c', D', h1, h2, h3⟩ := AllC.at hr i (by simpa using hi)
      exact ⟨c', D', by simpa using h1, .tail _ h2, h3⟩
  | [], _ :: _, h, _, _ => h.elim
  | _ :: _, [], h, _, _ => h.elim
end

end
section
open Lean.Grind PySem PySem.W PyProof.Rows PySem.Calls PySem.Spec
set_option Elab.async false
set_option maxRecDepth 100000
set_option maxHeartbeats 4000000
set_option linter.unusedVariables false
open Builtin.Int
/-- while it stands in the context the walk does not stop at the law's own forks -/
structure Pass : Prop where
section
variable {M : Model} {A : Around} {E : Value → Shared → Prop} {s : Shared} {g : Heap} {L : Addr} {m : Str → Option Value} {news : List (Addr × Obj)} {C : Cv}
theorem cut_end {t : Sem Flow} {Q : Flow → Shared → Prop} (F : Fr g L s.heap m)
    (h1 : ∀ J : Flow → Shared → Prop, (∀ h' tk' m', Fr g L h' m' → J (.ret (.bool true)) { s with heap := h', toks := tk' }) → wpAny M A t J E s)
    (hk : ∀ h' tk' m', Fr g L h' m' → Q (.ret (.bool true)) { s with heap := h', toks := tk' }) : wpAny M A t Q E s := h1 Q hk
theorem cut_curve {t : Sem Value} {Q : Value → Shared → Prop} (C : Cv) (F : Fr g L s.heap m)
    (h1 : ∀ J : Value → Shared → Prop, (∀ ca news' h' tk', Fr g L h' m → News g L h' news' → CurveAt news' ca C → J (.ref ca) { s with heap := h', toks := tk' }) → wpAny M A t J E s)
    (hk : ∀ ca news' h' tk', Fr g L h' m → News g L h' news' → CurveAt news' ca C → Q (.ref ca) { s with heap := h', toks := tk' }) : wpAny M A t Q E s := h1 Q hk
theorem cut_int {t : Sem Value} {Q : Value → Shared → Prop} (P : Int → Prop) (F : Fr g L s.heap m) (N : News g L s.heap news)
    (h1 : ∀ J : Value → Shared → Prop, (∀ k t h' tk', P k → Fr g L h' m → News g L h' news → J (.int k t) { s with heap := h', toks := tk' }) → wpAny M A t J E s)
    (hk : ∀ k t h' tk', P k → Fr g L h' m → News g L h' news → Q (.int k t) { s with heap := h', toks := tk' }) : wpAny M A t Q E s := h1 Q hk
theorem cut_if {t : Sem Flow} {Q : Flow → Shared → Prop} (F : Fr g L s.heap m) (N : News g L s.heap news)
    (h1 : ∀ J : Flow → Shared → Prop, (∀ h' tk', Fr g L h' m → News g L h' news → J .next { s with heap := h', toks := tk' }) → wpAny M A t J E s)
    (hk : ∀ h' tk', Fr g L h' m → News g L h' news → Q .next { s with heap := h', toks := tk' }) : wpAny M A t Q E s := h1 Q hk
theorem cut_other {F' : Type} [iF : Field F'] {t : Sem Flow} {Q : Flow → Shared → Prop} (K : Over F' C.p) (F : Fr g L s.heap m) (N : News g L s.heap news)
    (h1 : ∀ J : Flow → Shared → Prop, (∀ v2 q2 e h' tk', PtAt C K (e :: news) v2 q2 → Fr g L h' (fun y => if y = Str.ofString "other" then some v2 else m y) → News g L h' (e :: news) → J .next { s with heap := h', toks := tk' }) → wpAny M A t J E s)
    (hk : ∀ v2 q2 e h' tk', PtAt C K (e :: news) v2 q2 → Fr g L h' (fun y => if y = Str.ofString "other" then some v2 else m y) → News g L h' (e :: news) → Q .next { s with heap := h', toks := tk' }) : wpAny M A t Q E s := h1 Q hk
end
section
variable {prog : Program} {w : World} {A : Around} {E : Value → Shared → Prop} {s : Shared} {h₀ : Heap} {L : Addr} {m : Str → Option Value} {news : List (Addr × Obj)} {C : Cv} {Q : Value → Shared → Prop}
theorem list_item {value slice : PySem.Expr} {l : Addr} {vs : List Value} {k : Int} {u : Tok} {v : Value} (hl : s.heap.IsList l vs.toArray) (h0 : 0 ≤ k) (hhi : k < 2 ^ 63) (hx : vs[k.toNat]? = some v) (h : Q v s)
    (hs : subscripted slice false (.ref l) (.int k u) = operate [.ref l, .int k u] (getItem (.ref l) (.int k u)) := by with_unfolding_all rfl) :
    wpAny (model prog w) A (subscriptTail value slice (.ref l) (.int k u)) Q E s :=
  tail_any hl.typeIs slot_list_getitem.lookup (wpAny_getItem_list hl h0 hhi (by simpa using hx) h) hs
theorem eq_false_int {x y : Int} {t u : Tok} (hn : ¬ x = y) (h : Q (.bool false) s) : wpAny (model prog w) A (compareOp .Eq (.int x t) (.int y u)) Q E s := by
  refine PyProof.Rows.eq_int ?_
  rw [show (x == y) = false from beq_false_of_ne hn]
  exact h
theorem eq_true_int {x y : Int} {t u : Tok} (hn : x = y) (h : Q (.bool true) s) : wpAny (model prog w) A (compareOp .Eq (.int x t) (.int y u)) Q E s := by
  refine PyProof.Rows.eq_int ?_
  rw [show (x == y) = true from beq_iff_eq.mpr hn]
  exact h
theorem ne_true_int {x y : Int} {t u : Tok} (hn : ¬ x = y) (h : Q (.bool true) s) : wpAny (model prog w) A (compareOp .NotEq (.int x t) (.int y u)) Q E s := by
  refine PyProof.Rows.ne_int ?_
  rw [show (x != y) = true from bne_iff_ne.mpr hn]
  exact h
theorem ne_false_int {x y : Int} {t u : Tok} (hn : x = y) (h : Q (.bool false) s) : wpAny (model prog w) A (compareOp .NotEq (.int x t) (.int y u)) Q E s := by
  refine PyProof.Rows.ne_int ?_
  rw [show (x != y) = false by simp [hn]]
  exact h
theorem lt_true_int {x y : Int} {t u : Tok} (hn : x < y) (h : Q (.bool true) s) : wpAny (model prog w) A (compareOp .Lt (.int x t) (.int y u)) Q E s := by
  refine PySem.P.lt_int ?_
  rw [show decide (x < y) = true from decide_eq_true hn]
  exact h
theorem news_sub1 {h₀ h : Heap} {L : Addr} {news : List (Addr × Obj)} {a1 : Addr × Obj} (N : News h₀ L h (a1 :: news)) : News h₀ L h news := fun p hp => N _ (.tail _ hp)
theorem isnot_pt {F' : Type} [iF : Field F'] {K : Over F' C.p} {v : Value} {q : Option (F' × F')} (P : PtAt C K news v q) (h1 : q = none → v = .none → Q (.bool false) s)
    (h2 : ∀ (a : Addr) (tx ty : Tok) (n : Nat) (z : F' × F'), On (K.c C.a) (K.c C.b) (some z) → q = some z → v = .ref a → (a, tupN [.int (K.v z.1) tx, .int (K.v z.2) ty] n) ∈ news → Q (.bool true) s) : wpAny (model prog w) A (compareOp .IsNot v .none) Q E s := by
  obtain ⟨ho, e, he, hp⟩ := P
  cases q with
  | none =>
    have e' : v = .none := hp
    subst e'
    exact PyProof.Rows.isnot_none_none (h1 rfl rfl)
  | some z =>
    obtain ⟨a, tx, ty, n, rfl, rfl⟩ := hp
    exact PyProof.Rows.isnot_ref_none (h2 a tx ty n z ho rfl rfl he)
theorem eqv_self (is : List Int) : PyData.eqv (.tuple (is.map PyData.int)) (.tuple (is.map PyData.int)) = true := by
  simp [PyData.eqv, ked_eqvAll]
/-- two tuples of ints that are the same are not unequal -/
theorem ne_same {a b : Addr} {xs ys : List Value} {is : List Int} {na nb : Nat} (hu : A.units + 64 < cLine) (N : News h₀ L s.heap news) (ha : (a, tupN xs na) ∈ news) (hb : (b, tupN ys nb) ∈ news)
    (ra : ∀ h : Heap, ReadsAll h xs (is.map PyData.int) []) (rb : ∀ h : Heap, ReadsAll h ys (is.map PyData.int) []) (h : Q (.bool false) s) : wpAny (model prog w) A (compareOp .NotEq (.ref a) (.ref b)) Q E s := by
  have hsh : PySem.SeqAt.shaped (.tuple (is.map PyData.int)) = true := by
    simp [PySem.SeqAt.shaped, PyData.canLay0, PyData.depth, ke_canLayAll0, ke_depthAll]
  refine ne_dataH (reads_tuple_at (News.get N ha) rfl rfl (by simpa using ra s.heap)) (reads_tuple_at (News.get N hb) rfl rfl (by simpa using rb s.heap)) hsh hsh hu ?_
  rw [eqv_self]
  exact h
theorem reads2 {x y : Int} {t t' : Tok} {h : Heap} : ReadsAll h [.int x t, .int y t'] ([x, y].map PyData.int) [] := .cons (.int _ _) (.cons (.int _ _) .nil)
theorem reads3 {x y z : Int} {t t' t'' : Tok} {h : Heap} : ReadsAll h [.int x t, .int y t', .int z t''] ([x, y, z].map PyData.int) [] := .cons (.int _ _) (.cons (.int _ _) (.cons (.int _ _) .nil))
theorem pf_ne {F' : Type} [iF : Field F'] {K : Over F' C.p} {a b : Addr} {x y x' y' : Int} {t1 t2 t3 t4 : Tok} {na nb : Nat} {q : Option (F' × F')} (hu : A.units + 64 < cLine) (N : News h₀ L s.heap news)
    (ha : (a, tupN [.int x t1, .int y t2] na) ∈ news) (hb : (b, tupN [.int x' t3, .int y' t4] nb) ∈ news) (P1 : PF C K q x y) (P2 : PF C K q x' y') (h : Q (.bool false) s) :
    wpAny (model prog w) A (compareOp .NotEq (.ref a) (.ref b)) Q E s := by
  have e := P1.2.trans P2.2.symm
  have e1 : x = x' := congrArg Prod.fst e
  have e2 : y = y' := congrArg Prod.snd e
  subst e1; subst e2
  exact ne_same hu N ha hb (fun _ => reads2) (fun _ => reads2) h
theorem pf_ne3 {F' : Type} [iF : Field F'] {K : Over F' C.p} {a b : Addr} {x y x' y' b' c' : Int} {t1 t2 t3 t4 t5 t6 : Tok} {na nb : Nat} {q : Option (F' × F')} (hu : A.units + 64 < cLine) (N : News h₀ L s.heap news)
    (ha : (a, tupN [.int x t1, .int y t2, .int 1 t5] na) ∈ news) (hb : (b, tupN [.int x' t3, .int y' t4, .int 1 t6] nb) ∈ news) (P1 : PF C K q x y) (P2 : PF C K q x' b') (P3 : PF C K q c' y') (h : Q (.bool false) s) :
    wpAny (model prog w) A (compareOp .NotEq (.ref a) (.ref b)) Q E s := by
  have e1 : x = x' := congrArg Prod.fst (P1.2.trans P2.2.symm)
  have e2 : y = y' := congrArg Prod.snd (P1.2.trans P3.2.symm)
  subst e1; subst e2
  exact ne_same hu N ha hb (fun _ => reads3) (fun _ => reads3) h
theorem secp_ne {ca b : Addr} {t1 t2 t3 t4 t5 t6 : Tok} {nb : Nat} (hu : A.units + 64 < cLine) (F : Fr h₀ L s.heap m) (X : (hd.heap_39 w.params).In h₀) (N : News h₀ L s.heap news)
    (hb : (b, tupN [.int secp.p t1, .int secp.n t2, .int secp.a t3, .int secp.b t4, .int secp.x t5, .int secp.y t6] nb) ∈ news) (hc : CurveAt news ca C) (hC : C = secp) (h : Q (.bool false) s) :
    wpAny (model prog w) A (compareOp .NotEq (.ref ca) (.ref b)) Q E s := by
  have r : ∀ (h : Heap) (u1 u2 u3 u4 u5 u6 : Tok), ReadsAll h [Value.int secp.p u1, .int secp.n u2, .int secp.a u3, .int secp.b u4, .int secp.x u5, .int secp.y u6] ([(secp.p : Int), secp.n, secp.a, secp.b, secp.x, secp.y].map PyData.int) [] :=
    fun h _ _ _ _ _ _ => .cons (.int _ _) (.cons (.int _ _) (.cons (.int _ _) (.cons (.int _ _) (.cons (.int _ _) (.cons (.int _ _) .nil)))))
  have hsh : PySem.SeqAt.shaped (.tuple ([(secp.p : Int), secp.n, secp.a, secp.b, secp.x, secp.y].map PyData.int)) = true := by
    simp [PySem.SeqAt.shaped, PyData.canLay0, PyData.depth, PyData.canLayAll0, PyData.depthAll]
  obtain ⟨u1, u2, u3, u4, u5, u6, o, ho, hcl, n, hd⟩ := CurveAt.tup F X N hc
  rw [hC] at hd
  refine ne_dataH (reads_tuple_at ho hcl hd (r s.heap u1 u2 u3 u4 u5 u6)) (reads_tuple_at (News.get N hb) rfl rfl (r s.heap t1 t2 t3 t4 t5 t6)) hsh hsh hu ?_
  rw [eqv_self]
  exact h
end

end
section
open Lean.Grind PySem PySem.W PyProof.Rows PySem.Calls PySem.Spec
set_option Elab.async false
set_option maxRecDepth 100000
set_option maxHeartbeats 4000000
set_option linter.unusedVariables false

theorem AllC.get {news : List (Addr × Obj)} : ∀ {vs : List Value} {Cs : List Cv}, AllC news vs Cs → ∀ (i : Nat) (D : Cv), Cs[i]? = some D → ∃ c, vs[i]? = some (.ref c) ∧ CurveAt news c D
  | [], [], _, i, D, h => by cases h
  | v :: vs, D :: Ds, h, i, D', hi => by
    obtain ⟨⟨c, hv, hc⟩, hr⟩ := h
    cases i with
    | zero =>
      have : D = D' := by simpa using hi
      subst this
      exact ⟨c, by rw [hv]; rfl, hc⟩
    | succ i =>
      obtain ⟨c', h1, h3⟩ := AllC.get hr i D' (by simpa using hi)
      exact ⟨c', by simpa using h1, h3⟩
  | [], _ :: _, h, _, _, _ => h.elim
  | _ :: _, [], h, _, _, _ => h.elim
/-- the curve at a place of the law's list -/
noncomputable def CurveIs (i : Nat) (C : Cv) : Prop := curves[i]? = some C
theorem curves_get {prog : Program} {w : World} {p : Program} {loose : List Str} {mean : ExcName → Option Value} {mg mb : Str → Option Value}
  {dp un : Nat} {gd : Option (List Code)} {cn : Str} {cs : Scope} {a : Addr} {ccd : Value} {cl : List (Str × Addr)} {outer : List Env} {A₀ : Around} {base h₀ : Heap} {L : Addr} {m : Str → Option Value} {s : Shared}
  {Q E : Value → Shared → Prop} (B : Below A₀ base outer h₀) (F : Fr h₀ L s.heap m) (X : (hd.heap_39 w.params).In h₀) (N : News h₀ L s.heap []) (T : Top p loose mean mg mb h₀) (hk : cs.kind = .function)
  (hd : dp + 1 < recursionLimit) (hu : un + 8 < cLine) {i : Nat} {C : Cv} (hi : CurveIs i C)
  (ret : ∀ (D : Addr) (vs : List Value) (n : Nat) (news' : List (Addr × Obj)) (h' : Heap) (tk' : Nat) (c : Addr), Fr h₀ L h' m → News h₀ L h' ((D, ({ cls := .type "list", data := .seq vs.toArray n } : Obj)) :: news') → vs[i]? = some (Value.ref c) → CurveAt ((D, ({ cls := .type "list", data := .seq vs.toArray n } : Obj)) :: news') c C → Q (.ref D) { s with heap := h', toks := tk' }) :
  wpAny (model prog w) (ktrTop dp un gd cn cs L a ccd cl outer) (call (.ref 85) []) Q E s :=
  curves_says B F X N T hk hd hu fun D vs n news' h' tk' F9 N9 HA => by
    obtain ⟨c, h1, h2⟩ := HA.get i C hi
    exact ret D vs n news' h' tk' c F9 N9 h1 h2.cons
/-- the field at hand -/
noncomputable def HasK {F' : Type} [Field F'] {p : Nat} (_K : Over F' p) : Prop := True
theorem first_pt {F' : Type} [iF : Field F'] {C : Cv} {K : Over F' C.p} {news : List (Addr × Obj)} {D : Addr} {t t' : Tok} {n : Nat} (_hK : HasK K) (g : GoodCv C) (h : (D, tupN [.int C.x t, .int C.y t'] n) ∈ news) : PtAt C K news (.ref D) (some (K.c C.x, K.c C.y)) := by
  have hx := g.xp
  have hy := g.yp
  refine ⟨?_, _, h, ⟨D, t, t', n, rfl, ?_⟩⟩
  · simp only [On]
    have e := g.on
    have : K.c ((C.y ^ 2 : Nat) : Int) = K.c ((C.x ^ 3 + C.a * C.x + C.b : Nat) : Int) := by
      rw [← K.nmod, e, K.nmod]
    simpa only [Int.natCast_add, Int.natCast_mul, Int.natCast_pow, K.add, K.mul, K.pow] using this
  · dsimp only
    rw [K.vc (by omega) (by omega), K.vc (by omega) (by omega)]
theorem pick_of {vs : List Value} {ns : List Int} (h : IntsAre vs ns) : ∃ C, GoodCv C ∧ (((lawAt ns 0).fmod 22 = 21 ∧ C = secp) ∨ ((lawAt ns 0).fmod 22 ≠ 21 ∧ CurveIs ((lawAt ns 0).fmod 22).toNat C ∧ C.n < 2 ^ 17)) := by
  have l0 : 0 ≤ (lawAt ns 0).fmod 22 := by rw [Int.fmod_eq_emod_of_nonneg _ (by decide)]; exact Int.emod_nonneg _ (by decide)
  have l1 : (lawAt ns 0).fmod 22 < 22 := by rw [Int.fmod_eq_emod_of_nonneg _ (by decide)]; exact Int.emod_lt_of_pos _ (by decide)
  by_cases q : (lawAt ns 0).fmod 22 = 21
  · exact ⟨secp, good_secp, .inl ⟨q, rfl⟩⟩
  · have hl : ((lawAt ns 0).fmod 22).toNat < curves.length := by
      show _ < 21
      omega
    refine ⟨curves[((lawAt ns 0).fmod 22).toNat], good_curves _ (List.getElem_mem hl), .inr ⟨q, List.getElem?_eq_getElem hl, ?_⟩⟩
    have : ∀ D ∈ curves, D.n < 2 ^ 17 := by decide
    exact this _ (List.getElem_mem hl)
theorem fmod_pos_lo {x n : Int} (hn : 0 < n) : 0 ≤ x.fmod n := by rw [Int.fmod_eq_emod_of_nonneg _ (by omega)]; exact Int.emod_nonneg _ (by omega)
theorem fmod_pos_hi {x n : Int} (hn : 0 < n) : x.fmod n < n := by rw [Int.fmod_eq_emod_of_nonneg _ (by omega)]; exact Int.emod_lt_of_pos _ (by omega)
theorem pick_lo {vs : List Value} {ns : List Int} (_h : IntsAre vs ns) : 0 ≤ (lawAt ns 0).fmod 22 := fmod_pos_lo (by decide)
theorem pick_hi {vs : List Value} {ns : List Int} (_h : IntsAre vs ns) : (lawAt ns 0).fmod 22 < 2 ^ 63 := Int.lt_trans (fmod_pos_hi (by decide)) (by decide)
theorem field_ex {C : Cv} (g : GoodCv C) : ∃ (F' : Type) (iF : Field F') (_K : Over F' C.p), True := ⟨Zp C.p, Zp.field g.prime, Zp.over g.prime, trivial⟩
theorem at_bits {vs : List Value} {ns : List Int} (_h : IntsAre vs ns) (hl : (PyData.list (ns.map PyData.int)).layable0 = true) : Builtin.Int.intBits (lawAt ns 5) ≤ 1048576 := by
  unfold lawAt
  split
  · rename_i h
    have hlt : Int.toNat 5 < ns.length := by omega
    rw [List.getD_eq_getElem?_getD, List.getElem?_eq_getElem hlt]
    exact PyData.bits_item_of_ints hl (List.getElem_mem hlt)
  · decide
theorem neg_pt {F' : Type} [iF : Field F'] {C : Cv} {K : Over F' C.p} {news : List (Addr × Obj)} {D : Addr} {t t' : Tok} {n : Nat} {z : F' × F'} (g : GoodCv C) (ho : On (K.c C.a) (K.c C.b) (some z)) :
    PtAt C K ((D, tupN [.int (K.v z.1) t, .int (C.p - K.v z.2) t'] n) :: news) (.ref D) (some (z.1, -z.2)) := by
  refine PtAt.head (neg_on ho) ⟨D, t, t', n, rfl, ?_⟩
  have hy := y_ne (g.no F' K) ho
  have e : K.v (-z.2) = C.p - K.v z.2 := by
    have h0 := K.v0 z.2
    have h1 := K.vp z.2
    have hne : K.v z.2 ≠ 0 := fun e => hy (by rw [← K.cv z.2, e, K.zero])
    refine K.inj ?_ (K.v0 _) (K.vp _) (by omega) (by omega)
    rw [K.cv, K.sub, K.np, K.cv]
    grind
  dsimp only
  rw [e]
theorem n_small {C : Cv} (x : Int) (hC : C = secp) : (x.fmod 41).fmod C.n < 2 ^ 17 := by
  have l0 := fmod_pos_lo (x := x) (n := 41) (by decide)
  have l1 := fmod_pos_hi (x := x) (n := 41) (by decide)
  have hN : (41 : Int) < (C.n : Int) := by rw [hC]; decide
  rw [Int.fmod_eq_emod_of_nonneg _ (by omega), Int.emod_eq_of_lt l0 (by omega)]
  exact Int.lt_trans l1 (by decide)
theorem n_small' {C : Cv} (x : Int) (hN : 0 < (C.n : Int)) (h : C.n < 2 ^ 17) : x.fmod C.n < 2 ^ 17 := by
  have l1 := fmod_pos_hi (x := x) hN
  have : ((2 ^ 17 : Nat) : Int) = (2 : Int) ^ 17 := by decide
  have : (C.n : Int) < (2 : Int) ^ 17 := by rw [← this]; exact Int.ofNat_lt.mpr h
  exact Int.lt_trans l1 this
theorem inv_facts {C : Cv} {F' : Type} [iF : Field F'] (K : Over F' C.p) (g : GoodCv C) (x : Int) (h : ¬ x.fmod C.p = 0) : 0 < invF x C.p ∧ invF x C.p < C.p ∧ (x * invF x C.p).fmod C.p = 1 := by
  have hp0 : 0 < C.p := by have := g.p2; omega
  have hx : K.c x ≠ 0 := by
    intro e
    rw [← K.fmod hp0] at e
    exact h ((K.z_iff (fmod_lo hp0 _) (fmod_hi hp0 _)).mp e)
  have e := K.inv_mul g.prime hx
  have hn : x ≠ 0 := by
    intro z; subst z; exact hx K.zero
  have lo : 0 ≤ invF x C.p := by unfold invF; rw [if_neg hn]; exact fmod_lo hp0 _
  have hi : invF x C.p < C.p := by unfold invF; rw [if_neg hn]; exact fmod_hi hp0 _
  refine ⟨?_, hi, ?_⟩
  · rcases Int.lt_or_eq_of_le lo with k | k
    · exact k
    · rw [← k, K.zero] at e
      exact absurd e (by grind)
  · have h2 := g.p2
    refine K.inj ?_ (fmod_lo hp0 _) (fmod_hi hp0 _) (by decide) (by omega)
    rw [K.fmod hp0, K.mul, CommSemiring.mul_comm, e, K.one]
theorem inv_zero0 (p : Int) : invF 0 p = 0 := rfl

end
section
open Lean.Grind PySem PySem.W PyProof.Rows PySem.Calls PySem.Spec
set_option Elab.async false
set_option maxRecDepth 100000
set_option maxHeartbeats 4000000
set_option linter.unusedVariables false
theorem fillL : (hd.heap_39 = hd.heap_39) ∧ PySem.Challenge.rw_iv0041_01 = PySem.Challenge.rw_iv0041_01 := by
  k_fill
  exact ⟨rfl, rfl⟩

local macro_rules | `(tactic| walk_at "call ref") => `(tactic| (k_here; k_dflt (refine' double_sem (iF := ?iviF) ?ivB ?ivF ?ivX ?ivN ?ivT ?ivK ?ivd ?ivu ?ivp ?ivR ?ivc ?ivg ?_; (case ivB => k_asm); (case ivF => k_asm); (case ivX => k_asm); (case ivN => k_asm); (case ivT => k_asm); (case ivK => rfl); (case ivd => ktr_room); (case ivu => ktr_units); (case ivp => k_mem); (case ivR => assumption); (case ivc => ktr_rel); (case ivg => assumption); intro D' h' tk' t1' t2' t3' x' y' z' n' e' F' N')))
local macro_rules | `(tactic| walk_at "call ref") => `(tactic| (k_here; k_dflt (refine' add_sem (iF := ?iviF) ?ivB ?ivF ?ivX ?ivN ?ivT ?ivK ?ivd ?ivu ?ivp ?ivq ?ivR ?ivS ?ivc ?ivg ?_; (case ivB => k_asm); (case ivF => k_asm); (case ivX => k_asm); (case ivN => k_asm); (case ivT => k_asm); (case ivK => rfl); (case ivd => ktr_room); (case ivu => ktr_units); (case ivp => k_mem); (case ivq => k_mem); (case ivR => assumption); (case ivS => assumption); (case ivc => ktr_rel); (case ivg => assumption); intro D' h' tk' t1' t2' t3' x' y' z' n' e' F' N')))
local macro_rules | `(tactic| walk_at "call ref") => `(tactic| (k_here; k_dflt (refine' from_sem (iF := ?iviF) ?ivB ?ivF ?ivX ?ivN ?ivT ?ivK ?ivd ?ivu ?ivp ?ivR ?ivc ?ivg ?_; (case ivB => k_asm); (case ivF => k_asm); (case ivX => k_asm); (case ivN => k_asm); (case ivT => k_asm); (case ivK => rfl); (case ivd => ktr_room); (case ivu => ktr_units); (case ivp => k_mem); (case ivR => assumption); (case ivc => ktr_rel); (case ivg => assumption); intro D' h' tk' t1' t2' x' y' n' e' F' N')))
local macro_rules | `(tactic| walk_at "call ref") => `(tactic| (k_here; k_dflt (refine' to_sem (iF := ?iviF) ?ivB ?ivF ?ivX ?ivN ?ivT ?ivK ?ivd ?ivu ?ivp ?ivR ?ivg ?_; (case ivB => k_asm); (case ivF => k_asm); (case ivX => k_asm); (case ivN => k_asm); (case ivT => k_asm); (case ivK => rfl); (case ivd => ktr_room); (case ivu => ktr_units); (case ivp => k_mem); (case ivR => assumption); (case ivg => assumption); intro D' h' tk' t1' t2' t3' n' e' F' N')))
local macro_rules | `(tactic| walk_at "call ref") => `(tactic| (k_here; k_dflt (refine' jmul_sem (iF := ?iviF) ?ivB ?ivF ?ivX ?ivN ?ivT ?ivK ?ivd ?ivu ?ivp ?ivR ?ivc ?ivg ?ivn ?_; (case ivB => k_asm); (case ivF => k_asm); (case ivX => k_asm); (case ivN => k_asm); (case ivT => k_asm); (case ivK => rfl); (case ivd => ktr_room); (case ivu => ktr_units); (case ivp => k_mem); (case ivR => assumption); (case ivc => ktr_rel); (case ivg => assumption); (case ivn => assumption); intro D' h' tk' t1' t2' t3' x' y' z' n' e' F' N')))
local macro_rules | `(tactic| walk_at "call ref") => `(tactic| (k_here; k_dflt (refine' multiply_sem (iF := ?iviF) ?ivB ?ivF ?ivX ?ivN ?ivT ?ivK ?ivd ?ivu ?ivp ?ivR ?ivc ?ivg ?ivn ?_; (case ivB => k_asm); (case ivF => k_asm); (case ivX => k_asm); (case ivN => k_asm); (case ivT => k_asm); (case ivK => rfl); (case ivd => ktr_room); (case ivu => ktr_units); (case ivp => k_mem); (case ivR => assumption); (case ivc => ktr_rel); (case ivg => assumption); (case ivn => assumption); intro D' h' tk' t1' t2' x' y' n' e' F' N')))
local macro_rules | `(tactic| walk_at "call ref") => `(tactic| (k_here; k_dflt (refine' plus_sem (iF := ?iviF) ?ivB ?ivF ?ivX ?ivN ?ivT ?ivK ?ivd ?ivu ?ivp ?ivq ?ivR ?ivS ?ivc ?ivg ?_; (case ivB => k_asm); (case ivF => k_asm); (case ivX => k_asm); (case ivN => k_asm); (case ivT => k_asm); (case ivK => rfl); (case ivd => ktr_room); (case ivu => ktr_units); (case ivp => k_mem); (case ivq => k_mem); (case ivR => assumption); (case ivS => assumption); (case ivc => ktr_rel); (case ivg => assumption); intro D' h' tk' t1' t2' x' y' n' e' F' N')))
local macro_rules | `(tactic| walk_at "call ref") => `(tactic| (k_here; k_dflt (refine' lsum_sem (iF := ?iviF) ?ivB ?ivF ?ivX ?ivN ?ivT ?ivK ?ivd ?ivu ?ivc ?ivg ?ivP ?ivR ?_; (case ivB => k_asm); (case ivF => k_asm); (case ivX => k_asm); (case ivN => k_asm); (case ivT => k_asm); (case ivK => rfl); (case ivd => ktr_room); (case ivu => ktr_units); (case ivc => ktr_rel); (case ivg => assumption); (case ivP => tb_start); (case ivR => tb_start); intro v' e' h' tk' P' F' N')))
local macro_rules | `(tactic| walk_at "call ref") => `(tactic| (k_here; k_dflt (refine' times_sem (iF := ?iviF) ?ivB ?ivF ?ivX ?ivN ?ivT ?ivK ?ivd ?ivu ?ivc ?ivg ?ivP ?_; (case ivB => k_asm); (case ivF => k_asm); (case ivX => k_asm); (case ivN => k_asm); (case ivT => k_asm); (case ivK => rfl); (case ivd => ktr_room); (case ivu => ktr_units); (case ivc => ktr_rel); (case ivg => assumption); (case ivP => first | tb_start | exact first_pt (by assumption) (by assumption) (by k_mem)); intro v' e' h' tk' P' F' N')))
local macro_rules | `(tactic| walk_at "call ref") => `(tactic| (k_here; k_dflt (refine' flat_sem (iF := ?iviF) ?ivB ?ivF ?ivX ?ivN ?ivT ?ivK ?ivd ?ivu ?ivP ?_; (case ivB => k_asm); (case ivF => k_asm); (case ivX => k_asm); (case ivN => k_asm); (case ivT => k_asm); (case ivK => rfl); (case ivd => ktr_room); (case ivu => ktr_units); (case ivP => tb_start); intro D' h' tk' t1' t2' x' y' n' P' F' N')))
local macro_rules | `(tactic| walk_at "call ref") => `(tactic| (k_here; k_dflt (refine' scaled_sem (iF := ?iviF) ?ivB ?ivF ?ivX ?ivN ?ivT ?ivK ?ivd ?ivu ?ivc ?ivg ?ivP ?ivl ?ivh ?_; (case ivB => k_asm); (case ivF => k_asm); (case ivX => k_asm); (case ivN => k_asm); (case ivT => k_asm); (case ivK => rfl); (case ivd => ktr_room); (case ivu => ktr_units); (case ivc => ktr_rel); (case ivg => assumption); (case ivP => tb_start); (case ivl => omega); (case ivh => omega); intro D' h' tk' t1' t2' t3' x' y' n' P' F' N')))
local macro_rules | `(tactic| walk_at "call ref") => `(tactic| (k_here; k_dflt (refine' at_says ?ivB ?ivF ?ivX ?ivN ?ivT ?ivK ?ivd ?ivu ?ivL ?ivI ?ivl ?iv0 ?iv9 ?_; (case ivB => k_asm); (case ivF => k_asm); (case ivX => k_asm); (case ivN => k_asm); (case ivT => k_asm); (case ivK => rfl); (case ivd => ktr_room); (case ivu => ktr_units); (case ivL => assumption); (case ivI => assumption); (case ivl => omega); (case iv0 => decide); (case iv9 => decide); intro v' h' tk' t1' e' F' N'; subst e')))
local macro_rules | `(tactic| walk_at "call ref") => `(tactic| (k_here; k_dflt (refine' secp_says ?ivB ?ivF ?ivX ?ivN ?ivT ?ivK ?ivd ?ivu  ?_; (case ivB => k_asm); (case ivF => k_asm); (case ivX => k_asm); (case ivN => k_asm); (case ivT => k_asm); (case ivK => rfl); (case ivd => ktr_room); (case ivu => ktr_units); intro D' h' tk' t1' t2' t3' t4' t5' t6' n' F' N')))
local macro_rules | `(tactic| walk_at "call ref") => `(tactic| (k_here; k_dflt (refine' curves_get ?ivB ?ivF ?ivX ?ivN ?ivT ?ivK ?ivd ?ivu ?ivi ?_; (case ivB => k_asm); (case ivF => k_asm); (case ivX => k_asm); (case ivN => k_asm); (case ivT => k_asm); (case ivK => rfl); (case ivd => ktr_room); (case ivu => ktr_units); (case ivi => assumption); intro D' vs' n' news' h' tk' c' F' N' hx' hc')))
local macro_rules | `(tactic| walk_at "call ref") => `(tactic| (k_here; k_dflt (refine' inv_says ?ivB ?ivF ?ivX ?ivN ?ivT ?ivK ?ivd ?ivu ?ivP ?ivb ?_; (case ivB => k_asm); (case ivF => k_asm); (case ivX => k_asm); (case ivN => k_asm); (case ivT => k_asm); (case ivK => rfl); (case ivd => ktr_room); (case ivu => ktr_units); (case ivP => assumption); (case ivb => assumption); intro v' h' tk' t1' e' b' F' N'; subst e')))
local macro_rules | `(tactic| walk_at "compareOp NotEq ref ref") => `(tactic| (k_here; (with_reducible show wpAny _ _ (compareOp CmpOp.NotEq (Value.ref _) (Value.ref _)) _ _ _); k_dflt (first
  | ((refine' pf_ne (iF := ?iviF) ?ivu ?ivN ?iva ?ivb ?ivP ?ivQ ?_); (case ivu => units_room); (case ivN => k_asm); (case iva => k_mem); (case ivb => k_mem); (case ivP => assumption); (case ivQ => assumption))
  | ((refine' pf_ne3 (iF := ?iviF) ?ivu ?ivN ?iva ?ivb ?ivP ?ivQ ?ivR ?_); (case ivu => units_room); (case ivN => k_asm); (case iva => k_mem); (case ivb => k_mem); (case ivP => assumption); (case ivQ => assumption); (case ivR => assumption))
  | ((refine' secp_ne ?ivu ?ivF ?ivX ?ivN ?ivb ?ivc ?ive ?_); (case ivu => units_room); (case ivF => k_asm); (case ivX => k_asm); (case ivN => k_asm); (case ivb => k_mem); (case ivc => ktr_rel); (case ive => assumption)))))
local macro_rules | `(tactic| walk_at "subscriptTail") => `(tactic| (k_here; (with_reducible show wpAny _ _ (subscriptTail _ _ (Value.ref _) (Value.int _ _)) _ _ _); (refine' list_item ?ivl ?iv0 ?ivh ?ivx ?_); (case ivl => exact News.isList (by k_asm) (List.Mem.head _)); (case iv0 => assumption); (case ivh => assumption); (case ivx => assumption)))
local macro_rules | `(tactic| walk_at "eval IfExp") => `(tactic| (k_here; (with_reducible show wpAny _ _ (eval (PySem.Expr.IfExp _ _ _ _) _) _ _ _); (fail_if_success (have : Pass := by assumption)); refine Stop.out ?_))
local macro_rules | `(tactic| walk_at "exec If") => `(tactic| (k_here; (with_reducible show wpAny _ _ (exec (PySem.Stmt.If _ _ _ _) _) _ _ _); (fail_if_success (have : Pass := by assumption)); refine Stop.out ?_))

local macro_rules | `(tactic| ktn_open) => `(tactic| repeat' (first | (k_unfold; (try dsimp only)) | walk1 | (dsimp only; walk1) | (leave1; walk_say "STEP leave1"; try dsimp only) | fail "no step"))
local macro_rules | `(tactic| walk_at "compareOp Eq int int") => `(tactic| (k_here; (with_reducible refine eq_false_int ?ivh ?_); (case ivh => with_reducible assumption)))
local macro_rules | `(tactic| walk_at "compareOp IsNot") => `(tactic| (k_here; k_dflt (refine' isnot_pt (iF := ?iviF) ?ivP ?ivn ?ivs); (case ivP => tb_start); (case' ivn => (intro e1' e2'; subst e2')); (case' ivs => (intro a' tx' ty' n' z' ho' e1' e2' hm'; subst e2'))))
local macro_rules | `(tactic| walk_at "compareOp Eq int int") => `(tactic| (k_here; (with_reducible refine eq_true_int ?ivh ?_); (case ivh => with_reducible assumption)))
local macro_rules | `(tactic| walk_at "compareOp NotEq int int") => `(tactic| (k_here; first | ((with_reducible refine ne_true_int ?ivh ?_); (case ivh => with_reducible assumption)) | ((with_reducible refine ne_false_int ?ivh ?_); (case ivh => with_reducible assumption))))
local macro_rules | `(tactic| walk_at "compareOp Lt int int") => `(tactic| (k_here; (with_reducible refine lt_true_int ?ivh ?_); (case ivh => with_reducible assumption)))
set_option maxHeartbeats 8000000 in
theorem law_holds : PySem.Challenge.rw_iv0041_01.Holds := hd (by
  k_go0
  all_goals (try k_fold)
  (rename IntsAre _ _ => hI)
  obtain ⟨C, gC, hC⟩ := pick_of hI
  obtain ⟨F', iF, K, _⟩ := field_ex gC
  have bits5 := at_bits hI (by assumption)
  have hasK : HasK K := True.intro
  have plo := pick_lo hI
  have phi := pick_hi hI
  (with_reducible rename Fr _ _ _ _ => F0)
  refine cut_end F0 (fun JE hJE => ?_) (fun h' tk' m' F' => ?_)
  rotate_left
  · clear F0
    k_steps
  ktn_open
  unfold Stop
  (with_reducible rename List Int => ns)
  generalize (lawAt ns 0).fmod 22 = pk at *
  (with_reducible rename Fr _ _ _ _ => F9)
  (with_reducible rename News _ _ _ _ => N9)
  refine cut_curve C F9 (fun J hJ => ?_) ?_
  · have pass : Pass := ⟨⟩
    rcases hC with ⟨h21, hCs⟩ | ⟨h21, hcv, hn17⟩
    · subst h21
      ktn_open
      exact hJ 15 _ _ _ (by k_asm) (by k_asm) (.inr ⟨rfl, hCs⟩)
    · ktn_open
      exact hJ _ _ _ _ (by k_asm) (by k_asm) (by assumption)
  clear F9 N9
  intro ca news1 h1 tk1 F1 N1 hc1
  ktn_open
  unfold Stop
  (with_reducible rename Fr _ _ _ _ => F9)
  (with_reducible rename News _ _ _ _ => N9)
  refine cut_if F9 N9 (fun J hJ => ?_) ?_
  · have pass : Pass := ⟨⟩
    rcases hC with ⟨h21, hCs⟩ | ⟨h21, hcv, hn17⟩
    · subst h21
      ktn_open
      exact hJ _ _ (by k_asm) (news_sub1 (by k_asm))
    · ktn_open
      exact hJ _ _ (by k_asm) (by k_asm)
  clear F9 N9
  intro h2 tk2 F2 N2
  have hP := gC.pos
  have hP2 : 2 < (C.p : Int) := by have := gC.p2; omega
  have hN1 : 0 < (C.n : Int) := by have := gC.n1; omega
  have bP := gC.bitsP
  have bN := gC.bitsN
  ktn_open
  unfold Stop
  (with_reducible rename Fr _ _ _ _ => F9)
  (with_reducible rename News _ _ _ _ => N9)
  refine cut_int (fun k => 0 < k) F9 N9 (fun J hJ => ?_) ?_
  · have pass : Pass := ⟨⟩
    rcases hC with ⟨h21, hCs⟩ | ⟨h21, hcv, hn17⟩
    · subst h21
      ktn_open
      exact hJ _ _ _ _ (by decide) (by k_asm) (by k_asm)
    · ktn_open
      exact hJ _ _ _ _ hN1 (by k_asm) (by k_asm)
  clear F9 N9
  intro most tm h3 tk3 hmost F3 N3
  replace hmost : 0 < most := hmost
  ktn_open
  unfold Stop
  (with_reducible rename Fr _ _ _ _ => F9)
  (with_reducible rename News _ _ _ _ => N9)
  refine cut_other K F9 N9 (fun J hJ => ?_) ?_
  · have pass : Pass := ⟨⟩
    ktn_open
    · exact hJ _ _ _ _ _ (neg_pt gC (by assumption)) (by k_asm) (by k_asm)
    all_goals (
      (with_reducible rename Fr _ _ _ _ => F8)
      (with_reducible rename News _ _ _ _ => N8)
      have F7 := fr_name (x := Str.ofString "other") F8 rfl
      exact hJ _ _ _ _ _ (PtAt.cons (by tb_start)) F7 (news_dup N8 (List.Mem.head _)))
  clear F9 N9
  intro v2 q2 e4 h4 tk4 Pother F4 N4
  ktn_open
  unfold Stop
  (with_reducible rename Fr _ _ _ _ => F9)
  (with_reducible rename News _ _ _ _ => N9)
  refine cut_int (fun k => k.fmod C.n < 2 ^ 17) F9 N9 (fun J hJ => ?_) ?_
  · have pass : Pass := ⟨⟩
    rcases hC with ⟨h21, hCs⟩ | ⟨h21, hcv, hn17⟩
    · subst h21
      ktn_open
      exact hJ _ _ _ _ (n_small _ hCs) (by k_asm) (by k_asm)
    · ktn_open
      exact hJ _ _ _ _ (n_small' _ hN1 hn17) (by k_asm) (by k_asm)
  clear F9 N9
  intro n tn h6 tk6 hn F6 N6
  replace hn : n.fmod C.n < 2 ^ 17 := hn
  have hP1 : 0 < (C.p : Int) - 1 := by omega
  have s4l := fmod_pos_lo (x := lawAt ns 4) hP1
  have s4h := fmod_pos_hi (x := lawAt ns 4) hP1
  have s5l := fmod_pos_lo (x := lawAt ns 5) hP1
  have s5h := fmod_pos_hi (x := lawAt ns 5) hP1
  ktn_open
  unfold Stop
  (with_reducible rename Fr _ _ _ _ => F9)
  (with_reducible rename News _ _ _ _ => N9)
  refine cut_if F9 N9 (fun J hJ => ?_) ?_
  · have pass : Pass := ⟨⟩
    ktn_open
    exact hJ _ _ (by k_asm) (news_sub (by k_asm) (fun x hx => by repeat' (first | assumption | refine List.mem_cons_of_mem _ ?_)))
  clear F9 N9
  intro h5 tk5 F5 N5
  ktn_open
  unfold Stop
  (with_reducible rename Fr _ _ _ _ => F9)
  (with_reducible rename News _ _ _ _ => N9)
  refine cut_if F9 N9 (fun J hJ => ?_) ?_
  · have pass : Pass := ⟨⟩
    ktn_open
    exact hJ _ _ (by k_asm) (news_sub (by k_asm) (fun x hx => by repeat' (first | assumption | refine List.mem_cons_of_mem _ ?_)))
  clear F9 N9
  intro h5 tk5 F5 N5
  ktn_open
  unfold Stop
  (with_reducible rename Fr _ _ _ _ => F9)
  (with_reducible rename News _ _ _ _ => N9)
  refine cut_if F9 N9 (fun J hJ => ?_) ?_
  · have pass : Pass := ⟨⟩
    ktn_open
    exact hJ _ _ (by k_asm) (news_sub (by k_asm) (fun x hx => by repeat' (first | assumption | refine List.mem_cons_of_mem _ ?_)))
  clear F9 N9
  intro h5 tk5 F5 N5
  ktn_open
  unfold Stop
  (with_reducible rename Fr _ _ _ _ => F9)
  (with_reducible rename News _ _ _ _ => N9)
  refine cut_if F9 N9 (fun J hJ => ?_) ?_
  · have pass : Pass := ⟨⟩
    ktn_open
    exact hJ _ _ (by k_asm) (news_sub (by k_asm) (fun x hx => by repeat' (first | assumption | refine List.mem_cons_of_mem _ ?_)))
  clear F9 N9
  intro h5 tk5 F5 N5
  ktn_open
  unfold Stop
  (with_reducible rename Fr _ _ _ _ => F9)
  (with_reducible rename News _ _ _ _ => N9)
  refine cut_if F9 N9 (fun J hJ => ?_) ?_
  · have pass : Pass := ⟨⟩
    ktn_open
    exact hJ _ _ (by k_asm) (news_sub (by k_asm) (fun x hx => by repeat' (first | assumption | refine List.mem_cons_of_mem _ ?_)))
  clear F9 N9
  intro h5 tk5 F5 N5
  have if0 := inv_facts K gC (lawAt ns 5)
  ktn_open
  unfold Stop
  have pass : Pass := ⟨⟩
  by_cases hz : (lawAt ns 5).fmod C.p = 0
  · by_cases hz0 : lawAt ns 5 = 0
    · have hi0 : invF (lawAt ns 5) C.p = 0 := by rw [hz0]; rfl
      ktn_open
      exact hJE _ _ _ (by k_asm)
    · ktn_open
      exact hJE _ _ _ (by k_asm)
  · obtain ⟨hi1, hi2, hi3⟩ := if0 hz
    ktn_open
    exact hJE _ _ _ (by k_asm))

end
end Iv
end
theorem PySem.Challenge.cw_iv0041_01_holds : PySem.Challenge.rw_iv0041_01.Holds :=
  Iv.law_holds
