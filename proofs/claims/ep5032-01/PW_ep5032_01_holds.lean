import PyProof.Rows.All
import Wide.All
import OpenK.AllK
import Wide.FinOn
import PySem.Challenge.RW_ep5032_01
set_option Elab.async false
set_option maxRecDepth 100000
set_option linter.all false

section
open PySem PySem.W PyProof.Rows PySem.Spec PySem.Calls
namespace Mine
open PySem.Builtin
/-- the law's table of lead octets -/
def span (l : Int) : Int × Int × Int :=
  if l < 128 then (0,0,0) else if 194 ≤ l ∧ l ≤ 223 then (1,128,191) else if l = 224 then (2,160,191) else if l = 237 then (2,128,159)
  else if 225 ≤ l ∧ l ≤ 239 then (2,128,191) else if l = 240 then (3,144,191) else if l = 244 then (3,128,143) else if 241 ≤ l ∧ l ≤ 243 then (3,128,191) else (-1,0,0)
/-- the inner walk: how many more were taken, and the value -/
def inner : Nat → Int → Int → Int → List Int → Nat × Int
  | 0, v, _, _, _ => (0, v)
  | _ + 1, v, _, _, [] => (0, v)
  | n + 1, v, lo, hi, x :: xs => if lo ≤ x ∧ x ≤ hi then ((inner n (v * 64 + x % 64) 128 191 xs).1 + 1, (inner n (v * 64 + x % 64) 128 191 xs).2) else (0, v)
/-- what a lead with more behind it makes -/
def multi (more : Nat) (v lo hi : Int) (rest : List Int) : Int × Nat :=
  (if (inner more v lo hi rest).1 = more then (inner more v lo hi rest).2 else 65533, (inner more v lo hi rest).1 + 1)
/-- one sign: the sign and how many octets it takes -/
def one (l : Int) (rest : List Int) : Int × Nat :=
  if (span l).1 = 0 then (l, 1) else if (span l).1 < 0 then (65533, 1)
  else multi (span l).1.toNat (l % (64 / 2 ^ (span l).1.toNat)) (span l).2.1 (span l).2.2 rest
def signsF : Nat → List Int → List Int
  | 0, _ => []
  | _ + 1, [] => []
  | n + 1, x :: xs => (one x xs).1 :: signsF n ((x :: xs).drop (one x xs).2)
def signs (run : List Int) : List Int := signsF run.length run

def octs (b : Array UInt8) : List Int := b.toList.map fun x => (x.toNat : Int)
theorem octs_length (b : Array UInt8) : (octs b).length = b.size := by simp [octs]
theorem octs_drop (b : Array UInt8) (q : Nat) : (octs b).drop q = match b[q]? with | none => [] | some x => (x.toNat : Int) :: (octs b).drop (q + 1) := by
  cases h : b[q]? with
  | none =>
    have : b.size ≤ q := by simpa using h
    simp [octs, this]
  | some x =>
    have hq : q < b.size := by
      rcases Nat.lt_or_ge q b.size with h' | h'
      · exact h'
      · rw [Array.getElem?_eq_none h'] at h; cases h
    have hx : (octs b)[q]? = some (x.toNat : Int) := by
      simp only [octs, List.getElem?_map, Array.getElem?_toList, h, Option.map_some]
    rw [List.drop_eq_getElem_cons (by rw [octs_length]; exact hq)]
    congr 1
    rw [List.getElem?_eq_getElem (by rw [octs_length]; exact hq)] at hx
    exact Option.some.inj hx
def Meets1 (b : Array UInt8) (p : Nat) (o : Int × Nat) : Prop :=
  1 ≤ o.2 ∧ p + o.2 ≤ b.size ∧ ((∃ c : Nat, Bytes.utf8At b p = (.char c, p + o.2) ∧ o.1 = c) ∨
    (∃ (r : String) (x : Nat), Bytes.utf8At b p = (.bad p (p + o.2) r, x) ∧ o.1 = 65533 ∧ (Str.ofString r).length ≤ 100))
theorem len1 : (Str.ofString "invalid start byte").length ≤ 100 := by decide
theorem len2 : (Str.ofString "unexpected end of data").length ≤ 100 := by decide
theorem len3 : (Str.ofString "invalid continuation byte").length ≤ 100 := by decide
theorem span_cases (c : Nat) (h : c < 256) : (c < 128 ∧ span c = (0, 0, 0)) ∨ (128 ≤ c ∧ c < 194 ∧ span c = (-1, 0, 0)) ∨ (194 ≤ c ∧ c ≤ 223 ∧ span c = (1, 128, 191)) ∨ (c = 224 ∧ span c = (2, 160, 191)) ∨
    (225 ≤ c ∧ c ≤ 236 ∧ span c = (2, 128, 191)) ∨ (c = 237 ∧ span c = (2, 128, 159)) ∨ (238 ≤ c ∧ c ≤ 239 ∧ span c = (2, 128, 191)) ∨ (c = 240 ∧ span c = (3, 144, 191)) ∨
    (241 ≤ c ∧ c ≤ 243 ∧ span c = (3, 128, 191)) ∨ (c = 244 ∧ span c = (3, 128, 143)) ∨ (245 ≤ c ∧ span c = (-1, 0, 0)) := by
  have all : ∀ c : _root_.Fin 256, (c.val < 128 ∧ span c.val = (0, 0, 0)) ∨ (128 ≤ c.val ∧ c.val < 194 ∧ span c.val = (-1, 0, 0)) ∨ (194 ≤ c.val ∧ c.val ≤ 223 ∧ span c.val = (1, 128, 191)) ∨ (c.val = 224 ∧ span c.val = (2, 160, 191)) ∨
    (225 ≤ c.val ∧ c.val ≤ 236 ∧ span c.val = (2, 128, 191)) ∨ (c.val = 237 ∧ span c.val = (2, 128, 159)) ∨ (238 ≤ c.val ∧ c.val ≤ 239 ∧ span c.val = (2, 128, 191)) ∨ (c.val = 240 ∧ span c.val = (3, 144, 191)) ∨
    (241 ≤ c.val ∧ c.val ≤ 243 ∧ span c.val = (3, 128, 191)) ∨ (c.val = 244 ∧ span c.val = (3, 128, 143)) ∨ (245 ≤ c.val ∧ span c.val = (-1, 0, 0)) := by decide +kernel
  exact all ⟨c, h⟩
theorem at_one (b : Array UInt8) (p : Nat) (hp : p < b.size) : Meets1 b p (one (b[p].toNat : Int) ((octs b).drop (p + 1))) := by
  have h8 : b[p].toNat < 256 := b[p].toNat_lt
  have hg : b.getD p 0 = b[p] := by simp [Array.getD, hp]
  rcases span_cases _ h8 with ⟨h, hs⟩ | ⟨h, h', hs⟩ | ⟨h, h', hs⟩ | ⟨h, hs⟩ | ⟨h, h', hs⟩ | ⟨h, hs⟩ | ⟨h, h', hs⟩ | ⟨h, hs⟩ | ⟨h, h', hs⟩ | ⟨h, hs⟩ | ⟨h, hs⟩
  · refine ⟨by simp [one, hs], by simp [one, hs]; omega, .inl ⟨b[p].toNat, ?_, by simp [one, hs]⟩⟩
    unfold Bytes.utf8At
    simp only [hg, one, hs]
    simp [h]
  · refine ⟨by simp [one, hs], by simp [one, hs]; omega, .inr ⟨"invalid start byte", p + 1, ?_, by simp [one, hs], len1⟩⟩
    unfold Bytes.utf8At
    simp only [hg, one, hs]
    simp [show ¬ b[p].toNat < 128 by omega, show ¬ 194 ≤ b[p].toNat by omega, show ¬ 225 ≤ b[p].toNat by omega, show ¬ 241 ≤ b[p].toNat by omega, show ¬ b[p].toNat = 224 by omega, show ¬ b[p].toNat = 237 by omega, show ¬ b[p].toNat = 240 by omega, show ¬ b[p].toNat = 244 by omega]
  · cases h1 : b[p + 1]? with
    | none =>
      have z1 : b.size ≤ p + 1 := by simpa using h1
      have u : Bytes.utf8At b p = (.bad p (p + 1) "unexpected end of data", p + 1) := by
        unfold Bytes.utf8At; simp [List.range, List.range.loop, Except.bind, hg, show ¬ b[p].toNat < 128 by omega, show 194 ≤ b[p].toNat by omega, show b[p].toNat ≤ 223 by omega, h1]; omega
      have u2 : one (b[p].toNat : Int) ((octs b).drop (p + 1)) = (65533, 1) := by simp [one, hs, multi, inner, octs_drop b (p + 1), octs_drop b (p + 1 + 1), octs_drop b (p + 1 + 1 + 1), h1]
      rw [u2]; exact ⟨by simp, by simp; omega, .inr ⟨_, _, u, rfl, len2⟩⟩
    | some x1 =>
      have y1 : p + 1 < b.size := by
        rcases Nat.lt_or_ge (p + 1) b.size with h' | h'
        · exact h'
        · rw [Array.getElem?_eq_none h'] at h1; cases h1
      by_cases c1 : 128 ≤ x1.toNat ∧ x1.toNat ≤ 191
      · have d1 : (128 : Int) ≤ (x1.toNat : Int) ∧ (x1.toNat : Int) ≤ 191 := by omega
        have u : ∃ c : Nat, Bytes.utf8At b p = (.char c, p + 2) ∧ (one (b[p].toNat : Int) ((octs b).drop (p + 1))) = ((c : Int), 2) := by
          refine ⟨_, by unfold Bytes.utf8At; simp [List.range, List.range.loop, Except.bind, hg, show ¬ b[p].toNat < 128 by omega, show 194 ≤ b[p].toNat by omega, show b[p].toNat ≤ 223 by omega, h1, c1, d1]; rfl, ?_⟩
          simp [one, hs, multi, inner, octs_drop b (p + 1), octs_drop b (p + 1 + 1), octs_drop b (p + 1 + 1 + 1), h1, c1, d1] <;> omega
        obtain ⟨c, u1, u2⟩ := u
        rw [u2]; exact ⟨by simp, by simp; omega, .inl ⟨c, u1, rfl⟩⟩
      · have d1 : ¬ ((128 : Int) ≤ (x1.toNat : Int) ∧ (x1.toNat : Int) ≤ 191) := by omega
        have u : Bytes.utf8At b p = (.bad p (p + 1) "invalid continuation byte", p + 1) := by
          unfold Bytes.utf8At; simp [List.range, List.range.loop, Except.bind, hg, show ¬ b[p].toNat < 128 by omega, show 194 ≤ b[p].toNat by omega, show b[p].toNat ≤ 223 by omega, h1, c1, d1]
        have u2 : one (b[p].toNat : Int) ((octs b).drop (p + 1)) = (65533, 1) := by simp [one, hs, multi, inner, octs_drop b (p + 1), octs_drop b (p + 1 + 1), octs_drop b (p + 1 + 1 + 1), h1, c1, d1]
        rw [u2]; exact ⟨by simp, by simp; omega, .inr ⟨_, _, u, rfl, len3⟩⟩
  · cases h1 : b[p + 1]? with
    | none =>
      have z1 : b.size ≤ p + 1 := by simpa using h1
      have u : Bytes.utf8At b p = (.bad p (p + 1) "unexpected end of data", p + 1) := by
        unfold Bytes.utf8At; simp [List.range, List.range.loop, Except.bind, hg, h, h1]; omega
      have u2 : one (b[p].toNat : Int) ((octs b).drop (p + 1)) = (65533, 1) := by simp [one, hs, multi, inner, octs_drop b (p + 1), octs_drop b (p + 1 + 1), octs_drop b (p + 1 + 1 + 1), h1]
      rw [u2]; exact ⟨by simp, by simp; omega, .inr ⟨_, _, u, rfl, len2⟩⟩
    | some x1 =>
      have y1 : p + 1 < b.size := by
        rcases Nat.lt_or_ge (p + 1) b.size with h' | h'
        · exact h'
        · rw [Array.getElem?_eq_none h'] at h1; cases h1
      by_cases c1 : 160 ≤ x1.toNat ∧ x1.toNat ≤ 191
      · have d1 : (160 : Int) ≤ (x1.toNat : Int) ∧ (x1.toNat : Int) ≤ 191 := by omega
        cases h2 : b[p + 2]? with
        | none =>
          have z2 : b.size ≤ p + 2 := by simpa using h2
          have u : Bytes.utf8At b p = (.bad p (p + 2) "unexpected end of data", p + 2) := by
            unfold Bytes.utf8At; simp [List.range, List.range.loop, Except.bind, hg, h, h1, c1, d1, h2]; omega
          have u2 : one (b[p].toNat : Int) ((octs b).drop (p + 1)) = (65533, 2) := by simp [one, hs, multi, inner, octs_drop b (p + 1), octs_drop b (p + 1 + 1), octs_drop b (p + 1 + 1 + 1), h1, c1, d1, h2]
          rw [u2]; exact ⟨by simp, by simp; omega, .inr ⟨_, _, u, rfl, len2⟩⟩
        | some x2 =>
          have y2 : p + 2 < b.size := by
            rcases Nat.lt_or_ge (p + 2) b.size with h' | h'
            · exact h'
            · rw [Array.getElem?_eq_none h'] at h2; cases h2
          by_cases c2 : 128 ≤ x2.toNat ∧ x2.toNat ≤ 191
          · have d2 : (128 : Int) ≤ (x2.toNat : Int) ∧ (x2.toNat : Int) ≤ 191 := by omega
            have u : ∃ c : Nat, Bytes.utf8At b p = (.char c, p + 3) ∧ (one (b[p].toNat : Int) ((octs b).drop (p + 1))) = ((c : Int), 3) := by
              refine ⟨_, by unfold Bytes.utf8At; simp [List.range, List.range.loop, Except.bind, hg, h, h1, c1, d1, h2, c2, d2]; rfl, ?_⟩
              simp [one, hs, multi, inner, octs_drop b (p + 1), octs_drop b (p + 1 + 1), octs_drop b (p + 1 + 1 + 1), h1, c1, d1, h2, c2, d2] <;> omega
            obtain ⟨c, u1, u2⟩ := u
            rw [u2]; exact ⟨by simp, by simp; omega, .inl ⟨c, u1, rfl⟩⟩
          · have d2 : ¬ ((128 : Int) ≤ (x2.toNat : Int) ∧ (x2.toNat : Int) ≤ 191) := by omega
            have u : Bytes.utf8At b p = (.bad p (p + 2) "invalid continuation byte", p + 2) := by
              unfold Bytes.utf8At; simp [List.range, List.range.loop, Except.bind, hg, h, h1, c1, d1, h2, c2, d2]
            have u2 : one (b[p].toNat : Int) ((octs b).drop (p + 1)) = (65533, 2) := by simp [one, hs, multi, inner, octs_drop b (p + 1), octs_drop b (p + 1 + 1), octs_drop b (p + 1 + 1 + 1), h1, c1, d1, h2, c2, d2]
            rw [u2]; exact ⟨by simp, by simp; omega, .inr ⟨_, _, u, rfl, len3⟩⟩
      · have d1 : ¬ ((160 : Int) ≤ (x1.toNat : Int) ∧ (x1.toNat : Int) ≤ 191) := by omega
        have u : Bytes.utf8At b p = (.bad p (p + 1) "invalid continuation byte", p + 1) := by
          unfold Bytes.utf8At; simp [List.range, List.range.loop, Except.bind, hg, h, h1, c1, d1]
        have u2 : one (b[p].toNat : Int) ((octs b).drop (p + 1)) = (65533, 1) := by simp [one, hs, multi, inner, octs_drop b (p + 1), octs_drop b (p + 1 + 1), octs_drop b (p + 1 + 1 + 1), h1, c1, d1]
        rw [u2]; exact ⟨by simp, by simp; omega, .inr ⟨_, _, u, rfl, len3⟩⟩
  · cases h1 : b[p + 1]? with
    | none =>
      have z1 : b.size ≤ p + 1 := by simpa using h1
      have u : Bytes.utf8At b p = (.bad p (p + 1) "unexpected end of data", p + 1) := by
        unfold Bytes.utf8At; simp [List.range, List.range.loop, Except.bind, hg, show ¬ b[p].toNat < 128 by omega, show ¬ b[p].toNat ≤ 223 by omega, show ¬ b[p].toNat = 224 by omega, show ¬ b[p].toNat = 237 by omega, show 225 ≤ b[p].toNat by omega, show b[p].toNat ≤ 239 by omega, h1]; omega
      have u2 : one (b[p].toNat : Int) ((octs b).drop (p + 1)) = (65533, 1) := by simp [one, hs, multi, inner, octs_drop b (p + 1), octs_drop b (p + 1 + 1), octs_drop b (p + 1 + 1 + 1), h1]
      rw [u2]; exact ⟨by simp, by simp; omega, .inr ⟨_, _, u, rfl, len2⟩⟩
    | some x1 =>
      have y1 : p + 1 < b.size := by
        rcases Nat.lt_or_ge (p + 1) b.size with h' | h'
        · exact h'
        · rw [Array.getElem?_eq_none h'] at h1; cases h1
      by_cases c1 : 128 ≤ x1.toNat ∧ x1.toNat ≤ 191
      · have d1 : (128 : Int) ≤ (x1.toNat : Int) ∧ (x1.toNat : Int) ≤ 191 := by omega
        cases h2 : b[p + 2]? with
        | none =>
          have z2 : b.size ≤ p + 2 := by simpa using h2
          have u : Bytes.utf8At b p = (.bad p (p + 2) "unexpected end of data", p + 2) := by
            unfold Bytes.utf8At; simp [List.range, List.range.loop, Except.bind, hg, show ¬ b[p].toNat < 128 by omega, show ¬ b[p].toNat ≤ 223 by omega, show ¬ b[p].toNat = 224 by omega, show ¬ b[p].toNat = 237 by omega, show 225 ≤ b[p].toNat by omega, show b[p].toNat ≤ 239 by omega, h1, c1, d1, h2]; omega
          have u2 : one (b[p].toNat : Int) ((octs b).drop (p + 1)) = (65533, 2) := by simp [one, hs, multi, inner, octs_drop b (p + 1), octs_drop b (p + 1 + 1), octs_drop b (p + 1 + 1 + 1), h1, c1, d1, h2]
          rw [u2]; exact ⟨by simp, by simp; omega, .inr ⟨_, _, u, rfl, len2⟩⟩
        | some x2 =>
          have y2 : p + 2 < b.size := by
            rcases Nat.lt_or_ge (p + 2) b.size with h' | h'
            · exact h'
            · rw [Array.getElem?_eq_none h'] at h2; cases h2
          by_cases c2 : 128 ≤ x2.toNat ∧ x2.toNat ≤ 191
          · have d2 : (128 : Int) ≤ (x2.toNat : Int) ∧ (x2.toNat : Int) ≤ 191 := by omega
            have u : ∃ c : Nat, Bytes.utf8At b p = (.char c, p + 3) ∧ (one (b[p].toNat : Int) ((octs b).drop (p + 1))) = ((c : Int), 3) := by
              refine ⟨_, by unfold Bytes.utf8At; simp [List.range, List.range.loop, Except.bind, hg, show ¬ b[p].toNat < 128 by omega, show ¬ b[p].toNat ≤ 223 by omega, show ¬ b[p].toNat = 224 by omega, show ¬ b[p].toNat = 237 by omega, show 225 ≤ b[p].toNat by omega, show b[p].toNat ≤ 239 by omega, h1, c1, d1, h2, c2, d2]; rfl, ?_⟩
              simp [one, hs, multi, inner, octs_drop b (p + 1), octs_drop b (p + 1 + 1), octs_drop b (p + 1 + 1 + 1), h1, c1, d1, h2, c2, d2] <;> omega
            obtain ⟨c, u1, u2⟩ := u
            rw [u2]; exact ⟨by simp, by simp; omega, .inl ⟨c, u1, rfl⟩⟩
          · have d2 : ¬ ((128 : Int) ≤ (x2.toNat : Int) ∧ (x2.toNat : Int) ≤ 191) := by omega
            have u : Bytes.utf8At b p = (.bad p (p + 2) "invalid continuation byte", p + 2) := by
              unfold Bytes.utf8At; simp [List.range, List.range.loop, Except.bind, hg, show ¬ b[p].toNat < 128 by omega, show ¬ b[p].toNat ≤ 223 by omega, show ¬ b[p].toNat = 224 by omega, show ¬ b[p].toNat = 237 by omega, show 225 ≤ b[p].toNat by omega, show b[p].toNat ≤ 239 by omega, h1, c1, d1, h2, c2, d2]
            have u2 : one (b[p].toNat : Int) ((octs b).drop (p + 1)) = (65533, 2) := by simp [one, hs, multi, inner, octs_drop b (p + 1), octs_drop b (p + 1 + 1), octs_drop b (p + 1 + 1 + 1), h1, c1, d1, h2, c2, d2]
            rw [u2]; exact ⟨by simp, by simp; omega, .inr ⟨_, _, u, rfl, len3⟩⟩
      · have d1 : ¬ ((128 : Int) ≤ (x1.toNat : Int) ∧ (x1.toNat : Int) ≤ 191) := by omega
        have u : Bytes.utf8At b p = (.bad p (p + 1) "invalid continuation byte", p + 1) := by
          unfold Bytes.utf8At; simp [List.range, List.range.loop, Except.bind, hg, show ¬ b[p].toNat < 128 by omega, show ¬ b[p].toNat ≤ 223 by omega, show ¬ b[p].toNat = 224 by omega, show ¬ b[p].toNat = 237 by omega, show 225 ≤ b[p].toNat by omega, show b[p].toNat ≤ 239 by omega, h1, c1, d1]
        have u2 : one (b[p].toNat : Int) ((octs b).drop (p + 1)) = (65533, 1) := by simp [one, hs, multi, inner, octs_drop b (p + 1), octs_drop b (p + 1 + 1), octs_drop b (p + 1 + 1 + 1), h1, c1, d1]
        rw [u2]; exact ⟨by simp, by simp; omega, .inr ⟨_, _, u, rfl, len3⟩⟩
  · cases h1 : b[p + 1]? with
    | none =>
      have z1 : b.size ≤ p + 1 := by simpa using h1
      have u : Bytes.utf8At b p = (.bad p (p + 1) "unexpected end of data", p + 1) := by
        unfold Bytes.utf8At; simp [List.range, List.range.loop, Except.bind, hg, h, h1]; omega
      have u2 : one (b[p].toNat : Int) ((octs b).drop (p + 1)) = (65533, 1) := by simp [one, hs, multi, inner, octs_drop b (p + 1), octs_drop b (p + 1 + 1), octs_drop b (p + 1 + 1 + 1), h1]
      rw [u2]; exact ⟨by simp, by simp; omega, .inr ⟨_, _, u, rfl, len2⟩⟩
    | some x1 =>
      have y1 : p + 1 < b.size := by
        rcases Nat.lt_or_ge (p + 1) b.size with h' | h'
        · exact h'
        · rw [Array.getElem?_eq_none h'] at h1; cases h1
      by_cases c1 : 128 ≤ x1.toNat ∧ x1.toNat ≤ 159
      · have d1 : (128 : Int) ≤ (x1.toNat : Int) ∧ (x1.toNat : Int) ≤ 159 := by omega
        cases h2 : b[p + 2]? with
        | none =>
          have z2 : b.size ≤ p + 2 := by simpa using h2
          have u : Bytes.utf8At b p = (.bad p (p + 2) "unexpected end of data", p + 2) := by
            unfold Bytes.utf8At; simp [List.range, List.range.loop, Except.bind, hg, h, h1, c1, d1, h2]; omega
          have u2 : one (b[p].toNat : Int) ((octs b).drop (p + 1)) = (65533, 2) := by simp [one, hs, multi, inner, octs_drop b (p + 1), octs_drop b (p + 1 + 1), octs_drop b (p + 1 + 1 + 1), h1, c1, d1, h2]
          rw [u2]; exact ⟨by simp, by simp; omega, .inr ⟨_, _, u, rfl, len2⟩⟩
        | some x2 =>
          have y2 : p + 2 < b.size := by
            rcases Nat.lt_or_ge (p + 2) b.size with h' | h'
            · exact h'
            · rw [Array.getElem?_eq_none h'] at h2; cases h2
          by_cases c2 : 128 ≤ x2.toNat ∧ x2.toNat ≤ 191
          · have d2 : (128 : Int) ≤ (x2.toNat : Int) ∧ (x2.toNat : Int) ≤ 191 := by omega
            have u : ∃ c : Nat, Bytes.utf8At b p = (.char c, p + 3) ∧ (one (b[p].toNat : Int) ((octs b).drop (p + 1))) = ((c : Int), 3) := by
              refine ⟨_, by unfold Bytes.utf8At; simp [List.range, List.range.loop, Except.bind, hg, h, h1, c1, d1, h2, c2, d2]; rfl, ?_⟩
              simp [one, hs, multi, inner, octs_drop b (p + 1), octs_drop b (p + 1 + 1), octs_drop b (p + 1 + 1 + 1), h1, c1, d1, h2, c2, d2] <;> omega
            obtain ⟨c, u1, u2⟩ := u
            rw [u2]; exact ⟨by simp, by simp; omega, .inl ⟨c, u1, rfl⟩⟩
          · have d2 : ¬ ((128 : Int) ≤ (x2.toNat : Int) ∧ (x2.toNat : Int) ≤ 191) := by omega
            have u : Bytes.utf8At b p = (.bad p (p + 2) "invalid continuation byte", p + 2) := by
              unfold Bytes.utf8At; simp [List.range, List.range.loop, Except.bind, hg, h, h1, c1, d1, h2, c2, d2]
            have u2 : one (b[p].toNat : Int) ((octs b).drop (p + 1)) = (65533, 2) := by simp [one, hs, multi, inner, octs_drop b (p + 1), octs_drop b (p + 1 + 1), octs_drop b (p + 1 + 1 + 1), h1, c1, d1, h2, c2, d2]
            rw [u2]; exact ⟨by simp, by simp; omega, .inr ⟨_, _, u, rfl, len3⟩⟩
      · have d1 : ¬ ((128 : Int) ≤ (x1.toNat : Int) ∧ (x1.toNat : Int) ≤ 159) := by omega
        have u : Bytes.utf8At b p = (.bad p (p + 1) "invalid continuation byte", p + 1) := by
          unfold Bytes.utf8At; simp [List.range, List.range.loop, Except.bind, hg, h, h1, c1, d1]
        have u2 : one (b[p].toNat : Int) ((octs b).drop (p + 1)) = (65533, 1) := by simp [one, hs, multi, inner, octs_drop b (p + 1), octs_drop b (p + 1 + 1), octs_drop b (p + 1 + 1 + 1), h1, c1, d1]
        rw [u2]; exact ⟨by simp, by simp; omega, .inr ⟨_, _, u, rfl, len3⟩⟩
  · cases h1 : b[p + 1]? with
    | none =>
      have z1 : b.size ≤ p + 1 := by simpa using h1
      have u : Bytes.utf8At b p = (.bad p (p + 1) "unexpected end of data", p + 1) := by
        unfold Bytes.utf8At; simp [List.range, List.range.loop, Except.bind, hg, show ¬ b[p].toNat < 128 by omega, show ¬ b[p].toNat ≤ 223 by omega, show ¬ b[p].toNat = 224 by omega, show ¬ b[p].toNat = 237 by omega, show 225 ≤ b[p].toNat by omega, show b[p].toNat ≤ 239 by omega, h1]; omega
      have u2 : one (b[p].toNat : Int) ((octs b).drop (p + 1)) = (65533, 1) := by simp [one, hs, multi, inner, octs_drop b (p + 1), octs_drop b (p + 1 + 1), octs_drop b (p + 1 + 1 + 1), h1]
      rw [u2]; exact ⟨by simp, by simp; omega, .inr ⟨_, _, u, rfl, len2⟩⟩
    | some x1 =>
      have y1 : p + 1 < b.size := by
        rcases Nat.lt_or_ge (p + 1) b.size with h' | h'
        · exact h'
        · rw [Array.getElem?_eq_none h'] at h1; cases h1
      by_cases c1 : 128 ≤ x1.toNat ∧ x1.toNat ≤ 191
      · have d1 : (128 : Int) ≤ (x1.toNat : Int) ∧ (x1.toNat : Int) ≤ 191 := by omega
        cases h2 : b[p + 2]? with
        | none =>
          have z2 : b.size ≤ p + 2 := by simpa using h2
          have u : Bytes.utf8At b p = (.bad p (p + 2) "unexpected end of data", p + 2) := by
            unfold Bytes.utf8At; simp [List.range, List.range.loop, Except.bind, hg, show ¬ b[p].toNat < 128 by omega, show ¬ b[p].toNat ≤ 223 by omega, show ¬ b[p].toNat = 224 by omega, show ¬ b[p].toNat = 237 by omega, show 225 ≤ b[p].toNat by omega, show b[p].toNat ≤ 239 by omega, h1, c1, d1, h2]; omega
          have u2 : one (b[p].toNat : Int) ((octs b).drop (p + 1)) = (65533, 2) := by simp [one, hs, multi, inner, octs_drop b (p + 1), octs_drop b (p + 1 + 1), octs_drop b (p + 1 + 1 + 1), h1, c1, d1, h2]
          rw [u2]; exact ⟨by simp, by simp; omega, .inr ⟨_, _, u, rfl, len2⟩⟩
        | some x2 =>
          have y2 : p + 2 < b.size := by
            rcases Nat.lt_or_ge (p + 2) b.size with h' | h'
            · exact h'
            · rw [Array.getElem?_eq_none h'] at h2; cases h2
          by_cases c2 : 128 ≤ x2.toNat ∧ x2.toNat ≤ 191
          · have d2 : (128 : Int) ≤ (x2.toNat : Int) ∧ (x2.toNat : Int) ≤ 191 := by omega
            have u : ∃ c : Nat, Bytes.utf8At b p = (.char c, p + 3) ∧ (one (b[p].toNat : Int) ((octs b).drop (p + 1))) = ((c : Int), 3) := by
              refine ⟨_, by unfold Bytes.utf8At; simp [List.range, List.range.loop, Except.bind, hg, show ¬ b[p].toNat < 128 by omega, show ¬ b[p].toNat ≤ 223 by omega, show ¬ b[p].toNat = 224 by omega, show ¬ b[p].toNat = 237 by omega, show 225 ≤ b[p].toNat by omega, show b[p].toNat ≤ 239 by omega, h1, c1, d1, h2, c2, d2]; rfl, ?_⟩
              simp [one, hs, multi, inner, octs_drop b (p + 1), octs_drop b (p + 1 + 1), octs_drop b (p + 1 + 1 + 1), h1, c1, d1, h2, c2, d2] <;> omega
            obtain ⟨c, u1, u2⟩ := u
            rw [u2]; exact ⟨by simp, by simp; omega, .inl ⟨c, u1, rfl⟩⟩
          · have d2 : ¬ ((128 : Int) ≤ (x2.toNat : Int) ∧ (x2.toNat : Int) ≤ 191) := by omega
            have u : Bytes.utf8At b p = (.bad p (p + 2) "invalid continuation byte", p + 2) := by
              unfold Bytes.utf8At; simp [List.range, List.range.loop, Except.bind, hg, show ¬ b[p].toNat < 128 by omega, show ¬ b[p].toNat ≤ 223 by omega, show ¬ b[p].toNat = 224 by omega, show ¬ b[p].toNat = 237 by omega, show 225 ≤ b[p].toNat by omega, show b[p].toNat ≤ 239 by omega, h1, c1, d1, h2, c2, d2]
            have u2 : one (b[p].toNat : Int) ((octs b).drop (p + 1)) = (65533, 2) := by simp [one, hs, multi, inner, octs_drop b (p + 1), octs_drop b (p + 1 + 1), octs_drop b (p + 1 + 1 + 1), h1, c1, d1, h2, c2, d2]
            rw [u2]; exact ⟨by simp, by simp; omega, .inr ⟨_, _, u, rfl, len3⟩⟩
      · have d1 : ¬ ((128 : Int) ≤ (x1.toNat : Int) ∧ (x1.toNat : Int) ≤ 191) := by omega
        have u : Bytes.utf8At b p = (.bad p (p + 1) "invalid continuation byte", p + 1) := by
          unfold Bytes.utf8At; simp [List.range, List.range.loop, Except.bind, hg, show ¬ b[p].toNat < 128 by omega, show ¬ b[p].toNat ≤ 223 by omega, show ¬ b[p].toNat = 224 by omega, show ¬ b[p].toNat = 237 by omega, show 225 ≤ b[p].toNat by omega, show b[p].toNat ≤ 239 by omega, h1, c1, d1]
        have u2 : one (b[p].toNat : Int) ((octs b).drop (p + 1)) = (65533, 1) := by simp [one, hs, multi, inner, octs_drop b (p + 1), octs_drop b (p + 1 + 1), octs_drop b (p + 1 + 1 + 1), h1, c1, d1]
        rw [u2]; exact ⟨by simp, by simp; omega, .inr ⟨_, _, u, rfl, len3⟩⟩
  · cases h1 : b[p + 1]? with
    | none =>
      have z1 : b.size ≤ p + 1 := by simpa using h1
      have u : Bytes.utf8At b p = (.bad p (p + 1) "unexpected end of data", p + 1) := by
        unfold Bytes.utf8At; simp [List.range, List.range.loop, Except.bind, hg, h, h1]; omega
      have u2 : one (b[p].toNat : Int) ((octs b).drop (p + 1)) = (65533, 1) := by simp [one, hs, multi, inner, octs_drop b (p + 1), octs_drop b (p + 1 + 1), octs_drop b (p + 1 + 1 + 1), h1]
      rw [u2]; exact ⟨by simp, by simp; omega, .inr ⟨_, _, u, rfl, len2⟩⟩
    | some x1 =>
      have y1 : p + 1 < b.size := by
        rcases Nat.lt_or_ge (p + 1) b.size with h' | h'
        · exact h'
        · rw [Array.getElem?_eq_none h'] at h1; cases h1
      by_cases c1 : 144 ≤ x1.toNat ∧ x1.toNat ≤ 191
      · have d1 : (144 : Int) ≤ (x1.toNat : Int) ∧ (x1.toNat : Int) ≤ 191 := by omega
        cases h2 : b[p + 2]? with
        | none =>
          have z2 : b.size ≤ p + 2 := by simpa using h2
          have u : Bytes.utf8At b p = (.bad p (p + 2) "unexpected end of data", p + 2) := by
            unfold Bytes.utf8At; simp [List.range, List.range.loop, Except.bind, hg, h, h1, c1, d1, h2]; omega
          have u2 : one (b[p].toNat : Int) ((octs b).drop (p + 1)) = (65533, 2) := by simp [one, hs, multi, inner, octs_drop b (p + 1), octs_drop b (p + 1 + 1), octs_drop b (p + 1 + 1 + 1), h1, c1, d1, h2]
          rw [u2]; exact ⟨by simp, by simp; omega, .inr ⟨_, _, u, rfl, len2⟩⟩
        | some x2 =>
          have y2 : p + 2 < b.size := by
            rcases Nat.lt_or_ge (p + 2) b.size with h' | h'
            · exact h'
            · rw [Array.getElem?_eq_none h'] at h2; cases h2
          by_cases c2 : 128 ≤ x2.toNat ∧ x2.toNat ≤ 191
          · have d2 : (128 : Int) ≤ (x2.toNat : Int) ∧ (x2.toNat : Int) ≤ 191 := by omega
            cases h3 : b[p + 3]? with
            | none =>
              have z3 : b.size ≤ p + 3 := by simpa using h3
              have u : Bytes.utf8At b p = (.bad p (p + 3) "unexpected end of data", p + 3) := by
                unfold Bytes.utf8At; simp [List.range, List.range.loop, Except.bind, hg, h, h1, c1, d1, h2, c2, d2, h3]; omega
              have u2 : one (b[p].toNat : Int) ((octs b).drop (p + 1)) = (65533, 3) := by simp [one, hs, multi, inner, octs_drop b (p + 1), octs_drop b (p + 1 + 1), octs_drop b (p + 1 + 1 + 1), h1, c1, d1, h2, c2, d2, h3]
              rw [u2]; exact ⟨by simp, by simp; omega, .inr ⟨_, _, u, rfl, len2⟩⟩
            | some x3 =>
              have y3 : p + 3 < b.size := by
                rcases Nat.lt_or_ge (p + 3) b.size with h' | h'
                · exact h'
                · rw [Array.getElem?_eq_none h'] at h3; cases h3
              by_cases c3 : 128 ≤ x3.toNat ∧ x3.toNat ≤ 191
              · have d3 : (128 : Int) ≤ (x3.toNat : Int) ∧ (x3.toNat : Int) ≤ 191 := by omega
                have u : ∃ c : Nat, Bytes.utf8At b p = (.char c, p + 4) ∧ (one (b[p].toNat : Int) ((octs b).drop (p + 1))) = ((c : Int), 4) := by
                  refine ⟨_, by unfold Bytes.utf8At; simp [List.range, List.range.loop, Except.bind, hg, h, h1, c1, d1, h2, c2, d2, h3, c3, d3]; rfl, ?_⟩
                  simp [one, hs, multi, inner, octs_drop b (p + 1), octs_drop b (p + 1 + 1), octs_drop b (p + 1 + 1 + 1), h1, c1, d1, h2, c2, d2, h3, c3, d3] <;> omega
                obtain ⟨c, u1, u2⟩ := u
                rw [u2]; exact ⟨by simp, by simp; omega, .inl ⟨c, u1, rfl⟩⟩
              · have d3 : ¬ ((128 : Int) ≤ (x3.toNat : Int) ∧ (x3.toNat : Int) ≤ 191) := by omega
                have u : Bytes.utf8At b p = (.bad p (p + 3) "invalid continuation byte", p + 3) := by
                  unfold Bytes.utf8At; simp [List.range, List.range.loop, Except.bind, hg, h, h1, c1, d1, h2, c2, d2, h3, c3, d3]
                have u2 : one (b[p].toNat : Int) ((octs b).drop (p + 1)) = (65533, 3) := by simp [one, hs, multi, inner, octs_drop b (p + 1), octs_drop b (p + 1 + 1), octs_drop b (p + 1 + 1 + 1), h1, c1, d1, h2, c2, d2, h3, c3, d3]
                rw [u2]; exact ⟨by simp, by simp; omega, .inr ⟨_, _, u, rfl, len3⟩⟩
          · have d2 : ¬ ((128 : Int) ≤ (x2.toNat : Int) ∧ (x2.toNat : Int) ≤ 191) := by omega
            have u : Bytes.utf8At b p = (.bad p (p + 2) "invalid continuation byte", p + 2) := by
              unfold Bytes.utf8At; simp [List.range, List.range.loop, Except.bind, hg, h, h1, c1, d1, h2, c2, d2]
            have u2 : one (b[p].toNat : Int) ((octs b).drop (p + 1)) = (65533, 2) := by simp [one, hs, multi, inner, octs_drop b (p + 1), octs_drop b (p + 1 + 1), octs_drop b (p + 1 + 1 + 1), h1, c1, d1, h2, c2, d2]
            rw [u2]; exact ⟨by simp, by simp; omega, .inr ⟨_, _, u, rfl, len3⟩⟩
      · have d1 : ¬ ((144 : Int) ≤ (x1.toNat : Int) ∧ (x1.toNat : Int) ≤ 191) := by omega
        have u : Bytes.utf8At b p = (.bad p (p + 1) "invalid continuation byte", p + 1) := by
          unfold Bytes.utf8At; simp [List.range, List.range.loop, Except.bind, hg, h, h1, c1, d1]
        have u2 : one (b[p].toNat : Int) ((octs b).drop (p + 1)) = (65533, 1) := by simp [one, hs, multi, inner, octs_drop b (p + 1), octs_drop b (p + 1 + 1), octs_drop b (p + 1 + 1 + 1), h1, c1, d1]
        rw [u2]; exact ⟨by simp, by simp; omega, .inr ⟨_, _, u, rfl, len3⟩⟩
  · cases h1 : b[p + 1]? with
    | none =>
      have z1 : b.size ≤ p + 1 := by simpa using h1
      have u : Bytes.utf8At b p = (.bad p (p + 1) "unexpected end of data", p + 1) := by
        unfold Bytes.utf8At; simp [List.range, List.range.loop, Except.bind, hg, show ¬ b[p].toNat < 128 by omega, show ¬ b[p].toNat ≤ 223 by omega, show ¬ b[p].toNat ≤ 239 by omega, show ¬ b[p].toNat = 224 by omega, show ¬ b[p].toNat = 237 by omega, show ¬ b[p].toNat = 240 by omega, show 241 ≤ b[p].toNat by omega, show b[p].toNat ≤ 243 by omega, h1]; omega
      have u2 : one (b[p].toNat : Int) ((octs b).drop (p + 1)) = (65533, 1) := by simp [one, hs, multi, inner, octs_drop b (p + 1), octs_drop b (p + 1 + 1), octs_drop b (p + 1 + 1 + 1), h1]
      rw [u2]; exact ⟨by simp, by simp; omega, .inr ⟨_, _, u, rfl, len2⟩⟩
    | some x1 =>
      have y1 : p + 1 < b.size := by
        rcases Nat.lt_or_ge (p + 1) b.size with h' | h'
        · exact h'
        · rw [Array.getElem?_eq_none h'] at h1; cases h1
      by_cases c1 : 128 ≤ x1.toNat ∧ x1.toNat ≤ 191
      · have d1 : (128 : Int) ≤ (x1.toNat : Int) ∧ (x1.toNat : Int) ≤ 191 := by omega
        cases h2 : b[p + 2]? with
        | none =>
          have z2 : b.size ≤ p + 2 := by simpa using h2
          have u : Bytes.utf8At b p = (.bad p (p + 2) "unexpected end of data", p + 2) := by
            unfold Bytes.utf8At; simp [List.range, List.range.loop, Except.bind, hg, show ¬ b[p].toNat < 128 by omega, show ¬ b[p].toNat ≤ 223 by omega, show ¬ b[p].toNat ≤ 239 by omega, show ¬ b[p].toNat = 224 by omega, show ¬ b[p].toNat = 237 by omega, show ¬ b[p].toNat = 240 by omega, show 241 ≤ b[p].toNat by omega, show b[p].toNat ≤ 243 by omega, h1, c1, d1, h2]; omega
          have u2 : one (b[p].toNat : Int) ((octs b).drop (p + 1)) = (65533, 2) := by simp [one, hs, multi, inner, octs_drop b (p + 1), octs_drop b (p + 1 + 1), octs_drop b (p + 1 + 1 + 1), h1, c1, d1, h2]
          rw [u2]; exact ⟨by simp, by simp; omega, .inr ⟨_, _, u, rfl, len2⟩⟩
        | some x2 =>
          have y2 : p + 2 < b.size := by
            rcases Nat.lt_or_ge (p + 2) b.size with h' | h'
            · exact h'
            · rw [Array.getElem?_eq_none h'] at h2; cases h2
          by_cases c2 : 128 ≤ x2.toNat ∧ x2.toNat ≤ 191
          · have d2 : (128 : Int) ≤ (x2.toNat : Int) ∧ (x2.toNat : Int) ≤ 191 := by omega
            cases h3 : b[p + 3]? with
            | none =>
              have z3 : b.size ≤ p + 3 := by simpa using h3
              have u : Bytes.utf8At b p = (.bad p (p + 3) "unexpected end of data", p + 3) := by
                unfold Bytes.utf8At; simp [List.range, List.range.loop, Except.bind, hg, show ¬ b[p].toNat < 128 by omega, show ¬ b[p].toNat ≤ 223 by omega, show ¬ b[p].toNat ≤ 239 by omega, show ¬ b[p].toNat = 224 by omega, show ¬ b[p].toNat = 237 by omega, show ¬ b[p].toNat = 240 by omega, show 241 ≤ b[p].toNat by omega, show b[p].toNat ≤ 243 by omega, h1, c1, d1, h2, c2, d2, h3]; omega
              have u2 : one (b[p].toNat : Int) ((octs b).drop (p + 1)) = (65533, 3) := by simp [one, hs, multi, inner, octs_drop b (p + 1), octs_drop b (p + 1 + 1), octs_drop b (p + 1 + 1 + 1), h1, c1, d1, h2, c2, d2, h3]
              rw [u2]; exact ⟨by simp, by simp; omega, .inr ⟨_, _, u, rfl, len2⟩⟩
            | some x3 =>
              have y3 : p + 3 < b.size := by
                rcases Nat.lt_or_ge (p + 3) b.size with h' | h'
                · exact h'
                · rw [Array.getElem?_eq_none h'] at h3; cases h3
              by_cases c3 : 128 ≤ x3.toNat ∧ x3.toNat ≤ 191
              · have d3 : (128 : Int) ≤ (x3.toNat : Int) ∧ (x3.toNat : Int) ≤ 191 := by omega
                have u : ∃ c : Nat, Bytes.utf8At b p = (.char c, p + 4) ∧ (one (b[p].toNat : Int) ((octs b).drop (p + 1))) = ((c : Int), 4) := by
                  refine ⟨_, by unfold Bytes.utf8At; simp [List.range, List.range.loop, Except.bind, hg, show ¬ b[p].toNat < 128 by omega, show ¬ b[p].toNat ≤ 223 by omega, show ¬ b[p].toNat ≤ 239 by omega, show ¬ b[p].toNat = 224 by omega, show ¬ b[p].toNat = 237 by omega, show ¬ b[p].toNat = 240 by omega, show 241 ≤ b[p].toNat by omega, show b[p].toNat ≤ 243 by omega, h1, c1, d1, h2, c2, d2, h3, c3, d3]; rfl, ?_⟩
                  simp [one, hs, multi, inner, octs_drop b (p + 1), octs_drop b (p + 1 + 1), octs_drop b (p + 1 + 1 + 1), h1, c1, d1, h2, c2, d2, h3, c3, d3] <;> omega
                obtain ⟨c, u1, u2⟩ := u
                rw [u2]; exact ⟨by simp, by simp; omega, .inl ⟨c, u1, rfl⟩⟩
              · have d3 : ¬ ((128 : Int) ≤ (x3.toNat : Int) ∧ (x3.toNat : Int) ≤ 191) := by omega
                have u : Bytes.utf8At b p = (.bad p (p + 3) "invalid continuation byte", p + 3) := by
                  unfold Bytes.utf8At; simp [List.range, List.range.loop, Except.bind, hg, show ¬ b[p].toNat < 128 by omega, show ¬ b[p].toNat ≤ 223 by omega, show ¬ b[p].toNat ≤ 239 by omega, show ¬ b[p].toNat = 224 by omega, show ¬ b[p].toNat = 237 by omega, show ¬ b[p].toNat = 240 by omega, show 241 ≤ b[p].toNat by omega, show b[p].toNat ≤ 243 by omega, h1, c1, d1, h2, c2, d2, h3, c3, d3]
                have u2 : one (b[p].toNat : Int) ((octs b).drop (p + 1)) = (65533, 3) := by simp [one, hs, multi, inner, octs_drop b (p + 1), octs_drop b (p + 1 + 1), octs_drop b (p + 1 + 1 + 1), h1, c1, d1, h2, c2, d2, h3, c3, d3]
                rw [u2]; exact ⟨by simp, by simp; omega, .inr ⟨_, _, u, rfl, len3⟩⟩
          · have d2 : ¬ ((128 : Int) ≤ (x2.toNat : Int) ∧ (x2.toNat : Int) ≤ 191) := by omega
            have u : Bytes.utf8At b p = (.bad p (p + 2) "invalid continuation byte", p + 2) := by
              unfold Bytes.utf8At; simp [List.range, List.range.loop, Except.bind, hg, show ¬ b[p].toNat < 128 by omega, show ¬ b[p].toNat ≤ 223 by omega, show ¬ b[p].toNat ≤ 239 by omega, show ¬ b[p].toNat = 224 by omega, show ¬ b[p].toNat = 237 by omega, show ¬ b[p].toNat = 240 by omega, show 241 ≤ b[p].toNat by omega, show b[p].toNat ≤ 243 by omega, h1, c1, d1, h2, c2, d2]
            have u2 : one (b[p].toNat : Int) ((octs b).drop (p + 1)) = (65533, 2) := by simp [one, hs, multi, inner, octs_drop b (p + 1), octs_drop b (p + 1 + 1), octs_drop b (p + 1 + 1 + 1), h1, c1, d1, h2, c2, d2]
            rw [u2]; exact ⟨by simp, by simp; omega, .inr ⟨_, _, u, rfl, len3⟩⟩
      · have d1 : ¬ ((128 : Int) ≤ (x1.toNat : Int) ∧ (x1.toNat : Int) ≤ 191) := by omega
        have u : Bytes.utf8At b p = (.bad p (p + 1) "invalid continuation byte", p + 1) := by
          unfold Bytes.utf8At; simp [List.range, List.range.loop, Except.bind, hg, show ¬ b[p].toNat < 128 by omega, show ¬ b[p].toNat ≤ 223 by omega, show ¬ b[p].toNat ≤ 239 by omega, show ¬ b[p].toNat = 224 by omega, show ¬ b[p].toNat = 237 by omega, show ¬ b[p].toNat = 240 by omega, show 241 ≤ b[p].toNat by omega, show b[p].toNat ≤ 243 by omega, h1, c1, d1]
        have u2 : one (b[p].toNat : Int) ((octs b).drop (p + 1)) = (65533, 1) := by simp [one, hs, multi, inner, octs_drop b (p + 1), octs_drop b (p + 1 + 1), octs_drop b (p + 1 + 1 + 1), h1, c1, d1]
        rw [u2]; exact ⟨by simp, by simp; omega, .inr ⟨_, _, u, rfl, len3⟩⟩
  · cases h1 : b[p + 1]? with
    | none =>
      have z1 : b.size ≤ p + 1 := by simpa using h1
      have u : Bytes.utf8At b p = (.bad p (p + 1) "unexpected end of data", p + 1) := by
        unfold Bytes.utf8At; simp [List.range, List.range.loop, Except.bind, hg, h, h1]; omega
      have u2 : one (b[p].toNat : Int) ((octs b).drop (p + 1)) = (65533, 1) := by simp [one, hs, multi, inner, octs_drop b (p + 1), octs_drop b (p + 1 + 1), octs_drop b (p + 1 + 1 + 1), h1]
      rw [u2]; exact ⟨by simp, by simp; omega, .inr ⟨_, _, u, rfl, len2⟩⟩
    | some x1 =>
      have y1 : p + 1 < b.size := by
        rcases Nat.lt_or_ge (p + 1) b.size with h' | h'
        · exact h'
        · rw [Array.getElem?_eq_none h'] at h1; cases h1
      by_cases c1 : 128 ≤ x1.toNat ∧ x1.toNat ≤ 143
      · have d1 : (128 : Int) ≤ (x1.toNat : Int) ∧ (x1.toNat : Int) ≤ 143 := by omega
        cases h2 : b[p + 2]? with
        | none =>
          have z2 : b.size ≤ p + 2 := by simpa using h2
          have u : Bytes.utf8At b p = (.bad p (p + 2) "unexpected end of data", p + 2) := by
            unfold Bytes.utf8At; simp [List.range, List.range.loop, Except.bind, hg, h, h1, c1, d1, h2]; omega
          have u2 : one (b[p].toNat : Int) ((octs b).drop (p + 1)) = (65533, 2) := by simp [one, hs, multi, inner, octs_drop b (p + 1), octs_drop b (p + 1 + 1), octs_drop b (p + 1 + 1 + 1), h1, c1, d1, h2]
          rw [u2]; exact ⟨by simp, by simp; omega, .inr ⟨_, _, u, rfl, len2⟩⟩
        | some x2 =>
          have y2 : p + 2 < b.size := by
            rcases Nat.lt_or_ge (p + 2) b.size with h' | h'
            · exact h'
            · rw [Array.getElem?_eq_none h'] at h2; cases h2
          by_cases c2 : 128 ≤ x2.toNat ∧ x2.toNat ≤ 191
          · have d2 : (128 : Int) ≤ (x2.toNat : Int) ∧ (x2.toNat : Int) ≤ 191 := by omega
            cases h3 : b[p + 3]? with
            | none =>
              have z3 : b.size ≤ p + 3 := by simpa using h3
              have u : Bytes.utf8At b p = (.bad p (p + 3) "unexpected end of data", p + 3) := by
                unfold Bytes.utf8At; simp [List.range, List.range.loop, Except.bind, hg, h, h1, c1, d1, h2, c2, d2, h3]; omega
              have u2 : one (b[p].toNat : Int) ((octs b).drop (p + 1)) = (65533, 3) := by simp [one, hs, multi, inner, octs_drop b (p + 1), octs_drop b (p + 1 + 1), octs_drop b (p + 1 + 1 + 1), h1, c1, d1, h2, c2, d2, h3]
              rw [u2]; exact ⟨by simp, by simp; omega, .inr ⟨_, _, u, rfl, len2⟩⟩
            | some x3 =>
              have y3 : p + 3 < b.size := by
                rcases Nat.lt_or_ge (p + 3) b.size with h' | h'
                · exact h'
                · rw [Array.getElem?_eq_none h'] at h3; cases h3
              by_cases c3 : 128 ≤ x3.toNat ∧ x3.toNat ≤ 191
              · have d3 : (128 : Int) ≤ (x3.toNat : Int) ∧ (x3.toNat : Int) ≤ 191 := by omega
                have u : ∃ c : Nat, Bytes.utf8At b p = (.char c, p + 4) ∧ (one (b[p].toNat : Int) ((octs b).drop (p + 1))) = ((c : Int), 4) := by
                  refine ⟨_, by unfold Bytes.utf8At; simp [List.range, List.range.loop, Except.bind, hg, h, h1, c1, d1, h2, c2, d2, h3, c3, d3]; rfl, ?_⟩
                  simp [one, hs, multi, inner, octs_drop b (p + 1), octs_drop b (p + 1 + 1), octs_drop b (p + 1 + 1 + 1), h1, c1, d1, h2, c2, d2, h3, c3, d3] <;> omega
                obtain ⟨c, u1, u2⟩ := u
                rw [u2]; exact ⟨by simp, by simp; omega, .inl ⟨c, u1, rfl⟩⟩
              · have d3 : ¬ ((128 : Int) ≤ (x3.toNat : Int) ∧ (x3.toNat : Int) ≤ 191) := by omega
                have u : Bytes.utf8At b p = (.bad p (p + 3) "invalid continuation byte", p + 3) := by
                  unfold Bytes.utf8At; simp [List.range, List.range.loop, Except.bind, hg, h, h1, c1, d1, h2, c2, d2, h3, c3, d3]
                have u2 : one (b[p].toNat : Int) ((octs b).drop (p + 1)) = (65533, 3) := by simp [one, hs, multi, inner, octs_drop b (p + 1), octs_drop b (p + 1 + 1), octs_drop b (p + 1 + 1 + 1), h1, c1, d1, h2, c2, d2, h3, c3, d3]
                rw [u2]; exact ⟨by simp, by simp; omega, .inr ⟨_, _, u, rfl, len3⟩⟩
          · have d2 : ¬ ((128 : Int) ≤ (x2.toNat : Int) ∧ (x2.toNat : Int) ≤ 191) := by omega
            have u : Bytes.utf8At b p = (.bad p (p + 2) "invalid continuation byte", p + 2) := by
              unfold Bytes.utf8At; simp [List.range, List.range.loop, Except.bind, hg, h, h1, c1, d1, h2, c2, d2]
            have u2 : one (b[p].toNat : Int) ((octs b).drop (p + 1)) = (65533, 2) := by simp [one, hs, multi, inner, octs_drop b (p + 1), octs_drop b (p + 1 + 1), octs_drop b (p + 1 + 1 + 1), h1, c1, d1, h2, c2, d2]
            rw [u2]; exact ⟨by simp, by simp; omega, .inr ⟨_, _, u, rfl, len3⟩⟩
      · have d1 : ¬ ((128 : Int) ≤ (x1.toNat : Int) ∧ (x1.toNat : Int) ≤ 143) := by omega
        have u : Bytes.utf8At b p = (.bad p (p + 1) "invalid continuation byte", p + 1) := by
          unfold Bytes.utf8At; simp [List.range, List.range.loop, Except.bind, hg, h, h1, c1, d1]
        have u2 : one (b[p].toNat : Int) ((octs b).drop (p + 1)) = (65533, 1) := by simp [one, hs, multi, inner, octs_drop b (p + 1), octs_drop b (p + 1 + 1), octs_drop b (p + 1 + 1 + 1), h1, c1, d1]
        rw [u2]; exact ⟨by simp, by simp; omega, .inr ⟨_, _, u, rfl, len3⟩⟩
  · refine ⟨by simp [one, hs], by simp [one, hs]; omega, .inr ⟨"invalid start byte", p + 1, ?_, by simp [one, hs], len1⟩⟩
    unfold Bytes.utf8At
    simp only [hg, one, hs]
    simp [show ¬ b[p].toNat < 128 by omega, show ¬ b[p].toNat ≤ 223 by omega, show ¬ b[p].toNat ≤ 239 by omega, show ¬ b[p].toNat ≤ 243 by omega, show ¬ b[p].toNat = 224 by omega, show ¬ b[p].toNat = 237 by omega, show ¬ b[p].toNat = 240 by omega, show ¬ b[p].toNat = 244 by omega]

theorem one_pos (l : Int) (rest : List Int) : 1 ≤ (one l rest).2 := by
  unfold one
  split
  · exact Nat.le_refl _
  · split
    · exact Nat.le_refl _
    · unfold multi; exact Nat.le_add_left 1 _
theorem signsF_enough : ∀ (n m : Nat) (l : List Int), l.length ≤ n → l.length ≤ m → signsF n l = signsF m l
  | 0, 0, _, _, _ => rfl
  | 0, m + 1, [], _, _ => rfl
  | 0, m + 1, _ :: _, h, _ => by simp at h
  | n + 1, 0, [], _, _ => rfl
  | n + 1, 0, _ :: _, _, h => by simp at h
  | n + 1, m + 1, [], _, _ => rfl
  | n + 1, m + 1, x :: xs, h, h' => by
    have h1 := one_pos x xs
    simp only [signsF]
    rw [signsF_enough n m _ (by simp only [List.length_drop, List.length_cons] at *; omega) (by simp only [List.length_drop, List.length_cons] at *; omega)]
theorem signs_nil : signs [] = [] := rfl
theorem signs_cons (x : Int) (xs : List Int) : signs (x :: xs) = (one x xs).1 :: signs ((x :: xs).drop (one x xs).2) := by
  have h1 := one_pos x xs
  show signsF (xs.length + 1) (x :: xs) = _
  simp only [signsF, signs]
  rw [signsF_enough _ ((x :: xs).drop (one x xs).2).length _ (by simp only [List.length_drop, List.length_cons]; omega) (Nat.le_refl _)]
theorem signsF_length : ∀ (n : Nat) (l : List Int), (signsF n l).length ≤ l.length
  | 0, _ => Nat.zero_le _
  | n + 1, [] => Nat.le_refl _
  | n + 1, x :: xs => by
    have h1 := one_pos x xs
    have h2 := signsF_length n ((x :: xs).drop (one x xs).2)
    simp only [signsF, List.length_cons]
    simp only [List.length_drop, List.length_cons] at h2
    omega
theorem signs_length (l : List Int) : (signs l).length ≤ l.length := signsF_length _ _
/-- one step of the decoder's walk -/
theorem signs_at (b : Array UInt8) (p : Nat) (hp : p < b.size) : signs ((octs b).drop p) = (one (b[p].toNat : Int) ((octs b).drop (p + 1))).1 :: signs ((octs b).drop (p + (one (b[p].toNat : Int) ((octs b).drop (p + 1))).2)) := by
  have e : (octs b).drop p = (b[p].toNat : Int) :: (octs b).drop (p + 1) := by
    rw [octs_drop]
    rw [show b[p]? = some b[p] by simp [hp]]
  rw [e, signs_cons, ← e, List.drop_drop]
theorem signs_drop (d : List Int) (k : Nat) (hk : k < d.length) : signs (d.drop k) = (one (d.getD k 0) (d.drop (k + 1))).1 :: signs (d.drop (k + (one (d.getD k 0) (d.drop (k + 1))).2)) := by
  have e : d.drop k = d.getD k 0 :: d.drop (k + 1) := by
    rw [List.drop_eq_getElem_cons hk]
    congr 1
    simp [List.getD_eq_getElem?_getD, hk]
  rw [e, signs_cons, ← e, List.drop_drop]
theorem one_zero {l : Int} {rest : List Int} {x y z : Int} (h : span l = (x, y, z)) (h0 : x = 0) : one l rest = (l, 1) := by simp [one, h, h0]
theorem one_neg {l : Int} {rest : List Int} {x y z : Int} (h : span l = (x, y, z)) (h0 : x < 0) : one l rest = (65533, 1) := by
  unfold one; rw [h, if_neg (by show ¬ x = 0; omega), if_pos (by show x < 0; omega)]
theorem one_more {l : Int} {rest : List Int} {x y z : Int} (h : span l = (x, y, z)) (h0 : 0 < x) : one l rest = multi x.toNat (l % (64 / 2 ^ x.toNat)) y z rest := by
  unfold one; rw [h, if_neg (by show ¬ x = 0; omega), if_neg (by show ¬ x < 0; omega)]
theorem span_range {l x y z : Int} (h : span l = (x, y, z)) : x = -1 ∨ x = 0 ∨ x = 1 ∨ x = 2 ∨ x = 3 := by
  unfold span at h
  repeat' split at h
  all_goals (injection h with h1 h2; omega)
end Mine
end

section
open PySem PySem.W PyProof.Rows PySem.Spec PySem.Calls
namespace Mine
theorem ude_new : ExcNewFacts "UnicodeDecodeError" "UnicodeDecodeError.__new__" where
  ends := by decide +kernel
  owner := by decide +kernel
  entry := entryFor_alias (id' := "BaseException.__new__") (by rw [fastTable_eq_tree]; kernel_rfl) (by first | rfl | decide +kernel) (by decide +kernel) (by rw [fastTable_eq_tree]; kernel_rfl)
  sub := by rw [isSubtype_type]; kernel_rfl
  notAttr := by rw [isSubtype_type]; kernel_rfl
  notName := by rw [isSubtype_type]; kernel_rfl
  made := by kernel_rfl
theorem ude_notType : (Value.type "UnicodeDecodeError" == Value.type "type") = false := by decide +kernel
theorem ude_canMake : ((Manifest.find? "UnicodeDecodeError").bind fun x => List.findSome? (fun t => (Manifest.find? t).bind fun b =>
    if b.noNew = true then some true else if (b.attrs.any fun x => x.fst == "__new__") = true then some false else none) x.mro).getD false = false := by kernel_rfl
theorem ude_noVector : ∀ args, checkTypeCall "UnicodeDecodeError" args = pure () := fun args => by kernel_rfl
theorem ude_mro : ∃ m, mroOf (.type "UnicodeDecodeError") = pure m ∧ m.isEmpty = false := ⟨[.type "UnicodeDecodeError", .type "UnicodeError", .type "ValueError", .type "Exception", .type "BaseException", .type "object"], by rw [mroOf_type]; kernel_rfl, rfl⟩
theorem ude_madeBy : Bind.madeBy (.type "UnicodeDecodeError") = pure (some "UnicodeDecodeError.__new__") := by kernel_rfl
theorem ude_quiet : "UnicodeDecodeError.__new__".startsWith "lifetime." = false := by decide +kernel
theorem ude_newOk : ∀ rest, checkBuiltinCall "UnicodeDecodeError.__new__" ⟨.type "UnicodeDecodeError" :: rest, []⟩ = pure () := fun rest => by kernel_rfl
theorem ude_init : Slot "UnicodeDecodeError" "__init__" "UnicodeDecodeError.__init__" := .of (owner := "UnicodeDecodeError") (n := "__init__") (by rw [typeLookup_type, builtinLookup_eq_fast]; kernel_rfl) (by decide +kernel) (by decide +kernel) (by decide +kernel)
    (by first | exact .inl (by decide +kernel) | exact .inr (by decide +kernel)) (by rw [isSubtype_type]; kernel_rfl)
theorem ude_initEntry : entryFor table "UnicodeDecodeError.__init__" = some Builtin.«UnicodeDecodeError.__init__» := entryFor_of_tree (by kernel_rfl)
theorem ude_initSplit : splitId "UnicodeDecodeError.__init__" = some ("UnicodeDecodeError", "__init__") := by kernel_rfl
theorem ude_initKind : builtinKind "UnicodeDecodeError.__init__" = some .slot := by kernel_rfl

theorem ude_sig : Manifest.signature? "UnicodeDecodeError.__init__" = some ⟨.hand, "wrapper __init__", "", .self, []⟩ := by kernel_rfl
section
variable {prog : Program} {w : World} {A : Around} {hp : Heap} {g : Array GenState} {d : Drawn} {tk : Nat} {os : OsState}
theorem ude_check {M : Model} {self : Value} {rest : List Value} {E : Value → Shared → Prop} {Q : Unit → Shared → Prop} {s : Shared} (hT : s.TypeIs self "UnicodeDecodeError") (h : Q () s) :
    wpAny M A (checkBuiltinCall "UnicodeDecodeError.__init__" ⟨self :: rest, []⟩) Q E s := by
  have hsub := ude_new.sub
  simp only [checkBuiltinCall, ude_initKind, ude_initSplit, ude_sig]
  wp_walk
  exact h

end
open PySem.Builtin PySem.Builtin.UnicodeEncodeError

theorem ite_t {c : Prop} [Decidable c] {a b : Prop} (hc : c) (h : a) : if c then a else b := by rw [if_pos hc]; exact h
theorem ite_f {c : Prop} [Decidable c] {a b : Prop} (hc : ¬ c) (h : b) : if c then a else b := by rw [if_neg hc]; exact h
/-- the fault's exception, made since h₀ -/
structure Exc (h₀ h : Heap) (e : Addr) (vs : Array Value) : Prop where
  keeps : ∀ b o, h₀.get? b = some o → h.get? b = some o
  new : h₀.get? e = none
  there : h.get? e = some { cls := .type "UnicodeDecodeError", data := .fields vs }
theorem Exc.push {h₀ h : Heap} {e : Addr} {vs : Array Value} (x : Exc h₀ h e vs) (o : Obj) : Exc h₀ (h.push o) e vs :=
  ⟨fun b ob hb => Heap.get?_push_of_some _ (x.keeps b ob hb), x.new, Heap.get?_push_of_some _ x.there⟩
theorem Exc.upd {h₀ h : Heap} {e : Addr} {vs vs' : Array Value} (x : Exc h₀ h e vs) (f : Obj → Obj) (hf : f { cls := .type "UnicodeDecodeError", data := .fields vs } = { cls := .type "UnicodeDecodeError", data := .fields vs' }) :
    Exc h₀ (h.update e f) e vs' :=
  ⟨fun b o hb => by
      have hne : e ≠ b := fun q => by rw [← q, x.new] at hb; cases hb
      rw [Heap.get?_update_other _ _ hne]; exact x.keeps b o hb,
    x.new, by rw [Heap.get?_update_self f x.there (by rw [hf]; rfl), hf]⟩
def mems (t0 : Addr) (m : Members) : Array Value := #[.ref t0, .none, .none, .none, .bool false, .none, m.encoding, m.object, rawInt m.start, rawInt m.stop, m.reason]
def bare (t0 : Addr) : Array Value := #[.ref t0, .none, .none, .none, .bool false, .none]
section
variable {M : Model} {A : Around} {E : Value → Shared → Prop} {s : Shared} {h₀ : Heap} {e t0 : Addr} {m : Members} {vs : Array Value}
theorem exc_fields {Q : Array Value → Shared → Prop} (x : Exc h₀ s.heap e vs) (h : Q vs s) : wpAny M A (fieldsOf (.ref e)) Q E s := by
  unfold fieldsOf
  exact wpAny_bind (wpAny_load x.there (wpAny_pure h))
theorem exc_members {Q : Members → Shared → Prop} (x : Exc h₀ s.heap e (mems t0 m)) (h : Q m s) : wpAny M A (members (.ref e)) Q E s := by
  unfold members
  refine wpAny_bind (exc_fields x ?_)
  exact wpAny_pure h
theorem exc_members0 {Q : Members → Shared → Prop} (x : Exc h₀ s.heap e (bare t0)) (h : Q {} s) : wpAny M A (members (.ref e)) Q E s := by
  unfold members
  refine wpAny_bind (exc_fields x ?_)
  exact wpAny_pure h
theorem exc_set {Q : Unit → Shared → Prop} {vs : Array Value} (m' : Members) (x : Exc h₀ s.heap e vs) (hv : vs.extract 0 6 = bare t0) (h : ∀ h', Exc h₀ h' e (mems t0 m') → Q () { s with heap := h' }) :
    wpAny M A (setMembers (.ref e) m') Q E s := by
  have hv2 : vs.extract 0 6 ++ #[m'.encoding, m'.object, rawInt m'.start, rawInt m'.stop, m'.reason] = mems t0 m' := by rw [hv]; rfl
  unfold setMembers updateFields
  refine wpAny_bind (wpAny_load x.there ?_)
  have x2 : Exc h₀ (s.heap.update e (Obj.mapFields fun vs => vs.extract 0 6 ++ #[m'.encoding, m'.object, rawInt m'.start, rawInt m'.stop, m'.reason])) e (mems t0 m') := x.upd _ (by rw [← hv2]; rfl)
  refine wpAny_bind (wpAny_update x.there ?_)
  refine wpAny_lookBehind x2.there ?_ (h _ x2)
  exact pastItsLine_fields (show 11 ≤ _ by rw [sizeLine_eq]; decide)
theorem exc_set0 {Q : Unit → Shared → Prop} (m' : Members) (x : Exc h₀ s.heap e (bare t0)) (h : ∀ h', Exc h₀ h' e (mems t0 m') → Q () { s with heap := h' }) :
    wpAny M A (setMembers (.ref e) m') Q E s := exc_set m' x rfl h
theorem exc_setm {Q : Unit → Shared → Prop} (m' : Members) (x : Exc h₀ s.heap e (mems t0 m)) (h : ∀ h', Exc h₀ h' e (mems t0 m') → Q () { s with heap := h' }) :
    wpAny M A (setMembers (.ref e) m') Q E s := exc_set m' x rfl h
theorem exc_tuple {Q : Value → Shared → Prop} {vs : Array Value} {items : List Value} (x : Exc h₀ s.heap e vs) (hz : items.length ≤ 1000) (h : ∀ h' a, Exc h₀ h' e vs → h'.get? a = some { cls := .type "tuple", data := .seq items.toArray } → Q (.ref a) { s with heap := h' }) :
    wpAny M A (newTuple items) Q E s := by
  refine wpAny_newTuple (h _ _ (x.push _) (Heap.get?_push_size _ rfl)) (Nat.le_trans hz (by rw [sizeLine_eq]; decide))
theorem exc_setField {Q : Unit → Shared → Prop} {vs : Array Value} {i : Nat} {v : Value} (x : Exc h₀ s.heap e vs) (hi : i < vs.size) (h : ∀ h', Exc h₀ h' e (vs.setIfInBounds i v) → Q () { s with heap := h' }) :
    wpAny M A (setField (.ref e) i v) Q E s := by
  unfold setField updateField
  refine wpAny_bind (wpAny_load x.there ?_)
  show wpAny M A (if i < vs.size then _ else _) Q E s
  rw [if_pos hi]
  exact wpAny_update x.there (h _ (x.upd _ rfl))

theorem exc_field {Q : Value → Shared → Prop} {v : Value} {i : Nat} (x : Exc h₀ s.heap e vs) (hi : vs[i]? = some v) (h : Q v s) : wpAny M A (field (.ref e) i) Q E s := by
  unfold field
  refine wpAny_bind (exc_fields x ?_)
  rw [hi]
  exact wpAny_pure h
theorem exc_begin {id : String} {a1 a2 a3 a4 a5 : Value} {Q : Value × List Value → Shared → Prop} (x : Exc h₀ s.heap e (bare t0))
    (h : ∀ h' t1, Exc h₀ h' e (mems t1 {}) → Q (.ref e, [a1, a2, a3, a4, a5]) { s with heap := h' }) :
    wpAny M A (beginInit id 5 ⟨[.ref e, a1, a2, a3, a4, a5], []⟩) Q E s := by
  unfold beginInit
  dsimp only
  refine wpAny_ite ?_
  rw [if_neg (by decide)]
  refine wpAny_bind (exc_field (v := .ref t0) x rfl ?_)
  refine wpAny_bind (exc_tuple x (show 5 ≤ 1000 by decide) ?_)
  intro h1 t1 x1 _
  refine wpAny_bind (exc_setField x1 (by show 0 < 6; decide) ?_)
  intro h2 x2
  replace x2 : Exc h₀ h2 e (bare t1) := x2
  refine wpAny_bind (wpAny_letGo ?_)
  refine wpAny_ite ?_
  rw [if_pos (by decide)]
  refine wpAny_bind (exc_members0 x2 ?_)
  refine wpAny_bind (exc_set0 _ x2 ?_)
  intro h3 x3
  refine wpAny_bind (wpAny_letGo ?_)
  refine wpAny_bind (exc_members x3 ?_)
  refine wpAny_bind (exc_setm _ x3 ?_)
  intro h4 x4
  refine wpAny_bind (wpAny_letGo ?_)
  refine wpAny_bind (exc_members x4 ?_)
  refine wpAny_bind (exc_setm _ x4 ?_)
  intro h5 x5
  refine wpAny_bind (wpAny_letGo ?_)
  refine wpAny_ite ?_
  rw [if_neg (by simp)]
  exact wpAny_pure (h h5 t1 x5)
theorem asIndex_int {i : Int} {t : Tok} : asIndex (.int i t) = pure i := rfl
theorem exc_sizeArg {id : String} {i : Int} {t : Tok} {Q : Int → Shared → Prop} (h0 : 0 ≤ i) (h1 : i < 2 ^ 63) (h : Q i s) : wpAny M A (sizeArgument id (.int i t)) Q E s := by
  unfold sizeArgument
  refine wpAny_bind (wpAny_of_eq asIndex_int ?_)
  refine wpAny_ite ?_
  rw [if_neg (by simp; omega)]
  exact wpAny_pure h
theorem exc_strArg {id : String} {k : Nat} {x : Str} {t : Tok} {Q : Unit → Shared → Prop} (h : Q () s) : wpAny M A (strArgument id k (.str x t)) Q E s := by
  unfold strArgument
  exact wpAny_bind (wpAny_of_eq (a := some x) rfl (wpAny_ite (by rw [if_neg (by simp)]; exact wpAny_pure h)))
theorem exc_range {id : String} {i j : Int} {ti tj : Tok} {Q : Unit → Shared → Prop} (x : Exc h₀ s.heap e (mems t0 m)) (hi : 0 ≤ i) (hi' : i < 2 ^ 63) (hj : 0 ≤ j) (hj' : j < 2 ^ 63)
    (h : ∀ h', Exc h₀ h' e (mems t0 { m with start := i, stop := j }) → Q () { s with heap := h' }) :
    wpAny M A (initRange id (.ref e) (.int i ti) (.int j tj)) Q E s := by
  unfold initRange
  refine wpAny_bind (exc_sizeArg hi hi' ?_)
  refine wpAny_bind (exc_members x ?_)
  refine wpAny_bind (exc_setm _ x ?_)
  intro h1 x1
  refine wpAny_bind (exc_sizeArg hj hj' ?_)
  refine wpAny_bind (exc_members x1 ?_)
  refine exc_setm _ x1 ?_
  intro h2 x2
  exact h h2 x2
theorem exc_init {enc rs : Str} {te tb ti tj tr : Tok} {b : Array UInt8} {i j : Int} {Q : PySem.Fin → Shared → Prop} (x : Exc h₀ s.heap e (bare t0)) (hi : 0 ≤ i) (hi' : i < 2 ^ 63) (hj : 0 ≤ j) (hj' : j < 2 ^ 63)
    (h : ∀ h' t1, Exc h₀ h' e (mems t1 ⟨.str enc te, .bytes b tb, i, j, .str rs tr⟩) → Q (.done (.ret .none)) { s with heap := h' }) :
    wpAny M A (Builtin.«UnicodeDecodeError.__init__» ⟨[.ref e, .str enc te, .bytes b tb, .int i ti, .int j tj, .str rs tr], []⟩) Q E s := by
  unfold Builtin.«UnicodeDecodeError.__init__»
  dsimp only
  refine wpAny_bind (exc_begin x ?_)
  intro h1 t1 x1
  dsimp only
  refine wpAny_bind (exc_strArg ?_)
  refine wpAny_bind (exc_range x1 hi hi' hj hj' ?_)
  intro h2 x2
  refine wpAny_bind (exc_strArg ?_)
  refine wpAny_bind (wpAny_of_eq (a := some b) rfl ?_)
  refine wpAny_ite (ite_t rfl ?_)
  refine wpAny_bind (wpAny_pure ?_)
  refine wpAny_ite (ite_t rfl ?_)
  refine wpAny_bind (wpAny_pure ?_)
  refine wpAny_ite (ite_f (by simp [isUnset]) ?_)
  refine wpAny_bind (exc_members x2 ?_)
  refine wpAny_bind (exc_setm _ x2 ?_)
  intro h3 x3
  exact wpAny_pure (h h3 t1 x3)
end

section
variable {prog : Program} {w : World} {A : Around} {E : Value → Shared → Prop}
theorem ude_type_call {enc rs : Str} {te tb ti tj tr : Tok} {b : Array UInt8} {i j : Int} {Q : PySem.Fin → Shared → Prop} {hp : Heap} {g : Array GenState} {d : Drawn} {tk : Nat} {os : OsState} (hi : 0 ≤ i) (hi' : i < 2 ^ 63) (hj : 0 ≤ j) (hj' : j < 2 ^ 63)
    (h : ∀ h' e t1, Exc hp h' e (mems t1 ⟨.str enc te, .bytes b tb, i, j, .str rs tr⟩) → Q (.done (.ret (.ref e))) ⟨h', g, d, tk, os⟩) :
    wpAny (model prog w) A (Builtin.«type.__call__» ⟨[.type "UnicodeDecodeError", .str enc te, .bytes b tb, .int i ti, .int j tj, .str rs tr], []⟩) Q E ⟨hp, g, d, tk, os⟩ := by
  have hnt := ude_notType
  have hcan := ude_canMake
  have hchk := ude_noVector ⟨[.str enc te, .bytes b tb, .int i ti, .int j tj, .str rs tr], []⟩
  obtain ⟨m, hmro, hne⟩ := ude_mro
  have hmade := ude_madeBy
  have hsub := ude_new.sub
  wp_walk
  refine codeAny_call_builtin_code (Code.quiet_builtin _ ude_quiet) (wpAny_of_eq (ude_newOk [.str enc te, .bytes b tb, .int i ti, .int j tj, .str rs tr]) ?_)
  refine codeAny_exc_new ude_new ?_ (show 5 ≤ _ by rw [sizeLine_eq]; decide)
  show wpAny _ _ _ _ _ _
  have hget : ((hp.push { cls := .type "tuple", data := .seq #[.str enc te, .bytes b tb, .int i ti, .int j tj, .str rs tr] }).push
      { cls := .type "UnicodeDecodeError", data := .fields #[.ref hp.objs.size, .none, .none, .none, .bool false, .none] }).get? (hp.objs.size + 1) = some
      { cls := .type "UnicodeDecodeError", data := .fields #[.ref hp.objs.size, .none, .none, .none, .bool false, .none] } := by heap_get
  have x0 : Exc hp ((hp.push { cls := .type "tuple", data := .seq #[.str enc te, .bytes b tb, .int i ti, .int j tj, .str rs tr] }).push
      { cls := .type "UnicodeDecodeError", data := .fields #[.ref hp.objs.size, .none, .none, .none, .bool false, .none] }) (hp.objs.size + 1) (bare hp.objs.size) :=
    ⟨fun b o hb => Heap.get?_push_of_some _ (Heap.get?_push_of_some _ hb), Heap.get?_none_of_le (Nat.le_succ _), hget⟩
  refine wpAny_bind (wpAny_isInstance ⟨_, hget, rfl⟩ ude_new.sub ?_)
  wp_step
  refine wpAny_bind (wpAny_holding (wpAny_callSpecial?_slot ⟨_, hget, rfl⟩ ude_init (wpAny_call (codeAny_call_builtin ude_init.plain ude_initEntry (ude_check ⟨_, hget, rfl⟩ ?_)))))
  refine exc_init x0 hi hi' hj hj' ?_
  intro h' t1 x1
  wp_walk
  exact h _ _ _ x1
theorem call_ude {enc rs : Str} {te tb ti tj tr : Tok} {b : Array UInt8} {i j : Int} {Q : Value → Shared → Prop} {s : Shared} (hi : 0 ≤ i) (hi' : i < 2 ^ 63) (hj : 0 ≤ j) (hj' : j < 2 ^ 63)
    (h : ∀ h' e t1, Exc s.heap h' e (mems t1 ⟨.str enc te, .bytes b tb, i, j, .str rs tr⟩) → Q (.ref e) { s with heap := h' }) :
    wpAny (model prog w) A (call (.type "UnicodeDecodeError") [.str enc te, .bytes b tb, .int i ti, .int j tj, .str rs tr]) Q E s := by
  obtain ⟨hp, g, d, tk, os⟩ := s
  refine wpAny_call (codeAny_of_tree ?_)
  show wpAny _ _ (again (.builtin "type.__call__" ⟨.type "UnicodeDecodeError" :: [.str enc te, .bytes b tb, .int i ti, .int j tj, .str rs tr], []⟩)) _ _ _
  exact wpAny_pure ⟨Code.quiet_builtin _ (by decide +kernel), codeAny_builtin entry_typeCall (ude_type_call hi hi' hj hj' h)⟩
end
end Mine
end

section
open PySem PySem.W PyProof.Rows PySem.Spec PySem.Calls
namespace Mine
open PySem.Builtin PySem.Builtin.UnicodeEncodeError PySem.Builtin._codecs
theorem rep_kind : builtinKind "_codecs.lookup_error.replace_errors" = none := by decide +kernel
theorem rep_plain : plainId "_codecs.lookup_error.replace_errors" = true := by decide +kernel
theorem rep_entry : entryFor table "_codecs.lookup_error.replace_errors" = some Builtin.«_codecs.lookup_error.replace_errors» := entryFor_of_tree (by kernel_rfl)
theorem rep_args (a : Value) : argsOk "_codecs.lookup_error.replace_errors" ⟨[a], []⟩ := by unfold argsOk; kernel_rfl
theorem ude_not_uee : isSubtype (.type "UnicodeDecodeError") (.type "UnicodeEncodeError") = pure false := by rw [isSubtype_type]; kernel_rfl
theorem ude_not_ute : isSubtype (.type "UnicodeDecodeError") (.type "UnicodeTranslateError") = pure false := by rw [isSubtype_type]; kernel_rfl
section
variable {prog : Program} {w : World} {A : Around} {E : Value → Shared → Prop} {s : Shared} {h₀ : Heap} {e t0 : Addr} {m : Members}
theorem rep_seen {M : Model} {fn : String} {b : Array UInt8} {tb : Tok} {enc rs : Value} {i j : Int} {Q : PySem.Builtin._codecs.Kind × Array Nat × Int × Int → Shared → Prop} (x : Exc h₀ s.heap e (mems t0 ⟨enc, .bytes b tb, i, j, rs⟩)) (hb : 0 < b.size)
    (hj : 1 ≤ j) (hj' : j ≤ b.size) (h : ∀ it st, Q (.decode, it, st, j) s) : wpAny M A (PySem.Builtin._codecs.seen fn (.ref e)) Q E s := by
  obtain ⟨hp, g, d, tk, os⟩ := s
  have hx := x.there
  dsimp only at hx
  have hT : Shared.TypeIs ⟨hp, g, d, tk, os⟩ (.ref e) "UnicodeDecodeError" := ⟨_, hx, rfl⟩
  have hs1 := ude_not_uee
  have hs2 := ude_new.sub
  have hs3 := ude_not_ute
  have hne : (Array.map (fun x : UInt8 => x.toNat) b).isEmpty = false := by
    rw [Array.isEmpty_eq_false_iff]
    intro q
    have q2 := congrArg Array.size q
    rw [Array.size_map] at q2
    simp at q2
    rw [q2] at hb
    simp at hb
  wp_walk
  have e1 : min (max j 1) ((b.map (·.toNat)).size : Int) = j := by rw [Array.size_map]; omega
  show Q (.decode, _, _, min (max j 1) ((b.map (·.toNat)).size : Int)) _
  rw [e1]
  exact h _ _
theorem call_rep {b : Array UInt8} {tb : Tok} {enc rs : Value} {i j : Int} {Q : Value → Shared → Prop} (x : Exc h₀ s.heap e (mems t0 ⟨enc, .bytes b tb, i, j, rs⟩)) (hb : 0 < b.size)
    (hj : 1 ≤ j) (hj' : j ≤ b.size) (h : ∀ h' a t1 t2 k, Exc h₀ h' e (mems t0 ⟨enc, .bytes b tb, i, j, rs⟩) → h'.get? a = some { cls := .type "tuple", data := .seq #[.str ⟨#[65533]⟩ t1, .int j t2] } → Q (.ref a) { s with heap := h', toks := k }) :
    wpAny (model prog w) A (call (.builtin "_codecs.lookup_error.replace_errors") [.ref e]) Q E s := by
  refine call_function_entry rep_kind rep_plain rep_entry (rep_args _) ?_
  unfold Builtin.«_codecs.lookup_error.replace_errors»
  refine wpAny_bind (wpAny_of_eq (a := .ref e) rfl ?_)
  refine wpAny_bind (rep_seen x hb hj hj' ?_)
  intro it st
  refine wpAny_ite (ite_t rfl ?_)
  unfold answer
  refine wpAny_bind (wpAny_mkStr ?_ ?_)
  rotate_left
  · show 1 ≤ sizeLine
    rw [sizeLine_eq]; decide
  refine wpAny_bind (wpAny_mkInt ?_)
  refine wpAny_bind (exc_tuple x (show 2 ≤ 1000 by decide) ?_)
  intro h' a x' ha
  exact wpAny_pure ⟨_, rfl, h _ _ _ _ _ x' ha⟩

def repV : Value := .builtin "_codecs.lookup_error.replace_errors"
def FSt (h₀ h : Heap) (b : Array UInt8) (st : Faults) : Prop :=
  (st = { held := [] } ∧ ∀ a o, h₀.get? a = some o → h.get? a = some o) ∨
  ∃ e t0 tb enc i j rs, st = { handler := some repV, exc := some (.ref e), held := [] } ∧ Exc h₀ h e (mems t0 ⟨enc, .bytes b tb, i, j, rs⟩)
theorem none_of {h₀ h : Heap} {e : Addr} (hk : ∀ a o, h₀.get? a = some o → h.get? a = some o) (hn : h.get? e = none) : h₀.get? e = none := by
  cases q : h₀.get? e with
  | none => rfl
  | some o => have := hk e o q; rw [hn] at this; cases this
theorem fault {id : String} {st : Faults} {b : Array UInt8} {i j : Nat} {rs : String} {Q : Faults × Array Nat × Nat → Shared → Prop} (x : FSt h₀ s.heap b st) (hb : b.size ≤ 1000000) (hij : i < j) (hj : j ≤ b.size) (hr : (Str.ofString rs).length ≤ 100)
    (h : ∀ st' h' k, FSt h₀ h' b st' → Q (st', #[65533], j) { s with heap := h', toks := k }) :
    wpAny (model prog w) A (decodeFault id st (some (Str.ofString "replace")) ["ignore", "replace", "surrogateescape"] "utf-8" b i j rs) Q E s := by
  unfold decodeFault
  rcases x with ⟨rfl, hk⟩ | ⟨e, t0, tb, enc, i0, j0, rs0, rfl, x⟩
  · refine wpAny_bind (wpAny_of_eq (a := repV) (by kernel_rfl) ?_)
    refine wpAny_bind (wpAny_holding ?_)
    refine wpAny_mono (Q := fun a s' => ∃ e t1 tb enc rs' h1 k1, a = .ref e ∧ s' = { s with heap := h1, toks := k1 } ∧ Exc h₀ h1 e (mems t1 ⟨enc, .bytes b tb, (i : Int), (j : Int), rs'⟩)) ?_ ?_ (fun _ _ e => e)
    · wp_step
      wp_step
      refine wpAny_mkStr ?_ (by rw [sizeLine_eq]; decide)
      refine wpAny_bind (wpAny_mkBytes ?_ (by rw [sizeLine_eq]; omega))
      refine wpAny_bind (wpAny_mkInt ?_)
      refine wpAny_bind (wpAny_mkInt ?_)
      refine wpAny_bind (wpAny_mkStr ?_ (by rw [sizeLine_eq]; omega))
      refine call_ude (by omega) (by omega) (by omega) (by omega) ?_
      intro h' e t1 x
      exact ⟨e, t1, _, _, _, h', _, rfl, rfl, ⟨fun a o ha => x.keeps a o (hk a o ha), by
        exact none_of hk x.new, x.there⟩⟩

    intro r1 s1 hr1
    obtain ⟨e1, t1, tb1, enc1, rs1, h1, k1, rfl, rfl, x1⟩ := hr1
    refine wpAny_bind ?_
    wp_step
    refine wpAny_bind (exc_members x1 ?_)
    wp_step
    wp_step
    wp_step
    refine call_rep x1 (by omega) (by omega) (by omega) ?_
    intro h2 a2 ta2 tb2 k2 x2 ha2
    refine wpAny_bind (exc_members x2 ?_)
    have key : ∀ c : Bool, c = (tb1 == tb1 && b == b) → (!c) ≠ true := by intro c hc; rw [hc]; simp
    refine wpAny_ite (ite_f (key _ rfl) ?_)
    have hT : Shared.TypeIs ⟨h2, s.gens, s.drawn, k2, s.os⟩ (.ref a2) "tuple" := ⟨_, ha2, rfl⟩
    have hsub := sub_tuple_tuple
    have hi1 : (decide ((j : Int) < -2 ^ 63) || decide ((j : Int) ≥ 2 ^ 63)) = false := by simp; omega
    wp_walk
    refine wpAny_ite (ite_f (by rw [hi1]; simp) ?_)
    refine wpAny_pure ?_
    refine wpAny_bind ?_
    wp_step
    have ej : (if (j : Int) < 0 then (j : Int) + (b.size : Int) else (j : Int)) = (j : Int) := if_neg (by omega)
    rw [ej]
    refine wpAny_ite (ite_f (by simp; omega) ?_)
    refine wpAny_ite (ite_f (by omega) ?_)
    refine wpAny_pure (wpAny_pure ?_)
    exact h _ _ _ (.inr ⟨e1, t1, tb1, _, _, _, _, rfl, x2⟩)
  · refine wpAny_bind (wpAny_of_eq (a := repV) rfl ?_)
    refine wpAny_bind (wpAny_holding ?_)
    refine wpAny_mono (Q := fun a s' => ∃ e t1 tb enc rs' h1 k1, a = .ref e ∧ s' = { s with heap := h1, toks := k1 } ∧ Exc h₀ h1 e (mems t1 ⟨enc, .bytes b tb, (i : Int), (j : Int), rs'⟩)) ?_ ?_ (fun _ _ e => e)
    · wp_step
      wp_step
      refine exc_members x ?_
      refine wpAny_bind (wpAny_mkStr ?_ (by rw [sizeLine_eq]; omega))
      refine wpAny_bind (exc_setm _ x ?_)
      intro h' x'
      exact wpAny_pure ⟨e, t0, _, _, _, h', _, rfl, rfl, x'⟩

    intro r1 s1 hr1
    obtain ⟨e1, t1, tb1, enc1, rs1, h1, k1, rfl, rfl, x1⟩ := hr1
    refine wpAny_bind ?_
    wp_step
    refine wpAny_bind (exc_members x1 ?_)
    wp_step
    wp_step
    wp_step
    refine call_rep x1 (by omega) (by omega) (by omega) ?_
    intro h2 a2 ta2 tb2 k2 x2 ha2
    refine wpAny_bind (exc_members x2 ?_)
    have key : ∀ c : Bool, c = (tb1 == tb1 && b == b) → (!c) ≠ true := by intro c hc; rw [hc]; simp
    refine wpAny_ite (ite_f (key _ rfl) ?_)
    have hT : Shared.TypeIs ⟨h2, s.gens, s.drawn, k2, s.os⟩ (.ref a2) "tuple" := ⟨_, ha2, rfl⟩
    have hsub := sub_tuple_tuple
    have hi1 : (decide ((j : Int) < -2 ^ 63) || decide ((j : Int) ≥ 2 ^ 63)) = false := by simp; omega
    wp_walk
    refine wpAny_ite (ite_f (by rw [hi1]; simp) ?_)
    refine wpAny_pure ?_
    refine wpAny_bind ?_
    wp_step
    have ej : (if (j : Int) < 0 then (j : Int) + (b.size : Int) else (j : Int)) = (j : Int) := if_neg (by omega)
    rw [ej]
    refine wpAny_ite (ite_f (by simp; omega) ?_)
    refine wpAny_ite (ite_f (by omega) ?_)
    refine wpAny_pure (wpAny_pure ?_)
    exact h _ _ _ (.inr ⟨e1, t1, tb1, _, _, _, _, rfl, x2⟩)
end
end Mine
end

section
open PySem PySem.W PyProof.Rows PySem.Spec PySem.Calls
namespace Mine
open PySem.Builtin PySem.Builtin.UnicodeEncodeError PySem.Builtin._codecs
section
variable {prog : Program} {w : World} {A : Around} {E : Value → Shared → Prop} {s : Shared} {h₀ : Heap}
def cints (x : Array Nat) : List Int := x.toList.map fun (c : Nat) => (c : Int)
theorem run_dec {id : String} {b : Array UInt8} {Q : Array Nat × Nat → Shared → Prop} (hb : b.size ≤ 1000000)
    (h : ∀ out p h' k, (∀ a o, s.heap.get? a = some o → h'.get? a = some o) → cints out = signs (octs b) → Q (out, p) { s with heap := h', toks := k }) :
    wpAny (model prog w) A (runDecoder id utf8Decoder (some (Str.ofString "replace")) true b 0 []) Q E s := by
  unfold runDecoder
  dsimp only
  refine wpAny_bind ?_
  rw [Std.Legacy.Range.forIn_eq_forIn_range']
  simp only [Std.Legacy.Range.size, Nat.sub_zero, Nat.add_sub_cancel, Nat.div_one]
  have fin : ∀ (out : Array Nat) (p : Nat) (st : Faults) (h' : Heap) (k : Nat), FSt s.heap h' b st → b.size ≤ p → cints out ++ signs ((octs b).drop p) = signs (octs b) →
      wpAny (model prog w) A (pure (out, p)) Q E { s with heap := h', toks := k } := by
    intro out p st h' k x hp hs
    refine wpAny_pure (h _ _ _ _ ?_ ?_)
    · rcases x with ⟨_, hk⟩ | ⟨_, _, _, _, _, _, _, _, x⟩
      · exact hk
      · exact x.keeps
    · rw [List.drop_eq_nil_of_le (by rw [octs_length]; exact hp), signs_nil, List.append_nil] at hs
      exact hs
  refine wpAny_forIn_list _ (fun rest (st : Nat × Array Nat × Faults) s' => ∃ h' k, s' = { s with heap := h', toks := k } ∧ FSt s.heap h' b st.2.2 ∧ b.size ≤ st.1 + rest.length ∧ st.2.1.size ≤ st.1 ∧ st.1 ≤ b.size ∧ cints st.2.1 ++ signs ((octs b).drop st.1) = signs (octs b)) _ ?_ ?_ _ _ ?_
  · rintro i rest ⟨p, out, st⟩ s' ⟨h', k, rfl, x, hr, ho, hp, hs⟩
    dsimp only at x hr ho hp hs ⊢
    refine wpAny_ite (ite_f (by rw [sizeLine_eq]; omega) ?_)
    refine wpAny_ite ?_
    by_cases hpz : p ≥ b.size
    · rw [if_pos hpz]
      exact wpAny_pure (fin _ _ _ _ _ x hpz hs)
    · rw [if_neg hpz]
      have hlt : p < b.size := by omega
      obtain ⟨h1, h2, h3⟩ := at_one b p hlt
      have hst := signs_at b p hlt
      generalize one (b[p].toNat : Int) ((octs b).drop (p + 1)) = o at h1 h2 h3 hst
      obtain ⟨v, n⟩ := o
      dsimp only at h1 h2 h3 hst
      rcases h3 with ⟨c, hu, hc⟩ | ⟨r, xx, hu, hc, hrl⟩
      · have e1 : utf8Decoder.find true b p = Found.char c (p + n) := by
          simp only [utf8Decoder, hu]
        rw [e1]
        refine wpAny_pure ⟨h', k, rfl, x, ?_, ?_, h2, ?_⟩
        · simp only [List.length_cons] at hr
          show b.size ≤ p + n + rest.length
          omega
        · show (out ++ #[c]).size ≤ p + n
          simp; omega
        · show cints (out ++ #[c]) ++ signs ((octs b).drop (p + n)) = _
          rw [← hs, hst, hc]
          simp [cints]
      · have e1 : ∃ g, utf8Decoder.find true b p = Found.bad (p + n) r g := by
          simp only [utf8Decoder, hu]
          exact ⟨_, rfl⟩
        obtain ⟨g, e1⟩ := e1
        rw [e1]
        refine wpAny_ite (ite_f (by simp) ?_)
        refine wpAny_bind (wpAny_rule ?_)
        refine wpAny_bind (fault x hb (by omega) h2 hrl ?_)
        intro st' h1' k1 x1
        refine wpAny_pure ⟨h1', k1, rfl, x1, ?_, ?_, h2, ?_⟩
        · simp only [List.length_cons] at hr
          show b.size ≤ p + n + rest.length
          omega
        · show (out ++ #[65533]).size ≤ p + n
          simp; omega
        · show cints (out ++ #[65533]) ++ signs ((octs b).drop (p + n)) = _
          rw [← hs, hst, hc]
          simp [cints]
  · rintro ⟨p, out, st⟩ s' ⟨h', k, rfl, x, hr, ho, hp, hs⟩
    exact fin _ _ _ _ _ x (by simpa using hr) hs
  · exact ⟨s.heap, s.toks, rfl, .inl ⟨rfl, fun _ _ e => e⟩, by simp, Nat.le_refl _, Nat.zero_le _, by simp [cints]⟩
end
end Mine
end

section
open PySem PySem.W PyProof.Rows PySem.Spec PySem.Calls
namespace Mine
open PySem.Builtin PySem.Builtin.UnicodeEncodeError PySem.Builtin._codecs
theorem road_rep {id : String} {b : Array UInt8} : decodeRoad id b (Str.ofString "utf-8") (some (Str.ofString "replace")) [] = (runDecoder id utf8Decoder (some (Str.ofString "replace")) true b 0 [] >>= fun r => mkStr ⟨r.1⟩) := by kernel_rfl
theorem dec_entry {c : UInt8} {cs : List UInt8} {t t1 t2 : Tok} : «bytes.decode» ⟨[.bytes (c :: cs).toArray t, .str (Str.ofString "utf-8") t1, .str (Str.ofString "replace") t2], []⟩ =
    (mkStr (Str.ofString "utf-8") >>= fun _ => mkStr (Str.ofString "utf-8") >>= fun e => mkStr (Str.ofString "replace") >>= fun r => mkStr (Str.ofString "bytes.decode") >>= fun d =>
      call (.builtin "_codecs.decode.text") [.bytes (c :: cs).toArray t, e, r, d] >>= fun v => ret v) := by kernel_rfl
theorem dec_entry0 {t t1 t2 : Tok} : «bytes.decode» ⟨[.bytes #[] t, .str (Str.ofString "utf-8") t1, .str (Str.ofString "replace") t2], []⟩ =
    (rule "bytes.decode.empty" >>= fun _ => retStr Str.empty) := by kernel_rfl
theorem dec_args (a : Value) {t1 t2 : Tok} : argsOk "bytes.decode" ⟨[a, .str (Str.ofString "utf-8") t1, .str (Str.ofString "replace") t2], []⟩ := by unfold argsOk; kernel_rfl
section
variable {prog : Program} {w : World} {A : Around} {E : Value → Shared → Prop} {s : Shared}
theorem text_rep {b : Array UInt8} {t t1 t2 t3 : Tok} {d : Str} {Q : Value → Shared → Prop} (hb : b.size ≤ 1000000)
    (h : ∀ x h' t' k, (∀ a o, s.heap.get? a = some o → h'.get? a = some o) → cints (Str.cps x) = signs (octs b) → Q (.str x t') { s with heap := h', toks := k }) :
    wpAny (model prog w) A (call (.builtin "_codecs.decode.text") [.bytes b t, .str (Str.ofString "utf-8") t1, .str (Str.ofString "replace") t2, .str d t3]) Q E s := by
  refine call_function_entry KBd.kind_text KBd.plain_text KBd.entry_text (KBd.args_text _ _ _ _) ?_
  show wpAny _ _ (Bytes.bytesLike _ (.bytes b t) >>= fun r => _) _ _ s
  refine wpAny_bind (wpAny_of_eq KBd.like_eq ?_)
  refine wpAny_bind (wpAny_of_eq KBd.held_eq ?_)
  show wpAny _ _ (decodeRoad _ b (Str.ofString "utf-8") (some (Str.ofString "replace")) [] >>= fun v => _) _ _ s
  rw [road_rep]
  refine wpAny_bind (wpAny_bind (run_dec hb ?_))
  intro out p h' k hk hs
  have hl : (Str.mk out).length ≤ sizeLine := by
    have h1 := signs_length (octs b)
    rw [← hs, octs_length] at h1
    have h2 : (cints out).length = out.size := by simp [cints]
    rw [sizeLine_eq]
    show out.size ≤ _
    omega
  refine wpAny_mkStr (wpAny_pure ⟨_, rfl, h _ _ _ _ hk hs⟩) hl
theorem decode_rep {b : Array UInt8} {t t1 t2 : Tok} {Q : Value → Shared → Prop} (hb : b.size ≤ 1000000)
    (h : ∀ x h' t' k, (∀ a o, s.heap.get? a = some o → h'.get? a = some o) → cints (Str.cps x) = signs (octs b) → Q (.str x t') { s with heap := h', toks := k }) :
    wpAny (model prog w) A (call (.builtin "bytes.decode") [.bytes b t, .str (Str.ofString "utf-8") t1, .str (Str.ofString "replace") t2]) Q E s := by
  obtain ⟨l⟩ := b
  cases l with
  | nil =>
    refine wpAny_call (codeAny_call_builtin FB.slot_bytes_decode.plain FB.entry_bytes_decode (FB.slot_bytes_decode.check _ _ _ _ _ _ _ _ (typeIs_bytes _ _ _) (dec_args _) ?_))
    rw [dec_entry0]
    refine wpAny_bind (wpAny_rule ?_)
    refine wpAny_bind (wpAny_mkStr (wpAny_pure ?_) (show 0 ≤ sizeLine from Nat.zero_le _))
    exact h Str.empty s.heap _ _ (fun _ _ e => e) rfl
  | cons c cs =>
    refine wpAny_call (codeAny_call_builtin FB.slot_bytes_decode.plain FB.entry_bytes_decode (FB.slot_bytes_decode.check _ _ _ _ _ _ _ _ (typeIs_bytes _ _ _) (dec_args _) ?_))
    rw [dec_entry]
    refine wpAny_bind (wpAny_mkStr ?_ (by rw [sizeLine_eq]; decide))
    refine wpAny_bind (wpAny_mkStr ?_ (by rw [sizeLine_eq]; decide))
    refine wpAny_bind (wpAny_mkStr ?_ (by rw [sizeLine_eq]; decide))
    refine wpAny_bind (wpAny_mkStr ?_ (by rw [sizeLine_eq]; decide))
    refine wpAny_bind (text_rep hb ?_)
    intro x h' t' k hk hs
    exact wpAny_pure (h _ _ _ _ hk hs)
end
end Mine
end

section
open PySem PySem.W PyProof.Rows
namespace Mine
set_option maxRecDepth 100000 in
set_option maxHeartbeats 8000000 in
open_top hd for PySem.Challenge.rw_ep5032_01
end Mine
end

section
open PySem PySem.W PyProof.Rows PySem.Spec PySem.Calls
namespace Mine
def Stop (P : Prop) : Prop := P
theorem Stop.mk {P : Prop} (h : Stop P) : P := h

abbrev tupOf (vs : List Value) : Obj := { cls := .type "tuple", data := .seq vs.toArray }

inductive IntArg : List (Addr × Obj) → List Value → Int → Prop
  | mk {news : List (Addr × Obj)} {d : Int} {t : Tok} : IntArg news [.int d t] d

def SpanOut (news : List (Addr × Obj)) (r : Value) (d : Int) : Prop :=
  ∃ a x y z t1 t2 t3, span d = (x, y, z) ∧ r = .ref a ∧ (a, tupOf [.int x t1, .int y t2, .int z t3]) ∈ news
abbrev spanT : ToldN Int where
  Rel := IntArg
  Ok := fun _ => True
  size := fun _ => 1
  Tl := fun _ => True
  Out := SpanOut

/-- append to a list of the ledger; what else of the ledger is kept is said in 'rest' -/
theorem my_append {prog : Program} {w : World} {A : Around} {E : Value → Shared → Prop} {s : Shared} {h₀ : Heap} {L D : Addr} {m : Str → Option Value} {news : List (Addr × Obj)} {us : List Value} {nn : Nat} {x : Value} {Q : Value → Shared → Prop}
    (rest : List (Addr × Obj)) (F : Fr h₀ L s.heap m) (N : News h₀ L s.heap news) (hm : (D, listOf us.toArray nn) ∈ news) (hr : ∀ p ∈ rest, p ∈ news ∧ p.1 ≠ D) (hsz : us.length ≤ sizeLine)
    (h : ∀ h', Fr h₀ L h' m → News h₀ L h' ((D, listOf (us ++ [x]).toArray (nn + 1)) :: rest) → Q .none { s with heap := h' }) :
    wpAny (model prog w) A (call (.builtin "list.append") [.ref D, x]) Q E s := by
  have N2 : News h₀ L s.heap ((D, listOf us.toArray nn) :: rest) := fun p hp => by
    rcases List.mem_cons.mp hp with rfl | hp
    · exact N _ hm
    · exact N _ (hr p hp).1
  refine append_K F N2 (Upd.head fun p hp => (hr p hp).2) (fun h' F' N' => h h' F' ?_) (by simpa using hsz)
  simpa using N'

/-- an item of a tuple of the ledger -/
theorem my_tup {prog : Program} {w : World} {A : Around} {E : Value → Shared → Prop} {s : Shared} {h₀ : Heap} {L t : Addr} {news : List (Addr × Obj)} {l : List Value} {k : Int} {u : Tok} {value slice : Expr} {Q : Value → Shared → Prop}
    (N : News h₀ L s.heap news) (hm : (t, tupOf l) ∈ news) (h0 : 0 ≤ k) (h1 : k < l.length) (hl : l.length < 1000) (h : ∀ v ∈ l, Q v s)
    (hs : subscripted slice false (.ref t) (.int k u) = operate [.ref t, .int k u] (getItem (.ref t) (.int k u)) := by with_unfolding_all rfl) :
    wpAny (model prog w) A (subscriptTail value slice (.ref t) (.int k u)) Q E s := by
  have h2 : k.toNat < l.length := by omega
  refine item_tupleT (News.isTup N hm) (by omega) (by omega) (j := k.toNat) ?_ (List.getElem?_eq_getElem h2) (h _ (List.getElem_mem h2)) hs
  unfold seqIndex?
  rw [if_neg (show ¬ k < 0 by omega), if_pos (by simp; omega)]
theorem my_chr {prog : Program} {w : World} {A : Around} {E : Value → Shared → Prop} {s : Shared} {i : Int} {t : Tok} {Q : Value → Shared → Prop} (h0 : 0 ≤ i) (h1 : i < 1114112) (h : ∀ t' k, Q (.str ⟨#[i.toNat]⟩ t') { s with toks := k }) :
    wpAny (model prog w) A (call (.builtin "chr") [.int i t]) Q E s := chr_of_range h0 (by omega) (h _ _)

/-- a contract, with the ledger behind it as one letter -/
theorem tellsW_use {D : Type} {prog : Program} {w : World} {K : Frag} {p : Program} {loose : List Str} {mean : ExcName → Option Value} {mg mb : Str → Option Value} {f : Addr} {c : ToldN D} {d : D} {dp un : Nat} {gd : Option (List Code)} {cn : Str} {cs : Scope} {a : Addr} {ccd : Value} {cl : List (Str × Addr)} {outer : List Env} {A₀ : Around} {base h₀ : Heap} {L : Addr} {m : Str → Option Value} {news : List (Addr × Obj)} {s : Shared} {vs : List Value}
    {Q E : Value → Shared → Prop} (B : Below A₀ base outer h₀) (F : Fr h₀ L s.heap m) (X : K.In h₀) (N : News h₀ L s.heap news) (T : Top p loose mean mg mb h₀) (hk : cs.kind = .function) (R : c.Rel news vs d) (C : TellsN prog w K p loose mean mg mb f c d) (ok : c.Ok d)
    (hd : dp + c.size d < recursionLimit) (hu : un + 8 * c.size d < cLine)
    (ret : ∀ r nw h' tk', Fr h₀ L h' m → News h₀ L h' nw → (∀ q ∈ news, q ∈ nw) → c.Out nw r d → Q r { s with heap := h', toks := tk' }) :
    wpAny (model prog w) (ktrTop dp un gd cn cs L a ccd cl outer) (call (.ref f) vs) Q E s :=
  tellsN_use B F X N T hk R C ok hd hu fun r tl h' tk' F' N' _ _ ho => ret r _ h' tk' F' N' (fun q hq => List.mem_append.mpr (.inl hq)) ho
/-- the ledger with an entry laid on top that it bears -/
theorem news_top {h₀ h : Heap} {L : Addr} {nw : List (Addr × Obj)} {q : Addr × Obj} (N : News h₀ L h nw) (hq : q ∈ nw) : News h₀ L h (q :: nw) := fun p hp => by
  rcases List.mem_cons.mp hp with rfl | hp
  · exact N _ hq
  · exact N _ hp

theorem fr_keeps {h₀ h h' : Heap} {L : Addr} {m : Str → Option Value} (F : Fr h₀ L h m) (k : ∀ b o, h.get? b = some o → h'.get? b = some o) : Fr h₀ L h' m :=
  ⟨let ⟨o, es, ep, e, r⟩ := F.ns; ⟨o, es, ep, k _ _ e, r⟩, fun b o e => k _ _ (F.keep b o e), F.above⟩
theorem news_keeps {h₀ h h' : Heap} {L : Addr} {nw : List (Addr × Obj)} (N : News h₀ L h nw) (k : ∀ b o, h.get? b = some o → h'.get? b = some o) : News h₀ L h' nw := fun p hp => ⟨k _ _ (N p hp).1, (N p hp).2⟩
/-- list(a tuple of the ledger) -/
theorem my_list_tup {prog : Program} {w : World} {A : Around} {E : Value → Shared → Prop} {s : Shared} {h₀ : Heap} {L q : Addr} {m : Str → Option Value} {nw : List (Addr × Obj)} {us : List Value} {Q : Value → Shared → Prop}
    (F : Fr h₀ L s.heap m) (N : News h₀ L s.heap nw) (hm : (q, tupOf us) ∈ nw) (hz : us.length ≤ 1000)
    (h : ∀ a c h', Fr h₀ L h' m → News h₀ L h' ((a, listOf us.toArray c) :: nw) → Q (.ref a) { s with heap := h' }) :
    wpAny (model prog w) A (call (.type "list") [.ref q]) Q E s := by
  refine call_list_seq q (.inr rfl) (N _ hm).1 rfl rfl (fun h' c k ha => h _ c h' (fr_keeps F k) fun p hp => ?_) (by rw [sizeLine_eq, List.size_toArray]; omega)
  rcases List.mem_cons.mp hp with rfl | hp
  · exact ⟨ha, Nat.ne_of_gt F.ns.lt, next_is_new F⟩
  · exact news_keeps N k p hp
end Mine
end

section
open PySem PySem.W PyProof.Rows PySem.Spec PySem.Calls
namespace Mine
set_option maxHeartbeats 8000000 in
theorem span_tells (w : World) (s₀ : Shared) (mg mb : Str → Option Value) : ∀ d, TellsN PySem.Challenge.rw_ep5032_01.row.prog w (Mine.hd.heap_39 w.params) Mine.hd.view_39 (looseW Mine.hd.view_39 []) (ExcName.means s₀.heap) mg mb 65 spanT d := by
  w_on
  k_fill
  intro d
  unfold TellsN
  intro dp un gd cn cs a ccd cl outer A₀ base h₀ L m news s vs Q E B F X N T hk hR hok hd hu hret
  cases hR
  refine wpAny_call ?_
  k_dflt ktr_enter
  k_steps
  all_goals (refine hret _ [_] _ _ (by k_asm) (ktn_tl1 (by k_asm)) (ktn_ord1 (by ktn_lt)) trivial ⟨_, _, _, _, _, _, _, ?_, rfl, List.mem_append.mpr (.inr (.head _))⟩)
  all_goals (clear hret; unfold span; (repeat' split) <;> first | rfl | (exfalso; omega))
end Mine
end

section
open PySem PySem.W PyProof.Rows PySem.Spec PySem.Calls
namespace Mine
inductive RunArg : List (Addr × Obj) → List Value → List Int → Prop
  | mk {news : List (Addr × Obj)} {os : List Int} {a : Addr} {us : List Value} {n : Nat} : (a, listOf us.toArray n) ∈ news → IntsAre us os → (∀ o ∈ os, 0 ≤ o ∧ o < 256) → os.length ≤ 1000 → RunArg news [.ref a] os
def ListOut (news : List (Addr × Obj)) (r : Value) (l : List Int) : Prop :=
  ∃ a us n, r = .ref a ∧ (a, listOf us.toArray n) ∈ news ∧ IntsAre us l
abbrev signsT : ToldN (List Int) where
  Rel := RunArg
  Ok := fun _ => True
  size := fun _ => 2
  Tl := fun _ => True
  Out := fun news r d => ListOut news r (signs d)
structure SgSt where
  k : Int
  tk : Tok
  us : List Value
  T : List Int
  nn : Nat
structure InSt where
  j : Int
  tj : Tok
  v : Int
  tv : Tok
  lo : Int
  tlo : Tok
  hi : Int
  thi : Tok
theorem getD_bd {d : List Int} {k : Nat} (h : ∀ o ∈ d, 0 ≤ o ∧ o < 256) : 0 ≤ d.getD k 0 ∧ d.getD k 0 < 256 := by
  rw [List.getD_eq_getElem?_getD]
  cases e : d[k]? with
  | none => decide
  | some x => exact h x (List.mem_of_getElem? e)
/-- the value that the inner walk starts with -/
theorem start_val {l x : Int} (hx : x = 1 ∨ x = 2 ∨ x = 3) : Builtin.bitAnd l (Int.fdiv 63 (2 ^ x.toNat)) = l % (64 / 2 ^ x.toNat) := by
  rcases hx with rfl | rfl | rfl
  · exact bitAnd_m5 l
  · exact bitAnd_m4 l
  · exact bitAnd_m3 l
/-- what the inner walk's state says: the rest of the walk gives the whole -/
def InP (d : List Int) (k : Nat) (x v0 y z : Int) (c : InSt) : Prop :=
  1 ≤ c.j ∧ c.j ≤ x + 1 ∧ (k : Int) + c.j ≤ d.length ∧ 0 ≤ c.v ∧ (c.j = 1 → c.v < 64) ∧ (c.j = 2 → c.v < 4096) ∧ (c.j = 3 → c.v < 262144) ∧ (c.j = 4 → c.v < 16777216) ∧
  (inner (x + 1 - c.j).toNat c.v c.lo c.hi (d.drop (k + c.j.toNat))).1 + (c.j - 1).toNat = (inner x.toNat v0 y z (d.drop (k + 1))).1 ∧
  (inner (x + 1 - c.j).toNat c.v c.lo c.hi (d.drop (k + c.j.toNat))).2 = (inner x.toNat v0 y z (d.drop (k + 1))).2
theorem drop_at {d : List Int} {n : Nat} (h : n < d.length) : d.drop n = d.getD n 0 :: d.drop (n + 1) := by
  rw [List.drop_eq_getElem_cons h]
  congr 1
  simp [List.getD_eq_getElem?_getD, h]
theorem inner_cons {n : Nat} {v lo hi x : Int} {xs : List Int} : inner (n + 1) v lo hi (x :: xs) = if lo ≤ x ∧ x ≤ hi then ((inner n (v * 64 + x % 64) 128 191 xs).1 + 1, (inner n (v * 64 + x % 64) 128 191 xs).2) else (0, v) := rfl
theorem inP_exit {d : List Int} {k : Nat} {x v0 y z : Int} {c : InSt} (hI : InP d k x v0 y z c) (e : inner (x + 1 - c.j).toNat c.v c.lo c.hi (d.drop (k + c.j.toNat)) = (0, c.v)) :
    multi x.toNat v0 y z (d.drop (k + 1)) = (if c.j = x + 1 then c.v else 65533, c.j.toNat) := by
  obtain ⟨hj1, hj2, hj3, hv1, hv2, hv3, hv4, hv5, hi1, hi2⟩ := hI
  rw [e] at hi1 hi2
  unfold multi
  rw [← hi1, ← hi2]
  dsimp only
  have e2 : 0 + (c.j - 1).toNat + 1 = c.j.toNat := by omega
  rw [e2]
  by_cases q : c.j = x + 1
  · rw [if_pos q, if_pos (by omega)]
  · rw [if_neg q, if_neg (by omega)]
theorem inner_none {d : List Int} {k : Nat} {x : Int} {c : InSt} (h : ¬ c.j ≤ x) : inner (x + 1 - c.j).toNat c.v c.lo c.hi (d.drop (k + c.j.toNat)) = (0, c.v) := by
  rw [show (x + 1 - c.j).toNat = 0 by omega]; rfl
theorem inner_nil {n : Nat} {v lo hi : Int} : inner n v lo hi [] = (0, v) := by cases n <;> rfl
theorem inner_end {d : List Int} {k : Nat} {x : Int} {c : InSt} (h : d.length ≤ k + c.j.toNat) : inner (x + 1 - c.j).toNat c.v c.lo c.hi (d.drop (k + c.j.toNat)) = (0, c.v) := by
  rw [List.drop_eq_nil_of_le h]; exact inner_nil
theorem inner_bad {d : List Int} {k : Nat} {x : Int} {c : InSt} (hl : k + c.j.toNat < d.length) (h : ¬ (c.lo ≤ d.getD (k + c.j.toNat) 0 ∧ d.getD (k + c.j.toNat) 0 ≤ c.hi)) :
    inner (x + 1 - c.j).toNat c.v c.lo c.hi (d.drop (k + c.j.toNat)) = (0, c.v) := by
  rw [drop_at hl]
  cases (x + 1 - c.j).toNat with
  | zero => rfl
  | succ n => rw [inner_cons, if_neg h]
theorem inP_step {d : List Int} {k : Nat} {x v0 y z : Int} {c : InSt} {tj tv tlo thi : Tok} (hI : InP d k x v0 y z c) (hx : x ≤ 3) (hj : c.j ≤ x) (hl : k + c.j.toNat < d.length) (h : c.lo ≤ d.getD (k + c.j.toNat) 0 ∧ d.getD (k + c.j.toNat) 0 ≤ c.hi) :
    InP d k x v0 y z ⟨c.j + 1, tj, c.v * 64 + d.getD (k + c.j.toNat) 0 % 64, tv, 128, tlo, 191, thi⟩ := by
  obtain ⟨hj1, hj2, hj3, hv1, hv2, hv3, hv4, hv5, hi1, hi2⟩ := hI
  have e1 : (x + 1 - c.j).toNat = (x + 1 - (c.j + 1)).toNat + 1 := by omega
  have e2 : k + (c.j + 1).toNat = k + c.j.toNat + 1 := by omega
  rw [drop_at hl, e1] at hi1 hi2
  rw [inner_cons, if_pos h] at hi1 hi2
  have hm := Int.emod_nonneg (d.getD (k + c.j.toNat) 0) (b := 64) (by decide)
  have hm2 := Int.emod_lt_of_pos (d.getD (k + c.j.toNat) 0) (b := 64) (by decide)
  generalize d.getD (k + c.j.toNat) 0 % 64 = r at *
  refine ⟨by dsimp only; omega, by dsimp only; omega, by dsimp only; omega, by dsimp only; omega, by dsimp only; omega, by dsimp only; omega, by dsimp only; omega, by dsimp only; omega, ?_, ?_⟩
  · dsimp only
    rw [e2, ← hi1]
    omega
  · dsimp only
    rw [e2]
    exact hi2
local macro_rules | `(tactic| walk_at "mine same") => `(tactic| (intro z h2 h3; (try simp only [List.forall_mem_cons, List.not_mem_nil, false_implies, implies_true, and_true, ne_eq] at h2); (try simp only [List.contains_cons, List.contains_nil, Bool.or_false, Bool.or_eq_false_iff, beq_eq_false_iff_ne, ne_eq] at h3); simp [kstB, h2, h3]))
local macro_rules | `(tactic| walk_at "call ref") => `(tactic| refine Stop.mk ?_)
local macro_rules | `(tactic| walk_at "call builtin:list.append") => `(tactic| refine Stop.mk ?_)
local macro_rules | `(tactic| walk_at "exec While") => `(tactic| refine Stop.mk ?_)
local macro_rules | `(tactic| walk_at "exec While Compare cons nil") => `(tactic| refine Stop.mk ?_)
set_option hygiene false in
local macro_rules | `(tactic| walk_at "mine exit") => `(tactic| (
  rw [hx] at hsd
  dsimp only at hsd
  unfold Stop
  (rename Fr _ _ _ _ => lF)
  (rename News _ _ _ _ => lN)
  refine my_append ((ra, W.listOf us.toArray rn) :: news) lF lN (.head _) (fun p hp => ⟨.tail _ hp, (hrest (ra, W.listOf us.toArray rn) [] p hp).2⟩) (by rw [sizeLine_eq]; omega) ?_
  clear lF lN
  intro hq Fq Nq
  k_steps
  (rename Fr _ _ _ _ => lF)
  (rename News _ _ _ _ => lN)
  dsimp only at lF lN
  exact ksw_end ⟨k + j, _, us1 ++ [_], T1 ++ [_], nn + 1⟩ lF lN (fun _ hp => hp) (IntsAre.append hf (.cons _ _ .nil)) (List.forall_mem_cons.mpr ⟨rfl, List.forall_mem_nil _⟩) (by walk_at "mine same")
    ⟨by dsimp only; omega, by dsimp only; omega, by simp only [List.length_append, List.length_cons, List.length_nil]; omega, by dsimp only; rw [← hP, hsd, ej]; simp⟩ (by dsimp only; omega)))
set_option maxHeartbeats 8000000 in
theorem signs_tells (w : World) (s₀ : Shared) (mg mb : Str → Option Value) : ∀ d, TellsN PySem.Challenge.rw_ep5032_01.row.prog w (Mine.hd.heap_39 w.params) Mine.hd.view_39 (looseW Mine.hd.view_39 []) (ExcName.means s₀.heap) mg mb 72 signsT d := by
  w_on
  k_fill
  intro d
  unfold TellsN
  intro dp un gd cn cs a ccd cl outer A₀ base h₀ L m news s vs Q E B F X N T hk hR hok hd hu hret
  cases hR
  rename_i ra us rn hra hus hbd hln
  refine wpAny_call ?_
  k_dflt ktr_enter
  k_steps
  unfold Stop
  (rename Fr _ _ _ _ => lF')
  (rename News _ _ _ _ => lN')
  dsimp only at lF' lN' ⊢
  rename_i l1 hA lt1 Da hB lt2 hC hD hE
  refine ksw_while (σ := SgSt) (fun c => (l1, listOf c.us.toArray c.nn) :: (ra, listOf us.toArray rn) :: news) (fun c => [(Str.ofString "k", .int c.k c.tk)]) (fun c => IntsAre c.us c.T) [Str.ofString "lead", Str.ofString "more", Str.ofString "low", Str.ofString "high", Str.ofString "value", Str.ofString "j"]
    (fun c => 0 ≤ c.k ∧ c.k ≤ d.length ∧ c.T.length ≤ c.k.toNat ∧ c.T ++ signs (d.drop c.k.toNat) = signs d) (fun c => (d.length - c.k).toNat) ⟨0, tk, [], [], 0⟩ lF' ?_ ?_ ?_ ?_ ?_
  · intro p hp
    rcases List.mem_cons.mp hp with rfl | hp
    · exact lN' _ (.tail _ (.head _))
    rcases List.mem_cons.mp hp with rfl | hp
    · exact lN' _ (.tail _ (.tail _ hra))
    exact lN' _ (.tail _ (.tail _ hp))
  · exact .nil
  · intro p hp
    rw [List.mem_singleton.mp hp]; rfl
  · exact ⟨Int.le_refl _, by simp, by simp, by simp⟩
  clear lF' lN'
  rintro ⟨k, tk, us1, T1, nn⟩ u h2 tk2 hf ⟨hk0, hkl, hTl, hP⟩ F2 N2
  have kM : KstMark := kstMark
  dsimp only at hf hk0 hkl hTl hP F2 N2
  have hra1 : ra < l1 := lt1 _ hra
  have hul : us1.length ≤ 1000 := by rw [hf.length]; omega
  have hrest : ∀ (x : Addr × Obj) (l : List (Addr × Obj)), ∀ p ∈ (ra, W.listOf us.toArray rn) :: news, p ∈ x :: (l1, W.listOf us1.toArray nn) :: (ra, W.listOf us.toArray rn) :: news ∧ p.1 ≠ l1 := by
    intro x l p hp
    refine ⟨.tail _ (.tail _ hp), ?_⟩
    rcases List.mem_cons.mp hp with rfl | hp
    · exact Nat.ne_of_lt hra1
    · exact Nat.ne_of_lt (lt1 p hp)
  k_steps
  · unfold Stop
    (rename Fr _ _ _ _ => lF)
    (rename News _ _ _ _ => lN)
    (rename k < _ => hkk)
    refine tellsN_use (by k_asm) lF (by k_asm) lN (by k_asm) rfl IntArg.mk (span_tells w s₀ mg mb _) trivial ?_ ?_ ?_
    · ktr_room
    · ktr_units
    intro r tl h' tk' F' N' lt' _ ho
    obtain ⟨sa, sx, sy, sz, t1, t2, t3, hsp, rfl, hmem⟩ := ho
    have N3 : News _ _ _ ((sa, tupOf [.int sx t1, .int sy t2, .int sz t3]) :: (l1, W.listOf us1.toArray nn) :: (ra, W.listOf us.toArray rn) :: news) := fun p hp => by
      rcases List.mem_cons.mp hp with rfl | hp
      · exact N' _ hmem
      · exact N' _ (List.mem_append.mpr (.inl hp))
    clear N' lN lF
    have hsd := signs_drop d k.toNat (by omega)
    have hgb := getD_bd (k := k.toNat) hbd
    generalize hld : d.getD k.toNat 0 = ld at hsp hsd hgb
    k_steps
    · -- one octet, a sign
      unfold Stop
      (rename Fr _ _ _ _ => lF)
      (rename News _ _ _ _ => lN)
      (rename sx = 0 => hsx)
      rw [one_zero hsp hsx] at hsd
      refine my_append ((ra, W.listOf us.toArray rn) :: news) lF lN (.tail _ (.head _)) (hrest _ []) (by rw [sizeLine_eq]; omega) ?_
      clear lF lN
      intro hq Fq Nq
      k_steps
      (rename Fr _ _ _ _ => lF)
      (rename News _ _ _ _ => lN)
      dsimp only at lF lN
      have e1 : (k + 1).toNat = k.toNat + 1 := by omega
      exact ksw_end ⟨k + 1, _, us1 ++ [_], T1 ++ [ld], nn + 1⟩ lF lN (fun _ hp => hp) (IntsAre.append hf (by rw [hld]; exact .cons _ _ .nil)) (List.forall_mem_cons.mpr ⟨rfl, List.forall_mem_nil _⟩) (by walk_at "mine same")
        ⟨by dsimp only; omega, by dsimp only; omega, by simp only [List.length_append, List.length_cons, List.length_nil]; omega, by dsimp only; rw [← hP, hsd, e1]; simp⟩ (by dsimp only; omega)
    · unfold Stop
      (rename Fr _ _ _ _ => lF)
      (rename News _ _ _ _ => lN)
      (rename sx < 0 => hsx)
      rw [one_neg hsp hsx] at hsd
      refine my_append ((ra, W.listOf us.toArray rn) :: news) lF lN (.tail _ (.head _)) (hrest _ []) (by rw [sizeLine_eq]; omega) ?_
      clear lF lN
      intro hq Fq Nq
      k_steps
      (rename Fr _ _ _ _ => lF)
      (rename News _ _ _ _ => lN)
      dsimp only at lF lN
      have e1 : (k + 1).toNat = k.toNat + 1 := by omega
      exact ksw_end ⟨k + 1, _, us1 ++ [_], T1 ++ [65533], nn + 1⟩ lF lN (fun _ hp => hp) (IntsAre.append hf (.cons _ _ .nil)) (List.forall_mem_cons.mpr ⟨rfl, List.forall_mem_nil _⟩) (by walk_at "mine same")
        ⟨by dsimp only; omega, by dsimp only; omega, by simp only [List.length_append, List.length_cons, List.length_nil]; omega, by dsimp only; rw [← hP, hsd, e1]; simp⟩ (by dsimp only; omega)
    · unfold Stop
      (rename Fr _ _ _ _ => lF)
      (rename News _ _ _ _ => lN)
      (rename ¬ sx < 0 => hsx1)
      (rename sx ≠ 0 => hsx2)
      dsimp only at lF lN ⊢
      have hsx3 := span_range hsp
      have hsx : sx = 1 ∨ sx = 2 ∨ sx = 3 := by omega
      rw [one_more hsp (by omega)] at hsd
      rw [hld, start_val hsx] at lF
      have hv0 : 0 ≤ ld % (64 / 2 ^ sx.toNat) ∧ ld % (64 / 2 ^ sx.toNat) < 32 + 1 := by
        rcases hsx with rfl | rfl | rfl
        · show 0 ≤ ld % 32 ∧ ld % 32 < 33; omega
        · show 0 ≤ ld % 16 ∧ ld % 16 < 33; omega
        · show 0 ≤ ld % 8 ∧ ld % 8 < 33; omega
      generalize ld % (64 / 2 ^ sx.toNat) = v0 at lF hv0 hsd
      refine ksw_while (σ := InSt) (fun c => (l1, listOf us1.toArray nn) :: (ra, listOf us.toArray rn) :: news) (fun c => [(Str.ofString "j", .int c.j c.tj), (Str.ofString "value", .int c.v c.tv), (Str.ofString "low", .int c.lo c.tlo), (Str.ofString "high", .int c.hi c.thi)]) (fun c => True) []
        (InP d k.toNat sx v0 sy sz) (fun c => (sx + 1 - c.j).toNat) ⟨1, _, v0, _, sy, _, sz, _⟩ lF (fun p hp => lN p (.tail _ (.tail _ hp))) trivial
        (List.forall_mem_cons.mpr ⟨rfl, List.forall_mem_cons.mpr ⟨rfl, List.forall_mem_cons.mpr ⟨rfl, List.forall_mem_cons.mpr ⟨rfl, List.forall_mem_nil _⟩⟩⟩⟩) ?_ ?_
      · have e1 : (sx + 1 - 1).toNat = sx.toNat := by omega
        refine ⟨by dsimp only; omega, by dsimp only; omega, by dsimp only; omega, by dsimp only; omega, by dsimp only; omega, by dsimp only; omega, by dsimp only; omega, by dsimp only; omega, ?_, ?_⟩
        · dsimp only; rw [e1]; rfl
        · dsimp only; rw [e1]; rfl
      clear lF lN
      rintro ⟨j, tj, v, tv, lo, tlo, hi, thi⟩ u3 h3 tk3 _ hI F3 N3
      have hI2 := hI
      obtain ⟨hj1, hj2, hj3, hv1, hv2, hv3, hv4, hv5, hi1, hi2⟩ := hI2
      dsimp only at hj1 hj2 hj3 hv1 hv2 hv3 hv4 hv5 hi1 hi2 F3 N3
      have ej : (k + j).toNat = k.toNat + j.toNat := by omega
      k_steps
      · (rename Fr _ _ _ _ => lF)
        (rename News _ _ _ _ => lN)
        dsimp only at lF lN
        (rename j ≤ sx => q1)
        (rename k + j < _ => q2)
        (rename lo ≤ _ => q3)
        (rename _ ≤ hi => q4)
        rw [ej] at q3 q4 lF
        rw [Int.fmod_eq_emod_of_nonneg _ (by decide)] at lF
        exact ksw_end ⟨j + 1, _, v * 64 + d.getD (k.toNat + j.toNat) 0 % 64, _, 128, _, 191, _⟩ lF lN (fun _ hp => .tail _ hp) trivial
          (List.forall_mem_cons.mpr ⟨rfl, List.forall_mem_cons.mpr ⟨rfl, List.forall_mem_cons.mpr ⟨rfl, List.forall_mem_cons.mpr ⟨rfl, List.forall_mem_nil _⟩⟩⟩⟩) (by walk_at "mine same")
          (inP_step hI (by omega) q1 (by dsimp only; omega) ⟨q3, q4⟩) (by dsimp only; omega)
      · have hx := inP_exit hI (inner_bad (by dsimp only; omega) (by dsimp only; rw [← ej]; omega))
        dsimp only at hx
        rw [if_neg (by omega)] at hx
        walk_at "mine exit"
      · have hx := inP_exit hI (inner_bad (by dsimp only; omega) (by dsimp only; rw [← ej]; omega))
        dsimp only at hx
        rw [if_neg (by omega)] at hx
        walk_at "mine exit"
      · have hx := inP_exit hI (inner_end (by dsimp only; omega))
        dsimp only at hx
        rw [if_neg (by omega)] at hx
        walk_at "mine exit"
      · have hx := inP_exit hI (inner_none (by dsimp only; omega))
        dsimp only at hx
        rw [if_pos (by omega)] at hx
        walk_at "mine exit"
  · (rename ¬ k < _ => hkk)
    (rename News _ _ _ _ => lN)
    have ek : T1 = signs d := by
      rw [List.drop_eq_nil_of_le (by omega), signs_nil, List.append_nil] at hP
      exact hP
    refine hret _ [(l1, listOf us1.toArray nn)] _ _ (by k_asm) (fun p hp => lN p ?_) (fun q hq p hp => ?_) trivial ⟨l1, us1, nn, rfl, List.mem_append.mpr (.inr (.head _)), ek ▸ hf⟩
    · rcases List.mem_append.mp hp with hp | hp
      · exact .tail _ (.tail _ hp)
      · rw [List.mem_singleton.mp hp]; exact .head _
    · rw [List.mem_singleton.mp hp]; exact lt1 q hq
end Mine
end

section
open PySem PySem.W PyProof.Rows PySem.Spec PySem.Calls
namespace Mine
inductive OctArg : List (Addr × Obj) → List Value → Int → Prop
  | mk {news : List (Addr × Obj)} {d : Int} {t : Tok} : 0 ≤ d → d < 1114112 → OctArg news [.int d t] d
def oct (p : Int) : List Int :=
  if p < 128 then [p] else if p < 2048 then [192 + p / 64, 128 + p % 64]
  else if p < 65536 then [224 + p / 4096, 128 + p / 64 % 64, 128 + p % 64]
  else [240 + p / 262144, 128 + p / 4096 % 64, 128 + p / 64 % 64, 128 + p % 64]
abbrev octT : ToldN Int where
  Rel := OctArg
  Ok := fun _ => True
  size := fun _ => 1
  Tl := fun _ => True
  Out := fun news r d => ListOut news r (oct d)
theorem ints_eq {vs : List Value} {l l' : List Int} (h : IntsAre vs l') (e : l' = l) : IntsAre vs l := e ▸ h
set_option maxHeartbeats 8000000 in
theorem oct_tells (w : World) (s₀ : Shared) (mg mb : Str → Option Value) : ∀ d, TellsN PySem.Challenge.rw_ep5032_01.row.prog w (Mine.hd.heap_39 w.params) Mine.hd.view_39 (looseW Mine.hd.view_39 []) (ExcName.means s₀.heap) mg mb 46 octT d := by
  w_on
  k_fill
  intro d
  unfold TellsN
  intro dp un gd cn cs a ccd cl outer A₀ base h₀ L m news s vs Q E B F X N T hk hR hok hd hu hret
  cases hR
  rename_i h0 h1
  refine wpAny_call ?_
  k_dflt ktr_enter
  k_steps
  all_goals (refine hret _ [_] _ _ (by k_asm) (ktn_tl1 (by k_asm)) (ktn_ord1 (by ktn_lt)) trivial ⟨_, _, _, rfl, List.mem_append.mpr (.inr (.head _)), ?_⟩)
  all_goals (clear hret B F X N T; refine ints_eq (by repeat' constructor) ?_)
  all_goals (unfold oct; (repeat' split) <;> first | (exfalso; omega) | (simp only [Int.fdiv_eq_ediv_of_nonneg _ (show (0:Int) ≤ 64 by decide), Int.fdiv_eq_ediv_of_nonneg _ (show (0:Int) ≤ 4096 by decide), Int.fdiv_eq_ediv_of_nonneg _ (show (0:Int) ≤ 262144 by decide), Int.fmod_eq_emod_of_nonneg _ (show (0:Int) ≤ 64 by decide)]) | rfl)
end Mine
end

section
open PySem PySem.W PyProof.Rows PySem.Spec PySem.Calls
namespace Mine
/-- a text of one sign -/
def sg (c : Nat) : Str := ⟨#[c]⟩
theorem sg_len (c : Nat) : (sg c).length = 1 := rfl
theorem sg_cps (c : Nat) : (sg c).cps.toList = [c] := rfl
theorem item_sg {x : Str} {i : Int} (h0 : 0 ≤ i) (h1 : i < (x.length : Int)) : Txt.item x i = sg (x.cps.getD i.toNat 0) := by
  have h2 : i.toNat < x.cps.size := by have : (x.cps.size : Int) = x.length := rfl; omega
  have e : Txt.charAt x i = some (x.cps.getD i.toNat 0) := by
    unfold Txt.charAt seqIndex?
    rw [if_neg (show ¬ i < 0 by omega), if_pos (by simp; omega)]
    simp [Array.getD, h2]
  unfold Txt.item
  rw [e]
  rfl
section
variable {prog : Program} {w : World} {A : Around} {E : Value → Shared → Prop} {s : Shared} {value slice : Expr} {x y : Str} {t u : Tok} {Q : Value → Shared → Prop}
theorem my_item {i : Int} {u : Tok} (h0 : 0 ≤ i) (h1 : i < (x.length : Int)) (hx : x.length ≤ 1000000)
    (h : ∀ t' k, Q (.str (sg (x.cps.getD i.toNat 0)) t') { s with toks := k })
    (hs : subscripted slice false (.str x t) (.int i u) = operate [.str x t, .int i u] (getItem (.str x t) (.int i u)) := by with_unfolding_all rfl)
    (ht : ∀ r, letTemporaryGo value (.str x t) r = pure () := by intro _; with_unfolding_all rfl) :
    wpAny (model prog w) A (subscriptTail value slice (.str x t) (.int i u)) Q E s := by
  refine item_str (fitsSsize_of (N := 9223372036854775808) (by omega) (by omega) (Int.le_refl _)) (by omega) h1 (fun _ => ?_) hs ht
  rw [item_sg h0 h1]
  exact h _ _
theorem my_add (hl : x.length + y.length ≤ 10000000) (h : ∀ t' k, Q (.str (x ++ y) t') { s with toks := k }) : wpAny (model prog w) A (binaryOp .Add (.str x t) (.str y u)) Q E s :=
  SB.add h (by rw [sizeLine_eq]; omega)
theorem my_in {c : Nat} (h : Q (.bool (decide (c ∈ x.cps.toList))) s) : wpAny (model prog w) A (compareOp .In (.str (sg c) u) (.str x t)) Q E s := by
  refine P.in_str ?_
  rw [show (sg c) = ⟨#[c]⟩ from rfl, StrLaws.found_one]
  exact h
theorem my_ord {c : Nat} (h : ∀ t' k, Q (.int c t') { s with toks := k }) : wpAny (model prog w) A (call (.builtin "ord") [.str (sg c) t]) Q E s := P.ord_of_char (h _ _)
theorem my_len (hl : x.length ≤ 1000000) (h : ∀ t' k, Q (.int x.length t') { s with toks := k }) : wpAny (model prog w) A (call (.builtin "len") [.str x t]) Q E s := P.len_str (by omega) (h _ _)
end
/-- the codes of a text -/
def cod (x : Str) : List Nat := x.cps.toList
theorem cod_append (x y : Str) : cod (x ++ y) = cod x ++ cod y := by
  show (x.cps ++ y.cps).toList = _
  rw [Array.toList_append]; rfl
theorem cod_sg (c : Nat) : cod (sg c) = [c] := rfl
theorem cod_len (x : Str) : (cod x).length = x.length := by simp [cod, Str.length]
theorem cod_ext {x y : Str} (h : cod x = cod y) : x = y := by
  cases x; cases y
  simp only [cod] at h
  congr 1
  exact Array.toList_inj.mp h
theorem cod_join : ∀ l : List Str, cod (Txt.join (Str.ofString "") l) = l.flatMap cod := by
  intro l
  show cod (Builtin.Str.glued (Str.ofString "") l) = _
  rw [StrLaws.glued_eq_join]
  induction l with
  | nil => rfl
  | cons x r ih =>
    cases r with
    | nil => show cod x = _; simp
    | cons y r =>
      show cod (x ++ Str.ofString "" ++ Str.join (Str.ofString "") (y :: r)) = _
      rw [cod_append, cod_append, ih]
      show cod x ++ [] ++ _ = _
      simp
end Mine
end

section
open PySem PySem.W PyProof.Rows PySem.Spec PySem.Calls
namespace Mine
inductive PercArg : List (Addr × Obj) → List Value → List Int × Bool → Prop
  | mk {news : List (Addr × Obj)} {os : List Int} {b : Bool} {a : Addr} {us : List Value} {n : Nat} : (a, listOf us.toArray n) ∈ news → IntsAre us os → (∀ o ∈ os, 0 ≤ o ∧ o < 256) → os.length ≤ 4 → PercArg news [.ref a, .bool b] (os, b)
def digs (b : Bool) : Str := if b then Str.ofString "0123456789abcdef" else Str.ofString "0123456789ABCDEF"
def pctS (b : Bool) (k : Int) : Str := Str.ofString "%" ++ ⟨#[(digs b).cps.getD (k / 16).toNat 0]⟩ ++ ⟨#[(digs b).cps.getD (k % 16).toNat 0]⟩
def percents (b : Bool) (os : List Int) : List Nat := os.flatMap fun k => cod (pctS b k)
def TextOut (r : Value) (l : List Nat) : Prop := ∃ x t, r = .str x t ∧ cod x = l
abbrev percT : ToldN (List Int × Bool) where
  Rel := PercArg
  Ok := fun _ => True
  size := fun _ => 1
  Tl := fun _ => True
  Out := fun _ r d => TextOut r (percents d.2 d.1)
local macro_rules | `(tactic| walk_at "mine idx") => `(tactic| first
  | omega
  | (rw [Int.fdiv_eq_ediv_of_nonneg _ (by decide)]; omega)
  | (rw [Int.fmod_eq_emod_of_nonneg _ (by decide)]; omega))
local macro_rules | `(tactic| walk_at "mine hi") => `(tactic| first
  | omega
  | (show _ < ((16 : Nat) : Int); walk_at "mine idx"))
local macro_rules | `(tactic| walk_at "mine lit") => `(tactic| first
  | omega
  | (show (16 : Nat) ≤ 1000000; decide))
local macro_rules | `(tactic| walk_at "mine len") => `(tactic| ((simp only [Str.length_append, sg_len]); first | omega | (show (1 : Nat) + 1 ≤ 10000000; decide) | (show (1 : Nat) + 1 + 1 ≤ 10000000; decide)))
local macro_rules | `(tactic| walk_at "subscriptTail Name BinOp str int") => `(tactic| k_dflt (refine my_item (by walk_at "mine idx") (by walk_at "mine hi") (by walk_at "mine lit") ?_; intro _ _))
local macro_rules | `(tactic| walk_at "binaryOp Add str str") => `(tactic| k_dflt (refine my_add (by walk_at "mine len") ?_; intro _ _))
local macro_rules | `(tactic| walk_at "CompEnd") => `(tactic| refine Stop.mk ?_)
theorem pctS_len (b : Bool) (k : Int) : (pctS b k).length ≤ 3 := by
  unfold pctS
  simp only [Str.length_append]
  exact Nat.le_refl 3
set_option maxHeartbeats 8000000 in
theorem perc_tells (w : World) (s₀ : Shared) (mg mb : Str → Option Value) : ∀ d, TellsN PySem.Challenge.rw_ep5032_01.row.prog w (Mine.hd.heap_39 w.params) Mine.hd.view_39 (looseW Mine.hd.view_39 []) (ExcName.means s₀.heap) mg mb 51 percT d := by
  w_on
  k_fill
  intro d
  unfold TellsN
  intro dp un gd cn cs a ccd cl outer A₀ base h₀ L m news s vs Q E B F X N T hk hR hok hd hu hret
  cases hR
  rename_i os b ra us rn hra hus hbd hln
  cases hcb : b
  all_goals (
    refine wpAny_call ?_
    k_dflt (refine' code_defC ?k1 ?k2 ?k3 ?k4 ?k5 ?kA ?kF ?kK ?k6 ?k7 ?k8 ?k9 ?kB ?kD ?_ ?c2 ?c3 ?c4; (case kA => exact rfl); (case kF => exact rfl); (case kK => assumption); (case k1 => k_asm); (case k2 => k_asm); (case k3 => k_asm); (case k4 => k_asm); (case k5 => k_asm); (case k6 => k_is); (case k7 => k_is); (case k8 => ktr_room); (case k9 => exact BindsTo.of_eq rfl); (case kB => exact rfl); (case kD => decide +kernel); (case c2 => exact rfl); (case c3 => exact rfl); (case c4 => exact rfl); k_whole; intro g' L' h' tk' cells' FG' F' N' Y' B' X' T' l1; (try k_lt l1); k_cells Y'; (try simp only [List.cons_append, List.nil_append] at N'); (try dsimp only); (try k_fold))
    have kM : KstMark := kstMark
    have l2 : ∀ p ∈ news, p.1 < L' + 1 := fun p hp => Nat.lt_succ_of_lt (l1 p hp)
    k_steps
    (rename Fr _ _ _ _ => lF)
    (rename News _ _ _ _ => lN)
    refine LCg.CompSrc.ledger (by rfl) lF lN (.tail _ hra) (by rw [sizeLine_eq, List.size_toArray, hus.length]; omega) ?_
    intro gg
    clear lF lN
    (refine' kct_list (pctS b) hus (fun k' t' I' oI' C' oC' D' m' ys' h' tk' E' hk' hC' hx' F' N' off' ne' => ?_) ?_)
    · intro hMark
      have hb := hbd _ hk'
      obtain ⟨hb0, hb1⟩ := hb
      k_steps
      unfold Stop
      refine LCg.CompEnd.intro F' N' ((L' + 1, _) :: news) (fun _ hp => hp) off' (.inr ⟨_, .tail _ hra, rfl, _, rfl⟩) (kct_el ?_ rfl rfl)
      unfold pctS
      rw [hcb, Int.fdiv_eq_ediv_of_nonneg _ (by decide), Int.fmod_eq_emod_of_nonneg _ (by decide)]
      rfl
    · intro ys hc _
      k_steps
      (rename News _ _ _ _ => lN)
      refine KT.join_B (l := os) (g := pctS b) 3 (News.isList lN (.head _)) hc (fun k _ => pctS_len b k) (by omega) (by decide) ?_
      intro t2 k2
      k_steps
      (rename News h₀ _ _ _ => lN2)
      refine hret _ [] _ _ (by k_asm) (fun p hp => lN2 p (.tail _ (.tail _ ?_))) (fun _ _ _ hp => nomatch hp) trivial ⟨_, _, rfl, ?_⟩
      · rw [List.append_nil] at hp; exact hp
      · rw [cod_join, List.flatMap_map]; rfl)
end Mine
end

section
open PySem PySem.W PyProof.Rows PySem.Spec PySem.Calls
namespace Mine
def isHex (c : Nat) : Bool := (48 ≤ c && c ≤ 57) || (65 ≤ c && c ≤ 70) || (97 ≤ c && c ≤ 102)
def hexV (c : Nat) : Nat := if c ≤ 57 then c - 48 else if c ≤ 70 then c - 55 else c - 87
/-- the unit of a sign that stands as it is -/
def unit1 (c : Nat) : Int := if c < 128 then (c : Int) else 256 + (c : Int)
/-- a text as its row of units -/
def scan : List Nat → List Int
  | 37 :: a :: b :: rest => if isHex a && isHex b then ((16 * hexV a + hexV b : Nat) : Int) :: scan rest else 37 :: scan (a :: b :: rest)
  | c :: rest => unit1 c :: scan rest
  | [] => []
theorem scan_plain {c : Nat} (h : c ≠ 37) (rest : List Nat) : scan (c :: rest) = unit1 c :: scan rest := by
  rw [scan]
  exact fun _ _ _ e _ => h e
theorem scan_hex {a b : Nat} (ha : isHex a = true) (hb : isHex b = true) (rest : List Nat) : scan (37 :: a :: b :: rest) = ((16 * hexV a + hexV b : Nat) : Int) :: scan rest := by
  rw [scan, ha, hb]; rfl
theorem scan_half {a : Nat} (ha : isHex a = false) (rest : List Nat) : scan (37 :: a :: rest) = 37 :: scan (a :: rest) := by
  cases rest with
  | nil => rfl
  | cons b r => rw [scan, ha]; rfl
theorem scan_half2 {a b : Nat} (hb : isHex b = false) (rest : List Nat) : scan (37 :: a :: b :: rest) = 37 :: scan (a :: b :: rest) := by
  rw [scan, hb, Bool.and_false]; rfl
/-- a piece: whatever stands behind it, its text is read as its units -/
structure Piece (text : List Nat) (units : List Int) : Prop where
  reads : ∀ rest, scan (text ++ rest) = units ++ scan rest
  short : text.length ≤ 12
  few : units.length ≤ 4
  low : ∀ u ∈ units, 0 ≤ u ∧ u < 1114368
theorem half1 : Piece [37, 90] [37, 90] := ⟨fun rest => by
  show scan (37 :: 90 :: rest) = 37 :: 90 :: scan rest
  rw [scan_half (by decide), scan_plain (by decide)]; rfl, by decide, by decide, by decide⟩
theorem half2 : Piece [37, 52, 90] [37, 52, 90] := ⟨fun rest => by
  show scan (37 :: 52 :: 90 :: rest) = 37 :: 52 :: 90 :: scan rest
  rw [scan_half2 (by decide), scan_plain (by decide), scan_plain (by decide)]; rfl, by decide, by decide, by decide⟩
theorem half3 : Piece [37, 37, 90] [37, 37, 90] := ⟨fun rest => by
  show scan (37 :: 37 :: 90 :: rest) = 37 :: 37 :: 90 :: scan rest
  rw [scan_half (by decide), scan_half (by decide), scan_plain (by decide)]; rfl, by decide, by decide, by decide⟩
theorem half4 : Piece [37, 122, 52] [37, 122, 52] := ⟨fun rest => by
  show scan (37 :: 122 :: 52 :: rest) = 37 :: 122 :: 52 :: scan rest
  rw [scan_half (by decide), scan_plain (by decide), scan_plain (by decide)]; rfl, by decide, by decide, by decide⟩
theorem half5 : Piece [37, 233] [37, 489] := ⟨fun rest => by
  show scan (37 :: 233 :: rest) = 37 :: 489 :: scan rest
  rw [scan_half (by decide), scan_plain (by decide)]; rfl, by decide, by decide, by decide⟩
theorem half6 : Piece [37, 52, 233] [37, 52, 489] := ⟨fun rest => by
  show scan (37 :: 52 :: 233 :: rest) = 37 :: 52 :: 489 :: scan rest
  rw [scan_half2 (by decide), scan_plain (by decide), scan_plain (by decide)]; rfl, by decide, by decide, by decide⟩
theorem half7 : Piece [37, 71, 48] [37, 71, 48] := ⟨fun rest => by
  show scan (37 :: 71 :: 48 :: rest) = 37 :: 71 :: 48 :: scan rest
  rw [scan_half (by decide), scan_plain (by decide), scan_plain (by decide)]; rfl, by decide, by decide, by decide⟩
theorem piece_plain {c : Nat} (h : c ≠ 37) (h2 : c < 128) : Piece [c] [(c : Int)] := ⟨fun rest => by
  show scan (c :: rest) = (c : Int) :: scan rest
  rw [scan_plain h, unit1, if_pos h2], by simp, by simp, fun u hu => by rw [List.mem_singleton.mp hu]; omega⟩
theorem piece_raw {c : Nat} (h : 128 ≤ c) (h2 : c < 1114112) : Piece [c] [256 + (c : Int)] := ⟨fun rest => by
  show scan (c :: rest) = (256 + (c : Int)) :: scan rest
  rw [scan_plain (by omega), unit1, if_neg (by omega)], by simp, by simp, fun u hu => by rw [List.mem_singleton.mp hu]; omega⟩

/-- the table of plain signs, as the walk tells it -/
theorem plain_piece (i : Nat) (h : i < 13) : Piece (([Str.ofString "a", Str.ofString "Z", Str.ofString "0", Str.ofString "9", Str.ofString "+", Str.ofString "=", Str.ofString "&", Str.ofString " ", Str.ofString "/", Str.ofString "\n", Str.ofString "\x00", Str.ofString "\x7f", Str.ofString "~"].getD i Str.empty).cps.toList)
    [([97, 90, 48, 57, 43, 61, 38, 32, 47, 10, 0, 127, 126] : List Int).getD i 0] := by
  match i, h with
  | 0, _ => exact piece_plain (c := 97) (by decide) (by decide)
  | 1, _ => exact piece_plain (c := 90) (by decide) (by decide)
  | 2, _ => exact piece_plain (c := 48) (by decide) (by decide)
  | 3, _ => exact piece_plain (c := 57) (by decide) (by decide)
  | 4, _ => exact piece_plain (c := 43) (by decide) (by decide)
  | 5, _ => exact piece_plain (c := 61) (by decide) (by decide)
  | 6, _ => exact piece_plain (c := 38) (by decide) (by decide)
  | 7, _ => exact piece_plain (c := 32) (by decide) (by decide)
  | 8, _ => exact piece_plain (c := 47) (by decide) (by decide)
  | 9, _ => exact piece_plain (c := 10) (by decide) (by decide)
  | 10, _ => exact piece_plain (c := 0) (by decide) (by decide)
  | 11, _ => exact piece_plain (c := 127) (by decide) (by decide)
  | 12, _ => exact piece_plain (c := 126) (by decide) (by decide)
theorem raw_bd (i : Nat) (h : i < 7) : 128 ≤ ([128, 233, 2047, 8364, 65533, 128512, 1114111] : List Int).getD i 0 ∧ ([128, 233, 2047, 8364, 65533, 128512, 1114111] : List Int).getD i 0 < 1114112 := by
  have all : ∀ i : _root_.Fin 7, 128 ≤ ([128, 233, 2047, 8364, 65533, 128512, 1114111] : List Int).getD i.val 0 ∧ ([128, 233, 2047, 8364, 65533, 128512, 1114111] : List Int).getD i.val 0 < 1114112 := by decide
  exact all ⟨i, h⟩
theorem points_bd (i : Nat) : 0 ≤ ([65, 127, 128, 2047, 2048, 4095, 4096, 55295, 55296, 57343, 57344, 65533, 65535, 65536, 262143, 262144, 1114111] : List Int).getD i 0 ∧ ([65, 127, 128, 2047, 2048, 4095, 4096, 55295, 55296, 57343, 57344, 65533, 65535, 65536, 262143, 262144, 1114111] : List Int).getD i 0 < 1114112 := by
  rw [List.getD_eq_getElem?_getD]
  cases e : ([65, 127, 128, 2047, 2048, 4095, 4096, 55295, 55296, 57343, 57344, 65533, 65535, 65536, 262143, 262144, 1114111] : List Int)[i]? with
  | none => decide
  | some x =>
    have all : ∀ x ∈ ([65, 127, 128, 2047, 2048, 4095, 4096, 55295, 55296, 57343, 57344, 65533, 65535, 65536, 262143, 262144, 1114111] : List Int), 0 ≤ x ∧ x < 1114112 := by decide
    exact all x (List.mem_of_getElem? e)
theorem edges_bd (i : Nat) : 0 ≤ ([128, 143, 144, 159, 160, 191, 192, 193, 194, 223, 224, 225, 236, 237, 238, 239, 240, 241, 243, 244, 245, 255] : List Int).getD i 0 ∧ ([128, 143, 144, 159, 160, 191, 192, 193, 194, 223, 224, 225, 236, 237, 238, 239, 240, 241, 243, 244, 245, 255] : List Int).getD i 0 < 256 := by
  rw [List.getD_eq_getElem?_getD]
  cases e : ([128, 143, 144, 159, 160, 191, 192, 193, 194, 223, 224, 225, 236, 237, 238, 239, 240, 241, 243, 244, 245, 255] : List Int)[i]? with
  | none => decide
  | some x =>
    have all : ∀ x ∈ ([128, 143, 144, 159, 160, 191, 192, 193, 194, 223, 224, 225, 236, 237, 238, 239, 240, 241, 243, 244, 245, 255] : List Int), 0 ≤ x ∧ x < 256 := by decide
    exact all x (List.mem_of_getElem? e)
end Mine
end

section
open PySem PySem.W PyProof.Rows PySem.Spec PySem.Calls
namespace Mine
inductive NoArg : List (Addr × Obj) → List Value → Unit → Prop
  | mk {news : List (Addr × Obj)} : NoArg news [] ()
/-- a pair of the ledger: a text, and a tuple of ints -/
def PairAt (news : List (Addr × Obj)) (v : Value) (P : List Nat → List Int → Prop) : Prop :=
  ∃ p q x t us k, v = .ref p ∧ (p, tupOf [.str x t, .ref q]) ∈ news ∧ (q, tupOf us) ∈ news ∧ IntsAre us k ∧ P (cod x) k
theorem PairAt.mk' {news : List (Addr × Obj)} {p q : Addr} {x : Str} {t : Tok} {us : List Value} {k : List Int} {P : List Nat → List Int → Prop} (h1 : (p, tupOf [.str x t, .ref q]) ∈ news) (h2 : (q, tupOf us) ∈ news) (h3 : IntsAre us k) (h4 : P (cod x) k) :
    PairAt news (.ref p) P := ⟨p, q, x, t, us, k, rfl, h1, h2, h3, h4⟩
def HalvesOut (news : List (Addr × Obj)) (r : Value) : Prop :=
  ∃ a v0 v1 v2 v3 v4 v5 v6, r = .ref a ∧ (a, tupOf [v0, v1, v2, v3, v4, v5, v6]) ∈ news ∧ PairAt news v0 Piece ∧ PairAt news v1 Piece ∧ PairAt news v2 Piece ∧ PairAt news v3 Piece ∧ PairAt news v4 Piece ∧ PairAt news v5 Piece ∧ PairAt news v6 Piece
theorem tlAll {h₀ h : Heap} {L : Addr} {l news : List (Addr × Obj)} (N : News h₀ L h (l ++ news)) : News h₀ L h (news ++ l) := fun p hp => N p ((List.mem_append.mp hp).elim (fun h => List.mem_append.mpr (.inr h)) fun h => List.mem_append.mpr (.inl h))
abbrev halvesT : ToldN Unit where
  Rel := NoArg
  Ok := fun _ => True
  size := fun _ => 1
  Tl := fun _ => True
  Out := fun news r d => HalvesOut news r
set_option maxHeartbeats 8000000 in
theorem halves_tells (w : World) (s₀ : Shared) (mg mb : Str → Option Value) : ∀ d, TellsN PySem.Challenge.rw_ep5032_01.row.prog w (Mine.hd.heap_39 w.params) Mine.hd.view_39 (looseW Mine.hd.view_39 []) (ExcName.means s₀.heap) mg mb 32 halvesT d := by
  w_on
  k_fill
  intro d
  unfold TellsN
  intro dp un gd cn cs a ccd cl outer A₀ base h₀ L m news s vs Q E B F X N T hk hR hok hd hu hret
  cases hR
  refine wpAny_call ?_
  k_dflt ktr_enter
  k_steps
  (rename News h₀ _ _ _ => lN)
  dsimp only at lN
  refine hret _ [_,_,_,_,_,_,_,_,_,_,_,_,_,_,_] _ _ (by k_asm) (tlAll lN) ?_ trivial ?_
  · intro q hq p hp
    simp only [List.mem_cons, List.not_mem_nil, or_false] at hp
    (rename ∀ p ∈ news, _ => l0)
    have l0' := ltN (l0 q hq)

    rcases hp with rfl | rfl | rfl | rfl | rfl | rfl | rfl | rfl | rfl | rfl | rfl | rfl | rfl | rfl | rfl <;> (refine ltN ?_; dsimp only; omega)
  · refine ⟨_, _, _, _, _, _, _, _, rfl, List.mem_append.mpr (.inr (.head _)), ?_, ?_, ?_, ?_, ?_, ?_, ?_⟩
    · (refine' PairAt.mk' ?a ?b ?c ?d; (case a => k_mem); (case b => k_mem); (case c => repeat' constructor); (case d => exact half1))
    · (refine' PairAt.mk' ?a ?b ?c ?d; (case a => k_mem); (case b => k_mem); (case c => repeat' constructor); (case d => exact half2))
    · (refine' PairAt.mk' ?a ?b ?c ?d; (case a => k_mem); (case b => k_mem); (case c => repeat' constructor); (case d => exact half3))
    · (refine' PairAt.mk' ?a ?b ?c ?d; (case a => k_mem); (case b => k_mem); (case c => repeat' constructor); (case d => exact half4))
    · (refine' PairAt.mk' ?a ?b ?c ?d; (case a => k_mem); (case b => k_mem); (case c => repeat' constructor); (case d => exact half5))
    · (refine' PairAt.mk' ?a ?b ?c ?d; (case a => k_mem); (case b => k_mem); (case c => repeat' constructor); (case d => exact half6))
    · (refine' PairAt.mk' ?a ?b ?c ?d; (case a => k_mem); (case b => k_mem); (case c => repeat' constructor); (case d => exact half7))
end Mine
end

section
open PySem PySem.W PyProof.Rows PySem.Spec PySem.Calls
namespace Mine
def hexD (b : Bool) (n : Nat) : Nat := (digs b).cps.getD n 0
theorem hexD_ok (b : Bool) (n : Nat) (h : n < 16) : isHex (hexD b n) = true ∧ hexV (hexD b n) = n := by
  have all : ∀ (b : Bool) (n : _root_.Fin 16), isHex (hexD b n.val) = true ∧ hexV (hexD b n.val) = n.val := by decide +kernel
  exact all b ⟨n, h⟩
theorem cod_pct (b : Bool) (k : Int) : cod (pctS b k) = [37, hexD b (k / 16).toNat, hexD b (k % 16).toNat] := by
  unfold pctS
  rw [cod_append, cod_append]
  rfl
theorem scan_pct (b : Bool) (k : Int) (h : 0 ≤ k ∧ k < 256) (rest : List Nat) : scan (cod (pctS b k) ++ rest) = k :: scan rest := by
  obtain ⟨h1, h2⟩ := hexD_ok b (k / 16).toNat (by omega)
  obtain ⟨h3, h4⟩ := hexD_ok b (k % 16).toNat (by omega)
  rw [cod_pct]
  show scan (37 :: hexD b (k / 16).toNat :: hexD b (k % 16).toNat :: rest) = _
  rw [scan_hex h1 h3, h2, h4]
  congr 1
  omega
theorem scan_percents (b : Bool) : ∀ (os : List Int) (h : ∀ o ∈ os, 0 ≤ o ∧ o < 256) (rest : List Nat), scan (percents b os ++ rest) = os ++ scan rest
  | [], _, rest => rfl
  | o :: os, h, rest => by
    show scan ((cod (pctS b o) ++ percents b os) ++ rest) = _
    rw [List.append_assoc, scan_pct b o (h o (.head _)), scan_percents b os (fun q hq => h q (.tail _ hq))]
    rfl
theorem percents_len (b : Bool) : ∀ (os : List Int), (percents b os).length = 3 * os.length
  | [] => rfl
  | o :: os => by
    show (cod (pctS b o) ++ percents b os).length = _
    rw [List.length_append, percents_len b os, cod_pct]
    simp only [List.length_cons, List.length_nil]
    omega
theorem piece_perc (b : Bool) (os : List Int) (h : ∀ o ∈ os, 0 ≤ o ∧ o < 256) (hl : os.length ≤ 4) : Piece (percents b os) os :=
  ⟨scan_percents b os h, by rw [percents_len]; omega, hl, fun u hu => by have := h u hu; omega⟩
theorem oct_bd (p : Int) (h0 : 0 ≤ p) (h1 : p < 1114112) : ∀ o ∈ oct p, 0 ≤ o ∧ o < 256 := by
  unfold oct
  (repeat' split) <;> (intro o ho; simp only [List.mem_cons, List.not_mem_nil, or_false] at ho; rcases ho with rfl | ho <;> try omega) <;> (rcases ho with rfl | ho <;> try omega) <;> (rcases ho with rfl | rfl <;> omega)
theorem oct_len (p : Int) : (oct p).length ≤ 4 := by
  unfold oct
  (repeat' split) <;> simp
theorem raw_piece {P : Int} (h : 128 ≤ P ∧ P < 1114112) : Piece (cod ⟨#[P.toNat]⟩) [256 + P] := by
  have e : ((P.toNat : Nat) : Int) = P := by omega
  have := piece_raw (c := P.toNat) (by omega) (by omega)
  rw [e] at this
  exact this
end Mine
end

section
open PySem PySem.W PyProof.Rows PySem.Spec PySem.Calls
namespace Mine
def PieceOut (news : List (Addr × Obj)) (r : Value) : Prop :=
  ∃ a x t b us n units, r = .ref a ∧ (a, tupOf [.str x t, .ref b]) ∈ news ∧ (b, listOf us.toArray n) ∈ news ∧ IntsAre us units ∧ Piece (cod x) units
theorem PieceOut.mk' {news : List (Addr × Obj)} {a b : Addr} {x : Str} {t : Tok} {us : List Value} {n : Nat} {units : List Int} (h1 : (a, tupOf [.str x t, .ref b]) ∈ news) (h2 : (b, listOf us.toArray n) ∈ news) (h3 : IntsAre us units) (h4 : Piece (cod x) units) :
    PieceOut news (.ref a) := ⟨a, x, t, b, us, n, units, rfl, h1, h2, h3, h4⟩
local macro_rules | `(tactic| walk_at "call ref") => `(tactic| refine Stop.mk ?_)
local macro_rules | `(tactic| walk_at "call type:list") => `(tactic| refine Stop.mk ?_)
local macro_rules | `(tactic| walk_at "call builtin:chr") => `(tactic| refine Stop.mk ?_)
local macro_rules | `(tactic| walk_at "subscriptTail Call Name cons nil") => `(tactic| k_dflt (refine kba_turn (value' := PySem.Expr.Name (PySem.Str.ofString "row") ⟨0, 0, 0, 0⟩) (fun _ => rfl) ?_))
local macro_rules | `(tactic| walk_at "subscriptTail Call Name nil nil") => `(tactic| refine Stop.mk ?_)
set_option hygiene false in
local macro_rules | `(tactic| walk_at "mine perc") => `(tactic| (
  unfold Stop
  (rename Fr _ _ _ _ => lF)
  (rename News _ _ _ _ => lN)
  refine tellsW_use (by k_asm) lF (by k_asm) lN (by k_asm) rfl (PercArg.mk (.head _) hus hbd hlen) (perc_tells w s₀ mg mb _) trivial ?_ ?_ ?_
  · ktr_room
  · ktr_units
  intro r3 nw3 h3 tk3 F3 N3 hsub3 ho3
  obtain ⟨x3, tx3, rfl, hx3⟩ := ho3
  have hrow := hsub3 _ (.head _)
  clear lN lF
  k_steps
  (rename News h₀ _ _ _ => lN2)
  dsimp only at lN2
  exact hret _ _ _ _ (by k_asm) lN2 (fun p hp => .tail _ (hsub3 _ (by repeat (first | exact hsub p hp | exact hp | refine .tail _ ?_)))) (PieceOut.mk' (.head _) (.tail _ hrow) hus (by rw [hx3]; exact piece_perc _ _ hbd hlen))))
set_option hygiene false in
local macro_rules | `(tactic| walk_at "mine oct") => `(tactic| (
  unfold Stop
  (rename Fr _ _ _ _ => lF)
  (rename News _ _ _ _ => lN)
  refine tellsW_use (by k_asm) lF (by k_asm) lN (by k_asm) rfl (OctArg.mk hp0 hp1) (oct_tells w s₀ mg mb _) trivial ?_ ?_ ?_
  · ktr_room
  · ktr_units
  intro r2 nw2 h2 tk2 F2 N2 hsub2 ho2
  obtain ⟨ra, us, rn, rfl, hm, hus⟩ := ho2
  have hbd := oct_bd _ hp0 hp1
  have hlen := oct_len P
  have lN2 := news_top N2 hm
  clear lN lF N2
  have hsub : ∀ p ∈ news, p ∈ (ra, listOf us.toArray rn) :: nw2 := fun p hp => .tail _ (hsub2 p (by repeat (first | exact hp | refine .tail _ ?_)))
  clear hsub2))
set_option hygiene false in
local macro_rules | `(tactic| walk_at "mine perc1") => `(tactic| (
  have hlen : [P].length ≤ 4 := by simp
  unfold Stop
  (rename Fr _ _ _ _ => lF)
  (rename News _ _ _ _ => lN)
  refine tellsW_use (by k_asm) lF (by k_asm) lN (by k_asm) rfl (PercArg.mk (.head _) (.cons _ _ .nil) hbd hlen) (perc_tells w s₀ mg mb _) trivial ?_ ?_ ?_
  · ktr_room
  · ktr_units
  intro r3 nw3 h3 tk3 F3 N3 hsub3 ho3
  obtain ⟨x3, tx3, rfl, hx3⟩ := ho3
  have hrow := hsub3 _ (.head _)
  clear lN lF
  k_steps
  (rename News h₀ _ _ _ => lN2)
  dsimp only at lN2
  exact hret _ _ _ _ (by k_asm) lN2 (fun p hp => .tail _ (hsub3 _ (by repeat (first | exact hp | refine .tail _ ?_)))) (PieceOut.mk' (.head _) (.tail _ hrow) (.cons _ _ .nil) (by rw [hx3]; exact piece_perc _ _ hbd hlen))))
set_option maxHeartbeats 8000000 in
theorem piece_tells (w : World) (s₀ : Shared) (mg mb : Str → Option Value) (dp un : Nat) (gd : Option (List Code)) (cn : Str) (cs : Scope) (a : Addr) (ccd : Value) (cl : List (Str × Addr)) (outer : List Env) (A₀ : Around) (base h₀ : Heap) (L : Addr) (m : Str → Option Value) (news : List (Addr × Obj)) (s : Shared) (d : Int) (t : Tok)
    (Q E : Value → Shared → Prop) (B : Below A₀ base outer h₀) (F : Fr h₀ L s.heap m) (X : (Mine.hd.heap_39 w.params).In h₀) (N : News h₀ L s.heap news) (T : Top Mine.hd.view_39 (looseW Mine.hd.view_39 []) (ExcName.means s₀.heap) mg mb h₀) (hk : cs.kind = .function) (hd : dp + 2 < recursionLimit) (hu : un + 8 * 2 < cLine)
    (hret : ∀ r news' h' tk', Fr h₀ L h' m → News h₀ L h' news' → (∀ p ∈ news, p ∈ news') → PieceOut news' r → Q r { s with heap := h', toks := tk' }) :
    wpAny (model PySem.Challenge.rw_ep5032_01.row.prog w) (ktrTop dp un gd cn cs L a ccd cl outer) (call (.ref 58) [.int d t]) Q E s := by
  w_on
  revert X
  k_fill
  intro X
  refine wpAny_call ?_
  k_dflt ktr_enter
  have kM : KstMark := kstMark
  k_steps
  · -- a plain sign
    (rename News h₀ _ _ _ => lN)
    dsimp only at lN
    refine hret _ _ _ _ (by k_asm) lN (fun p hp => by repeat (first | exact hp | refine .tail _ ?_)) (PieceOut.mk' (.head _) (.tail _ (.head _)) (by repeat' constructor) (plain_piece _ (by omega)))
  · -- a sign beyond ASCII
    unfold Stop
    (rename News _ _ _ _ => lN)
    have hr := raw_bd ((d.fdiv 8).fmod 7).toNat (by omega)
    refine my_chr (by omega) (by omega) ?_
    intro t2 k2
    k_steps
    (rename News h₀ _ _ _ => lN2)
    dsimp only at lN2
    exact hret _ _ _ _ (by k_asm) lN2 (fun p hp => by repeat (first | exact hp | refine .tail _ ?_)) (PieceOut.mk' (.head _) (.tail _ (.head _)) (by repeat' constructor) (raw_piece hr))
  · -- a half percent
    unfold Stop
    (rename Fr _ _ _ _ => lF)
    (rename News _ _ _ _ => lN)
    refine tellsW_use (by k_asm) lF (by k_asm) lN (by k_asm) rfl NoArg.mk (halves_tells w s₀ mg mb _) trivial ?_ ?_ ?_
    · ktr_room
    · ktr_units
    intro r nw h' tk' F' N' hsub ho
    replace hsub : ∀ p ∈ news, p ∈ nw := fun p hp => hsub p (by repeat (first | exact hp | refine .tail _ ?_))
    obtain ⟨ha, v0, v1, v2, v3, v4, v5, v6, rfl, hm, p0, p1, p2, p3, p4, p5, p6⟩ := ho
    clear lN lF
    k_steps
    unfold Stop
    (rename Fr _ _ _ _ => lF)
    (rename News _ _ _ _ => lN)
    have b1 := Int.fmod_nonneg_of_pos (d.fdiv 8) (show (0 : Int) < 7 by decide)
    have b2 := Int.fmod_lt_of_pos (d.fdiv 8) (show (0 : Int) < 7 by decide)
    refine my_tup lN hm (by omega) (by show _ < ((7 : Nat) : Int); omega) (by show 7 < 1000; decide) ?_
    intro v hv
    have hp : PairAt nw v Piece := by
      simp only [List.mem_cons, List.not_mem_nil, or_false] at hv
      rcases hv with rfl | rfl | rfl | rfl | rfl | rfl | rfl <;> assumption
    clear hv hm p0 p1 p2 p3 p4 p5 p6
    obtain ⟨pa, qa, x, tx, us, k, rfl, hpa, hqa, hus, hpc⟩ := hp
    have lN2 := news_top (news_top lN hqa) (.tail _ hpa)
    clear lN
    k_steps
    unfold Stop
    (rename Fr _ _ _ _ => lF)
    (rename News _ _ _ _ => lN)
    refine my_list_tup lF lN (.tail _ (.head _)) (by have := hpc.few; rw [hus.length]; omega) ?_
    clear lF lN
    intro la lc lh Fl Nl
    k_steps
    (rename News h₀ _ _ _ => lN2)
    dsimp only at lN2
    exact hret _ _ _ _ (by k_asm) lN2 (fun p hp => .tail _ (.tail _ (.tail _ (.tail _ (hsub p hp))))) (PieceOut.mk' (.head _) (.tail _ (.head _)) hus hpc)
  · -- a sign of the table of points, whole
    obtain ⟨hp0, hp1⟩ := points_bd ((d.fdiv 8).fmod 17).toNat
    generalize ([65, 127, 128, 2047, 2048, 4095, 4096, 55295, 55296, 57343, 57344, 65533, 65535, 65536, 262143, 262144, 1114111] : List Int).getD ((d.fdiv 8).fmod 17).toNat 0 = P at hp0 hp1 ⊢
    walk_at "mine oct"
    k_steps
    walk_at "mine perc"
  · -- any point, whole
    have hp0 := Int.fmod_nonneg_of_pos (d.fdiv 8) (show (0 : Int) < 1114112 by decide)
    have hp1 := Int.fmod_lt_of_pos (d.fdiv 8) (show (0 : Int) < 1114112 by decide)
    generalize (d.fdiv 8).fmod 1114112 = P at hp0 hp1 ⊢
    walk_at "mine oct"
    k_steps
    walk_at "mine perc"
  · -- the first octets of a sign
    obtain ⟨hp0, hp1⟩ := points_bd ((d.fdiv 8).fmod 17).toNat
    generalize ([65, 127, 128, 2047, 2048, 4095, 4096, 55295, 55296, 57343, 57344, 65533, 65535, 65536, 262143, 262144, 1114111] : List Int).getD ((d.fdiv 8).fmod 17).toNat 0 = P at hp0 hp1 ⊢
    walk_at "mine oct"
    k_steps
    (rename IntsAre _ (List.take _ _) => hus2)
    replace hbd : ∀ o ∈ (oct P).take (1 + ((d.fdiv 8).fdiv 17).fmod 3).toNat, 0 ≤ o ∧ o < 256 := fun o ho => hbd o (List.mem_of_mem_take ho)
    replace hlen : ((oct P).take (1 + ((d.fdiv 8).fdiv 17).fmod 3).toNat).length ≤ 4 := by rw [List.length_take]; omega
    replace hus := hus2
    walk_at "mine perc"
  · -- one octet of the edges
    obtain ⟨b1, b2⟩ := edges_bd ((d.fdiv 8).fmod 22).toNat
    generalize ([128, 143, 144, 159, 160, 191, 192, 193, 194, 223, 224, 225, 236, 237, 238, 239, 240, 241, 243, 244, 245, 255] : List Int).getD ((d.fdiv 8).fmod 22).toNat 0 = P at *
    have hbd : ∀ o ∈ [P], 0 ≤ o ∧ o < 256 := fun o ho => by rw [List.mem_singleton.mp ho]; exact ⟨b1, b2⟩
    walk_at "mine perc1"
  · -- any octet
    have b1 := Int.fmod_nonneg_of_pos (d.fdiv 8) (show (0 : Int) < 256 by decide)
    have b2 := Int.fmod_lt_of_pos (d.fdiv 8) (show (0 : Int) < 256 by decide)
    generalize (d.fdiv 8).fmod 256 = P at *
    have hbd : ∀ o ∈ [P], 0 ≤ o ∧ o < 256 := fun o ho => by rw [List.mem_singleton.mp ho]; exact ⟨b1, b2⟩
    walk_at "mine perc1"
end Mine
end

section
open PySem PySem.W PyProof.Rows PySem.Spec PySem.Calls
namespace Mine
def ForEnd {σ : Type} (h₀ : Heap) (L : Addr) (s : Shared) (Led : σ → List (Addr × Obj)) (ps : σ → List (Str × Value)) (Facts : σ → Prop) (stored : List Str) (m₀ : Str → Option Value) (P : σ → Prop) (I : Addr × Obj) (s₂ : Shared) : Prop :=
  ∃ (c' : σ) (h' : Heap) (tk : Nat) (m' : Str → Option Value) (news' : List (Addr × Obj)), s₂ = { s with heap := h', toks := tk } ∧ Fr h₀ L h' m' ∧ News h₀ L h' news' ∧ I ∈ news' ∧ (∀ p ∈ Led c', p ∈ news' ∧ p.1 ≠ I.1) ∧ Facts c' ∧ (∀ p ∈ ps c', m' p.1 = some p.2) ∧ (∀ z, (∀ p ∈ ps c', z ≠ p.1) → stored.contains z = false → m' z = m₀ z) ∧ P c'
def ForPost {σ : Type} (h₀ : Heap) (L : Addr) (s : Shared) (Led : σ → List (Addr × Obj)) (ps : σ → List (Str × Value)) (Facts : σ → Prop) (stored : List Str) (m₀ : Str → Option Value) (P : σ → Prop) (I : Addr × Obj) (Q : Flow → Shared → Prop) (f : Flow) (s₂ : Shared) : Prop :=
  match f with
  | .ret v => Q (.ret v) s₂
  | .brk => Q .next s₂
  | _ => ForEnd h₀ L s Led ps Facts stored m₀ P I s₂
theorem for_end {σ : Type} {h₀ : Heap} {L : Addr} {s : Shared} {Led : σ → List (Addr × Obj)} {ps : σ → List (Str × Value)} {Facts : σ → Prop} {stored : List Str} {m₀ m' : Str → Option Value} {P : σ → Prop} {I : Addr × Obj} {h' : Heap} {tk : Nat} {news' : List (Addr × Obj)} (c' : σ)
    (F : Fr h₀ L h' m') (N : News h₀ L h' news') (hI : I ∈ news') (hn : ∀ p ∈ Led c', p ∈ news' ∧ p.1 ≠ I.1) (hf : Facts c') (hk : ∀ p ∈ ps c', m' p.1 = some p.2) (hr : ∀ z, (∀ p ∈ ps c', z ≠ p.1) → stored.contains z = false → m' z = m₀ z) (hp : P c') :
    ForEnd h₀ L s Led ps Facts stored m₀ P I { s with heap := h', toks := tk } := ⟨c', h', tk, m', news', rfl, F, N, hI, hn, hf, hk, hr, hp⟩
section
variable {prog : Program} {w : World} {A : Around} {E : Value → Shared → Prop} {s : Shared} {env : Env} {h₀ : Heap} {x : Str} {body : List Stmt} {Q : Flow → Shared → Prop}
/-- a for over a list of the ledger, while the ledger changes -/
theorem for_led {σ : Type} {l : Addr} {vs : List Value} {ns : List Int} {nn : Nat} {m₀ : Str → Option Value} (Led : σ → List (Addr × Obj)) (ps : σ → List (Str × Value)) (Facts : σ → Prop) (stored : List Str) (P : Nat → σ → Prop) (c₀ : σ)
    (hh : A.handled = none) (hl : ∀ c, (l, listOf vs.toArray nn) ∈ Led c) (hi : IntsAre vs ns) (hx : ∀ c, ∀ p ∈ ps c, p.1 ≠ x) (hxs : stored.contains x = true) (F : Fr h₀ env.locals s.heap m₀) (N : News h₀ env.locals s.heap (Led c₀)) (hf : Facts c₀) (hk : ∀ p ∈ ps c₀, m₀ p.1 = some p.2) (hp : P 0 c₀)
    (turn : ∀ i n t (c : σ) (u : Str → Option Value) h tk I o, ns[i]? = some n → Facts c → P i c → (∀ p ∈ Led c, p.1 ≠ I) → Fr h₀ env.locals h (kstB (fun z => if stored.contains z then u z else m₀ z) ((x, .int n t) :: ps c)) → News h₀ env.locals h ((I, o) :: Led c) →
      wpAny (model prog w) A (execs body env) (ForPost h₀ env.locals s Led ps Facts stored m₀ (P (i + 1)) (I, o) Q) E { s with heap := h, toks := tk })
    (done : ∀ (c : σ) (u : Str → Option Value) h tk, Facts c → P ns.length c → Fr h₀ env.locals h (kstB (fun z => if stored.contains z then u z else m₀ z) (ps c)) → News h₀ env.locals h (Led c) → Q .next { s with heap := h, toks := tk }) :
    wpAny (model prog w) A (pyIter (.ref l)) (fun it s₂ => LoopAtV prog w A h₀ env x body Q E it s₂) E s := by
  have hol : s.heap.get? l = some (listOf vs.toArray nn) := (N _ (hl c₀)).1
  have hls : s.heap.IsList l vs.toArray := ⟨_, hol, rfl, nn, rfl⟩
  have hne : l ≠ s.heap.objs.size := Nat.ne_of_lt (Heap.lt_size hol)
  refine wpAny_pyIter_list hls ?_
  have W := Walks.list (prog := prog) (w := w) hh s.heap.objs.size l hne vs.toArray
  have hlen : vs.toArray.size = ns.length := by simp [hi.length]
  rw [hlen] at W
  refine ⟨_, _, _, ns.length, _, _, m₀, Led c₀, (fun i m nx => ∃ c : σ, nx = Led c ∧ Facts c ∧ (∀ p ∈ ps c, m p.1 = some p.2) ∧ (∀ z, (∀ p ∈ ps c, z ≠ p.1) → stored.contains z = false → m z = m₀ z) ∧ P i c), rfl, W, ?_, ?_, ?_, ⟨⟨_, Heap.get?_push_size _ rfl, rfl, rfl⟩, hls.at fun o e => Heap.get?_push_of_some _ e⟩, F.push _, (fun p hp => ⟨Heap.get?_push_of_some _ (N p hp).1, (N p hp).2⟩), ⟨c₀, rfl, hf, hk, fun _ _ _ => rfl, hp⟩, ?_, ?_⟩
  · intro hm
    rcases List.mem_cons.mp hm with e | hm
    · exact absurd F.ns.lt (e ▸ Nat.lt_irrefl _)
    · exact (N _ (hl c₀)).2.1 ((List.mem_singleton.mp hm).symm)
  · intro b hb
    rw [List.mem_singleton.mp hb]
    exact next_is_new F
  · intro p hp hI
    exact absurd (Heap.lt_size (N p hp).1) ((List.mem_singleton.mp hI) ▸ Nat.lt_irrefl _)
  · rintro i v m₁ news₁ s₁ own ⟨hh', tk', rfl⟩ hin hP ⟨c, rfl, hf1, hk1, hr1, hp1⟩ hoff hown hget hfp hst F₁ N₁
    have hI0 : h₀.get? s.heap.objs.size = none := next_is_new F
    obtain ⟨⟨oI, hoI, _⟩, _⟩ := id hst
    have hIown : (s.heap.objs.size, oI) ∈ own := hfp _ (List.mem_cons.mpr (.inl rfl)) hI0 _ hoI
    have hlt' : i < ns.length := hin
    obtain ⟨t, hxv⟩ := hi.get i ns[i] (by simp [hlt'])
    have hv : v = .int ns[i] t := by
      have hP' : vs[i]? = some v := by simpa using hP
      rw [hxv] at hP'; exact (Option.some.inj hP').symm
    subst hv
    have hlo : hh'.get? l = some (listOf vs.toArray nn) := (N₁ _ (List.mem_append.mpr (.inr (hl c)))).1
    have F₂ := ksw_fr (ps := (x, .int ns[i] t) :: ps c) (stored := stored) (m₀ := m₀) (m₁ := fun y => if y = x then some (.int ns[i] t) else m₁ y) (by
      intro p hp
      rcases List.mem_cons.mp hp with rfl | hp
      · exact if_pos rfl
      · exact (if_neg (hx c p hp)).trans (hk1 p hp)) (by
      intro z h1 h2
      refine (if_neg (h1 _ (.head _))).trans (hr1 z (fun p hp => h1 p (.tail _ hp)) h2)) F₁
    have N₂ : News h₀ env.locals hh' ((s.heap.objs.size, oI) :: Led c) := fun p hp => N₁ p (by
      rcases List.mem_cons.mp hp with rfl | hp
      · exact List.mem_append.mpr (.inl hIown)
      · exact List.mem_append.mpr (.inr hp))
    refine wpAny_mono (turn i ns[i] t c _ hh' tk' _ oI (by simp [hlt']) hf1 hp1 (fun p hp e => hoff p hp (List.mem_singleton.mpr e)) F₂ N₂) (fun f s₂ p => ?_) fun _ _ e => e
    have fin : ForEnd h₀ env.locals s Led ps Facts stored m₀ (P (i + 1)) (s.heap.objs.size, oI) s₂ →
        LoopStepU h₀ env.locals [s.heap.objs.size] own (fun m nx => ∃ c : σ, nx = Led c ∧ Facts c ∧ (∀ p ∈ ps c, m p.1 = some p.2) ∧ (∀ z, (∀ p ∈ ps c, z ≠ p.1) → stored.contains z = false → m z = m₀ z) ∧ P (i + 1) c) { s with heap := hh', toks := tk' } .next s₂ := by
      rintro ⟨c', h', tk, m', news', e, F', N', hnI, hn, hf2, hk2, hr2, hp2⟩
      refine ⟨rfl, h', tk, m', Led c', e, F', fun p hp => ?_, fun p hp hI => (hn p hp).2 (List.mem_singleton.mp hI), c', rfl, hf2, hk2, hr2, hp2⟩
      rcases List.mem_append.mp hp with h | h
      · have h2 : hh'.get? p.1 = some p.2 := hget p h
        rcases List.mem_cons.mp (hown p h) with h1 | h1
        · rw [h1, hoI] at h2
          have h3 : p = (s.heap.objs.size, oI) := Prod.ext h1 (Option.some.inj h2).symm
          rw [h3]; exact N' _ hnI
        · rw [List.mem_singleton.mp h1, hlo] at h2
          have h3 : p = (l, listOf vs.toArray nn) := Prod.ext (List.mem_singleton.mp h1) (Option.some.inj h2).symm
          rw [h3]; exact N' _ (hn _ (hl c')).1
      · exact N' p (hn p h).1
    cases f with
    | ret v => exact .ret p
    | brk => exact .brk p
    | next => exact .next (fin p)
    | cont => exact .cont (fin p)
  · rintro h' tk m' news' F' N' _ ⟨c, rfl, hf1, hk1, hr1, hp1⟩
    exact done c m' h' tk hf1 hp1 (ksw_fr hk1 hr1 F') N'
end
end Mine
end

section
open PySem PySem.W PyProof.Rows PySem.Spec PySem.Calls
namespace Mine
def readGo : List Int → List Int → List Int
  | run, [] => signs run
  | run, u :: us => if u < 256 then readGo (run ++ [u]) us else signs run ++ (u - 256) :: readGo [] us
inductive RowArg : List (Addr × Obj) → List Value → List Int → Prop
  | mk {news : List (Addr × Obj)} {os : List Int} {a : Addr} {us : List Value} {n : Nat} : (a, listOf us.toArray n) ∈ news → IntsAre us os → (∀ o ∈ os, 0 ≤ o) → os.length ≤ 1000 → RowArg news [.ref a] os
abbrev readT : ToldN (List Int) where
  Rel := RowArg
  Ok := fun _ => True
  size := fun _ => 3
  Tl := fun _ => True
  Out := fun news r d => ListOut news r (readGo [] d)
structure RdSt where
  ta : Addr
  tu : List Value
  T : List Int
  tn : Nat
  ra : Addr
  ru : List Value
  R : List Int
  rn : Nat
theorem readGo_low {R : List Int} {us : List Int} {i : Nat} {u : Int} (h : us[i]? = some u) (hu : u < 256) : readGo R (us.drop i) = readGo (R ++ [u]) (us.drop (i + 1)) := by
  obtain ⟨hi, e⟩ := List.getElem?_eq_some_iff.mp h
  rw [List.drop_eq_getElem_cons hi, e, readGo, if_pos hu]
theorem readGo_high {R : List Int} {us : List Int} {i : Nat} {u : Int} (h : us[i]? = some u) (hu : ¬ u < 256) : readGo R (us.drop i) = signs R ++ (u - 256) :: readGo [] (us.drop (i + 1)) := by
  obtain ⟨hi, e⟩ := List.getElem?_eq_some_iff.mp h
  rw [List.drop_eq_getElem_cons hi, e, readGo, if_neg hu]
local macro_rules | `(tactic| walk_at "mine same") => `(tactic| (intro z h2 h3; (try simp only [List.forall_mem_cons, List.not_mem_nil, false_implies, implies_true, and_true, ne_eq] at h2); (try simp only [List.contains_cons, List.contains_nil, Bool.or_false, Bool.or_eq_false_iff, beq_eq_false_iff_ne, ne_eq] at h3); simp [kstB, h2, h3]))
local macro_rules | `(tactic| walk_at "call ref") => `(tactic| refine Stop.mk ?_)
local macro_rules | `(tactic| walk_at "call builtin:list.append") => `(tactic| refine Stop.mk ?_)
local macro_rules | `(tactic| walk_at "binaryOp Add ref ref") => `(tactic| refine Stop.mk ?_)
local macro_rules | `(tactic| walk_at "ForPost") => `(tactic| dsimp only [ForPost])
local macro_rules | `(tactic| walk_at "pyIter ref") => `(tactic| refine Stop.mk ?_)
set_option maxHeartbeats 8000000 in
theorem read_tells (w : World) (s₀ : Shared) (mg mb : Str → Option Value) : ∀ d, TellsN PySem.Challenge.rw_ep5032_01.row.prog w (Mine.hd.heap_39 w.params) Mine.hd.view_39 (looseW Mine.hd.view_39 []) (ExcName.means s₀.heap) mg mb 79 readT d := by
  w_on
  k_fill
  intro d
  unfold TellsN
  intro dp un gd cn cs a ccd cl outer A₀ base h₀ L m news s vs Q E B F X N T hk hR hok hd hu hret
  cases hR
  rename_i ra us rn hra hus hbd hln
  refine wpAny_call ?_
  k_dflt ktr_enter
  k_steps
  unfold Stop
  (rename Fr _ _ _ _ => lF')
  (rename News _ _ _ _ => lN')
  dsimp only at lF' lN' ⊢
  (rename IntsAre _ _ => hus)
  rename_i t1 hA ltA r1 hB ltB D1 hC ltC hD hE hF
  refine for_led (σ := RdSt) (fun c => (c.ta, listOf c.tu.toArray c.tn) :: (c.ra, listOf c.ru.toArray c.rn) :: (ra, listOf us.toArray rn) :: news) (fun c => [(Str.ofString "told", .ref c.ta), (Str.ofString "run", .ref c.ra)]) (fun c => IntsAre c.tu c.T ∧ IntsAre c.ru c.R) [Str.ofString "unit"]
    (fun i c => c.T ++ readGo c.R (d.drop i) = readGo [] d ∧ c.T.length + c.R.length ≤ i ∧ (∀ o ∈ c.R, 0 ≤ o ∧ o < 256) ∧ (∀ p ∈ news, p.1 < c.ra) ∧ c.ta < c.ra) ⟨t1, [], [], 0, r1, [], [], 0⟩ (by rfl) (fun _ => .tail _ (.tail _ (.head _))) hus ?_ (by decide) lF' ?_ ?_ ?_ ?_ ?_ ?_
  · intro c p hp
    rcases List.mem_cons.mp hp with rfl | hp
    · show Str.ofString "told" ≠ Str.ofString "unit"; decide
    · rw [List.mem_singleton.mp hp]; show Str.ofString "run" ≠ Str.ofString "unit"; decide
  · intro p hp
    rcases List.mem_cons.mp hp with rfl | hp
    · exact lN' _ (.tail _ (.tail _ (.head _)))
    rcases List.mem_cons.mp hp with rfl | hp
    · exact lN' _ (.tail _ (.head _))
    rcases List.mem_cons.mp hp with rfl | hp
    · exact lN' _ (.tail _ (.tail _ (.tail _ hra)))
    exact lN' _ (.tail _ (.tail _ (.tail _ hp)))
  · exact ⟨.nil, .nil⟩
  · exact List.forall_mem_cons.mpr ⟨rfl, List.forall_mem_cons.mpr ⟨rfl, List.forall_mem_nil _⟩⟩
  · exact ⟨by simp, by simp, by simp, fun p hp => Nat.lt_trans (ltA p hp) ltB.1, ltB.1⟩
  · clear lF' lN'
    rintro i n t ⟨ta, tu, T1, tn, rr, ru, R, rrn⟩ u h tk I o hin ⟨hf1, hf2⟩ ⟨hP, hPl, hPb, hPr, hPt⟩ hI F2 N2
    have kM : KstMark := kstMark
    dsimp only at hf1 hf2 hP hPl hPb hPr hPt hI F2 N2
    have hi1 : i < d.length := (List.getElem?_eq_some_iff.mp hin).1
    have hn0 := hbd n (List.mem_of_getElem? hin)
    k_steps
    · unfold Stop
      (rename Fr _ _ _ _ => lF)
      (rename News _ _ _ _ => lN)
      (rename n < 256 => hn1)
      try dsimp only at lF lN
      refine my_append ((I, o) :: (ta, listOf tu.toArray tn) :: (ra, listOf us.toArray rn) :: news) lF lN (.tail _ (.tail _ (.head _))) ?_ (by rw [sizeLine_eq, hf2.length]; omega) ?_
      · intro p hp
        rcases List.mem_cons.mp hp with rfl | hp
        · exact ⟨.head _, fun e => hI _ (.tail _ (.head _)) e.symm⟩
        rcases List.mem_cons.mp hp with rfl | hp
        · exact ⟨.tail _ (.head _), Nat.ne_of_lt hPt⟩
        rcases List.mem_cons.mp hp with rfl | hp
        · exact ⟨.tail _ (.tail _ (.tail _ (.head _))), Nat.ne_of_lt (hPr _ hra)⟩
        exact ⟨.tail _ (.tail _ (.tail _ (.tail _ hp))), Nat.ne_of_lt (hPr _ hp)⟩
      clear lF lN
      intro hq Fq Nq
      k_steps
      (rename Fr _ _ _ _ => lF)
      (rename News _ _ _ _ => lN)
      try dsimp only at lF lN
      refine for_end ⟨ta, tu, T1, tn, rr, ru ++ [.int n t], R ++ [n], rrn + 1⟩ lF lN (.tail _ (.head _)) ?_ ⟨hf1, IntsAre.append hf2 (.cons _ _ .nil)⟩ (List.forall_mem_cons.mpr ⟨rfl, List.forall_mem_cons.mpr ⟨rfl, List.forall_mem_nil _⟩⟩) (by walk_at "mine same") ?_
      · intro p hp
        rcases List.mem_cons.mp hp with rfl | hp
        · exact ⟨.tail _ (.tail _ (.head _)), hI (ta, listOf tu.toArray tn) (.head _)⟩
        rcases List.mem_cons.mp hp with rfl | hp
        · exact ⟨.head _, hI (rr, listOf ru.toArray rrn) (.tail _ (.head _))⟩
        exact ⟨.tail _ (.tail _ (.tail _ hp)), hI p (.tail _ (.tail _ hp))⟩
      refine ⟨?_, ?_, ?_, hPr, hPt⟩
      · dsimp only; rw [← hP, readGo_low hin hn1]
      · simp only [List.length_append, List.length_cons, List.length_nil]; omega
      · intro o2 ho
        rcases List.mem_append.mp ho with ho | ho
        · exact hPb _ ho
        · rw [List.mem_singleton.mp ho]; exact ⟨hn0, hn1⟩
    · unfold Stop
      (rename Fr _ _ _ _ => lF)
      (rename News _ _ _ _ => lN)
      (rename ¬ n < 256 => hn1)
      try dsimp only at lF lN
      refine tellsN_use (by k_asm) lF (by k_asm) lN (by k_asm) rfl (RunArg.mk (.tail _ (.tail _ (.head _))) hf2 hPb (by omega)) (signs_tells w s₀ mg mb _) trivial ?_ ?_ ?_
      · ktr_room
      · ktr_units
      intro r tl h' tk' F' N' lt' _ ho
      obtain ⟨qa, qu, qn, rfl, hmem, hq⟩ := ho
      have N3 := news_top N' hmem
      have hsl := signs_length R
      clear N' lN lF
      k_steps
      unfold Stop
      (rename Fr _ _ _ _ => lF)
      (rename News _ _ _ _ => lN)
      refine kmk_add_ints lF lN (News.isList lN (.tail _ (.tail _ (.head _)))) (News.isList lN (.head _)) hf1 hq ?_ (by rw [sizeLine_eq]; omega)
      clear lF lN
      intro D1 u1 h1 F1 N1 l1 hu1
      k_steps
      unfold Stop
      (rename Fr _ _ _ _ => lF)
      (rename News _ _ _ _ => lN)
      refine kmk_add_ints (ws := [_]) (ms := [n - 256]) lF lN (News.isList lN (.tail _ (.head _))) (News.isList lN (.head _)) hu1 (.cons _ _ .nil) ?_ (by rw [sizeLine_eq]; simp only [List.length_append, List.length_cons, List.length_nil]; omega)
      clear lF lN
      intro D2 u2 h2 F2 N2 l2 hu2
      k_steps
      (rename Fr _ _ _ _ => lF)
      (rename News _ _ _ _ => lN)
      try dsimp only at lF lN
      rename_i R2 hG lt2 hH
      refine for_end ⟨D2, u2, T1 ++ signs R ++ [n - 256], 0, R2, [], [], 0⟩ lF lN (.tail _ (.tail _ (.tail _ (.tail _ (.tail _ (List.mem_append.mpr (.inl (.head _)))))))) ?_ ⟨hu2, .nil⟩ (List.forall_mem_cons.mpr ⟨rfl, List.forall_mem_cons.mpr ⟨rfl, List.forall_mem_nil _⟩⟩) (by walk_at "mine same") ?_
      · intro p hp
        rcases List.mem_cons.mp hp with rfl | hp
        · exact ⟨.tail _ (.head _), (Nat.ne_of_lt (l2 (I, o) (.tail _ (.tail _ (.tail _ (List.mem_append.mpr (.inl (.head _)))))))).symm⟩
        rcases List.mem_cons.mp hp with rfl | hp
        · exact ⟨.head _, (Nat.ne_of_lt (ktn_ltOf lt2.2.2.2.2 (I, o) (List.mem_append.mpr (.inl (.head _))))).symm⟩
        exact ⟨.tail _ (.tail _ (.tail _ (.tail _ (.tail _ (List.mem_append.mpr (.inl (.tail _ (.tail _ (.tail _ hp)))))))) ), hI p (.tail _ (.tail _ hp))⟩
      refine ⟨?_, ?_, (fun _ h => nomatch h), (fun p hp => ktn_ltOf lt2.2.2.2.2 p (List.mem_append.mpr (.inl (.tail _ (.tail _ (.tail _ (.tail _ hp))))))), lt2.1⟩
      · dsimp only; rw [← hP, readGo_high hin hn1]; simp
      · simp only [List.length_append, List.length_cons, List.length_nil]; omega
  · clear lF' lN'
    rintro ⟨ta, tu, T1, tn, rr, ru, R, rrn⟩ u h tk ⟨hf1, hf2⟩ ⟨hP, hPl, hPb, hPr, hPt⟩ F2 N2
    have kM : KstMark := kstMark
    dsimp only at hf1 hf2 hP hPl hPb hPr hPt F2 N2
    k_steps
    unfold Stop
    (rename Fr _ _ _ _ => lF)
    (rename News _ _ _ _ => lN)
    try dsimp only at lF lN
    refine tellsN_use (by k_asm) lF (by k_asm) lN (by k_asm) rfl (RunArg.mk (.tail _ (.head _)) hf2 hPb (by omega)) (signs_tells w s₀ mg mb _) trivial ?_ ?_ ?_
    · ktr_room
    · ktr_units
    intro r tl h' tk' F' N' lt' _ ho
    obtain ⟨qa, qu, qn, rfl, hmem, hq⟩ := ho
    have N3 := news_top N' hmem
    have hsl := signs_length R
    clear N' lN lF
    k_steps
    unfold Stop
    (rename Fr _ _ _ _ => lF)
    (rename News _ _ _ _ => lN)
    refine kmk_add_ints lF lN (News.isList lN (.tail _ (.head _))) (News.isList lN (.head _)) hf1 hq ?_ (by rw [sizeLine_eq]; omega)
    clear lF lN
    intro D1 u1 h1 F1 N1 l1 hu1
    k_steps
    (rename Fr _ _ _ _ => lF)
    (rename News _ _ _ _ => lN)
    refine hret _ ((D1, listOf u1.toArray 0) :: tl) _ _ (by k_asm) (fun p hp => lN p ?_) (fun q hq p hp => ?_) trivial ⟨D1, u1, 0, rfl, List.mem_append.mpr (.inr (.head _)), ?_⟩
    · rcases List.mem_append.mp hp with hp | hp
      · exact .tail _ (.tail _ (List.mem_append.mpr (.inl (.tail _ (.tail _ (.tail _ hp))))))
      · rcases List.mem_cons.mp hp with rfl | hp
        · exact .head _
        · exact .tail _ (.tail _ (List.mem_append.mpr (.inr hp)))
    · rcases List.mem_cons.mp hp with rfl | hp
      · exact l1 q (.tail _ (List.mem_append.mpr (.inl (.tail _ (.tail _ (.tail _ hq))))))
      · exact lt' q (.tail _ (.tail _ (.tail _ hq))) p hp
    · rw [List.drop_eq_nil_of_le (Nat.le_refl _), readGo] at hP
      rw [← hP]
      exact hu1
end Mine
end

section
open PySem PySem.W PyProof.Rows PySem.Spec PySem.Calls
namespace Mine
def BuiltOut (news : List (Addr × Obj)) (r : Value) : Prop :=
  ∃ a x t b us n units, r = .ref a ∧ (a, tupOf [.str x t, .ref b]) ∈ news ∧ (b, listOf us.toArray n) ∈ news ∧ IntsAre us units ∧ scan (cod x) = units ∧ x.length ≤ 290 ∧ units.length ≤ 98 ∧ ∀ u ∈ units, 0 ≤ u ∧ u < 1114368
structure BtSt where
  x : Str
  t : Tok
  ra : Addr
  us : List Value
  n : Nat
  R : List Int
theorem my_list_seq {prog : Program} {w : World} {A : Around} {E : Value → Shared → Prop} {s : Shared} {h₀ : Heap} {L q : Addr} {m : Str → Option Value} {nw : List (Addr × Obj)} {us : List Value} {n : Nat} {o : Obj} {Q : Value → Shared → Prop}
    (F : Fr h₀ L s.heap m) (N : News h₀ L s.heap nw) (ho : h₀.get? q = some o) (hc : o.cls = .type "tuple") (hd : o.data = .seq us.toArray n) (hz : us.length ≤ 1000)
    (h : ∀ a c h', Fr h₀ L h' m → News h₀ L h' ((a, listOf us.toArray c) :: nw) → (∀ p ∈ nw, p.1 < a) → Q (.ref a) { s with heap := h' }) :
    wpAny (model prog w) A (call (.type "list") [.ref q]) Q E s := by
  refine call_list_seq q (.inr rfl) (F.keep _ _ ho) hc hd (fun h' c k ha => h _ c h' (fr_keeps F k) (fun p hp => ?_) fun p hp => Heap.lt_size (N p hp).1) (by rw [sizeLine_eq, List.size_toArray]; omega)
  rcases List.mem_cons.mp hp with rfl | hp
  · exact ⟨ha, Nat.ne_of_gt F.ns.lt, next_is_new F⟩
  · exact news_keeps N k p hp
local macro_rules | `(tactic| walk_at "mine same") => `(tactic| (intro z h2 h3; (try simp only [List.forall_mem_cons, List.not_mem_nil, false_implies, implies_true, and_true, ne_eq] at h2); (try simp only [List.contains_cons, List.contains_nil, Bool.or_false, Bool.or_eq_false_iff, beq_eq_false_iff_ne, ne_eq] at h3); simp [kstB, h2, h3]))
local macro_rules | `(tactic| walk_at "call ref") => `(tactic| refine Stop.mk ?_)
local macro_rules | `(tactic| walk_at "binaryOp Add ref ref") => `(tactic| refine Stop.mk ?_)
local macro_rules | `(tactic| walk_at "binaryOp Add str str") => `(tactic| refine Stop.mk ?_)
local macro_rules | `(tactic| walk_at "ForPost") => `(tactic| dsimp only [ForPost])
local macro_rules | `(tactic| walk_at "pyIter ref") => `(tactic| refine Stop.mk ?_)
local macro_rules | `(tactic| walk_at "exec For") => `(tactic| (k_here; (rename Fr _ _ _ _ => lF'); (with_unfolding_all refine' For_invVF lF' ?k1 ?k2 ?_; (case k1 => exact rfl); (case k2 => exact rfl); k_whole)))
set_option hygiene false in
local macro_rules | `(tactic| walk_at "mine end") => `(tactic| (
  (rename Frag.In _ _ => hX)
  (rename Fr _ _ _ _ => lF)
  (rename News _ _ _ _ => lN)
  try dsimp only at lF lN
  refine my_list_seq (us := []) lF lN (hX _ _ (by k_is)) rfl rfl (by simp) ?_
  clear lF lN
  intro D5 c5 h5 F5 N5 l5
  k_steps
  unfold Stop
  (rename Fr _ _ _ _ => lF)
  (rename News _ _ _ _ => lN)
  try dsimp only at lF lN
  refine kmk_add_ints lF lN (News.isList lN (.tail _ (.tail _ (.head _)))) (News.isList lN (.head _)) hf .nil ?_ (by rw [sizeLine_eq]; simp only [List.length_cons, List.length_nil]; omega)
  clear lF lN
  intro D4 u4 h4 F4 N4 l4 hu4
  k_steps
  (rename Fr h₀ _ _ _ => lF)
  (rename News h₀ _ _ _ => lN)
  refine hret _ _ _ _ lF lN (fun p hp => .tail _ (.tail _ (.tail _ (.tail _ (.tail _ hp))))) ⟨_, _, _, D4, u4, 0, _, rfl, .head _, .tail _ (.head _), hu4, hsc, hle, (by simp only [List.length_append, List.length_cons, List.length_nil]; omega), fun u hu => (List.mem_append.mp hu).elim (hPb u) (hbd u)⟩))
set_option hygiene false in
local macro_rules | `(tactic| walk_at "mine end1") => `(tactic| (
  (rename Frag.In _ _ => hX)
  (rename Fr _ _ _ _ => lF)
  (rename News _ _ _ _ => lN)
  try dsimp only at lF lN
  refine my_list_seq (us := [_]) lF lN (hX _ _ (by k_is)) rfl rfl (by simp) ?_
  clear lF lN
  intro D5 c5 h5 F5 N5 l5
  k_steps
  unfold Stop
  (rename Fr _ _ _ _ => lF)
  (rename News _ _ _ _ => lN)
  try dsimp only at lF lN
  refine kmk_add_ints lF lN (News.isList lN (.tail _ (.tail _ (.head _)))) (News.isList lN (.head _)) hf (.cons _ _ .nil) ?_ (by rw [sizeLine_eq]; simp only [List.length_cons, List.length_nil]; omega)
  clear lF lN
  intro D4 u4 h4 F4 N4 l4 hu4
  k_steps
  (rename Fr h₀ _ _ _ => lF)
  (rename News h₀ _ _ _ => lN)
  refine hret _ _ _ _ lF lN (fun p hp => .tail _ (.tail _ (.tail _ (.tail _ (.tail _ hp))))) ⟨_, _, _, D4, u4, 0, _, rfl, .head _, .tail _ (.head _), hu4, hsc, hle, (by simp only [List.length_append, List.length_cons, List.length_nil]; omega), fun u hu => (List.mem_append.mp hu).elim (hPb u) (hbd u)⟩))
set_option hygiene false in
local macro_rules | `(tactic| walk_at "mine end2") => `(tactic| (
  (rename Frag.In _ _ => hX)
  (rename Fr _ _ _ _ => lF)
  (rename News _ _ _ _ => lN)
  try dsimp only at lF lN
  refine my_list_seq (us := [_, _]) lF lN (hX _ _ (by k_is)) rfl rfl (by simp) ?_
  clear lF lN
  intro D5 c5 h5 F5 N5 l5
  k_steps
  unfold Stop
  (rename Fr _ _ _ _ => lF)
  (rename News _ _ _ _ => lN)
  try dsimp only at lF lN
  refine kmk_add_ints lF lN (News.isList lN (.tail _ (.tail _ (.head _)))) (News.isList lN (.head _)) hf (.cons _ _ (.cons _ _ .nil)) ?_ (by rw [sizeLine_eq]; simp only [List.length_cons, List.length_nil]; omega)
  clear lF lN
  intro D4 u4 h4 F4 N4 l4 hu4
  k_steps
  (rename Fr h₀ _ _ _ => lF)
  (rename News h₀ _ _ _ => lN)
  refine hret _ _ _ _ lF lN (fun p hp => .tail _ (.tail _ (.tail _ (.tail _ (.tail _ hp))))) ⟨_, _, _, D4, u4, 0, _, rfl, .head _, .tail _ (.head _), hu4, hsc, hle, (by simp only [List.length_append, List.length_cons, List.length_nil]; omega), fun u hu => (List.mem_append.mp hu).elim (hPb u) (hbd u)⟩))
set_option maxHeartbeats 8000000 in
theorem built_tells (w : World) (s₀ : Shared) (mg mb : Str → Option Value) (dp un : Nat) (gd : Option (List Code)) (cn : Str) (cs : Scope) (a : Addr) (ccd : Value) (cl : List (Str × Addr)) (outer : List Env) (A₀ : Around) (base h₀ : Heap) (L : Addr) (m : Str → Option Value) (news : List (Addr × Obj)) (s : Shared) (l : Addr) (vs : List Value) (d : List Int)
    (Q E : Value → Shared → Prop) (B : Below A₀ base outer h₀) (F : Fr h₀ L s.heap m) (X : (Mine.hd.heap_39 w.params).In h₀) (N : News h₀ L s.heap news) (T : Top Mine.hd.view_39 (looseW Mine.hd.view_39 []) (ExcName.means s₀.heap) mg mb h₀) (hk : cs.kind = .function) (hd : dp + 3 < recursionLimit) (hu : un + 8 * 3 < cLine)
    (hl : h₀.IsList l vs.toArray) (hi : IntsAre vs d) (hn : d.length ≤ 63)
    (hret : ∀ r news' h' tk', Fr h₀ L h' m → News h₀ L h' news' → (∀ p ∈ news, p ∈ news') → BuiltOut news' r → Q r { s with heap := h', toks := tk' }) :
    wpAny (model PySem.Challenge.rw_ep5032_01.row.prog w) (ktrTop dp un gd cn cs L a ccd cl outer) (call (.ref 86) [.ref l]) Q E s := by
  w_on
  revert X
  k_fill
  intro X
  refine wpAny_call ?_
  k_dflt ktr_enter
  have hlg : PySem.Heap.IsList _ l vs.toArray := hl.at fun o e => (by assumption : Fr h₀ L _ m).keep l o e
  k_steps
  unfold Stop
  (rename IntsAre _ (List.take _ _) => hus)
  (rename Fr _ _ _ _ => lF')
  (rename News _ _ _ _ => lN')
  (rename (List.take 24 d).length = _ => htk)
  try dsimp only at lF' lN' ⊢
  rename_i r1 hA ltA D1 hB ltB hC hD hE D2 ws hG hH ltC
  generalize s.toks + List.length _ = t0 at lF' lN'
  refine for_led (σ := BtSt) (fun c => (D2, listOf ws.toArray 0) :: (c.ra, listOf c.us.toArray c.n) :: news) (fun c => [(Str.ofString "text", .str c.x c.t), (Str.ofString "row", .ref c.ra)]) (fun c => IntsAre c.us c.R) [Str.ofString "x", Str.ofString "piece", Str.ofString "units"]
    (fun i c => (∀ rest, scan (cod c.x ++ rest) = c.R ++ scan rest) ∧ c.x.length ≤ 12 * i ∧ c.R.length ≤ 4 * i ∧ (∀ u ∈ c.R, 0 ≤ u ∧ u < 1114368)) ⟨Str.ofString "", t0, r1, [], 0, []⟩ (by rfl) (fun _ => .head _) hus ?_ (by decide) lF' ?_ ?_ ?_ ?_ ?_ ?_
  · intro c p hp
    rcases List.mem_cons.mp hp with rfl | hp
    · show Str.ofString "text" ≠ Str.ofString "x"; decide
    · rw [List.mem_singleton.mp hp]; show Str.ofString "row" ≠ Str.ofString "x"; decide
  · intro p hp
    rcases List.mem_cons.mp hp with rfl | hp
    · exact lN' _ (.head _)
    rcases List.mem_cons.mp hp with rfl | hp
    · exact lN' _ (.tail _ (.tail _ (.head _)))
    exact lN' _ (.tail _ (.tail _ (.tail _ hp)))
  · exact .nil
  · exact List.forall_mem_cons.mpr ⟨rfl, List.forall_mem_cons.mpr ⟨rfl, List.forall_mem_nil _⟩⟩
  · exact ⟨fun _ => rfl, Nat.le_refl _, Nat.le_refl _, fun _ h => nomatch h⟩
  · clear lF' lN'
    rintro i n t ⟨x, tx, ra, us, rn, R⟩ u h tk I o hin hf ⟨hP, hPx, hPl, hPb⟩ hI F2 N2
    have kM : KstMark := kstMark
    dsimp only at hf hP hPx hPl hPb hI F2 N2
    have hi1 : i < (d.take 24).length := (List.getElem?_eq_some_iff.mp hin).1
    k_steps
    unfold Stop
    (rename Fr _ _ _ _ => lF)
    (rename News _ _ _ _ => lN)
    try dsimp only at lF lN
    refine piece_tells w s₀ mg mb _ _ _ _ _ _ _ _ _ _ _ _ _ _ _ _ n t _ _ (by k_asm) lF (by k_asm) lN (by k_asm) rfl ?_ ?_ ?_
    · ktr_room
    · ktr_units
    intro r nw h' tk' F' N' hsub ho
    obtain ⟨pa, px, pt, pb, pus, pn, units, rfl, hm1, hm2, hpu, hpc⟩ := ho
    have N3 := news_top (news_top (news_top N' (hsub _ (.tail _ (.tail _ (.head _))))) (.tail _ hm2)) (.tail _ (.tail _ hm1))
    clear lF lN N'
    k_steps
    unfold Stop
    have hps := hpc.short
    have hpf := hpc.few
    rw [cod_len] at hps
    refine my_add (by omega) ?_
    intro t2 k2
    k_steps
    unfold Stop
    (rename Fr _ _ _ _ => lF)
    (rename News _ _ _ _ => lN)
    try dsimp only at lF lN
    refine kmk_add_ints lF lN (News.isList lN (.tail _ (.tail _ (.head _)))) (News.isList lN (.tail _ (.head _))) hf hpu ?_ (by rw [sizeLine_eq]; omega)
    clear lF lN
    intro D4 u4 h4 F4 N4 l4 hu4
    k_steps
    (rename Fr _ _ _ _ => lF)
    (rename News _ _ _ _ => lN)
    try dsimp only at lF lN
    refine for_end ⟨_, _, D4, u4, 0, R ++ units⟩ lF lN (.tail _ (.tail _ (.tail _ (.tail _ (hsub _ (.head _)))))) ?_ hu4 (List.forall_mem_cons.mpr ⟨rfl, List.forall_mem_cons.mpr ⟨rfl, List.forall_mem_nil _⟩⟩) (by walk_at "mine same") ?_
    · intro p hp
      rcases List.mem_cons.mp hp with rfl | hp
      · exact ⟨.tail _ (.tail _ (.tail _ (.tail _ (hsub _ (.tail _ (.head _)))))), hI (D2, listOf ws.toArray 0) (.head _)⟩
      rcases List.mem_cons.mp hp with rfl | hp
      · exact ⟨.head _, (Nat.ne_of_lt (l4 (I, o) (.tail _ (.tail _ (.tail _ (hsub _ (.head _))))))).symm⟩
      exact ⟨.tail _ (.tail _ (.tail _ (.tail _ (hsub _ (.tail _ (.tail _ (.tail _ hp))))))), hI p (.tail _ (.tail _ hp))⟩
    refine ⟨fun rest => ?_, ?_, ?_, fun u hu => ?_⟩
    · dsimp only
      rw [cod_append, List.append_assoc, hP, hpc.reads, List.append_assoc]
    · simp only [Str.length_append]; omega
    · simp only [List.length_append]; omega
    · rcases List.mem_append.mp hu with hu | hu
      · exact hPb u hu
      · exact hpc.low u hu
  · clear lF' lN'
    rintro ⟨x, tx, ra, us, rn, R⟩ u h tk hf ⟨hP, hPx, hPl, hPb⟩ F2 N2
    have kM : KstMark := kstMark
    dsimp only at hf hP hPx hPl hPb F2 N2
    k_steps
    all_goals (
      have e0 : (Str.ofString "").length = 0 := by rfl
      have e1 : (Str.ofString "%").length = 1 := by rfl
      have e2 : (Str.ofString "%4").length = 2 := by rfl
      unfold Stop
      refine my_add (by omega) ?_
      intro t2 k2
      k_steps)
    · have hsc : scan (cod (x ++ Str.ofString "")) = R ++ [] := by rw [cod_append, hP]; rfl
      have hbd : ∀ u ∈ ([] : List Int), 0 ≤ u ∧ u < 1114368 := by decide
      have hle : (x ++ Str.ofString "").length ≤ 290 := by rw [Str.length_append]; omega
      have hi0 : IntsAre [] [] := .nil
      walk_at "mine end"
    · have hsc : scan (cod (x ++ Str.ofString "%")) = R ++ [37] := by rw [cod_append, hP]; rfl
      have hbd : ∀ u ∈ ([37] : List Int), 0 ≤ u ∧ u < 1114368 := by decide
      have hle : (x ++ Str.ofString "%").length ≤ 290 := by rw [Str.length_append]; omega
      walk_at "mine end1"
    · have hsc : scan (cod (x ++ Str.ofString "%4")) = R ++ [37, 52] := by rw [cod_append, hP]; rfl
      have hbd : ∀ u ∈ ([37, 52] : List Int), 0 ≤ u ∧ u < 1114368 := by decide
      have hle : (x ++ Str.ofString "%4").length ≤ 290 := by rw [Str.length_append]; omega
      walk_at "mine end2"
end Mine
end

section
open PySem PySem.W PyProof.Rows PySem.Spec PySem.Calls PySem.NumText
namespace Mine
noncomputable def isVal (r : int_private% "Numeral") (n : Int) : Bool := (int_private% "Numeral.rec") (motive := fun _ => Bool) false (fun _ => false) false (fun i => decide (i = n)) r
theorem isVal_eq {r : int_private% "Numeral"} {n : Int} (h : isVal r n = true) : r = (int_private% "Numeral.value") n := by
  cases r with
  | value i => exact congrArg _ (of_decide_eq_true h)
  | _ => exact absurd (show false = true from h) (by decide)
def hexes : List Nat := [48, 49, 50, 51, 52, 53, 54, 55, 56, 57, 65, 66, 67, 68, 69, 70, 97, 98, 99, 100, 101, 102]
theorem hex_all : ∀ a ∈ hexes, ∀ b ∈ hexes, isVal ((int_private% "readNumeral") 0 16 [a, b]) ((16 * hexV a + hexV b : Nat) : Int) = true := by decide +kernel
theorem hex_lt {a : Nat} (h : isHex a = true) : a < 103 := by
  unfold isHex at h
  simp only [Bool.or_eq_true, Bool.and_eq_true, decide_eq_true_eq] at h
  omega
theorem hex_mem {a : Nat} (h : isHex a = true) : a ∈ hexes :=
  (by decide +kernel : ∀ a : _root_.Fin 103, isHex a.val = true → a.val ∈ hexes) ⟨a, hex_lt h⟩ h
theorem hex_pos {a : Nat} (h : isHex a = true) : (a != 0) = true := by
  unfold isHex at h
  simp only [Bool.or_eq_true, Bool.and_eq_true, decide_eq_true_eq] at h
  simp only [bne_iff_ne, ne_eq]
  omega
theorem hex_read {a b : Nat} (ha : isHex a = true) (hb : isHex b = true) : (int_private% "readNumeral") 0 16 [a, b] = (int_private% "Numeral.value") ((16 * hexV a + hexV b : Nat) : Int) :=
  isVal_eq (hex_all a (hex_mem ha) b (hex_mem hb))
theorem hexV_lt {a : Nat} (h : isHex a = true) : hexV a < 16 := by
  unfold isHex at h
  unfold hexV
  simp only [Bool.or_eq_true, Bool.and_eq_true, decide_eq_true_eq] at h
  split
  · omega
  · split <;> omega

theorem typeCall_int_2 (a b : Value) : checkTypeCall "int" ⟨[a, b], []⟩ = pure () := by kernel_rfl
theorem newCall_int_2 (a b : Value) : checkBuiltinCall "int.__new__" ⟨[.type "int", a, b], []⟩ = pure () := by kernel_rfl
theorem wp_text16 {M : Model} {A : Around} {E : Value → Shared → Prop} {s : Shared} {Q : Value → Shared → Prop} {v : Value} {text : List Nat} {n : Int}
    (hs : (text.takeWhile (· != 0)).length ≤ 640) (hr : (int_private% "readNumeral") 0 16 (text.takeWhile (· != 0)) = (int_private% "Numeral.value") n)
    (ha : ((text.takeWhile (· != 0)).length == text.length) = true) (h : Q (.int n s.toks) { s with toks := s.toks + 1 }) :
    wpAny M A ((int_private% "intFromText") v text 16) Q E s := by
  obtain ⟨hp, g, d, tk, os⟩ := s
  repeat (any_goals (first
    | assumption
    | (with_reducible refine wpAny_ite_true (decide_eq_true hs) ?_)
    | (with_reducible refine wpAny_ite_true (decide_eq_true ha) ?_)
    | wp_step))
  all_goals (try rw [hr])
  all_goals (try dsimp only)
  repeat (any_goals (first
    | assumption
    | (with_reducible refine wpAny_ite_true (decide_eq_true hs) ?_)
    | (with_reducible refine wpAny_ite_true (decide_eq_true ha) ?_)
    | wp_step))
set_option maxHeartbeats 4000000 in
theorem gives_hex {a b : Nat} {u u2 : Tok} (ha : isHex a = true) (hb : isHex b = true) : Gives (Builtin.«int.__new__» ⟨[.type "int", .str ⟨#[a, b]⟩ u, .int 16 u2], []⟩) (.int ((16 * hexV a + hexV b : Nat) : Int)) :=
  .of_wp fun M A E s Q h => by
    obtain ⟨hp, g, d, tk, os⟩ := s
    have f1 := F.conv_sub_int
    have f2 := F.madeHere_int
    have e1 : numTextOf ⟨#[a, b]⟩ = [a, b] := by
      have h1 := hex_lt ha
      have h2 := hex_lt hb
      show (if (#[a, b] : Array Nat).all (· < 128) then [a, b] else _) = _
      rw [if_pos]
      simp only [Array.all_eq_true, decide_eq_true_eq]
      intro i hi
      rcases i with _ | _ | i
      · show a < 128; omega
      · show b < 128; omega
      · exact absurd hi (by simp)
    have e2 : numSeenOf ⟨#[a, b]⟩ = [a, b] := by
      show (numTextOf ⟨#[a, b]⟩).takeWhile (· != 0) = _
      rw [e1]
      simp only [List.takeWhile_cons, hex_pos ha, hex_pos hb, if_true, List.takeWhile_nil]
    have hk := KIN.Hid.mk (And.intro (show (numSeenOf ⟨#[a, b]⟩).length ≤ 640 by rw [e2]; show (2 : Nat) ≤ 640; decide) (And.intro (show (int_private% "readNumeral") 0 16 (numSeenOf ⟨#[a, b]⟩) = (int_private% "Numeral.value") ((16 * hexV a + hexV b : Nat) : Int) by rw [e2]; exact hex_read ha hb) (show ((numSeenOf ⟨#[a, b]⟩).length == (numTextOf ⟨#[a, b]⟩).length) = true by rw [e2, e1]; rfl)))
    clear e1 e2 ha hb
    repeat (any_goals (first
      | assumption
      | ((with_reducible show wpAny _ _ ((int_private% "intFromText") _ _ _) _ _ _); refine wp_text16 hk.out.1 hk.out.2.1 hk.out.2.2 ?_)
      | wp_step))
    all_goals first | exact ⟨_, rfl, h⟩ | skip
section
variable {prog : Program} {w : World} {A : Around} {E : Value → Shared → Prop} {s : Shared} {Q : Value → Shared → Prop}
theorem my_hex {a b : Nat} {u u2 : Tok} (ha : isHex a = true) (hb : isHex b = true) (h : ∀ t k, Q (.int ((16 * hexV a + hexV b : Nat) : Int) t) { s with toks := k }) : wpAny (model prog w) A (call (.type "int") [.str ⟨#[a, b]⟩ u, .int 16 u2]) Q E s :=
  callType_new F.called_int F.newNe_int (typeCall_int_2 _ _) (newCall_int_2 _ _) (fun obj => F.args_object_init_3 obj _ _) F.entry_int_new (gives_hex ha hb).meets (show (Made.int _).post _ s from ⟨rfl, h _ _⟩)
end
end Mine
end

section
open PySem PySem.W PyProof.Rows PySem.Spec PySem.Calls
namespace Mine
inductive TxtArg : List (Addr × Obj) → List Value → Str → Prop
  | mk {news : List (Addr × Obj)} {x : Str} {t : Tok} : x.length ≤ 290 → TxtArg news [.str x t] x
abbrev unqT : ToldN Str where
  Rel := TxtArg
  Ok := fun _ => True
  size := fun _ => 1
  Tl := fun _ => True
  Out := fun news r d => ∃ y t, r = .str y t ∧ cints y.cps = readGo [] (scan (cod d)) ∧ y.length ≤ 290
structure UnSt where
  T : Str
  tT : Tok
  B : Array UInt8
  tB : Tok
  k : Int
  tk : Tok
theorem scan_low {c : Nat} {rest : List Nat} (h : c < 128) (hne : ∀ a b r, rest = a :: b :: r → c = 37 → isHex a = true → isHex b = true → False) : scan (c :: rest) = (c : Int) :: scan rest := by
  by_cases e : c = 37
  · subst e
    match rest with
    | [] => rfl
    | [a] => rfl
    | a :: b :: r =>
      cases ha : isHex a with
      | false => exact scan_half ha _
      | true =>
        cases hb : isHex b with
        | false => exact scan_half2 hb _
        | true => exact (hne a b r rfl rfl ha hb).elim
  · rw [scan_plain e, unit1, if_pos h]
theorem scan_up {c : Nat} {rest : List Nat} (h : 128 ≤ c) : scan (c :: rest) = (256 + (c : Int)) :: scan rest := by
  rw [scan_plain (by omega), unit1, if_neg (by omega)]
theorem readGo_lo {R us : List Int} {u : Int} (h : u < 256) : readGo R (u :: us) = readGo (R ++ [u]) us := by rw [readGo, if_pos h]
theorem readGo_hi {R us : List Int} {u : Int} (h : 0 ≤ u) : readGo R ((256 + u) :: us) = signs R ++ u :: readGo [] us := by
  rw [readGo, if_neg (by omega)]
  congr 2
  omega
theorem hexes_in (c : Nat) : decide (c ∈ (Str.ofString "0123456789ABCDEFabcdef").cps.toList) = isHex c := by
  by_cases h : c < 103
  · exact (by decide +kernel : ∀ a : _root_.Fin 103, decide (a.val ∈ (Str.ofString "0123456789ABCDEFabcdef").cps.toList) = isHex a.val) ⟨c, h⟩
  · have h1 : isHex c = false := by
      cases e : isHex c with
      | false => rfl
      | true => exact absurd (hex_lt e) h
    rw [h1]
    refine decide_eq_false fun hm => h ?_
    exact (by decide +kernel : ∀ a ∈ (Str.ofString "0123456789ABCDEFabcdef").cps.toList, a < 103) c hm
structure IsHex (c : Nat) : Prop where
  ok : isHex c = true
/-- the code at a place -/
structure CodeAt (x : Str) (i : Int) (c : Nat) : Prop where
  is : x.cps.getD i.toNat 0 = c
theorem code_drop {x : Str} {k : Int} {c : Nat} (h0 : 0 ≤ k) (h1 : k < x.length) (h : CodeAt x k c) : (cod x).drop k.toNat = c :: (cod x).drop (k + 1).toNat := by
  have h2 : k.toNat < (cod x).length := by rw [cod_len]; omega
  have e1 : (k + 1).toNat = k.toNat + 1 := by omega
  rw [List.drop_eq_getElem_cons h2, e1]
  congr 1
  have h3 := h.is
  have h4 : k.toNat < x.cps.size := by have : x.cps.size = x.length := rfl; omega
  rw [← h3]
  simp [cod, Array.getD, h4]
theorem slice_two {x : Str} {k : Int} {a b : Nat} (h0 : 0 ≤ k) (h1 : k + 2 < x.length) (ha : CodeAt x (k + 1) a) (hb : CodeAt x (k + 2) b) : Txt.slice x (some (k + 1)) (some (k + 3)) = ⟨#[a, b]⟩ := by
  have d1 := code_drop (x := x) (k := k + 1) (by omega) (by omega) ha
  have e2 : k + 1 + 1 = k + 2 := by omega
  rw [e2] at d1
  have d2 := code_drop (x := x) (k := k + 2) (by omega) (by omega) hb
  rw [d2] at d1
  have e1 : k + 1 = (((k + 1).toNat : Nat) : Int) := by omega
  have e3 : k + 3 = (((k + 3).toNat : Nat) : Int) := by omega
  have e4 : (k + 3).toNat - (k + 1).toNat = 2 := by omega
  have hp := StrLaws.sliced_plain x (a := (k + 1).toNat) (b := (k + 3).toNat) (by omega) (by omega)
  rw [← e1, ← e3, e4] at hp
  have hq := StrLaws.strSliceIndices_plain (a := (k + 1).toNat) (b := (k + 3).toNat) (len := x.length) (by omega) (by omega)
  rw [← e1, ← e3, e4] at hq
  unfold Txt.slice
  rw [if_neg, hp]
  · have e5 : x.cps.toList.drop (k + 1).toNat = a :: b :: (cod x).drop (k + 2 + 1).toNat := d1
    rw [e5]
    rfl
  · rw [hq]
    simp only [List.length_map, List.length_range, Bool.and_eq_true, beq_iff_eq, not_and]
    intro _; omega
def NoPct (x : Str) (k : Int) (c : Nat) : Prop := ∀ a b r, (cod x).drop (k + 1).toNat = a :: b :: r → c = 37 → isHex a = true → isHex b = true → False
theorem noPct1 {x : Str} {k : Int} {c : Nat} (h : c ≠ 37) : NoPct x k c := fun _ _ _ _ e _ _ => h e
theorem noPct2 {x : Str} {k : Int} {c : Nat} (h0 : 0 ≤ k) (h : ¬ k + 2 < x.length) : NoPct x k c := fun a b r e _ _ _ => by
  have h1 := congrArg List.length e
  rw [List.length_drop, cod_len] at h1
  simp only [List.length_cons] at h1
  omega
theorem noPct3 {x : Str} {k : Int} {c a' : Nat} (h0 : 0 ≤ k) (h : k + 2 < x.length) (ha : CodeAt x (k + 1) a') (hn : ¬ IsHex a') : NoPct x k c := fun a b r e _ h1 _ => by
  rw [code_drop (by omega) (by omega) ha] at e
  exact hn ⟨(List.head_eq_of_cons_eq e) ▸ h1⟩
theorem noPct4 {x : Str} {k : Int} {c a' b' : Nat} (h0 : 0 ≤ k) (h : k + 2 < x.length) (ha : CodeAt x (k + 1) a') (hb : CodeAt x (k + 2) b') (hn : ¬ IsHex b') : NoPct x k c := fun a b r e _ _ h1 => by
  rw [code_drop (by omega) (by omega) ha] at e
  have e2 := List.tail_eq_of_cons_eq e
  rw [show k + 1 + 1 = k + 2 by omega, code_drop (by omega) (by omega) hb] at e2
  exact hn ⟨(List.head_eq_of_cons_eq e2) ▸ h1⟩
theorem octs_push {B : Array UInt8} {v : Int} (h0 : 0 ≤ v) (h1 : v < 256) : octs (B ++ ([v].map fun n => n.toNat.toUInt8).toArray) = octs B ++ [v] := by
  unfold octs
  rw [Array.toList_append, List.map_append]
  congr 1
  show [((v.toNat.toUInt8.toNat : Nat) : Int)] = [v]
  rw [byte_back h0 h1]
theorem cints_append (x y : Str) : cints (x ++ y).cps = cints x.cps ++ cints y.cps := by
  show cints (x.cps ++ y.cps) = _
  unfold cints
  rw [Array.toList_append, List.map_append]
theorem cints_sg (c : Nat) : cints (sg c).cps = [(c : Int)] := rfl
theorem cints_len (x : Str) : (cints x.cps).length = x.length := by simp [cints, Str.length]
/-- the state's word: what is told, and the rest of the text -/
def UnP (d : Str) (c : UnSt) : Prop := 0 ≤ c.k ∧ c.k ≤ d.length ∧ c.T.length + c.B.size ≤ c.k.toNat ∧ cints c.T.cps ++ readGo (octs c.B) (scan ((cod d).drop c.k.toNat)) = readGo [] (scan (cod d))
theorem unp_low {d T : Str} {tT : Tok} {B : Array UInt8} {tB tB' : Tok} {k : Int} {tk tk' : Tok} {c : Nat} (hP : UnP d ⟨T, tT, B, tB, k, tk⟩) (h1 : k < d.length) (hc : CodeAt d k c) (hl : (c : Int) < 128) (hn : NoPct d k c) :
    UnP d ⟨T, tT, B ++ ([(c : Int)].map fun n => n.toNat.toUInt8).toArray, tB', k + 1, tk'⟩ := by
  obtain ⟨p0, p1, p2, p3⟩ := hP
  dsimp only at p0 p1 p2 p3
  refine ⟨by dsimp only; omega, by dsimp only; omega, ?_, ?_⟩
  · simp only [Array.size_append, List.size_toArray, List.length_map, List.length_cons, List.length_nil]; omega
  · dsimp only
    rw [← p3, code_drop p0 h1 hc, scan_low (by omega) hn, readGo_lo (by omega), octs_push (by omega) (by omega)]
theorem unp_hex {d T : Str} {tT : Tok} {B : Array UInt8} {tB tB' : Tok} {k : Int} {tk tk' : Tok} {c a b : Nat} (hP : UnP d ⟨T, tT, B, tB, k, tk⟩) (h1 : k + 2 < d.length) (hc : CodeAt d k c) (e : c = 37) (ha : CodeAt d (k + 1) a) (ha' : IsHex a) (hb : CodeAt d (k + 2) b) (hb' : IsHex b) :
    UnP d ⟨T, tT, B ++ ([((16 * hexV a + hexV b : Nat) : Int)].map fun n => n.toNat.toUInt8).toArray, tB', k + 3, tk'⟩ := by
  obtain ⟨p0, p1, p2, p3⟩ := hP
  dsimp only at p0 p1 p2 p3
  have v1 := hexV_lt ha'.ok
  have v2 := hexV_lt hb'.ok
  refine ⟨by dsimp only; omega, by dsimp only; omega, ?_, ?_⟩
  · simp only [Array.size_append, List.size_toArray, List.length_map, List.length_cons, List.length_nil]; omega
  · dsimp only
    subst e
    rw [← p3, code_drop p0 (by omega) hc, code_drop (by omega) (by omega) ha, show k + 1 + 1 = k + 2 by omega, code_drop (by omega) (by omega) hb, show k + 2 + 1 = k + 3 by omega, scan_hex ha'.ok hb'.ok, readGo_lo (by omega), octs_push (by omega) (by omega)]
theorem unp_high {d T y : Str} {tT tT' : Tok} {B : Array UInt8} {tB tB' : Tok} {k : Int} {tk tk' : Tok} {c : Nat} (hP : UnP d ⟨T, tT, B, tB, k, tk⟩) (h1 : k < d.length) (hc : CodeAt d k c) (hl : ¬ (c : Int) < 128) (hy : cints y.cps = signs (octs B)) :
    UnP d ⟨T ++ y ++ sg c, tT', #[], tB', k + 1, tk'⟩ := by
  obtain ⟨p0, p1, p2, p3⟩ := hP
  dsimp only at p0 p1 p2 p3
  have hyl := cints_len y
  rw [hy] at hyl
  have hs := signs_length (octs B)
  rw [octs_length] at hs
  refine ⟨by dsimp only; omega, by dsimp only; omega, ?_, ?_⟩
  · simp only [Str.length_append, sg_len]
    show _ + 0 ≤ _
    omega
  · dsimp only
    rw [← p3, code_drop p0 h1 hc, scan_up (by omega), readGo_hi (by omega), cints_append, cints_append, hy, cints_sg]
    simp only [List.append_assoc, List.cons_append, List.nil_append]
    rfl
theorem eq37 (c : Nat) : (sg c == Str.ofString "%") = decide (c = 37) := by
  by_cases h : c = 37
  · subst h; rw [decide_eq_true rfl]; decide +kernel
  · rw [decide_eq_false h]
    refine beq_eq_false_iff_ne.mpr fun e => h ?_
    have e2 : (sg c).cps.toList = (Str.ofString "%").cps.toList := by rw [e]
    have e3 : [c] = [37] := e2
    exact List.head_eq_of_cons_eq e3
section
variable {prog : Program} {w : World} {A : Around} {E : Value → Shared → Prop} {s : Shared} {t u : Tok} {Q : Value → Shared → Prop}
theorem my_eq37 {c : Nat} (h : Q (.bool (decide (c = 37))) s) : wpAny (model prog w) A (compareOp .Eq (.str (sg c) t) (.str (Str.ofString "%") u)) Q E s := eq_str (by rw [eq37]; exact h)
theorem my_code {x : Str} {value slice : Expr} {i : Int} {u : Tok} (h0 : 0 ≤ i) (h1 : i < (x.length : Int)) (hx : x.length ≤ 1000000)
    (h : ∀ c t' k, CodeAt x i c → Q (.str (sg c) t') { s with toks := k })
    (hs : subscripted slice false (.str x t) (.int i u) = operate [.str x t, .int i u] (getItem (.str x t) (.int i u)) := by with_unfolding_all rfl)
    (ht : ∀ r, letTemporaryGo value (.str x t) r = pure () := by intro _; with_unfolding_all rfl) :
    wpAny (model prog w) A (subscriptTail value slice (.str x t) (.int i u)) Q E s := my_item h0 h1 hx (fun t' k => h _ t' k ⟨rfl⟩) hs ht
theorem my_codeK {x : Str} {value slice : Expr} {i : Int} {u : Tok} {c : Nat} (hc : CodeAt x i c) (h0 : 0 ≤ i) (h1 : i < (x.length : Int)) (hx : x.length ≤ 1000000)
    (h : ∀ t' k, Q (.str (sg c) t') { s with toks := k })
    (hs : subscripted slice false (.str x t) (.int i u) = operate [.str x t, .int i u] (getItem (.str x t) (.int i u)) := by with_unfolding_all rfl)
    (ht : ∀ r, letTemporaryGo value (.str x t) r = pure () := by intro _; with_unfolding_all rfl) :
    wpAny (model prog w) A (subscriptTail value slice (.str x t) (.int i u)) Q E s := my_item h0 h1 hx (fun t' k => by rw [hc.is]; exact h t' k) hs ht
theorem my_inhex {c : Nat} (h1 : IsHex c → Q (.bool true) s) (h2 : ¬ IsHex c → Q (.bool false) s) : wpAny (model prog w) A (compareOp .In (.str (sg c) t) (.str (Str.ofString "0123456789ABCDEFabcdef") u)) Q E s := my_in (by
  rw [hexes_in]
  cases e : isHex c with
  | true => exact h1 ⟨e⟩
  | false => exact h2 fun h => by rw [h.ok] at e; cases e)
end
local macro_rules | `(tactic| walk_at "mine same") => `(tactic| (intro z h2 h3; (try simp only [List.forall_mem_cons, List.not_mem_nil, false_implies, implies_true, and_true, ne_eq] at h2); (try simp only [List.contains_cons, List.contains_nil, Bool.or_false, Bool.or_eq_false_iff, beq_eq_false_iff_ne, ne_eq] at h3); simp [kstB, h2, h3]))
local macro_rules | `(tactic| walk_at "subscriptTail Name Name str int") => `(tactic| k_dflt (first | ((refine' my_codeK ?hc (by omega) (by omega) (by omega) ?_; (case hc => with_reducible assumption)); intro _ _) | (refine my_code (by omega) (by omega) (by omega) ?_; intro _ _ _ _)))
local macro_rules | `(tactic| walk_at "subscriptTail Name BinOp str int") => `(tactic| k_dflt (first | ((refine' my_codeK ?hc (by omega) (by omega) (by omega) ?_; (case hc => with_reducible assumption)); intro _ _) | (refine my_code (by omega) (by omega) (by omega) ?_; intro _ _ _ _)))
local macro_rules | `(tactic| walk_at "compareOp Eq str str") => `(tactic| k_dflt (refine my_eq37 ?_))
local macro_rules | `(tactic| walk_at "compareOp In str str") => `(tactic| k_dflt (refine my_inhex ?_ ?_ <;> intro _))
local macro_rules | `(tactic| walk_at "call builtin:ord") => `(tactic| k_dflt (refine my_ord ?_; intro _ _))
local macro_rules | `(tactic| walk_at "subscriptTail Name Slice str ref") => `(tactic| refine Stop.mk ?_)
local macro_rules | `(tactic| walk_at "call type:int") => `(tactic| refine Stop.mk ?_)
local macro_rules | `(tactic| walk_at "call type:bytes") => `(tactic| refine Stop.mk ?_)
local macro_rules | `(tactic| walk_at "binaryOp Add str str") => `(tactic| k_dflt (refine my_add (by (try simp only [Str.length_append, sg_len]); omega) ?_; intro _ _))
local macro_rules | `(tactic| walk_at "binaryOp Add bytes bytes") => `(tactic| refine Stop.mk ?_)
local macro_rules | `(tactic| walk_at "call builtin:bytes.decode") => `(tactic| refine Stop.mk ?_)
local macro_rules | `(tactic| walk_at "exec While") => `(tactic| refine Stop.mk ?_)
local macro_rules | `(tactic| walk_at "exec While Compare cons nil") => `(tactic| refine Stop.mk ?_)
set_option hygiene false in
local macro_rules | `(tactic| walk_at "mine byte") => `(tactic| (
  unfold Stop
  (rename Fr _ _ _ _ => lF)
  (rename News _ _ _ _ => lN)
  try dsimp only at lF lN
  refine bytes_K (vs := [_]) lF lN (News.isList lN (.head _)) (.cons _ _ .nil) (fun n hn => by rw [List.mem_singleton.mp hn]; constructor <;> omega) (by rw [sizeLine_eq]; show (1 : Nat) ≤ 16777216; decide) (by rfl) ?_
  clear lF lN
  intro h7 t7 k7 F7 N7 _
  k_steps
  unfold Stop
  refine KBy.add_bytes (by simp only [List.size_toArray, List.length_map, List.length_cons, List.length_nil]; omega) ?_
  intro t8 k8
  k_steps
  (rename Fr _ _ _ _ => lF)
  (rename News _ _ _ _ => lN)
  try dsimp only at lF lN
  obtain ⟨ev0, ev1, ev2, ev3⟩ := ev
  exact ksw_end ⟨T1, tT, _, _, _, _⟩ lF lN (fun p hp => .tail _ (.tail _ hp)) trivial (List.forall_mem_cons.mpr ⟨rfl, List.forall_mem_cons.mpr ⟨rfl, List.forall_mem_cons.mpr ⟨rfl, List.forall_mem_nil _⟩⟩⟩) (by walk_at "mine same") ⟨ev0, ev1, ev2, ev3⟩ (by dsimp only; omega)))
set_option hygiene false in
local macro_rules | `(tactic| walk_at "mine low") => `(tactic| (
  (rename CodeAt d k _ => hc)
  have ev := unp_low (tB' := tB) (tk' := tk) hP (by omega) hc (by omega) (by
    first
    | exact noPct1 (by assumption)
    | exact noPct2 hk0 (by omega)
    | ((refine' noPct4 hk0 ?hk ?ha ?hb ?hx); (case hb => with_reducible assumption); (case ha => with_reducible assumption); (case hx => with_reducible assumption); (case hk => omega))
    | ((refine' noPct3 hk0 ?hk ?ha ?hx); (case ha => with_reducible assumption); (case hx => with_reducible assumption); (case hk => omega)))
  walk_at "mine byte"))
set_option hygiene false in
local macro_rules | `(tactic| walk_at "mine high") => `(tactic| (
  (rename CodeAt d k _ => hc)
  (rename ¬ ((_ : Nat) : Int) < 128 => hl)
  unfold Stop
  (rename Fr _ _ _ _ => lF)
  (rename News _ _ _ _ => lN)
  refine decode_rep (by omega) ?_
  intro y h5 t5 k5 keep hy
  have F5 := fr_keeps lF keep
  have N5 := news_keeps lN keep
  have hyl := cints_len y
  rw [hy] at hyl
  have hs5 := signs_length (octs B1)
  rw [octs_length] at hs5
  have ev := unp_high (tT' := tT) (tB' := tB) (tk' := tk) hP (by omega) hc hl hy
  clear lF lN keep
  k_steps
  (rename Fr _ _ _ _ => lF)
  (rename News _ _ _ _ => lN)
  try dsimp only at lF lN
  obtain ⟨ev0, ev1, ev2, ev3⟩ := ev
  exact ksw_end ⟨_, _, _, _, _, _⟩ lF lN (fun p hp => .tail _ hp) trivial (List.forall_mem_cons.mpr ⟨rfl, List.forall_mem_cons.mpr ⟨rfl, List.forall_mem_cons.mpr ⟨rfl, List.forall_mem_nil _⟩⟩⟩) (by walk_at "mine same") ⟨ev0, ev1, ev2, ev3⟩ (by dsimp only; omega)))
set_option maxHeartbeats 8000000 in
theorem unq_tells (w : World) (s₀ : Shared) (mg mb : Str → Option Value) : ∀ d, TellsN PySem.Challenge.rw_ep5032_01.row.prog w (Mine.hd.heap_39 w.params) Mine.hd.view_39 (looseW Mine.hd.view_39 []) (ExcName.means s₀.heap) mg mb 21 unqT d := by
  w_on
  k_fill
  intro d
  unfold TellsN
  intro dp un gd cn cs a ccd cl outer A₀ base h₀ L m news s vs Q E B F X N T hk hR hok hd hu hret
  cases hR
  rename_i t0 hln
  refine wpAny_call ?_
  k_dflt ktr_enter
  k_steps
  unfold Stop
  (rename Fr _ _ _ _ => lF')
  (rename News _ _ _ _ => lN')
  try dsimp only at lF' lN' ⊢
  refine ksw_while (σ := UnSt) (fun c => news) (fun c => [(Str.ofString "told", .str c.T c.tT), (Str.ofString "octets", .bytes c.B c.tB), (Str.ofString "k", .int c.k c.tk)]) (fun c => True) []
    (UnP d) (fun c => (d.length - c.k).toNat) ⟨Str.ofString "", _, #[], _, 0, _⟩ lF' (fun p hp => lN' p (.tail _ hp)) trivial
    (List.forall_mem_cons.mpr ⟨rfl, List.forall_mem_cons.mpr ⟨rfl, List.forall_mem_cons.mpr ⟨rfl, List.forall_mem_nil _⟩⟩⟩) ⟨Int.le_refl _, by dsimp only; omega, Nat.le_refl _, rfl⟩ ?_
  clear lF' lN'
  rintro ⟨T1, tT, B1, tB, k, tk⟩ u h2 tk2 _ hP F2 N2
  obtain ⟨hk0, hkl, hTl, _⟩ := id hP
  have kM : KstMark := kstMark
  dsimp only at hk0 hkl hTl F2 N2
  k_steps
  · -- a whole percent
    unfold Stop
    (rename Fr _ _ _ _ => lF)
    (rename News _ _ _ _ => lN)
    (rename CodeAt d k _ => hc)
    (rename CodeAt d (k + 1) _ => ha)
    (rename CodeAt d (k + 2) _ => hb)
    (rename k + 2 < _ => hk2)
    (rename _ = 37 => e37)
    have ev := unp_hex (tB' := tB) (tk' := tk) hP hk2 hc e37 ha (by assumption) hb (by assumption)
    refine slice_strN_ss (hsz := ?hsz) (s := ⟨_, _, _, _, _⟩) lF lN ?_
    case hsz => rw [sizeLine_eq]; omega
    clear lF lN
    intro h5 t5 k5 F5 N5
    rw [slice_two hk0 hk2 ha hb]
    k_steps
    unfold Stop
    (rename IsHex _ => hb1)
    have hb2 := hb1.ok
    clear hb1
    (rename IsHex _ => ha1)
    have ha2 := ha1.ok
    clear ha1
    refine my_hex ha2 hb2 ?_
    intro t6 k6
    have v1 := hexV_lt ha2
    have v2 := hexV_lt hb2
    k_steps
    walk_at "mine byte"
  · walk_at "mine low"
  · walk_at "mine low"
  · walk_at "mine low"
  · walk_at "mine low"
  · walk_at "mine high"
  · -- the end of the text
    unfold Stop
    (rename Fr _ _ _ _ => lF)
    (rename News _ _ _ _ => lN)
    (rename ¬ k < _ => hkk)
    refine decode_rep (by omega) ?_
    intro y h5 t5 k5 keep hy
    have F5 := fr_keeps lF keep
    have N5 := news_keeps lN keep
    have hyl := cints_len y
    rw [hy] at hyl
    have hs5 := signs_length (octs B1)
    rw [octs_length] at hs5
    clear lF lN keep
    k_steps
    (rename News _ _ _ _ => lN)
    refine hret _ [] _ _ (by k_asm) (by rw [List.append_nil]; exact lN) (fun _ _ _ hp => nomatch hp) trivial ⟨_, _, rfl, ?_, ?_⟩
    · obtain ⟨_, _, _, p3⟩ := hP
      dsimp only at p3
      rw [List.drop_eq_nil_of_le (by rw [cod_len]; omega)] at p3
      rw [← p3, cints_append, hy]
      rfl
    · rw [Str.length_append]; omega
end Mine
end

section
open PySem PySem.W PyProof.Rows PySem.Spec PySem.Calls
namespace Mine
/-- the source of a list of what is told of each sign of a text -/
def SrcS (prog : Program) (w : World) (A : Around) (h₀ : Heap) (L : Addr) (m : Str → Option Value) (env : Env) (elt : Expr) (x : Str) (scope : Scope) (cl : List (Str × Addr)) (Fin : Shared → List Value → List (Addr × Obj) → Prop) (xv : Value) (s₁ : Shared) : Prop :=
  ∃ y t news, xv = .str y t ∧ A.handled = none ∧ Fr h₀ L s₁.heap m ∧ News h₀ L s₁.heap news ∧ y.length ≤ sizeLine ∧
    ∀ s₂ : Shared, (∃ h, s₂ = { s₁ with heap := h }) → LCg.CompRest prog w A h₀ L m env elt x scope cl s₂ (fun _ => True) (SignAt y) (Fin s₂) y.cps.size 0 [] news
section
variable {prog : Program} {w : World} {A : Around} {E : Value → Shared → Prop} {s : Shared} {h₀ : Heap} {L : Addr} {m : Str → Option Value} {env : Env}
theorem iter_str {x : Str} {t : Tok} {Q : Value → Shared → Prop}
    (hQ : ∀ (o : Obj) (St : Nat → Heap → Prop), (∀ A' : Around, A'.handled = none → Walks prog w A' s.heap.objs.size [s.heap.objs.size] [s.heap.objs.size] x.cps.size (SignAt x) St) → (∀ i h, St i h → ∃ o, h.get? s.heap.objs.size = some o) → St 0 (s.heap.push o) →
      Q (.ref s.heap.objs.size) { s with heap := s.heap.push o }) : wpAny (model prog w) A (pyIter (.str x t)) Q E s := by
  cases ha : x.cps.all (· < 128)
  · exact wpAny_pyIter_wide ha (hQ _ _ (fun A' hA => Walks.strWide hA _ x t) (fun i h st => let ⟨o, ho, _⟩ := st; ⟨o, ho⟩) ⟨_, Heap.get?_push_size _ rfl, rfl, rfl⟩)
  · exact wpAny_pyIter_ascii ha (hQ _ _ (fun A' hA => Walks.strAscii hA _ x t) (fun i h st => let ⟨o, ho, _⟩ := st; ⟨o, ho⟩) ⟨_, Heap.get?_push_size _ rfl, rfl, rfl⟩)
theorem ListComp_S {elt iter : Expr} {x : Str} {px : Pos} {scope : Scope} {cl : List (Str × Addr)} {pos : Pos} {Q : Value → Shared → Prop} (F₀ : Fr h₀ L s.heap m)
    (hclos : closureFor scope env = pure cl) (hcell : ∀ y ∈ scope.names, y.2 ≠ .cell) (hkind : scope.kind = .function)
    (hnames : ∀ y ∈ scope.names, y.2 = .local → scope.names.lookup y.1 = some .local) (hx : scope.names.lookup x = some .local)
    (h : wpAny (model prog w) A (eval iter env) (SrcS prog w A h₀ L m env elt x scope cl (fun s₂ => LCg.FinE h₀ L m s₂ Q)) E s)
    (hs : ∀ x, foldedSetIterable iter env x = pure x := by intro _; rfl) :
    wpAny (model prog w) A (eval (.ListComp elt [⟨.Name x px, iter, [], 0⟩] scope pos) env) Q E s := by
  rw [eval_ListComp]
  refine wpAny_comprehension_free (use := none) rfl hs hclos hkind hnames (wpAny_mono h (fun xv s₁ h₁ => ?_) fun _ _ e => e)
  obtain ⟨y, t, news, rfl, hh, F, N, hsz, R⟩ := h₁
  refine iter_str fun o' St W hIo st => ?_
  have up : ∀ b o, s₁.heap.get? b = some o → (s₁.heap.push o').get? b = some o := fun b o e => Heap.get?_push_of_some _ e
  refine LCg.block_U (W A hh) hsz hIo (fun i h h' o nw st e1 e2 _ _ _ => (W A hh).frame _ _ _ st fun b hb o2 e3 => ?_) hcell hkind hx st (fun b hb => ?_)
    (F.keeps up) (N.grown up) (Nat.ne_of_lt F.ns.lt) (next_is_new F) (fun p hp => Nat.ne_of_lt (Heap.lt_size (N p hp).1)) trivial (R _ ⟨_, rfl⟩) ?_
  · rw [List.mem_singleton.mp hb] at e3 ⊢
    rw [e1] at e3
    rw [e2, e3]
  · rw [List.mem_singleton.mp hb]
    show s₁.heap.objs.size < (s₁.heap.push _).objs.size
    rw [Heap.size_push]
    exact Nat.lt_succ_self _
  · intro D C h tk m' ys news' F' N' o1 hn hC₀ hD₀ hCL hDL hCD offC fin
    refine ⟨m', hn, fun h'' hs'' => fin D h'' tk (F'.change hs'' hCL hC₀) (fun p hp => ?_) o1⟩
    refine ⟨hs''.extBut _ _ ?_ (N' p hp).1, (N' p hp).2⟩
    rcases List.mem_cons.mp hp with rfl | hp
    · exact Ne.symm hCD
    · exact offC p hp
theorem comp_codes {elt : Expr} {x : Str} {scope : Scope} {cl : List (Str × Addr)} {Fin : List Value → List (Addr × Obj) → Prop} {news : List (Addr × Obj)} {y : Str}
    (turn : ∀ (c : Nat) t I oI C oC D m₂ ys h tk (E' : Value → Shared → Prop), LCg.NsObj oC m₂ → m₂ x = some (.str (sg c) t) → Fr h₀ L h m → News h₀ L h ((I, oI) :: (C, oC) :: (D, LCg.lst ys) :: news) → LCg.Off3 I C D news → ((@Ne Nat I C) ∧ (@Ne Nat I D) ∧ (@Ne Nat C D)) →
      wpAny (model prog w) A (eval elt (compEnvC scope cl C env)) (LCg.CompEnd h₀ L m { s with heap := h, toks := tk } I oI C oC D (LCg.lst ys) (fun _ => True) (fun v news' => news' = news ∧ ∃ t : Tok, v = .int c t)) E' { s with heap := h, toks := tk })
    (fin : ∀ ys, IntsAre ys (y.cps.toList.map fun (c : Nat) => (c : Int)) → Fin ys news) : LCg.CompRest prog w A h₀ L m env elt x scope cl s (fun _ => True) (SignAt y) Fin y.cps.size 0 [] news := by
  have key : ∀ (j i : Nat) (ys : List Value), i + j = y.cps.size → IntsAre ys ((y.cps.toList.take i).map fun (c : Nat) => (c : Int)) → LCg.CompRest prog w A h₀ L m env elt x scope cl s (fun _ => True) (SignAt y) Fin j i ys news := by
    intro j
    induction j with
    | zero =>
      intro i ys hi hy
      have e : i = y.cps.toList.length := by simp only [Array.length_toList]; omega
      subst e
      rw [List.take_length] at hy
      exact LCg.CompRest.zero (fin ys hy)
    | succ j ih =>
      intro i ys hi hy
      refine LCg.CompRest.succ ?_
      intro v I oI C oC D m₂ h tk E' hv hC hx F N off ne
      obtain ⟨c, u, hc, hv'⟩ := hv
      rw [hv'] at hx
      refine wpAny_mono (turn c u I oI C oC D m₂ ys h tk E' hC hx F N off ne) (fun z s₂ hq => ?_) fun _ _ e => e
      obtain ⟨h', tk', nw, e, F', N', off', hS, hn, t', hy'⟩ := hq
      rw [hn] at N' off'
      refine ⟨h', tk', news, e, F', N', off', hS, ?_⟩
      rw [hy']
      refine ih (i + 1) _ (by omega) ?_
      have hc2 : y.cps.toList[i]? = some c := by simpa using hc
      rw [List.take_add_one, hc2]
      simpa using IntsAre.append hy (.cons (c : Int) t' .nil)
  exact key _ 0 [] (by omega) (by simp only [List.take_zero, List.map_nil]; exact .nil)
end
end Mine
end

section
open PySem PySem.W PyProof.Rows PySem.Spec PySem.Calls
open Mine
local macro_rules | `(tactic| walk_at "call ref") => `(tactic| refine Stop.mk ?_)
local macro_rules | `(tactic| walk_at "eval ListComp") => `(tactic| refine Stop.mk ?_)
local macro_rules | `(tactic| walk_at "call builtin:ord") => `(tactic| k_dflt (refine my_ord ?_; intro _ _))
local macro_rules | `(tactic| walk_at "CompEnd") => `(tactic| refine Stop.mk ?_)
set_option maxHeartbeats 8000000 in
theorem PySem.Challenge.cw_ep5032_01_holds : PySem.Challenge.rw_ep5032_01.Holds := by
  refine Mine.hd ?_
  w_on
  w_strict (k_go0; (all_goals try k_fold); k_steps; (
    unfold Stop
    (rename PySem.Heap.IsList _ _ _ => hL)
    (rename IntsAre _ _ => hI)
    (rename Fr _ _ _ _ => lF)
    (rename News _ _ _ _ => lN)
    (rename ¬ ((63 : Nat) : Int) < _ => h63)
    refine built_tells _ _ _ _ _ _ _ _ _ _ _ _ _ _ _ _ _ _ _ _ _ _ _ _ _ (by k_asm) lF (by k_asm) lN (by k_asm) rfl ?_ ?_ hL hI (by omega) ?_
    · ktr_room
    · ktr_units
    intro r nw h1 tk1 F1 N1 hsub ho
    clear lF lN
    obtain ⟨a1, x, t, b1, us, n, units, rfl, hm1, hm2, hus, hsc, hxl, hul, hub⟩ := ho
    have N2 := news_top (news_top N1 hm2) (.tail _ hm1)
    clear N1
    k_steps
    unfold Stop
    (rename Fr _ _ _ _ => lF)
    (rename News _ _ _ _ => lN)
    refine tellsW_use (by k_asm) lF (by k_asm) lN (by k_asm) rfl (TxtArg.mk hxl) (unq_tells _ _ _ _ _) trivial ?_ ?_ ?_
    · ktr_room
    · ktr_units
    intro r2 nw2 h2 tk2 F2 N2 hsub2 ho2
    clear lF lN
    obtain ⟨y, ty, rfl, hy, hyl⟩ := ho2
    have N3 := news_top N2 (hsub2 _ (.tail _ (.head _)))
    rw [hsc] at hy
    clear N2
    k_steps
    unfold Stop
    (rename Fr _ _ _ _ => lF)
    refine ListComp_S lF (by rfl) (by decide) (by rfl) (by decide) (by rfl) ?_
    k_steps
    (rename Fr _ _ _ _ => lF)
    (rename News _ _ _ _ => lN)
    refine ⟨y, ty, _, rfl, rfl, lF, lN, by rw [sizeLine_eq]; omega, ?_⟩
    clear lF lN
    rintro s5 ⟨h5, rfl⟩
    refine comp_codes ?_ ?_
    · intro c tc I' oI' C' oC' D' m' ys' h' tk' E' hC' hx' F' N' off' ne'
      k_steps
      exact LCg.CompEnd.intro F' N' _ (fun _ hp => hp) off' trivial ⟨rfl, _, rfl⟩
    · intro ys hys D6 h6 tk6 F6 N6 off6
      rw [show (y.cps.toList.map fun (c : Nat) => (c : Int)) = readGo [] units from hy] at hys
      clear off6
      k_steps
      unfold Stop
      (rename Fr _ _ _ _ => lF)
      (rename News _ _ _ _ => lN)
      refine tellsW_use (by k_asm) lF (by k_asm) lN (by k_asm) rfl (RowArg.mk (.tail _ (.head _)) hus (fun o ho => (hub o ho).1) (by omega)) (read_tells _ _ _ _ _) trivial ?_ ?_ ?_
      · ktr_room
      · ktr_units
      intro r7 nw7 h7 tk7 F7 N7 hsub7 ho7
      obtain ⟨ra, ru, rn, rfl, hrm, hru⟩ := ho7
      have N8 := news_top (news_top N7 (hsub7 _ (.head _))) (.tail _ hrm)
      clear N7 lF lN
      k_steps))
end
