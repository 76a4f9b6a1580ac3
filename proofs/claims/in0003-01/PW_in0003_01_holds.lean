import PyProof.Rows.All
import Wide.All
import OpenK.AllK
import Wide.FinOn
import PySem.Challenge.RW_in0003_01
set_option Elab.async false
set_option rowWalk.seconds 0
section
open PySem PySem.W PySem.W.X PyProof.Rows
set_option maxRecDepth 100000
set_option maxHeartbeats 8000000
open_top hd for PySem.Challenge.rw_in0003_01
end
section
open PySem PySem.W
set_option linter.unusedVariables false
namespace Mine
def codeZ (c : Int) : Int :=
  if c.fmod 4 = 3 then ([3 + 256 * c.fdiv 16, 3 + 128 * c.fdiv 16, 127 + 128 * c.fdiv 16, c.fdiv 16].getD ((c.fdiv 4).fmod 4).toNat 0).fmod 55296
  else [3 + 256 * c.fdiv 16, 3 + 128 * c.fdiv 16, 127 + 128 * c.fdiv 16, c.fdiv 16].getD ((c.fdiv 4).fmod 4).toNat 0
def markOf (m : Int) : PySem.Str := if 32 ≤ m ∧ m ≤ 126 then ⟨#[m.toNat]⟩ else Str.ofString "^" ++ ⟨#[(if m < 32 then m + 64 else 159).toNat]⟩
def textOf (c : Int) : PySem.Str :=
  if c = 127 then Str.ofString "^?" else if c % 256 > 127 then Str.ofString "!" ++ markOf (c % 128) else markOf (c % 128)
theorem natAnd128 (n : Nat) : n &&& 128 = 128 * (n / 128 % 2) := by
  have h1 : (n &&& 128) >>> 7 = (n >>> 7) &&& (128 >>> 7) := Nat.shiftRight_and_distrib
  have h2 : (n &&& 128) % 2 ^ 7 = (n % 2 ^ 7) &&& (128 % 2 ^ 7) := Nat.and_mod_two_pow
  rw [Nat.shiftRight_eq_div_pow, Nat.shiftRight_eq_div_pow, show (128 : Nat) >>> 7 = 1 from rfl, Nat.and_one_is_mod] at h1
  rw [show (128 : Nat) % 2 ^ 7 = 0 from rfl, Nat.and_zero] at h2
  rw [show (2 : Nat) ^ 7 = 128 from rfl] at h1 h2
  omega
theorem bitAnd128 (x : Int) : Builtin.bitAnd x 128 = 128 * (x / 128 % 2) := by
  unfold Builtin.bitAnd
  by_cases hx : 0 ≤ x
  · simp only [hx, decide_true, show (0 : Int) ≤ 128 from by decide]
    obtain ⟨n, rfl⟩ := Int.eq_ofNat_of_zero_le hx
    show ((n &&& 128 : Nat) : Int) = _
    rw [natAnd128]
    omega
  · simp only [hx, decide_false, decide_true, show (0 : Int) ≤ 128 from by decide]
    have e : ∃ n : Nat, (Builtin.bitNot x).toNat = n ∧ x = -(n : Int) - 1 := by
      refine ⟨_, rfl, ?_⟩
      unfold Builtin.bitNot
      omega
    obtain ⟨n, e1, e2⟩ := e
    rw [e1]
    show (128 : Int) - ((128 &&& n : Nat) : Int) = _
    rw [Nat.and_comm, natAnd128, e2]
    omega
theorem and128_pos {x : Int} (h : Builtin.bitAnd x 128 ≠ 0) : x % 256 > 127 := by rw [bitAnd128] at h; omega
theorem and128_zero {x : Int} (h : Builtin.bitAnd x 128 = 0) : ¬ x % 256 > 127 := by rw [bitAnd128] at h; omega
theorem or32 (m : Int) (h0 : 0 ≤ m) (h1 : m < 128) (h2 : ¬ (32 ≤ m ∧ m ≤ 126)) : Builtin.bitOr m 32 + 32 = if m < 32 then m + 64 else 159 := by
  obtain ⟨n, rfl⟩ := Int.eq_ofNat_of_zero_le h0
  have hn : n < 32 ∨ n = 127 := by omega
  have all : ∀ k : Fin 32, Builtin.bitOr ((k.val : Nat) : Int) 32 + 32 = (k.val : Int) + 64 := by decide +kernel
  rcases hn with hn | rfl
  · rw [if_pos (by omega)]; exact all ⟨n, hn⟩
  · decide +kernel
theorem or32_range (c : Int) : 0 ≤ Builtin.bitOr (Builtin.bitAnd c 127) 32 + 32 ∧ Builtin.bitOr (Builtin.bitAnd c 127) 32 + 32 ≤ 1114111 := by
  rw [PyProof.Rows.bitAnd_m7]
  obtain ⟨n, hn⟩ := Int.eq_ofNat_of_zero_le (Int.emod_nonneg c (b := 128) (by decide))
  have h1 : c % 128 < 128 := Int.emod_lt_of_pos _ (by decide)
  have hlt : n < 128 := by omega
  have all : ∀ k : Fin 128, 0 ≤ Builtin.bitOr ((k.val : Nat) : Int) 32 + 32 ∧ Builtin.bitOr ((k.val : Nat) : Int) 32 + 32 ≤ 1114111 := by decide +kernel
  rw [hn]; exact all ⟨n, hlt⟩
theorem mark_in {c : Int} (h1 : 32 ≤ Builtin.bitAnd c 127) (h2 : Builtin.bitAnd c 127 ≤ 126) : (⟨#[(Builtin.bitAnd c 127).toNat]⟩ : PySem.Str) = markOf (c % 128) := by
  rw [PyProof.Rows.bitAnd_m7] at *
  unfold markOf
  rw [if_pos ⟨h1, h2⟩]
theorem mark_out {c : Int} (h : ¬ (32 ≤ Builtin.bitAnd c 127 ∧ Builtin.bitAnd c 127 ≤ 126)) : Str.ofString "^" ++ (⟨#[(Builtin.bitOr (Builtin.bitAnd c 127) 32 + 32).toNat]⟩ : PySem.Str) = markOf (c % 128) := by
  rw [PyProof.Rows.bitAnd_m7] at *
  unfold markOf
  rw [if_neg h, or32 _ (Int.emod_nonneg c (by decide)) (Int.emod_lt_of_pos _ (by decide)) h]
theorem text_127 {c : Int} (h : c = 127) : Str.ofString "^?" = textOf c := by unfold textOf; rw [if_pos h]
theorem text_127b {c : Int} {v : PySem.Str} (h : c = 127) (hb : c % 256 > 127) : v = textOf c := by subst h; exact absurd hb (by decide)
theorem text_in_b {c : Int} (h : c ≠ 127) (h1 : 32 ≤ Builtin.bitAnd c 127) (h2 : Builtin.bitAnd c 127 ≤ 126) (hb : c % 256 > 127) : Str.ofString "!" ++ (⟨#[(Builtin.bitAnd c 127).toNat]⟩ : PySem.Str) = textOf c := by
  unfold textOf; rw [if_neg h, if_pos hb, mark_in h1 h2]
theorem text_in {c : Int} (h : c ≠ 127) (h1 : 32 ≤ Builtin.bitAnd c 127) (h2 : Builtin.bitAnd c 127 ≤ 126) (hb : ¬ c % 256 > 127) : (⟨#[(Builtin.bitAnd c 127).toNat]⟩ : PySem.Str) = textOf c := by
  unfold textOf; rw [if_neg h, if_neg hb, mark_in h1 h2]
theorem text_hi_b {c : Int} (h : c ≠ 127) (h2 : ¬ Builtin.bitAnd c 127 ≤ 126) (hb : c % 256 > 127) : Str.ofString "!" ++ (Str.ofString "^" ++ (⟨#[(Builtin.bitOr (Builtin.bitAnd c 127) 32 + 32).toNat]⟩ : PySem.Str)) = textOf c := by
  unfold textOf; rw [if_neg h, if_pos hb, mark_out fun x => h2 x.2]
theorem text_hi {c : Int} (h : c ≠ 127) (h2 : ¬ Builtin.bitAnd c 127 ≤ 126) (hb : ¬ c % 256 > 127) : (Str.ofString "^" ++ (⟨#[(Builtin.bitOr (Builtin.bitAnd c 127) 32 + 32).toNat]⟩ : PySem.Str)) = textOf c := by
  unfold textOf; rw [if_neg h, if_neg hb, mark_out fun x => h2 x.2]
theorem text_lo_b {c : Int} (h : c ≠ 127) (h2 : ¬ 32 ≤ Builtin.bitAnd c 127) (hb : c % 256 > 127) : Str.ofString "!" ++ (Str.ofString "^" ++ (⟨#[(Builtin.bitOr (Builtin.bitAnd c 127) 32 + 32).toNat]⟩ : PySem.Str)) = textOf c := by
  unfold textOf; rw [if_neg h, if_pos hb, mark_out fun x => h2 x.1]
theorem text_lo {c : Int} (h : c ≠ 127) (h2 : ¬ 32 ≤ Builtin.bitAnd c 127) (hb : ¬ c % 256 > 127) : (Str.ofString "^" ++ (⟨#[(Builtin.bitOr (Builtin.bitAnd c 127) 32 + 32).toNat]⟩ : PySem.Str)) = textOf c := by
  unfold textOf; rw [if_neg h, if_neg hb, mark_out fun x => h2 x.1]
theorem sh_in {x : PySem.Str} {c : Int} (hx : ∀ k : Fin 32, PySem.Txt.item x ((k.val : Nat) : Int) = ⟨#[k.val + 64]⟩) (h : c.fmod 128 < 32) : Str.ofString "^" ++ PySem.Txt.item x (c.fmod 128) = markOf (c % 128) := by
  rw [Int.fmod_eq_emod_of_nonneg _ (by decide)] at *
  obtain ⟨n, hn⟩ := Int.eq_ofNat_of_zero_le (Int.emod_nonneg c (b := 128) (by decide))
  rw [hn] at h ⊢
  unfold markOf
  rw [if_neg (by omega), if_pos h]
  have := hx ⟨n, by omega⟩
  rw [this]
  congr 3
theorem sh_mid {c : Int} (h : ¬ c.fmod 128 < 32) (h2 : c.fmod 128 ≠ 127) : (⟨#[(c.fmod 128).toNat]⟩ : PySem.Str) = markOf (c % 128) := by
  rw [Int.fmod_eq_emod_of_nonneg _ (by decide)] at *
  have := Int.emod_lt_of_pos c (b := 128) (by decide)
  unfold markOf
  rw [if_pos (by omega)]
theorem sh_del {x : PySem.Str} {c : Int} (hx : x = Str.ofString "^" ++ ⟨#[159]⟩) (h2 : c.fmod 128 = 127) : x = markOf (c % 128) := by
  rw [Int.fmod_eq_emod_of_nonneg _ (by decide)] at *
  rw [h2, hx]; decide +kernel
theorem sh_b {v : PySem.Str} {c : Int} (e : v = markOf (c % 128)) (h : c ≠ 127) (hb : 127 < c.fmod 256) : Str.ofString "!" ++ v = textOf c := by
  rw [Int.fmod_eq_emod_of_nonneg _ (by decide)] at hb
  unfold textOf; rw [if_neg h, if_pos hb, e]
theorem sh_n {v : PySem.Str} {c : Int} (e : v = markOf (c % 128)) (h : c ≠ 127) (hb : ¬ 127 < c.fmod 256) : v = textOf c := by
  rw [Int.fmod_eq_emod_of_nonneg _ (by decide)] at hb
  unfold textOf; rw [if_neg h, if_neg hb, e]
theorem sh_127 {v : PySem.Str} {c : Int} (h : c = 127) (hb : 127 < c.fmod 256) : v = textOf c := by subst h; exact absurd hb (by decide)
theorem sh_abs {v : PySem.Str} {c : Int} (h1 : c.fmod 128 < 32) (h : c.fmod 128 = 127) : v = textOf c := by omega
theorem sh_abs2 {v : PySem.Str} {c : Int} (h1 : c.fmod 128 < 32) (h : c = 127) : v = textOf c := by subst h; exact absurd h1 (by decide)
theorem sh_abs3 {v : PySem.Str} {c : Int} (h1 : c.fmod 128 ≠ 127) (h : c = 127) : v = textOf c := by subst h; exact absurd rfl h1
end Mine
end
section
open PySem PySem.W
set_option linter.unusedVariables false
namespace Mine
/-- a row of the table: what it is under, its text, whether it is frozen -/
structure Row where
  up : Int
  text : PySem.Str
  cold : Bool
abbrev Table := List Row
def isUnder (t : Table) (a : Nat) (k : Nat) : Bool := match t[k]? with | some r => r.up == (a : Int) | none => false
def under (t : Table) (a : Nat) : List Nat := (List.range t.length).filter (isUnder t a)
def textAt (t : Table) (k : Nat) : PySem.Str := match t[k]? with | some r => r.text | none => ⟨#[]⟩
def coldAt (t : Table) (k : Nat) : Bool := match t[k]? with | some r => r.cold | none => false
def known (t : Table) (a : Nat) (x : PySem.Str) : List Nat := (under t a).filter fun k => textAt t k == x
def chill (t : Table) (a : Nat) : Table := match t[a]? with | some r => t.set a { r with cold := true } | none => t
def grow (t : Table) (a : Nat) (x : PySem.Str) : Table := t ++ [⟨if coldAt t a then -1 else (a : Int), x, false⟩]
def turn (s : Table × Nat) (cell : Int) : Table × Nat :=
  if cell.fmod 4 = 0 then (s.1, 0)
  else if cell.fmod 4 = 1 then (chill s.1 s.2, s.2)
  else match known s.1 s.2 (textOf (codeZ cell)) with
    | k :: _ => (s.1, k)
    | [] => (grow s.1 s.2 (textOf (codeZ cell)), s.1.length)
def toldOf (s : Table × Nat) : Dat := .tuple [.list [.int s.2], .list ((under s.1 s.2).map fun k => .str (textAt s.1 k))]
def run : Table × Nat → List Int → (Table × Nat) × List Dat
  | s, [] => (s, [])
  | s, c :: cs => let s' := turn s c; let r := run s' cs; (r.1, toldOf s' :: r.2)
def endOf (t : Table) : Dat := .list ((List.range t.length).map fun one => .list ((under t one).map fun k => .tuple [.str (textAt t k), .list [.int k]]))
def start : Table × Nat := ([⟨-1, ⟨#[]⟩, false⟩], 0)
def answer (cells : List Int) : Dat := let r := run start cells; .tuple [.list r.2, endOf r.1.1]
theorem run_snoc : ∀ (xs : List Int) (s : Table × Nat) (c : Int), run s (xs ++ [c]) = (turn (run s xs).1 c, (run s xs).2 ++ [toldOf (turn (run s xs).1 c)])
  | [], s, c => rfl
  | x :: xs, s, c => by
    show ((run (turn s x) (xs ++ [c])).1, toldOf (turn s x) :: (run (turn s x) (xs ++ [c])).2) = _
    rw [run_snoc xs (turn s x) c]
    rfl
theorem chill_len (t : Table) (a : Nat) : (chill t a).length = t.length := by
  unfold chill
  split
  · simp
  · rfl
theorem grow_len (t : Table) (a : Nat) (x : PySem.Str) : (grow t a x).length = t.length + 1 := by simp [grow]
theorem mem_under {t : Table} {a k : Nat} (h : k ∈ under t a) : k < t.length := List.mem_range.mp (List.mem_filter.mp h).1
theorem mem_known {t : Table} {a k : Nat} {x : PySem.Str} (h : k ∈ known t a x) : k < t.length := mem_under (List.mem_filter.mp h).1
theorem under_len (t : Table) (a : Nat) : (under t a).length ≤ t.length := by
  have := List.length_filter_le (isUnder t a) (List.range t.length)
  rw [List.length_range] at this
  exact this
theorem known_len (t : Table) (a : Nat) (x : PySem.Str) : (known t a x).length ≤ t.length := Nat.le_trans (List.length_filter_le _ _) (under_len t a)
theorem turn_lt {s : Table × Nat} (h : s.2 < s.1.length) (c : Int) : (turn s c).2 < (turn s c).1.length := by
  unfold turn
  split
  · show 0 < s.1.length; omega
  · split
    · show s.2 < (chill s.1 s.2).length; rw [chill_len]; exact h
    · split
      · next k r e => exact mem_known (t := s.1) (a := s.2) (x := textOf (codeZ c)) (by rw [e]; exact .head _)
      · show s.1.length < (grow _ _ _).length; rw [grow_len]; omega
theorem turn_len (s : Table × Nat) (c : Int) : (turn s c).1.length ≤ s.1.length + 1 := by
  unfold turn
  split
  · show s.1.length ≤ _; omega
  · split
    · show (chill s.1 s.2).length ≤ _; rw [chill_len]; omega
    · split
      · show s.1.length ≤ _; omega
      · show (grow _ _ _).length ≤ _; rw [grow_len]; omega
theorem run_len : ∀ (xs : List Int) (s : Table × Nat), (run s xs).1.1.length ≤ s.1.length + xs.length
  | [], s => Nat.le_refl _
  | x :: xs, s => by
    have h1 := run_len xs (turn s x)
    have h2 := turn_len s x
    show (run (turn s x) xs).1.1.length ≤ _
    rw [List.length_cons]; omega
theorem run_dlen : ∀ (xs : List Int) (s : Table × Nat), (run s xs).2.length = xs.length
  | [], _ => rfl
  | x :: xs, s => by
    show (toldOf (turn s x) :: (run (turn s x) xs).2).length = _
    rw [List.length_cons, List.length_cons, run_dlen xs]
end Mine
end
section
open PySem PySem.W
set_option linter.unusedVariables false
namespace Mine
theorem isUnder_left {t : Table} {r : Row} {a k : Nat} (h : k < t.length) : isUnder (t ++ [r]) a k = isUnder t a k := by
  unfold isUnder; rw [List.getElem?_append_left h]
theorem isUnder_last {t : Table} {r : Row} {a : Nat} : isUnder (t ++ [r]) a t.length = (r.up == (a : Int)) := by
  unfold isUnder; rw [List.getElem?_append_right (Nat.le_refl _)]; simp
theorem under_snoc (t : Table) (r : Row) (a : Nat) : under (t ++ [r]) a = under t a ++ (if r.up = (a : Int) then [t.length] else []) := by
  unfold under
  rw [List.length_append, List.length_singleton, List.range_succ, List.filter_append]
  congr 1
  · exact List.filter_congr fun k hk => isUnder_left (List.mem_range.mp hk)
  · by_cases h : r.up = (a : Int)
    · rw [if_pos h, List.filter_cons_of_pos (by rw [isUnder_last]; simpa using h)]; rfl
    · rw [if_neg h, List.filter_cons_of_neg (by rw [isUnder_last]; simpa using h)]; rfl
theorem textAt_left {t : Table} {r : Row} {k : Nat} (h : k < t.length) : textAt (t ++ [r]) k = textAt t k := by
  unfold textAt; rw [List.getElem?_append_left h]
theorem textAt_last {t : Table} {r : Row} : textAt (t ++ [r]) t.length = r.text := by
  unfold textAt; rw [List.getElem?_append_right (Nat.le_refl _)]; simp
theorem coldAt_left {t : Table} {r : Row} {k : Nat} (h : k < t.length) : coldAt (t ++ [r]) k = coldAt t k := by
  unfold coldAt; rw [List.getElem?_append_left h]
theorem coldAt_last {t : Table} {r : Row} : coldAt (t ++ [r]) t.length = r.cold := by
  unfold coldAt; rw [List.getElem?_append_right (Nat.le_refl _)]; simp
/-- what is up of a row is ahead of the end -/
def UpLt (t : Table) : Prop := ∀ r ∈ t, r.up < (t.length : Int)
theorem under_end {t : Table} (h : UpLt t) : under t t.length = [] := by
  unfold under
  refine List.filter_eq_nil_iff.mpr fun k hk => ?_
  unfold isUnder
  cases e : t[k]? with
  | none => simp
  | some r =>
    have := h r (List.mem_of_getElem? e)
    simp only [beq_iff_eq]
    omega
theorem chill_get (t : Table) (a k : Nat) : (chill t a)[k]? = if k = a then t[k]?.map (fun r => { r with cold := true }) else t[k]? := by
  unfold chill
  cases e : t[a]? with
  | none =>
    by_cases h : k = a
    · subst h; rw [if_pos rfl]; simp [e]
    · rw [if_neg h]
  | some r =>
    show (t.set a _)[k]? = _
    by_cases h : k = a
    · subst h
      rw [if_pos rfl, e]
      have hlt : k < t.length := by
        rcases Nat.lt_or_ge k t.length with h9 | h9
        · exact h9
        · rw [List.getElem?_eq_none h9] at e; cases e
      rw [List.getElem?_set_self hlt]; rfl
    · rw [if_neg h, List.getElem?_set_ne (Ne.symm h)]
theorem isUnder_chill (t : Table) (a b k : Nat) : isUnder (chill t a) b k = isUnder t b k := by
  unfold isUnder
  rw [chill_get]
  by_cases h : k = a
  · rw [if_pos h]; cases t[k]? <;> rfl
  · rw [if_neg h]
theorem under_chill (t : Table) (a b : Nat) : under (chill t a) b = under t b := by
  unfold under
  rw [chill_len]
  exact List.filter_congr fun k _ => isUnder_chill t a b k
theorem textAt_chill (t : Table) (a k : Nat) : textAt (chill t a) k = textAt t k := by
  unfold textAt
  rw [chill_get]
  by_cases h : k = a
  · rw [if_pos h]; cases t[k]? <;> rfl
  · rw [if_neg h]
theorem coldAt_chill {t : Table} {a : Nat} (ha : a < t.length) (k : Nat) : coldAt (chill t a) k = if k = a then true else coldAt t k := by
  unfold coldAt
  rw [chill_get]
  by_cases h : k = a
  · subst h; rw [if_pos rfl, if_pos rfl, List.getElem?_eq_getElem ha]; rfl
  · rw [if_neg h, if_neg h]
/-- the pure invariant: texts under one node are all different -/
def TextsOk (t : Table) : Prop := ∀ a, ((under t a).map (textAt t)).Nodup
structure Good (s : Table × Nat) : Prop where
  up : UpLt s.1
  tx : TextsOk s.1
  lt : s.2 < s.1.length
theorem texts_left {t : Table} {r : Row} {a : Nat} : (under t a).map (textAt (t ++ [r])) = (under t a).map (textAt t) := List.map_congr_left fun k hk => textAt_left (mem_under hk)
theorem up_snoc {t : Table} {r : Row} (h : UpLt t) (hr : r.up < (t.length : Int) + 1) : UpLt (t ++ [r]) := fun q hq => by
  rw [List.length_append, List.length_singleton]
  rcases List.mem_append.mp hq with h1 | h1
  · have := h q h1; push_cast; omega
  · rw [List.mem_singleton.mp h1]; push_cast; exact hr
theorem texts_snoc {t : Table} {r : Row} (h : TextsOk t) (hn : ∀ a : Nat, r.up = (a : Int) → known t a r.text = []) : TextsOk (t ++ [r]) := fun a => by
  rw [under_snoc, List.map_append, texts_left]
  by_cases hu : r.up = (a : Int)
  · rw [if_pos hu]
    rw [List.nodup_append]
    refine ⟨h a, by simp, fun x hx y hy => ?_⟩
    simp only [List.map_cons, List.map_nil, List.mem_singleton] at hy
    rw [hy, textAt_last]
    rintro rfl
    obtain ⟨k, hk, e⟩ := List.mem_map.mp hx
    have : k ∈ known t a r.text := List.mem_filter.mpr ⟨hk, by rw [e]; simp⟩
    rw [hn a hu] at this
    cases this
  · rw [if_neg hu]
    simpa using h a
theorem up_chill {t : Table} {a : Nat} (h : UpLt t) : UpLt (chill t a) := fun r hr => by
  rw [chill_len]
  obtain ⟨k, hk, e⟩ := List.getElem_of_mem hr
  have e2 : (chill t a)[k]? = some r := by rw [List.getElem?_eq_getElem hk, e]
  rw [chill_get] at e2
  by_cases hka : k = a
  · rw [if_pos hka] at e2
    cases e3 : t[k]? with
    | none => rw [e3] at e2; cases e2
    | some q =>
      rw [e3] at e2; cases e2
      exact h q (List.mem_of_getElem? e3)
  · rw [if_neg hka] at e2
    exact h r (List.mem_of_getElem? e2)
theorem good_turn {s : Table × Nat} (g : Good s) (c : Int) : Good (turn s c) := by
  refine ⟨?_, ?_, turn_lt g.lt c⟩
  · unfold turn
    split
    · exact g.up
    · split
      · exact up_chill g.up
      · split
        · exact g.up
        · refine up_snoc g.up ?_
          have := g.lt
          dsimp only
          split <;> omega
  · unfold turn
    split
    · exact g.tx
    · split
      · intro a
        show ((under (chill s.1 s.2) a).map (textAt (chill s.1 s.2))).Nodup
        rw [under_chill, show textAt (chill s.1 s.2) = textAt s.1 from funext fun k => textAt_chill _ _ k]
        exact g.tx a
      · split
        · exact g.tx
        · next e =>
          refine texts_snoc g.tx fun a ha => ?_
          dsimp only at ha
          split at ha
          · omega
          · have : s.2 = a := by omega
            rw [← this]; exact e
theorem good_run : ∀ (xs : List Int) {s : Table × Nat}, Good s → Good (run s xs).1
  | [], _, g => g
  | x :: xs, s, g => good_run xs (good_turn g x)
theorem good_start : Good start := by
  refine ⟨fun r hr => ?_, fun a => ?_, by decide⟩
  · cases hr with
    | head => decide
    | tail _ h => cases h
  · have : under start.1 a = [] := by
      unfold under
      refine List.filter_eq_nil_iff.mpr fun k hk => ?_
      have hk0 : k = 0 := by have := List.mem_range.mp hk; have h1 : start.1.length = 1 := rfl; omega
      subst hk0
      show ¬ ((-1 : Int) == (a : Int)) = true
      simp only [beq_iff_eq]
      omega
    rw [this]; simp
end Mine
end
section
open PySem PySem.W PyProof.Rows PySem.Calls PySem.W.X
set_option maxRecDepth 100000
set_option maxHeartbeats 8000000
namespace Mine
abbrev P0 : Program := PySem.Challenge.rw_in0003_01.row.prog
theorem wpAny_le {α : Type} {M : Model} {t : Sem α} {Q : α → Shared → Prop} {E : Value → Shared → Prop} {s : Shared} {hn : Option Value} {d d' u u' : Nat} {fr : Option (List Env)} {gd : Option (List Code)}
    (h : wpAny M ⟨hn, d', fr, gd, u'⟩ t Q E s) (hd : d ≤ d') (hu : u ≤ u') : wpAny M ⟨hn, d, fr, gd, u⟩ t Q E s :=
  fun Γ p hΓ => h Γ p ⟨hΓ.1, Nat.le_trans hΓ.2.1 hd, hΓ.2.2.1, hΓ.2.2.2.1, Nat.le_trans hΓ.2.2.2.2 hu⟩
theorem codeAny_le {M : Model} {c : Code} {R : Result → Shared → Prop} {s : Shared} {hn : Option Value} {d d' u u' : Nat} {fr : Option (List Env)} {gd : Option (List Code)}
    (h : codeAny M ⟨hn, d', fr, gd, u'⟩ c R s) (hd : d ≤ d') (hu : u ≤ u') : codeAny M ⟨hn, d, fr, gd, u⟩ c R s :=
  fun Γ p hc hΓ => h Γ p hc ⟨hΓ.1, Nat.le_trans hΓ.2.1 hd, hΓ.2.2.1, hΓ.2.2.2.1, Nat.le_trans hΓ.2.2.2.2 hu⟩

/-- what x_run leaves, as a frame and a ledger -/
theorem fr_of_mem {h₀ h h' : Heap} {L : Addr} {m : Str → Option Value} {own : List (Addr × Obj)} (F : Fr h₀ L h m) (D : Mem h h' [] own) : Fr h₀ L h' m := by
  have k : ∀ b o, h.get? b = some o → h'.get? b = some o := fun b o e => D.keep b o e (by simp [away])
  exact F.kept k
theorem news_of_mem {h₀ h h' : Heap} {L : Addr} {m : Str → Option Value} {own news : List (Addr × Obj)} (F : Fr h₀ L h m) (N : News h₀ L h news) (D : Mem h h' [] own) : News h₀ L h' (own ++ news) := by
  have k : ∀ b o, h.get? b = some o → h'.get? b = some o := fun b o e => D.keep b o e (by simp [away])
  intro p hp
  rcases List.mem_append.mp hp with q | q
  · have z := D.nw p q
    refine ⟨z.1, fun e => ?_, ?_⟩
    · obtain ⟨oL, es, ep, hL, _⟩ := F.ns
      rw [e, hL] at z
      cases z.2
    · cases c : h₀.get? p.1 with
      | none => rfl
      | some o => rw [F.keep _ _ c] at z; cases z.2
  · exact ⟨k _ _ (N p q).1, (N p q).2⟩
theorem apart_of_mem {h₀ h h' : Heap} {L : Addr} {own news : List (Addr × Obj)} (N : News h₀ L h news) (D : Mem h h' [] own) {a : Addr} {o : Obj} (hm : (a, o) ∈ own) : ∀ p ∈ news, p.1 ≠ a := by
  intro p hp e
  have z := (D.nw _ hm).2
  rw [← e, (N p hp).1] at z
  cases z

/-- two addresses that differ, hidden from omega (it splits on each ≠) -/
def Apart (a b : Addr) : Prop := a ≠ b
theorem Apart.ne {a b : Addr} (h : Apart a b) : a ≠ b := h
theorem Apart.en {a b : Addr} (h : Apart a b) : b ≠ a := fun e => h e.symm
abbrev nodeObj (dx : Addr) (es : Array DictEntry) (n : Nat) (lam : Addr) : Obj := { cls := .ref 58, dict := some dx, data := .dict es n, slots := #[some (.ref lam)] }

section
variable {w : World} {lam : Addr} {name qual : Str} {params : Arguments} {body : Expr} {scope : Scope} {clos : List (Str × Addr)} {pm : Value} {c' : Addr} {ctv : Value}
  {d u : Nat} {fr : Option (List Env)} {gd : Option (List Code)} {s : Shared} {Q E : Value → Shared → Prop}
local macro_rules | `(tactic| x_close) => do let hq := Lean.mkIdent `hq; `(tactic| exact $hq _ _ _ (by assumption))
theorem mk_raw0 (X : (hd.heap_39 w.params).In s.heap)
    (ho : s.heap.get? lam = some { cls := .type "function", data := .func (kla_fn name qual params body scope clos pm (.ref c') ctv) })
    (hq : ∀ x dx h', Mem s.heap h' [] [(x, nodeObj dx #[] 0 lam), (dx, dictOf [] 0)] → Q (.ref x) ⟨h', s.gens, s.drawn, s.toks, s.os⟩) :
    wpAny (model P0 w) ⟨none, 600, fr, gd, 2000⟩ (call (.ref 58) [.ref lam]) Q E s := by
  w_top off
  x_run
theorem mk_K {h₀ : Heap} {L : Addr} {m : Str → Option Value} {news : List (Addr × Obj)} (F : Fr h₀ L s.heap m) (X₀ : (hd.heap_39 w.params).In h₀) (N : News h₀ L s.heap news)
    (hm : (lam, kla_obj name qual params body scope clos pm c' ctv) ∈ news) (hd : d ≤ 600) (hu : u ≤ 2000)
    (h : ∀ x dx h', Fr h₀ L h' m → News h₀ L h' ((x, nodeObj dx #[] 0 lam) :: (dx, dictOf [] 0) :: news) → (∀ p ∈ news, Apart p.1 x) → (∀ p ∈ news, Apart p.1 dx) → Apart dx x → Q (.ref x) { s with heap := h' }) :
    wpAny (model P0 w) ⟨none, d, fr, gd, u⟩ (call (.ref 58) [.ref lam]) Q E s := by
  refine wpAny_le (mk_raw0 (X₀.keeps F.keep) (N _ hm).1 fun x dx h' D => ?_) hd hu
  exact h x dx h' (fr_of_mem F D) (news_of_mem F N D) (apart_of_mem N D (.head _)) (apart_of_mem N D (.tail _ (.head _))) (fun e => D.ne 0 1 _ _ _ _ rfl rfl rfl e.symm)
end
end Mine
end
section
open PySem PySem.W PyProof.Rows PySem.Calls PySem.W.X
set_option maxRecDepth 100000
set_option maxHeartbeats 8000000
namespace Mine
local macro_rules | `(tactic| k_ne) => `(tactic| ((try dsimp only); first | exact Apart.ne (by assumption) | exact Apart.en (by assumption)))
local macro_rules | `(tactic| k_all) => `(tactic| assumption)
local macro_rules | `(tactic| walk_at "call ref") => `(tactic| (k_here; (with_reducible show wpAny _ _ (call (Value.ref 58) [Value.ref _]) _ _ _); k_dflt (refine' mk_K ?k1 ?k2 ?k3 ?k4 ?k5 ?k6 ?_; (case k1 => k_asm); (case k2 => k_asm); (case k3 => k_asm); (case k4 => k_mem); (case k5 => exact Nat.le_of_ble_eq_true rfl); (case k6 => exact Nat.le_of_ble_eq_true rfl); k_whole; intro x' d' h' F' N' l1 l2 l3; simp only [List.forall_mem_cons] at l1 l2; (repeat (rcases l1 with ⟨_, l1⟩)); (repeat (rcases l2 with ⟨_, l2⟩)))))

section
variable {prog : Program} {w : World} {A : Around} {E : Value → Shared → Prop} {s : Shared}
theorem item_last {value slice : PySem.Expr} {l : Addr} {items : Array Value} {x : Value} {u : Tok} {Q : Value → Shared → Prop} (hl : s.heap.IsList l (items.push x)) (h : Q x s)
    (hs : subscripted slice false (.ref l) (.int (-1) u) = operate [.ref l, .int (-1) u] (getItem (.ref l) (.int (-1) u)) := by with_unfolding_all rfl) :
    wpAny (model prog w) A (subscriptTail value slice (.ref l) (.int (-1) u)) Q E s :=
  tail_any hl.typeIs slot_list_getitem.lookup (wpAny_getItem_list_neg hl (by decide) (by simp; omega) (by decide) (by
    have e : ((-1 : Int) + ((items.push x).size : Int)).toNat = items.size := by rw [Array.size_push]; omega
    rw [e]; simp) h) hs
end
local macro_rules | `(tactic| walk_at "subscriptTail") => `(tactic| (k_here; (with_reducible show wpAny _ _ (subscriptTail _ _ (Value.ref _) (Value.int _ _)) _ _ _); k_dflt (refine' item_last ?k1 ?_ ?k2; (case k1 => exact News.isList (by k_asm) (by k_mem)); (case k2 => with_unfolding_all rfl); k_whole)))

noncomputable def lamAt (w : World) : Arguments × PySem.Expr × Scope :=
  match (hd.heap_39 w.params).lookup 109 with
  | some ⟨_, _, .func fd, _⟩ => (match fd.body with
    | .stmts (.Expr (.Call _ (.Call _ (.Lambda a b sc _ :: _) _ _ :: _) _ _) _ :: _) => (a, b, sc)
    | _ => ⟨⟨[], [], none, [], [], none, []⟩, .Name (Str.ofString "") default, default⟩)
  | _ => ⟨⟨[], [], none, [], [], none, []⟩, .Name (Str.ofString "") default, default⟩
abbrev lamQual : PySem.Str := (Str.ofString "_law_node" ++ Str.ofString ".<locals>.") ++ Str.ofString "<lambda>"
noncomputable abbrev lamObj (w : World) (mg : PySem.Str → Option Value) (cell c' : Addr) (ctv : Value) : Obj :=
  kla_obj (Str.ofString "<lambda>") lamQual (lamAt w).1 (lamAt w).2.1 (lamAt w).2.2 [(Str.ofString "made", cell)] ((mg (Str.ofString "__name__")).getD .none) c' ctv
def CodeO (qual : PySem.Str) (oc : Obj) : Prop := ∃ vs t, oc.data = .fields vs ∧ vs[1]? = some (.str qual t)
abbrev tab1 (a b : Int) (c' : Addr) : Array Value := #[rawInt a, rawInt b, .ref c']

theorem node_first {p : Program} {loose : List PySem.Str} {mean : ExcName → Option Value} {mg mb : PySem.Str → Option Value} {w : World}
    {gd : Option (List Code)} {cn : PySem.Str} {cs : Scope} {a : Addr} {ccd : Value} {cl : List (PySem.Str × Addr)} {outer : List Env} {A₀ : Around} {base h₀ : Heap} {L : Addr} {m : PySem.Str → Option Value} {news : List (Addr × Obj)} {s : Shared} {made : Addr} {vs : Array Value} {n : Nat}
    {Q E : Value → Shared → Prop}
    (B : Below A₀ base outer h₀) (F : Fr h₀ L s.heap m) (X : (hd.heap_39 w.params).In h₀) (N : News h₀ L s.heap ((made, listOf vs n) :: (104, tabObj #[]) :: news)) (T : Top p loose mean mg mb h₀) (hcs : cs.kind = .function)
    (hC : CodeHd base 108 104) (hl : made ≠ 104) (hvs : vs.size ≤ 1000) (o1 : ∀ p ∈ news, p.1 ≠ made) (o2 : ∀ p ∈ news, p.1 ≠ 104)
    (hq : ∀ x dx lam cell c' oc ocell ctv h' tk, Fr h₀ L h' m → News h₀ L h' ((x, nodeObj dx #[] 0 lam) :: (dx, dictOf [] 0) :: (lam, lamObj w mg cell c' ctv) :: (c', oc) :: (cell, ocell) :: (made, listOf (vs.push (.ref x)) (n + 1)) :: (104, tabObj (tab1 51 37 c')) :: news) →
      CodeO lamQual oc → ocell.data = .cell (some (.ref made)) → (∀ p ∈ news, Apart p.1 x) → (∀ p ∈ news, Apart p.1 dx) → Q (.ref x) { s with heap := h', toks := tk }) :
    wpAny (model P0 w) (ktrTop 500 1000 gd cn cs L a ccd cl outer) (call (.ref 109) [.ref made]) Q E s := by
  refine wpAny_call ?_
  k_dflt (refine' code_defC (binds := [(PySem.Str.ofString "made", Value.ref made)]) ?k1 ?k2 ?k3 ?k4 ?k5 ?kA ?kF ?kK ?k6 ?k7 ?k8 ?k9 ?kB ?kD ?_ ?c2 ?c3 ?c4; (case kA => exact rfl); (case kF => exact rfl); (case kK => assumption); (case k1 => k_asm); (case k2 => k_asm); (case k3 => k_asm); (case k4 => k_asm); (case k5 => k_asm); (case k6 => k_is); (case k7 => k_is); (case k8 => k_room); (case k9 => exact BindsTo.of_eq rfl); (case kB => exact rfl); (case kD => decide +kernel); (case c2 => exact rfl); (case c3 => exact rfl); (case c4 => exact rfl); k_whole; intro g' L' h' tk' cells' FG' F' N' Y' B' X' T' l1; (try k_lt l1); k_cells Y'; (try simp only [List.cons_append, List.nil_append] at N'); (try dsimp only); (try k_lift B'); (try k_fold))
  w_top off
  k_steps
  exact hq _ _ _ _ _ _ _ _ _ _ (by assumption) (by assumption) ⟨_, _, by assumption, by assumption⟩ (by assumption) (by assumption) (by assumption)
theorem node_more {p : Program} {loose : List PySem.Str} {mean : ExcName → Option Value} {mg mb : PySem.Str → Option Value} {w : World}
    {gd : Option (List Code)} {cn : PySem.Str} {cs : Scope} {a : Addr} {ccd : Value} {cl : List (PySem.Str × Addr)} {outer : List Env} {A₀ : Around} {base h₀ : Heap} {L : Addr} {m : PySem.Str → Option Value} {news : List (Addr × Obj)} {s : Shared} {made : Addr} {vs : Array Value} {n : Nat} {c' : Addr}
    {Q E : Value → Shared → Prop}
    (B : Below A₀ base outer h₀) (F : Fr h₀ L s.heap m) (X : (hd.heap_39 w.params).In h₀) (N : News h₀ L s.heap ((made, listOf vs n) :: (104, tabObj (tab1 51 37 c')) :: news)) (T : Top p loose mean mg mb h₀) (hcs : cs.kind = .function)
    (hC : CodeHd base 108 104) (hl : made ≠ 104) (hvs : vs.size ≤ 1000) (o1 : ∀ p ∈ news, p.1 ≠ made) (o2 : ∀ p ∈ news, p.1 ≠ 104)
    (hq : ∀ x dx lam cell ocell ctv h' tk, Fr h₀ L h' m → News h₀ L h' ((x, nodeObj dx #[] 0 lam) :: (dx, dictOf [] 0) :: (lam, lamObj w mg cell c' ctv) :: (cell, ocell) :: (made, listOf (vs.push (.ref x)) (n + 1)) :: (104, tabObj (tab1 51 37 c')) :: news) →
      ocell.data = .cell (some (.ref made)) → (∀ p ∈ news, Apart p.1 x) → (∀ p ∈ news, Apart p.1 dx) → Q (.ref x) { s with heap := h', toks := tk }) :
    wpAny (model P0 w) (ktrTop 500 1000 gd cn cs L a ccd cl outer) (call (.ref 109) [.ref made]) Q E s := by
  refine wpAny_call ?_
  k_dflt (refine' code_defC (binds := [(PySem.Str.ofString "made", Value.ref made)]) ?k1 ?k2 ?k3 ?k4 ?k5 ?kA ?kF ?kK ?k6 ?k7 ?k8 ?k9 ?kB ?kD ?_ ?c2 ?c3 ?c4; (case kA => exact rfl); (case kF => exact rfl); (case kK => assumption); (case k1 => k_asm); (case k2 => k_asm); (case k3 => k_asm); (case k4 => k_asm); (case k5 => k_asm); (case k6 => k_is); (case k7 => k_is); (case k8 => k_room); (case k9 => exact BindsTo.of_eq rfl); (case kB => exact rfl); (case kD => decide +kernel); (case c2 => exact rfl); (case c3 => exact rfl); (case c4 => exact rfl); k_whole; intro g' L' h' tk' cells' FG' F' N' Y' B' X' T' l1; (try k_lt l1); k_cells Y'; (try simp only [List.cons_append, List.nil_append] at N'); (try dsimp only); (try k_lift B'); (try k_fold))
  k_steps
  exact hq _ _ _ _ _ _ _ _ (by assumption) (by assumption) (by assumption) (by assumption) (by assumption)
end Mine
end
section
open PySem PySem.W PyProof.Rows PySem.Calls PySem.W.X
set_option maxRecDepth 100000
set_option maxHeartbeats 8000000
set_option linter.unusedVariables false
namespace Mine
local macro_rules | `(tactic| k_ne) => `(tactic| ((try dsimp only); first | exact Apart.ne (by assumption) | exact Apart.en (by assumption)))
local macro_rules | `(tactic| k_all) => `(tactic| assumption)
local macro_rules | `(tactic| k_mem) => `(tactic| assumption)
local macro_rules | `(tactic| walk_at "call ref") => `(tactic| (k_here; (with_reducible show wpAny _ _ (call (Value.ref 109) [Value.ref _]) _ _ _); k_dflt (refine' wpAny_le (node_more ?k1 ?k2 ?k3 ?k4 ?k5 ?k6 ?k7 ?k8 ?k9 ?k10 ?k11 ?_) ?kd ?ku; (case k1 => k_asm); (case k2 => k_asm); (case k3 => k_asm); (case k4 => k_asm); (case k5 => k_asm); (case k6 => exact rfl); (case k7 => kn_code); (case k8 => assumption); (case k9 => assumption); (case k10 => assumption); (case k11 => assumption); (case kd => exact Nat.le_of_ble_eq_true rfl); (case ku => exact Nat.le_of_ble_eq_true rfl); k_whole; intro x' dx' lam' cell' ocell' ctv' h' tk' F' N' d1 l1 l2)))
theorem lam_K {p : Program} {loose : List PySem.Str} {mean : ExcName → Option Value} {mg mb : PySem.Str → Option Value} {w : World}
    {gd : Option (List Code)} {cn : PySem.Str} {cs : Scope} {a : Addr} {ccd : Value} {cl : List (PySem.Str × Addr)} {outer : List Env} {A₀ : Around} {base h₀ : Heap} {L : Addr} {m : PySem.Str → Option Value} {news : List (Addr × Obj)} {s : Shared} {made : Addr} {vs : Array Value} {n : Nat} {c' lam₀ cell₀ c₀ : Addr} {ctv₀ : Value} {oc₀ ocell₀ : Obj}
    {R : Result → Shared → Prop}
    (B : Below A₀ base outer h₀) (F : Fr h₀ L s.heap m) (X : (hd.heap_39 w.params).In h₀) (N : News h₀ L s.heap ((made, listOf vs n) :: (104, tabObj (tab1 51 37 c')) :: news)) (T : Top p loose mean mg mb h₀) (hcs : cs.kind = .function)
    (hC : CodeHd base 108 104) (hl : made ≠ 104) (hvs : vs.size ≤ 1000) (o1 : ∀ p ∈ news, p.1 ≠ made) (o2 : ∀ p ∈ news, p.1 ≠ 104)
    (m1 : (lam₀, lamObj w mg cell₀ c₀ ctv₀) ∈ news) (m2 : (cell₀, ocell₀) ∈ news) (m3 : ocell₀.data = .cell (some (.ref made))) (m4 : (c₀, oc₀) ∈ news) (m5 : CodeO lamQual oc₀)
    (hq : ∀ x dx lam cell ocell ctv h' tk, Fr h₀ L h' m → News h₀ L h' ((x, nodeObj dx #[] 0 lam) :: (dx, dictOf [] 0) :: (lam, lamObj w mg cell c' ctv) :: (cell, ocell) :: (made, listOf (vs.push (.ref x)) (n + 1)) :: (104, tabObj (tab1 51 37 c')) :: news) →
      ocell.data = .cell (some (.ref made)) → (∀ p ∈ news, Apart p.1 x) → (∀ p ∈ news, Apart p.1 dx) → R (.ok (.ret (.ref x))) { s with heap := h', toks := tk }) :
    codeAny (model P0 w) (ktrTop 490 900 gd cn cs L a ccd cl outer) (.call (.ref lam₀) ⟨[], []⟩) R s := by
  refine (fun (e9 : lamAt w = (_, .Call (.Name _ _) [.Name _ _] [] _, ⟨_, _, _, _, _⟩)) => ?_) rfl
  refine kla_code (binds := []) B F X N T rfl rfl hcs (List.Mem.tail _ (List.Mem.tail _ m1)) ?hcd ?room rfl (by intro y hy; cases hy) ?_ rfl rfl rfl ?cells
  case hcd =>
    obtain ⟨vs5, t5, d5, e5⟩ := m5
    exact ⟨_, _, _, _, rfl, (N _ (List.Mem.tail _ (List.Mem.tail _ m4))).1, d5, e5⟩
  case room => k_room
  case cells => rw [e9]; decide
  intro g' L' h' FG' F' N' B' X' T'
  rw [e9]
  try dsimp only
  w_top off
  k_steps
  exact hq _ _ _ _ _ _ _ _ (by assumption) (by assumption) (by assumption) (by assumption) (by assumption)
end Mine
end
section
open PySem PySem.W PyProof.Rows PySem.Calls PySem.W.X
set_option maxRecDepth 100000
set_option maxHeartbeats 8000000
set_option linter.unusedVariables false
namespace Mine
section
variable {w : World} {A : Around} {s : Shared} {E : Value → Shared → Prop} {x dx : Addr} {es : Array DictEntry} {n : Nat} {lam : Addr} {k : PySem.Str} {t : Tok} {od : Obj}

theorem dget_none {o : Obj} (ho : s.heap.get? x = some o) (hd : o.data = .dict es n) (hall : (es.all fun e => isExactStrKey e.key) = true) (hi : es.findIdx? (fun e => e.key.isStr k) = none)
    {Q : Option Value → Shared → Prop} (h : Q none { s with toks := s.toks + 1 }) : wpAny (model P0 w) A (dictGet x (.str k t)) Q E s := by
  unfold dictGet
  try with_reducible refine wpAny_holding ?_
  refine wpAny_bind (wpAny_pyHash_str (wpAny_bind (KTD.kt_dictFind_strs (s := { s with toks := s.toks + 1 }) ho hd hall ?_)))
  rw [hi]
  exact wpAny_pure h
theorem dget_some {o : Obj} {i : Nat} {e : DictEntry} (ho : s.heap.get? x = some o) (hd : o.data = .dict es n) (hall : (es.all fun e => isExactStrKey e.key) = true) (hi : es.findIdx? (fun e => e.key.isStr k) = some i) (he : es[i]? = some e)
    {Q : Option Value → Shared → Prop} (h : Q (some e.val) { s with toks := s.toks + 1 }) : wpAny (model P0 w) A (dictGet x (.str k t)) Q E s := by
  unfold dictGet
  try with_reducible refine wpAny_holding ?_
  refine wpAny_bind (wpAny_pyHash_str (wpAny_bind (KTD.kt_dictFind_strs (s := { s with toks := s.toks + 1 }) ho hd hall ?_)))
  rw [hi]
  refine wpAny_bind (wpAny_dictEntries (s := { s with toks := s.toks + 1 }) ho hd ?_)
  rw [he]
  exact wpAny_pure h

theorem check_meth {M : Model} {A : Around} {E : Value → Shared → Prop} {s : Shared} {i owner n : String} {self : Value} {rest : List Value} {kw : List (PySem.Str × Value)} {Q : Unit → Shared → Prop}
    (hk : builtinKind i = some .method) (hs : splitId i = some (owner, n)) (hi : Looks M s.heap (isInstance self (.type owner)) true) (ha : argsOk i ⟨self :: rest, kw⟩) (q : Q () s) :
    wpAny M A (checkBuiltinCall i ⟨self :: rest, kw⟩) Q E s := by
  simp only [checkBuiltinCall, hk, hs]
  refine wpAny_bind (hi.here ?_)
  simp only [Bool.not_true, Bool.false_eq_true, if_false]
  cases hsig : Manifest.signature? i with
  | none => exact wpAny_pure q
  | some sig =>
    simp only [argsOk, hsig] at ha
    have h2 : Bind.checkArgs i sig ⟨self :: rest, kw⟩ = pure () := ha
    show wpAny M A (Bind.checkArgs i sig ⟨self :: rest, kw⟩) Q E s
    rw [h2]; exact wpAny_pure q
theorem k_noSeq : noSeq (hd.heap_39 w.params) 58 = true := by k_is
theorem k_dict : subIn (hd.heap_39 w.params) (.ref 58) (.type "dict") = some true := by k_is
theorem k_ddict : subIn (hd.heap_39 w.params) (.ref 58) (.type "collections.defaultdict") = some true := by k_is
theorem split_gi : splitId "dict.__getitem__" = some ("dict", "__getitem__") := by decide +kernel
theorem kind_gi : builtinKind "dict.__getitem__" = some .method := by decide +kernel

theorem k_gi : findIn (hd.heap_39 w.params) (.ref 58) "__getitem__" = some (some (.builtin "dict.__getitem__")) := by k_is
theorem node_getItem (X : (hd.heap_39 w.params).In s.heap) (I : InstAt s.heap x (nodeObj dx es n lam) 58 (some od)) {Q : Value → Shared → Prop}
    (h : wpAny (model P0 w) A.in1 (Builtin.«dict.__getitem__» ⟨[.ref x, .str k t], []⟩) (fun fin s' => ∃ v, fin = .done (.ret v) ∧ Q v s') E s) :
    wpAny (model P0 w) A (getItem (.ref x) (.str k t)) Q E s := by
  unfold getItem sequenceKey
  refine wpAny_holding (wpAny_bind (wpAny_bind (I.type.here ?_)))
  refine wpAny_bind ((anyM_none X k_noSeq).here ?_)
  rw [if_pos (show (!false) = true from rfl)]
  refine wpAny_pure (wpAny_bind (wpAny_bind (wpAny_bind (I.type.here ?_))))
  refine (looks_findIn X k_gi).here ?_
  refine wpAny_holding ?_
  refine wpAny_bind (wpAny_of_eq (slot_dict_getitem.bind _) ?_)
  show wpAny _ _ (call (.builtin "dict.__getitem__") [.ref x, .str k t] >>= fun v => pure (some v)) _ _ _
  refine wpAny_bind (wpAny_call ?_)
  refine codeAny_call_builtin slot_dict_getitem.plain entry_dict_getitem ?_
  have hi : Looks (model P0 w) s.heap (isInstance (.ref x) (.type "dict")) true := I.type.andThen (looks_subIn X k_dict)
  with_reducible apply check_meth kind_gi split_gi hi (args_dict_getitem _ _)
  refine wpAny_mono h ?_ ?_
  · rintro fin s' ⟨v, rfl, hv⟩
    exact wpAny_pure (wpAny_pure hv)
  · intro e s' z
    exact z
end
end Mine
end
section
open PySem PySem.W PyProof.Rows PySem.Calls PySem.W.X
set_option maxRecDepth 100000
set_option maxHeartbeats 8000000
set_option linter.unusedVariables false
namespace Mine
section
variable {w : World} {A : Around} {s : Shared} {E : Value → Shared → Prop} {x dx : Addr} {es : Array DictEntry} {n : Nat} {lam : Addr} {k : PySem.Str} {t : Tok} {od : Obj}
theorem gi_found {i : Nat} {e : DictEntry} (I : InstAt s.heap x (nodeObj dx es n lam) 58 (some od)) (hall : (es.all fun e => isExactStrKey e.key) = true) (hi : es.findIdx? (fun e => e.key.isStr k) = some i) (he : es[i]? = some e)
    {Q : Value → Shared → Prop} (h : Q e.val { s with toks := s.toks + 1 }) :
    wpAny (model P0 w) A (Builtin.«dict.__getitem__» ⟨[.ref x, .str k t], []⟩) (fun fin s' => ∃ v, fin = .done (.ret v) ∧ Q v s') E s := by
  show wpAny _ _ (dictGet x (.str k t) >>= _) _ _ s
  refine wpAny_bind (dget_some I.at_ rfl hall hi he ?_)
  exact wpAny_pure ⟨_, rfl, h⟩
theorem k_miss : findIn (hd.heap_39 w.params) (.ref 58) "__missing__" = some (some (.ref 48)) := by k_is
theorem k_fn48 : typeIn (hd.heap_39 w.params) (.ref 48) = some (.type "function") := by k_is
theorem gi_miss (X : (hd.heap_39 w.params).In s.heap) (I : InstAt s.heap x (nodeObj dx es n lam) 58 (some od)) (hx : (x == sysModules) = false) (hall : (es.all fun e => isExactStrKey e.key) = true) (hi : es.findIdx? (fun e => e.key.isStr k) = none)
    {Q : Value → Shared → Prop} (h : wpAny (model P0 w) A (call (.ref 48) [.ref x, .str k t]) Q E { s with toks := s.toks + 1 }) :
    wpAny (model P0 w) A (Builtin.«dict.__getitem__» ⟨[.ref x, .str k t], []⟩) (fun fin s' => ∃ v, fin = .done (.ret v) ∧ Q v s') E s := by
  show wpAny _ _ (dictGet x (.str k t) >>= _) _ _ s
  refine wpAny_bind (dget_none I.at_ rfl hall hi ?_)
  show wpAny _ _ (Builtin.Dict.missed x (.str k t) >>= _) _ _ _
  unfold Builtin.Dict.missed
  rw [if_neg (by rw [hx]; exact Bool.false_ne_true)]
  refine wpAny_bind (wpAny_pure ?_)
  show wpAny _ _ (typeOf (.ref x) >>= _) _ _ _
  refine wpAny_bind (Looks.here (s := { s with toks := s.toks + 1 }) I.type ?_)
  show wpAny _ _ (if (Value.ref 58 != Value.type "dict") = true then _ else _) _ _ _
  rw [if_pos (by decide)]
  have I' : InstAt ({ s with toks := s.toks + 1 } : Shared).heap x (nodeObj dx es n lam) 58 (some od) := I
  refine wpAny_bind (special_fn (s := { s with toks := s.toks + 1 }) X I' k_miss k_fn48 ?_)
  refine wpAny_mono h ?_ ?_
  · intro v s' z
    exact wpAny_bind (wpAny_rule (wpAny_bind (wpAny_pure (wpAny_pure ⟨v, rfl, z⟩))))
  · intro e s' z
    exact z
end
end Mine
end
section
open PySem PySem.W PyProof.Rows PySem.Calls PySem.W.X
set_option maxRecDepth 100000
set_option maxHeartbeats 8000000
set_option linter.unusedVariables false
namespace Mine
abbrev bmObj (x : Addr) : Obj := { cls := .type "builtin_function_or_method", data := .fields #[.builtin "collections.defaultdict.__missing__", .ref x] }
section
variable {w : World} {s : Shared} {Q E : Value → Shared → Prop} {x dx so bm : Addr} {es : Array DictEntry} {n : Nat} {lam : Addr} {k : PySem.Str} {tk : Tok} {od : Obj} {d u : Nat} {fr : Option (List Env)} {gd : Option (List Code)}
local macro_rules | `(tactic| x_close) => do let hq := Lean.mkIdent `hq; `(tactic| exact $hq _ _ (by assumption))
theorem md_get0 (X : (hd.heap_39 w.params).In s.heap) (hx : s.heap.get? x = some { cls := .ref 58, dict := some dx, data := .dict es n, slots := #[some (.ref lam)] })
    (hq : ∀ b h', Mem s.heap h' [] [(b, bmObj x)] → Q (.ref b) ⟨h', s.gens, s.drawn, s.toks, s.os⟩) :
    wpAny (model P0 w) ⟨none, 600, fr, gd, 2000⟩ (call (.builtin "method_descriptor.__get__") [.builtin "collections.defaultdict.__missing__", .ref x, .ref 58]) Q E s := by
  w_top off
  x_run
end
section
variable {w : World} {s : Shared} {Q E : Value → Shared → Prop} {x dx so bm : Addr} {es : Array DictEntry} {n : Nat} {lam : Addr} {k : PySem.Str} {tk : Tok} {od : Obj} {d u : Nat} {fr : Option (List Env)} {gd : Option (List Code)}
local macro_rules | `(tactic| x_close) => do let hq := Lean.mkIdent `hq; `(tactic| exact $hq _ _ _ (by assumption))
theorem getattr_raw0 (X : (hd.heap_39 w.params).In s.heap) (hx : s.heap.get? x = some { cls := .ref 58, dict := some dx, data := .dict es n, slots := #[some (.ref lam)] })
   (hdx : s.heap.get? dx = some { cls := .type "dict", data := .dict #[] })
   (hq : ∀ own h' tk, Mem s.heap h' [] own → Q (.ref bm) ⟨h', s.gens, s.drawn, tk, s.os⟩) :
    wpAny (model P0 w) ⟨none, 600, fr, gd, 2000⟩ (call (.builtin "getattr") [.ref x, .str (Str.ofString "_frozen") tk, .ref bm]) Q E s := by
  x_run
end
section
variable {w : World} {s : Shared} {Q E : Value → Shared → Prop} {x dx so bm : Addr} {es : Array DictEntry} {n : Nat} {lam : Addr} {k : PySem.Str} {tk : Tok} {od : Obj} {d u : Nat} {fr : Option (List Env)} {gd : Option (List Code)}
local macro_rules | `(tactic| x_close) => do let hq := Lean.mkIdent `hq; `(tactic| exact $hq)
theorem getattr_raw1 {hs : Int} {t2 : Tok} {lamF : Addr} {n2 : Nat} (X : (hd.heap_39 w.params).In s.heap) (hx : s.heap.get? x = some { cls := .ref 58, dict := some dx, data := .dict es n, slots := #[some (.ref lam)] })
   (hdx : s.heap.get? dx = some { cls := .type "dict", data := .dict #[⟨hs, .str (Str.ofString "_frozen") t2, .ref lamF⟩] n2 })
   (hq : Q (.ref lamF) ⟨s.heap, s.gens, s.drawn, s.toks, s.os⟩) :
    wpAny (model P0 w) ⟨none, 600, fr, gd, 2000⟩ (call (.builtin "getattr") [.ref x, .str (Str.ofString "_frozen") tk, .ref bm]) Q E s := by
  x_run
end
section
variable {w : World} {s : Shared} {Q E : Value → Shared → Prop} {x dx so bm : Addr} {es : Array DictEntry} {n : Nat} {lam : Addr} {k : PySem.Str} {tk : Tok} {od : Obj} {d u : Nat} {fr : Option (List Env)} {gd : Option (List Code)}
theorem k_mro58 : (clsIn (hd.heap_39 w.params) 58).map (·.mro) = some [.ref 58, .type "collections.defaultdict", .type "dict", .type "object"] := by
  show (some _ : Option (List Value)) = _; rfl
theorem k_tp : nsIn (hd.heap_39 w.params) cStatics "thirdparty.any" = some none := by k_is
theorem md_type : typeOf (.builtin "collections.defaultdict.__missing__") = pure (.type "method_descriptor") := by kernel_rfl
theorem md_look : typeLookup (.type "method_descriptor") "__get__" = pure (some (.builtin "method_descriptor.__get__")) := by rw [typeLookup_type, builtinLookup_eq_fast]; kernel_rfl
theorem md_own : classOwn (.type "collections.defaultdict") "__missing__" = pure (some (.builtin "collections.defaultdict.__missing__")) := by
  show pure (builtinOwn "collections.defaultdict" "__missing__") = _
  kernel_rfl
end
end Mine
end
section
open PySem PySem.W PyProof.Rows PySem.Calls PySem.W.X
set_option maxRecDepth 100000
set_option maxHeartbeats 8000000
set_option linter.unusedVariables false
namespace Mine
abbrev supObj (x : Addr) : Obj := { cls := .type "super", dict := none, data := .fields #[.ref 58, .ref x, .ref 58], slots := #[] }
section
variable {w : World} {h : Heap} {g : Array GenState} {d : Drawn} {t : Nat} {os : OsState} {E : Value → Shared → Prop} {x dx so bm : Addr} {es : Array DictEntry} {n : Nat} {lam : Addr} {tk : Tok} {du u : Nat} {fr : Option (List Env)} {gd : Option (List Code)}
theorem super_ga (X : (hd.heap_39 w.params).In h) (hso : h.get? so = some (supObj x)) (hx : h.get? x = some (nodeObj dx es n lam)) (hxC : x ≠ 58) (hd : du ≤ 600) (hu : u ≤ 2000) {Q : Fin → Shared → Prop}
    (hq : ∀ b h', Mem h h' [] [(b, bmObj x)] → Q (.done (.ret (.ref b))) ⟨h', g, d, t, os⟩) :
    wpAny (model P0 w) ⟨none, du, fr, gd, u⟩ (Builtin.«super.__getattribute__» ⟨[.ref so, .str (Str.ofString "__missing__") tk], []⟩) Q E ⟨h, g, d, t, os⟩ := by
  have hdt : (supObj x).data = .fields #[.ref 58, .ref x, .ref 58] := rfl
  have f0 : (#[.ref 58, .ref x, .ref 58] : Array Value)[0]? = some (.ref 58) := rfl
  have f1 : (#[.ref 58, .ref x, .ref 58] : Array Value)[1]? = some (.ref x) := rfl
  have f2 : (#[.ref 58, .ref x, .ref 58] : Array Value)[2]? = some (.ref 58) := rfl
  have hno : Looks (model P0 w) h (opaqueClassAbove (.ref 58)) none := looks_opaque X k_tp
  have hC : Looks (model P0 w) h (mroOf (.ref 58)) [.ref 58, .type "collections.defaultdict", .type "dict", .type "object"] := by
    obtain ⟨cd, hc, hm⟩ := Option.map_eq_some_iff.mp (k_mro58 (w := w))
    exact fun A Q E s k q => wpAny_bind ((looks_clsIn X hc) A _ E s k (wpAny_pure (by rw [hm]; exact q)))
  have hne : (Value.ref x == Value.ref 58) = false := by simp [hxC]
  show wpAny _ _ (field (.ref so) 0 >>= _) _ _ _
  refine wpAny_bind (wpAny_field hso hdt f0 ?_)
  refine wpAny_bind (wpAny_field hso hdt f1 ?_)
  refine wpAny_bind (wpAny_field hso hdt f2 ?_)
  show wpAny _ _ (notOfAnOpaqueClass _ _ (.ref 58) >>= _) _ _ _
  refine wpAny_bind (ks_wpAny_notOpaque hno ?_)
  show wpAny _ _ (mroOf (.ref 58) >>= _) _ _ _
  refine wpAny_bind (Looks.at hC ?_)
  show wpAny _ _ (forIn [Value.type "collections.defaultdict", .type "dict", .type "object"] _ _ >>= _) _ _ _
  rw [List.forIn_cons]
  refine wpAny_bind (wpAny_bind (wpAny_bind (wpAny_of_eq md_own ?_)))
  refine wpAny_bind (wpAny_of_eq md_type ?_)
  refine wpAny_bind (wpAny_of_eq md_look ?_)
  refine wpAny_bind (wpAny_holding ?_)
  rw [hne]
  have g0 := md_get0 (w := w) (s := ⟨h, g, d, t, os⟩) (fr := fr) (gd := gd) (E := E) (Q := fun v s' => ∃ b h', v = .ref b ∧ s' = ⟨h', g, d, t, os⟩ ∧ Mem h h' [] [(b, bmObj x)]) X hx (fun b h' D => ⟨b, h', rfl, rfl, D⟩)
  refine wpAny_mono (wpAny_le g0 hd hu) ?_ (fun _ _ z => z)
  rintro v s' ⟨b, h', rfl, rfl, D⟩
  exact wpAny_bind (wpAny_pure (wpAny_pure (wpAny_pure (wpAny_pure (hq b h' D)))))
theorem super_get (X : (hd.heap_39 w.params).In h) (hso : h.get? so = some (supObj x)) (hx : h.get? x = some (nodeObj dx es n lam)) (hxC : x ≠ 58) (hd : du + 1 ≤ 600) (hu : u + 2 ≤ 2000) {Q : Value → Shared → Prop}
    (hq : ∀ b h' tk', Mem h h' [] [(b, bmObj x)] → Q (.ref b) ⟨h', g, d, tk', os⟩) :
    wpAny (model P0 w) ⟨none, du, fr, gd, u⟩ (getAttr (.ref so) (Str.ofString "__missing__") true) Q E ⟨h, g, d, t, os⟩ := by
  have hlk := F.ks_slot_super_ga.lookup
  have hT : ∀ t', (⟨h, g, d, t', os⟩ : Shared).TypeIs (.ref so) "super" := fun _ => ⟨_, hso, rfl⟩
  unfold getAttr getAttrBy
  refine wpAny_bind (wpAny_mkText (wpAny_holding (wpAny_bind (wpAny_typeOf (hT _) (wpAny_bind (wpAny_of_eq hlk ?_))))))
  show wpAny _ _ (getAttrByItsOwn (.ref so) (.str (Str.ofString "__missing__") t) (.type "super") (.builtin "super.__getattribute__") true true) _ _ _
  unfold getAttrByItsOwn hookBefore callGetattribute boundAndCalled
  refine wpAny_bind (wpAny_of_eq (show (if onTheHeap (.type "super") then typeLookup (.type "super") "__getattr__" else pure none) = pure none from rfl) ?_)
  refine wpAny_bind (wpAny_attempt (wpAny_holding ?_))
  show wpAny _ _ (bindSpecial (.builtin "super.__getattribute__") (.ref so) >>= _) _ _ _
  refine wpAny_bind (wpAny_of_eq (F.ks_slot_super_ga.bind _) ?_)
  refine wpAny_mono (Q := fun v s' => ∃ b h', v = .ref b ∧ s' = ⟨h', g, d, t + 1, os⟩ ∧ Mem h h' [] [(b, bmObj x)]) (E := fun _ _ => False)
    (wpAny_call_entry F.ks_slot_super_ga (hT _) F.ks_entry_super_ga ?_ (F.ks_gaArgs_super _ _)) (fun v s' hv => ?_) fun _ _ z => z.elim
  · exact super_ga (t := t + 1) X hso hx hxC (by show du ≤ 600; omega) (by show u + 1 ≤ 2000; omega) (fun b h' D => ⟨_, rfl, b, h', rfl, rfl, D⟩)
  · obtain ⟨b, h', rfl, rfl, D⟩ := hv
    exact wpAny_pure (hq _ _ _ D)
end
end Mine
end
section
open PySem PySem.W PyProof.Rows PySem.Calls PySem.W.X
set_option maxRecDepth 100000
set_option maxHeartbeats 8000000
set_option linter.unusedVariables false
namespace Mine
section
variable {M : Model} {A : Around} {c : Code} {E : Value → Shared → Prop} {s : Shared} {env : Env}
theorem at_spliced_nil {Q : List Value → Shared → Prop} (h : Q [] s) : _root_.PySem.wpAt M A c (spliced []) Q E s := wpAt_of_wpAny (spliced_nil h)
theorem at_spliced_cons {x : Sem Value} {rest : List (Bool × Sem Value)} {Q : List Value → Shared → Prop}
    (h : _root_.PySem.wpAt M A c x (fun v s₁ => _root_.PySem.wpAt M A c (spliced rest) (fun vs s₂ => Q (v :: vs) s₂) E s₁) E s) : _root_.PySem.wpAt M A c (spliced ((false, x) :: rest)) Q E s := by
  rw [spliced]
  refine _root_.PySem.wpAt_bind (_root_.PySem.wpAt_mono h (fun v s₁ h₁ => ?_) fun _ _ x => x)
  simp only [Bool.false_eq_true, if_false]
  exact _root_.PySem.wpAt_bind (wpAt_of_wpAny (wpAny_pure (_root_.PySem.wpAt_bind (ks_wpAt_holding (_root_.PySem.wpAt_mono h₁ (fun vs s₂ h₂ => wpAt_of_wpAny (wpAny_pure h₂)) fun _ _ x => x)))))
theorem at_callWith_builtin {pos : Pos} {id : String} {args : List (Bool × Sem Value)} {Q : Value → Shared → Prop} (hne : args ≠ []) (hplain : args.any (·.1) = false)
    (h : _root_.PySem.wpAt M A c (spliced args) (fun vs s₁ => wpAny M A (call (.builtin id) vs) Q E s₁) E s) :
    _root_.PySem.wpAt M A c (callWith pos (.builtin id) [] args []) Q E s := by
  unfold callWith
  refine _root_.PySem.wpAt_bind (ks_wpAt_holding ?_)
  unfold evalArgs
  obtain ⟨⟨b, x⟩, rest, rfl⟩ : ∃ p rest, args = p :: rest := by
    cases args with
    | nil => exact absurd rfl hne
    | cons p r => exact ⟨p, r, rfl⟩
  have hb : b = false := by
    simp only [List.any_cons, Bool.or_eq_false_iff] at hplain; exact hplain.1
  subst hb
  show _root_.PySem.wpAt M A c (spliced ((false, x) :: rest) >>= _) _ _ _
  refine _root_.PySem.wpAt_bind (_root_.PySem.wpAt_mono h (fun vs s' h' => ?_) fun _ _ x => x)
  refine ks_wpAt_holding ?_
  refine _root_.PySem.wpAt_bind (wpAt_of_wpAny (wpAny_pure (wpAt_of_wpAny (wpAny_bind (wpAny_pure (wpAny_pure ?_))))))
  refine wpAt_of_wpAny (wpAny_bind (wpAny_standAt ?_))
  simp only [hplain, List.any_nil, Bool.or_false]
  refine wpAny_bind (wpAny_pure ?_)
  refine wpAny_bind (wpAny_mono h' (fun r s₂ hr => ?_) fun _ _ x => x)
  exact wpAny_bind (wpAny_holding (wpAny_point (wpAny_pure hr)))
theorem at_Attribute {value : PySem.Expr} {attr : PySem.Str} {pos : Pos} {prog : Program} {w : World} {Q : Value → Shared → Prop}
    (h : _root_.PySem.wpAt (model prog w) A c (attributeBase value attr env (eval value env)) (fun o s₁ => wpAny (model prog w) A (getAttr o attr true) Q E s₁) E s) :
    _root_.PySem.wpAt (model prog w) A c (eval (.Attribute value attr pos) env) Q E s := by
  show _root_.PySem.wpAt _ _ _ (attributeBase value attr env (eval value env) >>= _) _ _ _
  refine _root_.PySem.wpAt_bind (_root_.PySem.wpAt_mono h (fun o s₁ h₁ => wpAt_of_wpAny ?_) fun _ _ x => x)
  refine wpAny_bind (wpAny_standAt (wpAny_bind (wpAny_holding (wpAny_mono h₁ (fun r s₂ h₂ => ?_) fun _ _ x => x))))
  exact wpAny_bind (wpAny_letTemporaryGo (wpAny_pure h₂))
end
section
theorem inst_N {h₀ h : Heap} {L : Addr} {news : List (Addr × Obj)} {x dx lam : Addr} {es : Array DictEntry} {n : Nat} {od : Obj} (N : News h₀ L h news) (m1 : (x, nodeObj dx es n lam) ∈ news) (m2 : (dx, od) ∈ news) : InstAt h x (nodeObj dx es n lam) 58 (some od) :=
  ⟨(N _ m1).1, rfl, rfl, (N _ m2).1⟩
end
end Mine
end
section
open PySem PySem.W PyProof.Rows PySem.Calls PySem.W.X
set_option maxRecDepth 100000
set_option maxHeartbeats 8000000
set_option linter.unusedVariables false
namespace Mine
abbrev ddm : String := "collections.defaultdict.__missing__"
section
variable {w : World} {A : Around} {s : Shared} {E : Value → Shared → Prop} {R : Result → Shared → Prop} {x dx bm : Addr} {es : Array DictEntry} {n : Nat} {lam : Addr} {k : PySem.Str} {t : Tok} {od : Obj}
theorem k_mod : subIn (hd.heap_39 w.params) (.ref 58) (.type "module") = some false := by k_is
theorem k_od : subIn (hd.heap_39 w.params) (.ref 58) (.type "collections.OrderedDict") = some false := by k_is
theorem k_ty58 : typeIn (hd.heap_39 w.params) (.ref 58) = some (.type "type") := by k_is
theorem k_qn58 : (clsIn (hd.heap_39 w.params) 58).map (·.qualname) = some (Str.ofString "FreezableDefaultDict") := by
  show (some _ : Option PySem.Str) = _; rfl
theorem ddm_sig (a b : Value) : (match Manifest.signature? ddm with | some sig => Bind.checkArgs ddm { sig with full := s!"{(Str.ofString "FreezableDefaultDict").toString}.{Bind.lastOf ddm}" } ⟨[a, b], []⟩ | none => pure ()) = pure () := by kernel_rfl
theorem ddm_kind : builtinKind ddm = some .method := by decide +kernel
theorem ddm_var : Manifest.varargsMethods.contains ddm = false := by decide +kernel
theorem check_ddm (X : (hd.heap_39 w.params).In s.heap) (I : InstAt s.heap x (nodeObj dx es n lam) 58 (some od)) {Q : Unit → Shared → Prop} (q : Q () s) :
    wpAny (model P0 w) A (checkBoundCall ddm ⟨[.ref x, .str k t], []⟩) Q E s := by
  have hm : Looks (model P0 w) s.heap (isInstance (.ref x) (.type "module")) false := I.type.andThen (looks_subIn X k_mod)
  have hs := ddm_sig (.ref x) (.str k t)
  unfold checkBoundCall
  cases hsig : Manifest.signature? ddm with
  | none => exact wpAny_pure q
  | some sig =>
    rw [hsig] at hs
    simp only [ddm_kind]
    show wpAny _ _ (isInstance (.ref x) (.type "module") >>= _) _ _ _
    refine wpAny_bind (hm.here ?_)
    simp only [ddm_var, Bool.or_self, Bool.false_eq_true, if_false]
    obtain ⟨h, g, d, tk, os⟩ := s
    refine wpAny_bind (ks_wpAny_isType_inst I.at_ (fun c e => by cases e) ?_)
    simp only [Bool.false_eq_true, if_false]
    refine wpAny_bind (Looks.at I.type ?_)
    obtain ⟨cd, hc, hq⟩ := Option.map_eq_some_iff.mp (k_qn58 (w := w))
    show wpAny _ _ (classData 58 >>= _) _ _ _
    refine wpAny_bind (Looks.at (looks_clsIn X hc) ?_)
    refine wpAny_bind (Looks.at (looks_typeIn X k_ty58) ?_)
    rw [if_pos (by decide)]
    rw [hq]
    exact wpAny_of_eq hs q
theorem ddm_plain : plainId ddm = true := by decide +kernel
theorem code_bm (X : (hd.heap_39 w.params).In s.heap) (I : InstAt s.heap x (nodeObj dx es n lam) 58 (some od)) (hb : s.heap.get? bm = some (bmObj x))
    (h : codeAny (model P0 w) A (.builtin ddm ⟨[.ref x, .str k t], []⟩) R s) : codeAny (model P0 w) A (.call (.ref bm) ⟨[.str k t], []⟩) R s := by
  refine codeAny_of_tree ?_
  show wpAny _ A.in1 (callAny (.ref bm) ⟨[.str k t], []⟩) _ _ s
  unfold callAny
  refine wpAny_bind (wpAny_load hb ?_)
  show wpAny _ _ (checkBoundCall ddm ⟨[.ref x, .str k t], []⟩ >>= _) _ _ _
  refine wpAny_bind ?_
  with_reducible apply check_ddm X I
  exact wpAny_pure ⟨plainId_quiet ddm_plain _, h⟩
theorem ddm_entry : entryFor table ddm = some Builtin.«collections.defaultdict.__missing__» := entryFor_of_tree (by kernel_rfl)
theorem sd_entry : entryFor table "dict.setdefault" = some Builtin.«dict.setdefault» := entryFor_of_tree (by kernel_rfl)
theorem sd_plain : plainId "dict.setdefault" = true := by decide +kernel
theorem ddm_body {fd : FuncData} {oc : Value} {odd : Option Addr} {osl : Array (Option Value)} (hx : s.heap.get? x = some (nodeObj dx es n lam)) (hl : s.heap.get? lam = some ⟨oc, odd, .func fd, osl⟩)
    (h : codeAny (model P0 w) A.in1 (.call (.ref lam) ⟨[], []⟩) (fun r s' => match r with | .ok (.ret v) => codeAny (model P0 w) A (.builtin "dict.setdefault" ⟨[.ref x, .str k t, v], []⟩) R s' | .ok _ => False | .error e => R (.error e) s') s) :
    codeAny (model P0 w) A (.builtin ddm ⟨[.ref x, .str k t], []⟩) R s := by
  refine codeAny_builtin ddm_entry ?_
  rw [Around.under_plainId ddm_plain _]
  show wpAny _ _ (Builtin.Collections_defaultdict.factory? (.ref x) >>= _) _ _ _
  refine wpAny_bind ?_
  show wpAny _ _ (slotAt x 0 >>= _) _ _ _
  refine wpAny_bind ?_
  unfold slotAt
  refine wpAny_bind (wpAny_loadPart hx (wpAny_pure (wpAny_pure ?_)))
  show wpAny _ _ (callOutOfASlot (.ref lam) [] >>= _) _ _ _
  refine wpAny_bind ?_
  unfold callOutOfASlot borrowsExactly
  refine wpAny_bind (wpAny_bind (wpAny_load hl (wpAny_pure ?_)))
  rw [if_pos rfl]
  unfold callBorrowed
  refine x_call (w := w) (codeAny_mono h ?_) (by intro e; cases e)
  intro r s' z
  cases r with
  | error e => exact wpAny_throw z
  | ok f => cases f with
    | ret v => exact wpAny_pure (wpAny_pure ⟨plainId_quiet sd_plain _, z⟩)
    | _ => exact z.elim
theorem sd_body (X : (hd.heap_39 w.params).In s.heap) (I : InstAt s.heap x (nodeObj dx es n lam) 58 (some od)) (hx : (x == sysModules) = false) (hall : (es.all fun e => isExactStrKey e.key) = true) (hi : es.findIdx? (fun e => e.key.isStr k) = none) (hz : es.size ≤ 1000) {v : Value}
    (h : ∀ h', Heap.SameBut x s.heap h' → h'.get? x = some (nodeObj dx (es.push ⟨hashStr w k, .str k t, v⟩) (n + 1) lam) → R (.ok (.ret v)) { s with heap := h', toks := s.toks + 1 }) :
    codeAny (model P0 w) A (.builtin "dict.setdefault" ⟨[.ref x, .str k t, v], []⟩) R s := by
  refine codeAny_builtin sd_entry ?_
  rw [Around.under_plainId sd_plain _]
  have ho : Looks (model P0 w) s.heap (isInstance (.ref x) (.type "collections.OrderedDict")) false := I.type.andThen (looks_subIn X k_od)
  show wpAny _ _ (Builtin.Dict.keyAndDefault "setdefault" _ >>= _) _ _ _
  refine wpAny_bind ?_
  unfold Builtin.Dict.keyAndDefault Builtin.Dict.notOrdered
  refine wpAny_bind ?_
  rw [if_pos (by decide)]
  show wpAny _ _ (typeOf (.ref x) >>= _) _ _ _
  refine wpAny_bind (I.type.here ?_)
  rw [if_pos (by decide)]
  refine wpAny_bind (ho.here ?_)
  simp only [Bool.false_eq_true, if_false]
  refine wpAny_pure ?_
  show wpAny _ _ (pure ((x, Value.str k t, some v) : Addr × Value × Option Value)) _ _ _
  refine wpAny_pure ?_
  dsimp only
  rw [if_neg (by rw [hx]; exact Bool.false_ne_true)]
  show wpAny _ _ (dictSetDefault x (.str k t) v >>= _) _ _ _
  refine wpAny_bind ?_
  unfold dictSetDefault
  try with_reducible refine wpAny_holding ?_
  refine wpAny_bind (wpAny_pyHash_str (wpAny_bind (KTD.kt_dictFind_strs (s := { s with toks := s.toks + 1 }) I.at_ rfl hall ?_)))
  rw [hi]
  refine wpAny_bind (wpAny_rule (wpAny_bind (wpAny_updateDictKeys (hz := by rw [sizeLine_eq]; omega) (s := { s with toks := s.toks + 1 }) I.at_ rfl ?_)))
  refine wpAny_pure (wpAny_pure ?_)
  exact h _ (Heap.SameBut.update ..) (Heap.get?_update_self _ I.at_ rfl)
end
end Mine
end
section
open PySem PySem.W PyProof.Rows PySem.Calls PySem.W.X
set_option maxRecDepth 100000
set_option maxHeartbeats 8000000
set_option linter.unusedVariables false
namespace Mine
/-! ledgers as sets -/
abbrev Ledger := List (Addr × Obj)
def offW (ds : List Addr) (W : Ledger) : Ledger := W.filter fun p => decide (p.1 ∉ ds)
theorem mem_offW {ds : List Addr} {W : Ledger} {p : Addr × Obj} : p ∈ offW ds W ↔ p ∈ W ∧ p.1 ∉ ds := by
  simp [offW, List.mem_filter]
def setW (a : Addr) (o : Obj) (W : Ledger) : Ledger := W.map fun p => if p.1 = a then (a, o) else p
theorem mem_setW {a : Addr} {o o' : Obj} {W : Ledger} (h : (a, o') ∈ W) : (a, o) ∈ setW a o W := by
  refine List.mem_map.mpr ⟨(a, o'), h, ?_⟩
  simp
theorem mem_setW_ne {a : Addr} {o : Obj} {W : Ledger} {p : Addr × Obj} (h : p ∈ W) (hn : p.1 ≠ a) : p ∈ setW a o W :=
  List.mem_map.mpr ⟨p, h, by rw [if_neg hn]⟩
theorem ne_cls {h₀ h : Heap} {L : Addr} {W : Ledger} (N : News h₀ L h W) {a b : Addr} {oa ob : Obj} (ha : (a, oa) ∈ W) (hb : (b, ob) ∈ W) (hc : oa.cls ≠ ob.cls) : a ≠ b := News.ne_of_cls N ha hb hc

theorem ne_obj {h₀ h : Heap} {L : Addr} {W : Ledger} (N : News h₀ L h W) {a b : Addr} {oa ob : Obj} (ha : (a, oa) ∈ W) (hb : (b, ob) ∈ W) (hc : oa ≠ ob) : a ≠ b := News.twoPlaces N ha hb hc
theorem codeO_list {q : PySem.Str} {oc : Obj} {vs : Array Value} {n : Nat} (h : CodeO q oc) : oc ≠ listOf vs n := by
  rintro rfl
  obtain ⟨vs5, t5, d5, e5⟩ := h
  cases d5
theorem codeO_tab {q : PySem.Str} {oc : Obj} {a b : Int} {c : Addr} (h : CodeO q oc) : oc ≠ tabObj (tab1 a b c) := by
  rintro rfl
  obtain ⟨vs5, t5, d5, e5⟩ := h
  cases d5
  have e6 : some (rawInt b) = some (Value.str q t5) := e5
  cases e6
def NodeIn (w : World) (mg : PySem.Str → Option Value) (W : Ledger) (made x dx : Addr) (es : Array DictEntry) (n : Nat) : Prop :=
  ∃ lam cell c' ctv ocell oc, (x, nodeObj dx es n lam) ∈ W ∧ (lam, lamObj w mg cell c' ctv) ∈ W ∧ (cell, ocell) ∈ W ∧ ocell.data = .cell (some (.ref made)) ∧ (c', oc) ∈ W ∧ CodeO lamQual oc
def Tab104 (W : Ledger) (tab : Array Value) : Prop := (104, tabObj tab) ∈ W ∧ (tab = #[] ∨ ∃ c' oc, tab = tab1 51 37 c' ∧ (c', oc) ∈ W ∧ CodeO lamQual oc)

/-- one node more -/
structure Grown (w : World) (mg : PySem.Str → Option Value) (made : Addr) (vs : Array Value) (n : Nat) (W W' : Ledger) (x dx : Addr) : Prop where
  node : NodeIn w mg W' made x dx #[] 0
  dict : (dx, dictOf [] 0) ∈ W'
  lst : (made, listOf (vs.push (.ref x)) (n + 1)) ∈ W'
  tab : ∃ c' oc, (104, tabObj (tab1 51 37 c')) ∈ W' ∧ (c', oc) ∈ W' ∧ CodeO lamQual oc
  keep : ∀ p ∈ W, p.1 ≠ made → p.1 ≠ 104 → p ∈ W'
  offx : ∀ p ∈ W, Apart p.1 x
  offd : ∀ p ∈ W, Apart p.1 dx

theorem grown_of {w : World} {mg : PySem.Str → Option Value} {made : Addr} {vs : Array Value} {n : Nat} {W W' : Ledger} {h₀ h' : Heap} {L x dx lam cell c' : Addr} {ctv : Value} {ocell oc : Obj} (N' : News h₀ L h' W')
    (m1 : (x, nodeObj dx #[] 0 lam) ∈ W') (m2 : (dx, dictOf [] 0) ∈ W') (m3 : (lam, lamObj w mg cell c' ctv) ∈ W') (m4 : (cell, ocell) ∈ W') (m5 : (made, listOf (vs.push (.ref x)) (n + 1)) ∈ W') (m6 : (104, tabObj (tab1 51 37 c')) ∈ W')
    (m7 : (c', oc) ∈ W') (hc : CodeO lamQual oc) (hd : ocell.data = .cell (some (.ref made))) (hk : ∀ p ∈ W, p.1 ≠ made → p.1 ≠ 104 → p ∈ W') (o1 : ∀ p ∈ W, p.1 ≠ made → p.1 ≠ 104 → Apart p.1 x) (o2 : ∀ p ∈ W, p.1 ≠ made → p.1 ≠ 104 → Apart p.1 dx) :
    Grown w mg made vs n W W' x dx := by
  refine ⟨⟨lam, cell, c', ctv, ocell, oc, m1, m3, m4, hd, m7, hc⟩, m2, m5, ⟨c', oc, m6, m7, hc⟩, hk, fun q hq => ?_, fun q hq => ?_⟩
  · by_cases e1 : q.1 = made
    · rw [e1]; exact ne_cls N' m5 m1 (by simp)
    · by_cases e2 : q.1 = 104
      · rw [e2]; exact ne_cls N' m6 m1 (by simp)
      · exact o1 q hq e1 e2
  · by_cases e1 : q.1 = made
    · rw [e1]; exact ne_cls N' m5 m2 (by simp)
    · by_cases e2 : q.1 = 104
      · rw [e2]; exact ne_cls N' m6 m2 (by simp)
      · exact o2 q hq e1 e2
theorem off_perm {h₀ h : Heap} {L a b : Addr} {oa ob : Obj} {W : Ledger} (N : News h₀ L h W) (ha : (a, oa) ∈ W) (hb : (b, ob) ∈ W) : News h₀ L h ((a, oa) :: (b, ob) :: offW [a, b] W) :=
  N.perm fun q hq => by
    rcases List.mem_cons.mp hq with rfl | hq
    · exact ha
    · rcases List.mem_cons.mp hq with rfl | hq
      · exact hb
      · exact (mem_offW.mp hq).1
theorem off_1 {a b : Addr} {W : Ledger} : ∀ p ∈ offW [a, b] W, p.1 ≠ a := fun q hq => by have := (mem_offW.mp hq).2; simp at this; exact this.1
theorem off_2 {a b : Addr} {W : Ledger} : ∀ p ∈ offW [a, b] W, p.1 ≠ b := fun q hq => by have := (mem_offW.mp hq).2; simp at this; exact this.2
theorem off_in {a b : Addr} {W : Ledger} {p : Addr × Obj} (h : p ∈ W) (h1 : p.1 ≠ a) (h2 : p.1 ≠ b) : p ∈ offW [a, b] W := mem_offW.mpr ⟨h, by simp [h1, h2]⟩

section
variable {p : Program} {loose : List PySem.Str} {mean : ExcName → Option Value} {mg mb : PySem.Str → Option Value} {w : World}
    {gd : Option (List Code)} {cn : PySem.Str} {cs : Scope} {a : Addr} {ccd : Value} {cl : List (PySem.Str × Addr)} {outer : List Env} {A₀ : Around} {base h₀ : Heap} {L : Addr} {m : PySem.Str → Option Value} {W : Ledger} {s : Shared} {made : Addr} {vs : Array Value} {n : Nat}
    {Q E : Value → Shared → Prop} {R : Result → Shared → Prop}
theorem node_W {tab : Array Value} (B : Below A₀ base outer h₀) (F : Fr h₀ L s.heap m) (X : (hd.heap_39 w.params).In h₀) (N : News h₀ L s.heap W) (T : Top p loose mean mg mb h₀) (hcs : cs.kind = .function)
    (hC : CodeHd base 108 104) (hvs : vs.size ≤ 1000) (hm : (made, listOf vs n) ∈ W) (ht : Tab104 W tab)
    (hq : ∀ x dx h' tk W', Fr h₀ L h' m → News h₀ L h' W' → Grown w mg made vs n W W' x dx → Q (.ref x) { s with heap := h', toks := tk }) :
    wpAny (model P0 w) (ktrTop 500 1000 gd cn cs L a ccd cl outer) (call (.ref 109) [.ref made]) Q E s := by
  have hl : made ≠ 104 := ne_cls N hm ht.1 (by simp)
  obtain ⟨ht, rfl | ⟨c', oc, rfl, mc, hc⟩⟩ := ht
  · refine node_first B F X (off_perm N hm ht) T hcs hC hl hvs off_1 off_2 ?_
    intro x dx lam cell c' oc ocell ctv h' tk F' N' hc hd o1 o2
    refine hq _ _ _ _ _ F' N' (grown_of N' (.head _) (.tail _ (.head _)) (.tail _ (.tail _ (.head _))) (.tail _ (.tail _ (.tail _ (.tail _ (.head _))))) (.tail _ (.tail _ (.tail _ (.tail _ (.tail _ (.head _))))))
      (.tail _ (.tail _ (.tail _ (.tail _ (.tail _ (.tail _ (.head _))))))) (.tail _ (.tail _ (.tail _ (.head _)))) hc hd ?_ ?_ ?_)
    · exact fun q hq h1 h2 => .tail _ (.tail _ (.tail _ (.tail _ (.tail _ (.tail _ (.tail _ (off_in hq h1 h2)))))))
    · exact fun q hq h1 h2 => o1 q (off_in hq h1 h2)
    · exact fun q hq h1 h2 => o2 q (off_in hq h1 h2)
  · refine node_more B F X (off_perm N hm ht) T hcs hC hl hvs off_1 off_2 ?_
    intro x dx lam cell ocell ctv h' tk F' N' hd o1 o2
    have hcl : c' ≠ made := ne_obj N mc hm (codeO_list hc)
    have hct : c' ≠ 104 := ne_obj N mc ht (codeO_tab hc)
    refine hq _ _ _ _ _ F' N' (grown_of N' (oc := oc) (.head _) (.tail _ (.head _)) (.tail _ (.tail _ (.head _))) (.tail _ (.tail _ (.tail _ (.head _)))) (.tail _ (.tail _ (.tail _ (.tail _ (.head _)))))
      (.tail _ (.tail _ (.tail _ (.tail _ (.tail _ (.head _)))))) (.tail _ (.tail _ (.tail _ (.tail _ (.tail _ (.tail _ (off_in mc hcl hct))))))) hc hd ?_ ?_ ?_)
    · exact fun q hq h1 h2 => .tail _ (.tail _ (.tail _ (.tail _ (.tail _ (.tail _ (off_in hq h1 h2))))))
    · exact fun q hq h1 h2 => o1 q (off_in hq h1 h2)
    · exact fun q hq h1 h2 => o2 q (off_in hq h1 h2)
end
end Mine
end
section
open PySem PySem.W PyProof.Rows PySem.Calls PySem.W.X
set_option maxRecDepth 100000
set_option maxHeartbeats 8000000
set_option linter.unusedVariables false
namespace Mine
section
variable {p : Program} {loose : List PySem.Str} {mean : ExcName → Option Value} {mg mb : PySem.Str → Option Value} {w : World}
    {gd : Option (List Code)} {cn : PySem.Str} {cs : Scope} {a : Addr} {ccd : Value} {cl : List (PySem.Str × Addr)} {outer : List Env} {A₀ : Around} {base h₀ : Heap} {L : Addr} {m : PySem.Str → Option Value} {W : Ledger} {s : Shared} {made : Addr} {vs : Array Value} {n : Nat}
    {Q E : Value → Shared → Prop} {R : Result → Shared → Prop}
theorem codeO_node {q : PySem.Str} {oc : Obj} {dx lam : Addr} {es : Array DictEntry} {n : Nat} (h : CodeO q oc) : oc ≠ nodeObj dx es n lam := by
  rintro rfl
  obtain ⟨vs5, t5, d5, e5⟩ := h
  cases d5
theorem cell_ne {oc : Obj} {v : Value} {o : Obj} (h : oc.data = .cell (some v)) (h2 : ∀ u, o.data ≠ .cell u) : oc ≠ o := by
  rintro rfl
  exact h2 _ h
theorem lam_W {lam₀ cell₀ c₀ : Addr} {ctv₀ : Value} {oc₀ ocell₀ : Obj} {c' : Addr} {oc : Obj} (B : Below A₀ base outer h₀) (F : Fr h₀ L s.heap m) (X : (hd.heap_39 w.params).In h₀) (N : News h₀ L s.heap W) (T : Top p loose mean mg mb h₀) (hcs : cs.kind = .function)
    (hC : CodeHd base 108 104) (hvs : vs.size ≤ 1000) (hm : (made, listOf vs n) ∈ W) (ht : (104, tabObj (tab1 51 37 c')) ∈ W) (mc : (c', oc) ∈ W) (hc : CodeO lamQual oc)
    (m1 : (lam₀, lamObj w mg cell₀ c₀ ctv₀) ∈ W) (m2 : (cell₀, ocell₀) ∈ W) (m3 : ocell₀.data = .cell (some (.ref made))) (m4 : (c₀, oc₀) ∈ W) (m5 : CodeO lamQual oc₀)
    (hq : ∀ x dx h' tk W', Fr h₀ L h' m → News h₀ L h' W' → Grown w mg made vs n W W' x dx → R (.ok (.ret (.ref x))) { s with heap := h', toks := tk }) :
    codeAny (model P0 w) (ktrTop 490 900 gd cn cs L a ccd cl outer) (.call (.ref lam₀) ⟨[], []⟩) R s := by
  have hl : made ≠ 104 := ne_cls N hm ht (by simp)
  have hcl : c' ≠ made := ne_obj N mc hm (codeO_list hc)
  have hct : c' ≠ 104 := ne_obj N mc ht (codeO_tab hc)
  have hcl' : c₀ ≠ made := ne_obj N m4 hm (codeO_list m5)
  have hct' : c₀ ≠ 104 := ne_obj N m4 ht (codeO_tab m5)
  have e1 : lam₀ ≠ made := ne_cls N m1 hm (by simp)
  have e2 : lam₀ ≠ 104 := ne_cls N m1 ht (by simp)
  have e3 : cell₀ ≠ made := ne_obj N m2 hm (cell_ne m3 (by intro u e; cases e))
  have e4 : cell₀ ≠ 104 := ne_obj N m2 ht (cell_ne m3 (by intro u e; cases e))
  refine lam_K B F X (off_perm N hm ht) T hcs hC hl hvs off_1 off_2 (off_in m1 e1 e2) (off_in m2 e3 e4) m3 (off_in m4 hcl' hct') m5 ?_
  intro x dx lam cell ocell ctv h' tk F' N' hd o1 o2
  refine hq _ _ _ _ _ F' N' (grown_of N' (oc := oc) (.head _) (.tail _ (.head _)) (.tail _ (.tail _ (.head _))) (.tail _ (.tail _ (.tail _ (.head _)))) (.tail _ (.tail _ (.tail _ (.tail _ (.head _)))))
      (.tail _ (.tail _ (.tail _ (.tail _ (.tail _ (.head _)))))) (.tail _ (.tail _ (.tail _ (.tail _ (.tail _ (.tail _ (off_in mc hcl hct))))))) hc hd ?_ ?_ ?_)
  · exact fun q hq h1 h2 => .tail _ (.tail _ (.tail _ (.tail _ (.tail _ (.tail _ (off_in hq h1 h2))))))
  · exact fun q hq h1 h2 => o1 q (off_in hq h1 h2)
  · exact fun q hq h1 h2 => o2 q (off_in hq h1 h2)

/-- where a node is grown and put under a key -/
structure Under (w : World) (mg : PySem.Str → Option Value) (made : Addr) (vs : Array Value) (n : Nat) (W W' : Ledger) (x dx : Addr) (es : Array DictEntry) (nx : Nat) (k : PySem.Str) (t : Tok) (x2 dx2 : Addr) : Prop where
  node : NodeIn w mg W' made x2 dx2 #[] 0
  dict : (dx2, dictOf [] 0) ∈ W'
  lst : (made, listOf (vs.push (.ref x2)) (n + 1)) ∈ W'
  tab : ∃ c' oc, (104, tabObj (tab1 51 37 c')) ∈ W' ∧ (c', oc) ∈ W' ∧ CodeO lamQual oc
  up : NodeIn w mg W' made x dx (es.push ⟨hashStr w k, .str k t, .ref x2⟩) (nx + 1)
  keep : ∀ p ∈ W, p.1 ≠ made → p.1 ≠ 104 → p.1 ≠ x → p ∈ W'
  offx : ∀ p ∈ W, Apart p.1 x2
  offd : ∀ p ∈ W, Apart p.1 dx2
theorem obj_ne_cls {o o' : Obj} (h : o.cls ≠ o'.cls) : o ≠ o' := fun e => h (congrArg Obj.cls e)
theorem under_of {h₀ h h1 : Heap} {L x dx x2 dx2 c₁ : Addr} {es : Array DictEntry} {nx : Nat} {k : PySem.Str} {t : Tok} {W W2 : Ledger} (N : News h₀ L h W) (N2 : News h₀ L h1 W2) (G : Grown w mg made vs n W W2 x2 dx2) (I : NodeIn w mg W made x dx es nx) (hml : (made, listOf vs n) ∈ W) (h104 : (104, tabObj (tab1 51 37 c₁)) ∈ W) :
    ∃ lam, (x, nodeObj dx es nx lam) ∈ W2 ∧ Under w mg made vs n W (setW x (nodeObj dx (es.push ⟨hashStr w k, .str k t, .ref x2⟩) (nx + 1) lam) W2) x dx es nx k t x2 dx2 := by
  obtain ⟨lam, cell, c', ctv, ocell, oc, i1, i2, i3, i4, i5, i6⟩ := I
  have kp : ∀ {b : Addr} {o : Obj}, (b, o) ∈ W → o ≠ listOf vs n → o ≠ tabObj (tab1 51 37 c₁) → (b, o) ∈ W2 := fun hb h1 h2 => G.keep _ hb (ne_obj N hb hml h1) (ne_obj N hb h104 h2)
  have j1 := kp i1 (obj_ne_cls (by simp)) (obj_ne_cls (by simp))
  have j2 := kp i2 (obj_ne_cls (by simp)) (obj_ne_cls (by simp))
  have j3 := kp i3 (cell_ne i4 (by intro u e; cases e)) (cell_ne i4 (by intro u e; cases e))
  have j5 := kp i5 (codeO_list i6) (codeO_tab i6)
  have q : ∀ {b : Addr} {o o' : Obj}, (b, o) ∈ W2 → o ≠ nodeObj dx es nx lam → (b, o) ∈ setW x o' W2 := fun hb hn => mem_setW_ne hb (ne_obj N2 hb j1 hn)
  refine ⟨lam, j1, ?_⟩
  obtain ⟨⟨lam2, cell2, c2, ctv2, ocell2, oc2, k1, k2, k3, k4, k5, k6⟩, gd, gl, ⟨c3, oc3, g1, g2, g3⟩, gk, go, gq⟩ := G
  refine ⟨⟨lam2, cell2, c2, ctv2, ocell2, oc2, mem_setW_ne k1 (go _ i1).en, q k2 (obj_ne_cls (by simp)), q k3 (cell_ne k4 (by intro u e; cases e)), k4, q k5 (codeO_node k6), k6⟩, q gd (obj_ne_cls (by simp)), q gl (obj_ne_cls (by simp)),
    ⟨c3, oc3, q g1 (obj_ne_cls (by simp)), q g2 (codeO_node g3), g3⟩, ⟨lam, cell, c', ctv, ocell, oc, mem_setW j1, q j2 (obj_ne_cls (by simp)), q j3 (cell_ne i4 (by intro u e; cases e)), i4, q j5 (codeO_node i6), i6⟩, ?_, go, gq⟩
  exact fun r hr h1 h2 h3 => mem_setW_ne (gk r hr h1 h2) h3
end
end Mine
end
section
local macro_rules | `(tactic| walk_at "no such line") => `(tactic| fail)
open PySem PySem.W PyProof.Rows PySem.Calls PySem.W.X
set_option maxRecDepth 100000
set_option maxHeartbeats 8000000
set_option linter.unusedVariables false
namespace Mine
section
variable {p : Program} {loose : List PySem.Str} {mean : ExcName → Option Value} {mg mb : PySem.Str → Option Value} {w : World}
    {gd : Option (List Code)} {cn : PySem.Str} {cs : Scope} {a : Addr} {ccd : Value} {cl : List (PySem.Str × Addr)} {outer : List Env} {A₀ : Around} {base h₀ : Heap} {L : Addr} {m : PySem.Str → Option Value} {W : Ledger} {s : Shared} {made : Addr} {vs : Array Value} {n : Nat}
    {Q E : Value → Shared → Prop} {R : Result → Shared → Prop}
theorem missing_0 {x dx c' : Addr} {oc : Obj} {es : Array DictEntry} {nx : Nat} {k : PySem.Str} {t : Tok} (B : Below A₀ base outer h₀) (F : Fr h₀ L s.heap m) (X : (hd.heap_39 w.params).In h₀) (N : News h₀ L s.heap W) (T : Top p loose mean mg mb h₀) (hcs : cs.kind = .function)
    (hC : CodeHd base 108 104) (hM : ∃ o, base.get? sysModules = some o) (hvs : vs.size ≤ 1000) (hm : (made, listOf vs n) ∈ W) (ht : (104, tabObj (tab1 51 37 c')) ∈ W) (mc : (c', oc) ∈ W) (hc : CodeO lamQual oc)
    (I : NodeIn w mg W made x dx es nx) (hfz : (dx, dictOf [] 0) ∈ W) (hall : (es.all fun e => isExactStrKey e.key) = true) (hi : es.findIdx? (fun e => e.key.isStr k) = none) (hz : es.size ≤ 1000)
    (hq : ∀ x2 dx2 h' tk W', Fr h₀ L h' m → News h₀ L h' W' → Under w mg made vs n W W' x dx es nx k t x2 dx2 → Q (.ref x2) { s with heap := h', toks := tk }) :
    wpAny (model P0 w) (ktrTop 480 800 gd cn cs L a ccd cl outer) (call (.ref 48) [.ref x, .str k t]) Q E s := by
  obtain ⟨lam, cell, cx, ctv, ocell, ocx, i1, i2, i3, i4, i5, i6⟩ := id I
  refine wpAny_call ?_
  refine' ks_code_super (binds := [(PySem.Str.ofString "self", Value.ref x), (PySem.Str.ofString "key", Value.str k t)]) B F X N T ?kA ?kF ?kK ?k6 ?k7 ?k8 ?k9 ?kB ?_ ?c1 ?c2 ?c3 ?c4
  case kA => exact rfl
  case kF => exact rfl
  case kK => exact hcs
  case k6 => k_is
  case k7 => k_is
  case k8 => k_room
  case k9 => exact BindsTo.of_eq rfl
  case kB => exact locs rfl
  case c1 => decide
  case c2 => exact rfl
  case c3 => exact rfl
  case c4 => exact rfl
  intro g' L' h' FG' F' N' B' X' T' l1
  refine ks_wpAt_execs_cons ?_
  refine ks_wpAt_Return_some ?_
  show _root_.PySem.wpAt _ _ _ (eval (.Call (.Name _ _) _ _ _) _ >>= _) _ _ _
  refine _root_.PySem.wpAt_bind ?_
  show _root_.PySem.wpAt _ _ _ (eval (.Name _ _) _ >>= _) _ _ _
  refine _root_.PySem.wpAt_bind (wpAt_of_wpAny ?_)
  w_top off
  walk1
  show _root_.PySem.wpAt _ _ _ (callWith _ (.builtin "getattr") [] [(false, eval _ _), (false, eval _ _), (false, eval _ _)] []) _ _ _
  refine at_callWith_builtin (by simp) rfl ?_
  refine at_spliced_cons (wpAt_of_wpAny ?_)
  walk1
  refine at_spliced_cons (wpAt_of_wpAny ?_)
  walk1
  refine at_spliced_cons (at_Attribute ?_)
  refine ks_node F' X' N' T' (by k_is) (by rfl) (by rfl) (inst_N N' i1 hfz) (by k_is) (by rfl) (by first | rfl | decide +kernel) (by k_is) (by k_is) (by k_is) (by k_is) (by decide) (by rfl) (by rfl) (by rfl) (by rfl) (by decide +kernel) (by first | boot_by_name | rfl | kernel_rfl) ?_
  intro so h2 F2 N2 l2
  refine super_get (du := 481) (u := 803) (X'.keeps F2.keep) (N2 _ (.head _)).1 (N2 _ (.tail _ i1)).1 ?hxC (Nat.le_of_ble_eq_true rfl) (Nat.le_of_ble_eq_true rfl) ?_
  case hxC => exact ks_ne (C := 58) (X'.keeps F2.keep) (inst_N N2 (.tail _ i1) (.tail _ hfz)) (cd := _) (by k_is)
  intro bm h3 tk3 D3
  have F3 := fr_of_mem F2 D3
  have N3 := news_of_mem F2 N2 D3
  refine at_spliced_nil ?_
  refine wpAny_le (getattr_raw0 (bm := bm) (X'.keeps F3.keep) (N3 _ (.tail _ (.tail _ i1))).1 (N3 _ (.tail _ (.tail _ hfz))).1 ?_) (Nat.le_of_ble_eq_true rfl) (Nat.le_of_ble_eq_true rfl)
  intro own h4 tk4 D4
  have F4 := fr_of_mem F3 D4
  have N4 := news_of_mem F3 N3 D4
  have NW : News g' L' h4 W := N4.perm fun q hq => List.mem_append_right _ (.tail _ (.tail _ hq))
  have hb4 : h4.get? bm = some (bmObj x) := (N4 _ (List.mem_append_right _ (.head _))).1
  clear N4 N3 N2 D4 D3
  refine wpAt_of_wpAny ?_
  show wpAny _ _ (callWith _ (.ref bm) [] [(false, eval (.Name _ _) _)] []) _ _ _
  refine callWith_of (P := fun h => h.get? bm = some (bmObj x)) rfl ?hk (evalArgs_plain (spliced_cons ?_))
  case hk => exact fun h e => ⟨.machine, .inr (.inl rfl), (Looks.ld e).andThen (Looks.of_pure rfl)⟩
  walk1
  refine spliced_nil ⟨hb4, ?_⟩
  have X4 : (hd.heap_39 w.params).In h4 := X'.keeps F4.keep
  have I4 : InstAt h4 x (nodeObj dx es nx lam) 58 (some (dictOf [] 0)) := inst_N NW i1 hfz
  refine wpAny_call (code_bm X4 I4 hb4 (ddm_body I4.at_ (NW _ i2).1 ?_))
  have hxs : (x == sysModules) = false := by
    obtain ⟨o, ho⟩ := hM
    have h1 := B'.stays _ _ ho
    have h2 := (NW _ i1).2.2
    refine beq_eq_false_iff_ne.mpr fun e => ?_
    rw [e, h1] at h2
    cases h2
  refine codeAny_le (lam_W B' F4 X' NW T' rfl hC hvs hm ht mc hc i2 i3 i4 i5 i6 ?_) (Nat.le_of_ble_eq_true rfl) (Nat.le_of_ble_eq_true rfl)
  intro x2 dx2 h5 tk5 W5 F5 N5 G
  obtain ⟨lam', j1, U⟩ := under_of (k := k) (t := t) NW N5 G I hm ht
  have jd : (dx, dictOf [] 0) ∈ W5 := G.keep _ hfz (ne_cls NW hfz hm (by simp)) (ne_cls NW hfz ht (by simp))
  have I5 : InstAt h5 x (nodeObj dx es nx lam') 58 (some (dictOf [] 0)) := inst_N N5 j1 jd
  dsimp only
  refine sd_body (X'.keeps F5.keep) I5 hxs hall hi hz ?_
  intro h6 hs6 ho6
  have F6 := F5.update N5 j1 hs6
  have N6 := News.update N5 j1 hs6 ho6
  refine leaveK_ F6 N6 fun F7 N7 => ?_
  exact hq _ _ _ _ _ F7 N7 U
end
end Mine
end
section
open PySem PySem.W PyProof.Rows PySem.Calls PySem.W.X
set_option maxRecDepth 100000
set_option maxHeartbeats 8000000
set_option linter.unusedVariables false
namespace Mine
section
variable {w : World} {s : Shared} {Q E : Value → Shared → Prop} {x dx so bm : Addr} {es : Array DictEntry} {n : Nat} {lam : Addr} {k : PySem.Str} {tk : Tok} {od : Obj} {d u : Nat} {fr : Option (List Env)} {gd : Option (List Code)}
local macro_rules | `(tactic| x_close) => do let hq := Lean.mkIdent `hq; `(tactic| exact $hq)
theorem df_raw0 (X : (hd.heap_39 w.params).In s.heap) (hx : s.heap.get? x = some { cls := .ref 58, dict := some dx, data := .dict es n, slots := #[some (.ref lam)] })
   (hq : Q (.ref lam) ⟨s.heap, s.gens, s.drawn, s.toks, s.os⟩) :
    wpAny (model P0 w) ⟨none, 600, fr, gd, 2000⟩ (call (.builtin "collections.defaultdict.__getattribute__") [.ref x, .str (Str.ofString "default_factory") tk]) Q E s := by
  w_top off
  x_run
end
section
variable {w : World} {s : Shared} {Q E : Value → Shared → Prop} {x dx so bm : Addr} {es : Array DictEntry} {n : Nat} {lam : Addr} {k : PySem.Str} {tk : Tok} {od : Obj} {d u : Nat} {fr : Option (List Env)} {gd : Option (List Code)}
abbrev ddga : String := "collections.defaultdict.__getattribute__"
theorem ddga_bind (self : Value) : bindSpecial (.builtin ddga) self = pure (.builtin ddga, [self]) := by kernel_rfl
theorem k_ga : findIn (hd.heap_39 w.params) (.ref 58) "__getattribute__" = some (some (.builtin ddga)) := by k_is
theorem k_gat : findIn (hd.heap_39 w.params) (.ref 58) "__getattr__" = some none := by k_is
theorem k_df : findIn (hd.heap_39 w.params) (.ref 58) "default_factory" = some (some (.builtin "collections.defaultdict.default_factory")) := by k_is
theorem df_type : typeOf (.builtin "collections.defaultdict.default_factory") = pure (.type "member_descriptor") := by kernel_rfl
theorem canon_oga : (Manifest.canonical ddga != "object.__getattribute__") = false := by decide +kernel
theorem getMeth_df {pl : Sem Bool} {Q : Value × List Value → Shared → Prop} (X : (hd.heap_39 w.params).In s.heap) (I : InstAt s.heap x (nodeObj dx es n lam) 58 (some od)) (hdd : d ≤ 600) (hu : u ≤ 2000)
    (hq : Q (.ref lam, []) { s with toks := s.toks + 1 }) : wpAny (model P0 w) ⟨none, d, fr, gd, u⟩ (getMethod (.ref x) (Str.ofString "default_factory") pl) Q E s := by
  have X' : (hd.heap_39 w.params).In ({ s with toks := s.toks + 1 } : Shared).heap := X
  have I' : InstAt ({ s with toks := s.toks + 1 } : Shared).heap x (nodeObj dx es n lam) 58 (some od) := I
  unfold getMethod
  refine wpAny_bind (wpAny_bind (I.type.here ?_))
  refine (looks_findIn X k_ga).here ?_
  show wpAny _ _ (if (Manifest.canonical ddga != "object.__getattribute__") = true then _ else _) _ _ _
  rw [if_neg (by rw [canon_oga]; exact Bool.false_ne_true)]
  refine wpAny_bind (wpAny_bind (I.type.here ?_))
  refine (looks_findIn X k_gat).here ?_
  simp only [Option.isSome_none, Bool.false_eq_true, if_false]
  refine wpAny_bind (wpAny_bind (I.type.here ?_))
  refine (looks_findIn X k_df).here ?_
  show wpAny _ _ (typeOf (.builtin "collections.defaultdict.default_factory") >>= _) _ _ _
  refine wpAny_bind (wpAny_of_eq df_type ?_)
  rw [if_pos (by decide)]
  refine wpAny_bind ?_
  unfold getAttr getAttrBy
  refine wpAny_bind (wpAny_mkText (wpAny_holding (wpAny_bind (Looks.here (s := { s with toks := s.toks + 1 }) I'.type ?_))))
  refine wpAny_bind (Looks.here (s := { s with toks := s.toks + 1 }) (looks_findIn X' k_ga) ?_)
  show wpAny _ _ (getAttrByItsOwn (.ref x) (.str (Str.ofString "default_factory") s.toks) (.ref 58) (.builtin ddga) true false) _ _ _
  unfold getAttrByItsOwn hookBefore callGetattribute boundAndCalled
  rw [if_pos (by rfl)]
  refine wpAny_bind (Looks.here (s := { s with toks := s.toks + 1 }) (looks_findIn X' k_gat) ?_)
  refine wpAny_bind (wpAny_attempt (wpAny_holding ?_))
  show wpAny _ _ (bindSpecial (.builtin ddga) (.ref x) >>= _) _ _ _
  refine wpAny_bind (wpAny_of_eq (ddga_bind _) ?_)
  have g0 := df_raw0 (w := w) (s := { s with toks := s.toks + 1 }) (fr := fr) (gd := gd) (tk := s.toks) (E := fun _ _ => False) (Q := fun v s' => v = .ref lam ∧ s' = { s with toks := s.toks + 1 }) X I.at_ ⟨rfl, rfl⟩
  refine wpAny_mono (wpAny_le g0 hdd hu) ?_ (fun _ _ z => z.elim)
  rintro v s' ⟨rfl, rfl⟩
  exact wpAny_pure (wpAny_pure hq)
end
end Mine
end
section
local macro_rules | `(tactic| walk_at "no such line") => `(tactic| fail)
open PySem PySem.W PyProof.Rows PySem.Calls PySem.W.X
set_option maxRecDepth 100000
set_option maxHeartbeats 8000000
set_option linter.unusedVariables false
namespace Mine
noncomputable def frAt (w : World) : Arguments × PySem.Expr × Scope :=
  match (hd.heap_39 w.params).lookup 55 with
  | some ⟨_, _, .func fd, _⟩ => (match fd.body with
    | .stmts (.Assign _ (.Lambda a b sc _) _ :: _) => (a, b, sc)
    | _ => ⟨⟨[], [], none, [], [], none, []⟩, .Name (Str.ofString "") default, default⟩)
  | _ => ⟨⟨[], [], none, [], [], none, []⟩, .Name (Str.ofString "") default, default⟩
abbrev frQual : PySem.Str := (Str.ofString "FreezableDefaultDict.freeze" ++ Str.ofString ".<locals>.") ++ Str.ofString "<lambda>"
noncomputable abbrev frObj (w : World) (mg : PySem.Str → Option Value) (cell c' : Addr) (ctv : Value) : Obj :=
  kla_obj (Str.ofString "<lambda>") frQual (frAt w).1 (frAt w).2.1 (frAt w).2.2 [(Str.ofString "self", cell)] ((mg (Str.ofString "__name__")).getD .none) c' ctv
def FzYes (w : World) (mg : PySem.Str → Option Value) (W : Ledger) (x dx : Addr) : Prop :=
  ∃ lamF cellF cF ctvF ocellF ocF hs tk, (dx, dictOf [⟨hs, .str (Str.ofString "_frozen") tk, .ref lamF⟩] 1) ∈ W ∧ (lamF, frObj w mg cellF cF ctvF) ∈ W ∧ (cellF, ocellF) ∈ W ∧ ocellF.data = .cell (some (.ref x)) ∧ (cF, ocF) ∈ W ∧ CodeO frQual ocF
section
variable {p : Program} {loose : List PySem.Str} {mean : ExcName → Option Value} {mg mb : PySem.Str → Option Value} {w : World}
    {gd : Option (List Code)} {cn : PySem.Str} {cs : Scope} {a : Addr} {ccd : Value} {cl : List (PySem.Str × Addr)} {outer : List Env} {A₀ : Around} {base h₀ : Heap} {L : Addr} {m : PySem.Str → Option Value} {W : Ledger} {s : Shared} {made : Addr} {vs : Array Value} {n : Nat}
    {Q E : Value → Shared → Prop} {R : Result → Shared → Prop}
local macro_rules | `(tactic| k_mem) => `(tactic| assumption)
theorem missing_1 {x dx c' : Addr} {oc : Obj} {es : Array DictEntry} {nx : Nat} {k : PySem.Str} {t : Tok} (B : Below A₀ base outer h₀) (F : Fr h₀ L s.heap m) (X : (hd.heap_39 w.params).In h₀) (N : News h₀ L s.heap W) (T : Top p loose mean mg mb h₀) (hcs : cs.kind = .function)
    (hC : CodeHd base 108 104) (hM : ∃ o, base.get? sysModules = some o) (hvs : vs.size ≤ 1000) (hm : (made, listOf vs n) ∈ W) (ht : (104, tabObj (tab1 51 37 c')) ∈ W) (mc : (c', oc) ∈ W) (hc : CodeO lamQual oc)
    (I : NodeIn w mg W made x dx es nx) (Z : FzYes w mg W x dx) 
    (hq : ∀ x2 dx2 h' tk W', Fr h₀ L h' m → News h₀ L h' W' → Grown w mg made vs n W W' x2 dx2 → Q (.ref x2) { s with heap := h', toks := tk }) :
    wpAny (model P0 w) (ktrTop 480 800 gd cn cs L a ccd cl outer) (call (.ref 48) [.ref x, .str k t]) Q E s := by
  obtain ⟨lam, cell, cx, ctv, ocell, ocx, i1, i2, i3, i4, i5, i6⟩ := id I
  obtain ⟨lamF, cellF, cF, ctvF, ocellF, ocF, hs, tkF, z1, z2, z3, z4, z5, z6⟩ := id Z
  refine wpAny_call ?_
  refine' ks_code_super (binds := [(PySem.Str.ofString "self", Value.ref x), (PySem.Str.ofString "key", Value.str k t)]) B F X N T ?kA ?kF ?kK ?k6 ?k7 ?k8 ?k9 ?kB ?_ ?c1 ?c2 ?c3 ?c4
  case kA => exact rfl
  case kF => exact rfl
  case kK => exact hcs
  case k6 => k_is
  case k7 => k_is
  case k8 => k_room
  case k9 => exact BindsTo.of_eq rfl
  case kB => exact locs rfl
  case c1 => decide
  case c2 => exact rfl
  case c3 => exact rfl
  case c4 => exact rfl
  intro g' L' h' FG' F' N' B' X' T' l1
  refine ks_wpAt_execs_cons ?_
  refine ks_wpAt_Return_some ?_
  show _root_.PySem.wpAt _ _ _ (eval (.Call (.Name _ _) _ _ _) _ >>= _) _ _ _
  refine _root_.PySem.wpAt_bind ?_
  show _root_.PySem.wpAt _ _ _ (eval (.Name _ _) _ >>= _) _ _ _
  refine _root_.PySem.wpAt_bind (wpAt_of_wpAny ?_)
  w_top off
  walk1
  show _root_.PySem.wpAt _ _ _ (callWith _ (.builtin "getattr") [] [(false, eval _ _), (false, eval _ _), (false, eval _ _)] []) _ _ _
  refine at_callWith_builtin (by simp) rfl ?_
  refine at_spliced_cons (wpAt_of_wpAny ?_)
  walk1
  refine at_spliced_cons (wpAt_of_wpAny ?_)
  walk1
  refine at_spliced_cons (at_Attribute ?_)
  refine ks_node F' X' N' T' (by k_is) (by rfl) (by rfl) (inst_N N' i1 z1) (by k_is) (by rfl) (by first | rfl | decide +kernel) (by k_is) (by k_is) (by k_is) (by k_is) (by decide) (by rfl) (by rfl) (by rfl) (by rfl) (by decide +kernel) (by first | boot_by_name | rfl | kernel_rfl) ?_
  intro so h2 F2 N2 l2
  refine super_get (du := 481) (u := 803) (X'.keeps F2.keep) (N2 _ (.head _)).1 (N2 _ (.tail _ i1)).1 ?hxC (Nat.le_of_ble_eq_true rfl) (Nat.le_of_ble_eq_true rfl) ?_
  case hxC => exact ks_ne (C := 58) (X'.keeps F2.keep) (inst_N N2 (.tail _ i1) (.tail _ z1)) (cd := _) (by k_is)
  intro bm h3 tk3 D3
  have F3 := fr_of_mem F2 D3
  have N3 := news_of_mem F2 N2 D3
  refine at_spliced_nil ?_
  refine wpAny_le (getattr_raw1 (bm := bm) (X'.keeps F3.keep) (N3 _ (.tail _ (.tail _ i1))).1 (N3 _ (.tail _ (.tail _ z1))).1 ?_) (Nat.le_of_ble_eq_true rfl) (Nat.le_of_ble_eq_true rfl)
  have NW : News g' L' h3 W := N3.perm fun q hq => .tail _ (.tail _ hq)
  clear N3 N2 D3
  refine wpAt_of_wpAny ?_
  show wpAny _ _ (callWith _ (.ref lamF) [] [(false, eval (.Name _ _) _)] []) _ _ _
  refine callWith_of (P := fun h => ∃ o, h.get? lamF = some o ∧ o.data = .func (kla_fn (Str.ofString "<lambda>") frQual (frAt w).1 (frAt w).2.1 (frAt w).2.2 [(Str.ofString "self", cellF)] ((mg (Str.ofString "__name__")).getD .none) (.ref cF) ctvF)) rfl ?hk (evalArgs_plain (spliced_cons ?_))
  case hk => exact fun h ⟨o, e, ed⟩ => ⟨.frame, .inl rfl, (Looks.ld e).andThen (by rw [ed]; exact Looks.of_pure rfl)⟩
  walk1
  refine spliced_nil ⟨⟨_, (NW _ z2).1, rfl⟩, ?_⟩
  refine (fun (e9 : frAt w = (_, .Call (.Attribute (.Name _ _) _ _) [] [] _, ⟨_, _, _, _, _⟩)) => ?_) rfl
  refine wpAny_call ?_
  refine kla_code (binds := [(Str.ofString "key", Value.str k t)]) B' F3 X' NW T' rfl rfl rfl z2 ?hcd ?room rfl (locs rfl) ?_ rfl rfl rfl ?cells
  case hcd =>
    obtain ⟨vs5, t5, d5, e5⟩ := z6
    exact ⟨_, _, _, _, rfl, (NW _ z5).1, d5, e5⟩
  case room => k_room
  case cells => rw [e9]; decide
  intro g2 L2 h4 FG2 F4 N4 B2 X2 T2
  rw [e9]
  try dsimp only
  walk1
  walk1
  refine getMeth_df (X2.keeps F4.keep) (inst_N N4 i1 z1) (Nat.le_of_ble_eq_true rfl) (Nat.le_of_ble_eq_true rfl) ?_
  dsimp only
  show wpAny _ _ (callWith _ (.ref lam) [] [] []) _ _ _
  refine callWith_of (P := fun h => ∃ o, h.get? lam = some o ∧ o.data = .func (kla_fn (Str.ofString "<lambda>") lamQual (lamAt w).1 (lamAt w).2.1 (lamAt w).2.2 [(Str.ofString "made", cell)] ((mg (Str.ofString "__name__")).getD .none) (.ref cx) ctv)) rfl ?hk2 (evalArgs_nil3 ?_)
  case hk2 => exact fun h ⟨o, e, ed⟩ => ⟨.frame, .inl rfl, (Looks.ld e).andThen (by rw [ed]; exact Looks.of_pure rfl)⟩
  refine ⟨⟨_, (N4 _ i2).1, rfl⟩, ?_⟩
  refine wpAny_call ?_
  refine codeAny_le (lam_W B2 F4 X2 N4 T2 rfl hC hvs hm ht mc hc i2 i3 i4 i5 i6 ?_) (Nat.le_of_ble_eq_true rfl) (Nat.le_of_ble_eq_true rfl)
  intro x2 dx2 h5 tk5 W5 F5 N5 G
  refine leaveK_ F5 N5 fun F6 N6 => ?_
  refine leaveK_ F6 N6 fun F7 N7 => ?_
  exact hq _ _ _ _ _ F7 N7 G
end
end Mine
end
section
open PySem PySem.W PyProof.Rows PySem.Calls PySem.W.X
set_option maxRecDepth 100000
set_option maxHeartbeats 8000000
set_option linter.unusedVariables false
namespace Mine
section
variable {p : Program} {loose : List PySem.Str} {mean : ExcName → Option Value} {mg mb : PySem.Str → Option Value} {w : World}
    {gd : Option (List Code)} {cn : PySem.Str} {cs : Scope} {a : Addr} {ccd : Value} {cl : List (PySem.Str × Addr)} {outer : List Env} {A₀ : Around} {base h₀ : Heap} {L : Addr} {m : PySem.Str → Option Value} {W : Ledger} {s : Shared} {made : Addr} {vs : Array Value} {n : Nat}
    {Q E : Value → Shared → Prop} {R : Result → Shared → Prop}

theorem node_sub {value slice : PySem.Expr} {x dx : Addr} {es : Array DictEntry} {nx : Nat} {lam : Addr} {od : Obj} {k : PySem.Str} {t : Tok} {A : Around} (X : (hd.heap_39 w.params).In s.heap) (I : InstAt s.heap x (nodeObj dx es nx lam) 58 (some od))
    (h : wpAny (model P0 w) A (getItem (.ref x) (.str k t)) Q E s) (hs : subscripted slice false (.ref x) (.str k t) = operate [.ref x, .str k t] (getItem (.ref x) (.str k t))) :
    wpAny (model P0 w) A (subscriptTail value slice (.ref x) (.str k t)) Q E s := by
  unfold subscriptTail
  refine wpAny_bind ?_
  unfold getitemInPython
  refine wpAny_bind (wpAny_bind (I.type.here ((looks_findIn X k_gi).here ?_)))
  refine wpAny_pure (wpAny_bind ?_)
  rw [hs]
  exact wpAny_operating (wpAny_mono h (fun r s₃ h₃ => wpAny_bind (wpAny_letTemporaryGo (wpAny_pure h₃))) fun _ _ x => x)
theorem sub_found {value slice : PySem.Expr} {x dx : Addr} {es : Array DictEntry} {nx : Nat} {k : PySem.Str} {t : Tok} {od : Obj} {A : Around} (F : Fr h₀ L s.heap m) (X : (hd.heap_39 w.params).In h₀) (N : News h₀ L s.heap W)
    (I : NodeIn w mg W made x dx es nx) (hfz : (dx, od) ∈ W) (hall : (es.all fun e => isExactStrKey e.key) = true) {i : Nat} {e : DictEntry} (hi : es.findIdx? (fun e => e.key.isStr k) = some i) (he : es[i]? = some e)
    (hs : subscripted slice false (.ref x) (.str k t) = operate [.ref x, .str k t] (getItem (.ref x) (.str k t)))
    (hq : Q e.val { s with toks := s.toks + 1 }) : wpAny (model P0 w) A (subscriptTail value slice (.ref x) (.str k t)) Q E s := by
  obtain ⟨lam, cell, cx, ctv, ocell, ocx, i1, i2, i3, i4, i5, i6⟩ := id I
  have I0 := inst_N N i1 hfz
  refine node_sub (X.keeps F.keep) I0 ?_ hs
  refine node_getItem (X.keeps F.keep) I0 ?_
  exact gi_found I0 hall hi he hq
theorem sub_miss0 {value slice : PySem.Expr} {x dx c' : Addr} {oc : Obj} {es : Array DictEntry} {nx : Nat} {k : PySem.Str} {t : Tok} (B : Below A₀ base outer h₀) (F : Fr h₀ L s.heap m) (X : (hd.heap_39 w.params).In h₀) (N : News h₀ L s.heap W) (T : Top p loose mean mg mb h₀) (hcs : cs.kind = .function)
    (hC : CodeHd base 108 104) (hM : ∃ o, base.get? sysModules = some o) (hvs : vs.size ≤ 1000) (hm : (made, listOf vs n) ∈ W) (ht : (104, tabObj (tab1 51 37 c')) ∈ W) (mc : (c', oc) ∈ W) (hc : CodeO lamQual oc)
    (I : NodeIn w mg W made x dx es nx) (hfz : (dx, dictOf [] 0) ∈ W) (hall : (es.all fun e => isExactStrKey e.key) = true) (hi : es.findIdx? (fun e => e.key.isStr k) = none) (hz : es.size ≤ 1000)
    (hs : subscripted slice false (.ref x) (.str k t) = operate [.ref x, .str k t] (getItem (.ref x) (.str k t)))
    (hq : ∀ x2 dx2 h' tk W', Fr h₀ L h' m → News h₀ L h' W' → Under w mg made vs n W W' x dx es nx k t x2 dx2 → Q (.ref x2) { s with heap := h', toks := tk }) :
    wpAny (model P0 w) (ktrTop 470 700 gd cn cs L a ccd cl outer) (subscriptTail value slice (.ref x) (.str k t)) Q E s := by
  obtain ⟨lam, cell, cx, ctv, ocell, ocx, i1, i2, i3, i4, i5, i6⟩ := id I
  have I0 := inst_N N i1 hfz
  have hxs : (x == sysModules) = false := by
    obtain ⟨o, ho⟩ := hM
    have h1 := B.stays _ _ ho
    have h2 := (N _ i1).2.2
    refine beq_eq_false_iff_ne.mpr fun e => ?_
    rw [e, h1] at h2
    cases h2
  refine node_sub (X.keeps F.keep) I0 ?_ hs
  refine node_getItem (X.keeps F.keep) I0 ?_
  refine gi_miss (X.keeps F.keep) I0 hxs hall hi ?_
  exact wpAny_le (missing_0 (s := { s with toks := s.toks + 1 }) B F X N T hcs hC hM hvs hm ht mc hc I hfz hall hi hz hq) (Nat.le_of_ble_eq_true rfl) (Nat.le_of_ble_eq_true rfl)
theorem sub_miss1 {value slice : PySem.Expr} {x dx c' : Addr} {oc : Obj} {es : Array DictEntry} {nx : Nat} {k : PySem.Str} {t : Tok} (B : Below A₀ base outer h₀) (F : Fr h₀ L s.heap m) (X : (hd.heap_39 w.params).In h₀) (N : News h₀ L s.heap W) (T : Top p loose mean mg mb h₀) (hcs : cs.kind = .function)
    (hC : CodeHd base 108 104) (hM : ∃ o, base.get? sysModules = some o) (hvs : vs.size ≤ 1000) (hm : (made, listOf vs n) ∈ W) (ht : (104, tabObj (tab1 51 37 c')) ∈ W) (mc : (c', oc) ∈ W) (hc : CodeO lamQual oc)
    (I : NodeIn w mg W made x dx es nx) (Z : FzYes w mg W x dx) (hall : (es.all fun e => isExactStrKey e.key) = true) (hi : es.findIdx? (fun e => e.key.isStr k) = none)
    (hs : subscripted slice false (.ref x) (.str k t) = operate [.ref x, .str k t] (getItem (.ref x) (.str k t)))
    (hq : ∀ x2 dx2 h' tk W', Fr h₀ L h' m → News h₀ L h' W' → Grown w mg made vs n W W' x2 dx2 → Q (.ref x2) { s with heap := h', toks := tk }) :
    wpAny (model P0 w) (ktrTop 470 700 gd cn cs L a ccd cl outer) (subscriptTail value slice (.ref x) (.str k t)) Q E s := by
  obtain ⟨lam, cell, cx, ctv, ocell, ocx, i1, i2, i3, i4, i5, i6⟩ := id I
  obtain ⟨lamF, cellF, cF, ctvF, ocellF, ocF, hsh, tkF, z1, z2, z3, z4, z5, z6⟩ := id Z
  have I0 := inst_N N i1 z1
  have hxs : (x == sysModules) = false := by
    obtain ⟨o, ho⟩ := hM
    have h1 := B.stays _ _ ho
    have h2 := (N _ i1).2.2
    refine beq_eq_false_iff_ne.mpr fun e => ?_
    rw [e, h1] at h2
    cases h2
  refine node_sub (X.keeps F.keep) I0 ?_ hs
  refine node_getItem (X.keeps F.keep) I0 ?_
  refine gi_miss (X.keeps F.keep) I0 hxs hall hi ?_
  exact wpAny_le (missing_1 (s := { s with toks := s.toks + 1 }) B F X N T hcs hC hM hvs hm ht mc hc I Z hq) (Nat.le_of_ble_eq_true rfl) (Nat.le_of_ble_eq_true rfl)
end
end Mine
end
section
open PySem PySem.W PyProof.Rows PySem.Calls PySem.W.X
set_option maxRecDepth 100000
set_option maxHeartbeats 8000000
set_option linter.unusedVariables false
namespace Mine
section
variable {p : Program} {loose : List PySem.Str} {mean : ExcName → Option Value} {mg mb : PySem.Str → Option Value} {w : World}
    {gd : Option (List Code)} {cn : PySem.Str} {cs : Scope} {a : Addr} {ccd : Value} {cl : List (PySem.Str × Addr)} {outer : List Env} {A₀ : Around} {base h₀ : Heap} {L : Addr} {m : PySem.Str → Option Value} {W : Ledger} {s : Shared} {made : Addr} {vs : Array Value} {n : Nat}
    {Q E : Value → Shared → Prop} {R : Result → Shared → Prop}

theorem refuse58 (self : Value) : refuseLoop self "__setattr__" [.ref 58, .type "collections.defaultdict", .type "dict", .type "object"] = pure () := by
  rw [refuseLoop_ref]; kernel_rfl
theorem k_fz : findIn (hd.heap_39 w.params) (.ref 58) "_frozen" = some none := by k_is
theorem k_sa : findIn (hd.heap_39 w.params) (.ref 58) "__setattr__" = some (some (.builtin "object.__setattr__")) := by k_is
theorem k_obj : subIn (hd.heap_39 w.params) (.ref 58) (.type "object") = some true := by k_is
theorem k_hd : (clsIn (hd.heap_39 w.params) 58).map (fun c => (c.mro, c.hasDict)) = some ([.ref 58, .type "collections.defaultdict", .type "dict", .type "object"], true) := by
  show (some _ : Option (List Value × Bool)) = _; rfl
theorem setattr_node {x dx lam : Addr} {es : Array DictEntry} {nx : Nat} {des : List DictEntry} {dn : Nat} {v : Value} {A : Around} {Q : Unit → Shared → Prop} (F : Fr h₀ L s.heap m) (X₀ : (hd.heap_39 w.params).In h₀) (N : News h₀ L s.heap W)
    (m1 : (x, nodeObj dx es nx lam) ∈ W) (m2 : (dx, dictOf des dn) ∈ W) (hl : (getL (Str.ofString "_frozen") des).isSome = true) (hz : (putL (Str.ofString "_frozen") (PyData.keyHash w.params (Str.ofString "_frozen")) (.str (Str.ofString "_frozen") (s.toks + 1)) v des).length ≤ 1000)
    (h : ∀ h', Fr h₀ L h' m → News h₀ L h' (setW dx (dictOf (putL (Str.ofString "_frozen") (PyData.keyHash w.params (Str.ofString "_frozen")) (.str (Str.ofString "_frozen") (s.toks + 1)) v des) (putN (Str.ofString "_frozen") des dn)) W) → Q () { s with heap := h', toks := s.toks + 2 }) :
    wpAny (model P0 w) A (setAttr (.ref x) (Str.ofString "_frozen") v) Q E s := by
  have X := X₀.keeps F.keep
  have I := inst_N N m1 m2
  refine set_plain X I k_sa ?_
  have SF := PySem.F.store_object
  have sub : Looks (model P0 w) s.heap (isInstance (.ref x) (.type "object")) true := I.type.andThen (looks_subIn X k_obj)
  refine codeAny_call_builtin SF.slot.plain SF.entry (@check_slot (model P0 w) _ _ { s with toks := s.toks + 1 } "object.__setattr__" "object" "__setattr__" (.ref x) [.str (Str.ofString "_frozen") s.toks, v] [] _ SF.kind SF.split sub (SF.args (.ref x) (.str (Str.ofString "_frozen") s.toks) v) ?_)
  obtain ⟨cd, hc, hcd⟩ := Option.map_eq_some_iff.mp (k_hd (w := w))
  obtain ⟨hmro, hhd⟩ := Prod.mk.inj hcd
  have hm : Looks (model P0 w) s.heap (mroOf (.ref 58)) [.ref 58, .type "collections.defaultdict", .type "dict", .type "object"] := (looks_clsIn X hc).andThen (by rw [hmro]; exact .now)
  rw [osa_eq, refuse_eq]
  refine wpAny_bind (wpAny_bind (Looks.here (s := { s with toks := s.toks + 1 }) I.type (wpAny_bind (Looks.here (s := { s with toks := s.toks + 1 }) hm ?_))))
  rw [refuse58]
  refine wpAny_pure (wpAny_bind (Looks.here (s := { s with toks := s.toks + 1 }) I.type (wpAny_bind (Looks.here (s := { s with toks := s.toks + 1 }) (looks_findIn X k_fz) ?_))))
  refine wpAny_bind (wpAny_pure (a := (none : Option Value)) ?_)
  have D := (N _ m2).1
  have ed : Obj.putName (Str.ofString "_frozen") (PyData.keyHash w.params (Str.ofString "_frozen")) (.str (Str.ofString "_frozen") (s.toks + 1)) v (dictOf des dn) = dictOf (putL (Str.ofString "_frozen") (PyData.keyHash w.params (Str.ofString "_frozen")) (.str (Str.ofString "_frozen") (s.toks + 1)) v des) (putN (Str.ofString "_frozen") des dn) := putName_dict ..
  have hs6 : Heap.SameBut dx s.heap (s.heap.update dx (Obj.putName (Str.ofString "_frozen") (PyData.keyHash w.params (Str.ofString "_frozen")) (.str (Str.ofString "_frozen") (s.toks + 1)) v)) := Heap.SameBut.update ..
  have D' : (s.heap.update dx (Obj.putName (Str.ofString "_frozen") (PyData.keyHash w.params (Str.ofString "_frozen")) (.str (Str.ofString "_frozen") (s.toks + 1)) v)).get? dx = some (dictOf (putL (Str.ofString "_frozen") (PyData.keyHash w.params (Str.ofString "_frozen")) (.str (Str.ofString "_frozen") (s.toks + 1)) v des) (putN (Str.ofString "_frozen") des dn)) := by
    rw [← ed]; exact Heap.get?_update_self _ D (by rw [ed]; rfl)
  have U1 := F.update N m2 hs6
  have U2 := News.update N m2 hs6 D'
  obtain ⟨hx, hcl, hn, -⟩ := I
  refine wpAny_bind (wpAny_pure (wpAny_bind (wpAny_bind (wpAny_loadPart (s := { s with toks := s.toks + 1 }) hx (wpAny_bind (Looks.here (s := { s with toks := s.toks + 1 }) (looks_clsIn X hc) ?_))))))
  rw [hhd]
  refine wpAny_pure (a := some dx) (wpAny_bind (wpAny_pure (wpAny_bind ?_)))
  unfold nsSet
  refine wpAny_bind (wpAny_bind (wpAny_askSetting (wpAny_pure (wpAny_bind (wpAny_mkText (wpAny_bind (wpAny_loadPart (s := { s with toks := s.toks + 1 + 1 }) D ?_)))))))
  dsimp only
  have c : (!des.any (·.key.isStr (Str.ofString "_frozen")) && des.any (·.refKey)) = false := by
    unfold getL at hl
    split at hl
    · rename_i en he
      rw [List.any_eq_true.mpr ⟨en, List.mem_of_find?_eq_some he, List.find?_some he⟩]; rfl
    · split at hl
      · cases hl
      · rename_i z; rw [Bool.not_eq_true] at z; rw [z, Bool.and_false]
  rw [aRefKeyMayBeTheName_at]
  rw [show (!des.toArray.any (fun e => e.key.isStr (Str.ofString "_frozen")) && des.toArray.any (fun e => e.refKey)) = false from by rw [← Array.any_toList, ← Array.any_toList]; exact c]
  refine wpAny_updatePart (s := { s with toks := s.toks + 1 + 1 }) D ?_
  refine wpAny_bind (wpAny_lookBehind (s := { s with heap := _, toks := s.toks + 1 + 1 }) D' (pastItsLine_dict (by rw [List.size_toArray, sizeLine_eq]; omega)) ?_)
  exact wpAny_pure (h _ U1 U2)
end
end Mine
end
section
open PySem PySem.W PyProof.Rows PySem.Calls PySem.W.X
set_option maxRecDepth 100000
set_option maxHeartbeats 8000000
set_option linter.unusedVariables false
namespace Mine
section
variable {p : Program} {loose : List PySem.Str} {mean : ExcName → Option Value} {mg mb : PySem.Str → Option Value} {w : World}
    {gd : Option (List Code)} {cn : PySem.Str} {cs : Scope} {a : Addr} {ccd : Value} {cl : List (PySem.Str × Addr)} {outer : List Env} {A₀ : Around} {base h₀ : Heap} {L : Addr} {m : PySem.Str → Option Value} {W : Ledger} {s : Shared} {made : Addr} {vs : Array Value} {n : Nat}
    {Q E : Value → Shared → Prop} {R : Result → Shared → Prop}

local macro_rules | `(tactic| k_ne) => `(tactic| ((try dsimp only); first | exact Apart.ne (by assumption) | exact Apart.en (by assumption)))
local macro_rules | `(tactic| k_all) => `(tactic| assumption)
/-- a node frozen -/
structure Frozen (w : World) (mg : PySem.Str → Option Value) (W W' : Ledger) (x dx : Addr) : Prop where
  fz : FzYes w mg W' x dx
  tab : ∃ cF ocF, (50, tabObj (tab1 9 23 cF)) ∈ W' ∧ (cF, ocF) ∈ W' ∧ CodeO frQual ocF
  keep : ∀ p ∈ W, p.1 ≠ dx → p.1 ≠ 50 → p ∈ W'
theorem codeO_dict {q : PySem.Str} {oc : Obj} {l : List DictEntry} {n : Nat} (h : CodeO q oc) : oc ≠ dictOf l n := by
  rintro rfl
  obtain ⟨vs5, t5, d5, e5⟩ := h
  cases d5
theorem putL_one {des : List DictEntry} {dn : Nat} (h : (des = [] ∧ dn = 0) ∨ ∃ hs tk v, des = [⟨hs, .str (Str.ofString "_frozen") tk, v⟩] ∧ dn = 1) (hsh : Int) (t : Tok) (v : Value) :
    ∃ hs tk, dictOf (putL (Str.ofString "_frozen") hsh (.str (Str.ofString "_frozen") t) v des) (putN (Str.ofString "_frozen") des dn) = dictOf [⟨hs, .str (Str.ofString "_frozen") tk, v⟩] 1 := by
  rcases h with ⟨rfl, rfl⟩ | ⟨hs, tk, v', rfl, rfl⟩
  · exact ⟨hsh, t, rfl⟩
  · exact ⟨hs, tk, by simp [putL, putN, Value.isStr]⟩
theorem getL_one {des : List DictEntry} {dn : Nat} (h : (des = [] ∧ dn = 0) ∨ ∃ hs tk v, des = [⟨hs, .str (Str.ofString "_frozen") tk, v⟩] ∧ dn = 1) : (getL (Str.ofString "_frozen") des).isSome = true := by
  rcases h with ⟨rfl, rfl⟩ | ⟨hs, tk, v', rfl, rfl⟩
  · rfl
  · simp [getL, Value.isStr]
theorem freeze_first {x dx lam : Addr} {es : Array DictEntry} {nx : Nat} {des : List DictEntry} {dn : Nat} (B : Below A₀ base outer h₀) (F : Fr h₀ L s.heap m) (X : (hd.heap_39 w.params).In h₀) (N : News h₀ L s.heap ((50, tabObj #[]) :: W)) (T : Top p loose mean mg mb h₀) (hcs : cs.kind = .function)
    (hC : CodeHd base 54 50) (o1 : ∀ p ∈ W, p.1 ≠ 50) (m1 : (x, nodeObj dx es nx lam) ∈ W) (m2 : (dx, dictOf des dn) ∈ W)
    (hz : (des = [] ∧ dn = 0) ∨ ∃ hs tk v, des = [⟨hs, .str (Str.ofString "_frozen") tk, v⟩] ∧ dn = 1)
    (hq : ∀ h' tk W', Fr h₀ L h' m → News h₀ L h' W' → Frozen w mg W W' x dx → Q .none { s with heap := h', toks := tk }) :
    wpAny (model P0 w) (ktrTop 500 1000 gd cn cs L a ccd cl outer) (call (.ref 55) [.ref x]) Q E s := by
  refine wpAny_call ?_
  k_dflt (refine' code_defC (binds := [(PySem.Str.ofString "self", Value.ref x)]) ?k1 ?k2 ?k3 ?k4 ?k5 ?kA ?kF ?kK ?k6 ?k7 ?k8 ?k9 ?kB ?kD ?_ ?c2 ?c3 ?c4; (case kA => exact rfl); (case kF => exact rfl); (case kK => assumption); (case k1 => k_asm); (case k2 => k_asm); (case k3 => k_asm); (case k4 => k_asm); (case k5 => k_asm); (case k6 => k_is); (case k7 => k_is); (case k8 => k_room); (case k9 => exact BindsTo.of_eq rfl); (case kB => exact rfl); (case kD => decide +kernel); (case c2 => exact rfl); (case c3 => exact rfl); (case c4 => exact rfl); k_whole; intro g' L' h' tk' cells' FG' F' N' Y' B' X' T' l1; (try k_lt l1); k_cells Y'; (try simp only [List.cons_append, List.nil_append] at N'); (try dsimp only); (try k_lift B'); (try k_fold))
  w_top off
  k_steps
  rename_i oF dF fF cF ocF vsF tF ctF h5 tk5 F5 N5 d1 d2 l2 l3
  obtain ⟨hs9, tk9, e9⟩ := putL_one hz (PyData.keyHash w.params (Str.ofString "_frozen")) (tk5 + 1) (.ref fF)
  have hlen : (putL (Str.ofString "_frozen") (PyData.keyHash w.params (Str.ofString "_frozen")) (.str (Str.ofString "_frozen") (tk5 + 1)) (.ref fF) des).length = 1 := by
    have := congrArg (fun o : Obj => match o.data with | .dict es _ => es.size | _ => 0) e9
    simpa using this
  refine setattr_node F5 X' N5 (.tail _ (.tail _ (.tail _ (.tail _ m1)))) (.tail _ (.tail _ (.tail _ (.tail _ m2)))) (getL_one hz) (by show List.length (putL _ _ (.str _ (tk5 + 1)) _ _) ≤ 1000; rw [hlen]; decide) ?_
  intro h6 F6 N6
  have q : ∀ {b : Addr} {o o' : Obj}, (b, o) ∈ ((fF, _) :: (cF, ocF) :: (L' + 1, oF) :: (50, _) :: W) → o ≠ dictOf des dn → (b, o) ∈ setW dx o' ((fF, _) :: (cF, ocF) :: (L' + 1, oF) :: (50, _) :: W) := fun hb hn => mem_setW_ne hb (ne_obj N5 hb (.tail _ (.tail _ (.tail _ (.tail _ m2)))) hn)
  k_steps
  refine hq _ _ _ (by assumption) (by assumption) ⟨⟨fF, L' + 1, cF, ctF, oF, ocF, hs9, tk9, ?_, q (.head _) (obj_ne_cls (by simp)), q (.tail _ (.tail _ (.head _))) (cell_ne dF (by intro u e; cases e)), dF, q (.tail _ (.head _)) (codeO_dict ⟨_, _, d1, d2⟩), ⟨_, _, d1, d2⟩⟩, ⟨cF, ocF, q (.tail _ (.tail _ (.tail _ (.head _)))) (obj_ne_cls (by simp)), q (.tail _ (.head _)) (codeO_dict ⟨_, _, d1, d2⟩), ⟨_, _, d1, d2⟩⟩, ?_⟩
  · rw [← e9]; exact mem_setW (.tail _ (.tail _ (.tail _ (.tail _ m2))))
  · exact fun r hr h1 h2 => mem_setW_ne (.tail _ (.tail _ (.tail _ (.tail _ hr)))) h1
theorem freeze_more {x dx lam : Addr} {es : Array DictEntry} {nx : Nat} {des : List DictEntry} {dn : Nat} {cF : Addr} {ocF : Obj} (mF : (cF, ocF) ∈ W) (hF : CodeO frQual ocF) (B : Below A₀ base outer h₀) (F : Fr h₀ L s.heap m) (X : (hd.heap_39 w.params).In h₀) (N : News h₀ L s.heap ((50, tabObj (tab1 9 23 cF)) :: W)) (T : Top p loose mean mg mb h₀) (hcs : cs.kind = .function)
    (hC : CodeHd base 54 50) (o1 : ∀ p ∈ W, p.1 ≠ 50) (m1 : (x, nodeObj dx es nx lam) ∈ W) (m2 : (dx, dictOf des dn) ∈ W)
    (hz : (des = [] ∧ dn = 0) ∨ ∃ hs tk v, des = [⟨hs, .str (Str.ofString "_frozen") tk, v⟩] ∧ dn = 1)
    (hq : ∀ h' tk W', Fr h₀ L h' m → News h₀ L h' W' → Frozen w mg W W' x dx → Q .none { s with heap := h', toks := tk }) :
    wpAny (model P0 w) (ktrTop 500 1000 gd cn cs L a ccd cl outer) (call (.ref 55) [.ref x]) Q E s := by
  refine wpAny_call ?_
  k_dflt (refine' code_defC (binds := [(PySem.Str.ofString "self", Value.ref x)]) ?k1 ?k2 ?k3 ?k4 ?k5 ?kA ?kF ?kK ?k6 ?k7 ?k8 ?k9 ?kB ?kD ?_ ?c2 ?c3 ?c4; (case kA => exact rfl); (case kF => exact rfl); (case kK => assumption); (case k1 => k_asm); (case k2 => k_asm); (case k3 => k_asm); (case k4 => k_asm); (case k5 => k_asm); (case k6 => k_is); (case k7 => k_is); (case k8 => k_room); (case k9 => exact BindsTo.of_eq rfl); (case kB => exact rfl); (case kD => decide +kernel); (case c2 => exact rfl); (case c3 => exact rfl); (case c4 => exact rfl); k_whole; intro g' L' h' tk' cells' FG' F' N' Y' B' X' T' l1; (try k_lt l1); k_cells Y'; (try simp only [List.cons_append, List.nil_append] at N'); (try dsimp only); (try k_lift B'); (try k_fold))
  k_steps
  rename_i oF dF fF ctF h5 tk5 F5 N5 l2
  obtain ⟨hs9, tk9, e9⟩ := putL_one hz (PyData.keyHash w.params (Str.ofString "_frozen")) (tk5 + 1) (.ref fF)
  have hlen : (putL (Str.ofString "_frozen") (PyData.keyHash w.params (Str.ofString "_frozen")) (.str (Str.ofString "_frozen") (tk5 + 1)) (.ref fF) des).length = 1 := by
    have := congrArg (fun o : Obj => match o.data with | .dict es _ => es.size | _ => 0) e9
    simpa using this
  refine setattr_node F5 X' N5 (.tail _ (.tail _ (.tail _ m1))) (.tail _ (.tail _ (.tail _ m2))) (getL_one hz) (by show List.length (putL _ _ (.str _ (tk5 + 1)) _ _) ≤ 1000; rw [hlen]; decide) ?_
  intro h6 F6 N6
  have q : ∀ {b : Addr} {o o' : Obj}, (b, o) ∈ ((fF, _) :: (L' + 1, oF) :: (50, _) :: W) → o ≠ dictOf des dn → (b, o) ∈ setW dx o' ((fF, _) :: (L' + 1, oF) :: (50, _) :: W) := fun hb hn => mem_setW_ne hb (ne_obj N5 hb (.tail _ (.tail _ (.tail _ m2))) hn)
  k_steps
  refine hq _ _ _ (by assumption) (by assumption) ⟨⟨fF, L' + 1, cF, ctF, oF, ocF, hs9, tk9, ?_, q (.head _) (obj_ne_cls (by simp)), q (.tail _ (.head _)) (cell_ne dF (by intro u e; cases e)), dF, q (.tail _ (.tail _ (.tail _ mF))) (codeO_dict hF), hF⟩, ⟨cF, ocF, q (.tail _ (.tail _ (.head _))) (obj_ne_cls (by simp)), q (.tail _ (.tail _ (.tail _ mF))) (codeO_dict hF), hF⟩, ?_⟩
  · rw [← e9]; exact mem_setW (.tail _ (.tail _ (.tail _ m2)))
  · exact fun r hr h1 h2 => mem_setW_ne (.tail _ (.tail _ (.tail _ hr))) h1

def Tab50 (W : Ledger) (tab : Array Value) : Prop := (50, tabObj tab) ∈ W ∧ (tab = #[] ∨ ∃ cF ocF, tab = tab1 9 23 cF ∧ (cF, ocF) ∈ W ∧ CodeO frQual ocF)
theorem freeze_W {x dx lam : Addr} {es : Array DictEntry} {nx : Nat} {des : List DictEntry} {dn : Nat} {tab : Array Value} (B : Below A₀ base outer h₀) (F : Fr h₀ L s.heap m) (X : (hd.heap_39 w.params).In h₀) (N : News h₀ L s.heap W) (T : Top p loose mean mg mb h₀) (hcs : cs.kind = .function)
    (hC : CodeHd base 54 50) (ht : Tab50 W tab) (m1 : (x, nodeObj dx es nx lam) ∈ W) (m2 : (dx, dictOf des dn) ∈ W)
    (hz : (des = [] ∧ dn = 0) ∨ ∃ hs tk v, des = [⟨hs, .str (Str.ofString "_frozen") tk, v⟩] ∧ dn = 1)
    (hq : ∀ h' tk W', Fr h₀ L h' m → News h₀ L h' W' → Frozen w mg W W' x dx → Q .none { s with heap := h', toks := tk }) :
    wpAny (model P0 w) (ktrTop 500 1000 gd cn cs L a ccd cl outer) (call (.ref 55) [.ref x]) Q E s := by
  obtain ⟨ht, hh⟩ := ht
  have e1 : x ≠ 50 := ne_cls N m1 ht (by simp)
  have e2 : dx ≠ 50 := ne_cls N m2 ht (by simp)
  have P : News h₀ L s.heap ((50, tabObj tab) :: offW [50] W) := N.perm fun q hq => by
    rcases List.mem_cons.mp hq with rfl | hq
    · exact ht
    · exact (mem_offW.mp hq).1
  have o1 : ∀ p ∈ offW [50] W, p.1 ≠ 50 := fun q hq => by have := (mem_offW.mp hq).2; simpa using this
  have oi : ∀ {p : Addr × Obj}, p ∈ W → p.1 ≠ 50 → p ∈ offW [50] W := fun h h1 => mem_offW.mpr ⟨h, by simp [h1]⟩
  have fin : ∀ h' tk W', Fr h₀ L h' m → News h₀ L h' W' → Frozen w mg (offW [50] W) W' x dx → Q .none { s with heap := h', toks := tk } := fun h' tk W' F' N' Z =>
    hq h' tk W' F' N' ⟨Z.fz, Z.tab, fun r hr h1 h2 => Z.keep r (oi hr h2) h1 h2⟩
  rcases hh with rfl | ⟨cF, ocF, rfl, mF, hF⟩
  · exact freeze_first B F X P T hcs hC o1 (oi m1 e1) (oi m2 e2) hz fin
  · exact freeze_more (oi mF (ne_obj N mF ht (codeO_tab hF))) hF B F X P T hcs hC o1 (oi m1 e1) (oi m2 e2) hz fin
end
end Mine
end
section
open PySem PySem.W PyProof.Rows PySem.Calls PySem.W.X
set_option maxRecDepth 100000
set_option maxHeartbeats 8000000
set_option linter.unusedVariables false
namespace Mine
section
variable {p : Program} {loose : List PySem.Str} {mean : ExcName → Option Value} {mg mb : PySem.Str → Option Value} {w : World}
    {gd : Option (List Code)} {cn : PySem.Str} {cs : Scope} {a : Addr} {ccd : Value} {cl : List (PySem.Str × Addr)} {outer : List Env} {A₀ : Around} {base h₀ : Heap} {L : Addr} {m : PySem.Str → Option Value} {W : List (Addr × Obj)} {s : Shared}
    {Q E : Value → Shared → Prop} {R : Result → Shared → Prop}
theorem end_str {v : PySem.Str} {c : Int} {tok : Tok} {S : Shared} {Q : Value → Shared → Prop} (h : Q (.str (textOf c) tok) S) (e : v = textOf c) : Q (.str v tok) S := e ▸ h
theorem end_int {v u : Int} {tok : Tok} {S : Shared} {Q : Value → Shared → Prop} (h : Q (.int u tok) S) (e : v = u) : Q (.int v tok) S := e ▸ h
theorem News.drop1 {h₀ h : Heap} {L : Addr} {q : Addr × Obj} {W : List (Addr × Obj)} (N : News h₀ L h (q :: W)) : News h₀ L h W := fun p hp => N p (.tail _ hp)
local macro_rules | `(tactic| k_all) => `(tactic| assumption)
local macro_rules | `(tactic| walk_at "call builtin:chr") => `(tactic| (k_here; (with_reducible show wpAny _ _ (call (Value.builtin "chr") [Value.int (Builtin.bitOr (Builtin.bitAnd _ 127) 32 + 32) _]) _ _ _); k_dflt (refine chr_of_range (Mine.or32_range _).1 (Mine.or32_range _).2 ?_)))
theorem code_K {c : Int} {t : Tok} (B : Below A₀ base outer h₀) (F : Fr h₀ L s.heap m) (X : (hd.heap_39 w.params).In h₀) (N : News h₀ L s.heap W) (T : Top p loose mean mg mb h₀) (hcs : cs.kind = .function) (hC : CodeHd base 54 50)
    (hq : ∀ tok h' tk, Fr h₀ L h' m → News h₀ L h' W → Q (.int (codeZ c) tok) { s with heap := h', toks := tk }) :
    wpAny (model P0 w) (ktrTop 500 1000 gd cn cs L a ccd cl outer) (call (.ref 95) [.int c t]) Q E s := by
  refine wpAny_call ?_
  k_dflt (refine' code_def (binds := [(PySem.Str.ofString "cell", Value.int c t)]) ?k1 ?k2 ?k3 ?k4 ?k5 ?kA ?kF ?kK ?k6 ?k7 ?k8 ?k9 ?kB ?_ ?c2 ?c3 ?c4 ?c5; (case kA => exact rfl); (case kF => exact rfl); (case kK => assumption); (case k1 => k_asm); (case k2 => k_asm); (case k3 => k_asm); (case k4 => k_asm); (case k5 => k_asm); (case k6 => k_is); (case k7 => k_is); (case k8 => k_room); (case k9 => exact BindsTo.of_eq rfl); (case c5 => decide); (case kB => exact locs rfl); (case c2 => exact rfl); (case c3 => exact rfl); (case c4 => exact rfl); k_whole; intro g' L' h' FG' F' N' B' X' T'; (try dsimp only); (try k_fold))
  w_top off
  k_steps
  · refine end_int (hq _ _ _ (by assumption) (News.drop1 (by assumption))) ?_
    unfold codeZ
    rw [if_pos (by assumption)]
  · refine end_int (hq _ _ _ (by assumption) (News.drop1 (by assumption))) ?_
    unfold codeZ
    rw [if_neg (by assumption)]
theorem unctrl_K {c : Int} {t : Tok} (B : Below A₀ base outer h₀) (F : Fr h₀ L s.heap m) (X : (hd.heap_39 w.params).In h₀) (N : News h₀ L s.heap W) (T : Top p loose mean mg mb h₀) (hcs : cs.kind = .function) (hC : CodeHd base 54 50)
    (hq : ∀ tok h' tk, Fr h₀ L h' m → News h₀ L h' W → Q (.str (textOf c) tok) { s with heap := h', toks := tk }) :
    wpAny (model P0 w) (ktrTop 500 1000 gd cn cs L a ccd cl outer) (call (.ref 83) [.int c t]) Q E s := by
  refine wpAny_call ?_
  k_dflt (refine' code_def (binds := [(PySem.Str.ofString "c", Value.int c t)]) ?k1 ?k2 ?k3 ?k4 ?k5 ?kA ?kF ?kK ?k6 ?k7 ?k8 ?k9 ?kB ?_ ?c2 ?c3 ?c4 ?c5; (case kA => exact rfl); (case kF => exact rfl); (case kK => assumption); (case k1 => k_asm); (case k2 => k_asm); (case k3 => k_asm); (case k4 => k_asm); (case k5 => k_asm); (case k6 => k_is); (case k7 => k_is); (case k8 => k_room); (case k9 => exact BindsTo.of_eq rfl); (case c5 => decide); (case kB => exact locs rfl); (case c2 => exact rfl); (case c3 => exact rfl); (case c4 => exact rfl); k_whole; intro g' L' h' FG' F' N' B' X' T'; (try dsimp only); (try k_fold))
  k_steps
  all_goals refine end_str (hq _ _ _ (by assumption) (by assumption)) ?_
  all_goals first | have hb := and128_pos (by assumption) | have hb := and128_zero (by assumption)
  · exact text_127b (by assumption) hb
  · exact text_127 (by assumption)
  · exact text_in_b (by assumption) (by assumption) (by assumption) hb
  · exact text_in (by assumption) (by assumption) (by assumption) hb
  · exact text_hi_b (by assumption) (by assumption) hb
  · exact text_hi (by assumption) (by assumption) hb
  · exact text_lo_b (by assumption) (by assumption) hb
  · exact text_lo (by assumption) (by assumption) hb
end
end Mine
end
section
open PySem PySem.W PyProof.Rows PySem.Calls PySem.W.X
set_option maxRecDepth 100000
set_option maxHeartbeats 8000000
set_option linter.unusedVariables false
namespace Mine
section
variable {p : Program} {loose : List PySem.Str} {mean : ExcName → Option Value} {mg mb : PySem.Str → Option Value} {w : World}
    {gd : Option (List Code)} {cn : PySem.Str} {cs : Scope} {a : Addr} {ccd : Value} {cl : List (PySem.Str × Addr)} {outer : List Env} {A₀ : Around} {base h₀ : Heap} {L : Addr} {m : PySem.Str → Option Value} {W : List (Addr × Obj)} {s : Shared}
    {Q E : Value → Shared → Prop} {R : Result → Shared → Prop}
local macro_rules | `(tactic| k_all) => `(tactic| assumption)
theorem chr_mod {c : Int} : 0 ≤ c.fmod 128 ∧ c.fmod 128 ≤ 1114111 := by rw [Int.fmod_eq_emod_of_nonneg _ (by decide)]; omega
local macro_rules | `(tactic| walk_at "call builtin:chr") => `(tactic| (k_here; (with_reducible show wpAny _ _ (call (Value.builtin "chr") [Value.int (Builtin.bitOr (Builtin.bitAnd _ 127) 32 + 32) _]) _ _ _); k_dflt (refine chr_of_range (Mine.or32_range _).1 (Mine.or32_range _).2 ?_)))
local macro_rules | `(tactic| walk_at "call builtin:chr") => `(tactic| (k_here; (with_reducible show wpAny _ _ (call (Value.builtin "chr") [Value.int (Int.fmod _ 128) _]) _ _ _); k_dflt (refine chr_of_range (Mine.chr_mod).1 (Mine.chr_mod).2 ?_)))
theorem unctrl_S {n : Nat} {t : Tok} (B : Below A₀ base outer h₀) (F : Fr h₀ L s.heap m) (X : (hd.heap_39 w.params).In h₀) (N : News h₀ L s.heap W) (T : Top p loose mean mg mb h₀) (hcs : cs.kind = .function) (hC : CodeHd base 54 50)
    (hq : ∀ tok h' tk, Fr h₀ L h' m → News h₀ L h' W → Q (.str (textOf (n : Int)) tok) { s with heap := h', toks := tk }) :
    wpAny (model P0 w) (ktrTop 500 1000 gd cn cs L a ccd cl outer) (call (.ref 83) [.str ⟨#[n]⟩ t]) Q E s := by
  refine wpAny_call ?_
  k_dflt (refine' code_def (binds := [(PySem.Str.ofString "c", Value.str ⟨#[n]⟩ t)]) ?k1 ?k2 ?k3 ?k4 ?k5 ?kA ?kF ?kK ?k6 ?k7 ?k8 ?k9 ?kB ?_ ?c2 ?c3 ?c4 ?c5; (case kA => exact rfl); (case kF => exact rfl); (case kK => assumption); (case k1 => k_asm); (case k2 => k_asm); (case k3 => k_asm); (case k4 => k_asm); (case k5 => k_asm); (case k6 => k_is); (case k7 => k_is); (case k8 => k_room); (case k9 => exact BindsTo.of_eq rfl); (case c5 => decide); (case kB => exact locs rfl); (case c2 => exact rfl); (case c3 => exact rfl); (case c4 => exact rfl); k_whole; intro g' L' h' FG' F' N' B' X' T'; (try dsimp only); (try k_fold))
  w_top off
  k_steps
  all_goals refine end_str (hq _ _ _ (by assumption) (by assumption)) ?_
  all_goals first | have hb := and128_pos (by assumption) | have hb := and128_zero (by assumption)
  · exact text_127b (by assumption) hb
  · exact text_127 (by assumption)
  · exact text_in_b (by assumption) (by assumption) (by assumption) hb
  · exact text_in (by assumption) (by assumption) (by assumption) hb
  · exact text_hi_b (by assumption) (by assumption) hb
  · exact text_hi (by assumption) (by assumption) hb
  · exact text_lo_b (by assumption) (by assumption) hb
  · exact text_lo (by assumption) (by assumption) hb
theorem shown_K {c : Int} {t : Tok} (B : Below A₀ base outer h₀) (F : Fr h₀ L s.heap m) (X : (hd.heap_39 w.params).In h₀) (N : News h₀ L s.heap W) (T : Top p loose mean mg mb h₀) (hcs : cs.kind = .function) (hC : CodeHd base 54 50)
    (hq : ∀ tok h' tk, Fr h₀ L h' m → News h₀ L h' W → Q (.str (textOf c) tok) { s with heap := h', toks := tk }) :
    wpAny (model P0 w) (ktrTop 500 1000 gd cn cs L a ccd cl outer) (call (.ref 102) [.int c t]) Q E s := by
  refine wpAny_call ?_
  k_dflt (refine' code_def (binds := [(PySem.Str.ofString "code", Value.int c t)]) ?k1 ?k2 ?k3 ?k4 ?k5 ?kA ?kF ?kK ?k6 ?k7 ?k8 ?k9 ?kB ?_ ?c2 ?c3 ?c4 ?c5; (case kA => exact rfl); (case kF => exact rfl); (case kK => assumption); (case k1 => k_asm); (case k2 => k_asm); (case k3 => k_asm); (case k4 => k_asm); (case k5 => k_asm); (case k6 => k_is); (case k7 => k_is); (case k8 => k_room); (case k9 => exact BindsTo.of_eq rfl); (case c5 => decide); (case kB => exact locs rfl); (case c2 => exact rfl); (case c3 => exact rfl); (case c4 => exact rfl); k_whole; intro g' L' h' FG' F' N' B' X' T'; (try dsimp only); (try k_fold))
  k_steps
  all_goals refine end_str (hq _ _ _ (by assumption) (by assumption)) ?_
  · exact sh_abs (by assumption) (by assumption)
  · exact sh_abs2 (by assumption) (by assumption)
  · exact sh_b (sh_in (by decide +kernel) (by assumption)) (by assumption) (by assumption)
  · exact sh_n (sh_in (by decide +kernel) (by assumption)) (by assumption) (by assumption)
  · exact text_127 (by assumption)
  · exact sh_b (sh_del (by decide +kernel) (by assumption)) (by assumption) (by assumption)
  · exact sh_n (sh_del (by decide +kernel) (by assumption)) (by assumption) (by assumption)
  · exact sh_abs3 (by assumption) (by assumption)
  · exact sh_b (sh_mid (by assumption) (by assumption)) (by assumption) (by assumption)
  · exact sh_n (sh_mid (by assumption) (by assumption)) (by assumption) (by assumption)
end
end Mine
end
section
open PySem PySem.W PyProof.Rows PySem.Calls PySem.W.X
set_option maxRecDepth 100000
set_option maxHeartbeats 8000000
set_option linter.unusedVariables false
namespace Mine
section
variable {w : World} {s : Shared} {Q E : Value → Shared → Prop} {x dx : Addr} {es : Array DictEntry} {n : Nat} {lam : Addr} {A : Around} {od : Obj}
theorem k_iter : findIn (hd.heap_39 w.params) (.ref 58) "__iter__" = some (some (.builtin "dict.__iter__")) := by k_is
abbrev keyIt (d : Addr) (i n ep : Nat) : Obj := { cls := .type "dict_keyiterator", data := .fields #[.ref d, .int i 0, .int n 0, .int ep 0] }
theorem split_it : splitId "dict.__iter__" = some ("dict", "__iter__") := by decide +kernel
theorem kind_it : builtinKind "dict.__iter__" = some .slot := by decide +kernel
theorem node_iter (X : (hd.heap_39 w.params).In s.heap) (I : InstAt s.heap x (nodeObj dx es n lam) 58 (some od)) (hx : (x == sysModules) = false)
    (h : Q (.ref s.heap.objs.size) { s with heap := s.heap.push (keyIt x 0 es.size n) }) :
    wpAny (model P0 w) A (pyIter (.ref x)) Q E s := by
  have hi : Looks (model P0 w) s.heap (isInstance (.ref x) (.type "dict")) true := I.type.andThen (looks_subIn X k_dict)
  have ho : Looks (model P0 w) s.heap (isInstance (.ref x) (.type "collections.OrderedDict")) false := I.type.andThen (looks_subIn X k_od)
  have hn : ∀ {Q' : Option Value → Shared → Prop} {A' : Around}, Q' (some (.builtin "dict.__iter__")) s → wpAny (model P0 w) A' (specialOf (.ref x) "__iter__") Q' E s := by
    intro Q' A' q
    unfold specialOf
    refine wpAny_bind (I.type.here ?_)
    exact (looks_findIn X k_iter).here q
  unfold pyIter
  refine wpAny_bind (hn ?_)
  show wpAny _ A (callSpecialIfBoundUnlessNone? (.ref x) "__iter__" _ >>= _) Q E s
  simp only [callSpecialIfBoundUnlessNone?, bindSpecialIfBound?]
  refine wpAny_bind (wpAny_holding (wpAny_bind (wpAny_bind (hn ?_))))
  simp only [PySem.F.slot_dict_iter.bind]
  refine wpAny_bind (wpAny_askSetting (wpAny_ite ?_))
  have fin : ∀ {Q' : Option Value → Shared → Prop} {r : Sem Value}, (Q' (some (.ref s.heap.objs.size)) { s with heap := s.heap.push (keyIt x 0 es.size n) }) →
     wpAny (model P0 w) A (if (Value.builtin "dict.__iter__" == Value.none) = true then (r >>= fun v => pure (some v)) else (call (.builtin "dict.__iter__") [.ref x] >>= fun v => pure (some v))) Q' E s := by
    intro Q' r q
    rw [if_neg (by decide)]
    refine wpAny_bind (wpAny_call (codeAny_call_builtin PySem.F.slot_dict_iter.plain PySem.F.entry_dict_iter ?_))
    with_reducible apply check_slot kind_it split_it hi (PySem.F.args_dict_iter_1 _)
    unfold Builtin.«dict.__iter__»
    refine wpAny_bind ?_
    unfold Builtin.Dict.dictSlotNone Builtin.Dict.notOrdered
    refine wpAny_bind ?_
    rw [if_pos (by decide)]
    refine wpAny_bind (I.type.here ?_)
    rw [if_pos (by decide)]
    refine wpAny_bind (ho.here ?_)
    rw [if_neg (by decide)]
    refine wpAny_pure ?_
    show wpAny _ _ (pure (Value.ref x)) _ _ s
    refine wpAny_pure ?_
    show wpAny _ _ (Builtin.Dict.showsAll x >>= _) _ _ s
    unfold Builtin.Dict.showsAll
    rw [if_neg (by rw [hx]; exact Bool.false_ne_true)]
    refine wpAny_bind (wpAny_pure ?_)
    refine wpAny_bind (wpAny_dictEntries I.at_ rfl ?_)
    refine wpAny_bind (wpAny_dictEpoch I.at_ rfl ?_)
    exact wpAny_bind (wpAny_newObj_type (wpAny_pure (wpAny_pure q)))
  have nx : ∀ {E' : Value → Shared → Prop}, wpAny (model P0 w) A (specialOf (.ref s.heap.objs.size) "__next__" >>= fun r => match r with
      | none => (do rule "iter.non-iterator"; raiseError "TypeError" s!"iter() returned non-iterator of type '{← typeNameOf (.ref s.heap.objs.size)}'")
      | some _ => pure (.ref s.heap.objs.size)) Q E' { s with heap := s.heap.push (keyIt x 0 es.size n) } := by
    intro E'
    refine wpAny_bind (wpAny_specialOf (T := "dict_keyiterator") ⟨_, Heap.get?_push_size _ rfl, rfl⟩ PySem.F.slot_dict_keyiterator_next.lookup ?_)
    exact wpAny_pure h
  split
  · exact wpAny_bind (wpAny_pure (wpAny_pure (fin nx)))
  · exact wpAny_tryCatch (wpAny_bind (wpAny_pure (wpAny_pure (fin nx))))
end
end Mine
end
section
open PySem PySem.W PyProof.Rows PySem.Calls PySem.W.X
set_option maxRecDepth 100000
set_option maxHeartbeats 8000000
set_option linter.unusedVariables false
namespace Mine
section
variable {w : World} {s : Shared} {E : Value → Shared → Prop} {x dx it : Addr} {es : Array DictEntry} {n i : Nat} {lam : Addr} {A : Around}
theorem node_next {od : Obj} {e : DictEntry} {Q : Option Value → Shared → Prop} (hit : s.heap.IsKeyIter it x i es.size n) (hod : s.heap.get? x = some od) (hdd : od.data = .dict es n) (he : es[i]? = some e)
    (hq : ∀ h', h'.IsKeyIter it x (i + 1) es.size n → Heap.SameBut it s.heap h' → Q (some e.key) { s with heap := h' }) :
    wpAny (model P0 w) A (pyNext (.ref it)) Q E s := by
  obtain ⟨o, ho, hc, hd⟩ := id hit
  have hlt : i < es.size := by
    rcases Nat.lt_or_ge i es.size with h | h
    · exact h
    · rw [Array.getElem?_eq_none h] at he; cases he
  unfold pyNext
  refine wpAny_bind (wpAny_attempt (wpAny_callSpecial?_slot (name := Str.ofString "__next__") hit.typeIs PySem.F.slot_dict_keyiterator_next
    (wpAny_call_entry PySem.F.slot_dict_keyiterator_next hit.typeIs PySem.F.entry_dict_keyiterator_next ?_ (PySem.F.args_dict_keyiterator_next_1 _))))
  refine wpAny_bind (wpAny_pure (wpAny_bind (wpAny_bind ?_)))
  first | refine wpAny_bind (wpAny_typeNameOfWhole_keyiter hit.typeIs (wpAny_pure ?_)) | refine wpAny_bind (wpAny_typeNameOf_keyiter hit.typeIs (wpAny_pure ?_))
  refine wpAny_bind (wpAny_fieldsOf ho hd ?_)
  simp only [show Builtin.Dict_items.ownsTuple "dict_keyiterator" = false from by decide, Bool.false_eq_true, if_false]
  show wpAny _ _ (if (Value.ref x == Value.none) = true then _ else _) _ _ s
  rw [if_neg (show ¬ ((Value.ref x == Value.none) = true) from Bool.false_ne_true)]
  refine wpAny_bind (wpAny_pure (wpAny_bind (wpAny_dictEntries hod hdd ?_)))
  rw [if_neg (by simp)]
  refine wpAny_bind (wpAny_pure (wpAny_bind (wpAny_dictEpoch hod hdd ?_)))
  rw [if_neg (by simp)]
  refine wpAny_pure ?_
  simp only [show ¬ ((i : Int) < 0) from by omega, if_false, Int.toNat_natCast, he]
  refine wpAny_bind ?_
  first | refine wpAny_bind (wpAny_typeNameOfWhole_keyiter hit.typeIs (wpAny_pure ?_)) | refine wpAny_bind (wpAny_typeNameOf_keyiter hit.typeIs (wpAny_pure ?_))
  refine wpAny_bind (wpAny_isOneOf_keyiter hit.typeIs ?_)
  show wpAny _ _ (setField (.ref it) 1 (rawInt ((i : Int) + 1)) >>= _) _ _ s
  refine wpAny_bind (wpAny_setField ho hd (by simp) ?_)
  have hit' : (s.heap.update it (Obj.mapFields (·.setIfInBounds 1 (rawInt ((i : Int) + 1))))).IsKeyIter it x (i + 1) es.size n :=
    ⟨_, Heap.get?_update_self _ ho (Obj.isFreed_of_fields (Obj.data_mapFields hd _)), (Obj.cls_mapFields ..).trans hc, by rw [Obj.data_mapFields hd]; simp [rawInt]⟩
  refine wpAny_bind (wpAny_holding (wpAny_bind (wpAny_isOneOf_keyiter (s := { s with heap := s.heap.update it (Obj.mapFields (·.setIfInBounds 1 (rawInt ((i : Int) + 1)))) }) hit'.typeIs ?_)))
  show wpAny _ _ (pure e.key) _ _ _
  exact wpAny_pure (wpAny_pure ⟨_, rfl, wpAny_pure (hq _ hit' (Heap.SameBut.update ..))⟩)
theorem node_stop {od : Obj} {Q : Option Value → Shared → Prop} (hh : A.handled = none) (hit : s.heap.IsKeyIter it x es.size es.size n) (hod : s.heap.get? x = some od) (hdd : od.data = .dict es n)
    (hq : ∀ h', Heap.ExtBut it s.heap h' → Q none { s with heap := h' }) :
    wpAny (model P0 w) A (pyNext (.ref it)) Q E s := by
  obtain ⟨o, ho, hc, hd⟩ := id hit
  unfold pyNext
  refine wpAny_bind (wpAny_attempt (wpAny_callSpecial?_slot (name := Str.ofString "__next__") hit.typeIs PySem.F.slot_dict_keyiterator_next
    (wpAny_call_entry PySem.F.slot_dict_keyiterator_next hit.typeIs PySem.F.entry_dict_keyiterator_next ?_ (PySem.F.args_dict_keyiterator_next_1 _))))
  refine wpAny_bind (wpAny_pure (wpAny_bind (wpAny_bind ?_)))
  first | refine wpAny_bind (wpAny_typeNameOfWhole_keyiter hit.typeIs (wpAny_pure ?_)) | refine wpAny_bind (wpAny_typeNameOf_keyiter hit.typeIs (wpAny_pure ?_))
  refine wpAny_bind (wpAny_fieldsOf ho hd ?_)
  simp only [show Builtin.Dict_items.ownsTuple "dict_keyiterator" = false from by decide, Bool.false_eq_true, if_false]
  show wpAny _ _ (if (Value.ref x == Value.none) = true then _ else _) _ _ s
  rw [if_neg (show ¬ ((Value.ref x == Value.none) = true) from Bool.false_ne_true)]
  refine wpAny_bind (wpAny_pure (wpAny_bind (wpAny_dictEntries hod hdd ?_)))
  rw [if_neg (by simp)]
  refine wpAny_bind (wpAny_pure (wpAny_bind (wpAny_dictEpoch hod hdd ?_)))
  rw [if_neg (by simp)]
  refine wpAny_pure ?_
  simp only [show ¬ ((es.size : Int) < 0) from by omega, if_false, Int.toNat_natCast, Array.getElem?_eq_none (Nat.le_refl es.size)]
  refine wpAny_bind ?_
  first | refine wpAny_bind (wpAny_typeNameOfWhole_keyiter hit.typeIs (wpAny_pure ?_)) | refine wpAny_bind (wpAny_typeNameOf_keyiter hit.typeIs (wpAny_pure ?_))
  show wpAny _ _ (setField (.ref it) 0 .none >>= _) _ _ s
  refine wpAny_bind (wpAny_setField ho hd (by simp) ?_)
  show wpAny _ _ (newExc (.type "StopIteration") [] >>= _) _ _ _
  refine wpAny_bind ?_
  simp only [newExc, newTuple]
  refine wpAny_bind (wpAny_newObj_type ?_ (by size_fits))
  refine wpAny_bind (m := firstArgMember _ _) (wpAny_of_eq (a := Value.none) (by first | rfl | (simp only [firstArgMember]; rfl)) ?_)
  refine wpAny_newObj_type ?_ (by size_fits)
  simp only [raiseNew]
  refine wpAny_bind (wpAny_handled ?_)
  rw [show A.in1.handled = none from hh]
  refine wpAny_bind (wpAny_pure (wpAny_throw ?_))
  refine wpAny_bind (wpAny_isInstance (T := "StopIteration") (b := true) ⟨_, Heap.get?_push_size _ rfl, rfl⟩ isSubtype_stop ?_)
  exact wpAny_pure (hq _ (((Heap.SameBut.update ..).extBut.push _).push _))
/-- a walk over the keys of a node -/
theorem node_walks {I : Addr} (hh : A.handled = none) (hne : x ≠ I) :
    Walks P0 w A I [I, x] [I] es.size (fun i v => ∃ e, es[i]? = some e ∧ v = e.key) (fun i h => h.IsKeyIter I x i es.size n ∧ ∃ od, h.get? x = some od ∧ od.data = .dict es n) where
  sub := fun b hb => by simp at hb; simp [hb]
  frame := fun _ _ _ st hk => ⟨st.1.at fun o e => hk I (by simp) o e, let ⟨od, e, r⟩ := st.2; ⟨od, hk x (by simp) od e, r⟩⟩
  item := fun i s Q E hi st hQ => by
    obtain ⟨hit, od, hod, hdd⟩ := st
    have he : es[i]? = some es[i] := by simp [hi]
    refine node_next hit hod hdd he fun h' hit' hs' => ?_
    exact hQ _ h' s.toks ⟨_, he, rfl⟩ ⟨hit', od, hs'.extBut _ _ hne hod, hdd⟩ fun b o hb e => hs'.extBut b o (fun h => hb (by simp [h])) e
  done := fun s Q E st hQ => by
    obtain ⟨hit, od, hod, hdd⟩ := st
    exact node_stop hh hit hod hdd fun h' he' => hQ h' s.toks fun b o hb e => he' b o (fun h => hb (by simp [h])) e
  self := fun _ _ _ _ st hQ => wpAny_pyIter_keyiter st.1 hQ
end
end Mine
end
section
open PySem PySem.W PyProof.Rows PySem.Calls PySem.W.X
set_option maxRecDepth 100000
set_option maxHeartbeats 8000000
set_option linter.unusedVariables false
namespace Mine
open LCg
/-- what a comprehension walks over -/
def Src (prog : Program) (w : World) (A : Around) (h₀ : Heap) (L : Addr) (W : Ledger) (xv : Value) (n : Nat) (P : Nat → Value → Prop) (S : Ledger → Prop) (s₁ : Shared) : Prop :=
  ∃ (it : Obj) (fp : List Addr) (St : Nat → Heap → Prop),
    (∀ (Q E : Value → Shared → Prop), Q (.ref s₁.heap.objs.size) { s₁ with heap := s₁.heap.push it } → wpAny (model prog w) A (pyIter xv) Q E s₁) ∧
    Walks prog w A s₁.heap.objs.size fp [s₁.heap.objs.size] n P St ∧ St 0 (s₁.heap.push it) ∧ (∀ b ∈ fp, b ≤ s₁.heap.objs.size) ∧ (∀ i h, St i h → ∃ o, h.get? s₁.heap.objs.size = some o) ∧
    (∀ i h h' o nw, St i h → h.get? s₁.heap.objs.size = some o → h'.get? s₁.heap.objs.size = some o → (∀ b o, h₀.get? b = some o → h'.get? b = some o) → News h₀ L h' nw → S nw → St i h') ∧ S W
section
variable {prog : Program} {w : World} {A : Around} {E : Value → Shared → Prop} {s : Shared} {h₀ : Heap} {L : Addr} {m : PySem.Str → Option Value} {env : Env}
theorem comp_V {elt iter : Expr} {x : PySem.Str} {px : Pos} {scope : Scope} {cl : List (PySem.Str × Addr)} {pos : Pos} {Q : Value → Shared → Prop} (F₀ : Fr h₀ L s.heap m)
    (hclos : closureFor scope env = pure cl) (hcell : ∀ y ∈ scope.names, y.2 ≠ .cell) (hkind : scope.kind = .function)
    (hnames : ∀ y ∈ scope.names, y.2 = .local → scope.names.lookup y.1 = some .local) (hx : scope.names.lookup x = some .local)
    (hs : ∀ x, foldedSetIterable iter env x = pure x)
    (h : wpAny (model prog w) A (eval iter env) (fun xv s₁ => ∃ n P S W, Src prog w A h₀ L W xv n P S s₁ ∧ Fr h₀ L s₁.heap m ∧ News h₀ L s₁.heap W ∧ n ≤ sizeLine ∧
      ∀ g, CompRest prog w A h₀ L m env elt x scope cl { s₁ with heap := g } S P (FinE h₀ L m { s₁ with heap := g } Q) n 0 [] W) E s) :
    wpAny (model prog w) A (eval (.ListComp elt [⟨.Name x px, iter, [], 0⟩] scope pos) env) Q E s := by
  rw [eval_ListComp]
  refine wpAny_comprehension_free (use := none) rfl hs hclos hkind hnames (wpAny_mono h (fun xv s₁ h₁ => ?_) fun _ _ e => e)
  obtain ⟨n, P, S, W, ⟨it, fp, St, pi, Wk, st0, hfp, hIo, hSt, hS⟩, F, N, hsz, R⟩ := h₁
  refine pi _ _ ?_
  have up : ∀ b o, s₁.heap.get? b = some o → (s₁.heap.push it).get? b = some o := fun b o e => Heap.get?_push_of_some _ e
  refine block_U Wk hsz hIo hSt hcell hkind hx st0 (fun b hb => ?_) (F.keeps up) (N.grown up) (Nat.ne_of_lt F.ns.lt) (next_is_new F) (fun p hp => Nat.ne_of_lt (Heap.lt_size (N p hp).1)) hS (R _) ?_
  · show b < (s₁.heap.push _).objs.size
    rw [Heap.size_push]
    exact Nat.lt_succ_of_le (hfp b hb)
  · intro D C h tk m' ys news' F' N' o1 hn hC₀ hD₀ hCL hDL hCD offC fin
    refine ⟨m', hn, fun h'' hs'' => fin D h'' tk (F'.change hs'' hCL hC₀) (fun p hp => ?_) o1⟩
    refine ⟨hs''.extBut _ _ ?_ (N' p hp).1, (N' p hp).2⟩
    rcases List.mem_cons.mp hp with rfl | hp
    · exact Ne.symm hCD
    · exact offC p hp
/-- the sources -/
theorem src_range {r : Addr} {a b c : Int} {t u v : Tok} {n : Nat} {W : Ledger} (hh : A.handled = none) (hr : IsRange s.heap r a b c t u v) (hsm : Builtin.Range.small a b c = true) (hn : Builtin.Range.rangeSize a b c = ((n : Nat) : Int)) :
    Src prog w A h₀ L W (.ref r) n (fun i v => ∃ t, v = .int (a + (i : Int) * c) t) (fun _ => True) s := by
  refine ⟨_, [s.heap.objs.size], fun i h => IsRangeIter h s.heap.objs.size (a + (i : Nat) * c) ((n : Int) - (i : Nat)) c, fun Q E q => wpAny_pyIter_range hr hsm q, Walks.range hh s.heap.objs.size a c n, ?_, ?_, ?_, ?_, trivial⟩
  · show IsRangeIter _ _ _ _ _
    rw [hn]; simpa using Heap.get?_push_size _ rfl
  · intro b hb; rw [List.mem_singleton.mp hb]; exact Nat.le_refl _
  · exact fun i h st => ⟨_, st⟩
  · intro i h h' o nw st e e' _ _ _
    have st' : h.get? s.heap.objs.size = some _ := st
    show h'.get? s.heap.objs.size = some _
    rw [e', ← e]; exact st'
theorem src_list {ax : Addr} {vs : Array Value} {k : Nat} {W : Ledger} (hh : A.handled = none) (F : Fr h₀ L s.heap m) (N : News h₀ L s.heap W) (hm : (ax, listOf vs k) ∈ W) :
    Src prog w A h₀ L W (.ref ax) vs.size (fun i v => vs[i]? = some v) (fun nw => (ax, listOf vs k) ∈ nw) s := by
  have hl : s.heap.IsList ax vs := ⟨_, (N _ hm).1, rfl, _, rfl⟩
  have hlt : ax < s.heap.objs.size := Heap.lt_size (N _ hm).1
  refine ⟨_, [s.heap.objs.size, ax], _, fun Q E q => wpAny_pyIter_list hl q, Walks.list hh s.heap.objs.size ax (Nat.ne_of_lt hlt) vs, ⟨⟨_, Heap.get?_push_size _ rfl, rfl, rfl⟩, hl.push _⟩, ?_, fun i h st => by obtain ⟨o, e, _⟩ := st.1; exact ⟨o, e⟩, ?_, hm⟩
  · intro b hb
    rcases List.mem_cons.mp hb with rfl | hb
    · exact Nat.le_refl _
    · rw [List.mem_singleton.mp hb]; exact Nat.le_of_lt hlt
  · intro i h h' o nw st e e' k N' S
    refine ⟨by obtain ⟨o', q, r⟩ := st.1; rw [e] at q; cases q; exact ⟨o, e', r⟩, ⟨_, (N' _ S).1, rfl, _, rfl⟩⟩
end
section
variable {w : World} {A : Around} {s : Shared} {h₀ : Heap} {L : Addr} {m : PySem.Str → Option Value} {x dx lam : Addr} {es : Array DictEntry} {n : Nat} {od : Obj}
theorem src_node {W : Ledger} (hh : A.handled = none) (X : (hd.heap_39 w.params).In h₀) (F : Fr h₀ L s.heap m) (N : News h₀ L s.heap W) (hM : ∃ o, h₀.get? sysModules = some o) (hm : (x, nodeObj dx es n lam) ∈ W) (hd : (dx, od) ∈ W) :
    Src P0 w A h₀ L W (.ref x) es.size (fun i v => ∃ e, es[i]? = some e ∧ v = e.key) (fun nw => (x, nodeObj dx es n lam) ∈ nw) s := by
  have hlt : x < s.heap.objs.size := Heap.lt_size (N _ hm).1
  have hx : (x == sysModules) = false := by
    rw [beq_eq_false_iff_ne]
    rintro rfl
    obtain ⟨o, e⟩ := hM
    have := (N _ hm).2.2
    rw [e] at this; cases this
  refine ⟨keyIt x 0 es.size n, [s.heap.objs.size, x], _, fun Q E q => node_iter (X.keeps F.keep) (inst_N N hm hd) hx q, node_walks hh (Nat.ne_of_lt hlt), ⟨⟨_, Heap.get?_push_size _ rfl, rfl, rfl⟩, _, Heap.get?_push_of_some _ (N _ hm).1, rfl⟩, ?_, fun i h st => by obtain ⟨o, e, _⟩ := st.1; exact ⟨o, e⟩, ?_, hm⟩
  · intro b hb
    rcases List.mem_cons.mp hb with rfl | hb
    · exact Nat.le_refl _
    · rw [List.mem_singleton.mp hb]; exact Nat.le_of_lt hlt
  · intro i h h' o nw st e e' k N' S
    exact ⟨by obtain ⟨o', q, r⟩ := st.1; rw [e] at q; cases q; exact ⟨o, e', r⟩, _, (N' _ S).1, rfl⟩
end
end Mine
end
section
open PySem PySem.W PyProof.Rows PySem.Calls PySem.W.X
set_option maxRecDepth 100000
set_option maxHeartbeats 8000000
set_option linter.unusedVariables false
namespace Mine
open LCg LCt
theorem off1_mem {D : Addr} : ∀ {l : Ledger}, Off1 D l → ∀ p ∈ l, Apart p.1 D
  | [], _, _, h => nomatch h
  | _ :: _, x, p, h => by
    rcases List.mem_cons.mp h with rfl | h
    · exact x.1
    · exact off1_mem x.2 p h
section
variable {prog : Program} {w : World} {A : Around} {E : Value → Shared → Prop} {s : Shared} {h₀ : Heap} {L : Addr} {m : PySem.Str → Option Value} {env : Env}
  {ct elt : Expr} {x : PySem.Str} {scope : Scope} {cl : List (PySem.Str × Addr)} {S : Ledger → Prop} {P : Nat → Value → Prop} {Fin : List Value → Ledger → Prop} {W : Ledger} {n : Nat}
/-- the turns of a comprehension, by what holds ahead of each -/
theorem rest_inv (Inv : Nat → List Value → Ledger → Prop) (h0 : Inv 0 [] W)
    (turn : ∀ i v ys W I oI C oC D m₂ h tk (E' : Value → Shared → Prop), i < n → Inv i ys W → P i v → NsObj oC m₂ → m₂ x = some v → Fr h₀ L h m → News h₀ L h ((I, oI) :: (C, oC) :: (D, lst ys) :: W) → (∀ p ∈ W, p.1 ≠ I ∧ p.1 ≠ C ∧ p.1 ≠ D) → ((@Ne Nat I C) ∧ (@Ne Nat I D) ∧ (@Ne Nat C D)) →
      wpAny (model prog w) A (eval elt (compEnvC scope cl C env)) (CompEnd h₀ L m { s with heap := h, toks := tk } I oI C oC D (lst ys) S (fun y W' => Inv (i + 1) (ys ++ [y]) W')) E' { s with heap := h, toks := tk })
    (fin : ∀ ys W, Inv n ys W → Fin ys W) : CompRest prog w A h₀ L m env elt x scope cl s S P Fin n 0 [] W := by
  have key : ∀ (j i : Nat) (ys : List Value) (W : Ledger), i + j = n → Inv i ys W → CompRest prog w A h₀ L m env elt x scope cl s S P Fin j i ys W := by
    intro j
    induction j with
    | zero => intro i ys W hi hy; obtain rfl : i = n := by omega
              exact CompRest.zero (fin ys W hy)
    | succ j ih =>
      intro i ys W hi hy
      refine CompRest.succ ?_
      intro v I oI C oC D m₂ h tk E' hv hC hx F N off ne
      refine wpAny_mono (turn i v ys W I oI C oC D m₂ h tk E' (by omega) hy hv hC hx F N off.mem ne) (fun y s₂ hq => ?_) fun _ _ e => e
      obtain ⟨h', tk', nw, e, F', N', off', hS, hn⟩ := hq
      exact ⟨h', tk', nw, e, F', N', off', hS, ih (i + 1) _ _ (by omega) hn⟩
  exact key n 0 [] W (by omega) h0
/-- the same, with a test -/
theorem rest_invT (Inv : Nat → List Value → Ledger → Prop) (h0 : Inv 0 [] W)
    (turn : ∀ i v ys W I oI C oC D m₂ h tk (E' : Value → Shared → Prop), i < n → Inv i ys W → P i v → NsObj oC m₂ → m₂ x = some v → Fr h₀ L h m → News h₀ L h ((I, oI) :: (C, oC) :: (D, lst ys) :: W) → (∀ p ∈ W, p.1 ≠ I ∧ p.1 ≠ C ∧ p.1 ≠ D) → ((@Ne Nat I C) ∧ (@Ne Nat I D) ∧ (@Ne Nat C D)) →
      wpAny (model prog w) A (isTrue ct (compEnvC scope cl C env) (eval ct (compEnvC scope cl C env))) (fun ok s' => if ok = true then
        wpAny (model prog w) A (eval elt (compEnvC scope cl C env)) (CompEnd h₀ L m { s with heap := h, toks := tk } I oI C oC D (lst ys) S (fun y W' => Inv (i + 1) (ys ++ [y]) W')) E' s'
        else CompEnd h₀ L m { s with heap := h, toks := tk } I oI C oC D (lst ys) S (fun _ W' => Inv (i + 1) ys W') Value.none s') E' { s with heap := h, toks := tk })
    (fin : ∀ ys W, Inv n ys W → Fin ys W) : CompRestT prog w A h₀ L m env ct elt x scope cl s S P Fin n 0 [] W := by
  have key : ∀ (j i : Nat) (ys : List Value) (W : Ledger), i + j = n → Inv i ys W → CompRestT prog w A h₀ L m env ct elt x scope cl s S P Fin j i ys W := by
    intro j
    induction j with
    | zero => intro i ys W hi hy; obtain rfl : i = n := by omega
              exact CompRestT.zero (fin ys W hy)
    | succ j ih =>
      intro i ys W hi hy
      refine CompRestT.succ ?_
      intro v I oI C oC D m₂ h tk E' hv hC hx F N off ne
      refine wpAny_mono (turn i v ys W I oI C oC D m₂ h tk E' (by omega) hy hv hC hx F N off.mem ne) (fun ok s₂ hq => ?_) fun _ _ e => e
      cases ok with
      | true =>
        simp only [if_true] at hq ⊢
        refine wpAny_mono hq (fun y s₃ hq => ?_) fun _ _ e => e
        obtain ⟨h', tk', nw, e, F', N', off', hS, hn⟩ := hq
        exact ⟨h', tk', nw, e, F', N', off', hS, ih (i + 1) _ _ (by omega) hn⟩
      | false =>
        simp only [Bool.false_eq_true, if_false] at hq ⊢
        obtain ⟨h', tk', nw, e, F', N', off', hS, hn⟩ := hq
        exact ⟨h', tk', nw, e, F', N', off', hS, ih (i + 1) _ _ (by omega) hn⟩
  exact key n 0 [] W (by omega) h0
/-- a turn ends -/
theorem end_turn {I C D : Addr} {oI oC oD : Obj} {rest : Value → Ledger → Prop} {y : Value} {h h' : Heap} {tk tk' : Nat} {W' : Ledger} (F : Fr h₀ L h' m) (N : News h₀ L h' ((I, oI) :: (C, oC) :: (D, oD) :: W')) (off : ∀ p ∈ W', p.1 ≠ I ∧ p.1 ≠ C ∧ p.1 ≠ D) (hS : S W') (r : rest y W') :
    CompEnd h₀ L m { s with heap := h, toks := tk } I oI C oC D oD S rest y { s with heap := h', toks := tk' } := ⟨h', tk', W', rfl, F, N, Off3.of off, hS, r⟩
end
end Mine
end
section
open PySem PySem.W PyProof.Rows PySem.Calls PySem.W.X
set_option maxRecDepth 100000
set_option maxHeartbeats 8000000
set_option linter.unusedVariables false
namespace Mine
section
variable {p : Program} {loose : List PySem.Str} {mean : ExcName → Option Value} {mg mb : PySem.Str → Option Value} {w : World}
    {gd : Option (List Code)} {cn : PySem.Str} {cs : Scope} {a : Addr} {ccd : Value} {cl : List (PySem.Str × Addr)} {outer : List Env} {A₀ : Around} {base h₀ : Heap} {L : Addr} {m : PySem.Str → Option Value} {W : Ledger} {s : Shared} {made x : Addr} {xs : List Addr} {n k0 : Nat}
    {Q E : Value → Shared → Prop} {R : Result → Shared → Prop}
local macro_rules | `(tactic| k_all) => `(tactic| assumption)
local macro_rules | `(tactic| k_mem) => `(tactic| ((repeat (first | assumption | refine List.Mem.tail _ ?_)); done))
local macro_rules | `(tactic| k_ne) => `(tactic| exact Apart.ne (by assumption))
theorem len_W {vs : Array Value} {l : Addr} {k : Nat} {h₀ : Heap} {A : Around} (N : News h₀ L s.heap W) (hm : (l, listOf vs k) ∈ W) (hf : vs.size ≤ 1000) (h : Q (.int vs.size (s.toks + 1)) { s with toks := s.toks + 1 + 1 }) :
    wpAny (model P0 w) A (call (.builtin "len") [.ref l]) Q E s := len_list ⟨_, (N _ hm).1, rfl, _, rfl⟩ (by omega) h
theorem refs_size {xs : List Addr} : (xs.map Value.ref).toArray.size = xs.length := by simp
local macro_rules | `(tactic| walk_at "call builtin:len") => `(tactic| (k_here; k_dflt (refine len_W (by k_asm) (by k_mem) (by first | assumption | (rw [Mine.refs_size]; assumption)) ?_)))
local macro_rules | `(tactic| walk_at "eval ListComp") => `(tactic| (k_here; k_dflt (refine LCt.ListComp_T (F₀ := by k_asm) (by with_unfolding_all rfl) (by decide) (by rfl) (by decide) (by rfl) ?_)))
/-- a goal that the walk leaves to me -/
def Held (p : Prop) : Prop := p
theorem Held.of {p : Prop} (h : Held p) : p := h
theorem small_len {n : Nat} (h : n ≤ 1000) : Builtin.Range.small 0 (n : Int) 1 = true := by
  have e : Builtin.Range.rangeSize 0 (n : Int) 1 = (n : Int) := by unfold Builtin.Range.rangeSize; simp; omega
  unfold Builtin.Range.small
  rw [e]
  unfold Builtin.Range.rangeFitsLong
  simp; omega
theorem size_len {n : Nat} : Builtin.Range.rangeSize 0 (n : Int) 1 = ((n : Nat) : Int) := by unfold Builtin.Range.rangeSize; simp; omega
theorem item_W {vs : Array Value} {l : Addr} {k : Nat} {h₀ : Heap} {A : Around} {value slice : PySem.Expr} {i : Nat} {u : Tok} {v : Value} (N : News h₀ L s.heap W) (hm : (l, listOf vs k) ∈ W) (hf : i < 1000) (hx : vs[i]? = some v)
    (hs : subscripted slice false (.ref l) (.int (0 + (i : Int)) u) = operate [.ref l, .int (0 + (i : Int)) u] (getItem (.ref l) (.int (0 + (i : Int)) u))) (hg : ∀ r, letTemporaryGo value (.ref l) r = pure ()) (h : Q v s) :
    wpAny (model P0 w) A (subscriptTail value slice (.ref l) (.int (0 + (i : Int)) u)) Q E s :=
  item_list (k := 0 + (i : Int)) ⟨_, (N _ hm).1, rfl, _, rfl⟩ (by omega) (by omega) (by rw [show (0 + (i : Int)).toNat = i by omega]; exact hx) h hs hg
/-- k is the one place of x -/
def Here (xs : List Addr) (x : Addr) (k : Nat) : Prop := xs[k]? = some x ∧ ∀ j, xs[j]? = some x → j = k
local macro_rules | `(tactic| walk_at "subscriptTail") => `(tactic| (k_here; k_dflt (refine item_W (by k_asm) (by k_mem) (by assumption) (by assumption) (by with_unfolding_all rfl) (by intro _; with_unfolding_all rfl) ?_)))
local macro_rules | `(tactic| walk_at "compareOp Is ref ref") => `(tactic| (k_here; refine wpAny_is_ref_self ?_))
local macro_rules | `(tactic| walk_at "compareOp Is ref ref") => `(tactic| (k_here; k_dflt (refine kto_is (News.get (by k_asm) (by k_mem)) (News.get (by k_asm) (by k_mem)) (by assumption) (by assumption) ?_)))
local macro_rules | `(tactic| walk_at "CompSrcT") => `(tactic| (k_here; k_dflt (refine LCt.CompSrcT.range (by rfl) (by k_asm) (by k_asm) (by assumption) (Mine.small_len (by rw [Mine.refs_size]; assumption)) Mine.size_len (by rw [Mine.refs_size, PySem.sizeLine_eq]; omega) ?_; intro g'; refine Mine.Held.of ?_)))
theorem number_K (B : Below A₀ base outer h₀) (F : Fr h₀ L s.heap m) (X : (hd.heap_39 w.params).In h₀) (N : News h₀ L s.heap W) (T : Top p loose mean mg mb h₀) (hcs : cs.kind = .function)
    (hxs : xs.length ≤ 1000) (hk : Here xs x k0) (hob : ∀ y ∈ xs, ∃ o, (y, o) ∈ W ∧ o.cls = .ref 58) (hm : (made, listOf (xs.map Value.ref).toArray n) ∈ W)
    (hq : ∀ D h' tk tok, Fr h₀ L h' m → News h₀ L h' ((D, LCg.lst [.int k0 tok]) :: W) → (∀ p ∈ W, Apart p.1 D) → Q (.ref D) { s with heap := h', toks := tk }) :
    wpAny (model P0 w) (ktrTop 500 1000 gd cn cs L a ccd cl outer) (call (.ref 114) [.ref made, .ref x]) Q E s := by
  refine wpAny_call ?_
  k_dflt (refine' code_defC (binds := [(PySem.Str.ofString "made", Value.ref made), (PySem.Str.ofString "node", Value.ref x)]) ?k1 ?k2 ?k3 ?k4 ?k5 ?kA ?kF ?kK ?k6 ?k7 ?k8 ?k9 ?kB ?kD ?_ ?c2 ?c3 ?c4; (case kA => exact rfl); (case kF => exact rfl); (case kK => assumption); (case k1 => k_asm); (case k2 => k_asm); (case k3 => k_asm); (case k4 => k_asm); (case k5 => k_asm); (case k6 => k_is); (case k7 => k_is); (case k8 => k_room); (case k9 => exact BindsTo.of_eq rfl); (case kB => exact rfl); (case kD => decide +kernel); (case c2 => exact rfl); (case c3 => exact rfl); (case c4 => exact rfl); k_whole; intro g' L' h' tk' cells' FG' F' N' Y' B' X' T' l1; (try k_lt l1); k_cells Y'; (try simp only [List.cons_append, List.nil_append] at N'); (try dsimp only); (try k_lift B'); (try k_fold))
  w_top off
  k_steps
  rename_i o1 o2 e1 e2 N1 _ _ _ _ _ _ _ _ _ g1
  refine rest_invT (fun i ys W' => W' = ((L' + 1 + 1, o1) :: (L' + 1, o2) :: W) ∧ ((i ≤ k0 ∧ ys = []) ∨ (k0 < i ∧ ∃ tok, ys = [.int k0 tok]))) ⟨rfl, .inl ⟨Nat.zero_le _, rfl⟩⟩ ?_ ?_
  · intro i v ys W' I oI C oC D m₂ h₂ tk₂ E' hi hinv hv hC hx F₂ N₂ off ne
    obtain ⟨rfl, hys⟩ := hinv
    obtain ⟨t₂, rfl⟩ := hv
    rw [refs_size] at hi
    obtain ⟨oy, hoy, hcy⟩ := hob _ (List.getElem_mem hi)
    obtain ⟨ox, hox, hcx⟩ := hob _ (List.mem_of_getElem? hk.1)
    have h3 : oy.cls ≠ Value.type "tuple" := by rw [hcy]; intro e; cases e
    have hi3 : i < 1000 := by omega
    by_cases hik : i = k0
    · subst hik
      have h4 : (xs.map Value.ref).toArray[i]? = some (.ref x) := by simp [hk.1]
      k_steps
      refine end_turn F₂ N₂ off trivial ⟨rfl, .inr ⟨by omega, t₂, ?_⟩⟩
      rcases hys with ⟨_, rfl⟩ | ⟨h9, _⟩
      · rw [show (0 + (i : Int)) = (i : Int) by omega]; rfl
      · omega
    · have h4 : (xs.map Value.ref).toArray[i]? = some (.ref xs[i]) := by simp [hi]
      have h5 : xs[i] ≠ x := fun e => hik (hk.2 i (by rw [List.getElem?_eq_getElem hi, e]))
      k_steps
      refine end_turn F₂ N₂ off trivial ⟨rfl, ?_⟩
      rcases hys with ⟨h9, rfl⟩ | ⟨h9, q⟩
      · exact .inl ⟨by omega, rfl⟩
      · exact .inr ⟨by omega, q⟩
  · intro ys W' hinv
    obtain ⟨rfl, hys⟩ := hinv
    have hlt : k0 < xs.length := by
      have := hk.1
      rcases Nat.lt_or_ge k0 xs.length with h9 | h9
      · exact h9
      · rw [List.getElem?_eq_none h9] at this; cases this
    rw [refs_size] at hys
    obtain ⟨tok, rfl⟩ : ∃ tok, ys = [.int k0 tok] := by
      rcases hys with ⟨h9, _⟩ | ⟨_, q⟩
      · omega
      · exact q
    unfold LCg.FinE
    intro D h₃ tk₃ F₃ N₃ off₃
    k_steps
    rename_i N9 _ _
    refine hq D _ _ tok (by assumption) (N9.perm fun q hq9 => ?_) fun q hq9 => off1_mem off₃ q (.tail _ (.tail _ hq9))
    rcases List.mem_cons.mp hq9 with rfl | h9
    · exact .head _
    · exact .tail _ (.tail _ (.tail _ h9))
end
end Mine
end
section
open PySem PySem.W PyProof.Rows PySem.Calls PySem.W.X
set_option maxRecDepth 100000
set_option maxHeartbeats 8000000
set_option linter.unusedVariables false
namespace Mine
open LCg
section
variable {w : World} {A : Around} {s : Shared} {h₀ : Heap} {L : Addr} {m : PySem.Str → Option Value} {x dx lam : Addr} {es : Array DictEntry} {n : Nat} {od : Obj} {W : Ledger} {env : Env} {k : PySem.Str} {p1 : Pos} {scope : Scope} {cl : List (PySem.Str × Addr)} {Q : Value → Shared → Prop}
theorem keys_src (hh : A.handled = none) (X : (hd.heap_39 w.params).In h₀) (F : Fr h₀ L s.heap m) (N : News h₀ L s.heap W) (hM : ∃ o, h₀.get? sysModules = some o) (hm : (x, nodeObj dx es n lam) ∈ W) (hd : (dx, od) ∈ W) (hsz : es.size ≤ 1000)
    (hk : (relabel scope env).kind = .function) (hl : (relabel scope env).names.lookup k = some .local) (hb : (k == ("__debug__" : PySem.Str)) = false)
    (hq : ∀ D h' tk, Fr h₀ L h' m → News h₀ L h' ((D, lst (es.toList.map (·.key))) :: W) → (∀ p ∈ W, Apart p.1 D) → Q (.ref D) { s with heap := h', toks := tk }) :
    ∃ n P S W, Src P0 w A h₀ L W (.ref x) n P S s ∧ Fr h₀ L s.heap m ∧ News h₀ L s.heap W ∧ n ≤ sizeLine ∧
      ∀ g, CompRest P0 w A h₀ L m env (.Name k p1) k scope cl { s with heap := g } S P (FinE h₀ L m { s with heap := g } Q) n 0 [] W := by
  refine ⟨_, _, _, _, src_node hh X F N hM hm hd, F, N, by rw [PySem.sizeLine_eq]; omega, fun g => ?_⟩
  refine rest_inv (fun i ys W' => W' = W ∧ ys = (es.toList.take i).map (·.key)) ⟨rfl, by simp⟩ ?_ ?_
  · intro i v ys W' I oI C oC D m₂ h₂ tk₂ E' hi hinv hv hC hx F₂ N₂ off ne
    obtain ⟨rfl, rfl⟩ := hinv
    obtain ⟨e, he, rfl⟩ := hv
    refine LCgL.ld_own N₂ (.tail _ (.head _)) hC hx ?_ hk hl hb
    refine end_turn F₂ N₂ off hm ⟨rfl, ?_⟩
    rw [List.take_add_one]
    have : es.toList[i]? = some e := by simpa using he
    rw [this]; simp
  · intro ys W' hinv
    obtain ⟨rfl, rfl⟩ := hinv
    intro D h₃ tk₃ F₃ N₃ off₃
    have e : es.toList.take es.size = es.toList := by rw [← Array.length_toList]; exact List.take_length
    rw [e] at N₃
    exact hq D h₃ tk₃ F₃ N₃ (off1_mem off₃)
end
end Mine
end
section
open PySem PySem.W PyProof.Rows PySem.Calls PySem.W.X
set_option maxRecDepth 100000
set_option maxHeartbeats 8000000
set_option linter.unusedVariables false
namespace Mine
open LCg
theorem off1_of {D : Addr} : ∀ {l : Ledger}, (∀ p ∈ l, p.1 ≠ D) → Off1 D l
  | [], _ => trivial
  | _ :: _, h => ⟨h _ List.mem_cons_self, off1_of fun p hp => h p (List.mem_cons_of_mem _ hp)⟩
abbrev cellObj (v : Option Value) : Obj := { cls := .type "cell", data := .cell v }
section
variable {prog : Program} {w : World} {A : Around} {E : Value → Shared → Prop} {s : Shared} {h₀ : Heap} {L : Addr} {m : PySem.Str → Option Value} {env : Env}
theorem nfe_cell {M : Model} {scope : Scope} {cl : List (PySem.Str × Addr)} {x : PySem.Str} {Q : Env → Shared → Prop} (hcf : ∀ n acc, cellsFrom n scope.names acc = (x, n) :: acc) (hpc : ∀ h, pushCells h scope.names = h.push (cellObj none))
    (h : Q { scope, locals := s.heap.objs.size, globals := env.globals, cells := (x, s.heap.objs.size + 1) :: cl, qual := env.qual, func := none, code := env.code, frame := env.frame, builtins := env.builtins }
      { s with heap := (s.heap.push { cls := .type "dict", data := .dict #[] }).push (cellObj none) }) :
    wpAny M A (newFunctionEnv scope env.globals cl [] env.qual none .none (some env)) Q E s := by
  simp only [newFunctionEnv, Option.isSome_some, if_true]
  refine wpAny_bind (wpAny_alloc ?_)
  refine wpAny_bind (wpAny_layCells _ (fun name kind cells => by cases hkc : kind == NameKind.cell <;> simp [hkc]) _ _ _ _ ?_)
  rw [hcf, hpc]
  simp only [Heap.size_push]
  exact wpAny_bind (by rw [List.forIn_nil]; exact wpAny_pure (wpAny_pure h))

/-- a comprehension whose name is closed over by what it evaluates -/
theorem comp_C {elt iter : Expr} {x : PySem.Str} {px : Pos} {scope : Scope} {cl : List (PySem.Str × Addr)} {pos : Pos} {Q : Value → Shared → Prop} (F₀ : Fr h₀ L s.heap m)
    (hclos : closureFor scope env = pure cl) (hcf : ∀ n acc, cellsFrom n scope.names acc = (x, n) :: acc) (hpc : ∀ h, pushCells h scope.names = h.push (cellObj none)) (hkind : scope.kind = .function)
    (hnames : ∀ y ∈ scope.names, y.2 = .local → scope.names.lookup y.1 = some .local) (hx : (relabel scope env).names.lookup x = some .cell)
    (hs : ∀ x, foldedSetIterable iter env x = pure x)
    (h : wpAny (model prog w) A (eval iter env) (fun xv s₁ => ∃ n P S W, Src prog w A h₀ L W xv n P S s₁ ∧ Fr h₀ L s₁.heap m ∧ News h₀ L s₁.heap W ∧ n ≤ sizeLine ∧ (∀ b W, S W → S (b :: W)) ∧
      ∃ (Inv : Nat → List Value → Ledger → Prop), Inv 0 [] W ∧
        (∀ i v ys W I oI C oC D Bc oB h tk (E' : Value → Shared → Prop), i < n → Inv i ys W → P i v → oB.data = .cell (some v) → Fr h₀ L h m → News h₀ L h ((I, oI) :: (C, oC) :: (D, lst ys) :: (Bc, oB) :: W) →
          (∀ p ∈ (Bc, oB) :: W, p.1 ≠ I ∧ p.1 ≠ C ∧ p.1 ≠ D) → ((@Ne Nat I C) ∧ (@Ne Nat I D) ∧ (@Ne Nat C D)) → (∀ p ∈ W, p.1 ≠ Bc) →
          wpAny (model prog w) A (eval elt (compEnvC scope ((x, Bc) :: cl) C env)) (CompEnd h₀ L m { s₁ with heap := h, toks := tk } I oI C oC D (lst ys) S (fun y nw => ∃ W', nw = (Bc, oB) :: W' ∧ (∀ p ∈ W', p.1 ≠ Bc) ∧ Inv (i + 1) (ys ++ [y]) W')) E' { s₁ with heap := h, toks := tk }) ∧
        (∀ ys W, Inv n ys W → FinE h₀ L m s₁ Q ys W)) E s) :
    wpAny (model prog w) A (eval (.ListComp elt [⟨.Name x px, iter, [], 0⟩] scope pos) env) Q E s := by
  rw [eval_ListComp]
  refine wpAny_comprehension_free (use := none) rfl hs hclos hkind hnames (wpAny_mono h (fun xv s₁ h₁ => ?_) fun _ _ e => e)
  obtain ⟨n, P, S, W, ⟨it, fp, St, pi, Wk, st0, hfp, hIo, hSt, hS⟩, F, N, hsz, hSm, Inv, i0, turn, fin⟩ := h₁
  refine pi _ _ ?_
  refine wpAny_newObj_type (nfe_cell hcf hpc ?_)
  generalize hz : s₁.heap.objs.size = z at *
  have s1 : (s₁.heap.push it).objs.size = z + 1 := by rw [Heap.size_push, hz]
  have s2 : ((s₁.heap.push it).push (lst [])).objs.size = z + 1 + 1 := by rw [Heap.size_push, s1]
  have s3 : (((s₁.heap.push it).push (lst [])).push { cls := .type "dict", data := .dict #[] }).objs.size = z + 1 + 1 + 1 := by rw [Heap.size_push, s2]
  have lt : ∀ {b : Addr} {o : Obj}, s₁.heap.get? b = some o → b < z := fun e => hz ▸ Heap.lt_size e
  have s2' : ((s₁.heap.push it).push { cls := Value.type "list", data := Data.seq #[] }).objs.size = z + 1 + 1 := s2
  simp only [s1, s2']
  generalize hH : (((s₁.heap.push it).push (lst [])).push { cls := .type "dict", data := .dict #[] }).push (cellObj none) = H
  have up1 : ∀ b o, (s₁.heap.push it).get? b = some o → H.get? b = some o := fun b o e => hH ▸ Heap.get?_push_of_some _ (Heap.get?_push_of_some _ (Heap.get?_push_of_some _ e))
  have up : ∀ b o, s₁.heap.get? b = some o → H.get? b = some o := fun b o e => up1 b o (Heap.get?_push_of_some _ e)
  have gD : H.get? (z + 1) = some (lst []) := hH ▸ Heap.get?_push_of_some _ (Heap.get?_push_of_some _ (s1 ▸ Heap.get?_push_size _ rfl))
  have gC : H.get? (z + 1 + 1) = some { cls := .type "dict", data := .dict #[] } := hH ▸ Heap.get?_push_of_some _ (s2 ▸ Heap.get?_push_size _ rfl)
  have gB : H.get? (z + 1 + 1 + 1) = some (cellObj none) := hH ▸ s3 ▸ Heap.get?_push_size _ rfl
  have none0 : ∀ a, z ≤ a → h₀.get? a = none := fun a ha => by
    cases e : h₀.get? a with
    | none => rfl
    | some o => exact absurd (lt (F.keep a o e)) (Nat.not_lt.mpr ha)
  have hL : L < z := hz ▸ F.ns.lt
  have nL : ∀ b : Nat, z ≤ b → b ≠ L := fun b hb e => by
    have h9 : @LT.lt Nat _ L z := hL
    have e' : b = (show Nat from L) := e
    omega
  have hst0 : St 0 H := Wk.frame _ _ _ st0 fun b _ o e => up1 b o e
  have nfp : ∀ b, z < b → b ∉ fp := fun b hb hm => absurd (hfp b hm) (Nat.not_le.mpr hb)
  have zfp : z ∈ fp := Wk.sub z (.head _)
  have ltL : ∀ {p : Addr × Obj}, p ∈ W → p.1 < z := fun hp => lt (N _ hp).1
  show codeAny (model prog w) A (.compStart (.ListComp elt [⟨.Name x px, iter, [], 0⟩] scope pos) 0 (.ref z) (.ref (z + 1)) (compEnvC scope ((x, z + 1 + 1 + 1) :: cl) (z + 1 + 1) env)) (compPost (model prog w) A E none Q (.ref (z + 1)) (z + 1 + 1)) { s₁ with heap := H }
  have loop : codeAny (model prog w) A (.compLoop (.ListComp elt [⟨.Name x px, iter, [], 0⟩] scope pos) 0 (.ref z) (.ref (z + 1)) (compEnvC scope ((x, z + 1 + 1 + 1) :: cl) (z + 1 + 1) env)) (compPost (model prog w) A E none Q (.ref (z + 1)) (z + 1 + 1)) { s₁ with heap := H } := by
    refine codeAny_compLoop_tests
      (fun k s' => ∃ h' tk i ys oC oB W', s' = { s₁ with heap := h', toks := tk } ∧ i ≤ n ∧ k = n + 1 - i ∧ ys.length = i ∧ St i h' ∧ Fr h₀ L h' m ∧ NsObj oC (fun _ => none) ∧ (∃ v, oB.data = .cell v) ∧
        News h₀ L h' ((z + 1 + 1, oC) :: (z + 1, lst ys) :: (z + 1 + 1 + 1, oB) :: W') ∧ (∀ p ∈ W', p.1 ≠ z ∧ p.1 ≠ z + 1 + 1 ∧ p.1 ≠ z + 1) ∧ (∀ p ∈ W', p.1 ≠ z + 1 + 1 + 1) ∧ Inv i ys W') ?_ (n + 1)
      ⟨H, _, 0, [], { cls := .type "dict", data := .dict #[] }, cellObj none, W, rfl, Nat.zero_le _, rfl, rfl, hst0, F.keeps up, ⟨_, _, rfl, by intro e he; simp at he, fun _ => rfl⟩, ⟨_, rfl⟩, ?_, fun p hp => ?_, fun p hp => ?_, i0⟩
    · rintro k s' ⟨h', tk, i, ys, oC, oB, W', rfl, hi, rfl, hyl, hst', F', hC, ⟨v0, hB⟩, N', off', offB, hI⟩
      by_cases hlt : i < n
      · refine Wk.item i _ _ _ hlt hst' fun v h₂ tk₂ hPv hst₂ hk₂ => ?_
        have N₂ : News h₀ L h₂ ((z + 1 + 1, oC) :: (z + 1, lst ys) :: (z + 1 + 1 + 1, oB) :: W') := news_but N' hk₂ fun p hp => by
          rcases List.mem_cons.mp hp with rfl | hp
          · show z + 1 + 1 ≠ z; omega
          · rcases List.mem_cons.mp hp with rfl | hp
            · show z + 1 ≠ z; omega
            · rcases List.mem_cons.mp hp with rfl | hp
              · show z + 1 + 1 + 1 ≠ z; omega
              · exact (off' p hp).1
        have F₂ : Fr h₀ L h₂ m := fr_but F' hk₂ (Nat.ne_of_lt hL) (none0 z (Nat.le_refl _))
        refine wpAny_assign_Name (wpAny_storeName_cell (by simp [compEnvC, relabel, hkind]) hx (c := z + 1 + 1 + 1) (by simp [compEnvC]) ⟨oB, (N₂ (_, oB) (.tail _ (.tail _ (.head _)))).1, hB⟩ fun h₃ hB₃ hs₃ => ?_)
        refine wpAny_tests_nil ?_
        simp only [if_true]
        obtain ⟨oB', gB', dB'⟩ := hB₃
        have hst₃ : St (i + 1) h₃ := Wk.frame _ _ _ hst₂ fun b hb o e => hs₃.extBut b o (fun q => nfp (z + 1 + 1 + 1) (by omega) (by have q' : b = z + 1 + 1 + 1 := q; rw [← q']; exact hb)) e
        obtain ⟨oI, heI⟩ := hIo _ _ hst₃
        have F₃ : Fr h₀ L h₃ m := F₂.change hs₃ (nL _ (by omega)) (none0 _ (by omega))
        have N₃ : News h₀ L h₃ ((z, oI) :: (z + 1 + 1, oC) :: (z + 1, lst ys) :: (z + 1 + 1 + 1, oB') :: W') := fun p hp => by
          rcases List.mem_cons.mp hp with rfl | hp
          · exact ⟨heI, nL _ (by omega), none0 _ (Nat.le_refl _)⟩
          · rcases List.mem_cons.mp hp with rfl | hp
            · have q := N₂ (z + 1 + 1, oC) (.head _)
              exact ⟨hs₃.extBut _ _ (by show z + 1 + 1 ≠ z + 1 + 1 + 1; omega) q.1, q.2⟩
            · rcases List.mem_cons.mp hp with rfl | hp
              · have q := N₂ (z + 1, lst ys) (.tail _ (.head _))
                exact ⟨hs₃.extBut _ _ (by show z + 1 ≠ z + 1 + 1 + 1; omega) q.1, q.2⟩
              · rcases List.mem_cons.mp hp with rfl | hp
                · exact ⟨gB', nL _ (by omega), none0 _ (by omega)⟩
                · have q := N₂ p (.tail _ (.tail _ (.tail _ hp)))
                  exact ⟨hs₃.extBut _ _ (offB p hp) q.1, q.2⟩
        have off3 : ∀ p ∈ (z + 1 + 1 + 1, oB') :: W', p.1 ≠ z ∧ p.1 ≠ z + 1 + 1 ∧ p.1 ≠ z + 1 := fun p hp => by
          rcases List.mem_cons.mp hp with rfl | hp
          · refine ⟨?_, ?_, ?_⟩
            · show z + 1 + 1 + 1 ≠ z; omega
            · show z + 1 + 1 + 1 ≠ z + 1 + 1; omega
            · show z + 1 + 1 + 1 ≠ z + 1; omega
          · exact off' p hp
        refine wpAny_mono (turn i v ys W' z oI (z + 1 + 1) oC (z + 1) (z + 1 + 1 + 1) oB' h₃ _ _ hlt hI hPv dB' F₃ N₃ off3 ⟨by show z ≠ z + 1 + 1; omega, by show z ≠ z + 1; omega, by show z + 1 + 1 ≠ z + 1; omega⟩ offB) (fun y s₄ h₄ => ?_) fun _ _ e => e
        obtain ⟨h₄, tk₄, nw, rfl, F₄, N₄, off₄, hS₄, W₄, rfl, offB₄, I₄⟩ := h₄
        have zI := (N₄ (z, oI) (.head _)).1
        have zD := (N₄ (z + 1, lst ys) (.tail _ (.tail _ (.head _)))).1
        have N₄' : News h₀ L h₄ ((z + 1 + 1 + 1, oB') :: W₄) := fun p hp => N₄ p (.tail _ (.tail _ (.tail _ hp)))
        have hst₄ : St (i + 1) h₄ := hSt _ _ _ _ _ hst₃ heI zI F₄.keep N₄' hS₄
        refine append_at (hsz := by show ys.toArray.size ≤ sizeLine; rw [List.size_toArray, hyl]; exact Nat.le_trans hi hsz) zD fun h₅ hs₅ hD₅ => ?_
        have off4 := off₄.mem
        refine ⟨n + 1 - (i + 1), by omega, h₅, tk₄, i + 1, ys ++ [y], oC, oB', W₄, rfl, hlt, rfl, by rw [List.length_append, List.length_singleton, hyl], Wk.frame _ _ _ hst₄ fun b hb o e => hs₅.extBut b o (fun q => nfp (z + 1) (by omega) (by have q' : b = z + 1 := q; rw [← q']; exact hb)) e,
          F₄.change hs₅ (nL _ (by omega)) (none0 _ (by omega)), hC, ⟨_, dB'⟩, fun p hp => ?_, fun p hp => off4 p (.tail _ hp), offB₄, I₄⟩
        rcases List.mem_cons.mp hp with rfl | hp
        · have q := N₄ (z + 1 + 1, oC) (.tail _ (.head _))
          exact ⟨hs₅.extBut _ _ (by show z + 1 + 1 ≠ z + 1; omega) q.1, q.2⟩
        · rcases List.mem_cons.mp hp with rfl | hp
          · exact ⟨hD₅.trans (congrArg some (lst_snoc ys y)), nL _ (by omega), none0 _ (by omega)⟩
          · exact ⟨hs₅.extBut _ _ (off4 p hp).2.2 (N₄' p hp).1, (N₄' p hp).2⟩
      · obtain rfl : i = n := Nat.le_antisymm hi (Nat.not_lt.mp hlt)
        refine Wk.done _ _ _ hst' fun h₂ tk₂ hk₂ => ?_
        have F₂ : Fr h₀ L h₂ m := fr_but F' hk₂ (Nat.ne_of_lt hL) (none0 z (Nat.le_refl _))
        have N₂ : News h₀ L h₂ ((z + 1 + 1, oC) :: (z + 1, lst ys) :: W') := fun p hp => by
          have q := news_but N' hk₂ (fun p hp => by
            rcases List.mem_cons.mp hp with rfl | hp
            · show z + 1 + 1 ≠ z; omega
            · rcases List.mem_cons.mp hp with rfl | hp
              · show z + 1 ≠ z; omega
              · rcases List.mem_cons.mp hp with rfl | hp
                · show z + 1 + 1 + 1 ≠ z; omega
                · exact (off' p hp).1)
          rcases List.mem_cons.mp hp with rfl | hp
          · exact q _ (.head _)
          · rcases List.mem_cons.mp hp with rfl | hp
            · exact q _ (.tail _ (.head _))
            · exact q _ (.tail _ (.tail _ (.tail _ hp)))
        refine ⟨_, hC.ns (N₂ _ (.head _)).1, fun h'' hs'' => fin ys W' hI (z + 1) h'' tk₂ (F₂.change hs'' (nL _ (by omega)) (none0 _ (by omega))) (fun p hp => ?_) (off1_of fun p hp => (off' p hp).2.2)⟩
        refine ⟨hs''.extBut _ _ ?_ (N₂ p (.tail _ hp)).1, (N₂ p (.tail _ hp)).2⟩
        rcases List.mem_cons.mp hp with rfl | hp
        · show z + 1 ≠ z + 1 + 1; omega
        · exact (off' p hp).2.1
    · intro p hp
      rcases List.mem_cons.mp hp with rfl | hp
      · exact ⟨gC, nL _ (by omega), none0 _ (by omega)⟩
      · rcases List.mem_cons.mp hp with rfl | hp
        · exact ⟨gD, nL _ (by omega), none0 _ (by omega)⟩
        · rcases List.mem_cons.mp hp with rfl | hp
          · exact ⟨gB, nL _ (by omega), none0 _ (by omega)⟩
          · exact ⟨up _ _ (N p hp).1, (N p hp).2⟩
    · have := ltL hp
      have h9 : ∀ b : Nat, b < z → b ≠ z ∧ b ≠ z + 1 + 1 ∧ b ≠ z + 1 := by omega
      exact h9 _ this
    · have := ltL hp
      have h9 : ∀ b : Nat, b < z → b ≠ z + 1 + 1 + 1 := by omega
      exact h9 _ this
  exact codeAny_compStart_list loop (Wk.self 0 _ _ _ hst0 loop)
end
end Mine
end
section
open PySem PySem.W PyProof.Rows PySem.Calls PySem.W.X
set_option maxRecDepth 100000
set_option maxHeartbeats 1000000
set_option linter.unusedVariables false
namespace Mine
/-- the table's rows in the ledger -/
def RowAt (W : Ledger) (r : Addr) (q : Row) : Prop := ∃ t1 t2 n, (r, listOf #[.int q.up t1, .str q.text t2, .bool q.cold] n) ∈ W
def RowsAt (W : Ledger) (rs : List Addr) (t : Table) : Prop := rs.length = t.length ∧ ∀ (k : Nat) (r : Addr) (q : Row), rs[k]? = some r → t[k]? = some q → RowAt W r q
section
variable {p : Program} {loose : List PySem.Str} {mean : ExcName → Option Value} {mg mb : PySem.Str → Option Value} {w : World}
    {gd : Option (List Code)} {cn : PySem.Str} {cs : Scope} {a : Addr} {ccd : Value} {cl : List (PySem.Str × Addr)} {outer : List Env} {A₀ : Around} {base h₀ : Heap} {L : Addr} {m : PySem.Str → Option Value} {W : Ledger} {s : Shared} {tb : Addr} {rs : List Addr} {n at_ : Nat} {ta : Tok} {t : Table}
    {Q E : Value → Shared → Prop} {R : Result → Shared → Prop}
local macro_rules | `(tactic| k_all) => `(tactic| assumption)
local macro_rules | `(tactic| k_mem) => `(tactic| ((repeat (first | assumption | refine List.Mem.tail _ ?_)); done))
local macro_rules | `(tactic| k_ne) => `(tactic| exact Apart.ne (by assumption))
local macro_rules | `(tactic| walk_at "call builtin:len") => `(tactic| (k_here; k_dflt (refine len_W (by k_asm) (by k_mem) (by first | assumption | (rw [Mine.refs_size]; assumption)) ?_)))
local macro_rules | `(tactic| walk_at "eval ListComp") => `(tactic| (k_here; k_dflt (refine LCt.ListComp_T (F₀ := by k_asm) (by with_unfolding_all rfl) (by decide) (by rfl) (by decide) (by rfl) ?_)))
theorem item_0 {vs : Array Value} {l : Addr} {k : Nat} {h₀ : Heap} {A : Around} {value slice : PySem.Expr} {i : Nat} {u : Tok} {v : Value} (N : News h₀ L s.heap W) (hm : (l, listOf vs k) ∈ W) (hf : i < 1000) (hx : vs.toList[i]? = some v)
    (hs : subscripted slice false (.ref l) (.int i u) = operate [.ref l, .int i u] (getItem (.ref l) (.int i u))) (hg : ∀ r, letTemporaryGo value (.ref l) r = pure ()) (h : Q v s) :
    wpAny (model P0 w) A (subscriptTail value slice (.ref l) (.int i u)) Q E s :=
  item_list (k := (i : Int)) ⟨_, (N _ hm).1, rfl, _, rfl⟩ (by omega) (by omega) (by rw [show ((i : Int)).toNat = i by omega]; simpa using hx) h hs hg
local macro_rules | `(tactic| walk_at "subscriptTail") => `(tactic| (k_here; (with_reducible show wpAny _ _ (subscriptTail _ _ (Value.ref _) (Value.int 0 _)) _ _ _); k_dflt (refine item_0 (i := 0) (by k_asm) (by k_mem) (by decide) (by rfl) (by with_unfolding_all rfl) (by intro _; with_unfolding_all rfl) ?_)))
local macro_rules | `(tactic| walk_at "subscriptTail") => `(tactic| (k_here; (with_reducible show wpAny _ _ (subscriptTail _ _ (Value.ref _) (Value.int (0 + _) _)) _ _ _); k_dflt (refine item_W (by k_asm) (by k_mem) (by assumption) (by assumption) (by with_unfolding_all rfl) (by intro _; with_unfolding_all rfl) ?_)))
local macro_rules | `(tactic| walk_at "CompSrcT") => `(tactic| (k_here; k_dflt (refine LCt.CompSrcT.range (by rfl) (by k_asm) (by k_asm) (by assumption) (Mine.small_len (by rw [Mine.refs_size]; assumption)) Mine.size_len (by rw [Mine.refs_size, PySem.sizeLine_eq]; omega) ?_; intro g'; refine Mine.Held.of ?_)))
theorem under_K (B : Below A₀ base outer h₀) (F : Fr h₀ L s.heap m) (X : (hd.heap_39 w.params).In h₀) (N : News h₀ L s.heap W) (T : Top p loose mean mg mb h₀) (hcs : cs.kind = .function)
    (hxs : rs.length ≤ 1000) (hm : (tb, listOf (rs.map Value.ref).toArray n) ∈ W) (hr : RowsAt W rs t)
    (hq : ∀ D h' tk ys, Fr h₀ L h' m → News h₀ L h' ((D, LCg.lst ys) :: W) → (∀ p ∈ W, Apart p.1 D) → IntsAre ys ((under t at_).map fun k : Nat => (k : Int)) → Q (.ref D) { s with heap := h', toks := tk }) :
    wpAny (model P0 w) (ktrTop 500 1000 gd cn cs L a ccd cl outer) (call (.ref 124) [.ref tb, .int at_ ta]) Q E s := by
  refine wpAny_call ?_
  k_dflt (refine' code_defC (binds := [(PySem.Str.ofString "table", Value.ref tb), (PySem.Str.ofString "at", Value.int at_ ta)]) ?k1 ?k2 ?k3 ?k4 ?k5 ?kA ?kF ?kK ?k6 ?k7 ?k8 ?k9 ?kB ?kD ?_ ?c2 ?c3 ?c4; (case kA => exact rfl); (case kF => exact rfl); (case kK => assumption); (case k1 => k_asm); (case k2 => k_asm); (case k3 => k_asm); (case k4 => k_asm); (case k5 => k_asm); (case k6 => k_is); (case k7 => k_is); (case k8 => k_room); (case k9 => exact BindsTo.of_eq rfl); (case kB => exact rfl); (case kD => decide +kernel); (case c2 => exact rfl); (case c3 => exact rfl); (case c4 => exact rfl); k_whole; intro g' L' h' tk' cells' FG' F' N' Y' B' X' T' l1; (try k_lt l1); k_cells Y'; (try simp only [List.cons_append, List.nil_append] at N'); (try dsimp only); (try k_lift B'); (try k_fold))
  w_top off
  k_steps
  rename_i o1 o2 e1 e2 N1 _ _ _ _ _ _ _ _ _ g1
  have hlen := hr.1
  refine rest_invT (fun i ys W' => W' = ((L' + 1 + 1, o1) :: (L' + 1, o2) :: W) ∧ IntsAre ys (((List.range i).filter (isUnder t at_)).map fun k : Nat => (k : Int))) ⟨rfl, .nil⟩ ?_ ?_
  · intro i v ys W' I oI C oC D m₂ h₂ tk₂ E' hi hinv hv hC hx F₂ N₂ off ne
    obtain ⟨rfl, hys⟩ := hinv
    obtain ⟨t₂, rfl⟩ := hv
    rw [refs_size] at hi
    have hi3 : i < 1000 := by omega
    obtain ⟨t3, t4, n3, hrow⟩ := hr.2 i rs[i] t[i] (List.getElem?_eq_getElem hi) (List.getElem?_eq_getElem (by omega))
    have h4 : (rs.map Value.ref).toArray[i]? = some (.ref rs[i]) := by simp [hi]
    k_steps
    · have hu : isUnder t at_ i = true := by unfold isUnder; rw [List.getElem?_eq_getElem (by omega)]; simpa using (by assumption)
      refine end_turn F₂ N₂ off trivial ⟨rfl, ?_⟩
      rw [List.range_succ, List.filter_append, List.map_append, List.filter_cons_of_pos hu]
      rw [show (0 + (i : Int)) = (i : Int) by omega]
      exact IntsAre.append hys (.cons (i : Int) t₂ .nil)
    · have hu : ¬ isUnder t at_ i = true := by unfold isUnder; rw [List.getElem?_eq_getElem (by omega)]; simpa using (by assumption)
      refine end_turn F₂ N₂ off trivial ⟨rfl, ?_⟩
      rw [List.range_succ, List.filter_append, List.map_append, List.filter_cons_of_neg hu]
      simpa using hys
  · intro ys W' hinv
    obtain ⟨rfl, hys⟩ := hinv
    rw [refs_size, hlen] at hys
    unfold LCg.FinE
    intro D h₃ tk₃ F₃ N₃ off₃
    k_steps
    rename_i N9 _ _
    refine hq D _ _ ys (by assumption) (N9.perm fun q hq9 => ?_) (fun q hq9 => off1_mem off₃ q (.tail _ (.tail _ hq9))) hys
    rcases List.mem_cons.mp hq9 with rfl | h9
    · exact .head _
    · exact .tail _ (.tail _ (.tail _ h9))
end
end Mine
end
section
open PySem PySem.W PyProof.Rows PySem.Calls PySem.W.X
set_option maxRecDepth 100000
set_option maxHeartbeats 1000000
set_option linter.unusedVariables false
namespace Mine
section
def StepW (h₀ : Heap) (L I : Addr) (oI : Obj) (Jn : (PySem.Str → Option Value) → Ledger → Prop) (s₁ : Shared) (f : Flow) (s₂ : Shared) : Prop :=
  f = .next ∧ ∃ h' tk m' W', s₂ = { s₁ with heap := h', toks := tk } ∧ Fr h₀ L h' m' ∧ News h₀ L h' ((I, oI) :: W') ∧ (∀ p ∈ W', Apart p.1 I) ∧ Jn m' W'
theorem step_W {h₀ h h' : Heap} {L I : Addr} {oI : Obj} {Jn : (PySem.Str → Option Value) → Ledger → Prop} {s : Shared} {tk tk' : Nat} {m' : PySem.Str → Option Value} {W' : Ledger} (F : Fr h₀ L h' m') (N : News h₀ L h' ((I, oI) :: W')) (off : ∀ p ∈ W', Apart p.1 I) (j : Jn m' W') :
    StepW h₀ L I oI Jn { s with heap := h, toks := tk } .next { s with heap := h', toks := tk' } := ⟨rfl, h', tk', m', W', rfl, F, N, off, j⟩
variable {prog : Program} {w : World} {A : Around} {E : Value → Shared → Prop} {s : Shared} {h₀ : Heap} {env : Env} {l : Addr} {vs : Array Value} {k0 : Nat} {m₀ : PySem.Str → Option Value} {W : Ledger} {x : PySem.Str} {body : List Stmt} {Q : Flow → Shared → Prop}
/-- a loop over a list in the ledger -/
theorem loop_W (Inv : Nat → (PySem.Str → Option Value) → Ledger → Prop) (hh : A.handled = none) (F : Fr h₀ env.locals s.heap m₀) (N : News h₀ env.locals s.heap W) (hin : ∀ i m W', Inv i m W' → (l, listOf vs k0) ∈ W') (h0 : Inv 0 m₀ W)
    (turn : ∀ i v m₁ W₁ I oI h tk, vs[i]? = some v → Inv i m₁ W₁ → Fr h₀ env.locals h (fun y => if y = x then some v else m₁ y) → News h₀ env.locals h ((I, oI) :: W₁) → (∀ p ∈ W₁, Apart p.1 I) →
      wpAny (model prog w) A (execs body env) (StepW h₀ env.locals I oI (Inv (i + 1)) { s with heap := h, toks := tk }) E { s with heap := h, toks := tk })
    (done : ∀ m₁ W₁ h tk, Inv vs.size m₁ W₁ → Fr h₀ env.locals h m₁ → News h₀ env.locals h W₁ → Q .next { s with heap := h, toks := tk }) :
    wpAny (model prog w) A (pyIter (.ref l)) (fun it s₂ => LoopAtV prog w A h₀ env x body Q E it s₂) E s := by
  have hm := hin _ _ _ h0
  have hls : s.heap.IsList l vs := ⟨_, (N _ hm).1, rfl, _, rfl⟩
  have hlt : l < s.heap.objs.size := Heap.lt_size (N _ hm).1
  refine wpAny_pyIter_list hls ?_
  have Wk := Walks.list (prog := prog) (w := w) hh s.heap.objs.size l (Nat.ne_of_lt hlt) vs
  refine ⟨_, _, _, _, _, _, m₀, W, Inv, rfl, Wk, ?_, ?_, ?_, ⟨⟨_, Heap.get?_push_size _ rfl, rfl, rfl⟩, hls.at fun o e => Heap.get?_push_of_some _ e⟩, F.push _, (fun p hp => ⟨Heap.get?_push_of_some _ (N p hp).1, (N p hp).2⟩), h0, ?_, ?_⟩
  · intro hm'
    rcases List.mem_cons.mp hm' with e | hm'
    · exact absurd F.ns.lt (e ▸ Nat.lt_irrefl _)
    · exact (N _ hm).2.1 (List.mem_singleton.mp hm').symm
  · intro b hb
    rw [List.mem_singleton.mp hb]
    exact next_is_new F
  · intro p hp hI
    exact absurd (Heap.lt_size (N p hp).1) ((List.mem_singleton.mp hI) ▸ Nat.lt_irrefl _)
  · rintro i v m₁ W₁ s₁ own ⟨hh', tk', rfl⟩ hi hP hJ hoff hown hget hall hst F₁ N₁
    obtain ⟨oI, heI, _⟩ := hst.1
    have hIown : (s.heap.objs.size, oI) ∈ own := hall _ (.head _) (next_is_new F) _ heI
    have hl1 := hin _ _ _ hJ
    refine wpAny_mono (turn i v m₁ W₁ s.heap.objs.size oI hh' tk' hP hJ F₁ (fun p hp => ?_) (fun p hp e => hoff p hp (List.mem_singleton.mpr e))) (fun f s₂ p => ?_) fun _ _ e => e
    · rcases List.mem_cons.mp hp with rfl | hp
      · exact N₁ _ (List.mem_append_left _ hIown)
      · exact N₁ _ (List.mem_append_right _ hp)
    · obtain ⟨rfl, h', tk, m', W', rfl, F', N', off', hj⟩ := p
      refine .next ⟨rfl, h', tk, m', W', rfl, F', fun q hq => ?_, fun q hq hI => off' q hq (List.mem_singleton.mp hI), hj⟩
      rcases List.mem_append.mp hq with hq | hq
      · rcases List.mem_cons.mp (hown q hq) with e | e
        · have e2 := hget q hq
          have e3 : q = (s.heap.objs.size, oI) := by
            have : some q.2 = some oI := by rw [← e2, e]; exact heI
            exact Prod.ext e (Option.some.inj this)
          rw [e3]; exact N' _ (.head _)
        · have e1 := List.mem_singleton.mp e
          have e2 := hget q hq
          have e3 : q = (l, listOf vs k0) := by
            have : some q.2 = some (listOf vs k0) := by rw [← e2, e1]; exact (N₁ _ (List.mem_append_right _ hl1)).1
            exact Prod.ext e1 (Option.some.inj this)
          rw [e3]; exact N' _ (.tail _ (hin _ _ _ hj))
      · exact N' _ (.tail _ hq)
  · intro h' tk m' W' F' N' _ hJ
    exact done m' W' h' tk hJ F' N'
end
end Mine
end
section
open PySem PySem.W PyProof.Rows PySem.Calls PySem.W.X
set_option maxRecDepth 100000
set_option maxHeartbeats 1000000
set_option linter.unusedVariables false
namespace Mine
def mD (td l : Addr) (u1 u2 : Option Value) (a : Nat) (ta : Tok) : PySem.Str → Option Value := fun y =>
  if y = Str.ofString "cell" then u1 else if y = Str.ofString "known" then u2 else if y = Str.ofString "at" then some (.int (a : Int) ta) else if y = Str.ofString "told" then some (.ref td) else if y = Str.ofString "cells" then some (.ref l) else none
def led (td : Addr) (told : List Value) (nd : Nat) (tb : Addr) (rs : List Addr) (nt : Nat) (Cx : Addr) (ocx : Obj) (Ct : Addr) (oct : Obj) (rest : Ledger) : Ledger :=
  (td, listOf told.toArray nd) :: (tb, listOf (rs.map Value.ref).toArray nt) :: (Cx, ocx) :: (Ct, oct) :: rest
structure DI (W : Ledger) (Ct Cx tb td : Addr) (st : Table × Nat) (ds : List Dat) (rs : List Addr) (told : List Value) (oct ocx : Obj) (R rest : Ledger) : Prop where
  ct : oct.data = .cell (some (.ref tb))
  cx : ∃ v, ocx.data = .cell v
  rows : RowsAt rest rs st.1
  nodup : rs.Nodup
  apR : ∀ p ∈ R, p ∈ rest
  apRr : ∀ p ∈ R, p.1 ∉ rs
  dat : DatAll R told ds
  inW : ∀ p ∈ W, p ∈ rest
  inWr : ∀ p ∈ W, p.1 ∉ rs
  a1 : Apart Ct Cx
  a2 : Apart Ct tb
  a3 : Apart Ct td
  a4 : Apart Cx tb
  a5 : Apart Cx td
  a6 : Apart tb td
  o1 : ∀ p ∈ rest, Apart p.1 Ct
  o2 : ∀ p ∈ rest, Apart p.1 Cx
  o3 : ∀ p ∈ rest, Apart p.1 tb
  o4 : ∀ p ∈ rest, Apart p.1 td
  lt : st.2 < st.1.length
def MidD (h₀ : Heap) (L I : Addr) (oI : Obj) (W : Ledger) (Ct Cx tb td l : Addr) (st : Table × Nat) (ds : List Dat) (told : List Value) (nd : Nat) (R : Ledger) (s : Shared) (f : Flow) (s' : Shared) : Prop :=
  f = .next ∧ ∃ h' tk rs oct ocx nt rest u1 u2 ta, s' = { s with heap := h', toks := tk } ∧ Fr h₀ L h' (mD td l u1 u2 st.2 ta) ∧ News h₀ L h' ((I, oI) :: led td told nd tb rs nt Cx ocx Ct oct rest) ∧
    (∀ p ∈ led td told nd tb rs nt Cx ocx Ct oct rest, Apart p.1 I) ∧ DI W Ct Cx tb td st ds rs told oct ocx R rest
def InvD (W : Ledger) (Ct Cx tb td l : Addr) (ns : List Int) (i : Nat) (m : PySem.Str → Option Value) (W₁ : Ledger) : Prop :=
  ∃ rs told oct ocx nt nd R rest u1 u2 ta, W₁ = led td told nd tb rs nt Cx ocx Ct oct rest ∧ DI W Ct Cx tb td (run start (ns.take i)).1 (run start (ns.take i)).2 rs told oct ocx R rest ∧ m = mD td l u1 u2 (run start (ns.take i)).1.2 ta
theorem mem_setW_inv {a : Addr} {o : Obj} {W : Ledger} {p : Addr × Obj} (h : p ∈ setW a o W) : ∃ q ∈ W, q.1 = p.1 := by
  obtain ⟨q, hq, e⟩ := List.mem_map.mp h
  refine ⟨q, hq, ?_⟩
  by_cases h1 : q.1 = a
  · rw [if_pos h1] at e; rw [← e]; exact h1
  · rw [if_neg h1] at e; rw [e]
theorem setW_cons {a : Addr} {o : Obj} {W : Ledger} {p : Addr × Obj} (h : p.1 ≠ a) : setW a o (p :: W) = p :: setW a o W := by simp [setW, h]
theorem setW_all {a : Addr} {o : Obj} {W : Ledger} {P : Addr → Prop} (h : ∀ p ∈ W, P p.1) : ∀ p ∈ setW a o W, P p.1 := fun p hp => let ⟨q, hq, e⟩ := mem_setW_inv hp; e ▸ h q hq
theorem fr_eq {h₀ h : Heap} {L : Addr} {m m' : PySem.Str → Option Value} (F : Fr h₀ L h m) (e : m = m') : Fr h₀ L h m' := e ▸ F
theorem mD_at {td l : Addr} {u1 u2 v : Option Value} {a a' : Nat} {ta ta' : Tok} : (fun y => if y = Str.ofString "at" then some (.int (a' : Int) ta') else if y = Str.ofString "cell" then v else mD td l u1 u2 a ta y) = mD td l v u2 a' ta' := by
  funext y
  unfold mD
  by_cases h1 : y = Str.ofString "at"
  · subst h1; simp +decide
  · by_cases h2 : y = Str.ofString "cell"
    · subst h2; simp +decide
    · simp [h1, h2]
theorem mD_cell {td l : Addr} {u1 u2 v : Option Value} {a : Nat} {ta : Tok} : (fun y => if y = Str.ofString "cell" then v else mD td l u1 u2 a ta y) = mD td l v u2 a ta := by
  funext y
  unfold mD
  by_cases h2 : y = Str.ofString "cell"
  · subst h2; simp
  · simp [h2]
theorem mD_known {td l : Addr} {u1 u2 v k : Option Value} {a a' : Nat} {ta ta' : Tok} : (fun y => if y = Str.ofString "at" then some (.int (a' : Int) ta') else if y = Str.ofString "known" then k else if y = Str.ofString "cell" then v else mD td l u1 u2 a ta y) = mD td l v k a' ta' := by
  funext y
  unfold mD
  by_cases h1 : y = Str.ofString "at"
  · subst h1; simp +decide
  · by_cases h2 : y = Str.ofString "cell"
    · subst h2; simp +decide
    · by_cases h3 : y = Str.ofString "known"
      · subst h3; simp +decide
      · simp [h1, h2, h3]
theorem nodup_ne {rs : List Addr} (hn : rs.Nodup) {j k : Nat} (hj : j < rs.length) (hk : k < rs.length) (h : j ≠ k) : rs[j] ≠ rs[k] := by
  have hp := List.pairwise_iff_getElem.mp hn
  rcases Nat.lt_or_gt_of_ne h with h1 | h1
  · exact hp j k hj hk h1
  · exact fun e => hp k j hk hj h1 e.symm
/-- a row is written anew -/
theorem rows_set {W : Ledger} {rs : List Addr} {t : Table} {k : Nat} {q : Row} {t1 t2 : Tok} {n : Nat} (h : RowsAt W rs t) (hn : rs.Nodup) (hk : k < rs.length) (hq : t[k]? = some q) (q' : Row) (hm : ∃ o, (rs[k], o) ∈ W) :
    RowsAt (setW rs[k] (listOf #[.int q'.up t1, .str q'.text t2, .bool q'.cold] n) W) rs (t.set k q') := by
  refine ⟨by rw [List.length_set]; exact h.1, fun j r q2 e1 e2 => ?_⟩
  by_cases hj : j = k
  · subst hj
    rw [List.getElem?_eq_getElem hk] at e1
    cases e1
    have : t[j]? ≠ none := by rw [hq]; simp
    rw [List.getElem?_set_self (by have := h.1; omega)] at e2
    cases e2
    obtain ⟨o, ho⟩ := hm
    exact ⟨t1, t2, n, mem_setW ho⟩
  · rw [List.getElem?_set_ne (Ne.symm hj)] at e2
    obtain ⟨t3, t4, n3, hm3⟩ := h.2 j r q2 e1 e2
    refine ⟨t3, t4, n3, mem_setW_ne hm3 ?_⟩
    show r ≠ rs[k]
    obtain ⟨hj1, rfl⟩ := List.getElem?_eq_some_iff.mp e1
    exact nodup_ne hn hj1 hk hj
theorem rows_snoc {W : Ledger} {rs : List Addr} {t : Table} {r : Addr} {q : Row} {t1 t2 : Tok} {n : Nat} (h : RowsAt W rs t) :
    RowsAt ((r, listOf #[.int q.up t1, .str q.text t2, .bool q.cold] n) :: W) (rs ++ [r]) (t ++ [q]) := by
  refine ⟨by rw [List.length_append, List.length_append, h.1]; rfl, fun k r2 q2 e1 e2 => ?_⟩
  rcases Nat.lt_or_ge k rs.length with hk | hk
  · rw [List.getElem?_append_left hk] at e1
    rw [List.getElem?_append_left (h.1 ▸ hk)] at e2
    obtain ⟨t3, t4, n3, hm⟩ := h.2 k r2 q2 e1 e2
    exact ⟨t3, t4, n3, .tail _ hm⟩
  · rw [List.getElem?_append_right hk] at e1
    rw [List.getElem?_append_right (h.1 ▸ hk), ← h.1] at e2
    have h0 : k - rs.length = 0 := by
      rcases Nat.eq_zero_or_pos (k - rs.length) with h9 | h9
      · exact h9
      · rw [List.getElem?_eq_none (by simp; omega)] at e1; cases e1
    rw [h0] at e1 e2
    cases e1; cases e2
    exact ⟨t1, t2, n, .head _⟩
theorem rows_lt {W : Ledger} {rs : List Addr} {t : Table} {x : Nat} (h : RowsAt W rs t) (hl : ∀ p ∈ W, @LT.lt Nat _ p.1 x) : ∀ r ∈ rs, @LT.lt Nat _ r x := fun r hr => by
  obtain ⟨k, hk, rfl⟩ := List.getElem_of_mem hr
  obtain ⟨t1, t2, n, hm⟩ := h.2 k rs[k] (t[k]'(h.1 ▸ hk)) (List.getElem?_eq_getElem hk) (List.getElem?_eq_getElem (h.1 ▸ hk))
  exact hl _ hm
theorem nodup_snoc {rs : List Addr} {x : Addr} (h : rs.Nodup) (hl : ∀ r ∈ rs, @LT.lt Nat _ r x) : (rs ++ [x]).Nodup := by
  rw [List.nodup_append]
  refine ⟨h, by simp, fun a ha b hb => ?_⟩
  rw [List.mem_singleton.mp hb]
  exact Nat.ne_of_lt (hl a ha)
theorem notin_snoc {rs : List Addr} {x y : Addr} (h : y ∉ rs) (hl : @LT.lt Nat _ y x) : y ∉ rs ++ [x] := by
  intro hm
  rcases List.mem_append.mp hm with h1 | h1
  · exact h h1
  · exact absurd (List.mem_singleton.mp h1) (Nat.ne_of_lt hl)
theorem allLt_mem {x : Addr} : ∀ {W : Ledger}, AllLt x W → ∀ p ∈ W, @LT.lt Nat _ p.1 x
  | [], _, _, h => nomatch h
  | _ :: _, h, p, hp => by
    rcases List.mem_cons.mp hp with rfl | hp
    · exact h.1
    · exact allLt_mem h.2 p hp
theorem push_size {rs : List Addr} {v : Value} (h : rs.length ≤ 100) : ((rs.map Value.ref).toArray.push v).size ≤ 1000 := by simp; omega
theorem refs_push {rs : List Addr} {x : Addr} : (rs.map Value.ref).toArray.push (.ref x) = ((rs ++ [x]).map Value.ref).toArray := by simp
theorem all_cons {P : Addr → Prop} {p : Addr × Obj} {W : Ledger} (h1 : P p.1) (h2 : ∀ q ∈ W, P q.1) : ∀ q ∈ p :: W, P q.1 := fun q hq => by
  rcases List.mem_cons.mp hq with rfl | hq
  · exact h1
  · exact h2 q hq
theorem mid_grow {h₀ h h' : Heap} {L I : Addr} {oI o3 ok ox oct ocx : Obj} {W R rest : Ledger} {Ct Cx tb td l r D3 Dk : Addr} {t : Table} {a at_ nd nt tk tk' : Nat} {ds : List Dat} {told : List Value} {rs : List Addr} {s : Shared} {u1 u2 v kv : Option Value} {ta ta' t1 t2 : Tok} (q : Row)
    (F : Fr h₀ L h' (fun y => if y = Str.ofString "at" then some (.int ((((rs.map Value.ref).toArray.push (.ref r)).size : Int) - 1) ta') else if y = Str.ofString "known" then kv else if y = Str.ofString "cell" then v else mD td l u1 u2 a ta y))
    (N : News h₀ L h' ((r, listOf #[.int q.up t1, .str q.text t2, .bool q.cold] 0) :: (D3, o3) :: (Dk, ok) :: (I, oI) :: (td, listOf told.toArray nd) :: (tb, listOf ((rs.map Value.ref).toArray.push (.ref r)) (nt + 1)) :: (Cx, ox) :: (Ct, oct) :: rest))
    (rI : @LT.lt Nat _ I r) (rtd : @LT.lt Nat _ td r) (rtb : @LT.lt Nat _ tb r) (rCx : @LT.lt Nat _ Cx r) (rCt : @LT.lt Nat _ Ct r) (rl : AllLt r rest)
    (D : DI W Ct Cx tb td (t, at_) ds rs told oct ocx R rest) (hcx : ∃ v, ox.data = .cell v) (i1 : Apart td I) (i2 : Apart tb I) (i3 : Apart Cx I) (i4 : Apart Ct I) (i5 : ∀ p ∈ rest, Apart p.1 I) :
    MidD h₀ L I oI W Ct Cx tb td l (t ++ [q], t.length) ds told nd R { s with heap := h, toks := tk } .next { s with heap := h', toks := tk' } := by
  obtain ⟨b1, b2, b3, b4, b5, b6, b7, b8, b9, c1, c2, c3, c4, c5, c6, p1, p2, p3, p4, q1⟩ := D
  have hl := allLt_mem rl
  have es : ((((rs.map Value.ref).toArray.push (Value.ref r)).size : Int) - 1) = ((t.length : Nat) : Int) := by
    have := b3.1
    dsimp only at this
    rw [← this]; simp
  rw [es] at F
  refine ⟨rfl, h', tk', rs ++ [r], oct, ox, nt + 1, (r, listOf #[.int q.up t1, .str q.text t2, .bool q.cold] 0) :: rest, v, kv, ta', rfl, fr_eq F mD_known, N.perm fun p hp => ?_, ?_, ⟨b1, hcx, rows_snoc b3, nodup_snoc b4 (rows_lt b3 hl), fun q hq => .tail _ (b5 q hq), fun q hq => notin_snoc (b6 q hq) (hl _ (b5 q hq)), b7, fun q hq => .tail _ (b8 q hq), fun q hq => notin_snoc (b9 q hq) (hl _ (b8 q hq)), c1, c2, c3, c4, c5, c6,
    all_cons (P := fun b => Apart b Ct) (Ne.symm (Nat.ne_of_lt rCt)) p1, all_cons (P := fun b => Apart b Cx) (Ne.symm (Nat.ne_of_lt rCx)) p2, all_cons (P := fun b => Apart b tb) (Ne.symm (Nat.ne_of_lt rtb)) p3, all_cons (P := fun b => Apart b td) (Ne.symm (Nat.ne_of_lt rtd)) p4, by simp⟩⟩
  · unfold led at hp
    rw [← refs_push] at hp
    rcases List.mem_cons.mp hp with rfl | hp
    · exact .tail _ (.tail _ (.tail _ (.head _)))
    rcases List.mem_cons.mp hp with rfl | hp
    · exact .tail _ (.tail _ (.tail _ (.tail _ (.head _))))
    rcases List.mem_cons.mp hp with rfl | hp
    · exact .tail _ (.tail _ (.tail _ (.tail _ (.tail _ (.head _)))))
    rcases List.mem_cons.mp hp with rfl | hp
    · exact .tail _ (.tail _ (.tail _ (.tail _ (.tail _ (.tail _ (.head _))))))
    rcases List.mem_cons.mp hp with rfl | hp
    · exact .tail _ (.tail _ (.tail _ (.tail _ (.tail _ (.tail _ (.tail _ (.head _)))))))
    rcases List.mem_cons.mp hp with rfl | hp
    · exact .head _
    · exact .tail _ (.tail _ (.tail _ (.tail _ (.tail _ (.tail _ (.tail _ (.tail _ hp)))))))
  · unfold led
    exact all_cons (P := fun b => Apart b I) i1 (all_cons (P := fun b => Apart b I) i2 (all_cons (P := fun b => Apart b I) i3 (all_cons (P := fun b => Apart b I) i4 (all_cons (P := fun b => Apart b I) (Ne.symm (Nat.ne_of_lt rI)) i5))))
theorem notin_rows {W : Ledger} {rs : List Addr} {t : Table} {x : Addr} (h : RowsAt W rs t) (hl : ∀ p ∈ W, p.1 ≠ x) : x ∉ rs := fun hx => by
  obtain ⟨k, hk, rfl⟩ := List.getElem_of_mem hx
  obtain ⟨t1, t2, n, hm⟩ := h.2 k rs[k] (t[k]'(h.1 ▸ hk)) (List.getElem?_eq_getElem hk) (List.getElem?_eq_getElem (h.1 ▸ hk))
  exact hl _ hm rfl
theorem RowsAt.mono' {W W' : Ledger} {rs : List Addr} {t : Table} (h : RowsAt W rs t) (hs : ∀ p ∈ W, p ∈ W') : RowsAt W' rs t := ⟨h.1, fun k r q e1 e2 => let ⟨t1, t2, n, hm⟩ := h.2 k r q e1 e2; ⟨t1, t2, n, hs _ hm⟩⟩
theorem step_told {h₀ h h' : Heap} {L I : Addr} {oI o5 ox oct : Obj} {W R rest : Ledger} {Ct Cx tb td l D' D3 D5 l5 : Addr} {t : Table} {at_ nd nt n' n5 i tk tk' : Nat} {ds : List Dat} {told ys : List Value} {rs : List Addr} {s : Shared} {u1 u2 : Option Value} {ta ta' : Tok} {ns : List Int}
    (F : Fr h₀ L h' (mD td l u1 u2 at_ ta))
    (N : News h₀ L h' ((D', ({ cls := .type "tuple", data := .seq [Value.ref l5, Value.ref D3].toArray n' } : Obj)) :: (D3, LCg.lst ys) :: (D5, o5) :: (l5, listOf [Value.int (at_ : Int) ta'].toArray n5) :: (I, oI) :: (td, listOf (told.toArray.push (.ref D')) (nd + 1)) :: (tb, listOf (rs.map Value.ref).toArray nt) :: (Cx, ox) :: (Ct, oct) :: rest))
    (lD : @LT.lt Nat _ I D' ∧ @LT.lt Nat _ td D' ∧ @LT.lt Nat _ tb D' ∧ @LT.lt Nat _ Cx D' ∧ @LT.lt Nat _ Ct D' ∧ AllLt D' rest) (l15 : @LT.lt Nat _ I l5 ∧ @LT.lt Nat _ td l5 ∧ @LT.lt Nat _ tb l5 ∧ @LT.lt Nat _ Cx l5 ∧ @LT.lt Nat _ Ct l5 ∧ AllLt l5 rest)
    (w1 : Apart I D3) (w2 : Apart td D3) (w3 : Apart tb D3) (w4 : Apart Cx D3) (w5 : Apart Ct D3) (w6 : ∀ p ∈ rest, Apart p.1 D3)
    (D : DI W Ct Cx tb td (t, at_) ds rs told oct ox R rest) (i1 : Apart td I) (i2 : Apart tb I) (i3 : Apart Cx I) (i4 : Apart Ct I) (i5 : ∀ p ∈ rest, Apart p.1 I)
    (hys : DatAll [] ys ((under t at_).map fun k => Dat.str (textAt t k))) (er : run start (ns.take (i + 1)) = ((t, at_), ds ++ [toldOf (t, at_)])) :
    StepW h₀ L I oI (InvD W Ct Cx tb td l ns (i + 1)) { s with heap := h, toks := tk } .next { s with heap := h', toks := tk' } := by
  obtain ⟨b1, b2, b3, b4, b5, b6, b7, b8, b9, c1, c2, c3, c4, c5, c6, p1, p2, p3, p4, q1⟩ := D
  have hD := allLt_mem lD.2.2.2.2.2
  have h5 := allLt_mem l15.2.2.2.2.2
  have big : ∀ {x : Addr} {P : Addr}, @LT.lt Nat _ P x → Apart x P := fun h => Ne.symm (Nat.ne_of_lt h)
  refine step_W (W' := led td (told ++ [.ref D']) (nd + 1) tb rs nt Cx ox Ct oct ((D', ({ cls := .type "tuple", data := .seq [Value.ref l5, Value.ref D3].toArray n' } : Obj)) :: (D3, LCg.lst ys) :: (l5, listOf [Value.int (at_ : Int) ta'].toArray n5) :: rest)) F (N.perm fun p hp => ?_) ?_ ?_
  · unfold led at hp
    have e : (told ++ [Value.ref D']).toArray = told.toArray.push (.ref D') := by simp
    rw [e] at hp
    rcases List.mem_cons.mp hp with rfl | hp
    · exact .tail _ (.tail _ (.tail _ (.tail _ (.head _))))
    rcases List.mem_cons.mp hp with rfl | hp
    · exact .tail _ (.tail _ (.tail _ (.tail _ (.tail _ (.head _)))))
    rcases List.mem_cons.mp hp with rfl | hp
    · exact .tail _ (.tail _ (.tail _ (.tail _ (.tail _ (.tail _ (.head _))))))
    rcases List.mem_cons.mp hp with rfl | hp
    · exact .tail _ (.tail _ (.tail _ (.tail _ (.tail _ (.tail _ (.tail _ (.head _)))))))
    rcases List.mem_cons.mp hp with rfl | hp
    · exact .tail _ (.tail _ (.tail _ (.tail _ (.tail _ (.tail _ (.tail _ (.tail _ (.head _))))))))
    rcases List.mem_cons.mp hp with rfl | hp
    · exact .head _
    rcases List.mem_cons.mp hp with rfl | hp
    · exact .tail _ (.head _)
    rcases List.mem_cons.mp hp with rfl | hp
    · exact .tail _ (.tail _ (.tail _ (.head _)))
    · exact .tail _ (.tail _ (.tail _ (.tail _ (.tail _ (.tail _ (.tail _ (.tail _ (.tail _ hp))))))))
  · unfold led
    exact all_cons (P := fun b => Apart b I) i1 (all_cons (P := fun b => Apart b I) i2 (all_cons (P := fun b => Apart b I) i3 (all_cons (P := fun b => Apart b I) i4 (all_cons (P := fun b => Apart b I) (big lD.1) (all_cons (P := fun b => Apart b I) w1.en (all_cons (P := fun b => Apart b I) (big l15.1) i5))))))
  · refine ⟨rs, told ++ [.ref D'], oct, ox, nt, nd + 1, (D', ({ cls := .type "tuple", data := .seq [Value.ref l5, Value.ref D3].toArray n' } : Obj)) :: (D3, LCg.lst ys) :: (l5, listOf [Value.int (at_ : Int) ta'].toArray n5) :: R, _, u1, u2, ta, rfl, ?_, by rw [er]⟩
    rw [er]
    refine ⟨b1, b2, b3.mono' fun p hp => .tail _ (.tail _ (.tail _ hp)), b4, ?_, ?_, ?_, fun p hp => .tail _ (.tail _ (.tail _ (b8 p hp))), b9, c1, c2, c3, c4, c5, c6,
      all_cons (P := fun b => Apart b Ct) (big lD.2.2.2.2.1) (all_cons (P := fun b => Apart b Ct) w5.en (all_cons (P := fun b => Apart b Ct) (big l15.2.2.2.2.1) p1)),
      all_cons (P := fun b => Apart b Cx) (big lD.2.2.2.1) (all_cons (P := fun b => Apart b Cx) w4.en (all_cons (P := fun b => Apart b Cx) (big l15.2.2.2.1) p2)),
      all_cons (P := fun b => Apart b tb) (big lD.2.2.1) (all_cons (P := fun b => Apart b tb) w3.en (all_cons (P := fun b => Apart b tb) (big l15.2.2.1) p3)),
      all_cons (P := fun b => Apart b td) (big lD.2.1) (all_cons (P := fun b => Apart b td) w2.en (all_cons (P := fun b => Apart b td) (big l15.2.1) p4)), q1⟩
    · intro p hp
      rcases List.mem_cons.mp hp with rfl | hp
      · exact .head _
      rcases List.mem_cons.mp hp with rfl | hp
      · exact .tail _ (.head _)
      rcases List.mem_cons.mp hp with rfl | hp
      · exact .tail _ (.tail _ (.head _))
      · exact .tail _ (.tail _ (.tail _ (b5 p hp)))
    · intro p hp
      rcases List.mem_cons.mp hp with rfl | hp
      · exact notin_rows b3 fun p hp => Nat.ne_of_lt (hD p hp)
      rcases List.mem_cons.mp hp with rfl | hp
      · exact notin_rows b3 w6
      rcases List.mem_cons.mp hp with rfl | hp
      · exact notin_rows b3 fun p hp => Nat.ne_of_lt (h5 p hp)
      · exact b6 p hp
    · refine DatAll.append (DatAll.mono (fun p hp => .tail _ (.tail _ (.tail _ hp))) b7) (.one (.tuple (.head _) (.cons (.list (.tail _ (.tail _ (.head _))) (.cons (.int _ _) .nil)) (.cons (.list (n := ys.length) (.tail _ (.head _)) (DatAll.mono (news := []) (fun p hp => by cases hp) hys)) .nil))))
theorem mD_start {td l : Addr} {ta : Tok} : (fun y => if y = Str.ofString "told" then some (Value.ref td) else if y = Str.ofString "at" then some (.int 0 ta) else if y = Str.ofString "cells" then some (.ref l) else none) = mD td l none none 0 ta := by
  funext y
  unfold mD
  by_cases h1 : y = Str.ofString "told"
  · subst h1; simp +decide
  · by_cases h2 : y = Str.ofString "at"
    · subst h2; simp +decide
    · by_cases h3 : y = Str.ofString "cells"
      · subst h3; simp +decide
      · simp [h1, h2, h3]
theorem rows_one {W : Ledger} {r : Addr} {t1 t2 : Tok} : RowsAt ((r, listOf #[.int (-1) t1, .str (Str.ofString "") t2, .bool false] 0) :: W) [r] start.1 :=
  rows_snoc (W := W) (rs := []) (t := []) (q := ⟨-1, ⟨#[]⟩, false⟩) ⟨rfl, fun k r q e => by simp at e⟩
theorem refs_le {rs : List Addr} (h : rs.length ≤ 1000) : (rs.map Value.ref).toArray.size ≤ 1000 := by simpa using h
section
open LCg
/-- a pair (text, [number]) is made in a turn -/
theorem end_pair {h₀ h h' : Heap} {L Dt lk I3 C3 D3 I2 C2 Dd : Addr} {oI3 oC3 oD3 : Obj} {m : PySem.Str → Option Value} {W2 B E2 : Ledger} {S : Ledger → Prop} {s : Shared} {tk tk' n1 n2 : Nat} {x : PySem.Str} {t4 t5 : Tok} {k : Int} {ys2 : List Value} {ds ds' : List Dat}
    (F : Fr h₀ L h' m) (N : News h₀ L h' ((Dt, ({ cls := .type "tuple", data := .seq [Value.str x t4, Value.ref lk].toArray n1 } : Obj)) :: (lk, listOf [Value.int k t5].toArray n2) :: (I3, oI3) :: (C3, oC3) :: (D3, oD3) :: W2))
    (lx : @LT.lt Nat _ I3 lk ∧ @LT.lt Nat _ C3 lk ∧ @LT.lt Nat _ D3 lk ∧ AllLt lk W2) (lz : @LT.lt Nat _ lk Dt ∧ @LT.lt Nat _ I3 Dt ∧ @LT.lt Nat _ C3 Dt ∧ @LT.lt Nat _ D3 Dt ∧ AllLt Dt W2)
    (off3 : ∀ p ∈ W2, p.1 ≠ I3 ∧ p.1 ≠ C3 ∧ p.1 ≠ D3) (hS : ∀ W', (∀ p ∈ W2, p ∈ W') → S W') (hW2 : ∀ p ∈ B, p ∈ W2)
    (hI : ∃ o, (I2, o) ∈ W2) (hC : ∃ o, (C2, o) ∈ W2) (hD : ∃ o, (Dd, o) ∈ W2)
    (hE2 : ∀ p ∈ E2, p ∈ W2 ∧ p.1 ≠ I2 ∧ p.1 ≠ C2 ∧ p.1 ≠ Dd) (hys : DatAll E2 ys2 ds) (e : ds' = ds ++ [.tuple [.str x, .list [.int k]]]) :
    CompEnd h₀ L m { s with heap := h, toks := tk } I3 oI3 C3 oC3 D3 oD3 S (fun y W' => (∀ p ∈ B, p ∈ W') ∧ ∃ E2, (∀ p ∈ E2, p ∈ W' ∧ p.1 ≠ I2 ∧ p.1 ≠ C2 ∧ p.1 ≠ Dd) ∧ DatAll E2 (ys2 ++ [y]) ds') (.ref Dt) { s with heap := h', toks := tk' } := by
  have g1 := allLt_mem lx.2.2.2
  have g2 := allLt_mem lz.2.2.2.2
  have big : ∀ {x : Addr} {P : Addr}, @LT.lt Nat _ P x → x ≠ P := fun h => Ne.symm (Nat.ne_of_lt h)
  obtain ⟨_, hI⟩ := hI
  obtain ⟨_, hC⟩ := hC
  obtain ⟨_, hD⟩ := hD
  refine end_turn (W' := (Dt, ({ cls := .type "tuple", data := .seq [Value.str x t4, Value.ref lk].toArray n1 } : Obj)) :: (lk, listOf [Value.int k t5].toArray n2) :: W2) F (N.perm fun p hp => ?_) (fun p hp => ?_) (hS _ fun p hp => .tail _ (.tail _ hp)) ⟨fun p hp => .tail _ (.tail _ (hW2 p hp)), (Dt, ({ cls := .type "tuple", data := .seq [Value.str x t4, Value.ref lk].toArray n1 } : Obj)) :: (lk, listOf [Value.int k t5].toArray n2) :: E2, fun p hp => ?_, ?_⟩
  · rcases List.mem_cons.mp hp with rfl | hp
    · exact .tail _ (.tail _ (.head _))
    rcases List.mem_cons.mp hp with rfl | hp
    · exact .tail _ (.tail _ (.tail _ (.head _)))
    rcases List.mem_cons.mp hp with rfl | hp
    · exact .tail _ (.tail _ (.tail _ (.tail _ (.head _))))
    rcases List.mem_cons.mp hp with rfl | hp
    · exact .head _
    rcases List.mem_cons.mp hp with rfl | hp
    · exact .tail _ (.head _)
    · exact .tail _ (.tail _ (.tail _ (.tail _ (.tail _ hp))))
  · rcases List.mem_cons.mp hp with rfl | hp
    · exact ⟨big lz.2.1, big lz.2.2.1, big lz.2.2.2.1⟩
    rcases List.mem_cons.mp hp with rfl | hp
    · exact ⟨big lx.1, big lx.2.1, big lx.2.2.1⟩
    · exact off3 p hp
  · rcases List.mem_cons.mp hp with rfl | hp
    · exact ⟨.head _, big (g2 _ hI), big (g2 _ hC), big (g2 _ hD)⟩
    rcases List.mem_cons.mp hp with rfl | hp
    · exact ⟨.tail _ (.head _), big (g1 _ hI), big (g1 _ hC), big (g1 _ hD)⟩
    · have := hE2 p hp
      exact ⟨.tail _ (.tail _ this.1), this.2⟩
  · rw [e]
    refine DatAll.append (DatAll.mono (fun p hp => .tail _ (.tail _ hp)) hys) (.one (.tuple (.head _) (.cons (.str _ _) (.cons (.list (.tail _ (.head _)) (.cons (.int _ _) .nil)) .nil))))
end
end Mine
end
section
open PySem PySem.W PyProof.Rows PySem.Calls PySem.W.X
set_option maxRecDepth 100000
set_option maxHeartbeats 1000000
set_option linter.unusedVariables false
namespace Mine
section
variable {p : Program} {loose : List PySem.Str} {mean : ExcName → Option Value} {mg mb : PySem.Str → Option Value} {w : World}
    {gd : Option (List Code)} {cn : PySem.Str} {cs : Scope} {a : Addr} {ccd : Value} {cl : List (PySem.Str × Addr)} {outer : List Env} {A₀ : Around} {base h₀ : Heap} {L : Addr} {m : PySem.Str → Option Value} {W : Ledger} {s : Shared} {l : Addr} {vs : List Value} {ns : List Int} {n : Nat}
    {Q E : Value → Shared → Prop} {R : Result → Shared → Prop}
theorem setItem_W {vs : Array Value} {k i : Nat} {u : Tok} {v : Value} {A : Around} {Q : Unit → Shared → Prop} (F : Fr h₀ L s.heap m) (N : News h₀ L s.heap W) (hm : (l, listOf vs k) ∈ W) (hi : i < 1000) (hn : i < vs.size)
    (h : ∀ h', Fr h₀ L h' m → News h₀ L h' (setW l (listOf (vs.setIfInBounds i v) k) W) → Q () { s with heap := h' }) : wpAny (model P0 w) A (setItem (.ref l) (.int (i : Int) u) v) Q E s := by
  refine ki_setAt (N _ hm).1 (by omega) (by omega) (by omega) ?_
  have hs : Heap.SameBut l s.heap (s.heap.update l (Obj.mapSeq (·.setIfInBounds ((i : Int).toNat) v))) := Heap.SameBut.update ..
  refine h _ (F.change hs (N _ hm).2.1 (N _ hm).2.2) ?_
  have q := PySem.IsL.update (N _ hm).1 (·.setIfInBounds ((i : Int).toNat) v)
  refine News.update N hm hs ?_
  rw [q]
  simp
theorem RowsAt.mono {W W' : Ledger} {rs : List Addr} {t : Table} (h : RowsAt W rs t) (hs : ∀ p ∈ W, p ∈ W') : RowsAt W' rs t := ⟨h.1, fun k r q e1 e2 => let ⟨t1, t2, n, hm⟩ := h.2 k r q e1 e2; ⟨t1, t2, n, hs _ hm⟩⟩
theorem ys_size {ys : List Value} {t : Table} {a : Nat} (h : IntsAre ys ((under t a).map fun k : Nat => (k : Int))) (hl : t.length ≤ 20) : ys.toArray.size ≤ sizeLine := by
  have h1 := h.length
  have h2 : (under t a).length ≤ t.length := by
    have := List.length_filter_le (isUnder t a) (List.range t.length)
    rw [List.length_range] at this
    exact this
  rw [PySem.sizeLine_eq]
  simp at h1 ⊢
  omega
theorem truthy_C {v : Value} {vs : List Value} {k : Nat} {A : Around} {Q : Bool → Shared → Prop} (N : News h₀ L s.heap W) (hm : (l, listOf (v :: vs).toArray k) ∈ W) (hf : vs.length ≤ 1000) (h : Q true { s with toks := s.toks + 1 + 1 }) :
    wpAny (model P0 w) A (truthy (.ref l)) Q E s := wpAny_truthy_list (items := (v :: vs).toArray) ⟨_, (N _ hm).1, rfl, _, rfl⟩ (by simp; omega) h
theorem line_of {n : Nat} (h : n ≤ 1000) : n ≤ sizeLine := by rw [PySem.sizeLine_eq]; omega
theorem all_lt {W : Ledger} {x y : Nat} (h : ∀ p ∈ W, @LT.lt Nat _ p.1 x) (e : x ≤ y) : ∀ p ∈ W, @Ne Nat p.1 y := fun p hp => Nat.ne_of_lt (Nat.lt_of_lt_of_le (h p hp) e)
theorem all_ap {W : Ledger} {x : Addr} (h : ∀ p ∈ W, Apart p.1 x) : ∀ p ∈ W, p.1 ≠ x := h
local macro_rules | `(tactic| k_all) => `(tactic| first | assumption | exact Mine.all_ap (by assumption) | exact Mine.all_lt (by assumption) (by omega))
local macro_rules | `(tactic| k_mem) => `(tactic| ((repeat (first | assumption | refine List.Mem.tail _ ?_)); done))
local macro_rules | `(tactic| k_ne) => `(tactic| first | exact Apart.ne (by assumption) | exact Apart.en (by assumption))
local macro_rules | `(tactic| walk_at "call ref") => `(tactic| (k_here; (with_reducible show wpAny _ _ (call (Value.ref 95) [Value.int _ _]) _ _ _); k_dflt (refine wpAny_le (Mine.code_K (by assumption) (by k_asm) (by k_asm) (by k_asm) (by k_asm) rfl (by assumption) ?_) (Nat.le_of_ble_eq_true rfl) (Nat.le_of_ble_eq_true rfl)); intro tok' h' tk' F' N'))
local macro_rules | `(tactic| walk_at "call ref") => `(tactic| (k_here; (with_reducible show wpAny _ _ (call (Value.ref 102) [Value.int _ _]) _ _ _); k_dflt (refine wpAny_le (Mine.shown_K (by assumption) (by k_asm) (by k_asm) (by k_asm) (by k_asm) rfl (by assumption) ?_) (Nat.le_of_ble_eq_true rfl) (Nat.le_of_ble_eq_true rfl)); intro tok' h' tk' F' N'))
local macro_rules | `(tactic| walk_at "call ref") => `(tactic| (k_here; (with_reducible show wpAny _ _ (call (Value.ref 124) [Value.ref _, Value.int _ _]) _ _ _); k_dflt (refine wpAny_le (Mine.under_K (by assumption) (by k_asm) (by k_asm) (by k_asm) (by k_asm) rfl (by assumption) (by k_mem) (RowsAt.mono (by assumption) (fun p9 hp9 => by (repeat (first | exact hp9 | refine List.Mem.tail _ ?_)))) ?_) (Nat.le_of_ble_eq_true rfl) (Nat.le_of_ble_eq_true rfl)); intro D' h' tk' ys' F' N' o' hys'))
local macro_rules | `(tactic| walk_at "setItem ref int") => `(tactic| (k_here; k_dflt (refine setItem_W (i := 2) (by k_asm) (by k_asm) (by k_mem) (by decide) (Nat.le_of_ble_eq_true rfl) ?_); intro h' F' N'))
local macro_rules | `(tactic| walk_at "exec Assign cons ListComp") => `(tactic| (k_here; k_dflt (refine LCt.Assign_ListComp_T (F₀ := by k_asm) (by rfl) (by with_unfolding_all rfl) (by with_unfolding_all rfl) (by decide) (by rfl) (by decide) (by rfl) (by rfl) (by rfl) ?_)))
local macro_rules | `(tactic| walk_at "CompSrcT") => `(tactic| (k_here; k_dflt (refine LCt.CompSrcT.ledger (by rfl) (by k_asm) (by k_asm) (by k_mem) (Mine.ys_size (by assumption) (by assumption)) ?_; intro g'; refine Mine.Held.of ?_)))
local macro_rules | `(tactic| walk_at "subscriptTail") => `(tactic| (k_here; (with_reducible show wpAny _ _ (subscriptTail _ _ (Value.ref _) (Value.int (Nat.cast _) _)) _ _ _); k_dflt (refine item_0 (by k_asm) (by k_mem) (by assumption) (by assumption) (by with_unfolding_all rfl) (by intro _; with_unfolding_all rfl) ?_)))
local macro_rules | `(tactic| walk_at "subscriptTail") => `(tactic| (k_here; (with_reducible show wpAny _ _ (subscriptTail _ _ (Value.ref _) (Value.int 1 _)) _ _ _); k_dflt (refine item_0 (i := 1) (by k_asm) (by k_mem) (by decide) (by rfl) (by with_unfolding_all rfl) (by intro _; with_unfolding_all rfl) ?_)))
local macro_rules | `(tactic| walk_at "subscriptTail") => `(tactic| (k_here; (with_reducible show wpAny _ _ (subscriptTail _ _ (Value.ref _) (Value.int 2 _)) _ _ _); k_dflt (refine item_0 (i := 2) (by k_asm) (by k_mem) (by decide) (by rfl) (by with_unfolding_all rfl) (by intro _; with_unfolding_all rfl) ?_)))
local macro_rules | `(tactic| walk_at "call builtin:len") => `(tactic| (k_here; k_dflt (refine len_W (by k_asm) (by k_mem) (by with_reducible first | exact Mine.push_size (by assumption) | exact Mine.refs_le (by assumption)) ?_)))
local macro_rules | `(tactic| walk_at "eval ListComp") => `(tactic| (k_here; k_dflt (refine LCg.ListComp_U (F₀ := by k_asm) (by with_unfolding_all rfl) (by decide) (by rfl) (by decide) (by rfl) ?_)))
local macro_rules | `(tactic| walk_at "CompSrc") => `(tactic| (k_here; k_dflt (refine LCg.CompSrc.ledger (by rfl) (by k_asm) (by k_asm) (by k_mem) (Mine.ys_size (by assumption) (by assumption)) ?_; intro g'; refine Mine.Held.of ?_)))
local macro_rules | `(tactic| walk_at "CompSrc") => `(tactic| (k_here; k_dflt (refine LCg.CompSrc.range (by rfl) (by k_asm) (by k_asm) (by assumption) (Mine.small_len (by rw [List.length_map]; assumption)) Mine.size_len (by rw [List.length_map, PySem.sizeLine_eq]; omega) ?_; intro g'; refine Mine.Held.of ?_)))
local macro_rules | `(tactic| walk_at "truthy ref") => `(tactic| (k_here; k_dflt (refine truthy_C (by k_asm) (by k_mem) (by assumption) ?_)))
local macro_rules | `(tactic| walk_at "call builtin:list.append") => `(tactic| (k_here; (with_reducible show wpAny _ _ (call (Value.builtin _) [Value.ref _, _]) _ _ _); k_dflt (refine' append_K ?k1 ?k2 ?k3 ?_ ?z; (case k1 => k_asm); (case k2 => k_asm); (case k3 => k_upd); (case z => exact Mine.line_of (by first | assumption | (rw [Mine.refs_size]; assumption))); k_whole); intro h' F' N'))
local macro_rules | `(tactic| walk_at "exec For Name Name cons nil") => `(tactic| (k_here; (rename Fr _ _ _ _ => lF'); (with_unfolding_all refine' For_invVF lF' ?k1 ?k2 ?_; (case k1 => exact rfl); (case k2 => exact rfl); k_whole)))
local macro_rules | `(tactic| walk_at "pyIter ref") => `(tactic| refine Mine.Held.of ?_)
theorem due_K (B : Below A₀ base outer h₀) (F : Fr h₀ L s.heap m) (X : (hd.heap_39 w.params).In h₀) (N : News h₀ L s.heap W) (T : Top p loose mean mg mb h₀) (hcs : cs.kind = .function) (hC : CodeHd base 54 50)
    (hm : (l, listOf vs.toArray n) ∈ W) (hi : IntsAre vs ns) (hl : ns.length ≤ 18)
    (hq : ∀ v h' tk R, Fr h₀ L h' m → News h₀ L h' (R ++ W) → DatIn R v (answer ns) → Q v { s with heap := h', toks := tk }) :
    wpAny (model P0 w) (ktrTop 400 500 gd cn cs L a ccd cl outer) (call (.ref 129) [.ref l]) Q E s := by
  refine wpAny_call ?_
  k_dflt (refine' code_defC (binds := [(PySem.Str.ofString "cells", Value.ref l)]) ?k1 ?k2 ?k3 ?k4 ?k5 ?kA ?kF ?kK ?k6 ?k7 ?k8 ?k9 ?kB ?kD ?_ ?c2 ?c3 ?c4; (case kA => exact rfl); (case kF => exact rfl); (case kK => assumption); (case k1 => k_asm); (case k2 => k_asm); (case k3 => k_asm); (case k4 => k_asm); (case k5 => k_asm); (case k6 => k_is); (case k7 => k_is); (case k8 => k_room); (case k9 => exact BindsTo.of_eq rfl); (case kB => exact rfl); (case kD => decide +kernel); (case c2 => exact rfl); (case c3 => exact rfl); (case c4 => exact rfl); k_whole; intro g' L' h' tk' cells' FG' F' N' Y' B' X' T' l1; (try k_lt l1); k_cells Y'; (try simp only [List.cons_append, List.nil_append] at N'); (try dsimp only); (try k_lift B'); (try k_fold))
  w_top off
  k_steps
  rename_i oX oT dX dT r0 hA a0 tb hB a1 hC oT' dT' tkA hD td hE a2 hF F1 N1
  refine loop_W (vs := vs.toArray) (k0 := n) (InvD W (L' + 1) (L' + 1 + 1) tb td l ns) rfl F1 (W := led td [] 0 tb [r0] 0 (L' + 1 + 1) oX (L' + 1) oT' ((r0, listOf #[Value.int (-1) (tk' + 1), Value.str (Str.ofString "") (tk' + 1 + 1), Value.bool false] 0) :: W)) (N1.perm ?hp) ?hin ?h0 ?turn ?done
  case hp =>
    intro q hq
    unfold led at hq
    rcases List.mem_cons.mp hq with rfl | hq
    · exact .head _
    rcases List.mem_cons.mp hq with rfl | hq
    · exact .tail _ (.head _)
    rcases List.mem_cons.mp hq with rfl | hq
    · exact .tail _ (.tail _ (.tail _ (.head _)))
    rcases List.mem_cons.mp hq with rfl | hq
    · exact .tail _ (.tail _ (.tail _ (.tail _ (.head _))))
    rcases List.mem_cons.mp hq with rfl | hq
    · exact .tail _ (.tail _ (.head _))
    · exact .tail _ (.tail _ (.tail _ (.tail _ (.tail _ hq))))
  case hin =>
    rintro i m' W' ⟨rs, told, oct, ocx, nt, nd, R, rest, u1, u2, ta, rfl, D, _⟩
    exact .tail _ (.tail _ (.tail _ (.tail _ (D.inW _ hm))))
  case h0 =>
    obtain ⟨a01, a02, a03⟩ := a0
    obtain ⟨a11, a12, a13, a14⟩ := a1
    obtain ⟨a21, a22, a23, a24, a25⟩ := a2
    have g0 := allLt_mem a03
    have g1 := allLt_mem a14
    have g2 := allLt_mem a25
    have big : ∀ {x : Addr} {P : Addr}, @LT.lt Nat _ P x → Apart x P := fun h => Ne.symm (Nat.ne_of_lt h)
    have lit : ∀ {x : Addr} {P : Addr}, @LT.lt Nat _ x P → Apart x P := fun h => Nat.ne_of_lt h
    refine ⟨[r0], [], oT', oX, 0, 0, [], _, none, none, _, rfl, ⟨dT', ⟨_, dX⟩, rows_one, by simp, (fun p hp => by cases hp), (fun p hp => by cases hp), .nil, fun p hp => .tail _ hp, fun p hp => ?_, lit (by omega), lit a13, lit a24, lit a12, lit a23, lit a21,
      all_cons (P := fun b => Apart b (L' + 1)) (big a02) (fun p hp => lit (Nat.lt_succ_of_lt (l1 p hp))), all_cons (P := fun b => Apart b (L' + 1 + 1)) (big a01) (fun p hp => lit (Nat.lt_succ_of_lt (Nat.lt_succ_of_lt (l1 p hp)))), all_cons (P := fun b => Apart b tb) (lit a11) (fun p hp => lit (g1 p hp)), all_cons (P := fun b => Apart b td) (lit a22) (fun p hp => lit (g2 p hp)), Nat.zero_lt_one⟩, mD_start⟩
    intro hx
    exact absurd (List.mem_singleton.mp hx) (Nat.ne_of_lt (g0 p hp))
  case done =>
    intro m₁ W₁ h₁ tk₁ hinv F₂ N₂
    obtain ⟨rs, told, oct, ocx, nt, nd, R, rest, u1, u2, ta, rfl, D, rfl⟩ := hinv
    have hsz : vs.toArray.size = ns.length := by have := hi.length; simpa using this
    rw [hsz, List.take_length] at D F₂
    generalize hst : (run start ns).1 = st at *
    generalize hds : (run start ns).2 = ds0 at *
    obtain ⟨t, at_⟩ := st
    have hlen := run_len ns start
    rw [hst] at hlen
    have hs1 : start.1.length = 1 := rfl
    have hrs : rs.length ≤ 1000 := by have := D.rows.1; dsimp only at this hlen; omega
    have hlen20 : t.length ≤ 20 := by dsimp only at hlen; omega
    obtain ⟨b1, ⟨vx, b2⟩, b3, b4, b5, b6, b7, b8, b9, c1, c2, c3, c4, c5, c6, p1, p2, p3, p4, q1⟩ := D
    dsimp only at b3 q1 F₂
    unfold mD at F₂
    unfold led at N₂
    k_steps
    rename_i hA9 tkA9 ta9 tb9 tc9 r9 F9 N9 k9 g9
    refine rest_inv (fun i ys W' => (∀ p ∈ led td told nd tb rs nt (L' + 1 + 1) ocx (L' + 1) oct rest, p ∈ W') ∧ ∃ E, (∀ p ∈ E, p ∈ W') ∧ DatAll E ys ((List.range i).map fun one => Dat.list ((under t one).map fun k => Dat.tuple [.str (textAt t k), .list [.int k]]))) ⟨fun p hp => hp, [], (fun p hp => by cases hp), .nil⟩ ?_ ?_
    · intro i v ys W' I2 oI2 C oC Dd m₂ h₂ tk₂ E' hi hinv hv hC2 hx F₂ N₂ off ne
      obtain ⟨hW, E9, hE, hys⟩ := hinv
      obtain ⟨t₂, rfl⟩ := hv
      have mt : (tb, listOf (rs.map Value.ref).toArray nt) ∈ W' := hW _ (.tail _ (.head _))
      have mc : (L' + 1, oct) ∈ W' := hW _ (.tail _ (.tail _ (.tail _ (.head _))))
      have mr : RowsAt W' rs t := b3.mono' fun p hp => hW _ (.tail _ (.tail _ (.tail _ (.tail _ hp))))
      k_steps
      rename_i Dk hA8 tkA8 ysk F8 N8 o8 hysk g8
      simp only [Nat.zero_add] at hysk
      refine rest_inv (fun j ys2 W2 => (∀ p ∈ (Dk, LCg.lst ysk) :: (I2, oI2) :: (C, oC) :: (Dd, LCg.lst ys) :: W', p ∈ W2) ∧ ∃ E2, (∀ p ∈ E2, p ∈ W2 ∧ p.1 ≠ I2 ∧ p.1 ≠ C ∧ p.1 ≠ Dd) ∧ DatAll E2 ys2 (((under t i).take j).map fun k => Dat.tuple [.str (textAt t k), .list [.int k]])) ⟨fun p hp => hp, [], (fun p hp => by cases hp), .nil⟩ ?_ ?_
      · intro j v ys2 W2 I3 oI3 C3 oC3 D3 m₃ h₃ tk₃ E3 hj hinv3 hv3 hC3 hx3 F₃ N₃ off3 ne3
        obtain ⟨hW2, E2, hE2, hys2⟩ := hinv3
        obtain ⟨k, tkk, rfl, hk⟩ : ∃ (k : Nat) (tkk : Tok), v = .int (k : Int) tkk ∧ (under t i)[j]? = some k := by
          obtain ⟨z, t9, e, hz⟩ := IntsAre.at hysk j v (by simpa using hv3)
          rw [List.getElem?_map] at hz
          cases e9 : (under t i)[j]? with
          | none => rw [e9] at hz; cases hz
          | some k => rw [e9] at hz; cases hz; exact ⟨k, t9, e, rfl⟩
        have hkl : k < t.length := mem_under (List.mem_of_getElem? hk)
        have hk3 : k < 1000 := by omega
        have hkr : k < rs.length := by have := b3.1; omega
        have hrowk : (rs.map Value.ref).toArray.toList[k]? = some (.ref rs[k]) := by simp [hkr]
        have mt2 : (tb, listOf (rs.map Value.ref).toArray nt) ∈ W2 := hW2 _ (.tail _ (.tail _ (.tail _ (.tail _ mt))))
        have mc2 : (L' + 1, oct) ∈ W2 := hW2 _ (.tail _ (.tail _ (.tail _ (.tail _ mc))))
        obtain ⟨t3, t4, n3, hrow6⟩ := (mr.mono' fun p hp => hW2 _ (.tail _ (.tail _ (.tail _ (.tail _ hp))))).2 k rs[k] t[k] (List.getElem?_eq_getElem hkr) (List.getElem?_eq_getElem hkl)
        k_steps
        rename_i lk hX lx Dt hY Fz Nz lz
        have e7 : textAt t k = t[k].text := by unfold textAt; rw [List.getElem?_eq_getElem hkl]
        refine end_pair Fz Nz lx lz off3 (fun W' h => .inr ⟨_, h _ (hW2 _ (.head _)), rfl, _, rfl⟩) hW2 ⟨_, hW2 _ (.tail _ (.head _))⟩ ⟨_, hW2 _ (.tail _ (.tail _ (.head _)))⟩ ⟨_, hW2 _ (.tail _ (.tail _ (.tail _ (.head _))))⟩ hE2 hys2 ?_
        rw [List.take_add_one, hk, List.map_append]
        simp only [Option.toList_some, List.map_cons, List.map_nil, e7]
      · intro ys2 W2 hinv3
        obtain ⟨hW2, E2, hE2, hys2⟩ := hinv3
        have hsz : ysk.toArray.size = (under t i).length := by have := hysk.length; simpa using this
        rw [hsz, List.take_length] at hys2
        unfold LCg.FinE
        intro D4 h4 tk4 F4 N4 off4
        have okD := off1_mem off4
        k_steps
        refine end_turn (W' := (D4, LCg.lst ys2) :: (E2 ++ W')) F4 (N4.perm fun p hp => ?_) (fun p hp => ?_) trivial ⟨fun p hp => .tail _ (List.mem_append_right _ (hW p hp)), (D4, LCg.lst ys2) :: (E2 ++ E9), fun p hp => ?_, ?_⟩
        · rcases List.mem_cons.mp hp with rfl | hp
          · exact .tail _ (hW2 _ (.tail _ (.head _)))
          rcases List.mem_cons.mp hp with rfl | hp
          · exact .tail _ (hW2 _ (.tail _ (.tail _ (.head _))))
          rcases List.mem_cons.mp hp with rfl | hp
          · exact .tail _ (hW2 _ (.tail _ (.tail _ (.tail _ (.head _)))))
          rcases List.mem_cons.mp hp with rfl | hp
          · exact .head _
          rcases List.mem_append.mp hp with hp | hp
          · exact .tail _ (hE2 p hp).1
          · exact .tail _ (hW2 _ (.tail _ (.tail _ (.tail _ (.tail _ hp)))))
        · rcases List.mem_cons.mp hp with rfl | hp
          · exact ⟨(okD _ (hW2 _ (.tail _ (.head _)))).en, (okD _ (hW2 _ (.tail _ (.tail _ (.head _))))).en, (okD _ (hW2 _ (.tail _ (.tail _ (.tail _ (.head _)))))).en⟩
          rcases List.mem_append.mp hp with hp | hp
          · exact (hE2 p hp).2
          · exact off p hp
        · rcases List.mem_cons.mp hp with rfl | hp
          · exact .head _
          rcases List.mem_append.mp hp with hp | hp
          · exact .tail _ (List.mem_append_left _ hp)
          · exact .tail _ (List.mem_append_right _ (hE p hp))
        · rw [List.range_succ, List.map_append]
          exact DatAll.append (DatAll.mono (fun p hp => .tail _ (List.mem_append_right _ hp)) hys) (.one (.list (n := ys2.length) (.head _) (DatAll.mono (fun p hp => .tail _ (List.mem_append_left _ hp)) hys2)))
    · intro ys W' hinv
      obtain ⟨hW, E9, hE, hys⟩ := hinv
      unfold LCg.FinE
      intro D4 h4 tk4 F4 N4 off4
      k_steps
      rename_i Dt hX Fz Nz lz kF kN _ _
      rw [List.length_map, show rs.length = t.length from b3.1] at hys
      refine hq _ _ _ ((Dt, ({ cls := .type "tuple", data := .seq [Value.ref td, Value.ref D4].toArray 0 } : Obj)) :: (D4, LCg.lst ys) :: (td, listOf told.toArray nd) :: (R ++ E9)) kF (kN.perm fun p hp => ?_) ?_
      · rcases List.mem_append.mp hp with hp | hp
        · rcases List.mem_cons.mp hp with rfl | hp
          · exact .head _
          rcases List.mem_cons.mp hp with rfl | hp
          · exact .tail _ (.head _)
          rcases List.mem_cons.mp hp with rfl | hp
          · exact .tail _ (.tail _ (hW _ (.head _)))
          rcases List.mem_append.mp hp with hp | hp
          · exact .tail _ (.tail _ (hW _ (.tail _ (.tail _ (.tail _ (.tail _ (b5 p hp)))))))
          · exact .tail _ (.tail _ (hE p hp))
        · exact .tail _ (.tail _ (hW _ (.tail _ (.tail _ (.tail _ (.tail _ (b8 p hp)))))))
      · unfold answer
        dsimp only
        rw [hst, hds]
        exact .tuple (.head _) (.cons (.list (.tail _ (.tail _ (.head _))) (DatAll.mono (fun p hp => .tail _ (.tail _ (.tail _ (List.mem_append_left _ hp)))) b7)) (.cons (.list (n := ys.length) (.tail _ (.head _)) (DatAll.mono (fun p hp => .tail _ (.tail _ (.tail _ (List.mem_append_right _ hp)))) hys)) .nil))
  case turn =>
    intro i v m₁ W₁ I oI h₁ tk₁ hv hinv F₂ N₂ offI
    obtain ⟨rs, told, oct, ocx, nt, nd, R, rest, u1, u2, ta, rfl, D, rfl⟩ := hinv
    obtain ⟨c, tc, rfl, hc⟩ : ∃ c tc, v = .int c tc ∧ ns[i]? = some c := by
      obtain ⟨k, t, e, hk⟩ := IntsAre.at hi i v (by simpa using hv)
      exact ⟨k, t, e, hk⟩
    have hi18 : i < ns.length := by
      rcases Nat.lt_or_ge i ns.length with h9 | h9
      · exact h9
      · rw [List.getElem?_eq_none h9] at hc; cases hc
    have hlen := run_len (ns.take i) start
    have htl : told.toArray.size ≤ 1000 := by
      have h1 := D.dat.length
      rw [run_dlen, List.length_take] at h1
      simp; omega
    have er0 : run start (ns.take (i + 1)) = (turn (run start (ns.take i)).1 c, (run start (ns.take i)).2 ++ [toldOf (turn (run start (ns.take i)).1 c)]) := by
      rw [List.take_add_one, hc]; exact run_snoc _ _ _
    rw [List.length_take] at hlen
    have hs1 : start.1.length = 1 := rfl
    generalize hst : (run start (ns.take i)).1 = st at *
    generalize hds : (run start (ns.take i)).2 = ds0 at *
    obtain ⟨t, at_⟩ := st
    have hlen : t.length ≤ 19 := by dsimp only at hlen; omega
    refine wpAny_execs_cons (wpAny_mono (show wpAny _ _ (exec _ _) (MidD g' L' I oI W (L' + 1) (L' + 1 + 1) tb td l (turn (t, at_) c) ds0 told nd R { s with heap := h₁, toks := tk₁ }) _ _ from ?ifs) (fun f s' hmid => ?_) fun _ _ e => e)
    case ifs =>
      have D0 := D
      obtain ⟨b1, ⟨vx, b2⟩, b3, b4, b5, b6, b7, b8, b9, c1, c2, c3, c4, c5, c6, p1, p2, p3, p4, q1⟩ := D
      have hlen20 : t.length ≤ 20 := by omega
      have hlt3 : at_ < 1000 := by dsimp only at q1; omega
      have hrs : rs.length ≤ 1000 := by have := b3.1; dsimp only at this; omega
      have hrs9 : rs.length ≤ 100 := by have := b3.1; dsimp only at this; omega
      have hat : at_ < rs.length := by have := b3.1; dsimp only at this q1; omega
      have hrow4 : (rs.map Value.ref).toArray.toList[at_]? = some (.ref rs[at_]) := by simp [hat]
      obtain ⟨t7, t8, n7, hrow5⟩ := b3.2 at_ rs[at_] t[at_] (List.getElem?_eq_getElem hat) (List.getElem?_eq_getElem q1)
      unfold mD at F₂
      unfold led at N₂ offI
      dsimp only at F₂ q1 b3
      have i1 : Apart td I := offI _ (.head _)
      have i2 : Apart tb I := offI _ (.tail _ (.head _))
      have i3 : Apart (L' + 1 + 1) I := offI _ (.tail _ (.tail _ (.head _)))
      have i4 : Apart (L' + 1) I := offI _ (.tail _ (.tail _ (.tail _ (.head _))))
      have i5 : ∀ p ∈ rest, Apart p.1 I := fun p hp => offI p (.tail _ (.tail _ (.tail _ (.tail _ hp))))
      k_steps
      · rename_i hcA hA' FA NA
        have ht : turn (t, at_) c = (t, 0) := by unfold turn; rw [if_pos hcA]
        rw [ht]
        exact ⟨rfl, _, _, rs, oct, ocx, nt, rest, _, u2, _, rfl, fr_eq FA (mD_at (a' := 0)), NA, offI, ⟨b1, ⟨vx, b2⟩, b3, b4, b5, b6, b7, b8, b9, c1, c2, c3, c4, c5, c6, p1, p2, p3, p4, by show 0 < t.length; omega⟩⟩
      · rename_i hcA tkA' hcB hB' FB NB
        have ht : turn (t, at_) c = (t.set at_ { t[at_] with cold := true }, at_) := by
          unfold turn; rw [if_neg hcA, if_pos hcB]
          show (chill t at_, at_) = _
          unfold chill; rw [List.getElem?_eq_getElem q1]
        rw [ht]
        have nr : ∀ b, (∀ p ∈ rest, Apart p.1 b) → b ≠ rs[at_] := fun b hb => (hb _ hrow5).en
        refine ⟨rfl, _, _, rs, oct, ocx, nt, setW rs[at_] (listOf #[.int t[at_].up t7, .str t[at_].text t8, .bool true] n7) rest, _, u2, _, rfl, fr_eq FB mD_cell, ?_, ?_, ⟨b1, ⟨vx, b2⟩, ?_, b4, ?_, b6, b7, ?_, b9, c1, c2, c3, c4, c5, c6, ?_, ?_, ?_, ?_, by rw [List.length_set]; exact q1⟩⟩
        · have e : setW rs[at_] (listOf (#[.int t[at_].up t7, .str t[at_].text t8, .bool t[at_].cold].setIfInBounds 2 (.bool true)) n7) ((I, oI) :: led td told nd tb rs nt (L' + 1 + 1) ocx (L' + 1) oct rest) = (I, oI) :: led td told nd tb rs nt (L' + 1 + 1) ocx (L' + 1) oct (setW rs[at_] (listOf #[.int t[at_].up t7, .str t[at_].text t8, .bool true] n7) rest) := by
            unfold led
            rw [setW_cons (nr I i5), setW_cons (nr td p4), setW_cons (nr tb p3), setW_cons (nr _ p2), setW_cons (nr _ p1)]
            rfl
          exact e ▸ NB
        · intro q hq
          unfold led at hq
          rcases List.mem_cons.mp hq with rfl | hq
          · exact i1
          rcases List.mem_cons.mp hq with rfl | hq
          · exact i2
          rcases List.mem_cons.mp hq with rfl | hq
          · exact i3
          rcases List.mem_cons.mp hq with rfl | hq
          · exact i4
          · exact setW_all (P := fun b => Apart b I) i5 q hq
        · exact rows_set b3 b4 hat (List.getElem?_eq_getElem q1) { t[at_] with cold := true } ⟨_, hrow5⟩
        · exact fun q hq => mem_setW_ne (b5 q hq) fun e => b6 q hq (e ▸ List.getElem_mem hat)
        · exact fun q hq => mem_setW_ne (b8 q hq) fun e => b9 q hq (e ▸ List.getElem_mem hat)
        · exact setW_all (P := fun b => Apart b (L' + 1)) p1
        · exact setW_all (P := fun b => Apart b (L' + 1 + 1)) p2
        · exact setW_all (P := fun b => Apart b tb) p3
        · exact setW_all (P := fun b => Apart b td) p4
      · rename_i hcA tkA hcB tkB tok1 hA1 tkA1 tok2 hA2 tkA2 hA3 ox2 F3 N3 d2 Dk hA4 tkA4 ys F4 N4 okk hys g1
        refine rest_invT (fun i ys' W' => W' = (Dk, LCg.lst ys) :: (I, oI) :: led td told nd tb rs nt (L' + 1 + 1) ox2 (L' + 1) oct rest ∧ IntsAre ys' ((((under t at_).take i).filter fun k => textAt t k == textOf (codeZ c)).map fun k : Nat => (k : Int))) ⟨rfl, .nil⟩ ?_ ?_
        · intro i v ys' W' I2 oI2 C oC D2 m₂ h₂ tk₂ E' hi hinv hv hC2 hx F₂ N₂ off ne
          obtain ⟨rfl, hys'⟩ := hinv
          obtain ⟨k, tkk, rfl, hk⟩ : ∃ (k : Nat) (tkk : Tok), v = .int (k : Int) tkk ∧ (under t at_)[i]? = some k := by
            obtain ⟨z, t9, e, hz⟩ := IntsAre.at hys i v (by simpa using hv)
            rw [List.getElem?_map] at hz
            cases e9 : (under t at_)[i]? with
            | none => rw [e9] at hz; cases hz
            | some k => rw [e9] at hz; cases hz; exact ⟨k, t9, e, rfl⟩
          have hkl : k < t.length := mem_under (List.mem_of_getElem? hk)
          have hk3 : k < 1000 := by omega
          have hkr : k < rs.length := by have := b3.1; omega
          have hrowk : (rs.map Value.ref).toArray.toList[k]? = some (.ref rs[k]) := by simp [hkr]
          obtain ⟨t3, t4, n3, hrow6⟩ := b3.2 k rs[k] t[k] (List.getElem?_eq_getElem hkr) (List.getElem?_eq_getElem hkl)
          unfold led at N₂ off
          k_steps
          · have hp : (textAt t k == textOf (codeZ c)) = true := by unfold textAt; rw [List.getElem?_eq_getElem hkl]; assumption
            refine end_turn F₂ N₂ off (.inr ⟨_, .head _, rfl, _, rfl⟩) ⟨rfl, ?_⟩
            rw [List.take_add_one, hk, List.filter_append, List.map_append]
            simp only [Option.toList_some, List.filter_cons, List.filter_nil, hp, if_true]
            exact IntsAre.append hys' (.cons (k : Int) tkk .nil)
          · have hp : (textAt t k == textOf (codeZ c)) = false := by unfold textAt; rw [List.getElem?_eq_getElem hkl]; assumption
            refine end_turn F₂ N₂ off (.inr ⟨_, .head _, rfl, _, rfl⟩) ⟨rfl, ?_⟩
            rw [List.take_add_one, hk, List.filter_append, List.map_append]
            simp only [Option.toList_some, List.filter_cons, List.filter_nil, hp, Bool.false_eq_true, if_false]
            simpa using hys'
        · intro ys' W' hinv
          obtain ⟨rfl, hys'⟩ := hinv
          have hsz : ys.toArray.size = (under t at_).length := by have := hys.length; simpa using this
          rw [hsz, List.take_length] at hys'
          change IntsAre ys' ((known t at_ (textOf (codeZ c))).map fun k : Nat => (k : Int)) at hys'
          unfold LCg.FinA
          intro D3 h3 tk3 F3 N3 off3
          have okD := off1_mem off3
          unfold led at N3 okD
          have j0 := okD _ (.head _)
          have j1 := okD _ (.tail _ (.head _))
          have j2 := okD _ (.tail _ (.tail _ (.head _)))
          have j3 := okD _ (.tail _ (.tail _ (.tail _ (.head _))))
          have j4 := okD _ (.tail _ (.tail _ (.tail _ (.tail _ (.head _)))))
          have j5 := okD _ (.tail _ (.tail _ (.tail _ (.tail _ (.tail _ (.head _))))))
          have j6 : ∀ p ∈ rest, Apart p.1 D3 := fun p hp => okD p (.tail _ (.tail _ (.tail _ (.tail _ (.tail _ (.tail _ hp))))))
          have y0 : Apart I Dk := okk _ (.head _)
          have y1 : Apart td Dk := okk _ (.tail _ (.head _))
          have y2 : Apart tb Dk := okk _ (.tail _ (.tail _ (.head _)))
          have y3 : Apart (L' + 1 + 1) Dk := okk _ (.tail _ (.tail _ (.tail _ (.head _))))
          have y4 : Apart (L' + 1) Dk := okk _ (.tail _ (.tail _ (.tail _ (.tail _ (.head _)))))
          have y5 : ∀ p ∈ rest, Apart p.1 Dk := fun p hp => okk p (.tail _ (.tail _ (.tail _ (.tail _ (.tail _ hp)))))
          cases hkn : known t at_ (textOf (codeZ c)) with
          | nil =>
            rw [hkn] at hys'
            cases hys'
            k_steps
            · rename_i tkA9 hcold r9 hA9 l9 hB9 tk9 hC9 F9 N9
              have ht : turn (t, at_) c = (t ++ [⟨-1, textOf (codeZ c), false⟩], t.length) := by
                unfold turn; rw [if_neg hcA, if_neg hcB]; dsimp only; rw [hkn]
                show (grow t at_ _, _) = _
                unfold grow coldAt; rw [List.getElem?_eq_getElem q1]; simp [hcold]
              rw [ht]
              exact mid_grow ⟨-1, textOf (codeZ c), false⟩ F9 N9 l9.2.2.1 l9.2.2.2.1 l9.2.2.2.2.1 l9.2.2.2.2.2.1 l9.2.2.2.2.2.2.1 l9.2.2.2.2.2.2.2 D0 ⟨_, d2⟩ i1 i2 i3 i4 i5
            · rename_i tkA9 hcold r9 hA9 l9 hB9 tk9 hC9 F9 N9
              have ht : turn (t, at_) c = (t ++ [⟨(at_ : Int), textOf (codeZ c), false⟩], t.length) := by
                unfold turn; rw [if_neg hcA, if_neg hcB]; dsimp only; rw [hkn]
                show (grow t at_ _, _) = _
                unfold grow coldAt; rw [List.getElem?_eq_getElem q1]; simp [hcold]
              rw [ht]
              exact mid_grow ⟨(at_ : Int), textOf (codeZ c), false⟩ F9 N9 l9.2.2.1 l9.2.2.2.1 l9.2.2.2.2.1 l9.2.2.2.2.2.1 l9.2.2.2.2.2.2.1 l9.2.2.2.2.2.2.2 D0 ⟨_, d2⟩ i1 i2 i3 i4 i5
          | cons k0 kr =>
            rw [hkn] at hys'
            obtain ⟨tk0, yr, rfl, hyr⟩ : ∃ tk0 yr, ys' = .int (k0 : Int) tk0 :: yr ∧ IntsAre yr (kr.map fun k : Nat => (k : Int)) := by
              cases hys' with
              | cons _ t9 h9 => exact ⟨t9, _, rfl, h9⟩
            have hyl : yr.length ≤ 1000 := by
              have g1 := hyr.length
              have g2 : (known t at_ (textOf (codeZ c))).length ≤ t.length := known_len t at_ _
              rw [hkn] at g2
              simp at g1 g2
              omega
            have hk0 : k0 < t.length := mem_known (t := t) (a := at_) (x := textOf (codeZ c)) (by rw [hkn]; exact .head _)
            have ht : turn (t, at_) c = (t, k0) := by unfold turn; rw [if_neg hcA, if_neg hcB]; dsimp only; rw [hkn]
            k_steps
            rename_i hB9 FB NB
            rw [ht]
            refine ⟨rfl, _, _, rs, oct, ox2, nt, rest, _, _, _, rfl, fr_eq FB mD_known, NB.perm ?_, ?_, ⟨b1, ⟨_, d2⟩, b3, b4, b5, b6, b7, b8, b9, c1, c2, c3, c4, c5, c6, p1, p2, p3, p4, hk0⟩⟩
            · intro q hq
              exact .tail _ (.tail _ hq)
            · intro q hq
              unfold led at hq
              rcases List.mem_cons.mp hq with rfl | hq
              · exact i1
              rcases List.mem_cons.mp hq with rfl | hq
              · exact i2
              rcases List.mem_cons.mp hq with rfl | hq
              · exact i3
              rcases List.mem_cons.mp hq with rfl | hq
              · exact i4
              · exact i5 q hq
    · obtain ⟨rfl, h2, tk2, rs2, oct2, ocx2, nt2, rest2, v1, v2, ta2, rfl, F3, N3, off3, D2⟩ := hmid
      have hlen2 : (turn (t, at_) c).1.length ≤ 20 := Nat.le_trans (turn_len (t, at_) c) (by dsimp only; omega)
      generalize hst2 : turn (t, at_) c = st2 at *
      obtain ⟨t2, at2⟩ := st2
      have er := er0
      have D0 := D2
      obtain ⟨b1, ⟨vx, b2⟩, b3, b4, b5, b6, b7, b8, b9, c1, c2, c3, c4, c5, c6, p1, p2, p3, p4, q1⟩ := D2
      have hrs : rs2.length ≤ 1000 := by have := b3.1; dsimp only at this hlen2; omega
      dsimp only at F3 q1 b3 hlen2
      unfold mD at F3
      unfold led at N3 off3
      have i1 : Apart td I := off3 _ (.head _)
      have i2 : Apart tb I := off3 _ (.tail _ (.head _))
      have i3 : Apart (L' + 1 + 1) I := off3 _ (.tail _ (.tail _ (.head _)))
      have i4 : Apart (L' + 1) I := off3 _ (.tail _ (.tail _ (.tail _ (.head _))))
      have i5 : ∀ p ∈ rest2, Apart p.1 I := fun p hp => off3 p (.tail _ (.tail _ (.tail _ (.tail _ hp))))
      k_steps
      rename_i l5 h5 F5 N5 l15 D5 h6 tk6 ys F6 N6 o6 hys g6
      refine rest_inv (fun i ys' W' => W' = (D5, LCg.lst ys) :: (l5, listOf #[.int (at2 : Int) ta2] 0) :: (I, oI) :: led td told nd tb rs2 nt2 (L' + 1 + 1) ocx2 (L' + 1) oct2 rest2 ∧ DatAll [] ys' (((under t2 at2).take i).map fun k => Dat.str (textAt t2 k))) ⟨rfl, .nil⟩ ?_ ?_
      · intro i v ys' W' I2 oI2 C oC Dd m₂ h₂ tk₂ E' hi hinv hv hC2 hx F₂ N₂ off ne
        obtain ⟨rfl, hys'⟩ := hinv
        obtain ⟨k, tkk, rfl, hk⟩ : ∃ (k : Nat) (tkk : Tok), v = .int (k : Int) tkk ∧ (under t2 at2)[i]? = some k := by
          obtain ⟨z, t9, e, hz⟩ := IntsAre.at hys i v (by simpa using hv)
          rw [List.getElem?_map] at hz
          cases e9 : (under t2 at2)[i]? with
          | none => rw [e9] at hz; cases hz
          | some k => rw [e9] at hz; cases hz; exact ⟨k, t9, e, rfl⟩
        have hkl : k < t2.length := mem_under (List.mem_of_getElem? hk)
        have hk3 : k < 1000 := by omega
        have hkr : k < rs2.length := by have := b3.1; omega
        have hrowk : (rs2.map Value.ref).toArray.toList[k]? = some (.ref rs2[k]) := by simp [hkr]
        obtain ⟨t3, t4, n3, hrow6⟩ := b3.2 k rs2[k] t2[k] (List.getElem?_eq_getElem hkr) (List.getElem?_eq_getElem hkl)
        unfold led at N₂ off
        k_steps
        have e7 : textAt t2 k = t2[k].text := by unfold textAt; rw [List.getElem?_eq_getElem hkl]
        refine end_turn F₂ N₂ off (.inr ⟨_, .head _, rfl, _, rfl⟩) ⟨rfl, ?_⟩
        rw [List.take_add_one, hk, List.map_append]
        simp only [Option.toList_some, List.map_cons, List.map_nil, e7]
        exact DatAll.append hys' (.one (.str _ _))
      · intro ys' W' hinv
        obtain ⟨rfl, hys'⟩ := hinv
        have hsz : ys.toArray.size = (under t2 at2).length := by have := hys.length; simpa using this
        rw [hsz, List.take_length] at hys'
        unfold LCg.FinE
        intro D3 h3 tk3 F3 N3 off3
        have okD := off1_mem off3
        unfold led at N3 okD
        have w1 : Apart I D3 := okD _ (.tail _ (.tail _ (.head _)))
        have w2 : Apart td D3 := okD _ (.tail _ (.tail _ (.tail _ (.head _))))
        have w3 : Apart tb D3 := okD _ (.tail _ (.tail _ (.tail _ (.tail _ (.head _)))))
        have w4 : Apart (L' + 1 + 1) D3 := okD _ (.tail _ (.tail _ (.tail _ (.tail _ (.tail _ (.head _))))))
        have w5 : Apart (L' + 1) D3 := okD _ (.tail _ (.tail _ (.tail _ (.tail _ (.tail _ (.tail _ (.head _)))))))
        have w6 : ∀ p ∈ rest2, Apart p.1 D3 := fun p hp => okD p (.tail _ (.tail _ (.tail _ (.tail _ (.tail _ (.tail _ (.tail _ hp)))))))
        have w7 : Apart td D5 := o6 _ (.tail _ (.tail _ (.head _)))
        k_steps
        rename_i D9 hB9 l9 hC9 F9 N9
        exact step_told F9 N9 l9.2.2.2 l15 w1 w2 w3 w4 w5 w6 D0 i1 i2 i3 i4 i5 hys' er
end
end Mine
end
section
open PySem PySem.W PyProof.Rows PySem.Calls PySem.W.X
set_option maxRecDepth 100000
set_option maxHeartbeats 1000000
set_option linter.unusedVariables false
namespace Mine
/-- the j-th node hangs under e -/
def EntAt (xs : List Addr) (t : Table) (e : DictEntry) (j : Nat) : Prop := ∃ tok x, e.key = .str (textAt t j) tok ∧ xs[j]? = some x ∧ e.val = .ref x
def Ents (xs : List Addr) (t : Table) (es : Array DictEntry) (k : Nat) : Prop := es.size = (under t k).length ∧ ∀ (i : Nat) (e : DictEntry) (j : Nat), es[i]? = some e → (under t k)[i]? = some j → EntAt xs t e j
def NodeAt (w : World) (mg : PySem.Str → Option Value) (W : Ledger) (made : Addr) (xs : List Addr) (t : Table) (x dx : Addr) (k : Nat) : Prop :=
  ∃ es n, NodeIn w mg W made x dx es n ∧ Ents xs t es k ∧ (coldAt t k = true → FzYes w mg W x dx) ∧ (coldAt t k = false → (dx, dictOf [] 0) ∈ W)
structure WI (w : World) (mg : PySem.Str → Option Value) (W : Ledger) (made : Addr) (xs dxs : List Addr) (t : Table) : Prop where
  len : xs.length = t.length
  dlen : dxs.length = t.length
  nd : xs.Nodup
  ndd : dxs.Nodup
  nodes : ∀ (k : Nat) (x dx : Addr), xs[k]? = some x → dxs[k]? = some dx → NodeAt w mg W made xs t x dx k
  lst : ∃ n, (made, listOf (xs.map Value.ref).toArray n) ∈ W
  t50 : ∃ tab, Tab50 W tab
  t104 : ∃ c' oc, (104, tabObj (tab1 51 37 c')) ∈ W ∧ (c', oc) ∈ W ∧ CodeO lamQual oc
section
variable {w : World} {mg : PySem.Str → Option Value} {W W' : Ledger} {made x dx : Addr} {es : Array DictEntry} {n : Nat}
/-- objects that nothing in the walk writes to -/
structure Stay (o : Obj) : Prop where
  l : ∀ vs k, o ≠ listOf vs k
  t1 : ∀ a b c, o ≠ tabObj (tab1 a b c)
  t0 : o ≠ tabObj #[]
  n : ∀ dx es n lam, o ≠ nodeObj dx es n lam
  d : ∀ l k, o ≠ dictOf l k
theorem stay_cell {oc : Obj} {v : Value} (h : oc.data = .cell (some v)) : Stay oc :=
  ⟨fun _ _ => cell_ne h (by intro u e; cases e), fun _ _ _ => cell_ne h (by intro u e; cases e), cell_ne h (by intro u e; cases e), fun _ _ _ _ => cell_ne h (by intro u e; cases e), fun _ _ => cell_ne h (by intro u e; cases e)⟩
theorem stay_code {q : PySem.Str} {oc : Obj} (h : CodeO q oc) : Stay oc := by
  refine ⟨fun _ _ => codeO_list h, fun _ _ _ => codeO_tab h, ?_, fun _ _ _ _ => codeO_node h, fun _ _ => codeO_dict h⟩
  rintro rfl
  obtain ⟨vs5, t5, d5, e5⟩ := h
  cases d5
  cases e5
theorem stay_cls {o : Obj} (h : o.cls = .type "function") : Stay o :=
  ⟨fun _ _ => obj_ne_cls (by rw [h]; simp), fun _ _ _ => obj_ne_cls (by rw [h]; simp), obj_ne_cls (by rw [h]; simp), fun _ _ _ _ => obj_ne_cls (by rw [h]; simp), fun _ _ => obj_ne_cls (by rw [h]; simp)⟩
theorem NodeIn.mono (h : NodeIn w mg W made x dx es n) (hx : ∀ o, (x, o) ∈ W → (x, o) ∈ W') (hk : ∀ b o, (b, o) ∈ W → Stay o → (b, o) ∈ W') : NodeIn w mg W' made x dx es n := by
  obtain ⟨lam, cell, c', ctv, ocell, oc, i1, i2, i3, i4, i5, i6⟩ := h
  exact ⟨lam, cell, c', ctv, ocell, oc, hx _ i1, hk _ _ i2 (stay_cls rfl), hk _ _ i3 (stay_cell i4), i4, hk _ _ i5 (stay_code i6), i6⟩
theorem FzYes.mono (h : FzYes w mg W x dx) (hd : ∀ o, (dx, o) ∈ W → (dx, o) ∈ W') (hk : ∀ b o, (b, o) ∈ W → Stay o → (b, o) ∈ W') : FzYes w mg W' x dx := by
  obtain ⟨lamF, cellF, cF, ctvF, ocellF, ocF, hs, tk, z1, z2, z3, z4, z5, z6⟩ := h
  exact ⟨lamF, cellF, cF, ctvF, ocellF, ocF, hs, tk, hd _ z1, hk _ _ z2 (stay_cls rfl), hk _ _ z3 (stay_cell z4), z4, hk _ _ z5 (stay_code z6), z6⟩
theorem FzYes.dict (h : FzYes w mg W x dx) : ∃ l k, (dx, dictOf l k) ∈ W := by
  obtain ⟨lamF, cellF, cF, ctvF, ocellF, ocF, hs, tk, z1, _⟩ := h
  exact ⟨_, _, z1⟩
theorem NodeIn.obj (h : NodeIn w mg W made x dx es n) : ∃ lam, (x, nodeObj dx es n lam) ∈ W := by
  obtain ⟨lam, cell, c', ctv, ocell, oc, i1, _⟩ := h
  exact ⟨_, i1⟩
theorem EntAt.left {xs : List Addr} {t : Table} {r : Row} {e : DictEntry} {j : Nat} {y : Addr} (h : EntAt xs t e j) (hj : j < t.length) : EntAt (xs ++ [y]) (t ++ [r]) e j := by
  obtain ⟨tok, x, e1, e2, e3⟩ := h
  refine ⟨tok, x, by rw [textAt_left hj]; exact e1, ?_, e3⟩
  rw [List.getElem?_append_left]
  · exact e2
  · rcases Nat.lt_or_ge j xs.length with h9 | h9
    · exact h9
    · rw [List.getElem?_eq_none h9] at e2; cases e2
theorem Ents.left {xs : List Addr} {t : Table} {r : Row} {es : Array DictEntry} {k : Nat} {y : Addr} (h : Ents xs t es k) (hr : r.up ≠ (k : Int)) : Ents (xs ++ [y]) (t ++ [r]) es k := by
  have e0 : under (t ++ [r]) k = under t k := by rw [under_snoc, if_neg hr, List.append_nil]
  refine ⟨by rw [e0]; exact h.1, fun i e j h1 h2 => ?_⟩
  rw [e0] at h2
  exact (h.2 i e j h1 h2).left (mem_under (List.mem_of_getElem? h2))
theorem Ents.push {xs : List Addr} {t : Table} {es : Array DictEntry} {k : Nat} {y : Addr} {x : PySem.Str} {tok : Tok} {hs : Int} {b : Bool} (h : Ents xs t es k) (hl : xs.length = t.length) : Ents (xs ++ [y]) (t ++ [⟨(k : Int), x, b⟩]) (es.push ⟨hs, .str x tok, .ref y⟩) k := by
  have e0 : under (t ++ [⟨(k : Int), x, b⟩]) k = under t k ++ [t.length] := by rw [under_snoc, if_pos rfl]
  refine ⟨by rw [e0, Array.size_push, List.length_append, h.1]; rfl, fun i e j h1 h2 => ?_⟩
  rw [e0] at h2
  rcases Nat.lt_or_ge i es.size with hi | hi
  · rw [Array.getElem?_push_lt hi] at h1
    rw [List.getElem?_append_left (h.1 ▸ hi)] at h2
    exact (h.2 i e j (by rw [Array.getElem?_eq_getElem hi]; exact h1) h2).left (mem_under (List.mem_of_getElem? h2))
  · rw [List.getElem?_append_right (h.1 ▸ hi)] at h2
    have h0 : i - (under t k).length = 0 := by
      rcases Nat.eq_zero_or_pos (i - (under t k).length) with h9 | h9
      · exact h9
      · rw [List.getElem?_eq_none (by simp; omega)] at h2; cases h2
    rw [h0] at h2
    cases h2
    have hie : i = es.size := by have := h.1; omega
    subst hie
    rw [Array.getElem?_push_size] at h1
    cases h1
    refine ⟨tok, y, ?_, ?_, rfl⟩
    · rw [textAt_last]
    · rw [List.getElem?_append_right (Nat.le_of_eq hl), hl]; simp
theorem Ents.fresh {xs : List Addr} {t : Table} {r : Row} (h : UpLt t) (hr : r.up ≠ (t.length : Int)) : Ents xs (t ++ [r]) #[] t.length := by
  have e0 : under (t ++ [r]) t.length = [] := by rw [under_snoc, if_neg hr, under_end h]; rfl
  exact ⟨by rw [e0]; rfl, fun i e j h1 => by simp at h1⟩
theorem find_none {α : Type} {P : α → Bool} {q : Nat → Bool} : ∀ {l : List α} {u : List Nat}, l.length = u.length → (∀ (i : Nat) (e : α) (j : Nat), l[i]? = some e → u[i]? = some j → P e = q j) → u.filter q = [] → l.findIdx? P = none
  | [], _, _, _, _ => rfl
  | e :: l, [], h, _, _ => by cases h
  | e :: l, j :: u, h, k, f => by
    have h0 := k 0 e j rfl rfl
    cases hq : q j with
    | true => rw [List.filter_cons_of_pos hq] at f; cases f
    | false =>
      rw [List.filter_cons_of_neg (by rw [hq]; simp)] at f
      rw [List.findIdx?_cons, h0, hq]
      simp only [Bool.false_eq_true, if_false]
      rw [find_none (Nat.succ.inj h) (fun i e j h1 h2 => k (i + 1) e j h1 h2) f]; rfl
theorem find_some {α : Type} {P : α → Bool} {q : Nat → Bool} {j0 : Nat} {r : List Nat} : ∀ {l : List α} {u : List Nat}, l.length = u.length → (∀ (i : Nat) (e : α) (j : Nat), l[i]? = some e → u[i]? = some j → P e = q j) → u.filter q = j0 :: r → ∃ i e, l.findIdx? P = some i ∧ l[i]? = some e ∧ u[i]? = some j0
  | [], [], _, _, f => by cases f
  | [], _ :: _, h, _, _ => by cases h
  | e :: l, [], h, _, _ => by cases h
  | e :: l, j :: u, h, k, f => by
    have h0 := k 0 e j rfl rfl
    cases hq : q j with
    | true =>
      rw [List.filter_cons_of_pos hq] at f
      cases f
      refine ⟨0, e, ?_, rfl, rfl⟩
      rw [List.findIdx?_cons, h0, hq]; rfl
    | false =>
      rw [List.filter_cons_of_neg (by rw [hq]; simp)] at f
      obtain ⟨i, e1, h1, h2, h3⟩ := find_some (Nat.succ.inj h) (fun i e j h1 h2 => k (i + 1) e j h1 h2) f
      refine ⟨i + 1, e1, ?_, h2, h3⟩
      rw [List.findIdx?_cons, h0, hq]
      simp only [Bool.false_eq_true, if_false]
      rw [h1]; rfl
theorem Ents.all {xs : List Addr} {t : Table} {k : Nat} (h : Ents xs t es k) : (es.all fun e => isExactStrKey e.key) = true := by
  rw [Array.all_eq_true]
  intro i hi
  have hu : i < (under t k).length := h.1 ▸ hi
  obtain ⟨tok, x, e1, _⟩ := h.2 i es[i] (under t k)[i] (Array.getElem?_eq_getElem hi) (List.getElem?_eq_getElem hu)
  rw [e1]; rfl
theorem Ents.same {xs : List Addr} {t : Table} {k : Nat} {x : PySem.Str} (h : Ents xs t es k) : ∀ (i : Nat) (e : DictEntry) (j : Nat), es.toList[i]? = some e → (under t k)[i]? = some j → (e.key.isStr x) = (textAt t j == x) := fun i e j h1 h2 => by
  obtain ⟨tok, y, e1, _⟩ := h.2 i e j (by simpa using h1) h2
  rw [e1]; rfl
theorem Ents.miss {xs : List Addr} {t : Table} {k : Nat} {x : PySem.Str} (h : Ents xs t es k) (hn : known t k x = []) : es.findIdx? (fun e => e.key.isStr x) = Option.none := by
  rw [show es.findIdx? (fun e => e.key.isStr x) = es.toList.findIdx? (fun e => e.key.isStr x) from by rw [← List.findIdx?_toArray]]
  exact find_none (by rw [Array.length_toList]; exact h.1) (h.same) hn
theorem Ents.hit {xs : List Addr} {t : Table} {k j : Nat} {r : List Nat} {x : PySem.Str} (h : Ents xs t es k) (hn : known t k x = j :: r) : ∃ i e y, es.findIdx? (fun e => e.key.isStr x) = some i ∧ es[i]? = some e ∧ xs[j]? = some y ∧ e.val = .ref y := by
  obtain ⟨i, e, h1, h2, h3⟩ := find_some (l := es.toList) (u := under t k) (by rw [Array.length_toList]; exact h.1) (h.same (x := x)) hn
  rw [← List.findIdx?_toArray] at h1
  have h4 : es[i]? = some e := by simpa using h2
  obtain ⟨tok, y, _, e2, e3⟩ := h.2 i e j h4 h3
  exact ⟨i, e, y, h1, h4, e2, e3⟩
theorem snoc_get {xs : List Addr} {y x : Addr} {k : Nat} (h : (xs ++ [y])[k]? = some x) : (k < xs.length ∧ xs[k]? = some x) ∨ (k = xs.length ∧ x = y) := by
  rcases Nat.lt_or_ge k xs.length with hk | hk
  · rw [List.getElem?_append_left hk] at h; exact .inl ⟨hk, h⟩
  · rw [List.getElem?_append_right hk] at h
    have h0 : k - xs.length = 0 := by
      rcases Nat.eq_zero_or_pos (k - xs.length) with h9 | h9
      · exact h9
      · rw [List.getElem?_eq_none (by simp; omega)] at h; cases h
    rw [h0] at h; cases h
    exact .inr ⟨by omega, rfl⟩
theorem nodup_at {xs : List Addr} (hn : xs.Nodup) {j k : Nat} {x : Addr} (h1 : xs[j]? = some x) (h2 : xs[k]? = some x) : j = k := by
  obtain ⟨hj, e1⟩ := List.getElem?_eq_some_iff.mp h1
  obtain ⟨hk, e2⟩ := List.getElem?_eq_some_iff.mp h2
  rcases Nat.decEq j k with h | h
  · exact absurd (e1.trans e2.symm) (nodup_ne hn hj hk h)
  · exact h
theorem nodup_snoc' {xs : List Addr} {y : Addr} (h : xs.Nodup) (hy : ∀ x ∈ xs, x ≠ y) : (xs ++ [y]).Nodup := by
  rw [List.nodup_append]
  exact ⟨h, by simp, fun a ha b hb => by rw [List.mem_singleton.mp hb]; exact hy a ha⟩
end
end Mine
end
section
open PySem PySem.W PyProof.Rows PySem.Calls PySem.W.X
set_option maxRecDepth 100000
set_option maxHeartbeats 1000000
set_option linter.unusedVariables false
namespace Mine
section
variable {w : World} {mg : PySem.Str → Option Value} {W W' : Ledger} {made x dx x2 dx2 : Addr} {es : Array DictEntry} {n nx a : Nat} {xs dxs : List Addr} {t : Table} {h₀ h h' : Heap} {L : Addr} {k : PySem.Str} {tok : Tok}
theorem get_lt {xs : List Addr} {k : Nat} {x : Addr} (h : xs[k]? = some x) : k < xs.length := (List.getElem?_eq_some_iff.mp h).1
theorem get_ex {xs : List Addr} {k : Nat} (h : k < xs.length) : ∃ x, xs[k]? = some x := ⟨xs[k], List.getElem?_eq_getElem h⟩
theorem WI.node (V : WI w mg W made xs dxs t) {j : Nat} {y : Addr} (h : xs[j]? = some y) : ∃ dx, dxs[j]? = some dx ∧ NodeAt w mg W made xs t y dx j := by
  obtain ⟨dx, e⟩ := get_ex (xs := dxs) (k := j) (by rw [V.dlen, ← V.len]; exact get_lt h)
  exact ⟨dx, e, V.nodes j y dx h e⟩
theorem NodeAt.obj {y dy : Addr} {j : Nat} (h : NodeAt w mg W made xs t y dy j) : ∃ es n lam, (y, nodeObj dy es n lam) ∈ W := by
  obtain ⟨es, n, I, _⟩ := h
  obtain ⟨lam, hm⟩ := I.obj
  exact ⟨es, n, lam, hm⟩
theorem NodeAt.dict {y dy : Addr} {j : Nat} (h : NodeAt w mg W made xs t y dy j) : ∃ l n, (dy, dictOf l n) ∈ W := by
  obtain ⟨es, n, I, _, c1, c0⟩ := h
  cases hc : coldAt t j with
  | true => exact (c1 hc).dict
  | false => exact ⟨[], 0, c0 hc⟩
theorem WI.dict (V : WI w mg W made xs dxs t) {j : Nat} {dy : Addr} (h : dxs[j]? = some dy) : ∃ l n, (dy, dictOf l n) ∈ W := by
  obtain ⟨y, e⟩ := get_ex (xs := xs) (k := j) (by rw [V.len, ← V.dlen]; exact get_lt h)
  exact (V.nodes j y dy e h).dict
/-- what stays where made, 104 and (perhaps) one node are written -/
theorem stay_keep {vs : Array Value} {c' : Addr} (N : News h₀ L h W) (hl : (made, listOf vs n) ∈ W) (h104 : (104, tabObj (tab1 51 37 c')) ∈ W) {z : Addr} {oz : Obj} (hz : (z, oz) ∈ W) (hk : ∀ p ∈ W, p.1 ≠ made → p.1 ≠ 104 → p.1 ≠ z → p ∈ W') {b : Addr} {o : Obj} (hb : (b, o) ∈ W) (h1 : o ≠ listOf vs n) (h2 : o ≠ tabObj (tab1 51 37 c')) (h3 : b ≠ z) : (b, o) ∈ W' :=
  hk _ hb (ne_obj N hb hl h1) (ne_obj N hb h104 h2) h3
theorem wi_grow (N : News h₀ L h W) (N' : News h₀ L h' W') (V : WI w mg W made xs dxs t) (u : UpLt t) {r : Row} (hr : r.cold = false) (hru : r.up < (t.length : Int))
    (off : ∀ p ∈ W, Apart p.1 x2) (offd : ∀ p ∈ W, Apart p.1 dx2) (nd2 : NodeIn w mg W' made x2 dx2 #[] 0) (d2 : (dx2, dictOf [] 0) ∈ W')
    (l2 : ∃ n, (made, listOf ((xs ++ [x2]).map Value.ref).toArray n) ∈ W') (t2 : ∃ c' oc, (104, tabObj (tab1 51 37 c')) ∈ W' ∧ (c', oc) ∈ W' ∧ CodeO lamQual oc) (t5 : ∃ tab, Tab50 W' tab)
    (old : ∀ (j : Nat) (y dy : Addr), xs[j]? = some y → dxs[j]? = some dy → NodeAt w mg W' made (xs ++ [x2]) (t ++ [r]) y dy j) : WI w mg W' made (xs ++ [x2]) (dxs ++ [dx2]) (t ++ [r]) := by
  refine ⟨by rw [List.length_append, List.length_append, V.len]; rfl, by rw [List.length_append, List.length_append, V.dlen]; rfl, nodup_snoc' V.nd fun y hy => ?_, nodup_snoc' V.ndd fun y hy => ?_, fun j y dy h1 h2 => ?_, l2, t5, t2⟩
  · obtain ⟨j, hj, rfl⟩ := List.getElem_of_mem hy
    obtain ⟨dy, _, na⟩ := V.node (List.getElem?_eq_getElem hj)
    obtain ⟨es, n, lam, hm⟩ := na.obj
    exact off _ hm
  · obtain ⟨j, hj, rfl⟩ := List.getElem_of_mem hy
    obtain ⟨l, n, hm⟩ := V.dict (List.getElem?_eq_getElem hj)
    exact offd _ hm
  · rcases snoc_get h1 with ⟨hj, e1⟩ | ⟨rfl, rfl⟩
    · rcases snoc_get h2 with ⟨_, e2⟩ | ⟨e2, _⟩
      · exact old j y dy e1 e2
      · have := V.len; have := V.dlen; omega
    · have hd : dy = dx2 := by
        rcases snoc_get h2 with ⟨e2, _⟩ | ⟨_, e2⟩
        · have := V.len; have := V.dlen; omega
        · exact e2
      subst hd
      rw [V.len]
      refine ⟨#[], 0, nd2, Ents.fresh u (by omega), fun hc => ?_, fun _ => d2⟩
      rw [coldAt_last, hr] at hc; cases hc
theorem one_obj (N : News h₀ L h W) {b : Addr} {o o' : Obj} (h1 : (b, o) ∈ W) (h2 : (b, o') ∈ W) : o = o' := Option.some.inj ((N _ h1).1.symm.trans (N _ h2).1)
/-- a node that is not written to -/
theorem node_keep {vs : Array Value} {c' : Addr} (N : News h₀ L h W) (hl : (made, listOf vs n) ∈ W) (h104 : (104, tabObj (tab1 51 37 c')) ∈ W) {z : Addr} {oz : Obj} (hz : (z, oz) ∈ W) (hk : ∀ p ∈ W, p.1 ≠ made → p.1 ≠ 104 → p.1 ≠ z → p ∈ W')
    (hst : ∀ b o, (b, o) ∈ W → Stay o → b ≠ z) {y dy : Addr} {j : Nat} (na : NodeAt w mg W made xs t y dy j) (hy : y ≠ z) (hd : dy ≠ z) {r : Row} (hr : r.up ≠ (j : Int)) (hj : j < t.length) : NodeAt w mg W' made (xs ++ [x2]) (t ++ [r]) y dy j := by
  obtain ⟨l0, k0, hdict⟩ := na.dict
  obtain ⟨es, n1, I, En, c1, c0⟩ := na
  have hs : ∀ b o, (b, o) ∈ W → Stay o → (b, o) ∈ W' := fun b o hb h => stay_keep N hl h104 hz hk hb (h.l _ _) (h.t1 _ _ _) (hst b o hb h)
  obtain ⟨lam, hm⟩ := I.obj
  refine ⟨es, n1, I.mono (fun o ho => ?_) hs, En.left hr, fun hc => ?_, fun hc => ?_⟩
  · rw [one_obj N ho hm] at *
    exact stay_keep N hl h104 hz hk hm (obj_ne_cls (by simp)) (obj_ne_cls (by simp)) hy
  · rw [coldAt_left hj] at hc
    refine (c1 hc).mono (fun o ho => ?_) hs
    rw [one_obj N ho hdict] at *
    exact stay_keep N hl h104 hz hk hdict (obj_ne_cls (by simp)) (obj_ne_cls (by simp)) hd
  · rw [coldAt_left hj] at hc
    exact stay_keep N hl h104 hz hk (c0 hc) (obj_ne_cls (by simp)) (obj_ne_cls (by simp)) hd
theorem tab50_keep {vs : Array Value} {c' : Addr} (N : News h₀ L h W) (hl : (made, listOf vs n) ∈ W) (h104 : (104, tabObj (tab1 51 37 c')) ∈ W) {z : Addr} {oz : Obj} (hz : (z, oz) ∈ W) (hk : ∀ p ∈ W, p.1 ≠ made → p.1 ≠ 104 → p.1 ≠ z → p ∈ W')
    (hst : ∀ b o, (b, o) ∈ W → Stay o → b ≠ z) (hz50 : z ≠ 50) (h5 : ∃ tab, Tab50 W tab) : ∃ tab, Tab50 W' tab := by
  obtain ⟨tab, hm, hh⟩ := h5
  refine ⟨tab, hk _ hm (ne_cls N hm hl (by simp)) (show (50 : Nat) ≠ 104 by decide) (Ne.symm hz50), ?_⟩
  rcases hh with rfl | ⟨cF, ocF, rfl, hc, ho⟩
  · exact .inl rfl
  · exact .inr ⟨cF, ocF, rfl, stay_keep N hl h104 hz hk hc (codeO_list ho) (codeO_tab ho) (hst _ _ hc (stay_code ho)), ho⟩
theorem wi_grown {c' : Addr} (N : News h₀ L h W) (N' : News h₀ L h' W') (V : WI w mg W made xs dxs t) (u : UpLt t) (hl : (made, listOf (xs.map Value.ref).toArray n) ∈ W) (h104 : (104, tabObj (tab1 51 37 c')) ∈ W) (G : Grown w mg made (xs.map Value.ref).toArray n W W' x2 dx2) :
    WI w mg W' made (xs ++ [x2]) (dxs ++ [dx2]) (t ++ [⟨-1, k, false⟩]) := by
  have hk : ∀ p ∈ W, p.1 ≠ made → p.1 ≠ 104 → p.1 ≠ made → p ∈ W' := fun p hp h1 h2 _ => G.keep p hp h1 h2
  have hst : ∀ b o, (b, o) ∈ W → Stay o → b ≠ made := fun b o hb hs => ne_obj N hb hl (hs.l _ _)
  refine wi_grow N N' V u rfl (by show (-1 : Int) < _; omega) G.offx G.offd G.node G.dict ⟨_, by rw [← refs_push]; exact G.lst⟩ G.tab (tab50_keep N hl h104 hl hk hst ?_ V.t50) fun j y dy h1 h2 => ?_
  · obtain ⟨tab, hm, _⟩ := V.t50
    exact ne_cls N hl hm (by simp)
  · have na := V.nodes j y dy h1 h2
    obtain ⟨es1, n1, lam1, m1⟩ := na.obj
    obtain ⟨l2, n2, m2⟩ := na.dict
    exact node_keep N hl h104 hl hk hst na (ne_cls N m1 hl (by simp)) (ne_cls N m2 hl (by simp)) (by show (-1 : Int) ≠ _; omega) (by rw [← V.len]; exact get_lt h1)
theorem wi_under {c' : Addr} (N : News h₀ L h W) (N' : News h₀ L h' W') (V : WI w mg W made xs dxs t) (u : UpLt t) (hl : (made, listOf (xs.map Value.ref).toArray n) ∈ W) (h104 : (104, tabObj (tab1 51 37 c')) ∈ W)
    (hx : xs[a]? = some x) (hdx : dxs[a]? = some dx) (I : NodeIn w mg W made x dx es nx) (En : Ents xs t es a) (hc : coldAt t a = false) (hd : (dx, dictOf [] 0) ∈ W)
    (U : Under w mg made (xs.map Value.ref).toArray n W W' x dx es nx k tok x2 dx2) :
    WI w mg W' made (xs ++ [x2]) (dxs ++ [dx2]) (t ++ [⟨(a : Int), k, false⟩]) := by
  obtain ⟨lam, mx⟩ := I.obj
  have hst : ∀ b o, (b, o) ∈ W → Stay o → b ≠ x := fun b o hb hs => ne_obj N hb mx (hs.n _ _ _ _)
  have ha : a < t.length := by rw [← V.len]; exact get_lt hx
  refine wi_grow N N' V u rfl (by show (a : Int) < _; omega) U.offx U.offd U.node U.dict ⟨_, by rw [← refs_push]; exact U.lst⟩ U.tab (tab50_keep N hl h104 mx U.keep hst ?_ V.t50) fun j y dy h1 h2 => ?_
  · obtain ⟨tab, hm, _⟩ := V.t50
    exact ne_cls N mx hm (by simp)
  · by_cases hj : j = a
    · subst hj
      rw [hx] at h1; cases h1
      rw [hdx] at h2; cases h2
      refine ⟨_, _, U.up, En.push V.len, fun h9 => ?_, fun _ => ?_⟩
      · rw [coldAt_left ha, hc] at h9; cases h9
      · exact stay_keep N hl h104 mx U.keep hd (obj_ne_cls (by simp)) (obj_ne_cls (by simp)) (ne_cls N hd mx (by simp))
    · have na := V.nodes j y dy h1 h2
      obtain ⟨l2, n2, m2⟩ := na.dict
      refine node_keep N hl h104 mx U.keep hst na (fun e => hj (nodup_at V.nd h1 (e ▸ hx))) (ne_cls N m2 mx (by simp)) ?_ (by rw [← V.len]; exact get_lt h1)
      show (a : Int) ≠ _
      omega
theorem wi_frozen (N : News h₀ L h W) (V : WI w mg W made xs dxs t) (hx : xs[a]? = some x) (hdx : dxs[a]? = some dx) (Z : Frozen w mg W W' x dx) : WI w mg W' made xs dxs (chill t a) := by
  have ha : a < t.length := by rw [← V.len]; exact get_lt hx
  obtain ⟨l1, n1, md⟩ := (V.nodes a x dx hx hdx).dict
  obtain ⟨tab5, h50, hh5⟩ := V.t50
  have kp : ∀ {b : Addr} {o : Obj}, (b, o) ∈ W → (∀ l k, o ≠ dictOf l k) → o ≠ tabObj tab5 → (b, o) ∈ W' := fun hb h1 h2 => Z.keep _ hb (ne_obj N hb md (h1 _ _)) (ne_obj N hb h50 h2)
  have hs : ∀ b o, (b, o) ∈ W → Stay o → (b, o) ∈ W' := fun b o hb h => kp hb h.d (by
    rcases hh5 with rfl | ⟨cF, ocF, rfl, _, _⟩
    · exact h.t0
    · exact h.t1 _ _ _)
  have nl : ∀ {vs : Array Value} {k : Nat}, (made, listOf vs k) ∈ W → (made, listOf vs k) ∈ W' := fun hb => kp hb (fun l k => obj_ne_cls (by simp)) (obj_ne_cls (by simp))
  refine ⟨by rw [chill_len]; exact V.len, by rw [chill_len]; exact V.dlen, V.nd, V.ndd, fun j y dy h1 h2 => ?_, ?_, ?_, ?_⟩
  · have na := V.nodes j y dy h1 h2
    obtain ⟨l2, n2, m2⟩ := na.dict
    obtain ⟨es, n3, I, En, c1, c0⟩ := na
    obtain ⟨lam, mx⟩ := I.obj
    have En' : Ents xs (chill t a) es j := by
      refine ⟨by rw [under_chill]; exact En.1, fun i e j2 g1 g2 => ?_⟩
      rw [under_chill] at g2
      obtain ⟨tok, z, e1, e2, e3⟩ := En.2 i e j2 g1 g2
      exact ⟨tok, z, by rw [textAt_chill]; exact e1, e2, e3⟩
    refine ⟨es, n3, I.mono (fun o ho => ?_) hs, En', fun hc => ?_, fun hc => ?_⟩
    · rw [one_obj N ho mx] at *
      exact kp mx (fun l k => obj_ne_cls (by simp)) (obj_ne_cls (by simp))
    · by_cases hj : j = a
      · subst hj
        rw [hx] at h1; cases h1
        rw [hdx] at h2; cases h2
        exact Z.fz
      · rw [coldAt_chill ha, if_neg hj] at hc
        refine (c1 hc).mono (fun o ho => ?_) hs
        rw [one_obj N ho m2] at *
        exact Z.keep _ m2 (fun e => hj (nodup_at V.ndd h2 (by rw [show dy = dx from e]; exact hdx))) (ne_cls N m2 h50 (by simp))
    · by_cases hj : j = a
      · subst hj
        rw [coldAt_chill ha, if_pos rfl] at hc; cases hc
      · rw [coldAt_chill ha, if_neg hj] at hc
        exact Z.keep _ (c0 hc) (fun e => hj (nodup_at V.ndd h2 (by rw [show dy = dx from e]; exact hdx))) (ne_cls N (c0 hc) h50 (by simp))
  · obtain ⟨k9, hm⟩ := V.lst
    exact ⟨k9, nl hm⟩
  · obtain ⟨cF, ocF, z1, z2, z3⟩ := Z.tab
    exact ⟨_, z1, .inr ⟨cF, ocF, rfl, z2, z3⟩⟩
  · obtain ⟨c', oc, z1, z2, z3⟩ := V.t104
    exact ⟨c', oc, Z.keep _ z1 (ne_cls N z1 md (by simp)) (show (104 : Nat) ≠ 50 by decide), hs _ _ z2 (stay_code z3), z3⟩
end
end Mine
end
section
open PySem PySem.W PyProof.Rows PySem.Calls PySem.W.X
set_option maxRecDepth 100000
set_option maxHeartbeats 1000000
set_option linter.unusedVariables false
namespace Mine
/-- objects that the walk of the tree writes to, or that come and go -/
def Bad (o : Obj) : Prop := (∃ vs k, o = listOf vs k) ∨ (o.cls = .type "list_iterator" ∧ ∃ vs i t, o.data = .fields vs ∧ vs[1]? = some (.int i t))
theorem not_bad_data {o : Obj} (h : (∀ vs k, o.data ≠ .seq vs k) ∧ ∀ vs i t, o.data = .fields vs → vs[1]? ≠ some (.int i t)) : ¬ Bad o := by
  rintro (⟨vs, k, rfl⟩ | ⟨_, vs, i, t, e1, e2⟩)
  · exact h.1 _ _ rfl
  · exact h.2 _ _ _ e1 e2
theorem nb_cell {o : Obj} {v : Option Value} (h : o.data = .cell v) : ¬ Bad o := not_bad_data ⟨fun _ _ e => (by rw [h] at e; cases e), fun _ _ _ e => (by rw [h] at e; cases e)⟩
theorem nb_code {q : PySem.Str} {o : Obj} (h : CodeO q o) : ¬ Bad o := by
  obtain ⟨vs5, t5, d5, e5⟩ := h
  refine not_bad_data ⟨fun _ _ e => (by rw [d5] at e; cases e), fun vs i t e e2 => ?_⟩
  rw [d5] at e
  cases e
  rw [e5] at e2
  cases e2
theorem nb_func {o : Obj} {f : FuncData} (h : o.data = .func f) : ¬ Bad o := not_bad_data ⟨fun _ _ e => (by rw [h] at e; cases e), fun _ _ _ e => (by rw [h] at e; cases e)⟩
theorem nb_dict {o : Obj} {es : Array DictEntry} {n : Nat} (h : o.data = .dict es n) : ¬ Bad o := not_bad_data ⟨fun _ _ e => (by rw [h] at e; cases e), fun _ _ _ e => (by rw [h] at e; cases e)⟩
theorem nb_tab {tab : Array Value} : ¬ Bad (tabObj tab) := by
  rintro (⟨vs, k, e⟩ | ⟨e, _⟩)
  · exact obj_ne_cls (by simp) e
  · cases e
section
variable {w : World} {mg : PySem.Str → Option Value} {W W' : Ledger} {made x dx x2 dx2 : Addr} {es : Array DictEntry} {n nx a : Nat} {xs dxs : List Addr} {t : Table} {h₀ h h' : Heap} {L : Addr} {k : PySem.Str} {tok : Tok}
theorem NodeIn.mono2 (h : NodeIn w mg W made x dx es n) (hk : ∀ b o, (b, o) ∈ W → ¬ Bad o → (b, o) ∈ W') : NodeIn w mg W' made x dx es n := by
  obtain ⟨lam, cell, c', ctv, ocell, oc, i1, i2, i3, i4, i5, i6⟩ := h
  exact ⟨lam, cell, c', ctv, ocell, oc, hk _ _ i1 (nb_dict rfl), hk _ _ i2 (nb_func rfl), hk _ _ i3 (nb_cell i4), i4, hk _ _ i5 (nb_code i6), i6⟩
theorem FzYes.mono2 (h : FzYes w mg W x dx) (hk : ∀ b o, (b, o) ∈ W → ¬ Bad o → (b, o) ∈ W') : FzYes w mg W' x dx := by
  obtain ⟨lamF, cellF, cF, ctvF, ocellF, ocF, hs, tk, z1, z2, z3, z4, z5, z6⟩ := h
  exact ⟨lamF, cellF, cF, ctvF, ocellF, ocF, hs, tk, hk _ _ z1 (nb_dict rfl), hk _ _ z2 (nb_func rfl), hk _ _ z3 (nb_cell z4), z4, hk _ _ z5 (nb_code z6), z6⟩
theorem WI.mono (V : WI w mg W made xs dxs t) (hk : ∀ b o, (b, o) ∈ W → ¬ Bad o → (b, o) ∈ W') (hl : ∀ vs k, (made, listOf vs k) ∈ W → (made, listOf vs k) ∈ W') : WI w mg W' made xs dxs t := by
  refine ⟨V.len, V.dlen, V.nd, V.ndd, fun j y dy h1 h2 => ?_, ?_, ?_, ?_⟩
  · obtain ⟨es, n, I, En, c1, c0⟩ := V.nodes j y dy h1 h2
    exact ⟨es, n, I.mono2 hk, En, fun hc => (c1 hc).mono2 hk, fun hc => hk _ _ (c0 hc) (nb_dict rfl)⟩
  · obtain ⟨n, hm⟩ := V.lst
    exact ⟨n, hl _ _ hm⟩
  · obtain ⟨tab, hm, hh⟩ := V.t50
    refine ⟨tab, hk _ _ hm nb_tab, ?_⟩
    rcases hh with rfl | ⟨cF, ocF, rfl, hc, ho⟩
    · exact .inl rfl
    · exact .inr ⟨cF, ocF, rfl, hk _ _ hc (nb_code ho), ho⟩
  · obtain ⟨c', oc, z1, z2, z3⟩ := V.t104
    exact ⟨c', oc, hk _ _ z1 nb_tab, hk _ _ z2 (nb_code z3), z3⟩
theorem WI.more (V : WI w mg W made xs dxs t) (hk : ∀ p ∈ W, p ∈ W') : WI w mg W' made xs dxs t := V.mono (fun b o h _ => hk _ h) fun _ _ h => hk _ h
/-- an address that the walk of the tree writes nothing to -/
structure Safe (made : Addr) (xs dxs : List Addr) (b : Addr) : Prop where
  m : b ≠ made
  n104 : b ≠ 104
  n50 : b ≠ 50
  x : b ∉ xs
  d : b ∉ dxs
theorem Safe.snoc {b : Addr} (h : Safe made xs dxs b) (h1 : Apart b x2) (h2 : Apart b dx2) : Safe made (xs ++ [x2]) (dxs ++ [dx2]) b :=
  ⟨h.m, h.n104, h.n50, fun e => by rcases List.mem_append.mp e with e | e; exact h.x e; exact h1 (List.mem_singleton.mp e), fun e => by rcases List.mem_append.mp e with e | e; exact h.d e; exact h2 (List.mem_singleton.mp e)⟩
/-- an address off the ledger is safe -/
theorem WI.safe (V : WI w mg W made xs dxs t) {b : Addr} (h : ∀ p ∈ W, Apart p.1 b) : Safe made xs dxs b := by
  refine ⟨?_, ?_, ?_, fun hx => ?_, fun hx => ?_⟩
  · obtain ⟨n, hm⟩ := V.lst; exact (h _ hm).en
  · obtain ⟨c', oc, z1, _⟩ := V.t104; exact (h _ z1).en
  · obtain ⟨tab, hm, _⟩ := V.t50; exact (h _ hm).en
  · obtain ⟨j, hj, rfl⟩ := List.getElem_of_mem hx
    obtain ⟨dy, _, na⟩ := V.node (List.getElem?_eq_getElem hj)
    obtain ⟨es, n, lam, hm⟩ := na.obj
    exact h _ hm rfl
  · obtain ⟨j, hj, rfl⟩ := List.getElem_of_mem hx
    obtain ⟨l, n, hm⟩ := V.dict (List.getElem?_eq_getElem hj)
    exact h _ hm rfl
/-- the dict of a node -/
theorem NodeAt.dd {y dy : Addr} {j : Nat} (h : NodeAt w mg W made xs t y dy j) : ∃ des dn, (dy, dictOf des dn) ∈ W ∧ ((des = [] ∧ dn = 0) ∨ ∃ hs tk v, des = [⟨hs, .str (Str.ofString "_frozen") tk, v⟩] ∧ dn = 1) := by
  obtain ⟨es, n, I, En, c1, c0⟩ := h
  cases hc : coldAt t j with
  | true =>
    obtain ⟨lamF, cellF, cF, ctvF, ocellF, ocF, hs, tk, z1, _⟩ := c1 hc
    exact ⟨_, _, z1, .inr ⟨hs, tk, _, rfl, rfl⟩⟩
  | false => exact ⟨[], 0, c0 hc, .inl ⟨rfl, rfl⟩⟩
end
section
variable {w : World} {s : Shared} {E : Value → Shared → Prop} {x dx lam : Addr} {es : Array DictEntry} {n : Nat} {A : Around} {des : List DictEntry} {dn : Nat}
theorem k_fzf : findIn (hd.heap_39 w.params) (.ref 58) "freeze" = some (some (.ref 55)) := by k_is
theorem k_fzt : typeIn (hd.heap_39 w.params) (.ref 55) = some (.type "function") := by k_is
theorem shadow_fz (hz : (des = [] ∧ dn = 0) ∨ ∃ hs tk v, des = [⟨hs, .str (Str.ofString "_frozen") tk, v⟩] ∧ dn = 1) : shadowIn (some (dictOf des dn)) (Str.ofString "freeze") = some false := by
  rcases hz with ⟨rfl, rfl⟩ | ⟨hs, tk, v', rfl, rfl⟩
  · rfl
  · rfl
theorem getMeth_fz {pl : Sem Bool} {Q : Value × List Value → Shared → Prop} (X : (hd.heap_39 w.params).In s.heap) (I : InstAt s.heap x (nodeObj dx es n lam) 58 (some (dictOf des dn)))
    (hz : (des = [] ∧ dn = 0) ∨ ∃ hs tk v, des = [⟨hs, .str (Str.ofString "_frozen") tk, v⟩] ∧ dn = 1) (h : Q (.ref 55, [.ref x]) s) :
    wpAny (model P0 w) A (getMethod (.ref x) (Str.ofString "freeze") pl) Q E s := by
  unfold getMethod specialOf
  refine wpAny_bind (wpAny_bind (I.type.here ((looks_findIn X k_ga).here ?_)))
  dsimp only
  rw [if_neg (by rw [canon_oga]; exact Bool.false_ne_true)]
  refine wpAny_bind (wpAny_bind (I.type.here ((looks_findIn X k_gat).here ?_)))
  simp only [Option.isSome_none, Bool.false_eq_true, if_false]
  refine wpAny_bind (wpAny_bind (I.type.here ((looks_findIn X k_fzf).here (wpAny_bind ((looks_typeIn X k_fzt).here ?_)))))
  rw [if_neg (by decide +kernel)]
  refine wpAny_bind (wpAny_loadPart I.at_ ?_)
  have hd := I.dict
  obtain ⟨r, a, b⟩ := Option.map_eq_some_iff.mp (shadow_fz hz)
  refine wpAny_bind (wpAny_bind (wpAny_loadPart hd ?_))
  rw [nsLook_of a]
  refine wpAny_pure ?_
  rw [b]
  exact wpAny_bind (wpAny_rule (wpAny_pure h))
end
end Mine
end
section
open PySem PySem.W PyProof.Rows PySem.Calls PySem.W.X
set_option maxRecDepth 100000
set_option maxHeartbeats 1000000
set_option linter.unusedVariables false
namespace Mine
/-- where a key leads -/
def step (t : Table) (a : Nat) (k : PySem.Str) : Table × Nat := match known t a k with
  | j :: _ => (t, j)
  | [] => (grow t a k, t.length)
section
variable {p : Program} {loose : List PySem.Str} {mean : ExcName → Option Value} {mg mb : PySem.Str → Option Value} {w : World}
    {gd : Option (List Code)} {cn : PySem.Str} {cs : Scope} {a : Addr} {ccd : Value} {cl : List (PySem.Str × Addr)} {outer : List Env} {A₀ : Around} {base h₀ : Heap} {L : Addr} {m : PySem.Str → Option Value} {W : Ledger} {s : Shared} {made x : Addr} {xs dxs : List Addr} {t : Table} {at_ n : Nat}
    {Q E : Value → Shared → Prop} {R : Result → Shared → Prop}
theorem refs_sz {xs : List Addr} (h : xs.length ≤ 1000) : (xs.map Value.ref).toArray.size ≤ 1000 := by simpa using h
theorem node_V (B : Below A₀ base outer h₀) (F : Fr h₀ L s.heap m) (X : (hd.heap_39 w.params).In h₀) (N : News h₀ L s.heap W) (T : Top p loose mean mg mb h₀) (hcs : cs.kind = .function)
    (hC : CodeHd base 108 104) (hm : (made, listOf #[] n) ∈ W) (h5 : (50, tabObj #[]) ∈ W) (h104 : (104, tabObj #[]) ∈ W)
    (hq : ∀ x dx h' tk W', Fr h₀ L h' m → News h₀ L h' W' → WI w mg W' made [x] [dx] start.1 → (∀ p ∈ W, p.1 ≠ made → p.1 ≠ 104 → p ∈ W') → (∀ p ∈ W, Apart p.1 x) → (∀ p ∈ W, Apart p.1 dx) → Q (.ref x) { s with heap := h', toks := tk }) :
    wpAny (model P0 w) (ktrTop 500 1000 gd cn cs L a ccd cl outer) (call (.ref 109) [.ref made]) Q E s := by
  refine node_W B F X N T hcs hC (by simp) hm ⟨h104, .inl rfl⟩ ?_
  intro x dx h' tk W' F' N' G
  have m50 : (50, tabObj #[]) ∈ W' := G.keep _ h5 (ne_cls N h5 hm (by simp)) (show (50 : Nat) ≠ 104 by decide)
  refine hq x dx h' tk W' F' N' ⟨rfl, rfl, by simp, by simp, fun k y dy h1 h2 => ?_, ⟨_, G.lst⟩, ⟨_, m50, .inl rfl⟩, G.tab⟩ G.keep G.offx G.offd
  have h0 : k = 0 := by
    rcases Nat.eq_zero_or_pos k with h9 | h9
    · exact h9
    · rw [List.getElem?_eq_none (by simp; omega)] at h1; cases h1
  subst h0
  cases h1; cases h2
  refine ⟨#[], 0, G.node, ?_, fun hc => (by cases hc), fun _ => G.dict⟩
  exact Ents.fresh (t := []) (r := ⟨-1, ⟨#[]⟩, false⟩) (fun r hr => by cases hr) (by decide)
theorem meth_V {pl : Sem Bool} {A : Around} {Q : Value × List Value → Shared → Prop} (F : Fr h₀ L s.heap m) (X : (hd.heap_39 w.params).In h₀) (N : News h₀ L s.heap W) (V : WI w mg W made xs dxs t) (hx : xs[at_]? = some x) (h : Q (.ref 55, [.ref x]) s) :
    wpAny (model P0 w) A (getMethod (.ref x) (Str.ofString "freeze") pl) Q E s := by
  obtain ⟨dx, hdx, na⟩ := V.node hx
  obtain ⟨es, k, lam, mx⟩ := na.obj
  obtain ⟨des, dn, md, hz⟩ := na.dd
  exact getMeth_fz (X.keeps F.keep) (inst_N N mx md) hz h
theorem freeze_V (B : Below A₀ base outer h₀) (F : Fr h₀ L s.heap m) (X : (hd.heap_39 w.params).In h₀) (N : News h₀ L s.heap W) (T : Top p loose mean mg mb h₀) (hcs : cs.kind = .function) (hC : CodeHd base 54 50)
    (V : WI w mg W made xs dxs t) (hx : xs[at_]? = some x)
    (hq : ∀ h' tk W', Fr h₀ L h' m → News h₀ L h' W' → WI w mg W' made xs dxs (chill t at_) → (∀ p ∈ W, Safe made xs dxs p.1 → p ∈ W') → Q .none { s with heap := h', toks := tk }) :
    wpAny (model P0 w) (ktrTop 500 1000 gd cn cs L a ccd cl outer) (call (.ref 55) [.ref x]) Q E s := by
  obtain ⟨dx, hdx, na⟩ := V.node hx
  obtain ⟨es, k, lam, mx⟩ := na.obj
  obtain ⟨des, dn, md, hz⟩ := na.dd
  obtain ⟨tab, ht⟩ := V.t50
  refine freeze_W B F X N T hcs hC ht mx md hz ?_
  intro h' tk W' F' N' Z
  refine hq h' tk W' F' N' (wi_frozen N V hx hdx Z) fun p hp hs => Z.keep p hp (fun e => hs.d ?_) hs.n50
  rw [e]; exact List.mem_of_getElem? hdx
theorem sub_V {value slice : PySem.Expr} {k : PySem.Str} {tok : Tok} (B : Below A₀ base outer h₀) (F : Fr h₀ L s.heap m) (X : (hd.heap_39 w.params).In h₀) (N : News h₀ L s.heap W) (T : Top p loose mean mg mb h₀) (hcs : cs.kind = .function)
    (hC : CodeHd base 108 104) (hM : ∃ o, base.get? sysModules = some o) (V : WI w mg W made xs dxs t) (u : UpLt t) (hl : xs.length ≤ 1000) (hx : xs[at_]? = some x)
    (hs : subscripted slice false (.ref x) (.str k tok) = operate [.ref x, .str k tok] (getItem (.ref x) (.str k tok)))
    (hq : ∀ y h' tk W' xs' dxs', Fr h₀ L h' m → News h₀ L h' W' → WI w mg W' made xs' dxs' (step t at_ k).1 → xs'[(step t at_ k).2]? = some y → (∀ p ∈ W, Safe made xs dxs p.1 → p ∈ W' ∧ Safe made xs' dxs' p.1) → Q (.ref y) { s with heap := h', toks := tk }) :
    wpAny (model P0 w) (ktrTop 470 700 gd cn cs L a ccd cl outer) (subscriptTail value slice (.ref x) (.str k tok)) Q E s := by
  obtain ⟨dx, hdx, na⟩ := V.node hx
  obtain ⟨es, nx, I, En, c1, c0⟩ := id na
  obtain ⟨des, dn, md, hz⟩ := na.dd
  obtain ⟨nl, hm⟩ := V.lst
  obtain ⟨c', oc, ht, mc, hc⟩ := V.t104
  have hes : es.size ≤ 1000 := by
    have h1 := En.1
    have h2 := under_len t at_
    have h3 := V.len
    omega
  cases hkn : known t at_ k with
  | cons j r =>
    have e0 : step t at_ k = (t, j) := by unfold step; rw [hkn]
    rw [e0] at hq
    obtain ⟨i, e, y, h1, h2, h3, h4⟩ := En.hit hkn
    refine sub_found F X N I md En.all h1 h2 hs ?_
    rw [h4]
    exact hq y s.heap _ W xs dxs F N V h3 fun p hp h => ⟨hp, h⟩
  | nil =>
    have e0 : step t at_ k = (grow t at_ k, t.length) := by unfold step; rw [hkn]
    rw [e0] at hq
    cases hcold : coldAt t at_ with
    | true =>
      have e1 : grow t at_ k = t ++ [⟨-1, k, false⟩] := by unfold grow; rw [hcold]; rfl
      rw [e1] at hq
      refine sub_miss1 B F X N T hcs hC hM (refs_sz hl) hm ht mc hc I (c1 hcold) En.all (En.miss hkn) hs ?_
      intro x2 dx2 h' tk W' F' N' G
      exact hq x2 h' tk W' _ _ F' N' (wi_grown N N' V u hm ht G) (by rw [← V.len]; simp) fun p hp hS => ⟨G.keep p hp hS.m hS.n104, hS.snoc (G.offx p hp) (G.offd p hp)⟩
    | false =>
      have e1 : grow t at_ k = t ++ [⟨(at_ : Int), k, false⟩] := by unfold grow; rw [hcold]; rfl
      rw [e1] at hq
      refine sub_miss0 B F X N T hcs hC hM (refs_sz hl) hm ht mc hc I (c0 hcold) En.all (En.miss hkn) hes hs ?_
      intro x2 dx2 h' tk W' F' N' U
      exact hq x2 h' tk W' _ _ F' N' (wi_under N N' V u hm ht hx hdx I En hcold (c0 hcold) U) (by rw [← V.len]; simp) fun p hp hS => ⟨U.keep p hp hS.m hS.n104 (fun e => hS.x (by rw [e]; exact List.mem_of_getElem? hx)), hS.snoc (U.offx p hp) (U.offd p hp)⟩
theorem number_V (B : Below A₀ base outer h₀) (F : Fr h₀ L s.heap m) (X : (hd.heap_39 w.params).In h₀) (N : News h₀ L s.heap W) (T : Top p loose mean mg mb h₀) (hcs : cs.kind = .function)
    (V : WI w mg W made xs dxs t) (hl : xs.length ≤ 1000) (hx : xs[at_]? = some x)
    (hq : ∀ D h' tk tok, Fr h₀ L h' m → News h₀ L h' ((D, LCg.lst [.int at_ tok]) :: W) → (∀ p ∈ W, Apart p.1 D) → Q (.ref D) { s with heap := h', toks := tk }) :
    wpAny (model P0 w) (ktrTop 500 1000 gd cn cs L a ccd cl outer) (call (.ref 114) [.ref made, .ref x]) Q E s := by
  obtain ⟨nl, hm⟩ := V.lst
  refine number_K B F X N T hcs hl ⟨hx, fun j h => nodup_at V.nd h hx⟩ (fun y hy => ?_) hm hq
  obtain ⟨j, hj, rfl⟩ := List.getElem_of_mem hy
  obtain ⟨dy, _, na⟩ := V.node (List.getElem?_eq_getElem hj)
  obtain ⟨es, n, lam, hm⟩ := na.obj
  exact ⟨_, hm, rfl⟩
/-- the keys of a node as data -/
theorem ents_keys {es : Array DictEntry} {k : Nat} (h : Ents xs t es k) : DatAll [] (es.toList.map (·.key)) ((under t k).map fun j => Dat.str (textAt t j)) := by
  obtain ⟨h1, h2⟩ := h
  have key : ∀ (l : List DictEntry) (u : List Nat), l.length = u.length → (∀ (i : Nat) (e : DictEntry) (j : Nat), l[i]? = some e → u[i]? = some j → EntAt xs t e j) → DatAll [] (l.map (·.key)) (u.map fun j => Dat.str (textAt t j)) := by
    intro l
    induction l with
    | nil => intro u hl _; cases u with
      | nil => exact .nil
      | cons _ _ => cases hl
    | cons e l ih => intro u hl hh; cases u with
      | nil => cases hl
      | cons j u =>
        obtain ⟨tok, x, e1, _⟩ := hh 0 e j rfl rfl
        refine .cons ?_ (ih u (Nat.succ.inj hl) fun i e j h1 h2 => hh (i + 1) e j h1 h2)
        show DatIn [] e.key (.str (textAt t j))
        rw [e1]
        exact .str _ _
  exact key es.toList (under t k) (by rw [Array.length_toList]; exact h1) fun i e j g1 g2 => h2 i e j (by simpa using g1) g2
theorem keys_V {A : Around} {env : Env} {k : PySem.Str} {p1 : Pos} {scope : Scope} {cl : List (PySem.Str × Addr)} (hh : A.handled = none) (B : Below A₀ base outer h₀) (X : (hd.heap_39 w.params).In h₀) (F : Fr h₀ L s.heap m) (N : News h₀ L s.heap W) (hM : ∃ o, base.get? sysModules = some o)
    (V : WI w mg W made xs dxs t) (hl : xs.length ≤ 1000) (hx : xs[at_]? = some x)
    (hk : (relabel scope env).kind = .function) (hlk : (relabel scope env).names.lookup k = some .local) (hb : (k == ("__debug__" : PySem.Str)) = false)
    (hq : ∀ D h' tk ys, Fr h₀ L h' m → News h₀ L h' ((D, LCg.lst ys) :: W) → (∀ p ∈ W, Apart p.1 D) → DatAll [] ys ((under t at_).map fun j => Dat.str (textAt t j)) → Q (.ref D) { s with heap := h', toks := tk }) :
    ∃ n P S W, Src P0 w A h₀ L W (.ref x) n P S s ∧ Fr h₀ L s.heap m ∧ News h₀ L s.heap W ∧ n ≤ sizeLine ∧
      ∀ g, LCg.CompRest P0 w A h₀ L m env (.Name k p1) k scope cl { s with heap := g } S P (LCg.FinE h₀ L m { s with heap := g } Q) n 0 [] W := by
  obtain ⟨dx, hdx, na⟩ := V.node hx
  obtain ⟨es, nx, I, En, c1, c0⟩ := id na
  obtain ⟨des, dn, md, hz⟩ := na.dd
  obtain ⟨lam, mx⟩ := I.obj
  have hes : es.size ≤ 1000 := by
    have h1 := En.1
    have h2 := under_len t at_
    have h3 := V.len
    omega
  obtain ⟨o, ho⟩ := hM
  exact keys_src hh X F N ⟨o, B.stays _ _ ho⟩ mx md hes hk hlk hb fun D h' tk F' N' ok => hq D h' tk _ F' N' ok (ents_keys En)
open LCg in
theorem append_W {A : Around} {l : Addr} {vs : Array Value} {k : Nat} {v : Value} (F : Fr h₀ L s.heap m) (N : News h₀ L s.heap W) (hm : (l, listOf vs k) ∈ W) (hsz : vs.size ≤ 1000)
    (h : ∀ h', Fr h₀ L h' m → News h₀ L h' (setW l (listOf (vs.push v) (k + 1)) W) → Q .none { s with heap := h' }) :
    wpAny (model P0 w) A (call (.builtin "list.append") [.ref l, v]) Q E s := by
  refine append_at (hsz := by rw [PySem.sizeLine_eq]; omega) (N _ hm).1 fun h' hs ho' => ?_
  exact h h' (F.change hs (N _ hm).2.1 (N _ hm).2.2) (News.update N hm hs ho')
end
end Mine
end
section
open PySem PySem.W PyProof.Rows PySem.Calls PySem.W.X
set_option maxRecDepth 100000
set_option maxHeartbeats 1000000
set_option linter.unusedVariables false
namespace Mine
def IterO (o : Obj) : Prop := o.cls = .type "list_iterator" ∧ ∃ vs i t, o.data = .fields vs ∧ vs[1]? = some (.int i t)
theorem IterO.bad {o : Obj} (h : IterO o) : Bad o := .inr h
section
variable {prog : Program} {w : World} {A : Around} {E : Value → Shared → Prop} {s : Shared} {h₀ : Heap} {env : Env} {l : Addr} {vs : Array Value} {k0 : Nat} {m₀ : PySem.Str → Option Value} {W : Ledger} {x : PySem.Str} {body : List Stmt} {Q : Flow → Shared → Prop}
/-- a loop over a list in the ledger -/
theorem loop_W2 (Inv : Nat → (PySem.Str → Option Value) → Ledger → Prop) (hh : A.handled = none) (F : Fr h₀ env.locals s.heap m₀) (N : News h₀ env.locals s.heap W) (hin : ∀ i m W', Inv i m W' → (l, listOf vs k0) ∈ W') (h0 : Inv 0 m₀ W)
    (turn : ∀ i v m₁ W₁ I oI h tk, vs[i]? = some v → Inv i m₁ W₁ → Fr h₀ env.locals h (fun y => if y = x then some v else m₁ y) → News h₀ env.locals h ((I, oI) :: W₁) → (∀ p ∈ W₁, Apart p.1 I) → IterO oI →
      wpAny (model prog w) A (execs body env) (StepW h₀ env.locals I oI (Inv (i + 1)) { s with heap := h, toks := tk }) E { s with heap := h, toks := tk })
    (done : ∀ m₁ W₁ h tk, Inv vs.size m₁ W₁ → Fr h₀ env.locals h m₁ → News h₀ env.locals h W₁ → Q .next { s with heap := h, toks := tk }) :
    wpAny (model prog w) A (pyIter (.ref l)) (fun it s₂ => LoopAtV prog w A h₀ env x body Q E it s₂) E s := by
  have hm := hin _ _ _ h0
  have hls : s.heap.IsList l vs := ⟨_, (N _ hm).1, rfl, _, rfl⟩
  have hlt : l < s.heap.objs.size := Heap.lt_size (N _ hm).1
  refine wpAny_pyIter_list hls ?_
  have Wk := Walks.list (prog := prog) (w := w) hh s.heap.objs.size l (Nat.ne_of_lt hlt) vs
  refine ⟨_, _, _, _, _, _, m₀, W, Inv, rfl, Wk, ?_, ?_, ?_, ⟨⟨_, Heap.get?_push_size _ rfl, rfl, rfl⟩, hls.at fun o e => Heap.get?_push_of_some _ e⟩, F.push _, (fun p hp => ⟨Heap.get?_push_of_some _ (N p hp).1, (N p hp).2⟩), h0, ?_, ?_⟩
  · intro hm'
    rcases List.mem_cons.mp hm' with e | hm'
    · exact absurd F.ns.lt (e ▸ Nat.lt_irrefl _)
    · exact (N _ hm).2.1 (List.mem_singleton.mp hm').symm
  · intro b hb
    rw [List.mem_singleton.mp hb]
    exact next_is_new F
  · intro p hp hI
    exact absurd (Heap.lt_size (N p hp).1) ((List.mem_singleton.mp hI) ▸ Nat.lt_irrefl _)
  · rintro i v m₁ W₁ s₁ own ⟨hh', tk', rfl⟩ hi hP hJ hoff hown hget hall hst F₁ N₁
    obtain ⟨oI, heI, cI, dI⟩ := hst.1
    have hIown : (s.heap.objs.size, oI) ∈ own := hall _ (.head _) (next_is_new F) _ heI
    have hl1 := hin _ _ _ hJ
    refine wpAny_mono (turn i v m₁ W₁ s.heap.objs.size oI hh' tk' hP hJ F₁ (fun p hp => ?_) (fun p hp e => hoff p hp (List.mem_singleton.mpr e)) ⟨cI, _, _, _, dI, rfl⟩) (fun f s₂ p => ?_) fun _ _ e => e
    · rcases List.mem_cons.mp hp with rfl | hp
      · exact N₁ _ (List.mem_append_left _ hIown)
      · exact N₁ _ (List.mem_append_right _ hp)
    · obtain ⟨rfl, h', tk, m', W', rfl, F', N', off', hj⟩ := p
      refine .next ⟨rfl, h', tk, m', W', rfl, F', fun q hq => ?_, fun q hq hI => off' q hq (List.mem_singleton.mp hI), hj⟩
      rcases List.mem_append.mp hq with hq | hq
      · rcases List.mem_cons.mp (hown q hq) with e | e
        · have e2 := hget q hq
          have e3 : q = (s.heap.objs.size, oI) := by
            have : some q.2 = some oI := by rw [← e2, e]; exact heI
            exact Prod.ext e (Option.some.inj this)
          rw [e3]; exact N' _ (.head _)
        · have e1 := List.mem_singleton.mp e
          have e2 := hget q hq
          have e3 : q = (l, listOf vs k0) := by
            have : some q.2 = some (listOf vs k0) := by rw [← e2, e1]; exact (N₁ _ (List.mem_append_right _ hl1)).1
            exact Prod.ext e1 (Option.some.inj this)
          rw [e3]; exact N' _ (.tail _ (hin _ _ _ hj))
      · exact N' _ (.tail _ hq)
  · intro h' tk m' W' F' N' _ hJ
    exact done m' W' h' tk hJ F' N'
end
def mW (td l : Addr) (u1 : Option Value) (x : Addr) : PySem.Str → Option Value := fun y =>
  if y = Str.ofString "cell" then u1 else if y = Str.ofString "node" then some (.ref x) else if y = Str.ofString "told" then some (.ref td) else if y = Str.ofString "cells" then some (.ref l) else none
theorem mW_node {td l x x' : Addr} {u1 v : Option Value} : (fun y => if y = Str.ofString "node" then some (Value.ref x') else if y = Str.ofString "cell" then v else mW td l u1 x y) = mW td l v x' := by
  funext y
  unfold mW
  by_cases h1 : y = Str.ofString "node"
  · subst h1; simp +decide
  · by_cases h2 : y = Str.ofString "cell"
    · subst h2; simp +decide
    · simp [h1, h2]
theorem mW_cell {td l x : Addr} {u1 v : Option Value} : (fun y => if y = Str.ofString "cell" then v else mW td l u1 x y) = mW td l v x := by
  funext y
  unfold mW
  by_cases h2 : y = Str.ofString "cell"
  · subst h2; simp
  · simp [h2]
theorem mW_start {td l x : Addr} : (fun y => if y = Str.ofString "told" then some (Value.ref td) else if y = Str.ofString "node" then some (Value.ref x) else if y = Str.ofString "cells" then some (.ref l) else none) = mW td l none x := by
  funext y
  unfold mW
  by_cases h1 : y = Str.ofString "told"
  · subst h1; simp +decide
  · by_cases h2 : y = Str.ofString "node"
    · subst h2; simp +decide
    · by_cases h3 : y = Str.ofString "cells"
      · subst h3; simp +decide
      · simp [h1, h2, h3]
structure DW (w : World) (mg : PySem.Str → Option Value) (W K R : Ledger) (made Cm td : Addr) (xs dxs : List Addr) (st : Table × Nat) (ds : List Dat) (told : List Value) (nd : Nat) (ocm : Obj) : Prop where
  wi : WI w mg W made xs dxs st.1
  good : Good st
  cm : ocm.data = .cell (some (.ref made))
  mcm : (Cm, ocm) ∈ W
  mtd : (td, listOf told.toArray nd) ∈ W
  scm : Safe made xs dxs Cm
  std : Safe made xs dxs td
  ne : Cm ≠ td
  kr : ∀ p ∈ K, p ∈ R
  rw : ∀ p ∈ R, p ∈ W
  rs : ∀ p ∈ R, Safe made xs dxs p.1
  rt : ∀ p ∈ R, p.1 ≠ td
  dat : DatAll R told ds
def MidW (w : World) (mg : PySem.Str → Option Value) (h₀ : Heap) (L : Addr) (W : Ledger) (made td l : Addr) (xs dxs : List Addr) (st : Table × Nat) (s : Shared) (f : Flow) (s' : Shared) : Prop :=
  f = .next ∧ ∃ h' tk W' xs' dxs' u1 x, s' = { s with heap := h', toks := tk } ∧ Fr h₀ L h' (mW td l u1 x) ∧ News h₀ L h' W' ∧ WI w mg W' made xs' dxs' st.1 ∧ xs'[st.2]? = some x ∧ (∀ p ∈ W, Safe made xs dxs p.1 → p ∈ W' ∧ Safe made xs' dxs' p.1)
def InvW (w : World) (mg : PySem.Str → Option Value) (K : Ledger) (made Cm td l : Addr) (ns : List Int) (ocm : Obj) (i : Nat) (m : PySem.Str → Option Value) (W : Ledger) : Prop :=
  ∃ xs dxs told nd R u1 x, DW w mg W K R made Cm td xs dxs (run start (ns.take i)).1 (run start (ns.take i)).2 told nd ocm ∧ xs[(run start (ns.take i)).1.2]? = some x ∧ m = mW td l u1 x
theorem chr_ok {c : Int} (h0 : ¬ c.fmod 4 = 0) (h1 : ¬ c.fmod 4 = 1) (h2 : ¬ c.fmod 4 = 2) : 0 ≤ codeZ c ∧ codeZ c ≤ 1114111 := by
  have h3 : c.fmod 4 = 3 := by rw [Int.fmod_eq_emod_of_nonneg _ (by decide)] at *; omega
  unfold codeZ
  rw [if_pos h3, Int.fmod_eq_emod_of_nonneg _ (by decide)]
  omega
end Mine
end
section
open PySem PySem.W PyProof.Rows PySem.Calls PySem.W.X
set_option maxRecDepth 100000
set_option maxHeartbeats 1000000
set_option linter.unusedVariables false
namespace Mine
theorem step_toldW {w : World} {mg : PySem.Str → Option Value} {h₀ h h' h1 : Heap} {L I : Addr} {oI ocm : Obj} {K R W₁ W2 : Ledger} {made Cm td l D' D3 D4 : Addr} {xs dxs xs2 dxs2 : List Addr} {st : Table × Nat} {t2 : Table} {at2 nd n' i tk tk' : Nat} {ds : List Dat} {told ys : List Value} {s : Shared} {u1 : Option Value} {x2 : Addr} {tokD : Tok} {ns : List Int}
    (F : Fr h₀ L h' (mW td l u1 x2))
    (N1 : News h₀ L h1 ((D', ({ cls := .type "tuple", data := .seq #[Value.ref D4, Value.ref D3] n' } : Obj)) :: (D3, LCg.lst ys) :: (D4, LCg.lst [Value.int (at2 : Int) tokD]) :: W2))
    (N : News h₀ L h' (setW td (listOf (told.toArray.push (.ref D')) (nd + 1)) ((D', ({ cls := .type "tuple", data := .seq #[Value.ref D4, Value.ref D3] n' } : Obj)) :: (D3, LCg.lst ys) :: (D4, LCg.lst [Value.int (at2 : Int) tokD]) :: W2)))
    (lD : @LT.lt Nat _ D3 D' ∧ @LT.lt Nat _ D4 D' ∧ AllLt D' W2) (o4 : ∀ p ∈ W2, Apart p.1 D4) (o5 : ∀ p ∈ (D4, LCg.lst [Value.int (at2 : Int) tokD]) :: W2, Apart p.1 D3)
    (offI : ∀ p ∈ W₁, Apart p.1 I) (itI : IterO oI) (D : DW w mg W₁ K R made Cm td xs dxs st ds told nd ocm) (V2 : WI w mg W2 made xs2 dxs2 t2) (g2 : Good (t2, at2)) (hx2 : xs2[at2]? = some x2)
    (kp2 : ∀ p ∈ (I, oI) :: W₁, Safe made xs dxs p.1 → p ∈ W2 ∧ Safe made xs2 dxs2 p.1)
    (hys : DatAll [] ys ((under t2 at2).map fun k => Dat.str (textAt t2 k))) (er : run start (ns.take (i + 1)) = ((t2, at2), ds ++ [toldOf (t2, at2)])) :
    StepW h₀ L I oI (InvW w mg K made Cm td l ns ocm (i + 1)) { s with heap := h, toks := tk } .next { s with heap := h', toks := tk' } := by
  have hD := allLt_mem lD.2.2
  have big : ∀ {x : Addr} {P : Addr}, @LT.lt Nat _ P x → Apart x P := fun h => Ne.symm (Nat.ne_of_lt h)
  have sI : Safe made xs dxs I := D.wi.safe offI
  obtain ⟨mI, sI2⟩ := kp2 (I, oI) (.head _) sI
  obtain ⟨mtd, std2⟩ := kp2 _ (.tail _ D.mtd) D.std
  obtain ⟨mcm, scm2⟩ := kp2 _ (.tail _ D.mcm) D.scm
  have tdI : td ≠ I := offI _ D.mtd
  have N2 : News h₀ L h1 W2 := N1.perm fun q hq => .tail _ (.tail _ (.tail _ hq))
  have k3 : ∀ {q : Addr × Obj}, q ∈ ((D', ({ cls := .type "tuple", data := .seq #[Value.ref D4, Value.ref D3] n' } : Obj)) :: (D3, LCg.lst ys) :: (D4, LCg.lst [Value.int (at2 : Int) tokD]) :: W2) → q.1 ≠ td → q.1 ≠ I →
      q ∈ offW [I] (setW td (listOf (told.toArray.push (.ref D')) (nd + 1)) ((D', ({ cls := .type "tuple", data := .seq #[Value.ref D4, Value.ref D3] n' } : Obj)) :: (D3, LCg.lst ys) :: (D4, LCg.lst [Value.int (at2 : Int) tokD]) :: W2)) :=
    fun hq h1 h2 => mem_offW.mpr ⟨mem_setW_ne hq h1, by simp [h2]⟩
  have keep : ∀ {q : Addr × Obj}, q ∈ W2 → q.1 ≠ td → q.1 ≠ I → q ∈ offW [I] (setW td (listOf (told.toArray.push (.ref D')) (nd + 1)) ((D', ({ cls := .type "tuple", data := .seq #[Value.ref D4, Value.ref D3] n' } : Obj)) :: (D3, LCg.lst ys) :: (D4, LCg.lst [Value.int (at2 : Int) tokD]) :: W2)) :=
    fun hq h1 h2 => k3 (.tail _ (.tail _ (.tail _ hq))) h1 h2
  have eR : ∀ p ∈ R, p ∈ W2 ∧ Safe made xs2 dxs2 p.1 := fun p hp => kp2 p (.tail _ (D.rw p hp)) (D.rs p hp)
  have apI3 : D3 ≠ I := (o5 _ (.tail _ mI)).en
  have apI4 : D4 ≠ I := (o4 _ mI).en
  have apI' : D' ≠ I := big (hD _ mI)
  have apt3 : D3 ≠ td := (o5 _ (.tail _ mtd)).en
  have apt4 : D4 ≠ td := (o4 _ mtd).en
  have apt' : D' ≠ td := big (hD _ mtd)
  refine step_W (W' := offW [I] (setW td (listOf (told.toArray.push (.ref D')) (nd + 1)) ((D', ({ cls := .type "tuple", data := .seq #[Value.ref D4, Value.ref D3] n' } : Obj)) :: (D3, LCg.lst ys) :: (D4, LCg.lst [Value.int (at2 : Int) tokD]) :: W2))) F (N.perm fun q hq => ?_) (fun q hq => ?_) ?_
  · rcases List.mem_cons.mp hq with rfl | hq
    · exact mem_setW_ne (.tail _ (.tail _ (.tail _ mI))) (Ne.symm tdI)
    · exact (mem_offW.mp hq).1
  · have := (mem_offW.mp hq).2
    intro e
    rw [e] at this
    simp at this
  · refine ⟨xs2, dxs2, told ++ [.ref D'], nd + 1, (D', ({ cls := .type "tuple", data := .seq #[Value.ref D4, Value.ref D3] n' } : Obj)) :: (D3, LCg.lst ys) :: (D4, LCg.lst [Value.int (at2 : Int) tokD]) :: R, u1, x2, ?_, by rw [er]; exact hx2, rfl⟩
    rw [er]
    refine ⟨V2.mono (fun b o hb hn => keep hb (fun e => ?_) (fun e => ?_)) (fun vs k hb => keep hb std2.m.symm sI.m.symm), g2, D.cm, keep mcm D.ne (offI _ D.mcm), ?_, scm2, std2, D.ne, fun p hp => .tail _ (.tail _ (.tail _ (D.kr p hp))), fun p hp => ?_, fun p hp => ?_, fun p hp => ?_, ?_⟩
    · dsimp only at e
      subst e
      rw [one_obj N2 hb mtd] at hn
      exact hn (.inl ⟨_, _, rfl⟩)
    · dsimp only at e
      subst e
      rw [one_obj N2 hb mI] at hn
      exact hn itI.bad
    · have e : (told ++ [Value.ref D']).toArray = told.toArray.push (.ref D') := by simp
      rw [e]
      exact mem_offW.mpr ⟨mem_setW (.tail _ (.tail _ (.tail _ mtd))), by simp [tdI]⟩
    · rcases List.mem_cons.mp hp with rfl | hp
      · exact k3 (.head _) apt' apI'
      rcases List.mem_cons.mp hp with rfl | hp
      · exact k3 (.tail _ (.head _)) apt3 apI3
      rcases List.mem_cons.mp hp with rfl | hp
      · exact k3 (.tail _ (.tail _ (.head _))) apt4 apI4
      · exact keep (eR p hp).1 (D.rt p hp) (offI p (D.rw p hp))
    · rcases List.mem_cons.mp hp with rfl | hp
      · exact V2.safe fun p hp => Nat.ne_of_lt (hD p hp)
      rcases List.mem_cons.mp hp with rfl | hp
      · exact V2.safe fun p hp => o5 p (.tail _ hp)
      rcases List.mem_cons.mp hp with rfl | hp
      · exact V2.safe o4
      · exact (eR p hp).2
    · rcases List.mem_cons.mp hp with rfl | hp
      · exact apt'
      rcases List.mem_cons.mp hp with rfl | hp
      · exact apt3
      rcases List.mem_cons.mp hp with rfl | hp
      · exact apt4
      · exact D.rt p hp
    · refine DatAll.append (DatAll.mono (fun p hp => .tail _ (.tail _ (.tail _ hp))) D.dat) (.one (.tuple (vs := [.ref D4, .ref D3]) (.head _) (.cons (.list (vs := [.int (at2 : Int) tokD]) (n := 1) (.tail _ (.tail _ (.head _))) (.cons (.int _ _) .nil)) (.cons (.list (n := ys.length) (.tail _ (.head _)) (DatAll.mono (news := []) (fun p hp => by cases hp) hys)) .nil))))
end Mine
end
section
open PySem PySem.W PyProof.Rows PySem.Calls PySem.W.X
set_option maxRecDepth 100000
set_option maxHeartbeats 1000000
set_option linter.unusedVariables false
namespace Mine
theorem known_self {t : Table} (h : TextsOk t) {a k : Nat} (hk : k ∈ under t a) : ∃ r, known t a (textAt t k) = k :: r := by
  have h1 := h a
  unfold known
  have key : ∀ (u : List Nat), (u.map (textAt t)).Nodup → k ∈ u → ∃ r, u.filter (fun j => textAt t j == textAt t k) = k :: r := by
    intro u
    induction u with
    | nil => intro _ h; cases h
    | cons j u ih =>
      intro hn hm
      rw [List.map_cons, List.nodup_cons] at hn
      by_cases e : textAt t j = textAt t k
      · rw [List.filter_cons_of_pos (by simp [e])]
        rcases List.mem_cons.mp hm with rfl | hm
        · exact ⟨_, rfl⟩
        · exact absurd (List.mem_map.mpr ⟨k, hm, e.symm⟩) hn.1
      · rw [List.filter_cons_of_neg (by simp [e])]
        rcases List.mem_cons.mp hm with rfl | hm
        · exact absurd rfl e
        · exact ih hn.2 hm
  exact key _ h1 hk
section
open LCg
/-- a pair (text, [number]) is made in a turn -/
theorem end_pairW {h₀ h h' : Heap} {L Dt lk I3 C3 D3 : Addr} {oI3 oC3 oD3 : Obj} {m : PySem.Str → Option Value} {W2 B E2 : Ledger} {Fs : List Addr} {S : Ledger → Prop} {s : Shared} {tk tk' n1 : Nat} {x : PySem.Str} {t4 t5 : Tok} {k : Int} {ys2 : List Value} {ds ds' : List Dat}
    (F : Fr h₀ L h' m) (N : News h₀ L h' ((Dt, ({ cls := .type "tuple", data := .seq #[Value.str x t4, Value.ref lk] n1 } : Obj)) :: (lk, lst [Value.int k t5]) :: (I3, oI3) :: (C3, oC3) :: (D3, oD3) :: W2))
    (lx : ∀ p ∈ (I3, oI3) :: (C3, oC3) :: (D3, oD3) :: W2, Apart p.1 lk) (lz : @LT.lt Nat _ lk Dt ∧ @LT.lt Nat _ I3 Dt ∧ @LT.lt Nat _ C3 Dt ∧ @LT.lt Nat _ D3 Dt ∧ AllLt Dt W2)
    (off3 : ∀ p ∈ W2, p.1 ≠ I3 ∧ p.1 ≠ C3 ∧ p.1 ≠ D3) (hS : ∀ W', (∀ p ∈ W2, p ∈ W') → S W') (hW2 : ∀ p ∈ B, p ∈ W2)
    (hF : ∀ b ∈ Fs, ∃ o, (b, o) ∈ W2) (hE2 : ∀ p ∈ E2, p ∈ W2 ∧ p.1 ∉ Fs) (hys : DatAll E2 ys2 ds) (e : ds' = ds ++ [.tuple [.str x, .list [.int k]]]) :
    CompEnd h₀ L m { s with heap := h, toks := tk } I3 oI3 C3 oC3 D3 oD3 S (fun y W' => (∀ p ∈ B, p ∈ W') ∧ ∃ E2, (∀ p ∈ E2, p ∈ W' ∧ p.1 ∉ Fs) ∧ DatAll E2 (ys2 ++ [y]) ds') (.ref Dt) { s with heap := h', toks := tk' } := by
  have g2 := allLt_mem lz.2.2.2.2
  have big : ∀ {x : Addr} {P : Addr}, @LT.lt Nat _ P x → x ≠ P := fun h => Ne.symm (Nat.ne_of_lt h)
  refine end_turn (W' := (Dt, ({ cls := .type "tuple", data := .seq #[Value.str x t4, Value.ref lk] n1 } : Obj)) :: (lk, lst [Value.int k t5]) :: W2) F (N.perm fun p hp => ?_) (fun p hp => ?_) (hS _ fun p hp => .tail _ (.tail _ hp)) ⟨fun p hp => .tail _ (.tail _ (hW2 p hp)), (Dt, ({ cls := .type "tuple", data := .seq #[Value.str x t4, Value.ref lk] n1 } : Obj)) :: (lk, lst [Value.int k t5]) :: E2, fun p hp => ?_, ?_⟩
  · rcases List.mem_cons.mp hp with rfl | hp
    · exact .tail _ (.tail _ (.head _))
    rcases List.mem_cons.mp hp with rfl | hp
    · exact .tail _ (.tail _ (.tail _ (.head _)))
    rcases List.mem_cons.mp hp with rfl | hp
    · exact .tail _ (.tail _ (.tail _ (.tail _ (.head _))))
    rcases List.mem_cons.mp hp with rfl | hp
    · exact .head _
    rcases List.mem_cons.mp hp with rfl | hp
    · exact .tail _ (.head _)
    · exact .tail _ (.tail _ (.tail _ (.tail _ (.tail _ hp))))
  · rcases List.mem_cons.mp hp with rfl | hp
    · exact ⟨big lz.2.1, big lz.2.2.1, big lz.2.2.2.1⟩
    rcases List.mem_cons.mp hp with rfl | hp
    · exact ⟨(lx _ (.head _)).en, (lx _ (.tail _ (.head _))).en, (lx _ (.tail _ (.tail _ (.head _)))).en⟩
    · exact off3 p hp
  · rcases List.mem_cons.mp hp with rfl | hp
    · refine ⟨.head _, fun hb => ?_⟩
      obtain ⟨o, ho⟩ := hF _ hb
      exact Nat.lt_irrefl _ (g2 _ ho)
    rcases List.mem_cons.mp hp with rfl | hp
    · refine ⟨.tail _ (.head _), fun hb => ?_⟩
      obtain ⟨o, ho⟩ := hF _ hb
      exact lx _ (.tail _ (.tail _ (.tail _ ho))) rfl
    · have := hE2 p hp
      exact ⟨.tail _ (.tail _ this.1), this.2⟩
  · rw [e]
    refine DatAll.append (DatAll.mono (fun p hp => .tail _ (.tail _ hp)) hys) (.one (.tuple (vs := [.str x t4, .ref lk]) (.head _) (.cons (.str _ _) (.cons (.list (vs := [.int k t5]) (n := 1) (.tail _ (.head _)) (.cons (.int _ _) .nil)) .nil))))
end
section
variable {p : Program} {loose : List PySem.Str} {mean : ExcName → Option Value} {mg mb : PySem.Str → Option Value} {w : World}
    {base h₀ : Heap} {L : Addr} {m : PySem.Str → Option Value} {W : Ledger} {s : Shared} {made x : Addr} {xs dxs : List Addr} {t : Table} {at_ n : Nat}
    {Q E : Value → Shared → Prop}
theorem sub_F {A : Around} {value slice : PySem.Expr} {k : PySem.Str} {tok : Tok} {j : Nat} {r : List Nat} {y : Addr} (F : Fr h₀ L s.heap m) (X : (hd.heap_39 w.params).In h₀) (N : News h₀ L s.heap W)
    (V : WI w mg W made xs dxs t) (hx : xs[at_]? = some x) (hkn : known t at_ k = j :: r) (hy : xs[j]? = some y)
    (hs : subscripted slice false (.ref x) (.str k tok) = operate [.ref x, .str k tok] (getItem (.ref x) (.str k tok)))
    (hq : Q (.ref y) { s with toks := s.toks + 1 }) :
    wpAny (model P0 w) A (subscriptTail value slice (.ref x) (.str k tok)) Q E s := by
  obtain ⟨dx, hdx, na⟩ := V.node hx
  obtain ⟨es, nx, I, En, c1, c0⟩ := id na
  obtain ⟨des, dn, md, hz⟩ := na.dd
  obtain ⟨i, e, y', h1, h2, h3, h4⟩ := En.hit hkn
  rw [hy] at h3
  cases h3
  refine sub_found F X N I md En.all h1 h2 hs ?_
  rw [h4]
  exact hq
open LCg in
theorem comp_CH {prog : Program} {A : Around} {env : Env} {elt iter : Expr} {x : PySem.Str} {px : Pos} {scope : Scope} {cl : List (PySem.Str × Addr)} {pos : Pos} {Q : Value → Shared → Prop} (F₀ : Fr h₀ L s.heap m)
    (hclos : closureFor scope env = pure cl) (hcf : ∀ n acc, cellsFrom n scope.names acc = (x, n) :: acc) (hpc : ∀ h, pushCells h scope.names = h.push (cellObj none)) (hkind : scope.kind = .function)
    (hnames : ∀ y ∈ scope.names, y.2 = .local → scope.names.lookup y.1 = some .local) (hx : (relabel scope env).names.lookup x = some .cell)
    (hs : ∀ x, foldedSetIterable iter env x = pure x)
    (h : wpAny (model prog w) A (eval iter env) (fun xv s₁ => Held (∃ n P S W, Src prog w A h₀ L W xv n P S s₁ ∧ Fr h₀ L s₁.heap m ∧ News h₀ L s₁.heap W ∧ n ≤ sizeLine ∧ (∀ b W, S W → S (b :: W)) ∧
      ∃ (Inv : Nat → List Value → Ledger → Prop), Inv 0 [] W ∧
        (∀ i v ys W I oI C oC D Bc oB h tk (E' : Value → Shared → Prop), i < n → Inv i ys W → P i v → oB.data = .cell (some v) → Fr h₀ L h m → News h₀ L h ((I, oI) :: (C, oC) :: (D, lst ys) :: (Bc, oB) :: W) →
          (∀ p ∈ (Bc, oB) :: W, p.1 ≠ I ∧ p.1 ≠ C ∧ p.1 ≠ D) → ((@Ne Nat I C) ∧ (@Ne Nat I D) ∧ (@Ne Nat C D)) → (∀ p ∈ W, p.1 ≠ Bc) →
          wpAny (model prog w) A (eval elt (compEnvC scope ((x, Bc) :: cl) C env)) (CompEnd h₀ L m { s₁ with heap := h, toks := tk } I oI C oC D (lst ys) S (fun y nw => ∃ W', nw = (Bc, oB) :: W' ∧ (∀ p ∈ W', p.1 ≠ Bc) ∧ Inv (i + 1) (ys ++ [y]) W')) E' { s₁ with heap := h, toks := tk }) ∧
        (∀ ys W, Inv n ys W → FinE h₀ L m s₁ Q ys W))) E s) :
    wpAny (model prog w) A (eval (.ListComp elt [⟨.Name x px, iter, [], 0⟩] scope pos) env) Q E s := comp_C F₀ hclos hcf hpc hkind hnames hx hs h
end
end Mine
end
section
open PySem PySem.W PyProof.Rows PySem.Calls PySem.W.X
set_option maxRecDepth 100000
set_option maxHeartbeats 1000000
set_option linter.unusedVariables false
namespace Mine
section
variable {p : Program} {loose : List PySem.Str} {mean : ExcName → Option Value} {mg mb : PySem.Str → Option Value} {w : World}
    {gd : Option (List Code)} {cn : PySem.Str} {cs : Scope} {a : Addr} {ccd : Value} {cl : List (PySem.Str × Addr)} {outer : List Env} {A₀ : Around} {base h₀ : Heap} {L : Addr} {m : PySem.Str → Option Value} {W K : Ledger} {s : Shared} {l : Addr} {vs : List Value} {ns : List Int} {n : Nat}
    {Q E : Value → Shared → Prop} {R : Result → Shared → Prop}
theorem unctrl_S' {c : Int} {t : Tok} (h0 : 0 ≤ c) (B : Below A₀ base outer h₀) (F : Fr h₀ L s.heap m) (X : (hd.heap_39 w.params).In h₀) (N : News h₀ L s.heap W) (T : Top p loose mean mg mb h₀) (hcs : cs.kind = .function) (hC : CodeHd base 54 50)
    (hq : ∀ tok h' tk, Fr h₀ L h' m → News h₀ L h' W → Q (.str (textOf c) tok) { s with heap := h', toks := tk }) :
    wpAny (model P0 w) (ktrTop 500 1000 gd cn cs L a ccd cl outer) (call (.ref 83) [.str ⟨#[c.toNat]⟩ t]) Q E s := by
  have e : ((c.toNat : Nat) : Int) = c := by omega
  refine unctrl_S B F X N T hcs hC ?_
  rw [e]
  exact hq
open LCg in
theorem comp_VH {prog : Program} {A : Around} {env : Env} {elt iter : Expr} {x : PySem.Str} {px : Pos} {scope : Scope} {cl : List (PySem.Str × Addr)} {pos : Pos} (F₀ : Fr h₀ L s.heap m)
    (hclos : closureFor scope env = pure cl) (hcell : ∀ y ∈ scope.names, y.2 ≠ .cell) (hkind : scope.kind = .function)
    (hnames : ∀ y ∈ scope.names, y.2 = .local → scope.names.lookup y.1 = some .local) (hx : scope.names.lookup x = some .local)
    (hs : ∀ x, foldedSetIterable iter env x = pure x)
    (h : wpAny (model prog w) A (eval iter env) (fun xv s₁ => Held (∃ n P S W, Src prog w A h₀ L W xv n P S s₁ ∧ Fr h₀ L s₁.heap m ∧ News h₀ L s₁.heap W ∧ n ≤ sizeLine ∧
      ∀ g, CompRest prog w A h₀ L m env elt x scope cl { s₁ with heap := g } S P (FinE h₀ L m { s₁ with heap := g } Q) n 0 [] W)) E s) :
    wpAny (model prog w) A (eval (.ListComp elt [⟨.Name x px, iter, [], 0⟩] scope pos) env) Q E s := comp_V F₀ hclos hcell hkind hnames hx hs h
theorem all_ap2 {W : Ledger} {x : Addr} (h : ∀ p ∈ W, Apart p.1 x) : ∀ p ∈ W, p.1 ≠ x := h
theorem all_lt2 {W : Ledger} {x y : Nat} (h : ∀ p ∈ W, @LT.lt Nat _ p.1 x) (e : x ≤ y) : ∀ p ∈ W, @Ne Nat p.1 y := fun p hp => Nat.ne_of_lt (Nat.lt_of_lt_of_le (h p hp) e)
local macro_rules | `(tactic| k_all) => `(tactic| first | assumption | exact Mine.all_ap2 (by assumption) | exact Mine.all_lt2 (by assumption) (by omega))
local macro_rules | `(tactic| k_mem) => `(tactic| ((repeat (first | assumption | refine List.Mem.tail _ ?_)); done))
local macro_rules | `(tactic| k_ne) => `(tactic| first | exact Apart.ne (by assumption) | exact Apart.en (by assumption))
local macro_rules | `(tactic| walk_at "call ref") => `(tactic| (k_here; (with_reducible show wpAny _ _ (call (Value.ref 95) [Value.int _ _]) _ _ _); k_dflt (refine wpAny_le (Mine.code_K (by assumption) (by k_asm) (by k_asm) (by k_asm) (by k_asm) rfl (by assumption) ?_) (Nat.le_of_ble_eq_true rfl) (Nat.le_of_ble_eq_true rfl)); intro tok' h' tk' F' N'))
local macro_rules | `(tactic| walk_at "call ref") => `(tactic| (k_here; (with_reducible show wpAny _ _ (call (Value.ref 83) [Value.int _ _]) _ _ _); k_dflt (refine wpAny_le (Mine.unctrl_K (by assumption) (by k_asm) (by k_asm) (by k_asm) (by k_asm) rfl (by assumption) ?_) (Nat.le_of_ble_eq_true rfl) (Nat.le_of_ble_eq_true rfl)); intro tok' h' tk' F' N'))
local macro_rules | `(tactic| walk_at "call ref") => `(tactic| (k_here; (with_reducible show wpAny _ _ (call (Value.ref 83) [Value.str _ _]) _ _ _); k_dflt (refine wpAny_le (Mine.unctrl_S' (Mine.chr_ok (by assumption) (by assumption) (by assumption)).1 (by assumption) (by k_asm) (by k_asm) (by k_asm) (by k_asm) rfl (by assumption) ?_) (Nat.le_of_ble_eq_true rfl) (Nat.le_of_ble_eq_true rfl)); intro tok' h' tk' F' N'))
local macro_rules | `(tactic| walk_at "call ref") => `(tactic| (k_here; (with_reducible show wpAny _ _ (call (Value.ref 109) [Value.ref _]) _ _ _); k_dflt (refine wpAny_le (Mine.node_V (by assumption) (by k_asm) (by k_asm) (by k_asm) (by k_asm) rfl (by assumption) (by k_mem) (by k_mem) (by k_mem) ?_) (Nat.le_of_ble_eq_true rfl) (Nat.le_of_ble_eq_true rfl)); intro x' dx' h' tk' W' F' N' V' kp' ox' od'))
local macro_rules | `(tactic| walk_at "call ref") => `(tactic| (k_here; (with_reducible show wpAny _ _ (call (Value.ref 55) _) _ _ _); k_dflt (refine wpAny_le (Mine.freeze_V (by assumption) (by k_asm) (by k_asm) (by k_asm) (by k_asm) rfl (by assumption) (by assumption) (by assumption) ?_) (Nat.le_of_ble_eq_true rfl) (Nat.le_of_ble_eq_true rfl)); intro h' tk' W' F' N' V' kp'))
local macro_rules | `(tactic| walk_at "call ref") => `(tactic| (k_here; (with_reducible show wpAny _ _ (call (Value.ref 114) [Value.ref _, Value.ref _]) _ _ _); k_dflt (refine wpAny_le (Mine.number_V (by assumption) (by k_asm) (by k_asm) (by k_asm) (by k_asm) rfl (by assumption) (by assumption) (by assumption) ?_) (Nat.le_of_ble_eq_true rfl) (Nat.le_of_ble_eq_true rfl)); intro D' h' tk' tok' F' N' o'))
local macro_rules | `(tactic| walk_at "call builtin:chr") => `(tactic| (k_here; (with_reducible show wpAny _ _ (call (Value.builtin "chr") [Value.int (Mine.codeZ _) _]) _ _ _); k_dflt (refine chr_of_range (Mine.chr_ok (by assumption) (by assumption) (by assumption)).1 (Mine.chr_ok (by assumption) (by assumption) (by assumption)).2 ?_)))
local macro_rules | `(tactic| walk_at "getMethod ref") => `(tactic| (k_here; (with_reducible show wpAny _ _ (getMethod (Value.ref _) (PySem.Str.ofString "freeze") _) _ _ _); k_dflt (refine Mine.meth_V (by k_asm) (by k_asm) (by k_asm) (by assumption) (by assumption) ?_)))
local macro_rules | `(tactic| walk_at "subscriptTail") => `(tactic| (k_here; (with_reducible show wpAny _ _ (subscriptTail _ _ (Value.ref _) (Value.int 0 _)) _ _ _); k_dflt (refine item_0 (i := 0) (by k_asm) (by k_mem) (by decide) (by assumption) (by with_unfolding_all rfl) (by intro _; with_unfolding_all rfl) ?_)))
local macro_rules | `(tactic| walk_at "subscriptTail") => `(tactic| (k_here; (with_reducible show wpAny _ _ (subscriptTail _ _ (Value.ref _) (Value.str _ _)) _ _ _); k_dflt (refine wpAny_le (Mine.sub_V (by assumption) (by k_asm) (by k_asm) (by k_asm) (by k_asm) rfl (by assumption) (by assumption) (by assumption) (by assumption) (by assumption) (by assumption) (by with_unfolding_all rfl) ?_) (Nat.le_of_ble_eq_true rfl) (Nat.le_of_ble_eq_true rfl)); intro y' h' tk' W' xs' dxs' F' N' V' hy' kp'))
local macro_rules | `(tactic| walk_at "eval ListComp") => `(tactic| (k_here; k_dflt (refine comp_VH (F₀ := by k_asm) (by with_unfolding_all rfl) (by decide) (by rfl) (by decide) (by rfl) (by intro _; with_unfolding_all rfl) ?_)))
local macro_rules | `(tactic| walk_at "subscriptTail") => `(tactic| (k_here; (with_reducible show wpAny _ _ (subscriptTail _ _ (Value.ref _) (Value.str _ _)) _ _ _); k_dflt (refine Mine.sub_F (by k_asm) (by k_asm) (by k_asm) (by assumption) (by assumption) (by assumption) (by assumption) (by with_unfolding_all rfl) ?_)))
local macro_rules | `(tactic| walk_at "eval ListComp") => `(tactic| (k_here; k_dflt (refine comp_CH (F₀ := by k_asm) (by with_unfolding_all rfl) (by intros; rfl) (by intros; rfl) (by rfl) (by decide) (by rfl) (by intro _; with_unfolding_all rfl) ?_)))
local macro_rules | `(tactic| walk_at "call builtin:list.append") => `(tactic| (k_here; (with_reducible show wpAny _ _ (call (Value.builtin _) [Value.ref _, _]) _ _ _); k_dflt (refine append_W (by k_asm) (by k_asm) (by k_mem) (by assumption) ?_); intro h' F' N'))
local macro_rules | `(tactic| walk_at "exec For Name Name cons nil") => `(tactic| (k_here; (rename Fr _ _ _ _ => lF'); (with_unfolding_all refine' For_invVF lF' ?k1 ?k2 ?_; (case k1 => exact rfl); (case k2 => exact rfl); k_whole)))
local macro_rules | `(tactic| walk_at "pyIter ref") => `(tactic| refine Mine.Held.of ?_)
theorem walked_K (B : Below A₀ base outer h₀) (F : Fr h₀ L s.heap m) (X : (hd.heap_39 w.params).In h₀) (N : News h₀ L s.heap W) (T : Top p loose mean mg mb h₀) (hcs : cs.kind = .function) (hC : CodeHd base 54 50) (hC2 : CodeHd base 108 104)
    (hM : ∃ o, base.get? sysModules = some o) (hm : (l, listOf vs.toArray n) ∈ K) (hK : ∀ p ∈ K, p ∈ W ∧ p.1 ≠ 50 ∧ p.1 ≠ 104) (h5 : (50, tabObj #[]) ∈ W) (h104 : (104, tabObj #[]) ∈ W) (hi : IntsAre vs ns) (hl : ns.length ≤ 18)
    (hq : ∀ v h' tk R, Fr h₀ L h' m → News h₀ L h' (R ++ K) → DatIn R v (answer ns) → (∃ ps, (50, tabObj ps) ∈ R) → (∃ ps, (104, tabObj ps) ∈ R) → Q v { s with heap := h', toks := tk }) :
    wpAny (model P0 w) (ktrTop 400 500 gd cn cs L a ccd cl outer) (call (.ref 119) [.ref l]) Q E s := by
  refine wpAny_call ?_
  k_dflt (refine' code_defC (binds := [(PySem.Str.ofString "cells", Value.ref l)]) ?k1 ?k2 ?k3 ?k4 ?k5 ?kA ?kF ?kK ?k6 ?k7 ?k8 ?k9 ?kB ?kD ?_ ?c2 ?c3 ?c4; (case kA => exact rfl); (case kF => exact rfl); (case kK => assumption); (case k1 => k_asm); (case k2 => k_asm); (case k3 => k_asm); (case k4 => k_asm); (case k5 => k_asm); (case k6 => k_is); (case k7 => k_is); (case k8 => k_room); (case k9 => exact BindsTo.of_eq rfl); (case kB => exact rfl); (case kD => decide +kernel); (case c2 => exact rfl); (case c3 => exact rfl); (case c4 => exact rfl); k_whole; intro g' L' h' tk' cells' FG' F' N' Y' B' X' T' l1; (try k_lt l1); k_cells Y'; (try simp only [List.cons_append, List.nil_append] at N'); (try dsimp only); (try k_lift B'); (try k_fold))
  w_top off
  k_steps
  rename_i oM dM made hA a0 hB oM' dM' tkA x0 dx0 hC' tkB W1 V1 kp1 ox1 od1 hD td hE a1 hF F1 N1
  have big : ∀ {x : Addr} {P : Addr}, @LT.lt Nat _ P x → Apart x P := fun h => Ne.symm (Nat.ne_of_lt h)
  have lit : ∀ {x : Addr} {P : Addr}, @LT.lt Nat _ x P → Apart x P := fun h => Nat.ne_of_lt h
  have gW := allLt_mem a0.2
  have mCm : (L' + 1, oM') ∈ W1 := kp1 _ (.tail _ (.head _)) (Nat.ne_of_lt a0.1) (big (Nat.lt_succ_of_lt (l1 _ h104)))
  have mK : ∀ p ∈ K, p ∈ W1 := fun p hp => kp1 p (.tail _ (.tail _ (hK p hp).1)) (Nat.ne_of_lt (gW p (hK p hp).1)) (hK p hp).2.2
  refine loop_W2 (vs := vs.toArray) (k0 := n) (InvW w mg K made (L' + 1) td l ns oM') rfl F1 N1 ?hin ?h0 ?turn ?done
  case hin =>
    rintro i m' W' ⟨xs, dxs, told, nd, R, u1, x, D, _, _⟩
    exact D.rw _ (D.kr _ hm)
  case h0 =>
    refine ⟨[x0], [dx0], [], 0, K, none, x0, ⟨V1.more fun p hp => .tail _ hp, good_start, dM', .tail _ mCm, .head _, ?_, V1.safe fun p hp => lit (a1 p hp), lit (a1 _ mCm), fun p hp => hp, fun p hp => .tail _ (mK p hp), fun p hp => ?_, fun p hp => lit (a1 _ (mK p hp)), .nil⟩, rfl, mW_start⟩
    · refine ⟨Nat.ne_of_lt a0.1, big (Nat.lt_succ_of_lt (l1 _ h104)), big (Nat.lt_succ_of_lt (l1 _ h5)), fun e => ?_, fun e => ?_⟩
      · exact ox1 _ (.tail _ (.head _)) (List.mem_singleton.mp e)
      · exact od1 _ (.tail _ (.head _)) (List.mem_singleton.mp e)
    · refine ⟨Nat.ne_of_lt (gW p (hK p hp).1), (hK p hp).2.2, (hK p hp).2.1, fun e => ?_, fun e => ?_⟩
      · exact ox1 _ (.tail _ (.tail _ (hK p hp).1)) (List.mem_singleton.mp e)
      · exact od1 _ (.tail _ (.tail _ (hK p hp).1)) (List.mem_singleton.mp e)
  case done =>
    intro m₁ W₁ h₁ tk₁ hinv F₂ N₂
    obtain ⟨xs, dxs, told, nd, R, u1, x, D, hx, rfl⟩ := hinv
    have hsz : vs.toArray.size = ns.length := by have := hi.length; simpa using this
    rw [hsz, List.take_length] at D hx
    generalize hst : (run start ns).1 = st at *
    generalize hds : (run start ns).2 = ds0 at *
    obtain ⟨t, at_⟩ := st
    have hlen := run_len ns start
    rw [hst] at hlen
    have hs1 : start.1.length = 1 := rfl
    have hlen20 : t.length ≤ 20 := by dsimp only at hlen; omega
    have mcm := D.mcm
    have mtd := D.mtd
    have cm := D.cm
    have V := D.wi
    have tx := D.good.tx
    dsimp only at V tx
    have hxl : xs.length ≤ 1000 := by have := V.len; omega
    unfold mW at F₂
    k_steps
    obtain ⟨nl, ml⟩ := V.lst
    refine ⟨_, _, _, _, src_list rfl F₂ N₂ ml, F₂, N₂, by rw [Mine.refs_size, PySem.sizeLine_eq]; omega, fun b W h => .tail _ h,
      fun i ys W' => (∀ p ∈ W₁, p ∈ W') ∧ ∃ E, (∀ p ∈ E, p ∈ W') ∧ DatAll E ys ((List.range i).map fun one => Dat.list ((under t one).map fun k => Dat.tuple [.str (textAt t k), .list [.int k]])), ⟨fun p hp => hp, [], (fun p hp => by cases hp), .nil⟩, ?_, ?_⟩
    · intro i v ys W' I2 oI2 C oC Dd Bc oB h₂ tk₂ E' hi9 hinv hv hB F₃ N₃ off ne offB
      obtain ⟨hW, E9, hE, hys⟩ := hinv
      rw [Mine.refs_size] at hi9
      obtain ⟨xi, hxi⟩ := get_ex hi9
      obtain rfl : v = .ref xi := by
        have h9 : (xs.map Value.ref).toArray[i]? = some (.ref xi) := by simp [hxi]
        exact Option.some.inj (hv.symm.trans h9)
      have mcm' : (L' + 1, oM') ∈ W' := hW _ mcm
      have V' : WI w mg W' made xs dxs t := V.more hW
      k_steps
      obtain ⟨dxi, hdxi, na⟩ := V'.node hxi
      obtain ⟨es, nx, In, En, _, _⟩ := id na
      obtain ⟨des, dn, md, _⟩ := na.dd
      obtain ⟨lam, mx⟩ := In.obj
      have hes : es.size = (under t i).length := En.1
      have hul := under_len t i
      obtain ⟨oS, hoS⟩ := hM
      have hmx : (xi, nodeObj dxi es nx lam) ∈ (I2, oI2) :: (C, oC) :: (Dd, LCg.lst ys) :: (Bc, oB) :: W' := .tail _ (.tail _ (.tail _ (.tail _ mx)))
      have hmd : (dxi, dictOf des dn) ∈ (I2, oI2) :: (C, oC) :: (Dd, LCg.lst ys) :: (Bc, oB) :: W' := .tail _ (.tail _ (.tail _ (.tail _ md)))
      refine ⟨_, _, _, _, src_node rfl X' F₃ N₃ ⟨oS, B'.stays _ _ hoS⟩ hmx hmd, F₃, N₃, by rw [PySem.sizeLine_eq]; omega, fun g => ?_⟩
      refine rest_inv (fun j ys2 W2 => (∀ p ∈ (I2, oI2) :: (C, oC) :: (Dd, LCg.lst ys) :: (Bc, oB) :: W', p ∈ W2) ∧ ∃ E2, (∀ p ∈ E2, p ∈ W2 ∧ p.1 ∉ [I2, C, Dd, Bc]) ∧ DatAll E2 ys2 (((under t i).take j).map fun k => Dat.tuple [.str (textAt t k), .list [.int k]])) ⟨fun p hp => hp, [], (fun p hp => by cases hp), .nil⟩ ?_ ?_
      · intro j v ys2 W2 I3 oI3 C3 oC3 D3 m₃ h₃ tk₃ E3 hj hinv3 hv3 hC3 hx3 F₄ N₄ off3 ne3
        obtain ⟨hW2, E2, hE2, hys2⟩ := hinv3
        obtain ⟨e, he, rfl⟩ := hv3
        have hju : j < (under t i).length := by rw [← hes]; exact hj
        have hk : (under t i)[j]? = some (under t i)[j] := List.getElem?_eq_getElem hju
        generalize hkk : (under t i)[j] = k at hk
        obtain ⟨tok, y, ek, hy, ev⟩ := En.2 j e k he hk
        have hkm : k ∈ under t i := List.mem_of_getElem? hk
        obtain ⟨rk, hkn⟩ := known_self tx hkm
        rw [ek] at hx3
        have mcm2 : (L' + 1, oM') ∈ W2 := hW2 _ (.tail _ (.tail _ (.tail _ (.tail _ mcm'))))
        have mB2 : (Bc, oB) ∈ W2 := hW2 _ (.tail _ (.tail _ (.tail _ (.head _))))
        have V2 : WI w mg ((I3, oI3) :: (C3, oC3) :: (D3, LCg.lst ys2) :: W2) made xs dxs t := V'.more fun p hp => .tail _ (.tail _ (.tail _ (hW2 _ (.tail _ (.tail _ (.tail _ (.tail _ hp)))))))
        k_steps
        rename_i lk hX tkX tokX oX Dt hY Fz Nz lz
        refine end_pairW Fz Nz oX lz off3 (fun W' h => h _ (hW2 _ (.tail _ (.tail _ (.tail _ (.tail _ mx)))))) hW2 (fun b hb => ?_) hE2 hys2 ?_
        · rcases List.mem_cons.mp hb with rfl | hb
          · exact ⟨_, hW2 _ (.head _)⟩
          rcases List.mem_cons.mp hb with rfl | hb
          · exact ⟨_, hW2 _ (.tail _ (.head _))⟩
          rcases List.mem_cons.mp hb with rfl | hb
          · exact ⟨_, hW2 _ (.tail _ (.tail _ (.head _)))⟩
          · rw [List.mem_singleton.mp hb]; exact ⟨_, mB2⟩
        · rw [List.take_add_one, hk, List.map_append]
          rfl
      · intro ys2 W2 hinv3
        obtain ⟨hW2, E2, hE2, hys2⟩ := hinv3
        rw [hes, List.take_length] at hys2
        unfold LCg.FinE
        intro D6 h6 tk6 F6 N6 off6
        have okD := off1_mem off6
        k_steps
        refine end_turn (W' := (Bc, oB) :: (D6, LCg.lst ys2) :: (E2 ++ W')) F6 (N6.perm fun p hp => ?_) (fun p hp => ?_) (.tail _ (.tail _ (List.mem_append_right _ (hW _ ml)))) ⟨_, rfl, fun p hp => ?_, fun p hp => .tail _ (List.mem_append_right _ (hW p hp)), (D6, LCg.lst ys2) :: (E2 ++ E9), fun p hp => ?_, ?_⟩
        · rcases List.mem_cons.mp hp with rfl | hp
          · exact .tail _ (hW2 _ (.head _))
          rcases List.mem_cons.mp hp with rfl | hp
          · exact .tail _ (hW2 _ (.tail _ (.head _)))
          rcases List.mem_cons.mp hp with rfl | hp
          · exact .tail _ (hW2 _ (.tail _ (.tail _ (.head _))))
          rcases List.mem_cons.mp hp with rfl | hp
          · exact .tail _ (hW2 _ (.tail _ (.tail _ (.tail _ (.head _)))))
          rcases List.mem_cons.mp hp with rfl | hp
          · exact .head _
          rcases List.mem_append.mp hp with hp | hp
          · exact .tail _ (hE2 p hp).1
          · exact .tail _ (hW2 _ (.tail _ (.tail _ (.tail _ (.tail _ hp)))))
        · rcases List.mem_cons.mp hp with rfl | hp
          · exact off _ (.head _)
          rcases List.mem_cons.mp hp with rfl | hp
          · exact ⟨(okD _ (hW2 _ (.head _))).en, (okD _ (hW2 _ (.tail _ (.head _)))).en, (okD _ (hW2 _ (.tail _ (.tail _ (.head _))))).en⟩
          rcases List.mem_append.mp hp with hp | hp
          · have h9 := (hE2 p hp).2
            simp only [List.mem_cons, not_or] at h9
            exact ⟨h9.1, h9.2.1, h9.2.2.1⟩
          · exact off p (.tail _ hp)
        · rcases List.mem_cons.mp hp with rfl | hp
          · exact (okD _ (hW2 _ (.tail _ (.tail _ (.tail _ (.head _)))))).en
          rcases List.mem_append.mp hp with hp | hp
          · have h9 := (hE2 p hp).2
            simp only [List.mem_cons, not_or] at h9
            exact h9.2.2.2.1
          · exact offB p hp
        · rcases List.mem_cons.mp hp with rfl | hp
          · exact .head _
          rcases List.mem_append.mp hp with hp | hp
          · exact .tail _ (List.mem_append_left _ hp)
          · exact .tail _ (List.mem_append_right _ (hE p hp))
        · rw [List.range_succ, List.map_append]
          exact DatAll.append (DatAll.mono (fun p hp => .tail _ (List.mem_append_right _ hp)) hys) (.one (.list (n := ys2.length) (.head _) (DatAll.mono (fun p hp => .tail _ (List.mem_append_left _ hp)) hys2)))
    · intro ys W' hinv
      obtain ⟨hW, E9, hE, hys⟩ := hinv
      unfold LCg.FinE
      intro D8 h8 tk8 F8 N8 off8
      k_steps
      rename_i Dt hX Fz Nz lz kF kN _ _
      rw [Mine.refs_size, show xs.length = t.length from V.len] at hys
      obtain ⟨tab5, m50, _⟩ := V.t50
      obtain ⟨c', oc, m104, _⟩ := V.t104
      refine hq _ _ _ ((50, tabObj tab5) :: (104, tabObj (tab1 51 37 c')) :: (Dt, ({ cls := .type "tuple", data := .seq #[Value.ref td, Value.ref D8] 0 } : Obj)) :: (D8, LCg.lst ys) :: (td, listOf told.toArray nd) :: (R ++ E9)) kF (kN.perm fun p hp => ?_) (DatIn.mono (fun p hp => .tail _ (.tail _ hp)) ?_) ⟨_, .head _⟩ ⟨_, .tail _ (.head _)⟩
      · rcases List.mem_append.mp hp with hp | hp
        · rcases List.mem_cons.mp hp with rfl | hp
          · exact .tail _ (.tail _ (hW _ m50))
          rcases List.mem_cons.mp hp with rfl | hp
          · exact .tail _ (.tail _ (hW _ m104))
          rcases List.mem_cons.mp hp with rfl | hp
          · exact .head _
          rcases List.mem_cons.mp hp with rfl | hp
          · exact .tail _ (.head _)
          rcases List.mem_cons.mp hp with rfl | hp
          · exact .tail _ (.tail _ (hW _ mtd))
          rcases List.mem_append.mp hp with hp | hp
          · exact .tail _ (.tail _ (hW _ (D.rw p hp)))
          · exact .tail _ (.tail _ (hE p hp))
        · exact .tail _ (.tail _ (hW _ (D.rw p (D.kr p hp))))
      · unfold answer
        dsimp only
        rw [hst, hds]
        exact .tuple (vs := [.ref td, .ref D8]) (.head _) (.cons (.list (.tail _ (.tail _ (.head _))) (DatAll.mono (fun p hp => .tail _ (.tail _ (.tail _ (List.mem_append_left _ hp)))) D.dat)) (.cons (.list (n := ys.length) (.tail _ (.head _)) (DatAll.mono (fun p hp => .tail _ (.tail _ (.tail _ (List.mem_append_right _ hp)))) hys)) .nil))
  case turn =>
    intro i v m₁ W₁ I oI h₁ tk₁ hv hinv F₂ N₂ offI itI
    obtain ⟨xs, dxs, told, nd, R, u1, x, D, hx, rfl⟩ := hinv
    obtain ⟨c, tc, rfl, hc⟩ : ∃ c tc, v = .int c tc ∧ ns[i]? = some c := by
      obtain ⟨k, t, e, hk⟩ := IntsAre.at hi i v (by simpa using hv)
      exact ⟨k, t, e, hk⟩
    have hi18 : i < ns.length := by
      rcases Nat.lt_or_ge i ns.length with h9 | h9
      · exact h9
      · rw [List.getElem?_eq_none h9] at hc; cases hc
    have hlen := run_len (ns.take i) start
    have htl : told.toArray.size ≤ 1000 := by
      have h1 := D.dat.length
      rw [run_dlen, List.length_take] at h1
      simp; omega
    have er0 : run start (ns.take (i + 1)) = (turn (run start (ns.take i)).1 c, (run start (ns.take i)).2 ++ [toldOf (turn (run start (ns.take i)).1 c)]) := by
      rw [List.take_add_one, hc]; exact run_snoc _ _ _
    rw [List.length_take] at hlen
    have hs1 : start.1.length = 1 := rfl
    generalize hst : (run start (ns.take i)).1 = st at *
    generalize hds : (run start (ns.take i)).2 = ds0 at *
    obtain ⟨t, at_⟩ := st
    have hlen : t.length ≤ 19 := by dsimp only at hlen; omega
    refine wpAny_execs_cons (wpAny_mono (show wpAny _ _ (exec _ _) (MidW w mg g' L' ((I, oI) :: W₁) made td l xs dxs (turn (t, at_) c) { s with heap := h₁, toks := tk₁ }) _ _ from ?ifs) (fun f s' hmid => ?_) fun _ _ e => e)
    case ifs =>
      have V := D.wi.more (W' := (I, oI) :: W₁) fun p hp => .tail _ hp
      have ug := D.good.up
      have mcm := D.mcm
      have mtd := D.mtd
      have hxl : xs.length ≤ 1000 := by have := V.len; dsimp only at this; omega
      obtain ⟨nl, ml⟩ := V.lst
      obtain ⟨y0, hy0⟩ : ∃ y, xs[0]? = some y := get_ex (by have := get_lt hx; omega)
      have hy0' : (xs.map Value.ref).toArray.toList[0]? = some (.ref y0) := by simpa using hy0
      dsimp only at V ug hx
      unfold mW at F₂
      k_steps
      · rename_i hcA hA' FA NA
        have ht : turn (t, at_) c = (t, 0) := by unfold turn; rw [if_pos hcA]
        rw [ht]
        exact ⟨rfl, _, _, _, xs, dxs, _, y0, rfl, fr_eq FA mW_node, NA, V, hy0, fun p hp hS => ⟨hp, hS⟩⟩
      · rename_i hcA tkA' hcB hB' tkB' W2 FB NB VB kpB
        have ht : turn (t, at_) c = (chill t at_, at_) := by unfold turn; rw [if_neg hcA, if_pos hcB]
        rw [ht]
        exact ⟨rfl, _, _, W2, xs, dxs, _, x, rfl, fr_eq FB mW_cell, NB, VB, hx, fun p hp hS => ⟨kpB p hp hS, hS⟩⟩
      · rename_i hcA tkA' hcB tkB' hcC tkC' tok1 hA1 tkA1 tok2 hA2 tkA2 y2 hA3 tkA3 W2 xs2 dxs2 V2 hy2 kp2 hA4 FC NC
        have ht : turn (t, at_) c = step t at_ (textOf (codeZ c)) := by unfold turn step; rw [if_neg hcA, if_neg hcB]; try (dsimp only; cases known t at_ (textOf (codeZ c)) <;> rfl)
        rw [ht]
        exact ⟨rfl, _, _, W2, xs2, dxs2, _, y2, rfl, fr_eq FC mW_node, NC, V2, hy2, kp2⟩
      · rename_i hcA tkA' hcB tkB' hcC tkC' tok1 hA1 tkA1 tok2 hA2 tkA2 y2 hA3 tkA3 W2 xs2 dxs2 V2 hy2 kp2 hA4 FC NC
        have ht : turn (t, at_) c = step t at_ (textOf (codeZ c)) := by unfold turn step; rw [if_neg hcA, if_neg hcB]; try (dsimp only; cases known t at_ (textOf (codeZ c)) <;> rfl)
        rw [ht]
        exact ⟨rfl, _, _, W2, xs2, dxs2, _, y2, rfl, fr_eq FC mW_node, NC, V2, hy2, kp2⟩
    · obtain ⟨rfl, h2, tk2, W2, xs2, dxs2, v1, x2, rfl, F3, N3, V2, hx2, kp2⟩ := hmid
      have hlen2 : (turn (t, at_) c).1.length ≤ 20 := Nat.le_trans (turn_len (t, at_) c) (by dsimp only; omega)
      have g2 := good_turn D.good c
      generalize hst2 : turn (t, at_) c = st2 at *
      obtain ⟨t2, at2⟩ := st2
      dsimp only at V2 hx2 hlen2 F3
      have hxl : xs2.length ≤ 1000 := by have := V2.len; omega
      have mcm : (L' + 1, oM') ∈ W2 := (kp2 _ (.tail _ D.mcm) D.scm).1
      have mtd : (td, listOf told.toArray nd) ∈ W2 := (kp2 _ (.tail _ D.mtd) D.std).1
      have cm := D.cm
      unfold mW at F3
      k_steps
      rename_i D4 hD4 tkD4 tokD F4 N4 o4
      refine keys_V rfl B' X' F4 N4 hM (V2.more fun p hp => .tail _ hp) hxl hx2 rfl rfl rfl ?_
      intro D3 h5 tk5 ys F5 N5 o5 hys
      k_steps
      rename_i D9 hB9 F8 N8 l9 hC9 F9 N9
      exact step_toldW F9 N8 N9 l9 o4 o5 offI itI D V2 g2 hx2 kp2 hys er0
end
end Mine
end
section
open PySem PySem.W PyProof.Rows PySem.Calls PySem.W.X
set_option maxRecDepth 100000
set_option maxHeartbeats 1000000
set_option linter.unusedVariables false
namespace Mine
section
variable {prog : Program} {w : World} {A : Around} {E : Value → Shared → Prop} {s : Shared} {h₀ : Heap} {env : Env} {r : Addr} {a₀ b₀ : Int} {t₀ u₀ v₀ : Tok} {n : Nat} {m₀ : PySem.Str → Option Value} {W : Ledger} {x : PySem.Str} {body : List Stmt} {Q : Flow → Shared → Prop}
/-- a loop over a range -/
theorem loop_R (Inv : Nat → (PySem.Str → Option Value) → Ledger → Prop) (hh : A.handled = none) (hr : IsRange s.heap r a₀ b₀ 1 t₀ u₀ v₀) (hsmall : Builtin.Range.small a₀ b₀ 1 = true) (hn : Builtin.Range.rangeSize a₀ b₀ 1 = (n : Int))
    (F : Fr h₀ env.locals s.heap m₀) (N : News h₀ env.locals s.heap W) (h0 : Inv 0 m₀ W)
    (turn : ∀ i t m₁ W₁ I oI h tk, i < n → Inv i m₁ W₁ → Fr h₀ env.locals h (fun y => if y = x then some (.int (a₀ + (i : Nat) * 1) t) else m₁ y) → News h₀ env.locals h ((I, oI) :: W₁) → (∀ p ∈ W₁, Apart p.1 I) →
      wpAny (model prog w) A (execs body env) (StepW h₀ env.locals I oI (Inv (i + 1)) { s with heap := h, toks := tk }) E { s with heap := h, toks := tk })
    (done : ∀ m₁ W₁ h tk, Inv n m₁ W₁ → Fr h₀ env.locals h m₁ → News h₀ env.locals h W₁ → Q .next { s with heap := h, toks := tk }) :
    wpAny (model prog w) A (pyIter (.ref r)) (fun it s₂ => LoopAtV prog w A h₀ env x body Q E it s₂) E s := by
  refine wpAny_pyIter_range hr hsmall ?_
  refine ⟨_, _, _, _, _, _, m₀, W, Inv, rfl, Walks.range hh s.heap.objs.size a₀ 1 n, ?_, ?_, ?_, (by show IsRangeIter _ _ _ _ _; rw [hn]; simpa using Heap.get?_push_size _ rfl), F.push _, (fun p hp => ⟨Heap.get?_push_of_some _ (N p hp).1, (N p hp).2⟩), h0, ?_, ?_⟩
  · intro hm'
    exact absurd F.ns.lt ((List.mem_singleton.mp hm') ▸ Nat.lt_irrefl _)
  · intro b hb
    rw [List.mem_singleton.mp hb]
    exact next_is_new F
  · intro p hp hI
    exact absurd (Heap.lt_size (N p hp).1) ((List.mem_singleton.mp hI) ▸ Nat.lt_irrefl _)
  · rintro i v m₁ W₁ s₁ own ⟨hh', tk', rfl⟩ hi hP hJ hoff hown hget hall hst F₁ N₁
    obtain ⟨t, rfl⟩ := hP
    obtain ⟨oI, heI⟩ : ∃ o, hh'.get? s.heap.objs.size = some o := ⟨_, hst⟩
    have hIown := hall _ (.head _) (next_is_new F) _ heI
    refine wpAny_mono (turn i t m₁ W₁ s.heap.objs.size oI hh' tk' hi hJ F₁ (fun p hp => ?_) (fun p hp e => hoff p hp (List.mem_singleton.mpr e))) (fun f s₂ p => ?_) fun _ _ e => e
    · rcases List.mem_cons.mp hp with rfl | hp
      · exact N₁ _ (List.mem_append_left _ hIown)
      · exact N₁ _ (List.mem_append_right _ hp)
    · obtain ⟨rfl, h', tk, m', W', rfl, F', N', off', hj⟩ := p
      refine .next ⟨rfl, h', tk, m', W', rfl, F', fun q hq => ?_, fun q hq hI => off' q hq (List.mem_singleton.mp hI), hj⟩
      rcases List.mem_append.mp hq with hq | hq
      · have e := List.mem_singleton.mp (hown q hq)
        have e2 := hget q hq
        have e3 : q = (s.heap.objs.size, oI) := by
          have : some q.2 = some oI := by rw [← e2, e]; exact heI
          exact Prod.ext e (Option.some.inj this)
        rw [e3]; exact N' _ (.head _)
      · exact N' _ (.tail _ hq)
  · intro h' tk m' W' F' N' _ hJ
    exact done m' W' h' tk hJ F' N'
end
theorem small_step {a n : Nat} (h : a ≤ 18) (hn : n ≤ 63) : Builtin.Range.small (a : Int) (n : Int) 18 = true ∧ ∃ m : Nat, Builtin.Range.rangeSize (a : Int) (n : Int) 18 = (m : Int) ∧ m ≤ 63 ∧ ∀ j < m, a + j * 18 < n := by
  have e : ∃ m : Nat, Builtin.Range.rangeSize (a : Int) (n : Int) 18 = (m : Int) ∧ m ≤ 63 ∧ ∀ j < m, a + j * 18 < n := by
    unfold Builtin.Range.rangeSize
    rw [if_pos (by decide)]
    by_cases h1 : (a : Int) < n
    · rw [if_pos h1]
      exact ⟨(((n : Int) - a - 1) / 18 + 1).toNat, by omega, by omega, fun j hj => by omega⟩
    · rw [if_neg h1]
      exact ⟨0, rfl, by omega, fun j hj => by omega⟩
  refine ⟨?_, e⟩
  obtain ⟨m, e1, e2, e3⟩ := e
  unfold Builtin.Range.small
  rw [e1]
  unfold Builtin.Range.rangeFitsLong
  simp
  omega
def mC (cl gv : Addr) (u1 : Option Value) : PySem.Str → Option Value := fun y =>
  if y = Str.ofString "place" then u1 else if y = Str.ofString "cells" then some (.ref cl) else if y = Str.ofString "given" then some (.ref gv) else none
theorem mC_place {cl gv : Addr} {u1 v : Option Value} : (fun y => if y = Str.ofString "place" then v else mC cl gv u1 y) = mC cl gv v := by
  funext y
  unfold mC
  by_cases h2 : y = Str.ofString "place"
  · subst h2; simp
  · simp [h2]
theorem mC_start {cl gv : Addr} : (fun y => if y = Str.ofString "cells" then some (Value.ref cl) else if y = Str.ofString "given" then some (Value.ref gv) else none) = mC cl gv none := by
  funext y
  unfold mC
  by_cases h1 : y = Str.ofString "cells"
  · subst h1; simp +decide
  · by_cases h2 : y = Str.ofString "given"
    · subst h2; simp +decide
    · simp [h1, h2]
structure DC (W K : Ledger) (l Cs cl gv : Addr) (oS : Obj) (gl : List Value) (ys : List Value) (ks : List Int) (i nd : Nat) : Prop where
  cm : oS.data = .cell (some (.ref l))
  mcs : (Cs, oS) ∈ W
  mgv : (gv, listOf gl.toArray 0) ∈ W
  mcl : (cl, listOf ys.toArray nd) ∈ W
  k : ∀ p ∈ K, p ∈ W ∧ p.1 ≠ cl
  n1 : Cs ≠ cl
  n2 : gv ≠ cl
  ia : IntsAre ys ks
  len : ks.length = i
def InvC (K : Ledger) (l Cs cl gv : Addr) (oS : Obj) (gl : List Value) (i : Nat) (m : PySem.Str → Option Value) (W : Ledger) : Prop := ∃ ys ks nd u1, DC W K l Cs cl gv oS gl ys ks i nd ∧ m = mC cl gv u1
theorem step_cells {h₀ h h' : Heap} {L I D : Addr} {oI oS : Obj} {K W₁ : Ledger} {l Cs cl gv : Addr} {gl ys zs : List Value} {ks : List Int} {i nd tk tk' : Nat} {s : Shared} {u1 : Option Value} {z : Int} {tz : Tok}
    (F : Fr h₀ L h' (mC cl gv u1)) (N : News h₀ L h' (setW cl (listOf (ys.toArray.push (.int z tz)) (nd + 1)) ((D, LCg.lst zs) :: (I, oI) :: W₁)))
    (offI : ∀ p ∈ W₁, Apart p.1 I) (C : DC W₁ K l Cs cl gv oS gl ys ks i nd) :
    StepW h₀ L I oI (InvC K l Cs cl gv oS gl (i + 1)) { s with heap := h, toks := tk } .next { s with heap := h', toks := tk' } := by
  have clI : cl ≠ I := offI _ C.mcl
  have keep : ∀ {q : Addr × Obj}, q ∈ W₁ → q.1 ≠ cl → q ∈ offW [I] (setW cl (listOf (ys.toArray.push (.int z tz)) (nd + 1)) ((D, LCg.lst zs) :: (I, oI) :: W₁)) :=
    fun hq h1 => mem_offW.mpr ⟨mem_setW_ne (.tail _ (.tail _ hq)) h1, by have := offI _ hq; simp; exact this⟩
  refine step_W (W' := offW [I] (setW cl (listOf (ys.toArray.push (.int z tz)) (nd + 1)) ((D, LCg.lst zs) :: (I, oI) :: W₁))) F (N.perm fun q hq => ?_) (fun q hq => ?_) ⟨ys ++ [.int z tz], ks ++ [z], nd + 1, u1, ⟨C.cm, keep C.mcs C.n1, keep C.mgv C.n2, ?_, fun p hp => ⟨keep (C.k p hp).1 (C.k p hp).2, (C.k p hp).2⟩, C.n1, C.n2, IntsAre.append C.ia (.cons z tz .nil), by rw [List.length_append, C.len]; rfl⟩, rfl⟩
  · rcases List.mem_cons.mp hq with rfl | hq
    · exact mem_setW_ne (.tail _ (.head _)) (Ne.symm clI)
    · exact (mem_offW.mp hq).1
  · have := (mem_offW.mp hq).2
    intro e
    rw [e] at this
    simp at this
  · have e : (ys ++ [Value.int z tz]).toArray = ys.toArray.push (.int z tz) := by simp
    rw [e]
    exact mem_offW.mpr ⟨mem_setW (.tail _ (.tail _ C.mcl)), by simp [clI]⟩
section
variable {w : World} {h₀ : Heap} {L : Addr} {m : PySem.Str → Option Value} {s : Shared} {W : Ledger} {Q E : Value → Shared → Prop} {l : Addr}
theorem len_S {A : Around} {vs : Array Value} (F : Fr h₀ L s.heap m) (hS : h₀.IsList l vs) (hf : vs.size ≤ 1000) (h : Q (.int vs.size (s.toks + 1)) { s with toks := s.toks + 1 + 1 }) :
    wpAny (model P0 w) A (call (.builtin "len") [.ref l]) Q E s := len_list (hS.at fun o e => F.keep _ _ e) (by omega) h
theorem item_S {A : Around} {value slice : PySem.Expr} {vs : Array Value} {i : Int} {k : Nat} {u : Tok} {v : Value} (F : Fr h₀ L s.heap m) (hS : h₀.IsList l vs) (e : i = (k : Int)) (hk : k < 1000) (hx : vs[k]? = some v)
    (hs : subscripted slice false (.ref l) (.int i u) = operate [.ref l, .int i u] (getItem (.ref l) (.int i u))) (hg : ∀ r, letTemporaryGo value (.ref l) r = pure ()) (h : Q v s) :
    wpAny (model P0 w) A (subscriptTail value slice (.ref l) (.int i u)) Q E s := by
  subst e
  exact item_list (k := (k : Int)) (hS.at fun o e => F.keep _ _ e) (by omega) (by omega) (by rw [show ((k : Int)).toNat = k by omega]; exact hx) h hs hg
theorem sum_W {A : Around} {vs : List Value} {ks : List Int} (hh : A.handled = none) (F : Fr h₀ L s.heap m) (N : News h₀ L s.heap W) (hm : (l, LCg.lst vs) ∈ W) (hi : IntsAre vs ks)
    (h : ∀ h' tk t', Fr h₀ L h' m → News h₀ L h' W → Q (.int ks.sum t') { s with heap := h', toks := tk }) :
    wpAny (model P0 w) A (call (.builtin "sum") [.ref l]) Q E s := sumK hh F N ⟨_, (N _ hm).1, rfl, _, rfl⟩ hi h
end
end Mine
end
section
open PySem PySem.W PyProof.Rows PySem.Calls PySem.W.X
set_option maxRecDepth 100000
set_option maxHeartbeats 1000000
set_option linter.unusedVariables false
namespace Mine
section
variable {p : Program} {loose : List PySem.Str} {mean : ExcName → Option Value} {mg mb : PySem.Str → Option Value} {w : World}
    {gd : Option (List Code)} {cn : PySem.Str} {cs : Scope} {a : Addr} {ccd : Value} {cl : List (PySem.Str × Addr)} {outer : List Env} {A₀ : Around} {base h₀ : Heap} {L : Addr} {m : PySem.Str → Option Value} {W K : Ledger} {s : Shared} {l : Addr} {vs : List Value} {ns : List Int} {n : Nat}
    {Q E : Value → Shared → Prop} {R : Result → Shared → Prop}
local macro_rules | `(tactic| k_all) => `(tactic| first | assumption | exact Mine.all_ap2 (by assumption) | exact Mine.all_lt2 (by assumption) (by omega))
local macro_rules | `(tactic| k_mem) => `(tactic| ((repeat (first | assumption | refine List.Mem.tail _ ?_)); done))
local macro_rules | `(tactic| k_ne) => `(tactic| first | exact Apart.ne (by assumption) | exact Apart.en (by assumption))
local macro_rules | `(tactic| walk_at "call builtin:len") => `(tactic| (k_here; k_dflt (refine len_W (by k_asm) (by k_mem) (by assumption) ?_)))
local macro_rules | `(tactic| walk_at "call builtin:len") => `(tactic| (k_here; k_dflt (refine len_S (by k_asm) (by assumption) (by assumption) ?_)))
local macro_rules | `(tactic| walk_at "subscriptTail") => `(tactic| (k_here; (with_reducible show wpAny _ _ (subscriptTail _ _ (Value.ref _) (Value.int (Nat.cast _) _)) _ _ _); k_dflt (refine item_0 (by k_asm) (by k_mem) (by assumption) (by assumption) (by with_unfolding_all rfl) (by intro _; with_unfolding_all rfl) ?_)))
local macro_rules | `(tactic| walk_at "subscriptTail") => `(tactic| (k_here; (with_reducible show wpAny _ _ (subscriptTail _ _ (Value.ref _) (Value.int (_ + _) _)) _ _ _); k_dflt (refine item_S (by k_asm) (by assumption) (by assumption) (by assumption) (by assumption) (by with_unfolding_all rfl) (by intro _; with_unfolding_all rfl) ?_)))
local macro_rules | `(tactic| walk_at "eval ListComp") => `(tactic| (k_here; k_dflt (refine comp_VH (F₀ := by k_asm) (by with_unfolding_all rfl) (by decide) (by rfl) (by decide) (by rfl) (by intro _; with_unfolding_all rfl) ?_)))
local macro_rules | `(tactic| walk_at "call builtin:list.append") => `(tactic| (k_here; (with_reducible show wpAny _ _ (call (Value.builtin _) [Value.ref _, _]) _ _ _); k_dflt (refine append_W (by k_asm) (by k_asm) (by k_mem) (by assumption) ?_); intro h' F' N'))
local macro_rules | `(tactic| walk_at "call builtin:sum") => `(tactic| (k_here; (with_reducible show wpAny _ _ (call (Value.builtin _) [Value.ref _]) _ _ _); k_dflt (refine sum_W rfl (by k_asm) (by k_asm) (by k_mem) (by assumption) ?_); intro h' tk' t' F' N'))
local macro_rules | `(tactic| walk_at "pyIter ref") => `(tactic| refine Mine.Held.of ?_)
theorem cells_K (B : Below A₀ base outer h₀) (F : Fr h₀ L s.heap m) (X : (hd.heap_39 w.params).In h₀) (N : News h₀ L s.heap W) (T : Top p loose mean mg mb h₀) (hcs : cs.kind = .function)
    (hS : h₀.IsList l vs.toArray) (hi : IntsAre vs ns) (hl : ns.length ≤ 63)
    (hq : ∀ D h' tk ys ks nd, Fr h₀ L h' m → News h₀ L h' ((D, listOf ys.toArray nd) :: W) → (∀ p ∈ W, Apart p.1 D) → IntsAre ys ks → ks.length = 18 → Q (.ref D) { s with heap := h', toks := tk }) :
    wpAny (model P0 w) (ktrTop 400 500 gd cn cs L a ccd cl outer) (call (.ref 88) [.ref l]) Q E s := by
  have hS' : s.heap.IsList l vs.toArray := hS.at fun o e => F.keep _ _ e
  refine wpAny_call ?_
  k_dflt (refine' code_defC (binds := [(PySem.Str.ofString "script", Value.ref l)]) ?k1 ?k2 ?k3 ?k4 ?k5 ?kA ?kF ?kK ?k6 ?k7 ?k8 ?k9 ?kB ?kD ?_ ?c2 ?c3 ?c4; (case kA => exact rfl); (case kF => exact rfl); (case kK => assumption); (case k1 => k_asm); (case k2 => k_asm); (case k3 => k_asm); (case k4 => k_asm); (case k5 => k_asm); (case k6 => k_is); (case k7 => k_is); (case k8 => k_room); (case k9 => exact BindsTo.of_eq rfl); (case kB => exact rfl); (case kD => decide +kernel); (case c2 => exact rfl); (case c3 => exact rfl); (case c4 => exact rfl); k_whole; intro g' L' h' tk' cells' FG' F' N' Y' B' X' T' l1; (try k_lt l1); k_cells Y'; (try simp only [List.cons_append, List.nil_append] at N'); (try dsimp only); (try k_lift B'); (try k_fold))
  have hS2 : g'.IsList l vs.toArray := hS.at fun o e => FG'.keep _ _ e
  w_top off
  k_steps
  rename_i oS dS gv h4 a0 h3 tk1 clA h2 a1 h1 F1 N1 hR tkR t1 u1 v1 rg FR NR kR
  obtain ⟨gl, gs, NR2, hgi, hgs⟩ : ∃ (gl : List Value) (gs : List Int), News g' L' hR ((clA, listOf #[] 0) :: (gv, listOf gl.toArray 0) :: (L' + 1, oS) :: W) ∧ IntsAre gl gs ∧ gs.length = 18 := by
    refine ⟨_, [3, 11, 0, 38, 1, 42, 23, 9, 6, 4, -6, 8, 19, 10, 990, 12, 5, 543], NR, ?_, rfl⟩
    repeat' (first | exact IntsAre.nil | refine IntsAre.cons _ _ ?_)
  have lit : ∀ {x : Addr} {P : Addr}, @LT.lt Nat _ x P → x ≠ P := fun h => Nat.ne_of_lt h
  have g1 := allLt_mem a1.2.2
  have hgz : gl.toArray.size = 18 := by have := hgi.length; simp; omega
  have hgz2 : gl.toArray.size ≤ 1000 := by omega
  have hvz : vs.toArray.size = ns.length := by have := hi.length; simpa using this
  have hvz2 : vs.toArray.size ≤ 1000 := by omega
  refine loop_R (n := 18) (InvC W l (L' + 1) clA gv oS gl) rfl rg (by decide) (by decide) FR NR2 ?h0 ?turn ?done
  case h0 =>
    exact ⟨[], [], 0, none, ⟨dS, .tail _ (.tail _ (.head _)), .tail _ (.head _), .head _, fun p hp => ⟨.tail _ (.tail _ (.tail _ hp)), lit (g1 p hp)⟩, lit a1.2.1, lit a1.1, .nil, rfl⟩, mC_start⟩
  case done =>
    intro m₁ W₁ h₁ tk₁ hinv F₂ N₂
    obtain ⟨ys, ks, nd, u1, C, rfl⟩ := hinv
    unfold mC at F₂
    have mcl := C.mcl
    k_steps
    rename_i kF kN _ _
    refine hq _ _ _ ys ks nd kF (kN.perm fun q hq9 => ?_) (fun q hq9 => (C.k q hq9).2) C.ia C.len
    rcases List.mem_cons.mp hq9 with rfl | h9
    · exact mcl
    · exact (C.k q h9).1
  case turn =>
    intro i t m₁ W₁ I oI h₁ tk₁ hi18 hinv F₂ N₂ offI
    obtain ⟨ys, ks, nd, u1, C, rfl⟩ := hinv
    rw [show (0 + ((i : Nat) : Int) * 1) = (i : Int) by omega] at F₂
    obtain ⟨gz, tz, hgz3⟩ : ∃ gz tz, gl.toArray.toList[i]? = some (.int gz tz) := by
      have h9 : i < gl.length := by simpa using (show i < gl.toArray.size by omega)
      obtain ⟨k, t, e, hk⟩ := IntsAre.at hgi i gl[i] (List.getElem?_eq_getElem h9)
      exact ⟨k, t, by rw [← e]; simp [h9]⟩
    have hi3 : i < 1000 := by omega
    have mcl := C.mcl
    have mgv := C.mgv
    have mcs := C.mcs
    have cm := C.cm
    have hyz : ys.toArray.size ≤ 1000 := by have h1 := C.ia.length; have h2 := C.len; simp; omega
    unfold mC at F₂
    k_steps
    rename_i hJ tkJ tJ uJ vJ rgJ FJ NJ kJ
    obtain ⟨sm, mN, em, hm63, hmj⟩ := small_step (a := i) (n := vs.toArray.size) (by omega) (by omega)
    rw [show ((gl.toArray.size : Nat) : Int) = 18 by omega] at rgJ
    refine ⟨_, _, _, _, src_range rfl rgJ sm em, FJ, NJ, by rw [PySem.sizeLine_eq]; omega, fun g => ?_⟩
    refine rest_inv (fun j zs W' => W' = (I, oI) :: W₁ ∧ ∃ js, IntsAre zs js) ⟨rfl, [], .nil⟩ ?_ ?_
    · intro j v zs W' I2 oI2 C2 oC2 D2 m₂ h₂ tk₂ E' hj hinv hv hC2 hx F₃ N₃ off ne
      obtain ⟨rfl, js, hjs⟩ := hinv
      obtain ⟨t₂, rfl⟩ := hv
      have hjn := hmj j hj
      have e9 : ((i : Int) + ((j : Nat) : Int) * 18) = ((i + j * 18 : Nat) : Int) := by omega
      obtain ⟨sz, tsz, hvs⟩ : ∃ sz tsz, vs.toArray[i + j * 18]? = some (.int sz tsz) := by
        have h9 : i + j * 18 < vs.length := by simpa using hjn
        obtain ⟨k, t, e, hk⟩ := IntsAre.at hi _ vs[i + j * 18] (List.getElem?_eq_getElem h9)
        exact ⟨k, t, by rw [← e]; simp [h9]⟩
      have hk3 : i + j * 18 < 1000 := by omega
      k_steps
      exact end_turn F₃ N₃ off trivial ⟨rfl, _, IntsAre.append hjs (.cons _ _ .nil)⟩
    · intro zs W' hinv
      obtain ⟨rfl, js, hjs⟩ := hinv
      unfold LCg.FinE
      intro D3 h3 tk3 F3 N3 off3
      k_steps
      rename_i hZ FZ NZ
      exact step_cells (fr_eq FZ mC_place) NZ offI C
end
end Mine
end
section
open PySem PySem.W PyProof.Rows PySem.Calls PySem.W.X
set_option linter.unusedVariables false
namespace Mine
theorem ok_app {x y : PySem.Str} (h1 : PyData.strOk x = true) (h2 : PyData.strOk y = true) : PyData.strOk (x ++ y) = true := by
  unfold PyData.strOk at *
  show (x.cps ++ y.cps).all _ = true
  rw [Array.all_append, h1, h2]; rfl
theorem ok_one {n : Nat} (h : n < 1114112) : PyData.strOk ⟨#[n]⟩ = true := by
  unfold PyData.strOk
  simpa using h
theorem ok_mark (m : Int) (h : m < 128) : PyData.strOk (markOf m) = true := by
  unfold markOf
  split
  · exact ok_one (by omega)
  · refine ok_app (by decide +kernel) (ok_one ?_)
    split <;> omega
theorem ok_text (c : Int) : PyData.strOk (textOf c) = true := by
  unfold textOf
  have h := Int.emod_lt_of_pos c (b := 128) (by decide)
  split
  · decide +kernel
  · split
    · exact ok_app (by decide +kernel) (ok_mark _ h)
    · exact ok_mark _ h
def TextOk (t : Table) : Prop := ∀ r ∈ t, PyData.strOk r.text = true
theorem tok_chill {t : Table} {a : Nat} (h : TextOk t) : TextOk (chill t a) := by
  unfold chill
  split
  · next r e =>
    intro q hq
    rcases List.mem_or_eq_of_mem_set hq with h1 | rfl
    · exact h q h1
    · exact h r (List.mem_of_getElem? e)
  · exact h
theorem tok_turn {s : Table × Nat} (h : TextOk s.1) (c : Int) : TextOk (turn s c).1 := by
  unfold turn
  split
  · exact h
  · split
    · exact tok_chill h
    · split
      · exact h
      · intro q hq
        rcases List.mem_append.mp hq with h1 | h1
        · exact h q h1
        · rw [List.mem_singleton.mp h1]; exact ok_text _
theorem tok_at {t : Table} (h : TextOk t) (k : Nat) : PyData.strOk (textAt t k) = true := by
  unfold textAt
  split
  · next r e => exact h r (List.mem_of_getElem? e)
  · decide +kernel
theorem all_map {α : Type} {n : Nat} {f : α → Dat} (l : List α) (h : ∀ a, kqdOk n (f a) = true) : (l.map f).all (kqdOk n) = true := by
  rw [List.all_eq_true]
  intro d hd
  obtain ⟨a, _, rfl⟩ := List.mem_map.mp hd
  exact h a
theorem ok_told {s : Table × Nat} (h : TextOk s.1) : kqdOk 2 (toldOf s) = true := by
  unfold toldOf
  simp only [kqdOk, List.all_cons, List.all_nil, Bool.and_true, Bool.true_and]
  exact all_map _ fun k => by simp only [kqdOk]; exact tok_at h k
theorem ok_run : ∀ (xs : List Int) {s : Table × Nat}, TextOk s.1 → TextOk (run s xs).1.1 ∧ ∀ d ∈ (run s xs).2, kqdOk 2 d = true
  | [], _, h => ⟨h, fun d hd => by cases hd⟩
  | x :: xs, s, h => by
    have h1 := tok_turn h x
    obtain ⟨h2, h3⟩ := ok_run xs h1
    refine ⟨h2, fun d hd => ?_⟩
    rcases List.mem_cons.mp hd with rfl | hd
    · exact ok_told h1
    · exact h3 d hd
theorem kok_le : ∀ (n : Nat) (d : Dat), kqdOk n d = true → kqdOk (n + 1) d = true := by
  intro n
  induction n with
  | zero => intro d h; cases d <;> simp_all [kqdOk]
  | succ n ih =>
    intro d h
    cases d with
    | tuple ds =>
      have h' : ds.all (kqdOk n) = true := h
      show ds.all (kqdOk (n + 1)) = true
      rw [List.all_eq_true] at *
      exact fun x hx => ih x (h' x hx)
    | list ds =>
      have h' : ds.all (kqdOk n) = true := h
      show ds.all (kqdOk (n + 1)) = true
      rw [List.all_eq_true] at *
      exact fun x hx => ih x (h' x hx)
    | _ => simp_all [kqdOk]
theorem ok_end {t : Table} (h : TextOk t) : kqdOk 4 (endOf t) = true := by
  unfold endOf
  show List.all _ (kqdOk 3) = true
  refine all_map _ fun one => ?_
  show List.all _ (kqdOk 2) = true
  refine all_map _ fun k => ?_
  simp only [kqdOk, List.all_cons, List.all_nil, Bool.and_true, Bool.true_and]
  exact tok_at h k
theorem ok_start : TextOk start.1 := fun r hr => by
  rw [List.mem_singleton.mp hr]; decide +kernel
theorem ok_answer (ns : List Int) : kqdOk 5 (answer ns) = true := by
  obtain ⟨h1, h2⟩ := ok_run ns ok_start
  unfold answer
  dsimp only
  show List.all [Dat.list (run start ns).2, endOf (run start ns).1.1] (kqdOk 4) = true
  simp only [List.all_cons, List.all_nil, Bool.and_true, Bool.and_eq_true]
  refine ⟨?_, ok_end h1⟩
  show List.all _ (kqdOk 3) = true
  rw [List.all_eq_true]
  exact fun d hd => kok_le _ _ (h2 d hd)
section
variable {prog : Program} {w : World} {A : Around} {E : Value → Shared → Prop} {s : Shared} {h₀ : Heap} {L : Addr} {news n₁ n₂ : List (Addr × Obj)} {a b : Value} {d : Dat} {Q : Value → Shared → Prop}
theorem eq_T {n : Nat} (hn : n ≤ 64) (N : News h₀ L s.heap news) (Da : DatIn n₁ a d) (sa : ∀ p ∈ n₁, p ∈ news) (Db : DatIn n₂ b d) (sb : ∀ p ∈ n₂, p ∈ news) (hk : kqdOk n d = true) (hu : A.units + 64 < cLine) (h : Q (.bool true) s) :
    wpAny (model prog w) A (compareOp .Eq a b) Q E s := by
  obtain ⟨as, ra⟩ := kqd_in N n (Da.mono sa) hk
  obtain ⟨bs, rb⟩ := kqd_in N n (Db.mono sb) hk
  have l := kqd_lay n d hk
  have e : PyData.eqv (kqdP d) (kqdP d) = true := (kqd_eqv n d d n hk hk).mpr rfl
  have sh : SeqAt.shaped (kqdP d) = true := by unfold SeqAt.shaped; rw [l.1, Bool.true_and]; exact decide_eq_true (Nat.le_trans l.2 hn)
  exact eq_dataH ra rb sh sh hu (by rw [e]; exact h)
end
end Mine
end
section
open PySem PySem.W PyProof.Rows PySem.Calls PySem.W.X
set_option maxRecDepth 100000
set_option maxHeartbeats 1000000
set_option linter.unusedVariables false
namespace Mine
theorem dat_ref {n : Ledger} {v : Value} {ds : List Dat} (h : DatIn n v (.tuple ds)) : ∃ a, v = .ref a := by
  cases h with
  | tuple hm r => exact ⟨_, rfl⟩
abbrev tabs0 : Ledger := [(50, tabObj #[]), (104, tabObj #[])]
section
variable {p : Program} {loose : List PySem.Str} {mean : ExcName → Option Value} {mg mb : PySem.Str → Option Value} {w : World}
    {gd : Option (List Code)} {cn : PySem.Str} {cs : Scope} {a : Addr} {ccd : Value} {cl : List (PySem.Str × Addr)} {outer : List Env} {A₀ : Around} {base h₀ : Heap} {L : Addr} {m : PySem.Str → Option Value} {s : Shared} {l : Addr} {vs : List Value} {ns : List Int} {n : Nat}
    {Q E : Value → Shared → Prop}
theorem walked_L (B : Below A₀ base outer h₀) (F : Fr h₀ L s.heap m) (X : (hd.heap_39 w.params).In h₀) (N : News h₀ L s.heap ((l, listOf vs.toArray n) :: tabs0)) (T : Top p loose mean mg mb h₀) (hcs : cs.kind = .function) (hC : CodeHd base 54 50) (hC2 : CodeHd base 108 104)
    (hM : ∃ o, base.get? sysModules = some o) (ap : ∀ q ∈ tabs0, Apart q.1 l) (hi : IntsAre vs ns) (hl : ns.length = 18)
    (hq : ∀ v h' tk R, Fr h₀ L h' m → News h₀ L h' (R ++ [(l, listOf vs.toArray n)]) → DatIn R (.ref v) (answer ns) → (∃ ps, (50, tabObj ps) ∈ R) → (∃ ps, (104, tabObj ps) ∈ R) → Q (.ref v) { s with heap := h', toks := tk }) :
    wpAny (model P0 w) (ktrTop 400 500 gd cn cs L a ccd cl outer) (call (.ref 119) [.ref l]) Q E s := by
  refine walked_K (K := [(l, listOf vs.toArray n)]) B F X N T hcs hC hC2 hM (.head _) (fun q hq => ?_) (.tail _ (.head _)) (.tail _ (.tail _ (.head _))) hi (by omega) ?_
  · rw [List.mem_singleton.mp hq]
    exact ⟨.head _, (ap _ (.head _)).en, (ap _ (.tail _ (.head _))).en⟩
  · intro v h' tk R F' N' D m5 m1
    obtain ⟨a, rfl⟩ := dat_ref D
    exact hq a h' tk R F' N' D m5 m1
theorem due_L {R : Ledger} (B : Below A₀ base outer h₀) (F : Fr h₀ L s.heap m) (X : (hd.heap_39 w.params).In h₀) (N : News h₀ L s.heap (R ++ [(l, listOf vs.toArray n)])) (T : Top p loose mean mg mb h₀) (hcs : cs.kind = .function) (hC : CodeHd base 54 50)
    (hi : IntsAre vs ns) (hl : ns.length = 18)
    (hq : ∀ v h' tk R2, Fr h₀ L h' m → News h₀ L h' (R2 ++ (R ++ [(l, listOf vs.toArray n)])) → DatIn R2 (.ref v) (answer ns) → Q (.ref v) { s with heap := h', toks := tk }) :
    wpAny (model P0 w) (ktrTop 400 500 gd cn cs L a ccd cl outer) (call (.ref 129) [.ref l]) Q E s := by
  refine due_K B F X N T hcs hC (List.mem_append_right _ (.head _)) hi (by omega) ?_
  intro v h' tk R F' N' D
  obtain ⟨a, rfl⟩ := dat_ref D
  exact hq a h' tk R F' N' D
theorem eq_L {A : Around} {K R R2 : Ledger} {u v : Addr} (N : News h₀ L s.heap (R2 ++ (R ++ K))) (D1 : DatIn R (.ref u) (answer ns)) (D2 : DatIn R2 (.ref v) (answer ns)) (hu : A.units + 64 < cLine) (h : Q (.bool true) s) :
    wpAny (model P0 w) A (compareOp .Eq (.ref u) (.ref v)) Q E s :=
  eq_T (n := 5) (by decide) N D1 (fun q hq => List.mem_append_right _ (List.mem_append_left _ hq)) D2 (fun q hq => List.mem_append_left _ hq) (ok_answer ns) hu h
theorem grown_L {K R R2 : Ledger} {h : Heap} (N : News h₀ L h (R2 ++ (R ++ K))) (m5 : ∃ ps, (50, tabObj ps) ∈ R) (m1 : ∃ ps, (104, tabObj ps) ∈ R) : GrownAll [(54, 50), (108, 104)] h := by
  obtain ⟨ps, m5⟩ := m5
  obtain ⟨pt, m1⟩ := m1
  exact ⟨GrownAt.of N (List.mem_append_right _ (List.mem_append_left _ m5)), GrownAt.of N (List.mem_append_right _ (List.mem_append_left _ m1)), trivial⟩
end
end Mine
end
section
open PySem PySem.W PyProof.Rows PySem.Calls PySem.W.X
set_option maxRecDepth 100000
set_option maxHeartbeats 1000000
set_option linter.unusedVariables false
section
local macro_rules | `(tactic| k_all) => `(tactic| first | assumption | exact Mine.all_ap2 (by assumption) | exact Mine.all_lt2 (by assumption) (by omega))
local macro_rules | `(tactic| walk_at "call ref") => `(tactic| (k_here; (with_reducible show wpAny _ _ (call (Value.ref 88) [Value.ref _]) _ _ _); k_dflt (refine Mine.wpAny_le (Mine.cells_K (by assumption) (by k_asm) (by k_asm) (by k_asm) (by k_asm) rfl (by assumption) (by assumption) (by omega) ?_) (Nat.le_of_ble_eq_true rfl) (Nat.le_of_ble_eq_true rfl)); intro D' h' tk' ys' ks' nd' F' N' o' i' n'))
local macro_rules | `(tactic| walk_at "call ref") => `(tactic| (k_here; (with_reducible show wpAny _ _ (call (Value.ref 119) [Value.ref _]) _ _ _); k_dflt (refine Mine.wpAny_le (Mine.walked_L (by assumption) (by k_asm) (by k_asm) (by k_asm) (by k_asm) rfl (by assumption) (by assumption) (by assumption) (by assumption) (by assumption) (by assumption) ?_) (Nat.le_of_ble_eq_true rfl) (Nat.le_of_ble_eq_true rfl)); intro v' h' tk' R' F' N' D' m50' m104'))
local macro_rules | `(tactic| walk_at "call ref") => `(tactic| (k_here; (with_reducible show wpAny _ _ (call (Value.ref 129) [Value.ref _]) _ _ _); k_dflt (refine Mine.wpAny_le (Mine.due_L (by assumption) (by k_asm) (by k_asm) (by k_asm) (by k_asm) rfl (by assumption) (by assumption) (by assumption) ?_) (Nat.le_of_ble_eq_true rfl) (Nat.le_of_ble_eq_true rfl)); intro v' h' tk' R' F' N' D'))
local macro_rules | `(tactic| walk_at "compareOp Eq ref ref") => `(tactic| (k_here; k_dflt (refine Mine.eq_L (by k_asm) (by assumption) (by assumption) (by ke_room) (Mine.Held.of ?_))))
theorem PySem.Challenge.cw_in0003_01_holds : PySem.Challenge.rw_in0003_01.Holds := by
  exact hd (by
    k_go0
    rename_i w s0 s1 mg mb G Y fa o pm cd doc kV ho hcd hg XX VV T1 BB TE TW ns hs hlay hL1 hr1 hl2 w4 w3 l vs w5 hL2 ra w1 r0 hI hr cond1 cond2 hD h1 X0 T0 K0 F0 cH0 N0 l0
    obtain ⟨mm, ⟨om, esm, epm, hgm, hdm, _⟩, _⟩ := (T1.seer (by decide +kernel)).mods
    have hM : ∃ o, (ghostOf s1.heap [(54, 50), (108, 104)]).get? sysModules = some o := ⟨om, ghost_get hT9 hgm (fun q => by rw [q] at hdm; cases hdm)⟩
    w_top off
    k_steps
    refine ⟨?_, Mine.grown_L (by assumption) (by assumption) (by assumption)⟩
    k_steps)
end
end
