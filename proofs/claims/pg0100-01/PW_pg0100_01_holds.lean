import PyProof.Rows.All
import Wide.All
import OpenK.AllK
import Wide.FinOn
import PyProof.StrLawsReplace
import PySem.Challenge.RW_pg0100_01
open PySem
set_option Elab.async false

namespace Mine
abbrev Leaf := Nat × List Nat
abbrev Entry := List Nat × List Leaf

/-- what the tape tells, a number begun being held -/
def readTape (held : Nat) : List Nat → List Nat
  | [] => []
  | c :: r => if c < 64 then (held * 64 + c) :: readTape 0 r else readTape (held * 64 + (c - 64)) r

def parseOne (held : Nat) : List Nat → Option (Nat × List Nat)
  | [] => none
  | c :: r => if c < 64 then some (held * 64 + c, r) else parseOne (held * 64 + (c - 64)) r

/-- the digits that go on -/
def hi (l : Nat) : List Nat := if _h : l = 0 then [] else hi (l / 64) ++ [64 + l % 64]
termination_by l
decreasing_by omega

def packNum (n : Nat) : List Nat := hi (n / 64) ++ [n % 64]
def packF (ns : List Nat) : List Nat := (ns.flatMap packNum).dropLast

def strip (head : Bool) : List Nat → List Nat
  | [] => []
  | c :: r => if c = 64 ∧ head = true then strip head r else c :: strip (decide (c < 64)) r
def wn (head : Bool) : List Leaf → List Leaf
  | [] => []
  | l :: r => if l.1 = 64 ∧ head = true then wn head r else l :: wn (decide (l.1 < 64)) r

def sub (h c : Nat) : List Nat :=
  if c = 38 then [38, 97, 109, 112, 59]
  else if c = 60 ∧ h ≠ 4 then [38, 108, 116, 59]
  else if c = 62 ∧ h ≠ 3 then [38, 103, 116, 59]
  else if c = 34 ∧ 1 < h then [38, 113, 117, 111, 116, 59]
  else if c = 13 ∧ h = 2 then [38, 35, 49, 51, 59]
  else if c = 10 ∧ h = 2 then [38, 35, 49, 48, 59]
  else if c = 9 ∧ h = 2 then [38, 35, 48, 57, 59]
  else if c = 13 ∧ (h = 1 ∨ h = 3) then [38, 35, 120, 68, 59]
  else if c = 10 ∧ h = 3 then [38, 35, 120, 65, 59]
  else if c = 9 ∧ h = 3 then [38, 35, 120, 57, 59]
  else [c]
def writeF (h : Nat) (t : List Nat) : List Nat := t.flatMap (sub h)

def refN (h c : Nat) : List Nat :=
  if c = 38 then [8838203]
  else if c = 60 ∧ h ≠ 4 then [(44 * 64 + 52) * 64 + 59]
  else if c = 62 ∧ h ≠ 3 then [(39 * 64 + 52) * 64 + 59]
  else if c = 34 ∧ 1 < h then [(((49 * 64 + 53) * 64 + 47) * 64 + 52) * 64 + 59]
  else if h = 2 ∧ (c = 13 ∨ c = 10 ∨ c = 9) then [35, 48 + c / 10, 48 + c % 10, 59]
  else if (h = 1 ∨ h = 3) ∧ c = 13 then [35, (56 * 64 + 4) * 64 + 59]
  else if h = 3 ∧ c = 10 then [35, (56 * 64 + 1) * 64 + 59]
  else if h = 3 ∧ c = 9 then [35, 56 * 64 + 57, 59]
  else []

def spelledN (way : List Nat) (c : Nat) : List Nat := (List.range way.length).filter fun k => decide (refN (way.getD k 0) c ≠ [])

def toldStep (x : List Nat × Nat) (l : Leaf) : List Nat × Nat :=
  if 63 < l.1 then (x.1, x.2 * 64 + l.1 - 64)
  else match spelledN l.2 l.1 with
    | [] => (x.1 ++ [x.2 * 64 + l.1], 0)
    | k :: _ => (x.1 ++ [x.2 * 64 + 38] ++ List.replicate (l.2.length - 1 - k) 8838203 ++ refN (l.2.getD k 0) l.1, 0)
def toldF (ls : List Leaf) : List Nat :=
  let x := ls.foldl toldStep ([], 0)
  x.1 ++ [x.2 * 64 + 5]

def menu (y : Nat) : Nat := [38, 60, 62, 34, 13, 10, 9, 64].getD (y % 8) 0

/-- the stack, the uppermost first -/
def stepF (st : List Entry) (d : Nat) : List Entry :=
  if d % 7 = 0 then ([menu (d / 7)], [(menu (d / 7), [])]) :: st
  else if (d % 7 = 2 ∨ d % 7 = 3) ∧ 1 < st.length then
    match st with
    | u :: l :: r => (if d % 7 = 2 then (l.1 ++ u.1, l.2 ++ u.2) else (u.1 ++ l.1, u.2 ++ l.2)) :: r
    | _ => st
  else if d % 7 < 4 then ([d / 7 % 128, d / 7 / 128], [(d / 7 % 128, []), (d / 7 / 128, [])]) :: st
  else match st with
    | [] => []
    | e :: r => if d % 7 = 4 then (packF (readTape 0 (e.1 ++ [5])), wn true e.2) :: r
      else (writeF (d / 7 % 5) e.1, e.2.map fun l => (l.1, l.2 ++ [d / 7 % 5])) :: r

def start : List Entry := [([82, 60], [(82, []), (60, [])])]

/-- a leaf's signs -/
def expand (l : Leaf) : List Nat := l.2.foldl (fun t h => writeF h t) [l.1]

/-! packing -/
theorem hi_zero : hi 0 = [] := by unfold hi; rfl
theorem hi_pos {l : Nat} (h : l ≠ 0) : hi l = hi (l / 64) ++ [64 + l % 64] := by rw [hi.eq_1]; simp [h]

theorem pack_read : ∀ (codes : List Nat) (h : Nat), (∀ c ∈ codes, c < 128) →
    (readTape h (codes ++ [5])).flatMap packNum = hi h ++ strip (decide (h = 0)) codes ++ [5]
  | [], h, _ => by
    simp only [List.nil_append, readTape, strip, List.append_nil]
    rw [if_pos (by omega)]
    simp only [List.flatMap_cons, List.flatMap_nil, packNum, List.append_nil]
    rw [show (h * 64 + 5) / 64 = h by omega, show (h * 64 + 5) % 64 = 5 by omega]
  | c :: r, h, hc => by
    have hc1 : c < 128 := hc c (.head _)
    have hr : ∀ x ∈ r, x < 128 := fun x hx => hc x (.tail _ hx)
    simp only [List.cons_append, readTape]
    by_cases h1 : c < 64
    · rw [if_pos h1, List.flatMap_cons, pack_read r 0 hr, hi_zero]
      simp only [packNum, strip]
      rw [if_neg (by omega), show (h * 64 + c) / 64 = h by omega, show (h * 64 + c) % 64 = c by omega]
      simp [h1]
    · rw [if_neg h1, pack_read r _ hr]
      simp only [strip]
      by_cases h0 : h = 0
      · subst h0
        by_cases hc2 : c = 64
        · subst hc2; simp
        · rw [if_neg (by simp [hc2]), hi_pos (by omega), show (0 * 64 + (c - 64)) / 64 = 0 by omega, show 64 + (0 * 64 + (c - 64)) % 64 = c by omega]
          have e1 : decide (0 * 64 + (c - 64) = 0) = false := decide_eq_false (by omega)
          have e2 : decide (c < 64) = false := decide_eq_false h1
          rw [e1, e2]; simp
      · rw [if_neg (by simp [h0]), hi_pos (by omega), show (h * 64 + (c - 64)) / 64 = h by omega, show 64 + (h * 64 + (c - 64)) % 64 = c by omega]
        have e1 : decide (h * 64 + (c - 64) = 0) = false := decide_eq_false (by omega)
        have e2 : decide (c < 64) = false := decide_eq_false h1
        rw [e1, e2]; simp

theorem pack_is_strip (codes : List Nat) (hc : ∀ c ∈ codes, c < 128) : packF (readTape 0 (codes ++ [5])) = strip true codes := by
  unfold packF
  rw [pack_read codes 0 hc, hi_zero]
  simp

/-! escapes -/
theorem sub_hi {h c : Nat} (hc : 64 ≤ c) : sub h c = [c] := by
  unfold sub
  rw [if_neg (by omega), if_neg (by omega), if_neg (by omega), if_neg (by omega), if_neg (by omega), if_neg (by omega), if_neg (by omega), if_neg (by omega), if_neg (by omega), if_neg (by omega)]

/-- the signs that some escape spells -/
def special (c : Nat) : Bool := c == 38 || c == 60 || c == 62 || c == 34 || c == 13 || c == 10 || c == 9
theorem sub_plain {h c : Nat} (hc : special c = false) : sub h c = [c] := by
  simp only [special, Bool.or_eq_false_iff, beq_eq_false_iff_ne] at hc
  unfold sub
  rw [if_neg (by omega), if_neg (by omega), if_neg (by omega), if_neg (by omega), if_neg (by omega), if_neg (by omega), if_neg (by omega), if_neg (by omega), if_neg (by omega), if_neg (by omega)]

theorem writeF_plain {h : Nat} : ∀ {l : List Nat}, (∀ c ∈ l, special c = false) → writeF h l = l
  | [], _ => rfl
  | c :: r, hl => by
    have ih := writeF_plain (h := h) (l := r) fun x hx => hl x (.tail _ hx)
    unfold writeF at ih ⊢
    rw [List.flatMap_cons, ih, sub_plain (hl c (.head _))]; rfl

/-- what stands behind the & where h spells c -/
def tail (h c : Nat) : List Nat := (sub h c).tail
def ampT : List Nat := [97, 109, 112, 59]

theorem sub_38 (h : Nat) : sub h 38 = 38 :: ampT := by simp [sub, ampT]

theorem small_cases {P : Nat → Nat → Prop} [∀ h c, Decidable (P h c)] (hall : ∀ h, h < 5 → ∀ c, c < 64 → P h c) : ∀ h c, h < 5 → c < 64 → P h c := fun h c hh hc => hall h hh c hc

theorem sub_ref : ∀ h, h < 5 → ∀ c, c < 64 → (refN h c = [] ∧ sub h c = [c]) ∨ (refN h c ≠ [] ∧ sub h c = 38 :: tail h c) := by decide +kernel
theorem tail_plain : ∀ h, h < 5 → ∀ c, c < 64 → refN h c ≠ [] → (tail h c).all (fun x => !special x && x != 64 && decide (x < 128)) = true := by decide +kernel
theorem tail_reads : ∀ h, h < 5 → ∀ c, c < 64 → refN h c ≠ [] → readTape 0 (tail h c) = refN h c ∧ (tail h c).getLast? = some 59 ∧ (tail h c).length ≤ 5 := by decide +kernel
theorem ref_len : ∀ h, h < 5 → ∀ c, c < 64 → (refN h c).length ≤ 4 := by decide +kernel

theorem range_succ_filter (p : Nat → Bool) (n : Nat) : (List.range (n + 1)).filter p = (List.range n).filter p ++ (if p n then [n] else []) := by
  rw [List.range_succ, List.filter_append]
  congr 1
  cases h : p n <;> simp [h]

theorem getD_append_left {w : List Nat} {h k : Nat} (hk : k < w.length) : (w ++ [h]).getD k 0 = w.getD k 0 := by
  simp [List.getElem?_append_left hk]
theorem getD_append_last {w : List Nat} {h : Nat} : (w ++ [h]).getD w.length 0 = h := by simp

theorem spelled_snoc (w : List Nat) (h c : Nat) : spelledN (w ++ [h]) c = spelledN w c ++ (if refN h c ≠ [] then [w.length] else []) := by
  unfold spelledN
  rw [List.length_append, List.length_singleton, range_succ_filter, getD_append_last]
  congr 1
  · apply List.filter_congr
    intro k hk
    rw [getD_append_left (List.mem_range.mp hk)]
  · by_cases q : refN h c = [] <;> simp [q]

theorem expand_snoc (c : Nat) (w : List Nat) (h : Nat) : expand (c, w ++ [h]) = writeF h (expand (c, w)) := by
  simp [expand]

theorem snoc_ind {P : List Nat → Prop} (h0 : P []) (hs : ∀ w h, P w → P (w ++ [h])) : ∀ w, P w := by
  intro w
  have : ∀ r : List Nat, P r.reverse := by
    intro r
    induction r with
    | nil => exact h0
    | cons a r ih => rw [List.reverse_cons]; exact hs _ _ ih
  simpa using this w.reverse

theorem expand_hi {c : Nat} (hc : 64 ≤ c) : ∀ w, expand (c, w) = [c] := by
  refine snoc_ind rfl fun w h ih => ?_
  rw [expand_snoc, ih]
  simp [writeF, sub_hi hc]

theorem amp_plain : ∀ x ∈ ampT, special x = false ∧ x ≠ 64 ∧ x < 128 := by decide

theorem body_plain {j h c : Nat} (hh : h < 5) (hc : c < 64) (hr : refN h c ≠ []) : ∀ x ∈ (List.replicate j ampT).flatten ++ tail h c, special x = false ∧ x ≠ 64 ∧ x < 128 := by
  intro x hx
  rcases List.mem_append.mp hx with hx | hx
  · obtain ⟨l, hl, hx⟩ := List.mem_flatten.mp hx
    rw [List.mem_replicate] at hl
    rw [hl.2] at hx
    exact amp_plain x hx
  · have := List.all_eq_true.mp (tail_plain h hh c hc hr) x hx
    simp only [Bool.and_eq_true, Bool.not_eq_true', bne_iff_ne, decide_eq_true_eq] at this
    exact ⟨this.1.1, this.1.2, this.2⟩

/-- a leaf's signs, told in closed form -/
theorem expand_lo {c : Nat} (hc : c < 64) : ∀ w : List Nat, (∀ h ∈ w, h < 5) →
    (spelledN w c = [] ∧ expand (c, w) = [c]) ∨
    ∃ k ks, spelledN w c = k :: ks ∧ k < w.length ∧ w.getD k 0 < 5 ∧ refN (w.getD k 0) c ≠ [] ∧ expand (c, w) = 38 :: ((List.replicate (w.length - 1 - k) ampT).flatten ++ tail (w.getD k 0) c) := by
  refine snoc_ind (fun _ => .inl ⟨rfl, rfl⟩) fun w h ih hw => ?_
  have hh : h < 5 := hw h (List.mem_append_right _ (List.mem_singleton.mpr rfl))
  have hw' : ∀ x ∈ w, x < 5 := fun x hx => hw x (List.mem_append_left _ hx)
  rw [spelled_snoc, expand_snoc]
  rcases ih hw' with ⟨e1, e2⟩ | ⟨k, ks, e1, e2, e3, e4, e5⟩
  · rw [e1, e2]
    have hs : writeF h [c] = sub h c := by simp [writeF]
    rcases sub_ref h hh c hc with ⟨r1, r2⟩ | ⟨r1, r2⟩
    · refine .inl ⟨?_, ?_⟩
      · simp [r1]
      · rw [hs, r2]
    · refine .inr ⟨w.length, [], ?_, ?_, ?_, ?_, ?_⟩
      · simp [r1]
      · simp
      · rw [getD_append_last]; exact hh
      · rw [getD_append_last]; exact r1
      · rw [getD_append_last, hs, r2]; simp
  · refine .inr ⟨k, ks ++ (if refN h c ≠ [] then [w.length] else []), ?_, ?_, ?_, ?_, ?_⟩
    · rw [e1]; rfl
    · rw [List.length_append]; omega
    · rw [getD_append_left e2]; exact e3
    · rw [getD_append_left e2]; exact e4
    · rw [getD_append_left e2, e5]
      have hp := body_plain (j := w.length - 1 - k) e3 hc e4
      have : writeF h (38 :: ((List.replicate (w.length - 1 - k) ampT).flatten ++ tail (w.getD k 0) c)) = (38 :: ampT) ++ ((List.replicate (w.length - 1 - k) ampT).flatten ++ tail (w.getD k 0) c) := by
        show List.flatMap (sub h) (38 :: _) = _
        rw [List.flatMap_cons, sub_38]
        congr 1
        exact writeF_plain fun x hx => (hp x hx).1
      rw [this, List.length_append, List.length_singleton, show w.length + 1 - 1 - k = (w.length - 1 - k) + 1 by omega, List.replicate_succ, List.flatten_cons]
      simp

theorem read_append {d : Nat} (hd : d < 64) (rest : List Nat) : ∀ (l : List Nat) (h : Nat), readTape h (l ++ d :: rest) = readTape h (l ++ [d]) ++ readTape 0 rest
  | [], h => by simp [readTape, hd]
  | c :: r, h => by
    simp only [List.cons_append, readTape]
    by_cases hc : c < 64
    · rw [if_pos hc, if_pos hc, read_append hd rest r 0]; rfl
    · rw [if_neg hc, if_neg hc, read_append hd rest r _]

theorem read_last {l : List Nat} (hl : l.getLast? = some 59) (rest : List Nat) : readTape 0 (l ++ rest) = readTape 0 l ++ readTape 0 rest := by
  obtain ⟨l', rfl⟩ : ∃ l', l = l' ++ [59] := by
    rw [List.getLast?_eq_some_iff] at hl
    exact hl
  rw [List.append_assoc, List.singleton_append]
  exact read_append (by decide) rest l' 0

theorem read_amps (x : List Nat) : ∀ j, readTape 0 ((List.replicate j ampT).flatten ++ x) = List.replicate j 8838203 ++ readTape 0 x
  | 0 => by simp
  | j + 1 => by
    rw [List.replicate_succ, List.flatten_cons, List.append_assoc, read_last (by decide), read_amps x j, List.replicate_succ]
    rfl

def Good (ls : List Leaf) : Prop := ∀ l ∈ ls, l.1 < 128 ∧ ∀ h ∈ l.2, h < 5

theorem told_read : ∀ (ls : List Leaf) (T : List Nat) (held : Nat), Good ls →
    (ls.foldl toldStep (T, held)).1 ++ [(ls.foldl toldStep (T, held)).2 * 64 + 5] = T ++ readTape held (ls.flatMap expand ++ [5])
  | [], T, held, _ => by simp [readTape]
  | (c, w) :: r, T, held, hg => by
    have hr : Good r := fun l hl => hg l (.tail _ hl)
    have hw : ∀ h ∈ w, h < 5 := (hg (c, w) (.head _)).2
    rw [List.foldl_cons, List.flatMap_cons]
    by_cases hc : 63 < c
    · have e : toldStep (T, held) (c, w) = (T, held * 64 + c - 64) := by simp [toldStep, hc]
      rw [e, told_read r _ _ hr, expand_hi (by omega)]
      simp only [List.cons_append, List.nil_append, readTape]
      rw [if_neg (by omega), show held * 64 + c - 64 = held * 64 + (c - 64) by omega]
    · have hc' : c < 64 := by omega
      rcases expand_lo hc' w hw with ⟨e1, e2⟩ | ⟨k, ks, e1, e2, e3, e4, e5⟩
      · have e : toldStep (T, held) (c, w) = (T ++ [held * 64 + c], 0) := by simp [toldStep, hc, e1]
        rw [e, told_read r _ _ hr, e2]
        simp [readTape, hc']
      · have e : toldStep (T, held) (c, w) = (T ++ [held * 64 + 38] ++ List.replicate (w.length - 1 - k) 8838203 ++ refN (w.getD k 0) c, 0) := by simp [toldStep, hc, e1]
        rw [e, told_read r _ _ hr, e5]
        obtain ⟨t1, t2, _⟩ := tail_reads _ e3 c hc' e4
        simp only [List.cons_append, readTape]
        rw [if_pos (by decide)]
        have e6 : (List.replicate (w.length - 1 - k) ampT).flatten ++ tail (w.getD k 0) c ++ List.flatMap expand r ++ [5] = (List.replicate (w.length - 1 - k) ampT).flatten ++ (tail (w.getD k 0) c ++ (List.flatMap expand r ++ [5])) := by simp only [List.append_assoc]
        rw [e6, read_amps, read_last t2, t1]
        simp only [List.append_assoc, List.cons_append, List.nil_append]

theorem told_is_read {e : Entry} (h1 : e.1 = e.2.flatMap expand) (hg : Good e.2) : toldF e.2 = readTape 0 (e.1 ++ [5]) := by
  have := told_read e.2 [] 0 hg
  unfold toldF
  rw [h1]
  simpa using this

theorem strip_keep {d : Nat} (hd : d < 64) (rest : List Nat) : ∀ (l : List Nat) (head : Bool), (∀ x ∈ l, x ≠ 64) → strip head (l ++ d :: rest) = l ++ d :: strip true rest
  | [], head, _ => by
    simp only [List.nil_append, strip]
    rw [if_neg (by omega)]
    simp [hd]
  | c :: r, head, hl => by
    have hc : c ≠ 64 := hl c (.head _)
    simp only [List.cons_append, strip]
    rw [if_neg (by simp [hc]), strip_keep hd rest r _ fun x hx => hl x (.tail _ hx)]

theorem expand_end {c : Nat} (hc : c < 64) {w : List Nat} (hw : ∀ h ∈ w, h < 5) : ∃ l d, expand (c, w) = l ++ [d] ∧ d < 64 ∧ (∀ x ∈ l, x ≠ 64) ∧ (∀ x ∈ l, x < 128) := by
  rcases expand_lo hc w hw with ⟨e1, e2⟩ | ⟨k, ks, e1, e2, e3, e4, e5⟩
  · exact ⟨[], c, e2, hc, (fun x hx => nomatch hx), (fun x hx => nomatch hx)⟩
  · have hp := body_plain (j := w.length - 1 - k) e3 hc e4
    obtain ⟨t1, t2, _⟩ := tail_reads _ e3 c hc e4
    obtain ⟨l', hl'⟩ := List.getLast?_eq_some_iff.mp t2
    refine ⟨38 :: ((List.replicate (w.length - 1 - k) ampT).flatten ++ l'), 59, ?_, by decide, ?_, ?_⟩
    · rw [e5, hl']; simp
    · intro x hx
      rcases List.mem_cons.mp hx with rfl | hx
      · decide
      · refine (hp x ?_).2.1
        rw [hl']
        rcases List.mem_append.mp hx with h | h
        · exact List.mem_append_left _ h
        · exact List.mem_append_right _ (List.mem_append_left _ h)
    · intro x hx
      rcases List.mem_cons.mp hx with rfl | hx
      · decide
      · refine (hp x ?_).2.2
        rw [hl']
        rcases List.mem_append.mp hx with h | h
        · exact List.mem_append_left _ h
        · exact List.mem_append_right _ (List.mem_append_left _ h)

theorem strip_wn : ∀ (ls : List Leaf) (head : Bool), Good ls → strip head (ls.flatMap expand) = (wn head ls).flatMap expand
  | [], head, _ => rfl
  | (c, w) :: r, head, hg => by
    have hr : Good r := fun l hl => hg l (.tail _ hl)
    have hw : ∀ h ∈ w, h < 5 := (hg (c, w) (.head _)).2
    rw [List.flatMap_cons]
    simp only [wn]
    by_cases hc : c < 64
    · obtain ⟨l, d, e1, e2, e3, _⟩ := expand_end hc hw
      rw [if_neg (by simp; omega), e1, List.append_assoc, List.singleton_append, strip_keep e2 _ _ _ e3, strip_wn r true hr, List.flatMap_cons, e1]
      simp [hc]
    · rw [expand_hi (by omega)]
      simp only [List.cons_append, List.nil_append, strip]
      by_cases hq : c = 64 ∧ head = true
      · rw [if_pos hq, if_pos hq, strip_wn r head hr]
      · rw [if_neg hq, if_neg hq, strip_wn r _ hr, List.flatMap_cons, expand_hi (by omega)]
        rfl

theorem wn_sub : ∀ (ls : List Leaf) (head : Bool), ∀ l ∈ wn head ls, l ∈ ls
  | [], _, l, hl => hl
  | a :: r, head, l, hl => by
    simp only [wn] at hl
    split at hl
    · exact .tail _ (wn_sub r _ l hl)
    · rcases List.mem_cons.mp hl with rfl | hl
      · exact .head _
      · exact .tail _ (wn_sub r _ l hl)
theorem wn_len : ∀ (ls : List Leaf) (head : Bool), (wn head ls).length ≤ ls.length
  | [], _ => Nat.le_refl _
  | a :: r, head => by
    simp only [wn]
    split
    · exact Nat.le_succ_of_le (wn_len r _)
    · exact Nat.succ_le_succ (wn_len r _)

theorem expand_lt {l : Leaf} (h1 : l.1 < 128) (h2 : ∀ h ∈ l.2, h < 5) : ∀ x ∈ expand l, x < 128 := by
  obtain ⟨c, w⟩ := l
  intro x hx
  by_cases hc : c < 64
  · obtain ⟨l, d, e1, e2, e3, e4⟩ := expand_end hc h2
    rw [e1] at hx
    rcases List.mem_append.mp hx with h | h
    · exact e4 x h
    · rw [List.mem_singleton.mp h]; omega
  · rw [expand_hi (by omega)] at hx
    rw [List.mem_singleton.mp hx]; exact h1
theorem expand_len {l : Leaf} (h2 : ∀ h ∈ l.2, h < 5) : (expand l).length ≤ 6 + 4 * l.2.length := by
  obtain ⟨c, w⟩ := l
  by_cases hc : c < 64
  · rcases expand_lo hc w h2 with ⟨e1, e2⟩ | ⟨k, ks, e1, e2, e3, e4, e5⟩
    · rw [e2]; simp; omega
    · obtain ⟨_, _, t3⟩ := tail_reads _ e3 c hc e4
      rw [e5]
      simp only [List.length_cons, List.length_append, List.length_flatten, List.map_replicate, List.sum_replicate_nat]
      have : ampT.length = 4 := rfl
      rw [this]
      omega
  · rw [expand_hi (by omega)]; simp; omega

/-- what holds of the stack -/
structure Fine (n : Nat) (st : List Entry) : Prop where
  text : ∀ e ∈ st, e.1 = e.2.flatMap expand
  good : ∀ e ∈ st, Good e.2
  len : (st.map fun e => e.2.length).sum ≤ 2 + 2 * n
  way : ∀ e ∈ st, ∀ l ∈ e.2, l.2.length ≤ n
  ne : st ≠ []
  deep : st.length ≤ 1 + n

theorem Fine.codes {n : Nat} {st : List Entry} (f : Fine n st) {e : Entry} (he : e ∈ st) : ∀ x ∈ e.1, x < 128 := by
  intro x hx
  rw [f.text e he] at hx
  obtain ⟨l, hl, hx⟩ := List.mem_flatMap.mp hx
  exact expand_lt (f.good e he l hl).1 (f.good e he l hl).2 x hx

theorem flat_len {ls : List Leaf} (hg : Good ls) {n : Nat} (hw : ∀ l ∈ ls, l.2.length ≤ n) : (ls.flatMap expand).length ≤ ls.length * (6 + 4 * n) := by
  induction ls with
  | nil => simp
  | cons a r ih =>
    have h1 := ih (fun l hl => hg l (.tail _ hl)) fun l hl => hw l (.tail _ hl)
    have h2 := expand_len (hg a (.head _)).2
    have h3 := hw a (.head _)
    rw [List.flatMap_cons, List.length_append, List.length_cons, Nat.add_mul]
    omega

theorem sum_mem {l : List Nat} {x : Nat} (h : x ∈ l) : x ≤ l.sum := by
  induction l with
  | nil => cases h
  | cons a r ih =>
    rw [List.sum_cons]
    rcases List.mem_cons.mp h with rfl | h
    · omega
    · have := ih h; omega

theorem Fine.leaves {n : Nat} {st : List Entry} (f : Fine n st) {e : Entry} (he : e ∈ st) : e.2.length ≤ 2 + 2 * n :=
  Nat.le_trans (sum_mem (List.mem_map.mpr ⟨e, he, rfl⟩)) f.len
theorem Fine.size {n : Nat} {st : List Entry} (f : Fine n st) {e : Entry} (he : e ∈ st) : e.1.length ≤ (2 + 2 * n) * (6 + 4 * n) := by
  rw [f.text e he]
  exact Nat.le_trans (flat_len (f.good e he) (f.way e he)) (Nat.mul_le_mul_right _ (f.leaves he))

theorem fine_start : Fine 0 start where
  text := by decide
  good := by
    intro e he l hl
    simp only [start, List.mem_singleton] at he
    subst he
    simp only [List.mem_cons, List.not_mem_nil, or_false] at hl
    rcases hl with rfl | rfl <;> exact ⟨by decide, fun h hh => nomatch hh⟩
  len := by decide
  way := by decide
  ne := by decide
  deep := by decide

theorem fine_push {n : Nat} {st : List Entry} (f : Fine n st) {e : Entry} (h1 : e.1 = e.2.flatMap expand) (h2 : Good e.2) (h3 : e.2.length ≤ 2) (h4 : ∀ l ∈ e.2, l.2.length ≤ n + 1) : Fine (n + 1) (e :: st) where
  text := fun x hx => (List.mem_cons.mp hx).elim (fun q => q ▸ h1) (f.text x)
  good := fun x hx => (List.mem_cons.mp hx).elim (fun q => q ▸ h2) (f.good x)
  len := by rw [List.map_cons, List.sum_cons]; have := f.len; omega
  way := fun x hx => (List.mem_cons.mp hx).elim (fun q => q ▸ h4) fun h l hl => Nat.le_succ_of_le (f.way x h l hl)
  ne := by simp
  deep := by have := f.deep; simp; omega

theorem fine_top {n : Nat} {st : List Entry} {e e' : Entry} (f : Fine n (e :: st)) (h1 : e'.1 = e'.2.flatMap expand) (h2 : Good e'.2) (h3 : e'.2.length ≤ e.2.length) (h4 : ∀ l ∈ e'.2, l.2.length ≤ n + 1) : Fine (n + 1) (e' :: st) where
  text := fun x hx => (List.mem_cons.mp hx).elim (fun q => q ▸ h1) fun h => f.text x (.tail _ h)
  good := fun x hx => (List.mem_cons.mp hx).elim (fun q => q ▸ h2) fun h => f.good x (.tail _ h)
  len := by have := f.len; simp only [List.map_cons, List.sum_cons] at this ⊢; omega
  way := fun x hx => (List.mem_cons.mp hx).elim (fun q => q ▸ h4) fun h l hl => Nat.le_succ_of_le (f.way x (.tail _ h) l hl)
  ne := by simp
  deep := by have := f.deep; simp at this ⊢; omega

theorem fine_join {n : Nat} {st : List Entry} {u l e' : Entry} (f : Fine n (u :: l :: st)) (h1 : e'.1 = e'.2.flatMap expand) (h2 : Good e'.2) (h3 : e'.2.length = u.2.length + l.2.length) (h4 : ∀ x ∈ e'.2, x.2.length ≤ n + 1) : Fine (n + 1) (e' :: st) where
  text := fun x hx => (List.mem_cons.mp hx).elim (fun q => q ▸ h1) fun h => f.text x (.tail _ (.tail _ h))
  good := fun x hx => (List.mem_cons.mp hx).elim (fun q => q ▸ h2) fun h => f.good x (.tail _ (.tail _ h))
  len := by have := f.len; simp only [List.map_cons, List.sum_cons] at this ⊢; omega
  way := fun x hx => (List.mem_cons.mp hx).elim (fun q => q ▸ h4) fun h l hl => Nat.le_succ_of_le (f.way x (.tail _ (.tail _ h)) l hl)
  ne := by simp
  deep := by have := f.deep; simp at this ⊢; omega

theorem menu_lt (y : Nat) : menu y < 128 := by
  have : ∀ k, k < 8 → [38, 60, 62, 34, 13, 10, 9, 64].getD k 0 < 128 := by decide
  exact this _ (Nat.mod_lt _ (by decide))

theorem expand_nil (c : Nat) : expand (c, []) = [c] := rfl

theorem fine_step {n : Nat} {st : List Entry} {d : Nat} (hd : d < 114688) (f : Fine n st) : Fine (n + 1) (stepF st d) := by
  have hne := f.ne
  unfold stepF
  by_cases h0 : d % 7 = 0
  · rw [if_pos h0]
    refine fine_push f rfl ?_ (by simp) ?_
    · intro l hl
      rw [List.mem_singleton.mp hl]
      exact ⟨menu_lt _, fun h hh => nomatch hh⟩
    · intro l hl
      rw [List.mem_singleton.mp hl]
      exact Nat.zero_le _
  · rw [if_neg h0]
    by_cases h1 : (d % 7 = 2 ∨ d % 7 = 3) ∧ 1 < st.length
    · rw [if_pos h1]
      match st, f, h1 with
      | u :: l :: r, f, _ =>
        have hu := f.text u (.head _)
        have hl := f.text l (.tail _ (.head _))
        have gu := f.good u (.head _)
        have gl := f.good l (.tail _ (.head _))
        have wu := f.way u (.head _)
        have wl := f.way l (.tail _ (.head _))
        dsimp only
        by_cases h2 : d % 7 = 2
        · rw [if_pos h2]
          refine fine_join f ?_ ?_ ?_ ?_
          · show l.1 ++ u.1 = (l.2 ++ u.2).flatMap expand
            rw [List.flatMap_append, ← hu, ← hl]
          · intro x hx
            exact (List.mem_append.mp hx).elim (gl x) (gu x)
          · show (l.2 ++ u.2).length = _
            rw [List.length_append]; omega
          · intro x hx
            exact Nat.le_succ_of_le ((List.mem_append.mp hx).elim (wl x) (wu x))
        · rw [if_neg h2]
          refine fine_join f ?_ ?_ ?_ ?_
          · show u.1 ++ l.1 = (u.2 ++ l.2).flatMap expand
            rw [List.flatMap_append, ← hu, ← hl]
          · intro x hx
            exact (List.mem_append.mp hx).elim (gu x) (gl x)
          · show (u.2 ++ l.2).length = _
            rw [List.length_append]
          · intro x hx
            exact Nat.le_succ_of_le ((List.mem_append.mp hx).elim (wu x) (wl x))
    · rw [if_neg h1]
      by_cases h3 : d % 7 < 4
      · rw [if_pos h3]
        refine fine_push f rfl ?_ (by simp) ?_
        · intro l hl
          simp only [List.mem_cons, List.not_mem_nil, or_false] at hl
          rcases hl with rfl | rfl
          · exact ⟨Nat.mod_lt _ (by decide), fun h hh => nomatch hh⟩
          · exact ⟨by show d / 7 / 128 < 128; omega, fun h hh => nomatch hh⟩
        · intro l hl
          simp only [List.mem_cons, List.not_mem_nil, or_false] at hl
          rcases hl with rfl | rfl <;> exact Nat.zero_le _
      · rw [if_neg h3]
        match st, f, hne with
        | e :: r, f, _ =>
          have he := f.text e (.head _)
          have ge := f.good e (.head _)
          have we := f.way e (.head _)
          dsimp only
          by_cases h4 : d % 7 = 4
          · rw [if_pos h4]
            refine fine_top f ?_ ?_ ?_ ?_
            · show packF (readTape 0 (e.1 ++ [5])) = (wn true e.2).flatMap expand
              rw [pack_is_strip _ (f.codes (.head _)), he, strip_wn _ _ ge]
            · exact fun l hl => ge l (wn_sub _ _ l hl)
            · exact wn_len _ _
            · exact fun l hl => Nat.le_succ_of_le (we l (wn_sub _ _ l hl))
          · rw [if_neg h4]
            refine fine_top f ?_ ?_ ?_ ?_
            · show writeF (d / 7 % 5) e.1 = (e.2.map fun l => (l.1, l.2 ++ [d / 7 % 5])).flatMap expand
              rw [he, List.flatMap_map]
              unfold writeF
              rw [List.flatMap_assoc]
              congr 1
              funext l
              exact (expand_snoc l.1 l.2 _).symm
            · intro l hl
              obtain ⟨l', hl', rfl⟩ := List.mem_map.mp hl
              refine ⟨(ge l' hl').1, fun h hh => ?_⟩
              rcases List.mem_append.mp hh with hh | hh
              · exact (ge l' hl').2 h hh
              · rw [List.mem_singleton.mp hh]; exact Nat.mod_lt _ (by decide)
            · show (e.2.map _).length ≤ _
              rw [List.length_map]
              exact Nat.le_refl _
            · intro l hl
              obtain ⟨l', hl', rfl⟩ := List.mem_map.mp hl
              have := we l' hl'
              simp only [List.length_append, List.length_singleton]
              omega

def workF (ds : List Nat) : List Entry := ds.foldl stepF start

theorem fine_fold : ∀ (ds : List Nat) (n : Nat) (st : List Entry), (∀ d ∈ ds, d < 114688) → Fine n st → Fine (n + ds.length) (ds.foldl stepF st)
  | [], n, st, _, f => f
  | d :: r, n, st, hd, f => by
    rw [List.foldl_cons, List.length_cons, show n + (r.length + 1) = (n + 1) + r.length by omega]
    exact fine_fold r (n + 1) _ (fun x hx => hd x (.tail _ hx)) (fine_step (hd d (.head _)) f)

theorem fine_work {ds : List Nat} (hd : ∀ d ∈ ds, d < 114688) : Fine ds.length (workF ds) := by
  have := fine_fold ds 0 start hd fine_start
  rwa [Nat.zero_add] at this

/-- THE PLAIN LAW -/
theorem plain_law {ds : List Nat} (hd : ∀ d ∈ ds, d < 114688) : ∀ e ∈ workF ds, readTape 0 (e.1 ++ [5]) = toldF e.2 :=
  fun e he => (told_is_read ((fine_work hd).text e he) ((fine_work hd).good e he)).symm
end Mine

open PySem PySem.W PyProof.Rows PySem.Calls

namespace Mine
/-- a frozen part of the heap -/
abbrev Fz := Addr → Option Obj
def Fz.put (H : Fz) (a : Addr) (o : Obj) : Fz := fun b => if b = a then some o else H b
theorem Fz.put_self (H : Fz) (a : Addr) (o : Obj) : H.put a o a = some o := by simp [Fz.put]
theorem Fz.put_ne (H : Fz) {a b : Addr} (o : Obj) (h : b ≠ a) : H.put a o b = H b := by simp [Fz.put, h]

structure Kp (os : List Addr) (s s' : Shared) : Prop where
  keep : ∀ b o, b ∉ os → s.heap.get? b = some o → s'.heap.get? b = some o
  dom : ∀ b o, s.heap.get? b = some o → ∃ o', s'.heap.get? b = some o'
  slots : s.heap.UpToSlots s'.heap
  gens : s'.gens = s.gens
  sys : s'.os = s.os
  drw : s'.drawn = s.drawn

theorem Kp.refl (os : List Addr) (s : Shared) : Kp os s s := ⟨fun _ _ _ e => e, fun _ o e => ⟨o, e⟩, .refl _, rfl, rfl, rfl⟩
theorem Kp.trans {os : List Addr} {s₁ s₂ s₃ : Shared} (x : Kp os s₁ s₂) (y : Kp os s₂ s₃) : Kp os s₁ s₃ :=
  ⟨fun b o hb e => y.keep b o hb (x.keep b o hb e), fun b o e => let ⟨o', e'⟩ := x.dom b o e; y.dom b o' e', x.slots.trans y.slots, y.gens.trans x.gens, y.sys.trans x.sys, y.drw.trans x.drw⟩
theorem Kp.of_keeps {os : List Addr} {s s' : Shared} (k : ∀ b o, s.heap.get? b = some o → s'.heap.get? b = some o) (g : s'.gens = s.gens) (q : s'.os = s.os) (d : s'.drawn = s.drawn) : Kp os s s' :=
  ⟨fun b o _ e => k b o e, fun b o e => ⟨o, k b o e⟩, .of_keeps k, g, q, d⟩

structure Bk (os : List Addr) (H : Fz) (s s' : Shared) (H' : Fz) : Prop extends Kp os s s' where
  le : ∀ b o, H b = some o → H' b = some o
  inH : ∀ b o, H' b = some o → s'.heap.get? b = some o
  new : ∀ b o, H' b = some o → H b = some o ∨ s.heap.get? b = none

theorem none_of {h h' : Heap} (d : ∀ b o, h.get? b = some o → ∃ o', h'.get? b = some o') {b : Addr} (e : h'.get? b = none) : h.get? b = none := by
  cases q : h.get? b with
  | none => rfl
  | some o => obtain ⟨o', q'⟩ := d b o q; rw [e] at q'; cases q'

theorem Bk.trans {os : List Addr} {H₁ H₂ H₃ : Fz} {s₁ s₂ s₃ : Shared} (x : Bk os H₁ s₁ s₂ H₂) (y : Bk os H₂ s₂ s₃ H₃) : Bk os H₁ s₁ s₃ H₃ :=
  { x.toKp.trans y.toKp with
    le := fun b o e => y.le b o (x.le b o e)
    inH := y.inH
    new := fun b o e => (y.new b o e).elim (fun e' => x.new b o e') fun e' => .inr (none_of x.dom e') }

/-- the state inside a frame -/
structure Fm (os : List Addr) (s₀ : Shared) (H₀ : Fz) (L : Addr) (m : Str → Option Value) (H : Fz) (mu : List (Addr × Obj)) (s : Shared) : Prop extends Bk os H₀ s₀ s H where
  ns : s.heap.Ns L m
  HL : H L = none
  L0 : s₀.heap.get? L = none
  mus : ∀ p ∈ mu, s.heap.get? p.1 = some p.2 ∧ H p.1 = none ∧ p.1 ≠ L ∧ (s₀.heap.get? p.1 = none ∨ p.1 ∈ os)
  nd : (mu.map (·.1)).Nodup

section
variable {os : List Addr} {s₀ s : Shared} {H₀ H : Fz} {L : Addr} {m : Str → Option Value} {mu : List (Addr × Obj)}

theorem Fm.tok (F : Fm os s₀ H₀ L m H mu s) (k : Nat) : Fm os s₀ H₀ L m H mu { s with toks := k } :=
  { keep := F.keep, dom := F.dom, slots := F.slots, gens := F.gens, sys := F.sys, drw := F.drw, le := F.le, inH := F.inH, new := F.new, ns := F.ns, HL := F.HL, L0 := F.L0, mus := F.mus, nd := F.nd }

/-- the locals change -/
theorem Fm.setL {m' : Str → Option Value} {h' : Heap} {k : Nat} (F : Fm os s₀ H₀ L m H mu s) (hn : h'.Ns L m') (hs : Heap.SameBut L s.heap h') (hL : L ∉ os := by assumption) :
    Fm os s₀ H₀ L m' H mu { s with heap := h', toks := k } where
  keep := fun b o hb e => (hs.2 b (by rintro rfl; rw [F.L0] at e; cases e)).trans (F.keep b o hb e)
  dom := fun b o e => by
    obtain ⟨o', e'⟩ := F.dom b o e
    exact ⟨o', (hs.2 b (by rintro rfl; rw [F.L0] at e; cases e)).trans e'⟩
  slots := fun b o e hn => by
    obtain ⟨sl, e'⟩ := F.slots b o e hn
    exact ⟨sl, (hs.2 b (by rintro rfl; rw [F.L0] at e; cases e)).trans e'⟩
  gens := F.gens
  sys := F.sys
  drw := F.drw
  le := F.le
  inH := fun b o e => (hs.2 b (by rintro rfl; rw [F.HL] at e; cases e)).trans (F.inH b o e)
  new := F.new
  ns := hn
  HL := F.HL
  L0 := F.L0
  mus := fun p hp => let ⟨a, b, c, d⟩ := F.mus p hp; ⟨(hs.2 _ c).trans a, b, c, d⟩
  nd := F.nd

theorem none_at (s : Shared) : s.heap.get? s.heap.objs.size = none := by
  cases e : s.heap.get? s.heap.objs.size with
  | none => rfl
  | some o => exact absurd (Heap.lt_size e) (Nat.lt_irrefl _)

theorem Fm.size0 (F : Fm os s₀ H₀ L m H mu s) : s₀.heap.get? s.heap.objs.size = none := none_of F.dom (none_at s)
theorem Fm.sizeH (F : Fm os s₀ H₀ L m H mu s) : H s.heap.objs.size = none := by
  cases e : H s.heap.objs.size with
  | none => rfl
  | some o => have := F.inH _ _ e; rw [none_at] at this; cases this
theorem Fm.sizeL (F : Fm os s₀ H₀ L m H mu s) : s.heap.objs.size ≠ L := fun e => by
  obtain ⟨o, _, _, ho, _⟩ := F.ns
  rw [← e, none_at] at ho; cases ho
theorem Fm.sizeMu (F : Fm os s₀ H₀ L m H mu s) : ∀ p ∈ mu, p.1 ≠ s.heap.objs.size := fun p hp e => by
  have := (F.mus p hp).1
  rw [e, none_at] at this; cases this

/-- a general growth: everything that is in the state stays, frozen part grows by new things -/
theorem Fm.grow {s' : Shared} {H' : Fz} (F : Fm os s₀ H₀ L m H mu s) (hk : ∀ b o, s.heap.get? b = some o → s'.heap.get? b = some o) (g : s'.gens = s.gens) (q : s'.os = s.os) (d : s'.drawn = s.drawn)
    (le : ∀ b o, H b = some o → H' b = some o) (inH : ∀ b o, H' b = some o → s'.heap.get? b = some o) (new : ∀ b o, H' b = some o → H b = some o ∨ s.heap.get? b = none) :
    Fm os s₀ H₀ L m H' mu s' where
  keep := fun b o hb e => hk _ _ (F.keep b o hb e)
  dom := fun b o e => let ⟨o', e'⟩ := F.dom b o e; ⟨o', hk _ _ e'⟩
  slots := F.slots.trans (.of_keeps hk)
  gens := g.trans F.gens
  sys := q.trans F.sys
  drw := d.trans F.drw
  le := fun b o e => le _ _ (F.le b o e)
  inH := inH
  new := fun b o e => (new b o e).elim (fun e' => F.new b o e') fun e' => .inr (none_of F.dom e')
  ns := F.ns.keeps hk
  HL := by
    cases e : H' L with
    | none => rfl
    | some o => rcases new _ _ e with e' | e'
                · rw [F.HL] at e'; cases e'
                · obtain ⟨o, _, _, ho, _⟩ := F.ns; rw [ho] at e'; cases e'
  L0 := F.L0
  mus := fun p hp => by
    obtain ⟨a, b, c, d⟩ := F.mus p hp
    refine ⟨hk _ _ a, ?_, c, d⟩
    cases e : H' p.1 with
    | none => rfl
    | some o => rcases new _ _ e with e' | e'
                · rw [b] at e'; cases e'
                · rw [a] at e'; cases e'
  nd := F.nd
theorem Fm.grow0 {s' : Shared} (F : Fm os s₀ H₀ L m H mu s) (hk : ∀ b o, s.heap.get? b = some o → s'.heap.get? b = some o) (g : s'.gens = s.gens) (q : s'.os = s.os) (d : s'.drawn = s.drawn) : Fm os s₀ H₀ L m H mu s' :=
  F.grow hk g q d (fun _ _ e => e) (fun b o e => hk _ _ (F.inH b o e)) fun _ _ e => .inl e

theorem Fm.noneH (F : Fm os s₀ H₀ L m H mu s) {a : Addr} (ha : s.heap.get? a = none) : H a = none := by
  cases e : H a with
  | none => rfl
  | some o => have := F.inH _ _ e; rw [ha] at this; cases this
theorem Fm.neL (F : Fm os s₀ H₀ L m H mu s) {a : Addr} (ha : s.heap.get? a = none) : a ≠ L := fun e => by
  obtain ⟨o, _, _, ho, _⟩ := F.ns
  rw [← e, ha] at ho; cases ho
theorem Fm.neMu (F : Fm os s₀ H₀ L m H mu s) {a : Addr} (ha : s.heap.get? a = none) : ∀ p ∈ mu, p.1 ≠ a := fun p hp e => by
  have := (F.mus p hp).1
  rw [e, ha] at this; cases this

/-- a new frozen thing -/
theorem Fm.push {a : Addr} {s' : Shared} {o : Obj} (F : Fm os s₀ H₀ L m H mu s) (ha : s.heap.get? a = none) (hk : ∀ b o, s.heap.get? b = some o → s'.heap.get? b = some o) (ho : s'.heap.get? a = some o)
    (g : s'.gens = s.gens := by rfl) (q : s'.os = s.os := by rfl) (d : s'.drawn = s.drawn := by rfl) : Fm os s₀ H₀ L m (H.put a o) mu s' :=
  F.grow hk g q d (fun b o' e => by
      rw [Fz.put_ne]; exact e
      rintro rfl; rw [F.noneH ha] at e; cases e)
    (fun b o' e => by
      by_cases hb : b = a
      · subst hb; rw [Fz.put_self] at e; cases e; exact ho
      · rw [Fz.put_ne _ _ hb] at e; exact hk _ _ (F.inH _ _ e))
    fun b o' e => by
      by_cases hb : b = a
      · subst hb; exact .inr ha
      · rw [Fz.put_ne _ _ hb] at e; exact .inl e

/-- a new thing of the frame's own that may change -/
theorem Fm.pushMu {a : Addr} {s' : Shared} {o : Obj} (F : Fm os s₀ H₀ L m H mu s) (ha : s.heap.get? a = none) (hk : ∀ b o, s.heap.get? b = some o → s'.heap.get? b = some o) (ho : s'.heap.get? a = some o)
    (g : s'.gens = s.gens := by rfl) (q : s'.os = s.os := by rfl) (d : s'.drawn = s.drawn := by rfl) : Fm os s₀ H₀ L m H ((a, o) :: mu) s' :=
  let F' := F.grow0 (s' := s') hk g q d
  { F' with
    mus := fun p hp => by
      rcases List.mem_cons.mp hp with rfl | hp
      · exact ⟨ho, F.noneH ha, F.neL ha, .inl (none_of F.dom ha)⟩
      · exact F'.mus p hp
    nd := by
      rw [List.map_cons, List.nodup_cons]
      refine ⟨fun hm => ?_, F.nd⟩
      obtain ⟨p, hp, e⟩ := List.mem_map.mp hm
      exact F.neMu ha p hp e }

theorem Fm.perm {mu' : List (Addr × Obj)} (F : Fm os s₀ H₀ L m H mu s) (p : mu.Perm mu') : Fm os s₀ H₀ L m H mu' s :=
  { F with
    mus := fun x hx => F.mus x (p.mem_iff.mpr hx)
    nd := (p.map _).nodup_iff.mp F.nd }

/-- the first of the changing things changes -/
theorem Fm.setMu {a : Addr} {o o' : Obj} {h' : Heap} {k : Nat} (F : Fm os s₀ H₀ L m H ((a, o) :: mu) s) (hs : ∀ b o, b ≠ a → s.heap.get? b = some o → h'.get? b = some o) (ho : h'.get? a = some o') (h0 : s₀.heap.get? a = none) :
    Fm os s₀ H₀ L m H ((a, o') :: mu) { s with heap := h', toks := k } :=
  have A := F.mus (a, o) (.head _)
  have ne0 : ∀ b o, s₀.heap.get? b = some o → b ≠ a := fun b o e q => by subst q; rw [h0] at e; cases e
  { keep := fun b o hb e => hs _ _ (ne0 b o e) (F.keep b o hb e)
    dom := fun b o e => let ⟨o', e'⟩ := F.dom b o e; ⟨o', hs _ _ (ne0 b o e) e'⟩
    slots := fun b o e hn => let ⟨sl, e'⟩ := F.slots b o e hn; ⟨sl, hs _ _ (ne0 b o e) e'⟩
    gens := F.gens
    sys := F.sys
    drw := F.drw
    le := F.le
    inH := fun b o e => hs _ _ (by rintro rfl; rw [A.2.1] at e; cases e) (F.inH b o e)
    new := F.new
    ns := F.ns.extBut hs (Ne.symm A.2.2.1)
    HL := F.HL
    L0 := F.L0
    mus := fun p hp => by
      rcases List.mem_cons.mp hp with rfl | hp'
      · exact ⟨ho, A.2⟩
      · have := F.mus p (.tail _ hp')
        refine ⟨hs _ _ (fun e => ?_) this.1, this.2⟩
        have nd := F.nd
        rw [List.map_cons, List.nodup_cons] at nd
        exact nd.1 (List.mem_map.mpr ⟨p, hp', e⟩)
    nd := F.nd }

theorem Fm.swap {p q : Addr × Obj} (F : Fm os s₀ H₀ L m H (p :: q :: mu) s) : Fm os s₀ H₀ L m H (q :: p :: mu) s :=
  { F with
    mus := fun x hx => F.mus x (by simp only [List.mem_cons] at hx ⊢; rcases hx with h | h | h <;> simp [h])
    nd := by
      have nd := F.nd
      simp only [List.map_cons, List.nodup_cons, List.mem_cons, not_or] at nd ⊢
      exact ⟨⟨fun e => nd.1.1 e.symm, nd.2.1⟩, nd.1.2, nd.2.2⟩ }
theorem Fm.drop {p : Addr × Obj} (F : Fm os s₀ H₀ L m H (p :: mu) s) : Fm os s₀ H₀ L m H mu s :=
  { F with
    mus := fun x hx => F.mus x (.tail _ hx)
    nd := (List.nodup_cons.mp F.nd).2 }
/-- the first of the changing things is frozen -/
theorem Fm.freeze {a : Addr} {o : Obj} (F : Fm os s₀ H₀ L m H ((a, o) :: mu) s) (h0 : s₀.heap.get? a = none) : Fm os s₀ H₀ L m (H.put a o) mu s :=
  have A := F.mus (a, o) (.head _)
  { F.drop with
    le := fun b o' e => by
      rw [Fz.put_ne]; exact F.le _ _ e
      rintro rfl; have := F.le _ _ e; rw [A.2.1] at this; cases this
    inH := fun b o' e => by
      by_cases hb : b = a
      · subst hb; rw [Fz.put_self] at e; cases e; exact A.1
      · rw [Fz.put_ne _ _ hb] at e; exact F.inH _ _ e
    new := fun b o' e => by
      by_cases hb : b = a
      · subst hb; exact .inr h0
      · rw [Fz.put_ne _ _ hb] at e; exact F.new _ _ e
    HL := by rw [Fz.put_ne _ _ (Ne.symm A.2.2.1)]; exact F.HL
    mus := fun p hp => by
      have := F.mus p (.tail _ hp)
      refine ⟨this.1, ?_, this.2.2⟩
      rw [Fz.put_ne]; exact this.2.1
      intro e
      have nd := F.nd
      rw [List.map_cons, List.nodup_cons] at nd
      exact nd.1 (List.mem_map.mpr ⟨p, hp, e⟩) }

/-- a call of a def comes back -/
theorem Fm.back {s' : Shared} {H' : Fz} (F : Fm os s₀ H₀ L m H mu s) (b : Bk (L :: os) H s s' H') (hos : ∀ b ∈ os, ∃ o, s₀.heap.get? b = some o) (hmu : ∀ p ∈ mu, s₀.heap.get? p.1 = none) :
    Fm os s₀ H₀ L m H' mu s' where
  keep := fun x o hb e => b.keep x o (by
    rintro (_ | ⟨_, hx⟩)
    · rw [F.L0] at e; cases e
    · exact hb hx) (F.keep x o hb e)
  dom := fun x o e => let ⟨o', e'⟩ := F.dom x o e; b.dom x o' e'
  slots := F.slots.trans b.slots
  gens := b.gens.trans F.gens
  sys := b.sys.trans F.sys
  drw := b.drw.trans F.drw
  le := fun x o e => b.le _ _ (F.le x o e)
  inH := b.inH
  new := fun x o e => (b.new x o e).elim (fun e' => F.new x o e') fun e' => .inr (none_of F.dom e')
  ns := b.slots.ns F.ns
  HL := by
    cases e : H' L with
    | none => rfl
    | some o => rcases b.new _ _ e with e' | e'
                · rw [F.HL] at e'; cases e'
                · obtain ⟨o, _, _, ho, _⟩ := F.ns; rw [ho] at e'; cases e'
  L0 := F.L0
  mus := fun p hp => by
    obtain ⟨a1, a2, a3, a4⟩ := F.mus p hp
    have h0 := hmu p hp
    refine ⟨b.keep _ _ ?_ a1, ?_, a3, a4⟩
    · intro hm
      rcases List.mem_cons.mp hm with e | hm
      · exact a3 e
      · obtain ⟨o, ho⟩ := hos _ hm; rw [h0] at ho; cases ho
    · cases e : H' p.1 with
      | none => rfl
      | some o => rcases b.new _ _ e with e' | e'
                  · rw [a2] at e'; cases e'
                  · rw [a1] at e'; cases e'
  nd := F.nd
end
end Mine

namespace Mine
def fName : Stmt → Str
  | .FunctionDef n _ _ _ _ _ _ _ _ _ => n
  | _ => Str.ofString ""
def fArgs : Stmt → Arguments
  | .FunctionDef _ a _ _ _ _ _ _ _ _ => a
  | _ => default
def fBody : Stmt → List Stmt
  | .FunctionDef _ _ b _ _ _ _ _ _ _ => b
  | _ => []
def fScope : Stmt → Scope
  | .FunctionDef _ _ _ _ _ _ s _ _ _ => s
  | _ => default
/-- the i-th statement of the text -/
def fd (i : Nat) : Stmt := PySem.Challenge.pw_pg0100_01.main.body.getD i (.Pass default)

def FnIn (B : Heap) (mg : Str → Option Value) (i : Nat) : Prop :=
  ∃ a o pm code doc, mg (fName (fd i)) = some (.ref a) ∧ B.get? a = some o ∧ o.data = .func (docDef (fName (fd i)) (fArgs (fd i)) (fBody (fd i)) (fScope (fd i)) pm code doc) ∧ B.CodeRec code (fName (fd i))

def usedNames : List Str := [Str.ofString "ord", Str.ofString "chr", Str.ofString "iter", Str.ofString "next", Str.ofString "len", Str.ofString "range", Str.ofString "StopIteration"]

/-- what the call finds at the top -/
structure Gd (B : Heap) (mg mb : Str → Option Value) : Prop where
  g : B.Ns mainGlobals mg
  b : B.Ns builtinsNs mb
  nolimit : B.NoLimit
  fn : ∀ i ∈ [2, 3, 4, 5, 6, 8, 10, 11, 12, 13, 14, 15, 16, 17], FnIn B mg i
  free : ∀ x ∈ usedNames, mg x = none ∧ mb x = bootBuiltins x

/-- the stack of frames around -/
structure Sit (A : Around) (envs : List Env) (os : List Addr) (s : Shared) : Prop where
  fr : A.frames = some envs
  hd : A.handled = none
  dp : A.depth < 400
  un : A.units < 400
  os : envs.filterMap (·.frame) = os
  ok : ∀ env ∈ envs, env.scope.kind ≠ .module ∧ ∃ L o, env.frame = some L ∧ s.heap.get? L = some o ∧ ∀ vs, o.data ≠ .fields vs

/-- the call comes back with a value -/
def Ret (P : Value → Shared → Prop) (r : Result) (s' : Shared) : Prop := ∃ v, r = .ok (.ret v) ∧ P v s'
theorem ret_of {M : Model} {A : Around} {c : Code} {P Q : Value → Shared → Prop} {E : Value → Shared → Prop} {s : Shared} (h : codeAny M A c (Ret P) s) (k : ∀ v s', P v s' → Q v s') :
    codeAny M A c (fun r s' => match r with | .ok (.ret v) => Q v s' | .ok _ => False | .error e => E e s') s :=
  codeAny_mono h fun r s' ⟨v, e, p⟩ => by subst e; exact k v s' p

def Base (B : Heap) (H : Fz) : Prop := ∀ b o, B.get? b = some o → H b = some o

theorem Base.mono {B : Heap} {H H' : Fz} (hB : Base B H) (le : ∀ b o, H b = some o → H' b = some o) : Base B H' := fun b o e => le _ _ (hB b o e)

section
variable {os : List Addr} {s₀ s : Shared} {H₀ H : Fz} {L : Addr} {m : Str → Option Value} {mu : List (Addr × Obj)} {M : Model} {A : Around} {E : Value → Shared → Prop} {env : Env} {B : Heap} {mg mb : Str → Option Value}

theorem Fm.stay (F : Fm os s₀ H₀ L m H mu s) (hB : Base B H₀) : ∀ b o, B.get? b = some o → s.heap.get? b = some o := fun b o e => F.inH _ _ (F.le _ _ (hB b o e))

theorem cInt {i : Int} {k : Nat} {pos : Pos} {Q : Value → Shared → Prop} (F : Fm os s₀ H₀ L m H mu s) (h : ∀ t s', Fm os s₀ H₀ L m H mu s' → Q (.int i t) s') :
    wpAny M A (eval (.Constant (.int i) k pos) env) Q E s := wpAny_Constant_int (h _ _ (F.tok _))
theorem cBool {b : Bool} {k : Nat} {pos : Pos} {Q : Value → Shared → Prop} (h : Q (.bool b) s) : wpAny M A (eval (.Constant (.bool b) k pos) env) Q E s := wpAny_Constant_bool h
theorem cStr {x : Str} {k : Nat} {pos : Pos} {Q : Value → Shared → Prop} (F : Fm os s₀ H₀ L m H mu s) (h : ∀ t s', Fm os s₀ H₀ L m H mu s' → Q (.str x t) s') :
    wpAny M A (eval (.Constant (.str x) k pos) env) Q E s := wpAny_Constant_str (h _ _ (F.tok _))

theorem ldL {x : Str} {pos : Pos} {v : Value} {Q : Value → Shared → Prop} (F : Fm os s₀ H₀ L m H mu s) (hv : m x = some v) (h : Q v s)
    (hk : env.scope.kind = .function := by rfl) (hL : env.locals = L := by rfl) (hl : env.kindOf x = some .local := by rfl) (hd : (x == ("__debug__" : Str)) = false := by decide) :
    wpAny M A (eval (.Name x pos) env) Q E s := wpAny_Name (wpAny_loadName_local hk hl (hL ▸ F.ns) hv h) hd
theorem ldLn {x : Str} {v : Value} {Q : Value → Shared → Prop} (F : Fm os s₀ H₀ L m H mu s) (hv : m x = some v) (h : Q v s)
    (hk : env.scope.kind = .function := by rfl) (hL : env.locals = L := by rfl) (hl : env.kindOf x = some .local := by rfl) :
    wpAny M A (loadName env x) Q E s := wpAny_loadName_local hk hl (hL ▸ F.ns) hv h

def up (m : Str → Option Value) (x : Str) (v : Value) : Str → Option Value := fun y => if y = x then some v else m y

theorem stL {x : Str} {v : Value} {Q : Unit → Shared → Prop} (F : Fm os s₀ H₀ L m H mu s) (hL0 : L ∉ os) (h : ∀ s', s'.toks = s.toks + 1 → Fm os s₀ H₀ L (up m x v) H mu s' → Q () s')
    (hk : env.scope.kind = .function := by rfl) (hL : env.locals = L := by rfl) (hl : env.kindOf x = some .local := by rfl) :
    wpAny M A (storeName env x v) Q E s := by
  subst hL
  exact wpAny_storeName_local hl F.ns (fun h' hn hs => h _ rfl (F.setL hn hs hL0)) (by rw [hk]; rfl)

theorem ldB {x : Str} {pos : Pos} {v : Value} {Q : Value → Shared → Prop} (G : Gd B mg mb) (hB : Base B H₀) (F : Fm os s₀ H₀ L m H mu s) (hx : x ∈ usedNames) (hv : bootBuiltins x = some v) (h : Q v s)
    (hk : env.scope.kind = .function := by rfl) (hg : env.globals = mainGlobals := by rfl) (hb : env.builtins = builtinsNs := by rfl) (hl : env.kindOf x = some .globalImplicit := by rfl) (hd : (x == ("__debug__" : Str)) = false := by decide) :
    wpAny M A (eval (.Name x pos) env) Q E s :=
  Name_function_global hk hl (loadGlobal_builtin (by rw [hg]; exact G.g.keeps (F.stay hB)) (G.free x hx).1 (by rw [hb]; exact G.b.keeps (F.stay hB)) ((G.free x hx).2.trans hv) h) hd

theorem ldF {i : Nat} {x : Str} {pos : Pos} {Q : Value → Shared → Prop} (G : Gd B mg mb) (hB : Base B H₀) (F : Fm os s₀ H₀ L m H mu s) (hi : i ∈ [2, 3, 4, 5, 6, 8, 10, 11, 12, 13, 14, 15, 16, 17]) (hx : fName (fd i) = x)
    (h : ∀ a o pm code doc, mg x = some (.ref a) → s.heap.get? a = some o → o.data = .func (docDef (fName (fd i)) (fArgs (fd i)) (fBody (fd i)) (fScope (fd i)) pm code doc) → Q (.ref a) s)
    (hk : env.scope.kind = .function := by rfl) (hg : env.globals = mainGlobals := by rfl) (hl : env.kindOf x = some .globalImplicit := by rfl) (hd : (x == ("__debug__" : Str)) = false := by decide) :
    wpAny M A (eval (.Name x pos) env) Q E s := by
  obtain ⟨a, o, pm, code, doc, h1, h2, h3, h4⟩ := G.fn i hi
  rw [hx] at h1
  exact Name_function_global hk hl (loadGlobal_global (by rw [hg]; exact G.g.keeps (F.stay hB)) h1 (h a o pm code doc h1 (F.stay hB _ _ h2) h3)) hd
end

section
variable {prog : Program} {w : World} {B : Heap} {mg mb : Str → Option Value}

/-- the entry of a def without cells -/
theorem enter {i : Nat} {A : Around} {s : Shared} {H₀ : Fz} {os : List Addr} {a : Addr} {args : List Value} {binds : List (Str × Value)} {R : Result → Shared → Prop} (G : Gd B mg mb) (hB : Base B H₀)
    (hH : ∀ b o, H₀ b = some o → s.heap.get? b = some o) (hi : i ∈ [2, 3, 4, 5, 6, 8, 10, 11, 12, 13, 14, 15, 16, 17]) (ha : mg (fName (fd i)) = some (.ref a)) (hd : A.depth < 400)
    (hbind : ∀ pm cd doc, bindArgs (docDef (fName (fd i)) (fArgs (fd i)) (fBody (fd i)) (fScope (fd i)) pm cd doc) ⟨args, []⟩ = pure binds) (hloc : ∀ x ∈ binds, (fScope (fd i)).names.lookup x.1 = some .local)
    (h : ∀ cd s', s'.toks = s.toks + binds.length → Fm os s H₀ s.heap.objs.size (fun x => binds.reverse.lookup x) H₀ [] s' →
      wpAny (model prog w) (A.deeper (envOf (fName (fd i)) (fScope (fd i)) s.heap.objs.size a cd)) (execs (fBody (fd i)) (envOf (fName (fd i)) (fScope (fd i)) s.heap.objs.size a cd))
        (fun f s' => R (.ok (.ret (match f with | .ret v => v | _ => .none))) s') (fun _ _ => False) s')
    (hco : (fScope (fd i)).isCoroutine = false := by rfl) (hgen : (fScope (fd i)).isGenerator = false := by rfl) (hk : (fScope (fd i)).kind = .function := by rfl)
    (hcell : ∀ x ∈ (fScope (fd i)).names, x.2 ≠ .cell := by decide) :
    codeAny (model prog w) A (.call (.ref a) ⟨args, []⟩) R s := by
  obtain ⟨a', o, pm, code, doc, h1, h2, h3, h4⟩ := G.fn i hi
  rw [ha] at h1
  obtain rfl : a = a' := by injection h1 with h1; injection h1
  have st : ∀ b o, B.get? b = some o → s.heap.get? b = some o := fun b o e => hH _ _ (hB _ _ e)
  refine call_plain_ret (by show A.depth < 1000; omega) (st _ _ h2) h3 (G.nolimit.keeps st) (h4.keeps st) (hbind _ _ _) hloc (fun h₁ F => h code _ rfl ?_) hco hgen hk hcell
  exact
    { keep := fun b o _ e => F.keep b o e
      dom := fun b o e => ⟨o, F.keep b o e⟩
      slots := .of_keeps F.keep
      gens := rfl
      sys := rfl
      drw := rfl
      le := fun _ _ e => e
      inH := fun b o e => F.keep _ _ (hH _ _ e)
      new := fun _ _ e => .inl e
      ns := F.ns
      HL := by
        cases e : H₀ s.heap.objs.size with
        | none => rfl
        | some o => have := hH _ _ e; rw [none_at] at this; cases this
      L0 := none_at s
      mus := fun p hp => nomatch hp
      nd := .nil }
end
end Mine

namespace Mine
theorem up_self (m : Str → Option Value) (x : Str) (v : Value) : up m x v x = some v := by simp [up]
theorem up_ne (m : Str → Option Value) {x y : Str} (v : Value) (h : y ≠ x) : up m x v y = m y := by simp [up, h]

/-! one sign replaced -/
def rep (c : Nat) (z : List Nat) (l : List Nat) : List Nat := l.flatMap fun k => if k = c then z else [k]
theorem rep_free {c : Nat} {z : List Nat} : ∀ {l : List Nat}, c ∉ l → rep c z l = l
  | [], _ => rfl
  | k :: r, h => by
    have h1 : ¬ k = c := fun e => h (e ▸ List.mem_cons_self ..)
    have h2 : c ∉ r := fun q => h (List.mem_cons_of_mem _ q)
    have := rep_free (z := z) h2
    unfold rep at this ⊢
    rw [List.flatMap_cons, this, if_neg h1]; rfl
theorem rep_append (c : Nat) (z a b : List Nat) : rep c z (a ++ b) = rep c z a ++ rep c z b := List.flatMap_append
theorem rep_join (c : Nat) (z : Str) : ∀ parts : List Str, (∀ p ∈ parts, c ∉ p.cps.toList) → rep c z.cps.toList (Str.join ⟨#[c]⟩ parts).cps.toList = (Str.join z parts).cps.toList
  | [], _ => rfl
  | [p], h => rep_free (h p (List.mem_singleton.mpr rfl))
  | p :: q :: r, h => by
    have ih := rep_join c z (q :: r) fun a ha => h a (List.mem_cons_of_mem _ ha)
    show rep c _ (p ++ ⟨#[c]⟩ ++ Str.join ⟨#[c]⟩ (q :: r)).cps.toList = (p ++ z ++ Str.join z (q :: r)).cps.toList
    simp only [Str.cps_append, Array.toList_append]
    rw [rep_append, rep_append, ih, rep_free (h p (List.mem_cons_self ..))]
    congr 2
    show rep c _ [c] = _
    simp [rep]
theorem replace_flat (x z : Str) (c : Nat) : (Txt.replace x ⟨#[c]⟩ z).cps.toList = rep c z.cps.toList x.cps.toList := by
  rw [StrLaws.replace_one, ← rep_join c z _ (StrLaws.split_free x c), StrLaws.join_split]
theorem str_ext {x y : Str} (h : x.cps.toList = y.cps.toList) : x = y := by
  obtain ⟨⟨a⟩⟩ := x; obtain ⟨⟨b⟩⟩ := y
  simp only at h
  rw [h]
theorem replace_same {x : Str} {c : Nat} {z : Str} (h : Txt.contains x ⟨#[c]⟩ = false) : Txt.replace x ⟨#[c]⟩ z = x := by
  have : decide (c ∈ x.cps.toList) = false := (StrLaws.found_one x c).symm.trans h
  exact str_ext ((replace_flat x z c).trans (rep_free (of_decide_eq_false this)))

section
variable {os : List Addr} {s₀ s : Shared} {H₀ H : Fz} {L : Addr} {m : Str → Option Value} {mu : List (Addr × Obj)} {prog : Program} {w : World} {A : Around} {E : Value → Shared → Prop} {B : Heap} {mg mb : Str → Option Value}
  {name : Str} {scope : Scope} {fa : Addr} {cd : Value}

theorem esc_if {x y z : Str} {c : Nat} {tv : Str} {t : Tok} {Q : Flow → Shared → Prop} {k1 k2 k3 : Nat} {p1 p2 p3 p5 p6 p7 p8 p9 p10 p11 p12 : Pos} (F : Fm os s₀ H₀ L m H mu s) (hm : m tv = some (.str x t)) (hL0 : L ∉ os)
    (hx : x.length ≤ 1048576) (hy : y = ⟨#[c]⟩) (hz : z.length ≤ 14) (hcz : (y == z) = false)
    (h : ∀ m' s' t', m' tv = some (.str (Txt.replace x ⟨#[c]⟩ z) t') → Fm os s₀ H₀ L m' H mu s' → Q .next s')
    (hk : scope.kind = .function := by rfl) (hl : (envOf name scope L fa cd).kindOf tv = some .local := by rfl) (hd : (tv == ("__debug__" : Str)) = false := by decide)
    (hln : (p9.endLine == p10.line) = true := by rfl)
    (hbase : attributeBase (.Name tv p8) "replace" (envOf name scope L fa cd) (eval (.Name tv p8) (envOf name scope L fa cd)) = eval (.Name tv p8) (envOf name scope L fa cd) := by rfl)
    (hsw : swapsWith (.Call (.Attribute (.Name tv p8) "replace" p9) [.Constant (.str y) k2 p6, .Constant (.str z) k3 p7] [] p10) (some (.Name tv p5)) p11.line (envOf name scope L fa cd) = pure false := by rfl) :
    wpAny (model prog w) A (exec (.If (.Compare (.Constant (.str y) k1 p1) [.In] [.Name tv p2] p3)
      [.Assign [.Name tv p5] (.Call (.Attribute (.Name tv p8) "replace" p9) [.Constant (.str y) k2 p6, .Constant (.str z) k3 p7] [] p10) p11] [] p12) (envOf name scope L fa cd)) Q E s := by
  refine wpAny_If (wpAny_isTrue_Compare1 ?_)
  refine wpAny_Constant_str ?_
  refine ldL (F.tok _) hm ?_ hk rfl hl hd
  refine SB.contains ?_
  refine wpAny_truthy_bool ?_
  rw [hy]
  cases hc : Txt.contains x ⟨#[c]⟩ with
  | false =>
    rw [if_neg Bool.false_ne_true]
    refine wpAny_execs_nil (h m _ t ?_ (F.tok _))
    rw [replace_same hc]; exact hm
  | true =>
    rw [if_pos rfl, ← hy]
    refine wpAny_execs_cons (wpAny_Assign_Name ?_ hsw)
    refine Call_method2 hbase rfl hln ?_
    refine ldL (F.tok _) hm ?_ hk rfl hl hd
    refine ⟨"str", "str.replace", PySem.F.plainAttrs_str, PySem.F.slot_str_replace, PySem.F.type_str_replace, typeIs_str _ _ _, (fun _ e => nomatch e), ?_⟩
    refine callWith_builtin rfl (evalArgs_plain (spliced_cons ?_))
    refine wpAny_Constant_str (spliced_cons ?_)
    refine wpAny_Constant_str (spliced_nil ?_)
    refine SC.replaceW (Nat.succ_ne_zero _) (Nat.succ_ne_zero _) (Nat.ne_of_lt (Nat.lt_succ_self _)) hcz hx hz fun t' k => ?_
    refine stL (F.tok _) hL0 (fun s' _ F' => ?_) hk rfl hl
    refine wpAny_execs_nil (h _ s' t' ?_ F')
    rw [up_self, hy]
end

/-- several signs replaced, one behind the other -/
def rs (ch : List (Nat × Str)) (x : Str) : Str := ch.foldl (fun x p => Txt.replace x ⟨#[p.1]⟩ p.2) x
def rl (ch : List (Nat × Str)) (l : List Nat) : List Nat := ch.foldl (fun l p => rep p.1 p.2.cps.toList l) l
theorem rs_rl : ∀ (ch : List (Nat × Str)) (x : Str), (rs ch x).cps.toList = rl ch x.cps.toList
  | [], _ => rfl
  | p :: r, x => by
    show (rs r (Txt.replace x ⟨#[p.1]⟩ p.2)).cps.toList = rl r (rep p.1 p.2.cps.toList x.cps.toList)
    rw [rs_rl r, replace_flat]
theorem rl_flat : ∀ (ch : List (Nat × Str)) (l : List Nat) (f : Nat → List Nat), rl ch (l.flatMap f) = l.flatMap fun k => rl ch (f k)
  | [], _, _ => rfl
  | p :: r, l, f => by
    show rl r (rep p.1 p.2.cps.toList (l.flatMap f)) = l.flatMap fun k => rl r (rep p.1 p.2.cps.toList (f k))
    rw [show rep p.1 p.2.cps.toList (l.flatMap f) = l.flatMap fun k => rep p.1 p.2.cps.toList (f k) from List.flatMap_assoc, rl_flat r]
theorem rl_signs (ch : List (Nat × Str)) (l : List Nat) : rl ch l = l.flatMap fun k => rl ch [k] := by
  have := rl_flat ch l fun k => [k]
  rwa [show (l.flatMap fun k => [k]) = l by simp] at this
theorem rl_other : ∀ (ch : List (Nat × Str)) {k : Nat}, (ch.all fun p => special p.1) = true → special k = false → rl ch [k] = [k]
  | [], _, _, _ => rfl
  | p :: r, k, h, hk => by
    simp only [List.all_cons, Bool.and_eq_true] at h
    show rl r (rep p.1 p.2.cps.toList [k]) = [k]
    have : k ≠ p.1 := fun e => by rw [e, h.1] at hk; cases hk
    rw [rep_free (by simpa using fun e => this e.symm), rl_other r h.2 hk]

def specials : List Nat := [38, 60, 62, 34, 13, 10, 9]
theorem special_cases {P : Nat → Prop} {k : Nat} (h1 : special k = false → P k) (h2 : ∀ x ∈ specials, P x) : P k := by
  cases hk : special k with
  | false => exact h1 hk
  | true =>
    refine h2 k ?_
    simp only [special, Bool.or_eq_true, beq_iff_eq] at hk
    simp only [specials, List.mem_cons, List.not_mem_nil, or_false]
    omega

def chOk (ch : List (Nat × Str)) : Bool := (ch.all fun p => special p.1) && specials.all fun k => decide ((rl ch [k]).length ≤ 6)
theorem flat_bound {f : Nat → List Nat} {n : Nat} (h : ∀ k, (f k).length ≤ n) : ∀ l : List Nat, (l.flatMap f).length ≤ n * l.length
  | [] => by simp
  | k :: r => by
    have h1 := flat_bound h r
    have h2 := h k
    rw [List.flatMap_cons, List.length_append, List.length_cons, Nat.mul_add]
    omega
theorem len_toList (x : Str) : x.length = x.cps.toList.length := by simp [PySem.Str.length]
theorem rs_len {ch : List (Nat × Str)} {x : Str} (h : chOk ch = true) (hx : x.length ≤ 150000) : (rs ch x).length ≤ 1048576 := by
  simp only [chOk, Bool.and_eq_true] at h
  rw [len_toList, rs_rl, rl_signs]
  have : ∀ k, (rl ch [k]).length ≤ 6 := fun k => special_cases (P := fun k => (rl ch [k]).length ≤ 6) (fun hk => by rw [rl_other ch h.1 hk]; simp) fun x hx => of_decide_eq_true (List.all_eq_true.mp h.2 x hx)
  have h1 := flat_bound this x.cps.toList
  rw [← len_toList] at h1
  omega
theorem rs_write {ch : List (Nat × Str)} {x : Str} {h : Nat} (h1 : (ch.all fun p => special p.1) = true) (h2 : (specials.all fun k => rl ch [k] == sub h k) = true) : rs ch x = ⟨(writeF h x.cps.toList).toArray⟩ := by
  apply str_ext
  rw [rs_rl, rl_signs]
  show _ = writeF h x.cps.toList
  unfold writeF
  congr 1
  funext k
  exact special_cases (P := fun k => rl ch [k] = sub h k) (fun hk => by rw [rl_other ch h1 hk, sub_plain hk]) fun x hx => eq_of_beq (List.all_eq_true.mp h2 x hx)

def amp : Nat × Str := (38, Str.ofString "&amp;")
def lt : Nat × Str := (60, Str.ofString "&lt;")
def gt : Nat × Str := (62, Str.ofString "&gt;")
def quot : Nat × Str := (34, Str.ofString "&quot;")
def cr13 : Nat × Str := (13, Str.ofString "&#13;")
def nl10 : Nat × Str := (10, Str.ofString "&#10;")
def tab09 : Nat × Str := (9, Str.ofString "&#09;")
def crD : Nat × Str := (13, Str.ofString "&#xD;")
def nlA : Nat × Str := (10, Str.ofString "&#xA;")
def tab9 : Nat × Str := (9, Str.ofString "&#x9;")

section
variable {prog : Program} {w : World} {B : Heap} {mg mb : Str → Option Value} {A : Around} {s : Shared} {H₀ : Fz} {os : List Addr} {a : Addr} {x : Str} {t : Tok}

theorem not_mem_os (hos : ∀ b ∈ os, ∃ o, s.heap.get? b = some o) : s.heap.objs.size ∉ os := fun h => by
  obtain ⟨o, ho⟩ := hos _ h
  rw [none_at] at ho; cases ho

theorem esc0 (G : Gd B mg mb) (hB : Base B H₀) (hH : ∀ b o, H₀ b = some o → s.heap.get? b = some o) (hos : ∀ b ∈ os, ∃ o, s.heap.get? b = some o)
    (ha : mg (fName (fd 2)) = some (.ref a)) (hd : A.depth < 400) (hx : x.length ≤ 150000) :
    codeAny (model prog w) A (.call (.ref a) ⟨[.str x t], []⟩) (Ret fun v s' => (∃ t', v = .str ⟨(writeF 0 x.cps.toList).toArray⟩ t') ∧ Bk os H₀ s s' H₀) s := by
  refine enter (i := 2) (os := os) (binds := [(Str.ofString "text", .str x t)]) G hB hH (by decide) ha hd (fun _ _ _ => rfl) (by intro y hy; rw [List.mem_singleton.mp hy]; rfl) ?_
  intro cd s' _ F
  have hL := not_mem_os hos
  change wpAny _ _ (execs (_ :: _) _) _ _ _
  refine wpAny_execs_cons ?_
  refine wpAny_Try_except ?_
  refine wpAny_execs_cons ?_
  refine esc_if (c := 38) (x := rs [] x) F rfl hL (rs_len (by decide +kernel) hx) (by decide +kernel) (by decide +kernel) (by decide +kernel) ?_
  intro m s t hm F
  refine wpAny_execs_cons ?_
  refine esc_if (c := 60) (x := rs [amp] x) F hm hL (rs_len (by decide +kernel) hx) (by decide +kernel) (by decide +kernel) (by decide +kernel) ?_
  intro m s t hm F
  refine wpAny_execs_cons ?_
  refine esc_if (c := 62) (x := rs [amp, lt] x) F hm hL (rs_len (by decide +kernel) hx) (by decide +kernel) (by decide +kernel) (by decide +kernel) ?_
  intro m s t hm F
  refine wpAny_execs_cons ?_
  refine wpAny_Return_some ?_
  refine ldL F hm ?_
  refine ⟨_, rfl, ⟨t, ?_⟩, F.toBk⟩
  rw [← rs_write (ch := [amp, lt, gt]) (by decide +kernel) (by decide +kernel)]
  rfl
theorem esc1 (G : Gd B mg mb) (hB : Base B H₀) (hH : ∀ b o, H₀ b = some o → s.heap.get? b = some o) (hos : ∀ b ∈ os, ∃ o, s.heap.get? b = some o)
    (ha : mg (fName (fd 5)) = some (.ref a)) (hd : A.depth < 400) (hx : x.length ≤ 150000) :
    codeAny (model prog w) A (.call (.ref a) ⟨[.str x t], []⟩) (Ret fun v s' => (∃ t', v = .str ⟨(writeF 1 x.cps.toList).toArray⟩ t') ∧ Bk os H₀ s s' H₀) s := by
  refine enter (i := 5) (os := os) (binds := [(Str.ofString "text", .str x t)]) G hB hH (by decide) ha hd (fun _ _ _ => rfl) (by intro y hy; rw [List.mem_singleton.mp hy]; rfl) ?_
  intro cd s' _ F
  have hL := not_mem_os hos
  change wpAny _ _ (execs (_ :: _) _) _ _ _
  refine wpAny_execs_cons ?_
  refine wpAny_Try_except ?_
  refine wpAny_execs_cons ?_
  refine esc_if (c := 38) (x := rs [] x) F rfl hL (rs_len (by decide +kernel) hx) (by decide +kernel) (by decide +kernel) (by decide +kernel) ?_
  intro m s t hm F
  refine wpAny_execs_cons ?_
  refine esc_if (c := 60) (x := rs [amp] x) F hm hL (rs_len (by decide +kernel) hx) (by decide +kernel) (by decide +kernel) (by decide +kernel) ?_
  intro m s t hm F
  refine wpAny_execs_cons ?_
  refine esc_if (c := 62) (x := rs [amp, lt] x) F hm hL (rs_len (by decide +kernel) hx) (by decide +kernel) (by decide +kernel) (by decide +kernel) ?_
  intro m s t hm F
  refine wpAny_execs_cons ?_
  refine esc_if (c := 13) (x := rs [amp, lt, gt] x) F hm hL (rs_len (by decide +kernel) hx) (by decide +kernel) (by decide +kernel) (by decide +kernel) ?_
  intro m s t hm F
  refine wpAny_execs_cons ?_
  refine wpAny_Return_some ?_
  refine ldL F hm ?_
  refine ⟨_, rfl, ⟨t, ?_⟩, F.toBk⟩
  rw [← rs_write (ch := [amp, lt, gt, crD]) (by decide +kernel) (by decide +kernel)]
  rfl

theorem esc2 (G : Gd B mg mb) (hB : Base B H₀) (hH : ∀ b o, H₀ b = some o → s.heap.get? b = some o) (hos : ∀ b ∈ os, ∃ o, s.heap.get? b = some o)
    (ha : mg (fName (fd 3)) = some (.ref a)) (hd : A.depth < 400) (hx : x.length ≤ 150000) :
    codeAny (model prog w) A (.call (.ref a) ⟨[.str x t], []⟩) (Ret fun v s' => (∃ t', v = .str ⟨(writeF 2 x.cps.toList).toArray⟩ t') ∧ Bk os H₀ s s' H₀) s := by
  refine enter (i := 3) (os := os) (binds := [(Str.ofString "text", .str x t)]) G hB hH (by decide) ha hd (fun _ _ _ => rfl) (by intro y hy; rw [List.mem_singleton.mp hy]; rfl) ?_
  intro cd s' _ F
  have hL := not_mem_os hos
  change wpAny _ _ (execs (_ :: _) _) _ _ _
  refine wpAny_execs_cons ?_
  refine wpAny_Try_except ?_
  refine wpAny_execs_cons ?_
  refine esc_if (c := 38) (x := rs [] x) F rfl hL (rs_len (by decide +kernel) hx) (by decide +kernel) (by decide +kernel) (by decide +kernel) ?_
  intro m s t hm F
  refine wpAny_execs_cons ?_
  refine esc_if (c := 60) (x := rs [amp] x) F hm hL (rs_len (by decide +kernel) hx) (by decide +kernel) (by decide +kernel) (by decide +kernel) ?_
  intro m s t hm F
  refine wpAny_execs_cons ?_
  refine esc_if (c := 62) (x := rs [amp, lt] x) F hm hL (rs_len (by decide +kernel) hx) (by decide +kernel) (by decide +kernel) (by decide +kernel) ?_
  intro m s t hm F
  refine wpAny_execs_cons ?_
  refine esc_if (c := 34) (x := rs [amp, lt, gt] x) F hm hL (rs_len (by decide +kernel) hx) (by decide +kernel) (by decide +kernel) (by decide +kernel) ?_
  intro m s t hm F
  refine wpAny_execs_cons ?_
  refine esc_if (c := 13) (x := rs [amp, lt, gt, quot] x) F hm hL (rs_len (by decide +kernel) hx) (by decide +kernel) (by decide +kernel) (by decide +kernel) ?_
  intro m s t hm F
  refine wpAny_execs_cons ?_
  refine esc_if (c := 10) (x := rs [amp, lt, gt, quot, cr13] x) F hm hL (rs_len (by decide +kernel) hx) (by decide +kernel) (by decide +kernel) (by decide +kernel) ?_
  intro m s t hm F
  refine wpAny_execs_cons ?_
  refine esc_if (c := 9) (x := rs [amp, lt, gt, quot, cr13, nl10] x) F hm hL (rs_len (by decide +kernel) hx) (by decide +kernel) (by decide +kernel) (by decide +kernel) ?_
  intro m s t hm F
  refine wpAny_execs_cons ?_
  refine wpAny_Return_some ?_
  refine ldL F hm ?_
  refine ⟨_, rfl, ⟨t, ?_⟩, F.toBk⟩
  rw [← rs_write (ch := [amp, lt, gt, quot, cr13, nl10, tab09]) (by decide +kernel) (by decide +kernel)]
  rfl

theorem esc3 (G : Gd B mg mb) (hB : Base B H₀) (hH : ∀ b o, H₀ b = some o → s.heap.get? b = some o) (hos : ∀ b ∈ os, ∃ o, s.heap.get? b = some o)
    (ha : mg (fName (fd 6)) = some (.ref a)) (hd : A.depth < 400) (hx : x.length ≤ 150000) :
    codeAny (model prog w) A (.call (.ref a) ⟨[.str x t], []⟩) (Ret fun v s' => (∃ t', v = .str ⟨(writeF 3 x.cps.toList).toArray⟩ t') ∧ Bk os H₀ s s' H₀) s := by
  refine enter (i := 6) (os := os) (binds := [(Str.ofString "text", .str x t)]) G hB hH (by decide) ha hd (fun _ _ _ => rfl) (by intro y hy; rw [List.mem_singleton.mp hy]; rfl) ?_
  intro cd s' _ F
  have hL := not_mem_os hos
  change wpAny _ _ (execs (_ :: _) _) _ _ _
  refine wpAny_execs_cons ?_
  refine wpAny_Try_except ?_
  refine wpAny_execs_cons ?_
  refine esc_if (c := 38) (x := rs [] x) F rfl hL (rs_len (by decide +kernel) hx) (by decide +kernel) (by decide +kernel) (by decide +kernel) ?_
  intro m s t hm F
  refine wpAny_execs_cons ?_
  refine esc_if (c := 60) (x := rs [amp] x) F hm hL (rs_len (by decide +kernel) hx) (by decide +kernel) (by decide +kernel) (by decide +kernel) ?_
  intro m s t hm F
  refine wpAny_execs_cons ?_
  refine esc_if (c := 34) (x := rs [amp, lt] x) F hm hL (rs_len (by decide +kernel) hx) (by decide +kernel) (by decide +kernel) (by decide +kernel) ?_
  intro m s t hm F
  refine wpAny_execs_cons ?_
  refine esc_if (c := 9) (x := rs [amp, lt, quot] x) F hm hL (rs_len (by decide +kernel) hx) (by decide +kernel) (by decide +kernel) (by decide +kernel) ?_
  intro m s t hm F
  refine wpAny_execs_cons ?_
  refine esc_if (c := 10) (x := rs [amp, lt, quot, tab9] x) F hm hL (rs_len (by decide +kernel) hx) (by decide +kernel) (by decide +kernel) (by decide +kernel) ?_
  intro m s t hm F
  refine wpAny_execs_cons ?_
  refine esc_if (c := 13) (x := rs [amp, lt, quot, tab9, nlA] x) F hm hL (rs_len (by decide +kernel) hx) (by decide +kernel) (by decide +kernel) (by decide +kernel) ?_
  intro m s t hm F
  refine wpAny_execs_cons ?_
  refine wpAny_Return_some ?_
  refine ldL F hm ?_
  refine ⟨_, rfl, ⟨t, ?_⟩, F.toBk⟩
  rw [← rs_write (ch := [amp, lt, quot, tab9, nlA, crD]) (by decide +kernel) (by decide +kernel)]
  rfl

theorem esc4 (G : Gd B mg mb) (hB : Base B H₀) (hH : ∀ b o, H₀ b = some o → s.heap.get? b = some o) (hos : ∀ b ∈ os, ∃ o, s.heap.get? b = some o)
    (ha : mg (fName (fd 4)) = some (.ref a)) (hd : A.depth < 400) (hx : x.length ≤ 150000) :
    codeAny (model prog w) A (.call (.ref a) ⟨[.str x t], []⟩) (Ret fun v s' => (∃ t', v = .str ⟨(writeF 4 x.cps.toList).toArray⟩ t') ∧ Bk os H₀ s s' H₀) s := by
  refine enter (i := 4) (os := os) (binds := [(Str.ofString "text", .str x t)]) G hB hH (by decide) ha hd (fun _ _ _ => rfl) (by intro y hy; rw [List.mem_singleton.mp hy]; rfl) ?_
  intro cd s' _ F
  have hL := not_mem_os hos
  change wpAny _ _ (execs (_ :: _) _) _ _ _
  refine wpAny_execs_cons ?_
  refine wpAny_Try_except ?_
  refine wpAny_execs_cons ?_
  refine esc_if (c := 38) (x := rs [] x) F rfl hL (rs_len (by decide +kernel) hx) (by decide +kernel) (by decide +kernel) (by decide +kernel) ?_
  intro m s t hm F
  refine wpAny_execs_cons ?_
  refine esc_if (c := 62) (x := rs [amp] x) F hm hL (rs_len (by decide +kernel) hx) (by decide +kernel) (by decide +kernel) (by decide +kernel) ?_
  intro m s t hm F
  refine wpAny_execs_cons ?_
  refine esc_if (c := 34) (x := rs [amp, gt] x) F hm hL (rs_len (by decide +kernel) hx) (by decide +kernel) (by decide +kernel) (by decide +kernel) ?_
  intro m s t hm F
  refine wpAny_execs_cons ?_
  refine wpAny_Return_some ?_
  refine ldL F hm ?_
  refine ⟨_, rfl, ⟨t, ?_⟩, F.toBk⟩
  rw [← rs_write (ch := [amp, gt, quot]) (by decide +kernel) (by decide +kernel)]
  rfl

end
end Mine

namespace Mine
section
variable {os : List Addr} {s₀ s : Shared} {H₀ H : Fz} {L : Addr} {m : Str → Option Value} {mu : List (Addr × Obj)} {prog : Program} {w : World} {A : Around} {E : Value → Shared → Prop} {B : Heap} {mg mb : Str → Option Value} {env : Env}

/-- a call of a def of the text by its name, with one argument or more -/
theorem callF {i : Nat} {x : Str} {e : PySem.Expr} {rest : List PySem.Expr} {p pos : Pos} {Q : Value → Shared → Prop} (G : Gd B mg mb) (hB : Base B H₀) (F : Fm os s₀ H₀ L m H mu s)
    (hi : i ∈ [2, 3, 4, 5, 6, 8, 10, 11, 12, 13, 14, 15, 16, 17]) (hx : fName (fd i) = x)
    (h : ∀ a, mg x = some (.ref a) → wpAny (model prog w) A (spliced (backTo pos (starEach (e :: rest) env))) (fun vs s₁ => (∀ b o, B.get? b = some o → s₁.heap.get? b = some o) ∧
      codeAny (model prog w) A (.call (.ref a) ⟨vs, []⟩) (fun r s' => match r with | .ok (.ret v) => Q v s' | .ok _ => False | .error e => E e s') s₁) E s)
    (hk : env.scope.kind = .function := by rfl) (hg : env.globals = mainGlobals := by rfl) (hl : env.kindOf x = some .globalImplicit := by rfl) (hd : (x == ("__debug__" : Str)) = false := by decide)
    (hs : starEach (e :: rest) env = (false, eval e env) :: starEach rest env := by rfl) :
    wpAny (model prog w) A (eval (.Call (.Name x p) (e :: rest) [] pos) env) Q E s := by
  refine Call_ ?_
  obtain ⟨a, o, pm, code, doc, h1, h2, h3, h4⟩ := G.fn i hi
  rw [hx] at h1
  refine Name_function_global hk hl (loadGlobal_global (by rw [hg]; exact G.g.keeps (F.stay hB)) h1 ?_) hd
  refine callWith_def h3 (wpAny_mono (h a h1) (fun vs s₁ h₁ => ⟨h₁.1 _ _ h2, wpAny_call h₁.2⟩) fun _ _ q => q) hs
end

local macro_rules | `(tactic| tb_start) => `(tactic| with_reducible first
  | refine wpAny_execs_cons ?_
  | refine wpAny_Return_some ?_
  | refine wpAny_BinOp ?_
  | refine wpAny_If ?_
  | refine wpAny_isTrue_Compare1 ?_ (by with_unfolding_all rfl)
  | refine wpAny_Compare1 ?_ (by with_unfolding_all rfl)
  | refine wpAny_truthy_bool ?_
  | refine wpAny_Assign_Name ?_ (by with_unfolding_all rfl)
  | refine wpAny_isTrue_BoolOp ?_)

section
variable {prog : Program} {w : World} {B : Heap} {mg mb : Str → Option Value} {A : Around} {s : Shared} {H₀ : Fz} {os : List Addr} {a : Addr} {x : Str} {t th : Tok} {h : Nat}

theorem deeper_depth (A : Around) (env : Env) : (A.deeper env).depth = A.depth + 1 := rfl
theorem os_cons {os : List Addr} {s₀ s : Shared} {H₀ H : Fz} {L : Addr} {m : Str → Option Value} {mu : List (Addr × Obj)} (F : Fm os s₀ H₀ L m H mu s) (hos : ∀ b ∈ os, ∃ o, s₀.heap.get? b = some o) :
    ∀ b ∈ L :: os, ∃ o, s.heap.get? b = some o := fun b hb => by
  rcases List.mem_cons.mp hb with rfl | hb
  · obtain ⟨o, _, _, ho, _⟩ := F.ns; exact ⟨o, ho⟩
  · obtain ⟨o, ho⟩ := hos b hb
    exact F.dom b o ho

theorem write_spec (G : Gd B mg mb) (hB : Base B H₀) (hH : ∀ b o, H₀ b = some o → s.heap.get? b = some o) (hos : ∀ b ∈ os, ∃ o, s.heap.get? b = some o)
    (ha : mg (fName (fd 10)) = some (.ref a)) (hd : A.depth < 399) (hx : x.length ≤ 150000) (hh : h < 5) :
    codeAny (model prog w) A (.call (.ref a) ⟨[.int h th, .str x t], []⟩) (Ret fun v s' => (∃ t', v = .str ⟨(writeF h x.cps.toList).toArray⟩ t') ∧ Bk os H₀ s s' H₀) s := by
  refine enter (i := 10) (os := os) (binds := [(Str.ofString "hand", .int h th), (Str.ofString "text", .str x t)]) G hB hH (by decide) ha (by omega) (fun _ _ _ => rfl)
    (by intro y hy; simp only [List.mem_cons, List.not_mem_nil, or_false] at hy; rcases hy with rfl | rfl <;> rfl) ?_
  intro cd s' _ F
  have hL := not_mem_os hos
  change wpAny _ _ (execs (_ :: _) _) _ _ _
  repeat' (tb_start)
  refine ldL F rfl ?_
  refine cInt F fun t1 s1 F => ?_
  refine eq_int ?_
  tb_start
  by_cases h0 : h = 0
  · subst h0
    rw [if_pos (by decide)]
    tb_start
    tb_start
    refine callF (i := 2) G hB F (by decide) rfl fun a ha => ?_
    refine args_cons (ldL F rfl ?_)
    refine args_nil ⟨F.stay hB, ?_⟩
    refine ret_of (esc0 (os := s.heap.objs.size :: os) G (hB.mono F.le) F.inH (os_cons F hos) ha (by rw [deeper_depth]; omega) hx) ?_
    rintro v s' ⟨⟨t', rfl⟩, b⟩
    exact ⟨_, rfl, ⟨t', rfl⟩, (F.back b hos (fun p hp => nomatch hp)).toBk⟩
  rw [if_neg (by simp; omega)]
  refine wpAny_execs_nil ?_
  tb_start
  tb_start
  tb_start
  refine ldL F rfl ?_
  refine cInt F fun t1 s1 F => ?_
  refine eq_int ?_
  tb_start
  by_cases h1 : h = 1
  · subst h1
    rw [if_pos (by decide)]
    tb_start
    tb_start
    refine callF (i := 5) G hB F (by decide) rfl fun a ha => ?_
    refine args_cons (ldL F rfl ?_)
    refine args_nil ⟨F.stay hB, ?_⟩
    refine ret_of (esc1 (os := s.heap.objs.size :: os) G (hB.mono F.le) F.inH (os_cons F hos) ha (by rw [deeper_depth]; omega) hx) ?_
    rintro v s' ⟨⟨t', rfl⟩, b⟩
    exact ⟨_, rfl, ⟨t', rfl⟩, (F.back b hos (fun p hp => nomatch hp)).toBk⟩
  rw [if_neg (by simp; omega)]
  refine wpAny_execs_nil ?_
  tb_start
  tb_start
  tb_start
  refine ldL F rfl ?_
  refine cInt F fun t1 s1 F => ?_
  refine eq_int ?_
  tb_start
  by_cases h2 : h = 2
  · subst h2
    rw [if_pos (by decide)]
    tb_start
    tb_start
    refine callF (i := 3) G hB F (by decide) rfl fun a ha => ?_
    refine args_cons (ldL F rfl ?_)
    refine args_nil ⟨F.stay hB, ?_⟩
    refine ret_of (esc2 (os := s.heap.objs.size :: os) G (hB.mono F.le) F.inH (os_cons F hos) ha (by rw [deeper_depth]; omega) hx) ?_
    rintro v s' ⟨⟨t', rfl⟩, b⟩
    exact ⟨_, rfl, ⟨t', rfl⟩, (F.back b hos (fun p hp => nomatch hp)).toBk⟩
  rw [if_neg (by simp; omega)]
  refine wpAny_execs_nil ?_
  tb_start
  tb_start
  tb_start
  refine ldL F rfl ?_
  refine cInt F fun t1 s1 F => ?_
  refine eq_int ?_
  tb_start
  by_cases h3 : h = 3
  · subst h3
    rw [if_pos (by decide)]
    tb_start
    tb_start
    refine callF (i := 6) G hB F (by decide) rfl fun a ha => ?_
    refine args_cons (ldL F rfl ?_)
    refine args_nil ⟨F.stay hB, ?_⟩
    refine ret_of (esc3 (os := s.heap.objs.size :: os) G (hB.mono F.le) F.inH (os_cons F hos) ha (by rw [deeper_depth]; omega) hx) ?_
    rintro v s' ⟨⟨t', rfl⟩, b⟩
    exact ⟨_, rfl, ⟨t', rfl⟩, (F.back b hos (fun p hp => nomatch hp)).toBk⟩
  rw [if_neg (by simp; omega)]
  refine wpAny_execs_nil ?_
  tb_start
  tb_start
  obtain rfl : h = 4 := by omega
  refine callF (i := 4) G hB F (by decide) rfl fun a ha => ?_
  refine args_cons (ldL F rfl ?_)
  refine args_nil ⟨F.stay hB, ?_⟩
  refine ret_of (esc4 (os := s.heap.objs.size :: os) G (hB.mono F.le) F.inH (os_cons F hos) ha (by rw [deeper_depth]; omega) hx) ?_
  rintro v s' ⟨⟨t', rfl⟩, b⟩
  exact ⟨_, rfl, ⟨t', rfl⟩, (F.back b hos (fun p hp => nomatch hp)).toBk⟩
end
end Mine

namespace Mine
def lo (vs : List Value) (n : Nat) : Obj := { cls := .type "list", data := .seq vs.toArray n }
def tu (vs : List Value) : Obj := { cls := .type "tuple", data := .seq vs.toArray }
def FList (H : Fz) (a : Addr) (vs : List Value) : Prop := ∃ n, H a = some (lo vs n)
def FTup (H : Fz) (a : Addr) (vs : List Value) : Prop := H a = some (tu vs)
abbrev cast (ns : List Nat) : List Int := ns.map fun (n : Nat) => (n : Int)
def NList (H : Fz) (a : Addr) (ns : List Nat) : Prop := ∃ vs, FList H a vs ∧ IntsAre vs (cast ns)
def Le (H H' : Fz) : Prop := ∀ b o, H b = some o → H' b = some o

theorem Le.refl (H : Fz) : Le H H := fun _ _ e => e
theorem Le.trans {H₁ H₂ H₃ : Fz} (a : Le H₁ H₂) (b : Le H₂ H₃) : Le H₁ H₃ := fun x o e => b _ _ (a x o e)
theorem Le.put {H : Fz} {a : Addr} (o : Obj) (h : H a = none) : Le H (H.put a o) := fun b o' e => by
  rw [Fz.put_ne]; exact e
  rintro rfl; rw [h] at e; cases e
theorem FList.mono {H H' : Fz} {a : Addr} {vs : List Value} (x : FList H a vs) (le : Le H H') : FList H' a vs := let ⟨n, e⟩ := x; ⟨n, le _ _ e⟩
theorem FTup.mono {H H' : Fz} {a : Addr} {vs : List Value} (x : FTup H a vs) (le : Le H H') : FTup H' a vs := le _ _ x
theorem NList.mono {H H' : Fz} {a : Addr} {ns : List Nat} (x : NList H a ns) (le : Le H H') : NList H' a ns := let ⟨vs, e, i⟩ := x; ⟨vs, e.mono le, i⟩
theorem FList.put (H : Fz) (a : Addr) (vs : List Value) (n : Nat) : FList (H.put a (lo vs n)) a vs := ⟨n, Fz.put_self ..⟩
theorem FTup.put (H : Fz) (a : Addr) (vs : List Value) : FTup (H.put a (tu vs)) a vs := Fz.put_self ..

theorem big {n : Nat} (h : n ≤ 1000000) : n ≤ sizeLine := by rw [sizeLine_eq]; omega

section
variable {os : List Addr} {s₀ s : Shared} {H₀ H : Fz} {L : Addr} {m : Str → Option Value} {mu : List (Addr × Obj)} {prog : Program} {w : World} {A : Around} {E : Value → Shared → Prop} {B : Heap} {mg mb : Str → Option Value} {env : Env}

theorem FList.isL (F : Fm os s₀ H₀ L m H mu s) {a : Addr} {vs : List Value} (x : FList H a vs) : ∃ n, IsL s.heap a vs.toArray n := let ⟨n, e⟩ := x; ⟨n, F.inH _ _ e⟩
theorem FList.isList (F : Fm os s₀ H₀ L m H mu s) {a : Addr} {vs : List Value} (x : FList H a vs) : s.heap.IsList a vs.toArray := let ⟨n, e⟩ := x; ⟨_, F.inH _ _ e, rfl, n, rfl⟩
theorem FTup.isTup (F : Fm os s₀ H₀ L m H mu s) {a : Addr} {vs : List Value} (x : FTup H a vs) : IsTup s.heap a vs.toArray := ⟨_, F.inH _ _ x, rfl, 0, rfl⟩

theorem newListF {vs : List Value} {Q : Value → Shared → Prop} (F : Fm os s₀ H₀ L m H mu s) (hsz : vs.length ≤ 1000000) (h : ∀ D s', H D = none → Fm os s₀ H₀ L m (H.put D (lo vs 0)) mu s' → Q (.ref D) s') :
    wpAny (model prog w) A (newList vs) Q E s :=
  wpAny_newObj_type (h _ _ (F.noneH (none_at s)) (F.push (none_at s) (fun _ _ e => Heap.get?_push_of_some _ e) (Heap.get?_push_size _ rfl))) (by show vs.toArray.size ≤ sizeLine; rw [List.size_toArray]; exact big hsz)
theorem newListM {vs : List Value} {Q : Value → Shared → Prop} (F : Fm os s₀ H₀ L m H mu s) (hsz : vs.length ≤ 1000000) (h : ∀ D s', s₀.heap.get? D = none → Fm os s₀ H₀ L m H ((D, lo vs 0) :: mu) s' → Q (.ref D) s') :
    wpAny (model prog w) A (newList vs) Q E s :=
  wpAny_newObj_type (h _ _ (none_of F.dom (none_at s)) (F.pushMu (none_at s) (fun _ _ e => Heap.get?_push_of_some _ e) (Heap.get?_push_size _ rfl))) (by show vs.toArray.size ≤ sizeLine; rw [List.size_toArray]; exact big hsz)
theorem newTupF {vs : List Value} {Q : Value → Shared → Prop} (F : Fm os s₀ H₀ L m H mu s) (hsz : vs.length ≤ 1000000) (h : ∀ D s', H D = none → Fm os s₀ H₀ L m (H.put D (tu vs)) mu s' → Q (.ref D) s') :
    wpAny (model prog w) A (newTuple vs) Q E s :=
  wpAny_newObj_type (h _ _ (F.noneH (none_at s)) (F.push (none_at s) (fun _ _ e => Heap.get?_push_of_some _ e) (Heap.get?_push_size _ rfl))) (by show vs.toArray.size ≤ sizeLine; rw [List.size_toArray]; exact big hsz)

/-- + of two lists -/
theorem addL {a b : Addr} {vs us : List Value} {Q : Value → Shared → Prop} (F : Fm os s₀ H₀ L m H mu s) (ha : ∃ n, IsL s.heap a vs.toArray n) (hb : ∃ n, IsL s.heap b us.toArray n) (hsz : vs.length + us.length ≤ 1000000)
    (h : ∀ D s', H D = none → Fm os s₀ H₀ L m (H.put D (lo (vs ++ us) 0)) mu s' → Q (.ref D) s') : wpAny (model prog w) A (binaryOp .Add (.ref a) (.ref b)) Q E s := by
  obtain ⟨n, ha⟩ := ha
  obtain ⟨k, hb⟩ := hb
  refine P.add_list ha hb (h _ _ (F.noneH (none_at s)) (F.push (none_at s) (fun _ _ e => Heap.get?_push_of_some _ e) ?_)) (by rw [List.size_toArray, List.size_toArray]; exact big hsz)
  rw [Heap.get?_push_size _ rfl]
  simp [lo]

/-- a method of a list of the frame's own -/
theorem meth1 {X : Str} {e : PySem.Expr} {name : Str} {id : String} {np apos pos : Pos} {D : Addr} {vs : List Value} {n : Nat} {Q : Value → Shared → Prop} (F : Fm os s₀ H₀ L m H mu s) (hX : m X = some (.ref D)) (hD : (D, lo vs n) ∈ mu)
    (slot : Slot "list" name id) (ty : typeOf (.builtin id) = pure (.type "method_descriptor"))
    (h : wpAny (model prog w) A (callWith pos (.builtin id) [.ref D] [(false, eval e env)] []) Q E s)
    (hbase : attributeBase (.Name X np) name env (eval (.Name X np) env) = eval (.Name X np) env := by rfl) (hs : starEach [e] env = [(false, eval e env)] := by rfl) (hline : (apos.endLine == pos.line) = true := by rfl)
    (hk : env.scope.kind = .function := by rfl) (hL : env.locals = L := by rfl) (hl : env.kindOf X = some .local := by rfl) (hd : (X == ("__debug__" : Str)) = false := by decide) :
    wpAny (model prog w) A (eval (.Call (.Attribute (.Name X np) name apos) [e] [] pos) env) Q E s := by
  refine Call_method1 hbase hs hline (ldL F hX ?_ hk hL hl hd)
  have hm := (F.mus _ hD).1
  exact ⟨"list", id, PySem.F.plainAttrs_list, slot, ty, ⟨_, hm, rfl⟩, (fun a e => by cases e; exact ⟨_, hm, rfl⟩), h⟩

theorem meth0 {X : Str} {name : Str} {id : String} {np apos pos : Pos} {D : Addr} {vs : List Value} {n : Nat} {Q : Value → Shared → Prop} (F : Fm os s₀ H₀ L m H mu s) (hX : m X = some (.ref D)) (hD : (D, lo vs n) ∈ mu)
    (slot : Slot "list" name id) (ty : typeOf (.builtin id) = pure (.type "method_descriptor"))
    (h : wpAny (model prog w) A (callWith pos (.builtin id) [.ref D] [] []) Q E s)
    (hbase : attributeBase (.Name X np) name env (eval (.Name X np) env) = eval (.Name X np) env := by rfl) (hline : (apos.endLine == pos.line) = true := by rfl)
    (hk : env.scope.kind = .function := by rfl) (hL : env.locals = L := by rfl) (hl : env.kindOf X = some .local := by rfl) (hd : (X == ("__debug__" : Str)) = false := by decide) :
    wpAny (model prog w) A (eval (.Call (.Attribute (.Name X np) name apos) [] [] pos) env) Q E s := by
  refine Call_method0 hbase hline (ldL F hX ?_ hk hL hl hd)
  have hm := (F.mus _ hD).1
  exact ⟨"list", id, PySem.F.plainAttrs_list, slot, ty, ⟨_, hm, rfl⟩, (fun a e => by cases e; exact ⟨_, hm, rfl⟩), h⟩

theorem lo_map {vs us : List Value} {f : Array Value → Array Value} (n : Nat) (h : f vs.toArray = us.toArray) : ∃ n', Obj.mapSeq f (lo vs n) = lo us n' := by
  refine ⟨if (f vs.toArray).size == vs.toArray.size then n else n + 1, ?_⟩
  show ({ cls := .type "list", data := .seq (f vs.toArray) _ } : Obj) = { cls := .type "list", data := .seq us.toArray _ }
  rw [h]
theorem lo_push (vs : List Value) (n : Nat) (v : Value) : ∃ n', Obj.mapSeq (fun xs => xs.push v) (lo vs n) = lo (vs ++ [v]) n' := lo_map n (List.push_toArray ..)
theorem lo_app (vs us : List Value) (n : Nat) : ∃ n', Obj.mapSeq (fun xs => xs ++ us.toArray) (lo vs n) = lo (vs ++ us) n' := lo_map n (List.append_toArray ..)
theorem lo_pop (vs : List Value) (v : Value) (n : Nat) : ∃ n', Obj.mapSeq (fun xs => xs.eraseIdxIfInBounds ((vs ++ [v]).toArray.size - 1)) (lo (vs ++ [v]) n) = lo vs n' := lo_map n (by
  have : (vs ++ [v]).eraseIdx vs.length = vs := by
    rw [List.eraseIdx_append_of_length_le (Nat.le_refl _)]; simp
  simpa [Array.eraseIdxIfInBounds] using this)

/-- X.append(e) as a statement; what e does may change all, but the list stands first -/
theorem appendM {X : Str} {e : PySem.Expr} {np apos pos pos' : Pos} {D : Addr} {vs : List Value} {n : Nat} {Q : Flow → Shared → Prop} (F : Fm os s₀ H₀ L m H mu s) (hX : m X = some (.ref D)) (hD : (D, lo vs n) ∈ mu)
    (h : wpAny (model prog w) A (eval e env) (fun v s₁ => ∃ m₁ H₁ mu₁ vs n, Fm os s₀ H₀ L m₁ H₁ ((D, lo vs n) :: mu₁) s₁ ∧ vs.length ≤ 1000000 ∧ s₀.heap.get? D = none ∧
      ∀ n' s', Fm os s₀ H₀ L m₁ H₁ ((D, lo (vs ++ [v]) n') :: mu₁) s' → Q .next s') E s)
    (hbase : attributeBase (.Name X np) "append" env (eval (.Name X np) env) = eval (.Name X np) env := by rfl) (hs : starEach [e] env = [(false, eval e env)] := by rfl) (hline : (apos.endLine == pos.line) = true := by rfl)
    (hk : env.scope.kind = .function := by rfl) (hL : env.locals = L := by rfl) (hl : env.kindOf X = some .local := by rfl) (hd : (X == ("__debug__" : Str)) = false := by decide)
    (hi : interactive env = false := by rfl) (hsw : swapsWith (.Call (.Attribute (.Name X np) "append" apos) [e] [] pos) none pos'.line env = pure false := by rfl) :
    wpAny (model prog w) A (exec (.Expr (.Call (.Attribute (.Name X np) "append" apos) [e] [] pos) pos') env) Q E s := by
  refine wpAny_Expr ?_ hi hsw
  refine meth1 F hX hD PySem.F.slot_list_append PySem.F.type_list_append ?_ hbase hs hline hk hL hl hd
  refine P.append_list (wpAny_mono h (fun v s₁ h₁ => ?_) fun _ _ q => q)
  obtain ⟨m₁, H₁, mu₁, vs, n, F₁, hsz, h0, h₂⟩ := h₁
  have hm := (F₁.mus _ (.head _)).1
  refine ⟨vs.toArray, n, by rw [List.size_toArray]; exact big hsz, hm, ?_⟩
  obtain ⟨n', e'⟩ := lo_push vs n v
  refine h₂ n' _ (F₁.setMu (k := s₁.toks) (Heap.SameBut.update ..).extBut ?_ h0)
  rw [Heap.get?_update_self _ hm rfl]
  exact congrArg some e'

/-- X.extend(e) as a statement -/
theorem extendM {X : Str} {e : PySem.Expr} {np apos pos pos' : Pos} {D : Addr} {vs : List Value} {n : Nat} {Q : Flow → Shared → Prop} (F : Fm os s₀ H₀ L m H mu s) (hX : m X = some (.ref D)) (hD : (D, lo vs n) ∈ mu)
    (h : wpAny (model prog w) A (eval e env) (fun v s₁ => ∃ m₁ H₁ mu₁ vs n b us, v = .ref b ∧ FList H₁ b us ∧ Fm os s₀ H₀ L m₁ H₁ ((D, lo vs n) :: mu₁) s₁ ∧ vs.length + us.length ≤ 1000000 ∧ s₀.heap.get? D = none ∧
      ∀ n' s', Fm os s₀ H₀ L m₁ H₁ ((D, lo (vs ++ us) n') :: mu₁) s' → Q .next s') E s)
    (hbase : attributeBase (.Name X np) "extend" env (eval (.Name X np) env) = eval (.Name X np) env := by rfl) (hs : starEach [e] env = [(false, eval e env)] := by rfl) (hline : (apos.endLine == pos.line) = true := by rfl)
    (hk : env.scope.kind = .function := by rfl) (hL : env.locals = L := by rfl) (hl : env.kindOf X = some .local := by rfl) (hd : (X == ("__debug__" : Str)) = false := by decide)
    (hi : interactive env = false := by rfl) (hsw : swapsWith (.Call (.Attribute (.Name X np) "extend" apos) [e] [] pos) none pos'.line env = pure false := by rfl) :
    wpAny (model prog w) A (exec (.Expr (.Call (.Attribute (.Name X np) "extend" apos) [e] [] pos) pos') env) Q E s := by
  refine wpAny_Expr ?_ hi hsw
  refine meth1 F hX hD PySem.F.slot_list_extend PySem.F.type_list_extend ?_ hbase hs hline hk hL hl hd
  refine P.extend_list (wpAny_mono h (fun v s₁ h₁ => ?_) fun _ _ q => q)
  obtain ⟨m₁, H₁, mu₁, vs, n, b, us, rfl, hb, F₁, hsz, h0, h₂⟩ := h₁
  have hm := (F₁.mus _ (.head _)).1
  obtain ⟨n2, hb'⟩ := hb.isL F₁
  have hsz' : vs.toArray.size + us.toArray.size ≤ sizeLine := by rw [List.size_toArray, List.size_toArray]; exact big hsz
  refine ⟨b, vs.toArray, us.toArray, n, n2, by omega, by omega, extend_door hsz', rfl, hm, hb', ?_⟩
  obtain ⟨n', e'⟩ := lo_app vs us n
  refine h₂ n' _ (F₁.setMu (k := s₁.toks) (Heap.SameBut.update ..).extBut ?_ h0)
  rw [Heap.get?_update_self _ hm rfl]
  exact congrArg some e'

/-- X.pop() -/
theorem popM {X : Str} {np apos pos : Pos} {D : Addr} {vs : List Value} {v : Value} {n : Nat} {Q : Value → Shared → Prop} (F : Fm os s₀ H₀ L m H ((D, lo (vs ++ [v]) n) :: mu) s) (hX : m X = some (.ref D)) (hsz : vs.length ≤ 100000) (h0 : s₀.heap.get? D = none)
    (h : ∀ n' s', Fm os s₀ H₀ L m H ((D, lo vs n') :: mu) s' → Q v s')
    (hbase : attributeBase (.Name X np) "pop" env (eval (.Name X np) env) = eval (.Name X np) env := by rfl) (hline : (apos.endLine == pos.line) = true := by rfl)
    (hk : env.scope.kind = .function := by rfl) (hL : env.locals = L := by rfl) (hl : env.kindOf X = some .local := by rfl) (hd : (X == ("__debug__" : Str)) = false := by decide) :
    wpAny (model prog w) A (eval (.Call (.Attribute (.Name X np) "pop" apos) [] [] pos) env) Q E s := by
  refine meth0 F hX (.head _) PySem.F.slot_list_pop PySem.F.type_list_pop ?_ hbase hline hk hL hl hd
  have hm := (F.mus _ (.head _)).1
  refine P.pop_list hm (y := v) (by simp) ?_ (by rw [List.size_toArray]; exact big (by simp; omega))
  obtain ⟨n', e'⟩ := lo_pop vs v n
  refine h n' _ (F.setMu (k := s.toks) (Heap.SameBut.update ..).extBut ?_ h0)
  rw [Heap.get?_update_self _ hm rfl]
  exact congrArg some e'

/-- an unpacking target -/
theorem unpackT {elts : List PySem.Expr} {k : Nat} {pos : Pos} {t : Addr} {vs : List Value} {Q : Unit → Shared → Prop} (F : Fm os s₀ H₀ L m H mu s) (ht : FTup H t vs) (hh : A.handled = none)
    (hn : (assignEach elts env).length = vs.length) (hstar : (assignEach elts env).findIdx? (·.1) = none)
    (h : ∀ s', Fm os s₀ H₀ L m H mu s' → wpAny (model prog w) A (assignInOrder ((assignEach elts env).map (·.2)) vs) Q E s') :
    wpAny (model prog w) A (assign (.Tuple elts k pos) env (.ref t)) Q E s :=
  assign_Tuple_tuple hh (ht.isTup F) (by rw [List.size_toArray]; exact hn) hstar fun h' he => by
    simpa using h _ (F.grow0 (s' := { s with heap := h' }) (fun b o e => he b o (fun q => by rw [q, none_at] at e; cases e) e) rfl rfl rfl)
end
end Mine

set_option maxRecDepth 100000

namespace Mine
section
variable {os : List Addr} {s₀ s : Shared} {H₀ H : Fz} {L : Addr} {m : Str → Option Value} {mu : List (Addr × Obj)} {prog : Program} {w : World} {A : Around} {E : Value → Shared → Prop} {a b : Int} {t u : Tok} {Q : Value → Shared → Prop}
theorem addI (F : Fm os s₀ H₀ L m H mu s) (h : ∀ t s', Fm os s₀ H₀ L m H mu s' → Q (.int (a + b) t) s') : wpAny (model prog w) A (binaryOp .Add (.int a t) (.int b u)) Q E s := add_int (h _ _ (F.tok _))
theorem subI (F : Fm os s₀ H₀ L m H mu s) (h : ∀ t s', Fm os s₀ H₀ L m H mu s' → Q (.int (a - b) t) s') : wpAny (model prog w) A (binaryOp .Sub (.int a t) (.int b u)) Q E s := P.sub_int (h _ _ (F.tok _))
theorem mulI (F : Fm os s₀ H₀ L m H mu s) (hm : IntMulOk a b) (h : ∀ t s', Fm os s₀ H₀ L m H mu s' → Q (.int (a * b) t) s') : wpAny (model prog w) A (binaryOp .Mult (.int a t) (.int b u)) Q E s := mul_int (h _ _ (F.tok _)) hm
theorem modI (F : Fm os s₀ H₀ L m H mu s) (hb : b ≠ 0) (h : ∀ t s', Fm os s₀ H₀ L m H mu s' → Q (.int (a.fmod b) t) s') : wpAny (model prog w) A (binaryOp .Mod (.int a t) (.int b u)) Q E s := mod_int' hb (h _ _ (F.tok _))
theorem fdivI (F : Fm os s₀ H₀ L m H mu s) (hb : b ≠ 0) (hp : Builtin.divisionGoesByPylong a b = false) (h : ∀ t s', Fm os s₀ H₀ L m H mu s' → Q (.int (a.fdiv b) t) s') : wpAny (model prog w) A (binaryOp .FloorDiv (.int a t) (.int b u)) Q E s := floordiv_int hb (h _ _ (F.tok _)) (.inl hp)
end

local macro_rules | `(tactic| tb_start) => `(tactic| with_reducible first
  | refine wpAny_execs_cons ?_
  | refine wpAny_execs_nil ?_
  | refine wpAny_Return_some ?_
  | refine wpAny_BinOp ?_
  | refine wpAny_If ?_
  | refine wpAny_isTrue_Compare1 ?_ (by with_unfolding_all rfl)
  | refine wpAny_Compare1 ?_ (by with_unfolding_all rfl)
  | refine wpAny_truthy_bool ?_
  | refine wpAny_Assign_Name ?_ (by with_unfolding_all rfl)
  | refine wpAny_isTrue_BoolOp ?_
  | refine wpAny_allTrue_And_cons ?_
  | refine wpAny_allTrue_And_nil ?_
  | refine List_ ?_
  | refine Tuple_ ?_
  | refine args_nil ?_
  | refine args_cons ?_ (by with_unfolding_all rfl))
local macro_rules | `(tactic| tb_rel) => `(tactic| first
  | tb_start
  | (with_reducible refine cInt (by assumption) fun _ _ _ => ?_)
  | (with_reducible refine ldL (by assumption) (by with_unfolding_all rfl) ?_ (by with_unfolding_all rfl) (by with_unfolding_all rfl) (by with_unfolding_all rfl) (by with_unfolding_all rfl))
  | (with_reducible refine addI (by assumption) fun _ _ _ => ?_)
  | (with_reducible refine subI (by assumption) fun _ _ _ => ?_)
  | (with_reducible refine mulI (by assumption) (by with_unfolding_all exact PySem.IntMulOk.of_right (by decide)) fun _ _ _ => ?_)
  | (with_reducible refine eq_int ?_)
  | (with_reducible refine ne_int ?_)
  | (with_reducible refine gt_int ?_)
  | (with_reducible refine lt_int ?_)
  | (with_reducible refine modI (by assumption) (by with_unfolding_all decide) fun _ _ _ => ?_)
  | (with_reducible refine fdivI (by assumption) (by with_unfolding_all decide) (by with_unfolding_all exact PyProof.noPylong_of_log2 (by decide +kernel)) fun _ _ _ => ?_))

section
variable {os : List Addr} {s₀ s : Shared} {H₀ H : Fz} {L : Addr} {m : Str → Option Value} {mu : List (Addr × Obj)} {prog : Program} {w : World} {A : Around} {E : Value → Shared → Prop} {B : Heap} {mg mb : Str → Option Value} {env : Env}

theorem beq_dec {x y : Int} {P : Prop} [Decidable P] (h : x = y ↔ P) : (x == y) = decide P := by
  rw [Bool.eq_iff_iff, beq_iff_eq, decide_eq_true_iff]; exact h
/-- a test that is decided by a plain condition -/
theorem testF {t : Sem Bool} (_F : Fm os s₀ H₀ L m H mu s) (P : Prop) [Decidable P] {Q : Bool → Shared → Prop} (ht : wpAny (model prog w) A t (fun b s' => b = decide P ∧ ∃ H', Fm os s₀ H₀ L m H' mu s' ∧ Le H H') (fun _ _ => False) s)
    (h1 : P → ∀ H' s', Fm os s₀ H₀ L m H' mu s' → Le H H' → Q true s') (h2 : ¬ P → ∀ H' s', Fm os s₀ H₀ L m H' mu s' → Le H H' → Q false s') : wpAny (model prog w) A t Q E s := by
  refine wpAny_mono ht (fun b s' ⟨hb, H', F', le⟩ => ?_) fun _ _ q => q.elim
  by_cases hp : P
  · rw [decide_eq_true hp] at hb; subst hb; exact h1 hp H' s' F' le
  · rw [decide_eq_false hp] at hb; subst hb; exact h2 hp H' s' F' le

/-- a call of a def of the text by its name, without arguments -/
theorem callF0 {i : Nat} {x : Str} {p pos : Pos} {Q : Value → Shared → Prop} (G : Gd B mg mb) (hB : Base B H₀) (F : Fm os s₀ H₀ L m H mu s)
    (hi : i ∈ [2, 3, 4, 5, 6, 8, 10, 11, 12, 13, 14, 15, 16, 17]) (hx : fName (fd i) = x)
    (h : ∀ a, mg x = some (.ref a) → codeAny (model prog w) A (.call (.ref a) ⟨[], []⟩) (fun r s' => match r with | .ok (.ret v) => Q v s' | .ok _ => False | .error e => E e s') s)
    (hk : env.scope.kind = .function := by rfl) (hg : env.globals = mainGlobals := by rfl) (hl : env.kindOf x = some .globalImplicit := by rfl) (hd : (x == ("__debug__" : Str)) = false := by decide) :
    wpAny (model prog w) A (eval (.Call (.Name x p) [] [] pos) env) Q E s := by
  refine Call_ ?_
  obtain ⟨a, o, pm, code, doc, h1, h2, h3, h4⟩ := G.fn i hi
  rw [hx] at h1
  refine Name_function_global hk hl (loadGlobal_global (by rw [hg]; exact G.g.keeps (F.stay hB)) h1 ?_) hd
  exact callWith_function (o := o) (PyProof.Rows.evalArgs_none ⟨⟨F.stay hB _ _ h2, h3⟩, wpAny_call (h a h1)⟩)
end

section
variable {prog : Program} {w : World} {B : Heap} {mg mb : Str → Option Value} {A : Around} {s : Shared} {H₀ : Fz} {os : List Addr} {a : Addr} {th tc : Tok} {h c : Nat}

theorem amp_spec (G : Gd B mg mb) (hB : Base B H₀)
    (hH : ∀ b o, H₀ b = some o → s.heap.get? b = some o) (ha : mg (fName (fd 15)) = some (.ref a)) (hd : A.depth < 400) :
    codeAny (model prog w) A (.call (.ref a) ⟨[], []⟩) (Ret fun v s' => (∃ t, v = .int 8838203 t) ∧ Bk os H₀ s s' H₀) s := by
  refine enter (i := 15) (os := os) (binds := []) G hB hH (by decide) ha hd (fun _ _ _ => rfl) (fun x hx => nomatch hx) ?_
  intro cd s' _ F
  change wpAny _ _ (execs (_ :: _) _) _ _ _
  repeat (tb_rel)
  exact ⟨_, rfl, ⟨_, rfl⟩, Fm.toBk (by assumption)⟩

theorem ref_spec (G : Gd B mg mb) (hB : Base B H₀) (hH : ∀ b o, H₀ b = some o → s.heap.get? b = some o) (hos : ∀ b ∈ os, ∃ o, s.heap.get? b = some o)
    (ha : mg (fName (fd 16)) = some (.ref a)) (hd : A.depth < 399) (hh : h < 5) :
    codeAny (model prog w) A (.call (.ref a) ⟨[.int h th, .int c tc], []⟩) (Ret fun v s' => ∃ D H', v = .ref D ∧ NList H' D (refN h c) ∧ Bk os H₀ s s' H') s := by
  refine enter (i := 16) (os := os) (binds := [(Str.ofString "hand", .int h th), (Str.ofString "code", .int c tc)]) G hB hH (by decide) ha (by omega) (fun _ _ _ => rfl)
    (by intro y hy; simp only [List.mem_cons, List.not_mem_nil, or_false] at hy; rcases hy with rfl | rfl <;> rfl) ?_
  intro cd s' _ F
  have hL := not_mem_os hos
  change wpAny _ _ (execs (_ :: _) _) _ _ _
  refine wpAny_execs_cons ?_
  refine wpAny_If ?_
  refine testF F (c = 38) ?_ ?_ ?_
  · repeat (tb_rel)
    exact ⟨beq_dec (by omega), _, by assumption, Le.refl _⟩
  · rintro q1 H' s' F le
    subst q1
    rw [if_pos rfl]
    repeat (tb_rel)
    refine callF0 (i := 15) G hB F (by decide) rfl fun a ha => ?_
    refine ret_of (amp_spec (os := s.heap.objs.size :: os) G (hB.mono F.le) F.inH ha (by rw [deeper_depth]; omega)) ?_
    rintro v s' ⟨⟨t', rfl⟩, b⟩
    have F' := F.back b hos (fun p hp => nomatch hp)
    repeat (tb_rel)
    refine newListF F' (by simp) fun D s' hD F'' => ?_
    exact ⟨_, rfl, D, _, rfl, ⟨_, FList.put .., by simp only [refN, if_true]; exact .cons _ _ .nil⟩, F''.toBk⟩
  rintro q1 H1 s1 F1 le1
  rw [if_neg Bool.false_ne_true]
  refine wpAny_execs_nil ?_
  refine wpAny_execs_cons ?_
  refine wpAny_If ?_
  refine testF F1 (c = 60 ∧ h ≠ 4) ?_ ?_ ?_
  · repeat (tb_rel)
    by_cases qa : c = 60
    · rw [if_pos (by simp; omega)]
      repeat (tb_rel)
      by_cases qb : h ≠ 4
      · rw [if_pos (by simp; omega)]
        repeat (tb_rel)
        exact ⟨by simp [qa, qb], _, by assumption, Le.refl _⟩
      · rw [if_neg (by simp; omega)]
        exact ⟨by simp [qa, qb], _, by assumption, Le.refl _⟩
    · rw [if_neg (by simp; omega)]
      exact ⟨by simp [qa], _, by assumption, Le.refl _⟩
  · rintro q2 H' s' F le
    rw [if_pos rfl]
    repeat (tb_rel)
    refine newListF (by assumption) (by simp) fun D s' hD F'' => ?_
    exact ⟨_, rfl, D, _, rfl, ⟨_, FList.put .., by rw [show refN h c = _ from by unfold refN; rw [if_neg q1, if_pos q2]]; exact .cons _ _ (.nil)⟩, F''.toBk⟩
  rintro q2 H2 s2 F2 le2
  rw [if_neg Bool.false_ne_true]
  refine wpAny_execs_nil ?_
  refine wpAny_execs_cons ?_
  refine wpAny_If ?_
  refine testF F2 (c = 62 ∧ h ≠ 3) ?_ ?_ ?_
  · repeat (tb_rel)
    by_cases qa : c = 62
    · rw [if_pos (by simp; omega)]
      repeat (tb_rel)
      by_cases qb : h ≠ 3
      · rw [if_pos (by simp; omega)]
        repeat (tb_rel)
        exact ⟨by simp [qa, qb], _, by assumption, Le.refl _⟩
      · rw [if_neg (by simp; omega)]
        exact ⟨by simp [qa, qb], _, by assumption, Le.refl _⟩
    · rw [if_neg (by simp; omega)]
      exact ⟨by simp [qa], _, by assumption, Le.refl _⟩
  · rintro q3 H' s' F le
    rw [if_pos rfl]
    repeat (tb_rel)
    refine newListF (by assumption) (by simp) fun D s' hD F'' => ?_
    exact ⟨_, rfl, D, _, rfl, ⟨_, FList.put .., by rw [show refN h c = _ from by unfold refN; rw [if_neg q1, if_neg q2, if_pos q3]]; exact .cons _ _ (.nil)⟩, F''.toBk⟩
  rintro q3 H3 s3 F3 le3
  rw [if_neg Bool.false_ne_true]
  refine wpAny_execs_nil ?_
  refine wpAny_execs_cons ?_
  refine wpAny_If ?_
  refine testF F3 (c = 34 ∧ 1 < h) ?_ ?_ ?_
  · repeat (tb_rel)
    by_cases qa : c = 34
    · rw [if_pos (by simp; omega)]
      repeat (tb_rel)
      by_cases qb : 1 < h
      · rw [if_pos (by simp; omega)]
        repeat (tb_rel)
        exact ⟨by simp [qa, qb], _, by assumption, Le.refl _⟩
      · rw [if_neg (by simp; omega)]
        exact ⟨by simp [qa, qb], _, by assumption, Le.refl _⟩
    · rw [if_neg (by simp; omega)]
      exact ⟨by simp [qa], _, by assumption, Le.refl _⟩
  · rintro q4 H' s' F le
    rw [if_pos rfl]
    repeat (tb_rel)
    refine newListF (by assumption) (by simp) fun D s' hD F'' => ?_
    exact ⟨_, rfl, D, _, rfl, ⟨_, FList.put .., by rw [show refN h c = _ from by unfold refN; rw [if_neg q1, if_neg q2, if_neg q3, if_pos q4]]; exact .cons _ _ (.nil)⟩, F''.toBk⟩
  rintro q4 H4 s4 F4 le4
  rw [if_neg Bool.false_ne_true]
  refine wpAny_execs_nil ?_
  refine wpAny_execs_cons ?_
  refine wpAny_If ?_
  refine testF F4 (h = 2 ∧ (c = 13 ∨ c = 10 ∨ c = 9)) ?_ ?_ ?_
  · repeat (tb_rel)
    by_cases qa : h = 2
    · rw [if_pos (by simp; omega)]
      repeat (tb_rel)
      refine newTupF (by assumption) (by simp) fun D s' hD F'' => ?_
      refine in_tuple_ints ((FTup.put _ _ _).isTup F'') (.cons _ _ (.cons _ _ (.cons _ _ .nil))) ?_
      repeat (tb_rel)
      by_cases qb : c = 13 ∨ c = 10 ∨ c = 9
      · rw [if_pos (by simp; omega)]
        repeat (tb_rel)
        exact ⟨by simp [qa, qb], _, by assumption, Le.put _ hD⟩
      · rw [if_neg (by simp; omega)]
        exact ⟨by simp [qa, qb], _, by assumption, Le.put _ hD⟩
    · rw [if_neg (by simp; omega)]
      exact ⟨by simp [qa], _, by assumption, Le.refl _⟩
  · rintro ⟨q5, q6⟩ H' s' F le
    rw [if_pos rfl]
    subst q5
    rcases q6 with rfl | rfl | rfl
    all_goals
      repeat (tb_rel)
      refine newListF (by assumption) (by simp) fun D s' hD F'' => ?_
      exact ⟨_, rfl, D, _, rfl, ⟨_, FList.put .., .cons _ _ (.cons _ _ (.cons _ _ (.cons _ _ .nil)))⟩, F''.toBk⟩
  rintro q5 H5 s5 F5 le5
  rw [if_neg Bool.false_ne_true]
  refine wpAny_execs_nil ?_
  refine wpAny_execs_cons ?_
  refine wpAny_If ?_
  refine testF F5 ((h = 1 ∨ h = 3) ∧ c = 13) ?_ ?_ ?_
  · repeat (tb_rel)
    refine newTupF (by assumption) (by simp) fun D s' hD F'' => ?_
    refine in_tuple_ints ((FTup.put _ _ _).isTup F'') (.cons _ _ (.cons _ _ .nil)) ?_
    repeat (tb_rel)
    by_cases qa : h = 1 ∨ h = 3
    · rw [if_pos (by simp; omega)]
      repeat (tb_rel)
      by_cases qb : c = 13
      · rw [if_pos (by simp; omega)]
        repeat (tb_rel)
        exact ⟨by simp [qa, qb], _, by assumption, Le.put _ hD⟩
      · rw [if_neg (by simp; omega)]
        exact ⟨by simp [qa, qb], _, by assumption, Le.put _ hD⟩
    · rw [if_neg (by simp; omega)]
      exact ⟨by simp [qa], _, by assumption, Le.put _ hD⟩
  · rintro q6 H' s' F le
    rw [if_pos rfl]
    repeat (tb_rel)
    refine newListF (by assumption) (by simp) fun D s' hD F'' => ?_
    exact ⟨_, rfl, D, _, rfl, ⟨_, FList.put .., by rw [show refN h c = _ from by unfold refN; rw [if_neg q1, if_neg q2, if_neg q3, if_neg q4, if_neg q5, if_pos q6]]; exact .cons _ _ (.cons _ _ (.nil))⟩, F''.toBk⟩
  rintro q6 H6 s6 F6 le6
  rw [if_neg Bool.false_ne_true]
  refine wpAny_execs_nil ?_
  refine wpAny_execs_cons ?_
  refine wpAny_If ?_
  refine testF F6 (h = 3 ∧ c = 10) ?_ ?_ ?_
  · repeat (tb_rel)
    by_cases qa : h = 3
    · rw [if_pos (by simp; omega)]
      repeat (tb_rel)
      by_cases qb : c = 10
      · rw [if_pos (by simp; omega)]
        repeat (tb_rel)
        exact ⟨by simp [qa, qb], _, by assumption, Le.refl _⟩
      · rw [if_neg (by simp; omega)]
        exact ⟨by simp [qa, qb], _, by assumption, Le.refl _⟩
    · rw [if_neg (by simp; omega)]
      exact ⟨by simp [qa], _, by assumption, Le.refl _⟩
  · rintro q7 H' s' F le
    rw [if_pos rfl]
    repeat (tb_rel)
    refine newListF (by assumption) (by simp) fun D s' hD F'' => ?_
    exact ⟨_, rfl, D, _, rfl, ⟨_, FList.put .., by rw [show refN h c = _ from by unfold refN; rw [if_neg q1, if_neg q2, if_neg q3, if_neg q4, if_neg q5, if_neg q6, if_pos q7]]; exact .cons _ _ (.cons _ _ (.nil))⟩, F''.toBk⟩
  rintro q7 H7 s7 F7 le7
  rw [if_neg Bool.false_ne_true]
  refine wpAny_execs_nil ?_
  refine wpAny_execs_cons ?_
  refine wpAny_If ?_
  refine testF F7 (h = 3 ∧ c = 9) ?_ ?_ ?_
  · repeat (tb_rel)
    by_cases qa : h = 3
    · rw [if_pos (by simp; omega)]
      repeat (tb_rel)
      by_cases qb : c = 9
      · rw [if_pos (by simp; omega)]
        repeat (tb_rel)
        exact ⟨by simp [qa, qb], _, by assumption, Le.refl _⟩
      · rw [if_neg (by simp; omega)]
        exact ⟨by simp [qa, qb], _, by assumption, Le.refl _⟩
    · rw [if_neg (by simp; omega)]
      exact ⟨by simp [qa], _, by assumption, Le.refl _⟩
  · rintro q8 H' s' F le
    rw [if_pos rfl]
    repeat (tb_rel)
    refine newListF (by assumption) (by simp) fun D s' hD F'' => ?_
    exact ⟨_, rfl, D, _, rfl, ⟨_, FList.put .., by rw [show refN h c = _ from by unfold refN; rw [if_neg q1, if_neg q2, if_neg q3, if_neg q4, if_neg q5, if_neg q6, if_neg q7, if_pos q8]]; exact .cons _ _ (.cons _ _ (.cons _ _ (.nil)))⟩, F''.toBk⟩
  rintro q8 H8 s8 F8 le8
  rw [if_neg Bool.false_ne_true]
  refine wpAny_execs_nil ?_
  repeat (tb_rel)
  refine newListF F8 (by simp) fun D s' hD F'' => ?_
  exact ⟨_, rfl, D, _, rfl, ⟨_, FList.put .., by rw [show refN h c = _ from by unfold refN; rw [if_neg q1, if_neg q2, if_neg q3, if_neg q4, if_neg q5, if_neg q6, if_neg q7, if_neg q8]]; exact .nil⟩, F''.toBk⟩
end
end Mine

namespace Mine
/-- an iterator over a list -/
def IsIt (o : Obj) (l : Addr) (i : Nat) : Prop := o.cls = .type "list_iterator" ∧ o.data = .fields #[.ref l, .int i 0]

section
variable {os : List Addr} {s₀ s : Shared} {H₀ H : Fz} {L : Addr} {m : Str → Option Value} {mu : List (Addr × Obj)} {prog : Program} {w : World} {A : Around} {E : Value → Shared → Prop} {B : Heap} {mg mb : Str → Option Value} {env : Env}

/-- one of the changing things is let go, the rest grows -/
theorem Fm.dropExt {a : Addr} {o : Obj} {s' : Shared} (F : Fm os s₀ H₀ L m H ((a, o) :: mu) s) (hs : ∀ b o, b ≠ a → s.heap.get? b = some o → s'.heap.get? b = some o) (h0 : s₀.heap.get? a = none)
    (g : s'.gens = s.gens := by rfl) (q : s'.os = s.os := by rfl) (d : s'.drawn = s.drawn := by rfl) : Fm os s₀ H₀ L m H mu s' :=
  have A := F.mus (a, o) (.head _)
  have ne0 : ∀ b o, s₀.heap.get? b = some o → b ≠ a := fun b o e q => by subst q; rw [h0] at e; cases e
  { keep := fun b o hb e => hs _ _ (ne0 b o e) (F.keep b o hb e)
    dom := fun b o e => let ⟨o', e'⟩ := F.dom b o e; ⟨o', hs _ _ (ne0 b o e) e'⟩
    slots := fun b o e hn => let ⟨sl, e'⟩ := F.slots b o e hn; ⟨sl, hs _ _ (ne0 b o e) e'⟩
    gens := g.trans F.gens
    sys := q.trans F.sys
    drw := d.trans F.drw
    le := F.le
    inH := fun b o e => hs _ _ (by rintro rfl; rw [A.2.1] at e; cases e) (F.inH b o e)
    new := F.new
    ns := F.ns.extBut hs (Ne.symm A.2.2.1)
    HL := F.HL
    L0 := F.L0
    mus := fun p hp => by
      have := F.mus p (.tail _ hp)
      refine ⟨hs _ _ (fun e => ?_) this.1, this.2⟩
      have nd := F.nd
      rw [List.map_cons, List.nodup_cons] at nd
      exact nd.1 (List.mem_map.mpr ⟨p, hp, e⟩)
    nd := (List.nodup_cons.mp F.nd).2 }

/-- a for over a list that stays as it is -/
theorem forL {target : PySem.Expr} {body : List Stmt} {l : Addr} {vs : List Value} {Q : Flow → Shared → Prop} (J : Nat → (Str → Option Value) → Fz → List (Addr × Obj) → Prop)
    (F : Fm os s₀ H₀ L m H mu s) (hl : FList H l vs) (hA : A.handled = none) (h0 : J 0 m H mu)
    (go : ∀ I v i s₁ (Q : Unit → Shared → Prop), v ∈ vs → s₁.heap.IsListIter I l i → Q () s₁ → wpAny (model prog w) A (letOwnedTupleGo target (.ref I) v) Q (fun _ _ => False) s₁)
    (turn : ∀ i v I oI m H mu s, vs[i]? = some v → J i m H mu → FList H l vs → s₀.heap.get? I = none → Fm os s₀ H₀ L m H ((I, oI) :: mu) s →
      wpAny (model prog w) A (assign target env v) (fun _ s₂ => wpAny (model prog w) A (execs body env) (fun f s₃ => match f with
        | .next | .cont => ∃ m' H' mu', Fm os s₀ H₀ L m' H' ((I, oI) :: mu') s₃ ∧ Le H H' ∧ J (i + 1) m' H' mu'
        | .brk => False
        | .ret v => Q (.ret v) s₃) (fun _ _ => False) s₂) (fun _ _ => False) s)
    (fin : ∀ m H mu s, J vs.length m H mu → FList H l vs → Fm os s₀ H₀ L m H mu s → Q .next s) :
    wpAny (model prog w) A (pyIter (.ref l)) (fun it s₂ => codeAny (model prog w) A (.forLoop target it body [] env) (fun r s' => match r with | .ok f => Q f s' | .error e => cameBackBy (model prog w) A env E e s') s₂) E s := by
  refine wpAny_pyIter_list (hl.isList F) ?_
  have I0 := none_of F.dom (none_at s)
  have FI := F.pushMu (s' := { s with heap := s.heap.push { cls := .type "list_iterator", data := .fields #[.ref l, .int 0 0] } }) (none_at s) (fun _ _ e => Heap.get?_push_of_some _ e) (Heap.get?_push_size _ rfl)
  refine codeAny_forLoop_any (fun n s' => ∃ m H mu oI i, Fm os s₀ H₀ L m H ((s.heap.objs.size, oI) :: mu) s' ∧ IsIt oI l i ∧ FList H l vs ∧ J i m H mu ∧ i ≤ vs.length ∧ n = vs.length + 1 - i) ?_ (vs.length + 1)
    ⟨m, H, mu, _, 0, FI, ⟨rfl, rfl⟩, hl, h0, Nat.zero_le _, rfl⟩
  rintro n s' ⟨m, H, mu, oI, i, F, ⟨hc, hd⟩, hl, hJ, hi, rfl⟩
  have hit : s'.heap.IsListIter s.heap.objs.size l i := ⟨oI, (F.mus _ (.head _)).1, hc, hd⟩
  cases hv : vs[i]? with
  | none =>
    have hlen : i = vs.length := Nat.le_antisymm hi (by simpa using hv)
    refine wpAny_pyNext_list_end hA hit (hl.isList F) (by simpa using hv) fun h' he => ?_
    refine wpAny_execs_nil ?_
    exact fin m H mu _ (hlen ▸ hJ) hl (F.dropExt (s' := { s' with heap := h' }) he I0)
  | some v =>
    have hlt : i < vs.length := (List.getElem?_eq_some_iff.mp hv).1
    refine wpAny_pyNext_list_item hit (hl.isList F) (x := v) (by simpa using hv) fun h' hit' hs => ?_
    obtain ⟨oI', ho', hc', hd'⟩ := id hit'
    have F' := F.setMu (k := s'.toks) hs.extBut ho' I0
    refine wpAny_noRaise (go _ v (i + 1) _ _ (List.mem_of_getElem? hv) hit' ?_)
    refine wpAny_noRaise (wpAny_mono (turn i v _ oI' m H mu _ hv hJ hl I0 F') (fun _ s₂ h₂ => wpAny_noRaise (wpAny_mono h₂ (fun f s₃ h₃ => ?_) fun _ _ q => q)) fun _ _ q => q)
    have step : (∃ m' H' mu', Fm os s₀ H₀ L m' H' ((s.heap.objs.size, oI') :: mu') s₃ ∧ Le H H' ∧ J (i + 1) m' H' mu') →
        ∃ k, k < vs.length + 1 - i ∧ ∃ m H mu oI i, Fm os s₀ H₀ L m H ((s.heap.objs.size, oI) :: mu) s₃ ∧ IsIt oI l i ∧ FList H l vs ∧ J i m H mu ∧ i ≤ vs.length ∧ k = vs.length + 1 - i := by
      rintro ⟨m', H', mu', F₃, le, hJ'⟩
      exact ⟨vs.length + 1 - (i + 1), by omega, m', H', mu', oI', i + 1, F₃, ⟨hc', hd'⟩, hl.mono le, hJ', hlt, rfl⟩
    cases f with
    | next => exact step h₃
    | cont => exact step h₃
    | brk => exact h₃.elim
    | ret v => exact h₃

theorem go_name {x : Str} {p : Pos} {l : Addr} {vs : List Value} : ∀ I v i s₁ (Q : Unit → Shared → Prop), v ∈ vs → s₁.heap.IsListIter I l i → Q () s₁ →
    wpAny (model prog w) A (letOwnedTupleGo (.Name x p) (.ref I) v) Q (fun _ _ => False) s₁ := fun _ _ _ _ _ _ _ h => wpAny_pure h
theorem go_tup {elts : List PySem.Expr} {k : Nat} {p : Pos} {l : Addr} {vs : List Value} (hv : ∀ v ∈ vs, ∃ T, v = .ref T) : ∀ I v i s₁ (Q : Unit → Shared → Prop), v ∈ vs → s₁.heap.IsListIter I l i → Q () s₁ →
    wpAny (model prog w) A (letOwnedTupleGo (.Tuple elts k p) (.ref I) v) Q (fun _ _ => False) s₁ := fun I v i s₁ Q hm hit h => by
  obtain ⟨T, rfl⟩ := hv v hm
  exact wpAny_letOwnedTupleGo_listiter hit h

theorem unpack2 {x y : Str} {p1 p2 pos : Pos} {k : Nat} {t : Addr} {v1 v2 : Value} {Q : Unit → Shared → Prop} (F : Fm os s₀ H₀ L m H mu s) (ht : FTup H t [v1, v2]) (hh : A.handled = none) (hL0 : L ∉ os)
    (h : ∀ s', Fm os s₀ H₀ L (up (up m x v1) y v2) H mu s' → Q () s')
    (hk : env.scope.kind = .function := by rfl) (hL : env.locals = L := by rfl) (hx : env.kindOf x = some .local := by rfl) (hy : env.kindOf y = some .local := by rfl) :
    wpAny (model prog w) A (assign (.Tuple [.Name x p1, .Name y p2] k pos) env (.ref t)) Q E s := by
  refine unpackT F ht hh rfl rfl fun s1 F => ?_
  show wpAny _ _ (assignInOrder [assign (.Name x p1) env, assign (.Name y p2) env] [v1, v2]) _ _ _
  refine assignInOrder_cons (wpAny_assign_Name (stL F hL0 (fun s2 _ F => ?_) hk hL hx))
  refine assignInOrder_cons (wpAny_assign_Name (stL F hL0 (fun s2 _ F => ?_) hk hL hy))
  exact assignInOrder_nil (h _ F)
end
end Mine

set_option maxHeartbeats 8000000 in
open_top Mine.hd for PySem.Challenge.rw_pg0100_01

set_option maxHeartbeats 4000000

namespace Mine
local macro_rules | `(tactic| tb_start) => `(tactic| with_reducible first
  | refine wpAny_execs_cons ?_
  | refine wpAny_execs_nil ?_
  | refine wpAny_Return_some ?_
  | refine wpAny_BinOp ?_
  | refine wpAny_If ?_
  | refine wpAny_isTrue_Compare1 ?_ (by with_unfolding_all rfl)
  | refine wpAny_Compare1 ?_ (by with_unfolding_all rfl)
  | refine wpAny_truthy_bool ?_
  | refine wpAny_Assign_Name ?_ (by with_unfolding_all rfl)
  | refine wpAny_isTrue_BoolOp ?_
  | refine wpAny_allTrue_And_cons ?_
  | refine wpAny_allTrue_And_nil ?_
  | refine wpAny_allTrue_Or_cons ?_
  | refine wpAny_allTrue_Or_nil ?_
  | refine wpAny_isTrue_Not ?_
  | refine List_ ?_
  | refine Tuple_ ?_
  | refine args_nil ?_
  | refine args_cons ?_ (by with_unfolding_all rfl))
local macro_rules | `(tactic| tb_rel) => `(tactic| first
  | tb_start
  | (with_reducible refine cInt (by assumption) fun _ _ _ => ?_)
  | (with_reducible refine ldL (by assumption) (by first | with_unfolding_all rfl | with_unfolding_all assumption) ?_ (by with_unfolding_all rfl) (by with_unfolding_all rfl) (by with_unfolding_all rfl) (by with_unfolding_all rfl))
  | (with_reducible refine addI (by assumption) fun _ _ _ => ?_)
  | (with_reducible refine subI (by assumption) fun _ _ _ => ?_)
  | (with_reducible refine mulI (by assumption) (by with_unfolding_all exact PySem.IntMulOk.of_right (by decide)) fun _ _ _ => ?_)
  | (with_reducible refine cBool ?_)
  | (with_reducible refine eq_int ?_)
  | (with_reducible refine ne_int ?_)
  | (with_reducible refine gt_int ?_)
  | (with_reducible refine lt_int ?_)
  | (with_reducible refine modI (by assumption) (by with_unfolding_all decide) fun _ _ _ => ?_)
  | (with_reducible refine fdivI (by assumption) (by with_unfolding_all decide) (by with_unfolding_all exact PyProof.noPylong_of_log2 (by decide +kernel)) fun _ _ _ => ?_))

def IsLeaf (H : Fz) (v : Value) (l : Leaf) : Prop := ∃ T W t, v = .ref T ∧ FTup H T [.int l.1 t, .ref W] ∧ NList H W l.2
def Leaves (H : Fz) (a : Addr) (ls : List Leaf) : Prop := ∃ vs, FList H a vs ∧ Paired (IsLeaf H) vs ls
theorem IsLeaf.mono {H H' : Fz} {v : Value} {l : Leaf} (x : IsLeaf H v l) (le : Le H H') : IsLeaf H' v l := let ⟨T, W, t, e, a, b⟩ := x; ⟨T, W, t, e, a.mono le, b.mono le⟩
theorem leavesMono {H H' : Fz} {vs : List Value} {ls : List Leaf} (x : Paired (IsLeaf H) vs ls) (le : Le H H') : Paired (IsLeaf H') vs ls := Paired.mono (fun _ _ h => h.mono le) x
theorem Leaves.mono {H H' : Fz} {a : Addr} {ls : List Leaf} (x : Leaves H a ls) (le : Le H H') : Leaves H' a ls := let ⟨vs, e, p⟩ := x; ⟨vs, e.mono le, leavesMono p le⟩

theorem Paired.get {α β : Type} {R : α → β → Prop} : ∀ {l₁ : List α} {l₂ : List β} {i : Nat} {a : α}, Paired R l₁ l₂ → l₁[i]? = some a → ∃ b, l₂[i]? = some b ∧ R a b
  | _, _, _, _, .nil, h => by simp at h
  | _, _, 0, _, .cons h _, e => by simp at e; subst e; exact ⟨_, rfl, h⟩
  | _, _, i + 1, _, .cons _ t, e => by simpa using Paired.get t (by simpa using e)
theorem Paired.len {α β : Type} {R : α → β → Prop} : ∀ {l₁ : List α} {l₂ : List β}, Paired R l₁ l₂ → l₁.length = l₂.length
  | _, _, .nil => rfl
  | _, _, .cons _ t => by simp [Paired.len t]
theorem leaf_refs {H : Fz} : ∀ {vs : List Value} {ls : List Leaf}, Paired (IsLeaf H) vs ls → ∀ v ∈ vs, ∃ T, v = .ref T
  | _, _, .nil, _, h => nomatch h
  | _, _, .cons h t, v, hm => by
    rcases List.mem_cons.mp hm with rfl | hm
    · obtain ⟨T, _, _, e, _⟩ := h; exact ⟨T, e⟩
    · exact leaf_refs t v hm
theorem drop_get {α : Type} {l : List α} {i : Nat} {a : α} (h : l[i]? = some a) : l.drop i = a :: l.drop (i + 1) := by
  obtain ⟨hi, rfl⟩ := List.getElem?_eq_some_iff.mp h
  exact List.drop_eq_getElem_cons hi

section
variable {prog : Program} {w : World} {B : Heap} {mg mb : Str → Option Value} {A : Around} {s : Shared} {H₀ : Fz} {os : List Addr} {a : Addr}

theorem wn_spec {D : Addr} {ls : List Leaf} (G : Gd B mg mb) (hB : Base B H₀) (hH : ∀ b o, H₀ b = some o → s.heap.get? b = some o) (hos : ∀ b ∈ os, ∃ o, s.heap.get? b = some o)
    (ha : mg (fName (fd 13)) = some (.ref a)) (hd : A.depth < 399) (hA : A.handled = none) (hl : Leaves H₀ D ls) (hn : ls.length ≤ 100000) :
    codeAny (model prog w) A (.call (.ref a) ⟨[.ref D], []⟩) (Ret fun v s' => ∃ D' H', v = .ref D' ∧ Leaves H' D' (wn true ls) ∧ Bk os H₀ s s' H') s := by
  refine enter (i := 13) (os := os) (binds := [(Str.ofString "leaves", .ref D)]) G hB hH (by decide) ha (by omega) (fun _ _ _ => rfl) (by intro y hy; rw [List.mem_singleton.mp hy]; rfl) ?_
  intro cd s' _ F
  have hL := not_mem_os hos
  obtain ⟨vs, hvs, hp⟩ := hl
  change wpAny _ _ (execs (_ :: _) _) _ _ _
  repeat (tb_rel)
  refine newListM F (by simp) fun K s1 hK F => ?_
  refine stL F hL fun s2 _ F => ?_
  repeat (tb_rel)
  refine stL F hL fun s3 _ F => ?_
  refine wpAny_execs_cons ?_
  refine wpAny_For ?_
  refine ldL F rfl ?_
  refine forL (fun i m H mu => ∃ vk n hb kept, m (Str.ofString "kept") = some (.ref K) ∧ m (Str.ofString "head") = some (.bool hb) ∧ mu = [(K, lo vk n)] ∧ Le H₀ H ∧ Paired (IsLeaf H) vk kept ∧
      kept ++ wn hb (ls.drop i) = wn true ls ∧ kept.length ≤ i) F hvs hA
    ⟨[], 0, true, [], rfl, rfl, rfl, Le.refl _, .nil, rfl, Nat.le_refl _⟩ (go_tup (leaf_refs hp)) ?_ ?_
  · rintro i v I oI m H mu s hv ⟨vk, n, hb, kept, m1, m2, rfl, le, pk, e1, e2⟩ hvs hI F
    obtain ⟨l, hli, T, W, tc, rfl, hT, hW⟩ := Paired.get hp hv
    refine unpack2 F (hT.mono le) hA hL fun s1 F => ?_
    have hd := drop_get hli
    refine wpAny_execs_cons ?_
    refine wpAny_If ?_
    refine testF F (¬ (l.1 = 64 ∧ hb = true)) ?_ ?_ ?_
    · repeat (tb_rel)
      by_cases qa : l.1 = 64
      · rw [if_neg (by simp; omega)]
        repeat (tb_rel)
        refine wpAny_isTrue_value ?_
        repeat (tb_rel)
        cases hb
        · rw [if_pos (by decide)]
          exact ⟨by simp, _, by assumption, Le.refl _⟩
        · rw [if_neg (by decide)]
          repeat (tb_rel)
          exact ⟨by simp [qa], _, by assumption, Le.refl _⟩
      · rw [if_pos (by simp; omega)]
        exact ⟨by simp [qa], _, by assumption, Le.refl _⟩
    · intro q H' s' F le'
      rw [if_pos rfl]
      refine wpAny_execs_cons ?_
      refine appendM F (D := K) m1 (.tail _ (.head _)) ?_
      repeat (tb_rel)
      refine newTupF (by assumption) (by simp) fun T' s' hT' F => ?_
      have lenk := Paired.len pk
      have hi : i < ls.length := (List.getElem?_eq_some_iff.mp hli).1
      refine ⟨_, _, _, _, _, F.swap, by omega, hK, fun n' s' F => ?_⟩
      repeat (tb_rel)
      refine stL (by assumption) hL fun s' _ F => ?_
      refine wpAny_execs_nil ?_
      refine wpAny_execs_nil ?_
      have le2 : Le H (H'.put T' (tu [.int l.1 tc, .ref W])) := le'.trans (Le.put _ hT')
      refine ⟨_, _, _, F.swap, le2, _, _, _, kept ++ [l], m1, rfl, rfl, le.trans le2, ?_, ?_, ?_⟩
      · exact Paired.snoc (leavesMono pk le2) ⟨T', W, tc, rfl, FTup.put .., hW.mono (le.trans le2)⟩
      · rw [← e1, hd, List.append_assoc]
        simp only [wn]
        rw [if_neg q, show decide ((l.1 : Int) < 64) = decide (l.1 < 64) from decide_eq_decide.mpr (by omega)]
        simp
      · simp; omega
    · intro q H' s' F le'
      rw [if_neg Bool.false_ne_true]
      refine wpAny_execs_nil ?_
      refine wpAny_execs_nil ?_
      refine ⟨_, _, _, F, le', vk, n, hb, kept, m1, m2, rfl, le.trans le', leavesMono pk le', ?_, by omega⟩
      rw [← e1, hd]
      simp only [wn]
      rw [if_pos (Decidable.not_not.mp q)]
  · rintro m H mu s ⟨vk, n, hb, kept, m1, m2, rfl, le, pk, e1, e2⟩ hvs F
    repeat (tb_rel)
    refine ⟨_, rfl, K, _, rfl, ⟨vk, FList.put .., leavesMono (le := Le.put _ (F.mus _ (.head _)).2.1) ?_⟩, (F.freeze hK).toBk⟩
    rw [Paired.len hp, List.drop_length, show wn hb [] = [] from rfl, List.append_nil] at e1
    rw [← e1]
    exact pk
end

section
variable {os : List Addr} {s₀ s : Shared} {H₀ H : Fz} {L : Addr} {m : Str → Option Value} {mu : List (Addr × Obj)} {prog : Program} {w : World} {A : Around} {E : Value → Shared → Prop} {B : Heap} {mg mb : Str → Option Value} {env : Env}

/-- a while by an invariant and a measure -/
theorem whileF {test : PySem.Expr} {body : List Stmt} {pos : Pos} {n : Nat} {Q : Flow → Shared → Prop} (J : Nat → (Str → Option Value) → Fz → List (Addr × Obj) → Prop) (F : Fm os s₀ H₀ L m H mu s) (h0 : J n m H mu)
    (turn : ∀ n m H mu s, J n m H mu → Fm os s₀ H₀ L m H mu s → wpAny (model prog w) A (isTrue test env (eval test env)) (fun b s₂ =>
      if b then wpAny (model prog w) A (execs body env) (fun f s₃ => match f with
          | .next | .cont => ∃ k m' H' mu', k < n ∧ J k m' H' mu' ∧ Fm os s₀ H₀ L m' H' mu' s₃
          | .brk => Q .next s₃
          | .ret v => Q (.ret v) s₃) E s₂
      else Q .next s₂) E s)
    (hE : PassesOwn (model prog w) A env E := by passes_own) :
    wpAny (model prog w) A (exec (.While test body [] pos) env) Q E s := by
  refine wpAny_While ?_
  refine codeAny_whileLoop (fun n s => ∃ m H mu, J n m H mu ∧ Fm os s₀ H₀ L m H mu s) ?_ n ⟨m, H, mu, h0, F⟩
  rintro n s ⟨m, H, mu, hJ, F⟩
  refine wpAny_passesOwn hE (wpAny_mono (turn n m H mu s hJ F) (fun b s₂ h₂ => ?_) fun _ _ q => q)
  cases b with
  | true =>
    rw [if_pos rfl] at h₂ ⊢
    refine wpAny_passesOwn hE (wpAny_mono h₂ (fun f s₃ h₃ => ?_) fun _ _ q => q)
    cases f with
    | next => obtain ⟨k, m', H', mu', hk, hJ', F'⟩ := h₃; exact ⟨k, hk, m', H', mu', hJ', F'⟩
    | cont => obtain ⟨k, m', H', mu', hk, hJ', F'⟩ := h₃; exact ⟨k, hk, m', H', mu', hJ', F'⟩
    | brk => exact h₃
    | ret v => exact h₃
  | false =>
    rw [if_neg Bool.false_ne_true] at h₂ ⊢
    exact wpAny_execs_nil h₂

/-- a list comprehension over something that walks -/
theorem compP {elt iter : PySem.Expr} {x : Str} {px : Pos} {ifs : List PySem.Expr} {scope : Scope} {cl : List (Str × Addr)} {pos : Pos} {Q : Value → Shared → Prop} (_F : Fm os s₀ H₀ L m H mu s) (p : Value → Bool) (Fel : Value → Value → Prop)
    (hclos : closureFor scope env = pure cl) (hcell : ∀ y ∈ scope.names, y.2 ≠ .cell) (hkind : scope.kind = .function)
    (hnames : ∀ y ∈ scope.names, y.2 = .local → scope.names.lookup y.1 = some .local) (hx : scope.names.lookup x = some .local)
    (h : wpAny (model prog w) A (eval iter env) (fun xv s₁ => wpAny (model prog w) A (pyIter xv) (fun it s₂ => ∃ I oI fp n P St m₁ H₁ mu₁, it = .ref I ∧ Walks prog w A I fp [I] n P St ∧ n ≤ 1000000 ∧
      St 0 s₂.heap ∧ (∀ b ∈ fp, b < s₂.heap.objs.size) ∧ Fm os s₀ H₀ L m₁ H₁ ((I, oI) :: mu₁) s₂ ∧ s₀.heap.get? I = none ∧
      (∀ C i v s₃ m₃, P i v → s₃.heap.Ns C m₃ → m₃ x = some v → (∀ b o, b ≠ I → s₂.heap.get? b = some o → s₃.heap.get? b = some o) →
        wpAny (model prog w) A (forIn ifs true fun c r => if r = true then do let ok ← isTrue c (compEnvC scope cl C env) (eval c (compEnvC scope cl C env)); pure (ForInStep.yield ok) else pure (ForInStep.yield r))
          (fun ok s₄ => ok = p v ∧ Keeps s₃ s₄) (fun _ _ => False) s₃) ∧
      (∀ C i v s₃ m₃, P i v → p v = true → s₃.heap.Ns C m₃ → m₃ x = some v → (∀ b o, b ≠ I → s₂.heap.get? b = some o → s₃.heap.get? b = some o) →
        wpAny (model prog w) A (eval elt (compEnvC scope cl C env)) (fun y s₄ => Fel v y ∧ Keeps s₃ s₄) (fun _ _ => False) s₃) ∧
      (∀ D ys k s' (vs : List Value), H₁ D = none → vs.length = n → (∀ j v, vs[j]? = some v → P j v) → Paired Fel (vs.filter p) ys → Fm os s₀ H₀ L m₁ (H₁.put D (lo ys k)) mu₁ s' → Q (.ref D) s')) E s₁) E s)
    (hs : ∀ x, foldedSetIterable iter env x = pure x := by intro _; rfl) :
    wpAny (model prog w) A (eval (.ListComp elt [⟨.Name x px, iter, ifs, 0⟩] scope pos) env) Q E s := by
  refine wpAny_ListComp_free p Fel hclos hcell hkind hnames hx (wpAny_mono h (fun xv s₁ h₁ => wpAny_mono h₁ (fun it s₂ h₂ => ?_) fun _ _ q => q) fun _ _ q => q) hs
  obtain ⟨I, oI, fp, n, P, St, m₁, H₁, mu₁, rfl, W, hsz, hst, hfp, F₂, hI, htest, helt, hQ⟩ := h₂
  refine ⟨I, fp, [I], n, P, St, rfl, W, big hsz, hst, hfp, ?_, ?_⟩
  · refine ⟨fun C i v s₃ m₃ E' _ hv hn hm hk _ => wpAny_noRaise (htest C i v s₃ m₃ hv hn hm fun b o hb e => hk b o (by simpa using hb) e),
      fun C i v s₃ m₃ E' _ hv hpv hn hm hk _ => wpAny_noRaise (helt C i v s₃ m₃ hv hpv hn hm fun b o hb e => hk b o (by simpa using hb) e)⟩
  · intro D h' tk ys vs hD _ hpl hlen hP' hF hk
    obtain ⟨k, hpl⟩ := hpl
    have F₃ : Fm os s₀ H₀ L m₁ H₁ mu₁ { s₂ with heap := h', toks := tk } := F₂.dropExt (fun b o hb e => hk b o (by simpa using hb) e) hI
    refine hQ D ys.toList k _ vs (F₂.noneH hD) hlen hP' hF ?_
    exact
      { F₃ with
        le := fun b o e => Le.put _ (F₂.noneH hD) _ _ (F₃.le b o e)
        inH := fun b o e => by
          by_cases hb : b = D
          · subst hb; rw [Fz.put_self] at e; cases e; exact hpl
          · rw [Fz.put_ne _ _ hb] at e; exact F₃.inH _ _ e
        new := fun b o e => by
          by_cases hb : b = D
          · subst hb; exact .inr (none_of F₂.dom hD)
          · rw [Fz.put_ne _ _ hb] at e; exact F₃.new _ _ e
        HL := by rw [Fz.put_ne _ _ (Ne.symm (F₂.neL hD))]; exact F₃.HL
        mus := fun q hq => by
          have := F₃.mus q hq
          refine ⟨this.1, ?_, this.2.2⟩
          rw [Fz.put_ne _ _ (F₂.neMu hD q (.tail _ hq))]; exact this.2.1 }

theorem list_eq_of_items {vs vs' : List Value} (hlen : vs'.length = vs.length) (h : ∀ (j : Nat) (v : Value), vs'[j]? = some v → vs[j]? = some v) : vs' = vs := by
  apply List.ext_getElem?
  intro j
  cases hj : vs'[j]? with
  | some v => exact (h j v hj).symm
  | none =>
    have : vs'.length ≤ j := List.getElem?_eq_none_iff.mp hj
    exact (List.getElem?_eq_none_iff.mpr (by omega)).symm

/-- l[:-1] -/
theorem butLast {l : Addr} {vs : List Value} {value : PySem.Expr} {p p1 p2 pos : Pos} {k : Nat} {Q : Value → Shared → Prop} (F : Fm os s₀ H₀ L m H mu s) (hl : ∃ n, IsL s.heap l vs.toArray n) (hsz : vs.length ≤ 1000000)
    (hv : ∀ Q', Q' (.ref l) s → wpAny (model prog w) A (eval value env) Q' E s)
    (h : ∀ D s', H D = none → Fm os s₀ H₀ L m (H.put D (lo (vs.take (vs.length - 1)) 0)) mu s' → Q (.ref D) s')
    (ht : ∀ o r, letTemporaryGo value o r = pure () := by intro _ _; rfl) :
    wpAny (model prog w) A (eval (.Subscript value (.Slice none (some (.UnaryOp .USub (.Constant (.int 1) k p1) p2)) none p) pos) env) Q E s := by
  obtain ⟨n, hl⟩ := hl
  refine wpAny_Subscript_Slice list_getitem_lookup (hv _ ?_) ht
  refine wpAny_Slice (evalPart_none_step (evalPart_some_step (wpAny_UnaryOp ?_)))
  refine wpAny_Constant_int (P.neg_int (evalPart_none_step ⟨?_, ?_⟩))
  · exact ⟨_, Heap.get?_push_of_some _ hl, rfl⟩
  · refine wpAny_getItem_list_slice (hl.push _).isList (Heap.IsSliceOf.new ..) .none (.int _ _) .none (by simp) ?_ (by rw [List.size_toArray]; exact big hsz)
    have F1 := F.grow0 (s' := { s with heap := s.heap.push { cls := .type "slice", data := .fields #[.none, .int (-1) (s.toks + 1), .none] }, toks := s.toks + 1 + 1 }) (fun _ _ e => Heap.get?_push_of_some _ e) rfl rfl rfl
    refine h _ _ (F1.noneH (none_at _)) (F1.push (none_at _) (fun _ _ e => Heap.get?_push_of_some _ e) ?_)
    rw [Heap.get?_push_size _ rfl]
    have := slicePick_butLast vs.toArray 1 (Nat.le_refl _)
    simp only [List.size_toArray] at this
    rw [show (-(1 : Int)) = -((1 : Nat) : Int) from rfl, this]
    rfl

/-- within a comprehension's block -/
theorem inC {I : Addr} {oI : Obj} {s₃ : Shared} (FI : Fm os s₀ H₀ L m H ((I, oI) :: mu) s) (hk : ∀ b o, b ≠ I → s.heap.get? b = some o → s₃.heap.get? b = some o) : ∀ b o, H b = some o → s₃.heap.get? b = some o :=
  fun b o e => hk b o (fun q => by have := (FI.mus _ (.head _)).2.1; rw [← q] at this; rw [this] at e; cases e) (FI.inH _ _ e)
theorem stC {I : Addr} {oI : Obj} {s₃ : Shared} (FI : Fm os s₀ H₀ L m H ((I, oI) :: mu) s) (hB : Base B H₀) (hk : ∀ b o, b ≠ I → s.heap.get? b = some o → s₃.heap.get? b = some o) : ∀ b o, B.get? b = some o → s₃.heap.get? b = some o :=
  fun b o e => inC FI hk b o (FI.le _ _ (hB _ _ e))
theorem ldBC {M : Model} {x : Str} {pos : Pos} {v : Value} {Q : Value → Shared → Prop} (G : Gd B mg mb) (st : ∀ b o, B.get? b = some o → s.heap.get? b = some o) (hx : x ∈ usedNames) (hv : bootBuiltins x = some v) (h : Q v s)
    (hk : env.scope.kind = .function := by rfl) (hg : env.globals = mainGlobals := by rfl) (hb : env.builtins = builtinsNs := by rfl) (hl : env.kindOf x = some .globalImplicit := by rfl) (hd : (x == ("__debug__" : Str)) = false := by decide) :
    wpAny M A (eval (.Name x pos) env) Q E s :=
  Name_function_global hk hl (loadGlobal_builtin (by rw [hg]; exact G.g.keeps st) (G.free x hx).1 (by rw [hb]; exact G.b.keeps st) ((G.free x hx).2.trans hv) h) hd
theorem ldLC {M : Model} {C : Addr} {x : Str} {pos : Pos} {v : Value} {Q : Value → Shared → Prop} (hn : s.heap.Ns C m) (hv : m x = some v) (h : Q v s)
    (hk : env.scope.kind = .function := by rfl) (hL : env.locals = C := by rfl) (hl : env.kindOf x = some .local := by rfl) (hd : (x == ("__debug__" : Str)) = false := by decide) :
    wpAny M A (eval (.Name x pos) env) Q E s := wpAny_Name (wpAny_loadName_local hk hl (hL ▸ hn) hv h) hd

/-- a list comprehension over a list that stays as it is -/
theorem compL {elt iter : PySem.Expr} {x : Str} {px : Pos} {ifs : List PySem.Expr} {scope : Scope} {cl : List (Str × Addr)} {pos : Pos} {Q : Value → Shared → Prop} (F : Fm os s₀ H₀ L m H mu s) (hA : A.handled = none) (p : Value → Bool) (Fel : Value → Value → Prop)
    (hclos : closureFor scope env = pure cl) (hcell : ∀ y ∈ scope.names, y.2 ≠ .cell) (hkind : scope.kind = .function)
    (hnames : ∀ y ∈ scope.names, y.2 = .local → scope.names.lookup y.1 = some .local) (hx : scope.names.lookup x = some .local)
    (h : wpAny (model prog w) A (eval iter env) (fun xv s₁ => ∃ l m₁ H₁ mu₁, ∃ vs : List Value, xv = .ref l ∧ Fm os s₀ H₀ L m₁ H₁ mu₁ s₁ ∧ FList H₁ l vs ∧ vs.length ≤ 1000000 ∧
      (∀ I oI s₂ C v s₃ m₃, Fm os s₀ H₀ L m₁ H₁ ((I, oI) :: mu₁) s₂ → v ∈ vs → s₃.heap.Ns C m₃ → m₃ x = some v → (∀ b o, b ≠ I → s₂.heap.get? b = some o → s₃.heap.get? b = some o) →
        wpAny (model prog w) A (forIn ifs true fun c r => if r = true then do let ok ← isTrue c (compEnvC scope cl C env) (eval c (compEnvC scope cl C env)); pure (ForInStep.yield ok) else pure (ForInStep.yield r))
          (fun ok s₄ => ok = p v ∧ Keeps s₃ s₄) (fun _ _ => False) s₃) ∧
      (∀ I oI s₂ C v s₃ m₃, Fm os s₀ H₀ L m₁ H₁ ((I, oI) :: mu₁) s₂ → v ∈ vs → p v = true → s₃.heap.Ns C m₃ → m₃ x = some v → (∀ b o, b ≠ I → s₂.heap.get? b = some o → s₃.heap.get? b = some o) →
        wpAny (model prog w) A (eval elt (compEnvC scope cl C env)) (fun y s₄ => Fel v y ∧ Keeps s₃ s₄) (fun _ _ => False) s₃) ∧
      (∀ D ys n s', H₁ D = none → Paired Fel (vs.filter p) ys → Fm os s₀ H₀ L m₁ (H₁.put D (lo ys n)) mu₁ s' → Q (.ref D) s')) E s)
    (hs : ∀ x, foldedSetIterable iter env x = pure x := by intro _; rfl) :
    wpAny (model prog w) A (eval (.ListComp elt [⟨.Name x px, iter, ifs, 0⟩] scope pos) env) Q E s := by
  refine compP F p Fel hclos hcell hkind hnames hx (wpAny_mono h (fun xv s₁ h₁ => ?_) fun _ _ q => q) hs
  obtain ⟨l, m₁, H₁, mu₁, vs, rfl, F₁, hl, hsz, ht, he, hQ⟩ := h₁
  refine wpAny_pyIter_list (hl.isList F₁) ?_
  have I0 := none_of F₁.dom (none_at s₁)
  have FI := F₁.pushMu (s' := { s₁ with heap := s₁.heap.push { cls := .type "list_iterator", data := .fields #[.ref l, .int 0 0] } }) (none_at s₁) (fun _ _ e => Heap.get?_push_of_some _ e) (Heap.get?_push_size _ rfl)
  have hll : l < s₁.heap.objs.size := by obtain ⟨n, e⟩ := hl; exact Heap.lt_size (F₁.inH _ _ e)
  have W := Walks.list (prog := prog) (w := w) (A := A) hA s₁.heap.objs.size l (Nat.ne_of_lt hll) vs.toArray
  rw [List.size_toArray] at W
  refine ⟨s₁.heap.objs.size, _, _, _, _, _, m₁, H₁, mu₁, rfl, W, hsz, ⟨⟨_, Heap.get?_push_size _ rfl, rfl, rfl⟩, (hl.isList F₁).push _⟩, ?_, FI, I0,
    fun C i v s₃ m₃ hv => ht _ _ _ C v s₃ m₃ FI (List.mem_of_getElem? (by simpa using hv)), fun C i v s₃ m₃ hv => he _ _ _ C v s₃ m₃ FI (List.mem_of_getElem? (by simpa using hv)),
    fun D ys k s' vs' hD hlen hP hF => hQ D ys k s' hD (by rw [← list_eq_of_items (vs := vs) hlen fun j v hj => by simpa using hP j v hj]; exact hF)⟩
  intro b hb
  simp only [List.mem_cons, List.not_mem_nil, or_false] at hb
  rw [Heap.size_push]
  rcases hb with rfl | rfl
  · exact Nat.lt_succ_self _
  · exact Nat.lt_succ_of_lt hll
end

theorem fmodN (x k : Nat) : Int.fmod (x : Int) (k : Int) = ((x % k : Nat) : Int) := by
  rw [Int.fmod_eq_emod_of_nonneg _ (by omega)]; rfl
theorem fdivN (x k : Nat) : Int.fdiv (x : Int) (k : Int) = ((x / k : Nat) : Int) := by
  rw [Int.fdiv_eq_ediv_of_nonneg _ (by omega)]; rfl

theorem ints_len {vs : List Value} {ns : List Nat} (h : IntsAre vs (cast ns)) : vs.length = ns.length := by
  have := IntsAre.length h
  simpa using this
theorem ints_get {vs : List Value} {ns : List Nat} {i : Nat} {v : Value} (h : IntsAre vs (cast ns)) (hv : vs[i]? = some v) : ∃ n t, ns[i]? = some n ∧ v = .int (n : Int) t := by
  induction ns generalizing vs i with
  | nil => cases h; simp at hv
  | cons k r ih =>
    cases h with
    | cons _ t h' =>
      cases i with
      | zero => simp at hv; subst hv; exact ⟨k, t, rfl, rfl⟩
      | succ j => simpa using ih h' (by simpa using hv)

theorem sub_len {ns : List Nat} {i x : Nat} (hx : ns[i]? = some x) : (packNum x).length ≤ (ns.flatMap packNum).length := by
  have hm := List.mem_of_getElem? hx
  induction ns generalizing i with
  | nil => cases hm
  | cons a r ih =>
    rw [List.flatMap_cons, List.length_append]
    rcases List.mem_cons.mp hm with rfl | hm
    · omega
    · obtain ⟨j, hj⟩ := List.mem_iff_getElem?.mp hm
      have := ih hj hm
      omega
theorem flat_take_len (ns : List Nat) (i : Nat) : ((ns.take i).flatMap packNum).length ≤ (ns.flatMap packNum).length := by
  have : ns.flatMap packNum = (ns.take i).flatMap packNum ++ (ns.drop i).flatMap packNum := by rw [← List.flatMap_append, List.take_append_drop]
  rw [this, List.length_append]; omega
theorem filter_tt' {α : Type} (l : List α) : l.filter (fun _ => true) = l := by simp

/-- the signs' texts -/
theorem chr_list : ∀ {vk : List Value} {ns : List Nat} {ys : List Value}, IntsAre vk (cast ns) → Paired (fun v y => ∃ (c : Nat) (t t' : Tok), v = .int (c : Int) t ∧ y = .str ⟨#[c]⟩ t') (vk.take (vk.length - 1)) ys →
    ∃ l : List (Str × Tok), ys = strValues l ∧ l.map (·.1) = (ns.dropLast).map fun c => (⟨#[c]⟩ : Str) := by
  intro vk ns ys h hp
  have key : ∀ (us : List Value) (ks : List Nat) (ys : List Value), IntsAre us (cast ks) → Paired (fun v y => ∃ (c : Nat) (t t' : Tok), v = .int (c : Int) t ∧ y = .str ⟨#[c]⟩ t') us ys →
      ∃ l : List (Str × Tok), ys = strValues l ∧ l.map (·.1) = ks.map fun c => (⟨#[c]⟩ : Str) := by
    intro us
    induction us with
    | nil =>
      intro ks ys hi hp
      cases hp
      cases ks with
      | nil => exact ⟨[], rfl, rfl⟩
      | cons _ _ => cases hi
    | cons u r ih =>
      intro ks ys hi hp
      cases hp with
      | cons hu ht =>
        cases ks with
        | nil => cases hi
        | cons k ks =>
          cases hi with
          | cons _ t hi' =>
            obtain ⟨c, t1, t2, e1, rfl⟩ := hu
            obtain ⟨l, rfl, e⟩ := ih ks _ hi' ht
            injection e1 with e1 _
            have : k = c := Int.ofNat_inj.mp e1
            subst this
            exact ⟨(⟨#[k]⟩, t2) :: l, rfl, by simp [e]⟩
  have hlen := ints_len h
  refine key _ _ _ ?_ hp
  have := IntsAre.take h (vk.length - 1)
  rw [List.dropLast_eq_take, ← hlen]
  rwa [← List.map_take] at this

theorem join_ok {ns : List Nat} (h : ns.length ≤ 1000000) : JoinOk (Str.ofString "") (ns.map fun c => (⟨#[c]⟩ : Str)) = true := by
  unfold JoinOk Builtin.Str.tooLong
  have : ∀ (l : List Nat) (k : Nat), (l.map fun c => (⟨#[c]⟩ : Str)).foldl (fun a x => a + x.length + (Str.ofString "").length) k = k + l.length := by
    intro l
    induction l with
    | nil => intro k; rfl
    | cons a r ih =>
      intro k
      rw [List.map_cons, List.foldl_cons, ih]
      show k + 1 + 0 + r.length = _
      rw [List.length_cons]; omega
  rw [List.foldl_toArray', this, sizeLine_eq]
  · simp; omega
  · rfl
theorem join_signs (ns : List Nat) : Txt.join (Str.ofString "") (ns.map fun c => (⟨#[c]⟩ : Str)) = ⟨ns.toArray⟩ := by
  unfold Txt.join
  rw [StrLaws.glued_eq_join]
  apply str_ext
  induction ns with
  | nil => rfl
  | cons a r ih =>
    cases r with
    | nil => rfl
    | cons b r =>
      show ((⟨#[a]⟩ : Str) ++ Str.ofString "" ++ Str.join (Str.ofString "") ((b :: r).map fun c => (⟨#[c]⟩ : Str))).cps.toList = a :: b :: r
      simp only [Str.cps_append, Array.toList_append]
      rw [ih]
      rfl
theorem packNum_len (n : Nat) : 1 ≤ (packNum n).length := by simp [packNum]

section
variable {prog : Program} {w : World} {B : Heap} {mg mb : Str → Option Value} {A : Around} {s : Shared} {H₀ : Fz} {os : List Addr} {a : Addr}

theorem pack_spec {D : Addr} {ns : List Nat} (G : Gd B mg mb) (hB : Base B H₀) (hH : ∀ b o, H₀ b = some o → s.heap.get? b = some o) (hos : ∀ b ∈ os, ∃ o, s.heap.get? b = some o)
    (ha : mg (fName (fd 12)) = some (.ref a)) (hd : A.depth < 399) (hA : A.handled = none) (hl : NList H₀ D ns) (hn : (ns.flatMap packNum).length ≤ 100000) (hc : ∀ c ∈ ns.flatMap packNum, c < 128) :
    codeAny (model prog w) A (.call (.ref a) ⟨[.ref D], []⟩) (Ret fun v s' => (∃ t, v = .str ⟨(packF ns).toArray⟩ t) ∧ ∃ H', Bk os H₀ s s' H') s := by
  refine enter (i := 12) (os := os) (binds := [(Str.ofString "numbers", .ref D)]) G hB hH (by decide) ha (by omega) (fun _ _ _ => rfl) (by intro y hy; rw [List.mem_singleton.mp hy]; rfl) ?_
  intro cd s' _ F
  have hL := not_mem_os hos
  obtain ⟨vs, hvs, hp⟩ := hl
  change wpAny _ _ (execs (_ :: _) _) _ _ _
  repeat (tb_rel)
  refine newListM F (by simp) fun K s1 hK F => ?_
  refine stL F hL fun s2 _ F => ?_
  refine wpAny_execs_cons ?_
  refine wpAny_For ?_
  refine ldL F rfl ?_
  refine forL (fun i m H mu => ∃ vk n, m (Str.ofString "octets") = some (.ref K) ∧ mu = [(K, lo vk n)] ∧ Le H₀ H ∧ IntsAre vk (cast ((ns.take i).flatMap packNum))) F hvs hA
    ⟨[], 0, rfl, rfl, Le.refl _, .nil⟩ go_name ?_ ?_
  · rintro i v I oI m H mu sx hv ⟨vk, n, m1, rfl, le, pk⟩ hvs hI F
    obtain ⟨x, tx, hx, rfl⟩ := ints_get hp hv
    refine wpAny_assign_Name (stL F hL fun s1 _ F => ?_)
    repeat (tb_rel)
    refine stL (by assumption) hL fun s1 _ F => ?_
    repeat (tb_rel)
    refine newListF (by assumption) (by simp) fun d s2 hd F => ?_
    refine stL F hL fun s3 _ F => ?_
    refine wpAny_execs_cons ?_
    refine whileF (n := x) (fun y m' H' mu' => ∃ d ds t, m' (Str.ofString "octets") = some (.ref K) ∧ m' (Str.ofString "left") = some (.int (y : Int) t) ∧ m' (Str.ofString "digits") = some (.ref d) ∧ mu' = [(I, oI), (K, lo vk n)] ∧ Le H H' ∧
      NList H' d ds ∧ hi (y / 64) ++ ds = packNum x) F ⟨d, [x % 64], _, m1, rfl, rfl, rfl, Le.put _ hd, ⟨_, FList.put .., ?_⟩, rfl⟩ ?_
    · rw [show Int.fmod (x : Int) 64 = ((x % 64 : Nat) : Int) from fmodN x 64]
      exact .cons _ _ .nil
    · rintro y m' H' mu' s' ⟨d, ds, t, m1, m2, m3, rfl, le', hds, e⟩ F
      repeat (tb_rel)
      by_cases q : 63 < y
      · rw [if_pos (by simp; omega)]
        repeat (tb_rel)
        refine stL (by assumption) hL fun s1 _ F => ?_
        rw [show Int.fdiv (y : Int) 64 = ((y / 64 : Nat) : Int) from fdivN y 64] at F
        repeat (tb_rel)
        refine newListF (by assumption) (by simp) fun d1 s2 hd1 F => ?_
        repeat (tb_rel)
        obtain ⟨us, hus, hui⟩ := hds
        have lenu := ints_len hui
        have lend : ds.length ≤ 100000 := by
          have h1 := sub_len hx
          rw [← e, List.length_append] at h1
          omega
        refine addL F ((FList.put ..).isL F) ((hus.mono (Le.put _ hd1)).isL F) (by simp; omega) fun d2 s3 hd2 F => ?_
        refine stL F hL fun s4 _ F => ?_
        refine wpAny_execs_nil ?_
        refine ⟨y / 64, _, _, _, by omega, ?_, F⟩
        refine ⟨d2, (64 + y / 64 % 64) :: ds, _, m1, rfl, rfl, rfl, (le'.trans (Le.put _ hd1)).trans (Le.put _ hd2), ⟨_, FList.put .., ?_⟩, ?_⟩
        · rw [show Int.fmod ((y / 64 : Nat) : Int) 64 = ((y / 64 % 64 : Nat) : Int) from fmodN (y / 64) 64]
          exact .cons _ _ hui
        · rw [← e, hi_pos (l := y / 64) (by omega)]
          simp
      · rw [if_neg (by simp; omega)]
        rename_i F
        refine wpAny_execs_cons ?_
        refine extendM F (D := K) m1 (.tail _ (.head _)) ?_
        refine ldL F m3 ?_
        obtain ⟨us, hus, hui⟩ := hds
        have lenu := ints_len hui
        have lenk := ints_len pk
        have eds : ds = packNum x := by
          rw [← e, show y / 64 = 0 by omega, hi_zero]; rfl
        have htk : (ns.take (i + 1)).flatMap packNum = (ns.take i).flatMap packNum ++ packNum x := by
          rw [List.take_add_one, hx]; simp
        have hle : ((ns.take i).flatMap packNum).length + (packNum x).length ≤ 100000 := by
          rw [← List.length_append, ← htk]
          exact Nat.le_trans (flat_take_len _ _) hn
        refine ⟨_, _, _, _, _, d, us, rfl, hus, F.swap, ?_, hK, fun n' s1 F => ?_⟩
        · rw [lenu, lenk, eds]; omega
        refine wpAny_execs_nil ?_
        refine ⟨_, _, _, F.swap, le', _, _, m1, rfl, le.trans le', ?_⟩
        rw [htk, cast, List.map_append]
        exact IntsAre.append pk (eds ▸ hui)
  · rintro m H mu sx ⟨vk, n, m1, rfl, le, pk⟩ hvs F
    rw [ints_len hp, List.take_length] at pk
    have lenk := ints_len pk
    refine wpAny_execs_cons ?_
    refine wpAny_Return_some ?_
    refine Call_method1 rfl rfl rfl ?_
    refine cStr F fun te s1 F => ?_
    refine ⟨"str", "str.join", PySem.F.plainAttrs_str, PySem.F.slot_str_join, PySem.F.type_str_join, typeIs_str _ _ _, (fun _ e => nomatch e), ?_⟩
    refine callWith_builtin rfl (evalArgs_plain (spliced_cons ?_))
    refine compL F hA (fun _ => true) (fun v y => ∃ (c : Nat) (t t' : Tok), v = .int (c : Int) t ∧ y = .str ⟨#[c]⟩ t') rfl (by decide) rfl (by decide) rfl ?_
    refine butLast F ⟨n, (F.mus _ (.head _)).1⟩ (by omega) (fun Q' h => ldL F m1 h) fun D2 s2 hD2 F => ?_
    refine ⟨D2, _, _, _, vk.take (vk.length - 1), rfl, F, FList.put .., by simp; omega, ?_, ?_, ?_⟩
    · intro I oI s4 C v s3 m3 FI hv hns hm hk
      exact wpAny_pure ⟨rfl, s3.heap, s3.toks, rfl, fun _ _ e => e⟩
    · intro I oI s4 C v s3 m3 FI hv _ hns hm hk
      have hvk : v ∈ vk := List.mem_of_mem_take hv
      obtain ⟨j, hj⟩ := List.mem_iff_getElem?.mp hvk
      obtain ⟨c, tc, hcj, rfl⟩ := ints_get pk hj
      have hc1 := hc c (List.mem_of_getElem? hcj)
      refine Call_ ?_
      refine ldBC G (stC FI hB hk) (by decide) PyProof.Rows.Boot.«chr» ?_
      refine PyProof.Rows.callWith_builtin1 ?_
      refine args_cons (ldLC hns hm ?_)
      refine args_nil ?_
      refine chr_of_range (by omega) (by omega) ?_
      exact ⟨⟨c, tc, s3.toks, rfl, by rw [Int.toNat_natCast]⟩, s3.heap, _, rfl, fun _ _ e => e⟩
    · intro D3 ys n3 s3 hD3 hp3 F
      refine spliced_nil ?_
      rw [filter_tt'] at hp3
      obtain ⟨l, e1, e2⟩ := chr_list pk hp3
      subst e1
      refine SC.join (l := l) ((FList.put ..).isList F) e2 ?_ fun t' k => ?_
      · exact join_ok (by rw [List.length_dropLast]; omega)
      · exact ⟨_, rfl, ⟨t', by rw [join_signs]; rfl⟩, _, (F.tok k).toBk⟩
end

section
variable {prog : Program} {w : World} {A : Around} {E : Value → Shared → Prop} {s : Shared}

theorem next_item {it l : Addr} {i : Nat} {items : Array Value} {x : Value} {Q : Value → Shared → Prop} (hit : s.heap.IsListIter it l i) (hl : s.heap.IsList l items) (hx : items[i]? = some x)
    (hQ : ∀ h', h'.IsListIter it l (i + 1) → Heap.SameBut it s.heap h' → Q x { s with heap := h' }) : wpAny (model prog w) A (call (.builtin "next") [.ref it]) Q E s := by
  obtain ⟨o, ho, hc, hd⟩ := id hit
  obtain ⟨ol, hol, _, nl, hdl⟩ := hl
  refine call_function_entry (by decide +kernel) (by decide +kernel) kdk_entry_next (kdk_args_next _) ?_
  unfold Builtin.«next»
  refine wpAny_bind (m := someArgs "next" 1 2 _) (wpAny_of_eq (a := [Value.ref it]) (by first | rfl | kernel_rfl!) ?_)
  dsimp only
  refine wpAny_bind (wpAny_specialOf (name := Str.ofString "__next__") hit.typeIs slot_listiter_next.lookup ?_)
  refine wpAny_ite_split (fun hab => absurd hab (by decide)) (fun _ => ?_)
  refine wpAny_bind (wpAny_callSpecial?_slot (name := Str.ofString "__next__") hit.typeIs slot_listiter_next
    (wpAny_call_entry slot_listiter_next hit.typeIs entry_listiter_next ?_ (args_listiter_next _)))
  show wpAny _ _ (field (.ref it) 0 >>= _) _ _ s
  refine wpAny_bind (wpAny_field ho hd (x := .ref l) rfl ?_)
  show wpAny _ _ (if (Value.ref l == Value.none) = true then _ else _) _ _ s
  rw [if_neg (show ¬ ((Value.ref l == Value.none) = true) from Bool.false_ne_true)]
  show wpAny _ _ (field (.ref it) 1 >>= _) _ _ s
  refine wpAny_bind (wpAny_field ho hd (x := .int i 0) rfl ?_)
  show wpAny _ _ (seqItems? (.ref l) >>= _) _ _ s
  refine wpAny_bind (wpAny_seqItems hol hdl ?_)
  simp only [Int.toNat_natCast, hx]
  refine wpAny_bind (wpAny_setField ho hd (by simp) (wpAny_pure ⟨x, rfl, wpAny_pure ⟨_, rfl, hQ _ ?_ (Heap.SameBut.update ..)⟩⟩))
  exact ⟨_, Heap.get?_update_self _ ho (Obj.isFreed_of_fields (Obj.data_mapFields hd _)), (Obj.cls_mapFields ..).trans hc, by
    rw [Obj.data_mapFields hd]; simp [rawInt]⟩

theorem next_end {it l : Addr} {i : Nat} {items : Array Value} {Q : Value → Shared → Prop} (hh : A.handled = none) (hit : s.heap.IsListIter it l i) (hl : s.heap.IsList l items) (hx : items[i]? = none)
    (hE : ∀ h₁ h' e, Heap.SameBut it s.heap h₁ → (∃ o, h₁.get? it = some o) → Heap.MadeExc h₁ h' e "StopIteration" [] → E (.ref e) { s with heap := h' }) : wpAny (model prog w) A (call (.builtin "next") [.ref it]) Q E s := by
  obtain ⟨o, ho, hc, hd⟩ := id hit
  obtain ⟨ol, hol, _, nl, hdl⟩ := hl
  refine call_function_entry (by decide +kernel) (by decide +kernel) kdk_entry_next (kdk_args_next _) ?_
  unfold Builtin.«next»
  refine wpAny_bind (m := someArgs "next" 1 2 _) (wpAny_of_eq (a := [Value.ref it]) (by first | rfl | kernel_rfl!) ?_)
  dsimp only
  refine wpAny_bind (wpAny_specialOf (name := Str.ofString "__next__") hit.typeIs slot_listiter_next.lookup ?_)
  refine wpAny_ite_split (fun hab => absurd hab (by decide)) (fun _ => ?_)
  refine wpAny_bind (wpAny_callSpecial?_slot (name := Str.ofString "__next__") hit.typeIs slot_listiter_next
    (wpAny_call_entry slot_listiter_next hit.typeIs entry_listiter_next ?_ (args_listiter_next _)))
  show wpAny _ _ (field (.ref it) 0 >>= _) _ _ s
  refine wpAny_bind (wpAny_field ho hd (x := .ref l) rfl ?_)
  show wpAny _ _ (if (Value.ref l == Value.none) = true then _ else _) _ _ s
  rw [if_neg (show ¬ ((Value.ref l == Value.none) = true) from Bool.false_ne_true)]
  show wpAny _ _ (field (.ref it) 1 >>= _) _ _ s
  refine wpAny_bind (wpAny_field ho hd (x := .int i 0) rfl ?_)
  show wpAny _ _ (seqItems? (.ref l) >>= _) _ _ s
  refine wpAny_bind (wpAny_seqItems hol hdl ?_)
  simp only [Int.toNat_natCast, hx]
  refine wpAny_bind (wpAny_rule (wpAny_bind (wpAny_setField ho hd (by simp) ?_)))
  show wpAny _ _ (newExc (.type "StopIteration") [] >>= _) _ _ _
  refine wpAny_bind ?_
  simp only [newExc, newTuple]
  refine wpAny_bind (wpAny_newObj_type ?_ (by size_fits))
  refine wpAny_bind (m := firstArgMember _ _) (wpAny_of_eq (a := Value.none) (by first | rfl | (simp only [firstArgMember]; rfl)) ?_)
  refine wpAny_newObj_type ?_ (by size_fits)
  simp only [raiseNew]
  refine wpAny_bind (wpAny_handled ?_)
  rw [show A.in1.in1.handled = none from hh]
  refine wpAny_bind (wpAny_pure (wpAny_throw ?_))
  refine hE _ _ _ (Heap.SameBut.update ..) ⟨_, Heap.get?_update_self _ ho (Obj.isFreed_of_fields (Obj.data_mapFields hd _))⟩ ⟨fun b o e => Heap.get?_push_of_some _ (Heap.get?_push_of_some _ e), Heap.get?_none_of_le (by simp), _, Heap.get?_push_size _ rfl, Heap.get?_none_of_le (Nat.le_refl _), Heap.get?_push_of_some _ (Heap.get?_push_size _ rfl)⟩
end

theorem and63 (c : Nat) : Builtin.bitAnd (c : Int) 63 = ((c % 64 : Nat) : Int) := by rw [bitAnd_m6]; rfl
theorem and64 : ∀ c : Nat, c < 128 → (Builtin.bitAnd (c : Int) 64 != 0) = decide (64 ≤ c) := by decide +kernel
theorem or_low (v x : Nat) (hx : x < 64) : Builtin.bitOr ((v : Int) * 64) (x : Int) = ((v * 64 + x : Nat) : Int) := by
  have h0 : (v * 64) &&& x = 0 := by
    have h1 : x = x &&& 63 := by
      rw [show 63 = 2 ^ 6 - 1 from rfl, Nat.and_two_pow_sub_one_eq_mod]; omega
    have h2 : (v * 64) &&& 63 = 0 := by
      rw [show 63 = 2 ^ 6 - 1 from rfl, Nat.and_two_pow_sub_one_eq_mod]; omega
    rw [h1, Nat.and_comm x, ← Nat.and_assoc, h2, Nat.zero_and]
  have h3 : Builtin.bitAnd ((v : Int) * 64) (x : Int) = 0 := by
    rw [bitAnd_pp (by omega) (by omega)]
    have e1 : ((v : Int) * 64).toNat = v * 64 := by omega
    have e2 : ((x : Nat) : Int).toNat = x := by omega
    rw [e1, e2, h0]; rfl
  rw [bitOr_and, h3]; omega
theorem bits_le {v n : Nat} (h : v < 2 ^ n) : Builtin.Int.intBits (v : Int) ≤ n := by
  unfold Builtin.Int.intBits
  by_cases h0 : v = 0
  · subst h0; simp
  · rw [if_neg (by simp; omega)]
    have : v.log2 < n := (Nat.log2_lt h0).mpr h
    show (v : Int).natAbs.log2 + 1 ≤ n
    rw [Int.natAbs_natCast]; omega

section
variable {os : List Addr} {s₀ s : Shared} {H₀ H : Fz} {L : Addr} {m : Str → Option Value} {mu : List (Addr × Obj)} {prog : Program} {w : World} {A : Around} {E : Value → Shared → Prop} {a b : Int} {t u : Tok} {Q : Value → Shared → Prop}
theorem andI (F : Fm os s₀ H₀ L m H mu s) (h : ∀ t s', Fm os s₀ H₀ L m H mu s' → Q (.int (Builtin.bitAnd a b) t) s') : wpAny (model prog w) A (binaryOp .BitAnd (.int a t) (.int b u)) Q E s := and_int (h _ _ (F.tok _))
theorem iorI (F : Fm os s₀ H₀ L m H mu s) (h : ∀ t s', Fm os s₀ H₀ L m H mu s' → Q (.int (Builtin.bitOr a b) t) s') : wpAny (model prog w) A (inplaceOp .BitOr (.int a t) (.int b u)) Q E s := ior_int (h _ _ (F.tok _))
theorem ishlI (F : Fm os s₀ H₀ L m H mu s) (hn : 0 ≤ b) (hsz : (Builtin.Int.intBits a : Int) + b ≤ 2 ^ 27) (h : ∀ t s', Fm os s₀ H₀ L m H mu s' → Q (.int (a * 2 ^ b.toNat) t) s') : wpAny (model prog w) A (inplaceOp .LShift (.int a t) (.int b u)) Q E s := ilshift_int hn hsz (h _ _ (F.tok _))
end

section
variable {os : List Addr} {s₀ s : Shared} {H₀ H : Fz} {L : Addr} {m : Str → Option Value} {mu : List (Addr × Obj)} {prog : Program} {w : World} {A : Around} {E : Value → Shared → Prop} {B : Heap} {mg mb : Str → Option Value}

/-- the entry of a def that may raise -/
theorem enterE {i : Nat} {a : Addr} {args : List Value} {binds : List (Str × Value)} {R : Result → Shared → Prop} (G : Gd B mg mb) (hB : Base B H₀)
    (hH : ∀ b o, H₀ b = some o → s.heap.get? b = some o) (hi : i ∈ [2, 3, 4, 5, 6, 8, 10, 11, 12, 13, 14, 15, 16, 17]) (ha : mg (fName (fd i)) = some (.ref a)) (hd : A.depth < 400)
    (hbind : ∀ pm cd doc, bindArgs (docDef (fName (fd i)) (fArgs (fd i)) (fBody (fd i)) (fScope (fd i)) pm cd doc) ⟨args, []⟩ = pure binds) (hloc : ∀ x ∈ binds, (fScope (fd i)).names.lookup x.1 = some .local)
    (h : ∀ cd s', s'.toks = s.toks + binds.length → (∀ b o, s.heap.get? b = some o → s'.heap.get? b = some o) → Fm os s H₀ s.heap.objs.size (fun x => binds.reverse.lookup x) H₀ [] s' →
      wpAny (model prog w) (A.deeper (envOf (fName (fd i)) (fScope (fd i)) s.heap.objs.size a cd)) (execs (fBody (fd i)) (envOf (fName (fd i)) (fScope (fd i)) s.heap.objs.size a cd))
        (fun f s' => R (.ok (.ret (match f with | .ret v => v | _ => .none))) s')
        (fun e s' => wpAny (model prog w) (A.deeper (envOf (fName (fd i)) (fScope (fd i)) s.heap.objs.size a cd)) (leaving (envOf (fName (fd i)) (fScope (fd i)) s.heap.objs.size a cd) e)
          (fun _ s'' => R (.error e) s'') (fun e' s'' => R (.error e') s'') s') s')
    (hco : (fScope (fd i)).isCoroutine = false := by rfl) (hgen : (fScope (fd i)).isGenerator = false := by rfl) (hk : (fScope (fd i)).kind = .function := by rfl)
    (hcell : ∀ x ∈ (fScope (fd i)).names, x.2 ≠ .cell := by decide) :
    codeAny (model prog w) A (.call (.ref a) ⟨args, []⟩) R s := by
  obtain ⟨a', o, pm, code, doc, h1, h2, h3, h4⟩ := G.fn i hi
  rw [ha] at h1
  obtain rfl : a = a' := by injection h1 with h1; injection h1
  have st : ∀ b o, B.get? b = some o → s.heap.get? b = some o := fun b o e => hH _ _ (hB _ _ e)
  refine call_plain (by show A.depth < 1000; omega) (st _ _ h2) h3 (G.nolimit.keeps st) (h4.keeps st) (hbind _ _ _) hloc (fun h₁ F => h code _ rfl F.keep ?_) hco hgen hk hcell
  exact
    { keep := fun b o _ e => F.keep b o e
      dom := fun b o e => ⟨o, F.keep b o e⟩
      slots := .of_keeps F.keep
      gens := rfl
      sys := rfl
      drw := rfl
      le := fun _ _ e => e
      inH := fun b o e => F.keep _ _ (hH _ _ e)
      new := fun _ _ e => .inl e
      ns := F.ns
      HL := by
        cases e : H₀ s.heap.objs.size with
        | none => rfl
        | some o => have := hH _ _ e; rw [none_at] at this; cases this
      L0 := none_at s
      mus := fun p hp => nomatch hp
      nd := .nil }

/-- a changing thing that stood before the call -/
theorem Fm.addOs {a : Addr} {o : Obj} (F : Fm os s₀ H₀ L m H [] s) (ha : a ∈ os) (ho : s.heap.get? a = some o) (hH : H a = none) (h0 : ∃ o, s₀.heap.get? a = some o) : Fm os s₀ H₀ L m H [(a, o)] s :=
  { F with
    mus := fun p hp => by
      rw [List.mem_singleton.mp hp]
      refine ⟨ho, hH, fun e => ?_, .inr ha⟩
      obtain ⟨o', ho'⟩ := h0
      have := F.L0
      rw [← e] at this
      rw [this] at ho'; cases ho'
    nd := by simp }
theorem Fm.setOs {a : Addr} {o o' : Obj} {h' : Heap} {k : Nat} (F : Fm os s₀ H₀ L m H ((a, o) :: mu) s) (hs : ∀ b o, b ≠ a → s.heap.get? b = some o → h'.get? b = some o) (ho : h'.get? a = some o') (ha : a ∈ os)
    (hf : ∀ o, s₀.heap.get? a = some o → ∃ vs, o.data = .fields vs) : Fm os s₀ H₀ L m H ((a, o') :: mu) { s with heap := h', toks := k } :=
  have A := F.mus (a, o) (.head _)
  { keep := fun b o hb e => hs _ _ (fun q => hb (q ▸ ha)) (F.keep b o hb e)
    dom := fun b o e => by
      by_cases q : b = a
      · subst q; exact ⟨o', ho⟩
      · obtain ⟨o1, e1⟩ := F.dom b o e; exact ⟨o1, hs _ _ q e1⟩
    slots := fun b o e hn => by
      by_cases q : b = a
      · subst q; obtain ⟨vs, hv⟩ := hf o e; exact absurd hv (hn vs)
      · obtain ⟨sl, e'⟩ := F.slots b o e hn; exact ⟨sl, hs _ _ q e'⟩
    gens := F.gens
    sys := F.sys
    drw := F.drw
    le := F.le
    inH := fun b o e => hs _ _ (by rintro rfl; rw [A.2.1] at e; cases e) (F.inH b o e)
    new := F.new
    ns := F.ns.extBut hs (Ne.symm A.2.2.1)
    HL := F.HL
    L0 := F.L0
    mus := fun p hp => by
      rcases List.mem_cons.mp hp with rfl | hp'
      · exact ⟨ho, A.2⟩
      · have := F.mus p (.tail _ hp')
        refine ⟨hs _ _ (fun e => ?_) this.1, this.2⟩
        have nd := F.nd
        rw [List.map_cons, List.nodup_cons] at nd
        exact nd.1 (List.mem_map.mpr ⟨p, hp', e⟩)
    nd := F.nd }

/-- next(..) by its name, the iterator being a local -/
theorem nextL {env : Env} {x : Str} {np xp pos : Pos} {T l : Addr} {oT : Obj} {j : Nat} {vs : List Value} {Q : Value → Shared → Prop} (G : Gd B mg mb) (hB : Base B H₀) (F : Fm os s₀ H₀ L m H [(T, oT)] s) (hx : m x = some (.ref T)) (hIt : IsIt oT l j)
    (hl : FList H l vs) (ha : T ∈ os) (hf : ∀ o, s₀.heap.get? T = some o → ∃ vs, o.data = .fields vs) {v : Value} (hv : vs[j]? = some v)
    (h : ∀ oT' s', IsIt oT' l (j + 1) → Fm os s₀ H₀ L m H [(T, oT')] s' → Q v s')
    (hk : env.scope.kind = .function := by rfl) (hg : env.globals = mainGlobals := by rfl) (hb : env.builtins = builtinsNs := by rfl) (hl1 : env.kindOf (Str.ofString "next") = some .globalImplicit := by rfl)
    (hL : env.locals = L := by rfl) (hl2 : env.kindOf x = some .local := by rfl) (hd : (x == ("__debug__" : Str)) = false := by decide)
    (hs : starEach [.Name x xp] env = [(false, eval (.Name x xp) env)] := by rfl) :
    wpAny (model prog w) A (eval (.Call (.Name (Str.ofString "next") np) [.Name x xp] [] pos) env) Q E s := by
  refine Call_ ?_
  refine ldB G hB F (by decide) PyProof.Rows.Boot.«next» ?_ hk hg hb hl1
  refine PyProof.Rows.callWith_builtin1 ?_ (by rw [hs]; rfl)
  refine args_cons (ldL F hx ?_ hk hL hl2 hd) (by rw [hs]; rfl)
  refine args_nil ?_
  have hm := (F.mus _ (.head _)).1
  refine next_item ⟨oT, hm, hIt.1, hIt.2⟩ (hl.isList F) (by simpa using hv) fun h' hit' hs' => ?_
  obtain ⟨oT', ho', hc', hd'⟩ := hit'
  exact h oT' _ ⟨hc', hd'⟩ (F.setOs (k := s.toks) hs'.extBut ho' ha hf)
end

section
variable {prog : Program} {w : World} {B : Heap} {mg mb : Str → Option Value} {A : Around} {s : Shared} {H₀ : Fz} {os : List Addr} {a : Addr}

theorem parse_ok {T l : Addr} {oT : Obj} {vs : List Value} {cs : List Nat} {i : Nat} {V : Nat} {rest : List Nat} (G : Gd B mg mb) (hB : Base B H₀) (hH : ∀ b o, H₀ b = some o → s.heap.get? b = some o) (hos : ∀ b ∈ os, ∃ o, s.heap.get? b = some o)
    (ha : mg (fName (fd 8)) = some (.ref a)) (hd : A.depth < 399) (hT : s.heap.get? T = some oT) (hIt : IsIt oT l i) (hTH : H₀ T = none) (hl : FList H₀ l vs) (hp : IntsAre vs (cast cs)) (hc : ∀ c ∈ cs, c < 128) (hn : cs.length ≤ 100000)
    (hV : parseOne 0 (cs.drop i) = some (V, rest)) :
    codeAny (model prog w) A (.call (.ref a) ⟨[.ref T], []⟩) (Ret fun v s' => (∃ t, v = .int (V : Int) t) ∧ (∃ oT', s'.heap.get? T = some oT' ∧ IsIt oT' l (cs.length - rest.length)) ∧ Bk (T :: os) H₀ s s' H₀) s := by
  refine enterE (i := 8) (os := T :: os) (binds := [(Str.ofString "iterator", .ref T)]) G hB hH (by decide) ha (by omega) (fun _ _ _ => rfl) (by intro y hy; rw [List.mem_singleton.mp hy]; rfl) ?_
  intro cd s' _ hk F
  have hL : s.heap.objs.size ∉ T :: os := not_mem_os (fun b hb => by
    rcases List.mem_cons.mp hb with rfl | hb
    · exact ⟨_, hT⟩
    · exact hos b hb)
  have hf : ∀ o, s.heap.get? T = some o → ∃ vs, o.data = .fields vs := fun o e => by rw [hT] at e; cases e; exact ⟨_, hIt.2⟩
  have F := F.addOs (List.mem_cons_self ..) (hk _ _ hT) hTH ⟨_, hT⟩
  change wpAny _ _ (execs (_ :: _) _) _ _ _
  repeat (tb_rel)
  cases hd0 : cs.drop i with
  | nil => rw [hd0] at hV; cases hV
  | cons c r =>
  have hci : cs[i]? = some c := by
    have := congrArg List.head? hd0
    simpa [List.head?_drop] using this
  have hr : r = cs.drop (i + 1) := by
    have := drop_get hci
    rw [hd0] at this
    exact (List.cons.inj this).2
  obtain ⟨v0, hv0, t0, rfl⟩ : ∃ v, vs[i]? = some v ∧ ∃ t, v = .int (c : Int) t := by
    have hlen := ints_len hp
    have hlt : i < vs.length := by rw [hlen]; exact (List.getElem?_eq_some_iff.mp hci).1
    obtain ⟨n, t, hn, he⟩ := ints_get hp (List.getElem?_eq_getElem hlt)
    rw [hci] at hn; cases hn
    exact ⟨_, List.getElem?_eq_getElem hlt, t, he⟩
  have hc0 : c < 128 := hc c (List.mem_of_getElem? hci)
  refine nextL G hB F rfl hIt hl (List.mem_cons_self ..) hf hv0 fun oT1 s1 hIt1 F => ?_
  refine stL F hL fun s2 _ F => ?_
  repeat (tb_rel)
  refine andI (by assumption) fun t1 s3 F => ?_
  refine stL F hL fun s4 _ F => ?_
  rw [and63] at F
  refine wpAny_execs_cons ?_
  refine whileF (n := cs.length - (i + 1)) (fun n m H mu => ∃ oT j c v t t', m (Str.ofString "iterator") = some (.ref T) ∧ m (Str.ofString "b") = some (.int ((c : Nat) : Int) t) ∧ m (Str.ofString "val") = some (.int ((v : Nat) : Int) t') ∧
      mu = [(T, oT)] ∧ H = H₀ ∧ IsIt oT l j ∧ v < 2 ^ (6 * j) ∧ c < 128 ∧ 1 ≤ j ∧ j ≤ cs.length ∧ n = cs.length - j ∧
      (if c < 64 then (v, cs.drop j) = (V, rest) else parseOne v (cs.drop j) = some (V, rest))) F
    ⟨oT1, i + 1, c, c % 64, _, _, rfl, rfl, rfl, rfl, rfl, hIt1, ?_, hc0, by omega, (List.getElem?_eq_some_iff.mp hci).1, rfl, ?_⟩ ?_
  · have : 2 ^ 6 ≤ 2 ^ (6 * (i + 1)) := Nat.pow_le_pow_right (by decide) (by omega)
    omega
  · rw [hd0] at hV
    simp only [parseOne, hr] at hV
    by_cases q : c < 64
    · rw [if_pos q] at hV ⊢
      rw [← Option.some.inj hV]
      simp; omega
    · rw [if_neg q] at hV ⊢
      rw [← hV, show c % 64 = 0 * 64 + (c - 64) by omega]
  · rintro n m H mu sx ⟨oT, j, c, v, t, t', m1, m2, m3, rfl, rfl, hIt, hv, hc1, hj0, hj, rfl, hif⟩ F
    refine wpAny_isTrue_value ?_
    repeat (tb_rel)
    refine andI (by assumption) fun t1 s3 F => ?_
    refine truthy_int ?_
    rw [and64 c hc1]
    by_cases q : 64 ≤ c
    · rw [if_pos (by simpa using q)]
      rw [if_neg (by omega)] at hif
      cases hdj : cs.drop j with
      | nil => rw [hdj] at hif; cases hif
      | cons c' r' =>
      have hcj : cs[j]? = some c' := by
        have := congrArg List.head? hdj
        simpa [List.head?_drop] using this
      have hr' : r' = cs.drop (j + 1) := by
        have := drop_get hcj
        rw [hdj] at this
        exact (List.cons.inj this).2
      have hjl : j < cs.length := (List.getElem?_eq_some_iff.mp hcj).1
      obtain ⟨v1, hv1, t2, rfl⟩ : ∃ v, vs[j]? = some v ∧ ∃ t, v = .int (c' : Int) t := by
        have hlen := ints_len hp
        have hlt : j < vs.length := by rw [hlen]; exact hjl
        obtain ⟨n, t, hn, he⟩ := ints_get hp (List.getElem?_eq_getElem hlt)
        rw [hcj] at hn; cases hn
        exact ⟨_, List.getElem?_eq_getElem hlt, t, he⟩
      have hc2 : c' < 128 := hc c' (List.mem_of_getElem? hcj)
      refine wpAny_execs_cons ?_
      refine wpAny_AugAssign_Name ?_
      refine ldLn F m3 ?_
      refine cInt F fun t3 s4 F => ?_
      refine ishlI F (by decide) ?_ fun t4 s5 F => ?_
      · have := bits_le hv
        have h27 : (2 : Int) ^ 27 = 134217728 := by decide
        rw [h27]; omega
      refine stL F hL fun s6 _ F => ?_
      refine wpAny_execs_cons ?_
      refine wpAny_Assign_Name ?_
      refine nextL G hB F m1 hIt hl (List.mem_cons_self ..) hf hv1 fun oT2 s7 hIt2 F => ?_
      refine stL F hL fun s8 _ F => ?_
      refine wpAny_execs_cons ?_
      refine wpAny_AugAssign_Name ?_
      refine ldLn F rfl ?_
      repeat (tb_rel)
      refine andI (by assumption) fun t5 s9 F => ?_
      refine iorI F fun t6 s10 F => ?_
      refine stL F hL fun s11 _ F => ?_
      rw [and63, show (v : Int) * 2 ^ (Int.toNat 6) = (v : Int) * 64 from rfl, or_low v (c' % 64) (by omega)] at F
      refine wpAny_execs_nil ?_
      refine ⟨cs.length - (j + 1), _, _, _, by omega, ?_, F⟩
      refine ⟨oT2, j + 1, c', v * 64 + c' % 64, _, _, m1, rfl, rfl, rfl, rfl, hIt2, ?_, hc2, by omega, hjl, rfl, ?_⟩
      · rw [show 6 * (j + 1) = 6 * j + 6 by omega, Nat.pow_add]
        omega
      · rw [hdj] at hif
        simp only [parseOne, hr'] at hif
        by_cases q' : c' < 64
        · rw [if_pos q'] at hif ⊢
          rw [← Option.some.inj hif]
          simp; omega
        · rw [if_neg q'] at hif ⊢
          rw [← hif, show c' % 64 = c' - 64 by omega]
    · rw [if_neg (by simpa using q)]
      rw [if_pos (by omega)] at hif
      injection hif with h1 h2
      subst h1
      refine wpAny_execs_cons ?_
      refine wpAny_Return_some ?_
      refine ldL F m3 ?_
      refine ⟨_, rfl, ⟨_, rfl⟩, ⟨oT, (F.mus _ (.head _)).1, ?_⟩, F.toBk⟩
      rw [← h2, List.length_drop, show cs.length - (cs.length - j) = j by omega]
      exact hIt
end

/-- the frames around -/
structure Sk (A : Around) (envs : List Env) (os : List Addr) (s : Shared) : Prop where
  fr : A.frames = some envs
  os : envs.filterMap (·.frame) = os
  ok : ∀ env ∈ envs, env.scope.kind ≠ .module ∧ ∃ L o, env.frame = some L ∧ s.heap.get? L = some o ∧ ∀ vs, o.data ≠ .fields vs

theorem Sk.mem {A : Around} {envs : List Env} {os : List Addr} {s : Shared} (S : Sk A envs os s) : ∀ b ∈ os, ∃ o, s.heap.get? b = some o ∧ ∀ vs, o.data ≠ .fields vs := fun b hb => by
  rw [← S.os] at hb
  obtain ⟨env, he, hf⟩ := List.mem_filterMap.mp hb
  obtain ⟨_, L, o, hL, ho, hn⟩ := S.ok env he
  rw [hL] at hf; cases hf
  exact ⟨o, ho, hn⟩
theorem Sk.hos {A : Around} {envs : List Env} {os : List Addr} {s : Shared} (S : Sk A envs os s) : ∀ b ∈ os, ∃ o, s.heap.get? b = some o := fun b hb => let ⟨o, ho, _⟩ := S.mem b hb; ⟨o, ho⟩
theorem ns_data {h : Heap} {L : Addr} {m : Str → Option Value} (x : h.Ns L m) : ∃ o, h.get? L = some o ∧ ∀ vs, o.data ≠ .fields vs := by
  obtain ⟨o, es, ep, ho, hd, _⟩ := x
  exact ⟨o, ho, fun vs q => by rw [hd] at q; cases q⟩

theorem Sk.deeper {A : Around} {envs : List Env} {os : List Addr} {s₀ s : Shared} {H₀ H : Fz} {L : Addr} {m : Str → Option Value} {mu : List (Addr × Obj)} {env : Env} (S : Sk A envs os s₀) (F : Fm os s₀ H₀ L m H mu s) (hf : env.frame = some L) (hk : env.scope.kind = .function) :
    Sk (A.deeper env) (env :: envs) (L :: os) s where
  fr := Around.frames_deeper S.fr
  os := by rw [List.filterMap_cons, hf, S.os]
  ok := fun e he => by
    rcases List.mem_cons.mp he with rfl | he
    · obtain ⟨o, ho, hn⟩ := ns_data F.ns
      exact ⟨by rw [hk]; decide, L, o, hf, ho, hn⟩
    · obtain ⟨h1, L', o, h2, h3, h4⟩ := S.ok e he
      obtain ⟨sl, h5⟩ := F.slots L' o h3 h4
      exact ⟨h1, L', _, h2, h5, h4⟩

theorem funFrames_of {h : Heap} : ∀ (l : List Env) (as : List Addr), (∀ env ∈ l, env.scope.kind ≠ .module ∧ ∃ L o, env.frame = some L ∧ h.get? L = some o ∧ ∀ vs, o.data ≠ .fields vs) → (∀ env ∈ l, ∀ L, env.frame = some L → L ∈ as) →
    h.FunFrames (hideAll h as) l
  | [], _, _, _ => trivial
  | env :: r, as, h1, h2 => by
    obtain ⟨k, L, o, hf, ho, hn⟩ := h1 env (.head _)
    exact ⟨k, ⟨L, o, hf, hideAll_none _ (h2 env (.head _) L hf), ho, hn⟩, funFrames_of r as (fun e he => h1 e (.tail _ he)) fun e he => h2 e (.tail _ he)⟩

/-- an exception in flight, past the frames inside -/
structure Fly (envs : List Env) (os : List Addr) (T : Addr) (s s' : Shared) (e : Addr) : Prop where
  ex : ∃ base t, Heap.FlyingW base envs e (.type "StopIteration") (.ref t) s'.heap ∧ (∀ b o, s.heap.get? b = some o → b ≠ T → b ∉ os → base.get? b = some o) ∧ (∃ o, base.get? T = some o)
  slots : s.heap.UpToSlots s'.heap
  gens : s'.gens = s.gens
  sys : s'.os = s.os
  drw : s'.drawn = s.drawn

section
variable {prog : Program} {w : World} {B : Heap} {mg mb : Str → Option Value} {A : Around} {s : Shared} {H₀ : Fz} {os : List Addr} {a : Addr}

theorem parse_end {envs : List Env} {T l : Addr} {oT : Obj} {vs : List Value} {i : Nat} (G : Gd B mg mb) (hB : Base B H₀) (hH : ∀ b o, H₀ b = some o → s.heap.get? b = some o) (S : Sk A envs os s)
    (ha : mg (fName (fd 8)) = some (.ref a)) (hd : A.depth < 399) (hA : A.handled = none) (hT : s.heap.get? T = some oT) (hIt : IsIt oT l i) (hl : FList H₀ l vs) (hv : vs[i]? = none) :
    codeAny (model prog w) A (.call (.ref a) ⟨[.ref T], []⟩) (fun r s' => ∃ e, r = .error (.ref e) ∧ Fly envs os T s s' e) s := by
  refine enterE (i := 8) (os := T :: os) (binds := [(Str.ofString "iterator", .ref T)]) G hB hH (by decide) ha (by omega) (fun _ _ _ => rfl) (by intro y hy; rw [List.mem_singleton.mp hy]; rfl) ?_
  intro cd s' _ hk F
  change wpAny _ _ (execs (_ :: _) _) _ _ _
  repeat (tb_rel)
  refine Call_ ?_
  refine ldB G hB F (by decide) PyProof.Rows.Boot.«next» ?_
  refine PyProof.Rows.callWith_builtin1 ?_
  refine args_cons (ldL F rfl ?_)
  refine args_nil ?_
  refine next_end hA ⟨oT, hk _ _ hT, hIt.1, hIt.2⟩ (hl.isList F) (by simpa using hv) fun h₁ h' e hs hT1 hx => ?_
  have TL : T ≠ s.heap.objs.size := fun q => by rw [q, none_at] at hT; cases hT
  have hTos : T ∉ os := fun q => by
    obtain ⟨o, ho, hn⟩ := S.mem T q
    rw [hT] at ho; cases ho
    exact hn _ hIt.2
  refine wpAny_leaves_madeW (base := hideAll h₁ (s.heap.objs.size :: os)) (h := h₁) (L := s.heap.objs.size) (Around.frames_deeper S.fr) rfl (fun b o q => of_hideAll _ q) ?_ (Heap.MadeExc.of hx) ?_
  · refine funFrames_of _ _ ?_ ?_
    · intro env he
      rcases List.mem_cons.mp he with rfl | he
      · obtain ⟨o, ho, hn⟩ := ns_data F.ns
        exact ⟨by show (fScope (fd 8)).kind ≠ .module; decide, _, o, rfl, (hs.2 _ (Ne.symm TL)).trans ho, hn⟩
      · obtain ⟨h1, L', o, h2, h3, h4⟩ := S.ok env he
        exact ⟨h1, L', o, h2, (hs.2 _ (fun q => by rw [q, hT] at h3; cases h3; exact h4 _ hIt.2)).trans (hk _ _ h3), h4⟩
    · intro env he L hL
      rcases List.mem_cons.mp he with rfl | he
      · cases hL; exact List.mem_cons_self ..
      · refine List.mem_cons_of_mem _ ?_
        rw [← S.os]
        exact List.mem_filterMap.mpr ⟨env, he, hL⟩
  · intro h₂ t hfl _ _ hsl
    refine ⟨e, rfl, ⟨_, t, hfl, ?_, ?_⟩, ?_, F.gens, F.sys, F.drw⟩
    · intro b o hb hbT hbos
      refine hideAll_get _ ((hs.2 b hbT).trans (hk _ _ hb)) fun q => ?_
      rcases List.mem_cons.mp q with q | q
      · rw [q, none_at] at hb; cases hb
      · exact hbos q
    · obtain ⟨o, ho⟩ := hT1
      refine ⟨o, hideAll_get _ ho fun q => ?_⟩
      rcases List.mem_cons.mp q with q | q
      · exact TL q
      · exact hTos q
    · refine Heap.UpToSlots.trans ?_ hsl
      intro b o hb hn
      have hbT : b ≠ T := fun q => by rw [q, hT] at hb; cases hb; exact hn _ hIt.2
      exact ⟨o.slots, hx.keeps _ _ ((hs.2 b hbT).trans (hk _ _ hb))⟩
end

theorem stop_isExc : isSubtype (.type "StopIteration") (.type "BaseException") = pure true := by rw [isSubtype_type]; kernel_rfl
theorem stop_notTuple : isSubtype (.type ((Manifest.find? "StopIteration").elim "type" fun x => x.metatype)) (.type "tuple") = pure false := by
  rw [show ((Manifest.find? "StopIteration").elim "type" fun x => x.metatype) = "type" from by kernel_rfl, isSubtype_type]; kernel_rfl
theorem stop_self : isSubtype (.type "StopIteration") (.type "StopIteration") = pure true := by rw [isSubtype_type]; kernel_rfl

/-! the tape -/
theorem parse_read : ∀ (l : List Nat) (h V : Nat) (rest : List Nat), parseOne h l = some (V, rest) → readTape h l = V :: readTape 0 rest
  | [], _, _, _, e => by cases e
  | c :: r, h, V, rest, e => by
    simp only [parseOne, readTape] at e ⊢
    by_cases hc : c < 64
    · rw [if_pos hc] at e ⊢
      cases e; rfl
    · rw [if_neg hc] at e ⊢
      exact parse_read r _ V rest e
theorem parse_some : ∀ (l : List Nat) (h : Nat), ∃ V rest k, parseOne h (l ++ [5]) = some (V, rest) ∧ rest = (l ++ [5]).drop k ∧ 1 ≤ k ∧ k ≤ l.length + 1
  | [], h => ⟨_, [], 1, rfl, rfl, by omega, by simp⟩
  | c :: r, h => by
    simp only [List.cons_append, parseOne]
    by_cases hc : c < 64
    · rw [if_pos hc]
      exact ⟨_, _, 1, rfl, rfl, by omega, by simp⟩
    · rw [if_neg hc]
      obtain ⟨V, rest, k, e1, e2, e3, e4⟩ := parse_some r (h * 64 + (c - 64))
      exact ⟨V, rest, k + 1, e1, by rw [e2]; rfl, by omega, by simp; omega⟩
theorem drop_snoc {cs : List Nat} {j : Nat} (hj : j ≤ cs.length) : (cs ++ [5]).drop j = cs.drop j ++ [5] := by
  rw [List.drop_append_of_le_length hj]

section
variable {os : List Addr} {s₀ s : Shared} {H₀ H : Fz} {L : Addr} {m : Str → Option Value} {mu : List (Addr × Obj)} {prog : Program} {w : World} {A : Around} {E : Value → Shared → Prop} {B : Heap} {mg mb : Str → Option Value} {env : Env}

/-- a call comes back that has changed one thing of the frame's own -/
theorem Fm.backT {T : Addr} {oT oT' : Obj} {s' : Shared} {H' : Fz} (F : Fm os s₀ H₀ L m H ((T, oT) :: mu) s) (b : Bk (T :: L :: os) H s s' H') (hT : s'.heap.get? T = some oT') (hos : ∀ b ∈ os, ∃ o, s₀.heap.get? b = some o)
    (h0 : s₀.heap.get? T = none) (hmu : ∀ p ∈ mu, s₀.heap.get? p.1 = none) : Fm os s₀ H₀ L m H' ((T, oT') :: mu) s' where
  keep := fun x o hb e => b.keep x o (by
    intro hm
    rcases List.mem_cons.mp hm with q | hm
    · rw [q, h0] at e; cases e
    · rcases List.mem_cons.mp hm with q | hm
      · rw [q, F.L0] at e; cases e
      · exact hb hm) (F.keep x o hb e)
  dom := fun x o e => let ⟨o', e'⟩ := F.dom x o e; b.dom x o' e'
  slots := F.slots.trans b.slots
  gens := b.gens.trans F.gens
  sys := b.sys.trans F.sys
  drw := b.drw.trans F.drw
  le := fun x o e => b.le _ _ (F.le x o e)
  inH := b.inH
  new := fun x o e => (b.new x o e).elim (fun e' => F.new x o e') fun e' => .inr (none_of F.dom e')
  ns := b.slots.ns F.ns
  HL := by
    cases e : H' L with
    | none => rfl
    | some o => rcases b.new _ _ e with e' | e'
                · rw [F.HL] at e'; cases e'
                · obtain ⟨o, _, _, ho, _⟩ := F.ns; rw [ho] at e'; cases e'
  L0 := F.L0
  mus := fun p hp => by
    have key : H' p.1 = none := by
      obtain ⟨a1, a2, _, _⟩ := F.mus (p.1, (if p.1 = T then oT else p.2)) (by
        rcases List.mem_cons.mp hp with rfl | hp'
        · simp
        · have nd := F.nd
          rw [List.map_cons, List.nodup_cons] at nd
          have : p.1 ≠ T := fun e => nd.1 (List.mem_map.mpr ⟨p, hp', e⟩)
          rw [if_neg this]
          exact .tail _ hp')
      cases e : H' p.1 with
      | none => rfl
      | some o => rcases b.new _ _ e with e' | e'
                  · rw [a2] at e'; cases e'
                  · rw [a1] at e'; cases e'
    rcases List.mem_cons.mp hp with rfl | hp'
    · exact ⟨hT, key, (F.mus _ (.head _)).2.2⟩
    · obtain ⟨a1, a2, a3, a4⟩ := F.mus p (.tail _ hp')
      refine ⟨b.keep _ _ ?_ a1, key, a3, a4⟩
      intro hm
      rcases List.mem_cons.mp hm with q | hm
      · have nd := F.nd
        rw [List.map_cons, List.nodup_cons] at nd
        exact nd.1 (List.mem_map.mpr ⟨p, hp', q⟩)
      · rcases List.mem_cons.mp hm with q | hm
        · exact a3 q
        · obtain ⟨o, ho⟩ := hos _ hm; rw [hmu p hp'] at ho; cases ho
  nd := F.nd

/-- an exception has come home -/
theorem Fm.landed {T : Addr} {oT : Obj} {s' : Shared} {base : Heap} (F : Fm os s₀ H₀ L m H ((T, oT) :: mu) s) (hmem : ∀ b ∈ os, ∃ o, s₀.heap.get? b = some o ∧ ∀ vs, o.data ≠ .fields vs) (hHos : ∀ b ∈ os, H₀ b = none)
    (h0 : s₀.heap.get? T = none) (hmu : ∀ p ∈ mu, s₀.heap.get? p.1 = none) (hst : base.StaysIn s'.heap) (hb : ∀ b o, s.heap.get? b = some o → b ≠ T → b ∉ L :: os → base.get? b = some o) (hsl : s.heap.UpToSlots s'.heap)
    (g : s'.gens = s.gens) (q : s'.os = s.os) (d : s'.drawn = s.drawn) : Fm os s₀ H₀ L m H mu s' :=
  have kp : ∀ b o, b ∉ os → s₀.heap.get? b = some o → s'.heap.get? b = some o := fun b o hbo e => by
    refine hst _ _ (hb _ _ (F.keep b o hbo e) (fun q => by rw [q, h0] at e; cases e) fun hm => ?_)
    rcases List.mem_cons.mp hm with q | hm
    · rw [q, F.L0] at e; cases e
    · exact hbo hm
  { keep := kp
    dom := fun b o e => by
      by_cases hbo : b ∈ os
      · obtain ⟨o', ho', hn⟩ := hmem b hbo
        obtain ⟨sl, h⟩ := (F.slots.trans hsl) b o' ho' hn
        exact ⟨_, h⟩
      · exact ⟨o, kp b o hbo e⟩
    slots := F.slots.trans hsl
    gens := g.trans F.gens
    sys := q.trans F.sys
    drw := d.trans F.drw
    le := F.le
    inH := fun b o e => by
      refine hst _ _ (hb _ _ (F.inH b o e) (fun q => by have := (F.mus _ (.head _)).2.1; rw [← q] at this; rw [this] at e; cases e) fun hm => ?_)
      rcases List.mem_cons.mp hm with q | hm
      · rw [q, F.HL] at e; cases e
      · rcases F.new b o e with e' | e'
        · rw [hHos b hm] at e'; cases e'
        · obtain ⟨o', ho', _⟩ := hmem b hm; rw [e'] at ho'; cases ho'
    new := F.new
    ns := hsl.ns F.ns
    HL := F.HL
    L0 := F.L0
    mus := fun p hp => by
      obtain ⟨a1, a2, a3, a4⟩ := F.mus p (.tail _ hp)
      refine ⟨hst _ _ (hb _ _ a1 (fun q => ?_) fun hm => ?_), a2, a3, a4⟩
      · have nd := F.nd
        rw [List.map_cons, List.nodup_cons] at nd
        exact nd.1 (List.mem_map.mpr ⟨p, hp, q⟩)
      · rcases List.mem_cons.mp hm with q | hm
        · exact a3 q
        · obtain ⟨o', ho', _⟩ := hmem _ hm; rw [hmu p hp] at ho'; cases ho'
    nd := (List.nodup_cons.mp F.nd).2 }

/-- iter(l) -/
theorem iterL {l : Addr} {vs : List Value} {Q : Value → Shared → Prop} (F : Fm os s₀ H₀ L m H mu s) (hl : FList H l vs)
    (h : ∀ T oT s', s₀.heap.get? T = none → IsIt oT l 0 → Fm os s₀ H₀ L m H ((T, oT) :: mu) s' → Q (.ref T) s') : wpAny (model prog w) A (call (.builtin "iter") [.ref l]) Q E s := by
  refine call_function_entry (by decide +kernel) (by decide +kernel) kdk_entry_iter (kdk_args_iter _) ?_
  unfold Builtin.«iter»
  refine wpAny_bind (m := someArgs "iter" 1 2 _) (wpAny_of_eq (a := [Value.ref l]) (by first | rfl | kernel_rfl!) ?_)
  show wpAny _ _ (pyIter (.ref l) >>= _) _ _ _
  refine wpAny_bind (wpAny_pyIter_list (hl.isList F) ?_)
  exact wpAny_pure ⟨_, rfl, h _ _ _ (none_of F.dom (none_at s)) ⟨rfl, rfl⟩ (F.pushMu (none_at s) (fun _ _ e => Heap.get?_push_of_some _ e) (Heap.get?_push_size _ rfl))⟩
end

/-- the signs' codes -/
theorem ord_list {x : Str} {vs ys : List Value} (hlen : vs.length = x.cps.size) (hP : ∀ j v, vs[j]? = some v → SignAt x j v)
    (hp : Paired (fun v y => ∃ (c : Nat) (u t : Tok), v = .str ⟨#[c]⟩ u ∧ y = .int (c : Int) t) vs ys) : IntsAre ys (cast x.cps.toList) := by
  have key : ∀ (vs ys : List Value) (cs : List Nat), vs.length = cs.length → (∀ (j : Nat) v, vs[j]? = some v → ∃ c u, cs[j]? = some c ∧ v = .str ⟨#[c]⟩ u) →
      Paired (fun v y => ∃ (c : Nat) (u t : Tok), v = .str ⟨#[c]⟩ u ∧ y = .int (c : Int) t) vs ys → IntsAre ys (cast cs) := by
    intro vs
    induction vs with
    | nil =>
      intro ys cs hl _ hp
      cases hp
      cases cs with
      | nil => exact .nil
      | cons _ _ => simp at hl
    | cons v r ih =>
      intro ys cs hl hP hp
      cases hp with
      | cons hv ht =>
        cases cs with
        | nil => simp at hl
        | cons c cs =>
          obtain ⟨c1, u, t, rfl, rfl⟩ := hv
          obtain ⟨c2, u2, e1, e2⟩ := hP 0 _ rfl
          simp at e1
          subst e1
          injection e2 with e2 _
          have : c1 = c := by
            have := congrArg (fun z : Str => z.cps) e2
            simpa using this
          subst this
          exact .cons _ t (ih _ cs (by simpa using hl) (fun j v hj => by simpa using hP (j + 1) v (by simpa using hj)) ht)
  refine key vs ys x.cps.toList (by simpa using hlen) (fun j v hj => ?_) hp
  obtain ⟨c, u, e1, e2⟩ := hP j v hj
  exact ⟨c, u, by simpa using e1, e2⟩

section
variable {prog : Program} {w : World} {B : Heap} {mg mb : Str → Option Value} {A : Around} {s : Shared} {H₀ : Fz} {os : List Addr} {a : Addr}

theorem read_spec {envs : List Env} {x : Str} {t : Tok} (G : Gd B mg mb) (hB : Base B H₀) (hH : ∀ b o, H₀ b = some o → s.heap.get? b = some o) (S : Sk A envs os s) (hHos : ∀ b ∈ os, H₀ b = none)
    (ha : mg (fName (fd 11)) = some (.ref a)) (hd : A.depth < 398) (hA : A.handled = none) (hx : x.length ≤ 50000) (hc : ∀ c ∈ x.cps.toList, c < 128) :
    codeAny (model prog w) A (.call (.ref a) ⟨[.str x t], []⟩) (Ret fun v s' => ∃ D H', v = .ref D ∧ NList H' D (readTape 0 (x.cps.toList ++ [5])) ∧ Bk os H₀ s s' H') s := by
  refine enter (i := 11) (os := os) (binds := [(Str.ofString "text", .str x t)]) G hB hH (by decide) ha (by omega) (fun _ _ _ => rfl) (by intro y hy; rw [List.mem_singleton.mp hy]; rfl) ?_
  intro cd s' _ F
  have hos := S.hos
  have hL := not_mem_os hos
  have hlen := len_toList x
  change wpAny _ _ (execs (_ :: _) _) _ _ _
  repeat (tb_rel)
  refine Call_ ?_
  refine ldB G hB F (by decide) PyProof.Rows.Boot.«iter» ?_
  refine PyProof.Rows.callWith_builtin1 ?_
  refine args_cons ?_
  refine wpAny_BinOp ?_
  refine compP F (fun _ => true) (fun v y => ∃ (c : Nat) (u t : Tok), v = .str ⟨#[c]⟩ u ∧ y = .int (c : Int) t) rfl (by decide) rfl (by decide) rfl ?_
  refine ldL F rfl ?_
  have hall : x.cps.all (· < 128) = true := by
    rw [← Array.all_toList, List.all_eq_true]
    exact fun c hc' => decide_eq_true (hc c hc')
  refine wpAny_pyIter_ascii hall ?_
  have I0 := none_of F.dom (none_at s')
  have FI := F.pushMu (s' := { s' with heap := s'.heap.push { cls := .type "str_ascii_iterator", data := .fields #[.str x t, .int 0 0] } }) (none_at s') (fun _ _ e => Heap.get?_push_of_some _ e) (Heap.get?_push_size _ rfl)
  have W := Walks.strAscii (prog := prog) (w := w) (A := A.deeper (envOf (fName (fd 11)) (fScope (fd 11)) s.heap.objs.size a cd)) hA s'.heap.objs.size x t
  refine ⟨s'.heap.objs.size, _, _, _, _, _, _, _, _, rfl, W, ?_, ⟨_, Heap.get?_push_size _ rfl, rfl, rfl⟩, ?_, FI, I0, ?_, ?_, ?_⟩
  · rw [PySem.Str.length] at hx; omega
  · intro b hb
    rw [List.mem_singleton.mp hb, Heap.size_push]
    exact Nat.lt_succ_self _
  · intro C j v s3 m3 hv hns hm hk
    exact wpAny_pure ⟨rfl, s3.heap, s3.toks, rfl, fun _ _ e => e⟩
  · intro C j v s3 m3 hv _ hns hm hk
    obtain ⟨c, u, hcj, rfl⟩ := hv
    refine Call_ ?_
    refine ldBC G (stC FI hB hk) (by decide) PyProof.Rows.Boot.«ord» ?_
    refine PyProof.Rows.callWith_builtin1 ?_
    refine args_cons (ldLC hns hm ?_)
    refine args_nil ?_
    refine P.ord_of_char ?_
    exact ⟨⟨c, u, _, rfl, rfl⟩, s3.heap, _, rfl, fun _ _ e => e⟩
  intro D1 ys k1 s1 vs1 hD1 hvl hvP hpr F
  rw [filter_tt'] at hpr
  have hys := ord_list hvl hvP hpr
  have hyl := ints_len hys
  refine List_ ?_
  refine args_cons (cInt F fun t5 s15 F => ?_)
  refine args_nil ?_
  refine newListF F (by simp) fun D2 s2 hD2 F => ?_
  refine addL F (((FList.put ..).mono (Le.put _ hD2)).isL F) ((FList.put ..).isL F) (by simp; omega) fun l s3 hl3 F => ?_
  have hti : IntsAre (ys ++ [.int 5 t5]) (cast (x.cps.toList ++ [5])) := by
    rw [cast, List.map_append]
    exact IntsAre.append hys (.cons _ _ .nil)
  have hFl := FList.put ((H₀.put D1 (lo ys k1)).put D2 (lo [.int 5 t5] 0)) l (ys ++ [.int 5 t5]) 0
  refine args_nil ?_
  refine iterL F (FList.put ..) fun T oT s4 hT0 hIt F => ?_
  refine stL F hL fun s5 _ F => ?_
  repeat (tb_rel)
  refine newListM (by assumption) (by simp) fun K s6 hK F => ?_
  refine stL F hL fun s7 _ F => ?_
  refine wpAny_execs_cons ?_
  refine wpAny_Try_except ?_
  refine wpAny_execs_cons ?_
  have htl : ∀ c ∈ x.cps.toList ++ [5], c < 128 := fun c hc' => by
    rcases List.mem_append.mp hc' with h | h
    · exact hc c h
    · rw [List.mem_singleton.mp h]; decide
  have hlen2 : (x.cps.toList ++ [5]).length = x.cps.toList.length + 1 := by simp
  generalize hcs : x.cps.toList ++ [5] = tape at *
  refine whileF (n := tape.length + 1) (fun n m H mu => ∃ oT j vt nt told, m (Str.ofString "tape") = some (.ref T) ∧ m (Str.ofString "told") = some (.ref K) ∧ mu = [(K, lo vt nt), (T, oT)] ∧ FList H l (ys ++ [.int 5 t5]) ∧ IsIt oT l j ∧
      IntsAre vt (cast told) ∧ told ++ readTape 0 (tape.drop j) = readTape 0 tape ∧ told.length ≤ j ∧ j ≤ tape.length ∧ n = tape.length + 1 - j) F
    ⟨oT, 0, [], 0, [], rfl, rfl, rfl, hFl, hIt, .nil, rfl, Nat.le_refl _, Nat.zero_le _, rfl⟩ ?_
  rintro n m H mu sx ⟨oT, j, vt, nt, told, m1, m2, rfl, hFl, hIt, hvt, e1, e2, e3, rfl⟩ F
  refine wpAny_isTrue_value ?_
  repeat (tb_rel)
  rw [if_pos rfl]
  refine wpAny_execs_cons ?_
  refine appendM F (D := K) m2 (.head _) ?_
  refine callF (i := 8) G hB F (by decide) rfl fun a8 ha8 => ?_
  refine args_cons (ldL F m1 ?_)
  refine args_nil ⟨F.stay hB, ?_⟩
  have Fs := F.swap
  have hTs := (Fs.mus _ (.head _))
  have hmuK : ∀ p ∈ [(K, lo vt nt)], s.heap.get? p.1 = none := fun p hp => by rw [List.mem_singleton.mp hp]; exact hK
  by_cases hj : j < tape.length
  · obtain ⟨V, rest, k, p1, p2, p3, p4⟩ := parse_some (x.cps.toList.drop j) 0
    rw [← drop_snoc (by omega), hcs] at p1 p2
    refine ret_of (parse_ok (os := s.heap.objs.size :: os) G (hB.mono F.le) F.inH (os_cons F hos) ha8 (by rw [deeper_depth]; omega) hTs.1 hIt hTs.2.1 hFl hti htl (by omega) p1) ?_
    rintro v s8 ⟨⟨tv, rfl⟩, ⟨oT', hT', hIt'⟩, b⟩
    have F8 := Fs.backT b hT' hos hT0 hmuK
    have hvl := ints_len hvt
    refine ⟨_, _, _, vt, nt, F8.swap, by omega, hK, fun n' s9 F => ?_⟩
    refine wpAny_execs_nil ?_
    have hrest : rest = tape.drop (j + k) := by rw [p2, List.drop_drop]
    have hkl : j + k ≤ tape.length := by
      have : (x.cps.toList.drop j).length = x.cps.toList.length - j := List.length_drop ..
      omega
    have hrl : tape.length - rest.length = j + k := by rw [hrest, List.length_drop]; omega
    rw [hrl] at hIt'
    refine ⟨tape.length + 1 - (j + k), _, _, _, by omega, ?_, F⟩
    refine ⟨oT', j + k, _, _, told ++ [V], m1, m2, rfl, hFl, hIt', ?_, ?_, by simp; omega, hkl, rfl⟩
    · rw [cast, List.map_append]
      exact IntsAre.append hvt (.cons _ _ .nil)
    · rw [← e1, parse_read _ _ _ _ p1, hrest]
      simp
  · have hjl : j = tape.length := by omega
    have hnone : (ys ++ [Value.int 5 t5])[j]? = none := by
      rw [List.getElem?_eq_none_iff]
      have := ints_len hti
      omega
    have told_all : told = readTape 0 tape := by
      rw [← e1, hjl, List.drop_length]; simp [readTape]
    have S' := S.deeper (env := envOf (fName (fd 11)) (fScope (fd 11)) s.heap.objs.size a cd) F rfl rfl
    refine codeAny_mono (parse_end (os := s.heap.objs.size :: os) G (hB.mono F.le) F.inH S' ha8 (by rw [deeper_depth]; omega) hA hTs.1 hIt hFl hnone) ?_
    rintro r s8 ⟨e, rfl, hfly⟩
    obtain ⟨⟨base, ta, hfl, hbs, hbT⟩, hsl, hg, hq, hdr⟩ := hfly
    show wpAny _ _ (noteFrame (.ref e) _) _ _ s8
    refine wpAny_looks_onW (L := s.heap.objs.size) S'.fr rfl hfl fun h₄ hheld₄ hsm₄ => ?_
    refine wpAny_landsW hheld₄ fun h₅ hfl₅ hsm₅ => ?_
    have F5 : Fm os s H₀ s.heap.objs.size m H [(K, lo vt nt)] { s8 with heap := h₅ } :=
      Fs.landed S.mem hHos hT0 hmuK hfl₅.1 hbs (hsl.trans (hsm₄.trans hsm₅)) hg hq hdr
    obtain ⟨ob, hob, hobc⟩ := hfl₅.there
    refine wpAny_handleBy_builtin (X := "StopIteration") (T := "StopIteration") (b := true) stop_isExc stop_notTuple stop_self ?_
    refine ldB G hB F5 (by decide) PyProof.Rows.Boot.«StopIteration» ⟨rfl, ⟨ob, hob, hobc⟩, ?_⟩
    rw [if_pos rfl]
    refine lands_againW hfl₅ fun h₆ hfl₆ hsm₆ => ?_
    have F6 : Fm os s H₀ s.heap.objs.size m H [(K, lo vt nt)] { s8 with heap := h₆ } :=
      Fs.landed S.mem hHos hT0 hmuK hfl₆.1 hbs (hsl.trans (hsm₄.trans (hsm₅.trans hsm₆))) hg hq hdr
    refine wpAny_execs_cons ?_
    refine wpAny_Return_some ?_
    refine ldL F6 m2 ?_
    exact ⟨_, rfl, K, _, rfl, ⟨vt, FList.put .., told_all ▸ hvt⟩, (F6.freeze hK).toBk⟩
end

section
variable {os : List Addr} {s₀ s : Shared} {H₀ H : Fz} {L : Addr} {m : Str → Option Value} {mu : List (Addr × Obj)} {prog : Program} {w : World} {A : Around} {E : Value → Shared → Prop} {B : Heap} {mg mb : Str → Option Value} {env : Env}

theorem Fm.addMu {a : Addr} {o : Obj} (F : Fm os s₀ H₀ L m H mu s) (ho : s.heap.get? a = some o) (hH : H a = none) (hL : a ≠ L) (h0 : s₀.heap.get? a = none) (hmu : ∀ p ∈ mu, p.1 ≠ a) : Fm os s₀ H₀ L m H ((a, o) :: mu) s :=
  { F with
    mus := fun p hp => by
      rcases List.mem_cons.mp hp with rfl | hp
      · exact ⟨ho, hH, hL, .inl h0⟩
      · exact F.mus p hp
    nd := by
      rw [List.map_cons, List.nodup_cons]
      refine ⟨fun hm => ?_, F.nd⟩
      obtain ⟨p, hp, e⟩ := List.mem_map.mp hm
      exact hmu p hp e }

/-- the entry of a def with cells -/
theorem enterC {i : Nat} {a : Addr} {args : List Value} {binds : List (Str × Value)} {R : Result → Shared → Prop} (G : Gd B mg mb) (hB : Base B H₀)
    (hH : ∀ b o, H₀ b = some o → s.heap.get? b = some o) (hi : i ∈ [2, 3, 4, 5, 6, 8, 10, 11, 12, 13, 14, 15, 16, 17]) (ha : mg (fName (fd i)) = some (.ref a)) (hd : A.depth < 400)
    (hbind : ∀ pm cd doc, bindArgs (docDef (fName (fd i)) (fArgs (fd i)) (fBody (fd i)) (fScope (fd i)) pm cd doc) ⟨args, []⟩ = pure binds) (hloc : ∀ x ∈ binds, (fScope (fd i)).names.lookup x.1 = some .local)
    (hnd : ((cellsFrom 0 (fScope (fd i)).names []).map (·.1)).Nodup)
    (h : ∀ cd s' cells, Fm os s H₀ s.heap.objs.size (bindL (envOfC (fName (fd i)) (fScope (fd i)) s.heap.objs.size a cd).kindOf binds fun _ => none) H₀ [] s' →
      (∀ p ∈ cells, s'.heap.get? p.1 = some p.2 ∧ p.1 ≠ s.heap.objs.size ∧ s.heap.get? p.1 = none) →
      CellsAre (bindC (envOfC (fName (fd i)) (fScope (fd i)) s.heap.objs.size a cd).kindOf binds fun _ => none) (cellsFrom (s.heap.objs.size + 1) (fScope (fd i)).names []) cells →
      wpAny (model prog w) (A.deeper (envOfC (fName (fd i)) (fScope (fd i)) s.heap.objs.size a cd)) (execs (fBody (fd i)) (envOfC (fName (fd i)) (fScope (fd i)) s.heap.objs.size a cd))
        (fun f s' => R (.ok (.ret (match f with | .ret v => v | _ => .none))) s') (fun _ _ => False) s')
    (hco : (fScope (fd i)).isCoroutine = false := by rfl) (hgen : (fScope (fd i)).isGenerator = false := by rfl) (hk : (fScope (fd i)).kind = .function := by rfl) :
    codeAny (model prog w) A (.call (.ref a) ⟨args, []⟩) R s := by
  obtain ⟨a', o, pm, code, doc, h1, h2, h3, h4⟩ := G.fn i hi
  rw [ha] at h1
  obtain rfl : a = a' := by injection h1 with h1; injection h1
  have st : ∀ b o, B.get? b = some o → s.heap.get? b = some o := fun b o e => hH _ _ (hB _ _ e)
  refine call_cellsN_ret (by show A.depth < 1000; omega) (st _ _ h2) h3 (G.nolimit.keeps st) (h4.keeps st) (hbind _ _ _) (fun x hx => .inl (hloc x hx)) hnd (fun h₁ tk cells F N X => h code _ cells ?_ (fun p hp => N p hp) X) hco hgen hk
  exact
    { keep := fun b o _ e => F.keep b o e
      dom := fun b o e => ⟨o, F.keep b o e⟩
      slots := .of_keeps F.keep
      gens := rfl
      sys := rfl
      drw := rfl
      le := fun _ _ e => e
      inH := fun b o e => F.keep _ _ (hH _ _ e)
      new := fun _ _ e => .inl e
      ns := F.ns
      HL := by
        cases e : H₀ s.heap.objs.size with
        | none => rfl
        | some o => have := hH _ _ e; rw [none_at] at this; cases this
      L0 := none_at s
      mus := fun p hp => nomatch hp
      nd := .nil }

theorem Fm.setAt (mu₁ : List (Addr × Obj)) {mu₂ : List (Addr × Obj)} {a : Addr} {o o' : Obj} {h' : Heap} {k : Nat} (F : Fm os s₀ H₀ L m H (mu₁ ++ (a, o) :: mu₂) s) (hs : ∀ b o, b ≠ a → s.heap.get? b = some o → h'.get? b = some o)
    (ho : h'.get? a = some o') (h0 : s₀.heap.get? a = none) : Fm os s₀ H₀ L m H (mu₁ ++ (a, o') :: mu₂) { s with heap := h', toks := k } :=
  ((F.perm List.perm_middle).setMu hs ho h0).perm List.perm_middle.symm

/-- a name that is a cell -/
theorem ldC {M : Model} {x : Str} {pos : Pos} {c : Addr} {o : Obj} {v : Value} {Q : Value → Shared → Prop} (F : Fm os s₀ H₀ L m H mu s) (hm : (c, o) ∈ mu) (hd : o.data = .cell (some v)) (h : Q v s)
    (hc : env.cells.lookup x = some c := by rfl) (hk : env.scope.kind = .function := by rfl) (hl : env.kindOf x = some .cell := by rfl) (hdb : (x == ("__debug__" : Str)) = false := by decide) :
    wpAny M A (eval (.Name x pos) env) Q E s := wpAny_Name (wpAny_loadName_cell hk hl hc ⟨o, (F.mus _ hm).1, hd⟩ h) hdb
theorem stCe (mu₁ : List (Addr × Obj)) {mu₂ : List (Addr × Obj)} {M : Model} {x : Str} {c : Addr} {o : Obj} {v₀ : Option Value} {v : Value} {Q : Unit → Shared → Prop} (F : Fm os s₀ H₀ L m H (mu₁ ++ (c, o) :: mu₂) s) (hd : o.data = .cell v₀) (h0 : s₀.heap.get? c = none)
    (h : ∀ o' s', o'.data = .cell (some v) → Fm os s₀ H₀ L m H (mu₁ ++ (c, o') :: mu₂) s' → Q () s')
    (hc : env.cells.lookup x = some c := by rfl) (hk : env.scope.kind = .function := by rfl) (hl : env.kindOf x = some .cell := by rfl) :
    wpAny M A (storeName env x v) Q E s := by
  refine wpAny_storeName_cell hk hl hc ⟨o, (F.mus _ (List.mem_append_right _ (.head _))).1, hd⟩ fun h' hv hs => ?_
  obtain ⟨o', ho', hd'⟩ := hv
  exact h o' _ hd' (F.setAt mu₁ (k := s.toks) hs.extBut ho' h0)

/-- a list times a number -/
theorem mulL {l : Addr} {vs : List Value} {k : Nat} {u : Tok} {Q : Value → Shared → Prop} (F : Fm os s₀ H₀ L m H mu s) (hl : ∃ n, IsL s.heap l vs.toArray n) (hk : k ≤ 1000000) (hsz : vs.length * k ≤ 1000000)
    (h : ∀ D s', H D = none → Fm os s₀ H₀ L m (H.put D (lo (List.replicate k vs).flatten 0)) mu s' → Q (.ref D) s') : wpAny (model prog w) A (binaryOp .Mult (.ref l) (.int (k : Int) u)) Q E s := by
  obtain ⟨n, hl⟩ := hl
  generalize hx : (k : Int) = x
  have hxk : x.toNat = k := by omega
  have hc0 : ¬(!Builtin.List.listFitsIndex x) = true := by simp [Builtin.List.listFitsIndex]; omega
  have hc1 : ¬vs.toArray.size * x.toNat > (2 ^ 63 - 1) / 8 := by
    rw [List.size_toArray, hxk]
    omega
  have hc2 : ¬ Builtin.List.listTooLong (vs.toArray.size * x.toNat) = true := by
    rw [List.size_toArray, hxk]
    unfold Builtin.List.listTooLong
    rw [sizeLine_eq]
    simp only [decide_eq_true_eq]
    omega
  refine wpAny_binaryOp_repeat_ref (T := "list") (U := "int") (by decide) ⟨_, hl, rfl⟩ (fun s' => typeIs_int s' x u) noFill_list_mul PySem.F.fills_int_mul PySem.F.slot_int_rmul repeat_list PySem.F.slot_int_index.lookup
    (call_meets PySem.F.slot_int_rmul (typeIs_int s x u) PySem.F.entry_int_rmul (PySem.F.args_int_rmul_2 _ _) (int___rmul___int_list x u l vs.toArray n)
      ⟨hl, rfl, ⟨_, hl, rfl⟩, call_meets PySem.F.slot_list_mul ⟨_, hl, rfl⟩ PySem.F.entry_list_mul (PySem.F.args_list_mul_2 _ _)
        (AutoListH.list___mul___list_int_3 l vs.toArray n x u hc0 hc1 hc2)
        ⟨hl, ?_⟩⟩)
  refine h _ _ (F.noneH (none_at s)) (F.push (none_at s) (fun _ _ e => Heap.get?_push_of_some _ e) ?_)
  rw [Heap.get?_push_size _ rfl, listMul_foldl_if, hxk]
  rfl

theorem lt63 {k : Nat} (h : k ≤ 1000000) : (k : Int) < 2 ^ 63 := by omega

/-- l[k] -/
theorem itemF {value slice : PySem.Expr} {l : Addr} {vs : List Value} {k : Nat} {u : Tok} {x : Value} {Q : Value → Shared → Prop} (hl : s.heap.IsList l vs.toArray) (hk : k ≤ 1000000) (hx : vs[k]? = some x) (h : Q x s)
    (hs : subscripted slice false (.ref l) (.int (k : Int) u) = operate [.ref l, .int (k : Int) u] (getItem (.ref l) (.int (k : Int) u)) := by with_unfolding_all rfl) (hg : ∀ r, letTemporaryGo value (.ref l) r = pure () := by intro _; with_unfolding_all rfl) :
    wpAny (model prog w) A (subscriptTail value slice (.ref l) (.int (k : Int) u)) Q E s :=
  item_listL hl (by omega) (lt63 hk) (by simpa using hx) h hs hg

/-- len(l) -/
theorem lenF {l : Addr} {vs : List Value} {Q : Value → Shared → Prop} (F : Fm os s₀ H₀ L m H mu s) (hl : s.heap.IsList l vs.toArray) (hk : vs.length ≤ 1000000) (h : ∀ t s', Fm os s₀ H₀ L m H mu s' → Q (.int (vs.length : Int) t) s') :
    wpAny (model prog w) A (call (.builtin "len") [.ref l]) Q E s := by
  refine len_list hl (by rw [List.size_toArray]; exact lt63 hk) ?_
  rw [List.size_toArray]
  exact h _ _ (F.tok _)

theorem Fm.reL {a : Addr} {o : Obj} {s' : Shared} {m' : Str → Option Value} (F : Fm os s₀ H₀ L m H ((a, o) :: mu) s) (hs : ∀ b o, b ≠ L → b ≠ a → s.heap.get? b = some o → s'.heap.get? b = some o) (hn : s'.heap.Ns L m') (h0 : s₀.heap.get? a = none)
    (g : s'.gens = s.gens := by rfl) (q : s'.os = s.os := by rfl) (d : s'.drawn = s.drawn := by rfl) : Fm os s₀ H₀ L m' H mu s' :=
  have A := F.mus (a, o) (.head _)
  have ne0 : ∀ b o, s₀.heap.get? b = some o → b ≠ a := fun b o e q => by subst q; rw [h0] at e; cases e
  have neL : ∀ b o, s₀.heap.get? b = some o → b ≠ L := fun b o e q => by subst q; rw [F.L0] at e; cases e
  { keep := fun b o hb e => hs _ _ (neL b o e) (ne0 b o e) (F.keep b o hb e)
    dom := fun b o e => let ⟨o', e'⟩ := F.dom b o e; ⟨o', hs _ _ (neL b o e) (ne0 b o e) e'⟩
    slots := fun b o e hn => let ⟨sl, e'⟩ := F.slots b o e hn; ⟨sl, hs _ _ (neL b o e) (ne0 b o e) e'⟩
    gens := g.trans F.gens
    sys := q.trans F.sys
    drw := d.trans F.drw
    le := F.le
    inH := fun b o e => hs _ _ (by rintro rfl; rw [F.HL] at e; cases e) (by rintro rfl; rw [A.2.1] at e; cases e) (F.inH b o e)
    new := F.new
    ns := hn
    HL := F.HL
    L0 := F.L0
    mus := fun p hp => by
      have := F.mus p (.tail _ hp)
      refine ⟨hs _ _ this.2.2.1 (fun e => ?_) this.1, this.2⟩
      have nd := F.nd
      rw [List.map_cons, List.nodup_cons] at nd
      exact nd.1 (List.mem_map.mpr ⟨p, hp, e⟩)
    nd := (List.nodup_cons.mp F.nd).2 }
theorem Fm.putNew {D : Addr} {o : Obj} (F : Fm os s₀ H₀ L m H mu s) (hD : H D = none) (hg : s.heap.get? D = some o) (hDL : D ≠ L) (hD0 : s₀.heap.get? D = none) (hmu : ∀ p ∈ mu, p.1 ≠ D) : Fm os s₀ H₀ L m (H.put D o) mu s :=
  { F with
    le := fun b o e => Le.put _ hD _ _ (F.le b o e)
    inH := fun b o' e => by
      by_cases hb : b = D
      · subst hb; rw [Fz.put_self] at e; cases e; exact hg
      · rw [Fz.put_ne _ _ hb] at e; exact F.inH _ _ e
    new := fun b o' e => by
      by_cases hb : b = D
      · subst hb; exact .inr hD0
      · rw [Fz.put_ne _ _ hb] at e; exact F.new _ _ e
    HL := by rw [Fz.put_ne _ _ (Ne.symm hDL)]; exact F.HL
    mus := fun q hq => by
      have := F.mus q hq
      refine ⟨this.1, ?_, this.2.2⟩
      rw [Fz.put_ne _ _ (hmu q hq)]; exact this.2.1 }

/-- y = [.. for x in .. if ..] -/
theorem compA {elt iter : PySem.Expr} {x y : Str} {px py : Pos} {ifs : List PySem.Expr} {scope : Scope} {cl : List (Str × Addr)} {pos spos : Pos} {Q : Flow → Shared → Prop} (_F : Fm os s₀ H₀ L m H mu s) (p : Value → Bool) (Fel : Value → Value → Prop)
    (hsw : swapsWith (.ListComp elt [⟨.Name x px, iter, ifs, 0⟩] scope pos) (some (.Name y py)) spos.line env = pure true)
    (hclos : closureFor scope env = pure cl) (hcell : ∀ z ∈ scope.names, z.2 ≠ .cell) (hkind : scope.kind = .function)
    (hnames : ∀ z ∈ scope.names, z.2 = .local → scope.names.lookup z.1 = some .local) (hx : scope.names.lookup x = some .local)
    (hy : env.kindOf y = some .local) (hk : env.scope.kind = .function) (hL : env.locals = L)
    (h : wpAny (model prog w) A (eval iter env) (fun xv s₁ => wpAny (model prog w) A (pyIter xv) (fun it s₂ => ∃ I oI fp n P St m₁ H₁ mu₁, it = .ref I ∧ Walks prog w A I fp [I] n P St ∧ n ≤ 1000000 ∧
      St 0 s₂.heap ∧ (∀ b ∈ fp, b < s₂.heap.objs.size) ∧ Fm os s₀ H₀ L m₁ H₁ ((I, oI) :: mu₁) s₂ ∧ s₀.heap.get? I = none ∧
      (∀ C i v s₃ m₃, P i v → s₃.heap.Ns C m₃ → m₃ x = some v → (∀ b o, b ≠ I → s₂.heap.get? b = some o → s₃.heap.get? b = some o) →
        wpAny (model prog w) A (forIn ifs true fun c r => if r = true then do let ok ← isTrue c (compEnvC scope cl C env) (eval c (compEnvC scope cl C env)); pure (ForInStep.yield ok) else pure (ForInStep.yield r))
          (fun ok s₄ => ok = p v ∧ Keeps s₃ s₄) (fun _ _ => False) s₃) ∧
      (∀ C i v s₃ m₃, P i v → p v = true → s₃.heap.Ns C m₃ → m₃ x = some v → (∀ b o, b ≠ I → s₂.heap.get? b = some o → s₃.heap.get? b = some o) →
        wpAny (model prog w) A (eval elt (compEnvC scope cl C env)) (fun y s₄ => Fel v y ∧ Keeps s₃ s₄) (fun _ _ => False) s₃) ∧
      (∀ D ys k s' (vs : List Value), H₁ D = none → vs.length = n → (∀ j v, vs[j]? = some v → P j v) → Paired Fel (vs.filter p) ys → Fm os s₀ H₀ L (up m₁ y (.ref D)) (H₁.put D (lo ys k)) mu₁ s' → Q .next s')) E s₁) E s)
    (hs : ∀ x, foldedSetIterable iter env x = pure x := by intro _; rfl) :
    wpAny (model prog w) A (exec (.Assign [.Name y py] (.ListComp elt [⟨.Name x px, iter, ifs, 0⟩] scope pos) spos) env) Q E s := by
  subst hL
  refine wpAny_Assign_ListComp_free p Fel hsw hclos hcell hkind hnames hx hy (by rw [hk]; rfl) (wpAny_mono h (fun xv s₁ h₁ => wpAny_mono h₁ (fun it s₂ h₂ => ?_) fun _ _ q => q) fun _ _ q => q) hs
  obtain ⟨I, oI, fp, n, P, St, m₁, H₁, mu₁, rfl, W, hsz, hst, hfp, F₂, hI, htest, helt, hQ⟩ := h₂
  have hIL := (F₂.mus _ (.head _)).2.2.1
  refine ⟨I, fp, [I], n, P, St, m₁, rfl, W, big hsz, hst, hfp, (by simpa using Ne.symm hIL), F₂.ns, ?_, ?_⟩
  · refine ⟨fun C i v s₃ m₃ E' _ hv hn hm hk _ => wpAny_noRaise (htest C i v s₃ m₃ hv hn hm fun b o hb e => hk b o (by simpa using hb) e),
      fun C i v s₃ m₃ E' _ hv hpv hn hm hk _ => wpAny_noRaise (helt C i v s₃ m₃ hv hpv hn hm fun b o hb e => hk b o (by simpa using hb) e)⟩
  · intro D h' tk ys vs hD _ hpl hlen hP' hF hns hk
    obtain ⟨k, hpl⟩ := hpl
    have F₃ : Fm os s₀ H₀ env.locals (up m₁ y (.ref D)) H₁ mu₁ { s₂ with heap := h', toks := tk } := F₂.reL (fun b o hb1 hb2 e => hk b o hb1 (by simpa using hb2) e) hns hI
    exact hQ D ys.toList k _ vs (F₂.noneH hD) hlen hP' hF (F₃.putNew (F₂.noneH hD) hpl (F₂.neL hD) (none_of F₂.dom hD) fun p hp => F₂.neMu hD p (.tail _ hp))
end

theorem keeps_of {s s' : Shared} (k : ∀ b o, s.heap.get? b = some o → s'.heap.get? b = some o) (g : s'.gens = s.gens) (q : s'.os = s.os) (d : s'.drawn = s.drawn) : Keeps s s' := by
  refine ⟨s'.heap, s'.toks, ?_, k⟩
  obtain ⟨h1, g1, d1, t1, o1⟩ := s
  obtain ⟨h2, g2, d2, t2, o2⟩ := s'
  simp only at g q d
  subst g q d
  rfl

section
variable {os : List Addr} {s₀ s : Shared} {H₀ H : Fz} {L : Addr} {m : Str → Option Value} {mu : List (Addr × Obj)} {prog : Program} {w : World} {A : Around} {E : Value → Shared → Prop} {B : Heap} {mg mb : Str → Option Value} {env : Env}

/-- a call of a def by its name, where the top is seen to stand -/
theorem callFC {i : Nat} {x : Str} {e : PySem.Expr} {rest : List PySem.Expr} {p pos : Pos} {Q : Value → Shared → Prop} (G : Gd B mg mb) (st : ∀ b o, B.get? b = some o → s.heap.get? b = some o)
    (hi : i ∈ [2, 3, 4, 5, 6, 8, 10, 11, 12, 13, 14, 15, 16, 17]) (hx : fName (fd i) = x)
    (h : ∀ a, mg x = some (.ref a) → wpAny (model prog w) A (spliced (backTo pos (starEach (e :: rest) env))) (fun vs s₁ => (∀ b o, B.get? b = some o → s₁.heap.get? b = some o) ∧
      codeAny (model prog w) A (.call (.ref a) ⟨vs, []⟩) (fun r s' => match r with | .ok (.ret v) => Q v s' | .ok _ => False | .error e => E e s') s₁) E s)
    (hk : env.scope.kind = .function := by rfl) (hg : env.globals = mainGlobals := by rfl) (hl : env.kindOf x = some .globalImplicit := by rfl) (hd : (x == ("__debug__" : Str)) = false := by decide)
    (hs : starEach (e :: rest) env = (false, eval e env) :: starEach rest env := by rfl) :
    wpAny (model prog w) A (eval (.Call (.Name x p) (e :: rest) [] pos) env) Q E s := by
  refine Call_ ?_
  obtain ⟨a, o, pm, code, doc, h1, h2, h3, h4⟩ := G.fn i hi
  rw [hx] at h1
  refine Name_function_global hk hl (loadGlobal_global (by rw [hg]; exact G.g.keeps st) h1 ?_) hd
  refine callWith_def h3 (wpAny_mono (h a h1) (fun vs s₁ h₁ => ⟨h₁.1 _ _ h2, wpAny_call h₁.2⟩) fun _ _ q => q) hs
theorem ldCC {M : Model} {x : Str} {pos : Pos} {c : Addr} {o : Obj} {v : Value} {Q : Value → Shared → Prop} (ho : s.heap.get? c = some o) (hd : o.data = .cell (some v)) (h : Q v s)
    (hc : env.cells.lookup x = some c := by rfl) (hk : env.scope.kind = .function := by rfl) (hl : env.kindOf x = some .cell := by rfl) (hdb : (x == ("__debug__" : Str)) = false := by decide) :
    wpAny M A (eval (.Name x pos) env) Q E s := wpAny_Name (wpAny_loadName_cell hk hl hc ⟨o, ho, hd⟩ h) hdb

/-- one test of a comprehension -/
theorem test1 {c : PySem.Expr} {Q : Bool → Shared → Prop} (h : wpAny (model prog w) A (isTrue c env (eval c env)) Q E s) :
    wpAny (model prog w) A (forIn [c] true fun c r => if r = true then do let ok ← isTrue c env (eval c env); pure (ForInStep.yield ok) else pure (ForInStep.yield r)) Q E s := by
  rw [List.forIn_cons]
  refine wpAny_bind ?_
  rw [if_pos rfl]
  refine wpAny_bind (wpAny_mono h (fun b s' h' => ?_) fun _ _ q => q)
  refine wpAny_pure ?_
  show wpAny _ _ (forIn [] b _) _ _ _
  rw [List.forIn_nil]
  exact wpAny_pure h'
end

/-- which places spell the sign -/
def spells (w : List Nat) (c : Nat) : Value → Bool
  | .int k _ => decide (refN (w.getD k.toNat 0) c ≠ [])
  | _ => false

theorem spelled_list {w : List Nat} {c : Nat} {vs ys : List Value} (hlen : vs.length = w.length) (hP : ∀ (j : Nat) v, vs[j]? = some v → ∃ t, v = .int (0 + (j : Int) * 1) t) (hp : Paired (fun v y => v = y) (vs.filter (spells w c)) ys) :
    IntsAre ys (cast (spelledN w c)) := by
  have hy : ys = vs.filter (spells w c) := by
    have : ∀ (a b : List Value), Paired (fun v y => v = y) a b → b = a := by
      intro a
      induction a with
      | nil => intro b h; cases h; rfl
      | cons x r ih => intro b h; cases h with | cons h1 h2 => rw [← h1, ih _ h2]
    exact this _ _ hp
  subst hy
  unfold spelledN
  rw [← hlen]
  have key : ∀ (us : List Value) (k : Nat), (∀ (j : Nat) v, us[j]? = some v → ∃ t, v = .int ((k + j : Nat) : Int) t) → IntsAre (us.filter (spells w c)) (cast ((List.range' k us.length).filter fun k => decide (refN (w.getD k 0) c ≠ []))) := by
    intro us
    induction us with
    | nil => intro k _; exact .nil
    | cons u r ih =>
      intro k h
      obtain ⟨t, ht⟩ := h 0 u rfl
      rw [Nat.add_zero] at ht
      subst ht
      have ih' := ih (k + 1) fun j v hj => by
        obtain ⟨t, ht⟩ := h (j + 1) v (by simpa using hj)
        exact ⟨t, by rw [ht, show k + 1 + j = k + (j + 1) by omega]⟩
      rw [List.length_cons, List.range'_succ, List.filter_cons, List.filter_cons]
      have e : spells w c (.int (k : Int) t) = decide (refN (w.getD k 0) c ≠ []) := by simp [spells]
      rw [e]
      cases decide (refN (w.getD k 0) c ≠ []) with
      | true => exact .cons _ t ih'
      | false => exact ih'
  have := key vs 0 fun j v hj => by
    obtain ⟨t, ht⟩ := hP j v hj
    exact ⟨t, by rw [ht]; simp⟩
  rwa [← List.range_eq_range'] at this

theorem spelled_lt {w : List Nat} {c k : Nat} {ks : List Nat} (h : spelledN w c = k :: ks) : k < w.length := by
  have : k ∈ spelledN w c := by rw [h]; exact .head _
  exact List.mem_range.mp (List.mem_filter.mp this).1

theorem Walks.below {prog : Program} {w : World} {A : Around} {I : Addr} {fp wr : List Addr} {n : Nat} {P : Nat → Value → Prop} {St : Nat → Heap → Prop} (W : Walks prog w A I fp wr n P St) :
    Walks prog w A I fp wr n (fun i v => P i v ∧ i < n) St :=
  { W with item := fun i s Q E hi st hQ => W.item i s Q E hi st fun v h' tk hv => hQ v h' tk ⟨hv, hi⟩ }

theorem ints_nth {vs : List Value} {ns : List Nat} {i : Nat} (h : IntsAre vs (cast ns)) (hi : i < ns.length) : ∃ t, vs[i]? = some (.int ((ns.getD i 0 : Nat) : Int) t) := by
  have hl := ints_len h
  have hv : vs[i]? = some (vs[i]'(by omega)) := List.getElem?_eq_getElem (by omega)
  obtain ⟨n, t, e1, e2⟩ := ints_get h hv
  refine ⟨t, ?_⟩
  rw [hv, e2, List.getD_eq_getElem?_getD, e1]
  rfl

section
variable {prog : Program} {w : World} {B : Heap} {mg mb : Str → Option Value} {A : Around} {s : Shared} {H₀ : Fz} {os : List Addr} {a : Addr}

theorem told_spec {D : Addr} {ls : List Leaf} (G : Gd B mg mb) (hB : Base B H₀) (hH : ∀ b o, H₀ b = some o → s.heap.get? b = some o) (hos : ∀ b ∈ os, ∃ o, s.heap.get? b = some o)
    (ha : mg (fName (fd 17)) = some (.ref a)) (hd : A.depth < 398) (hA : A.handled = none) (hu : A.units < 1000) (hl : Leaves H₀ D ls) (hg : Good ls) (hn : ls.length ≤ 100) (hw : ∀ l ∈ ls, l.2.length ≤ 100) :
    codeAny (model prog w) A (.call (.ref a) ⟨[.ref D], []⟩) (Ret fun v s' => ∃ D' H', v = .ref D' ∧ NList H' D' (toldF ls) ∧ Bk os H₀ s s' H') s := by
  refine enterC (i := 17) (os := os) (binds := [(Str.ofString "leaves", .ref D)]) G hB hH (by decide) ha (by omega) (fun _ _ _ => rfl) (by intro y hy; rw [List.mem_singleton.mp hy]; rfl) (by decide) ?_
  intro cd s' cells F hcells hcs
  have hL := not_mem_os hos
  have hcl : (A.deeper (envOfC (fName (fd 17)) (fScope (fd 17)) s.heap.objs.size a cd)).units + 64 < cLine := by
    rw [units_deeper]; show _ < 9900; omega
  obtain ⟨vs, hvs, hp⟩ := hl
  obtain ⟨ow, oc, rfl, dw, dc⟩ := CellsAre.two (n := Str.ofString "way") (n' := Str.ofString "code") (c := s.heap.objs.size + 1 + 1) (c' := s.heap.objs.size + 1) hcs
  have nH : ∀ c, s.heap.get? c = none → H₀ c = none := fun c hc => by
    cases e : H₀ c with
    | none => rfl
    | some o => have := hH _ _ e; rw [hc] at this; cases this
  have c1 := hcells _ (.head _)
  have c2 := hcells _ (.tail _ (.head _))
  have F := F.addMu c2.1 (nH _ c2.2.2) c2.2.1 c2.2.2 (fun p hp => nomatch hp)
  have F := F.addMu c1.1 (nH _ c1.2.2) c1.2.1 c1.2.2 (fun p hp => by rw [List.mem_singleton.mp hp]; exact Nat.ne_of_lt (Nat.lt_succ_self _))
  have cw0 : s.heap.get? (s.heap.objs.size + 1 + 1) = none := c1.2.2
  have cc0 : s.heap.get? (s.heap.objs.size + 1) = none := c2.2.2
  change wpAny _ _ (execs (_ :: _) _) _ _ _
  repeat (tb_rel)
  refine newListM F (by simp) fun K s1 hK F => ?_
  refine stL F hL fun s2 _ F => ?_
  repeat (tb_rel)
  refine stL (by assumption) hL fun s3 _ F => ?_
  refine wpAny_execs_cons ?_
  refine wpAny_For ?_
  refine ldL F rfl ?_
  refine forL (fun i m H mu => ∃ vt n held th told ow oc vw vc, m (Str.ofString "told") = some (.ref K) ∧ m (Str.ofString "held") = some (.int ((held : Nat) : Int) th) ∧
      mu = [(K, lo vt n), (s.heap.objs.size + 1 + 1, ow), (s.heap.objs.size + 1, oc)] ∧ ow.data = .cell vw ∧ oc.data = .cell vc ∧ Le H₀ H ∧ IntsAre vt (cast told) ∧
      (ls.take i).foldl toldStep ([], 0) = (told, held) ∧ told.length ≤ 200 * i) F hvs hA
    ⟨[], 0, 0, _, [], ow, oc, _, _, rfl, rfl, rfl, dw, dc, Le.refl _, .nil, rfl, Nat.le_refl _⟩ (go_tup (leaf_refs hp)) ?_ ?_
  · rintro i v I oI m H mu sx hv ⟨vt, n, held, th, told, ow, oc, vw, vc, m1, m2, rfl, dw, dc, le, pt, e1, e2⟩ hvs hI F
    obtain ⟨l, hli, T, W, tc, rfl, hT, hW⟩ := Paired.get hp hv
    have hlm := List.mem_of_getElem? hli
    obtain ⟨hl1, hl2⟩ := hg l hlm
    have hlw := hw l hlm
    have hil : i < ls.length := (List.getElem?_eq_some_iff.mp hli).1
    have hfold : (ls.take (i + 1)).foldl toldStep ([], 0) = toldStep (told, held) l := by
      rw [List.take_add_one, hli, List.foldl_append, e1]; rfl
    have hptl := ints_len pt
    refine unpackT F (hT.mono le) hA rfl rfl fun s1 F => ?_
    refine assignInOrder_cons (wpAny_assign_Name (stCe [(I, oI), (K, lo vt n), (s.heap.objs.size + 1 + 1, ow)] F dc cc0 fun oc' s2 dc' F => ?_))
    refine assignInOrder_cons (wpAny_assign_Name (stCe [(I, oI), (K, lo vt n)] F dw cw0 fun ow' s3 dw' F => ?_))
    refine assignInOrder_nil ?_
    replace F : Fm os s H₀ s.heap.objs.size m H [(I, oI), (K, lo vt n), (s.heap.objs.size + 1 + 1, ow'), (s.heap.objs.size + 1, oc')] s3 := F
    have hmu : ∀ (vt : List Value) (n : Nat), ∀ p ∈ [(I, oI), (K, lo vt n), (s.heap.objs.size + 1 + 1, ow'), (s.heap.objs.size + 1, oc')], s.heap.get? p.1 = none := fun vt n p hp => by
      simp only [List.mem_cons, List.not_mem_nil, or_false] at hp
      rcases hp with rfl | rfl | rfl | rfl
      · exact hI
      · exact hK
      · exact cw0
      · exact cc0
    refine wpAny_execs_cons ?_
    refine wpAny_If ?_
    refine testF F (63 < l.1) ?_ ?_ ?_
    · tb_start
      refine ldC F (.tail _ (.tail _ (.tail _ (.head _)))) dc' ?_
      repeat (tb_rel)
      exact ⟨decide_eq_decide.mpr (by omega), _, by assumption, Le.refl _⟩
    · intro q H1 s4 F le1
      rw [if_pos rfl]
      repeat (tb_rel)
      refine ldC (by assumption) (.tail _ (.tail _ (.tail _ (.head _)))) dc' ?_
      repeat (tb_rel)
      refine stL (by assumption) hL fun s5 _ F => ?_
      refine wpAny_execs_nil ?_
      refine wpAny_execs_nil ?_
      refine ⟨_, _, _, F, le1, vt, n, held * 64 + l.1 - 64, _, told, ow', oc', _, _, m1, congrArg (fun z : Int => some (Value.int z _)) (show (held : Int) * 64 + (l.1 : Int) - 64 = ((held * 64 + l.1 - 64 : Nat) : Int) by omega), rfl, dw', dc', le.trans le1, pt, ?_, by omega⟩
      rw [hfold]; simp only [toldStep]; rw [if_pos q]
    · intro q H1 s4 F le1
      rw [if_neg Bool.false_ne_true]
      refine wpAny_execs_cons ?_
      obtain ⟨ws, hws, hwi⟩ := hW
      have hwl := ints_len hwi
      have hws1 : FList H1 W ws := hws.mono (le.trans le1)
      refine compA F (spells l.2 l.1) (fun v y => v = y) rfl rfl (by decide) rfl (by decide) rfl rfl rfl rfl ?_
      refine Call_ ?_
      refine ldB G hB F (by decide) PyProof.Rows.Boot.«range» ?_
      refine PySem.Pv.callWith_type1 ?_
      refine args_cons ?_
      refine Call_ ?_
      refine ldB G hB F (by decide) PyProof.Rows.Boot.«len» ?_
      refine PyProof.Rows.callWith_builtin1 ?_
      refine args_cons (ldC F (.tail _ (.tail _ (.head _))) dw' ?_)
      refine args_nil ?_
      refine lenF F (hws1.isList F) (by omega) fun tn s5 F => ?_
      refine args_nil ?_
      refine PySem.call_range_1 ?_
      refine wpAny_pyIter_range (PySem.IsRange.new ..) (PySem.small_one (by decide) (by decide) (by omega) (by omega)) ?_
      have F5 := F.grow0 (s' := { s5 with heap := s5.heap.push { cls := .type "range", data := .fields #[.int 0 s5.toks, .int (ws.length : Int) tn, .int 1 (s5.toks + 1)] }, toks := s5.toks + 1 + 1 }) (fun _ _ e => Heap.get?_push_of_some _ e) rfl rfl rfl
      have FI := F5.pushMu (s' := { s5 with heap := (s5.heap.push { cls := .type "range", data := .fields #[.int 0 s5.toks, .int (ws.length : Int) tn, .int 1 (s5.toks + 1)] }).push { cls := .type "range_iterator", data := .fields #[rawInt 0, rawInt (Builtin.Range.rangeSize 0 (ws.length : Int) 1), rawInt 1] }, toks := s5.toks + 1 + 1 }) (none_at _) (fun _ _ e => Heap.get?_push_of_some _ e) (Heap.get?_push_size _ rfl)
      have W' := Walks.below (Walks.range (prog := prog) (w := w) (A := A.deeper (envOfC (fName (fd 17)) (fScope (fd 17)) s.heap.objs.size a cd)) hA (s5.heap.push { cls := .type "range", data := .fields #[.int 0 s5.toks, .int (ws.length : Int) tn, .int 1 (s5.toks + 1)] }).objs.size 0 1 l.2.length)
      refine ⟨_, _, _, _, _, _, _, _, _, rfl, W', by omega, ?_, ?_, FI, none_of F5.dom (none_at _), ?_, ?_, ?_⟩
      · have : Builtin.Range.rangeSize 0 (ws.length : Int) 1 = (l.2.length : Int) - ((0 : Nat) : Int) := by
          rw [PySem.rangeSize_one]; split <;> omega
        rw [← this]
        exact Heap.get?_push_size _ rfl
      · intro b hb
        rw [List.mem_singleton.mp hb]
        exact Heap.lt_size (Heap.get?_push_size _ rfl)
      · rintro C j v s6 m6 ⟨⟨t, hv⟩, hj⟩ hns hm hk
        replace hv : v = .int (j : Int) t := by rw [hv]; simp
        subst hv
        obtain ⟨tx, hx⟩ := ints_nth hwi hj
        have hin := inC FI hk
        have hst := stC FI hB hk
        have hmem : ∀ p ∈ [(I, oI), (K, lo vt n), (s.heap.objs.size + 1 + 1, ow'), (s.heap.objs.size + 1, oc')], s6.heap.get? p.1 = some p.2 := fun p hp => by
          have := FI.mus p (.tail _ hp)
          refine hk _ _ (fun q => ?_) this.1
          have h1 := (F5.mus p hp).1
          rw [q, none_at] at h1
          cases h1
        refine test1 ?_
        refine wpAny_isTrue_Compare1 ?_ rfl
        refine callFC (i := 16) G hst (by decide) rfl fun a16 ha16 => ?_
        refine args_cons (Subscript_ (ldCC (hmem _ (.tail _ (.tail _ (.head _)))) dw' ?_))
        obtain ⟨nw, hws2⟩ := hws1
        refine ldLC hns hm (itemF ⟨_, hin _ _ hws2, rfl, nw, rfl⟩ (by omega) hx ?_)
        refine args_cons (ldCC (hmem _ (.tail _ (.tail _ (.tail _ (.head _))))) dc' ?_)
        refine args_nil ⟨hst, ?_⟩
        refine ret_of (ref_spec (os := []) G (hB.mono FI.le) hin (fun b hb => nomatch hb) ha16 (by rw [deeper_depth]; omega) (hl2 _ ?_)) ?_
        · rw [List.getD_eq_getElem?_getD, List.getElem?_eq_getElem hj]
          exact List.getElem_mem hj
        rintro v s7 ⟨D7, H7, rfl, ⟨us, hus, hui⟩, b⟩
        refine List_ ?_
        refine args_nil ?_
        refine wpAny_newObj_type ?_ (Nat.zero_le _)
        obtain ⟨n7, hus⟩ := hus
        refine ne_intsK (ms := []) (us := []) ⟨_, Heap.get?_push_of_some _ (b.inH _ _ hus), rfl, n7, rfl⟩ hui ⟨_, Heap.get?_push_size _ rfl, rfl, 0, rfl⟩ .nil hcl ?_
        refine wpAny_truthy_bool ⟨?_, keeps_of (fun b' o e => Heap.get?_push_of_some _ (b.keep _ _ (fun h => nomatch h) e)) b.gens b.sys b.drw⟩
        simp [spells]
      · rintro C j v s6 m6 ⟨⟨t, hv⟩, hj⟩ _ hns hm hk
        exact ldLC hns hm ⟨rfl, s6.heap, s6.toks, rfl, fun _ _ e => e⟩
      intro D3 ys k3 s6 vs3 hD3 hlen3 hP3 hpr F
      have hys := spelled_list hlen3 (fun j v hj => (hP3 j v hj).1) hpr
      have hle3 : Le H1 (H1.put D3 (lo ys k3)) := Le.put _ hD3
      refine wpAny_execs_cons ?_
      refine wpAny_If ?_
      refine testF F (spelledN l.2 l.1 = []) ?_ ?_ ?_
      · tb_start
        refine ldL F rfl ?_
        repeat (tb_rel)
        refine newListF F (by simp) fun D4 s7 hD4 F => ?_
        refine eq_intsK (ms := []) (us := []) (((FList.put ..).mono (Le.put _ hD4)).isList F) hys ((FList.put ..).isList F) .nil hcl ?_
        refine wpAny_truthy_bool ⟨?_, _, F, Le.put _ hD4⟩
        exact decide_eq_decide.mpr (by simp [cast])
      · intro q2 H2 s7 F le2
        rw [if_pos rfl]
        refine wpAny_execs_cons ?_
        refine appendM F (D := K) (by show m _ = _; exact m1) (.tail _ (.head _)) ?_
        repeat (tb_rel)
        refine ldC (by assumption) (.tail _ (.tail _ (.tail _ (.head _)))) dc' ?_
        repeat (tb_rel)
        refine ⟨_, _, _, vt, n, Fm.swap (by assumption), by omega, hK, fun n' s8 F => ?_⟩
        refine wpAny_execs_nil ?_
        repeat (tb_rel)
        refine stL (by assumption) hL fun s9 _ F => ?_
        refine wpAny_execs_nil ?_
        refine wpAny_execs_nil ?_
        have leA := le1.trans (hle3.trans le2)
        refine ⟨_, _, _, F.swap, leA, _, _, 0, _, told ++ [held * 64 + l.1], ow', oc', _, _, m1, rfl, rfl, dw', dc', le.trans leA, ?_, ?_, by simp; omega⟩
        · rw [cast, List.map_append]
          exact IntsAre.append pt (.cons _ _ .nil)
        · rw [hfold]; simp only [toldStep]; rw [if_neg q, q2]
      · intro q2 H2 s7 F le2
        rw [if_neg Bool.false_ne_true]
        cases hsp : spelledN l.2 l.1 with
        | nil => exact absurd hsp q2
        | cons k0 ks =>
        have hk0 := spelled_lt hsp
        rw [hsp] at hys
        obtain ⟨tk0, hy0⟩ : ∃ t, ys[0]? = some (.int (k0 : Int) t) := by
          cases hys with
          | cons _ t _ => exact ⟨t, rfl⟩
        obtain ⟨twk, hwk⟩ := ints_nth hwi hk0
        have hh5 : l.2.getD k0 0 < 5 := hl2 _ (by
          rw [List.getD_eq_getElem?_getD, List.getElem?_eq_getElem hk0]
          exact List.getElem_mem hk0)
        have hys2 : FList H2 D3 ys := (FList.put ..).mono le2
        have hws2 : FList H2 W ws := hws1.mono (hle3.trans le2)
        refine wpAny_execs_cons ?_
        refine appendM F (D := K) (by show m _ = _; exact m1) (.tail _ (.head _)) ?_
        repeat (tb_rel)
        refine ⟨_, _, _, vt, n, Fm.swap (by assumption), by omega, hK, fun n1 s8 F => ?_⟩
        replace F := F.swap
        refine wpAny_execs_cons ?_
        refine extendM F (D := K) (by show m _ = _; exact m1) (.tail _ (.head _)) ?_
        refine wpAny_BinOp ?_
        refine List_ ?_
        refine args_cons ?_
        refine callF0 (i := 15) G hB F (by decide) rfl fun a15 ha15 => ?_
        refine ret_of (amp_spec (os := s.heap.objs.size :: os) G (hB.mono F.le) F.inH ha15 (by rw [deeper_depth]; omega)) ?_
        rintro v s9 ⟨⟨t9, rfl⟩, b9⟩
        replace F := F.back b9 hos (hmu _ _)
        refine args_nil ?_
        refine newListF F (by simp) fun D5 s10 hD5 F => ?_
        refine wpAny_BinOp ?_
        refine wpAny_BinOp ?_
        refine Call_ ?_
        refine ldB G hB F (by decide) PyProof.Rows.Boot.«len» ?_
        refine PyProof.Rows.callWith_builtin1 ?_
        refine args_cons (ldC F (.tail _ (.tail _ (.head _))) dw' ?_)
        refine args_nil ?_
        refine lenF F ((hws2.mono (Le.put _ hD5)).isList F) (by omega) fun tn2 s11 F => ?_
        refine cInt F fun t1 s12 F => ?_
        refine subI F fun t2 s13 F => ?_
        refine Subscript_ (ldL F rfl ?_)
        refine cInt F fun t3 s14 F => ?_
        refine itemF (k := 0) ((hys2.mono (Le.put _ hD5)).isList F) (by decide) hy0 ?_
        refine subI F fun t4 s15 F => ?_
        rw [show (ws.length : Int) - 1 - (k0 : Int) = ((l.2.length - 1 - k0 : Nat) : Int) by omega]
        refine mulL F ((FList.put ..).isL F) (by omega) (by simp; omega) fun D6 s16 hD6 F => ?_
        have hle6 := (Le.put (lo [Value.int 8838203 t9] 0) hD5).trans (Le.put (lo (List.replicate (l.2.length - 1 - k0) [Value.int 8838203 t9]).flatten 0) hD6)
        refine ⟨_, _, _, _, _, D6, _, rfl, FList.put .., F.swap, by simp; omega, hK, fun n2 s17 F => ?_⟩
        replace F := F.swap
        refine wpAny_execs_cons ?_
        refine extendM F (D := K) (by show m _ = _; exact m1) (.tail _ (.head _)) ?_
        refine callF (i := 16) G hB F (by decide) rfl fun a16 ha16 => ?_
        refine args_cons ?_
        refine Subscript_ (ldC F (.tail _ (.tail _ (.head _))) dw' ?_)
        refine Subscript_ (ldL F rfl ?_)
        refine cInt F fun t5 s18 F => ?_
        refine itemF (k := 0) ((hys2.mono hle6).isList F) (by decide) hy0 ?_
        refine itemF (k := k0) ((hws2.mono hle6).isList F) (by omega) hwk ?_
        refine args_cons (ldC F (.tail _ (.tail _ (.tail _ (.head _)))) dc' ?_)
        refine args_nil ⟨F.stay hB, ?_⟩
        refine ret_of (ref_spec (os := s.heap.objs.size :: os) G (hB.mono F.le) F.inH (os_cons F hos) ha16 (by rw [deeper_depth]; omega) hh5) ?_
        rintro v s19 ⟨D8, H8, rfl, ⟨us, hus, hui⟩, b8⟩
        have le8 := b8.le
        replace F := F.back b8 hos (hmu _ _)
        have hrl : us.length ≤ 4 := by
          rw [ints_len hui]; exact ref_len _ hh5 _ (by omega)
        refine ⟨_, _, _, _, _, D8, us, rfl, hus, F.swap, by simp; omega, hK, fun n3 s20 F => ?_⟩
        refine wpAny_execs_nil ?_
        repeat (tb_rel)
        refine stL (by assumption) hL fun s9 _ F => ?_
        refine wpAny_execs_nil ?_
        refine wpAny_execs_nil ?_
        have leA := le1.trans (hle3.trans (le2.trans (hle6.trans le8)))
        refine ⟨_, _, _, F.swap, leA, _, _, 0, _, told ++ [held * 64 + 38] ++ List.replicate (l.2.length - 1 - k0) 8838203 ++ refN (l.2.getD k0 0) l.1, ow', oc', _, _, m1, rfl, rfl, dw', dc', le.trans leA, ?_, ?_, ?_⟩
        · rw [cast, List.map_append, List.map_append, List.map_append]
          refine IntsAre.append (IntsAre.append (IntsAre.append pt (.cons _ _ .nil)) ?_) hui
          generalize l.2.length - 1 - k0 = j
          clear hle6 leA F b8
          induction j with
          | zero => exact .nil
          | succ j ih => exact .cons _ _ ih
        · rw [hfold]; simp only [toldStep]; rw [if_neg q, hsp]
        · have := ref_len _ hh5 l.1 (by omega)
          simp only [List.length_append, List.length_replicate, List.length_cons, List.length_nil]
          omega
  · rintro m H mu sx ⟨vt, n, held, th, told, ow, oc, vw, vc, m1, m2, rfl, dw, dc, le, pt, e1, e2⟩ hvs F
    have hptl := ints_len pt
    rw [Paired.len hp] at e2 e1
    rw [List.take_length] at e1
    repeat (tb_rel)
    refine newListF (by assumption) (by simp) fun D9 s9 hD9 F => ?_
    refine addL F ⟨n, (F.mus _ (.head _)).1⟩ ((FList.put ..).isL F) (by simp; omega) fun D10 s10 hD10 F => ?_
    refine ⟨_, rfl, D10, _, rfl, ⟨_, FList.put .., ?_⟩, F.toBk⟩
    unfold toldF
    rw [e1, cast, List.map_append]
    exact IntsAre.append pt (.cons _ _ .nil)
end

section
variable {os : List Addr} {s₀ s : Shared} {H₀ H : Fz} {L : Addr} {m : Str → Option Value} {mu : List (Addr × Obj)} {prog : Program} {w : World} {A : Around} {E : Value → Shared → Prop} {B : Heap} {mg mb : Str → Option Value} {env : Env}

/-- [.. for x, y in l], the frozen part may grow -/
theorem compT {elt iter : PySem.Expr} {x x₂ : Str} {px px₂ tp : Pos} {k : Nat} {scope : Scope} {cl : List (Str × Addr)} {pos : Pos} {Q : Value → Shared → Prop} (hA : A.handled = none) (J : Nat → Fz → List Value → Prop)
    (hclos : closureFor scope env = pure cl) (hcell : ∀ y ∈ scope.names, y.2 ≠ .cell) (hkind : scope.kind = .function)
    (hnames : ∀ y ∈ scope.names, y.2 = .local → scope.names.lookup y.1 = some .local) (hx : scope.names.lookup x = some .local) (hx₂ : scope.names.lookup x₂ = some .local) (hxx : x ≠ x₂)
    (h : wpAny (model prog w) A (eval iter env) (fun xv s₁ => ∃ l m₁ H₁ mu₁, ∃ vs : List Value, xv = .ref l ∧ Fm os s₀ H₀ L m₁ H₁ mu₁ s₁ ∧ FList H₁ l vs ∧ vs.length ≤ 100000 ∧ J 0 H₁ [] ∧
      (∀ i v H' ys, vs[i]? = some v → J i H' ys → Le H₁ H' → ∃ T v1 v2, v = .ref T ∧ FTup H' T [v1, v2] ∧
        ∀ I oI C oC D oD m₂ s₂, Fm os s₀ H₀ L m₁ H' ((C, oC) :: (D, oD) :: (I, oI) :: mu₁) s₂ → LCg.NsObj oC m₂ → m₂ x = some v1 → m₂ x₂ = some v2 →
          wpAny (model prog w) A (eval elt (compEnvC scope cl C env)) (fun y s₃ => ∃ H'', Fm os s₀ H₀ L m₁ H'' ((C, oC) :: (D, oD) :: (I, oI) :: mu₁) s₃ ∧ Le H' H'' ∧ J (i + 1) H'' (ys ++ [y])) (fun _ _ => False) s₂) ∧
      (∀ D H' ys n s', J vs.length H' ys → Le H₁ H' → H' D = none → Fm os s₀ H₀ L m₁ (H'.put D (lo ys n)) mu₁ s' → Q (.ref D) s')) E s)
    (hs : ∀ x, foldedSetIterable iter env x = pure x := by intro _; rfl) :
    wpAny (model prog w) A (eval (.ListComp elt [⟨.Tuple [.Name x px, .Name x₂ px₂] k tp, iter, [], 0⟩] scope pos) env) Q E s := by
  rw [eval_ListComp]
  refine wpAny_comprehension_free (use := none) rfl hs hclos hkind hnames (wpAny_mono h (fun xv s₁ h₁ => ?_) fun _ _ e => e)
  obtain ⟨l, m₁, H₁, mu₁, vs, rfl, F, hl, hsz, h0, turn, fin⟩ := h₁
  refine wpAny_pyIter_list (hl.isList F) ?_
  have I0 := none_of F.dom (none_at s₁)
  have FI := F.pushMu (s' := { s₁ with heap := s₁.heap.push { cls := .type "list_iterator", data := .fields #[.ref l, .int 0 0] } }) (none_at s₁) (fun _ _ e => Heap.get?_push_of_some _ e) (Heap.get?_push_size _ rfl)
  have hitI : IsIt { cls := .type "list_iterator", data := .fields #[.ref l, .int 0 0] } l 0 := ⟨rfl, rfl⟩
  generalize ({ cls := .type "list_iterator", data := .fields #[.ref l, .int 0 0] } : Obj) = oI₀ at FI hitI ⊢
  generalize s₁.heap.objs.size = I at FI I0 ⊢
  refine newListM FI (by simp) fun D s₃ hD0 FD => ?_
  refine wpAny_newFunctionEnv hcell (by intro y hy; simp at hy) (fun h₁ hns₁ hsb₁ => ?_) hkind
  obtain ⟨oC₀, heC, hoC₀⟩ := LCg.ns_obj hns₁
  have C0 := none_of FD.dom (none_at s₃)
  have FC := FD.pushMu (s' := { s₃ with heap := h₁, toks := s₃.toks + ([] : List (Str × Value)).length }) (none_at s₃)
    (fun b o e => hsb₁.extBut b o (Nat.ne_of_lt (Heap.lt_size e)) (Heap.get?_push_of_some _ e)) heC
  generalize hCe : s₃.heap.objs.size = C at FC C0 hns₁ hsb₁ heC ⊢
  have hIt0 : h₁.IsListIter I l 0 := ⟨oI₀, (FC.mus _ (.tail _ (.tail _ (.head _)))).1, hitI.1, hitI.2⟩
  have loop : ∀ s₄ : Shared, s₄ = { s₃ with heap := h₁, toks := s₃.toks + ([] : List (Str × Value)).length } →
      codeAny (model prog w) A (.compLoop (.ListComp elt [⟨.Tuple [.Name x px, .Name x₂ px₂] k tp, iter, [], 0⟩] scope pos) 0 (.ref I) (.ref D) (compEnvC scope cl C env))
        (compPost (model prog w) A E none Q (.ref D) C) s₄ := by
    rintro s₄ rfl
    refine LCp.codeAny_compLoop_pair (fun n s' => ∃ H oC oI ys kk m₂ i, Fm os s₀ H₀ L m₁ H ((C, oC) :: (D, lo ys kk) :: (I, oI) :: mu₁) s' ∧ LCg.NsObj oC m₂ ∧ IsIt oI l i ∧ FList H l vs ∧ Le H₁ H ∧ J i H ys ∧ ys.length = i ∧ i ≤ vs.length ∧ n = vs.length + 1 - i) ?_ (vs.length + 1)
      ⟨H₁, oC₀, oI₀, [], 0, _, 0, FC, hoC₀, hitI, hl, Le.refl _, h0, rfl, Nat.zero_le _, rfl⟩
    rintro n s' ⟨H, oC, oI, ys, kk, m₂, i, F, hoC, ⟨hc, hd⟩, hl, le, hJ, hyl, hi, rfl⟩
    have hit : s'.heap.IsListIter I l i := ⟨oI, (F.mus _ (.tail _ (.tail _ (.head _)))).1, hc, hd⟩
    cases hv : vs[i]? with
    | none =>
      have hlen : i = vs.length := Nat.le_antisymm hi (by simpa using hv)
      refine wpAny_pyNext_list_end hA hit (hl.isList F) (by simpa using hv) fun h' he => ?_
      have F1 : Fm os s₀ H₀ L m₁ H ((I, oI) :: (C, oC) :: (D, lo ys kk) :: mu₁) s' := F.perm (by
        refine List.Perm.trans (List.Perm.cons _ (List.Perm.swap _ _ _)) (List.Perm.swap _ _ _))
      have F2 := F1.dropExt (s' := { s' with heap := h' }) he I0
      refine ⟨m₂, hoC.ns (F2.mus _ (.head _)).1, fun h'' hs'' => ?_⟩
      have F3 := F2.dropExt (s' := { s' with heap := h'' }) hs''.extBut C0
      exact fin D H ys kk _ (hlen ▸ hJ) le (F3.mus _ (.head _)).2.1 (F3.freeze hD0)
    | some v =>
      have hlt : i < vs.length := (List.getElem?_eq_some_iff.mp hv).1
      obtain ⟨T, v1, v2, rfl, hT, helt⟩ := turn i v H ys hv hJ le
      refine wpAny_pyNext_list_item hit (hl.isList F) (x := .ref T) (by simpa using hv) fun h' hit' hs => ?_
      obtain ⟨oI', ho', hc', hd'⟩ := id hit'
      have F' := F.setAt [(C, oC), (D, lo ys kk)] (k := s'.toks) hs.extBut ho' I0
      refine wpAny_letOwnedTupleGo_listiter hit' ?_
      refine unpackT F' hT hA rfl rfl fun s5 F5 => ?_
      refine assignInOrder_cons (wpAny_assign_Name (wpAny_storeName_local (lookup_relabel_local hx) (hoC.ns (F5.mus _ (.head _)).1) (fun h₆ hn₆ hs₆ => ?_) (by simp [compEnvC, relabel, hkind])))
      obtain ⟨oC6, heC6, hoC6⟩ := LCg.ns_obj hn₆
      have F6 := Fm.setMu (k := s5.toks + 1) F5 hs₆.extBut heC6 C0
      refine assignInOrder_cons (wpAny_assign_Name (wpAny_storeName_local (lookup_relabel_local hx₂) hn₆ (fun h₇ hn₇ hs₇ => ?_) (by simp [compEnvC, relabel, hkind])))
      obtain ⟨oC7, heC7, hoC7⟩ := LCg.ns_obj hn₇
      have F7 := Fm.setMu (k := s5.toks + 1 + 1) F6 hs₇.extBut heC7 C0
      refine assignInOrder_nil ?_
      refine wpAny_noRaise (wpAny_mono (helt I oI' C oC7 D (lo ys kk) _ _ F7 hoC7 (by simp [hxx]) (by simp)) (fun y s8 h8 => ?_) fun _ _ q => q)
      obtain ⟨H8, F8, le8, hJ8⟩ := h8
      refine append_at (its := ys.toArray) (n := kk) (F8.mus _ (.tail _ (.head _))).1 (fun h9 hs9 hD9 => ?_) (by rw [List.size_toArray]; exact big (by omega))
      have F9 := F8.setAt [(C, oC7)] (k := s8.toks) hs9.extBut hD9 hD0
      refine ⟨vs.length + 1 - (i + 1), by omega, H8, oC7, oI', ys ++ [y], kk + 1, _, i + 1, ?_, hoC7, ⟨hc', hd'⟩, hl.mono le8, le.trans le8, hJ8, by simp [hyl], hlt, rfl⟩
      rw [List.push_toArray] at F9
      exact F9
  exact codeAny_compStart_list (loop _ rfl) (wpAny_pyIter_listiter hIt0 (loop _ rfl))
end

def IsEntry (H : Fz) (v : Value) (e : Entry) : Prop := ∃ T t Lv, v = .ref T ∧ FTup H T [.str ⟨e.1.toArray⟩ t, .ref Lv] ∧ Leaves H Lv e.2
theorem IsEntry.mono {H H' : Fz} {v : Value} {e : Entry} (x : IsEntry H v e) (le : Le H H') : IsEntry H' v e := let ⟨T, t, Lv, h1, h2, h3⟩ := x; ⟨T, t, Lv, h1, h2.mono le, h3.mono le⟩
theorem entriesMono {H H' : Fz} {vs : List Value} {es : List Entry} (x : Paired (IsEntry H) vs es) (le : Le H H') : Paired (IsEntry H') vs es := Paired.mono (fun _ _ h => h.mono le) x

theorem Paired.unsnoc {α β : Type} {R : α → β → Prop} {b : β} : ∀ {vs : List α} {bs : List β}, Paired R vs (bs ++ [b]) → ∃ vs' v, vs = vs' ++ [v] ∧ Paired R vs' bs ∧ R v b
  | _, [], .cons h .nil => ⟨[], _, rfl, .nil, h⟩
  | _, _ :: bs, .cons h t => by
    obtain ⟨vs', v, rfl, p, hr⟩ := Paired.unsnoc (bs := bs) t
    exact ⟨_ :: vs', v, rfl, .cons h p, hr⟩
theorem Paired.app {α β : Type} {R : α → β → Prop} : ∀ {vs us : List α} {bs cs : List β}, Paired R vs bs → Paired R us cs → Paired R (vs ++ us) (bs ++ cs)
  | _, _, _, _, .nil, q => q
  | _, _, _, _, .cons h t, q => .cons h (Paired.app t q)

section
variable {os : List Addr} {s₀ s : Shared} {H₀ H : Fz} {L : Addr} {m : Str → Option Value} {mu : List (Addr × Obj)} {prog : Program} {w : World} {A : Around} {E : Value → Shared → Prop} {B : Heap} {mg mb : Str → Option Value} {env : Env}

theorem Fm.hHos (F : Fm os s₀ H₀ L m H mu s) (hos : ∀ b ∈ os, ∃ o, s₀.heap.get? b = some o) (h0 : ∀ b ∈ os, H₀ b = none) : ∀ b ∈ L :: os, H b = none := fun b hb => by
  rcases List.mem_cons.mp hb with rfl | hb
  · exact F.HL
  · cases e : H b with
    | none => rfl
    | some o =>
      rcases F.new _ _ e with e' | e'
      · rw [h0 b hb] at e'; cases e'
      · obtain ⟨o', ho'⟩ := hos b hb; rw [e'] at ho'; cases ho'

theorem leafF {e : PySem.Expr} {p p' : Pos} {k c : Nat} {Q : Value → Shared → Prop} (_F : Fm os s₀ H₀ L m H mu s) (he : ∀ Q' : Value → Shared → Prop, (∀ t s', Fm os s₀ H₀ L m H mu s' → Q' (.int (c : Int) t) s') → wpAny (model prog w) A (eval e env) Q' E s)
    (h : ∀ T H' s', Le H H' → IsLeaf H' (.ref T) (c, []) → Fm os s₀ H₀ L m H' mu s' → Q (.ref T) s')
    (hs : starEach [e, .List [] p] env = (false, eval e env) :: starEach [.List [] p] env := by rfl) : wpAny (model prog w) A (eval (.Tuple [e, .List [] p] k p') env) Q E s := by
  refine Tuple_ ?_
  refine args_cons ?_ hs
  refine he _ fun t s1 F => ?_
  refine args_cons ?_
  refine List_ ?_
  refine args_nil ?_
  refine newListF F (by simp) fun W s2 hW F => ?_
  refine args_nil ?_
  refine newTupF F (by simp) fun T s3 hT F => ?_
  exact h T _ _ ((Le.put _ hW).trans (Le.put _ hT)) ⟨T, W, t, rfl, FTup.put .., ⟨[], (FList.put ..).mono (Le.put _ hT), .nil⟩⟩ F

theorem chrF {c : Nat} {u : Tok} {Q : Value → Shared → Prop} (F : Fm os s₀ H₀ L m H mu s) (hc : c < 1000) (h : ∀ t s', Fm os s₀ H₀ L m H mu s' → Q (.str ⟨[c].toArray⟩ t) s') : wpAny (model prog w) A (call (.builtin "chr") [.int (c : Int) u]) Q E s :=
  chr_of_range (by omega) (by omega) (by rw [Int.toNat_natCast]; exact h _ _ (F.tok _))

theorem strF {a b : List Nat} {t u : Tok} {Q : Value → Shared → Prop} (F : Fm os s₀ H₀ L m H mu s) (hsz : a.length + b.length ≤ 1000000) (h : ∀ t s', Fm os s₀ H₀ L m H mu s' → Q (.str ⟨(a ++ b).toArray⟩ t) s') :
    wpAny (model prog w) A (binaryOp .Add (.str ⟨a.toArray⟩ t) (.str ⟨b.toArray⟩ u)) Q E s := by
  refine PyProof.Rows.add_str (fun t' tk => ?_) ?_
  · rw [show (⟨a.toArray⟩ : Str) ++ ⟨b.toArray⟩ = ⟨(a ++ b).toArray⟩ from str_ext (by simp [Str.cps_append])]
    exact h _ _ (F.tok _)
  · show a.toArray.size + b.toArray.size ≤ _
    rw [List.size_toArray, List.size_toArray]; exact big hsz

/-- t[k] -/
theorem itemT {value slice : PySem.Expr} {T : Addr} {vs : List Value} {k : Nat} {u : Tok} {x : Value} {Q : Value → Shared → Prop} (F : Fm os s₀ H₀ L m H mu s) (hl : FTup H T vs) (hk : k < vs.length) (hk2 : k ≤ 1000000) (hx : vs[k]? = some x) (h : Q x s)
    (hs : subscripted slice false (.ref T) (.int (k : Int) u) = operate [.ref T, .int (k : Int) u] (getItem (.ref T) (.int (k : Int) u)) := by with_unfolding_all rfl) :
    wpAny (model prog w) A (subscriptTail value slice (.ref T) (.int (k : Int) u)) Q E s :=
  item_tupleT (j := k) (hl.isTup F) (by omega) (lt63 hk2) (by rw [seqIndex_of (by omega) (by omega), Int.toNat_natCast]) hx h hs
end

theorem strip_len : ∀ (l : List Nat) (h : Bool), (strip h l).length ≤ l.length
  | [], _ => Nat.le_refl _
  | c :: r, h => by
    simp only [strip]
    split
    · have := strip_len r h; simp; omega
    · have := strip_len r (decide (c < 64)); simp; omega
theorem strip_sub : ∀ (l : List Nat) (h : Bool), ∀ c ∈ strip h l, c ∈ l
  | [], _, _, hc => hc
  | x :: r, h, c, hc => by
    simp only [strip] at hc
    split at hc
    · exact .tail _ (strip_sub r h c hc)
    · rcases List.mem_cons.mp hc with rfl | hc
      · exact .head _
      · exact .tail _ (strip_sub r _ c hc)

section
variable {prog : Program} {w : World} {B : Heap} {mg mb : Str → Option Value} {A : Around} {s : Shared} {H₀ : Fz} {os : List Addr} {a : Addr}

theorem work_spec {envs : List Env} {D : Addr} {ds : List Nat} (G : Gd B mg mb) (hB : Base B H₀) (hH : ∀ b o, H₀ b = some o → s.heap.get? b = some o) (S : Sk A envs os s) (hHos : ∀ b ∈ os, H₀ b = none)
    (ha : mg (fName (fd 14)) = some (.ref a)) (hd : A.depth < 396) (hA : A.handled = none) (hl : NList H₀ D ds) (hds : ∀ d ∈ ds, d < 114688) (hn : ds.length ≤ 20) :
    codeAny (model prog w) A (.call (.ref a) ⟨[.ref D], []⟩) (Ret fun v s' => ∃ K vs H', v = .ref K ∧ FList H' K vs ∧ Paired (IsEntry H') vs (workF ds).reverse ∧ Bk os H₀ s s' H') s := by
  refine enterC (i := 14) (os := os) (binds := [(Str.ofString "deeds", .ref D)]) G hB hH (by decide) ha (by omega) (fun _ _ _ => rfl) (by intro y hy; rw [List.mem_singleton.mp hy]; rfl) (by decide) ?_
  intro cd s' cells F hcells hcs
  have hos := S.hos
  have hL := not_mem_os hos
  obtain ⟨vs, hvs, hp⟩ := hl
  obtain ⟨oy, rfl, dy⟩ := CellsAre.one (n := Str.ofString "y") (c := s.heap.objs.size + 1) hcs
  have nH : ∀ c, s.heap.get? c = none → H₀ c = none := fun c hc => by
    cases e : H₀ c with
    | none => rfl
    | some o => have := hH _ _ e; rw [hc] at this; cases this
  have c1 := hcells _ (.head _)
  have F := F.addMu c1.1 (nH _ c1.2.2) c1.2.1 c1.2.2 (fun p hp => nomatch hp)
  have cy0 : s.heap.get? (s.heap.objs.size + 1) = none := c1.2.2
  have hfine : ∀ i, Fine (0 + (ds.take i).length) ((ds.take i).foldl stepF start) := fun i => fine_fold (ds.take i) 0 start (fun d hd => hds d (List.mem_of_mem_take hd)) fine_start
  have htl : ∀ i, (ds.take i).length ≤ 20 := fun i => by rw [List.length_take]; omega
  change wpAny _ _ (execs (_ :: _) _) _ _ _
  repeat (tb_rel)
  refine cStr F fun tR s1 F => ?_
  refine args_cons ?_
  refine List_ ?_
  refine args_cons ?_
  refine leafF F (c := 82) ?_ fun T1 H1 s2 le1 l1 F => ?_
  · intro Q' h
    exact cInt F fun t s' F => h t s' F
  refine args_cons ?_
  refine leafF F (c := 60) ?_ fun T2 H2 s3 le2 l2 F => ?_
  · intro Q' h
    exact cInt F fun t s' F => h t s' F
  refine args_nil ?_
  refine newListF F (by simp) fun Lv s4 hLv F => ?_
  refine args_nil ?_
  refine newTupF F (by simp) fun T s5 hT F => ?_
  refine args_nil ?_
  refine newListM F (by simp) fun K s6 hK F => ?_
  refine stL F hL fun s7 _ F => ?_
  refine wpAny_execs_cons ?_
  refine wpAny_For ?_
  refine ldL F rfl ?_
  have leS : Le H₀ ((H2.put Lv (lo [Value.ref T1, Value.ref T2] 0)).put T (tu [.str (Str.ofString "R<") tR, .ref Lv])) := ((le1.trans le2).trans (Le.put _ hLv)).trans (Le.put _ hT)
  refine forL (fun i m H mu => ∃ vk n oy vy, m (Str.ofString "stack") = some (.ref K) ∧ mu = [(K, lo vk n), (s.heap.objs.size + 1, oy)] ∧ oy.data = .cell vy ∧ Le H₀ H ∧ Paired (IsEntry H) vk ((ds.take i).foldl stepF start).reverse) F (hvs.mono leS) hA
    ⟨_, _, oy, _, rfl, rfl, dy, leS, .cons ⟨T, tR, Lv, rfl, FTup.put .., ⟨_, (FList.put ..).mono (Le.put _ hT), .cons (l1.mono ((le2.trans (Le.put _ hLv)).trans (Le.put _ hT))) (.cons (l2.mono ((Le.put _ hLv).trans (Le.put _ hT))) .nil)⟩⟩ .nil⟩ go_name ?_ ?_
  · rintro i v I oI m H mu sx hv ⟨vk, n, oy, vy, m1, rfl, dy, le, pk⟩ hvs hI F
    obtain ⟨d, td, hdi, rfl⟩ := ints_get hp hv
    have hd1 : d < 114688 := hds d (List.mem_of_getElem? hdi)
    have hil : i < ds.length := (List.getElem?_eq_some_iff.mp hdi).1
    have hfold : (ds.take (i + 1)).foldl stepF start = stepF ((ds.take i).foldl stepF start) d := by
      rw [List.take_add_one, hdi, List.foldl_append]; rfl
    have fi := hfine i
    have htli := htl i
    generalize (ds.take i).foldl stepF start = st at pk hfold fi
    obtain ⟨fn, hfe⟩ : ∃ fn, fn = 0 + (ds.take i).length := ⟨_, rfl⟩
    rw [← hfe] at fi
    have hfn : fn ≤ 20 := by omega
    have hvkl := Paired.len pk
    rw [List.length_reverse] at hvkl
    have hdeep := fi.deep
    have hmu : ∀ (vt : List Value) (n : Nat) (oy : Obj), ∀ p ∈ [(I, oI), (K, lo vt n), (s.heap.objs.size + 1, oy)], s.heap.get? p.1 = none := fun vt n oy p hp => by
      simp only [List.mem_cons, List.not_mem_nil, or_false] at hp
      rcases hp with rfl | rfl | rfl
      · exact hI
      · exact hK
      · exact cy0
    refine wpAny_assign_Name (stL F hL fun s1 _ F => ?_)
    repeat (tb_rel)
    refine stL (by assumption) hL fun s2 _ F => ?_
    rw [show Int.fmod (d : Int) 7 = ((d % 7 : Nat) : Int) from fmodN d 7] at F
    repeat (tb_rel)
    refine stCe [(I, oI), (K, lo vk n)] (by assumption) dy cy0 fun oy' s3 dy' F => ?_
    rw [show Int.fdiv (d : Int) 7 = ((d / 7 : Nat) : Int) from fdivN d 7] at dy'
    replace F := F.perm (mu' := [(I, oI), (K, lo vk n), (s.heap.objs.size + 1, oy')]) (List.Perm.refl _)
    obtain ⟨m', F, ⟨tk, mk⟩, ms⟩ : ∃ m', Fm os s H₀ s.heap.objs.size m' H [(I, oI), (K, lo vk n), (s.heap.objs.size + 1, oy')] s3 ∧ (∃ tk, m' (Str.ofString "kind") = some (.int ((d % 7 : Nat) : Int) tk)) ∧ m' (Str.ofString "stack") = some (.ref K) := ⟨_, F, ⟨_, rfl⟩, m1⟩
    refine wpAny_execs_cons ?_
    refine wpAny_If ?_
    refine testF F (d % 7 = 0) ?_ ?_ ?_
    · repeat (tb_rel)
      exact ⟨beq_dec (by omega), _, by assumption, Le.refl _⟩
    · intro q H1 s4 F le1
      rw [if_pos rfl]
      refine wpAny_execs_cons ?_
      refine wpAny_Assign_Name ?_ rfl
      refine Subscript_ ?_
      repeat (tb_rel)
      refine newTupF (by assumption) (by simp) fun TM s5 hTM F => ?_
      refine wpAny_BinOp ?_
      refine ldC F (.tail _ (.tail _ (.head _))) dy' ?_
      refine cInt F fun t8 s6 F => ?_
      refine modI F (by with_unfolding_all decide) fun tm s7 F => ?_
      rw [show Int.fmod ((d / 7 : Nat) : Int) 8 = ((d / 7 % 8 : Nat) : Int) from fmodN (d / 7) 8]
      obtain ⟨tx, hx⟩ := ints_nth (ns := [38, 60, 62, 34, 13, 10, 9, 64]) (i := d / 7 % 8) (.cons _ _ (.cons _ _ (.cons _ _ (.cons _ _ (.cons _ _ (.cons _ _ (.cons _ _ (.cons _ _ .nil)))))))) (by simp; omega)
      refine itemT F (FTup.put ..) (by simp; omega) (by omega) hx ?_
      replace hx := hx
      have hmenu := menu_lt (d / 7)
      refine stL F hL fun s8 _ F => ?_
      replace F : Fm os s H₀ s.heap.objs.size (up m' (Str.ofString "code") (.int ((menu (d / 7) : Nat) : Int) tx)) _ [(I, oI), (K, lo vk n), (s.heap.objs.size + 1, oy')] s8 := F
      refine wpAny_execs_cons ?_
      refine appendM F (D := K) (by show m' _ = _; exact ms) (.tail _ (.head _)) ?_
      refine Tuple_ ?_
      refine args_cons ?_
      refine Call_ ?_
      refine ldB G hB F (by decide) PyProof.Rows.Boot.«chr» ?_
      refine PyProof.Rows.callWith_builtin1 ?_
      refine args_cons (ldL F rfl ?_)
      refine args_nil ?_
      refine chrF F (by omega) fun tc s9 F => ?_
      refine args_cons ?_
      refine List_ ?_
      refine args_cons ?_
      refine leafF F (c := menu (d / 7)) (fun Q' h => ldL F rfl (h _ _ F)) fun T1 H2 s10 le2 l1 F => ?_
      refine args_nil ?_
      refine newListF F (by simp) fun Lv s11 hLv F => ?_
      refine args_nil ?_
      refine newTupF F (by simp) fun T s12 hT F => ?_
      refine ⟨_, _, _, vk, n, F.swap, by omega, hK, fun n' s13 F => ?_⟩
      refine wpAny_execs_nil ?_
      refine wpAny_execs_nil ?_
      have leF := fun o : Obj => le1.trans ((Le.put _ hTM).trans (le2.trans ((Le.put _ hLv).trans (Le.put o hT))))
      refine ⟨_, _, _, F.swap, leF _, _, _, oy', _, ms, rfl, dy', le.trans (leF _), ?_⟩
      rw [hfold, show stepF st d = ([menu (d / 7)], [(menu (d / 7), [])]) :: st from by simp only [stepF]; rw [if_pos q], List.reverse_cons]
      exact Paired.snoc (entriesMono pk (leF _)) ⟨T, tc, Lv, rfl, FTup.put .., ⟨_, (FList.put ..).mono (Le.put _ hT), .cons (l1.mono ((Le.put _ hLv).trans (Le.put _ hT))) .nil⟩⟩
    intro q1 H1 s4 F le1
    rw [if_neg Bool.false_ne_true]
    refine wpAny_execs_cons ?_
    refine wpAny_If ?_
    refine testF F ((d % 7 = 2 ∨ d % 7 = 3) ∧ 1 < st.length) ?_ ?_ ?_
    · repeat (tb_rel)
      refine newTupF (by assumption) (by simp) fun TB s5 hTB F => ?_
      refine in_tuple_ints ((FTup.put _ _ _).isTup F) (.cons _ _ (.cons _ _ .nil)) ?_
      repeat (tb_rel)
      by_cases qa : d % 7 = 2 ∨ d % 7 = 3
      · rw [if_pos (by simp; omega)]
        repeat (tb_rel)
        refine Call_ ?_
        refine ldB G hB F (by decide) PyProof.Rows.Boot.«len» ?_
        refine PyProof.Rows.callWith_builtin1 ?_
        refine args_cons (ldL F ms ?_)
        refine args_nil ?_
        refine lenF F ⟨_, (F.mus _ (.tail _ (.head _))).1, rfl, n, rfl⟩ (by omega) fun tn s6 F => ?_
        repeat (tb_rel)
        by_cases qb : 1 < st.length
        · rw [if_pos (by simp; omega)]
          repeat (tb_rel)
          exact ⟨by simp [qa, qb], _, by assumption, Le.put _ hTB⟩
        · rw [if_neg (by simp; omega)]
          exact ⟨by simp [qa, qb], _, by assumption, Le.put _ hTB⟩
      · rw [if_neg (by simp; omega)]
        exact ⟨by simp [qa], _, by assumption, Le.put _ hTB⟩
    · intro q2 H2 s5 F le2
      rw [if_pos rfl]
      cases st with
      | nil => simp at q2
      | cons u st =>
      cases st with
      | nil => simp at q2
      | cons l r =>
      have fu := fi.leaves (e := u) (.head _)
      have fl := fi.leaves (e := l) (.tail _ (.head _))
      have gu := fi.size (e := u) (.head _)
      have gl := fi.size (e := l) (.tail _ (.head _))
      have hbig : (2 + 2 * fn) * (6 + 4 * fn) ≤ 42 * 86 := Nat.mul_le_mul (by omega) (by omega)
      rw [List.reverse_cons, List.reverse_cons] at pk
      obtain ⟨vk1, vu, rfl, pk1, hu⟩ := Paired.unsnoc pk
      obtain ⟨vk2, vl, rfl, pk2, hlo⟩ := Paired.unsnoc pk1
      simp only [List.length_append, List.length_cons, List.length_nil] at hvkl hdeep
      refine wpAny_execs_cons ?_
      refine wpAny_Assign_Name ?_ rfl
      refine popM F.swap ms (by simp; omega) hK fun n1 s6 F => ?_
      refine stL F hL fun s7 _ F => ?_
      refine wpAny_execs_cons ?_
      refine wpAny_Assign_Name ?_ rfl
      refine popM F (by show m' _ = _; exact ms) (by omega) hK fun n2 s8 F => ?_
      refine stL F hL fun s9 _ F => ?_
      replace F := F.swap
      have leA := le1.trans le2
      obtain ⟨TU, tU, LU, rfl, hTU, vU, hLU, pU⟩ := hu.mono leA
      obtain ⟨TL, tL, LL, rfl, hTL, vL, hLL, pL⟩ := hlo.mono leA
      have lU := Paired.len pU
      have lL := Paired.len pL
      refine wpAny_execs_cons ?_
      refine wpAny_If ?_
      refine testF F (d % 7 = 2) ?_ ?_ ?_
      · repeat (tb_start)
        refine ldL F (by show m' _ = _; exact mk) ?_
        repeat (tb_rel)
        exact ⟨beq_dec (by omega), _, by assumption, Le.refl _⟩
      · intro q3 H3 s10 F le3
        rw [if_pos rfl]
        refine wpAny_execs_cons ?_
        refine appendM F (D := K) (by show m' _ = _; exact ms) (.tail _ (.head _)) ?_
        refine Tuple_ ?_
        refine args_cons ?_
        refine wpAny_BinOp ?_
        refine Subscript_ (ldL F rfl ?_)
        refine cInt F fun t1 s11 F => ?_
        refine itemT (k := 0) F (hTL.mono le3) (by simp) (by decide) rfl ?_
        refine Subscript_ (ldL F rfl ?_)
        refine cInt F fun t2 s12 F => ?_
        refine itemT (k := 0) F (hTU.mono le3) (by simp) (by decide) rfl ?_
        refine strF F (by omega) fun ts s13 F => ?_
        refine args_cons ?_
        refine wpAny_BinOp ?_
        refine Subscript_ (ldL F rfl ?_)
        refine cInt F fun t1 s14 F => ?_
        refine itemT (k := 1) F (hTL.mono le3) (by simp) (by decide) rfl ?_
        refine Subscript_ (ldL F rfl ?_)
        refine cInt F fun t2 s15 F => ?_
        refine itemT (k := 1) F (hTU.mono le3) (by simp) (by decide) rfl ?_
        refine addL F ((hLL.mono le3).isL F) ((hLU.mono le3).isL F) (by omega) fun Lv s16 hLv F => ?_
        refine args_nil ?_
        refine newTupF F (by simp) fun T s17 hT F => ?_
        refine ⟨_, _, _, _, _, F.swap, by omega, hK, fun n' s18 F => ?_⟩
        refine wpAny_execs_nil ?_
        refine wpAny_execs_nil ?_
        refine wpAny_execs_nil ?_
        refine wpAny_execs_nil ?_
        have leF := fun o : Obj => le3.trans ((Le.put _ hLv).trans (Le.put o hT))
        refine ⟨_, _, _, F.swap, leA.trans (leF _), _, _, oy', _, ms, rfl, dy', le.trans (leA.trans (leF _)), ?_⟩
        rw [hfold, show stepF (u :: l :: r) d = (l.1 ++ u.1, l.2 ++ u.2) :: r from by simp only [stepF]; rw [if_neg q1, if_pos q2, if_pos q3], List.reverse_cons]
        exact Paired.snoc (entriesMono pk2 (leA.trans (leF _))) ⟨T, ts, Lv, rfl, FTup.put .., ⟨_, (FList.put ..).mono (Le.put _ hT), Paired.app (leavesMono pL (leF _)) (leavesMono pU (leF _))⟩⟩
      · intro q3 H3 s10 F le3
        rw [if_neg Bool.false_ne_true]
        refine wpAny_execs_cons ?_
        refine appendM F (D := K) (by show m' _ = _; exact ms) (.tail _ (.head _)) ?_
        refine Tuple_ ?_
        refine args_cons ?_
        refine wpAny_BinOp ?_
        refine Subscript_ (ldL F rfl ?_)
        refine cInt F fun t1 s11 F => ?_
        refine itemT (k := 0) F (hTU.mono le3) (by simp) (by decide) rfl ?_
        refine Subscript_ (ldL F rfl ?_)
        refine cInt F fun t2 s12 F => ?_
        refine itemT (k := 0) F (hTL.mono le3) (by simp) (by decide) rfl ?_
        refine strF F (by omega) fun ts s13 F => ?_
        refine args_cons ?_
        refine wpAny_BinOp ?_
        refine Subscript_ (ldL F rfl ?_)
        refine cInt F fun t1 s14 F => ?_
        refine itemT (k := 1) F (hTU.mono le3) (by simp) (by decide) rfl ?_
        refine Subscript_ (ldL F rfl ?_)
        refine cInt F fun t2 s15 F => ?_
        refine itemT (k := 1) F (hTL.mono le3) (by simp) (by decide) rfl ?_
        refine addL F ((hLU.mono le3).isL F) ((hLL.mono le3).isL F) (by omega) fun Lv s16 hLv F => ?_
        refine args_nil ?_
        refine newTupF F (by simp) fun T s17 hT F => ?_
        refine ⟨_, _, _, _, _, F.swap, by omega, hK, fun n' s18 F => ?_⟩
        refine wpAny_execs_nil ?_
        refine wpAny_execs_nil ?_
        refine wpAny_execs_nil ?_
        refine wpAny_execs_nil ?_
        have leF := fun o : Obj => le3.trans ((Le.put _ hLv).trans (Le.put o hT))
        refine ⟨_, _, _, F.swap, leA.trans (leF _), _, _, oy', _, ms, rfl, dy', le.trans (leA.trans (leF _)), ?_⟩
        rw [hfold, show stepF (u :: l :: r) d = (u.1 ++ l.1, u.2 ++ l.2) :: r from by simp only [stepF]; rw [if_neg q1, if_pos q2, if_neg q3], List.reverse_cons]
        exact Paired.snoc (entriesMono pk2 (leA.trans (leF _))) ⟨T, ts, Lv, rfl, FTup.put .., ⟨_, (FList.put ..).mono (Le.put _ hT), Paired.app (leavesMono pU (leF _)) (leavesMono pL (leF _))⟩⟩
    intro q2 H2 s5 F le2
    rw [if_neg Bool.false_ne_true]
    replace le2 := le1.trans le2
    clear le1
    refine wpAny_execs_cons ?_
    refine wpAny_If ?_
    refine testF F (d % 7 < 4) ?_ ?_ ?_
    · repeat (tb_rel)
      exact ⟨decide_eq_decide.mpr (by omega), _, by assumption, Le.refl _⟩
    · intro q3 H3 s6 F le3
      rw [if_pos rfl]
      refine wpAny_execs_cons ?_
      refine appendM F (D := K) ms (.tail _ (.head _)) ?_
      refine Tuple_ ?_
      refine args_cons ?_
      refine wpAny_BinOp ?_
      refine Call_ ?_
      refine ldB G hB F (by decide) PyProof.Rows.Boot.«chr» ?_
      refine PyProof.Rows.callWith_builtin1 ?_
      refine args_cons ?_
      refine wpAny_BinOp ?_
      refine ldC F (.tail _ (.tail _ (.head _))) dy' ?_
      refine cInt F fun _ _ F => ?_
      refine modI F (by with_unfolding_all decide) fun tm _ F => ?_
      rw [show Int.fmod ((d / 7 : Nat) : Int) 128 = ((d / 7 % 128 : Nat) : Int) from fmodN (d / 7) 128]
      refine args_nil ?_
      refine chrF F (by omega) fun ta _ F => ?_
      refine Call_ ?_
      refine ldB G hB F (by decide) PyProof.Rows.Boot.«chr» ?_
      refine PyProof.Rows.callWith_builtin1 ?_
      refine args_cons ?_
      refine wpAny_BinOp ?_
      refine ldC F (.tail _ (.tail _ (.head _))) dy' ?_
      refine cInt F fun _ _ F => ?_
      refine fdivI F (by with_unfolding_all decide) (by with_unfolding_all exact PyProof.noPylong_of_log2 (by decide +kernel)) fun tm _ F => ?_
      rw [show Int.fdiv ((d / 7 : Nat) : Int) 128 = ((d / 7 / 128 : Nat) : Int) from fdivN (d / 7) 128]
      refine args_nil ?_
      refine chrF F (by omega) fun tb _ F => ?_
      refine strF F (by simp) fun tc s9 F => ?_
      refine args_cons ?_
      refine List_ ?_
      refine args_cons ?_
      refine leafF F (c := d / 7 % 128) ?_ fun T1 H4 s10 le4 l1 F => ?_
      · intro Q' h
        refine wpAny_BinOp ?_
        refine ldC F (.tail _ (.tail _ (.head _))) dy' ?_
        refine cInt F fun _ _ F => ?_
        refine modI F (by with_unfolding_all decide) fun tm _ F => ?_
        rw [show Int.fmod ((d / 7 : Nat) : Int) 128 = ((d / 7 % 128 : Nat) : Int) from fmodN (d / 7) 128]
        exact h _ _ F
      refine args_cons ?_
      refine leafF F (c := d / 7 / 128) ?_ fun T2 H5 s11 le5 l2 F => ?_
      · intro Q' h
        refine wpAny_BinOp ?_
        refine ldC F (.tail _ (.tail _ (.head _))) dy' ?_
        refine cInt F fun _ _ F => ?_
        refine fdivI F (by with_unfolding_all decide) (by with_unfolding_all exact PyProof.noPylong_of_log2 (by decide +kernel)) fun tm _ F => ?_
        rw [show Int.fdiv ((d / 7 : Nat) : Int) 128 = ((d / 7 / 128 : Nat) : Int) from fdivN (d / 7) 128]
        exact h _ _ F
      refine args_nil ?_
      refine newListF F (by simp) fun Lv s12 hLv F => ?_
      refine args_nil ?_
      refine newTupF F (by simp) fun T s13 hT F => ?_
      refine ⟨_, _, _, vk, n, F.swap, by omega, hK, fun n' s14 F => ?_⟩
      refine wpAny_execs_nil ?_
      refine wpAny_execs_nil ?_
      refine wpAny_execs_nil ?_
      refine wpAny_execs_nil ?_
      have leT := (Le.put (lo [Value.ref T1, Value.ref T2] 0) hLv).trans (Le.put (tu [.str ⟨([d / 7 % 128] ++ [d / 7 / 128]).toArray⟩ tc, .ref Lv]) hT)
      have leF := le2.trans (le3.trans (le4.trans (le5.trans leT)))
      refine ⟨_, _, _, F.swap, leF, _, _, oy', _, ms, rfl, dy', le.trans leF, ?_⟩
      rw [hfold, show stepF st d = ([d / 7 % 128, d / 7 / 128], [(d / 7 % 128, []), (d / 7 / 128, [])]) :: st from by simp only [stepF]; rw [if_neg q1, if_neg q2, if_pos q3], List.reverse_cons]
      exact Paired.snoc (entriesMono pk leF) ⟨T, tc, Lv, rfl, FTup.put .., ⟨_, (FList.put ..).mono (Le.put _ hT), .cons (l1.mono (le5.trans leT)) (.cons (l2.mono leT) .nil)⟩⟩
    intro q3 H3 s6 F le3
    rw [if_neg Bool.false_ne_true]
    replace le3 := le2.trans le3
    clear le2
    cases st with
    | nil => exact absurd rfl fi.ne
    | cons e r =>
    have fe := fi.leaves (e := e) (.head _)
    have ge := fi.size (e := e) (.head _)
    have gd := fi.good e (.head _)
    have hcodes := fi.codes (e := e) (.head _)
    have hbig : (2 + 2 * fn) * (6 + 4 * fn) ≤ 42 * 86 := Nat.mul_le_mul (by omega) (by omega)
    rw [List.reverse_cons] at pk
    obtain ⟨vk1, ve, rfl, pk1, hev⟩ := Paired.unsnoc pk
    simp only [List.length_append, List.length_cons, List.length_nil] at hvkl hdeep
    have hstr : (⟨e.1.toArray⟩ : Str).length = e.1.length := by show e.1.toArray.size = _; rw [List.size_toArray]
    refine wpAny_execs_cons ?_
    refine wpAny_If ?_
    refine testF F (d % 7 = 4) ?_ ?_ ?_
    · repeat (tb_rel)
      exact ⟨beq_dec (by omega), _, by assumption, Le.refl _⟩
    · intro q4 H4 s7 F le4
      rw [if_pos rfl]
      refine wpAny_execs_cons ?_
      refine Assign_Tuple ?_
      obtain ⟨TE, tE, LE, rfl, hTE, hLE⟩ := hev.mono (le3.trans le4)
      refine popM F.swap ms (by omega) hK fun n1 s8 F => ?_
      refine unpack2 F hTE hA hL fun s9 F => ?_
      replace F := F.swap
      refine wpAny_execs_cons ?_
      refine appendM F (D := K) (by show m' _ = _; exact ms) (.tail _ (.head _)) ?_
      refine Tuple_ ?_
      refine args_cons ?_
      refine callF (i := 12) G hB F (by decide) rfl fun a12 ha12 => ?_
      refine args_cons ?_
      refine callF (i := 11) G hB F (by decide) rfl fun a11 ha11 => ?_
      refine args_cons (ldL F rfl ?_)
      refine args_nil ⟨F.stay hB, ?_⟩
      have S' := S.deeper (env := envOfC (fName (fd 14)) (fScope (fd 14)) s.heap.objs.size a cd) F rfl rfl
      refine ret_of (read_spec (os := s.heap.objs.size :: os) G (hB.mono F.le) F.inH S' (F.hHos hos hHos) ha11 (by rw [deeper_depth]; omega) hA (by omega) hcodes) ?_
      rintro v s11 ⟨DR, HR, rfl, hDR, bR⟩
      have leR := bR.le
      replace F := F.back bR hos (hmu _ _ _)
      refine args_nil ⟨F.stay hB, ?_⟩
      have hpr := pack_read e.1 0 hcodes
      rw [hi_zero, List.nil_append, decide_eq_true (rfl : 0 = 0)] at hpr
      refine ret_of (pack_spec (os := s.heap.objs.size :: os) G (hB.mono F.le) F.inH (os_cons F hos) ha12 (by rw [deeper_depth]; omega) hA hDR ?_ ?_) ?_
      · rw [hpr]
        have := strip_len e.1 true
        simp only [List.length_append, List.length_cons, List.length_nil]
        omega
      · rw [hpr]
        intro c hc
        rcases List.mem_append.mp hc with hc | hc
        · exact hcodes c (strip_sub _ _ _ hc)
        · rw [List.mem_singleton.mp hc]; decide
      rintro v s12 ⟨⟨tp, rfl⟩, HP, bP⟩
      have leP := bP.le
      replace F := F.back bP hos (hmu _ _ _)
      refine args_cons ?_
      refine callF (i := 13) G hB F (by decide) rfl fun a13 ha13 => ?_
      refine args_cons (ldL F rfl ?_)
      refine args_nil ⟨F.stay hB, ?_⟩
      refine ret_of (wn_spec (os := s.heap.objs.size :: os) G (hB.mono F.le) F.inH (os_cons F hos) ha13 (by rw [deeper_depth]; omega) hA ((hLE.mono leR).mono leP) (by omega)) ?_
      rintro v s13 ⟨DW, HW, rfl, hDW, bW⟩
      have leW := bW.le
      replace F := F.back bW hos (hmu _ _ _)
      refine args_nil ?_
      refine newTupF F (by simp) fun T s14 hT F => ?_
      refine ⟨_, _, _, _, _, F.swap, by omega, hK, fun n' s15 F => ?_⟩
      refine wpAny_execs_nil ?_
      refine wpAny_execs_nil ?_
      refine wpAny_execs_nil ?_
      refine wpAny_execs_nil ?_
      refine wpAny_execs_nil ?_
      have leF := fun o : Obj => le3.trans (le4.trans (Le.trans leR (Le.trans leP (Le.trans leW (Le.put o hT)))))
      refine ⟨_, _, _, F.swap, leF _, _, _, oy', _, ms, rfl, dy', le.trans (leF _), ?_⟩
      rw [hfold, show stepF (e :: r) d = (packF (readTape 0 (e.1 ++ [5])), wn true e.2) :: r from by simp only [stepF]; rw [if_neg q1, if_neg q2, if_neg q3, if_pos q4], List.reverse_cons]
      exact Paired.snoc (entriesMono pk1 (leF _)) ⟨T, tp, DW, rfl, FTup.put .., hDW.mono (Le.put _ hT)⟩
    · intro q4 H4 s7 F le4
      rw [if_neg Bool.false_ne_true]
      refine wpAny_execs_cons ?_
      refine Assign_Tuple ?_
      obtain ⟨TE, tE, LE, rfl, hTE, hLE⟩ := hev.mono (le3.trans le4)
      refine popM F.swap ms (by omega) hK fun n1 s8 F => ?_
      refine unpack2 F hTE hA hL fun s9 F => ?_
      replace F := F.swap
      refine wpAny_execs_cons ?_
      refine appendM F (D := K) (by show m' _ = _; exact ms) (.tail _ (.head _)) ?_
      refine Tuple_ ?_
      refine args_cons ?_
      refine callF (i := 10) G hB F (by decide) rfl fun a10 ha10 => ?_
      refine args_cons ?_
      refine wpAny_BinOp ?_
      refine ldC F (.tail _ (.tail _ (.head _))) dy' ?_
      refine cInt F fun _ _ F => ?_
      refine modI F (by with_unfolding_all decide) fun tm _ F => ?_
      rw [show Int.fmod ((d / 7 : Nat) : Int) 5 = ((d / 7 % 5 : Nat) : Int) from fmodN (d / 7) 5]
      refine args_cons (ldL F rfl ?_)
      refine args_nil ⟨F.stay hB, ?_⟩
      refine ret_of (write_spec (os := s.heap.objs.size :: os) G (hB.mono F.le) F.inH (os_cons F hos) ha10 (by rw [deeper_depth]; omega) (by omega) (by omega)) ?_
      rintro v s12 ⟨⟨tp, rfl⟩, bP⟩
      have leP := bP.le
      replace F := F.back bP hos (hmu _ _ _)
      refine args_cons ?_
      obtain ⟨vE, hvE, pE⟩ := hLE
      have hEl := Paired.len pE
      refine compT (os := os) (s₀ := s) (H₀ := H₀) (L := s.heap.objs.size) hA (fun i H ys => Paired (IsLeaf H) ys ((e.2.take i).map fun l => (l.1, l.2 ++ [d / 7 % 5]))) rfl (by decide) rfl (by decide) rfl rfl (by decide) ?_
      refine ldL F rfl ?_
      refine ⟨_, _, _, _, vE, rfl, F, hvE, by omega, .nil, ?_, ?_⟩
      · intro j v HJ ys hj hJ leJ
        obtain ⟨l, hlj, TL, W, tl, rfl, hTL, hW⟩ := Paired.get pE hj
        refine ⟨TL, _, _, rfl, hTL.mono leJ, ?_⟩
        intro I' oI' C oC D' oD' m2 sj F hoC hx1 hx2
        obtain ⟨ws, hws, hwi⟩ := hW
        have hwl := ints_len hwi
        have hwy := fi.way e (.head _) l (List.mem_of_getElem? hlj)
        refine Tuple_ ?_
        refine args_cons (ldLC (hoC.ns (F.mus _ (.head _)).1) hx1 ?_)
        refine args_cons ?_
        refine wpAny_BinOp ?_
        refine ldLC (hoC.ns (F.mus _ (.head _)).1) hx2 ?_
        refine List_ ?_
        refine args_cons ?_
        refine wpAny_BinOp ?_
        refine ldC F (.tail _ (.tail _ (.tail _ (.tail _ (.tail _ (.head _)))))) dy' ?_
        refine cInt F fun _ _ F => ?_
        refine modI F (by with_unfolding_all decide) fun ty _ F => ?_
        rw [show Int.fmod ((d / 7 : Nat) : Int) 5 = ((d / 7 % 5 : Nat) : Int) from fmodN (d / 7) 5]
        refine args_nil ?_
        refine newListF F (by simp) fun D1 _ hD1 F => ?_
        refine addL F ((hws.mono (leJ.trans (Le.put _ hD1))).isL F) ((FList.put ..).isL F) (by simp; omega) fun D2 _ hD2 F => ?_
        refine args_nil ?_
        refine newTupF F (by simp) fun T2 _ hT2 F => ?_
        refine ⟨_, F, ((Le.put _ hD1).trans (Le.put _ hD2)).trans (Le.put _ hT2), ?_⟩
        rw [List.take_add_one, hlj, List.map_append]
        refine Paired.snoc (leavesMono hJ (((Le.put _ hD1).trans (Le.put _ hD2)).trans (Le.put _ hT2))) ⟨T2, D2, tl, rfl, FTup.put .., ⟨_, (FList.put ..).mono (Le.put _ hT2), ?_⟩⟩
        rw [cast, List.map_append]
        exact IntsAre.append hwi (.cons _ _ .nil)
      intro DV HV ys nV s13 hJ leV hDV F
      rw [hEl, List.take_length] at hJ
      refine args_nil ?_
      refine newTupF F (by simp) fun T s14 hT F => ?_
      refine ⟨_, _, _, _, _, F.swap, by omega, hK, fun n' s15 F => ?_⟩
      refine wpAny_execs_nil ?_
      refine wpAny_execs_nil ?_
      refine wpAny_execs_nil ?_
      refine wpAny_execs_nil ?_
      refine wpAny_execs_nil ?_
      have leF := fun o : Obj => le3.trans (le4.trans (Le.trans leP (Le.trans leV ((Le.put _ hDV).trans (Le.put o hT)))))
      refine ⟨_, _, _, F.swap, leF _, _, _, oy', _, ms, rfl, dy', le.trans (leF _), ?_⟩
      rw [hfold, show stepF (e :: r) d = (writeF (d / 7 % 5) e.1, e.2.map fun l => (l.1, l.2 ++ [d / 7 % 5])) :: r from by simp only [stepF]; rw [if_neg q1, if_neg q2, if_neg q3, if_neg q4], List.reverse_cons]
      exact Paired.snoc (entriesMono pk1 (leF _)) ⟨T, tp, DV, rfl, FTup.put .., ⟨_, (FList.put ..).mono (Le.put _ hT), leavesMono hJ ((Le.put _ hDV).trans (Le.put _ hT))⟩⟩
  · rintro m H mu sx ⟨vk, n, oy, vy, m1, rfl, dy, le, pk⟩ hvs F
    rw [ints_len hp, List.take_length] at pk
    repeat (tb_rel)
    exact ⟨_, rfl, K, _, _, rfl, FList.put .., entriesMono pk (Le.put _ (F.mus _ (.head _)).2.1), (F.freeze hK).toBk⟩
end

theorem recs_ok : ∀ i ∈ [2, 3, 4, 5, 6, 8, 10, 11, 12, 13, 14, 15, 16, 17], ∃ d ∈ recsOf hd.view_39, d.name = fName (fd i) ∧ d.params = fArgs (fd i) ∧ d.body = fBody (fd i) ∧ d.scope = fScope (fd i) := by
  intro i hi
  simp only [List.mem_cons, List.not_mem_nil, or_false] at hi
  rcases hi with rfl | rfl | rfl | rfl | rfl | rfl | rfl | rfl | rfl | rfl | rfl | rfl | rfl | rfl
  · exact ⟨_, List.getElem_mem (l := recsOf hd.view_39) (n := 1) (by decide), rfl, rfl, rfl, rfl⟩
  · exact ⟨_, List.getElem_mem (l := recsOf hd.view_39) (n := 2) (by decide), rfl, rfl, rfl, rfl⟩
  · exact ⟨_, List.getElem_mem (l := recsOf hd.view_39) (n := 3) (by decide), rfl, rfl, rfl, rfl⟩
  · exact ⟨_, List.getElem_mem (l := recsOf hd.view_39) (n := 4) (by decide), rfl, rfl, rfl, rfl⟩
  · exact ⟨_, List.getElem_mem (l := recsOf hd.view_39) (n := 5) (by decide), rfl, rfl, rfl, rfl⟩
  · exact ⟨_, List.getElem_mem (l := recsOf hd.view_39) (n := 6) (by decide), rfl, rfl, rfl, rfl⟩
  · exact ⟨_, List.getElem_mem (l := recsOf hd.view_39) (n := 7) (by decide), rfl, rfl, rfl, rfl⟩
  · exact ⟨_, List.getElem_mem (l := recsOf hd.view_39) (n := 8) (by decide), rfl, rfl, rfl, rfl⟩
  · exact ⟨_, List.getElem_mem (l := recsOf hd.view_39) (n := 9) (by decide), rfl, rfl, rfl, rfl⟩
  · exact ⟨_, List.getElem_mem (l := recsOf hd.view_39) (n := 10) (by decide), rfl, rfl, rfl, rfl⟩
  · exact ⟨_, List.getElem_mem (l := recsOf hd.view_39) (n := 11) (by decide), rfl, rfl, rfl, rfl⟩
  · exact ⟨_, List.getElem_mem (l := recsOf hd.view_39) (n := 12) (by decide), rfl, rfl, rfl, rfl⟩
  · exact ⟨_, List.getElem_mem (l := recsOf hd.view_39) (n := 13) (by decide), rfl, rfl, rfl, rfl⟩
  · exact ⟨_, List.getElem_mem (l := recsOf hd.view_39) (n := 14) (by decide), rfl, rfl, rfl, rfl⟩

theorem gd_of_top {mean : ExcName → Option Value} {mg mb : Str → Option Value} {h : Heap} (T : Top hd.view_39 (looseW hd.view_39 []) mean mg mb h) : Gd h mg mb where
  g := T.g
  b := T.b
  nolimit := T.nolimit
  fn := fun i hi => by
    obtain ⟨d, hd, h1, h2, h3, h4⟩ := recs_ok i hi
    obtain ⟨a, o, pm, code, doc, g1, g2, g3, g4⟩ := T.fn d hd
    rw [h1] at g1 g4
    rw [h1, h2, h3, h4] at g3
    exact ⟨a, o, pm, code, doc, g1, g2, g3, g4⟩
  free := fun x hx => by
    have key : ∀ x ∈ usedNames, x ∉ startupNames ∧ x ∉ looseW hd.view_39 [] ∧ x ∉ (recsOf hd.view_39).map (·.name) ∧ x ∉ (litsOf hd.view_39).map (·.1) ∧ x ∉ (clssOf hd.view_39 (looseW hd.view_39 [])).map (·.name) ∧ x ≠ "__name__" := by decide +kernel
    obtain ⟨h1, h2, h3, h4, h5, h6⟩ := key x hx
    exact ⟨T.free x h1 h2 h3 h4 h5, T.builtins x h6⟩

theorem take_ints (script : List Int) : ∃ ds : List Nat, cast ds = List.map (fun k' => k'.fmod 114688) (List.take 9 script) ++ [33, 8513, 2, 4, 26, 6] ∧ (∀ d ∈ ds, d < 114688) ∧ ds.length ≤ 20 := by
  refine ⟨(List.take 9 script).map (fun k' => (k'.fmod 114688).toNat) ++ [33, 8513, 2, 4, 26, 6], ?_, ?_, ?_⟩
  · rw [cast, List.map_append, List.map_map]
    congr 1
    apply List.map_congr_left
    intro k _
    have : 0 ≤ k.fmod 114688 := Int.fmod_nonneg_of_pos _ (by decide)
    simp only [Function.comp]
    omega
  · intro d hd
    rcases List.mem_append.mp hd with h | h
    · obtain ⟨k, _, rfl⟩ := List.mem_map.mp h
      have h1 : 0 ≤ k.fmod 114688 := Int.fmod_nonneg_of_pos _ (by decide)
      have h2 : k.fmod 114688 < 114688 := Int.fmod_lt_of_pos _ (by decide)
      omega
    · simp only [List.mem_cons, List.not_mem_nil, or_false] at h
      omega
  · simp only [List.length_append, List.length_map, List.length_take, List.length_cons, List.length_nil]
    omega

theorem law_rest {mean : ExcName → Option Value} {mg mb : Str → Option Value} {s₁ : Shared} {prog : Program} {w : World} {h' : Heap} {tk : Nat} {m : Str → Option Value} {D fa : Addr} {cd : Value} {ws : List Value} {script : List Int} {rest : List (Addr × Obj)}
    {Q : Flow → Shared → Prop} {E : Value → Shared → Prop}
    (T : Top hd.view_39 (looseW hd.view_39 []) mean mg mb s₁.heap) (F : Fr s₁.heap s₁.heap.objs.size h' m) (N : News s₁.heap s₁.heap.objs.size h' ((D, W.listOf ws.toArray 0) :: rest))
    (hI : IntsAre ws (List.map (fun k' => k'.fmod 114688) (List.take 9 script) ++ [33, 8513, 2, 4, 26, 6])) (hm : m (Str.ofString "deeds") = some (.ref D))
    (hQ : ∀ s' m', Fr s₁.heap s₁.heap.objs.size s'.heap m' → s'.gens = s₁.gens → s'.os = s₁.os → Q .next s') :
    wpAny (model prog w) (callerA.deeper (envOf (fName (fd 18)) (fScope (fd 18)) s₁.heap.objs.size fa cd)) (exec ((fBody (fd 18)).getD 1 (.Pass default)) (envOf (fName (fd 18)) (fScope (fd 18)) s₁.heap.objs.size fa cd)) Q E
      { heap := h', gens := s₁.gens, drawn := s₁.drawn, toks := tk, os := s₁.os } := by
  have G := gd_of_top T
  obtain ⟨ds, hds1, hds2, hds3⟩ := take_ints script
  rw [← hds1] at hI
  have hN := N _ (.head _)
  have hB : Base s₁.heap s₁.heap.get? := fun _ _ e => e
  have hD : (s₁.heap.get? : Fz) D = none := hN.2.2
  have F0 : Fm [] s₁ s₁.heap.get? s₁.heap.objs.size m (Fz.put s₁.heap.get? D (lo ws 0)) [] { heap := h', gens := s₁.gens, drawn := s₁.drawn, toks := tk, os := s₁.os } :=
    { keep := fun b o _ e => F.keep b o e
      dom := fun b o e => ⟨o, F.keep b o e⟩
      slots := .of_keeps F.keep
      gens := rfl
      sys := rfl
      drw := rfl
      le := Le.put _ hD
      inH := fun b o e => by
        by_cases hb : b = D
        · subst hb; rw [Fz.put_self] at e; cases e; exact hN.1
        · rw [Fz.put_ne _ _ hb] at e; exact F.keep _ _ e
      new := fun b o e => by
        by_cases hb : b = D
        · subst hb; exact .inr hN.2.2
        · rw [Fz.put_ne _ _ hb] at e; exact .inl e
      ns := F.ns
      HL := by rw [Fz.put_ne _ _ (Ne.symm hN.2.1)]; exact none_at s₁
      L0 := none_at s₁
      mus := fun p hp => nomatch hp
      nd := .nil }
  have S₀ : Sk callerA [] [] s₁ := ⟨rfl, rfl, fun e he => nomatch he⟩
  have hos : ∀ b ∈ ([] : List Addr), ∃ o, s₁.heap.get? b = some o := fun b hb => nomatch hb
  have hHos : ∀ b ∈ ([] : List Addr), (s₁.heap.get? : Fz) b = none := fun b hb => nomatch hb
  have hL : s₁.heap.objs.size ∉ ([] : List Addr) := fun h => nomatch h
  have hfin := fine_work hds2
  have hdep : (callerA.deeper (envOf (fName (fd 18)) (fScope (fd 18)) s₁.heap.objs.size fa cd)).depth < 396 := by rw [deeper_depth]; decide
  have hun : (callerA.deeper (envOf (fName (fd 18)) (fScope (fd 18)) s₁.heap.objs.size fa cd)).units < 1000 := by rw [units_deeper]; decide
  have hcl : (callerA.deeper (envOf (fName (fd 18)) (fScope (fd 18)) s₁.heap.objs.size fa cd)).units + 64 < cLine := by rw [units_deeper]; decide
  have hA : (callerA.deeper (envOf (fName (fd 18)) (fScope (fd 18)) s₁.heap.objs.size fa cd)).handled = none := rfl
  change wpAny _ _ (exec (.For _ _ _ _ _) _) _ _ _
  refine wpAny_For ?_
  refine callF (i := 14) G hB F0 (by decide) rfl fun a14 ha14 => ?_
  refine args_cons (ldL F0 hm ?_)
  refine args_nil ⟨F0.stay hB, ?_⟩
  have S' := S₀.deeper (env := envOf (fName (fd 18)) (fScope (fd 18)) s₁.heap.objs.size fa cd) F0 rfl rfl
  refine ret_of (work_spec (os := [s₁.heap.objs.size]) G (hB.mono F0.le) F0.inH S' (F0.hHos hos hHos) ha14 hdep hA ⟨ws, FList.put .., hI⟩ hds2 hds3) ?_
  rintro v s2 ⟨K, vs, H2, rfl, hK, hp, b2⟩
  have F2 := F0.back b2 hos (fun p hp => nomatch hp)
  refine forL (fun i m H mu => mu = [] ∧ Le H2 H) F2 hK hA ⟨rfl, Le.refl _⟩ (go_tup ?_) ?_ ?_
  · intro v hv
    obtain ⟨j, hj⟩ := List.mem_iff_getElem?.mp hv
    obtain ⟨e, _, T, _, _, rfl, _⟩ := Paired.get hp hj
    exact ⟨T, rfl⟩
  · rintro i v I oI m H mu sx hv ⟨rfl, le⟩ hvs hI F
    obtain ⟨e, hei, TE, tE, LE, rfl, hTE, hLE⟩ := Paired.get hp hv
    have hem : e ∈ workF ds := List.mem_reverse.mp (List.mem_of_getElem? hei)
    have hlaw := plain_law hds2 e hem
    have fe := hfin.leaves hem
    have ge := hfin.size hem
    have hbig : (2 + 2 * ds.length) * (6 + 4 * ds.length) ≤ 42 * 86 := Nat.mul_le_mul (by omega) (by omega)
    have hstr : (⟨e.1.toArray⟩ : Str).length = e.1.length := by show e.1.toArray.size = _; rw [List.size_toArray]
    have hmu : ∀ p ∈ [(I, oI)], s₁.heap.get? p.1 = none := fun p hp => by rw [List.mem_singleton.mp hp]; exact hI
    refine unpack2 F (hTE.mono le) hA hL fun s3 F => ?_
    refine wpAny_execs_cons ?_
    refine wpAny_If ?_
    refine wpAny_isTrue_Compare1 ?_ rfl
    refine callF (i := 11) G hB F (by decide) rfl fun a11 ha11 => ?_
    refine args_cons (ldL F rfl ?_)
    refine args_nil ⟨F.stay hB, ?_⟩
    have S' := S₀.deeper (env := envOf (fName (fd 18)) (fScope (fd 18)) s₁.heap.objs.size fa cd) F rfl rfl
    refine ret_of (read_spec (os := [s₁.heap.objs.size]) G (hB.mono F.le) F.inH S' (F.hHos hos hHos) ha11 (by omega) hA (by omega) (hfin.codes hem)) ?_
    rintro v s4 ⟨DR, HR, rfl, ⟨vr, hvr, hri⟩, bR⟩
    have leR := bR.le
    replace F := F.back bR hos hmu
    refine callF (i := 17) G hB F (by decide) rfl fun a17 ha17 => ?_
    refine args_cons (ldL F rfl ?_)
    refine args_nil ⟨F.stay hB, ?_⟩
    refine ret_of (told_spec (os := [s₁.heap.objs.size]) G (hB.mono F.le) F.inH (os_cons F hos) ha17 (by omega) hA hun ((hLE.mono le).mono leR) (hfin.good e hem) (by omega) (fun l hl => Nat.le_trans (hfin.way e hem l hl) (by omega))) ?_
    rintro v s5 ⟨DT, HT, rfl, ⟨vt, hvt, hti⟩, bT⟩
    have leT := bT.le
    replace F := F.back bT hos hmu
    refine ne_intsK ((hvr.mono leT).isList F) hri (hvt.isList F) hti hcl ?_
    refine wpAny_truthy_bool ?_
    rw [hlaw, decide_eq_true rfl, if_neg (by decide)]
    refine wpAny_execs_nil ?_
    refine wpAny_execs_nil ?_
    exact ⟨_, _, _, F, Le.trans leR leT, rfl, le.trans (Le.trans leR leT)⟩
  · rintro m H mu sx ⟨rfl, le⟩ hvs F
    exact hQ sx m ⟨F.ns, fun b o e => F.keep b o (fun h => nomatch h) e, Nat.le_refl _⟩ F.gens F.sys
end Mine

set_option maxHeartbeats 8000000 in
theorem PySem.Challenge.cw_pg0100_01_holds : PySem.Challenge.rw_pg0100_01.Holds := by
  refine Mine.hd ?_
  w_strict (k_go0; (all_goals try k_fold); k_steps; (refine Mine.law_rest (by assumption) (by assumption) (by assumption) (by assumption) rfl fun s' m' F' hg' hos' => ?_); (refine wpAny_execs_cons (wpAny_Return_some (Mine.cBool ?_))); (refine goodW_bool F' (hg'.trans (by assumption)) (fun _ => rfl) ?_ hos'); first | kc_post | wrow_post)
