import PyProof.Rows.All
import Wide.All
import OpenK.AllK
import Wide.FinOn
import Lean
import PySem.Challenge.RW_mq0049_01
set_option Elab.async false
set_option linter.all false

/-! part Hd49 -/
section
open PySem PySem.W PyProof.Rows
set_option Elab.async false
set_option maxRecDepth 100000
set_option maxHeartbeats 8000000
namespace Mine
open_top hd for PySem.Challenge.rw_mq0049_01
end Mine
end

/-! part Pl -/
section
open PySem PySem.W PyProof.Rows PySem.Builtin.Str
set_option Elab.async false
namespace Mine

/-! plain functions: a text as the list of its codes -/
abbrev S (l : List Nat) : Str := Str.mk l.toArray

def white (n : Nat) : Bool :=
  decide ((9 ≤ n ∧ n ≤ 13) ∨ (28 ≤ n ∧ n ≤ 32) ∨ (8192 ≤ n ∧ n ≤ 8202) ∨ n = 133 ∨ n = 160 ∨ n = 5760 ∨ n = 8232 ∨ n = 8233 ∨ n = 8239 ∨ n = 8287 ∨ n = 12288)

def pic (n : Nat) : List Nat :=
  (if n / 128 % 2 = 1 then [33] else []) ++
    (if n = 127 then [94, 63] else if n % 128 < 32 then [94, n % 128 + 64] else if n % 128 < 127 then [n % 128] else [94, 159])

theorem and127 (n : Nat) : Builtin.bitAnd (n : Int) 127 = ((n % 128 : Nat) : Int) := by
  unfold Builtin.bitAnd
  have h : n &&& 127 = n % 128 := Nat.and_two_pow_sub_one_eq_mod n 7
  simp [h]
theorem and128 (n : Nat) : Builtin.bitAnd (n : Int) 128 = ((n / 128 % 2 * 128 : Nat) : Int) := by
  unfold Builtin.bitAnd
  have h : n &&& 128 = n / 128 % 2 * 128 := by
    have h1 : (n &&& 128) % 2 ^ 8 = (n % 2 ^ 8) &&& (128 % 2 ^ 8) := Nat.and_mod_two_pow
    have h2 : n &&& 128 ≤ 128 := Nat.and_le_right
    have h3 : ∀ k : Nat, k < 256 → k &&& 128 = k / 128 % 2 * 128 := by decide +kernel
    have h4 : n % 256 < 256 := Nat.mod_lt _ (by decide)
    have h5 := h3 _ h4
    simp only [show (2 : Nat) ^ 8 = 256 from rfl, show 128 % 256 = 128 from rfl] at h1
    rw [Nat.mod_eq_of_lt (by omega)] at h1
    rw [h1, h5]
    have : n % 256 / 128 % 2 = n / 128 % 2 := by omega
    rw [this]
  simp [h]
theorem or32 : ∀ k : Nat, k < 128 → Builtin.bitOr (k : Int) 32 = (((k ||| 32 : Nat)) : Int) := by decide +kernel
theorem or32lo : ∀ k : Nat, k < 32 → Builtin.bitOr (k : Int) 32 = ((k + 32 : Nat) : Int) := by decide +kernel
theorem or32hi : Builtin.bitOr (127 : Int) 32 = 127 := by decide +kernel

theorem fmod_nat (n k : Nat) : (n : Int).fmod (k : Int) = ((n % k : Nat) : Int) := by
  rw [Int.fmod_eq_emod_of_nonneg _ (by omega)]; rfl
theorem fdiv_nat (n k : Nat) : (n : Int).fdiv (k : Int) = ((n / k : Nat) : Int) := by
  rw [Int.fdiv_eq_ediv_of_nonneg _ (by omega)]; rfl
theorem letter_at : ∀ k : Nat, k < 32 → Txt.item (Str.ofString "@ABCDEFGHIJKLMNOPQRSTUVWXYZ[\\]^_") (k : Int) = Str.mk #[k + 64] := by decide +kernel

/-- without the signs at the end for which p holds -/
def cut (p : Nat → Bool) (l : List Nat) : List Nat := (l.reverse.dropWhile p).reverse
theorem take_cut (p : Nat → Bool) (l : List Nat) : l.take (l.length - (l.reverse.takeWhile p).length) = cut p l := by
  unfold cut
  have h := List.takeWhile_append_dropWhile (p := p) (l := l.reverse)
  have h2 : l = (l.reverse.dropWhile p).reverse ++ (l.reverse.takeWhile p).reverse := by
    rw [← List.reverse_append, h, List.reverse_reverse]
  conv => lhs; rw [h2]
  have hl : l.length = (l.reverse.dropWhile p).length + (l.reverse.takeWhile p).length := by
    have := congrArg List.length h2
    simpa using this
  rw [List.take_append_of_le_length]
  · rw [List.take_of_length_le]
    simp only [List.length_reverse, List.length_append, List.reverse_append, List.reverse_reverse]
    rw [h]; simp
  · simp only [List.length_reverse, List.length_append, List.reverse_append, List.reverse_reverse]
    rw [h]; simp
theorem isSpace_white (n : Nat) : Unicode.isSpace n = white n := by
  unfold white Unicode.isSpace UnicodeData.space UnicodeData.space0
  simp only [Unicode.within]
  rw [Bool.eq_iff_iff]
  simp only [decide_eq_true_eq]
  repeat' split
  all_goals simp
  all_goals omega
theorem rstrip_S (l : List Nat) : Txt.rstrip (S l) = S (cut white l) := by
  unfold Txt.rstrip
  rw [PyProof.Rows.stripBy_eq]
  have h1 : stripLo Unicode.isSpace false (S l) = 0 := rfl
  have h2 : (Unicode.isSpace : Nat → Bool) = white := funext isSpace_white
  rw [h1]
  unfold stripHi strSub
  simp only [if_true, List.drop_zero, Str.length, h2]
  rw [← take_cut]
  simp [S]
def comment (l : List Nat) : List Nat := if cut white l = [] then [35] else 35 :: 32 :: cut white l
theorem comment_pos {l : List Nat} (h : ((Txt.rstrip (S l)).length : Int) ≠ 0) : Str.ofString "# " ++ Txt.rstrip (S l) = S (comment l) := by
  rw [rstrip_S] at h ⊢
  unfold comment
  rw [if_neg (fun e => h (by rw [e]; rfl)), show Str.ofString "# " = Str.mk #[35, 32] from by decide +kernel]
  show Str.mk (#[35, 32] ++ (cut white l).toArray) = _
  simp [S]
theorem comment_neg {l : List Nat} (h : ((Txt.rstrip (S l)).length : Int) = 0) : Str.ofString "#" = S (comment l) := by
  rw [rstrip_S] at h
  unfold comment
  have e : cut white l = [] := by
    have h2 : (S (cut white l)).length = 0 := by omega
    simpa [S, Str.length] using h2
  rw [if_pos e]
  decide +kernel
def shown (l : List Nat) : List Nat := l.flatMap pic
theorem strjoin_S : ∀ ls : List (List Nat), Str.join (Str.mk #[]) (ls.map S) = S ls.flatten
  | [] => rfl
  | [a] => by simp [Str.join, S]
  | a :: b :: r => by
    have ih := strjoin_S (b :: r)
    show S a ++ Str.mk #[] ++ Str.join (Str.mk #[]) ((b :: r).map S) = _
    rw [ih]
    show Str.mk (a.toArray ++ #[] ++ (b :: r).flatten.toArray) = _
    simp [S]
theorem join_S (ls : List (List Nat)) : Txt.join (Str.ofString "") (ls.map S) = S ls.flatten := by
  have h : Str.ofString "" = Str.mk #[] := by decide +kernel
  rw [h, eq_of_beq (join_plain_closes _ _), strjoin_S]
theorem join_flat (l : List Nat) (g : Nat → List Nat) : Txt.join (Str.ofString "") (l.map fun c => S (g c)) = S (l.flatMap g) := by
  have h := join_S (l.map g)
  rw [List.map_map] at h
  rw [List.flatMap_def]
  exact h
theorem pic_len (n : Nat) : (pic n).length ≤ 3 := by
  unfold pic
  repeat' split
  all_goals simp
theorem flat_len (g : Nat → List Nat) (k : Nat) (hg : ∀ c, (g c).length ≤ k) : ∀ l : List Nat, (l.flatMap g).length ≤ k * l.length
  | [] => by simp
  | c :: r => by
    have := flat_len g k hg r
    have h2 := hg c
    simp only [List.flatMap_cons, List.length_append, List.length_cons, Nat.mul_add, Nat.mul_one]
    omega
theorem sum_len (g : Nat → List Nat) (k : Nat) (hg : ∀ c, (g c).length ≤ k) : ∀ l : List Nat, ((l.map fun c => S (g c)).map (·.length)).sum ≤ k * l.length
  | [] => by simp
  | c :: r => by
    have := sum_len g k hg r
    have h2 : (S (g c)).length ≤ k := by simpa [S, Str.length] using hg c
    simp only [List.map_cons, List.sum_cons, List.length_cons, Nat.mul_add, Nat.mul_one]
    omega
def picked (p : Nat → Bool) (g : Nat → Int) (n : Nat) : List Int := ((List.range n).filter p).map g
theorem picked_succ (p : Nat → Bool) (g : Nat → Int) (n : Nat) : picked p g (n + 1) = if p n then picked p g n ++ [g n] else picked p g n := by
  unfold picked
  rw [List.range_succ, List.filter_append, List.map_append]
  cases h : p n <;> simp [h]

theorem snoc_ind {P : List Nat → Prop} (h0 : P []) (h1 : ∀ l c, P l → P (l ++ [c])) : ∀ l, P l := fun l => by
  have h : ∀ r : List Nat, P r.reverse := fun r => by
    induction r with
    | nil => exact h0
    | cons c r ih => rw [List.reverse_cons]; exact h1 _ _ ih
  have := h l.reverse
  rwa [List.reverse_reverse] at this
theorem cut_nil (q : Nat → Bool) : cut q [] = [] := rfl
theorem cut_snoc (q : Nat → Bool) (l : List Nat) (c : Nat) : cut q (l ++ [c]) = if q c then cut q l else l ++ [c] := by
  unfold cut
  rw [List.reverse_append, List.reverse_singleton, List.singleton_append, List.dropWhile_cons]
  split <;> simp
theorem cut_take (q : Nat → Bool) : ∀ (cs : List Nat) (M : Int), M ∈ [0] ++ picked (fun i => !q (cs.getD i 0)) (fun i => (i : Int) + 1) cs.length →
    (∀ a ∈ [0] ++ picked (fun i => !q (cs.getD i 0)) (fun i => (i : Int) + 1) cs.length, a ≤ M) → 0 ≤ M ∧ M ≤ cs.length ∧ cs.take M.toNat = cut q cs := by
  refine snoc_ind ?_ ?_
  · intro M h1 _
    have : M = 0 := by simpa [picked] using h1
    subst this
    exact ⟨by decide, by decide, rfl⟩
  · intro l c ih M h1 h2
    have hlen : (l ++ [c]).length = l.length + 1 := by simp
    have hc : (l ++ [c]).getD l.length 0 = c := by simp
    have same : picked (fun i => !q ((l ++ [c]).getD i 0)) (fun i => (i : Int) + 1) l.length = picked (fun i => !q (l.getD i 0)) (fun i => (i : Int) + 1) l.length := by
      unfold picked
      congr 1
      refine List.filter_congr fun i hi => ?_
      have hi' : i < l.length := List.mem_range.mp hi
      simp only [List.getD_eq_getElem?_getD]
      rw [List.getElem?_append_left hi']
    rw [hlen, picked_succ, hc, same] at h1 h2
    rw [cut_snoc]
    cases hq : q c with
    | true =>
      simp only [hq, Bool.not_true, Bool.false_eq_true, if_false] at h1 h2
      simp only [if_true]
      obtain ⟨a, b, e⟩ := ih M h1 h2
      refine ⟨a, by rw [hlen]; omega, ?_⟩
      rw [← e, List.take_append_of_le_length (by omega)]
    | false =>
      simp only [hq, Bool.not_false, if_true] at h1 h2
      simp only [Bool.false_eq_true, if_false]
      have h3 : (l.length : Int) + 1 ≤ M := h2 _ (by simp)
      have h4 : M ≤ (l.length : Int) + 1 := by
        rcases List.mem_append.mp h1 with h | h
        · have : M = 0 := by simpa using h
          omega
        · rcases List.mem_append.mp h with h | h
          · unfold picked at h
            obtain ⟨i, hi, e⟩ := List.mem_map.mp h
            have := List.mem_range.mp (List.mem_filter.mp hi).1
            omega
          · have : M = (l.length : Int) + 1 := by simpa using h
            omega
      have h5 : M = (l.length : Int) + 1 := by omega
      refine ⟨by omega, by rw [hlen]; omega, ?_⟩
      rw [List.take_of_length_le (by rw [hlen]; omega)]

/-- a code whose picture is one blank -/
def b32 (n : Nat) : Bool := n % 256 == 32
/-- a code whose picture is ! and a blank -/
def b160 (n : Nat) : Bool := n % 256 == 160
def trimmed (cs : List Nat) : List Nat :=
  if cut b32 cs ≠ [] ∧ b160 ((cut b32 cs).getLastD 0) then shown (cut b32 cs).dropLast ++ [33] else shown (cut b32 cs)
theorem cut_mem {q : Nat → Bool} {l : List Nat} {c : Nat} (h : c ∈ cut q l) : c ∈ l := by
  unfold cut at h
  rw [List.mem_reverse] at h
  exact List.mem_reverse.mp ((List.dropWhile_sublist q).subset h)
theorem cut_len (q : Nat → Bool) (l : List Nat) : (cut q l).length ≤ l.length := by
  unfold cut
  rw [List.length_reverse]
  have := (List.dropWhile_sublist q (l := l.reverse)).length_le
  simpa using this
theorem b32_of (n : Nat) : ((n : Int).fmod 256 != 32) = !b32 n := by
  have e : (n : Int).fmod 256 = ((n % 256 : Nat) : Int) := fmod_nat n 256
  rw [e]
  unfold b32
  rw [Bool.eq_iff_iff]
  simp only [bne_iff_ne, Bool.not_eq_true', beq_eq_false_iff_ne, ne_eq]
  omega

/-! what the law tells of the steps st (0: a comment, 1: a showing) -/
def notesI (st : List Int) : Int := (st.length : Int) - st.sum
def aheadI (st : List Int) : Int := if st.sum ≠ 0 then ((st.idxOf 1 : Nat) : Int) else notesI st
def keptOf (cs : List Nat) (st : List Int) : List Nat := if aheadI st ≠ 0 then cut white cs else cs
def body0 (cs : List Nat) (st : List Int) : List Nat := if st.sum = 0 then keptOf cs st else if notesI st > aheadI st then trimmed (keptOf cs st) else shown (keptOf cs st)
def repl (l : List Nat) : List Nat := l.flatMap fun c => if c = 159 then [33, 94, 95] else [c]
def body1 (cs : List Nat) (st : List Int) : List Nat := if st.sum > 1 then repl (body0 cs st) else body0 cs st
def rep (n : Nat) : List Nat := (List.replicate n [35, 32]).flatten
def pre (k : Int) (b : List Nat) : List Nat := if k ≠ 0 ∧ b = [] then rep (k - 1).toNat ++ [35] else rep k.toNat ++ b
def told (cs : List Nat) (st : List Int) : List Nat := pre (notesI st) (body1 cs st)

theorem mem_one : ∀ {st : List Int}, (∀ x ∈ st, x = 0 ∨ x = 1) → st.sum ≠ 0 → (1 : Int) ∈ st
  | [], _, h => absurd rfl h
  | x :: r, hst, h => by
    rcases hst x List.mem_cons_self with e | e
    · refine List.mem_cons_of_mem _ (mem_one (fun y hy => hst y (List.mem_cons_of_mem _ hy)) ?_)
      rw [List.sum_cons, e] at h
      omega
    · rw [e]; exact List.mem_cons_self
theorem lay_steps {st : List Int} (hst : ∀ x ∈ st, x = 0 ∨ x = 1) (hlen : st.length ≤ 3) : PyData.layable0 (.list (st.map .int)) = true := by
  match st with
  | [] => decide
  | [a] => rcases hst a (by simp) with rfl | rfl <;> decide
  | [a, b] => rcases hst a (by simp) with rfl | rfl <;> rcases hst b (by simp) with rfl | rfl <;> decide
  | [a, b, c] => rcases hst a (by simp) with rfl | rfl <;> rcases hst b (by simp) with rfl | rfl <;> rcases hst c (by simp) with rfl | rfl <;> decide
  | _ :: _ :: _ :: _ :: _ => simp at hlen
def walked (l : List Nat) (u : Int) : List Nat := if u = 0 then comment l else shown l
end Mine
end

/-! part Pl2 -/
section
open PySem PySem.W PyProof.Rows
set_option Elab.async false
namespace Mine

theorem repl_append (a b : List Nat) : repl (a ++ b) = repl a ++ repl b := by unfold repl; rw [List.flatMap_append]
theorem repl_free : ∀ l : List Nat, 159 ∉ l → repl l = l
  | [], _ => rfl
  | k :: r, h => by
    have h1 : ¬ k = 159 := fun e => h (e ▸ List.mem_cons_self)
    have h2 : 159 ∉ r := fun m => h (List.mem_cons_of_mem _ m)
    have ih := repl_free r h2
    unfold repl at ih ⊢
    rw [List.flatMap_cons, if_neg h1, ih]
    rfl
theorem repl_join : ∀ parts : List Str, (∀ p ∈ parts, 159 ∉ p.cps.toList) → repl (Str.join ⟨#[159]⟩ parts).cps.toList = (Str.join ⟨#[33, 94, 95]⟩ parts).cps.toList
  | [], _ => rfl
  | [p], h => repl_free _ (h p (List.mem_singleton.mpr rfl))
  | p :: q :: r, h => by
    have ih := repl_join (q :: r) fun a ha => h a (List.mem_cons_of_mem _ ha)
    show repl (p ++ ⟨#[159]⟩ ++ Str.join ⟨#[159]⟩ (q :: r)).cps.toList = (p ++ ⟨#[33, 94, 95]⟩ ++ Str.join ⟨#[33, 94, 95]⟩ (q :: r)).cps.toList
    simp only [Str.cps_append, Array.toList_append]
    rw [repl_append, repl_append, ih, repl_free _ (h p List.mem_cons_self)]
    rfl
theorem replace_S (l : List Nat) : Txt.replace (S l) (Str.ofString "\u009f") (Str.ofString "!^_") = S (repl l) := by
  have e1 : Str.ofString "\u009f" = ⟨#[159]⟩ := by decide +kernel
  have e2 : Str.ofString "!^_" = ⟨#[33, 94, 95]⟩ := by decide +kernel
  rw [e1, e2, StrLaws.replace_one]
  have h := repl_join _ (StrLaws.split_free (S l) 159)
  rw [StrLaws.join_split] at h
  have h2 : (S l).cps.toList = l := rfl
  rw [h2] at h
  cases hj : Str.join ⟨#[33, 94, 95]⟩ (Txt.split (S l) ⟨#[159]⟩) with
  | mk c =>
    rw [hj] at h
    show Str.mk c = Str.mk (repl l).toArray
    rw [h]
theorem sum_bounds : ∀ {st : List Int}, (∀ x ∈ st, x = 0 ∨ x = 1) → 0 ≤ st.sum ∧ st.sum ≤ st.length
  | [], _ => ⟨Int.le_refl _, Int.le_refl _⟩
  | x :: r, hst => by
    have ih := sum_bounds (st := r) fun y hy => hst y (List.mem_cons_of_mem _ hy)
    rcases hst x List.mem_cons_self with e | e <;> rw [List.sum_cons, e, List.length_cons] <;> omega
theorem trimmed_len (l : List Nat) : (trimmed l).length ≤ 3 * l.length := by
  have h := cut_len b32 l
  unfold trimmed
  split
  · rename_i hq
    have h0 := List.length_pos_iff.mpr hq.1
    have h2 := flat_len pic 3 pic_len (cut b32 l).dropLast
    rw [List.length_dropLast] at h2
    unfold shown
    rw [List.length_append, List.length_singleton]
    omega
  · have h2 := flat_len pic 3 pic_len (cut b32 l)
    unfold shown
    omega
theorem kept_len (cs : List Nat) (st : List Int) : (keptOf cs st).length ≤ cs.length := by
  unfold keptOf
  split
  · exact cut_len _ _
  · exact Nat.le_refl _
theorem body0_len (cs : List Nat) (st : List Int) : (body0 cs st).length ≤ 3 * cs.length := by
  have h := kept_len cs st
  have h1 := trimmed_len (keptOf cs st)
  have h2 := flat_len pic 3 pic_len (keptOf cs st)
  unfold body0 shown
  repeat' split
  all_goals omega
theorem body1_len (cs : List Nat) (st : List Int) : (body1 cs st).length ≤ 9 * cs.length := by
  have h := body0_len cs st
  have h1 := flat_len (fun c => if c = 159 then [33, 94, 95] else [c]) 3 (fun c => by split <;> simp) (body0 cs st)
  unfold body1 repl
  split <;> omega
theorem S_length (l : List Nat) : (S l).length = l.length := by simp [S, Str.length]
theorem foldl_rep (l : List Nat) : ∀ (k : Nat) (acc : Array Nat), (List.replicate k l.toArray).foldl (· ++ ·) acc = acc ++ ((List.replicate k l).flatten).toArray
  | 0, acc => by simp
  | k + 1, acc => by
    rw [List.replicate_succ, List.foldl_cons, foldl_rep l k, List.replicate_succ, List.flatten_cons]
    apply Array.ext'
    simp
theorem mul_S (k : Int) : Txt.mul (Str.ofString "# ") k = S (rep k.toNat) := by
  rw [show Str.ofString "# " = S [35, 32] from by decide +kernel]
  unfold Txt.mul
  split
  · have : k.toNat = 0 := by omega
    rw [this]
    rfl
  · split
    · rename_i h1 h2
      have h3 : k = 1 := by
        simp only [Bool.or_eq_true, beq_iff_eq, S_length, List.length_cons, List.length_nil] at h2
        omega
      subst h3
      rfl
    · show Str.mk ((List.replicate k.toNat [35, 32].toArray).foldl (· ++ ·) #[]) = _
      rw [foldl_rep]
      unfold rep
      simp
theorem S_append (a b : List Nat) : S a ++ S b = S (a ++ b) := by
  show Str.mk (a.toArray ++ b.toArray) = _
  simp
theorem told_none {cs : List Nat} {st : List Int} (h : (st.length : Int) - st.sum = 0) : Txt.mul (Str.ofString "# ") ((st.length : Int) - st.sum) ++ S (body1 cs st) = S (told cs st) := by
  rw [mul_S, S_append]
  unfold told pre notesI
  rw [if_neg (fun q => q.1 h)]
theorem told_full {cs : List Nat} {st : List Int} (h : ((S (body1 cs st)).length : Int) ≠ 0) : Txt.mul (Str.ofString "# ") ((st.length : Int) - st.sum) ++ S (body1 cs st) = S (told cs st) := by
  rw [mul_S, S_append]
  unfold told pre notesI
  rw [if_neg (fun q => h (by rw [q.2]; rfl))]
theorem told_bare {cs : List Nat} {st : List Int} (h1 : (st.length : Int) - st.sum ≠ 0) (h : ((S (body1 cs st)).length : Int) = 0) : Txt.mul (Str.ofString "# ") ((st.length : Int) - st.sum - 1) ++ Str.ofString "#" = S (told cs st) := by
  have e : body1 cs st = [] := by
    rw [S_length] at h
    exact List.length_eq_zero_iff.mp (by omega)
  rw [mul_S, show Str.ofString "#" = S [35] from by decide +kernel, S_append]
  unfold told pre notesI
  rw [if_pos ⟨h1, e⟩]
end Mine
end

/-! part Pl3 -/
section
open PySem PySem.W PyProof.Rows
set_option Elab.async false
namespace Mine

/-! the plain law: a step more -/
theorem cut_append_nil (q : Nat → Bool) (X : List Nat) : ∀ b : List Nat, cut q b = [] → cut q (X ++ b) = cut q X := by
  refine snoc_ind ?_ ?_
  · intro _; rw [List.append_nil]
  · intro l c ih h
    rw [cut_snoc] at h
    rw [← List.append_assoc, cut_snoc]
    cases hq : q c with
    | true => rw [hq] at h; simp only [if_true] at h ⊢; exact ih h
    | false => rw [hq] at h; simp at h
theorem cut_append_cons (q : Nat → Bool) (X : List Nat) : ∀ b : List Nat, cut q b ≠ [] → cut q (X ++ b) = X ++ cut q b := by
  refine snoc_ind ?_ ?_
  · intro h; exact absurd (cut_nil q) h
  · intro l c ih h
    rw [cut_snoc] at h
    rw [← List.append_assoc, cut_snoc, cut_snoc]
    cases hq : q c with
    | true => rw [hq] at h; simp only [if_true] at h ⊢; exact ih h
    | false => simp
theorem cut_cut (q : Nat → Bool) : ∀ l : List Nat, cut q (cut q l) = cut q l := by
  refine snoc_ind rfl ?_
  intro l c ih
  rw [cut_snoc]
  cases hq : q c with
  | true => simp only [if_true]; exact ih
  | false => simp only [Bool.false_eq_true, if_false]; rw [cut_snoc, hq]; simp
theorem rep_zero : rep 0 = [] := rfl
theorem rep_succ (n : Nat) : rep (n + 1) = [35, 32] ++ rep n := by unfold rep; rw [List.replicate_succ, List.flatten_cons]
theorem rep_succ' (n : Nat) : rep (n + 1) = rep n ++ [35, 32] := by
  unfold rep
  rw [List.replicate_succ', List.flatten_append]
  rfl
theorem cut_hash (X : List Nat) : cut white (X ++ [35]) = X ++ [35] := by rw [cut_snoc]; rfl
theorem cut_rep (n : Nat) : cut white (rep (n + 1)) = rep n ++ [35] := by
  rw [rep_succ', show rep n ++ [35, 32] = (rep n ++ [35]) ++ [32] from by simp, cut_snoc]
  show cut white (rep n ++ [35]) = _
  exact cut_hash _
theorem pre_zero (b : List Nat) : pre 0 b = b := by unfold pre; rw [if_neg (fun h => h.1 rfl)]; rfl
theorem pre_nil (n : Nat) : pre ((n : Int) + 1) [] = rep n ++ [35] := by
  unfold pre
  rw [if_pos ⟨by omega, rfl⟩, show ((n : Int) + 1 - 1).toNat = n from by omega]
theorem pre_cons (n : Nat) {b : List Nat} (h : b ≠ []) : pre (n : Int) b = rep n ++ b := by
  unfold pre
  rw [if_neg (fun q => h q.2), Int.toNat_natCast]

theorem comment_pre (n : Nat) (b : List Nat) : comment (pre (n : Int) b) = pre ((n : Int) + 1) (cut white b) := by
  have e1 : ((n : Int) + 1) = ((n + 1 : Nat) : Int) := by omega
  by_cases hc : cut white b = []
  · rw [hc, pre_nil]
    cases n with
    | zero =>
      rw [show ((0 : Nat) : Int) = 0 from rfl, pre_zero]
      unfold comment
      rw [if_pos hc]
      rfl
    | succ k =>
      have h1 : cut white (pre ((k + 1 : Nat) : Int) b) = rep k ++ [35] := by
        by_cases hb : b = []
        · rw [hb, show ((k + 1 : Nat) : Int) = (k : Int) + 1 from by omega, pre_nil, cut_hash]
        · rw [pre_cons _ hb, cut_append_nil _ _ _ hc, cut_rep]
      unfold comment
      rw [h1, if_neg (by simp), rep_succ]
      rfl
  · have hb : b ≠ [] := fun e => hc (by rw [e]; rfl)
    have h1 : cut white (pre (n : Int) b) = rep n ++ cut white b := by rw [pre_cons _ hb, cut_append_cons _ _ _ hc]
    unfold comment
    rw [h1, if_neg (by simp [hc]), e1, pre_cons _ hc, rep_succ]
    rfl

theorem shown_append (a b : List Nat) : shown (a ++ b) = shown a ++ shown b := by unfold shown; rw [List.flatMap_append]
theorem shown_rep (n : Nat) : shown (rep n) = rep n := by
  induction n with
  | zero => rfl
  | succ n ih => rw [rep_succ, shown_append, ih]; rfl
theorem pic_ne (n : Nat) : pic n ≠ [] := by
  unfold pic
  repeat' split
  all_goals simp
theorem shown_nil {b : List Nat} : shown b = [] ↔ b = [] := by
  cases b with
  | nil => exact ⟨fun _ => rfl, fun _ => rfl⟩
  | cons c r =>
    unfold shown
    rw [List.flatMap_cons]
    simp [pic_ne c]
theorem shown_pre (n : Nat) (b : List Nat) : shown (pre (n : Int) b) = pre (n : Int) (shown b) := by
  by_cases hb : b = []
  · rw [hb]
    cases n with
    | zero => rfl
    | succ k =>
      rw [show ((k + 1 : Nat) : Int) = (k : Int) + 1 from by omega, pre_nil, shown_append, shown_rep, show shown [] = [] from rfl, pre_nil]
      rfl
  · rw [pre_cons _ hb, pre_cons _ (fun e => hb (shown_nil.mp e)), shown_append, shown_rep]

/-- the picture of a code that is no blank, nor ! and a blank, ends in a sign that is not white -/
theorem pic_end (c : Nat) (h1 : b32 c = false) (h2 : b160 c = false) : ∃ i d, pic c = i ++ [d] ∧ white d = false := by
  have n1 : c % 256 ≠ 32 := by simpa [b32] using h1
  have n2 : c % 256 ≠ 160 := by simpa [b160] using h2
  have hw : ∀ d : Nat, (33 ≤ d ∧ d ≤ 126) ∨ d = 159 → white d = false := fun d hd => by
    unfold white
    rw [decide_eq_false_iff_not]
    omega
  unfold pic
  by_cases e1 : c = 127
  · subst e1
    exact ⟨[94], 63, rfl, hw 63 (by omega)⟩
  · rw [if_neg e1]
    by_cases e2 : c % 128 < 32
    · rw [if_pos e2]
      exact ⟨_ ++ [94], _, by rw [List.append_assoc]; rfl, hw _ (by omega)⟩
    · rw [if_neg e2]
      by_cases e3 : c % 128 < 127
      · rw [if_pos e3]
        exact ⟨_, _, rfl, hw _ (by omega)⟩
      · rw [if_neg e3]
        exact ⟨_ ++ [94], 159, by rw [List.append_assoc]; rfl, hw _ (by omega)⟩
theorem pic32 (c : Nat) (h : b32 c = true) : pic c = [32] := by
  have n1 : c % 256 = 32 := by simpa [b32] using h
  unfold pic
  rw [if_neg (by omega), if_neg (by omega), if_neg (by omega), if_pos (by omega), show c % 128 = 32 from by omega]
  rfl
theorem pic160 (c : Nat) (h : b160 c = true) : pic c = [33, 32] := by
  have n1 : c % 256 = 160 := by simpa [b160] using h
  unfold pic
  rw [if_pos (by omega), if_neg (by omega), if_neg (by omega), if_pos (by omega), show c % 128 = 32 from by omega]
  rfl
theorem not32_of160 (c : Nat) (h : b160 c = true) : b32 c = false := by
  have n1 : c % 256 = 160 := by simpa [b160] using h
  simp [b32, n1]
theorem trimmed_eq : ∀ K : List Nat, cut white (shown K) = trimmed K := by
  refine snoc_ind rfl ?_
  intro l c ih
  rw [shown_append, show shown [c] = pic c from by unfold shown; simp]
  cases h32 : b32 c with
  | true =>
    rw [pic32 c h32, cut_snoc]
    have e : trimmed (l ++ [c]) = trimmed l := by
      unfold trimmed
      rw [cut_snoc, h32]
      rfl
    rw [e]
    exact ih
  | false =>
    have ec : cut b32 (l ++ [c]) = l ++ [c] := by rw [cut_snoc, h32]; rfl
    cases h160 : b160 c with
    | true =>
      have e : trimmed (l ++ [c]) = shown l ++ [33] := by
        unfold trimmed
        rw [ec, if_pos ⟨by simp, by simpa using h160⟩]
        simp
      rw [e, pic160 c h160, show shown l ++ [33, 32] = (shown l ++ [33]) ++ [32] from by simp, cut_snoc]
      show cut white (shown l ++ [33]) = _
      rw [cut_snoc]
      rfl
    | false =>
      obtain ⟨i, d, e, hd⟩ := pic_end c h32 h160
      have e' : trimmed (l ++ [c]) = shown (l ++ [c]) := by
        unfold trimmed
        rw [ec, if_neg (fun q => by simp [h160] at q)]
      rw [e', shown_append, show shown [c] = pic c from by unfold shown; simp, e, ← List.append_assoc, cut_snoc, hd]
      rfl
theorem white159 : white 159 = false := by decide
theorem repl_snoc (l : List Nat) (c : Nat) : repl (l ++ [c]) = repl l ++ (if c = 159 then [33, 94, 95] else [c]) := by
  rw [repl_append]
  congr 1
  unfold repl
  simp
theorem cut_repl : ∀ l : List Nat, cut white (repl l) = repl (cut white l) := by
  refine snoc_ind rfl ?_
  intro l c ih
  rw [repl_snoc, cut_snoc]
  by_cases hc : c = 159
  · rw [if_pos hc, hc, white159, show repl l ++ [33, 94, 95] = (repl l ++ [33, 94]) ++ [95] from by simp, cut_snoc]
    show (repl l ++ [33, 94]) ++ [95] = repl (l ++ [159])
    rw [repl_snoc]
    simp
  · rw [if_neg hc, cut_snoc]
    cases hw : white c with
    | true => simp only [if_true]; exact ih
    | false => simp only [Bool.false_eq_true, if_false]; rw [repl_snoc, if_neg hc]

/-- a text of pictures -/
def Pics (l : List Nat) : Prop := ∀ c ∈ l, (32 ≤ c ∧ c ≤ 126) ∨ c = 159
theorem pic_pics (c : Nat) : Pics (pic c) := by
  intro d hd
  unfold pic at hd
  rcases List.mem_append.mp hd with h | h
  · split at h
    · have : d = 33 := by simpa using h
      omega
    · simp at h
  · split at h
    · have : d = 94 ∨ d = 63 := by simpa using h
      omega
    · split at h
      · have : d = 94 ∨ d = c % 128 + 64 := by simpa using h
        omega
      · split at h
        · have : d = c % 128 := by simpa using h
          omega
        · have : d = 94 ∨ d = 159 := by simpa using h
          omega
theorem shown_pics (l : List Nat) : Pics (shown l) := by
  intro d hd
  obtain ⟨c, _, h⟩ := List.mem_flatMap.mp hd
  exact pic_pics c d h
theorem trimmed_pics (l : List Nat) : Pics (trimmed l) := by
  intro d hd
  rw [← trimmed_eq] at hd
  exact shown_pics l d (cut_mem hd)
theorem pic_plain (c : Nat) (h : 32 ≤ c ∧ c ≤ 126) : pic c = [c] := by
  unfold pic
  rw [if_neg (by omega), if_neg (by omega), if_neg (by omega), if_pos (by omega), show c % 128 = c from by omega]
  rfl
theorem shown_of_pics : ∀ {l : List Nat}, Pics l → shown l = repl l
  | [], _ => rfl
  | c :: r, h => by
    have ih := shown_of_pics (l := r) fun d hd => h d (List.mem_cons_of_mem _ hd)
    unfold shown repl at ih ⊢
    rw [List.flatMap_cons, List.flatMap_cons, ih]
    congr 1
    rcases h c List.mem_cons_self with h | h
    · rw [pic_plain c h, if_neg (by omega)]
    · rw [h]; rfl
theorem shown_repl : ∀ {l : List Nat}, Pics l → shown (repl l) = repl l
  | [], _ => rfl
  | c :: r, h => by
    have ih := shown_repl (l := r) fun d hd => h d (List.mem_cons_of_mem _ hd)
    have e : repl (c :: r) = (if c = 159 then [33, 94, 95] else [c]) ++ repl r := by unfold repl; rw [List.flatMap_cons]
    rw [e, shown_append, ih]
    congr 1
    rcases h c List.mem_cons_self with h | h
    · rw [if_neg (by omega)]
      unfold shown
      simp [pic_plain c h]
    · rw [if_pos h]; rfl
end Mine
end

/-! part Pl4 -/
section
open PySem PySem.W PyProof.Rows
set_option Elab.async false
namespace Mine

theorem idx_le : ∀ {st : List Int}, (∀ x ∈ st, x = 0 ∨ x = 1) → ((st.idxOf 1 : Nat) : Int) + st.sum ≤ st.length
  | [], _ => by simp
  | x :: r, hst => by
    have hr : ∀ y ∈ r, y = 0 ∨ y = 1 := fun y hy => hst y (List.mem_cons_of_mem _ hy)
    have ih := idx_le hr
    have hb := sum_bounds hr
    rcases hst x List.mem_cons_self with e | e
    · subst e
      rw [List.idxOf_cons, List.sum_cons, List.length_cons]
      simp
      omega
    · subst e
      rw [List.idxOf_cons, List.sum_cons, List.length_cons]
      simp
      omega
theorem no_one : ∀ {st : List Int}, (∀ x ∈ st, x = 0 ∨ x = 1) → st.sum = 0 → (1 : Int) ∉ st
  | [], _, _ => by simp
  | x :: r, hst, h => by
    have hr : ∀ y ∈ r, y = 0 ∨ y = 1 := fun y hy => hst y (List.mem_cons_of_mem _ hy)
    have hb := sum_bounds hr
    rw [List.sum_cons] at h
    rcases hst x List.mem_cons_self with e | e
    · have ih := no_one hr (by omega)
      intro hm
      rcases List.mem_cons.mp hm with q | q
      · omega
      · exact ih q
    · omega
section
variable {st : List Int} (hst : ∀ x ∈ st, x = 0 ∨ x = 1)
include hst
theorem notes_nat : ∃ n : Nat, notesI st = (n : Int) := by
  have := sum_bounds hst
  exact ⟨(notesI st).toNat, by unfold notesI; omega⟩
theorem ahead_le : aheadI st ≤ notesI st := by
  unfold aheadI
  split
  · have := idx_le hst
    unfold notesI
    omega
  · exact Int.le_refl _
theorem ahead_same (b : Int) (hb : b = 0 ∨ b = 1) (h : st.sum ≠ 0) : aheadI (st ++ [b]) = aheadI st := by
  have h1 := sum_bounds hst
  have h2 : (st ++ [b]).sum ≠ 0 := by rw [List.sum_append, List.sum_singleton]; omega
  unfold aheadI
  rw [if_pos h2, if_pos h, List.idxOf_append, if_pos (mem_one hst h)]
theorem kept_same (cs : List Nat) (b : Int) (hb : b = 0 ∨ b = 1) (h : st.sum ≠ 0) : keptOf cs (st ++ [b]) = keptOf cs st := by
  unfold keptOf
  rw [ahead_same hst b hb h]
theorem ahead_one (h : st.sum = 0) : aheadI (st ++ [1]) = aheadI st := by
  unfold aheadI
  rw [if_pos (by rw [List.sum_append, List.sum_singleton, h]; decide), if_neg (fun q => q h), List.idxOf_append, if_neg (no_one hst h)]
  unfold notesI
  rw [h]
  simp
theorem notes_one : notesI (st ++ [1]) = notesI st := by
  unfold notesI
  rw [List.sum_append, List.sum_singleton, List.length_append, List.length_singleton]
  omega
theorem notes_zero : notesI (st ++ [0]) = notesI st + 1 := by
  unfold notesI
  rw [List.sum_append, List.sum_singleton, List.length_append, List.length_singleton]
  omega
theorem body1_zero (cs : List Nat) : body1 cs (st ++ [0]) = cut white (body1 cs st) := by
  have hs : (st ++ [0]).sum = st.sum := by rw [List.sum_append, List.sum_singleton]; omega
  have hal := ahead_le hst
  by_cases h : st.sum = 0
  · have h1 : body1 cs st = keptOf cs st := by
      unfold body1 body0
      rw [if_neg (by omega), if_pos h]
    have h2 : body1 cs (st ++ [0]) = cut white cs := by
      unfold body1 body0
      rw [hs, if_neg (by omega), if_pos h]
      unfold keptOf
      rw [if_pos]
      unfold aheadI
      rw [hs, if_neg (fun q => q h), notes_zero hst]
      have := sum_bounds hst
      unfold notesI
      omega
    rw [h1, h2]
    unfold keptOf
    split
    · rw [cut_cut]
    · rfl
  · have e0 : body0 cs (st ++ [0]) = cut white (body0 cs st) := by
      unfold body0
      rw [hs, if_neg h, if_neg h, kept_same hst cs 0 (Or.inl rfl) h, ahead_same hst 0 (Or.inl rfl) h, notes_zero hst, if_pos (by omega)]
      split
      · rw [← trimmed_eq, cut_cut]
      · rw [trimmed_eq]
    unfold body1
    rw [hs, e0]
    split
    · rw [cut_repl]
    · rfl
theorem body0_pics (cs : List Nat) (h : st.sum ≠ 0) : Pics (body0 cs st) := by
  unfold body0
  rw [if_neg h]
  split
  · exact trimmed_pics _
  · exact shown_pics _
theorem body1_one (cs : List Nat) : body1 cs (st ++ [1]) = shown (body1 cs st) := by
  have hs : (st ++ [1]).sum = st.sum + 1 := by rw [List.sum_append, List.sum_singleton]
  have hb := sum_bounds hst
  by_cases h : st.sum = 0
  · have h1 : body1 cs st = keptOf cs st := by
      unfold body1 body0
      rw [if_neg (by omega), if_pos h]
    rw [h1]
    unfold body1 body0
    rw [hs, if_neg (by omega), if_neg (by omega), ahead_one hst h, notes_one hst, if_neg]
    · unfold keptOf
      rw [ahead_one hst h]
    · unfold aheadI
      rw [if_neg (fun q => q h)]
      omega
  · have e0 : body0 cs (st ++ [1]) = body0 cs st := by
      unfold body0
      rw [hs, if_neg (by omega), if_neg h, kept_same hst cs 1 (Or.inr rfl) h, ahead_same hst 1 (Or.inr rfl) h, notes_one hst]
    have hp := body0_pics hst cs h
    unfold body1
    rw [hs, e0, if_pos (by omega)]
    split
    · rw [shown_repl hp]
    · rw [shown_of_pics hp]
/-- one step more -/
theorem told_step (cs : List Nat) (b : Int) (hb : b = 0 ∨ b = 1) : walked (told cs st) b = told cs (st ++ [b]) := by
  obtain ⟨n, hn⟩ := notes_nat hst
  unfold told
  rcases hb with rfl | rfl
  · unfold walked
    rw [if_pos rfl, hn, comment_pre, body1_zero hst, notes_zero hst, hn]
  · unfold walked
    rw [if_neg (by decide), hn, shown_pre, body1_one hst, notes_one hst, hn]
end
theorem told_nil (cs : List Nat) : told cs [] = cs := by
  unfold told notesI body1 body0 keptOf aheadI
  simp [notesI, pre_zero]
/-- sizes and signs of what is told -/
theorem told_len (cs : List Nat) (st : List Int) (hl : st.length ≤ 3) (hst : ∀ x ∈ st, x = 0 ∨ x = 1) : (told cs st).length ≤ 9 * cs.length + 7 := by
  have h := body1_len cs st
  have hb := sum_bounds hst
  have hr : ∀ n : Nat, (rep n).length = 2 * n := fun n => by
    induction n with
    | zero => rfl
    | succ n ih => rw [rep_succ, List.length_append, ih]; simp; omega
  unfold told pre notesI
  split
  · rw [List.length_append, hr, List.length_singleton]
    omega
  · rw [List.length_append, hr]
    omega
theorem told_codes (cs : List Nat) (st : List Int) (hcs : ∀ c ∈ cs, c < 0x110000) : ∀ c ∈ told cs st, c < 0x110000 := by
  have hk : ∀ c ∈ keptOf cs st, c < 0x110000 := fun c hc => by
    unfold keptOf at hc
    split at hc
    · exact hcs c (cut_mem hc)
    · exact hcs c hc
  have hp : ∀ {l : List Nat}, Pics l → ∀ c ∈ l, c < 0x110000 := fun h c hc => by
    have := h c hc
    omega
  have hb0 : ∀ c ∈ body0 cs st, c < 0x110000 := fun c hc => by
    unfold body0 at hc
    split at hc
    · exact hk c hc
    · split at hc
      · exact hp (trimmed_pics _) c hc
      · exact hp (shown_pics _) c hc
  have hb1 : ∀ c ∈ body1 cs st, c < 0x110000 := fun c hc => by
    unfold body1 at hc
    split at hc
    · obtain ⟨d, hd, h⟩ := List.mem_flatMap.mp hc
      split at h
      · have : c = 33 ∨ c = 94 ∨ c = 95 := by simpa using h
        omega
      · have : c = d := by simpa using h
        rw [this]; exact hb0 d hd
    · exact hb0 c hc
  have hr : ∀ n : Nat, ∀ c ∈ rep n, c < 0x110000 := fun n c hc => by
    obtain ⟨l, hl, h⟩ := List.mem_flatten.mp hc
    rw [(List.mem_replicate.mp hl).2] at h
    have : c = 35 ∨ c = 32 := by simpa using h
    omega
  intro c hc
  unfold told pre at hc
  split at hc
  · rcases List.mem_append.mp hc with h | h
    · exact hr _ c h
    · have : c = 35 := by simpa using h
      omega
  · rcases List.mem_append.mp hc with h | h
    · exact hr _ c h
    · exact hb1 c h
end Mine
end

/-! part C0 -/
section
open PySem PySem.W PyProof.Rows
set_option Elab.async false
set_option maxRecDepth 100000
set_option maxHeartbeats 8000000
namespace Mine

abbrev Ret (h₀ : Heap) (L : Addr) (m : Str → Option Value) (news : List (Addr × Obj)) (s : Shared) (Q : Value → Shared → Prop) (R : Tok → Value) : Prop :=
  ∀ (t : Tok) (h' : Heap) (tk' : Nat), Fr h₀ L h' m → News h₀ L h' news → Q (R t) { s with heap := h', toks := tk' }

/-- what a call of a pure def of the text gives: its answer by tok, the frame and the ledger as they were -/
def Cl (d : Nat) (w : World) (mean : ExcName → Option Value) (mg mb : Str → Option Value) (f : Addr) (news : List (Addr × Obj)) (vs : List Value) (R : Tok → Value) : Prop :=
  ∀ (dp un : Nat) (gd : Option (List Code)) (cn : Str) (cs : Scope) (a : Addr) (ccd : Value) (cl : List (Str × Addr)) (outer : List Env) (A₀ : Around) (base h₀ : Heap) (L : Addr) (m : Str → Option Value) (s : Shared) (Q E : Value → Shared → Prop),
    Below A₀ base outer h₀ → Fr h₀ L s.heap m → (hd.heap_39 w.params).In h₀ → News h₀ L s.heap news → Top hd.view_39 (looseW hd.view_39 []) mean mg mb h₀ → cs.kind = .function →
    dp + d < recursionLimit → un + 10 * d < cLine → Ret h₀ L m news s Q R →
      wpAny (model Challenge.rw_mq0049_01.row.prog w) (ktrTop dp un gd cn cs L a ccd cl outer) (call (.ref f) vs) Q E s

/-- the same for a def that hands back a new list of ints -/
def ClL (d : Nat) (w : World) (mean : ExcName → Option Value) (mg mb : Str → Option Value) (f : Addr) (news : List (Addr × Obj)) (vs : List Value) (r : List Int) : Prop :=
  ∀ (dp un : Nat) (gd : Option (List Code)) (cn : Str) (cs : Scope) (a : Addr) (ccd : Value) (cl : List (Str × Addr)) (outer : List Env) (A₀ : Around) (base h₀ : Heap) (L : Addr) (m : Str → Option Value) (s : Shared) (Q E : Value → Shared → Prop),
    Below A₀ base outer h₀ → Fr h₀ L s.heap m → (hd.heap_39 w.params).In h₀ → News h₀ L s.heap news → Top hd.view_39 (looseW hd.view_39 []) mean mg mb h₀ → cs.kind = .function →
    dp + d < recursionLimit → un + 10 * d < cLine →
    (∀ (D : Addr) (ys : List Value) (k : Nat) (h' : Heap) (tk' : Nat), IntsAre ys r → Fr h₀ L h' m → News h₀ L h' ((D, W.listOf ys.toArray k) :: news) → Q (.ref D) { s with heap := h', toks := tk' }) →
      wpAny (model Challenge.rw_mq0049_01.row.prog w) (ktrTop dp un gd cn cs L a ccd cl outer) (call (.ref f) vs) Q E s
theorem ClL.use {d : Nat} {w : World} {mean : ExcName → Option Value} {mg mb : Str → Option Value} {f : Addr} {news : List (Addr × Obj)} {vs : List Value} {r : List Int} (C : ClL d w mean mg mb f news vs r)
    {dp un : Nat} {gd : Option (List Code)} {cn : Str} {cs : Scope} {a : Addr} {ccd : Value} {cl : List (Str × Addr)} {outer : List Env} {A₀ : Around} {base h₀ : Heap} {L : Addr} {m : Str → Option Value} {s : Shared} {Q E : Value → Shared → Prop}
    (B : Below A₀ base outer h₀) (F : Fr h₀ L s.heap m) (X : (hd.heap_39 w.params).In h₀) (N : News h₀ L s.heap news) (T : Top hd.view_39 (looseW hd.view_39 []) mean mg mb h₀) (hk : cs.kind = .function)
    (hd' : dp + d < recursionLimit) (hu : un + 10 * d < cLine) (ret : ∀ (D : Addr) (ys : List Value) (k : Nat) (h' : Heap) (tk' : Nat), IntsAre ys r → Fr h₀ L h' m → News h₀ L h' ((D, W.listOf ys.toArray k) :: news) → Q (.ref D) { s with heap := h', toks := tk' }) :
    wpAny (model Challenge.rw_mq0049_01.row.prog w) (ktrTop dp un gd cn cs L a ccd cl outer) (call (.ref f) vs) Q E s :=
  C _ _ _ _ _ _ _ _ _ _ _ _ _ _ _ _ _ B F X N T hk hd' hu ret

theorem Cl.use {d : Nat} {w : World} {mean : ExcName → Option Value} {mg mb : Str → Option Value} {f : Addr} {news : List (Addr × Obj)} {vs : List Value} {R : Tok → Value} (C : Cl d w mean mg mb f news vs R)
    {dp un : Nat} {gd : Option (List Code)} {cn : Str} {cs : Scope} {a : Addr} {ccd : Value} {cl : List (Str × Addr)} {outer : List Env} {A₀ : Around} {base h₀ : Heap} {L : Addr} {m : Str → Option Value} {s : Shared} {Q E : Value → Shared → Prop}
    (B : Below A₀ base outer h₀) (F : Fr h₀ L s.heap m) (X : (hd.heap_39 w.params).In h₀) (N : News h₀ L s.heap news) (T : Top hd.view_39 (looseW hd.view_39 []) mean mg mb h₀) (hk : cs.kind = .function)
    (hd' : dp + d < recursionLimit) (hu : un + 10 * d < cLine) (ret : ∀ (t : Tok) (h' : Heap) (tk' : Nat), Fr h₀ L h' m → News h₀ L h' news → Q (R t) { s with heap := h', toks := tk' }) :
    wpAny (model Challenge.rw_mq0049_01.row.prog w) (ktrTop dp un gd cn cs L a ccd cl outer) (call (.ref f) vs) Q E s :=
  C _ _ _ _ _ _ _ _ _ _ _ _ _ _ _ _ _ B F X N T hk hd' hu ret

section
variable {prog : Program} {w : World} {A : Around} {E : Value → Shared → Prop} {s : Shared} {Q : Value → Shared → Prop}
theorem and127_step {n : Nat} {t u : Tok} (h : Q (.int ((n % 128 : Nat) : Int) s.toks) { s with toks := s.toks + 1 }) :
    wpAny (model prog w) A (binaryOp .BitAnd (.int (n : Int) t) (.int 127 u)) Q E s := and_int (by rw [and127]; exact h)
theorem and128_step {n : Nat} {t u : Tok} (h : Q (.int ((n / 128 % 2 * 128 : Nat) : Int) s.toks) { s with toks := s.toks + 1 }) :
    wpAny (model prog w) A (binaryOp .BitAnd (.int (n : Int) t) (.int 128 u)) Q E s := and_int (by rw [and128]; exact h)
theorem or32lo_step {n : Nat} {t u : Tok} (hn : n < 32) (h : Q (.int ((n + 32 : Nat) : Int) s.toks) { s with toks := s.toks + 1 }) :
    wpAny (model prog w) A (binaryOp .BitOr (.int (n : Int) t) (.int 32 u)) Q E s := or_int (by rw [or32lo n hn]; exact h)
theorem or32hi_step {n : Nat} {t u : Tok} (hn : n = 127) (h : Q (.int (127 : Int) s.toks) { s with toks := s.toks + 1 }) :
    wpAny (model prog w) A (binaryOp .BitOr (.int (n : Int) t) (.int 32 u)) Q E s := by subst hn; exact or_int (by rw [show ((127 : Nat) : Int) = 127 from rfl, or32hi]; exact h)
end
end Mine
end

/-! part K0 -/
section
open PySem PySem.W PyProof.Rows PySem.Calls PySem.Spec
set_option Elab.async false
set_option maxRecDepth 100000
set_option maxHeartbeats 2000000
namespace Mine

/-! a list comprehension over the signs of a text -/
theorem strs_snoc {y : Str} {t : Tok} : ∀ {vs : List Value} {ys : List Str}, StrsAre vs ys → StrsAre (vs ++ [.str y t]) (ys ++ [y])
  | _, _, .nil => .cons y t .nil
  | _, _, .cons z u r => .cons z u (strs_snoc r)

section
variable {prog : Program} {w : World} {A : Around} {E : Value → Shared → Prop} {h₀ : Heap} {L : Addr} {m : Str → Option Value} {env : Env} {elt : PySem.Expr} {x : Str} {scope : Scope} {cl : List (Str × Addr)} {s : Shared} {news : List (Addr × Obj)}

/-- a turn's element: a text, the ledger as it was -/
def StrEl (news : List (Addr × Obj)) (r : Str) (y : Value) (news' : List (Addr × Obj)) : Prop := news' = news ∧ ∃ t : Tok, y = .str r t

theorem signs_rest {Fin : List Value → List (Addr × Obj) → Prop} {S : List (Addr × Obj) → Prop} {T : Str} (g : Nat → Str)
    (turn : ∀ c u I oI C oC D m₂ ys h tk (E' : Value → Shared → Prop), c ∈ T.cps.toList → LCg.NsObj oC m₂ → m₂ x = some (.str ⟨#[c]⟩ u) → Fr h₀ L h m → News h₀ L h ((I, oI) :: (C, oC) :: (D, LCg.lst ys) :: news) → LCg.Off3 I C D news → ((@Ne Nat I C) ∧ (@Ne Nat I D) ∧ (@Ne Nat C D)) →
      wpAny (model prog w) A (eval elt (compEnvC scope cl C env)) (LCg.CompEnd h₀ L m { s with heap := h, toks := tk } I oI C oC D (LCg.lst ys) S (fun y news' => StrEl news (g c) y news')) E' { s with heap := h, toks := tk })
    (fin : ∀ ys, StrsAre ys (T.cps.toList.map g) → Fin ys news) : LCg.CompRest prog w A h₀ L m env elt x scope cl s S (SignAt T) Fin T.cps.size 0 [] news := by
  have key : ∀ (j i : Nat) (ys : List Value), i + j = T.cps.size → StrsAre ys ((T.cps.toList.take i).map g) → LCg.CompRest prog w A h₀ L m env elt x scope cl s S (SignAt T) Fin j i ys news := by
    intro j
    induction j with
    | zero =>
      intro i ys hi hy
      have e : i = T.cps.toList.length := by simpa using hi
      subst e
      rw [List.take_length] at hy
      exact LCg.CompRest.zero (fin ys hy)
    | succ j ih =>
      intro i ys hi hy
      refine LCg.CompRest.succ ?_
      intro v I oI C oC D m₂ h tk E' hv hC hx F N off ne
      obtain ⟨c, u, hc, hv'⟩ := hv
      rw [hv'] at hx
      have hc' : T.cps.toList[i]? = some c := by simpa using hc
      refine wpAny_mono (turn c u I oI C oC D m₂ ys h tk E' (List.mem_of_getElem? hc') hC hx F N off ne) (fun y s₂ hq => ?_) fun _ _ e => e
      obtain ⟨h', tk', nw, e, F', N', off', hS, hn, t', hy'⟩ := hq
      rw [hn] at N' off' hS
      refine ⟨h', tk', news, e, F', N', off', hS, ?_⟩
      rw [hy']
      refine ih (i + 1) _ (by omega) ?_
      rw [List.take_add_one, hc']
      simpa using strs_snoc hy
  exact key _ 0 [] (by omega) (by simp only [List.take_zero, List.map_nil]; exact .nil)

/-- what is wanted where a comprehension's source is a text -/
def SrcS (prog : Program) (w : World) (A : Around) (h₀ : Heap) (L : Addr) (m : Str → Option Value) (env : Env) (elt : PySem.Expr) (x : Str) (scope : Scope) (cl : List (Str × Addr)) (Fin : Shared → List Value → List (Addr × Obj) → Prop) (xv : Value) (s₁ : Shared) : Prop :=
  ∃ T t news, xv = .str T t ∧ A.handled = none ∧ Fr h₀ L s₁.heap m ∧ News h₀ L s₁.heap news ∧ T.cps.size ≤ sizeLine ∧
    ∀ s₂ : Shared, (∃ h, s₂ = { s₁ with heap := h }) → LCg.CompRest prog w A h₀ L m env elt x scope cl s₂ (fun _ => True) (SignAt T) (Fin s₂) T.cps.size 0 [] news

theorem ListComp_S {iter : PySem.Expr} {px : Pos} {pos : Pos} {Q : Value → Shared → Prop} (_F₀ : Fr h₀ L s.heap m)
    (hclos : closureFor scope env = pure cl) (hcell : ∀ y ∈ scope.names, y.2 ≠ .cell) (hkind : scope.kind = .function)
    (hnames : ∀ y ∈ scope.names, y.2 = .local → scope.names.lookup y.1 = some .local) (hx : scope.names.lookup x = some .local)
    (h : wpAny (model prog w) A (eval iter env) (SrcS prog w A h₀ L m env elt x scope cl (fun s₂ => LCg.FinE h₀ L m s₂ Q)) E s)
    (hs : ∀ x, foldedSetIterable iter env x = pure x := by intro _; rfl) :
    wpAny (model prog w) A (eval (.ListComp elt [⟨.Name x px, iter, [], 0⟩] scope pos) env) Q E s := by
  rw [eval_ListComp]
  refine wpAny_comprehension_free (use := none) rfl hs hclos hkind hnames (wpAny_mono h (fun xv s₁ h₁ => ?_) fun _ _ e => e)
  obtain ⟨T, t, news, rfl, hh, F, N, hsz, R⟩ := h₁
  have go : ∀ (o : Obj) (St : Nat → Heap → Prop), Walks prog w A s₁.heap.objs.size [s₁.heap.objs.size] [s₁.heap.objs.size] T.cps.size (SignAt T) St →
      (∀ i h, St i h → ∃ o, h.get? s₁.heap.objs.size = some o) → St 0 (s₁.heap.push o) →
      wpAny (model prog w) A (newList []) (fun acc s₃ => wpAny (model prog w) A (newFunctionEnv scope env.globals cl [] env.qual none .none (some env)) (fun cenv s₄ =>
      codeAny (model prog w) A (.compStart (.ListComp elt [⟨.Name x px, iter, [], 0⟩] scope pos) 0 (.ref s₁.heap.objs.size) acc { cenv with scope := relabel scope env }) (compPost (model prog w) A E none Q acc cenv.locals) s₄) E s₃) E { s₁ with heap := s₁.heap.push o } := by
    intro o St W hIo hst
    refine LCg.block_U (S := fun _ => True) W hsz hIo (fun i h h' o' nw st e e' _ _ _ => W.frame i h h' st fun b hb o'' hb' => by
        rw [List.mem_singleton.mp hb] at hb' ⊢; rw [e'] ; rw [e] at hb'; exact hb') hcell hkind hx hst (fun b hb => ?_)
      (F.keeps fun _ _ e => Heap.get?_push_of_some _ e) (N.grown fun _ _ e => Heap.get?_push_of_some _ e) (Nat.ne_of_lt F.ns.lt) (next_is_new F) (fun p hp => Nat.ne_of_lt (Heap.lt_size (N p hp).1)) trivial (R _ ⟨_, rfl⟩) ?_
    · rw [List.mem_singleton.mp hb]
      show s₁.heap.objs.size < (s₁.heap.push _).objs.size
      rw [Heap.size_push]; exact Nat.lt_succ_self _
    · intro D C h tk m' ys news' F' N' o1 hn hC₀ hD₀ hCL hDL hCD offC fin
      refine ⟨m', hn, fun h'' hs'' => fin D h'' tk (F'.change hs'' hCL hC₀) (fun p hp => ?_) o1⟩
      refine ⟨hs''.extBut _ _ ?_ (N' p hp).1, (N' p hp).2⟩
      rcases List.mem_cons.mp hp with rfl | hp
      · exact Ne.symm hCD
      · exact offC p hp
  cases ha : T.cps.all (· < 128)
  · exact wpAny_pyIter_wide ha (go _ _ (Walks.strWide hh _ T t) (fun i h st => by obtain ⟨o, e, _⟩ := st; exact ⟨o, e⟩) ⟨_, Heap.get?_push_size _ rfl, rfl, rfl⟩)
  · exact wpAny_pyIter_ascii ha (go _ _ (Walks.strAscii hh _ T t) (fun i h st => by obtain ⟨o, e, _⟩ := st; exact ⟨o, e⟩) ⟨_, Heap.get?_push_size _ rfl, rfl, rfl⟩)
end
end Mine
end

/-! part K1 -/
section
open PySem PySem.W PyProof.Rows PySem.Calls PySem.Spec
set_option Elab.async false
set_option maxRecDepth 100000
set_option maxHeartbeats 2000000
namespace Mine

/-! list comprehensions, whatever their clauses: the loop is told once the accumulator D and the block's names C stand -/
section
variable {prog : Program} {w : World} {A : Around} {E : Value → Shared → Prop} {h₀ : Heap} {L : Addr} {m : Str → Option Value} {env : Env} {elt : PySem.Expr} {scope : Scope} {cl : List (Str × Addr)} {s : Shared} {news : List (Addr × Obj)}

def LoopAt (prog : Program) (w : World) (A : Around) (h₀ : Heap) (L : Addr) (m : Str → Option Value) (e : PySem.Expr) (cenvOf : Addr → Env) (itv : Value) (s₂ : Shared) (Good : List Value → List (Addr × Obj) → Prop) : Prop :=
  ∀ (D C : Addr) (h₁ : Heap) (tk₁ : Nat) (R : Result → Shared → Prop), D ≠ C → h₀.get? D = none → h₀.get? C = none → D ≠ L → C ≠ L → s₂.heap.objs.size ≤ D → s₂.heap.objs.size ≤ C →
    (∀ b o, s₂.heap.get? b = some o → h₁.get? b = some o) → h₁.get? D = some (LCg.lst []) → (∃ oC m', h₁.get? C = some oC ∧ LCg.NsObj oC m') →
    (∀ h tk ys news' oC m', Fr h₀ L h m → LCg.NsObj oC m' → News h₀ L h ((C, oC) :: (D, LCg.lst ys) :: news') → (∀ p ∈ news', p.1 ≠ C ∧ p.1 ≠ D) → Good ys news' → R (.ok .next) { s₂ with heap := h, toks := tk }) →
    codeAny (model prog w) A (.compLoop e 0 itv (.ref D) (cenvOf C)) R { s₂ with heap := h₁, toks := tk₁ }

def FinEx (h₀ : Heap) (L : Addr) (m : Str → Option Value) (s₂ : Shared) (Q : Value → Shared → Prop) (ys : List Value) (news' : List (Addr × Obj)) : Prop :=
  ∀ D h tk, Fr h₀ L h m → News h₀ L h ((D, LCg.lst ys) :: news') → (∀ p ∈ news', p.1 ≠ D) → Q (.ref D) { s₂ with heap := h, toks := tk }
def FinAs (h₀ : Heap) (L : Addr) (m : Str → Option Value) (y : Str) (s₂ : Shared) (Q : Flow → Shared → Prop) (ys : List Value) (news' : List (Addr × Obj)) : Prop :=
  ∀ D h tk, Fr h₀ L h (fun z => if z = y then some (.ref D) else m z) → News h₀ L h ((D, LCg.lst ys) :: news') → (∀ p ∈ news', p.1 ≠ D) → Q .next { s₂ with heap := h, toks := tk }

theorem core_block {tgt iter : PySem.Expr} {ifs : List PySem.Expr} {rest : List Comprehension} {pos : Pos} {s₂ : Shared} {itv : Value} {Good : List Value → List (Addr × Obj) → Prop} {RR : Value → Addr → Result → Shared → Prop}
    (hcell : ∀ y ∈ scope.names, y.2 ≠ .cell) (hkind : scope.kind = .function) (F : Fr h₀ L s₂.heap m)
    (self : ∀ (s' : Shared) (Q : Value → Shared → Prop) (E : Value → Shared → Prop), (∀ b o, s₂.heap.get? b = some o → s'.heap.get? b = some o) → Q itv s' → wpAny (model prog w) A (pyIter itv) Q E s')
    (loop : LoopAt prog w A h₀ L m (.ListComp elt (⟨tgt, iter, ifs, 0⟩ :: rest) scope pos) (fun C => compEnvC scope cl C env) itv s₂ Good)
    (hRR : ∀ D C h tk m' ys news', Fr h₀ L h m → News h₀ L h ((D, LCg.lst ys) :: news') → (∀ p ∈ news', p.1 ≠ D) → h.Ns C m' → h₀.get? C = none → h₀.get? D = none → C ≠ L → D ≠ L → C ≠ D → (∀ p ∈ news', p.1 ≠ C) → Good ys news' → RR (.ref D) C (.ok .next) { s₂ with heap := h, toks := tk }) :
    wpAny (model prog w) A (newList []) (fun acc s₃ => wpAny (model prog w) A (newFunctionEnv scope env.globals cl [] env.qual none .none (some env)) (fun cenv s₄ =>
      codeAny (model prog w) A (.compStart (.ListComp elt (⟨tgt, iter, ifs, 0⟩ :: rest) scope pos) 0 itv acc { cenv with scope := relabel scope env }) (RR acc cenv.locals) s₄) E s₃) E s₂ := by
  refine wpAny_newObj_type (wpAny_newFunctionEnv hcell (by intro y hy; simp at hy) (fun h₁ hns₁ hsb₁ => ?_) hkind)
  dsimp only at hns₁ hsb₁ ⊢
  generalize hH2 : s₂.heap.push { cls := .type "list", dict := none, data := .seq ([] : List Value).toArray } = H2 at hns₁ hsb₁ ⊢
  have hC : H2.objs.size = s₂.heap.objs.size + 1 := by rw [← hH2, Heap.size_push]
  have hDC : s₂.heap.objs.size ≠ H2.objs.size := by rw [hC]; exact Nat.ne_of_lt (Nat.lt_succ_self _)
  have below : ∀ b, b < s₂.heap.objs.size → b ≠ H2.objs.size ∧ b ≠ s₂.heap.objs.size := fun b hb => ⟨by rw [hC]; exact Nat.ne_of_lt (Nat.lt_succ_of_lt hb), Nat.ne_of_lt hb⟩
  have old : ∀ b o, s₂.heap.get? b = some o → h₁.get? b = some o := fun b o e => hsb₁.extBut b o (below b (Heap.lt_size e)).1 (Heap.get?_push_of_some _ (hH2 ▸ Heap.get?_push_of_some _ e))
  have hacc : h₁.get? s₂.heap.objs.size = some (LCg.lst []) := hsb₁.extBut _ _ hDC (Heap.get?_push_of_some _ (hH2 ▸ Heap.get?_push_size _ rfl))
  have fresh : ∀ a, s₂.heap.objs.size ≤ a → s₂.heap.get? a = none := fun a ha => by
    cases e : s₂.heap.get? a with
    | none => rfl
    | some o' => exact absurd (Heap.lt_size e) (Nat.not_lt.mpr ha)
  have fresh₀ : ∀ a, s₂.heap.objs.size ≤ a → h₀.get? a = none := fun a ha => by
    cases e : h₀.get? a with
    | none => rfl
    | some o' => have := F.keep a o' e; rw [fresh a ha] at this; cases this
  have hD₀ : h₀.get? s₂.heap.objs.size = none := fresh₀ _ (Nat.le_refl _)
  have hC₀ : h₀.get? H2.objs.size = none := fresh₀ _ (by rw [hC]; exact Nat.le_succ _)
  have hLlt : L < s₂.heap.objs.size := F.ns.lt
  have hDL : s₂.heap.objs.size ≠ L := Ne.symm (below L hLlt).2
  have hCL : H2.objs.size ≠ L := Ne.symm (below L hLlt).1
  obtain ⟨oC, heC, hoC⟩ := LCg.ns_obj hns₁
  have go := loop s₂.heap.objs.size H2.objs.size h₁ (s₂.toks + ([] : List (Str × Value)).length) (RR (.ref s₂.heap.objs.size) H2.objs.size) hDC hD₀ hC₀ hDL hCL (Nat.le_refl _) (by rw [hC]; exact Nat.le_succ _) old hacc ⟨oC, _, heC, hoC⟩
    (fun h tk ys news' oC' m' F' hoC' N' off' good => hRR _ _ h tk m' ys news' F' (fun p hp => N' p (List.mem_cons_of_mem _ hp)) (fun p hp => (off' p hp).2) (hoC'.ns (N' _ List.mem_cons_self).1) hC₀ hD₀ hCL hDL (Ne.symm hDC) (fun p hp => (off' p hp).1) good)
  exact codeAny_compStart_list go (self _ _ _ old go)

/-- [elt for .. ] read as an expression -/
theorem ListComp_G {tgt iter : PySem.Expr} {ifs : List PySem.Expr} {rest : List Comprehension} {pos : Pos} {Q : Value → Shared → Prop} (_F₀ : Fr h₀ L s.heap m)
    (hclos : closureFor scope env = pure cl) (hcell : ∀ y ∈ scope.names, y.2 ≠ .cell) (hkind : scope.kind = .function)
    (hnames : ∀ y ∈ scope.names, y.2 = .local → scope.names.lookup y.1 = some .local)
    (h : wpAny (model prog w) A (eval iter env) (fun xv s₁ => wpAny (model prog w) A (pyIter xv) (fun itv s₂ => Fr h₀ L s₂.heap m ∧
      (∀ (s' : Shared) (Q : Value → Shared → Prop) (E : Value → Shared → Prop), (∀ b o, s₂.heap.get? b = some o → s'.heap.get? b = some o) → Q itv s' → wpAny (model prog w) A (pyIter itv) Q E s') ∧
      LoopAt prog w A h₀ L m (.ListComp elt (⟨tgt, iter, ifs, 0⟩ :: rest) scope pos) (fun C => compEnvC scope cl C env) itv s₂ (FinEx h₀ L m s₂ Q)) E s₁) E s)
    (hs : ∀ x, foldedSetIterable iter env x = pure x := by intro _; rfl) :
    wpAny (model prog w) A (eval (.ListComp elt (⟨tgt, iter, ifs, 0⟩ :: rest) scope pos) env) Q E s := by
  rw [eval_ListComp]
  refine wpAny_comprehension_free (use := none) rfl hs hclos hkind hnames (wpAny_mono h (fun xv s₁ h₁ => wpAny_mono h₁ (fun itv s₂ h₂ => ?_) fun _ _ e => e) fun _ _ e => e)
  obtain ⟨F, self, loop⟩ := h₂
  refine core_block hcell hkind F self loop ?_
  intro D C h tk m' ys news' F' N' o1 hn hC₀ hD₀ hCL hDL hCD offC fin
  refine ⟨m', hn, fun h'' hs'' => fin D h'' tk (F'.change hs'' hCL hC₀) (fun p hp => ?_) o1⟩
  refine ⟨hs''.extBut _ _ ?_ (N' p hp).1, (N' p hp).2⟩
  rcases List.mem_cons.mp hp with rfl | hp
  · exact Ne.symm hCD
  · exact offC p hp

/-- y = [elt for .. ] -/
theorem Assign_ListComp_G {tgt iter : PySem.Expr} {ifs : List PySem.Expr} {rest : List Comprehension} {pos spos py : Pos} {y : Str} {Q : Flow → Shared → Prop} (_F₀ : Fr h₀ L s.heap m) (hLe : env.locals = L)
    (hsw : swapsWith (.ListComp elt (⟨tgt, iter, ifs, 0⟩ :: rest) scope pos) (some (.Name y py)) spos.line env = pure true)
    (hclos : closureFor scope env = pure cl) (hcell : ∀ y ∈ scope.names, y.2 ≠ .cell) (hkind : scope.kind = .function)
    (hnames : ∀ y ∈ scope.names, y.2 = .local → scope.names.lookup y.1 = some .local)
    (hy : env.kindOf y = some .local) (hp : (env.scope.kind == .class || (env.scope.kind == .module && env.locals != env.globals)) = false)
    (h : wpAny (model prog w) A (eval iter env) (fun xv s₁ => wpAny (model prog w) A (pyIter xv) (fun itv s₂ => Fr h₀ L s₂.heap m ∧
      (∀ (s' : Shared) (Q : Value → Shared → Prop) (E : Value → Shared → Prop), (∀ b o, s₂.heap.get? b = some o → s'.heap.get? b = some o) → Q itv s' → wpAny (model prog w) A (pyIter itv) Q E s') ∧
      LoopAt prog w A h₀ L m (.ListComp elt (⟨tgt, iter, ifs, 0⟩ :: rest) scope pos) (fun C => compEnvC scope cl C env) itv s₂ (FinAs h₀ L m y s₂ Q)) E s₁) E s)
    (hs : ∀ x, foldedSetIterable iter env x = pure x := by intro _; rfl) :
    wpAny (model prog w) A (exec (.Assign [.Name y py] (.ListComp elt (⟨tgt, iter, ifs, 0⟩ :: rest) scope pos) spos) env) Q E s := by
  subst hLe
  rw [exec_Assign_Name_used _ _ _ _ hsw]
  refine wpAny_bind (wpAny_standAt (wpAny_bind ?_))
  show wpAny _ A (do let _ ← comprehension (.ListComp elt (⟨tgt, iter, ifs, 0⟩ :: rest) scope pos) scope env _ (newList []) false (eval iter env) (some (assign (.Name y py) env))) _ _ s
  refine wpAny_bind (wpAny_mono (wpAny_comprehension_free (use := some (assign (.Name y py) env)) (Q := fun _ s' => Q .next s') rfl hs hclos hkind hnames
    (wpAny_mono h (fun xv s₁ h₁ => wpAny_mono h₁ (fun itv s₂ h₂ => ?_) fun _ _ e => e) fun _ _ e => e)) (fun _ s' hq => wpAny_pure (wpAny_pure hq)) fun _ _ e => e)
  obtain ⟨F, self, loop⟩ := h₂
  refine core_block hcell hkind F self loop ?_
  intro D C h' tk m' ys news' F' N' o1 hn hC₀ hD₀ hCL hDL hCD offC fin
  show wpAny _ A (assign (.Name y py) env (.ref D)) _ _ _
  refine wpAny_assign_Name (wpAny_storeName_local hy F'.ns (fun h₂ hn₂ hs₂ => ?_) hp)
  have hL₀ : h₀.get? env.locals = none := Heap.get?_none_of_le F'.above
  have F₂ : Fr h₀ env.locals h₂ (fun z => if z = y then some (.ref D) else m z) := ⟨hn₂, fun b o e => hs₂.extBut b o (fun q => by rw [q, hL₀] at e; cases e) (F'.keep b o e), F'.above⟩
  refine ⟨m', hn.sameBut hs₂ hCL, fun h'' hs'' => fin D h'' _ (F₂.change hs'' hCL hC₀) (fun p hp => ?_) o1⟩
  have z : h₂.get? p.1 = some p.2 := hs₂.extBut _ _ (N' p hp).2.1 (N' p hp).1
  refine ⟨hs''.extBut _ _ ?_ z, (N' p hp).2⟩
  rcases List.mem_cons.mp hp with rfl | hp
  · exact Ne.symm hCD
  · exact offC p hp
end
end Mine
end

/-! part K2 -/
section
open PySem PySem.W PyProof.Rows PySem.Calls PySem.Spec
set_option Elab.async false
set_option maxRecDepth 100000
set_option maxHeartbeats 2000000
namespace Mine

/-! [elt for a, b in enumerate(list) if c], its elements ints -/
section
variable {prog : Program} {w : World} {A : Around} {E : Value → Shared → Prop} {h₀ : Heap} {L : Addr} {m : Str → Option Value} {env : Env} {elt c : PySem.Expr} {scope : Scope} {cl : List (Str × Addr)} {s : Shared} {news : List (Addr × Obj)}

theorem ints_snoc {y : Int} {t : Tok} : ∀ {vs : List Value} {ys : List Int}, IntsAre vs ys → IntsAre (vs ++ [.int y t]) (ys ++ [y])
  | _, _, .nil => .cons y t .nil
  | _, _, .cons z u r => .cons z u (ints_snoc r)

/-- the state behind a pure step: the frame and the ledger NN as they were -/
def Kept (h₀ : Heap) (L : Addr) (m : Str → Option Value) (NN : List (Addr × Obj)) (s₂ s₃ : Shared) : Prop := ∃ h' tk', s₃ = { s₂ with heap := h', toks := tk' } ∧ Fr h₀ L h' m ∧ News h₀ L h' NN

theorem enum_loop {a b : Str} {pa pb tp : Pos} {kk : Nat} {iter : PySem.Expr} {pos : Pos} {e it l : Addr} {ol : Obj} {old : Value} {items : Array Value} {k : Nat} {s₂ : Shared} (p : Nat → Bool) (g : Nat → Int)
    (hh : A.handled = none) (hkind : scope.kind = .function) (hxa : scope.names.lookup a = some .local) (hxb : scope.names.lookup b = some .local) (hab : ¬ a = b)
    (F : Fr h₀ L s₂.heap m) (N : News h₀ L s₂.heap news) (hE : IsEnum s₂.heap e it 0 old) (hI : s₂.heap.IsListIter it l 0) (hl : (l, ol) ∈ news) (hlc : ol.cls = .type "list") (hld : ol.data = .seq items k)
    (hei : e ≠ it) (he₀ : h₀.get? e = none) (hi₀ : h₀.get? it = none) (heL : e ≠ L) (hiL : it ≠ L) (off : ∀ q ∈ news, q.1 ≠ e ∧ q.1 ≠ it) (hsz : items.size ≤ sizeLine)
    (test : ∀ i x t C oC D oe oit m₂ ys h tk (E' : Value → Shared → Prop), i < items.size → items[i]? = some x → LCg.NsObj oC m₂ → m₂ a = some (.int i t) → m₂ b = some x → Fr h₀ L h m → News h₀ L h ((C, oC) :: (D, LCg.lst ys) :: (e, oe) :: (it, oit) :: news) →
      wpAny (model prog w) A (isTrue c (compEnvC scope cl C env) (eval c (compEnvC scope cl C env))) (fun ok s₃ => ok = p i ∧ Kept h₀ L m ((C, oC) :: (D, LCg.lst ys) :: (e, oe) :: (it, oit) :: news) s₂ s₃) E' { s₂ with heap := h, toks := tk })
    (elem : ∀ i x t C oC D oe oit m₂ ys h tk (E' : Value → Shared → Prop), i < items.size → items[i]? = some x → p i = true → LCg.NsObj oC m₂ → m₂ a = some (.int i t) → m₂ b = some x → Fr h₀ L h m → News h₀ L h ((C, oC) :: (D, LCg.lst ys) :: (e, oe) :: (it, oit) :: news) →
      wpAny (model prog w) A (eval elt (compEnvC scope cl C env)) (fun y s₃ => (∃ t, y = .int (g i) t) ∧ Kept h₀ L m ((C, oC) :: (D, LCg.lst ys) :: (e, oe) :: (it, oit) :: news) s₂ s₃) E' { s₂ with heap := h, toks := tk }) :
    LoopAt prog w A h₀ L m (.ListComp elt [⟨.Tuple [.Name a pa, .Name b pb] kk tp, iter, [c], 0⟩] scope pos) (fun C => compEnvC scope cl C env) (.ref e) s₂ (fun ys nw => nw = news ∧ IntsAre ys (picked p g items.size)) := by
  intro D C h₁ tk₁ R hDC hD₀ hC₀ hDL hCL hDsz hCsz old₁ hacc hCns fin
  obtain ⟨oC₁, mC₁, heC₁, hoC₁⟩ := hCns
  have lt_of : ∀ q o, s₂.heap.get? q = some o → q ≠ D ∧ q ≠ C := fun q o hq => ⟨Nat.ne_of_lt (Nat.lt_of_lt_of_le (Heap.lt_size hq) hDsz), Nat.ne_of_lt (Nat.lt_of_lt_of_le (Heap.lt_size hq) hCsz)⟩
  have heD : e ≠ D ∧ e ≠ C := lt_of e _ hE
  obtain ⟨oI₀, heI₀, hI₀r⟩ := hI
  have hiD : it ≠ D ∧ it ≠ C := lt_of it _ heI₀
  have offDC : ∀ q ∈ news, q.1 ≠ D ∧ q.1 ≠ C := fun q hq => lt_of _ _ (N q hq).1
  have hle : l ≠ e ∧ l ≠ it := off _ hl
  have hlC : l ≠ D ∧ l ≠ C := offDC _ hl
  have isL : ∀ h : Heap, h.get? l = some ol → h.IsList l items := fun h e' => ⟨ol, e', hlc, k, hld⟩
  have W := WalksT.enumerate (prog := prog) (w := w) (A := A) hh e it l hei hle.1 hle.2 items
  refine kct_loop
    (fun n s' => ∃ h' tk i ys oC m', s' = { s₂ with heap := h', toks := tk } ∧ i ≤ items.size ∧ n = items.size + 1 - i ∧ ys.length ≤ i ∧ ((∃ old, IsEnum h' e it i old) ∧ h'.IsListIter it l i ∧ h'.IsList l items) ∧
      Fr h₀ L h' m ∧ LCg.NsObj oC m' ∧ News h₀ L h' ((C, oC) :: (D, LCg.lst ys) :: news) ∧ IntsAre ys (picked p g i)) ?_ (items.size + 1)
    ⟨h₁, _, 0, [], oC₁, mC₁, rfl, Nat.zero_le _, rfl, Nat.le_refl _, ⟨⟨_, old₁ _ _ hE⟩, ⟨oI₀, old₁ _ _ heI₀, hI₀r⟩, isL _ (old₁ _ _ (N _ hl).1)⟩, F.keeps old₁, hoC₁, fun q hq => ?_, .nil⟩
  · rintro n s' ⟨h', tk, i, ys, oC, m', rfl, hi, rfl, hyl, hst, F', hoC, N', hys⟩
    have zD' := (N' (D, LCg.lst ys) (List.mem_cons_of_mem _ List.mem_cons_self)).1
    have zC' := (N' (C, oC) List.mem_cons_self).1
    by_cases hlt : i < items.size
    · refine W.item i _ _ _ hlt hst fun T vals h₂ tk₂ hPt _ hTup hMid hk₂ => ?_
      obtain ⟨t, x, hx, rfl⟩ := hPt
      have hTw := W.apart i T h₂ hMid
      refine W.go _ _ _ i T _ _ _ hMid fun h₃ hst₃ hk₃ => ?_
      have up₃ : ∀ q o, q ≠ e → q ≠ it → h'.get? q = some o → h₃.get? q = some o := fun q o h1 h2 e' => hk₃ q o (by simp [h1, h2]) (hk₂ q o (by simp [h1, h2]) e')
      have hT₃ : h₃.IsTuple T #[.int i t, x] := hTup.at fun o e' => hk₃ T o hTw e'
      refine kcp_assign (env := compEnvC scope cl C env) hh hT₃ (lookup_relabel_local hxa) (lookup_relabel_local hxb) (by simp [compEnvC, relabel, hkind]) ((hoC.ns zC').at' fun o e' => up₃ _ o (Ne.symm heD.2) (Ne.symm hiD.2) e') fun h₄ tk₄ hn₄ hs₄ => ?_
      have up : ∀ q o, q ≠ e → q ≠ it → q ≠ C → h'.get? q = some o → h₄.get? q = some o := fun q o h1 h2 h3 e' => hs₄ q o h3 (up₃ q o h1 h2 e')
      have hst₄ := W.frame (i + 1) h₃ h₄ hst₃ (fun q hq o e' => hs₄ q o (by
        simp only [List.mem_cons, List.not_mem_nil, or_false] at hq
        rcases hq with rfl | rfl | rfl
        · exact heD.2
        · exact hiD.2
        · exact hlC.2) e')
      obtain ⟨⟨old₄, hE₄⟩, ⟨oI₄, heI₄, hI₄r⟩, _⟩ := hst₄
      obtain ⟨oE, hE₄, hE₄r⟩ : ∃ oE : Obj, h₄.get? e = some oE ∧ ∀ h : Heap, h.get? e = some oE → ∃ old, IsEnum h e it ((i + 1 : Nat) : Int) old := ⟨_, hE₄, fun _ e' => ⟨_, e'⟩⟩
      obtain ⟨oC₄, heC₄, hoC₄⟩ := LCg.ns_obj hn₄
      have F₄ : Fr h₀ L h₄ m := ⟨F'.ns.at' fun o e' => up _ o (Ne.symm heL) (Ne.symm hiL) (Ne.symm hCL) e', fun q o e' => up q o (fun z => by rw [z, he₀] at e'; cases e') (fun z => by rw [z, hi₀] at e'; cases e') (fun z => by rw [z, hC₀] at e'; cases e') (F'.keep q o e'), F'.above⟩
      have N₄ : News h₀ L h₄ ((C, oC₄) :: (D, LCg.lst ys) :: (e, oE) :: (it, oI₄) :: news) := fun q hq => by
        rcases List.mem_cons.mp hq with rfl | hq
        · exact ⟨heC₄, hCL, hC₀⟩
        rcases List.mem_cons.mp hq with rfl | hq
        · exact ⟨up _ _ (Ne.symm heD.1) (Ne.symm hiD.1) hDC zD', hDL, hD₀⟩
        rcases List.mem_cons.mp hq with rfl | hq
        · exact ⟨hE₄, heL, he₀⟩
        rcases List.mem_cons.mp hq with rfl | hq
        · exact ⟨heI₄, hiL, hi₀⟩
        · have z := N' q (List.mem_cons_of_mem _ (List.mem_cons_of_mem _ hq))
          exact ⟨up _ _ (off q hq).1 (off q hq).2 (offDC q hq).2 z.1, z.2⟩
      have back : ∀ (h₅ : Heap) (ys' : List Value), News h₀ L h₅ ((C, oC₄) :: (D, LCg.lst ys') :: (e, oE) :: (it, oI₄) :: news) → ((∃ old, IsEnum h₅ e it ((i + 1 : Nat) : Int) old) ∧ h₅.IsListIter it l (i + 1) ∧ h₅.IsList l items) := fun h₅ ys' N₅ =>
        ⟨hE₄r _ (N₅ (e, oE) (List.mem_cons_of_mem _ (List.mem_cons_of_mem _ List.mem_cons_self))).1, ⟨oI₄, (N₅ (it, oI₄) (List.mem_cons_of_mem _ (List.mem_cons_of_mem _ (List.mem_cons_of_mem _ List.mem_cons_self)))).1, hI₄r⟩,
          isL _ (N₅ _ (List.mem_cons_of_mem _ (List.mem_cons_of_mem _ (List.mem_cons_of_mem _ (List.mem_cons_of_mem _ hl))))).1⟩
      have next : ∀ (h₅ : Heap) (tk₅ : Nat) (ys' : List Value), ys'.length ≤ i + 1 → Fr h₀ L h₅ m → News h₀ L h₅ ((C, oC₄) :: (D, LCg.lst ys') :: (e, oE) :: (it, oI₄) :: news) → IntsAre ys' (picked p g (i + 1)) →
          ∃ q', q' < items.size + 1 - i ∧ (∃ h' tk i ys oC m', ({ s₂ with heap := h₅, toks := tk₅ } : Shared) = { s₂ with heap := h', toks := tk } ∧ i ≤ items.size ∧ q' = items.size + 1 - i ∧ ys.length ≤ i ∧ ((∃ old, IsEnum h' e it i old) ∧ h'.IsListIter it l i ∧ h'.IsList l items) ∧
      Fr h₀ L h' m ∧ LCg.NsObj oC m' ∧ News h₀ L h' ((C, oC) :: (D, LCg.lst ys) :: news) ∧ IntsAre ys (picked p g i)) := by
        intro h₅ tk₅ ys' hl' F₅ N₅ hI₅
        refine ⟨items.size + 1 - (i + 1), by omega, h₅, tk₅, i + 1, ys', oC₄, _, rfl, hlt, rfl, hl', back h₅ ys' N₅, F₅, hoC₄, fun q hq => N₅ q ?_, hI₅⟩
        rcases List.mem_cons.mp hq with rfl | hq
        · exact List.mem_cons_self
        rcases List.mem_cons.mp hq with rfl | hq
        · exact List.mem_cons_of_mem _ List.mem_cons_self
        · exact List.mem_cons_of_mem _ (List.mem_cons_of_mem _ (List.mem_cons_of_mem _ (List.mem_cons_of_mem _ hq)))
      refine wpAny_mono (test i x t C oC₄ D oE oI₄ _ ys h₄ tk₄ _ hlt hx hoC₄ (by simp [hab]) (by simp) F₄ N₄) (fun ok s₅ h₅ => ?_) fun _ _ e' => e'
      obtain ⟨rfl, h₅, tk₅, rfl, F₅, N₅⟩ := h₅
      cases hp : p i with
      | false =>
        simp only [Bool.false_eq_true, if_false]
        exact next h₅ tk₅ ys (Nat.le_succ_of_le hyl) F₅ N₅ (by rw [picked_succ, hp]; exact hys)
      | true =>
        simp only [if_true]
        refine wpAny_mono (elem i x t C oC₄ D oE oI₄ _ ys h₅ tk₅ _ hlt hx hp hoC₄ (by simp [hab]) (by simp) F₅ N₅) (fun y s₆ h₆ => ?_) fun _ _ e' => e'
        obtain ⟨⟨t', rfl⟩, h₆, tk₆, rfl, F₆, N₆⟩ := h₆
        have zD := (N₆ (D, LCg.lst ys) (List.mem_cons_of_mem _ List.mem_cons_self)).1
        refine append_at (hsz := by show ys.toArray.size ≤ sizeLine; rw [List.size_toArray]; omega) zD fun h₇ hs₇ hD₇ => ?_
        refine next h₇ _ (ys ++ [.int (g i) t']) (by rw [List.length_append, List.length_singleton]; omega) (F₆.change hs₇ hDL hD₀) (fun q hq => ?_) (by rw [picked_succ, hp]; exact ints_snoc hys)
        rcases List.mem_cons.mp hq with rfl | hq
        · exact ⟨hs₇.extBut _ _ (Ne.symm hDC) (N₆ _ List.mem_cons_self).1, hCL, hC₀⟩
        rcases List.mem_cons.mp hq with rfl | hq
        · exact ⟨hD₇.trans (congrArg some (LCg.lst_snoc ys _)), hDL, hD₀⟩
        have z := N₆ q (List.mem_cons_of_mem _ (List.mem_cons_of_mem _ hq))
        refine ⟨hs₇.extBut _ _ ?_ z.1, z.2⟩
        rcases List.mem_cons.mp hq with rfl | hq
        · exact heD.1
        rcases List.mem_cons.mp hq with rfl | hq
        · exact hiD.1
        · exact (offDC q hq).1
    · have hin : i = items.size := Nat.le_antisymm hi (Nat.not_lt.mp hlt)
      subst hin
      refine W.done _ _ _ hst fun h₂ tk₂ hk₂ => ?_
      have up : ∀ q o, q ≠ e → q ≠ it → h'.get? q = some o → h₂.get? q = some o := fun q o h1 h2 e' => hk₂ q o (by simp [h1, h2]) e'
      refine fin h₂ tk₂ ys news oC m' ⟨F'.ns.at' fun o e' => up _ o (Ne.symm heL) (Ne.symm hiL) e', fun q o e' => up q o (fun z => by rw [z, he₀] at e'; cases e') (fun z => by rw [z, hi₀] at e'; cases e') (F'.keep q o e'), F'.above⟩ hoC (fun q hq => ?_) (fun q hq => ⟨(offDC q hq).2, (offDC q hq).1⟩) ⟨rfl, hys⟩
      have z := N' q hq
      refine ⟨up _ _ ?_ ?_ z.1, z.2⟩
      · rcases List.mem_cons.mp hq with rfl | hq
        · exact Ne.symm heD.2
        rcases List.mem_cons.mp hq with rfl | hq
        · exact Ne.symm heD.1
        · exact (off q hq).1
      · rcases List.mem_cons.mp hq with rfl | hq
        · exact Ne.symm hiD.2
        rcases List.mem_cons.mp hq with rfl | hq
        · exact Ne.symm hiD.1
        · exact (off q hq).2
  · rcases List.mem_cons.mp hq with rfl | hq
    · exact ⟨heC₁, hCL, hC₀⟩
    rcases List.mem_cons.mp hq with rfl | hq
    · exact ⟨hacc, hDL, hD₀⟩
    · exact ⟨old₁ _ _ (N q hq).1, (N q hq).2⟩

/-- behind enumerate(l) the comprehension is told by what its test and its element give -/
theorem enum_src {a b : Str} {pa pb tp : Pos} {kk : Nat} {iter : PySem.Expr} {pos : Pos} {l : Addr} {items : Array Value} {k : Nat} {Q : Value → Shared → Prop} (p : Nat → Bool) (g : Nat → Int)
    (F : Fr h₀ L s.heap m) (N : News h₀ L s.heap news) (hl : (l, W.listOf items k) ∈ news)
    (hh : A.handled = none) (hkind : scope.kind = .function) (hxa : scope.names.lookup a = some .local) (hxb : scope.names.lookup b = some .local) (hab : ¬ a = b) (hsz : items.size ≤ sizeLine)
    (test : ∀ e it i x t C oC D oe oit m₂ ys h tk (E' : Value → Shared → Prop), i < items.size → items[i]? = some x → LCg.NsObj oC m₂ → m₂ a = some (.int i t) → m₂ b = some x → Fr h₀ L h m → News h₀ L h ((C, oC) :: (D, LCg.lst ys) :: (e, oe) :: (it, oit) :: news) →
      wpAny (model prog w) A (isTrue c (compEnvC scope cl C env) (eval c (compEnvC scope cl C env))) (fun ok s₃ => ok = p i ∧ Kept h₀ L m ((C, oC) :: (D, LCg.lst ys) :: (e, oe) :: (it, oit) :: news) s s₃) E' { s with heap := h, toks := tk })
    (elem : ∀ e it i x t C oC D oe oit m₂ ys h tk (E' : Value → Shared → Prop), i < items.size → items[i]? = some x → p i = true → LCg.NsObj oC m₂ → m₂ a = some (.int i t) → m₂ b = some x → Fr h₀ L h m → News h₀ L h ((C, oC) :: (D, LCg.lst ys) :: (e, oe) :: (it, oit) :: news) →
      wpAny (model prog w) A (eval elt (compEnvC scope cl C env)) (fun y s₃ => (∃ t, y = .int (g i) t) ∧ Kept h₀ L m ((C, oC) :: (D, LCg.lst ys) :: (e, oe) :: (it, oit) :: news) s s₃) E' { s with heap := h, toks := tk })
    (fin : ∀ ys D h tk, IntsAre ys (picked p g items.size) → Fr h₀ L h m → News h₀ L h ((D, LCg.lst ys) :: news) → Q (.ref D) { s with heap := h, toks := tk }) :
    wpAny (model prog w) A (call (.type "enumerate") [.ref l]) (fun xv s₁ => wpAny (model prog w) A (pyIter xv) (fun itv s₂ => Fr h₀ L s₂.heap m ∧
      (∀ (s' : Shared) (Q : Value → Shared → Prop) (E : Value → Shared → Prop), (∀ b o, s₂.heap.get? b = some o → s'.heap.get? b = some o) → Q itv s' → wpAny (model prog w) A (pyIter itv) Q E s') ∧
      LoopAt prog w A h₀ L m (.ListComp elt [⟨.Tuple [.Name a pa, .Name b pb] kk tp, iter, [c], 0⟩] scope pos) (fun C => compEnvC scope cl C env) itv s₂ (FinEx h₀ L m s₂ Q)) E s₁) E s := by
  refine call_enumerate_list (News.isList N hl) fun h' hE hI hz up => ?_
  have F' : Fr h₀ L h' m := F.keeps up
  have N' : News h₀ L h' news := N.grown up
  have fresh : ∀ q, s.heap.objs.size ≤ q → s.heap.get? q = none := fun q hq => by
    cases e : s.heap.get? q with
    | none => rfl
    | some o' => exact absurd (Heap.lt_size e) (Nat.not_lt.mpr hq)
  have fresh₀ : ∀ q, s.heap.objs.size ≤ q → h₀.get? q = none := fun q hq => by
    cases e : h₀.get? q with
    | none => rfl
    | some o' => have := F.keep q o' e; rw [fresh q hq] at this; cases this
  have hLlt : L < s.heap.objs.size := F.ns.lt
  have offn : ∀ q ∈ news, q.1 < s.heap.objs.size := fun q hq => Heap.lt_size (N q hq).1
  refine wpAny_pyIter_enum hE ⟨F', fun s' Q' E' up' hQ => wpAny_pyIter_enum (up' _ _ hE) hQ, ?_⟩
  intro D C h₁ tk₁ R hDC hD₀ hC₀ hDL hCL hDsz hCsz old₁ hacc hCns fin'
  refine enum_loop (s₂ := { s with heap := h' }) (ol := W.listOf items k) (k := k) p g hh hkind hxa hxb hab F' N' hE hI hl rfl rfl (Nat.ne_of_gt (Nat.lt_succ_self _)) (fresh₀ _ (Nat.le_succ _)) (fresh₀ _ (Nat.le_refl _)) (Nat.ne_of_gt (Nat.lt_succ_of_lt hLlt)) (Nat.ne_of_gt hLlt)
    (fun q hq => ⟨Nat.ne_of_lt (Nat.lt_succ_of_lt (offn q hq)), Nat.ne_of_lt (offn q hq)⟩) hsz (fun i x t C oC D oe oit m₂ ys h tk E' => test _ _ i x t C oC D oe oit m₂ ys h tk E') (fun i x t C oC D oe oit m₂ ys h tk E' => elem _ _ i x t C oC D oe oit m₂ ys h tk E')
    D C h₁ tk₁ R hDC hD₀ hC₀ hDL hCL hDsz hCsz old₁ hacc hCns ?_
  intro h tk ys news' oC m' F₃ hoC N₃ off₃ good
  obtain ⟨rfl, hys⟩ := good
  exact fin' h tk ys news' oC m' F₃ hoC N₃ off₃ fun D' h'' tk'' F₄ N₄ _ => fin ys D' h'' tk'' hys F₄ N₄
end
end Mine
end

/-! part K3 -/
section
open PySem PySem.W PyProof.Rows PySem.Calls PySem.Spec
set_option Elab.async false
set_option maxRecDepth 100000
set_option maxHeartbeats 2000000
namespace Mine

/-! [elt for x in codes], its elements texts -/
theorem code_at {vs : List Value} {cs : List Nat} (hi : IntsAre vs (cs.map fun n : Nat => (n : Int))) {i : Nat} {x : Value} (hx : vs.toArray[i]? = some x) : ∃ (n : Nat) (t : Tok), x = .int (n : Int) t ∧ cs[i]? = some n ∧ cs.getD i 0 = n := by
  obtain ⟨k, t, e, hk⟩ := IntsAre.at hi i x (by simpa using hx)
  rw [List.getElem?_map] at hk
  cases hc : cs[i]? with
  | none => rw [hc] at hk; cases hk
  | some n =>
    rw [hc] at hk
    simp only [Option.map_some, Option.some.injEq] at hk
    subst hk
    exact ⟨n, t, e, rfl, by rw [List.getD_eq_getElem?_getD, hc]; rfl⟩

section
variable {prog : Program} {w : World} {A : Around} {E : Value → Shared → Prop} {h₀ : Heap} {L : Addr} {m : Str → Option Value} {env : Env} {elt : PySem.Expr} {x : Str} {scope : Scope} {cl : List (Str × Addr)} {s : Shared} {news : List (Addr × Obj)}

theorem codes_rest {Fin : List Value → List (Addr × Obj) → Prop} {S : List (Addr × Obj) → Prop} {vs : List Value} {cs : List Nat} (g : Nat → Str) (hi : IntsAre vs (cs.map fun n : Nat => (n : Int)))
    (turn : ∀ n t I oI C oC D m₂ ys h tk (E' : Value → Shared → Prop), n ∈ cs → LCg.NsObj oC m₂ → m₂ x = some (.int ((n : Nat) : Int) t) → Fr h₀ L h m → News h₀ L h ((I, oI) :: (C, oC) :: (D, LCg.lst ys) :: news) → LCg.Off3 I C D news → ((@Ne Nat I C) ∧ (@Ne Nat I D) ∧ (@Ne Nat C D)) →
      wpAny (model prog w) A (eval elt (compEnvC scope cl C env)) (LCg.CompEnd h₀ L m { s with heap := h, toks := tk } I oI C oC D (LCg.lst ys) S (fun y news' => StrEl news (g n) y news')) E' { s with heap := h, toks := tk })
    (fin : ∀ ys, StrsAre ys (cs.map g) → Fin ys news) : LCg.CompRest prog w A h₀ L m env elt x scope cl s S (fun i v => vs.toArray[i]? = some v) Fin vs.toArray.size 0 [] news := by
  have hl : vs.toArray.size = cs.length := by rw [List.size_toArray]; have := hi.length; simpa using this
  have key : ∀ (j i : Nat) (ys : List Value), i + j = cs.length → StrsAre ys ((cs.take i).map g) → LCg.CompRest prog w A h₀ L m env elt x scope cl s S (fun i v => vs.toArray[i]? = some v) Fin j i ys news := by
    intro j
    induction j with
    | zero =>
      intro i ys hi hy
      have e : i = cs.length := by omega
      subst e
      rw [List.take_length] at hy
      exact LCg.CompRest.zero (fin ys hy)
    | succ j ih =>
      intro i ys hij hy
      refine LCg.CompRest.succ ?_
      intro v I oI C oC D m₂ h tk E' hv hC hx F N off ne
      obtain ⟨c, u, hv', hc', _⟩ := code_at hi hv
      rw [hv'] at hx
      refine wpAny_mono (turn c u I oI C oC D m₂ ys h tk E' (List.mem_of_getElem? hc') hC hx F N off ne) (fun y s₂ hq => ?_) fun _ _ e => e
      obtain ⟨h', tk', nw, e, F', N', off', hS, hn, t', hy'⟩ := hq
      rw [hn] at N' off' hS
      refine ⟨h', tk', news, e, F', N', off', hS, ?_⟩
      rw [hy']
      refine ih (i + 1) _ (by omega) ?_
      rw [List.take_add_one, hc']
      simpa using strs_snoc hy
  rw [hl]
  exact key _ 0 [] (by omega) (by simp only [List.take_zero, List.map_nil]; exact .nil)

/-- the library's source of a comprehension, under a name of its own: the walk stops there -/
def SrcI (prog : Program) (w : World) (A : Around) (h₀ : Heap) (L : Addr) (m : Str → Option Value) (env : Env) (elt : PySem.Expr) (x : Str) (scope : Scope) (cl : List (Str × Addr)) (Fin : Shared → List Value → List (Addr × Obj) → Prop) (xv : Value) (s₁ : Shared) : Prop :=
  LCg.CompSrc prog w A h₀ L m env elt x scope cl Fin xv s₁

theorem ListComp_I {iter : PySem.Expr} {px : Pos} {pos : Pos} {Q : Value → Shared → Prop} (F₀ : Fr h₀ L s.heap m)
    (hclos : closureFor scope env = pure cl) (hcell : ∀ y ∈ scope.names, y.2 ≠ .cell) (hkind : scope.kind = .function)
    (hnames : ∀ y ∈ scope.names, y.2 = .local → scope.names.lookup y.1 = some .local) (hx : scope.names.lookup x = some .local)
    (h : wpAny (model prog w) A (eval iter env) (SrcI prog w A h₀ L m env elt x scope cl (fun s₂ => LCg.FinE h₀ L m s₂ Q)) E s)
    (hs : ∀ x, foldedSetIterable iter env x = pure x := by intro _; rfl) :
    wpAny (model prog w) A (eval (.ListComp elt [⟨.Name x px, iter, [], 0⟩] scope pos) env) Q E s := LCg.ListComp_U F₀ hclos hcell hkind hnames hx h hs

theorem Assign_ListComp_I {iter : PySem.Expr} {y : Str} {px py : Pos} {pos spos : Pos} {Q : Flow → Shared → Prop} (F₀ : Fr h₀ L s.heap m) (hLe : env.locals = L)
    (hsw : swapsWith (.ListComp elt [⟨.Name x px, iter, [], 0⟩] scope pos) (some (.Name y py)) spos.line env = pure true)
    (hclos : closureFor scope env = pure cl) (hcell : ∀ z ∈ scope.names, z.2 ≠ .cell) (hkind : scope.kind = .function)
    (hnames : ∀ z ∈ scope.names, z.2 = .local → scope.names.lookup z.1 = some .local) (hx : scope.names.lookup x = some .local)
    (hy : env.kindOf y = some .local) (hp : (env.scope.kind == .class || (env.scope.kind == .module && env.locals != env.globals)) = false)
    (h : wpAny (model prog w) A (eval iter env) (SrcI prog w A h₀ L m env elt x scope cl (fun s₂ => LCg.FinA h₀ L m s₂ y Q)) E s)
    (hs : ∀ x, foldedSetIterable iter env x = pure x := by intro _; rfl) :
    wpAny (model prog w) A (exec (.Assign [.Name y py] (.ListComp elt [⟨.Name x px, iter, [], 0⟩] scope pos) spos) env) Q E s := LCg.Assign_ListComp_U F₀ hLe hsw hclos hcell hkind hnames hx hy hp h hs

theorem srcI_codes {Fin : Shared → List Value → List (Addr × Obj) → Prop} {ax : Addr} {vs : List Value} {cs : List Nat} {k : Nat} {s₁ : Shared} (g : Nat → Str) (F : Fr h₀ L s₁.heap m) (N : News h₀ L s₁.heap news) (hm : (ax, W.listOf vs.toArray k) ∈ news)
    (hi : IntsAre vs (cs.map fun n : Nat => (n : Int))) (hlen : cs.length ≤ 1000) (hh : A.handled = none)
    (turn : ∀ n t I oI C oC D m₂ ys h tk (E' : Value → Shared → Prop), n ∈ cs → LCg.NsObj oC m₂ → m₂ x = some (.int ((n : Nat) : Int) t) → Fr h₀ L h m → News h₀ L h ((I, oI) :: (C, oC) :: (D, LCg.lst ys) :: news) →
      wpAny (model prog w) A (eval elt (compEnvC scope cl C env)) (fun y s₃ => (∃ u, y = .str (g n) u) ∧ Kept h₀ L m ((I, oI) :: (C, oC) :: (D, LCg.lst ys) :: news) s₁ s₃) E' { s₁ with heap := h, toks := tk })
    (fin : ∀ gg ys, StrsAre ys (cs.map g) → Fin { s₁ with heap := gg } ys news) : SrcI prog w A h₀ L m env elt x scope cl Fin (.ref ax) s₁ := by
  have hsz : vs.toArray.size ≤ sizeLine := by
    rw [List.size_toArray, PySem.sizeLine_eq]; have := hi.length; simp only [List.length_map] at this; omega
  refine LCg.CompSrc.ledger hh F N hm hsz fun gg => ?_
  refine codes_rest g hi ?_ (fun ys hys => fin gg ys hys)
  intro n t I oI C oC D m₂ ys h tk E' hn hC hx F' N' off ne
  refine wpAny_mono (turn n t I oI C oC D m₂ ys h tk E' hn hC hx F' N') (fun y s₃ hq => ?_) fun _ _ e => e
  obtain ⟨⟨u, rfl⟩, h', tk', rfl, F₃, N₃⟩ := hq
  exact ⟨h', tk', news, rfl, F₃, N₃, off, .inr ⟨_, hm, rfl, _, rfl⟩, rfl, u, rfl⟩
end

theorem slice_last (ys : List Value) : slicePick ys.toArray none (some (-1)) none = ys.dropLast.toArray := by
  rw [slicePick_plain]
  have e : clipAt ys.length (-1) = ys.length - 1 := clipAt_neg ys.length 1 (Nat.le_refl _)
  simp only [Option.elim, List.drop_zero, Nat.sub_zero, List.size_toArray]
  rw [List.dropLast_eq_take, e]
theorem strs_dropLast : ∀ {vs : List Value} {ys : List Str}, StrsAre vs ys → StrsAre vs.dropLast ys.dropLast
  | _, _, .nil => .nil
  | _, _, .cons _ _ .nil => .nil
  | _, _, .cons y t (.cons z u r) => .cons y t (strs_dropLast (.cons z u r))
theorem last_at {left : List Nat} (h : 0 < (left.map fun n : Nat => (n : Int)).length) : (left.map fun n : Nat => (n : Int)).getD (-1 + ((left.map fun n : Nat => (n : Int)).length : Int)).toNat 0 = ((left.getLastD 0 : Nat) : Int) := by
  rw [List.length_map] at h ⊢
  have e : (-1 + (left.length : Int)).toNat = left.length - 1 := by omega
  rw [e, List.getD_eq_getElem?_getD, List.getElem?_map]
  have h2 : left[left.length - 1]? = some (left.getLastD 0) := by
    rw [← List.getLast?_eq_getElem?, List.getLastD_eq_getLast?]
    cases hq : left.getLast? with
    | none => rw [List.getLast?_eq_none_iff] at hq; subst hq; simp at h
    | some a => rfl
  rw [h2]
  rfl
theorem b160_of (n : Nat) : (n : Int).fmod 256 = 160 ↔ b160 n = true := by
  have e : (n : Int).fmod 256 = ((n % 256 : Nat) : Int) := fmod_nat n 256
  rw [e]
  unfold b160
  rw [beq_iff_eq]
  omega
theorem join_bang (l : List Nat) : Txt.join (Str.ofString "") ((l.map fun n => S (pic n)) ++ [Str.ofString "!"]) = S (shown l ++ [33]) := by
  have h := join_S ((l.map pic) ++ [[33]])
  rw [List.map_append, List.map_map, List.flatten_append] at h
  rw [show Str.ofString "!" = S [33] from by decide +kernel]
  unfold shown
  rw [List.flatMap_def]
  have e : ([[33]] : List (List Nat)).flatten = [33] := rfl
  rw [e] at h
  exact h
end Mine
end

/-! part K4 -/
section
open PySem PySem.W PyProof.Rows PySem.Calls PySem.Spec
set_option Elab.async false
set_option maxRecDepth 100000
set_option maxHeartbeats 2000000
namespace Mine

/-! stages: the walk stops at a statement, whose end is said once -/
def StopAt (P : Prop) : Prop := P
theorem stop_at {P : Prop} (h : StopAt P) : P := h

theorem Fr.same {h₀ h : Heap} {L : Addr} {m m' : Str → Option Value} (F : Fr h₀ L h m) (e : ∀ z, m z = m' z) : Fr h₀ L h m' := by
  have : m = m' := funext e
  subst this
  exact F

section
variable {prog : Program} {w : World} {A : Around} {E : Value → Shared → Prop} {h₀ : Heap} {L : Addr} {m : Str → Option Value} {env : Env} {s : Shared} {NN : List (Addr × Obj)}

/-- behind a statement: the name y is set to a value of which V holds, all else as it was -/
def SetTo (h₀ : Heap) (L : Addr) (m : Str → Option Value) (NN : List (Addr × Obj)) (s : Shared) (y : Str) (V : Value → Prop) (f : Flow) (s' : Shared) : Prop :=
  f = .next ∧ ∃ v h' tk', V v ∧ s' = { s with heap := h', toks := tk' } ∧ Fr h₀ L h' (fun z => if z = y then some v else m z) ∧ News h₀ L h' NN
/-- behind a statement: the name y is set to a list of ints -/
def SetList (h₀ : Heap) (L : Addr) (m : Str → Option Value) (NN : List (Addr × Obj)) (s : Shared) (y : Str) (r : List Int) (f : Flow) (s' : Shared) : Prop :=
  f = .next ∧ ∃ D vs k h' tk', IntsAre vs r ∧ s' = { s with heap := h', toks := tk' } ∧ Fr h₀ L h' (fun z => if z = y then some (.ref D) else m z) ∧ News h₀ L h' ((D, W.listOf vs.toArray k) :: NN)

theorem stage_val {stmt : Stmt} {y : Str} {Q : Flow → Shared → Prop} (V : Value → Prop) (_F : Fr h₀ L s.heap m) (_N : News h₀ L s.heap NN)
    (h1 : wpAny (model prog w) A (exec stmt env) (SetTo h₀ L m NN s y V) E s)
    (h2 : ∀ v h' tk', V v → Fr h₀ L h' (fun z => if z = y then some v else m z) → News h₀ L h' NN → Q .next { s with heap := h', toks := tk' }) : StopAt (wpAny (model prog w) A (exec stmt env) Q E s) :=
  wpAny_mono h1 (fun f s' hq => by obtain ⟨rfl, v, h', tk', hV, rfl, F', N'⟩ := hq; exact h2 v h' tk' hV F' N') fun _ _ e => e
theorem stage_list {stmt : Stmt} {y : Str} {Q : Flow → Shared → Prop} (r : List Int) (_F : Fr h₀ L s.heap m) (_N : News h₀ L s.heap NN)
    (h1 : wpAny (model prog w) A (exec stmt env) (SetList h₀ L m NN s y r) E s)
    (h2 : ∀ D vs k h' tk', IntsAre vs r → Fr h₀ L h' (fun z => if z = y then some (.ref D) else m z) → News h₀ L h' ((D, W.listOf vs.toArray k) :: NN) → Q .next { s with heap := h', toks := tk' }) : StopAt (wpAny (model prog w) A (exec stmt env) Q E s) :=
  wpAny_mono h1 (fun f s' hq => by obtain ⟨rfl, D, vs, k, h', tk', hV, rfl, F', N'⟩ := hq; exact h2 D vs k h' tk' hV F' N') fun _ _ e => e
theorem SetTo.of {y : Str} {V : Value → Prop} {v : Value} {h' : Heap} {tk' : Nat} (F : Fr h₀ L h' (fun z => if z = y then some v else m z)) (N : News h₀ L h' NN) (hV : V v) : SetTo h₀ L m NN s y V .next { s with heap := h', toks := tk' } :=
  ⟨rfl, v, h', tk', hV, rfl, F, N⟩
theorem SetTo.old {y : Str} {V : Value → Prop} {v : Value} {h' : Heap} {tk' : Nat} (F : Fr h₀ L h' m) (N : News h₀ L h' NN) (hm : m y = some v) (hV : V v) : SetTo h₀ L m NN s y V .next { s with heap := h', toks := tk' } :=
  ⟨rfl, v, h', tk', hV, rfl, Fr.same F (fun z => by
    by_cases e : z = y
    · rw [if_pos e, e, hm]
    · rw [if_neg e]), N⟩
theorem SetList.of {y : Str} {r : List Int} {D : Addr} {vs : List Value} {k : Nat} {h' : Heap} {tk' : Nat} (F : Fr h₀ L h' (fun z => if z = y then some (.ref D) else m z)) (N : News h₀ L h' ((D, W.listOf vs.toArray k) :: NN)) (hI : IntsAre vs r) : SetList h₀ L m NN s y r .next { s with heap := h', toks := tk' } :=
  ⟨rfl, D, vs, k, h', tk', hI, rfl, F, N⟩
theorem News.twice {q : Addr × Obj} {h : Heap} (N : News h₀ L h NN) (hq : q ∈ NN) : News h₀ L h (q :: NN) := fun p hp => by
  rcases List.mem_cons.mp hp with rfl | hp
  · exact N _ hq
  · exact N _ hp
theorem SetList.again {y : Str} {r : List Int} {D : Addr} {vs : List Value} {k : Nat} {h' : Heap} {tk' : Nat} (F : Fr h₀ L h' (fun z => if z = y then some (.ref D) else m z)) (N : News h₀ L h' NN) (hm : (D, W.listOf vs.toArray k) ∈ NN) (hI : IntsAre vs r) : SetList h₀ L m NN s y r .next { s with heap := h', toks := tk' } :=
  ⟨rfl, D, vs, k, h', tk', hI, rfl, F, News.twice N hm⟩
theorem SetTo.int {y : Str} {x z : Int} {t : Tok} {h' : Heap} {tk' : Nat} (F : Fr h₀ L h' (fun q => if q = y then some (.int x t) else m q)) (N : News h₀ L h' NN) (e : x = z) : SetTo h₀ L m NN s y (fun v => ∃ t, v = .int z t) .next { s with heap := h', toks := tk' } :=
  SetTo.of F N ⟨t, by rw [e]⟩
theorem SetTo.str {y : Str} {x z : Str} {t : Tok} {h' : Heap} {tk' : Nat} (F : Fr h₀ L h' (fun q => if q = y then some (.str x t) else m q)) (N : News h₀ L h' NN) (e : x = z) : SetTo h₀ L m NN s y (fun v => ∃ t, v = .str z t) .next { s with heap := h', toks := tk' } :=
  SetTo.of F N ⟨t, by rw [e]⟩
theorem SetTo.oldStr {y : Str} {x z : Str} {t : Tok} {h' : Heap} {tk' : Nat} (F : Fr h₀ L h' m) (N : News h₀ L h' NN) (hm : m y = some (.str x t)) (e : x = z) : SetTo h₀ L m NN s y (fun v => ∃ t, v = .str z t) .next { s with heap := h', toks := tk' } :=
  SetTo.old F N hm ⟨t, by rw [e]⟩
end
end Mine
end

/-! part C1 -/
section
open PySem PySem.W PyProof.Rows
set_option Elab.async false
set_option maxRecDepth 100000
set_option maxHeartbeats 8000000
namespace Mine
local macro_rules | `(tactic| walk_at "no such key") => `(tactic| fail)
local macro_rules | `(tactic| walk_at "no such key") => `(tactic| fail)
local macro_rules | `(tactic| walk_at "no such key") => `(tactic| fail)
local macro_rules | `(tactic| walk_at "no such key") => `(tactic| fail)
local macro_rules | `(tactic| walk_at "no such key") => `(tactic| fail)
local macro_rules | `(tactic| walk_at "no such key") => `(tactic| fail)
local macro_rules | `(tactic| walk_at "no such key") => `(tactic| fail)
local macro_rules | `(tactic| walk_at "no such key") => `(tactic| fail)
local macro_rules | `(tactic| walk_at "no such key") => `(tactic| fail)
local macro_rules | `(tactic| walk_at "no such key") => `(tactic| fail)
local macro_rules | `(tactic| walk_at "no such key") => `(tactic| fail)
local macro_rules | `(tactic| walk_at "no such key") => `(tactic| fail)
local macro_rules | `(tactic| walk_at "no such key") => `(tactic| fail)
local macro_rules | `(tactic| walk_at "no such key") => `(tactic| fail)
local macro_rules | `(tactic| walk_at "no such key") => `(tactic| fail)
local macro_rules | `(tactic| walk_at "no such key") => `(tactic| fail)
local macro_rules | `(tactic| walk_at "no such key") => `(tactic| fail)
local macro_rules | `(tactic| walk_at "no such key") => `(tactic| fail)
local macro_rules | `(tactic| cell_enter) => `(tactic| (refine' code_def ?k1 ?k2 ?k3 ?k4 ?k5 ?kA ?kF ?kK ?k6 ?k7 ?k8 ?k9 ?kB ?_ ?c2 ?c3 ?c4 ?c5; (case kA => exact rfl); (case kF => exact rfl); (case kK => first | exact rfl | assumption); (case k1 => k_asm); (case k2 => k_asm); (case k3 => k_asm); (case k4 => k_asm); (case k5 => k_asm); (case k6 => k_is); (case k7 => k_is); (case k8 => ktr_room); (case k9 => exact BindsTo.of_eq rfl); (case c5 => decide); (case kB => exact locs rfl); (case c2 => exact rfl); (case c3 => exact rfl); (case c4 => exact rfl); k_whole; intro g' L' h' FG' F' N' B' X' T'; (try dsimp only); (try k_lift B'); (try k_fold)))
local macro_rules | `(tactic| walk_at "call ref") => `(tactic| (k_here; refine wpAny_call ?_; k_dflt cell_enter))
local macro_rules | `(tactic| walk_at "binaryOp BitAnd int int") => `(tactic| first | with_reducible refine and127_step ?_ | with_reducible refine and128_step ?_)
local macro_rules | `(tactic| walk_at "binaryOp BitOr int int") => `(tactic| first | with_reducible refine or32lo_step (by omega) ?_ | with_reducible refine or32hi_step (by omega) ?_)
theorem c_unctrl (w : World) (mean mg mb news) (n : Nat) (hn : n < 0x110000) (t : Tok) : Cl 5 w mean mg mb 42 news [.str (S [n]) t] (fun t => .str (S (pic n)) t) := by
  unfold Cl
  k_fill
  dsimp only [Ret]; intros; rename_i hret
  refine wpAny_call ?_
  k_dflt cell_enter
  k_steps
  all_goals (refine cb_retS hret ?_ (by k_asm) (by k_asm))
  all_goals (unfold pic S)
  all_goals (repeat' split)
  all_goals first | (exfalso; omega) | rfl | (rw [show Str.ofString "^\u009f" = Str.mk #[94, 159] from by decide +kernel]; rfl) | skip
end Mine
end

/-! part C2 -/
section
open PySem PySem.W PyProof.Rows
set_option Elab.async false
set_option maxRecDepth 100000
set_option maxHeartbeats 8000000
namespace Mine
local macro_rules | `(tactic| walk_at "no such key") => `(tactic| fail)
local macro_rules | `(tactic| walk_at "no such key") => `(tactic| fail)
local macro_rules | `(tactic| walk_at "no such key") => `(tactic| fail)
local macro_rules | `(tactic| walk_at "no such key") => `(tactic| fail)
local macro_rules | `(tactic| walk_at "no such key") => `(tactic| fail)
local macro_rules | `(tactic| walk_at "no such key") => `(tactic| fail)
local macro_rules | `(tactic| walk_at "no such key") => `(tactic| fail)
local macro_rules | `(tactic| walk_at "no such key") => `(tactic| fail)
local macro_rules | `(tactic| walk_at "no such key") => `(tactic| fail)
local macro_rules | `(tactic| walk_at "no such key") => `(tactic| fail)
local macro_rules | `(tactic| walk_at "no such key") => `(tactic| fail)
local macro_rules | `(tactic| walk_at "no such key") => `(tactic| fail)
local macro_rules | `(tactic| walk_at "no such key") => `(tactic| fail)
local macro_rules | `(tactic| walk_at "no such key") => `(tactic| fail)
local macro_rules | `(tactic| walk_at "no such key") => `(tactic| fail)
local macro_rules | `(tactic| walk_at "no such key") => `(tactic| fail)
local macro_rules | `(tactic| walk_at "no such key") => `(tactic| fail)
local macro_rules | `(tactic| walk_at "no such key") => `(tactic| fail)
local macro_rules | `(tactic| walk_at "no such key") => `(tactic| fail)
local macro_rules | `(tactic| walk_at "no such key") => `(tactic| fail)
local macro_rules | `(tactic| walk_at "no such key") => `(tactic| fail)
local macro_rules | `(tactic| cell_enter) => `(tactic| (refine' code_def ?k1 ?k2 ?k3 ?k4 ?k5 ?kA ?kF ?kK ?k6 ?k7 ?k8 ?k9 ?kB ?_ ?c2 ?c3 ?c4 ?c5; (case kA => exact rfl); (case kF => exact rfl); (case kK => first | exact rfl | assumption); (case k1 => k_asm); (case k2 => k_asm); (case k3 => k_asm); (case k4 => k_asm); (case k5 => k_asm); (case k6 => k_is); (case k7 => k_is); (case k8 => ktr_room); (case k9 => exact BindsTo.of_eq rfl); (case c5 => decide); (case kB => exact locs rfl); (case c2 => exact rfl); (case c3 => exact rfl); (case c4 => exact rfl); k_whole; intro g' L' h' FG' F' N' B' X' T'; (try dsimp only); (try k_lift B'); (try k_fold)))
local macro_rules | `(tactic| walk_at "call ref") => `(tactic| (k_here; refine wpAny_call ?_; k_dflt cell_enter))
theorem c_white (w : World) (mean mg mb news) (n : Nat) (t : Tok) : Cl 5 w mean mg mb 56 news [.int (n : Int) t] (fun _ => .bool (white n)) := by
  unfold Cl
  k_fill
  dsimp only [Ret]; intros; rename_i hret
  refine wpAny_call ?_
  k_dflt cell_enter
  k_steps
  all_goals (refine cb_retB hret ?_ (by k_asm) (by first | k_asm | (refine' cb_drop ?cbN ?cbS; (case cbN => assumption); (case cbS => kcj_all))))
  all_goals (unfold white)
  all_goals (first | (apply decide_eq_decide.mpr; omega) | (simp only [List.any_cons, List.any_nil, Bool.or_false]; rw [Bool.eq_iff_iff]; simp only [Bool.or_eq_true, beq_iff_eq, decide_eq_true_eq]; omega))
end Mine
end

/-! part C3 -/
section
open PySem PySem.W PyProof.Rows
set_option Elab.async false
set_option maxRecDepth 100000
set_option maxHeartbeats 8000000
namespace Mine
local macro_rules | `(tactic| walk_at "no such key") => `(tactic| fail)
local macro_rules | `(tactic| walk_at "no such key") => `(tactic| fail)
local macro_rules | `(tactic| walk_at "no such key") => `(tactic| fail)
local macro_rules | `(tactic| walk_at "no such key") => `(tactic| fail)
local macro_rules | `(tactic| walk_at "no such key") => `(tactic| fail)
local macro_rules | `(tactic| walk_at "no such key") => `(tactic| fail)
local macro_rules | `(tactic| walk_at "no such key") => `(tactic| fail)
local macro_rules | `(tactic| walk_at "no such key") => `(tactic| fail)
local macro_rules | `(tactic| walk_at "no such key") => `(tactic| fail)
local macro_rules | `(tactic| walk_at "no such key") => `(tactic| fail)
local macro_rules | `(tactic| walk_at "no such key") => `(tactic| fail)
local macro_rules | `(tactic| walk_at "no such key") => `(tactic| fail)
local macro_rules | `(tactic| walk_at "no such key") => `(tactic| fail)
local macro_rules | `(tactic| walk_at "no such key") => `(tactic| fail)
local macro_rules | `(tactic| walk_at "no such key") => `(tactic| fail)
local macro_rules | `(tactic| walk_at "no such key") => `(tactic| fail)
local macro_rules | `(tactic| walk_at "no such key") => `(tactic| fail)
local macro_rules | `(tactic| walk_at "no such key") => `(tactic| fail)
local macro_rules | `(tactic| walk_at "no such key") => `(tactic| fail)
local macro_rules | `(tactic| walk_at "no such key") => `(tactic| fail)
local macro_rules | `(tactic| walk_at "no such key") => `(tactic| fail)
local macro_rules | `(tactic| walk_at "no such key") => `(tactic| fail)
local macro_rules | `(tactic| cell_enter) => `(tactic| (refine' code_def ?k1 ?k2 ?k3 ?k4 ?k5 ?kA ?kF ?kK ?k6 ?k7 ?k8 ?k9 ?kB ?_ ?c2 ?c3 ?c4 ?c5; (case kA => exact rfl); (case kF => exact rfl); (case kK => first | exact rfl | assumption); (case k1 => k_asm); (case k2 => k_asm); (case k3 => k_asm); (case k4 => k_asm); (case k5 => k_asm); (case k6 => k_is); (case k7 => k_is); (case k8 => ktr_room); (case k9 => exact BindsTo.of_eq rfl); (case c5 => decide); (case kB => exact locs rfl); (case c2 => exact rfl); (case c3 => exact rfl); (case c4 => exact rfl); k_whole; intro g' L' h' FG' F' N' B' X' T'; (try dsimp only); (try k_lift B'); (try k_fold)))
local macro_rules | `(tactic| walk_at "call ref") => `(tactic| (k_here; refine wpAny_call ?_; k_dflt cell_enter))
theorem c_picture (w : World) (mean mg mb news) (n : Nat) (hn : n < 0x110000) (t : Tok) : Cl 5 w mean mg mb 63 news [.int (n : Int) t] (fun t => .str (S (pic n)) t) := by
  have e1 : (n : Int).fmod 128 = ((n % 128 : Nat) : Int) := fmod_nat n 128
  have e2 : (n : Int).fdiv 128 = ((n / 128 : Nat) : Int) := fdiv_nat n 128
  have e3 : ((n : Int).fdiv 128).fmod 2 = ((n / 128 % 2 : Nat) : Int) := by rw [e2]; exact fmod_nat _ 2
  unfold Cl
  k_fill
  dsimp only [Ret]; intros; rename_i hret
  refine wpAny_call ?_
  k_dflt cell_enter
  k_steps
  all_goals (refine cb_retS hret ?_ (by k_asm) (by k_asm))
  all_goals (unfold pic)
  all_goals (simp only [e1, e3] at *)
  all_goals (repeat' split)
  all_goals first | (exfalso; omega) | rfl | (rw [show Str.ofString "^\u009f" = Str.mk #[94, 159] from by decide +kernel]; rfl) | (rw [letter_at _ (by omega)]; rfl) | skip
end Mine
end

/-! part C4 -/
section
open PySem PySem.W PyProof.Rows
set_option Elab.async false
set_option maxRecDepth 100000
set_option maxHeartbeats 8000000
namespace Mine
local macro_rules | `(tactic| walk_at "no such key") => `(tactic| fail)
local macro_rules | `(tactic| walk_at "no such key") => `(tactic| fail)
local macro_rules | `(tactic| walk_at "no such key") => `(tactic| fail)
local macro_rules | `(tactic| walk_at "no such key") => `(tactic| fail)
local macro_rules | `(tactic| walk_at "no such key") => `(tactic| fail)
local macro_rules | `(tactic| walk_at "no such key") => `(tactic| fail)
local macro_rules | `(tactic| walk_at "no such key") => `(tactic| fail)
local macro_rules | `(tactic| walk_at "no such key") => `(tactic| fail)
local macro_rules | `(tactic| walk_at "no such key") => `(tactic| fail)
local macro_rules | `(tactic| walk_at "no such key") => `(tactic| fail)
local macro_rules | `(tactic| walk_at "no such key") => `(tactic| fail)
local macro_rules | `(tactic| walk_at "no such key") => `(tactic| fail)
local macro_rules | `(tactic| walk_at "no such key") => `(tactic| fail)
local macro_rules | `(tactic| walk_at "no such key") => `(tactic| fail)
local macro_rules | `(tactic| walk_at "no such key") => `(tactic| fail)
local macro_rules | `(tactic| walk_at "no such key") => `(tactic| fail)
local macro_rules | `(tactic| walk_at "no such key") => `(tactic| fail)
local macro_rules | `(tactic| walk_at "no such key") => `(tactic| fail)
local macro_rules | `(tactic| walk_at "no such key") => `(tactic| fail)
local macro_rules | `(tactic| walk_at "no such key") => `(tactic| fail)
local macro_rules | `(tactic| walk_at "no such key") => `(tactic| fail)
local macro_rules | `(tactic| walk_at "no such key") => `(tactic| fail)
local macro_rules | `(tactic| walk_at "no such key") => `(tactic| fail)
local macro_rules | `(tactic| cell_enter) => `(tactic| (refine' code_def ?k1 ?k2 ?k3 ?k4 ?k5 ?kA ?kF ?kK ?k6 ?k7 ?k8 ?k9 ?kB ?_ ?c2 ?c3 ?c4 ?c5; (case kA => exact rfl); (case kF => exact rfl); (case kK => first | exact rfl | assumption); (case k1 => k_asm); (case k2 => k_asm); (case k3 => k_asm); (case k4 => k_asm); (case k5 => k_asm); (case k6 => k_is); (case k7 => k_is); (case k8 => ktr_room); (case k9 => exact BindsTo.of_eq rfl); (case c5 => decide); (case kB => exact locs rfl); (case c2 => exact rfl); (case c3 => exact rfl); (case c4 => exact rfl); k_whole; intro g' L' h' FG' F' N' B' X' T'; (try dsimp only); (try k_lift B'); (try k_fold)))
local macro_rules | `(tactic| walk_at "call ref") => `(tactic| (k_here; refine wpAny_call ?_; k_dflt cell_enter))
theorem c_comment (w : World) (mean mg mb news) (l : List Nat) (hl : (S l).length ≤ 100000) (t : Tok) : Cl 5 w mean mg mb 21 news [.str (S l) t] (fun t => .str (S (comment l)) t) := by
  unfold Cl
  k_fill
  dsimp only [Ret]; intros; rename_i hret
  refine wpAny_call ?_
  k_dflt cell_enter
  k_steps
  all_goals (refine cb_retS hret ?_ (by k_asm) (by k_asm))
  all_goals first | exact comment_pos (by assumption) | exact comment_neg (by assumption)
end Mine
end

/-! part C5 -/
section
open PySem PySem.W PyProof.Rows
set_option Elab.async false
set_option maxRecDepth 100000
set_option maxHeartbeats 8000000
namespace Mine
local macro_rules | `(tactic| walk_at "no such key") => `(tactic| fail)
local macro_rules | `(tactic| walk_at "no such key") => `(tactic| fail)
local macro_rules | `(tactic| walk_at "no such key") => `(tactic| fail)
local macro_rules | `(tactic| walk_at "no such key") => `(tactic| fail)
local macro_rules | `(tactic| walk_at "no such key") => `(tactic| fail)
local macro_rules | `(tactic| walk_at "no such key") => `(tactic| fail)
local macro_rules | `(tactic| walk_at "no such key") => `(tactic| fail)
local macro_rules | `(tactic| walk_at "no such key") => `(tactic| fail)
local macro_rules | `(tactic| walk_at "no such key") => `(tactic| fail)
local macro_rules | `(tactic| walk_at "no such key") => `(tactic| fail)
local macro_rules | `(tactic| walk_at "no such key") => `(tactic| fail)
local macro_rules | `(tactic| walk_at "no such key") => `(tactic| fail)
local macro_rules | `(tactic| walk_at "no such key") => `(tactic| fail)
local macro_rules | `(tactic| walk_at "no such key") => `(tactic| fail)
local macro_rules | `(tactic| walk_at "no such key") => `(tactic| fail)
local macro_rules | `(tactic| walk_at "no such key") => `(tactic| fail)
local macro_rules | `(tactic| walk_at "no such key") => `(tactic| fail)
local macro_rules | `(tactic| walk_at "no such key") => `(tactic| fail)
local macro_rules | `(tactic| walk_at "no such key") => `(tactic| fail)
local macro_rules | `(tactic| walk_at "no such key") => `(tactic| fail)
local macro_rules | `(tactic| walk_at "no such key") => `(tactic| fail)
local macro_rules | `(tactic| walk_at "no such key") => `(tactic| fail)
local macro_rules | `(tactic| walk_at "no such key") => `(tactic| fail)
local macro_rules | `(tactic| cell_enter) => `(tactic| (refine' code_def ?k1 ?k2 ?k3 ?k4 ?k5 ?kA ?kF ?kK ?k6 ?k7 ?k8 ?k9 ?kB ?_ ?c2 ?c3 ?c4 ?c5; (case kA => exact rfl); (case kF => exact rfl); (case kK => first | exact rfl | assumption); (case k1 => k_asm); (case k2 => k_asm); (case k3 => k_asm); (case k4 => k_asm); (case k5 => k_asm); (case k6 => k_is); (case k7 => k_is); (case k8 => ktr_room); (case k9 => exact BindsTo.of_eq rfl); (case c5 => decide); (case kB => exact locs rfl); (case c2 => exact rfl); (case c3 => exact rfl); (case c4 => exact rfl); k_whole; intro g' L' h' FG' F' N' B' X' T'; (try dsimp only); (try k_lift B'); (try k_fold)))
local macro_rules | `(tactic| walk_at "call ref") => `(tactic| (k_here; k_dflt (refine' Cl.use (c_white _ _ _ _ _ _ _) ?k1 ?k2 ?k3 ?k4 ?k5 ?kK ?kd ?ku ?_; (case k1 => k_asm); (case k2 => k_asm); (case k3 => k_asm); (case k4 => k_asm); (case k5 => k_asm); (case kK => first | exact rfl | assumption); (case kd => ktr_room); (case ku => ktr_units); k_whole; intro t9 h9 tk9 F9 N9; (try dsimp only); (try k_fold))))

local macro_rules | `(tactic| walk_at "eval ListComp") => `(tactic| (k_here; k_dflt (refine ListComp_G (by k_asm) (by with_unfolding_all rfl) (by decide) (by rfl) (by decide) ?_)))
theorem c_bared (w : World) (mean mg mb news) (k1 : Nat) (vs : List Value) (cs : List Nat) (hi : IntsAre vs (cs.map fun n : Nat => (n : Int))) (hlen : cs.length ≤ 1000) (l : Addr) : ClL 10 w mean mg mb 68 ((l, W.listOf vs.toArray k1) :: news) [.ref l] ((cut white cs).map fun n : Nat => (n : Int)) := by
  unfold ClL
  k_fill
  intros; rename_i hret
  refine wpAny_call ?_
  k_dflt cell_enter
  k_steps
  have hvl : vs.length = cs.length := by have := hi.length; simpa using this
  refine' enum_src (a := Str.ofString "place") (b := Str.ofString "code") (fun i => !white (cs.getD i 0)) (fun i => (i : Int) + 1) ?F ?N ?hm ?hh ?hk ?ha ?hb (by decide) ?sz ?test ?elem ?fin
  case F => k_asm
  case N => k_asm
  case hm => k_mem
  case hh => rfl
  case hk => rfl
  case ha => rfl
  case hb => rfl
  case sz => rw [List.size_toArray, hvl, PySem.sizeLine_eq]; omega
  case test =>
    intro e it i x t C oC D oe oit m₂ ys h tk E' hlt hx hoC ha hb F' N'
    obtain ⟨n, tx, rfl, hc, hd⟩ := code_at hi hx
    rw [hd]
    k_steps
    exact ⟨_, _, rfl, by k_asm, by k_asm⟩
  case elem =>
    intro e it i x t C oC D oe oit m₂ ys h tk E' hlt hx hp hoC ha hb F' N'
    k_steps
    exact ⟨_, _, rfl, by k_asm, by k_asm⟩
  case fin =>
    intro ys D h tk hys F' N'
    have hpl : (picked (fun i => !white (cs.getD i 0)) (fun i => (i : Int) + 1) vs.toArray.size).length ≤ 1000 := by
      unfold picked
      rw [List.length_map]
      refine Nat.le_trans (List.length_filter_le _ _) ?_
      rw [List.length_range, List.size_toArray, hvl]
      exact hlen
    have hz : vs.toArray.size = cs.length := by rw [List.size_toArray]; exact hvl
    rw [hz] at hys hpl
    k_steps
    · obtain ⟨h1, _, _⟩ := cut_take white cs _ (by assumption) (by assumption)
      exfalso; omega
    · obtain ⟨h1, _, h3⟩ := cut_take white cs _ (by assumption) (by assumption)
      refine hret _ _ 0 _ _ ?_ (by k_asm) (by first | k_asm | (refine' cb_drop ?cbN ?cbS; (case cbN => assumption); (case cbS => kcj_all)))
      rw [← h3, List.map_take]
      assumption
end Mine
end

/-! part C6 -/
section
open PySem PySem.W PyProof.Rows
set_option Elab.async false
set_option maxRecDepth 100000
set_option maxHeartbeats 8000000
namespace Mine
local macro_rules | `(tactic| walk_at "no such key") => `(tactic| fail)
local macro_rules | `(tactic| walk_at "no such key") => `(tactic| fail)
local macro_rules | `(tactic| walk_at "no such key") => `(tactic| fail)
local macro_rules | `(tactic| walk_at "no such key") => `(tactic| fail)
local macro_rules | `(tactic| walk_at "no such key") => `(tactic| fail)
local macro_rules | `(tactic| walk_at "no such key") => `(tactic| fail)
local macro_rules | `(tactic| walk_at "no such key") => `(tactic| fail)
local macro_rules | `(tactic| walk_at "no such key") => `(tactic| fail)
local macro_rules | `(tactic| walk_at "no such key") => `(tactic| fail)
local macro_rules | `(tactic| walk_at "no such key") => `(tactic| fail)
local macro_rules | `(tactic| walk_at "no such key") => `(tactic| fail)
local macro_rules | `(tactic| walk_at "no such key") => `(tactic| fail)
local macro_rules | `(tactic| walk_at "no such key") => `(tactic| fail)
local macro_rules | `(tactic| walk_at "no such key") => `(tactic| fail)
local macro_rules | `(tactic| walk_at "no such key") => `(tactic| fail)
local macro_rules | `(tactic| walk_at "no such key") => `(tactic| fail)
local macro_rules | `(tactic| walk_at "no such key") => `(tactic| fail)
local macro_rules | `(tactic| walk_at "no such key") => `(tactic| fail)
local macro_rules | `(tactic| walk_at "no such key") => `(tactic| fail)
local macro_rules | `(tactic| walk_at "no such key") => `(tactic| fail)
local macro_rules | `(tactic| walk_at "no such key") => `(tactic| fail)
local macro_rules | `(tactic| walk_at "no such key") => `(tactic| fail)
local macro_rules | `(tactic| walk_at "no such key") => `(tactic| fail)
local macro_rules | `(tactic| cell_enter) => `(tactic| (refine' code_def ?k1 ?k2 ?k3 ?k4 ?k5 ?kA ?kF ?kK ?k6 ?k7 ?k8 ?k9 ?kB ?_ ?c2 ?c3 ?c4 ?c5; (case kA => exact rfl); (case kF => exact rfl); (case kK => first | exact rfl | assumption); (case k1 => k_asm); (case k2 => k_asm); (case k3 => k_asm); (case k4 => k_asm); (case k5 => k_asm); (case k6 => k_is); (case k7 => k_is); (case k8 => ktr_room); (case k9 => exact BindsTo.of_eq rfl); (case c5 => decide); (case kB => exact locs rfl); (case c2 => exact rfl); (case c3 => exact rfl); (case c4 => exact rfl); k_whole; intro g' L' h' FG' F' N' B' X' T'; (try dsimp only); (try k_lift B'); (try k_fold)))
local macro_rules | `(tactic| walk_at "call ref") => `(tactic| (k_here; k_dflt (refine' Cl.use (c_picture _ _ _ _ _ _ ?kp _) ?k1 ?k2 ?k3 ?k4 ?k5 ?kK ?kd ?ku ?_; (case k1 => k_asm); (case k2 => k_asm); (case k3 => k_asm); (case k4 => k_asm); (case k5 => k_asm); (case kK => first | exact rfl | assumption); (case kp => assumption); (case kd => ktr_room); (case ku => ktr_units); k_whole; intro t9 h9 tk9 F9 N9; (try dsimp only); (try k_fold))))

local macro_rules | `(tactic| walk_at "eval ListComp") => `(tactic| (k_here; k_dflt (refine ListComp_G (by k_asm) (by with_unfolding_all rfl) (by decide) (by rfl) (by decide) ?_)))
local macro_rules | `(tactic| walk_at "exec Assign cons ListComp") => `(tactic| (k_here; k_dflt (refine Assign_ListComp_I (by k_asm) (by rfl) (by with_unfolding_all rfl) (by with_unfolding_all rfl) (by decide) (by rfl) (by decide) (by rfl) (by rfl) (by rfl) ?_)))
theorem c_trimmed (w : World) (mean mg mb news) (k1 : Nat) (vs : List Value) (cs : List Nat) (hi : IntsAre vs (cs.map fun n : Nat => (n : Int))) (hcs : ∀ c ∈ cs, c < 0x110000) (hlen : cs.length ≤ 1000) (l : Addr) : Cl 10 w mean mg mb 73 ((l, W.listOf vs.toArray k1) :: news) [.ref l] (fun t => .str (S (trimmed cs)) t) := by
  unfold Cl
  k_fill
  dsimp only [Ret]; intros; rename_i hret
  refine wpAny_call ?_
  k_dflt cell_enter
  k_steps
  have hvl : vs.length = cs.length := by have := hi.length; simpa using this
  refine' enum_src (a := Str.ofString "place") (b := Str.ofString "code") (fun i => !b32 (cs.getD i 0)) (fun i => (i : Int) + 1) ?F ?N ?hm ?hh ?hk ?ha ?hb (by decide) ?sz ?test ?elem ?fin
  case F => k_asm
  case N => k_asm
  case hm => k_mem
  case hh => rfl
  case hk => rfl
  case ha => rfl
  case hb => rfl
  case sz => rw [List.size_toArray, hvl, PySem.sizeLine_eq]; omega
  case test =>
    intro e it i x t C oC D oe oit m₂ ys h tk E' hlt hx hoC ha hb F' N'
    obtain ⟨n, tx, rfl, hc, hd⟩ := code_at hi hx
    rw [hd]
    k_steps
    · exact b32_of n
    · exact ⟨_, _, rfl, by k_asm, by k_asm⟩
  case elem =>
    intro e it i x t C oC D oe oit m₂ ys h tk E' hlt hx hp hoC ha hb F' N'
    k_steps
    exact ⟨_, _, rfl, by k_asm, by k_asm⟩
  case fin =>
    intro ys D h tk hys F' N'
    have hpl : (picked (fun i => !b32 (cs.getD i 0)) (fun i => (i : Int) + 1) vs.toArray.size).length ≤ 1000 := by
      unfold picked
      rw [List.length_map]
      refine Nat.le_trans (List.length_filter_le _ _) ?_
      rw [List.length_range, List.size_toArray, hvl]
      exact hlen
    have hz : vs.toArray.size = cs.length := by rw [List.size_toArray]; exact hvl
    rw [hz] at hys hpl
    k_steps
    · obtain ⟨h1, _, _⟩ := cut_take b32 cs _ (by assumption) (by assumption)
      exfalso; omega
    · obtain ⟨h1, _, h3⟩ := cut_take b32 cs _ (by assumption) (by assumption)
      rename IntsAre _ (List.take _ _) => hI2
      rw [← List.map_take, h3] at hI2
      have hll : (cut b32 cs).length ≤ 1000 := Nat.le_trans (cut_len _ _) hlen
      have hlc : ∀ c ∈ cut b32 cs, c < 0x110000 := fun c hc => hcs c (cut_mem hc)
      unfold trimmed at hret
      generalize cut b32 cs = left at *
      refine' srcI_codes (fun n => S (pic n)) ?F ?N ?hm hI2 hll ?hh ?turn ?fin
      case F => k_asm
      case N => k_asm
      case hm => k_mem
      case hh => rfl
      case turn =>
        intro n t I oI C oC D m₂ ys h tk E' hn hoC hx F' N'
        have hnn := hlc n hn
        k_steps
        exact ⟨_, _, rfl, by k_asm, by k_asm⟩
      case fin =>
        intro gg ys hys D h tk F' N' off'
        have hyl : ys.length ≤ 1000 := by have h9 := hys.length; rw [List.length_map] at h9; omega
        have hsum := sum_len pic 3 pic_len left
        k_steps
        · rename News _ _ _ _ => NN
          dsimp only at NN
          rw [slice_last] at NN
          refine add_arrays (by k_asm) NN (News.isList NN (by k_mem)) (News.isList NN (by k_mem)) ?_ (by rw [PySem.sizeLine_eq, List.size_toArray, List.size_toArray, List.length_dropLast]; simp only [List.length_cons, List.length_nil]; omega)
          intro h2 F2 N2
          k_steps
          refine join_list (News.isList N2 (by k_mem)) (ys := (left.dropLast.map fun n => S (pic n)) ++ [Str.ofString "!"]) ?hst ?ok ?_
          case hst =>
            refine strs_snoc ?_
            rw [List.map_dropLast]
            exact strs_dropLast hys
          case ok =>
            have h9 := sum_len pic 3 pic_len left.dropLast
            rw [show (Str.ofString "").length = 0 from by decide +kernel, List.map_append, List.sum_append, List.map_cons, List.map_nil, List.sum_singleton, show (Str.ofString "!").length = 1 from by decide +kernel]
            rw [List.length_dropLast] at h9
            omega
          intro t' k'
          k_steps
          refine cb_retS hret ?_ (by k_asm) (by first | k_asm | (refine' cb_drop ?cbN ?cbS; (case cbN => assumption); (case cbS => kcj_all)))
          rw [join_bang, if_pos]
          refine ⟨?_, (b160_of _).mp ?_⟩
          · rintro rfl
            rename 0 < _ => h9
            simp at h9
          · rw [← last_at (by assumption)]
            assumption
        · refine join_list (News.isList (by k_asm) (by k_mem)) (ys := left.map fun n => S (pic n)) (by exact hys) (by rw [show (Str.ofString "").length = 0 from by decide +kernel]; omega) ?_
          intro t' k'
          k_steps
          refine cb_retS hret ?_ (by k_asm) (by first | k_asm | (refine' cb_drop ?cbN ?cbS; (case cbN => assumption); (case cbS => kcj_all)))
          rw [join_flat]
          rw [if_neg]
          · rfl
          · rintro ⟨_, h9⟩
            rename Int.fmod _ _ ≠ 160 => h8
            refine h8 ?_
            rw [last_at (by assumption)]
            exact (b160_of _).mpr h9
        · refine join_list (News.isList (by k_asm) (by k_mem)) (ys := left.map fun n => S (pic n)) (by exact hys) (by rw [show (Str.ofString "").length = 0 from by decide +kernel]; omega) ?_
          intro t' k'
          k_steps
          refine cb_retS hret ?_ (by k_asm) (by first | k_asm | (refine' cb_drop ?cbN ?cbS; (case cbN => assumption); (case cbS => kcj_all)))
          rw [join_flat]
          rw [if_neg]
          · rfl
          · rintro ⟨h9, _⟩
            have h8 := List.length_pos_iff.mpr h9
            simp only [List.length_map] at *
            omega
end Mine
end

/-! part C7 -/
section
open PySem PySem.W PyProof.Rows
set_option Elab.async false
set_option maxRecDepth 100000
set_option maxHeartbeats 8000000
namespace Mine
local macro_rules | `(tactic| walk_at "no such key") => `(tactic| fail)
local macro_rules | `(tactic| walk_at "no such key") => `(tactic| fail)
local macro_rules | `(tactic| walk_at "no such key") => `(tactic| fail)
local macro_rules | `(tactic| walk_at "no such key") => `(tactic| fail)
local macro_rules | `(tactic| walk_at "no such key") => `(tactic| fail)
local macro_rules | `(tactic| walk_at "no such key") => `(tactic| fail)
local macro_rules | `(tactic| walk_at "no such key") => `(tactic| fail)
local macro_rules | `(tactic| walk_at "no such key") => `(tactic| fail)
local macro_rules | `(tactic| walk_at "no such key") => `(tactic| fail)
local macro_rules | `(tactic| walk_at "no such key") => `(tactic| fail)
local macro_rules | `(tactic| walk_at "no such key") => `(tactic| fail)
local macro_rules | `(tactic| walk_at "no such key") => `(tactic| fail)
local macro_rules | `(tactic| walk_at "no such key") => `(tactic| fail)
local macro_rules | `(tactic| walk_at "no such key") => `(tactic| fail)
local macro_rules | `(tactic| walk_at "no such key") => `(tactic| fail)
local macro_rules | `(tactic| walk_at "no such key") => `(tactic| fail)
local macro_rules | `(tactic| walk_at "no such key") => `(tactic| fail)
local macro_rules | `(tactic| walk_at "no such key") => `(tactic| fail)
local macro_rules | `(tactic| walk_at "no such key") => `(tactic| fail)
local macro_rules | `(tactic| cell_enter) => `(tactic| (refine' code_def ?k1 ?k2 ?k3 ?k4 ?k5 ?kA ?kF ?kK ?k6 ?k7 ?k8 ?k9 ?kB ?_ ?c2 ?c3 ?c4 ?c5; (case kA => exact rfl); (case kF => exact rfl); (case kK => first | exact rfl | assumption); (case k1 => k_asm); (case k2 => k_asm); (case k3 => k_asm); (case k4 => k_asm); (case k5 => k_asm); (case k6 => k_is); (case k7 => k_is); (case k8 => ktr_room); (case k9 => exact BindsTo.of_eq rfl); (case c5 => decide); (case kB => exact locs rfl); (case c2 => exact rfl); (case c3 => exact rfl); (case c4 => exact rfl); k_whole; intro g' L' h' FG' F' N' B' X' T'; (try dsimp only); (try k_lift B'); (try k_fold)))
local macro_rules | `(tactic| walk_at "execs cons") => `(tactic| (k_here; (with_reducible show wpAny _ _ (execs [Stmt.Assign [Expr.Name (Str.ofString "body") _] (Expr.Call (Expr.Attribute (Expr.Name (Str.ofString "body") _) _ _) _ _ _) _] _) _ _ _); refine wpAny_execs_cons ?_))
theorem flat_one (l : List Nat) : (l.flatMap fun n => [n]) = l := by simp
local macro_rules | `(tactic| walk_at "call ref") => `(tactic| (k_here; k_dflt (refine' Cl.use (c_trimmed _ _ _ _ _ _ _ _ ?kp ?kq ?kr _) ?k1 ?k2 ?k3 ?k4 ?k5 ?kK ?kd ?ku ?_; (case k1 => k_asm); (case k2 => k_asm); (case k3 => k_asm); (case k4 => k_asm); (case k5 => k_asm); (case kK => first | exact rfl | assumption); (case kp => assumption); (case kq => assumption); (case kr => assumption); (case kd => ktr_room); (case ku => ktr_units); k_whole; intro t9 h9 tk9 F9 N9; (try dsimp only); (try k_fold))))
local macro_rules | `(tactic| walk_at "call ref") => `(tactic| (k_here; k_dflt (refine' ClL.use (c_bared _ _ _ _ _ _ _ _ ?kp ?kq _) ?k1 ?k2 ?k3 ?k4 ?k5 ?kK ?kd ?ku ?_; (case k1 => k_asm); (case k2 => k_asm); (case k3 => k_asm); (case k4 => k_asm); (case k5 => k_asm); (case kK => first | exact rfl | assumption); (case kp => assumption); (case kq => assumption); (case kd => ktr_room); (case ku => ktr_units); k_whole; intro D9 ys9 k9 h9 tk9 I9 F9 N9; (try dsimp only); (try k_fold))))
local macro_rules | `(tactic| walk_at "call ref") => `(tactic| (k_here; k_dflt (refine' Cl.use (c_picture _ _ _ _ _ _ ?kp _) ?k1 ?k2 ?k3 ?k4 ?k5 ?kK ?kd ?ku ?_; (case k1 => k_asm); (case k2 => k_asm); (case k3 => k_asm); (case k4 => k_asm); (case k5 => k_asm); (case kK => first | exact rfl | assumption); (case kp => assumption); (case kd => ktr_room); (case ku => ktr_units); k_whole; intro t9 h9 tk9 F9 N9; (try dsimp only); (try k_fold))))

local macro_rules | `(tactic| walk_at "eval ListComp") => `(tactic| (k_here; k_dflt (refine ListComp_I (by k_asm) (by with_unfolding_all rfl) (by decide) (by rfl) (by decide) (by rfl) ?_)))
local macro_rules | `(tactic| walk_at "exec Assign") => `(tactic| (k_here; (with_reducible show wpAny _ _ (exec (Stmt.Assign [Expr.Name (Str.ofString "ahead") _] _ _) _) _ _ _); refine stop_at ?_))
local macro_rules | `(tactic| walk_at "exec Assign") => `(tactic| (k_here; (with_reducible show wpAny _ _ (exec (Stmt.Assign [Expr.Name (Str.ofString "kept") _] _ _) _) _ _ _); refine stop_at ?_))
local macro_rules | `(tactic| walk_at "exec If") => `(tactic| (k_here; (with_reducible show wpAny _ _ (exec (Stmt.If (Expr.Compare (Expr.Name (Str.ofString "shows") _) _ _ _) _ _ _) _) _ _ _); refine stop_at ?_))
theorem c_told (w : World) (mean mg mb news) (k1 : Nat) (vs : List Value) (cs : List Nat) (hi : IntsAre vs (cs.map fun n : Nat => (n : Int))) (hcs : ∀ c ∈ cs, c < 0x110000) (hlen : cs.length ≤ 1000) (l : Addr) (k2 : Nat) (l2 : Addr) (vs2 : List Value) (st : List Int) (hi2 : IntsAre vs2 st) (hst : ∀ x ∈ st, x = 0 ∨ x = 1) (hlen2 : st.length ≤ 3) : Cl 15 w mean mg mb 78 ((l, W.listOf vs.toArray k1) :: (l2, W.listOf vs2.toArray k2) :: news) [.ref l, .ref l2] (fun t => .str (S (told cs st)) t) := by
  unfold Cl
  k_fill
  dsimp only [Ret]; intros; rename_i hret
  refine wpAny_call ?_
  k_dflt cell_enter
  have hs0 : 0 ≤ st.sum := (sum_bounds hst).1
  have hs1 : st.sum ≤ st.length := (sum_bounds hst).2
  k_steps
  refine stage_val (y := Str.ofString "ahead") (fun v => ∃ t, v = .int (aheadI st) t) (by k_asm) (by k_asm) ?h1 ?h2
  case h1 =>
    refine wpAny_Assign_Name ?_
    k_steps
    · refine index_list_ints (News.isList (by k_asm) (by k_mem)) hi2 (lay_steps hst hlen2) (mem_one hst (by assumption)) ?_
      k_steps
      refine SetTo.int (by k_asm) (by k_asm) ?_
      unfold aheadI
      rw [if_pos (by assumption)]
    · refine SetTo.int (by k_asm) (by k_asm) ?_
      unfold aheadI
      rw [if_neg (fun h => h (by assumption))]
      rfl
  case h2 =>
    rintro v h' tk' ⟨t, rfl⟩ F' N'
    k_steps
    refine stage_list (y := Str.ofString "kept") ((keptOf cs st).map fun n : Nat => (n : Int)) (by k_asm) (by k_asm) ?h1 ?h2
    case h1 =>
      refine wpAny_Assign_Name ?_
      k_steps
      · refine SetList.of (by k_asm) (by k_asm) ?_
        unfold keptOf
        rw [if_pos (by assumption)]
        assumption
      · refine SetList.again (by k_asm) (by k_asm) (by k_mem) ?_
        unfold keptOf
        rw [if_neg (fun h => h (by assumption))]
        exact hi
    case h2 =>
      intro D vs' k' h' tk' hi' F' N'
      have hkc : ∀ c ∈ keptOf cs st, c < 0x110000 := fun c hc => by
        unfold keptOf at hc
        split at hc
        · exact hcs c (cut_mem hc)
        · exact hcs c hc
      have hkl : (keptOf cs st).length ≤ 1000 := by
        unfold keptOf
        split
        · exact Nat.le_trans (cut_len _ _) hlen
        · exact hlen
      have hbody : body0 cs st = if st.sum = 0 then keptOf cs st else if notesI st > aheadI st then trimmed (keptOf cs st) else shown (keptOf cs st) := rfl
      generalize keptOf cs st = kept at *
      k_steps
      refine stage_val (y := Str.ofString "body") (fun v => ∃ t, v = .str (S (body0 cs st)) t) (by k_asm) (by k_asm) ?h1 ?h2
      case h1 =>
        refine wpAny_If ?_
        k_steps
        · refine' srcI_codes (fun n => S ([n])) ?F ?N ?hm hi' hkl ?hh ?turn ?fin
          case F => k_asm
          case N => k_asm
          case hm => k_mem
          case hh => rfl
          case turn =>
            intro n t I oI C oC D m₂ ys h tk E' hn hoC hx F' N'
            have hnn := hkc n hn
            k_steps
            exact ⟨_, _, rfl, by k_asm, by k_asm⟩
          case fin =>
            intro gg ys hys D h tk F' N' off'
            have hsum := sum_len (fun n => [n]) 1 (fun c => Nat.le_refl _) kept
            k_steps
            refine join_list (News.isList (by k_asm) (by k_mem)) (ys := kept.map fun n => S ([n])) (by exact hys) (by rw [show (Str.ofString "").length = 0 from by decide +kernel]; omega) ?_
            intro t' k'
            k_steps
            refine SetTo.str (by k_asm) (by first | k_asm | (refine' cb_drop ?cbN ?cbS; (case cbN => assumption); (case cbS => kcj_all))) ?_
            rw [join_flat kept (fun n => [n]), hbody]
            rw [if_pos (by assumption), flat_one]
        · refine SetTo.str (by k_asm) (by first | k_asm | (refine' cb_drop ?cbN ?cbS; (case cbN => assumption); (case cbS => kcj_all))) ?_
          rw [hbody, if_neg (by assumption), if_pos (by assumption)]
        · refine' srcI_codes (fun n => S (pic n)) ?F ?N ?hm hi' hkl ?hh ?turn ?fin
          case F => k_asm
          case N => k_asm
          case hm => k_mem
          case hh => rfl
          case turn =>
            intro n t I oI C oC D m₂ ys h tk E' hn hoC hx F' N'
            have hnn := hkc n hn
            k_steps
            exact ⟨_, _, rfl, by k_asm, by k_asm⟩
          case fin =>
            intro gg ys hys D h tk F' N' off'
            have hsum := sum_len (fun n => pic n) 3 (fun c => pic_len c) kept
            k_steps
            refine join_list (News.isList (by k_asm) (by k_mem)) (ys := kept.map fun n => S (pic n)) (by exact hys) (by rw [show (Str.ofString "").length = 0 from by decide +kernel]; omega) ?_
            intro t' k'
            k_steps
            refine SetTo.str (by k_asm) (by first | k_asm | (refine' cb_drop ?cbN ?cbS; (case cbN => assumption); (case cbS => kcj_all))) ?_
            rw [join_flat kept (fun n => pic n), hbody]
            rw [if_neg (by assumption), if_neg (by assumption)]
            rfl
      case h2 =>
        rintro v h' tk' ⟨t, rfl⟩ F' N'
        clear hbody
        have hbl : (S (body0 cs st)).length ≤ 3000 := by have h9 := body0_len cs st; rw [S_length]; omega
        k_steps
        refine stage_val (y := Str.ofString "body") (fun v => ∃ t, v = .str (S (body1 cs st)) t) (by k_asm) (by k_asm) ?h1 ?h2
        case h1 =>
          refine wpAny_If ?_
          k_steps
          · refine SetTo.str (by k_asm) (by k_asm) ?_
            rw [replace_S]
            unfold body1
            rw [if_pos (by assumption)]
          · refine SetTo.oldStr (by k_asm) (by k_asm) rfl ?_
            unfold body1
            rw [if_neg (by assumption)]
        case h2 =>
          rintro v h' tk' ⟨t, rfl⟩ F' N'
          have hbl : (S (body1 cs st)).length ≤ 9000 := by have h9 := body1_len cs st; rw [S_length]; omega
          k_steps
          all_goals (refine cb_retS hret ?_ (by k_asm) (by first | k_asm | (refine' cb_drop ?cbN ?cbS; (case cbN => assumption); (case cbS => kcj_all))))
          · exact told_full (by assumption)
          · exact told_bare (by assumption) (by assumption)
          · exact told_none (by assumption)
end Mine
end

/-! part C8 -/
section
open PySem PySem.W PyProof.Rows
set_option Elab.async false
set_option maxRecDepth 100000
set_option maxHeartbeats 8000000
namespace Mine
local macro_rules | `(tactic| walk_at "no such key") => `(tactic| fail)
local macro_rules | `(tactic| walk_at "no such key") => `(tactic| fail)
local macro_rules | `(tactic| walk_at "no such key") => `(tactic| fail)
local macro_rules | `(tactic| walk_at "no such key") => `(tactic| fail)
local macro_rules | `(tactic| walk_at "no such key") => `(tactic| fail)
local macro_rules | `(tactic| walk_at "no such key") => `(tactic| fail)
local macro_rules | `(tactic| walk_at "no such key") => `(tactic| fail)
local macro_rules | `(tactic| walk_at "no such key") => `(tactic| fail)
local macro_rules | `(tactic| walk_at "no such key") => `(tactic| fail)
local macro_rules | `(tactic| walk_at "no such key") => `(tactic| fail)
local macro_rules | `(tactic| walk_at "no such key") => `(tactic| fail)
local macro_rules | `(tactic| walk_at "no such key") => `(tactic| fail)
local macro_rules | `(tactic| walk_at "no such key") => `(tactic| fail)
local macro_rules | `(tactic| walk_at "no such key") => `(tactic| fail)
local macro_rules | `(tactic| walk_at "no such key") => `(tactic| fail)
local macro_rules | `(tactic| walk_at "no such key") => `(tactic| fail)
local macro_rules | `(tactic| walk_at "no such key") => `(tactic| fail)
local macro_rules | `(tactic| walk_at "no such key") => `(tactic| fail)
local macro_rules | `(tactic| walk_at "no such key") => `(tactic| fail)
local macro_rules | `(tactic| walk_at "no such key") => `(tactic| fail)
local macro_rules | `(tactic| walk_at "no such key") => `(tactic| fail)
local macro_rules | `(tactic| walk_at "no such key") => `(tactic| fail)
local macro_rules | `(tactic| walk_at "no such key") => `(tactic| fail)
local macro_rules | `(tactic| walk_at "no such key") => `(tactic| fail)
local macro_rules | `(tactic| walk_at "no such key") => `(tactic| fail)
local macro_rules | `(tactic| cell_enter) => `(tactic| (refine' code_def ?k1 ?k2 ?k3 ?k4 ?k5 ?kA ?kF ?kK ?k6 ?k7 ?k8 ?k9 ?kB ?_ ?c2 ?c3 ?c4 ?c5; (case kA => exact rfl); (case kF => exact rfl); (case kK => first | exact rfl | assumption); (case k1 => k_asm); (case k2 => k_asm); (case k3 => k_asm); (case k4 => k_asm); (case k5 => k_asm); (case k6 => k_is); (case k7 => k_is); (case k8 => ktr_room); (case k9 => exact BindsTo.of_eq rfl); (case c5 => decide); (case kB => exact locs rfl); (case c2 => exact rfl); (case c3 => exact rfl); (case c4 => exact rfl); k_whole; intro g' L' h' FG' F' N' B' X' T'; (try dsimp only); (try k_lift B'); (try k_fold)))
local macro_rules | `(tactic| walk_at "call ref") => `(tactic| (k_here; k_dflt (refine' Cl.use (c_comment _ _ _ _ _ _ ?kp _) ?k1 ?k2 ?k3 ?k4 ?k5 ?kK ?kd ?ku ?_; (case k1 => k_asm); (case k2 => k_asm); (case k3 => k_asm); (case k4 => k_asm); (case k5 => k_asm); (case kK => first | exact rfl | assumption); (case kp => omega); (case kd => ktr_room); (case ku => ktr_units); k_whole; intro t9 h9 tk9 F9 N9; (try dsimp only); (try k_fold))))
local macro_rules | `(tactic| walk_at "call ref") => `(tactic| (k_here; k_dflt (refine' Cl.use (c_unctrl _ _ _ _ _ _ ?kp _) ?k1 ?k2 ?k3 ?k4 ?k5 ?kK ?kd ?ku ?_; (case k1 => k_asm); (case k2 => k_asm); (case k3 => k_asm); (case k4 => k_asm); (case k5 => k_asm); (case kK => first | exact rfl | assumption); (case kp => assumption); (case kd => ktr_room); (case ku => ktr_units); k_whole; intro t9 h9 tk9 F9 N9; (try dsimp only); (try k_fold))))

local macro_rules | `(tactic| walk_at "eval ListComp") => `(tactic| (k_here; k_dflt (refine ListComp_S (by k_asm) (by with_unfolding_all rfl) (by decide) (by rfl) (by decide) (by rfl) ?_)))
theorem c_walked (w : World) (mean mg mb news) (l : List Nat) (hl : (S l).length ≤ 30000) (hc : ∀ c ∈ l, c < 0x110000) (t : Tok) (u : Int) (tu : Tok) : Cl 10 w mean mg mb 83 news [.str (S l) t, .int u tu] (fun t => .str (S (walked l u)) t) := by
  unfold Cl
  k_fill
  dsimp only [Ret]; intros; rename_i hret
  refine wpAny_call ?_
  k_dflt cell_enter
  k_steps
  · refine ⟨_, _, _, rfl, rfl, by k_asm, by k_asm, ?sz, ?go⟩
    case sz => rw [PySem.sizeLine_eq]; have h9 : (S l).cps.size = (S l).length := rfl; omega
    case go =>
      rintro s₂ ⟨g, rfl⟩
      refine signs_rest (fun c => S (pic c)) ?turn ?fin
      case turn =>
        intro c u' I oI C oC D m₂ ys h tk E' hc' hC' hx' F' N' off' ne'
        have hcc : c < 0x110000 := hc c (by simpa using hc')
        k_steps
        exact LCg.CompEnd.intro (by k_asm) (by k_asm) _ (fun p hp => hp) off' trivial ⟨rfl, _, rfl⟩
      case fin =>
        intro ys hys D h tk F' N' off'
        k_steps
        have hlen : l.length ≤ 30000 := by simpa [S, Str.length] using hl
        refine join_list (News.isList (by k_asm) (by k_mem)) (ys := l.map fun c => S (pic c)) (by simpa using hys) ?ok ?_
        case ok =>
          have h1 := sum_len pic 3 pic_len l
          rw [show (Str.ofString "").length = 0 from by decide +kernel]
          omega
        intro t' k'
        k_steps
        refine cb_retS hret ?_ (by k_asm) (by first | k_asm | (refine' cb_drop ?cbN ?cbS; (case cbN => assumption); (case cbS => kcj_all)))
        rw [join_flat]
        unfold walked shown
        rw [if_neg (by assumption)]
  · refine cb_retS hret ?_ (by k_asm) (by k_asm)
    unfold walked
    rw [if_pos (by assumption)]
end Mine
end

/-! part K5 -/
section
open PySem PySem.W PyProof.Rows PySem.Calls PySem.Spec
set_option Elab.async false
set_option maxRecDepth 100000
set_option maxHeartbeats 2000000
namespace Mine

/-! a comprehension of two clauses -/
theorem compTurn_two0 (elt t1 i1 t2 i2 : PySem.Expr) (scope : Scope) (pos : Pos) (it acc : Value) (env : Env) :
    compTurn (.ListComp elt [⟨t1, i1, [], 0⟩, ⟨t2, i2, [], 0⟩] scope pos) 0 it acc env = (do
      standAt i1.pos
      match ← pyNext it with
      | none => pure (.done .next)
      | some v =>
        letOwnedTupleGo t1 it v
        assign t1 env v
        let x ← eval i2 env
        standAt i2.pos
        let x ← foldedSetIterable i2 env x
        let _ ← runOwn (.compStart (.ListComp elt [⟨t1, i1, [], 0⟩, ⟨t2, i2, [], 0⟩] scope pos) 1 (← holding [x] (pyIter x)) acc env) env
        again (.compLoop (.ListComp elt [⟨t1, i1, [], 0⟩, ⟨t2, i2, [], 0⟩] scope pos) 0 it acc env)) := by rfl
theorem compTurn_two1 (elt t1 i1 t2 i2 : PySem.Expr) (scope : Scope) (pos : Pos) (it acc : Value) (env : Env) :
    compTurn (.ListComp elt [⟨t1, i1, [], 0⟩, ⟨t2, i2, [], 0⟩] scope pos) 1 it acc env = (do
      standAt i2.pos
      match ← pyNext it with
      | none => pure (.done .next)
      | some v =>
        letOwnedTupleGo t2 it v
        assign t2 env v
        (do let _ ← call (.builtin "list.append") [acc, ← eval elt env])
        again (.compLoop (.ListComp elt [⟨t1, i1, [], 0⟩, ⟨t2, i2, [], 0⟩] scope pos) 1 it acc env)) := by rfl

section
variable {prog : Program} {w : World} {A : Around} {E : Value → Shared → Prop} {R : Result → Shared → Prop} {s : Shared}

theorem compLoop_two1 {elt t1 i1 t2 i2 : PySem.Expr} {scope : Scope} {pos : Pos} {it acc : Value} {env : Env} (I : Nat → Shared → Prop)
    (turn : ∀ n s, I n s → wpAny (model prog w) A (pyNext it) (fun r s₁ => match r with
      | none => R (.ok .next) s₁
      | some v => wpAny (model prog w) A (assign t2 env v) (fun _ s₂ => wpAny (model prog w) A (eval elt env) (fun x s₃ =>
          wpAny (model prog w) A (call (.builtin "list.append") [acc, x]) (fun _ s₄ => ∃ m, m < n ∧ I m s₄) (notedBy (model prog w) A env fun e s' => R (.error e) s') s₃)
          (notedBy (model prog w) A env fun e s' => R (.error e) s') s₂) (notedBy (model prog w) A env fun e s' => R (.error e) s') s₁) (notedBy (model prog w) A env fun e s' => R (.error e) s') s)
    (n : Nat) (h : I n s) (ht : ∀ v, letOwnedTupleGo t2 it v = pure () := by intro _; rfl) :
    codeAny (model prog w) A (.compLoop (.ListComp elt [⟨t1, i1, [], 0⟩, ⟨t2, i2, [], 0⟩] scope pos) 1 it acc env) R s := by
  refine codeAny_loop rfl I (fun n s hI => ?_) n h
  show wpAny _ _ ((compTurn (.ListComp elt [⟨t1, i1, [], 0⟩, ⟨t2, i2, [], 0⟩] scope pos) 1 it acc env).onRaise (fun x => do noteFrame x env; theTreesLotGoes x)) _ _ s
  refine wpAny_noted ?_
  rw [compTurn_two1]
  refine wpAny_bind (wpAny_standAt (wpAny_bind (wpAny_mono (turn n s hI) (fun r s₁ h₁ => ?_) fun _ _ h' => h')))
  cases r with
  | none => exact wpAny_pure h₁
  | some v =>
    refine wpAny_bind (wpAny_of_eq (ht v) ?_)
    exact wpAny_bind (wpAny_mono h₁ (fun _ s₂ h₂ => wpAny_bind (wpAny_bind (wpAny_mono h₂ (fun x s₃ h₃ => wpAny_bind (wpAny_mono h₃
      (fun _ s₄ h₄ => wpAny_pure (wpAny_pure ⟨rfl, h₄⟩)) fun _ _ h' => h')) fun _ _ h' => h'))) fun _ _ h' => h')

theorem compStart_two1 {elt t1 i1 t2 i2 : PySem.Expr} {scope : Scope} {pos : Pos} {it acc : Value} {env : Env}
    (h0 : codeAny (model prog w) A (.compLoop (.ListComp elt [⟨t1, i1, [], 0⟩, ⟨t2, i2, [], 0⟩] scope pos) 1 it acc env) R s)
    (h : wpAny (model prog w) A (pyIter it) (fun it' s' => codeAny (model prog w) A (.compLoop (.ListComp elt [⟨t1, i1, [], 0⟩, ⟨t2, i2, [], 0⟩] scope pos) 1 it' acc env) R s')
      (notedBy (model prog w) A env fun x s' => R (.error x) s') s) :
    codeAny (model prog w) A (.compStart (.ListComp elt [⟨t1, i1, [], 0⟩, ⟨t2, i2, [], 0⟩] scope pos) 1 it acc env) R s := by
  refine codeAny_of_tree ?_
  show wpAny _ _ ((compStart (.ListComp elt [⟨t1, i1, [], 0⟩, ⟨t2, i2, [], 0⟩] scope pos) 1 it acc env).onRaise (fun x => do noteFrame x env; standAt theWindowsPlace)) _ _ s
  refine wpAny_notedAt ?_
  unfold compStart
  show wpAny _ _ (ask >>= _) _ _ s
  refine wpAny_bind (wpAny_askSetting (wpAny_ite ?_))
  split
  · first
      | exact wpAny_bind (wpAny_pure (wpAny_pure (And.intro rfl h0)))
      | exact wpAny_pure (And.intro rfl h0)
  · first
      | exact wpAny_bind (wpAny_rule (wpAny_bind (wpAny_standAt (wpAny_bind (wpAny_mono h (fun it' s' h' => wpAny_pure (And.intro rfl h')) fun _ _ x => x)))))
      | (refine wpAny_bind (wpAny_rule ?_); show wpAny _ _ (standAt i2.pos >>= _) _ _ s; exact wpAny_bind (wpAny_standAt (wpAny_bind (wpAny_mono h (fun it' s' h' => wpAny_pure (And.intro rfl h')) fun _ _ x => x))))

theorem compLoop_two0 {elt t1 i1 t2 i2 : PySem.Expr} {scope : Scope} {pos : Pos} {it acc : Value} {env : Env} (I : Nat → Shared → Prop)
    (turn : ∀ n s, I n s → wpAny (model prog w) A (pyNext it) (fun r s₁ => match r with
      | none => R (.ok .next) s₁
      | some v => wpAny (model prog w) A (letOwnedTupleGo t1 it v) (fun _ s₁' => wpAny (model prog w) A (assign t1 env v) (fun _ s₂ =>
          wpAny (model prog w) A (eval i2 env) (fun x s₃ => wpAny (model prog w) A (pyIter x) (fun it2 s₄ =>
            codeAny (model prog w) A (.compStart (.ListComp elt [⟨t1, i1, [], 0⟩, ⟨t2, i2, [], 0⟩] scope pos) 1 it2 acc env) (fun r s₅ => r = .ok .next ∧ ∃ m, m < n ∧ I m s₅) s₄)
            (notedBy (model prog w) A env fun e s' => R (.error e) s') s₃) (notedBy (model prog w) A env fun e s' => R (.error e) s') s₂)
          (notedBy (model prog w) A env fun e s' => R (.error e) s') s₁') (notedBy (model prog w) A env fun e s' => R (.error e) s') s₁) (notedBy (model prog w) A env fun e s' => R (.error e) s') s)
    (n : Nat) (h : I n s) (hs : ∀ x, foldedSetIterable i2 env x = pure x := by intro _; rfl) :
    codeAny (model prog w) A (.compLoop (.ListComp elt [⟨t1, i1, [], 0⟩, ⟨t2, i2, [], 0⟩] scope pos) 0 it acc env) R s := by
  refine codeAny_loop rfl I (fun n s hI => ?_) n h
  show wpAny _ _ ((compTurn (.ListComp elt [⟨t1, i1, [], 0⟩, ⟨t2, i2, [], 0⟩] scope pos) 0 it acc env).onRaise (fun x => do noteFrame x env; theTreesLotGoes x)) _ _ s
  refine wpAny_noted ?_
  rw [compTurn_two0]
  refine wpAny_bind (wpAny_standAt (wpAny_bind (wpAny_mono (turn n s hI) (fun r s₁ h₁ => ?_) fun _ _ h' => h')))
  cases r with
  | none => exact wpAny_pure h₁
  | some v =>
    refine wpAny_bind (wpAny_mono h₁ (fun _ s₁' h₁' => ?_) fun _ _ h' => h')
    refine wpAny_bind (wpAny_mono h₁' (fun _ s₂ h₂ => ?_) fun _ _ h' => h')
    refine wpAny_bind (wpAny_mono h₂ (fun x s₃ h₃ => wpAny_bind (wpAny_standAt (wpAny_bind (wpAny_of_eq (hs x) (wpAny_bind (wpAny_holding (wpAny_mono h₃ (fun it2 s₄ h₄ => ?_) fun _ _ h' => h'))))))) fun _ _ h' => h')
    refine wpAny_bind (wpAny_runOwn (codeAny_mono h₄ fun r s₅ h₅ => ?_))
    obtain ⟨rfl, h₅⟩ := h₅
    exact wpAny_pure ⟨rfl, h₅⟩
end
end Mine
end

/-! part K6 -/
section
open PySem PySem.W PyProof.Rows PySem.Calls PySem.Spec
set_option Elab.async false
set_option maxRecDepth 100000
set_option maxHeartbeats 2000000
namespace Mine

/-! the ways: a list of pairs (steps, text) -/
abbrev tup2 (a b : Value) : Obj := { cls := .type "tuple", data := .seq #[a, b] }
/-- a way of k steps: the text is what is told of them -/
def WayAt (cs : List Nat) (k : Nat) (nw : List (Addr × Obj)) (v : Value) : Prop :=
  ∃ (T a : Addr) (vs : List Value) (n : Nat) (st : List Int) (tx : Tok), v = .ref T ∧ (T, tup2 (.ref a) (.str (S (told cs st)) tx)) ∈ nw ∧ (a, W.listOf vs.toArray n) ∈ nw ∧ IntsAre vs st ∧ (∀ x ∈ st, x = 0 ∨ x = 1) ∧ st.length = k
theorem WayAt.mono {cs : List Nat} {k : Nat} {nw nw' : List (Addr × Obj)} {v : Value} (h : ∀ p ∈ nw, p ∈ nw') : WayAt cs k nw v → WayAt cs k nw' v := by
  rintro ⟨T, a, vs, n, st, tx, e, h1, h2, r⟩
  exact ⟨T, a, vs, n, st, tx, e, h _ h1, h _ h2, r⟩

def MadeWay (h₀ : Heap) (L : Addr) (m : Str → Option Value) (s : Shared) (cs : List Nat) (st : List Int) (b : Int) (NN : List (Addr × Obj)) (y : Value) (s₃ : Shared) : Prop :=
  ∃ (T a' : Addr) (vs' : List Value) (na' : Nat) (tx' : Tok) (h' : Heap) (tk' : Nat), y = .ref T ∧ s₃ = { s with heap := h', toks := tk' } ∧ Fr h₀ L h' m ∧ IntsAre vs' (st ++ [b]) ∧
    News h₀ L h' ((T, tup2 (.ref a') (.str (S (told cs (st ++ [b]))) tx')) :: (a', W.listOf vs'.toArray na') :: NN) ∧ (∀ p ∈ NN, p.1 ≠ T ∧ p.1 ≠ a')
def ElemAt (prog : Program) (w : World) (A : Around) (h₀ : Heap) (L : Addr) (m : Str → Option Value) (env : Env) (elt : PySem.Expr) (scope : Scope) (cl : List (Str × Addr)) (s : Shared) (cs : List Nat) (k : Nat) (xs xt xb : Str) : Prop :=
  ∀ (st : List Int) (a : Addr) (vs : List Value) (na : Nat) (tx : Tok) (b : Int) (tb : Tok) (C : Addr) (oC : Obj) (m₂ : Str → Option Value) (h : Heap) (tk : Nat) (RR : List (Addr × Obj)) (E' : Value → Shared → Prop),
    IntsAre vs st → (∀ x ∈ st, x = 0 ∨ x = 1) → st.length = k → (b = 0 ∨ b = 1) → LCg.NsObj oC m₂ → m₂ xs = some (.ref a) → m₂ xt = some (.str (S (told cs st)) tx) → m₂ xb = some (.int b tb) → Fr h₀ L h m →
    News h₀ L h ((C, oC) :: (a, W.listOf vs.toArray na) :: RR) →
    wpAny (model prog w) A (eval elt (compEnvC scope cl C env)) (MadeWay h₀ L m s cs st b ((C, oC) :: (a, W.listOf vs.toArray na) :: RR)) E' { s with heap := h, toks := tk }

section
variable {prog : Program} {w : World} {A : Around} {E : Value → Shared → Prop} {h₀ : Heap} {L : Addr} {m : Str → Option Value} {env : Env} {elt : PySem.Expr} {scope : Scope} {cl : List (Str × Addr)} {s₂ : Shared} {nw : List (Addr × Obj)}

theorem eval_01 {env : Env} {s : Shared} {p0 p1 pp : Pos} {Q : Value → Shared → Prop}
    (h : Q (.ref s.heap.objs.size) { s with heap := s.heap.push (tup2 (.int 0 s.toks) (.int 1 (s.toks + 1))), toks := s.toks + 1 + 1 }) :
    wpAny (model prog w) A (eval (.Tuple [.Constant (.int 0) 0 p0, .Constant (.int 1) 0 p1] 0 pp) env) Q E s := by
  refine Tuple_ (spliced_more ?_)
  refine wpAny_Constant_int ?_
  refine spliced_more (wpAny_Constant_int ?_)
  refine spliced_none ?_
  exact wpAny_newObj_type h (by show 2 ≤ sizeLine; rw [PySem.sizeLine_eq]; omega)

theorem inner_loop {R : Result → Shared → Prop} {t1 i1 i2 : PySem.Expr} {xs xt xb : Str} {pb pos : Pos} {cs : List Nat} {k : Nat} {It Tt C D I a : Addr} {oIt oC oI : Obj} {t0 t1' tx : Tok} {h₆ : Heap} {tk₆ na : Nat} {ys vs : List Value} {st : List Int} {m₄ : Str → Option Value}
    (hh : A.handled = none) (hkind : scope.kind = .function) (hxb : scope.names.lookup xb = some .local) (hbs : ¬ xs = xb) (hbt : ¬ xt = xb)
    (hi : IntsAre vs st) (hst : ∀ x ∈ st, x = 0 ∨ x = 1) (hk : st.length = k) (ha : (a, W.listOf vs.toArray na) ∈ nw)
    (F₆ : Fr h₀ L h₆ m) (hoC : LCg.NsObj oC m₄) (hms : m₄ xs = some (.ref a)) (hmt : m₄ xt = some (.str (S (told cs st)) tx))
    (N₆ : News h₀ L h₆ ((It, oIt) :: (Tt, tup2 (.int 0 t0) (.int 1 t1')) :: (C, oC) :: (D, LCg.lst ys) :: (I, oI) :: nw)) (hIt : h₆.IsTupleIter It Tt 0)
    (hd1 : It ≠ Tt ∧ It ≠ C ∧ It ≠ D ∧ It ≠ I) (hd2 : Tt ≠ C ∧ Tt ≠ D ∧ C ≠ D ∧ I ≠ C ∧ I ≠ D) (off : ∀ p ∈ nw, p.1 ≠ It ∧ p.1 ≠ C ∧ p.1 ≠ D ∧ p.1 ≠ I) (hsz : ys.length + 2 ≤ sizeLine)
    (elem : ElemAt prog w A h₀ L m env elt scope cl s₂ cs k xs xt xb)
    (fin : ∀ (h' : Heap) (tk' : Nat) (oC' : Obj) (m' : Str → Option Value) (y0 y1 : Value) (nw' : List (Addr × Obj)), Fr h₀ L h' m → LCg.NsObj oC' m' → News h₀ L h' ((C, oC') :: (D, LCg.lst (ys ++ [y0, y1])) :: (I, oI) :: nw') → (∀ p ∈ nw', p.1 ≠ C ∧ p.1 ≠ D ∧ p.1 ≠ I) → (∀ p ∈ nw, p ∈ nw') →
      WayAt cs (k + 1) nw' y0 → WayAt cs (k + 1) nw' y1 → R (.ok .next) { s₂ with heap := h', toks := tk' }) :
    codeAny (model prog w) A (.compStart (.ListComp elt [⟨t1, i1, [], 0⟩, ⟨.Name xb pb, i2, [], 0⟩] scope pos) 1 (.ref It) (.ref D) (compEnvC scope cl C env)) R { s₂ with heap := h₆, toks := tk₆ } := by
  have hItL : It ≠ L := (N₆ _ List.mem_cons_self).2.1
  have hIt₀ : h₀.get? It = none := (N₆ _ List.mem_cons_self).2.2
  have hCL : C ≠ L := (N₆ (C, oC) (by simp)).2.1
  have hC₀ : h₀.get? C = none := (N₆ (C, oC) (by simp)).2.2
  have hDL : D ≠ L := (N₆ (D, LCg.lst ys) (by simp)).2.1
  have hD₀ : h₀.get? D = none := (N₆ (D, LCg.lst ys) (by simp)).2.2
  have WK := Walks.tuple (prog := prog) (w := w) (A := A) hh It Tt (Ne.symm hd1.1) #[.int 0 t0, .int 1 t1']
  have isT : ∀ h : Heap, h.get? Tt = some (tup2 (.int 0 t0) (.int 1 t1')) → h.IsTuple Tt #[.int 0 t0, .int 1 t1'] := fun h e => ⟨_, e, rfl, _, rfl⟩
  have loop : codeAny (model prog w) A (.compLoop (.ListComp elt [⟨t1, i1, [], 0⟩, ⟨.Name xb pb, i2, [], 0⟩] scope pos) 1 (.ref It) (.ref D) (compEnvC scope cl C env)) R { s₂ with heap := h₆, toks := tk₆ } := by
    refine compLoop_two1
      (fun n s' => ∃ h' tk j zs oC m' oIt nw', s' = { s₂ with heap := h', toks := tk } ∧ j ≤ 2 ∧ n = 3 - j ∧ zs.length = j ∧ Fr h₀ L h' m ∧ LCg.NsObj oC m' ∧ m' xs = some (.ref a) ∧ m' xt = some (.str (S (told cs st)) tx) ∧
        News h₀ L h' ((It, oIt) :: (Tt, tup2 (.int 0 t0) (.int 1 t1')) :: (C, oC) :: (D, LCg.lst (ys ++ zs)) :: (I, oI) :: nw') ∧ h'.IsTupleIter It Tt j ∧ (∀ p ∈ nw', p.1 ≠ It ∧ p.1 ≠ C ∧ p.1 ≠ D ∧ p.1 ≠ I) ∧ (∀ p ∈ nw, p ∈ nw') ∧ ∀ z ∈ zs, WayAt cs (k + 1) nw' z) ?_ 3
      ⟨h₆, tk₆, 0, [], oC, m₄, oIt, nw, rfl, by omega, rfl, rfl, F₆, hoC, hms, hmt, by rw [List.append_nil]; exact N₆, hIt, off, fun _ h => h, fun _ h => nomatch h⟩
    rintro n s' ⟨h', tk, j, zs, oC', m', oIt', nw', rfl, hj, rfl, hzl, F', hoC', hms', hmt', N', hIt', off', sub', hzs⟩
    have zT := (N' (Tt, _) (List.mem_cons_of_mem _ List.mem_cons_self)).1
    have zC := (N' (C, oC') (by simp)).1
    by_cases hlt : j < 2
    · refine WK.item j _ _ _ hlt ⟨hIt', isT _ zT⟩ fun v h₂ tk₂ hv hst₂ hk₂ => ?_
      obtain ⟨b, tb, rfl, hb⟩ : ∃ (b : Int) (tb : Tok), v = .int b tb ∧ (b = 0 ∨ b = 1) := by
        rcases (show j = 0 ∨ j = 1 from by omega) with rfl | rfl
        · exact ⟨0, t0, (Option.some.inj hv).symm, Or.inl rfl⟩
        · exact ⟨1, t1', (Option.some.inj hv).symm, Or.inr rfl⟩
      have up₂ : ∀ q o, q ≠ It → h'.get? q = some o → h₂.get? q = some o := fun q o hq e => hk₂ q o (by simpa using hq) e
      refine wpAny_assign_Name (wpAny_storeName_local (lookup_relabel_local hxb) ((hoC'.ns zC).at' fun o e => up₂ _ o (Ne.symm hd1.2.1) e) (fun h₃ hn₃ hs₃ => ?_) (by simp [compEnvC, relabel, hkind]))
      obtain ⟨oC₃, heC₃, hoC₃⟩ := LCg.ns_obj hn₃
      obtain ⟨oI₃, heI₃, hI₃r⟩ := hst₂.1
      have up : ∀ q o, q ≠ It → q ≠ C → h'.get? q = some o → h₃.get? q = some o := fun q o h1 h2 e => hs₃.extBut q o h2 (up₂ q o h1 e)
      have F₃ : Fr h₀ L h₃ m := (LCg.fr_but F' hk₂ (Ne.symm hItL) hIt₀).change hs₃ hCL hC₀
      have N₃ : News h₀ L h₃ ((C, oC₃) :: (a, W.listOf vs.toArray na) :: (It, oI₃) :: (Tt, tup2 (.int 0 t0) (.int 1 t1')) :: (D, LCg.lst (ys ++ zs)) :: (I, oI) :: nw') := fun q hq => by
        have old : ∀ q' : Addr × Obj, q' ∈ ((It, oIt') :: (Tt, tup2 (.int 0 t0) (.int 1 t1')) :: (C, oC') :: (D, LCg.lst (ys ++ zs)) :: (I, oI) :: nw') → q'.1 ≠ It → q'.1 ≠ C → h₃.get? q'.1 = some q'.2 ∧ q'.1 ≠ L ∧ h₀.get? q'.1 = none := fun q' h1 h2 h3 => ⟨up _ _ h2 h3 (N' q' h1).1, (N' q' h1).2⟩
        rcases List.mem_cons.mp hq with rfl | hq
        · exact ⟨heC₃, hCL, hC₀⟩
        rcases List.mem_cons.mp hq with rfl | hq
        · have hm := sub' _ ha
          exact old (a, W.listOf vs.toArray na) (by simp [hm]) (off' _ hm).1 (off' _ hm).2.1
        rcases List.mem_cons.mp hq with rfl | hq
        · exact ⟨hs₃.extBut _ _ hd1.2.1 heI₃, hItL, hIt₀⟩
        rcases List.mem_cons.mp hq with rfl | hq
        · exact old (Tt, _) (List.mem_cons_of_mem _ List.mem_cons_self) (Ne.symm hd1.1) hd2.1
        rcases List.mem_cons.mp hq with rfl | hq
        · exact old (D, _) (by simp) (Ne.symm hd1.2.2.1) (Ne.symm hd2.2.2.1)
        rcases List.mem_cons.mp hq with rfl | hq
        · exact old (I, _) (by simp) (Ne.symm hd1.2.2.2) hd2.2.2.2.1
        · exact old q (by simp [hq]) (off' q hq).1 (off' q hq).2.1
      refine wpAny_mono (elem st a vs na tx b tb C oC₃ _ h₃ _ _ _ hi hst hk hb hoC₃ (by show (if xs = xb then _ else m' xs) = _; rw [if_neg hbs]; exact hms') (by show (if xt = xb then _ else m' xt) = _; rw [if_neg hbt]; exact hmt') (by simp) F₃ N₃) (fun y s₄ h₄ => ?_) fun _ _ e => e
      obtain ⟨T, a', vs', na', tx', h₄, tk₄, rfl, rfl, F₄, hi', N₄, fresh⟩ := h₄
      have zD := (N₄ (D, LCg.lst (ys ++ zs)) (by simp)).1
      refine append_at (hsz := by show (ys ++ zs).toArray.size ≤ sizeLine; rw [List.size_toArray, List.length_append]; omega) zD fun h₅ hs₅ hD₅ => ?_
      have fr : ∀ q o, (q, o) ∈ ((C, oC₃) :: (a, W.listOf vs.toArray na) :: (It, oI₃) :: (Tt, tup2 (.int 0 t0) (.int 1 t1')) :: (D, LCg.lst (ys ++ zs)) :: (I, oI) :: nw') → T ≠ q ∧ a' ≠ q := fun q o hq => ⟨Ne.symm (fresh _ hq).1, Ne.symm (fresh _ hq).2⟩
      have fC := fr C oC₃ (by simp)
      have fIt := fr It oI₃ (by simp)
      have fD := fr D _ (by simp : (D, LCg.lst (ys ++ zs)) ∈ _)
      have fI := fr I oI (by simp)
      have keep : ∀ q' : Addr × Obj, q' ∈ ((T, tup2 (.ref a') (.str (S (told cs (st ++ [b]))) tx')) :: (a', W.listOf vs'.toArray na') :: (C, oC₃) :: (a, W.listOf vs.toArray na) :: (It, oI₃) :: (Tt, tup2 (.int 0 t0) (.int 1 t1')) :: (D, LCg.lst (ys ++ zs)) :: (I, oI) :: nw') → q'.1 ≠ D → h₅.get? q'.1 = some q'.2 ∧ q'.1 ≠ L ∧ h₀.get? q'.1 = none :=
        fun q' h1 h2 => ⟨hs₅.extBut _ _ h2 (N₄ q' h1).1, (N₄ q' h1).2⟩
      refine ⟨3 - (j + 1), by omega, h₅, tk₄, j + 1, zs ++ [.ref T], oC₃, _, oI₃, (T, tup2 (.ref a') (.str (S (told cs (st ++ [b]))) tx')) :: (a', W.listOf vs'.toArray na') :: nw', rfl, by omega, rfl, by rw [List.length_append, List.length_singleton, hzl], F₄.change hs₅ hDL hD₀, hoC₃,
        by show (if xs = xb then _ else m' xs) = _; rw [if_neg hbs]; exact hms', by show (if xt = xb then _ else m' xt) = _; rw [if_neg hbt]; exact hmt', fun q hq => ?_, ⟨oI₃, (keep (It, oI₃) (by simp) hd1.2.2.1).1, hI₃r⟩, fun q hq => ?_, fun q hq => by simp [sub' q hq], fun z hz => ?_⟩
      · rcases List.mem_cons.mp hq with rfl | hq
        · exact keep (It, oI₃) (by simp) hd1.2.2.1
        rcases List.mem_cons.mp hq with rfl | hq
        · exact keep (Tt, _) (by simp) hd2.2.1
        rcases List.mem_cons.mp hq with rfl | hq
        · exact keep (C, oC₃) (by simp) hd2.2.2.1
        rcases List.mem_cons.mp hq with rfl | hq
        · exact ⟨by rw [← List.append_assoc]; exact hD₅.trans (congrArg some (LCg.lst_snoc (ys ++ zs) _)), hDL, hD₀⟩
        rcases List.mem_cons.mp hq with rfl | hq
        · exact keep (I, oI) (by simp) hd2.2.2.2.2
        rcases List.mem_cons.mp hq with rfl | hq
        · exact keep (T, _) (by simp) fD.1
        rcases List.mem_cons.mp hq with rfl | hq
        · exact keep (a', _) (by simp) fD.2
        · exact keep q (by simp [hq]) (off' q hq).2.2.1
      · rcases List.mem_cons.mp hq with rfl | hq
        · exact ⟨fIt.1, fC.1, fD.1, fI.1⟩
        rcases List.mem_cons.mp hq with rfl | hq
        · exact ⟨fIt.2, fC.2, fD.2, fI.2⟩
        · exact off' q hq
      · rcases List.mem_append.mp hz with hz | hz
        · exact (hzs z hz).mono fun q hq => by simp [hq]
        · rw [List.mem_singleton.mp hz]
          refine ⟨T, a', vs', na', st ++ [b], tx', rfl, by simp, by simp, hi', fun x hx => ?_, by rw [List.length_append, List.length_singleton, hk]⟩
          rcases List.mem_append.mp hx with hx | hx
          · exact hst x hx
          · rw [List.mem_singleton.mp hx]; exact hb
    · have h2 : j = 2 := by omega
      subst h2
      obtain ⟨y0, y1, rfl⟩ : ∃ y0 y1, zs = [y0, y1] := by
        match zs, hzl with
        | [y0, y1], _ => exact ⟨y0, y1, rfl⟩
      refine WK.done _ _ _ ⟨hIt', isT _ zT⟩ fun h₂ tk₂ hk₂ => ?_
      have up₂ : ∀ q o, q ≠ It → h'.get? q = some o → h₂.get? q = some o := fun q o hq e => hk₂ q o (by simpa using hq) e
      refine fin h₂ tk₂ oC' m' y0 y1 nw' (LCg.fr_but F' hk₂ (Ne.symm hItL) hIt₀) hoC' (fun q hq => ?_) (fun q hq => (off' q hq).2) sub' (hzs _ (by simp)) (hzs _ (by simp))
      have hm : q ∈ ((It, oIt') :: (Tt, tup2 (.int 0 t0) (.int 1 t1')) :: (C, oC') :: (D, LCg.lst (ys ++ [y0, y1])) :: (I, oI) :: nw') := List.mem_cons_of_mem _ (List.mem_cons_of_mem _ hq)
      refine ⟨up₂ _ _ ?_ (N' q hm).1, (N' q hm).2⟩
      rcases List.mem_cons.mp hq with rfl | hq
      · exact Ne.symm hd1.2.1
      rcases List.mem_cons.mp hq with rfl | hq
      · exact Ne.symm hd1.2.2.1
      rcases List.mem_cons.mp hq with rfl | hq
      · exact Ne.symm hd1.2.2.2
      · exact (off' q hq).1
  exact compStart_two1 loop (WK.self 0 _ _ _ ⟨hIt, isT _ (N₆ (Tt, _) (List.mem_cons_of_mem _ List.mem_cons_self)).1⟩ loop)
end
end Mine
end

/-! part K7 -/
section
open PySem PySem.W PyProof.Rows PySem.Calls PySem.Spec
set_option Elab.async false
set_option maxRecDepth 100000
set_option maxHeartbeats 2000000
namespace Mine

section
variable {prog : Program} {w : World} {A : Around} {E : Value → Shared → Prop} {h₀ : Heap} {L : Addr} {m : Str → Option Value} {env : Env} {elt : PySem.Expr} {scope : Scope} {cl : List (Str × Addr)} {s₂ : Shared} {NN : List (Addr × Obj)}

theorem two_loop {iter : PySem.Expr} {xs xt xb : Str} {ps pt pb tp p0 p1 pp pos : Pos} {kk : Nat} {cs : List Nat} {k : Nat} {Wa I : Addr} {items : List Value} {nW : Nat}
    (hh : A.handled = none) (hkind : scope.kind = .function) (hxs : scope.names.lookup xs = some .local) (hxt : scope.names.lookup xt = some .local) (hxb : scope.names.lookup xb = some .local) (hst : ¬ xs = xt) (hbs : ¬ xs = xb) (hbt : ¬ xt = xb)
    (F : Fr h₀ L s₂.heap m) (N : News h₀ L s₂.heap NN) (hW : (Wa, W.listOf items.toArray nW) ∈ NN) (hway : ∀ v ∈ items, WayAt cs k NN v) (hI : s₂.heap.IsListIter I Wa 0)
    (hI₀ : h₀.get? I = none) (hIL : I ≠ L) (off : ∀ p ∈ NN, p.1 ≠ I) (hsz : items.length ≤ 1000)
    (elem : ElemAt prog w A h₀ L m env elt scope cl s₂ cs k xs xt xb) :
    LoopAt prog w A h₀ L m (.ListComp elt [⟨.Tuple [.Name xs ps, .Name xt pt] kk tp, iter, [], 0⟩, ⟨.Name xb pb, .Tuple [.Constant (.int 0) 0 p0, .Constant (.int 1) 0 p1] 0 pp, [], 0⟩] scope pos) (fun C => compEnvC scope cl C env) (.ref I) s₂
      (fun ys nw => (∀ p ∈ NN, p ∈ nw) ∧ (∀ y ∈ ys, WayAt cs (k + 1) nw y) ∧ ys.length = 2 * items.length) := by
  intro D C h₁ tk₁ R hDC hD₀ hC₀ hDL hCL hDsz hCsz old₁ hacc hCns fin
  obtain ⟨oC₁, mC₁, heC₁, hoC₁⟩ := hCns
  obtain ⟨oI₀, heI₀, hI₀r⟩ := hI
  have lt_of : ∀ q o, s₂.heap.get? q = some o → q ≠ D ∧ q ≠ C := fun q o hq => ⟨Nat.ne_of_lt (Nat.lt_of_lt_of_le (Heap.lt_size hq) hDsz), Nat.ne_of_lt (Nat.lt_of_lt_of_le (Heap.lt_size hq) hCsz)⟩
  have hID := lt_of I _ heI₀
  have offDC : ∀ q ∈ NN, q.1 ≠ D ∧ q.1 ≠ C := fun q hq => lt_of _ _ (N q hq).1
  have isL : ∀ h : Heap, h.get? Wa = some (W.listOf items.toArray nW) → h.IsList Wa items.toArray := fun h e' => ⟨_, e', rfl, _, rfl⟩
  have WK := Walks.list (prog := prog) (w := w) (A := A) hh I Wa (off _ hW) items.toArray
  have hsize : items.toArray.size = items.length := List.size_toArray
  refine compLoop_two0
    (fun n s' => ∃ h' tk i ys oC m' oI nw, s' = { s₂ with heap := h', toks := tk } ∧ i ≤ items.length ∧ n = items.length + 1 - i ∧ ys.length = 2 * i ∧ Fr h₀ L h' m ∧ LCg.NsObj oC m' ∧ News h₀ L h' ((C, oC) :: (D, LCg.lst ys) :: (I, oI) :: nw) ∧
      h'.IsListIter I Wa i ∧ (∀ p ∈ nw, p.1 ≠ C ∧ p.1 ≠ D ∧ p.1 ≠ I) ∧ (∀ p ∈ NN, p ∈ nw) ∧ ∀ y ∈ ys, WayAt cs (k + 1) nw y) ?_ (items.length + 1)
    ⟨h₁, tk₁, 0, [], oC₁, mC₁, oI₀, NN, rfl, Nat.zero_le _, rfl, rfl, F.keeps old₁, hoC₁, fun q hq => ?_, ⟨oI₀, old₁ _ _ heI₀, hI₀r⟩, fun q hq => ⟨(offDC q hq).2, (offDC q hq).1, off q hq⟩, fun _ h => h, fun _ h => nomatch h⟩
  · rintro n s' ⟨h', tk, i, ys, oC, m', oI, nw, rfl, hi, rfl, hyl, F', hoC, N', hIt, off', sub', hys⟩
    have zC := (N' (C, oC) List.mem_cons_self).1
    have zW := (N' (Wa, W.listOf items.toArray nW) (by simp [sub' _ hW])).1
    by_cases hlt : i < items.length
    · refine WK.item i _ _ _ (by rw [hsize]; exact hlt) ⟨hIt, isL _ zW⟩ fun v h₂ tk₂ hv hst₂ hk₂ => ?_
      have hv' : v ∈ items := List.mem_of_getElem? (by simpa using hv)
      obtain ⟨T, a, vs, na, st, tx, rfl, hT, ha, hi', h01, hlen⟩ := hway v hv'
      have up₂ : ∀ q o, q ≠ I → h'.get? q = some o → h₂.get? q = some o := fun q o hq e => hk₂ q o (by simpa using hq) e
      have hTn := sub' _ hT
      have hT₂ : h₂.IsTuple T #[.ref a, .str (S (told cs st)) tx] := ⟨_, up₂ _ _ (off' _ hTn).2.2 (N' (T, tup2 (.ref a) (.str (S (told cs st)) tx)) (by simp [hTn])).1, rfl, _, rfl⟩
      refine wpAny_letOwnedTupleGo_listiter hst₂.1 ?_
      refine kcp_assign (env := compEnvC scope cl C env) hh hT₂ (lookup_relabel_local hxs) (lookup_relabel_local hxt) (by simp [compEnvC, relabel, hkind]) ((hoC.ns zC).at' fun o e => up₂ _ o (Ne.symm hID.2) e) fun h₄ tk₄ hn₄ hs₄ => ?_
      obtain ⟨oC₄, heC₄, hoC₄⟩ := LCg.ns_obj hn₄
      obtain ⟨oI₂, heI₂, hI₂r⟩ := hst₂.1
      have up : ∀ q o, q ≠ I → q ≠ C → h'.get? q = some o → h₄.get? q = some o := fun q o h1 h2 e => hs₄ q o h2 (up₂ q o h1 e)
      have F₄ : Fr h₀ L h₄ m := ⟨F'.ns.at' fun o e' => up _ o (Ne.symm hIL) (Ne.symm hCL) e', fun q o e' => up q o (fun z => by rw [z, hI₀] at e'; cases e') (fun z => by rw [z, hC₀] at e'; cases e') (F'.keep q o e'), F'.above⟩
      have N₄ : News h₀ L h₄ ((C, oC₄) :: (D, LCg.lst ys) :: (I, oI₂) :: nw) := fun q hq => by
        rcases List.mem_cons.mp hq with rfl | hq
        · exact ⟨heC₄, hCL, hC₀⟩
        rcases List.mem_cons.mp hq with rfl | hq
        · exact ⟨up _ _ (Ne.symm hID.1) hDC (N' (D, _) (by simp)).1, hDL, hD₀⟩
        rcases List.mem_cons.mp hq with rfl | hq
        · exact ⟨hs₄ _ _ hID.2 heI₂, hIL, hI₀⟩
        · have z := N' q (by simp [hq])
          exact ⟨up _ _ (off' q hq).2.2 (off' q hq).1 z.1, z.2⟩
      refine eval_01 ?_
      have ht : (h₄.push (tup2 (.int 0 tk₄) (.int 1 (tk₄ + 1)))).IsTuple h₄.objs.size #[.int 0 tk₄, .int 1 (tk₄ + 1)] := ⟨_, Heap.get?_push_size _ rfl, rfl, _, rfl⟩
      refine wpAny_pyIter_tuple ht ?_
      show codeAny _ _ _ _ { s₂ with heap := (h₄.push (tup2 (.int 0 tk₄) (.int 1 (tk₄ + 1)))).push { cls := .type "tuple_iterator", data := .fields #[.ref h₄.objs.size, .int 0 0] }, toks := tk₄ + 1 + 1 }
      have hz5 : (h₄.push (tup2 (.int 0 tk₄) (.int 1 (tk₄ + 1)))).objs.size = h₄.objs.size + 1 := Heap.size_push ..
      have lt4 : ∀ q o, h₄.get? q = some o → q < h₄.objs.size := fun q o e => Heap.lt_size e
      have up6 : ∀ q o, h₄.get? q = some o → ((h₄.push (tup2 (.int 0 tk₄) (.int 1 (tk₄ + 1)))).push { cls := .type "tuple_iterator", data := .fields #[.ref h₄.objs.size, .int 0 0] }).get? q = some o := fun q o e => Heap.get?_push_of_some _ (Heap.get?_push_of_some _ e)
      have fresh₀ : ∀ q, h₄.objs.size ≤ q → h₀.get? q = none := fun q hq => by
        cases e : h₀.get? q with
        | none => rfl
        | some o' => exact absurd (lt4 _ _ (F₄.keep q o' e)) (Nat.not_lt.mpr hq)
      have hLlt : L < h₄.objs.size := F₄.ns.lt
      have cC := lt4 _ _ heC₄
      have cD := lt4 _ _ (N₄ (D, LCg.lst ys) (by simp)).1
      have cI := lt4 _ _ (N₄ (I, oI₂) (by simp)).1
      refine inner_loop (It := (h₄.push (tup2 (.int 0 tk₄) (.int 1 (tk₄ + 1)))).objs.size) (Tt := h₄.objs.size) (nw := nw) (oI := oI₂) (oC := oC₄) (ys := ys) (oIt := { cls := .type "tuple_iterator", data := .fields #[.ref h₄.objs.size, .int 0 0] }) (tx := tx) (t0 := tk₄) (t1' := tk₄ + 1) hh hkind hxb hbs hbt hi' h01 hlen (sub' _ ha) (F₄.keeps up6) hoC₄ (by simp [hst]) (by simp) (fun q hq => ?_)
        ⟨_, Heap.get?_push_size _ rfl, rfl, rfl⟩ ⟨by rw [hz5]; exact Nat.ne_of_gt (Nat.lt_succ_self _), by rw [hz5]; exact Nat.ne_of_gt (Nat.lt_succ_of_lt cC), by rw [hz5]; exact Nat.ne_of_gt (Nat.lt_succ_of_lt cD), by rw [hz5]; exact Nat.ne_of_gt (Nat.lt_succ_of_lt cI)⟩
        ⟨Nat.ne_of_gt cC, Nat.ne_of_gt cD, Ne.symm hDC, hID.2, hID.1⟩ (fun q hq => ?_) (by rw [PySem.sizeLine_eq]; omega) elem ?_
      · rcases List.mem_cons.mp hq with rfl | hq
        · exact ⟨Heap.get?_push_size _ rfl, by rw [hz5]; exact Nat.ne_of_gt (Nat.lt_succ_of_lt hLlt), fresh₀ _ (by rw [hz5]; exact Nat.le_succ _)⟩
        rcases List.mem_cons.mp hq with rfl | hq
        · exact ⟨Heap.get?_push_of_some _ (Heap.get?_push_size _ rfl), Nat.ne_of_gt hLlt, fresh₀ _ (Nat.le_refl _)⟩
        · exact ⟨up6 _ _ (N₄ q hq).1, (N₄ q hq).2⟩
      · have hlt' := lt4 _ _ (N₄ q (by simp [hq])).1
        exact ⟨by rw [hz5]; exact Nat.ne_of_lt (Nat.lt_succ_of_lt hlt'), off' q hq⟩
      · intro h₇ tk₇ oC₇ m₇ y0 y1 nw₇ F₇ hoC₇ N₇ off₇ sub₇ w0 w1
        refine ⟨rfl, items.length + 1 - (i + 1), by omega, h₇, tk₇, i + 1, ys ++ [y0, y1], oC₇, m₇, oI₂, nw₇, rfl, hlt, rfl, by rw [List.length_append, hyl]; simp; omega, F₇, hoC₇, N₇, ⟨oI₂, (N₇ (I, oI₂) (by simp)).1, hI₂r⟩, off₇, fun p hp => sub₇ p (sub' p hp), fun y hy => ?_⟩
        rcases List.mem_append.mp hy with hy | hy
        · exact (hys y hy).mono sub₇
        · rcases List.mem_cons.mp hy with rfl | hy
          · exact w0
          · rw [List.mem_singleton.mp hy]; exact w1
    · have hin : i = items.length := Nat.le_antisymm hi (Nat.not_lt.mp hlt)
      subst hin
      refine WK.done _ _ _ ⟨by rw [hsize]; exact hIt, isL _ zW⟩ fun h₂ tk₂ hk₂ => ?_
      have up₂ : ∀ q o, q ≠ I → h'.get? q = some o → h₂.get? q = some o := fun q o hq e => hk₂ q o (by simpa using hq) e
      refine fin h₂ tk₂ ys nw oC m' (LCg.fr_but F' hk₂ (Ne.symm hIL) hI₀) hoC (fun q hq => ?_) (fun q hq => ⟨(off' q hq).1, (off' q hq).2.1⟩) ⟨sub', hys, hyl⟩
      rcases List.mem_cons.mp hq with rfl | hq
      · exact ⟨up₂ _ _ (Ne.symm hID.2) zC, hCL, hC₀⟩
      rcases List.mem_cons.mp hq with rfl | hq
      · exact ⟨up₂ _ _ (Ne.symm hID.1) (N' (D, _) (by simp)).1, hDL, hD₀⟩
      · have z := N' q (by simp [hq])
        exact ⟨up₂ _ _ (off' q hq).2.2 z.1, z.2⟩
  · rcases List.mem_cons.mp hq with rfl | hq
    · exact ⟨heC₁, hCL, hC₀⟩
    rcases List.mem_cons.mp hq with rfl | hq
    · exact ⟨hacc, hDL, hD₀⟩
    rcases List.mem_cons.mp hq with rfl | hq
    · exact ⟨old₁ _ _ heI₀, hIL, hI₀⟩
    · exact ⟨old₁ _ _ (N q hq).1, (N q hq).2⟩

/-- ways = [(steps + [step], ..) for steps, text in ways for step in (0, 1)]: a step more on every way -/
theorem ways_iter {iter : PySem.Expr} {xs xt xb y : Str} {ps pt pb tp p0 p1 pp pos : Pos} {kk : Nat} {cs : List Nat} {k : Nat} {Wa : Addr} {items : List Value} {nW : Nat} {s : Shared} {Q : Flow → Shared → Prop}
    (hh : A.handled = none) (hkind : scope.kind = .function) (hxs : scope.names.lookup xs = some .local) (hxt : scope.names.lookup xt = some .local) (hxb : scope.names.lookup xb = some .local) (hst : ¬ xs = xt) (hbs : ¬ xs = xb) (hbt : ¬ xt = xb)
    (F : Fr h₀ L s.heap m) (N : News h₀ L s.heap NN) (hW : (Wa, W.listOf items.toArray nW) ∈ NN) (hway : ∀ v ∈ items, WayAt cs k NN v) (hsz : items.length ≤ 1000)
    (elem : ElemAt prog w A h₀ L m env elt scope cl s cs k xs xt xb)
    (fin : ∀ (ys : List Value) (nw : List (Addr × Obj)) (D : Addr) (h : Heap) (tk : Nat), (∀ p ∈ NN, p ∈ nw) → (∀ v ∈ ys, WayAt cs (k + 1) nw v) → ys.length = 2 * items.length → Fr h₀ L h (fun z => if z = y then some (.ref D) else m z) → News h₀ L h ((D, LCg.lst ys) :: nw) → Q .next { s with heap := h, toks := tk }) :
    wpAny (model prog w) A (pyIter (.ref Wa)) (fun itv s₂ => Fr h₀ L s₂.heap m ∧
      (∀ (s' : Shared) (Q : Value → Shared → Prop) (E : Value → Shared → Prop), (∀ b o, s₂.heap.get? b = some o → s'.heap.get? b = some o) → Q itv s' → wpAny (model prog w) A (pyIter itv) Q E s') ∧
      LoopAt prog w A h₀ L m (.ListComp elt [⟨.Tuple [.Name xs ps, .Name xt pt] kk tp, iter, [], 0⟩, ⟨.Name xb pb, .Tuple [.Constant (.int 0) 0 p0, .Constant (.int 1) 0 p1] 0 pp, [], 0⟩] scope pos) (fun C => compEnvC scope cl C env) itv s₂ (FinAs h₀ L m y s₂ Q)) E s := by
  refine wpAny_pyIter_list (News.isList N hW) ?_
  have up : ∀ b o, s.heap.get? b = some o → (s.heap.push { cls := .type "list_iterator", data := .fields #[.ref Wa, .int 0 0] }).get? b = some o := fun b o e => Heap.get?_push_of_some _ e
  have hit : (s.heap.push { cls := .type "list_iterator", data := .fields #[.ref Wa, .int 0 0] }).IsListIter s.heap.objs.size Wa 0 := ⟨_, Heap.get?_push_size _ rfl, rfl, rfl⟩
  refine ⟨F.keeps up, fun s' Q' E' up' hQ => wpAny_pyIter_listiter (hit.at fun o e => up' _ o e) hQ, ?_⟩
  intro D C h₁ tk₁ R hDC hD₀ hC₀ hDL hCL hDsz hCsz old₁ hacc hCns fin'
  refine two_loop (s₂ := { s with heap := s.heap.push { cls := .type "list_iterator", data := .fields #[.ref Wa, .int 0 0] } }) hh hkind hxs hxt hxb hst hbs hbt (F.keeps up) (N.grown up) hW hway hit (next_is_new F) (Nat.ne_of_gt F.ns.lt) (fun p hp => Nat.ne_of_lt (Heap.lt_size (N p hp).1)) hsz
    (fun st a vs na tx b tb C oC m₂ h tk RR E' => elem st a vs na tx b tb C oC m₂ h tk RR E') D C h₁ tk₁ R hDC hD₀ hC₀ hDL hCL hDsz hCsz old₁ hacc hCns ?_
  intro h tk ys news' oC m' F₃ hoC N₃ off₃ good
  exact fin' h tk ys news' oC m' F₃ hoC N₃ off₃ fun D' h'' tk'' F₄ N₄ _ => fin ys news' D' h'' tk'' good.1 good.2.1 good.2.2 F₄ N₄
end
end Mine
end

/-! part K8 -/
section
open PySem PySem.W PyProof.Rows PySem.Calls PySem.Spec
set_option Elab.async false
set_option maxRecDepth 100000
set_option maxHeartbeats 2000000
namespace Mine

/-! for steps, text in ways: .. -/
/-- the end of a turn that leaves the frame and the ledger as they were -/
def TurnEnd (h₀ : Heap) (L : Addr) (m : Str → Option Value) (NN : List (Addr × Obj)) (s : Shared) (f : Flow) (s' : Shared) : Prop := f = .next ∧ Kept h₀ L m NN s s'
theorem TurnEnd.of {h₀ : Heap} {L : Addr} {m : Str → Option Value} {NN : List (Addr × Obj)} {s : Shared} {h' : Heap} {tk' : Nat} (F : Fr h₀ L h' m) (N : News h₀ L h' NN) : TurnEnd h₀ L m NN s .next { s with heap := h', toks := tk' } := ⟨rfl, h', tk', rfl, F, N⟩
theorem news_join {h₀ h : Heap} {L : Addr} {q : Addr × Obj} {NN nw : List (Addr × Obj)} (sub : ∀ p ∈ NN, p ∈ nw) (N : News h₀ L h (q :: nw)) : News h₀ L h (q :: (NN ++ nw)) := fun p hp => by
  rcases List.mem_cons.mp hp with rfl | hp
  · exact N _ List.mem_cons_self
  · rcases List.mem_append.mp hp with hp | hp
    · exact N _ (List.mem_cons_of_mem _ (sub _ hp))
    · exact N _ (List.mem_cons_of_mem _ hp)

section
variable {prog : Program} {w : World} {A : Around} {E : Value → Shared → Prop} {h₀ : Heap} {L : Addr} {m : Str → Option Value} {env : Env} {s : Shared} {NN : List (Addr × Obj)}

theorem ways_for {body : List Stmt} {xs xt : Str} {ps pt tp : Pos} {kk : Nat} {cs : List Nat} {k : Nat} {Wa : Addr} {items : List Value} {nW : Nat} {Q : Flow → Shared → Prop}
    (hh : A.handled = none) (hL : env.locals = L) (hxs : env.kindOf xs = some .local) (hxt : env.kindOf xt = some .local) (hp : (env.scope.kind == .class || (env.scope.kind == .module && env.locals != env.globals)) = false)
    (F : Fr h₀ L s.heap m) (N : News h₀ L s.heap NN) (hW : (Wa, W.listOf items.toArray nW) ∈ NN) (hway : ∀ v ∈ items, WayAt cs k NN v)
    (turn : ∀ (a : Addr) (vs : List Value) (na : Nat) (st : List Int) (tx : Tok) (h : Heap) (tk : Nat) (NN' : List (Addr × Obj)) (E' : Value → Shared → Prop), IntsAre vs st → (∀ x ∈ st, x = 0 ∨ x = 1) → st.length = k →
      Fr h₀ L h (fun z => if z = xt then some (.str (S (told cs st)) tx) else if z = xs then some (.ref a) else m z) → News h₀ L h ((a, W.listOf vs.toArray na) :: (NN ++ NN')) →
      wpAny (model prog w) A (execs body env) (TurnEnd h₀ L (fun z => if z = xt then some (.str (S (told cs st)) tx) else if z = xs then some (.ref a) else m z) ((a, W.listOf vs.toArray na) :: (NN ++ NN')) s) E' { s with heap := h, toks := tk })
    (fin : ∀ (o1 o2 : Option Value) (h' : Heap) (tk' : Nat), Fr h₀ L h' (fun z => if z = xt then o1 else if z = xs then o2 else m z) → News h₀ L h' NN → Q .next { s with heap := h', toks := tk' }) :
    wpAny (model prog w) A (pyIter (.ref Wa)) (fun it s₂ => codeAny (model prog w) A (.forLoop (.Tuple [.Name xs ps, .Name xt pt] kk tp) it body [] env) (fun r s' => match r with | .ok f => Q f s' | .error e => cameBackBy (model prog w) A env E e s') s₂) E s := by
  subst hL
  refine wpAny_pyIter_list (News.isList N hW) ?_
  have up : ∀ b o, s.heap.get? b = some o → (s.heap.push { cls := .type "list_iterator", data := .fields #[.ref Wa, .int 0 0] }).get? b = some o := fun b o e => Heap.get?_push_of_some _ e
  have hit : (s.heap.push { cls := .type "list_iterator", data := .fields #[.ref Wa, .int 0 0] }).IsListIter s.heap.objs.size Wa 0 := ⟨_, Heap.get?_push_size _ rfl, rfl, rfl⟩
  have hI₀ : h₀.get? s.heap.objs.size = none := next_is_new F
  have hIL : s.heap.objs.size ≠ env.locals := Nat.ne_of_gt F.ns.lt
  have off : ∀ p ∈ NN, p.1 ≠ s.heap.objs.size := fun p hp => Nat.ne_of_lt (Heap.lt_size (N p hp).1)
  have isL : ∀ h : Heap, h.get? Wa = some (W.listOf items.toArray nW) → h.IsList Wa items.toArray := fun h e' => ⟨_, e', rfl, _, rfl⟩
  generalize s.heap.objs.size = I at hit hI₀ hIL off
  have WK := Walks.list (prog := prog) (w := w) (A := A) hh I Wa (off _ hW) items.toArray
  have hsize : items.toArray.size = items.length := List.size_toArray
  obtain ⟨oI₀, heI₀, hI₀r⟩ := hit
  refine codeAny_forLoop_any
    (fun n s' => ∃ h' tk i mm oI, s' = { s with heap := h', toks := tk } ∧ i ≤ items.length ∧ n = items.length + 1 - i ∧ Fr h₀ env.locals h' mm ∧ (∀ z, z ≠ xs → z ≠ xt → mm z = m z) ∧ News h₀ env.locals h' ((I, oI) :: NN) ∧ h'.IsListIter I Wa i) ?_ (items.length + 1)
    ⟨_, _, 0, m, oI₀, rfl, Nat.zero_le _, rfl, F.keeps up, fun _ _ _ => rfl, fun q hq => ?_, ⟨oI₀, heI₀, hI₀r⟩⟩
  · rintro n s' ⟨h', tk, i, mm, oI, rfl, hi, rfl, F', hag, N', hIt⟩
    have zW := (N' (Wa, W.listOf items.toArray nW) (List.mem_cons_of_mem _ hW)).1
    by_cases hlt : i < items.length
    · refine WK.item i _ _ _ (by rw [hsize]; exact hlt) ⟨hIt, isL _ zW⟩ fun v h₂ tk₂ hv hst₂ hk₂ => ?_
      have hv' : v ∈ items := List.mem_of_getElem? (by simpa using hv)
      obtain ⟨T, a, vs, na, st, tx, rfl, hT, ha, hi', h01, hlen⟩ := hway v hv'
      have up₂ : ∀ q o, q ≠ I → h'.get? q = some o → h₂.get? q = some o := fun q o hq e => hk₂ q o (by simpa using hq) e
      have hT₂ : h₂.IsTuple T #[.ref a, .str (S (told cs st)) tx] := ⟨_, up₂ _ _ (off _ hT) (N' (T, tup2 (.ref a) (.str (S (told cs st)) tx)) (List.mem_cons_of_mem _ hT)).1, rfl, _, rfl⟩
      refine wpAny_letOwnedTupleGo_listiter hst₂.1 ?_
      refine kcp_assign hh hT₂ hxs hxt hp (F'.ns.at' fun o e => up₂ _ o (Ne.symm hIL) e) fun h₄ tk₄ hn₄ hs₄ => ?_
      obtain ⟨oI₂, heI₂, hI₂r⟩ := hst₂.1
      have up : ∀ q o, q ≠ I → q ≠ env.locals → h'.get? q = some o → h₄.get? q = some o := fun q o h1 h2 e => hs₄ q o h2 (up₂ q o h1 e)
      have hL₀ : h₀.get? env.locals = none := Heap.get?_none_of_le F'.above
      have F₄ : Fr h₀ env.locals h₄ (fun z => if z = xt then some (.str (S (told cs st)) tx) else if z = xs then some (.ref a) else m z) :=
        Fr.same ⟨hn₄, fun q o e' => up q o (fun z => by rw [z, hI₀] at e'; cases e') (fun z => by rw [z, hL₀] at e'; cases e') (F'.keep q o e'), F'.above⟩ fun z => by
          by_cases h1 : z = xt
          · rw [if_pos h1, if_pos h1]
          · rw [if_neg h1, if_neg h1]
            by_cases h2 : z = xs
            · rw [if_pos h2, if_pos h2]
            · rw [if_neg h2, if_neg h2]; exact hag z h2 h1
      have N₄ : News h₀ env.locals h₄ ((a, W.listOf vs.toArray na) :: (NN ++ [(I, oI₂)])) := fun q hq => by
        have old : ∀ q' ∈ NN, h₄.get? q'.1 = some q'.2 ∧ q'.1 ≠ env.locals ∧ h₀.get? q'.1 = none := fun q' h1 => ⟨up _ _ (off _ h1) (N' q' (List.mem_cons_of_mem _ h1)).2.1 (N' q' (List.mem_cons_of_mem _ h1)).1, (N' q' (List.mem_cons_of_mem _ h1)).2⟩
        rcases List.mem_cons.mp hq with rfl | hq
        · exact old _ ha
        rcases List.mem_append.mp hq with hq | hq
        · exact old _ hq
        · rw [List.mem_singleton.mp hq]
          exact ⟨hs₄ _ _ hIL heI₂, hIL, hI₀⟩
      refine wpAny_mono (turn a vs na st tx h₄ tk₄ [(I, oI₂)] _ hi' h01 hlen F₄ N₄) (fun f s₅ h₅ => ?_) fun _ _ e => e
      obtain ⟨rfl, h₅, tk₅, rfl, F₅, N₅⟩ := h₅
      refine ⟨items.length + 1 - (i + 1), by omega, h₅, tk₅, i + 1, _, oI₂, rfl, hlt, rfl, F₅, fun z h1 h2 => ?_, fun q hq => ?_, ⟨oI₂, (N₅ (I, oI₂) (by simp)).1, hI₂r⟩⟩
      · show (if z = xt then _ else if z = xs then _ else m z) = m z
        rw [if_neg h2, if_neg h1]
      · rcases List.mem_cons.mp hq with rfl | hq
        · exact N₅ (I, oI₂) (by simp)
        · exact N₅ q (by simp [hq])
    · have hin : i = items.length := Nat.le_antisymm hi (Nat.not_lt.mp hlt)
      subst hin
      refine WK.done _ _ _ ⟨by rw [hsize]; exact hIt, isL _ zW⟩ fun h₂ tk₂ hk₂ => ?_
      have up₂ : ∀ q o, q ≠ I → h'.get? q = some o → h₂.get? q = some o := fun q o hq e => hk₂ q o (by simpa using hq) e
      refine wpAny_execs_nil ?_
      refine fin (mm xt) (mm xs) h₂ tk₂ (Fr.same (LCg.fr_but F' hk₂ (Ne.symm hIL) hI₀) fun z => ?_) fun q hq => ⟨up₂ _ _ (off q hq) (N' q (List.mem_cons_of_mem _ hq)).1, (N' q (List.mem_cons_of_mem _ hq)).2⟩
      by_cases h1 : z = xt
      · rw [if_pos h1, h1]
      · rw [if_neg h1]
        by_cases h2 : z = xs
        · rw [if_pos h2, h2]
        · rw [if_neg h2]; exact hag z h2 h1
  · rcases List.mem_cons.mp hq with rfl | hq
    · exact ⟨heI₀, hIL, hI₀⟩
    · exact ⟨up _ _ (N q hq).1, (N q hq).2⟩
end

/-- the codes are code points -/
theorem code_bound (y k : Int) : 0 ≤ (if y.fmod 3 = 0 ∧ 0 ≤ (y.fdiv 3).fmod 12 ∧ (y.fdiv 3).fmod 12 < 12 then ([32, 160, 9, 288, 416, 35, 97, 133, 31, 255, 127, 10] : List Int).getD ((y.fdiv 3).fmod 12).toNat 0
      else if ¬ y.fmod 3 = 0 ∧ y.fmod 3 = 1 then (y.fdiv 3).fmod 512
      else if ¬ y.fmod 3 = 0 ∧ (y.fdiv 3).fmod 1112064 < 55296 then (y.fdiv 3).fmod 1112064
      else if ¬ y.fmod 3 = 0 ∧ ¬ (y.fdiv 3).fmod 1112064 < 55296 then (y.fdiv 3).fmod 1112064 + 2048 else k) ∧
    (if y.fmod 3 = 0 ∧ 0 ≤ (y.fdiv 3).fmod 12 ∧ (y.fdiv 3).fmod 12 < 12 then ([32, 160, 9, 288, 416, 35, 97, 133, 31, 255, 127, 10] : List Int).getD ((y.fdiv 3).fmod 12).toNat 0
      else if ¬ y.fmod 3 = 0 ∧ y.fmod 3 = 1 then (y.fdiv 3).fmod 512
      else if ¬ y.fmod 3 = 0 ∧ (y.fdiv 3).fmod 1112064 < 55296 then (y.fdiv 3).fmod 1112064
      else if ¬ y.fmod 3 = 0 ∧ ¬ (y.fdiv 3).fmod 1112064 < 55296 then (y.fdiv 3).fmod 1112064 + 2048 else k) < 1114112 := by
  generalize y.fdiv 3 = z
  have h3 : 0 ≤ y.fmod 3 ∧ y.fmod 3 < 3 := by rw [Int.fmod_eq_emod_of_nonneg _ (by decide)]; omega
  have h12 : 0 ≤ z.fmod 12 ∧ z.fmod 12 < 12 := by rw [Int.fmod_eq_emod_of_nonneg _ (by decide)]; omega
  have h512 : 0 ≤ z.fmod 512 ∧ z.fmod 512 < 512 := by rw [Int.fmod_eq_emod_of_nonneg _ (by decide)]; omega
  have hb : 0 ≤ z.fmod 1112064 ∧ z.fmod 1112064 < 1112064 := by rw [Int.fmod_eq_emod_of_nonneg _ (by decide)]; omega
  have tab : ∀ i : Nat, i < 12 → 0 ≤ ([32, 160, 9, 288, 416, 35, 97, 133, 31, 255, 127, 10] : List Int).getD i 0 ∧ ([32, 160, 9, 288, 416, 35, 97, 133, 31, 255, 127, 10] : List Int).getD i 0 < 1114112 := by decide
  by_cases h0 : y.fmod 3 = 0
  · rw [if_pos ⟨h0, h12⟩]
    exact tab _ (by omega)
  · rw [if_neg (fun q => h0 q.1)]
    by_cases h1 : y.fmod 3 = 1
    · rw [if_pos ⟨h0, h1⟩]; omega
    · rw [if_neg (fun q => h1 q.2)]
      by_cases h2 : z.fmod 1112064 < 55296
      · rw [if_pos ⟨h0, h2⟩]; omega
      · rw [if_neg (fun q => h2 q.2), if_pos ⟨h0, h2⟩]; omega
theorem nats_of : ∀ (Ls : List Int), (∀ x ∈ Ls, 0 ≤ x ∧ x < 1114112) → ∃ cs : List Nat, Ls = cs.map (fun n : Nat => (n : Int)) ∧ (∀ c ∈ cs, c < 0x110000) ∧ cs.length = Ls.length
  | [], _ => ⟨[], rfl, (fun _ h => nomatch h), rfl⟩
  | x :: r, h => by
    obtain ⟨cs, e, hc, hl⟩ := nats_of r fun y hy => h y (List.mem_cons_of_mem _ hy)
    have hx := h x List.mem_cons_self
    refine ⟨x.toNat :: cs, ?_, fun c hm => ?_, by simp [hl]⟩
    · rw [List.map_cons, ← e, Int.toNat_of_nonneg hx.1]
    · rcases List.mem_cons.mp hm with rfl | hm
      · omega
      · exact hc c hm
theorem codesOf_ints {vs : List Value} {f : Int → Int} {L0 : List Int} (h : IntsAre vs (L0.map f)) (hf : ∀ k, 0 ≤ f k ∧ f k < 1114112) : ∃ cs : List Nat, IntsAre vs (cs.map fun n : Nat => (n : Int)) ∧ (∀ c ∈ cs, c < 0x110000) ∧ cs.length = L0.length := by
  obtain ⟨cs, e, hc, hl⟩ := nats_of (L0.map f) fun x hx => by
    obtain ⟨k, _, rfl⟩ := List.mem_map.mp hx
    exact hf k
  rw [e] at h
  exact ⟨cs, h, hc, by rw [hl, List.length_map]⟩
theorem cut_fact {vs : List Value} {n : Nat} {cs : List Nat} (h : IntsAre vs (List.take n (cs.map fun n : Nat => (n : Int)))) (hcs : ∀ c ∈ cs, c < 0x110000) (hl : cs.length ≤ 9) :
    ∃ cs1 : List Nat, cs.take n = cs1 ∧ IntsAre vs (cs1.map fun n : Nat => (n : Int)) ∧ (∀ c ∈ cs1, c < 0x110000) ∧ cs1.length ≤ 9 := by
  rw [← List.map_take] at h
  exact ⟨_, rfl, h, fun c hc => hcs c (List.mem_of_mem_take hc), Nat.le_trans (List.length_take_le' ..) hl⟩
theorem allLt_ne {d : Nat} : ∀ {l : List (Addr × Obj)}, AllLt d l → ∀ p ∈ l, p.1 ≠ d
  | [], _, _, h => nomatch h
  | _ :: _, x, p, h => by
    rcases List.mem_cons.mp h with rfl | h
    · exact Nat.ne_of_lt x.1
    · exact allLt_ne x.2 p h
theorem MadeWay.of {h₀ h' : Heap} {L T a' C a : Addr} {m : Str → Option Value} {s : Shared} {cs : List Nat} {st : List Int} {b : Int} {vs' : List Value} {na' tk' : Nat} {tx' : Tok} {oC oa : Obj} {q : Addr × Obj} {RR : List (Addr × Obj)}
    (F : Fr h₀ L h' m) (N : News h₀ L h' ((T, tup2 (.ref a') (.str (S (walked (told cs st) b)) tx')) :: (a', W.listOf vs'.toArray na') :: q :: (C, oC) :: (a, oa) :: RR)) (hI : IntsAre vs' (st ++ [b]))
    (h1 : C < T ∧ a < T ∧ AllLt T RR) (h2 : C < a' ∧ a < a' ∧ AllLt a' RR) (hst : ∀ x ∈ st, x = 0 ∨ x = 1) (hb : b = 0 ∨ b = 1) :
    MadeWay h₀ L m s cs st b ((C, oC) :: (a, oa) :: RR) (.ref T) { s with heap := h', toks := tk' } := by
  rw [told_step hst cs b hb] at N
  refine ⟨T, a', vs', na', tx', h', tk', rfl, rfl, F, hI, fun p hp => N p ?_, fun p hp => ?_⟩
  · rcases List.mem_cons.mp hp with rfl | hp
    · exact List.mem_cons_self
    rcases List.mem_cons.mp hp with rfl | hp
    · exact List.mem_cons_of_mem _ List.mem_cons_self
    · exact List.mem_cons_of_mem _ (List.mem_cons_of_mem _ (List.mem_cons_of_mem _ hp))
  · rcases List.mem_cons.mp hp with rfl | hp
    · exact ⟨Nat.ne_of_lt h1.1, Nat.ne_of_lt h2.1⟩
    rcases List.mem_cons.mp hp with rfl | hp
    · exact ⟨Nat.ne_of_lt h1.2.1, Nat.ne_of_lt h2.2.1⟩
    · exact ⟨allLt_ne h1.2.2 p hp, allLt_ne h2.2.2 p hp⟩
end Mine
end

/-! part K9 -/
section
open PySem PySem.W PyProof.Rows PySem.Calls PySem.Spec
set_option Elab.async false
set_option maxRecDepth 100000
set_option maxHeartbeats 2000000
namespace Mine

/-! a for loop by an invariant over the frame's names and a growing ledger -/
def TurnGrow (h₀ : Heap) (L : Addr) (NN : List (Addr × Obj)) (J : (Str → Option Value) → List (Addr × Obj) → Prop) (s : Shared) (f : Flow) (s' : Shared) : Prop :=
  f = .next ∧ ∃ h' tk' mm' nw', s' = { s with heap := h', toks := tk' } ∧ Fr h₀ L h' mm' ∧ News h₀ L h' nw' ∧ (∀ p ∈ NN, p ∈ nw') ∧ J mm' nw'
theorem TurnGrow.of {h₀ h' : Heap} {L : Addr} {NN nw' : List (Addr × Obj)} {J : (Str → Option Value) → List (Addr × Obj) → Prop} {s : Shared} {mm' : Str → Option Value} {tk' : Nat} (F : Fr h₀ L h' mm') (N : News h₀ L h' nw') (sub : ∀ p ∈ NN, p ∈ nw') (hJ : J mm' nw') :
    TurnGrow h₀ L NN J s .next { s with heap := h', toks := tk' } := ⟨rfl, h', tk', mm', nw', rfl, F, N, sub, hJ⟩
def less (I : Addr) (nw : List (Addr × Obj)) : List (Addr × Obj) := nw.filter fun p => decide (p.1 ≠ I)
theorem mem_less {I : Addr} {nw : List (Addr × Obj)} {p : Addr × Obj} : p ∈ less I nw ↔ p ∈ nw ∧ p.1 ≠ I := by
  unfold less
  rw [List.mem_filter]
  simp

section
variable {prog : Program} {w : World} {A : Around} {E : Value → Shared → Prop} {h₀ : Heap} {L : Addr} {m₀ : Str → Option Value} {env : Env} {s : Shared} {NN : List (Addr × Obj)}

theorem for_inv {body : List Stmt} {x : Str} {px : Pos} {I : Addr} {fp : List Addr} {n : Nat} {P : Nat → Value → Prop} {St : Nat → Heap → Prop} {Q : Flow → Shared → Prop} (ci : String)
    (WK : Walks prog w A I fp [I] n P St) (hStI : ∀ i h, St i h → ∃ o, h.get? I = some o ∧ o.cls = .type ci) (hfp : ∀ b ∈ fp, b = I ∨ ∃ o, (b, o) ∈ NN)
    (hL : env.locals = L) (hx : env.kindOf x = some .local) (hp : (env.scope.kind == .class || (env.scope.kind == .module && env.locals != env.globals)) = false)
    (F : Fr h₀ L s.heap m₀) (N : News h₀ L s.heap NN) (hI₀ : h₀.get? I = none) (hIL : I ≠ L) (off : ∀ p ∈ NN, p.1 ≠ I) (hst : St 0 s.heap)
    (J : Nat → (Str → Option Value) → List (Addr × Obj) → Prop) (J0 : J 0 m₀ NN)
    (Jf : ∀ i mm nw h oI, News h₀ L h nw → (I, oI) ∈ nw → oI.cls = .type ci → J i mm nw → J i mm (less I nw))
    (turn : ∀ i v h tk mm nw oI (E' : Value → Shared → Prop), i < n → P i v → J i mm nw → (∀ p ∈ NN, p ∈ nw) → oI.cls = .type ci → Fr h₀ L h (fun z => if z = x then some v else mm z) → News h₀ L h (NN ++ (I, oI) :: nw) →
      wpAny (model prog w) A (execs body env) (TurnGrow h₀ L ((I, oI) :: nw) (J (i + 1)) s) E' { s with heap := h, toks := tk })
    (fin : ∀ h tk mm nw, J n mm nw → (∀ p ∈ NN, p ∈ nw) → Fr h₀ L h mm → News h₀ L h (NN ++ nw) → Q .next { s with heap := h, toks := tk }) :
    codeAny (model prog w) A (.forLoop (.Name x px) (.ref I) body [] env) (fun r s' => match r with | .ok f => Q f s' | .error e => cameBackBy (model prog w) A env E e s') s := by
  subst hL
  obtain ⟨oI₀, heI₀, hcI₀⟩ := hStI 0 _ hst
  refine codeAny_forLoop_any
    (fun n' s' => ∃ h' tk i mm nw oI, s' = { s with heap := h', toks := tk } ∧ i ≤ n ∧ n' = n + 1 - i ∧ Fr h₀ env.locals h' mm ∧ News h₀ env.locals h' ((I, oI) :: nw) ∧ oI.cls = .type ci ∧ (∀ p ∈ nw, p.1 ≠ I) ∧ (∀ p ∈ NN, p ∈ nw) ∧ St i h' ∧ J i mm nw) ?_ (n + 1)
    ⟨s.heap, s.toks, 0, m₀, NN, oI₀, rfl, Nat.zero_le _, rfl, F, fun q hq => ?_, hcI₀, off, fun _ h => h, hst, J0⟩
  · rintro n' s' ⟨h', tk, i, mm, nw, oI, rfl, hi, rfl, F', N', hcI, off', sub', hst', hJ⟩
    by_cases hlt : i < n
    · refine WK.item i _ _ _ hlt hst' fun v h₂ tk₂ hv hst₂ hk₂ => ?_
      have up₂ : ∀ q o, q ≠ I → h'.get? q = some o → h₂.get? q = some o := fun q o hq e => hk₂ q o (by simpa using hq) e
      refine wpAny_pure ?_
      refine wpAny_assign_Name (wpAny_storeName_local hx (F'.ns.at' fun o e => up₂ _ o (Ne.symm hIL) e) (fun h₃ hn₃ hs₃ => ?_) hp)
      have hL₀ : h₀.get? env.locals = none := Heap.get?_none_of_le F'.above
      have up : ∀ q o, q ≠ I → q ≠ env.locals → h'.get? q = some o → h₃.get? q = some o := fun q o h1 h2 e => hs₃.extBut q o h2 (up₂ q o h1 e)
      have F₃ : Fr h₀ env.locals h₃ (fun z => if z = x then some v else mm z) := ⟨hn₃, fun q o e' => up q o (fun z => by rw [z, hI₀] at e'; cases e') (fun z => by rw [z, hL₀] at e'; cases e') (F'.keep q o e'), F'.above⟩
      obtain ⟨oI₂, heI₂, hcI₂⟩ := hStI _ _ hst₂
      have zI₃ : h₃.get? I = some oI₂ := hs₃.extBut _ _ hIL heI₂
      have old : ∀ q ∈ nw, h₃.get? q.1 = some q.2 ∧ q.1 ≠ env.locals ∧ h₀.get? q.1 = none := fun q hq => ⟨up _ _ (off' q hq) (N' q (List.mem_cons_of_mem _ hq)).2.1 (N' q (List.mem_cons_of_mem _ hq)).1, (N' q (List.mem_cons_of_mem _ hq)).2⟩
      have N₃ : News h₀ env.locals h₃ (NN ++ (I, oI₂) :: nw) := fun q hq => by
        rcases List.mem_append.mp hq with hq | hq
        · exact old q (sub' q hq)
        rcases List.mem_cons.mp hq with rfl | hq
        · exact ⟨zI₃, hIL, hI₀⟩
        · exact old q hq
      have hst₃ : St (i + 1) h₃ := WK.frame _ _ _ hst₂ fun b hb o e => by
        rcases hfp b hb with rfl | ⟨ob, hm⟩
        · exact hs₃.extBut _ _ hIL e
        · exact hs₃.extBut _ _ (N' _ (List.mem_cons_of_mem _ (sub' _ hm))).2.1 e
      refine wpAny_mono (turn i v h₃ _ mm nw oI₂ _ hlt hv hJ sub' hcI₂ F₃ N₃) (fun f s₅ h₅ => ?_) fun _ _ e => e
      obtain ⟨rfl, h₅, tk₅, mm₅, nw₅, rfl, F₅, N₅, sub₅, hJ₅⟩ := h₅
      have mI := sub₅ _ List.mem_cons_self
      refine ⟨n + 1 - (i + 1), by omega, h₅, tk₅, i + 1, mm₅, less I nw₅, oI₂, rfl, hlt, rfl, F₅, fun q hq => ?_, hcI₂, fun q hq => (mem_less.mp hq).2, fun q hq => mem_less.mpr ⟨sub₅ _ (List.mem_cons_of_mem _ (sub' q hq)), off q hq⟩, WK.frame _ _ _ hst₃ fun b hb o e => ?_, Jf _ _ _ _ _ N₅ mI hcI₂ hJ₅⟩
      · rcases List.mem_cons.mp hq with rfl | hq
        · exact N₅ _ mI
        · exact N₅ q (mem_less.mp hq).1
      · rcases hfp b hb with rfl | ⟨ob, hm⟩
        · rw [zI₃] at e; rw [← e]; exact (N₅ _ mI).1
        · have h1 := (old _ (sub' _ hm)).1
          rw [h1] at e
          rw [← e]
          exact (N₅ _ (sub₅ _ (List.mem_cons_of_mem _ (sub' _ hm)))).1
    · have hin : i = n := Nat.le_antisymm hi (Nat.not_lt.mp hlt)
      subst hin
      refine WK.done _ _ _ hst' fun h₂ tk₂ hk₂ => ?_
      have up₂ : ∀ q o, q ≠ I → h'.get? q = some o → h₂.get? q = some o := fun q o hq e => hk₂ q o (by simpa using hq) e
      refine wpAny_execs_nil ?_
      have old : ∀ q ∈ nw, h₂.get? q.1 = some q.2 ∧ q.1 ≠ env.locals ∧ h₀.get? q.1 = none := fun q hq => ⟨up₂ _ _ (off' q hq) (N' q (List.mem_cons_of_mem _ hq)).1, (N' q (List.mem_cons_of_mem _ hq)).2⟩
      refine fin h₂ tk₂ mm nw hJ sub' (LCg.fr_but F' hk₂ (Ne.symm hIL) hI₀) fun q hq => ?_
      rcases List.mem_append.mp hq with hq | hq
      · exact old q (sub' q hq)
      · exact old q hq
  · rcases List.mem_cons.mp hq with rfl | hq
    · exact ⟨heI₀, hIL, hI₀⟩
    · exact N q hq

/-- the invariant of the turns: k steps told on every way -/
def Ways (cs : List Nat) (m : Str → Option Value) (k : Nat) (mm : Str → Option Value) (nw : List (Addr × Obj)) : Prop :=
  ∃ (ot os ov : Option Value) (Wa : Addr) (items : List Value) (nW : Nat), (∀ z, mm z = if z = Str.ofString "text" then ot else if z = Str.ofString "steps" then os else if z = Str.ofString "ways" then some (.ref Wa) else if z = Str.ofString "turn" then ov else m z) ∧
    (Wa, W.listOf items.toArray nW) ∈ nw ∧ (∀ v ∈ items, WayAt cs k nw v) ∧ items.length ≤ 2 ^ k
theorem news_ne {h : Heap} {nw : List (Addr × Obj)} {I a : Addr} {oI o : Obj} (N : News h₀ L h nw) (hI : (I, oI) ∈ nw) (ha : (a, o) ∈ nw) (hc : ¬ oI.cls = o.cls) : a ≠ I := fun e => by
  subst e
  have h1 := (N _ hI).1
  have h2 := (N _ ha).1
  rw [h1] at h2
  exact hc (congrArg Obj.cls (Option.some.inj h2))
theorem WayAt.less {cs : List Nat} {k : Nat} {h : Heap} {nw : List (Addr × Obj)} {I : Addr} {oI : Obj} {v : Value} {ci : String} (N : News h₀ L h nw) (hI : (I, oI) ∈ nw) (hc : oI.cls = .type ci) (h1 : ¬ ci = "tuple") (h2 : ¬ ci = "list") : WayAt cs k nw v → WayAt cs k (less I nw) v := by
  rintro ⟨T, a, vs, n, st, tx, e, hT, ha, r⟩
  exact ⟨T, a, vs, n, st, tx, e, mem_less.mpr ⟨hT, news_ne N hI hT (by rw [hc]; intro q; exact h1 (Value.type.inj q))⟩, mem_less.mpr ⟨ha, news_ne N hI ha (by rw [hc]; intro q; exact h2 (Value.type.inj q))⟩, r⟩
theorem Ways.less {cs : List Nat} {k : Nat} {m mm : Str → Option Value} {h : Heap} {nw : List (Addr × Obj)} {I : Addr} {oI : Obj} {ci : String} (N : News h₀ L h nw) (hI : (I, oI) ∈ nw) (hc : oI.cls = .type ci) (h1 : ¬ ci = "tuple") (h2 : ¬ ci = "list") : Ways cs m k mm nw → Ways cs m k mm (less I nw) := by
  rintro ⟨ot, os, ov, Wa, items, nW, hm, hW, hw, hl⟩
  exact ⟨ot, os, ov, Wa, items, nW, hm, mem_less.mpr ⟨hW, news_ne N hI hW (by rw [hc]; intro q; exact h2 (Value.type.inj q))⟩, fun v hv => (hw v hv).less N hI hc h1 h2, hl⟩
end
end Mine
end

/-! part K10 -/
section
open PySem PySem.W PyProof.Rows PySem.Calls PySem.Spec
set_option Elab.async false
set_option maxRecDepth 100000
set_option maxHeartbeats 2000000
namespace Mine
section
variable {prog : Program} {w : World} {A : Around} {E : Value → Shared → Prop} {h₀ : Heap} {L : Addr} {m₀ : Str → Option Value} {env : Env} {s : Shared} {NN : List (Addr × Obj)}

theorem tuple_for {body : List Stmt} {x : Str} {px : Pos} {ax : Addr} {items : Array Value} {k : Nat} {Q : Flow → Shared → Prop}
    (hh : A.handled = none) (hL : env.locals = L) (hx : env.kindOf x = some .local) (hp : (env.scope.kind == .class || (env.scope.kind == .module && env.locals != env.globals)) = false)
    (F : Fr h₀ L s.heap m₀) (N : News h₀ L s.heap NN) (hm : (ax, ({ cls := .type "tuple", data := .seq items k } : Obj)) ∈ NN)
    (J : Nat → (Str → Option Value) → List (Addr × Obj) → Prop) (J0 : J 0 m₀ NN)
    (Jf : ∀ I i mm nw h oI, News h₀ L h nw → (I, oI) ∈ nw → oI.cls = .type "tuple_iterator" → J i mm nw → J i mm (less I nw))
    (turn : ∀ I i v h tk mm nw oI (E' : Value → Shared → Prop), i < items.size → items[i]? = some v → J i mm nw → (∀ p ∈ NN, p ∈ nw) → oI.cls = .type "tuple_iterator" → Fr h₀ L h (fun z => if z = x then some v else mm z) → News h₀ L h (NN ++ (I, oI) :: nw) →
      wpAny (model prog w) A (execs body env) (TurnGrow h₀ L ((I, oI) :: nw) (J (i + 1)) s) E' { s with heap := h, toks := tk })
    (fin : ∀ h tk mm nw, J items.size mm nw → (∀ p ∈ NN, p ∈ nw) → Fr h₀ L h mm → News h₀ L h (NN ++ nw) → Q .next { s with heap := h, toks := tk }) :
    wpAny (model prog w) A (pyIter (.ref ax)) (fun it s₂ => codeAny (model prog w) A (.forLoop (.Name x px) it body [] env) (fun r s' => match r with | .ok f => Q f s' | .error e => cameBackBy (model prog w) A env E e s') s₂) E s := by
  have hT : s.heap.IsTuple ax items := ⟨_, (N _ hm).1, rfl, _, rfl⟩
  refine wpAny_pyIter_tuple hT ?_
  have up : ∀ b o, s.heap.get? b = some o → (s.heap.push { cls := .type "tuple_iterator", data := .fields #[.ref ax, .int 0 0] }).get? b = some o := fun b o e => Heap.get?_push_of_some _ e
  have hlt : ax < s.heap.objs.size := Heap.lt_size (N _ hm).1
  refine for_inv (s := { s with heap := s.heap.push { cls := .type "tuple_iterator", data := .fields #[.ref ax, .int 0 0] } }) (NN := NN) "tuple_iterator" (Walks.tuple hh s.heap.objs.size ax (Nat.ne_of_lt hlt) items) (fun i h st => by obtain ⟨o, e, hc, _⟩ := st.1; exact ⟨o, e, hc⟩) (fun b hb => ?_)
    hL hx hp (F.keeps up) (N.grown up) (next_is_new F) (Nat.ne_of_gt F.ns.lt) (fun p hp => Nat.ne_of_lt (Heap.lt_size (N p hp).1)) ⟨⟨_, Heap.get?_push_size _ rfl, rfl, rfl⟩, ⟨_, up _ _ (N _ hm).1, rfl, _, rfl⟩⟩ J J0 (Jf _)
    (fun i v h tk mm nw oI E' => turn _ i v h tk mm nw oI E') fin
  rcases List.mem_cons.mp hb with rfl | hb
  · exact .inl rfl
  · rw [List.mem_singleton.mp hb]
    exact .inr ⟨_, hm⟩

theorem range_for {body : List Stmt} {x : Str} {px : Pos} {r : Addr} {t u v : Tok} {h₁ : Heap} {Q : Flow → Shared → Prop}
    (hh : A.handled = none) (hL : env.locals = L) (hx : env.kindOf x = some .local) (hp : (env.scope.kind == .class || (env.scope.kind == .module && env.locals != env.globals)) = false)
    (F₁ : Fr h₀ L h₁ m₀) (N₁ : News h₀ L h₁ NN) (up₁ : ∀ b o, h₁.get? b = some o → s.heap.get? b = some o) (hr : IsRange s.heap r 0 3 1 t u v)
    (J : Nat → (Str → Option Value) → List (Addr × Obj) → Prop) (J0 : J 0 m₀ NN)
    (Jf : ∀ I i mm nw h oI, News h₀ L h nw → (I, oI) ∈ nw → oI.cls = .type "range_iterator" → J i mm nw → J i mm (less I nw))
    (turn : ∀ I i v h tk mm nw oI (E' : Value → Shared → Prop), i < 3 → J i mm nw → (∀ p ∈ NN, p ∈ nw) → oI.cls = .type "range_iterator" → Fr h₀ L h (fun z => if z = x then some v else mm z) → News h₀ L h (NN ++ (I, oI) :: nw) →
      wpAny (model prog w) A (execs body env) (TurnGrow h₀ L ((I, oI) :: nw) (J (i + 1)) s) E' { s with heap := h, toks := tk })
    (fin : ∀ h tk mm nw, J 3 mm nw → (∀ p ∈ NN, p ∈ nw) → Fr h₀ L h mm → News h₀ L h (NN ++ nw) → Q .next { s with heap := h, toks := tk }) :
    wpAny (model prog w) A (pyIter (.ref r)) (fun it s₂ => codeAny (model prog w) A (.forLoop (.Name x px) it body [] env) (fun r s' => match r with | .ok f => Q f s' | .error e => cameBackBy (model prog w) A env E e s') s₂) E s := by
  have F : Fr h₀ L s.heap m₀ := F₁.keeps up₁
  have N : News h₀ L s.heap NN := N₁.grown up₁
  have hn : Builtin.Range.rangeSize 0 3 1 = ((3 : Nat) : Int) := by decide
  refine wpAny_pyIter_range hr (by decide) ?_
  have hz : ∀ o : Obj, ∀ b o', s.heap.get? b = some o' → (s.heap.push o).get? b = some o' := fun o b o' e => Heap.get?_push_of_some _ e
  refine for_inv (n := 3) (NN := NN) "range_iterator" (LCg.range_walks hh 0 3) (fun i h st => ⟨_, st, rfl⟩) (fun b hb => .inl (List.mem_singleton.mp hb))
    hL hx hp (F.keeps (hz _)) (N.grown (hz _)) (next_is_new F) (Nat.ne_of_gt F.ns.lt) (fun p hp => Nat.ne_of_lt (Heap.lt_size (N p hp).1)) (by show IsRangeIter _ _ _ _ _; rw [hn]; simpa using Heap.get?_push_size _ rfl) J J0 (Jf _)
    (fun i v h tk mm nw oI E' hi _ => turn _ i v h tk mm nw oI E' hi) fin

theorem Ways.start {cs : List Nat} {m : Str → Option Value} {Wa T a : Addr} {tx : Tok} {n n2 : Nat} (hm : m (Str.ofString "ways") = some (.ref Wa)) (hW : (Wa, W.listOf #[Value.ref T] n) ∈ NN) (hT : (T, ({ cls := .type "tuple", data := .seq #[.ref a, .str (S cs) tx] } : Obj)) ∈ NN) (ha : (a, W.listOf #[] n2) ∈ NN) : Ways cs m 0 m NN := by
  refine ⟨m (Str.ofString "text"), m (Str.ofString "steps"), m (Str.ofString "turn"), Wa, [.ref T], n, fun z => ?_, hW, fun v hv => ?_, Nat.le_refl _⟩
  · by_cases h1 : z = Str.ofString "text"
    · rw [if_pos h1, h1]
    rw [if_neg h1]
    by_cases h2 : z = Str.ofString "steps"
    · rw [if_pos h2, h2]
    rw [if_neg h2]
    by_cases h3 : z = Str.ofString "ways"
    · rw [if_pos h3, h3, hm]
    rw [if_neg h3]
    by_cases h4 : z = Str.ofString "turn"
    · rw [if_pos h4, h4]
    rw [if_neg h4]
  · rw [List.mem_singleton.mp hv]
    exact ⟨T, a, [], n2, [], tx, rfl, by rw [told_nil]; exact hT, ha, .nil, (fun x hx => nomatch hx), rfl⟩
/-- outside the loops' names the frame is as it was -/
def Outer (m mm : Str → Option Value) : Prop := ∀ z, z ≠ Str.ofString "text" → z ≠ Str.ofString "steps" → z ≠ Str.ofString "ways" → z ≠ Str.ofString "turn" → z ≠ Str.ofString "end" → mm z = m z
theorem Outer.norm {m mm : Str → Option Value} (h : Outer m mm) (z : Str) : mm z = if z = Str.ofString "text" then mm (Str.ofString "text") else if z = Str.ofString "steps" then mm (Str.ofString "steps") else if z = Str.ofString "ways" then mm (Str.ofString "ways") else if z = Str.ofString "turn" then mm (Str.ofString "turn") else if z = Str.ofString "end" then mm (Str.ofString "end") else m z := by
  by_cases h1 : z = Str.ofString "text"
  · rw [if_pos h1, h1]
  rw [if_neg h1]
  by_cases h2 : z = Str.ofString "steps"
  · rw [if_pos h2, h2]
  rw [if_neg h2]
  by_cases h3 : z = Str.ofString "ways"
  · rw [if_pos h3, h3]
  rw [if_neg h3]
  by_cases h4 : z = Str.ofString "turn"
  · rw [if_pos h4, h4]
  rw [if_neg h4]
  by_cases h5 : z = Str.ofString "end"
  · rw [if_pos h5, h5]
  rw [if_neg h5]
  exact h z h1 h2 h3 h4 h5
theorem ways_map {r o1 o2 a b ot os a' b' : Option Value} (z : Str) :
    (if z = Str.ofString "text" then o1 else if z = Str.ofString "steps" then o2 else if z = Str.ofString "ways" then a else if z = Str.ofString "turn" then b else if z = Str.ofString "text" then ot else if z = Str.ofString "steps" then os else if z = Str.ofString "ways" then a' else if z = Str.ofString "turn" then b' else r)
      = if z = Str.ofString "text" then o1 else if z = Str.ofString "steps" then o2 else if z = Str.ofString "ways" then a else if z = Str.ofString "turn" then b else r := by
  by_cases h1 : z = Str.ofString "text"
  · simp only [if_pos h1]
  by_cases h2 : z = Str.ofString "steps"
  · simp only [if_neg h1, if_pos h2]
  by_cases h3 : z = Str.ofString "ways"
  · simp only [if_neg h1, if_neg h2, if_pos h3]
  by_cases h4 : z = Str.ofString "turn"
  · simp only [if_neg h1, if_neg h2, if_neg h3, if_pos h4]
  simp only [if_neg h1, if_neg h2, if_neg h3, if_neg h4]

theorem tuple_forO {body : List Stmt} {x : Str} {px : Pos} {ax : Addr} {items : Array Value} {k : Nat} {Q : Flow → Shared → Prop}
    (hh : A.handled = none) (hL : env.locals = L) (hx : env.kindOf x = some .local) (hp : (env.scope.kind == .class || (env.scope.kind == .module && env.locals != env.globals)) = false)
    (F : Fr h₀ L s.heap m₀) (N : News h₀ L s.heap NN) (hm : (ax, ({ cls := .type "tuple", data := .seq items k } : Obj)) ∈ NN)
    (turn : ∀ I i v h tk mm nw oI (E' : Value → Shared → Prop), i < items.size → items[i]? = some v → Outer m₀ mm → Fr h₀ L h (fun z => if z = x then some v else if z = Str.ofString "text" then mm (Str.ofString "text") else if z = Str.ofString "steps" then mm (Str.ofString "steps") else if z = Str.ofString "ways" then mm (Str.ofString "ways") else if z = Str.ofString "turn" then mm (Str.ofString "turn") else if z = Str.ofString "end" then mm (Str.ofString "end") else m₀ z) → News h₀ L h (NN ++ (I, oI) :: nw) →
      wpAny (model prog w) A (execs body env) (TurnGrow h₀ L ((I, oI) :: nw) (fun mm' _ => Outer m₀ mm') s) E' { s with heap := h, toks := tk })
    (fin : ∀ h tk mm nw, Outer m₀ mm → Fr h₀ L h mm → News h₀ L h (NN ++ nw) → Q .next { s with heap := h, toks := tk }) :
    wpAny (model prog w) A (pyIter (.ref ax)) (fun it s₂ => codeAny (model prog w) A (.forLoop (.Name x px) it body [] env) (fun r s' => match r with | .ok f => Q f s' | .error e => cameBackBy (model prog w) A env E e s') s₂) E s :=
  tuple_for hh hL hx hp F N hm (fun _ mm _ => Outer m₀ mm) (fun _ _ _ _ _ _ => rfl) (fun _ _ _ _ _ _ _ _ _ h => h)
    (fun I i v h tk mm nw oI E' hi hv hJ _ _ F' N' => turn I i v h tk mm nw oI E' hi hv hJ (Fr.same F' fun z => by rw [← Outer.norm hJ z]) N')
    (fun h tk mm nw hJ _ F' N' => fin h tk mm nw hJ F' N')

theorem range_forW {body : List Stmt} {x : Str} {px : Pos} {r : Addr} {t u v : Tok} {h₁ : Heap} {cs : List Nat} {Q : Flow → Shared → Prop}
    (hh : A.handled = none) (hL : env.locals = L) (hx : env.kindOf x = some .local) (hp : (env.scope.kind == .class || (env.scope.kind == .module && env.locals != env.globals)) = false)
    (F₁ : Fr h₀ L h₁ m₀) (N₁ : News h₀ L h₁ NN) (up₁ : ∀ b o, h₁.get? b = some o → s.heap.get? b = some o) (hr : IsRange s.heap r 0 3 1 t u v) (W0 : Ways cs m₀ 0 m₀ NN)
    (turn : ∀ I i v h tk nw oI ot os ov Wa items nW (E' : Value → Shared → Prop), i < 3 → (∀ v ∈ items, WayAt cs i nw v) → items.length ≤ 2 ^ i →
      Fr h₀ L h (fun z => if z = x then some v else if z = Str.ofString "text" then ot else if z = Str.ofString "steps" then os else if z = Str.ofString "ways" then some (.ref Wa) else if z = Str.ofString "turn" then ov else m₀ z) →
      News h₀ L h ((Wa, W.listOf (List.toArray items) nW) :: (NN ++ (I, oI) :: nw)) →
      wpAny (model prog w) A (execs body env) (TurnGrow h₀ L ((I, oI) :: nw) (Ways cs m₀ (i + 1)) s) E' { s with heap := h, toks := tk })
    (fin : ∀ h tk mm nw, Ways cs m₀ 3 mm nw → (∀ p ∈ NN, p ∈ nw) → Fr h₀ L h mm → News h₀ L h (NN ++ nw) → Q .next { s with heap := h, toks := tk }) :
    wpAny (model prog w) A (pyIter (.ref r)) (fun it s₂ => codeAny (model prog w) A (.forLoop (.Name x px) it body [] env) (fun r s' => match r with | .ok f => Q f s' | .error e => cameBackBy (model prog w) A env E e s') s₂) E s :=
  range_for hh hL hx hp F₁ N₁ up₁ hr (Ways cs m₀) W0 (fun _ _ _ _ _ _ N hI hc h => h.less N hI hc (by decide) (by decide))
    (fun I i v h tk mm nw oI E' hi hJ _ _ F' N' => by
      obtain ⟨ot, os, ov, Wa, items, nW, hm, hW, hw, hl⟩ := hJ
      exact turn I i v h tk nw oI ot os ov Wa items nW E' hi hw hl (Fr.same F' fun z => by rw [hm z]) (News.twice N' (List.mem_append.mpr (.inr (List.mem_cons_of_mem _ hW)))))
    fin
/-- behind the turns the frame is, outside the loops' names, as it was -/
theorem Ways.outer {cs : List Nat} {k : Nat} {m mm m₁ : Str → Option Value} {nw : List (Addr × Obj)} (h : Ways cs m k mm nw) (hm : ∀ z, z ≠ Str.ofString "text" → z ≠ Str.ofString "steps" → z ≠ Str.ofString "ways" → z ≠ Str.ofString "turn" → z ≠ Str.ofString "end" → m z = m₁ z) : Outer m₁ mm := by
  obtain ⟨ot, os, ov, Wa, items, nW, hz, _⟩ := h
  intro z h1 h2 h3 h4 h5
  rw [hz z, if_neg h1, if_neg h2, if_neg h3, if_neg h4]
  exact hm z h1 h2 h3 h4 h5
end
end Mine
end

/-! part C9t -/
section
open PySem PySem.W PyProof.Rows
set_option Elab.async false
set_option maxRecDepth 100000
set_option maxHeartbeats 8000000
namespace Mine
local macro_rules | `(tactic| walk_at "no such key") => `(tactic| fail)
local macro_rules | `(tactic| walk_at "no such key") => `(tactic| fail)
local macro_rules | `(tactic| walk_at "no such key") => `(tactic| fail)
local macro_rules | `(tactic| walk_at "no such key") => `(tactic| fail)
local macro_rules | `(tactic| walk_at "no such key") => `(tactic| fail)
local macro_rules | `(tactic| walk_at "no such key") => `(tactic| fail)
local macro_rules | `(tactic| walk_at "no such key") => `(tactic| fail)
local macro_rules | `(tactic| walk_at "no such key") => `(tactic| fail)
local macro_rules | `(tactic| walk_at "no such key") => `(tactic| fail)
local macro_rules | `(tactic| walk_at "no such key") => `(tactic| fail)
local macro_rules | `(tactic| walk_at "no such key") => `(tactic| fail)
local macro_rules | `(tactic| walk_at "no such key") => `(tactic| fail)
local macro_rules | `(tactic| walk_at "no such key") => `(tactic| fail)
local macro_rules | `(tactic| walk_at "no such key") => `(tactic| fail)
local macro_rules | `(tactic| walk_at "no such key") => `(tactic| fail)
local macro_rules | `(tactic| walk_at "no such key") => `(tactic| fail)
local macro_rules | `(tactic| walk_at "no such key") => `(tactic| fail)
local macro_rules | `(tactic| walk_at "no such key") => `(tactic| fail)
local macro_rules | `(tactic| walk_at "no such key") => `(tactic| fail)
local macro_rules | `(tactic| walk_at "no such key") => `(tactic| fail)
local macro_rules | `(tactic| walk_at "no such key") => `(tactic| fail)
local macro_rules | `(tactic| cell_enter) => `(tactic| (refine' code_def ?k1 ?k2 ?k3 ?k4 ?k5 ?kA ?kF ?kK ?k6 ?k7 ?k8 ?k9 ?kB ?_ ?c2 ?c3 ?c4 ?c5; (case kA => exact rfl); (case kF => exact rfl); (case kK => first | exact rfl | assumption); (case k1 => k_asm); (case k2 => k_asm); (case k3 => k_asm); (case k4 => k_asm); (case k5 => k_asm); (case k6 => k_is); (case k7 => k_is); (case k8 => ktr_room); (case k9 => exact BindsTo.of_eq rfl); (case c5 => decide); (case kB => exact locs rfl); (case c2 => exact rfl); (case c3 => exact rfl); (case c4 => exact rfl); k_whole; intro g' L' h' FG' F' N' B' X' T'; (try dsimp only); (try k_lift B'); (try k_fold)))
local macro_rules | `(tactic| walk_at "exec Assign cons ListComp") => `(tactic| (k_here; (with_reducible show wpAny _ _ (exec (Stmt.Assign [Expr.Name (Str.ofString "ways") _] (Expr.ListComp _ _ _ _) _) _) _ _ _); refine stop_at ?_))
local macro_rules | `(tactic| walk_at "exec For Tuple Name cons nil") => `(tactic| (k_here; (with_reducible show wpAny _ _ (exec (Stmt.For (Expr.Tuple _ _ _) _ _ _ _) _) _ _ _); refine stop_at ?_))
local macro_rules | `(tactic| walk_at "exec For Name Tuple cons nil") => `(tactic| (k_here; (with_reducible show wpAny _ _ (exec (Stmt.For (Expr.Name (Str.ofString "end") _) _ _ _ _) _) _ _ _); refine stop_at ?_))
local macro_rules | `(tactic| walk_at "exec For Name Call cons nil") => `(tactic| (k_here; (with_reducible show wpAny _ _ (exec (Stmt.For (Expr.Name (Str.ofString "turn") _) _ _ _ _) _) _ _ _); refine stop_at ?_))
local macro_rules | `(tactic| walk_at "pyIter ref") => `(tactic| (k_here; (with_reducible show wpAny _ _ (pyIter (Value.ref _)) _ _ _); refine stop_at ?_))
local macro_rules | `(tactic| walk_at "call ref") => `(tactic| (k_here; (with_reducible show wpAny _ _ (call (Value.ref 78) _) _ _ _); refine stop_at ?_))
local macro_rules | `(tactic| walk_at "call ref") => `(tactic| (k_here; k_dflt (refine' Cl.use (c_walked _ _ _ _ _ _ ?kp ?kq _ _ _) ?k1 ?k2 ?k3 ?k4 ?k5 ?kK ?kd ?ku ?_; (case k1 => k_asm); (case k2 => k_asm); (case k3 => k_asm); (case k4 => k_asm); (case k5 => k_asm); (case kK => first | exact rfl | assumption); (case kp => assumption); (case kq => assumption); (case kd => ktr_room); (case ku => ktr_units); k_whole; intro t9 h9 tk9 F9 N9; (try dsimp only); (try k_fold))))
local macro_rules | `(tactic| walk_at "eval ListComp") => `(tactic| (k_here; k_dflt (refine ListComp_I (by k_asm) (by with_unfolding_all rfl) (by decide) (by rfl) (by decide) (by rfl) ?_)))
theorem holds1 : PySem.Challenge.rw_mq0049_01.Holds := hd (by
  (k_go0; (all_goals try k_fold); k_steps)
  rename IntsAre _ (List.map _ (List.take _ _ ++ _)) => hRaw
  obtain ⟨cs, hIc, hcs, hcl⟩ := codesOf_ints hRaw (fun k => code_bound _ _)
  clear hRaw
  rename List.length _ = List.length (List.map _ (List.take _ _ ++ _)) => hL8
  clear hL8
  have hcl9 : cs.length ≤ 9 := by
    rw [hcl, List.length_append, List.length_take]
    simp only [List.length_cons, List.length_nil]
    omega
  show wpAny _ _ _ _ _ _
  refine wpAny_For ?_ (by intro _; rfl)
  k_steps
  show wpAny _ _ _ _ _ _
  refine' tuple_forO ?hh ?hL ?hx ?hp ?F ?N ?hm ?turn ?fin
  case hh => rfl
  case hL => rfl
  case hx => rfl
  case hp => rfl
  case F => k_asm
  case N => k_asm
  case hm => k_mem
  case fin =>
    intro h tk mm nw hJ F' N'
    simp only [List.cons_append, List.nil_append] at N'
    k_steps
  case turn =>
    intro I i v h tk mm nw oI E' hi hv hJ F' N'
    simp only [List.cons_append, List.nil_append] at N'
    obtain ⟨e, te, rfl⟩ : ∃ (e : Nat) (te : Tok), v = .int (e : Int) te := by
      rcases (show i = 0 ∨ i = 1 from by simp only [List.size_toArray, List.length_cons, List.length_nil] at hi; omega) with rfl | rfl
      · exact ⟨_, _, (Option.some.inj hv).symm⟩
      · exact ⟨_, _, (Option.some.inj hv).symm⟩
    clear hv hi
    k_steps
    rename IntsAre _ (List.take _ (List.map _ _)) => hIs
    obtain ⟨cs1, hE, hI1, hc1, hl1⟩ := cut_fact hIs hcs hcl9
    clear hIs
    refine' srcI_codes (fun n => S [n]) ?F ?N ?hm hI1 ?hl ?hh ?turn ?fin
    case F => k_asm
    case N => k_asm
    case hm => k_mem
    case hl => omega
    case hh => rfl
    case turn =>
      intro n t I oI C oC D m₂ ys h tk E' hn hoC hx F' N'
      have hnn := hc1 n hn
      k_steps
      exact ⟨_, _, rfl, by k_asm, by k_asm⟩
    case fin =>
      intro gg ys hys D h tk F' N' off'
      have hsum := sum_len (fun n => [n]) 1 (fun c => Nat.le_refl _) cs1
      k_steps
      refine join_list (News.isList (by k_asm) (by k_mem)) (ys := cs1.map fun n => S [n]) (by exact hys) (by rw [show (Str.ofString "").length = 0 from by decide +kernel]; omega) ?_
      intro t' k'
      rw [join_flat cs1 (fun n => [n]), flat_one]
      k_steps
      show wpAny _ _ _ _ _ _
      refine wpAny_For ?_ (by intro _; rfl)
      k_steps
      show wpAny _ _ _ _ _ _
      refine' range_forW (cs := cs1) ?hh ?hL ?hx ?hp ?F ?N ?up ?hr ?W0 ?turn ?fin
      case hh => rfl
      case hL => rfl
      case hx => rfl
      case hp => rfl
      case hr => assumption
      case up => assumption
      case F => k_asm
      case N => k_asm
      case W0 => exact Ways.start rfl (by k_mem) (by k_mem) (by k_mem)
      case fin =>
        intro h tk mm nw hJ sub F' N'
        simp only [List.cons_append, List.nil_append] at N'
        k_steps
        refine TurnGrow.of (by k_asm) (by k_asm) (by kcf_all) (hJ.outer ?_)
        intro z h1 h2 h3 h4 h5
        simp only [if_neg h1, if_neg h2, if_neg h3, if_neg h4, if_neg h5]
      case turn =>
        intro I i v h tk nw oI ot os ov Wa items nW E' hi hw hl F' N'
        simp only [List.cons_append, List.nil_append] at N'
        k_steps
        show wpAny _ _ _ _ _ _
        k_dflt (refine Assign_ListComp_G (by k_asm) (by rfl) (by with_unfolding_all rfl) (by with_unfolding_all rfl) (by decide) (by rfl) (by decide) (by rfl) (by rfl) ?_)
        refine ld (by k_asm) (by rfl) ?_
        refine' ways_iter (cs := cs1) (k := i) (xs := Str.ofString "steps") (xt := Str.ofString "text") (xb := Str.ofString "step") ?hh ?hk ?h1 ?h2 ?h3 (by decide) (by decide) (by decide) ?F ?N ?hW ?hway ?hsz ?elem ?fin
        case hh => rfl
        case hk => rfl
        case h1 => rfl
        case h2 => rfl
        case h3 => rfl
        case F => k_asm
        case N => k_asm
        case hW => k_mem
        case hway => exact fun v hv => (hw v hv).mono (by kcf_all)
        case hsz =>
          have h9 : 2 ^ i ≤ 2 ^ 3 := Nat.pow_le_pow_right (by decide) (by omega)
          omega
        case elem =>
          intro st a vs na tx b tb C oC m₂ h tk RR E' hi' h01 hlen hb hoC hs ht hbb F' N'
          have hst3 : st.length ≤ 3 := by omega
          have hwl : (S (told cs1 st)).length ≤ 30000 := by
            have h9 := told_len cs1 st hst3 h01
            rw [S_length]
            omega
          have hwc := told_codes cs1 st hc1
          k_steps
          rename _ ∧ _ ∧ _ ∧ _ ∧ AllLt _ RR => l2
          rename _ ∧ _ ∧ _ ∧ AllLt _ RR => l1
          exact MadeWay.of (by k_asm) (by k_asm) (by assumption) l2.2.2 l1.2 h01 hb
        case fin =>
          intro ys nw2 D h tk sub hw2 hl2 F' N'
          have N' := news_join sub N'
          simp only [List.cons_append, List.nil_append] at N'
          k_steps
          show wpAny _ _ _ _ _ _
          refine wpAny_For ?_ (by intro _; rfl)
          refine ld (by k_asm) (by rfl) ?_
          refine' ways_for (cs := cs1) (k := i + 1) (items := ys) (xs := Str.ofString "steps") (xt := Str.ofString "text") ?hh ?hL ?h1 ?h2 ?h3 ?F ?N ?hW ?hway ?turn ?fin
          case hh => rfl
          case hL => rfl
          case h1 => rfl
          case h2 => rfl
          case h3 => rfl
          case F => k_asm
          case N => k_asm
          case hW => k_mem
          case hway => exact fun v hv => (hw2 v hv).mono (by kcf_all)
          case turn =>
            intro a vs na st tx h tk NN' E' hi' h01 hlen F' N'
            simp only [List.cons_append, List.nil_append, List.append_assoc] at N'
            have hst3 : st.length ≤ 3 := by omega
            k_steps
            rename IntsAre _ (List.take _ (List.map _ _)) => hIs
            rw [← List.map_take, hE] at hIs
            show wpAny _ _ _ _ _ _
            k_dflt (refine' Cl.use (c_told _ _ _ _ _ _ _ _ hIs hc1 ?kl _ _ _ _ _ hi' h01 hst3) ?k1 ?k2 ?k3 ?k4 ?k5 ?kK ?kd ?ku ?_; (case kl => omega); (case k1 => k_asm); (case k2 => k_asm); (case k3 => k_asm); (case k4 => k_asm); (case k5 => k_asm); (case kK => first | exact rfl | assumption); (case kd => ktr_room); (case ku => ktr_units); k_whole)
            intro t9 h9 tk9 F9 N9
            dsimp only
            k_steps
            · exfalso
              rename (S _ != S _) = true => hne
              simp at hne
            · exact TurnEnd.of (by k_asm) (cb_drop N9 (by kcf_all))
          case fin =>
            intro o1 o2 h' tk' F' N'
            k_steps
            refine TurnGrow.of (by k_asm) (by k_asm) (by kcf_all) ⟨o1, o2, some v, D, ys, ys.length, ?_, ?_, ?_, ?_⟩
            · exact fun z => ways_map z
            · k_mem
            · exact fun v hv => (hw2 v hv).mono (by kcf_all)
            · rw [hl2, Nat.pow_succ]; omega
)
end Mine
end

theorem PySem.Challenge.cw_mq0049_01_holds : PySem.Challenge.rw_mq0049_01.Holds := by
  exact Mine.holds1
