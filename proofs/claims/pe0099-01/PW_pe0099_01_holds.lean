import PyProof.Rows.All
import Wide.All
import OpenK.AllK
import Wide.FinOn
import PySem.Sre
import PySem.Challenge.RW_pe0099_01
set_option Elab.async false
set_option rowWalk.seconds 0

theorem Mine.fresh_Hd99 : True := by (w_top off; first | (walk1; done) | trivial)
section
open PySem PySem.W PyProof.Rows
set_option Elab.async false
namespace Mine
set_option maxRecDepth 100000 in
set_option maxHeartbeats 8000000 in
open_top hd for PySem.Challenge.rw_pe0099_01
end Mine
end

theorem Mine.fresh_Pl1 : True := by (w_top off; first | (walk1; done) | trivial)
section
namespace Mine
/-! texts as lists of numbers -/
def consHead (c : Nat) : List (List Nat) → List (List Nat)
  | [] => [[c]]
  | l :: ls => (c :: l) :: ls
def preHead (x : List Nat) : List (List Nat) → List (List Nat)
  | [] => [x]
  | l :: ls => (x ++ l) :: ls
def joinL (sep : List Nat) : List (List Nat) → List Nat
  | [] => []
  | [l] => l
  | l :: l' :: ls => l ++ sep ++ joinL sep (l' :: ls)

theorem joinL_cons {sep l : List Nat} {ls : List (List Nat)} (h : ls ≠ []) : joinL sep (l :: ls) = l ++ sep ++ joinL sep ls := by
  cases ls with
  | nil => exact absurd rfl h
  | cons a b => rfl
theorem joinL_consHead (sep : List Nat) (c : Nat) {ls : List (List Nat)} (h : ls ≠ []) : joinL sep (consHead c ls) = c :: joinL sep ls := by
  cases ls with
  | nil => exact absurd rfl h
  | cons a b => cases b <;> rfl
theorem consHead_ne (c : Nat) (ls : List (List Nat)) : consHead c ls ≠ [] := by cases ls <;> simp [consHead]
theorem preHead_nil {ls : List (List Nat)} (h : ls ≠ []) : preHead [] ls = ls := by
  cases ls with
  | nil => exact absurd rfl h
  | cons a b => rfl
theorem preHead_cons (c : Nat) (x : List Nat) {ls : List (List Nat)} (h : ls ≠ []) : preHead (c :: x) ls = consHead c (preHead x ls) := by
  cases ls with
  | nil => exact absurd rfl h
  | cons a b => rfl
theorem preHead_ne (x : List Nat) (ls : List (List Nat)) : preHead x ls ≠ [] := by cases ls <;> simp [preHead]
theorem preHead_append (x y : List Nat) {ls : List (List Nat)} (h : ls ≠ []) : preHead (x ++ y) ls = preHead x (preHead y ls) := by
  cases ls with
  | nil => exact absurd rfl h
  | cons a b => simp [preHead]

/-- line ends as the program's first pattern turns them -/
def crlfA (pr : Bool) : List Nat → List Nat
  | [] => []
  | c :: r => if c = 10 then (if pr then crlfA false r else 13 :: 10 :: crlfA false r) else if c = 13 then 13 :: 10 :: crlfA true r else c :: crlfA false r
/-- a dot more at the begin of a row -/
def dotq (bol : Bool) : List Nat → List Nat
  | [] => []
  | c :: r => (if bol = true ∧ c = 46 then [46, 46] else [c]) ++ dotq (c == 10) r
def quoteL (x : List Nat) : List Nat := dotq true (crlfA false x)
def quoteN : Nat → List Nat → List Nat
  | 0, x => x
  | n + 1, x => quoteN n (quoteL x)

/-- the rows of a text -/
def linesA (pr : Bool) : List Nat → List (List Nat)
  | [] => [[]]
  | c :: r => if c = 10 then (if pr then linesA false r else [] :: linesA false r) else if c = 13 then [] :: linesA true r else consHead c (linesA false r)

def Clean (l : List Nat) : Prop := ∀ c ∈ l, c ≠ 10 ∧ c ≠ 13

theorem linesA_ne (x : List Nat) : ∀ pr, linesA pr x ≠ [] := by
  induction x with
  | nil => intro pr; simp [linesA]
  | cons c r ih =>
    intro pr
    rw [linesA]
    split
    · split
      · exact ih _
      · simp
    · split
      · simp
      · exact consHead_ne _ _
theorem crlfA_lines (x : List Nat) : ∀ pr, crlfA pr x = joinL [13, 10] (linesA pr x) := by
  induction x with
  | nil => intro pr; rfl
  | cons c r ih =>
    intro pr
    rw [linesA, crlfA]
    split
    · split
      · exact ih _
      · rw [joinL_cons (linesA_ne _ _), ← ih]; rfl
    · split
      · rw [joinL_cons (linesA_ne _ _), ← ih]; rfl
      · rw [joinL_consHead _ _ (linesA_ne _ _), ← ih]
theorem clean_consHead {c : Nat} (hc : c ≠ 10 ∧ c ≠ 13) {ls : List (List Nat)} (h : ∀ l ∈ ls, Clean l) : ∀ l ∈ consHead c ls, Clean l := by
  cases ls with
  | nil => intro l hl d hd; simp [consHead] at hl; subst hl; simp at hd; subst hd; exact hc
  | cons a b =>
    intro l hl
    rcases List.mem_cons.mp hl with rfl | hl
    · intro d hd
      rcases List.mem_cons.mp hd with rfl | hd
      · exact hc
      · exact h a (.head _) d hd
    · exact h l (.tail _ hl)
theorem linesA_clean (x : List Nat) : ∀ pr, ∀ l ∈ linesA pr x, Clean l := by
  induction x with
  | nil => intro pr l hl d hd; simp [linesA] at hl; subst hl; cases hd
  | cons c r ih =>
    intro pr
    have e : ∀ pr, ∀ l ∈ ([] : List Nat) :: linesA pr r, Clean l := by
      intro pr l hl
      rcases List.mem_cons.mp hl with rfl | hl
      · intro d hd; cases hd
      · exact ih pr l hl
    rw [linesA]
    split
    · split
      · exact ih _
      · exact e _
    · split
      · exact e _
      · rename_i h1 h2
        exact clean_consHead ⟨h1, h2⟩ (ih _)

/-- a clean row in front -/
theorem linesA_clean_append {l : List Nat} (h : Clean l) : ∀ {pr : Bool} (r : List Nat), (pr = true → l ≠ []) → linesA pr (l ++ r) = preHead l (linesA false r) := by
  induction l with
  | nil =>
    intro pr r hp
    cases pr with
    | true => exact absurd rfl (hp rfl)
    | false => rw [preHead_nil (linesA_ne _ _)]; rfl
  | cons c l ih =>
    intro pr r _
    obtain ⟨h1, h2⟩ := h c (.head _)
    rw [List.cons_append, linesA, if_neg h1, if_neg h2, ih (fun d hd => h d (.tail _ hd)) r (by simp), preHead_cons _ _ (linesA_ne _ _)]

theorem lines_join_crlf : ∀ {ls : List (List Nat)}, ls ≠ [] → (∀ l ∈ ls, Clean l) → linesA false (joinL [13, 10] ls) = ls
  | [], h, _ => absurd rfl h
  | [l], _, h => by
    have := linesA_clean_append (h l (.head _)) (pr := false) [] (by simp)
    rw [List.append_nil] at this
    show linesA false l = [l]
    rw [this]; simp [linesA, preHead]
  | l :: l' :: ls, _, h => by
    rw [joinL, List.append_assoc, linesA_clean_append (h l (.head _)) _ (by simp)]
    have : linesA false ([13, 10] ++ joinL [13, 10] (l' :: ls)) = [] :: linesA false (joinL [13, 10] (l' :: ls)) := rfl
    rw [this, lines_join_crlf (by simp) (fun x hx => h x (.tail _ hx))]
    simp [preHead]
theorem lines_join_lf : ∀ {ls : List (List Nat)}, ls ≠ [] → (∀ l ∈ ls, Clean l) → linesA false (joinL [10] ls) = ls
  | [], h, _ => absurd rfl h
  | [l], _, h => by
    have := linesA_clean_append (h l (.head _)) (pr := false) [] (by simp)
    rw [List.append_nil] at this
    show linesA false l = [l]
    rw [this]; simp [linesA, preHead]
  | l :: l' :: ls, _, h => by
    rw [joinL, List.append_assoc, linesA_clean_append (h l (.head _)) _ (by simp)]
    have : linesA false ([10] ++ joinL [10] (l' :: ls)) = [] :: linesA false (joinL [10] (l' :: ls)) := rfl
    rw [this, lines_join_lf (by simp) (fun x hx => h x (.tail _ hx))]
    simp [preHead]

/-- dots -/
def stuff (n : Nat) (l : List Nat) : List Nat := if l.head? = some 46 then List.replicate n 46 ++ l else l

theorem dotq_false_clean {l : List Nat} (h : Clean l) (r : List Nat) (hr : r = [] ∨ ∃ d r', r = d :: r') : dotq false (l ++ r) = l ++ dotq false r := by
  induction l with
  | nil => rfl
  | cons c l ih =>
    obtain ⟨h1, _⟩ := h c (.head _)
    have : (c == 10) = false := by simpa using h1
    rw [List.cons_append, dotq, this, ih fun d hd => h d (.tail _ hd)]
    simp
theorem dotq_true_clean {l : List Nat} (h : Clean l) (r : List Nat) (hr : l = [] → r.head? ≠ some 46) : dotq true (l ++ r) = stuff 1 l ++ dotq false r := by
  cases l with
  | nil =>
    have hr' := hr rfl
    cases r with
    | nil => rfl
    | cons d r =>
      have : d ≠ 46 := fun e => hr' (by rw [e]; rfl)
      simp [dotq, stuff, this]
  | cons c l =>
    obtain ⟨h1, _⟩ := h c (.head _)
    have e : (c == 10) = false := by simpa using h1
    rw [List.cons_append, dotq, e, dotq_false_clean (fun d hd => h d (.tail _ hd)) r (by cases r <;> simp)]
    by_cases hc : c = 46 <;> simp [stuff, hc]

theorem dotq_join : ∀ {ls : List (List Nat)}, ls ≠ [] → (∀ l ∈ ls, Clean l) → dotq true (joinL [13, 10] ls) = joinL [13, 10] (ls.map (stuff 1))
  | [], h, _ => absurd rfl h
  | [l], _, h => by
    have := dotq_true_clean (h l (.head _)) [] (by simp)
    rw [List.append_nil] at this
    show dotq true l = stuff 1 l
    rw [this]; simp [dotq]
  | l :: l' :: ls, _, h => by
    rw [joinL, List.append_assoc, dotq_true_clean (h l (.head _)) _ (by simp)]
    have : dotq false ([13, 10] ++ joinL [13, 10] (l' :: ls)) = 13 :: 10 :: dotq true (joinL [13, 10] (l' :: ls)) := rfl
    rw [this, dotq_join (by simp) (fun x hx => h x (.tail _ hx))]
    simp [joinL]

theorem stuff_clean {n : Nat} {l : List Nat} (h : Clean l) : Clean (stuff n l) := by
  unfold stuff
  split
  · intro c hc
    rcases List.mem_append.mp hc with hc | hc
    · rw [(List.mem_replicate.mp hc).2]; decide
    · exact h c hc
  · exact h
theorem stuff_stuff (n : Nat) (l : List Nat) : stuff n (stuff 1 l) = stuff (n + 1) l := by
  unfold stuff
  by_cases h : l.head? = some 46
  · simp [h, List.replicate_succ']
  · simp [h]
theorem stuff_zero (l : List Nat) : stuff 0 l = l := by unfold stuff; split <;> simp

theorem quoteL_join {ls : List (List Nat)} (hn : ls ≠ []) (h : ∀ l ∈ ls, Clean l) : quoteL (joinL [13, 10] ls) = joinL [13, 10] (ls.map (stuff 1)) := by
  unfold quoteL
  rw [crlfA_lines, lines_join_crlf hn h, dotq_join hn h]
theorem quoteL_lines (x : List Nat) : quoteL x = joinL [13, 10] ((linesA false x).map (stuff 1)) := by
  unfold quoteL
  rw [crlfA_lines, dotq_join (linesA_ne _ _) (linesA_clean _ _)]
theorem quoteN_join : ∀ (n : Nat) {ls : List (List Nat)}, ls ≠ [] → (∀ l ∈ ls, Clean l) → quoteN n (joinL [13, 10] ls) = joinL [13, 10] (ls.map (stuff n))
  | 0, ls, _, _ => by
    have : ls.map (stuff 0) = ls := by rw [List.map_congr_left (g := id) fun l _ => stuff_zero l]; simp
    rw [this]; rfl
  | n + 1, ls, hn, h => by
    rw [quoteN, quoteL_join hn h, quoteN_join n (by simpa using hn) (by intro l hl; obtain ⟨l', hl', rfl⟩ := List.mem_map.mp hl; exact stuff_clean (h l' hl'))]
    rw [List.map_map]
    congr 1
    exact List.map_congr_left fun l _ => stuff_stuff n l
theorem quoteN_lines (n : Nat) (x : List Nat) : quoteN (n + 1) x = joinL [13, 10] ((linesA false x).map (stuff (n + 1))) := by
  rw [quoteN, quoteL_lines, quoteN_join n (by simpa using linesA_ne _ _) (by intro l hl; obtain ⟨l', hl', rfl⟩ := List.mem_map.mp hl; exact stuff_clean (linesA_clean _ _ l' hl'))]
  rw [List.map_map]
  congr 1
  exact List.map_congr_left fun l _ => stuff_stuff n l
end Mine
end

theorem Mine.fresh_Pl2 : True := by (w_top off; first | (walk1; done) | trivial)
section
namespace Mine
abbrev Tab := List (Nat × List Nat)

def escC (ns : Tab) (c : Nat) : List Nat := match ns.lookup c with
  | some n => 38 :: n
  | none => [c]
def escL (ns : Tab) (x : List Nat) : List Nat := x.flatMap (escC ns)

def matchN (ns : Tab) (r : List Nat) : Option (Nat × Nat) := ns.foldl (fun acc p => if p.2.isPrefixOf r then some (p.1, p.2.length) else acc) none

def tokL (ns : Tab) (c : Nat) (r : List Nat) : Nat × Nat := if c = 38 then (match matchN ns r with | some p => (p.1, 1 + p.2) | none => (c, 1)) else (c, 1)

def readF (ns : Tab) : Nat → List Nat → List Nat × Bool
  | 0, _ => ([], true)
  | _ + 1, [] => ([], true)
  | f + 1, c :: r =>
    let q := tokL ns c r
    let z := readF ns f (r.drop (q.2 - 1))
    (q.1 :: z.1, !(decide (q.2 = 1) && (ns.lookup q.1).isSome) && z.2)
def readL (ns : Tab) (x : List Nat) : List Nat × Bool := readF ns x.length x

/-- what the proof asks of a table of names -/
structure TabOk (ns : Tab) : Prop where
  amp : (ns.lookup 38).isSome = true
  dot : ns.lookup 46 = none
  found : ∀ c n, ns.lookup c = some n → ∀ r, matchN ns (n ++ r) = some (c, n.length)
  self : ∀ p ∈ ns, ns.lookup p.1 = some p.2
  long : ∀ p ∈ ns, p.2 ≠ []
  clean : ∀ p ∈ ns, Clean p.2

theorem lookup_mem {ns : Tab} {c : Nat} {n : List Nat} (h : ns.lookup c = some n) : (c, n) ∈ ns := by
  induction ns with
  | nil => cases h
  | cons p r ih =>
    rw [List.lookup_cons] at h
    by_cases e : (c == p.1) = true
    · rw [e] at h
      cases h
      rw [beq_iff_eq.mp e]
      exact .head _
    · have e' : (c == p.1) = false := by simpa using e
      rw [e'] at h
      exact .tail _ (ih h)

theorem matchN_from (r : List Nat) : ∀ (l : Tab) (acc : Option (Nat × Nat)) (c k : Nat), l.foldl (fun acc p => if p.2.isPrefixOf r then some (p.1, p.2.length) else acc) acc = some (c, k) → acc = some (c, k) ∨ ∃ n, (c, n) ∈ l ∧ k = n.length ∧ n.isPrefixOf r = true
  | [], acc, c, k, h => .inl h
  | p :: l, acc, c, k, h => by
    rw [List.foldl_cons] at h
    rcases matchN_from r l _ c k h with h1 | ⟨n, h1, h2, h3⟩
    · by_cases hp : p.2.isPrefixOf r = true
      · rw [if_pos hp] at h1
        cases h1
        exact .inr ⟨p.2, .head _, rfl, hp⟩
      · rw [if_neg hp] at h1; exact .inl h1
    · exact .inr ⟨n, .tail _ h1, h2, h3⟩
theorem matchN_some {ns : Tab} {r : List Nat} {c k : Nat} (h : matchN ns r = some (c, k)) : ∃ n, (c, n) ∈ ns ∧ k = n.length ∧ ∃ r', r = n ++ r' := by
  rcases matchN_from r ns none c k h with h1 | ⟨n, h1, h2, h3⟩
  · cases h1
  · obtain ⟨r', e⟩ := List.isPrefixOf_iff_prefix.mp h3
    exact ⟨n, h1, h2, r', e.symm⟩

section
variable {ns : Tab} (T : TabOk ns)
include T

theorem escC_len (c : Nat) : 1 ≤ (escC ns c).length := by unfold escC; split <;> simp

theorem readF_esc : ∀ (x : List Nat) (f : Nat), (escL ns x).length ≤ f → readF ns f (escL ns x) = (x, true)
  | [], f, _ => by cases f <;> rfl
  | c :: x, f, hf => by
    have he : escL ns (c :: x) = escC ns c ++ escL ns x := rfl
    rw [he, List.length_append] at hf
    have hl := escC_len T c
    cases f with
    | zero => omega
    | succ f =>
      rw [he]
      unfold escC at hf ⊢
      cases hc : ns.lookup c with
      | none =>
        rw [hc] at hf
        have h38 : c ≠ 38 := fun e => by have := T.amp; rw [← e, hc] at this; cases this
        simp only [List.cons_append, List.nil_append, readF, tokL, if_neg h38]
        rw [show (1 : Nat) - 1 = 0 from rfl, List.drop_zero, readF_esc x f (by simp at hf; omega), hc]
        rfl
      | some n =>
        rw [hc] at hf
        simp only [List.cons_append, readF, tokL, if_true, T.found c n hc]
        have : 1 + n.length - 1 = n.length := by omega
        rw [this, List.drop_left, readF_esc x f (by simp at hf; omega)]
        have hn : n ≠ [] := T.long _ (lookup_mem hc)
        have h1 : decide (1 + n.length = 1) = false := by
          have : n.length ≠ 0 := by simpa using hn
          simp; exact hn
        rw [h1]; rfl

theorem readF_back : ∀ (f : Nat) (x s : List Nat), x.length ≤ f → readF ns f x = (s, true) → escL ns s = x
  | 0, x, s, hf, h => by
    have : x = [] := by simpa using hf
    subst this
    simp [readF] at h
    rw [h]; rfl
  | f + 1, [], s, hf, h => by
    simp [readF] at h
    rw [h]; rfl
  | f + 1, c :: r, s, hf, h => by
    simp only [readF, Prod.mk.injEq, Bool.and_eq_true, Bool.not_eq_true'] at h
    obtain ⟨rfl, h1, h2⟩ := h
    have hrec := readF_back f (r.drop ((tokL ns c r).2 - 1)) _ (by simp at hf ⊢; omega) (Prod.ext rfl h2)
    show escC ns (tokL ns c r).1 ++ escL ns _ = c :: r
    rw [hrec]
    unfold tokL at h1 ⊢
    by_cases h38 : c = 38
    · subst h38
      simp only [if_true] at h1 ⊢
      cases hm : matchN ns r with
      | none =>
        rw [hm] at h1
        have := T.amp
        simp [this] at h1
      | some p =>
        obtain ⟨n, hn, hk, r', rfl⟩ := matchN_some (c := p.1) (k := p.2) hm
        have hlk := T.self _ hn
        simp only at hlk
        simp only [escC, hlk, hk]
        have : 1 + n.length - 1 = n.length := by omega
        rw [this, List.drop_left]; rfl
    · simp only [if_neg h38] at h1 ⊢
      have : ns.lookup c = none := by simpa using h1
      simp [escC, this]

theorem escL_head {x : List Nat} : (escL ns x).head? = some 46 ↔ x.head? = some 46 := by
  cases x with
  | nil => exact Iff.rfl
  | cons c x =>
    show (escC ns c ++ escL ns x).head? = some 46 ↔ some c = some 46
    unfold escC
    cases hc : ns.lookup c with
    | none => simp
    | some n =>
      simp only [List.cons_append, List.head?_cons, Option.some.injEq]
      constructor
      · intro h; exact absurd h (by decide)
      · intro h; rw [h, T.dot] at hc; cases hc
theorem escL_stuff (t : Nat) (x : List Nat) : escL ns (stuff t x) = stuff t (escL ns x) := by
  unfold stuff
  by_cases h : x.head? = some 46
  · rw [if_pos h, if_pos ((escL_head T).mpr h)]
    unfold escL
    rw [List.flatMap_append]
    congr 1
    have : escC ns 46 = [46] := by unfold escC; rw [T.dot]
    induction t with
    | zero => rfl
    | succ t ih => rw [List.replicate_succ, List.flatMap_cons, ih, this]; rfl
  · rw [if_neg h, if_neg fun x => h ((escL_head T).mp x)]
end

theorem escL_append (ns : Tab) (x y : List Nat) : escL ns (x ++ y) = escL ns x ++ escL ns y := List.flatMap_append ..
theorem escL_join (ns : Tab) (sep : List Nat) : ∀ ls : List (List Nat), escL ns (joinL sep ls) = joinL (escL ns sep) (ls.map (escL ns))
  | [] => rfl
  | [l] => rfl
  | l :: l' :: ls => by
    rw [joinL, escL_append, escL_append, escL_join ns sep (l' :: ls)]; rfl

/-- parted at each sep, from the left -/
def splitF (sep : List Nat) : Nat → List Nat → List (List Nat)
  | 0, x => [x]
  | _ + 1, [] => [[]]
  | f + 1, c :: r => if sep.isPrefixOf (c :: r) = true then [] :: splitF sep f ((c :: r).drop sep.length) else consHead c (splitF sep f r)
def splitL (sep x : List Nat) : List (List Nat) := splitF sep x.length x

theorem splitF_ne (sep : List Nat) : ∀ (f : Nat) (x : List Nat), splitF sep f x ≠ []
  | 0, x => by simp [splitF]
  | f + 1, [] => by simp [splitF]
  | f + 1, c :: r => by
    rw [splitF]
    split
    · simp
    · exact consHead_ne _ _
theorem splitF_fuel {sep : List Nat} (hs : sep ≠ []) : ∀ (f g : Nat) (x : List Nat), x.length ≤ f → x.length ≤ g → splitF sep f x = splitF sep g x
  | 0, 0, x, _, _ => rfl
  | 0, g + 1, x, h, _ => by
    have : x = [] := by simpa using h
    subst this; rfl
  | f + 1, 0, x, _, h => by
    have : x = [] := by simpa using h
    subst this; rfl
  | f + 1, g + 1, [], _, _ => rfl
  | f + 1, g + 1, c :: r, h1, h2 => by
    have : 0 < sep.length := by cases sep <;> simp_all
    simp at h1 h2
    rw [splitF, splitF, splitF_fuel hs f g _ (by simp; omega) (by simp; omega), splitF_fuel hs f g r (by omega) (by omega)]
theorem splitF_join {sep : List Nat} (hs : sep ≠ []) : ∀ (f : Nat) (x : List Nat), x.length ≤ f → joinL sep (splitF sep f x) = x
  | 0, x, h => by simp [splitF, joinL]
  | f + 1, [], _ => rfl
  | f + 1, c :: r, h => by
    rw [splitF]
    split
    · rename_i hp
      obtain ⟨r', e⟩ := List.isPrefixOf_iff_prefix.mp hp
      rw [joinL_cons (splitF_ne _ _ _)]
      have hl : ((c :: r).drop sep.length) = r' := by rw [← e, List.drop_left]
      rw [hl]
      have : 0 < sep.length := by cases sep <;> simp_all
      have hr : r'.length ≤ f := by
        have := congrArg List.length e
        simp at this h
        omega
      rw [splitF_join hs f r' hr, ← e]; simp
    · rw [joinL_consHead _ _ (splitF_ne _ _ _), splitF_join hs f r (by simp at h; omega)]
theorem splitL_join {sep : List Nat} (hs : sep ≠ []) (x : List Nat) : joinL sep (splitL sep x) = x := splitF_join hs _ _ (Nat.le_refl _)

theorem splitL_nil (sep : List Nat) : splitL sep [] = [[]] := rfl
theorem splitL_ne (sep x : List Nat) : splitL sep x ≠ [] := splitF_ne _ _ _
theorem splitL_sep {sep : List Nat} (hs : sep ≠ []) (r : List Nat) : splitL sep (sep ++ r) = [] :: splitL sep r := by
  unfold splitL
  cases sep with
  | nil => exact absurd rfl hs
  | cons c sep =>
    have h : (c :: sep).isPrefixOf (c :: sep ++ r) = true := List.isPrefixOf_iff_prefix.mpr ⟨r, rfl⟩
    rw [List.cons_append] at h ⊢
    rw [List.length_cons, splitF, if_pos h]
    have e : (c :: (sep ++ r)).drop (c :: sep).length = r := by rw [← List.cons_append, List.drop_left]
    rw [e, splitF_fuel hs _ r.length r (by simp) (Nat.le_refl _)]
theorem splitL_cons {sep : List Nat} (c : Nat) (r : List Nat) (h : sep.isPrefixOf (c :: r) = false) : splitL sep (c :: r) = consHead c (splitL sep r) := by
  unfold splitL
  rw [List.length_cons, splitF, h]; rfl

/-- a piece that no sep begins in, whatever follows -/
def Apart (sep x : List Nat) : Prop := ∀ r, splitL sep (x ++ r) = preHead x (splitL sep r)
theorem apart_nil (sep : List Nat) : Apart sep [] := fun r => (preHead_nil (splitL_ne _ _)).symm
theorem apart_append {sep x y : List Nat} (hx : Apart sep x) (hy : Apart sep y) : Apart sep (x ++ y) := fun r => by
  rw [List.append_assoc, hx, hy, preHead_append _ _ (splitL_ne _ _)]
theorem apart_one {c d : Nat} {sep : List Nat} (h : c ≠ d) : Apart (d :: sep) [c] := fun r => by
  have : (d :: sep).isPrefixOf (c :: r) = false := by
    have : (d == c) = false := by simpa using fun e => h (Eq.symm e)
    rw [List.isPrefixOf, this]; rfl
  rw [List.cons_append, List.nil_append, splitL_cons _ _ this, preHead_cons _ _ (splitL_ne _ _), preHead_nil (splitL_ne _ _)]
theorem apart_cons {c : Nat} {sep x : List Nat} (h : ∀ r, sep.isPrefixOf (c :: (x ++ r)) = false) (hx : Apart sep x) : Apart sep (c :: x) := fun r => by
  rw [List.cons_append, splitL_cons _ _ (h r), hx, preHead_cons _ _ (splitL_ne _ _)]
theorem apart_flatMap {sep : List Nat} {f : Nat → List Nat} : ∀ (x : List Nat), (∀ c ∈ x, Apart sep (f c)) → Apart sep (x.flatMap f)
  | [], _ => apart_nil sep
  | c :: x, h => by
    rw [List.flatMap_cons]
    exact apart_append (h c (.head _)) (apart_flatMap x fun d hd => h d (.tail _ hd))
theorem split_joined {sep : List Nat} (hs : sep ≠ []) : ∀ {ls : List (List Nat)}, ls ≠ [] → (∀ l ∈ ls, Apart sep l) → splitL sep (joinL sep ls) = ls
  | [], h, _ => absurd rfl h
  | [l], _, h => by
    have := h l (.head _) []
    rw [List.append_nil] at this
    show splitL sep l = [l]
    rw [this]; simp [splitL_nil, preHead]
  | l :: l' :: ls, _, h => by
    rw [joinL, List.append_assoc, h l (.head _), splitL_sep hs, split_joined hs (by simp) fun x hx => h x (.tail _ hx)]
    simp [preHead]

/-- one row as it is heard -/
def rowOf (t : Nat) (row : List Nat) : Bool × List Nat := if row.head? = some 46 then (decide (row.take (t + 1) = List.replicate (t + 1) 46), row.drop t) else (true, row)
def rowL (ns : Tab) (order t : Nat) (row : List Nat) : List Nat × Bool :=
  let q := rowOf t row
  let z := readL ns q.2
  let seen := if order = 1 then z.1 else q.2
  (z.1, q.1 && (z.2 && (!seen.contains 13 && !seen.contains 10)))
def heardL (ns : Tab) (due : List Nat) (order t : Nat) (page : List Nat) : List Nat × Bool :=
  let rows := if due = [] then [page] else splitL due page
  (joinL [10] (rows.map fun r => (rowL ns order t r).1), rows.all fun r => (rowL ns order t r).2)
def arriveL (ns : Tab) (order t : Nat) (x : List Nat) : List Nat := if order = 0 then quoteN t (escL ns x) else escL ns (quoteN t x)

theorem rowOf_stuff (t : Nat) (l : List Nat) : rowOf t (stuff t l) = (true, l) := by
  unfold stuff
  by_cases h : l.head? = some 46
  · rw [if_pos h]
    cases l with
    | nil => cases h
    | cons c l =>
      have hc : c = 46 := by simpa using h
      subst hc
      have h1 : (List.replicate t 46 ++ 46 :: l).head? = some 46 := by cases t <;> simp [List.replicate_succ]
      unfold rowOf
      rw [if_pos h1]
      have h2 : (List.replicate t 46 ++ 46 :: l).take (t + 1) = List.replicate (t + 1) 46 := by
        rw [List.take_append]
        simp [List.replicate_succ', List.take_of_length_le]
      have h3 : (List.replicate t 46 ++ 46 :: l).drop t = 46 :: l := by
        have : (List.replicate t 46).length = t := by simp
        conv => lhs; rw [← this]
        simp
      rw [h2, h3]; simp
  · rw [if_neg h]; unfold rowOf; rw [if_neg h]
theorem rowOf_back {t : Nat} {row rest : List Nat} (h : rowOf t row = (true, rest)) : row = stuff t rest := by
  unfold rowOf at h
  by_cases hd : row.head? = some 46
  · rw [if_pos hd] at h
    simp only [Prod.mk.injEq, decide_eq_true_eq] at h
    obtain ⟨h1, rfl⟩ := h
    have h2 : row.take t = List.replicate t 46 := by
      have := congrArg (List.take t) h1
      rw [List.take_take] at this
      simpa [Nat.min_eq_left (Nat.le_succ t)] using this
    have h3 : (row.drop t).head? = some 46 := by
      have : row[t]? = some 46 := by
        have h4 : (row.take (t + 1))[t]? = some 46 := by rw [h1]; simp
        rw [List.getElem?_take] at h4
        simpa using h4
      rw [List.head?_drop]; exact this
    unfold stuff
    rw [if_pos h3, ← h2, List.take_append_drop]
  · rw [if_neg hd] at h
    simp only [Prod.mk.injEq, true_and] at h
    subst h
    unfold stuff
    rw [if_neg hd]
end Mine
end

theorem Mine.fresh_Pl3 : True := by (w_top off; first | (walk1; done) | trivial)
section
set_option linter.unusedVariables false
namespace Mine

theorem clean_contains {l : List Nat} (h : Clean l) : (!l.contains 13 && !l.contains 10) = true := by
  have h1 : l.contains 13 = false := by
    rw [List.contains_eq_any_beq, List.any_eq_false]; intro c hc; simpa using fun e => (h c hc).2 (Eq.symm e)
  have h2 : l.contains 10 = false := by
    rw [List.contains_eq_any_beq, List.any_eq_false]; intro c hc; simpa using fun e => (h c hc).1 (Eq.symm e)
  rw [h1, h2]; rfl
theorem contains_clean {l : List Nat} (h : (!l.contains 13 && !l.contains 10) = true) : Clean l := by
  simp only [Bool.and_eq_true, Bool.not_eq_true'] at h
  intro c hc
  refine ⟨fun e => ?_, fun e => ?_⟩
  · have := h.2; subst e; rw [List.contains_iff_mem.mpr hc] at this; cases this
  · have := h.1; subst e; rw [List.contains_iff_mem.mpr hc] at this; cases this

theorem lines_one {l : List Nat} (h : Clean l) : linesA false l = [l] := by
  have := lines_join_lf (ls := [l]) (by simp) (by intro x hx; simp at hx; rw [hx]; exact h)
  exact this

theorem apart_noHead {d : Nat} {sep : List Nat} : ∀ (x : List Nat), (∀ c ∈ x, c ≠ d) → Apart (d :: sep) x
  | [], _ => apart_nil _
  | c :: x, h => apart_append (x := [c]) (apart_one (h c (.head _))) (apart_noHead x fun e he => h e (.tail _ he))

section
variable {ns : Tab} (T : TabOk ns) {t : Nat}
include T

theorem readL_esc (x : List Nat) : readL ns (escL ns x) = (x, true) := readF_esc T x _ (Nat.le_refl _)
theorem readL_back {x s : List Nat} (h : readL ns x = (s, true)) : escL ns s = x := readF_back T _ x s (Nat.le_refl _) h

theorem row_true {order : Nat} {row : List Nat} (h : (rowL ns order t row).2 = true) :
    row = stuff t (escL ns (rowL ns order t row).1) ∧ Clean (if order = 1 then (rowL ns order t row).1 else escL ns (rowL ns order t row).1) := by
  unfold rowL at h ⊢
  simp only [Bool.and_eq_true] at h ⊢
  obtain ⟨h1, h2, h3⟩ := h
  have e1 := rowOf_back (t := t) (row := row) (rest := (rowOf t row).2) (Prod.ext h1 rfl)
  have e2 := readL_back T (x := (rowOf t row).2) (s := (readL ns (rowOf t row).2).1) (Prod.ext rfl h2)
  rw [e2]
  refine ⟨e1, contains_clean ?_⟩
  simp only [Bool.and_eq_true]
  exact h3
theorem row_of {order : Nat} {l : List Nat} (h : Clean (if order = 1 then l else escL ns l)) : rowL ns order t (stuff t (escL ns l)) = (l, true) := by
  unfold rowL
  simp only [rowOf_stuff, readL_esc T]
  rw [clean_contains h]; rfl

theorem heard_rows {rows : List (List Nat)} {order : Nat} (h : (rows.all fun r => (rowL ns order t r).2) = true) :
    rows = rows.map (fun r => stuff t (escL ns (rowL ns order t r).1)) ∧ ∀ l ∈ rows.map (fun r => (rowL ns order t r).1), Clean (if order = 1 then l else escL ns l) := by
  have h' := List.all_eq_true.mp h
  refine ⟨?_, fun l hl => ?_⟩
  · have : rows.map id = rows.map (fun r => stuff t (escL ns (rowL ns order t r).1)) := List.map_congr_left fun r hr => (row_true T (h' r hr)).1
    rwa [List.map_id] at this
  · obtain ⟨r, hr, rfl⟩ := List.mem_map.mp hl
    exact (row_true T (h' r hr)).2

theorem lawB1 {p h : List Nat} (hh : heardL ns (escL ns [13, 10]) 1 (t + 1) p = (h, true)) : arriveL ns 1 (t + 1) h = p := by
  have hd : escL ns [13, 10] ≠ [] := by
    intro e
    have := congrArg List.length e
    have h1 := escC_len T 13
    simp [escL] at this
    rw [this.1] at h1; simp at h1
  unfold heardL at hh
  rw [if_neg hd] at hh
  simp only [Prod.mk.injEq] at hh
  obtain ⟨rfl, hf⟩ := hh
  obtain ⟨e1, e2⟩ := heard_rows T hf
  simp only [if_true] at e2
  show escL ns (quoteN (t + 1) _) = p
  rw [quoteN_lines, lines_join_lf (by simpa using splitL_ne _ _) e2, escL_join]
  conv => rhs; rw [← splitL_join hd p, e1]
  congr 1
  rw [List.map_map, List.map_map]
  exact List.map_congr_left fun r hr => by simp only [Function.comp]; exact escL_stuff T _ _

theorem lawB0 (h10 : escC ns 10 = [10]) {p h : List Nat} (hh : heardL ns [13, 10] 0 (t + 1) p = (h, true)) : arriveL ns 0 (t + 1) h = p := by
  have hd : [13, 10] ≠ ([] : List Nat) := by simp
  unfold heardL at hh
  rw [if_neg hd] at hh
  simp only [Prod.mk.injEq] at hh
  obtain ⟨rfl, hf⟩ := hh
  obtain ⟨e1, e2⟩ := heard_rows T hf
  simp only [Nat.zero_ne_one, if_false] at e2
  show quoteN (t + 1) (escL ns _) = p
  have e10 : escL ns [10] = [10] := by simp [escL, h10]
  rw [escL_join, e10, quoteN_lines, lines_join_lf (by simpa using splitL_ne _ _) (by
    intro l hl
    obtain ⟨l', hl', rfl⟩ := List.mem_map.mp hl
    exact e2 l' hl')]
  conv => rhs; rw [← splitL_join hd p, e1]
  congr 1
  rw [List.map_map, List.map_map]
  rfl
theorem lawB00 {p h : List Nat} (hh : heardL ns [] 0 (t + 1) p = (h, true)) : arriveL ns 0 (t + 1) h = p := by
  unfold heardL at hh
  rw [if_pos rfl] at hh
  simp only [Prod.mk.injEq] at hh
  obtain ⟨rfl, hf⟩ := hh
  obtain ⟨e1, e2⟩ := heard_rows T hf
  simp only [Nat.zero_ne_one, if_false, List.map_cons, List.map_nil, List.mem_singleton, forall_eq, List.cons.injEq, and_true] at e1 e2
  show quoteN (t + 1) (escL ns (rowL ns 0 (t + 1) p).1) = p
  rw [quoteN_lines, lines_one e2]
  exact e1.symm

theorem heard_of {rows : List (List Nat)} {order : Nat} (h : ∀ l ∈ rows, Clean (if order = 1 then l else escL ns l)) :
    (joinL [10] ((rows.map fun l => stuff t (escL ns l)).map fun r => (rowL ns order t r).1), (rows.map fun l => stuff t (escL ns l)).all fun r => (rowL ns order t r).2) = (joinL [10] rows, true) := by
  refine Prod.ext ?_ ?_
  · show joinL _ _ = joinL _ _
    congr 1
    rw [List.map_map]
    have : rows.map ((fun r => (rowL ns order t r).1) ∘ fun l => stuff t (escL ns l)) = rows.map id := List.map_congr_left fun l hl => by simp only [Function.comp]; rw [row_of T (h l hl)]; rfl
    rw [this, List.map_id]
  · show List.all _ _ = true
    rw [List.all_eq_true]
    intro r hr
    obtain ⟨l, hl, rfl⟩ := List.mem_map.mp hr
    rw [row_of T (h l hl)]

theorem lawA1 (hap : ∀ c, c ≠ 10 → c ≠ 13 → Apart (escL ns [13, 10]) (escC ns c)) (x : List Nat) :
    heardL ns (escL ns [13, 10]) 1 (t + 1) (arriveL ns 1 (t + 1) x) = (joinL [10] (linesA false x), true) := by
  have hd : escL ns [13, 10] ≠ [] := by
    intro e
    have := congrArg List.length e
    have h1 := escC_len T 13
    simp [escL] at this
    rw [this.1] at h1; simp at h1
  have ha : arriveL ns 1 (t + 1) x = joinL (escL ns [13, 10]) ((linesA false x).map fun l => stuff (t + 1) (escL ns l)) := by
    show escL ns (quoteN (t + 1) x) = _
    rw [quoteN_lines, escL_join, List.map_map]
    congr 1
    exact List.map_congr_left fun l _ => escL_stuff T _ _
  unfold heardL
  rw [if_neg hd, ha, split_joined hd (by simpa using linesA_ne _ _) (by
    intro l hl
    obtain ⟨l', hl', rfl⟩ := List.mem_map.mp hl
    rw [← escL_stuff T]
    refine apart_flatMap _ fun c hc => ?_
    have := stuff_clean (n := t + 1) (linesA_clean _ _ l' hl') c hc
    exact hap c this.1 this.2)]
  exact heard_of T fun l hl => by rw [if_pos rfl]; exact linesA_clean _ _ l hl

theorem lawA0 {x : List Nat} {xs : List (List Nat)} (hl : linesA false (escL ns x) = xs.map (escL ns)) :
    heardL ns [13, 10] 0 (t + 1) (arriveL ns 0 (t + 1) x) = (joinL [10] xs, true) := by
  have hd : [13, 10] ≠ ([] : List Nat) := by simp
  have ha : arriveL ns 0 (t + 1) x = joinL [13, 10] (xs.map fun l => stuff (t + 1) (escL ns l)) := by
    show quoteN (t + 1) (escL ns x) = _
    rw [quoteN_lines, hl, List.map_map]; rfl
  have hc : ∀ l ∈ xs, Clean (escL ns l) := fun l h => linesA_clean (escL ns x) false _ (by rw [hl]; exact List.mem_map.mpr ⟨l, h, rfl⟩)
  have hne : xs ≠ [] := fun e => by rw [e] at hl; exact linesA_ne _ _ hl
  unfold heardL
  rw [if_neg hd, ha, split_joined hd (by simpa using hne) (by
    intro l hl
    obtain ⟨l', hl', rfl⟩ := List.mem_map.mp hl
    exact apart_noHead _ fun c h => (stuff_clean (hc l' hl') c h).2)]
  exact heard_of T fun l h => by rw [if_neg (by decide)]; exact hc l h
theorem lawA00 {x : List Nat} (hc : Clean (escL ns x)) : heardL ns [] 0 (t + 1) (arriveL ns 0 (t + 1) x) = (x, true) := by
  have ha : arriveL ns 0 (t + 1) x = stuff (t + 1) (escL ns x) := by
    show quoteN (t + 1) (escL ns x) = _
    rw [quoteN_lines, lines_one hc]; rfl
  unfold heardL
  rw [if_pos rfl, ha]
  have := heard_of T (rows := [x]) (order := 0) (t := t + 1) (by intro l hl; simp at hl; subst hl; rw [if_neg (by decide)]; exact hc)
  exact this

theorem escC_clean {c : Nat} (h1 : c ≠ 10 ∨ escC ns c ≠ [c]) (h2 : c ≠ 13 ∨ escC ns c ≠ [c]) : Clean (escC ns c) := by
  unfold escC at h1 h2 ⊢
  cases hc : ns.lookup c with
  | none =>
    rw [hc] at h1 h2
    intro d hd
    simp at hd; subst hd
    exact ⟨h1.resolve_right (by simp), h2.resolve_right (by simp)⟩
  | some n =>
    intro d hd
    rcases List.mem_cons.mp hd with rfl | hd
    · decide
    · exact T.clean _ (lookup_mem hc) d hd

theorem lines_esc (h10 : escC ns 10 = [10]) (h13 : escC ns 13 = [13]) : ∀ (x : List Nat) (pr : Bool), linesA pr (escL ns x) = (linesA pr x).map (escL ns)
  | [], _ => rfl
  | c :: x, pr => by
    show linesA pr (escC ns c ++ escL ns x) = _
    by_cases h1 : c = 10
    · subst h1
      rw [h10]
      show linesA pr (10 :: escL ns x) = _
      rw [linesA, linesA, if_pos rfl, if_pos rfl, lines_esc h10 h13 x false]
      cases pr <;> rfl
    · by_cases h2 : c = 13
      · subst h2
        rw [h13]
        show [] :: linesA true (escL ns x) = _
        rw [lines_esc h10 h13 x true]
        rfl
      · rw [linesA_clean_append (escC_clean T (.inl h1) (.inl h2)) _ (fun _ e => by have := escC_len T c; rw [e] at this; simp at this), lines_esc h10 h13 x false, linesA, if_neg h1, if_neg h2]
        cases hl : linesA false x with
        | nil => exact absurd hl (linesA_ne _ _)
        | cons a b => rfl
end

theorem splitL_one_no {c : Nat} : ∀ (x : List Nat), ∀ l ∈ splitL [c] x, ∀ d ∈ l, d ≠ c
  | [], l, hl, d, hd => by simp [splitL, splitF] at hl; subst hl; cases hd
  | a :: x, l, hl, d, hd => by
    by_cases h : a = c
    · subst h
      have : splitL [a] (a :: x) = [] :: splitL [a] x := splitL_sep (by simp) x
      rw [this] at hl
      rcases List.mem_cons.mp hl with rfl | hl
      · cases hd
      · exact splitL_one_no x l hl d hd
    · have : splitL [c] (a :: x) = consHead a (splitL [c] x) := by
        refine splitL_cons _ _ ?_
        have : (c == a) = false := by simpa using fun e => h (Eq.symm e)
        simp [List.isPrefixOf, this]
      rw [this] at hl
      cases hs : splitL [c] x with
      | nil => exact absurd hs (splitL_ne _ _)
      | cons p q =>
        rw [hs] at hl
        rcases List.mem_cons.mp hl with rfl | hl
        · rcases List.mem_cons.mp hd with rfl | hd
          · exact h
          · exact splitL_one_no x p (by rw [hs]; exact .head _) d hd
        · exact splitL_one_no x l (by rw [hs]; exact .tail _ hl) d hd

theorem lines_esc_lf {ns : Tab} (T : TabOk ns) (h10 : escC ns 10 = [10]) (h13 : escC ns 13 ≠ [13]) (x : List Nat) : linesA false (escL ns x) = (splitL [10] x).map (escL ns) := by
  have e10 : escL ns [10] = [10] := by simp [escL, h10]
  conv => lhs; rw [← splitL_join (sep := [10]) (by simp) x, escL_join, e10]
  refine lines_join_lf (by simpa using splitL_ne _ _) fun l hl => ?_
  obtain ⟨l', hl', rfl⟩ := List.mem_map.mp hl
  intro d hd
  obtain ⟨c, hc, hd⟩ := List.mem_flatMap.mp hd
  have hne := splitL_one_no x l' hl' c hc
  refine escC_clean T (.inl hne) ?_ d hd
  by_cases h : c = 13
  · subst h; exact .inr h13
  · exact .inl h

/-! the five tables -/
def nAmp : List Nat := [97, 109, 112, 59]
def nLt : List Nat := [108, 116, 59]
def nGt : List Nat := [103, 116, 59]
def nQuot : List Nat := [113, 117, 111, 116, 59]
def nm : Nat → Tab
  | 0 => [(38, [97, 109, 112, 59]), (60, [108, 116, 59]), (62, [103, 116, 59])]
  | 1 => [(38, [97, 109, 112, 59]), (60, [108, 116, 59]), (62, [103, 116, 59]), (34, [113, 117, 111, 116, 59]), (13, [35, 49, 51, 59]), (10, [35, 49, 48, 59]), (9, [35, 48, 57, 59])]
  | 2 => [(38, [97, 109, 112, 59]), (62, [103, 116, 59]), (34, [113, 117, 111, 116, 59])]
  | 3 => [(38, [97, 109, 112, 59]), (60, [108, 116, 59]), (62, [103, 116, 59]), (13, [35, 120, 68, 59])]
  | _ => [(38, [97, 109, 112, 59]), (60, [108, 116, 59]), (34, [113, 117, 111, 116, 59]), (9, [35, 120, 57, 59]), (10, [35, 120, 65, 59]), (13, [35, 120, 68, 59])]
def dueL (e order : Nat) : List Nat :=
  if order = 0 then (match e with | 0 => [13, 10] | 1 => [] | 2 => [13, 10] | 3 => [13, 10] | _ => [])
  else (match e with | 0 => [13, 10] | 1 => [38, 35, 49, 51, 59, 38, 35, 49, 48, 59] | 2 => [13, 10] | 3 => [38, 35, 120, 68, 59, 10] | _ => [38, 35, 120, 68, 59, 38, 35, 120, 65, 59])
def normL (e order : Nat) (x : List Nat) : List Nat := if order = 1 ∨ e = 0 ∨ e = 2 then joinL [10] (linesA false x) else x

theorem tab_of (ns : Tab) (h1 : (ns.lookup 38).isSome = true) (h2 : ns.lookup 46 = none) (h3 : ∀ p ∈ ns, ∀ r, matchN ns (p.2 ++ r) = some (p.1, p.2.length)) (h4 : (ns.all fun p => ns.lookup p.1 == some p.2) = true)
    (h5 : (ns.all fun p => !p.2.isEmpty) = true) (h6 : (ns.all fun p => p.2.all fun c => c != 10 && c != 13) = true) : TabOk ns where
  amp := h1
  dot := h2
  found := fun c n h r => h3 (c, n) (lookup_mem h) r
  self := fun p hp => by simpa using List.all_eq_true.mp h4 p hp
  long := fun p hp => by simpa using List.all_eq_true.mp h5 p hp
  clean := fun p hp c hc => by
    have := List.all_eq_true.mp (List.all_eq_true.mp h6 p hp) c hc
    simpa using this

theorem tab_ok (e : Nat) : TabOk (nm e) := by
  match e with
  | 0 => exact tab_of _ rfl rfl (by intro p hp r; simp only [nm, List.mem_cons, List.not_mem_nil, or_false] at hp; rcases hp with rfl | rfl | rfl <;> rfl) rfl rfl rfl
  | 1 => exact tab_of _ rfl rfl (by intro p hp r; simp only [nm, List.mem_cons, List.not_mem_nil, or_false] at hp; rcases hp with rfl | rfl | rfl | rfl | rfl | rfl | rfl <;> rfl) rfl rfl rfl
  | 2 => exact tab_of _ rfl rfl (by intro p hp r; simp only [nm, List.mem_cons, List.not_mem_nil, or_false] at hp; rcases hp with rfl | rfl | rfl <;> rfl) rfl rfl rfl
  | 3 => exact tab_of _ rfl rfl (by intro p hp r; simp only [nm, List.mem_cons, List.not_mem_nil, or_false] at hp; rcases hp with rfl | rfl | rfl | rfl <;> rfl) rfl rfl rfl
  | e + 4 => exact tab_of _ rfl rfl (by intro p hp r; simp only [nm, List.mem_cons, List.not_mem_nil, or_false] at hp; rcases hp with rfl | rfl | rfl | rfl | rfl | rfl <;> rfl) rfl rfl rfl

theorem apart_tab {ns : Tab} {sep : List Nat} (h38 : (ns.lookup 38).isSome = true) (h : ∀ p ∈ ns, p.1 ≠ 10 → p.1 ≠ 13 → (∀ r, (38 :: sep).isPrefixOf (38 :: (p.2 ++ r)) = false)) (h' : (ns.all fun p => p.2.all fun c => c != 38) = true) (c : Nat) (h1 : c ≠ 10) (h2 : c ≠ 13) : Apart (38 :: sep) (escC ns c) := by
  unfold escC
  cases hc : ns.lookup c with
  | none => exact apart_one fun e => by rw [← e, hc] at h38; cases h38
  | some n =>
    refine apart_cons (h _ (lookup_mem hc) h1 h2) (apart_noHead n fun d hd => ?_)
    have := List.all_eq_true.mp (List.all_eq_true.mp h' _ (lookup_mem hc)) d hd
    simpa using this
theorem apart_crlf {ns : Tab} {sep : List Nat} (T : TabOk ns) (c : Nat) (h1 : c ≠ 10) (h2 : c ≠ 13) : Apart (13 :: sep) (escC ns c) :=
  apart_noHead _ fun d hd => (escC_clean T (.inl h1) (.inl h2) d hd).2

theorem spelled_clean {ns : Tab} (T : TabOk ns) (h10 : escC ns 10 ≠ [10]) (h13 : escC ns 13 ≠ [13]) (x : List Nat) : Clean (escL ns x) := by
  intro d hd
  obtain ⟨c, _, hd⟩ := List.mem_flatMap.mp hd
  refine escC_clean T ?_ ?_ d hd
  · by_cases h : c = 10
    · subst h; exact .inr h10
    · exact .inl h
  · by_cases h : c = 13
    · subst h; exact .inr h13
    · exact .inl h
theorem lawA (e order t : Nat) (he : e < 5) (ho : order < 2) (x : List Nat) : heardL (nm e) (dueL e order) order (t + 1) (arriveL (nm e) order (t + 1) x) = (normL e order x, true) := by
  have T := tab_ok e
  have h1 : e = 0 ∨ e = 1 ∨ e = 2 ∨ e = 3 ∨ e = 4 := by omega
  have h2 : order = 0 ∨ order = 1 := by omega
  rcases h2 with rfl | rfl <;> rcases h1 with rfl | rfl | rfl | rfl | rfl
  · exact lawA0 T (lines_esc T rfl rfl x false)
  · exact lawA00 T (spelled_clean T (by decide) (by decide) x)
  · exact lawA0 T (lines_esc T rfl rfl x false)
  · have := lawA0 T (t := t) (lines_esc_lf T rfl (by decide) x)
    rw [splitL_join (by simp)] at this
    exact this
  · exact lawA00 T (spelled_clean T (by decide) (by decide) x)
  · exact lawA1 T (apart_crlf T) x
  · exact lawA1 T (apart_tab rfl (by intro p hp h1 h2 r; simp only [nm, List.mem_cons, List.not_mem_nil, or_false] at hp; rcases hp with rfl | rfl | rfl | rfl | rfl | rfl | rfl <;> first | rfl | exact absurd rfl h1 | exact absurd rfl h2) rfl) x
  · exact lawA1 T (apart_crlf T) x
  · exact lawA1 T (apart_tab rfl (by intro p hp h1 h2 r; simp only [nm, List.mem_cons, List.not_mem_nil, or_false] at hp; rcases hp with rfl | rfl | rfl | rfl <;> first | rfl | exact absurd rfl h1 | exact absurd rfl h2) rfl) x
  · exact lawA1 T (apart_tab rfl (by intro p hp h1 h2 r; simp only [nm, List.mem_cons, List.not_mem_nil, or_false] at hp; rcases hp with rfl | rfl | rfl | rfl | rfl | rfl <;> first | rfl | exact absurd rfl h1 | exact absurd rfl h2) rfl) x
theorem lawB (e order t : Nat) (he : e < 5) (ho : order < 2) {p h : List Nat} (hh : heardL (nm e) (dueL e order) order (t + 1) p = (h, true)) : arriveL (nm e) order (t + 1) h = p := by
  have T := tab_ok e
  have h1 : e = 0 ∨ e = 1 ∨ e = 2 ∨ e = 3 ∨ e = 4 := by omega
  have h2 : order = 0 ∨ order = 1 := by omega
  rcases h2 with rfl | rfl <;> rcases h1 with rfl | rfl | rfl | rfl | rfl
  · exact lawB0 T rfl hh
  · exact lawB00 T hh
  · exact lawB0 T rfl hh
  · exact lawB0 T rfl hh
  · exact lawB00 T hh
  · exact lawB1 T hh
  · exact lawB1 T hh
  · exact lawB1 T hh
  · exact lawB1 T hh
  · exact lawB1 T hh

/-- the law, over any page -/
theorem plain_law (e order t : Nat) (he : e < 5) (ho : order < 2) (p : List Nat) :
    decide (arriveL (nm e) order (t + 1) (heardL (nm e) (dueL e order) order (t + 1) p).1 = p) = (heardL (nm e) (dueL e order) order (t + 1) p).2 ∧
    heardL (nm e) (dueL e order) order (t + 1) (arriveL (nm e) order (t + 1) p) = (normL e order p, true) ∧
    arriveL (nm e) order (t + 1) (normL e order p) = arriveL (nm e) order (t + 1) p := by
  refine ⟨?_, lawA e order t he ho p, lawB e order t he ho (lawA e order t he ho p)⟩
  cases hf : (heardL (nm e) (dueL e order) order (t + 1) p).2 with
  | true => exact decide_eq_true (lawB e order t he ho (Prod.ext rfl hf))
  | false =>
    refine decide_eq_false fun e1 => ?_
    have := lawA e order t he ho (heardL (nm e) (dueL e order) order (t + 1) p).1
    rw [e1] at this
    rw [this] at hf; cases hf
end Mine
end

theorem Mine.fresh_Rx0 : True := by (w_top off; first | (walk1; done) | trivial)
section
open PySem PySem.W PyProof.Rows
set_option Elab.async false
set_option maxRecDepth 100000
namespace Mine
open PySem.F

theorem plainAttrs_pat : PlainAttrs "re.Pattern" :=
  ⟨⟨"object.__getattribute__", by rw [typeLookup_type, builtinLookup_eq_fast]; kernel_rfl, by decide +kernel⟩, by rw [typeLookup_type, builtinLookup_eq_fast]; kernel_rfl⟩
theorem slot_pat_sub : Slot "re.Pattern" "sub" "re.Pattern.sub" :=
  .of (owner := "re.Pattern") (n := "sub") (by rw [typeLookup_type, builtinLookup_eq_fast]; kernel_rfl) (by decide +kernel) (by decide +kernel) (by decide +kernel)
    (by first | exact .inl (by decide +kernel) | exact .inr (by decide +kernel)) (by rw [isSubtype_type]; kernel_rfl)
theorem type_pat_sub : typeOf (.builtin "re.Pattern.sub") = pure (.type "method_descriptor") := by show builtinType _ = _; rw [builtinType_eq_fast]; kernel_rfl
theorem entry_pat_sub : entryFor table "re.Pattern.sub" = some Builtin.«re.Pattern.sub» := entryFor_of_tree (by kernel_rfl)
theorem entry_pat_loop : entryFor table "re.Pattern.sub.loop" = some Builtin.«re.Pattern.sub.loop» := entryFor_of_tree (by kernel_rfl)
theorem owner_pat : Manifest.owners.lookup (String.ofList ['n','r','e','t','t','a','P','.','e','r'].reverse) = some Manifest.sig_re_Pattern := by kernel_rfl
theorem args_pat_sub (a b c : Value) : argsOk "re.Pattern.sub" ⟨[a, b, c], []⟩ := by
  unfold argsOk; rw [signature?_of (id := "re.Pattern.sub") (n := ['b', 'u', 's']) (o := ['n','r','e','t','t','a','P','.','e','r']) (by kernel_rfl) owner_pat]; kernel_rfl
end Mine
end

theorem Mine.fresh_Rx1 : True := by (w_top off; first | (walk1; done) | trivial)
section
set_option linter.unusedSimpArgs false
namespace Mine
open PySem PySem.Sre

def code1 : Array Nat := #[14, 4, 0, 1, 1, 6, 1, 16, 46, 1]
def code2 : Array Nat := #[14, 9, 4, 1, 2, 16, 10, 16, 13, 0, 7, 7, 16, 13, 16, 10, 15, 18, 5, 16, 10, 15, 13, 11, 16, 13, 5, 5, 0, 16, 10, 1, 15, 2, 0, 1]

theorem runFor_done {m : M} (h : m.outcome.isSome = true) : ∀ n, M.runFor n m = m
  | 0 => rfl
  | n + 1 => by unfold M.runFor; rw [if_pos h]
theorem runFor_step {m : M} (h : m.outcome = none) (n : Nat) : M.runFor (n + 1) m = M.runFor n m.step := by
  rw [M.runFor, if_neg (by rw [h]; exact Bool.false_ne_true)]
theorem runFor_add : ∀ (a b : Nat) (m : M), M.runFor (a + b) m = M.runFor b (M.runFor a m)
  | 0, b, m => by rw [Nat.zero_add]; rfl
  | a + 1, b, m => by
    by_cases h : m.outcome.isSome = true
    · rw [runFor_done h, runFor_done h, runFor_done h]
    · have h' : m.outcome = none := by simpa using h
      rw [Nat.add_right_comm, runFor_step h', runFor_step h', runFor_add a b]

/-- the machine at work, what was seen left open -/
def St (code text : Array Nat) (lim start pc pos handed : Nat) (om : Bool) (fr : List PySem.Sre.Frame) (ans : Option Bool) (seen : Seen) : M :=
  { code, text, lim, start, lastStart := lim, pc, pos, handed, outermost := om, marks := #[], frames := fr, weight := fr.length, answer := ans, seen }

section
variable {code text : Array Nat} {lim start pc pos handed : Nat} {om : Bool} {fr : List PySem.Sre.Frame} {seen : Seen}

theorem st_lit_yes (hpc : pc < code.size) (hop : ops[code.getD pc 0]? = some .LITERAL) (hl : pos < lim) (hc : text.getD pos 0 = code.getD (pc + 1) 0) :
    ∃ z, (St code text lim start pc pos handed om fr none seen).step = St code text lim start (pc + 2) (pos + 1) handed om fr none z := by
  refine ⟨seen.add (code.getD pc 0), ?_⟩
  simp only [St, M.step, M.exec, M.word, Nat.add_zero, hop, accepts, itemWidth, Option.isSome_none, Bool.false_eq_true, if_false, hpc, if_true, ge_iff_le, Nat.not_le.mpr hl, hc, beq_self_eq_true]
theorem st_lit_no (hpc : pc < code.size) (hop : ops[code.getD pc 0]? = some .LITERAL) (hl : pos ≥ lim ∨ text.getD pos 0 ≠ code.getD (pc + 1) 0) :
    ∃ z, (St code text lim start pc pos handed om fr none seen).step = St code text lim start pc pos handed om fr (some false) z := by
  by_cases hp : pos ≥ lim
  · refine ⟨seen.add (code.getD pc 0), ?_⟩
    simp only [St, M.step, M.exec, M.word, M.say, Nat.add_zero, hop, Option.isSome_none, Bool.false_eq_true, if_false, hpc, if_true, hp]
  · have hc := hl.resolve_left hp
    refine ⟨seen.add (code.getD pc 0), ?_⟩
    have hb : (text.getD pos 0 == code.getD (pc + 1) 0) = false := by simpa using hc
    simp only [St, M.step, M.exec, M.word, M.say, Nat.add_zero, hop, accepts, itemWidth, Option.isSome_none, Bool.false_eq_true, if_false, hpc, if_true, hp, hb]
theorem st_jump (hpc : pc < code.size) (hop : ops[code.getD pc 0]? = some .JUMP) :
    ∃ z, (St code text lim start pc pos handed om fr none seen).step = St code text lim start (pc + 1 + code.getD (pc + 1) 0) pos handed om fr none z := by
  refine ⟨seen.add (code.getD pc 0), ?_⟩
  simp only [St, M.step, M.exec, M.word, Nat.add_zero, hop, Option.isSome_none, Bool.false_eq_true, if_false, hpc, if_true]
theorem st_success (hpc : pc < code.size) (hop : ops[code.getD pc 0]? = some .SUCCESS) :
    ∃ z, (St code text lim start pc pos handed om fr none seen).step = St code text lim start pc pos pos om fr (some true) z := by
  refine ⟨seen.add (code.getD pc 0), ?_⟩
  simp only [St, M.step, M.exec, M.word, M.say, Nat.add_zero, hop, Option.isSome_none, Bool.false_eq_true, if_false, hpc, if_true, Bool.false_and, Bool.or_false, Bool.and_false]
theorem st_at1_yes (hpc : pc < code.size) (hop : ops[code.getD pc 0]? = some .AT) (hk : code.getD (pc + 1) 0 = 1) (h : (pos == 0 || text.getD (pos - 1) 0 == 10) = true) :
    ∃ z, (St code text lim start pc pos handed om fr none seen).step = St code text lim start (pc + 2) pos handed om fr none z := by
  refine ⟨(seen.add (code.getD pc 0)).add (43 + 1), ?_⟩
  simp only [St, M.step, M.exec, M.word, M.isAt, Nat.add_zero, hop, hk, h, Option.isSome_none, Bool.false_eq_true, if_false, hpc, if_true]
theorem st_at1_no (hpc : pc < code.size) (hop : ops[code.getD pc 0]? = some .AT) (hk : code.getD (pc + 1) 0 = 1) (h : (pos == 0 || text.getD (pos - 1) 0 == 10) = false) :
    ∃ z, (St code text lim start pc pos handed om fr none seen).step = St code text lim start pc pos handed om fr (some false) z := by
  refine ⟨(seen.add (code.getD pc 0)).add (43 + 1), ?_⟩
  simp only [St, M.step, M.exec, M.word, M.isAt, M.say, Nat.add_zero, hop, hk, h, Option.isSome_none, Bool.false_eq_true, if_false, hpc, if_true]
def br (pc pos : Nat) (om : Bool) : PySem.Sre.Frame := { wait := .nextBranch, pc, pos, outermost := om, kept := {} }
theorem st_branch (hpc : pc < code.size) (hop : ops[code.getD pc 0]? = some .BRANCH) (hk : code.getD (pc + 1) 0 ≠ 0) (hw : fr.length < 1000) :
    ∃ z, (St code text lim start pc pos handed om fr none seen).step = St code text lim start (pc + 2) pos pos om (br (pc + 1) pos om :: fr) none z := by
  refine ⟨seen.add (code.getD pc 0), ?_⟩
  have hb : (code.getD (pc + 1) 0 == 0) = false := by simpa using hk
  have hw' : ¬ fr.length + 1 + (#[] : Array (Option Nat)).size > 16777216 := by simp; omega
  simp only [St, br, M.step, M.exec, M.word, M.alternative, M.attempt, M.frame, M.keep, Nat.add_zero, hop, hb, hw', Option.isSome_none, Bool.false_eq_true, if_false, hpc, if_true, List.length_cons]
  rfl
theorem st_branch_yes {p q : Nat} {o : Bool} :
    (St code text lim start pc pos handed om (br p q o :: fr) (some true) seen).step = St code text lim start p q handed o fr (some true) seen := by
  simp only [St, br, M.step, M.resume, M.say, M.putBack, Option.isSome_none, Bool.false_eq_true, if_false, if_true, List.length_cons]
  rfl
theorem st_branch_no {p q : Nat} {o : Bool} (hk : code.getD (p + code.getD p 0) 0 ≠ 0) (hw : fr.length < 1000) :
    (St code text lim start pc pos handed om (br p q o :: fr) (some false) seen).step = St code text lim start (p + code.getD p 0 + 1) q q o (br (p + code.getD p 0) q o :: fr) none seen := by
  have hb : (code.getD (p + code.getD p 0) 0 == 0) = false := by simpa using hk
  have hw' : ¬ (fr.length + 1 - (1 + (#[] : Array (Option Nat)).size)) + 1 + (#[] : Array (Option Nat)).size > 16777216 := by simp; omega
  simp only [St, br, M.step, M.resume, M.say, M.putBack, M.alternative, M.attempt, M.frame, Option.isSome_none, Bool.false_eq_true, if_false, if_true, List.length_cons, hb, hw']
  rfl
def ns (pc pos : Nat) (om : Bool) : PySem.Sre.Frame := { wait := .nextStart, pc, pos, outermost := om }
theorem st_start_yes {p q : Nat} {o : Bool} :
    (St code text lim start pc pos handed om (ns p q o :: fr) (some true) seen).step = St code text lim start p q handed o fr (some true) seen := by
  simp only [St, ns, M.step, M.resume, M.say, M.putBack, Option.isSome_none, Bool.false_eq_true, if_false, if_true, List.length_cons]
  rfl
theorem st_start_end {p q : Nat} {o : Bool} (h : ¬ q < lim) :
    (St code text lim start pc pos handed om (ns p q o :: fr) (some false) seen).step = St code text lim start p q handed o fr (some false) seen := by
  simp only [St, ns, M.step, M.resume, M.say, M.putBack, Option.isSome_none, Bool.false_eq_true, if_false, if_true, List.length_cons, h]
  rfl
def ln (pc pos : Nat) (om : Bool) : PySem.Sre.Frame := { wait := .lookNot, pc, pos, outermost := om, kept := {} }
theorem st_not (hpc : pc < code.size) (hop : ops[code.getD pc 0]? = some .ASSERT_NOT) (hk : code.getD (pc + 2) 0 = 0) (hw : fr.length < 1000) :
    ∃ z, (St code text lim start pc pos handed om fr none seen).step = St code text lim start (pc + 3) pos pos false (ln pc pos om :: fr) none z := by
  refine ⟨seen.add (code.getD pc 0), ?_⟩
  have hw' : ¬ fr.length + 1 + (#[] : Array (Option Nat)).size > 16777216 := by simp; omega
  simp only [St, ln, M.step, M.exec, M.word, M.attempt, M.frame, M.keep, Nat.add_zero, hop, hk, hw', Option.isSome_none, Bool.false_eq_true, if_false, hpc, if_true, List.length_cons, Nat.not_lt_zero, Nat.sub_zero, Bool.and_false]
  rfl
theorem st_not_no {p q : Nat} {o : Bool} :
    (St code text lim start pc pos handed om (ln p q o :: fr) (some false) seen).step = St code text lim start (p + 1 + code.getD (p + 1) 0) q handed o fr none seen := by
  simp only [St, ln, M.step, M.resume, M.say, M.putBack, M.word, Option.isSome_none, Bool.false_eq_true, if_false, if_true, List.length_cons]
  rfl
end
end Mine
end

theorem Mine.fresh_Rx2 : True := by (w_top off; first | (walk1; done) | trivial)
section
set_option linter.unusedSimpArgs false
namespace Mine
open PySem PySem.Sre

/-- after n turns, no more -/
def Ends (m : M) (n : Nat) (r : Option (Nat × Nat)) : Prop :=
  ∃ k m', k ≤ n ∧ M.runFor k m = m' ∧ match r with
    | none => m'.outcome = some .failed
    | some (a, b) => m'.outcome = some .matched ∧ m'.start = a ∧ m'.handed = b

theorem Ends.step {m m' : M} {n : Nat} {r : Option (Nat × Nat)} (h : m.outcome = none) (e : m.step = m') (x : Ends m' n r) : Ends m (n + 1) r := by
  obtain ⟨k, m'', hk, hr, x⟩ := x
  exact ⟨k + 1, m'', by omega, by rw [runFor_step h, e]; exact hr, x⟩
theorem Ends.mono {m : M} {n n' : Nat} {r : Option (Nat × Nat)} (x : Ends m n r) (h : n ≤ n') : Ends m n' r := by
  obtain ⟨k, m'', hk, hr, x⟩ := x
  exact ⟨k, m'', by omega, hr, x⟩

section
variable {code text : Array Nat} {lim start pc pos handed : Nat} {om : Bool} {fr : List PySem.Sre.Frame} {seen : Seen} {n : Nat} {r : Option (Nat × Nat)} {ans : Option Bool}
theorem ends_no : Ends (St code text lim start pc pos handed om [] (some false) seen) 1 none :=
  ⟨1, _, Nat.le_refl _, rfl, rfl⟩
theorem ends_yes : Ends (St code text lim start pc pos handed om [] (some true) seen) 1 (some (start, handed)) :=
  ⟨1, _, Nat.le_refl _, rfl, rfl, rfl, rfl⟩
theorem ends_z {pc' pos' handed' : Nat} {om' : Bool} {fr' : List PySem.Sre.Frame} {ans' : Option Bool} (e : ∃ z, (St code text lim start pc pos handed om fr ans seen).step = St code text lim start pc' pos' handed' om' fr' ans' z)
    (x : ∀ z, Ends (St code text lim start pc' pos' handed' om' fr' ans' z) n r) : Ends (St code text lim start pc pos handed om fr ans seen) (n + 1) r := by
  obtain ⟨z, e⟩ := e
  exact Ends.step rfl e (x z)
end

/-- the first place from s on where a row begins with a dot -/
def find1 (text : Array Nat) (lim : Nat) : Nat → Nat → Option Nat
  | 0, _ => none
  | f + 1, s => if s ≥ lim then none else if (s == 0 || text.getD (s - 1) 0 == 10) = true ∧ text.getD s 0 = 46 then some s else find1 text lim f (s + 1)

theorem st_start_next1 {text : Array Nat} {lim start pc pos handed q : Nat} {om o : Bool} {seen : Seen} (h : q < lim) :
    (St code1 text lim start pc pos handed om [ns 5 q o] (some false) seen).step = St code1 text lim (q + 1) 5 (q + 1) (q + 1) false [ns 5 (q + 1) false] none seen := by
  simp only [St, ns, M.step, M.resume, M.say, M.putBack, Option.isSome_none, Bool.false_eq_true, if_false, if_true, List.length_cons, h]
  rfl

theorem ends1 {text : Array Nat} {lim : Nat} : ∀ (f s : Nat) (om : Bool) (seen : Seen), s ≤ lim → lim < s + f →
    Ends (St code1 text lim s 5 s s om [ns 5 s om] none seen) (4 * f + 4) ((find1 text lim f s).map fun a => (a, a + 1))
  | 0, s, om, seen, h1, h2 => by omega
  | f + 1, s, om, seen, h1, h2 => by
    have next : s < lim → ¬ ((s == 0 || text.getD (s - 1) 0 == 10) = true ∧ text.getD s 0 = 46) → ∀ pc pos handed z, Ends (St code1 text lim s pc pos handed om [ns 5 s om] (some false) z) (4 * f + 5) ((find1 text lim (f + 1) s).map fun a => (a, a + 1)) := by
      intro hl hn pc pos handed z
      rw [find1, if_neg (by omega), if_neg hn]
      exact Ends.step rfl (st_start_next1 hl) (ends1 f (s + 1) false z (by omega) (by omega))
    have last : ¬ s < lim → ∀ pc pos handed z, Ends (St code1 text lim s pc pos handed om [ns 5 s om] (some false) z) (4 * f + 5) ((find1 text lim (f + 1) s).map fun a => (a, a + 1)) := by
      intro hl pc pos handed z
      rw [find1, if_pos (by omega)]
      exact Ends.mono (Ends.step rfl (st_start_end hl) ends_no) (by omega)
    by_cases hb : (s == 0 || text.getD (s - 1) 0 == 10) = true
    · refine Ends.mono (n := (4 * f + 5) + 1 + 1) (ends_z (st_at1_yes (by decide) rfl rfl hb) fun z => ?_) (by omega)
      by_cases hl : s < lim
      · by_cases hd : text.getD s 0 = 46
        · refine Ends.mono (n := 1 + 1 + 1 + 1) ?_ (by omega)
          refine ends_z (st_lit_yes (by decide) rfl hl hd) fun z => ?_
          refine ends_z (st_success (by decide) rfl) fun z => ?_
          rw [find1, if_neg (by omega), if_pos ⟨hb, hd⟩]
          exact Ends.step rfl st_start_yes ends_yes
        · exact ends_z (st_lit_no (by decide) rfl (.inr hd)) fun z => next hl (fun x => hd x.2) _ _ _ z
      · exact ends_z (st_lit_no (by decide) rfl (.inl (by omega))) fun z => last hl _ _ _ z
    · refine Ends.mono (n := (4 * f + 5) + 1) (ends_z (st_at1_no (by decide) rfl rfl (by simpa using hb)) fun z => ?_) (by omega)
      by_cases hl : s < lim
      · exact next hl (fun x => hb x.1) _ _ _ z
      · exact last hl _ _ _ z

theorem search1 {text : Array Nat} {s lim : Nat} : Ends (forSearch code1 text 0 s lim false) (4 * lim + 20) ((find1 text lim (lim + 1 - s) s).map fun a => (a, a + 1)) := by
  unfold forSearch
  dsimp only
  by_cases h : (decide (s > lim) || decide (lim - s < (header code1).1)) = true
  · have h' : s > lim ∨ lim - s < 1 := by
      have e : (header code1).1 = 1 := rfl
      rw [e] at h; simpa using h
    have : find1 text lim (lim + 1 - s) s = none := by
      cases hf : lim + 1 - s with
      | zero => rfl
      | succ f => rw [find1, if_pos (by omega)]
    rw [this, if_pos h]
    exact ⟨1, _, by omega, rfl, rfl⟩
  · have h' : ¬ (s > lim ∨ lim - s < 1) := by
      have e : (header code1).1 = 1 := rfl
      rw [e] at h; simpa using h
    rw [if_neg h]
    exact Ends.mono (ends1 (text := text) (lim := lim) (lim + 1 - s) s true (({} : Seen).add 14) (by omega) (by omega)) (by omega)

/-- the first line end from s on -/
def find2 (text : Array Nat) (lim : Nat) : Nat → Nat → Option Nat
  | 0, _ => none
  | f + 1, s => if s ≥ lim then none else if text.getD s 0 = 10 ∨ text.getD s 0 = 13 then some s else find2 text lim f (s + 1)

theorem inSet2 (c : Nat) (seen : Seen) : ∃ z, inSet code2 c code2.size 5 true seen = .ok (decide (c = 10 ∨ c = 13), z) := by
  by_cases h1 : c = 10
  · subst h1; exact ⟨_, rfl⟩
  · by_cases h2 : c = 13
    · subst h2; exact ⟨_, rfl⟩
    · have e1 : (c == 10) = false := by simpa using h1
      have e2 : (c == 13) = false := by simpa using h2
      refine ⟨((seen.add 16).add 16).add 0, ?_⟩
      have : decide (c = 10 ∨ c = 13) = false := by simp [h1, h2]
      rw [this]
      show (if (c == 10) = true then Except.ok (true, seen.add 16) else if (c == 13) = true then Except.ok (true, (seen.add 16).add 16) else Except.ok (false, ((seen.add 16).add 16).add 0)) = _
      rw [e1, e2]; rfl

theorem admitted2 {m : M} (hm : m.code = code2) : ∀ (f s : Nat) (seen : Seen), ∃ z, M.admitted m f s seen = .ok (find2 m.text m.lim f s, z)
  | 0, s, seen => ⟨seen, rfl⟩
  | f + 1, s, seen => by
    rw [M.admitted, find2]
    by_cases h : s ≥ m.lim
    · rw [if_pos h, if_pos h]; exact ⟨_, rfl⟩
    · rw [if_neg h, if_neg h, hm]
      obtain ⟨z, e⟩ := inSet2 (m.text.getD s 0) seen
      rw [e]
      by_cases hc : m.text.getD s 0 = 10 ∨ m.text.getD s 0 = 13
      · rw [decide_eq_true hc, if_pos hc]; exact ⟨_, rfl⟩
      · rw [decide_eq_false hc, if_neg hc]; exact admitted2 hm f (s + 1) z

/-- where the line end at s is over -/
def over2 (text : Array Nat) (lim s : Nat) : Nat := if text.getD s 0 = 13 ∧ s + 1 < lim ∧ text.getD (s + 1) 0 = 10 then s + 2 else s + 1

theorem ends2 {text : Array Nat} {lim s : Nat} {seen : Seen} (hl : s < lim) (hc : text.getD s 0 = 10 ∨ text.getD s 0 = 13) :
    Ends (St code2 text lim s 10 s s true [ns 10 s true] none seen) 40 (some (s, over2 text lim s)) := by
  refine Ends.mono (n := 20 + 1) (ends_z (st_branch (by decide) rfl (by decide) (Nat.le_of_ble_eq_true rfl)) fun z => ?_) (by omega)
  rcases hc with hc | hc
  · have ho : over2 text lim s = s + 1 := if_neg (by rw [hc]; rintro ⟨x, _⟩; exact absurd x (by decide))
    rw [ho]
    refine Ends.mono (n := 1 + 1 + 1 + 1 + 1 + 1 + 1 + 1) ?_ (by omega)
    refine ends_z (st_lit_no (by decide) rfl (.inr (by rw [hc]; decide))) fun z => ?_
    refine Ends.step rfl (st_branch_no (by decide) (Nat.le_of_ble_eq_true rfl)) ?_
    refine ends_z (st_lit_yes (by decide) rfl hl hc) fun z => ?_
    refine ends_z (st_jump (by decide) rfl) fun z => ?_
    refine ends_z (st_success (by decide) rfl) fun z => ?_
    refine Ends.step rfl st_branch_yes ?_
    exact Ends.step rfl st_start_yes ends_yes
  · refine Ends.mono (n := 18 + 1) ?_ (by omega)
    refine ends_z (st_lit_yes (by decide) rfl hl hc) fun z => ?_
    by_cases h1 : s + 1 < lim ∧ text.getD (s + 1) 0 = 10
    · have ho : over2 text lim s = s + 2 := if_pos ⟨hc, h1⟩
      rw [ho]
      refine Ends.mono (n := 1 + 1 + 1 + 1 + 1 + 1) ?_ (by omega)
      refine ends_z (st_lit_yes (by decide) rfl h1.1 h1.2) fun z => ?_
      refine ends_z (st_jump (by decide) rfl) fun z => ?_
      refine ends_z (st_success (by decide) rfl) fun z => ?_
      refine Ends.step rfl st_branch_yes ?_
      exact Ends.step rfl st_start_yes ends_yes
    · have ho : over2 text lim s = s + 1 := if_neg fun x => h1 x.2
      have hno : s + 1 ≥ lim ∨ text.getD (s + 1) 0 ≠ 10 := by
        by_cases h2 : s + 1 < lim
        · exact .inr fun x => h1 ⟨h2, x⟩
        · exact .inl (by omega)
      rw [ho]
      refine Ends.mono (n := 1 + 1 + 1 + 1 + 1 + 1 + 1 + 1 + 1 + 1 + 1 + 1 + 1) ?_ (by omega)
      refine ends_z (st_lit_no (by decide) rfl hno) fun z => ?_
      refine Ends.step rfl (st_branch_no (by decide) (Nat.le_of_ble_eq_true rfl)) ?_
      refine ends_z (st_lit_no (by decide) rfl (.inr (by rw [hc]; decide))) fun z => ?_
      refine Ends.step rfl (st_branch_no (by decide) (Nat.le_of_ble_eq_true rfl)) ?_
      refine ends_z (st_lit_yes (by decide) rfl hl hc) fun z => ?_
      refine ends_z (st_not (by decide) rfl (by decide) (Nat.le_of_ble_eq_true rfl)) fun z => ?_
      refine ends_z (st_lit_no (by decide) rfl hno) fun z => ?_
      refine Ends.step rfl st_not_no ?_
      refine ends_z (st_jump (by decide) rfl) fun z => ?_
      refine ends_z (st_success (by decide) rfl) fun z => ?_
      refine Ends.step rfl st_branch_yes ?_
      exact Ends.step rfl st_start_yes ends_yes

theorem find2_some {text : Array Nat} {lim : Nat} : ∀ {f s a : Nat}, find2 text lim f s = some a → a < lim ∧ (text.getD a 0 = 10 ∨ text.getD a 0 = 13)
  | 0, _, _, h => by cases h
  | f + 1, s, a, h => by
    rw [find2] at h
    by_cases h1 : s ≥ lim
    · rw [if_pos h1] at h; cases h
    · rw [if_neg h1] at h
      by_cases h2 : text.getD s 0 = 10 ∨ text.getD s 0 = 13
      · rw [if_pos h2] at h; cases h; exact ⟨by omega, h2⟩
      · rw [if_neg h2] at h; exact find2_some h

theorem search2 {text : Array Nat} {s lim : Nat} : Ends (forSearch code2 text 0 s lim false) (4 * lim + 60) ((find2 text lim (lim + 1 - s) s).map fun a => (a, over2 text lim a)) := by
  unfold forSearch
  dsimp only
  by_cases h : (decide (s > lim) || decide (lim - s < (header code2).1)) = true
  · have h' : s > lim ∨ lim - s < 1 := by
      have e : (header code2).1 = 1 := rfl
      rw [e] at h; simpa using h
    have : find2 text lim (lim + 1 - s) s = none := by
      cases hf : lim + 1 - s with
      | zero => rfl
      | succ f => rw [find2, if_pos (by omega)]
    rw [this, if_pos h]
    exact ⟨1, _, by omega, rfl, rfl⟩
  · rw [if_neg h]
    obtain ⟨z, e⟩ := admitted2 (m := { code := code2, text, lim, start := s, lastStart := lim, pc := 10, pos := s, handed := s, marks := #[], seen := ({} : Seen).add 14 }) rfl (lim + 1 - s) s (({} : Seen).add 14)
    change Ends (match M.admitted { code := code2, text, lim, start := s, lastStart := lim, pc := 10, pos := s, handed := s, marks := #[], seen := ({} : Seen).add 14 } (lim + 1 - s) s (({} : Seen).add 14) with
      | .ok (some s', seen) => M.attemptAt { code := code2, text, lim, start := s, lastStart := lim, pc := 10, pos := s, handed := s, marks := #[], seen } s' true
      | .ok (none, seen) => M.say { code := code2, text, lim, start := s, lastStart := lim, pc := 10, pos := s, handed := s, marks := #[], seen } false
      | .error why => M.stick { code := code2, text, lim, start := s, lastStart := lim, pc := 10, pos := s, handed := s, marks := #[], seen := ({} : Seen).add 14 } why) _ _
    rw [e]
    dsimp only
    cases hf : find2 text lim (lim + 1 - s) s with
    | none => exact ⟨1, _, by omega, rfl, rfl⟩
    | some a =>
      obtain ⟨hl, hc⟩ := find2_some hf
      exact Ends.mono (ends2 (seen := z) hl hc) (by omega)
end Mine
end

theorem Mine.fresh_Rx3 : True := by (w_top off; first | (walk1; done) | trivial)
section
open PySem PySem.W PyProof.Rows
set_option Elab.async false
set_option maxRecDepth 100000
namespace Mine
open PySem.Builtin.Re PySem.Sre

section
variable {M : Model} {A : Around} {E : Value → Shared → Prop} {s : Shared}

theorem wp_drive {Q : Sre.M → Shared → Prop} : ∀ (turns : Nat) (m : Sre.M) (k : Nat), k ≤ 4 * turns → 0 < turns → (Sre.M.runFor k m).outcome.isSome = true → Q (Sre.M.runFor k m) s → wpAny M A (reDrive turns m) Q E s
  | 0, _, _, _, h, _, _ => absurd h (Nat.lt_irrefl _)
  | turns + 1, m, k, hk, _, ho, hq => by
    unfold reDrive
    dsimp only
    have he : reTurnSteps = 4 := rfl
    by_cases h4 : (Sre.M.runFor reTurnSteps m).outcome.isSome = true
    · rw [if_pos h4]
      refine wpAny_pure ?_
      have e : Sre.M.runFor reTurnSteps m = Sre.M.runFor k m := by
        rw [he] at h4 ⊢
        rcases Nat.le_total k 4 with h | h
        · obtain ⟨d, hd⟩ := Nat.exists_eq_add_of_le h
          rw [hd, runFor_add, runFor_done ho]
        · obtain ⟨d, hd⟩ := Nat.exists_eq_add_of_le h
          rw [hd, runFor_add, runFor_done h4]
      rw [e]; exact hq
    · rw [if_neg h4]
      rw [he] at h4 ⊢
      have hk4 : 4 < k := by
        refine Nat.lt_of_not_le fun h => h4 ?_
        obtain ⟨d, hd⟩ := Nat.exists_eq_add_of_le h
        rw [hd, runFor_add, runFor_done ho]; exact ho
      obtain ⟨d, hd⟩ := Nat.exists_eq_add_of_le (Nat.le_of_lt hk4)
      have e : Sre.M.runFor k m = Sre.M.runFor d (Sre.M.runFor 4 m) := by rw [hd, runFor_add]
      rw [e] at ho hq
      exact wpAny_bind (wpAny_rule (wp_drive turns _ d (by omega) (by omega) ho hq))

theorem wp_tags {α : Type} (f : α → Bool) (g : α → String) {Q : PUnit → Shared → Prop} (hq : Q ⟨⟩ s) : ∀ l : List α, wpAny M A (forIn l PUnit.unit fun i _ => if f i = true then (do rule (g i); pure (ForInStep.yield PUnit.unit)) else pure (ForInStep.yield PUnit.unit)) Q E s
  | [] => wpAny_pure hq
  | a :: l => by
    rw [List.forIn_cons]
    refine wpAny_bind ?_
    cases f a with
    | true => exact wpAny_bind (wpAny_rule (wpAny_pure (wp_tags f g hq l)))
    | false => exact wpAny_pure (wp_tags f g hq l)

theorem wp_runToEnd {m : Sre.M} {n : Nat} {r : Option (Nat × Nat)} {Q : Option Sre.M → Shared → Prop} (x : Ends m n r) (hn : n ≤ 2 ^ 40)
    (h0 : r = none → Q none s) (h1 : ∀ a b m', r = some (a, b) → m'.start = a → m'.handed = b → Q (some m') s) : wpAny M A (reRunToEnd m) Q E s := by
  obtain ⟨k, m', hk, rfl, x⟩ := x
  unfold reRunToEnd
  refine wpAny_bind (wp_drive _ m k (Nat.le_trans hk (Nat.le_trans hn (by decide))) (by decide) ?_ ?_)
  · cases r with
    | none => simp only at x; rw [x]; rfl
    | some p => rw [x.1]; rfl
  · refine wpAny_bind ?_
    refine wp_tags (fun i => (Sre.M.runFor k m).seen.has i) (fun i => Sre.names.getD i "") ?_ _
    cases r with
    | none => simp only at x; rw [x]; exact wpAny_pure (h0 rfl)
    | some p => rw [x.1]; exact wpAny_pure (h1 p.1 p.2 _ rfl x.2.1 x.2.2)
end
end Mine
end

theorem Mine.fresh_Rx4 : True := by (w_top off; first | (walk1; done) | trivial)
section
open PySem PySem.W PyProof.Rows
set_option Elab.async false
set_option maxRecDepth 100000
namespace Mine
open PySem.Builtin.Re PySem.Sre

/-- a compiled pattern without groups over texts, its code -/
structure PatAt (h : Heap) (pa ca : Addr) (code : Array Nat) : Prop where
  pat : ∃ v0 t0 v1 v3 v4, h.get? pa = some { cls := .type "re.Pattern", data := .fields #[.str v0 t0, v1, .int 0 0, v3, v4, .ref ca, .int 0 0] }
  tup : ∃ vs n, h.get? ca = some { cls := .type "tuple", data := .seq vs n } ∧ (vs.map reRawOf).map Int.toNat = code

theorem PatAt.keeps {h h' : Heap} {pa ca : Addr} {code : Array Nat} (p : PatAt h pa ca code) (hk : ∀ o, h.get? pa = some o → h'.get? pa = some o) (hk' : ∀ o, h.get? ca = some o → h'.get? ca = some o) : PatAt h' pa ca code :=
  ⟨let ⟨a, b, c, d, e, x⟩ := p.pat; ⟨a, b, c, d, e, hk _ x⟩, let ⟨a, b, x, y⟩ := p.tup; ⟨a, b, hk' _ x, y⟩⟩

structure Finds (code text : Array Nat) (r : List Nat) (res : Nat → List Nat) : Prop where
  look : ∀ s, s ≤ text.size → ∃ n o, n ≤ 2 ^ 40 ∧ Ends (forSearch code text 0 s text.size false) n o ∧
    match o with
    | none => res s = text.toList.drop s
    | some (a, b) => s ≤ a ∧ a < b ∧ b ≤ text.size ∧ res s = (text.toList.drop s).take (a - s) ++ r ++ res b

section
variable {prog : Program} {w : World} {A : Around} {E : Value → Shared → Prop} {s : Shared}

theorem wp_wholeTarget {pa ca : Addr} {code : Array Nat} {x : Str} {t : Tok} {Q : ReTarget → Shared → Prop} (p : PatAt s.heap pa ca code)
    (h : Q { pattern := .ref pa, string := .str x t, code, text := x.cps, kind := 0, groups := 0, pos := 0, lim := x.cps.size } s) : wpAny (model prog w) A (reWholeTarget (.ref pa) (.str x t)) Q E s := by
  obtain ⟨v0, t0, v1, v3, v4, ho⟩ := p.pat
  obtain ⟨vs, n, hc, rfl⟩ := p.tup
  unfold reWholeTarget
  refine wpAny_bind (wpAny_fieldsOf ho rfl ?_)
  refine wpAny_bind ?_
  show wpAny _ _ (pure (x.cps, 0)) _ _ _
  refine wpAny_pure ?_
  show wpAny _ _ (reNoCollectionInside (Value.str x t) 0 >>= fun _ => reRawItems (.ref ca) >>= fun z => pure ({ pattern := .ref pa, string := .str x t, code := z.map Int.toNat, text := x.cps, kind := 0, groups := 0, pos := 0, lim := x.cps.size } : ReTarget)) _ _ _
  refine wpAny_bind (wpAny_pure (a := ()) ?_)
  refine wpAny_bind ?_
  unfold reRawItems
  refine wpAny_bind (wpAny_seqItems hc rfl ?_)
  exact wpAny_pure (wpAny_pure h)

theorem strs_push {vs : List Value} {ys : List Str} (h : StrsAre vs ys) (y : Str) (t : Tok) : StrsAre (vs ++ [.str y t]) (ys ++ [y]) := by
  induction h with
  | nil => exact .cons y t .nil
  | cons a b _ ih => exact .cons a b ih

theorem wp_push {la : Addr} {items : Array Value} {v : Value} {Q : Unit → Shared → Prop} (hl : s.heap.PlainList la items) (hsz : items.size ≤ sizeLine)
    (h : ∀ h', h'.PlainList la (items.push v) → Heap.SameBut la s.heap h' → Q () { s with heap := h' }) : wpAny (model prog w) A (updateSeq la (·.push v)) Q E s := by
  obtain ⟨n, ho⟩ := hl
  refine wpAny_updateSeq ho rfl (h _ ⟨n + 1, ?_⟩ (Heap.SameBut.update ..)) hsz
  rw [Heap.get?_update_self _ ho (by rw [Obj.mapSeq_push_plain]; rfl), Obj.mapSeq_push_plain]

def loopCode (pa la : Addr) (x r : Str) (t tr : Tok) (n d : Int) : Code :=
  .builtin "re.Pattern.sub.loop" ⟨[.ref pa, .str x t, .str r tr, rawInt 0, rawInt 0, rawInt n, rawInt d, rawInt d, .bool false, .ref la, .bool false], []⟩

def loopCodeM (pa la : Addr) (x r : Str) (t tr : Tok) (n : Int) (m : Sre.M) : Code :=
  .builtin "re.Pattern.sub.loop" ⟨[.ref pa, .str x t, .str r tr, rawInt 0, rawInt 0, rawInt n, rawInt m.handed, rawInt m.handed, .bool (m.handed == m.start), .ref la, .bool false], []⟩
def subEnd (la : Addr) (x : Str) : Sem PySem.Fin := do
  let joiner ← reSlice x.cps 0 0 0
  let z ← seqItems? (.ref la)
  if (z.getD #[]).isEmpty = true then do let text ← pure joiner; ret text else do let text ← call (.builtin "str.join") [joiner, .ref la]; ret text

theorem strsAre_length {vs : List Value} {ys : List Str} (h : StrsAre vs ys) : vs.length = ys.length := by
  induction h with
  | nil => rfl
  | cons _ _ _ ih => simp [ih]

theorem join_nil_list : ∀ ys : List Str, (Txt.join ⟨#[]⟩ ys).cps.toList = ys.flatMap fun y => y.cps.toList := by
  intro ys
  show (Builtin.Str.glued ⟨#[]⟩ ys).cps.toList = _
  rw [StrLaws.glued_eq_join]
  induction ys with
  | nil => rfl
  | cons y r ih =>
    rw [join_nil_cons, Str.cps_append, Array.toList_append, ih]; rfl

theorem wp_slice {x : Str} {a b : Nat} {Q : Value → Shared → Prop} (hx : x.length ≤ 1048576) (h : ∀ y : Str, y.cps = x.cps.extract a b → ∀ t tk, Q (.str y t) { s with toks := tk }) : wpAny (model prog w) A (reSlice x.cps 0 a b) Q E s := by
  show wpAny _ _ (mkStr ⟨x.cps.extract a b⟩) _ _ _
  refine wpAny_mkStr (h _ rfl _ _) ?_
  show (x.cps.extract a b).size ≤ sizeLine
  have e : (x.cps.extract a b).size ≤ x.cps.size := by simp; omega
  have hz : sizeLine = 16777216 := by decide
  have : x.length = x.cps.size := rfl
  omega

theorem sub_end {la : Addr} {x : Str} {items : Array Value} {ys : List Str} {Q : PySem.Fin → Shared → Prop} (hx : x.length ≤ 1048576) (hl : s.heap.PlainList la items) (hi : StrsAre items.toList ys) (hs : (ys.map (·.length)).sum ≤ 16777216)
    (h : ∀ tk t' z, z.cps.toList = (ys.flatMap fun y => y.cps.toList) → Q (.done (.ret (.str z t'))) { s with toks := tk }) : wpAny (model prog w) A (subEnd la x) Q E s := by
  unfold subEnd
  refine wpAny_bind (wp_slice hx fun y hy t tk => ?_)
  have hy0 : y = ⟨#[]⟩ := by
    cases y with | mk c => simp only at hy; rw [hy]; simp
  subst hy0
  obtain ⟨o, ho, hc, n, hd⟩ := hl.isList
  refine wpAny_bind (wpAny_seqItems (s := { s with toks := tk }) ho hd ?_)
  by_cases he : ((some items).getD #[]).isEmpty = true
  · rw [if_pos he]
    refine wpAny_bind (wpAny_pure (wpAny_pure ?_))
    have : items = #[] := by simpa using he
    subst this
    cases hi
    exact h tk t ⟨#[]⟩ rfl
  · rw [if_neg he]
    refine wpAny_bind ?_
    refine join_list (s := { s with toks := tk }) hl.isList hi (by show _ + _ * 0 ≤ _; omega) fun t' k => wpAny_pure ?_
    exact h k t' _ (join_nil_list ys)

theorem sub_loop {code : Array Nat} {pa ca la : Addr} {x r : Str} {t tr : Tok} {res : Nat → List Nat} {R : Result → Shared → Prop} (fi : Finds code x.cps r.cps.toList res) (hr : r.length = 2) (hx : x.length ≤ 1048576)
    (hpa : pa ≠ la) (hca : ca ≠ la) :
    ∀ (k d : Nat) (n : Int) (s : Shared) (items : Array Value) (ys : List Str), x.length - d < k → d ≤ x.length → PatAt s.heap pa ca code → s.heap.PlainList la items → StrsAre items.toList ys → ys.length ≤ 2 * d → (ys.map (·.length)).sum ≤ 2 * d →
      (∀ h' tk t' z, (∀ b o, b ≠ la → s.heap.get? b = some o → h'.get? b = some o) → z.cps.toList = (ys.flatMap fun y => y.cps.toList) ++ res d → R (.ok (.ret (.str z t'))) { s with heap := h', toks := tk }) →
      codeAny (model prog w) A (loopCode pa la x r t tr n d) R s
  | 0, d, n, s, items, ys, h, _, _, _, _, _, _, _ => absurd h (Nat.not_lt_zero _)
  | k + 1, d, n, s, items, ys, hk, hd, p, hl, hi, hn, hs, hR => by
    refine codeAny_builtin entry_pat_loop ?_
    rw [Around.under_plainId (by decide +kernel)]
    unfold Builtin.«re.Pattern.sub.loop»
    refine wpAny_bind (wp_wholeTarget p ?_)
    refine wpAny_bind (wpAny_pure (a := ()) ?_)
    show wpAny _ _ (reNextFound { pattern := .ref pa, string := .str x t, code, text := x.cps, kind := 0, groups := 0, pos := 0, lim := x.cps.size } d false >>= fun z => match z with
      | some m => (if d < m.start then (reSlice x.cps 0 d m.start >>= fun v => updateSeq la (·.push v) >>= fun _ => updateSeq la (·.push (.str r tr)) >>= fun _ => again (loopCodeM pa la x r t tr (n + 1) m)) else
          (updateSeq la (·.push (.str r tr)) >>= fun _ => again (loopCodeM pa la x r t tr (n + 1) m)))
      | none => (if d < x.cps.size then (reSlice x.cps 0 d x.cps.size >>= fun v => updateSeq la (·.push v) >>= fun _ => subEnd la x) else subEnd la x)) _ _ s
    obtain ⟨N, o, hN, hE, hm⟩ := fi.look d hd
    have hss : items.size = ys.length := by have := strsAre_length hi; simpa using this
    have hz : sizeLine = 16777216 := by decide
    refine wpAny_bind (wp_runToEnd hE hN (fun he => ?_) (fun a b m' he ha hb => ?_))
    · subst he
      dsimp only at hm ⊢
      have hxl : x.length = x.cps.size := rfl
      by_cases hlt : d < x.cps.size
      · rw [if_pos hlt]
        refine wpAny_bind (wp_slice hx fun y hy t1 tk1 => ?_)
        refine wpAny_bind (wp_push (s := { s with toks := tk1 }) hl (by omega) fun h1 hl1 hs1 => ?_)
        have hi1 : StrsAre (items.push (.str y t1)).toList (ys ++ [y]) := by rw [Array.toList_push]; exact strs_push hi y t1
        have hyl : y.length = x.length - d := by show y.cps.size = _; rw [hy]; simp [hxl]
        refine sub_end (s := { s with toks := tk1, heap := h1 }) hx hl1 hi1 (by simp only [List.map_append, List.sum_append, List.map_cons, List.map_nil, List.sum_cons, List.sum_nil]; omega) fun tk2 t2 z hz => ?_
        refine hR h1 tk2 t2 z (fun b o hb e => hs1.extBut b o hb e) ?_
        rw [hz, hm, List.flatMap_append]
        simp [hy]
        exact List.take_of_length_le (by simp)
      · rw [if_neg hlt]
        refine sub_end hx hl hi (by omega) fun tk2 t2 z hz => ?_
        refine hR s.heap tk2 t2 z (fun b o hb e => e) ?_
        rw [hz, hm, List.drop_of_length_le (by simp; omega), List.append_nil]
    · subst he
      dsimp only at hm ⊢
      obtain ⟨h1, h2, h3, h4⟩ := hm
      have hxl : x.length = x.cps.size := rfl
      have quiet : (loopCodeM pa la x r t tr (n + 1) m').quiet = true := plainId_quiet (by decide +kernel) _
      have hne : (m'.handed == m'.start) = false := by rw [ha, hb]; simp; omega
      have hcode : loopCodeM pa la x r t tr (n + 1) m' = loopCode pa la x r t tr (n + 1) b := by unfold loopCodeM loopCode; rw [hne, hb]
      have hrl : r.cps.toList.length = 2 := by simpa [Str.length] using hr
      have fin : ∀ (items1 : Array Value) (ys1 : List Str) (h1' : Heap) (tk1 : Nat), h1'.PlainList la items1 → StrsAre items1.toList ys1 → ys1.length ≤ 2 * a + 1 → ys1.length + 1 ≤ 2 * b → (ys1.map (·.length)).sum + 2 ≤ 2 * b → Heap.ExtBut la s.heap h1' →
          (ys1.flatMap fun y => y.cps.toList) = (ys.flatMap fun y => y.cps.toList) ++ (x.cps.toList.drop d).take (a - d) →
          wpAny (model prog w) A.in1 (updateSeq la (·.push (.str r tr)) >>= fun _ => again (loopCodeM pa la x r t tr (n + 1) m')) (fun fin s' =>
            match fin with
            | PySem.Fin.done f => R (Except.ok f) s'
            | PySem.Fin.again c' => c'.quiet = true ∧ codeAny (model prog w) A c' R s') (fun e s' => R (Except.error e) s') { s with heap := h1', toks := tk1 } := by
        intro items1 ys1 h1' tk1 hl1 hi1 hn0 hn1 hs1 hx1 hf1
        have hss1 : items1.size = ys1.length := by have := strsAre_length hi1; simpa using this
        refine wpAny_bind (wp_push (s := { s with heap := h1', toks := tk1 }) hl1 (by omega) fun h2' hl2 hs2 => ?_)
        refine wpAny_pure (And.intro quiet ?_)
        rw [hcode]
        have hi2 : StrsAre (items1.push (.str r tr)).toList (ys1 ++ [r]) := by rw [Array.toList_push]; exact strs_push hi1 r tr
        have hkeep : ∀ c o, c ≠ la → s.heap.get? c = some o → h2'.get? c = some o := fun c o hc e => hs2.extBut c o hc (hx1 c o hc e)
        refine sub_loop fi hr hx hpa hca k b (n + 1) { s with heap := h2', toks := tk1 } _ _ (by omega) (by omega) (p.keeps (fun o e => hkeep pa o hpa e) (fun o e => hkeep ca o hca e)) hl2 hi2 (by simp; omega) (by simp [hr]; omega) ?_
        intro h' tk t' z hk' hz'
        refine hR h' tk t' z (fun c o hc e => hk' c o hc (hkeep c o hc e)) ?_
        rw [hz', List.flatMap_append, hf1, h4]
        simp
      by_cases hlt : d < m'.start
      · rw [if_pos hlt]
        refine wpAny_bind (wp_slice hx fun y hy t1 tk1 => ?_)
        refine wpAny_bind (wp_push (s := { s with toks := tk1 }) hl (by omega) fun h1' hl1 hs1 => ?_)
        have hi1 : StrsAre (items.push (.str y t1)).toList (ys ++ [y]) := by rw [Array.toList_push]; exact strs_push hi y t1
        have hyl : y.length = a - d := by show y.cps.size = _; rw [hy, ha]; simp; omega
        refine fin _ _ h1' tk1 hl1 hi1 (by simp; omega) (by simp; omega) (by simp; omega) hs1.extBut ?_
        rw [List.flatMap_append]
        simp [hy, ha]
      · rw [if_neg hlt]
        have had : a = d := by omega
        refine fin _ _ s.heap s.toks hl hi (by omega) (by omega) (by omega) (fun _ _ _ e => e) ?_
        simp [had]
end
end Mine
end

theorem Mine.fresh_Rx5 : True := by (w_top off; first | (walk1; done) | trivial)
section
open PySem PySem.W PyProof.Rows
set_option Elab.async false
set_option maxRecDepth 100000
namespace Mine
open PySem.Builtin.Re PySem.Sre

theorem str_no_call : typeLookup (.type "str") "__call__" = pure none := by rw [typeLookup_type, builtinLookup_eq_fast]; kernel_rfl

theorem named_sub (r x : Value) : reNamed "re.Pattern.sub" "sub" ["repl", "string", "count"] 2 [r, x] [] = pure [some r, some x, none] := by
  rfl

section
variable {prog : Program} {w : World} {A : Around} {E : Value → Shared → Prop} {s : Shared} {h₀ : Heap} {L : Addr} {m : Str → Option Value} {news : List (Addr × Obj)} {Q : Value → Shared → Prop}

theorem call_sub {code : Array Nat} {pa ca : Addr} {x r : Str} {t tr : Tok} {res : Nat → List Nat} (p : PatAt h₀ pa ca code) (F : Fr h₀ L s.heap m) (N : News h₀ L s.heap news)
    (fi : Finds code x.cps r.cps.toList res) (hr : r.length = 2) (hb : r.cps.contains 92 = false) (hx : x.length ≤ 1048576)
    (h : ∀ h' tk t' z, Fr h₀ L h' m → News h₀ L h' news → z.cps.toList = res 0 → Q (.str z t') { s with heap := h', toks := tk }) :
    wpAny (model prog w) A (call (.builtin "re.Pattern.sub") [.ref pa, .str r tr, .str x t]) Q E s := by
  have ps : PatAt s.heap pa ca code := p.keeps (fun o e => F.keep _ o e) (fun o e => F.keep _ o e)
  have hT : s.TypeIs (.ref pa) "re.Pattern" := by obtain ⟨_, _, _, _, _, ho⟩ := ps.pat; exact ⟨_, ho, rfl⟩
  refine wpAny_call (codeAny_call_builtin slot_pat_sub.plain entry_pat_sub (slot_pat_sub.check _ _ _ _ _ _ _ _ hT (args_pat_sub _ _ _) ?_))
  show wpAny _ _ (reSubstitute "re.Pattern.sub" "sub" false ⟨[.ref pa, .str r tr, .str x t], []⟩) _ _ _
  unfold reSubstitute
  refine wpAny_bind (wpAny_of_eq (named_sub _ _) ?_)
  refine wpAny_bind (wpAny_pure ?_)
  refine wpAny_bind (wpAny_specialOf_val rfl str_no_call ?_)
  refine wpAny_bind (wpAny_pure (a := some r) ?_)
  dsimp only
  refine wpAny_bind (wpAny_pure ?_)
  rw [hb]
  refine wpAny_bind (wpAny_pure ?_)
  refine wpAny_bind (wpAny_holding (wp_wholeTarget ps ?_))
  show wpAny _ _ (newList [] >>= fun la => again (.builtin "re.Pattern.sub.loop" ⟨[.ref pa, .str x t, .str r tr, rawInt 0, rawInt 0, rawInt 0, rawInt 0, rawInt 0, .bool false, la, .bool false], []⟩)) _ _ _
  refine wpAny_bind (newList_N F N fun h' F' N' => wpAny_pure (And.intro (plainId_quiet (by decide +kernel) _) ?_))
  have hla : ∀ b o, h₀.get? b = some o → b ≠ s.heap.objs.size := fun b o e => Nat.ne_of_lt (Heap.lt_size (F.keep b o e))
  obtain ⟨_, _, _, _, _, hpa⟩ := p.pat
  obtain ⟨_, _, hca, _⟩ := p.tup
  refine sub_loop (la := s.heap.objs.size) fi hr hx (hla _ _ hpa) (hla _ _ hca) (x.length + 1) 0 0 { s with heap := h' } #[] [] (by omega) (by omega) (p.keeps (fun o e => F'.keep _ o e) (fun o e => F'.keep _ o e)) ⟨0, (N' _ (.head _)).1⟩ .nil (by simp) (by simp) ?_
  intro h'' tk t' z hk hz
  refine h h'' tk t' z ?_ (fun q hq => ?_) (by simpa using hz)
  · obtain ⟨oL, a1, a2, hL, a3⟩ := F'.ns
    have hLa : L ≠ s.heap.objs.size := fun e => (N' _ (.head _)).2.1 e.symm
    exact ⟨⟨oL, a1, a2, hk L oL hLa hL, a3⟩, fun b o e => hk b o (hla b o e) (F'.keep b o e), F'.above⟩
  · exact ⟨hk _ _ (Nat.ne_of_lt (Heap.lt_size (N q hq).1)) (N' q (.tail _ hq)).1, (N q hq).2⟩

theorem method_sub {pa ca : Addr} {code : Array Nat} {pl : Sem Bool} {Q : Value × List Value → Shared → Prop} (p : PatAt s.heap pa ca code) (h : Q (.builtin "re.Pattern.sub", [.ref pa]) s) :
    wpAny (model prog w) A (getMethod (.ref pa) "sub" pl) Q E s := by
  obtain ⟨_, _, _, _, _, ho⟩ := p.pat
  exact getMethod_builtin ⟨_, ho, rfl⟩ plainAttrs_pat slot_pat_sub type_pat_sub (fun a e => by cases e; exact ⟨_, ho, rfl⟩) h
end
end Mine
end

theorem Mine.fresh_Rx6 : True := by (w_top off; first | (walk1; done) | trivial)
section
open PySem PySem.W PyProof.Rows
set_option Elab.async false
namespace Mine
open PySem.Sre

theorem getD_drop (x : Array Nat) {s : Nat} (h : s < x.size) : x.toList.drop s = x.getD s 0 :: x.toList.drop (s + 1) := by
  have h' : s < x.toList.length := by simpa using h
  rw [List.drop_eq_getElem_cons h']
  simp [Array.getD, h]

theorem crlfA_true {l : List Nat} (h : l.head? ≠ some 10) : crlfA true l = crlfA false l := by
  cases l with
  | nil => rfl
  | cons c r =>
    have : c ≠ 10 := fun e => h (by rw [e]; rfl)
    rw [crlfA, crlfA, if_neg this, if_neg this]

theorem find2_spec (x : Array Nat) : ∀ (f s : Nat), x.size < s + f → s ≤ x.size →
    match find2 x x.size f s with
    | none => crlfA false (x.toList.drop s) = x.toList.drop s
    | some a => s ≤ a ∧ a < x.size ∧ crlfA false (x.toList.drop s) = (x.toList.drop s).take (a - s) ++ crlfA false (x.toList.drop a)
  | 0, s, h1, h2 => by omega
  | f + 1, s, h1, h2 => by
    rw [find2]
    by_cases hs : s ≥ x.size
    · rw [if_pos hs]
      have : x.toList.drop s = [] := List.drop_of_length_le (by simpa using hs)
      simp only [this]; rfl
    · rw [if_neg hs]
      have hlt : s < x.size := by omega
      by_cases hc : x.getD s 0 = 10 ∨ x.getD s 0 = 13
      · rw [if_pos hc]
        simp only
        refine ⟨Nat.le_refl _, hlt, by simp⟩
      · rw [if_neg hc]
        have ih := find2_spec x f (s + 1) (by omega) (by omega)
        have e : crlfA false (x.toList.drop s) = x.getD s 0 :: crlfA false (x.toList.drop (s + 1)) := by
          rw [getD_drop x hlt, crlfA, if_neg (fun h => hc (.inl h)), if_neg (fun h => hc (.inr h))]
        cases hf : find2 x x.size f (s + 1) with
        | none =>
          rw [hf] at ih
          simp only at ih ⊢
          rw [e, ih, getD_drop x hlt]
        | some a =>
          rw [hf] at ih
          simp only at ih ⊢
          obtain ⟨i1, i2, i3⟩ := ih
          refine ⟨by omega, i2, ?_⟩
          rw [e, i3, getD_drop x hlt]
          have : a - s = (a - (s + 1)) + 1 := by omega
          rw [this, List.take_succ_cons]; rfl

theorem finds2 (x : Array Nat) (hx : x.size ≤ 1048576) : Finds code2 x [13, 10] (fun s => crlfA false (x.toList.drop s)) where
  look := fun s hs => by
    have sp := find2_spec x (x.size + 1 - s) s (by omega) hs
    refine ⟨_, _, ?_, search2, ?_⟩
    · omega
    · cases hf : find2 x x.size (x.size + 1 - s) s with
      | none => rw [hf] at sp; exact sp
      | some a =>
        rw [hf] at sp
        simp only at sp
        obtain ⟨h1, h2, h3⟩ := sp
        obtain ⟨_, hc⟩ := find2_some hf
        show s ≤ a ∧ a < over2 x x.size a ∧ over2 x x.size a ≤ x.size ∧ crlfA false (x.toList.drop s) = (x.toList.drop s).take (a - s) ++ [13, 10] ++ crlfA false (x.toList.drop (over2 x x.size a))
        have hov : (over2 x x.size a = a + 2 ∧ a + 1 < x.size) ∨ over2 x x.size a = a + 1 := by
          by_cases hq : x.getD a 0 = 13 ∧ a + 1 < x.size ∧ x.getD (a + 1) 0 = 10
          · exact .inl ⟨if_pos hq, hq.2.1⟩
          · exact .inr (if_neg hq)
        refine ⟨h1, by omega, by omega, ?_⟩
        · rw [h3, List.append_assoc]
          congr 1
          rw [getD_drop x h2]
          rcases hc with hc | hc
          · have ho : over2 x x.size a = a + 1 := if_neg (by rw [hc]; rintro ⟨e, _⟩; exact absurd e (by decide))
            rw [ho, hc]; rfl
          · by_cases hn : a + 1 < x.size ∧ x.getD (a + 1) 0 = 10
            · have ho : over2 x x.size a = a + 2 := if_pos ⟨hc, hn⟩
              rw [ho, hc, getD_drop x hn.1, hn.2]; rfl
            · have ho : over2 x x.size a = a + 1 := if_neg fun e => hn e.2
              rw [ho, hc]
              show 13 :: 10 :: crlfA true (x.toList.drop (a + 1)) = _
              rw [crlfA_true]; rfl
              intro hh
              by_cases hl : a + 1 < x.size
              · rw [getD_drop x hl] at hh
                exact hn ⟨hl, by simpa using hh⟩
              · rw [List.drop_of_length_le (by simp; omega)] at hh; cases hh

def bolAt (x : Array Nat) (s : Nat) : Bool := s == 0 || x.getD (s - 1) 0 == 10
theorem find1_spec (x : Array Nat) : ∀ (f s : Nat), x.size < s + f → s ≤ x.size →
    match find1 x x.size f s with
    | none => dotq (bolAt x s) (x.toList.drop s) = x.toList.drop s
    | some a => s ≤ a ∧ a < x.size ∧ dotq (bolAt x s) (x.toList.drop s) = (x.toList.drop s).take (a - s) ++ [46, 46] ++ dotq (bolAt x (a + 1)) (x.toList.drop (a + 1))
  | 0, s, h1, h2 => by omega
  | f + 1, s, h1, h2 => by
    rw [find1]
    by_cases hs : s ≥ x.size
    · rw [if_pos hs]
      have : x.toList.drop s = [] := List.drop_of_length_le (by simpa using hs)
      simp only [this]; rfl
    · rw [if_neg hs]
      have hlt : s < x.size := by omega
      have hb : bolAt x (s + 1) = (x.getD s 0 == 10) := by simp [bolAt]
      by_cases hc : (s == 0 || x.getD (s - 1) 0 == 10) = true ∧ x.getD s 0 = 46
      · rw [if_pos hc]
        simp only
        refine ⟨Nat.le_refl _, hlt, ?_⟩
        rw [Nat.sub_self, List.take_zero, List.nil_append, getD_drop x hlt, dotq, if_pos ⟨hc.1, hc.2⟩, hb]
      · rw [if_neg hc]
        have ih := find1_spec x f (s + 1) (by omega) (by omega)
        have e : dotq (bolAt x s) (x.toList.drop s) = x.getD s 0 :: dotq (bolAt x (s + 1)) (x.toList.drop (s + 1)) := by
          rw [getD_drop x hlt, dotq, if_neg (show ¬ (bolAt x s = true ∧ x.getD s 0 = 46) from hc), hb]; rfl
        cases hf : find1 x x.size f (s + 1) with
        | none =>
          rw [hf] at ih
          simp only at ih ⊢
          rw [e, ih, getD_drop x hlt]
        | some a =>
          rw [hf] at ih
          simp only at ih ⊢
          obtain ⟨i1, i2, i3⟩ := ih
          refine ⟨by omega, i2, ?_⟩
          rw [e, i3, getD_drop x hlt]
          have : a - s = (a - (s + 1)) + 1 := by omega
          rw [this, List.take_succ_cons]; simp

theorem finds1 (x : Array Nat) (hx : x.size ≤ 1048576) : Finds code1 x [46, 46] (fun s => dotq (bolAt x s) (x.toList.drop s)) where
  look := fun s hs => by
    have sp := find1_spec x (x.size + 1 - s) s (by omega) hs
    refine ⟨_, _, ?_, search1, ?_⟩
    · omega
    · cases hf : find1 x x.size (x.size + 1 - s) s with
      | none => rw [hf] at sp; exact sp
      | some a =>
        rw [hf] at sp
        simp only at sp
        obtain ⟨h1, h2, h3⟩ := sp
        exact ⟨h1, Nat.lt_succ_self _, h2, h3⟩
end Mine
end

theorem Mine.fresh_Tx : True := by (w_top off; first | (walk1; done) | trivial)
section
open PySem PySem.W PyProof.Rows
set_option Elab.async false
namespace Mine
open PySem.Builtin.Str PySem.StrLaws

def repC (c : Nat) (z : List Nat) (x : List Nat) : List Nat := x.flatMap fun k => if k = c then z else [k]
theorem repC_append (c : Nat) (z a b : List Nat) : repC c z (a ++ b) = repC c z a ++ repC c z b := List.flatMap_append ..
theorem repC_free (c : Nat) (z : List Nat) : ∀ l : List Nat, c ∉ l → repC c z l = l
  | [], _ => rfl
  | k :: r, h => by
    have h1 : ¬ k = c := fun e => h (e ▸ List.mem_cons_self ..)
    have h2 : c ∉ r := fun m => h (List.mem_cons_of_mem _ m)
    show (if k = c then z else [k]) ++ repC c z r = _
    rw [if_neg h1, repC_free c z r h2]; rfl
theorem repC_join (c : Nat) (z : Str) : ∀ parts : List Str, (∀ p ∈ parts, c ∉ p.cps.toList) → repC c z.cps.toList (Str.join ⟨#[c]⟩ parts).cps.toList = (Str.join z parts).cps.toList
  | [], _ => rfl
  | [p], h => repC_free c _ _ (h p (List.mem_singleton.mpr rfl))
  | p :: q :: r, h => by
    have ih := repC_join c z (q :: r) fun a ha => h a (List.mem_cons_of_mem _ ha)
    show repC c _ (p ++ ⟨#[c]⟩ ++ Str.join ⟨#[c]⟩ (q :: r)).cps.toList = (p ++ z ++ Str.join z (q :: r)).cps.toList
    simp only [Str.cps_append, Array.toList_append]
    rw [repC_append, repC_append, ih, repC_free c _ _ (h p (List.mem_cons_self ..))]
    congr 2
    simp [repC]
theorem replace_list (x z : Str) (c : Nat) : (Txt.replace x ⟨#[c]⟩ z).cps.toList = repC c z.cps.toList x.cps.toList := by
  rw [replace_one, ← repC_join c z _ (split_free x c), join_split]
theorem replace_absent {x z : Str} {c : Nat} (h : (!(occurrences x ⟨#[c]⟩ 0 x.length 1).isEmpty) = false) : Txt.replace x ⟨#[c]⟩ z = x := by
  rw [found_one, decide_eq_false_iff_not] at h
  apply Str.ext'
  apply Array.toList_inj.mp
  rw [replace_list, repC_free _ _ _ h]

/-! the parting of texts -/
theorem at_iff (x y : Str) (k : Nat) : At x y x.length k ↔ k + y.length ≤ x.length ∧ y.cps.toList.isPrefixOf (x.cps.toList.drop k) = true := by
  unfold At
  rw [subAt_eq]
  refine and_congr_right fun h => ?_
  rw [List.isPrefixOf_iff_prefix, List.prefix_iff_eq_take, beq_iff_eq]
  have : y.cps.toList.length = y.length := by simp [Str.length]
  rw [this]
  exact eq_comm

theorem not_prefix {x y : Str} {k : Nat} (h : ¬ At x y x.length k) (hy : 1 ≤ y.length) : y.cps.toList.isPrefixOf (x.cps.toList.drop k) = false := by
  rw [at_iff] at h
  cases hp : y.cps.toList.isPrefixOf (x.cps.toList.drop k) with
  | false => rfl
  | true =>
    refine absurd ⟨?_, hp⟩ h
    have := (List.isPrefixOf_iff_prefix.mp hp).length_le
    simp [Str.length] at this ⊢
    have h2 : 1 ≤ y.cps.size := hy
    omega

theorem split_gap {x y : Str} (hy : 1 ≤ y.length) : ∀ (d a c : Nat), c = a + d → c ≤ x.length → (∀ k, a ≤ k → k < c → ¬ At x y x.length k) →
    splitL y.cps.toList (x.cps.toList.drop a) = preHead ((x.cps.toList.drop a).take d) (splitL y.cps.toList (x.cps.toList.drop c))
  | 0, a, c, hc, _, _ => by
    have : c = a := by omega
    rw [this, List.take_zero, preHead_nil (splitL_ne _ _)]
  | d + 1, a, c, hc, hl, hn => by
    have ih := split_gap hy d (a + 1) c (by omega) hl fun k h1 h2 => hn k (by omega) h2
    have ha : a < x.cps.toList.length := by simp [Str.length] at hl ⊢; omega
    have hnp := not_prefix (hn a (Nat.le_refl _) (by omega)) hy
    rw [List.drop_eq_getElem_cons ha] at hnp ⊢
    rw [splitL_cons _ _ hnp, ih, List.take_succ_cons, preHead_cons _ _ (splitL_ne _ _)]

theorem parts_split {x y : Str} (hy : 1 ≤ y.length) : ∀ (cuts : List Nat) (a f : Nat), a ≤ x.length → ChainG x y x.length a cuts f → (∀ k, f ≤ k → ¬ At x y x.length k) →
    (partsFrom x y.length a cuts).map (fun p => p.cps.toList) = splitL y.cps.toList (x.cps.toList.drop a)
  | [], a, f, hal, h, hn => by
    have e : f = a := h
    subst e
    have := split_gap hy (x.length - f) f x.length (by omega) (Nat.le_refl _) fun k h1 _ => hn k h1
    rw [this]
    have hd : x.cps.toList.drop x.length = [] := List.drop_of_length_le (by simp [Str.length])
    rw [hd, splitL_nil]
    simp [partsFrom, preHead, strSub_toList]
  | c :: r, a, f, hal, h, hn => by
    obtain ⟨h1, h3, h2, h4⟩ := h
    have hc := (at_iff x y c).mp h3
    have ih := parts_split hy r (c + y.length) f (by omega) h4 hn
    have hg := split_gap hy (c - a) a c (by omega) (by omega) h2
    rw [hg]
    obtain ⟨q, hq⟩ := List.isPrefixOf_iff_prefix.mp hc.2
    have hyl : y.cps.toList.length = y.length := by simp [Str.length]
    have hq' : q = x.cps.toList.drop (c + y.length) := by
      have := congrArg (List.drop y.cps.toList.length) hq
      rw [List.drop_left, hyl, List.drop_drop] at this
      exact this
    have hne : y.cps.toList ≠ [] := by
      intro e; rw [e] at hyl; simp at hyl; omega
    rw [← hq, splitL_sep hne, hq', ← ih]
    simp [partsFrom, preHead, strSub_toList]

theorem kind_ge (x : Str) : 1 ≤ Builtin.Str.strKind x := by unfold Builtin.Str.strKind; split <;> (try split) <;> decide
theorem split_list (x y : Str) (hy : 1 ≤ y.length) (hk : Builtin.Str.strKind y = 1) : (Txt.split x y).map (fun p => p.cps.toList) = splitL y.cps.toList x.cps.toList := by
  obtain ⟨f, hG, hn⟩ := occ_tight x y hy
  have key := parts_split hy _ 0 f (Nat.zero_le _) hG hn
  rw [List.drop_zero] at key
  have none : (∀ k, ¬ At x y x.length k) → [x].map (fun p => p.cps.toList) = splitL y.cps.toList x.cps.toList := by
    intro h
    have := split_gap hy x.length 0 x.length (by omega) (Nat.le_refl _) fun k _ _ => h k
    rw [List.drop_zero] at this
    rw [this]
    have hd : x.cps.toList.drop x.length = [] := List.drop_of_length_le (by simp [Str.length])
    rw [hd, splitL_nil]
    have ht : x.cps.toList.take x.length = x.cps.toList := List.take_of_length_le (by simp [Str.length])
    simp [preHead, ht]
  unfold Txt.split
  split
  · rename_i hc
    refine none fun k ha => ?_
    have := ha.1
    rw [hk] at hc
    have := kind_ge x
    simp only [Bool.or_eq_true, decide_eq_true_eq] at hc
    omega
  · split
    · rename_i he
      have e : occurrences x y 0 x.length (x.length + 1) = [] := by simpa using he
      rw [e] at hG key
      rw [← key]
      simp [partsFrom, sub_whole]
    · rw [partsBetween_eq]; exact key

theorem str_join_list (sep : Str) : ∀ parts : List Str, (Str.join sep parts).cps.toList = joinL sep.cps.toList (parts.map fun p => p.cps.toList)
  | [] => rfl
  | [p] => rfl
  | p :: q :: r => by
    show (p ++ sep ++ Str.join sep (q :: r)).cps.toList = _
    simp only [Str.cps_append, Array.toList_append, str_join_list sep (q :: r)]
    rfl
theorem join_list_eq (sep : Str) (parts : List Str) : (Txt.join sep parts).cps.toList = joinL sep.cps.toList (parts.map fun p => p.cps.toList) := by
  show (glued sep parts).cps.toList = _
  rw [glued_eq_join, str_join_list]

theorem replace_gen (x y z : Str) (hy : 1 ≤ y.length) (hk : Builtin.Str.strKind y = 1) : (Txt.replace x y z).cps.toList = joinL z.cps.toList (splitL y.cps.toList x.cps.toList) := by
  rw [← split_list x y hy hk]
  have h0 : (y.length == 0) = false := by simp; omega
  unfold Txt.replace Txt.split
  rw [h0, Bool.false_and, Bool.or_false]
  split
  · rename_i he
    split
    · rfl
    · rfl
  · rename_i he
    split
    · rename_i hc
      exfalso
      obtain ⟨f, h⟩ := occ_chain x y (x.length + 1)
      cases ho : occurrences x y 0 x.length (x.length + 1) with
      | nil => rw [ho] at he; simp at he
      | cons i r =>
        rw [ho] at h
        have := h.2.1.1
        have := kind_ge x
        rw [hk] at hc
        simp only [Bool.or_eq_true, decide_eq_true_eq] at hc
        omega
    · rw [glued_eq_join, str_join_list]

theorem norm_plain : ∀ (n : Nat) (x : List Nat), x.length ≤ n → repC 13 [10] (joinL [10] (splitL [13, 10] x)) = joinL [10] (linesA false x)
  | 0, x, h => by
    have : x = [] := by simpa using h
    subst this; rfl
  | n + 1, [], _ => rfl
  | n + 1, c :: r, h => by
    have ih := norm_plain n r (by simp at h; omega)
    by_cases hp : ([13, 10] : List Nat).isPrefixOf (c :: r) = true
    · obtain ⟨q, hq⟩ := List.isPrefixOf_iff_prefix.mp hp
      rw [← hq, splitL_sep (by simp), joinL_cons (splitL_ne _ _)]
      have ihq := norm_plain n q (by have := congrArg List.length hq; simp at this h; omega)
      show 10 :: repC 13 [10] (joinL [10] (splitL [13, 10] q)) = joinL [10] ([] :: linesA false q)
      rw [joinL_cons (linesA_ne _ _), ihq]; rfl
    · have hp' : ([13, 10] : List Nat).isPrefixOf (c :: r) = false := Bool.eq_false_iff.mpr hp
      rw [splitL_cons _ _ hp', joinL_consHead _ _ (splitL_ne _ _)]
      show (if c = 13 then [10] else [c]) ++ repC 13 [10] _ = _
      rw [ih, linesA]
      by_cases h10 : c = 10
      · subst h10
        rw [if_neg (by decide), if_pos rfl, if_neg (by decide), joinL_cons (linesA_ne _ _)]; rfl
      · rw [if_neg h10]
        by_cases h13 : c = 13
        · subst h13
          rw [if_pos rfl, if_pos rfl, joinL_cons (linesA_ne _ _)]
          have hr : r.head? ≠ some 10 := by
            intro e
            cases r with
            | nil => cases e
            | cons d r =>
              simp at e; subst e
              simp [List.isPrefixOf] at hp
          have : linesA true r = linesA false r := by
            cases r with
            | nil => rfl
            | cons d r =>
              have : d ≠ 10 := fun e => hr (by rw [e]; rfl)
              rw [linesA, linesA, if_neg this, if_neg this]
          rw [this]; rfl
        · rw [if_neg h13, if_neg h13, joinL_consHead _ _ (linesA_ne _ _)]; rfl

theorem norm_str (x y y' z : Str) (hy : y.cps.toList = [13, 10]) (hy' : y'.cps = #[13]) (hz : z.cps.toList = [10]) :
    (Txt.replace (Txt.replace x y z) y' z).cps.toList = joinL [10] (linesA false x.cps.toList) := by
  have e : y' = ⟨#[13]⟩ := by cases y'; simp at hy'; rw [hy']
  subst e
  have hyl : y.length = 2 := by have := congrArg List.length hy; simpa [Str.length] using this
  have hyk : Builtin.Str.strKind y = 1 := by
    have : y.cps = #[13, 10] := by apply Array.toList_inj.mp; rw [hy]
    unfold Builtin.Str.strKind; rw [this]; decide +kernel
  rw [replace_list, hz, replace_gen x y z (by omega) hyk, hy, hz]
  exact norm_plain _ _ (Nat.le_refl _)
end Mine
end

theorem Mine.fresh_E1 : True := by (w_top off; first | (walk1; done) | trivial)
section
open PySem PySem.W PyProof.Rows
set_option Elab.async false
namespace Mine
open PySem.Builtin.Str PySem.StrLaws

theorem upd_same {m : Str → Option Value} {n : Str} {v : Value} (h : m n = some v) : (fun a => if a = n then some v else m a) = m := by
  funext a
  by_cases e : a = n
  · rw [if_pos e, e, h]
  · rw [if_neg e]

/-- a method call is what it is (where the two places stand in one line) -/
def MCall (o : Expr) (name : Str) (apos pos : Pos) (args : List Expr) (env : Env) : Prop :=
  ∃ pl : Sem Bool, eval (.Call (.Attribute o name apos) args [] pos) env = (do
      let ov ← eval o env
      standAt apos.atName
      let (f, first) ← holding [ov] (getMethod ov name pl)
      callWith pos f first (backTo pos (starEach args env)) [])

section
variable {prog : Program} {w : World} {A : Around} {E : Value → Shared → Prop} {s : Shared} {env : Env} {h₀ : Heap} {m : Str → Option Value} {news : List (Addr × Obj)}
theorem if_rep {Q : Flow → Shared → Prop} {y z x : Str} {c k1 k2 k3 : Nat} {t : Tok} {p1 p2 p3 p4 p5 p6 p7 p8 p9 p10 p11 : Pos}
    (hp : (env.scope.kind == .class || (env.scope.kind == .module && env.locals != env.globals)) = false) (hk : env.scope.kind = .function) (hl : env.kindOf (Str.ofString "text") = some .local) (F : Fr h₀ env.locals s.heap m) (N : News h₀ env.locals s.heap news) (hv : m (Str.ofString "text") = some (.str x t))
    (he : MCall (.Name (Str.ofString "text") p5) (Str.ofString "replace") p6 p9 [.Constant (.str y) k2 p7, .Constant (.str z) k3 p8] env)
    (hy : y = ⟨#[c]⟩) (hyz : (y == z) = false) (hx : x.length ≤ 1048576) (hz : z.length ≤ 14) (htk : 1 ≤ s.toks)
    (h : ∀ h' t' tk', Fr h₀ env.locals h' (fun a => if a = Str.ofString "text" then some (.str (Txt.replace x y z) t') else m a) → News h₀ env.locals h' news → 1 ≤ tk' → Q .next { s with heap := h', toks := tk' }) :
    wpAny (model prog w) A (exec (.If (.Compare (.Constant (.str y) k1 p1) [.In] [.Name (Str.ofString "text") p2] p3) [.Assign [.Name (Str.ofString "text") p4] (.Call (.Attribute (.Name (Str.ofString "text") p5) (Str.ofString "replace") p6) [.Constant (.str y) k2 p7, .Constant (.str z) k3 p8] [] p9) p10] [] p11) env) Q E s := by
  subst hy
  refine wpAny_If (wpAny_isTrue_Compare1 (wpAny_Constant_str (wpAny_Name (wpAny_loadName_local hk hl F.ns hv (PyProof.Rows.in_str (wpAny_truthy_bool ?_))))))
  cases hc : !(occurrences x ⟨#[c]⟩ 0 x.length 1).isEmpty with
  | false =>
    rw [if_neg Bool.false_ne_true]
    refine wpAny_execs_nil (h s.heap t (s.toks + 1) ?_ N (by omega))
    rw [replace_absent hc, upd_same hv]
    exact F
  | true =>
    rw [if_pos rfl]
    refine wpAny_execs_cons (wpAny_Assign_Name ?_)
    obtain ⟨pl, he⟩ := he
    refine MethodCall_ (he := he) (wpAny_Name (wpAny_loadName_local hk hl F.ns hv ?_))
    with_reducible refine GM.replace ?_
    dsimp only
    refine callWith_method1 ?_
    refine args_cons ?_
    refine wpAny_Constant_str ?_
    refine args_cons ?_
    refine wpAny_Constant_str ?_
    refine args_nil ?_
    show wpAny _ _ (call (.builtin "str.replace") [.str x t, .str ⟨#[c]⟩ (s.toks + 1), .str z (s.toks + 1 + 1)]) _ _ { s with toks := s.toks + 1 + 1 + 1 }
    refine SC.replaceW (Nat.succ_ne_zero _) (Nat.succ_ne_zero _) (Nat.ne_of_lt (Nat.lt_succ_self _)) hyz hx hz fun t' k => ?_
    exact wpAny_storeName_local hl F.ns (fun h' hn hs => wpAny_execs_nil (h h' t' (k + 1) (F.set hn hs) (N.set hs) (Nat.le_add_left 1 k))) hp
end

/-! the steps of an escape -/
def stepOk (ns : Tab) (c : Nat) : Bool := (ns.all fun p => p.1 != c && !p.2.contains c) && (c != 38 || ns.isEmpty)
def shortTab (ns : Tab) : Bool := ns.all fun p => decide (p.2.length ≤ 5)

theorem lookup_none {ns : Tab} {c : Nat} (h : (ns.all fun p => p.1 != c && !p.2.contains c) = true) : ns.lookup c = none := by
  cases hl : ns.lookup c with
  | none => rfl
  | some n =>
    have := List.all_eq_true.mp h _ (lookup_mem hl)
    simp at this
theorem lookup_snoc {ns : Tab} {c d : Nat} {n : List Nat} : (ns ++ [(c, n)]).lookup d = (ns.lookup d).or (if d = c then some n else none) := by
  induction ns with
  | nil =>
    rw [List.nil_append, List.lookup_cons]
    by_cases h : d = c
    · have : (d == c) = true := by simpa using h
      rw [this, if_pos h]; rfl
    · have : (d == c) = false := by simpa using h
      rw [this, if_neg h]; rfl
  | cons p r ih =>
    rw [List.cons_append, List.lookup_cons, List.lookup_cons, ih]
    cases d == p.1 <;> rfl
theorem rep_esc {ns : Tab} {c : Nat} {n : List Nat} (h : stepOk ns c = true) (x : List Nat) : repC c (38 :: n) (escL ns x) = escL (ns ++ [(c, n)]) x := by
  unfold stepOk at h
  rw [Bool.and_eq_true] at h
  obtain ⟨h1, h2⟩ := h
  have hn := lookup_none h1
  unfold escL repC
  rw [List.flatMap_assoc]
  congr 1
  funext k
  unfold escC
  rw [lookup_snoc]
  cases hk : ns.lookup k with
  | none =>
    simp only [Option.none_or, List.flatMap_cons, List.flatMap_nil, List.append_nil]
    by_cases e : k = c
    · rw [if_pos e, if_pos e]
    · rw [if_neg e, if_neg e]
  | some n' =>
    simp only [Option.some_or]
    have hm := List.all_eq_true.mp h1 _ (lookup_mem hk)
    simp only [Bool.and_eq_true, bne_iff_ne, ne_eq, Bool.not_eq_true'] at hm
    have h38 : c ≠ 38 := by
      intro e
      subst e
      cases ns with
      | nil => cases hk
      | cons _ _ => simp at h2
    show (if 38 = c then 38 :: n else [38]) ++ n'.flatMap (fun k => if k = c then 38 :: n else [k]) = 38 :: n'
    rw [if_neg fun e => h38 e.symm]
    have := repC_free c (38 :: n) n' fun hmem => by rw [List.contains_iff_mem.mpr hmem] at hm; exact absurd hm.2 (by decide)
    unfold repC at this
    rw [this]; rfl
theorem escC_short {ns : Tab} (h : shortTab ns = true) (c : Nat) : (escC ns c).length ≤ 6 := by
  unfold escC
  cases hc : ns.lookup c with
  | none => simp
  | some n =>
    have := List.all_eq_true.mp h _ (lookup_mem hc)
    simp at this ⊢; omega
theorem escL_short {ns : Tab} (h : shortTab ns = true) : ∀ x : List Nat, (escL ns x).length ≤ 6 * x.length
  | [] => Nat.le_refl _
  | c :: x => by
    have h1 := escC_short h c
    have h2 := escL_short h x
    show (escC ns c ++ escL ns x).length ≤ _
    rw [List.length_append, List.length_cons]; omega

def IsEsc (ns : Tab) (x₀ x : Str) : Prop := x.cps.toList = escL ns x₀.cps.toList
theorem isEsc_nil (x : Str) : IsEsc [] x x := by
  unfold IsEsc
  generalize x.cps.toList = l
  induction l with
  | nil => rfl
  | cons c l ih => show _ = [c] ++ escL [] l; rw [← ih]; rfl

section
variable {prog : Program} {w : World} {A : Around} {E : Value → Shared → Prop} {s : Shared} {env : Env} {h₀ : Heap} {m : Str → Option Value} {news : List (Addr × Obj)}
theorem if_esc {Q : Flow → Shared → Prop} {y z x x₀ : Str} {c k1 k2 k3 : Nat} {n : List Nat} {ns : Tab} {t : Tok} {p1 p2 p3 p4 p5 p6 p7 p8 p9 p10 p11 : Pos}
    (hE : IsEsc ns x₀ x) (hp : (env.scope.kind == .class || (env.scope.kind == .module && env.locals != env.globals)) = false) (hk : env.scope.kind = .function) (hl : env.kindOf (Str.ofString "text") = some .local) (F : Fr h₀ env.locals s.heap m) (N : News h₀ env.locals s.heap news) (hv : m (Str.ofString "text") = some (.str x t))
    (he : MCall (.Name (Str.ofString "text") p5) (Str.ofString "replace") p6 p9 [.Constant (.str y) k2 p7, .Constant (.str z) k3 p8] env)
    (hy : y = ⟨#[c]⟩) (hz : z.cps.toList = 38 :: n) (hyz : (y == z) = false) (hx : x₀.length ≤ 100000) (hn : n.length ≤ 5) (hs : stepOk ns c = true) (hsh : shortTab ns = true) (htk : 1 ≤ s.toks)
    (h : ∀ x' h' t' tk', IsEsc (ns ++ [(c, n)]) x₀ x' → Fr h₀ env.locals h' (fun a => if a = Str.ofString "text" then some (.str x' t') else m a) → News h₀ env.locals h' news → 1 ≤ tk' → Q .next { s with heap := h', toks := tk' }) :
    wpAny (model prog w) A (exec (.If (.Compare (.Constant (.str y) k1 p1) [.In] [.Name (Str.ofString "text") p2] p3) [.Assign [.Name (Str.ofString "text") p4] (.Call (.Attribute (.Name (Str.ofString "text") p5) (Str.ofString "replace") p6) [.Constant (.str y) k2 p7, .Constant (.str z) k3 p8] [] p9) p10] [] p11) env) Q E s := by
  have hxl : x.length ≤ 1048576 := by
    have h1 := escL_short hsh x₀.cps.toList
    have h2 := congrArg List.length hE
    simp [Str.length] at h1 h2 hx ⊢
    omega
  have hzl : z.length ≤ 14 := by
    have := congrArg List.length hz
    simp [Str.length] at this ⊢; omega
  refine if_rep hp hk hl F N hv he hy hyz hxl hzl htk fun h' t' tk' F' N' ht' => ?_
  refine h _ h' t' tk' ?_ F' N' ht'
  show _ = _
  rw [hy, replace_list, hz, show x.cps.toList = _ from hE, rep_esc hs]
end
end Mine
end

theorem Mine.fresh_E2 : True := by (w_top off; first | (walk1; done) | trivial)
section
open PySem PySem.W PyProof.Rows
set_option Elab.async false
namespace Mine

/-- a def's contract: what comes back, and what new it makes that is told -/
def Con (prog : Program) (w : World) (K : Frag) (p : Program) (loose : List Str) (mean : ExcName → Option Value) (mg mb : Str → Option Value) (f : Addr) (d u : Nat) (vs : List Value) (news : List (Addr × Obj)) (Ret : Value → List (Addr × Obj) → Prop) : Prop :=
  ∀ (dp un : Nat) (gd : Option (List Code)) (cn : Str) (cs : Scope) (a : Addr) (ccd : Value) (cl : List (Str × Addr)) (outer : List Env) (A₀ : Around) (base h₀ : Heap) (L : Addr) (m : Str → Option Value) (s : Shared) (Q E : Value → Shared → Prop),
    Below A₀ base outer h₀ → Fr h₀ L s.heap m → K.In h₀ → News h₀ L s.heap news → Top p loose mean mg mb h₀ → cs.kind = .function → dp + d < recursionLimit → un + u < cLine →
    (∀ v more h' tk', Ret v more → Fr h₀ L h' m → News h₀ L h' (more ++ news) → Q v { s with heap := h', toks := tk' }) →
    wpAny (model prog w) (ktrTop dp un gd cn cs L a ccd cl outer) (call (.ref f) vs) Q E s

local macro_rules | `(tactic| walk_at "esc step") => `(tactic| (
  refine wpAny_execs_cons ?_;
  k_dflt (refine' if_esc (by assumption) ?hp ?hk ?hl ?F ?N ?hv ?he ?hy ?hz ?hyz ?hx ?hn ?hs ?hsh ?htk ?_);
  (case hp => rfl); (case hk => rfl); (case hl => rfl); (case F => k_asm); (case N => k_asm); (case hv => rfl); (case he => exact ⟨_, rfl⟩); (case hy => rfl); (case hz => rfl); (case hyz => decide +kernel);
  (case hx => assumption); (case hn => decide +kernel); (case hs => rfl); (case hsh => rfl); (case htk => first | assumption | exact Nat.le_add_left 1 _); k_whole;
  intro x8 h8 t8 tk8 E8 F8 N8 htk8; (try dsimp only); try k_sweep))

set_option maxRecDepth 100000 in
set_option maxHeartbeats 4000000 in
theorem esc0_c {w p loose mean mg mb news} (x : Str) (t : Tok) (hx : x.length ≤ 100000) :
   Con Challenge.rw_pe0099_01.row.prog w (hd.heap_39 w.params) p loose mean mg mb 45 1 8 [.str x t] news (fun v more => more = [] ∧ ∃ z t', v = .str z t' ∧ IsEsc (nm 0) x z) := by
  k_fill
  unfold Con
  intros
  rename_i hret
  have hE := isEsc_nil x
  refine wpAny_call ?_
  k_dflt cell_enter
  refine wpAny_execs_cons (wpAny_Try_except ?_)
  walk_at "esc step"
  walk_at "esc step"
  walk_at "esc step"
  k_steps
  rename IsEsc _ _ _ => hE9
  exact hret _ [] _ _ ⟨rfl, _, _, rfl, hE9⟩ (by k_asm) (by k_asm)
set_option maxRecDepth 100000 in
set_option maxHeartbeats 4000000 in
theorem esc1_c {w p loose mean mg mb news} (x : Str) (t : Tok) (hx : x.length ≤ 100000) :
   Con Challenge.rw_pe0099_01.row.prog w (hd.heap_39 w.params) p loose mean mg mb 52 1 8 [.str x t] news (fun v more => more = [] ∧ ∃ z t', v = .str z t' ∧ IsEsc (nm 1) x z) := by
  k_fill
  unfold Con
  intros
  rename_i hret
  have hE := isEsc_nil x
  refine wpAny_call ?_
  k_dflt cell_enter
  refine wpAny_execs_cons (wpAny_Try_except ?_)
  walk_at "esc step"
  walk_at "esc step"
  walk_at "esc step"
  walk_at "esc step"
  walk_at "esc step"
  walk_at "esc step"
  walk_at "esc step"
  k_steps
  rename IsEsc _ _ _ => hE9
  exact hret _ [] _ _ ⟨rfl, _, _, rfl, hE9⟩ (by k_asm) (by k_asm)
set_option maxRecDepth 100000 in
set_option maxHeartbeats 4000000 in
theorem esc2_c {w p loose mean mg mb news} (x : Str) (t : Tok) (hx : x.length ≤ 100000) :
   Con Challenge.rw_pe0099_01.row.prog w (hd.heap_39 w.params) p loose mean mg mb 59 1 8 [.str x t] news (fun v more => more = [] ∧ ∃ z t', v = .str z t' ∧ IsEsc (nm 2) x z) := by
  k_fill
  unfold Con
  intros
  rename_i hret
  have hE := isEsc_nil x
  refine wpAny_call ?_
  k_dflt cell_enter
  refine wpAny_execs_cons (wpAny_Try_except ?_)
  walk_at "esc step"
  walk_at "esc step"
  walk_at "esc step"
  k_steps
  rename IsEsc _ _ _ => hE9
  exact hret _ [] _ _ ⟨rfl, _, _, rfl, hE9⟩ (by k_asm) (by k_asm)
set_option maxRecDepth 100000 in
set_option maxHeartbeats 4000000 in
theorem esc3_c {w p loose mean mg mb news} (x : Str) (t : Tok) (hx : x.length ≤ 100000) :
   Con Challenge.rw_pe0099_01.row.prog w (hd.heap_39 w.params) p loose mean mg mb 66 1 8 [.str x t] news (fun v more => more = [] ∧ ∃ z t', v = .str z t' ∧ IsEsc (nm 3) x z) := by
  k_fill
  unfold Con
  intros
  rename_i hret
  have hE := isEsc_nil x
  refine wpAny_call ?_
  k_dflt cell_enter
  refine wpAny_execs_cons (wpAny_Try_except ?_)
  walk_at "esc step"
  walk_at "esc step"
  walk_at "esc step"
  walk_at "esc step"
  k_steps
  rename IsEsc _ _ _ => hE9
  exact hret _ [] _ _ ⟨rfl, _, _, rfl, hE9⟩ (by k_asm) (by k_asm)
set_option maxRecDepth 100000 in
set_option maxHeartbeats 4000000 in
theorem esc4_c {w p loose mean mg mb news} (x : Str) (t : Tok) (hx : x.length ≤ 100000) :
   Con Challenge.rw_pe0099_01.row.prog w (hd.heap_39 w.params) p loose mean mg mb 73 1 8 [.str x t] news (fun v more => more = [] ∧ ∃ z t', v = .str z t' ∧ IsEsc (nm 4) x z) := by
  k_fill
  unfold Con
  intros
  rename_i hret
  have hE := isEsc_nil x
  refine wpAny_call ?_
  k_dflt cell_enter
  refine wpAny_execs_cons (wpAny_Try_except ?_)
  walk_at "esc step"
  walk_at "esc step"
  walk_at "esc step"
  walk_at "esc step"
  walk_at "esc step"
  walk_at "esc step"
  k_steps
  rename IsEsc _ _ _ => hE9
  exact hret _ [] _ _ ⟨rfl, _, _, rfl, hE9⟩ (by k_asm) (by k_asm)
end Mine
end

theorem Mine.fresh_Q1 : True := by (w_top off; first | (walk1; done) | trivial)
section
open PySem PySem.W PyProof.Rows
set_option Elab.async false
namespace Mine

set_option maxRecDepth 100000 in
theorem pat1 {P : Params} {h : Heap} (X : (hd.heap_39 P).In h) : PatAt h 78 77 code1 := by
  refine ⟨⟨_, _, _, _, _, X 78 _ rfl⟩, ⟨_, _, X 77 _ rfl, by decide +kernel⟩⟩
set_option maxRecDepth 100000 in
theorem pat2 {P : Params} {h : Heap} (X : (hd.heap_39 P).In h) : PatAt h 83 82 code2 := by
  refine ⟨⟨_, _, _, _, _, X 83 _ rfl⟩, ⟨_, _, X 82 _ rfl, by decide +kernel⟩⟩

theorem crlf_len (x : List Nat) : ∀ pr, (crlfA pr x).length ≤ 2 * x.length := by
  induction x with
  | nil => intro pr; exact Nat.le_refl _
  | cons c r ih =>
    intro pr
    rw [crlfA]
    have h1 := ih false
    have h2 := ih true
    split
    · split <;> simp <;> omega
    · split <;> simp <;> omega
theorem dotq_len (x : List Nat) : ∀ b, (dotq b x).length ≤ 2 * x.length := by
  induction x with
  | nil => intro pr; exact Nat.le_refl _
  | cons c r ih =>
    intro b
    rw [dotq]
    have h1 := ih (c == 10)
    split <;> simp <;> omega

section
variable {prog : Program} {w : World} {A : Around} {E : Value → Shared → Prop} {s : Shared} {h₀ : Heap} {L : Addr} {m : Str → Option Value} {news : List (Addr × Obj)} {Q : Value → Shared → Prop} {P : Params}
theorem call_sub2 {x r : Str} {t tr : Tok} (X : (hd.heap_39 P).In h₀) (F : Fr h₀ L s.heap m) (N : News h₀ L s.heap news) (hr : r.cps = #[13, 10]) (hx : x.length ≤ 100000)
    (h : ∀ h' tk t' z, Fr h₀ L h' m → News h₀ L h' news → z.cps.toList = crlfA false x.cps.toList → z.length ≤ 200000 → Q (.str z t') { s with heap := h', toks := tk }) :
    wpAny (model prog w) A (call (.builtin "re.Pattern.sub") [.ref 83, .str r tr, .str x t]) Q E s := by
  refine call_sub (pat2 X) F N (by rw [hr]; exact finds2 x.cps (by have : x.length = x.cps.size := rfl; omega)) (by show r.cps.size = 2; rw [hr]; rfl) (by rw [hr]; decide +kernel) (by omega) fun h' tk t' z F' N' hz => h h' tk t' z F' N' (by simpa using hz) ?_
  have := crlf_len x.cps.toList false
  rw [List.drop_zero] at hz
  rw [← hz] at this
  simp [Str.length] at this hx ⊢; omega
theorem call_sub1 {x r : Str} {t tr : Tok} (X : (hd.heap_39 P).In h₀) (F : Fr h₀ L s.heap m) (N : News h₀ L s.heap news) (hr : r.cps = #[46, 46]) (hx : x.length ≤ 200000)
    (h : ∀ h' tk t' z, Fr h₀ L h' m → News h₀ L h' news → z.cps.toList = dotq true x.cps.toList → Q (.str z t') { s with heap := h', toks := tk }) :
    wpAny (model prog w) A (call (.builtin "re.Pattern.sub") [.ref 78, .str r tr, .str x t]) Q E s := by
  refine call_sub (pat1 X) F N (by rw [hr]; exact finds1 x.cps (by have : x.length = x.cps.size := rfl; omega)) (by show r.cps.size = 2; rw [hr]; rfl) (by rw [hr]; decide +kernel) (by omega) fun h' tk t' z F' N' hz => h h' tk t' z F' N' (by simpa [bolAt] using hz)
end

local macro_rules | `(tactic| walk_at "getMethod ref") => `(tactic| (k_here; k_dflt (first | refine' method_sub (pat1 ?X) ?_; (case X => k_in); k_whole | refine' method_sub (pat2 ?X) ?_; (case X => k_in); k_whole)))
local macro_rules | `(tactic| walk_at "call builtin:re.Pattern.sub") => `(tactic| (k_here; k_dflt (first
  | (refine' call_sub2 ?X ?F ?N ?r ?x ?_; (case X => k_asm); (case F => k_asm); (case N => k_asm); (case r => rfl); (case x => assumption); k_whole; intro h8 tk8 t8 z8 F8 N8 hz8 hl8; (try dsimp only); try k_sweep)
  | (refine' call_sub1 ?X ?F ?N ?r ?x ?_; (case X => k_asm); (case F => k_asm); (case N => k_asm); (case r => rfl); (case x => assumption); k_whole; intro h9 tk9 t9 z9 F9 N9 hz9; (try dsimp only); try k_sweep))))

set_option maxRecDepth 100000 in
set_option maxHeartbeats 4000000 in
theorem quote_c {w p loose mean mg mb news} (x : Str) (t : Tok) (hx : x.length ≤ 100000) :
   Con Challenge.rw_pe0099_01.row.prog w (hd.heap_39 w.params) p loose mean mg mb 90 1 8 [.str x t] news (fun v more => more = [] ∧ ∃ z t', v = .str z t' ∧ z.cps.toList = quoteL x.cps.toList) := by
  k_fill
  unfold Con
  intros
  rename_i hret
  refine wpAny_call ?_
  k_dflt cell_enter
  k_steps
  rename (_ = crlfA _ _) => h8
  rename (_ = dotq _ _) => h9
  exact hret _ [] _ _ ⟨rfl, _, _, rfl, by rw [h9, h8]; rfl⟩ (by k_asm) (by k_asm)
end Mine
end

theorem Mine.fresh_W3 : True := by (w_top off; first | (walk1; done) | trivial)
section
open PySem PySem.W PyProof.Rows
set_option Elab.async false
namespace Mine

theorem Con.use {prog : Program} {w : World} {K : Frag} {p : Program} {loose : List Str} {mean : ExcName → Option Value} {mg mb : Str → Option Value} {f : Addr} {d u : Nat} {vs : List Value} {news : List (Addr × Obj)} {Ret : Value → List (Addr × Obj) → Prop}
    {dp un : Nat} {gd : Option (List Code)} {cn : Str} {cs : Scope} {a : Addr} {ccd : Value} {cl : List (Str × Addr)} {outer : List Env} {A₀ : Around} {base h₀ : Heap} {L : Addr} {m : Str → Option Value} {s : Shared} {Q E : Value → Shared → Prop}
    (C : Con prog w K p loose mean mg mb f d u vs news Ret) (B : Below A₀ base outer h₀) (F : Fr h₀ L s.heap m) (X : K.In h₀) (N : News h₀ L s.heap news) (T : Top p loose mean mg mb h₀) (hk : cs.kind = .function) (hd : dp + d < recursionLimit) (hu : un + u < cLine)
    (h : ∀ v more h' tk', Ret v more → Fr h₀ L h' m → News h₀ L h' (more ++ news) → Q v { s with heap := h', toks := tk' }) :
    wpAny (model prog w) (ktrTop dp un gd cn cs L a ccd cl outer) (call (.ref f) vs) Q E s := C _ _ _ _ _ _ _ _ _ _ _ _ _ _ _ _ _ B F X N T hk hd hu h

local macro_rules | `(tactic| walk_at "call ref") => `(tactic| (k_here; k_dflt (
  refine' Con.use ?C ?B ?F ?X ?N ?T ?hk ?d ?u ?_;
  (case B => k_asm); (case F => k_asm); (case X => k_asm); (case N => k_asm); (case T => k_asm);
  (case C => first | exact esc0_c _ _ (by assumption) | exact esc1_c _ _ (by assumption) | exact esc2_c _ _ (by assumption) | exact esc3_c _ _ (by assumption) | exact esc4_c _ _ (by assumption)); (case hk => first | exact rfl | assumption); (case d => ktr_room); (case u => ktr_units); k_whole;
  intro v8 more8 h8 tk8 hr8 F8 N8; obtain ⟨hm8, z8, t8, hv8, hz8⟩ := hr8; subst hm8; subst hv8; rw [List.nil_append] at N8; (try dsimp only); (try k_sweep); try k_fold)))

set_option maxRecDepth 100000 in
set_option maxHeartbeats 4000000 in
theorem write_c {w p loose mean mg mb news} (x : Str) (t te : Tok) (e : Int) (he : 0 ≤ e ∧ e < 5) (hx : x.length ≤ 100000) :
   Con Challenge.rw_pe0099_01.row.prog w (hd.heap_39 w.params) p loose mean mg mb 118 2 16 [.str x t, .int e te] news (fun v more => more = [] ∧ ∃ z t', v = .str z t' ∧ IsEsc (nm e.toNat) x z) := by
  k_fill
  have h1 : e = 0 ∨ e = 1 ∨ e = 2 ∨ e = 3 ∨ e = 4 := by omega
  clear he
  unfold Con
  intros
  rename_i hret
  rcases h1 with rfl | rfl | rfl | rfl | rfl
  all_goals
    refine wpAny_call ?_
    k_dflt cell_enter
    k_steps
    rename IsEsc _ _ _ => hE9
    exact hret _ [] _ _ ⟨rfl, _, _, rfl, hE9⟩ (by k_asm) (by k_asm)
end Mine
end

theorem Mine.fresh_G1 : True := by (w_top off; first | (walk1; done) | trivial)
section
open PySem PySem.W PyProof.Rows PySem.Calls
set_option Elab.async false
namespace Mine

/-- a def's contract, with what is asked of the heap -/
def ConH (prog : Program) (w : World) (K : Frag) (p : Program) (loose : List Str) (mean : ExcName → Option Value) (mg mb : Str → Option Value) (f : Addr) (d u : Nat) (vs : List Value) (pre : Heap → Prop) (Ret : Value → List (Addr × Obj) → Prop) : Prop :=
  ∀ (dp un : Nat) (gd : Option (List Code)) (cn : Str) (cs : Scope) (a : Addr) (ccd : Value) (cl : List (Str × Addr)) (outer : List Env) (A₀ : Around) (base h₀ : Heap) (L : Addr) (m : Str → Option Value) (news : List (Addr × Obj)) (s : Shared) (Q E : Value → Shared → Prop),
    Below A₀ base outer h₀ → Fr h₀ L s.heap m → K.In h₀ → News h₀ L s.heap news → Top p loose mean mg mb h₀ → cs.kind = .function → dp + d < recursionLimit → un + u < cLine → pre s.heap →
    (∀ v more h' tk', Ret v more → Fr h₀ L h' m → News h₀ L h' (more ++ news) → (∀ p ∈ more, ∀ q ∈ news, p.1 ≠ q.1) → Q v { s with heap := h', toks := tk' }) →
    wpAny (model prog w) (ktrTop dp un gd cn cs L a ccd cl outer) (call (.ref f) vs) Q E s

theorem ConH.use {prog : Program} {w : World} {K : Frag} {p : Program} {loose : List Str} {mean : ExcName → Option Value} {mg mb : Str → Option Value} {f : Addr} {d u : Nat} {vs : List Value} {news : List (Addr × Obj)} {pre : Heap → Prop} {Ret : Value → List (Addr × Obj) → Prop}
    {dp un : Nat} {gd : Option (List Code)} {cn : Str} {cs : Scope} {a : Addr} {ccd : Value} {cl : List (Str × Addr)} {outer : List Env} {A₀ : Around} {base h₀ : Heap} {L : Addr} {m : Str → Option Value} {s : Shared} {Q E : Value → Shared → Prop}
    (C : ConH prog w K p loose mean mg mb f d u vs pre Ret) (B : Below A₀ base outer h₀) (F : Fr h₀ L s.heap m) (X : K.In h₀) (N : News h₀ L s.heap news) (T : Top p loose mean mg mb h₀) (hk : cs.kind = .function) (hd : dp + d < recursionLimit) (hu : un + u < cLine) (hp : pre s.heap)
    (h : ∀ v more h' tk', Ret v more → Fr h₀ L h' m → News h₀ L h' (more ++ news) → (∀ p ∈ more, ∀ q ∈ news, p.1 ≠ q.1) → Q v { s with heap := h', toks := tk' }) :
    wpAny (model prog w) (ktrTop dp un gd cn cs L a ccd cl outer) (call (.ref f) vs) Q E s := C _ _ _ _ _ _ _ _ _ _ _ _ _ _ _ _ _ _ B F X N T hk hd hu hp h

def LeaveN (h₀ : Heap) (L : Addr) (m : Str → Option Value) (g : Heap) (news : List (Addr × Obj)) (R : Result → Shared → Prop) (v : Value) (s' : Shared) : Prop :=
  ∃ L' m' more, Fr g L' s'.heap m' ∧ News g L' s'.heap more ∧ (Fr h₀ L s'.heap m → News h₀ L s'.heap (more ++ news) → (∀ p ∈ more, ∀ q ∈ news, p.1 ≠ q.1) → R (.ok (.ret v)) s')
theorem leaveN_ {h₀ g : Heap} {L L' : Addr} {m m' : Str → Option Value} {news more : List (Addr × Obj)} {R : Result → Shared → Prop} {v : Value} {s' : Shared} (F' : Fr g L' s'.heap m') (N' : News g L' s'.heap more)
    (k : Fr h₀ L s'.heap m → News h₀ L s'.heap (more ++ news) → (∀ p ∈ more, ∀ q ∈ news, p.1 ≠ q.1) → R (.ok (.ret v)) s') : LeaveN h₀ L m g news R v s' := ⟨L', m', more, F', N', k⟩

section
variable {prog : Program} {w : World} {A₀ A : Around} {s : Shared} {base h₀ : Heap} {outer : List Env} {L : Addr} {m : Str → Option Value} {env : Env} {news : List (Addr × Obj)} {K : Frag} {p : Program} {loose : List Str} {mean : ExcName → Option Value} {mg mb : Str → Option Value}
  {R : Result → Shared → Prop} {name qual : Str} {params : Arguments} {body : List Stmt} {scope : Scope} {dV kV doc pm cdv ct oc : Value} {an od : Option Addr} {osl : Array (Option Value)} {f : Addr} {args : Args}
theorem code_defN (binds : List (Str × Value))
    (B : Below A₀ base outer h₀) (F : Fr h₀ L s.heap m) (X₀ : K.In h₀) (N : News h₀ L s.heap news) (T : Top p loose mean mg mb h₀) (hA : A.frames = some (env :: outer)) (hf : env.frame = some L) (hke : env.scope.kind = .function)
    (ho : K.lookup f = some ⟨oc, od, .func (fnOf name qual params body scope dV kV doc pm an cdv ct), osl⟩) (hcd : codeIn K cdv qual = true) (hroom : A.depth < recursionLimit)
    (hbind : bindArgs (fnOf name qual params body scope dV kV doc pm an cdv ct) args = pure binds) (hloc : ∀ y ∈ binds, scope.names.lookup y.1 = some .local)
    (h : ∀ L' h₁, Fr s.heap L' h₁ (fun y => binds.reverse.lookup y) → News s.heap L' h₁ [] → Below A base (env :: outer) s.heap → K.In s.heap → Top p loose mean mg mb s.heap →
      wpAny (model prog w) (A.deeper (envOf qual scope L' f cdv)) (execs body (envOf qual scope L' f cdv))
        (fun fl s' => LeaveN h₀ L m s.heap news R (match fl with | .ret v => v | _ => .none) s')
        (fun e s' => wpAny (model prog w) (A.deeper (envOf qual scope L' f cdv)) (leaving (envOf qual scope L' f cdv) e) (fun _ s'' => R (.error e) s'') (fun e' s'' => R (.error e') s'') s')
        { s with heap := h₁, toks := s.toks + binds.length })
    (hco : scope.isCoroutine = false) (hgen : scope.isGenerator = false) (hk : scope.kind = .function)
    (hcell : ∀ x ∈ scope.names, x.2 ≠ .cell) : codeAny (model prog w) A (.call (.ref f) args) R s := by
  obtain ⟨_, BG, _, _⟩ := groundX (R := R) (news := []) B F News.nil hA hf hke
  refine codeAny_call_def (fd := fnOf name qual params body scope dV kV doc pm an cdv ct) (body := body) (binds := binds) hroom ((X₀.keeps F.keep) _ _ ho) rfl (T.nolimit.keeps F.keep) (codeRec_of (X₀.keeps F.keep) hcd) rfl (BindsTo.of_eq hbind) hcell hloc (fun h₁ hns hk₁ => ?_) hco hgen hk
  refine wpAny_mono (h s.heap.objs.size h₁ ⟨hns, hk₁, Nat.le_refl _⟩ News.nil BG (X₀.keeps F.keep) (T.keeps F.keep)) (fun fl s' hl => ?_) fun _ _ y => y
  obtain ⟨L', m', more, F', N', k⟩ := hl
  have hL : ∃ o, s.heap.get? L = some o := let ⟨o, _, _, ho, _⟩ := F.ns; ⟨o, ho⟩
  obtain ⟨oL, hL⟩ := hL
  refine k ⟨F.ns.keeps F'.keep, fun b o e => F'.keep b o (F.keep b o e), F.above⟩ (fun q hq => ?_) fun q hq r hr e => ?_
  · rcases List.mem_append.mp hq with hq | hq
    · refine ⟨(N' q hq).1, fun e => ?_, ?_⟩
      · have := (N' q hq).2.2; rw [e, hL] at this; cases this
      · cases hh : h₀.get? q.1 with
        | none => rfl
        | some o => have := (N' q hq).2.2; rw [F.keep _ _ hh] at this; cases this
    · exact ⟨F'.keep _ _ (N q hq).1, (N q hq).2⟩
  · have := (N' q hq).2.2; rw [e, (N r hr).1] at this; cases this
end

/-- the old contracts as new ones -/
theorem Con.toH {prog : Program} {w : World} {K : Frag} {p : Program} {loose : List Str} {mean : ExcName → Option Value} {mg mb : Str → Option Value} {f : Addr} {d u : Nat} {vs : List Value} {R : Value → Prop}
    (C : ∀ news, Con prog w K p loose mean mg mb f d u vs news (fun v more => more = [] ∧ R v)) : ConH prog w K p loose mean mg mb f d u vs (fun _ => True) (fun v more => more = [] ∧ R v) := by
  unfold ConH
  intro dp un gd cn cs a ccd cl outer A₀ base h₀ L m news s Q E B F X N T hk hd hu _ h
  refine (C news).use B F X N T hk hd hu fun v more h' tk' hr F' N' => h v more h' tk' hr F' N' ?_
  rw [hr.1]; intro p hp; cases hp
end Mine
end

theorem Mine.fresh_A1 : True := by (w_top off; first | (walk1; done) | trivial)
section
open PySem PySem.W PyProof.Rows PySem.Calls
set_option Elab.async false
namespace Mine

theorem nm_short (e : Nat) : shortTab (nm e) = true := by
  match e with
  | 0 => rfl
  | 1 => rfl
  | 2 => rfl
  | 3 => rfl
  | e + 4 => rfl
theorem esc_len {e : Nat} {x z : Str} (h : IsEsc (nm e) x z) : z.length ≤ 6 * x.length := by
  have h1 := escL_short (nm_short e) x.cps.toList
  rw [← show z.cps.toList = _ from h] at h1
  simpa [Str.length] using h1
theorem quote_len {x z : Str} (h : z.cps.toList = quoteL x.cps.toList) : z.length ≤ 4 * x.length := by
  have h1 := dotq_len (crlfA false x.cps.toList) true
  have h2 := crlf_len x.cps.toList false
  have h3 := congrArg List.length h
  unfold quoteL at h3
  simp [Str.length] at h1 h2 h3 ⊢
  omega

def IsT (Y : List Nat) (z : Str) : Prop := z.cps.toList = Y
theorem isT_esc {ns : Tab} {Y : List Nat} {x z : Str} (h : IsT Y x) (hz : IsEsc ns x z) : IsT (escL ns Y) z := by rw [← show _ = Y from h]; exact hz
theorem isT_quote {Y : List Nat} {x z : Str} (h : IsT Y x) (hz : z.cps.toList = quoteL x.cps.toList) : IsT (quoteL Y) z := by rw [← show _ = Y from h]; exact hz

local macro_rules | `(tactic| walk_at "call ref") => `(tactic| (k_here; k_dflt (first
  | (refine' Con.use ?C ?B ?F ?X ?N ?T ?hk ?d ?u ?_; (case B => k_asm); (case F => k_asm); (case X => k_asm); (case N => k_asm); (case T => k_asm); (case C => exact write_c _ _ _ _ (by assumption) (by omega)); (case hk => first | exact rfl | assumption); (case d => ktr_room); (case u => ktr_units); k_whole; intro v8 more8 h8 tk8 hr8 F8 N8; obtain ⟨hm8, z8, t8, hv8, hz8⟩ := hr8; subst hm8; subst hv8; rw [List.nil_append] at N8; (have hl8 := esc_len hz8); (have hT8 := isT_esc (by assumption) hz8); (try dsimp only); (try k_sweep); (try k_fold))
  | (refine' Con.use ?C ?B ?F ?X ?N ?T ?hk ?d ?u ?_; (case B => k_asm); (case F => k_asm); (case X => k_asm); (case N => k_asm); (case T => k_asm); (case C => exact quote_c _ _ (by omega)); (case hk => first | exact rfl | assumption); (case d => ktr_room); (case u => ktr_units); k_whole; intro v8 more8 h8 tk8 hr8 F8 N8; obtain ⟨hm8, z8, t8, hv8, hz8⟩ := hr8; subst hm8; subst hv8; rw [List.nil_append] at N8; (have hl8 := quote_len hz8); (have hT8 := isT_quote (by assumption) hz8); (try dsimp only); (try k_sweep); (try k_fold)))))

local macro_rules | `(tactic| walk_at "enter") => `(tactic| (
  (case kA => exact rfl); (case kF => exact rfl); (case kK => assumption); (case k1 => k_asm); (case k2 => k_asm); (case k3 => k_asm); (case k4 => k_asm); (case k5 => k_asm); (case k6 => k_is); (case k7 => k_is); (case k8 => ktr_room); (case k9 => exact rfl); (case c5 => decide); (case kB => exact locs rfl); (case c2 => exact rfl); (case c3 => exact rfl); (case c4 => exact rfl); k_whole; intro L' h' F' N' B' X' T'; (try dsimp only); (try k_fold)))

set_option maxRecDepth 100000 in
set_option maxHeartbeats 4000000 in
theorem arrive_c {w p loose mean mg mb} (x : Str) (t te to tt : Tok) (e order times : Int) (he : 0 ≤ e ∧ e < 5) (ho : 0 ≤ order ∧ order < 2) (ht : 1 ≤ times ∧ times < 4) (hx : x.length ≤ 1000) :
   ConH Challenge.rw_pe0099_01.row.prog w (hd.heap_39 w.params) p loose mean mg mb 125 3 24 [.str x t, .int e te, .int order to, .int times tt] (fun _ => True) (fun v more => more = [] ∧ ∃ z t', v = .str z t' ∧ z.cps.toList = arriveL (nm e.toNat) order.toNat times.toNat x.cps.toList) := by
  k_fill
  have h1 : order = 0 ∨ order = 1 := by omega
  have h2 : times = 1 ∨ times = 2 ∨ times = 3 := by omega
  clear ho ht
  unfold ConH
  intros
  rename_i hret
  have hT0 : IsT x.cps.toList x := rfl
  rcases h1 with rfl | rfl <;> rcases h2 with rfl | rfl | rfl
  · refine wpAny_call ?_
    k_dflt (refine' code_defN [(Str.ofString "text", .str x t), (Str.ofString "e", .int e te), (Str.ofString "order", .int 0 to), (Str.ofString "times", .int 1 tt)] ?k1 ?k2 ?k3 ?k4 ?k5 ?kA ?kF ?kK ?k6 ?k7 ?k8 ?k9 ?kB ?_ ?c2 ?c3 ?c4 ?c5; walk_at "enter")
    k_steps
    rename IsT _ _ => hT9
    exact leaveN_ (more := []) (by k_asm) News.nil fun F9 N9 D9 => hret _ [] _ _ ⟨rfl, _, _, rfl, hT9⟩ F9 N9 D9
  · refine wpAny_call ?_
    k_dflt (refine' code_defN [(Str.ofString "text", .str x t), (Str.ofString "e", .int e te), (Str.ofString "order", .int 0 to), (Str.ofString "times", .int 2 tt)] ?k1 ?k2 ?k3 ?k4 ?k5 ?kA ?kF ?kK ?k6 ?k7 ?k8 ?k9 ?kB ?_ ?c2 ?c3 ?c4 ?c5; walk_at "enter")
    k_steps
    rename IsT _ _ => hT9
    exact leaveN_ (more := []) (by k_asm) News.nil fun F9 N9 D9 => hret _ [] _ _ ⟨rfl, _, _, rfl, hT9⟩ F9 N9 D9
  · refine wpAny_call ?_
    k_dflt (refine' code_defN [(Str.ofString "text", .str x t), (Str.ofString "e", .int e te), (Str.ofString "order", .int 0 to), (Str.ofString "times", .int 3 tt)] ?k1 ?k2 ?k3 ?k4 ?k5 ?kA ?kF ?kK ?k6 ?k7 ?k8 ?k9 ?kB ?_ ?c2 ?c3 ?c4 ?c5; walk_at "enter")
    k_steps
    rename IsT _ _ => hT9
    exact leaveN_ (more := []) (by k_asm) News.nil fun F9 N9 D9 => hret _ [] _ _ ⟨rfl, _, _, rfl, hT9⟩ F9 N9 D9
  · refine wpAny_call ?_
    k_dflt (refine' code_defN [(Str.ofString "text", .str x t), (Str.ofString "e", .int e te), (Str.ofString "order", .int 1 to), (Str.ofString "times", .int 1 tt)] ?k1 ?k2 ?k3 ?k4 ?k5 ?kA ?kF ?kK ?k6 ?k7 ?k8 ?k9 ?kB ?_ ?c2 ?c3 ?c4 ?c5; walk_at "enter")
    k_steps
    rename IsT _ _ => hT9
    exact leaveN_ (more := []) (by k_asm) News.nil fun F9 N9 D9 => hret _ [] _ _ ⟨rfl, _, _, rfl, hT9⟩ F9 N9 D9
  · refine wpAny_call ?_
    k_dflt (refine' code_defN [(Str.ofString "text", .str x t), (Str.ofString "e", .int e te), (Str.ofString "order", .int 1 to), (Str.ofString "times", .int 2 tt)] ?k1 ?k2 ?k3 ?k4 ?k5 ?kA ?kF ?kK ?k6 ?k7 ?k8 ?k9 ?kB ?_ ?c2 ?c3 ?c4 ?c5; walk_at "enter")
    k_steps
    rename IsT _ _ => hT9
    exact leaveN_ (more := []) (by k_asm) News.nil fun F9 N9 D9 => hret _ [] _ _ ⟨rfl, _, _, rfl, hT9⟩ F9 N9 D9
  · refine wpAny_call ?_
    k_dflt (refine' code_defN [(Str.ofString "text", .str x t), (Str.ofString "e", .int e te), (Str.ofString "order", .int 1 to), (Str.ofString "times", .int 3 tt)] ?k1 ?k2 ?k3 ?k4 ?k5 ?kA ?kF ?kK ?k6 ?k7 ?k8 ?k9 ?kB ?_ ?c2 ?c3 ?c4 ?c5; walk_at "enter")
    k_steps
    rename IsT _ _ => hT9
    exact leaveN_ (more := []) (by k_asm) News.nil fun F9 N9 D9 => hret _ [] _ _ ⟨rfl, _, _, rfl, hT9⟩ F9 N9 D9
end Mine
end

theorem Mine.fresh_N1 : True := by (w_top off; first | (walk1; done) | trivial)
section
open PySem PySem.W PyProof.Rows PySem.Calls PyProof.V
set_option Elab.async false
namespace Mine

local macro_rules | `(tactic| walk_at "enter") => `(tactic| (
  (case kA => exact rfl); (case kF => exact rfl); (case kK => assumption); (case k1 => k_asm); (case k2 => k_asm); (case k3 => k_asm); (case k4 => k_asm); (case k5 => k_asm); (case k6 => k_is); (case k7 => k_is); (case k8 => ktr_room); (case k9 => exact rfl); (case c5 => decide); (case kB => exact locs rfl); (case c2 => exact rfl); (case c3 => exact rfl); (case c4 => exact rfl); k_whole; intro L' h' F' N' B' X' T'; (try dsimp only); (try k_fold)))

def nmD (e : Nat) : List (PyData × PyData) := (nm e).map fun p => (PyData.str ⟨#[p.1]⟩, PyData.str ⟨p.2.toArray⟩)
def IsNames (prog : Program) (w : World) (e : Nat) (v : Value) (more : List (Addr × Obj)) : Prop :=
  ∃ d o kvs, v = .ref d ∧ more = [(d, o)] ∧ (d == sysModules) = false ∧ o.IsDictOf (PySem.strKind prog w) kvs ∧ FlatPairs PyData.str kvs (nmD e)

theorem news_one {h₀ h : Heap} {L : Addr} {l : List (Addr × Obj)} {q : Addr × Obj} (N : News h₀ L h l) (hm : q ∈ l) : News h₀ L h [q] := fun r hr => by rw [List.mem_singleton.mp hr]; exact N q hm
theorem leaveN_ref {h₀ g : Heap} {L L' d : Addr} {o : Obj} {m m' : Str → Option Value} {news l : List (Addr × Obj)} {R : Result → Shared → Prop} {s' : Shared} (F' : Fr g L' s'.heap m') (N' : News g L' s'.heap l) (hm : (d, o) ∈ l)
    (k : Fr h₀ L s'.heap m → News h₀ L s'.heap ([(d, o)] ++ news) → (∀ p ∈ [(d, o)], ∀ q ∈ news, p.1 ≠ q.1) → R (.ok (.ret (.ref d))) s') : LeaveN h₀ L m g news R (.ref d) s' := leaveN_ F' (news_one N' hm) k
theorem flat_of {kvs : List (Str × Value)} {D D' : List (PyData × PyData)} (h : FlatPairs PyData.str kvs D) (e : D = D') : FlatPairs PyData.str kvs D' := e ▸ h

set_option maxRecDepth 100000 in
set_option maxHeartbeats 8000000 in
theorem names_c {w p loose mean mg mb} (te : Tok) (e : Int) (he : 0 ≤ e ∧ e < 5) :
   ConH Challenge.rw_pe0099_01.row.prog w (hd.heap_39 w.params) p loose mean mg mb 97 1 8 [.int e te] (fun _ => True) (IsNames Challenge.rw_pe0099_01.row.prog w e.toNat) := by
  k_fill
  obtain ⟨he1, he2⟩ := he
  unfold ConH
  intros
  rename_i hret
  refine wpAny_call ?_
  k_dflt (refine' code_defN [(Str.ofString "e", .int e te)] ?k1 ?k2 ?k3 ?k4 ?k5 ?kA ?kF ?kK ?k6 ?k7 ?k8 ?k9 ?kB ?_ ?c2 ?c3 ?c4 ?c5; walk_at "enter")
  k_steps
  all_goals
    rename (e = _) => hE9
    subst hE9
    refine leaveN_ref (by k_asm) (by k_asm) (by k_mem) ?_
    intro F9 N9 D9
    refine hret _ _ _ _ ?_ F9 N9 D9
    exact ⟨_, _, _, rfl, rfl, by assumption, by assumption, flat_of (by assumption) (by kernel_rfl)⟩
end Mine
end

theorem Mine.fresh_D1 : True := by (w_top off; first | (walk1; done) | trivial)
section
open PySem PySem.W PyProof.Rows PySem.Calls PyProof.V
set_option Elab.async false
namespace Mine

local macro_rules | `(tactic| walk_at "enter") => `(tactic| (
  (case kA => exact rfl); (case kF => exact rfl); (case kK => assumption); (case k1 => k_asm); (case k2 => k_asm); (case k3 => k_asm); (case k4 => k_asm); (case k5 => k_asm); (case k6 => k_is); (case k7 => k_is); (case k8 => ktr_room); (case k9 => exact rfl); (case c5 => decide); (case kB => exact locs rfl); (case c2 => exact rfl); (case c3 => exact rfl); (case c4 => exact rfl); k_whole; intro L' h' F' N' B' X' T'; (try dsimp only); (try k_fold)))

set_option maxRecDepth 100000 in
set_option maxHeartbeats 8000000 in
theorem due_c {w p loose mean mg mb} (te to : Tok) (e order : Int) (he : 0 ≤ e ∧ e < 5) (ho : 0 ≤ order ∧ order < 2) :
   ConH Challenge.rw_pe0099_01.row.prog w (hd.heap_39 w.params) p loose mean mg mb 104 1 8 [.int e te, .int order to] (fun _ => True) (fun v more => more = [] ∧ ∃ z t', v = .str z t' ∧ z = ⟨(dueL e.toNat order.toNat).toArray⟩) := by
  k_fill
  obtain ⟨he1, he2⟩ := he
  unfold ConH
  intros
  rename_i hret
  have h1 : order = 0 ∨ order = 1 := by omega
  clear ho
  rcases h1 with rfl | rfl
  · refine wpAny_call ?_
    k_dflt (refine' code_defN [(Str.ofString "e", .int e te), (Str.ofString "order", .int 0 to)] ?k1 ?k2 ?k3 ?k4 ?k5 ?kA ?kF ?kK ?k6 ?k7 ?k8 ?k9 ?kB ?_ ?c2 ?c3 ?c4 ?c5; walk_at "enter")
    k_steps
    all_goals
      rename (e = _) => hE9
      subst hE9
      exact leaveN_ (more := []) (by k_asm) News.nil fun F9 N9 D9 => hret _ [] _ _ ⟨rfl, _, _, rfl, by kernel_rfl⟩ F9 N9 D9
  · refine wpAny_call ?_
    k_dflt (refine' code_defN [(Str.ofString "e", .int e te), (Str.ofString "order", .int 1 to)] ?k1 ?k2 ?k3 ?k4 ?k5 ?kA ?kF ?kK ?k6 ?k7 ?k8 ?k9 ?kB ?_ ?c2 ?c3 ?c4 ?c5; walk_at "enter")
    k_steps
    all_goals
      rename (e = _) => hE9
      subst hE9
      exact leaveN_ (more := []) (by k_asm) News.nil fun F9 N9 D9 => hret _ [] _ _ ⟨rfl, _, _, rfl, by kernel_rfl⟩ F9 N9 D9
end Mine
end

theorem Mine.fresh_R1 : True := by (w_top off; first | (walk1; done) | trivial)
section
open PySem PySem.W PyProof.Rows PySem.Calls PyProof.V
set_option Elab.async false
namespace Mine

theorem str_one_inj {a b : Nat} (h : (⟨#[a]⟩ : Str) = ⟨#[b]⟩) : a = b := by
  have := congrArg (fun s : Str => s.cps.toList) h
  simpa using this
theorem tab_lookup (c : Nat) : ∀ ns : Tab, Spec.lookup (.str ⟨#[c]⟩) (ns.map fun p => (PyData.str ⟨#[p.1]⟩, PyData.str ⟨p.2.toArray⟩)) = (ns.lookup c).map fun n => PyData.str ⟨n.toArray⟩
  | [] => rfl
  | p :: r => by
    rw [List.map_cons, Spec.lookup, List.lookup_cons, same_str]
    by_cases h : p.1 = c
    · subst h
      have h1 : (p.1 == p.1) = true := by simp
      have h2 : decide ((⟨#[p.1]⟩ : Str) = ⟨#[p.1]⟩) = true := by simp
      rw [h1, h2]; rfl
    · have h1 : (c == p.1) = false := by simpa using fun e => h (Eq.symm e)
      have h2 : decide ((⟨#[p.1]⟩ : Str) = ⟨#[c]⟩) = false := decide_eq_false fun e => h (str_one_inj e)
      rw [h1, h2]
      exact tab_lookup c r
theorem nmD_lookup (e c : Nat) : Spec.lookup (.str ⟨#[c]⟩) (nmD e) = ((nm e).lookup c).map fun n => PyData.str ⟨n.toArray⟩ := tab_lookup c (nm e)

theorem lookup_val {k d : PyData} : ∀ {D : List (PyData × PyData)}, Spec.lookup k D = some d → ∃ p ∈ D, p.2 = d
  | [], h => by cases h
  | p :: r, h => by
    rw [Spec.lookup] at h
    split at h
    · cases h; exact ⟨p, .head _, rfl⟩
    · obtain ⟨q, hq, e⟩ := lookup_val h
      exact ⟨q, .tail _ hq, e⟩
theorem nmD_val {e : Nat} {k d : PyData} (h : Spec.lookup k (nmD e) = some d) : ∃ y : Str, d = .str y ∧ y.length ≤ 5 := by
  obtain ⟨p, hp, rfl⟩ := lookup_val h
  obtain ⟨q, hq, rfl⟩ := List.mem_map.mp hp
  have := List.all_eq_true.mp (nm_short e) q hq
  exact ⟨_, rfl, by simpa [Str.length] using this⟩
theorem nmD_len (e : Nat) : 3 ≤ (nmD e).length ∧ (nmD e).length ≤ 7 := by
  match e with
  | 0 => decide
  | 1 => decide
  | 2 => decide
  | 3 => decide
  | e + 4 => exact ⟨Nat.le_of_ble_eq_true rfl, Nat.le_of_ble_eq_true rfl⟩
theorem due_len (e o : Nat) : (dueL e o).length ≤ 10 := by
  unfold dueL
  split
  · split <;> decide
  · split <;> decide

section
variable {prog : Program} {w : World} {A : Around} {E : Value → Shared → Prop} {s : Shared} {h₀ : Heap} {L : Addr} {m : Str → Option Value} {news : List (Addr × Obj)} {Q : Value → Shared → Prop}

/-- list(names) -/
theorem names_list {d : Addr} {o : Obj} {kvs : List (Str × Value)} (hh : A.handled = none) (F : Fr h₀ L s.heap m) (N : News h₀ L s.heap news) (hm : (d, o) ∈ news) (lo : (d == sysModules) = false) (hd : o.IsDictOf (PySem.strKind prog w) kvs) (hn : kvs.length ≤ 100)
    (h : ∀ (D : Addr) c h' tk (vs : List Value), Fr h₀ L h' m → News h₀ L h' ((D, listOf vs.toArray c) :: news) → (∀ q ∈ news, q.1 < D) → vs.length = kvs.length → (∀ (j : Nat) v, vs[j]? = some v → ∃ k x, kvs[j]? = some (k, x) ∧ (PySem.strKind prog w).is k v = true) → Q (.ref D) { s with heap := h', toks := tk }) :
    wpAny (model prog w) A (call (.type "list") [.ref d]) Q E s := by
  have hdo : s.heap.DictOf (PySem.strKind prog w) d kvs := Heap.dictOf_iff.mpr ⟨o, (N _ hm).1, hd⟩
  obtain ⟨ep, hda⟩ := hdo.dictAt
  refine kdl_N (kdl_dict (ep := ep) lo) hh F N hda ?_ h
  have hz : sizeLine = 16777216 := by decide
  omega
/-- an item of that list -/
theorem names_item {value slice : PySem.Expr} {D : Addr} {c : Nat} {vs : List Value} {kvs : List (Str × Value)} {i : Int} {u : Tok} (N : News h₀ L s.heap news) (hm : (D, listOf vs.toArray c) ∈ news) (hl : vs.length = kvs.length) (hn : kvs.length ≤ 100)
    (hP : ∀ (j : Nat) v, vs[j]? = some v → ∃ k x, kvs[j]? = some (k, x) ∧ (PySem.strKind prog w).is k v = true) (h0 : 0 ≤ i) (hi : i < kvs.length)
    (hs : subscripted slice false (.ref D) (.int i u) = operate [.ref D, .int i u] (getItem (.ref D) (.int i u)))
    (h : ∀ k t x, kvs[i.toNat]? = some (k, x) → Q (.str k t) s) : wpAny (model prog w) A (subscriptTail value slice (.ref D) (.int i u)) Q E s := by
  have hL : s.heap.IsList D vs.toArray := ⟨_, (N _ hm).1, rfl, c, rfl⟩
  have hlt : i.toNat < vs.length := by omega
  obtain ⟨k, x, hk, hv⟩ := hP i.toNat vs[i.toNat] (by simp [hlt])
  obtain ⟨t, ht⟩ := Value.isStrOf_shape hv
  refine tail_any hL.typeIs slot_list_getitem.lookup (wpAny_getItem_list hL h0 (by omega) (x := .str k t) ?_ (h k t x hk)) hs
  rw [← ht]; simp [hlt]
/-- names[key] -/
theorem names_at {value slice : PySem.Expr} {d : Addr} {o : Obj} {kvs : List (Str × Value)} {e i : Nat} {k : Str} {x : Value} {t : Tok} (N : News h₀ L s.heap news) (hm : (d, o) ∈ news) (lo : (d == sysModules) = false) (hd : o.IsDictOf (PySem.strKind prog w) kvs) (hf : FlatPairs PyData.str kvs (nmD e)) (hx : kvs[i]? = some (k, x))
    (hs : subscripted slice false (.ref d) (.str k t) = operate [.ref d, .str k t] (getItem (.ref d) (.str k t))) (hg : ∀ r, letTemporaryGo value (.ref d) r = pure ())
    (h : ∀ y t', y.length ≤ 5 → Q (.str y t') { s with toks := s.toks + 1 }) : wpAny (model prog w) A (subscriptTail value slice (.ref d) (.str k t)) Q E s := by
  have hdo : s.heap.DictOf (PySem.strKind prog w) d kvs := Heap.dictOf_iff.mpr ⟨o, (N _ hm).1, hd⟩
  obtain ⟨_, _, _, _, _, _, hnd⟩ := hd
  obtain ⟨dv, hl, _⟩ := hf.there same_str (valueAt_of_get hnd hx)
  obtain ⟨y, rfl, hy⟩ := nmD_val hl
  refine item_strTab ⟨lo, kvs, hdo, hf⟩ hl (fun v hv => ?_) hs hg
  cases hv {} with
  | str _ t' => exact h y t' hy
end
end Mine
end

theorem Mine.fresh_P1 : True := by (w_top off; first | (walk1; done) | trivial)
section
open PySem PySem.W PyProof.Rows PySem.Calls PyProof.V
set_option Elab.async false
namespace Mine

theorem due_len8 {z : Str} {e o : Nat} (h : z = ⟨(dueL e o).toArray⟩) : z.length ≤ 10 := by
  rw [h]; simpa [Str.length] using due_len e o
theorem fm_lo {a : Int} {n : Nat} (hn : 3 ≤ n) : 0 ≤ a.fmod n := Int.fmod_nonneg_of_pos _ (by omega)
theorem fm_hi {a : Int} {n k : Nat} (h : n = k) (hk : 3 ≤ k) : a.fmod n < k := by have := Int.fmod_lt_of_pos a (b := n) (by omega); omega
theorem flat_nm {kvs : List (Str × Value)} {e : Nat} (hf : FlatPairs PyData.str kvs (nmD e)) : 3 ≤ kvs.length ∧ kvs.length ≤ 7 ∧ (nmD e).length = kvs.length := by
  have h1 := nmD_len e
  have h2 := FlatPairs.length hf
  omega
local macro_rules | `(tactic| walk_at "enter") => `(tactic| (
  (case kA => exact rfl); (case kF => exact rfl); (case kK => assumption); (case k1 => k_asm); (case k2 => k_asm); (case k3 => k_asm); (case k4 => k_asm); (case k5 => k_asm); (case k6 => k_is); (case k7 => k_is); (case k8 => ktr_room); (case k9 => exact rfl); (case c5 => decide); (case kB => exact locs rfl); (case c2 => exact rfl); (case c3 => exact rfl); (case c4 => exact rfl); k_whole; intro L' h' F' N' B' X' T'; (try dsimp only); (try k_fold)))

local macro_rules | `(tactic| walk_at "call ref") => `(tactic| (k_here; k_dflt (first
  | (refine' ConH.use ?C ?B ?F ?X ?N ?T ?hk ?d ?u ?p ?_; (case B => k_asm); (case F => k_asm); (case X => k_asm); (case N => k_asm); (case T => k_asm); (case C => exact names_c _ _ (by assumption)); (case hk => first | exact rfl | assumption); (case d => ktr_room); (case u => ktr_units); (case p => exact True.intro); k_whole; intro v8 more8 h8 tk8 hr8 F8 N8 D8; obtain ⟨d8, o8, kvs8, hv8, hm8, lo8, hd8, hf8⟩ := hr8; subst hm8; subst hv8; rw [List.singleton_append] at N8; (have hn8 := flat_nm hf8); (try dsimp only); (try k_sweep); (try k_fold))
  | (refine' ConH.use ?C ?B ?F ?X ?N ?T ?hk ?d ?u ?p ?_; (case B => k_asm); (case F => k_asm); (case X => k_asm); (case N => k_asm); (case T => k_asm); (case C => exact due_c _ _ _ _ (by assumption) (by assumption)); (case hk => first | exact rfl | assumption); (case d => ktr_room); (case u => ktr_units); (case p => exact True.intro); k_whole; intro v8 more8 h8 tk8 hr8 F8 N8 D8; obtain ⟨hm8, z8, t8, hv8, hz8⟩ := hr8; subst hm8; subst hv8; rw [List.nil_append] at N8; (have hl8 := due_len8 hz8); (try dsimp only); (try k_sweep); (try k_fold)))))

section
variable {prog : Program} {w : World} {A : Around} {E : Value → Shared → Prop} {s : Shared} {Q : Value → Shared → Prop}
theorem add_le {x y : Str} {t u : Tok} (hx : x.length ≤ 1000000) (hy : y.length ≤ 1000000) (h : ∀ t' tk, Q (.str (x ++ y) t') { s with toks := tk }) : wpAny (model prog w) A (binaryOp .Add (.str x t) (.str y u)) Q E s :=
  PyProof.Rows.add_str h (by have hz : sizeLine = 16777216 := by decide
                             omega)
end
local macro_rules | `(tactic| walk_at "short") => `(tactic| first | omega | decide +kernel | exact Nat.le_trans (len_mul_leN (L := 1) (N := 4) (by decide +kernel) (by omega)) (by decide))
local macro_rules | `(tactic| walk_at "binaryOp Add str str") => `(tactic| (k_here; k_dflt (refine' add_le ?x ?y ?_; (case x => walk_at "short"); (case y => walk_at "short"); k_whole; intro t8 tk8)))
local macro_rules | `(tactic| walk_at "call type:list") => `(tactic| (k_here; k_dflt (refine' names_list ?h ?F ?N ?m ?lo ?d ?n ?_; (case h => rfl); (case F => k_asm); (case N => k_asm); (case m => k_mem); (case lo => assumption); (case d => assumption); (case n => omega); k_whole; intro D8 c8 h8 tk8 vs8 F8 N8 L8 hl8 hP8; (try dsimp only); try k_sweep)))
local macro_rules | `(tactic| walk_at "subscriptTail") => `(tactic| (k_here; (with_reducible show wpAny _ _ (subscriptTail _ _ (Value.ref _) (Value.int _ _)) _ _ _); k_dflt (refine' names_item ?N ?m ?l ?n ?P ?a ?b ?s ?_; (case N => k_asm); (case m => k_mem); (case P => assumption); (case l => assumption); (case n => omega); (case a => exact fm_lo (by omega)); (case b => exact fm_hi (by omega) (by omega)); (case s => with_unfolding_all rfl); k_whole; intro k8 t8 x8 hk8; (try dsimp only))))
local macro_rules | `(tactic| walk_at "subscriptTail") => `(tactic| (k_here; (with_reducible show wpAny _ _ (subscriptTail _ _ (Value.ref _) (Value.str _ _)) _ _ _); k_dflt (refine' names_at ?N ?m ?lo ?d ?f ?x ?s ?g ?_; (case N => k_asm); (case x => assumption); (case f => assumption); (case d => assumption); (case m => k_mem); (case lo => assumption); (case s => with_unfolding_all rfl); (case g => intro _; with_unfolding_all rfl); k_whole; intro y8 t8 hy8; (try dsimp only))))

theorem mul_dots {t : Int} (h : t + 1 ≤ 4) : (Txt.mul (Str.ofString ".") (t + 1)).length ≤ 4 := by
  have := len_mul_leN (x := Str.ofString ".") (n := t + 1) (L := 1) (N := 4) (by decide +kernel) h
  omega
theorem getD_len (l : List Str) (h : (l.all fun x => decide (x.length ≤ 20)) = true) (i : Nat) : (l.getD i Str.empty).length ≤ 20 := by
  rw [List.getD_eq_getElem?_getD]
  cases hi : l[i]? with
  | none => exact Nat.zero_le _
  | some x => simpa using List.all_eq_true.mp h x (List.mem_of_getElem? hi)

set_option maxRecDepth 100000 in
set_option maxHeartbeats 4000000 in
theorem piece_c {w p loose mean mg mb} (td te to tt : Tok) (d e order times : Int) (he : 0 ≤ e ∧ e < 5) (ho : 0 ≤ order ∧ order < 2) (ht : 1 ≤ times ∧ times < 4) :
   ConH Challenge.rw_pe0099_01.row.prog w (hd.heap_39 w.params) p loose mean mg mb 111 2 16 [.int d td, .int e te, .int order to, .int times tt] (fun _ => True) (fun v more => more = [] ∧ ∃ z t', v = .str z t' ∧ z.length ≤ 20) := by
  k_fill
  unfold ConH
  intros
  rename_i hret
  refine wpAny_call ?_
  k_dflt (refine' code_defN [(Str.ofString "d", .int d td), (Str.ofString "e", .int e te), (Str.ofString "order", .int order to), (Str.ofString "times", .int times tt)] ?k1 ?k2 ?k3 ?k4 ?k5 ?kA ?kF ?kK ?k6 ?k7 ?k8 ?k9 ?kB ?_ ?c2 ?c3 ?c4 ?c5; walk_at "enter")
  k_steps
  all_goals
    refine leaveN_ (more := []) (by k_asm) News.nil fun F9 N9 D9 => hret _ [] _ _ ⟨rfl, _, _, rfl, ?_⟩ F9 N9 D9
  · omega
  · rw [Str.length_append]
    have := mul_dots (t := times) (by omega)
    omega
  · rw [Str.length_append]
    have : (Str.ofString "&").length = 1 := by decide +kernel
    omega
  · exact Nat.le_of_ble_eq_true rfl
  · decide +kernel
  · have := mul_dots (t := times) (by omega)
    omega
  · exact getD_len _ (by decide +kernel) _
end Mine
end

theorem Mine.fresh_L1 : True := by (w_top off; first | (walk1; done) | trivial)
section
open PySem PySem.W PyProof.Rows PySem.Calls PyProof.V
set_option Elab.async false
namespace Mine

section
variable {prog : Program} {w : World} {A : Around} {E : Value → Shared → Prop} {s : Shared} {env : Env} {h₀ : Heap} {x : Str} {body : List Stmt} {Q : Flow → Shared → Prop}

theorem iter_names {d : Addr} {kvs : List (Str × Value)} {m₀ : Str → Option Value} {news : List (Addr × Obj)} (J : Nat → (Str → Option Value) → Prop)
    (hh : A.handled = none) (lo : (d == sysModules) = false) (hd : h₀.DictOf (PySem.strKind prog w) d kvs) (F : Fr h₀ env.locals s.heap m₀) (N : News h₀ env.locals s.heap news) (hj : J 0 m₀)
    (turn : ∀ (i : Nat) k v t m₁ h tk own, kvs[i]? = some (k, v) → J i m₁ → Fr h₀ env.locals h (fun y => if y = x then some (.str k t) else m₁ y) → News h₀ env.locals h (own ++ news) →
      wpAny (model prog w) A (execs body env) (InvPost h₀ env.locals (J (i + 1)) (own ++ news) { s with heap := h, toks := tk } Q) E { s with heap := h, toks := tk })
    (done : ∀ m₁ h tk, J kvs.length m₁ → Fr h₀ env.locals h m₁ → News h₀ env.locals h news → Q .next { s with heap := h, toks := tk }) :
    wpAny (model prog w) A (pyIter (.ref d)) (fun it s₂ => LoopAtV prog w A h₀ env x body Q E it s₂) E s := by
  obtain ⟨ep, hda₀⟩ := hd.dictAt
  have hda : s.heap.DictAt (PySem.strKind prog w) d kvs ep := hda₀.keep F.keep
  have hlt : d < h₀.objs.size := hda₀.lt_size
  have hne : d ≠ s.heap.objs.size := Nat.ne_of_lt hda.lt_size
  refine wpAny_pyIter_dict lo hda ?_
  have W := Walks.dictKeys (prog := prog) (w := w) (knd := PySem.strKind prog w) hh s.heap.objs.size d hne kvs ep
  let J' : Nat → (Str → Option Value) → List (Addr × Obj) → Prop := fun i m₁ news₁ => news₁ = news ∧ J i m₁
  refine ⟨_, _, _, kvs.length, _, _, m₀, news, J', rfl, W, ?_, ?_, ?_, ⟨⟨_, Heap.get?_push_size _ rfl, rfl, rfl⟩, hda.push _⟩, F.push _, (fun p hp => ⟨Heap.get?_push_of_some _ (N p hp).1, (N p hp).2⟩), ⟨rfl, hj⟩, ?_, ?_⟩
  · intro hm
    rcases List.mem_cons.mp hm with e | hm
    · exact absurd F.ns.lt (e ▸ Nat.lt_irrefl _)
    · exact absurd (Nat.lt_of_lt_of_le hlt F.above) ((List.mem_singleton.mp hm) ▸ Nat.lt_irrefl _)
  · intro b hb
    rw [List.mem_singleton.mp hb]
    exact next_is_new F
  · intro p hp hI
    exact absurd (Heap.lt_size (N p hp).1) ((List.mem_singleton.mp hI) ▸ Nat.lt_irrefl _)
  · rintro i v m₁ news₁ s₁ own ⟨hh', tk', rfl⟩ hin hP ⟨rfl, hJ⟩ hoff _ _ _ _ F₁ N₁
    obtain ⟨k, xv, hk, hv⟩ := hP
    obtain ⟨t, rfl⟩ := Value.isStrOf_shape hv
    refine wpAny_mono (turn i k xv t m₁ hh' tk' own hk hJ F₁ N₁) (fun f s₂ p => ?_) fun _ _ e => e
    have fin : InvEnd h₀ env.locals (J (i + 1)) (own ++ news₁) { s with heap := hh', toks := tk' } s₂ → LoopStepU h₀ env.locals [s.heap.objs.size] own (J' (i + 1)) { s with heap := hh', toks := tk' } .next s₂ := by
      rintro ⟨h', tk, m', news', e, F', N', hn, hm⟩
      exact ⟨rfl, h', tk, m', news₁, e, F', fun p hp => N' p (hn p hp), hoff, rfl, hm⟩
    cases f with
    | ret v => exact .ret p
    | brk => exact .brk p
    | next => exact .next (fin p)
    | cont => exact .cont (fin p)
  · rintro h' tk m' news' F' N' _ ⟨rfl, hJ⟩
    exact done m' h' tk hJ F' N'

end
end Mine
end

theorem Mine.fresh_Rd0 : True := by (w_top off; first | (walk1; done) | trivial)
section
namespace Mine
/-- reading does not ask for more fuel than the text is long -/
theorem readF_fuel (ns : Tab) : ∀ (f g : Nat) (x : List Nat), x.length ≤ f → x.length ≤ g → readF ns f x = readF ns g x
  | 0, 0, x, _, _ => rfl
  | 0, g + 1, x, h, _ => by
    have : x = [] := by simpa using h
    subst this; rfl
  | f + 1, 0, x, _, h => by
    have : x = [] := by simpa using h
    subst this; rfl
  | f + 1, g + 1, [], _, _ => rfl
  | f + 1, g + 1, c :: r, h1, h2 => by
    simp at h1 h2
    simp only [readF]
    rw [readF_fuel ns f g _ (by simp; omega) (by simp; omega)]
theorem readL_nil (ns : Tab) : readL ns [] = ([], true) := rfl
theorem readL_cons (ns : Tab) (c : Nat) (r : List Nat) : readL ns (c :: r) =
    ((tokL ns c r).1 :: (readL ns (r.drop ((tokL ns c r).2 - 1))).1, !(decide ((tokL ns c r).2 = 1) && (ns.lookup (tokL ns c r).1).isSome) && (readL ns (r.drop ((tokL ns c r).2 - 1))).2) := by
  unfold readL
  rw [List.length_cons]
  simp only [readF]
  rw [readF_fuel ns r.length _ (r.drop ((tokL ns c r).2 - 1)) (by simp) (Nat.le_refl _)]

/-- the loop over the names, step by step -/
def accN (r : List Nat) (l : Tab) : Option (Nat × Nat) := l.foldl (fun acc p => if p.2.isPrefixOf r then some (p.1, p.2.length) else acc) none
theorem accN_all (ns : Tab) (r : List Nat) : accN r ns = matchN ns r := rfl
theorem accN_succ {ns : Tab} {r : List Nat} {i : Nat} {p : Nat × List Nat} (h : ns[i]? = some p) : accN r (ns.take (i + 1)) = if p.2.isPrefixOf r then some (p.1, p.2.length) else accN r (ns.take i) := by
  unfold accN
  rw [List.take_add_one, h]
  simp
theorem tokL_amp (ns : Tab) (r : List Nat) : tokL ns 38 r = match matchN ns r with | some p => (p.1, 1 + p.2) | none => (38, 1) := by
  unfold tokL
  rw [if_pos rfl]
  try (cases matchN ns r <;> rfl)
theorem tokL_size {ns : Tab} {c : Nat} {r : List Nat} : 1 ≤ (tokL ns c r).2 ∧ (tokL ns c r).2 ≤ 1 + r.length := by
  unfold tokL
  split
  · cases hm : matchN ns r with
    | none => simp
    | some p =>
      obtain ⟨n, _, hk, r', rfl⟩ := matchN_some (c := p.1) (k := p.2) hm
      simp [hk]
  · simp
end Mine
end

theorem Mine.fresh_Sl : True := by (w_top off; first | (walk1; done) | trivial)
section
open PySem PySem.W PyProof.Rows
set_option Elab.async false
namespace Mine
open PySem.Builtin.Str PySem.StrLaws

theorem idx_nat (a b len : Nat) : strSliceIndices (some (a : Int)) (some (b : Int)) 1 len = (List.range (min b len - min a len)).map (fun k => min a len + k) := by
  have h1 : ¬ ((a : Int) < 0) := by omega
  have h2 : ¬ ((b : Int) < 0) := by omega
  have e1 : max (0 : Int) (min (a : Int) (len : Int)) = (min a len : Nat) := by omega
  have e2 : max (0 : Int) (min (b : Int) (len : Int)) = (min b len : Nat) := by omega
  have h3 : (1 : Int) > 0 := by decide
  simp only [strSliceIndices, h1, h2, h3, if_false, if_true, e1, e2, sliceRange]
  have hc : (if ((min a len : Nat) : Int) < ((min b len : Nat) : Int) then (((min b len : Nat) : Int) - ((min a len : Nat) : Int) + 1 - 1) / 1 else 0).toNat = min b len - min a len := by
    split <;> omega
  rw [hc]
  refine List.map_congr_left fun k _ => ?_
  omega
theorem slice_of_idx {x : Str} {l u : Option Int} {a n : Nat} (h : strSliceIndices l u 1 x.length = (List.range n).map (fun k => a + k)) (hl : a + n ≤ x.length) : (Txt.slice x l u).cps.toList = (x.cps.toList.drop a).take n := by
  unfold Txt.slice
  rw [h]
  have hxl : x.length = x.cps.toList.length := by simp [Str.length]
  split
  · rename_i hc
    simp at hc
    have ha : a = 0 := by omega
    subst ha
    rw [List.drop_zero, List.take_of_length_le (by omega)]
  · have := picks x.cps.toList n a (by omega)
    simp only [Array.getElem?_toList] at this
    rw [← this]
theorem slice_nat (x : Str) (a b : Nat) : (Txt.slice x (some (a : Int)) (some (b : Int))).cps.toList = (x.cps.toList.drop a).take (b - a) := by
  have hxl : x.length = x.cps.toList.length := by simp [Str.length]
  by_cases hab : min a x.length ≤ min b x.length
  · rw [slice_of_idx (idx_nat a b x.length) (by omega)]
    by_cases ha : a ≤ x.length
    · rw [Nat.min_eq_left ha]
      by_cases hb : b ≤ x.length
      · rw [Nat.min_eq_left hb]
      · rw [Nat.min_eq_right (by omega), List.take_of_length_le (by rw [List.length_drop]; omega), List.take_of_length_le (by rw [List.length_drop]; omega)]
    · rw [List.drop_of_length_le (by omega), List.drop_of_length_le (by omega)]; simp
  · have e : min b x.length - min a x.length = 0 := by omega
    have := idx_nat a b x.length
    rw [e] at this
    rw [slice_of_idx (a := 0) (n := 0) this (by omega)]
    have : b - a = 0 := by omega
    rw [this]; simp
theorem slice_to_nat (x : Str) (b : Nat) : (Txt.slice x none (some (b : Int))).cps.toList = x.cps.toList.take b := by
  have h : strSliceIndices none (some (b : Int)) 1 x.length = strSliceIndices (some ((0 : Nat) : Int)) (some (b : Int)) 1 x.length := by
    have h3 : (1 : Int) > 0 := by decide
    have h4 : ¬ (((0 : Nat) : Int) < 0) := by omega
    have e : max (0 : Int) (min ((0 : Nat) : Int) (x.length : Int)) = 0 := by omega
    simp only [strSliceIndices, h3, h4, if_true, if_false, e]
  have h2 : Txt.slice x none (some (b : Int)) = Txt.slice x (some ((0 : Nat) : Int)) (some (b : Int)) := by unfold Txt.slice; rw [h]
  rw [h2, slice_nat]; simp
theorem slice_from_nat (x : Str) (a : Nat) : (Txt.slice x (some (a : Int)) none).cps.toList = x.cps.toList.drop a := by
  have h : strSliceIndices (some (a : Int)) none 1 x.length = strSliceIndices (some (a : Int)) (some (x.length : Int)) 1 x.length := by
    have h3 : (1 : Int) > 0 := by decide
    have h4 : ¬ ((x.length : Int) < 0) := by omega
    have e : max (0 : Int) (min (x.length : Int) (x.length : Int)) = x.length := by omega
    simp only [strSliceIndices, h3, h4, if_true, if_false, e]
  have h2 : Txt.slice x (some (a : Int)) none = Txt.slice x (some (a : Int)) (some (x.length : Int)) := by unfold Txt.slice; rw [h]
  rw [h2, slice_nat, List.take_of_length_le (by simp [Str.length])]
theorem item_nat {x : Str} {k : Nat} (h : k < x.length) : Txt.item x (k : Int) = ⟨#[x.cps.getD k 0]⟩ := by
  have := item_closes (x := x) (i := (k : Int)) ⟨by omega, by omega⟩
  simpa using beq_iff_eq.mp this
end Mine
end

theorem Mine.fresh_Rd1 : True := by (w_top off; first | (walk1; done) | trivial)
section
open PySem PySem.W PyProof.Rows PySem.Calls PyProof.V
set_option Elab.async false
namespace Mine

local macro_rules | `(tactic| walk_at "enter") => `(tactic| (
  (case kA => exact rfl); (case kF => exact rfl); (case kK => assumption); (case k1 => k_asm); (case k2 => k_asm); (case k3 => k_asm); (case k4 => k_asm); (case k5 => k_asm); (case k6 => k_is); (case k7 => k_is); (case k8 => ktr_room); (case k9 => exact rfl); (case c5 => decide); (case kB => exact locs rfl); (case c2 => exact rfl); (case c3 => exact rfl); (case c4 => exact rfl); k_whole))

def IsRead (e : Nat) (row : Str) (v : Value) (more : List (Addr × Obj)) : Prop :=
  ∃ a sg t b, v = .ref a ∧ more = [(a, { cls := .type "tuple", data := .seq #[.str sg t, .bool b] })] ∧ sg.cps.toList = (readL (nm e) row.cps.toList).1 ∧ b = (readL (nm e) row.cps.toList).2

/-- what holds of the names of the frame between two turns -/
structure RdAt (ns : Tab) (row : Str) (t : Tok) (d : Addr) (n : Nat) (m : Str → Option Value) (sg : Str) (b : Bool) (k : Nat) (t1 t2 : Tok) : Prop where
  mrow : m (Str.ofString "row") = some (.str row t)
  mnames : m (Str.ofString "names") = some (.ref d)
  msigns : m (Str.ofString "signs") = some (.str sg t1)
  mfit : m (Str.ofString "fit") = some (.bool b)
  mkk : m (Str.ofString "k") = some (.int k t2)
  le : k ≤ row.length
  left : n = row.length - k
  len : sg.length ≤ k
  signs : sg.cps.toList ++ (readL ns (row.cps.toList.drop k)).1 = (readL ns row.cps.toList).1
  fit : (b && (readL ns (row.cps.toList.drop k)).2) = (readL ns row.cps.toList).2

theorem upd_frame {h₀ h : Heap} {L : Addr} {m : Str → Option Value} {x : Str} {v : Value} (F : Fr h₀ L h m) (hv : m x = some v) : Fr h₀ L h (fun y => if y = x then some v else m y) := by
  rw [upd_same hv]; exact F

theorem flat_get : ∀ {ns : Tab} {kvs : List (Str × Value)} {i : Nat} {k : Str} {v : Value}, FlatPairs PyData.str kvs (ns.map fun p => (PyData.str ⟨#[p.1]⟩, PyData.str ⟨p.2.toArray⟩)) → kvs[i]? = some (k, v) → ∃ p, ns[i]? = some p ∧ k = ⟨#[p.1]⟩
  | [], _, i, _, _, h, hi => by cases h; simp at hi
  | p :: r, _, i, _, _, h, hi => by
    rw [List.map_cons] at h
    generalize hq : (PyData.str ⟨#[p.1]⟩ : PyData) = q at h
    cases h with
    | cons hf h =>
      cases i with
      | zero =>
        simp at hi
        obtain ⟨rfl, rfl⟩ := hi
        injection hq with hq
        exact ⟨p, rfl, hq.symm⟩
      | succ i =>
        simp at hi
        obtain ⟨p', hp, hk⟩ := flat_get h hi
        exact ⟨p', by simpa using hp, hk⟩

section
variable {prog : Program} {w : World} {A : Around} {E : Value → Shared → Prop} {s : Shared} {h₀ : Heap} {L : Addr} {m : Str → Option Value} {Q : Value → Shared → Prop} {d : Addr} {e : Nat}
theorem names_get {value slice : PySem.Expr} {k y : Str} {t : Tok} (hT : StrTab prog w h₀ d (nmD e)) (F : Fr h₀ L s.heap m) (hl : Spec.lookup (.str k) (nmD e) = some (.str y))
    (hs : subscripted slice false (.ref d) (.str k t) = operate [.ref d, .str k t] (getItem (.ref d) (.str k t))) (hg : ∀ r, letTemporaryGo value (.ref d) r = pure ())
    (h : ∀ t', Q (.str y t') { s with toks := s.toks + 1 }) : wpAny (model prog w) A (subscriptTail value slice (.ref d) (.str k t)) Q E s :=
  item_strTab (hT.keep F.keep) hl (fun v hv => by cases hv {} with | str _ t' => exact h t') hs hg
theorem names_in {k : Str} {t : Tok} (hT : StrTab prog w h₀ d (nmD e)) (F : Fr h₀ L s.heap m) (h : Q (.bool (Spec.lookup (.str k) (nmD e)).isSome) { s with toks := s.toks + 1 }) : wpAny (model prog w) A (compareOp .In (.str k t) (.ref d)) Q E s :=
  in_strTab (hT.keep F.keep) h
end

theorem slice_pref (row y : Str) (k : Nat) : (Txt.slice row (some ((k : Int) + 1)) (some ((k : Int) + 1 + (y.length : Int))) == y) = y.cps.toList.isPrefixOf (row.cps.toList.drop (k + 1)) := by
  have e1 : (k : Int) + 1 = ((k + 1 : Nat) : Int) := by omega
  have e2 : ((k + 1 : Nat) : Int) + (y.length : Int) = ((k + 1 + y.length : Nat) : Int) := by omega
  rw [e1, e2]
  have h := slice_nat row (k + 1) (k + 1 + y.length)
  have e3 : k + 1 + y.length - (k + 1) = y.cps.toList.length := by simp [Str.length]
  rw [e3] at h
  rw [Bool.eq_iff_iff, beq_iff_eq, List.isPrefixOf_iff_prefix, List.prefix_iff_eq_take, ← h]
  constructor
  · intro x; rw [x]
  · intro x; exact Str.ext' (Array.toList_inj.mp x.symm)
/-- what holds of the names of the frame behind the look at one sign -/
structure TkAt (row : Str) (t : Tok) (d : Addr) (sg : Str) (b : Bool) (k : Nat) (t1 t2 : Tok) (told : Str) (size : Nat) (ts tz : Tok) (m : Str → Option Value) : Prop where
  mrow : m (Str.ofString "row") = some (.str row t)
  mnames : m (Str.ofString "names") = some (.ref d)
  msigns : m (Str.ofString "signs") = some (.str sg t1)
  mfit : m (Str.ofString "fit") = some (.bool b)
  mkk : m (Str.ofString "k") = some (.int k t2)
  mtold : m (Str.ofString "told") = some (.str told ts)
  msize : m (Str.ofString "size") = some (.int size tz)
theorem rd_next {ns : Tab} {row : Str} {t : Tok} {d : Addr} {n : Nat} {m₁ m' : Str → Option Value} {sg : Str} {b b' : Bool} {k c z : Nat} {t1 t2 t1' t2' : Tok} (R : RdAt ns row t d n m₁ sg b k t1 t2) (hk : k < row.length)
    (hcz : (c, z) = tokL ns (row.cps.getD k 0) (row.cps.toList.drop (k + 1))) (hb : b' = (b && !(decide (z = 1) && (ns.lookup c).isSome)))
    (f1 : m' (Str.ofString "row") = some (.str row t)) (f2 : m' (Str.ofString "names") = some (.ref d)) (f3 : m' (Str.ofString "signs") = some (.str (sg ++ ⟨#[c]⟩) t1')) (f4 : m' (Str.ofString "fit") = some (.bool b')) (f5 : m' (Str.ofString "k") = some (.int ((k : Int) + (z : Int)) t2')) :
    RdAt ns row t d (row.length - (k + z)) m' (sg ++ ⟨#[c]⟩) b' (k + z) t1' t2' ∧ row.length - (k + z) < n := by
  have hsz := tokL_size (ns := ns) (c := row.cps.getD k 0) (r := row.cps.toList.drop (k + 1))
  rw [← hcz] at hsz
  simp only [List.length_drop, Array.length_toList] at hsz
  have hrl : row.length = row.cps.size := rfl
  have hd := getD_drop row.cps (s := k) (by omega)
  have hr := readL_cons ns (row.cps.getD k 0) (row.cps.toList.drop (k + 1))
  rw [← hcz, List.drop_drop, ← hd] at hr
  have he : k + 1 + (z - 1) = k + z := by omega
  simp only at hr
  rw [he] at hr
  have h1 := R.signs
  have h2 := R.fit
  have h3 := R.len
  have h4 := R.left
  rw [hr] at h1 h2
  have hn : row.length - (k + z) < n := by omega
  refine ⟨⟨f1, f2, f3, f4, ?_, by omega, rfl, ?_, ?_, ?_⟩, hn⟩
  · rw [f5, Int.natCast_add]
  · rw [Str.length_append]
    have : (Str.mk #[c]).length = 1 := rfl
    omega
  · rw [Str.cps_append, Array.toList_append, List.append_assoc, ← h1]; rfl
  · rw [← h2, hb]
    simp only [Bool.and_assoc]
theorem rd_step {ns : Tab} {row : Str} {t : Tok} {d : Addr} {n : Nat} {m₁ m' : Str → Option Value} {sg : Str} {b : Bool} {k c z : Nat} {t1 t2 t1' t2' : Tok} {g h : Heap} {L : Addr} {s : Shared} {tk : Nat} (F : Fr g L h m') (N : News g L h []) (R : RdAt ns row t d n m₁ sg b k t1 t2) (hk : k < row.length)
    (hcz : (c, z) = tokL ns (row.cps.getD k 0) (row.cps.toList.drop (k + 1))) (b' : Bool) (hb : b' = (b && !(decide (z = 1) && (ns.lookup c).isSome)))
    (f1 : m' (Str.ofString "row") = some (.str row t)) (f2 : m' (Str.ofString "names") = some (.ref d)) (f3 : m' (Str.ofString "signs") = some (.str (sg ++ ⟨#[c]⟩) t1')) (f4 : m' (Str.ofString "fit") = some (.bool b')) (f5 : m' (Str.ofString "k") = some (.int ((k : Int) + (z : Int)) t2')) :
    WhileStep g L s (fun n m₁ news₁ => news₁ = [] ∧ ∃ sg b k t1 t2, RdAt ns row t d n m₁ sg b k t1 t2) n .next { s with heap := h, toks := tk } :=
  let ⟨R', hn⟩ := rd_next R hk hcz hb f1 f2 f3 f4 f5
  WhileStep.intro F N hn ⟨rfl, _, _, _, _, _, R'⟩
def accTold (o : Option (Nat × Nat)) : Str := ⟨#[match o with | some p => p.1 | none => 38]⟩
def accSize (o : Option (Nat × Nat)) : Nat := match o with | some p => 1 + p.2 | none => 1

local macro_rules | `(tactic| walk_at "go") => `(tactic| first | walk1 | (dsimp only; walk1))
local macro_rules | `(tactic| walk_at "subscriptTail") => `(tactic| (k_here; (with_reducible show wpAny _ _ (subscriptTail _ _ (Value.ref _) (Value.str _ _)) _ _ _); k_dflt (refine' names_get ?T ?F ?l ?s ?g ?_; (case T => assumption); (case F => k_asm); (case l => assumption); (case s => with_unfolding_all rfl); (case g => intro _; with_unfolding_all rfl); k_whole; intro t8; (try dsimp only))))
local macro_rules | `(tactic| walk_at "call builtin:len") => `(tactic| (k_here; (with_reducible show wpAny _ _ (call (Value.builtin "len") [Value.str _ _]) _ _ _); k_dflt (refine' PyProof.Rows.len_str ?x ?_; (case x => omega); k_whole)))
local macro_rules | `(tactic| walk_at "inplaceOp Add str str") => `(tactic| (k_here; k_dflt (refine' PyProof.Rows.iadd_str ?_ ?x; (case x => (have hz : sizeLine = 16777216 := (by decide); (have h1 : (∀ c : Nat, (Str.mk #[c]).length = 1) := fun _ => rfl); simp only [h1]; omega)); k_whole; intro t8 tk8)))
local macro_rules | `(tactic| walk_at "compareOp In str ref") => `(tactic| (k_here; k_dflt (refine' names_in ?T ?F ?_; (case T => assumption); (case F => k_asm); k_whole)))

set_option maxRecDepth 100000 in
set_option maxHeartbeats 4000000 in
theorem read_c {w p loose mean mg mb} (row : Str) (t : Tok) (d : Addr) (e : Nat) (hrow : row.length ≤ 100000) :
   ConH Challenge.rw_pe0099_01.row.prog w (hd.heap_39 w.params) p loose mean mg mb 132 1 8 [.str row t, .ref d] (fun h => StrTab Challenge.rw_pe0099_01.row.prog w h d (nmD e)) (IsRead e row) := by
  k_fill
  unfold ConH
  intro dp un gd cn cs a ccd cl outer A₀ base h₀ L m news s Q E B F X N T hk hdp hun hT hret
  obtain ⟨lo, kvs, hdict, hflat⟩ := id hT
  refine wpAny_call ?_
  k_dflt (refine' code_defN [(Str.ofString "row", .str row t), (Str.ofString "names", .ref d)] ?k1 ?k2 ?k3 ?k4 ?k5 ?kA ?kF ?kK ?k6 ?k7 ?k8 ?k9 ?kB ?_ ?c2 ?c3 ?c4 ?c5; walk_at "enter")
  intro L' h' F' N' B' X' T'
  dsimp only
  k_fold
  refine wpAny_execs_cons (wpAny_Assign_Name (wpAny_Constant_str (stN F' N' fun h1 F1 N1 => ?_)))
  refine wpAny_execs_cons (wpAny_Assign_Name (wpAny_Constant_bool (stN F1 N1 fun h2 F2 N2 => ?_)))
  refine wpAny_execs_cons (wpAny_Assign_Name (wpAny_Constant_int (stN F2 N2 fun h3 F3 N3 => ?_)))
  dsimp only
  refine wpAny_execs_cons (While_inv (fun n m₁ news₁ => news₁ = [] ∧ ∃ sg b k t1 t2, RdAt (nm e) row t d n m₁ sg b k t1 t2) (n₀ := row.length) F3 N3 ⟨rfl, _, _, 0, _, _, ⟨rfl, rfl, rfl, rfl, rfl, Nat.zero_le _, rfl, Nat.le_refl _, ?_, ?_⟩⟩ ?_)
  · simp; rfl
  · simp
  · rintro n m₁ news₁ h₁ tk₁ F₁ N₁ ⟨rfl, sg, b, k, t1, t2, R⟩
    have G1 := upd_frame F₁ R.mkk
    have G2 := upd_frame G1 (x := Str.ofString "fit") R.mfit
    have G3 := upd_frame G2 (x := Str.ofString "signs") R.msigns
    have G4 := upd_frame G3 (x := Str.ofString "names") R.mnames
    have G5 := upd_frame G4 (x := Str.ofString "row") R.mrow
    clear F₁ G1 G2 G3 G4 F' F1 F2 F3 N' N1 N2 N3
    iterate 12 walk_at "go"
    · iterate 13 walk_at "go"
      rename Fr _ _ _ _ => FX
      have hkl : k < row.length := by omega
      rw [item_nat hkl] at FX
      refine wpAny_mono (Q := fun f s' => f = .next ∧ ∃ h' tk c z ts tz m', s' = { s with heap := h', toks := tk } ∧ Fr s.heap L' h' m' ∧ TkAt row t d sg b k t1 t2 ⟨#[c]⟩ z ts tz m' ∧ (c, z) = tokL (nm e) (row.cps.getD k 0) (row.cps.toList.drop (k + 1))) ?_ ?_ (fun _ _ x => x)
      · iterate 7 walk_at "go"
        · iterate 2 walk_at "go"
          have hc : row.cps.getD k 0 = 38 := by
            rename (_ = true) => ha
            have := beq_iff_eq.mp ha
            exact str_one_inj this
          refine For_invV s.heap rfl rfl (ld FX rfl ?_)
          refine iter_names (fun i m' => ∃ ts tz, TkAt row t d sg b k t1 t2 (accTold (accN (row.cps.toList.drop (k + 1)) ((nm e).take i))) (accSize (accN (row.cps.toList.drop (k + 1)) ((nm e).take i))) ts tz m') rfl lo hdict FX News.nil ?_ ?_ ?_
          · rw [hc]
            exact ⟨_, _, rfl, rfl, rfl, rfl, rfl, rfl, rfl⟩
          · rintro i key v tt m2 h tk own hi ⟨ts, tz, K⟩ F2 N2
            obtain ⟨q, hq, rfl⟩ := flat_get hflat hi
            obtain ⟨y, hlk, hy, hyl⟩ : ∃ y : Str, Spec.lookup (.str ⟨#[q.1]⟩) (nmD e) = some (.str y) ∧ y.cps.toList = q.2 ∧ y.length ≤ 5 := by
              refine ⟨⟨q.2.toArray⟩, ?_, rfl, ?_⟩
              · rw [nmD_lookup, (tab_ok e).self q (List.mem_of_getElem? hq)]; rfl
              · simpa [Str.length] using List.all_eq_true.mp (nm_short e) q (List.mem_of_getElem? hq)
            have H1 := upd_frame F2 (x := Str.ofString "row") K.mrow
            have H2 := upd_frame H1 (x := Str.ofString "names") K.mnames
            have H3 := upd_frame H2 (x := Str.ofString "k") K.mkk
            clear F2 H1 H2 FX
            rw [List.append_nil] at N2
            have hyq : y.length = q.2.length := by rw [← hy]; simp [Str.length]
            have hsz : 1 + (y.length : Int) = ((1 + q.2.length : Nat) : Int) := by omega
            k_steps
            · rename ((_ == y) = true) => ha
              rename Fr _ _ _ _ => F9
              rename News _ _ _ _ => N9
              rw [slice_pref, hy] at ha
              rw [hsz] at F9
              refine InvEnd.intro F9 N9 (by rw [List.append_nil]; exact fun _ h => h) ?_
              rw [accN_succ hq, if_pos ha]
              exact ⟨_, _, rfl, rfl, K.msigns, K.mfit, rfl, rfl, rfl⟩
            · rename ((_ == y) = false) => ha
              rename Fr _ _ _ _ => F9
              rename News _ _ _ _ => N9
              rw [slice_pref, hy] at ha
              refine InvEnd.intro F9 N9 (by rw [List.append_nil]; exact fun _ h => h) ?_
              rw [accN_succ hq, if_neg (by rw [ha]; exact Bool.false_ne_true)]
              exact ⟨_, _, rfl, rfl, K.msigns, K.mfit, rfl, K.mtold, K.msize⟩
          · rintro m2 h tk ⟨ts, tz, K⟩ F2 N2
            have hlen : (nm e).take kvs.length = nm e := by
              have := FlatPairs.length hflat
              unfold nmD at this
              rw [List.length_map] at this
              rw [← this, List.take_length]
            rw [hlen, accN_all] at K
            refine wpAny_execs_nil ⟨rfl, h, tk, _, _, ts, tz, m2, rfl, F2, K, ?_⟩
            rw [hc, tokL_amp]
            cases matchN (nm e) (row.cps.toList.drop (k + 1)) <;> rfl
        · have hc : row.cps.getD k 0 ≠ 38 := by
            rename (_ = false) => ha
            intro h38
            rw [h38] at ha
            exact absurd ha (by decide +kernel)
          refine wpAny_execs_nil ⟨rfl, _, _, _, 1, _, _, _, rfl, FX, ⟨rfl, rfl, rfl, rfl, rfl, rfl, rfl⟩, ?_⟩
          unfold tokL
          rw [if_neg hc]
      · rintro f s' ⟨rfl, h9, tk9, c, z, ts, tz, m9, rfl, F9, K, hcz⟩
        have H1 := upd_frame F9 (x := Str.ofString "row") K.mrow
        have H2 := upd_frame H1 (x := Str.ofString "names") K.mnames
        have H3 := upd_frame H2 (x := Str.ofString "signs") K.msigns
        have H4 := upd_frame H3 (x := Str.ofString "fit") K.mfit
        have H5 := upd_frame H4 (x := Str.ofString "k") K.mkk
        have H6 := upd_frame H5 (x := Str.ofString "told") K.mtold
        have H7 := upd_frame H6 (x := Str.ofString "size") K.msize
        have N9 : News s.heap L' h9 [] := News.nil
        clear F9 H1 H2 H3 H4 H5 H6 FX
        dsimp only
        have hsgl : sg.length ≤ 100000 := by have := R.len; have := R.le; omega
        have hlk : (Spec.lookup (.str ⟨#[c]⟩) (nmD e)).isSome = ((nm e).lookup c).isSome := by rw [nmD_lookup]; cases (nm e).lookup c <;> rfl
        k_steps
        · rename (Option.isSome _ = true) => ha
          rename ((z : Int) = 1) => hz
          rename Fr _ _ _ _ => F8
          rename News _ _ _ _ => N8
          exact rd_step F8 N8 R hkl hcz false (by rw [← hlk, ha, decide_eq_true (by omega)]; simp) rfl rfl rfl rfl rfl
        · rename (Option.isSome _ = false) => ha
          rename Fr _ _ _ _ => F8
          rename News _ _ _ _ => N8
          exact rd_step F8 N8 R hkl hcz b (by rw [← hlk, ha]; simp) rfl rfl rfl rfl rfl
        · rename ((z : Int) ≠ 1) => ha
          rename Fr _ _ _ _ => F8
          rename News _ _ _ _ => N8
          exact rd_step F8 N8 R hkl hcz b (by rw [decide_eq_false (by omega)]; simp) rfl rfl rfl rfl rfl
    · k_steps
      have hke : k = row.length := by have := R.le; omega
      have hdr : row.cps.toList.drop k = [] := List.drop_of_length_le (by rw [hke]; simp [Str.length])
      have h1 := R.signs
      have h2 := R.fit
      rw [hdr, readL_nil] at h1 h2
      refine leaveN_ref (by k_asm) (by k_asm) (by k_mem) ?_
      intro F9 N9 D9
      refine hret _ _ _ _ ?_ F9 N9 D9
      exact ⟨_, sg, t1, b, rfl, rfl, by simpa using h1, by simpa using h2⟩
end Mine
end

theorem Mine.fresh_L2 : True := by (w_top off; first | (walk1; done) | trivial)
section
open PySem PySem.W PyProof.Rows PySem.Calls PyProof.V
set_option Elab.async false
namespace Mine

section
variable {prog : Program} {w : World} {A : Around} {E : Value → Shared → Prop} {s : Shared} {env : Env} {h₀ : Heap} {x : Str} {body : List Stmt} {Q : Flow → Shared → Prop}

/-- the end of a turn that turns one object of the call's own -/
def RowPost (h₀ : Heap) (L : Addr) (J : (Str → Option Value) → Obj → Prop) (lt : Addr) (own : List (Addr × Obj)) (s₁ : Shared) (Q : Flow → Shared → Prop) (f : Flow) (s₂ : Shared) : Prop :=
  match f with
  | .ret v => Q (.ret v) s₂
  | .brk => Q .next s₂
  | _ => ∃ h' tk m' o', s₂ = { s₁ with heap := h', toks := tk } ∧ Fr h₀ L h' m' ∧ News h₀ L h' ((lt, o') :: own) ∧ J m' o'

theorem strs_get {vs : List Value} {ys : List Str} (h : StrsAre vs ys) : ∀ {i : Nat} {v : Value}, vs[i]? = some v → ∃ y t, ys[i]? = some y ∧ v = .str y t := by
  induction h with
  | nil => intro i v hv; simp at hv
  | cons y t _ ih =>
    intro i v hv
    cases i with
    | zero => simp at hv; exact ⟨y, t, rfl, hv.symm⟩
    | succ i => simp at hv; obtain ⟨y', t', h1, h2⟩ := ih hv; exact ⟨y', t', by simpa using h1, h2⟩

theorem iter_rows {l lt : Addr} {c : Nat} {vs : List Value} {ys : List Str} {m₀ : Str → Option Value} {o₀ : Obj} (J : Nat → (Str → Option Value) → Obj → Prop)
    (hh : A.handled = none) (F : Fr h₀ env.locals s.heap m₀) (N : News h₀ env.locals s.heap [(lt, o₀), (l, listOf vs.toArray c)]) (hne : lt ≠ l) (hi : StrsAre vs ys) (hj : J 0 m₀ o₀)
    (turn : ∀ (i : Nat) y t m₁ o₁ h tk own, ys[i]? = some y → J i m₁ o₁ → (∀ p ∈ own, p.1 ≠ lt) → Fr h₀ env.locals h (fun z => if z = x then some (.str y t) else m₁ z) → News h₀ env.locals h ((lt, o₁) :: own) →
      wpAny (model prog w) A (execs body env) (RowPost h₀ env.locals (J (i + 1)) lt own { s with heap := h, toks := tk } Q) E { s with heap := h, toks := tk })
    (done : ∀ m₁ o₁ h tk, J ys.length m₁ o₁ → Fr h₀ env.locals h m₁ → News h₀ env.locals h [(lt, o₁)] → Q .next { s with heap := h, toks := tk }) :
    wpAny (model prog w) A (pyIter (.ref l)) (fun it s₂ => LoopAtV prog w A h₀ env x body Q E it s₂) E s := by
  have Nl := N (l, listOf vs.toArray c) (.tail _ (.head _))
  have Nt := N (lt, o₀) (.head _)
  have hls : s.heap.IsList l vs.toArray := ⟨_, Nl.1, rfl, c, rfl⟩
  have hlne : l ≠ s.heap.objs.size := Nat.ne_of_lt (Heap.lt_size Nl.1)
  refine wpAny_pyIter_list hls ?_
  have W := Walks.list (prog := prog) (w := w) hh s.heap.objs.size l hlne vs.toArray
  have hlen : vs.toArray.size = ys.length := by simp [strsAre_length hi]
  rw [hlen] at W
  let J' : Nat → (Str → Option Value) → List (Addr × Obj) → Prop := fun i m₁ news₁ => ∃ o₁, news₁ = [(lt, o₁)] ∧ J i m₁ o₁
  refine ⟨_, _, _, ys.length, _, _, m₀, [(lt, o₀)], J', rfl, W, ?_, ?_, ?_, ⟨⟨_, Heap.get?_push_size _ rfl, rfl, rfl⟩, hls.at fun o e => Heap.get?_push_of_some _ e⟩, F.push _, ?_, ⟨o₀, rfl, hj⟩, ?_, ?_⟩
  · intro hm
    rcases List.mem_cons.mp hm with e | hm
    · exact absurd F.ns.lt (e ▸ Nat.lt_irrefl _)
    · exact Nl.2.1 (List.mem_singleton.mp hm).symm
  · intro b hb
    rw [List.mem_singleton.mp hb]
    exact next_is_new F
  · intro p hp hI
    rw [List.mem_singleton.mp hp] at hI
    exact absurd (Heap.lt_size Nt.1) ((List.mem_singleton.mp hI) ▸ Nat.lt_irrefl _)
  · intro p hp
    rw [List.mem_singleton.mp hp]
    exact ⟨Heap.get?_push_of_some _ Nt.1, Nt.2⟩
  · rintro i v m₁ news₁ s₁ own ⟨hh', tk', rfl⟩ hin hP ⟨o₁, rfl, hJ⟩ hoff hown _ _ _ F₁ N₁
    have hP' : vs[i]? = some v := by simpa using hP
    obtain ⟨y, t, hy, rfl⟩ := strs_get hi hP'
    have hsep : ∀ p ∈ own, p.1 ≠ lt := by
      intro p hp e
      rcases List.mem_cons.mp (hown p hp) with h1 | h1
      · exact absurd (Heap.lt_size Nt.1) (by rw [← e, h1]; exact Nat.lt_irrefl _)
      · exact hne (e.symm.trans (List.mem_singleton.mp h1))
    have N₂ : News h₀ env.locals hh' ((lt, o₁) :: own) := fun p hp => by
      rcases List.mem_cons.mp hp with rfl | hp
      · exact N₁ _ (List.mem_append.mpr (.inr (List.mem_singleton.mpr rfl)))
      · exact N₁ _ (List.mem_append.mpr (.inl hp))
    refine wpAny_mono (turn i y t m₁ o₁ hh' tk' own hy hJ hsep F₁ N₂) (fun f s₂ p => ?_) fun _ _ e => e
    have fin : (∃ h' tk m' o', s₂ = { ({ s with heap := hh', toks := tk' } : Shared) with heap := h', toks := tk } ∧ Fr h₀ env.locals h' m' ∧ News h₀ env.locals h' ((lt, o') :: own) ∧ J (i + 1) m' o') → LoopStepU h₀ env.locals [s.heap.objs.size] own (J' (i + 1)) { s with heap := hh', toks := tk' } .next s₂ := by
      rintro ⟨h', tk, m', o', e, F', N', hm⟩
      refine ⟨rfl, h', tk, m', [(lt, o')], e, F', fun p hp => ?_, fun p hp hq => ?_, o', rfl, hm⟩
      · rcases List.mem_append.mp hp with hp | hp
        · exact N' p (.tail _ hp)
        · rw [List.mem_singleton.mp hp]; exact N' _ (.head _)
      · rw [List.mem_singleton.mp hp] at hq
        exact absurd (Heap.lt_size Nt.1) ((List.mem_singleton.mp hq) ▸ Nat.lt_irrefl _)
    cases f with
    | ret v => exact .ret p
    | brk => exact .brk p
    | next => exact .next (fin p)
    | cont => exact .cont (fin p)
  · rintro h' tk m' news' F' N' _ ⟨o₁, rfl, hJ⟩
    exact done m' o₁ h' tk hJ F' N'
end

section
variable {prog : Program} {w : World} {A : Around} {E : Value → Shared → Prop} {s : Shared} {h₀ : Heap} {L : Addr} {m : Str → Option Value} {news own : List (Addr × Obj)} {Q : Value → Shared → Prop}
theorem append_row {lt : Addr} {items : Array Value} {c : Nat} {v : Value} (hoff : ∀ p ∈ own, p.1 ≠ lt) (F : Fr h₀ L s.heap m) (N : News h₀ L s.heap news) (hm : (lt, listOf items c) ∈ news) (hown : ∀ p ∈ own, p ∈ news) (hz : items.size ≤ 1000000)
    (h : ∀ h', Fr h₀ L h' m → News h₀ L h' ((lt, listOf (items.push v) (c + 1)) :: own) → Q .none { s with heap := h' }) : wpAny (model prog w) A (call (.builtin "list.append") [.ref lt, v]) Q E s := by
  have Nm := N _ hm
  have hz' : sizeLine = 16777216 := by decide
  refine wpAny_call_entry slot_list_append ⟨_, Nm.1, rfl⟩ entry_list_append ?_ (args_list_append _ _)
  show wpAny _ _ (updateSeq lt (·.push v) >>= fun _ => ret .none) _ _ s
  refine wpAny_bind (wpAny_updateSeq Nm.1 rfl (wpAny_pure ⟨.none, rfl, h _ ?_ ?_⟩) (by omega) (by rw [Array.size_push]; omega))
  · have hs : Heap.SameBut lt s.heap (s.heap.update lt (Obj.mapSeq (·.push v))) := Heap.SameBut.update ..
    obtain ⟨oL, a1, a2, hL, a3⟩ := F.ns
    exact ⟨⟨oL, a1, a2, hs.extBut L oL (fun e => Nm.2.1 e.symm) hL, a3⟩, fun b o e => hs.extBut b o (fun e' => by have := Nm.2.2; rw [← e', e] at this; cases this) (F.keep b o e), F.above⟩
  · intro p hp
    rcases List.mem_cons.mp hp with rfl | hp
    · refine ⟨?_, Nm.2⟩
      show (s.heap.update lt (Obj.mapSeq (·.push v))).get? lt = _
      rw [Heap.get?_update_self _ Nm.1 (by rw [Obj.mapSeq_push_plain]; rfl), Obj.mapSeq_push_plain]
    · have hs : Heap.SameBut lt s.heap (s.heap.update lt (Obj.mapSeq (·.push v))) := Heap.SameBut.update ..
      exact ⟨hs.extBut _ _ (hoff p hp) (N p (hown p hp)).1, (N p (hown p hp)).2⟩
end
end Mine
end

theorem Mine.fresh_H0 : True := by (w_top off; first | (walk1; done) | trivial)
section
open PySem PySem.W PyProof.Rows PySem.Calls PyProof.V
set_option Elab.async false
namespace Mine
open PySem.StrLaws

theorem due_ne {z : Str} {e o : Nat} (hz : z = ⟨(dueL e o).toArray⟩) (h : dueL e o ≠ []) : (z.length == 0) = false := by
  subst hz
  simp only [Str.length, List.size_toArray, beq_eq_false_iff_ne, ne_eq, List.length_eq_zero_iff]
  exact h
theorem due_nil {z : Str} {e o : Nat} (hz : z = ⟨(dueL e o).toArray⟩) (h : dueL e o = []) : (z != Str.ofString "") = false := by
  subst hz
  rw [h]; decide +kernel
theorem due_not_nil {z : Str} {e o : Nat} (hz : z = ⟨(dueL e o).toArray⟩) (h : dueL e o ≠ []) : (z != Str.ofString "") = true := by
  rw [bne_iff_ne]
  intro e1
  have h2 : Str.ofString "" = ⟨#[]⟩ := by decide +kernel
  rw [h2, hz] at e1
  have := congrArg (fun x : Str => x.cps.toList) e1
  exact h (by simpa using this)
theorem due_kind (e o : Nat) : Builtin.Str.strKind ⟨(dueL e o).toArray⟩ = 1 := by
  unfold dueL
  split
  · split <;> decide +kernel
  · split <;> decide +kernel

def rowsL (e order : Nat) (page : List Nat) : List (List Nat) := if dueL e order = [] then [page] else splitL (dueL e order) page

theorem rows_split {page z : Str} {e o : Nat} {l : List (Str × Tok)} (hz : z = ⟨(dueL e o).toArray⟩) (h : dueL e o ≠ []) (hl : l.map (·.1) = Txt.split page z) : (l.map (·.1)).map (fun y => y.cps.toList) = rowsL e o page.cps.toList := by
  unfold rowsL
  rw [if_neg h, hl, split_list page z ?_ ?_, hz]
  · have := due_ne hz h
    simp at this
    omega
  · rw [hz]; exact due_kind e o

theorem joinL_sum (sep : List Nat) : ∀ rows : List (List Nat), (rows.map (·.length)).sum ≤ (joinL sep rows).length ∧ (sep ≠ [] → rows.length ≤ (joinL sep rows).length + 1)
  | [] => by simp [joinL]
  | [l] => by simp [joinL]
  | l :: l' :: ls => by
    obtain ⟨h1, h2⟩ := joinL_sum sep (l' :: ls)
    rw [joinL]
    simp only [List.map_cons, List.sum_cons, List.length_append, List.length_cons] at h1 h2 ⊢
    refine ⟨by omega, fun hs => ?_⟩
    have := h2 hs
    have : 0 < sep.length := by cases sep <;> simp_all
    omega
theorem rows_sum (e o : Nat) (page : List Nat) : ((rowsL e o page).map (·.length)).sum ≤ page.length ∧ (rowsL e o page).length ≤ page.length + 1 := by
  unfold rowsL
  by_cases h : dueL e o = []
  · rw [if_pos h]; simp
  · rw [if_neg h]
    have := joinL_sum (dueL e o) (splitL (dueL e o) page)
    rw [splitL_join h] at this
    exact ⟨this.1, this.2 h⟩

theorem head_dot (y : Str) : (Txt.slice y none (some 1) == Str.ofString ".") = decide (y.cps.toList.head? = some 46) := by
  have h := slice_to_nat y 1
  have hd : Str.ofString "." = ⟨#[46]⟩ := by decide +kernel
  rw [hd, Bool.eq_iff_iff, beq_iff_eq, decide_eq_true_eq]
  constructor
  · intro e
    have e' : Txt.slice y none (some ((1 : Nat) : Int)) = ⟨#[46]⟩ := e
    rw [e'] at h
    cases hl : y.cps.toList with
    | nil => rw [hl] at h; simp at h
    | cons a b => rw [hl] at h; simp at h; simp [h]
  · intro e
    show Txt.slice y none (some ((1 : Nat) : Int)) = ⟨#[46]⟩
    apply Str.ext'
    apply Array.toList_inj.mp
    rw [h]
    cases hl : y.cps.toList with
    | nil => rw [hl] at e; cases e
    | cons a b => rw [hl] at e; simp at e; simp [e]
theorem mul_rep {t : Int} (h : 1 ≤ t ∧ t < 4) : (Txt.mul (Str.ofString ".") (t + 1)).cps.toList = List.replicate (t.toNat + 1) 46 := by
  have h1 : t = 1 ∨ t = 2 ∨ t = 3 := by omega
  rcases h1 with rfl | rfl | rfl <;> decide +kernel
theorem dots_ne {t : Int} (y : Str) (h : 1 ≤ t ∧ t < 4) : (Txt.slice y none (some (t + 1)) != Txt.mul (Str.ofString ".") (t + 1)) = !decide (y.cps.toList.take (t.toNat + 1) = List.replicate (t.toNat + 1) 46) := by
  have e : t + 1 = ((t.toNat + 1 : Nat) : Int) := by omega
  have hs := slice_to_nat y (t.toNat + 1)
  rw [← e] at hs
  show (!(Txt.slice y none (some (t + 1)) == Txt.mul (Str.ofString ".") (t + 1))) = _
  congr 1
  rw [Bool.eq_iff_iff, beq_iff_eq, decide_eq_true_eq, ← hs, ← mul_rep h]
  constructor
  · intro x; rw [x]
  · intro x; exact Str.ext' (Array.toList_inj.mp x)
theorem rest_from {t : Int} (y : Str) (h : 1 ≤ t ∧ t < 4) : (Txt.slice y (some t) none).cps.toList = y.cps.toList.drop t.toNat := by
  have e : t = ((t.toNat : Nat) : Int) := by omega
  have hs := slice_from_nat y t.toNat
  rw [← e] at hs
  exact hs
theorem in_one (x : Str) (y : Str) (c : Nat) (h : y = ⟨#[c]⟩) : (!(Builtin.Str.occurrences x y 0 x.length 1).isEmpty) = x.cps.toList.contains c := by
  rw [h, found_one, Bool.eq_iff_iff, decide_eq_true_eq, List.contains_iff_mem]

theorem readF_len (ns : Tab) : ∀ (f : Nat) (x : List Nat), (readF ns f x).1.length ≤ x.length
  | 0, _ => Nat.zero_le _
  | _ + 1, [] => Nat.zero_le _
  | f + 1, c :: r => by
    simp only [readF, List.length_cons]
    have := readF_len ns f (r.drop ((tokL ns c r).2 - 1))
    simp at this
    omega
theorem rowOf_len (t : Nat) (r : List Nat) : (rowOf t r).2.length ≤ r.length := by
  unfold rowOf
  split <;> simp
theorem rowL_len (ns : Tab) (o t : Nat) (r : List Nat) : (rowL ns o t r).1.length ≤ r.length := Nat.le_trans (readF_len ns _ _) (rowOf_len t r)

theorem take_all {α : Type} (f : α → Bool) {ys : List α} {i : Nat} {y : α} (h : ys[i]? = some y) : (ys.take (i + 1)).all f = ((ys.take i).all f && f y) := by
  rw [List.take_add_one, h]; simp
theorem take_map {α β : Type} (f : α → β) {ys : List α} {i : Nat} {y : α} (h : ys[i]? = some y) : (ys.take (i + 1)).map f = (ys.take i).map f ++ [f y] := by
  rw [List.take_add_one, h]; simp

/-- heard, over the rows as texts -/
theorem heard_rows_eq {e o t : Nat} {page : List Nat} {ys : List Str} (hys : ys.map (fun y => y.cps.toList) = rowsL e o page) :
    heardL (nm e) (dueL e o) o t page = (joinL [10] (ys.map fun y => (rowL (nm e) o t y.cps.toList).1), ys.all fun y => (rowL (nm e) o t y.cps.toList).2) := by
  show (joinL [10] ((rowsL e o page).map fun r => (rowL (nm e) o t r).1), (rowsL e o page).all fun r => (rowL (nm e) o t r).2) = _
  rw [← hys, List.map_map, List.all_map]
  rfl
end Mine
end

theorem Mine.fresh_H1 : True := by (w_top off; first | (walk1; done) | trivial)
section
open PySem PySem.W PyProof.Rows PySem.Calls PyProof.V
set_option Elab.async false
namespace Mine

local macro_rules | `(tactic| walk_at "enter") => `(tactic| (
  (case kA => exact rfl); (case kF => exact rfl); (case kK => assumption); (case k1 => k_asm); (case k2 => k_asm); (case k3 => k_asm); (case k4 => k_asm); (case k5 => k_asm); (case k6 => k_is); (case k7 => k_is); (case k8 => ktr_room); (case k9 => exact rfl); (case c5 => decide); (case kB => exact locs rfl); (case c2 => exact rfl); (case c3 => exact rfl); (case c4 => exact rfl); k_whole))

local macro_rules | `(tactic| walk_at "call ref") => `(tactic| (k_here; k_dflt (first
  | (refine' ConH.use ?C ?B ?F ?X ?N ?T ?hk ?d ?u ?p ?_; (case B => k_asm); (case F => k_asm); (case X => k_asm); (case N => k_asm); (case T => k_asm); (case C => exact names_c _ _ (by assumption)); (case hk => first | exact rfl | assumption); (case d => ktr_room); (case u => ktr_units); (case p => exact True.intro); k_whole; intro v8 more8 h8 tk8 hr8 F8 N8 D8; obtain ⟨d8, o8, kvs8, hv8, hm8, lo8, hd8, hf8⟩ := hr8; subst hm8; subst hv8; rw [List.singleton_append] at N8; (try dsimp only); (try k_sweep); (try k_fold))
  | (refine' ConH.use ?C ?B ?F ?X ?N ?T ?hk ?d ?u ?p ?_; (case B => k_asm); (case F => k_asm); (case X => k_asm); (case N => k_asm); (case T => k_asm); (case C => exact due_c _ _ _ _ (by assumption) (by assumption)); (case hk => first | exact rfl | assumption); (case d => ktr_room); (case u => ktr_units); (case p => exact True.intro); k_whole; intro v8 more8 h8 tk8 hr8 F8 N8 D8; obtain ⟨hm8, z8, t8, hv8, hz8⟩ := hr8; subst hm8; subst hv8; rw [List.nil_append] at N8; (have hl8 := due_len8 hz8); (try dsimp only); (try k_sweep); (try k_fold))
  | (refine' ConH.use (read_c _ _ _ ?en ?om) ?B ?F ?X ?N ?T ?hk ?d ?u ?p ?_; (case B => k_asm); (case F => k_asm); (case X => k_asm); (case N => k_asm); (case T => k_asm); (case p => exact TabAt.ofNews (by k_asm) (by k_mem) (by assumption) (by assumption) (by assumption)); (case om => omega); (case hk => first | exact rfl | assumption); (case d => ktr_room); (case u => ktr_units); k_whole; intro v8 more8 h8 tk8 hr8 F8 N8 D8; obtain ⟨a8, sg8, ts8, b8, hv8, hm8, hsg8, hb8⟩ := hr8; subst hm8; subst hv8; rw [List.singleton_append] at N8; (try dsimp only); (try k_sweep); (try k_fold)))))
local macro_rules | `(tactic| walk_at "go") => `(tactic| first | walk1 | (dsimp only; walk1))
local macro_rules | `(tactic| walk_at "call builtin:str.split") => `(tactic| (k_here; k_dflt (refine' KSpl.split1 ?F ?N ?y ?_ ?z; (case F => k_asm); (case N => k_asm); (case y => exact due_ne (by assumption) (by assumption)); (case z => (have hz : sizeLine = 16777216 := (by decide); omega)); k_whole; intro D8 l8 h8 k8 e8 a8 F8 N8 L8; (try dsimp only); try k_sweep)))

def IsHeard (e order times : Nat) (page : Str) (v : Value) (more : List (Addr × Obj)) : Prop :=
  ∃ a z t b, v = .ref a ∧ more = [(a, { cls := .type "tuple", data := .seq #[.str z t, .bool b] })] ∧ z.cps.toList = (heardL (nm e) (dueL e order) order times page.cps.toList).1 ∧ b = (heardL (nm e) (dueL e order) order times page.cps.toList).2

/-- the frame's names behind the parting -/
structure PgAt (page : Str) (t te to tt : Tok) (e order times : Int) (l : Addr) (m : Str → Option Value) : Prop where
  mpage : m (Str.ofString "page") = some (.str page t)
  me : m (Str.ofString "e") = some (.int e te)
  morder : m (Str.ofString "order") = some (.int order to)
  mtimes : m (Str.ofString "times") = some (.int times tt)
  mrows : m (Str.ofString "rows") = some (.ref l)
theorem upd_frame' {h₀ h : Heap} {L : Addr} {m : Str → Option Value} {x : Str} {v : Value} (F : Fr h₀ L h m) (hv : m x = some v) : Fr h₀ L h (fun y => if y = x then some v else m y) := upd_frame F hv

theorem due_clash1 {z : Str} {e o : Nat} (hz : z = ⟨(dueL e o).toArray⟩) (h : dueL e o = []) (ha : (z != Str.ofString "") = true) : False := by
  rw [due_nil hz h] at ha; cases ha
theorem due_clash2 {z : Str} {e o : Nat} (hz : z = ⟨(dueL e o).toArray⟩) (h : dueL e o ≠ []) (ha : (z != Str.ofString "") = false) : False := by
  rw [due_not_nil hz h] at ha; cases ha
structure PgPost (s : Shared) (L' : Addr) (page : Str) (t te to tt : Tok) (e order times : Int) (h' : Heap) (l : Addr) (vs : List Value) (c : Nat) (ys : List Str) (m' : Str → Option Value) : Prop where
  fr : Fr s.heap L' h' m'
  nw : News s.heap L' h' [(l, listOf vs.toArray c)]
  sts : StrsAre vs ys
  rows : ys.map (fun y => y.cps.toList) = rowsL e.toNat order.toNat page.cps.toList
  pg : PgAt page t te to tt e order times l m'
def PgEnd (s : Shared) (L' : Addr) (page : Str) (t te to tt : Tok) (e order times : Int) (f : Flow) (s' : Shared) : Prop :=
  f = .next ∧ ∃ h' tk l vs c ys m', s' = { s with heap := h', toks := tk } ∧ PgPost s L' page t te to tt e order times h' l vs c ys m'

structure RwAt (e order times : Int) (te to tt : Tok) (lt : Addr) (ys : List Str) (i : Nat) (m : Str → Option Value) (o : Obj) (b : Bool) (vs : List Value) (c : Nat) (zs : List Str) : Prop where
  me : m (Str.ofString "e") = some (.int e te)
  morder : m (Str.ofString "order") = some (.int order to)
  mtimes : m (Str.ofString "times") = some (.int times tt)
  mtexts : m (Str.ofString "texts") = some (.ref lt)
  mfit : m (Str.ofString "fit") = some (.bool b)
  ob : o = listOf vs.toArray c
  sts : StrsAre vs zs
  tx : zs.map (fun y => y.cps.toList) = (ys.take i).map fun y => (rowL (nm e.toNat) order.toNat times.toNat y.cps.toList).1
  ok : b = (ys.take i).all fun y => (rowL (nm e.toNat) order.toNat times.toNat y.cps.toList).2
theorem RwAt.size {e order times : Int} {te to tt : Tok} {lt : Addr} {ys : List Str} {i : Nat} {m : Str → Option Value} {o : Obj} {b : Bool} {vs : List Value} {c : Nat} {zs : List Str} (R : RwAt e order times te to tt lt ys i m o b vs c zs) : vs.toArray.size ≤ ys.length := by
  have h1 := strsAre_length R.sts
  have h2 := congrArg List.length R.tx
  simp only [List.length_map, List.length_take] at h2
  rw [List.size_toArray]
  omega
theorem rows_len {e o : Nat} {page : Str} {ys : List Str} (hys : ys.map (fun y => y.cps.toList) = rowsL e o page.cps.toList) : ys.length ≤ page.length + 1 ∧ (ys.map (·.length)).sum ≤ page.length := by
  have := rows_sum e o page.cps.toList
  rw [← hys, List.map_map, List.length_map, Array.length_toList] at this
  refine ⟨this.2, ?_⟩
  have h2 : (List.length ∘ fun y : Str => y.cps.toList) = fun y : Str => y.length := by funext y; simp [Str.length]
  rw [h2] at this
  exact this.1
theorem sum_mem : ∀ {l : List Nat} {n : Nat}, n ∈ l → n ≤ l.sum
  | a :: l, n, h => by
    rw [List.sum_cons]
    rcases List.mem_cons.mp h with rfl | h
    · omega
    · have := sum_mem h; omega
theorem row_len {e o : Nat} {page : Str} {ys : List Str} (hys : ys.map (fun y => y.cps.toList) = rowsL e o page.cps.toList) {i : Nat} {y : Str} (hy : ys[i]? = some y) : y.length ≤ page.length :=
  Nat.le_trans (sum_mem (List.mem_map.mpr ⟨y, List.mem_of_getElem? hy, rfl⟩)) (rows_len hys).2

structure DtPost (s : Shared) (L' : Addr) (te to tt : Tok) (lt : Addr) (e order times : Int) (y : Str) (b : Bool) (news : List (Addr × Obj)) (h' : Heap) (rest : Str) (tr : Tok) (m : Str → Option Value) : Prop where
  fr : Fr s.heap L' h' m
  nw : News s.heap L' h' news
  me : m (Str.ofString "e") = some (.int e te)
  morder : m (Str.ofString "order") = some (.int order to)
  mtimes : m (Str.ofString "times") = some (.int times tt)
  mtexts : m (Str.ofString "texts") = some (.ref lt)
  mfit : m (Str.ofString "fit") = some (.bool (b && (rowOf times.toNat y.cps.toList).1))
  mrest : m (Str.ofString "rest") = some (.str rest tr)
  eq : rest.cps.toList = (rowOf times.toNat y.cps.toList).2
def DtEnd (s : Shared) (L' : Addr) (te to tt : Tok) (lt : Addr) (e order times : Int) (y : Str) (b : Bool) (news : List (Addr × Obj)) (f : Flow) (s' : Shared) : Prop :=
  f = .next ∧ ∃ h' tk rest tr m', s' = { s with heap := h', toks := tk } ∧ DtPost s L' te to tt lt e order times y b news h' rest tr m'
theorem DtPost.len {s : Shared} {L' : Addr} {te to tt : Tok} {lt : Addr} {e order times : Int} {y : Str} {b : Bool} {news : List (Addr × Obj)} {h' : Heap} {rest : Str} {tr : Tok} {m : Str → Option Value} {n : Nat} (D : DtPost s L' te to tt lt e order times y b news h' rest tr m) (hn : y.length ≤ n) : rest.length ≤ n := by
  have h1 := rowOf_len times.toNat y.cps.toList
  rw [← D.eq, Array.length_toList, Array.length_toList] at h1
  exact Nat.le_trans h1 hn

theorem occ_full {x : Str} {z : Str} {c : Nat} (hz : z = ⟨#[c]⟩) {v : Bool} (h : (Builtin.Str.occurrences x z 0 x.length 1).isEmpty = v) : x.cps.toList.contains c = !v := by
  rw [← in_one x z c hz, h]
theorem cr_one : Str.ofString "\r" = ⟨#[13]⟩ := by decide +kernel
theorem lf_one : Str.ofString "\n" = ⟨#[10]⟩ := by decide +kernel
section
variable {b r b8 : Bool} {x : Str}
theorem fv_keep (hb : b8 = true) (h13 : (Builtin.Str.occurrences x (Str.ofString "\r") 0 x.length 1).isEmpty = true) (h10 : (Builtin.Str.occurrences x (Str.ofString "\n") 0 x.length 1).isEmpty = true) : (b && r) = (b && (r && (b8 && (!x.cps.toList.contains 13 && !x.cps.toList.contains 10)))) := by
  rw [hb, occ_full cr_one h13, occ_full lf_one h10]; simp
theorem fv_10 (h10 : (Builtin.Str.occurrences x (Str.ofString "\n") 0 x.length 1).isEmpty = false) : false = (b && (r && (b8 && (!x.cps.toList.contains 13 && !x.cps.toList.contains 10)))) := by
  rw [occ_full lf_one h10]; simp
theorem fv_13 (h13 : (Builtin.Str.occurrences x (Str.ofString "\r") 0 x.length 1).isEmpty = false) : false = (b && (r && (b8 && (!x.cps.toList.contains 13 && !x.cps.toList.contains 10)))) := by
  rw [occ_full cr_one h13]; simp
theorem fv_b (hb : b8 = false) : false = (b && (r && (b8 && (!x.cps.toList.contains 13 && !x.cps.toList.contains 10)))) := by
  rw [hb]; simp
end
theorem row_end {s s1 : Shared} {L' lt : Addr} {own : List (Addr × Obj)} {e order times : Int} {te to tt ts : Tok} {ys zs : List Str} {vs1 : List Value} {c1 i : Nat} {y rest sg seen : Str} {b b8 fv : Bool} {h' : Heap} {tk : Nat} {m' : Str → Option Value} {Q : Flow → Shared → Prop}
    (hy : ys[i]? = some y) (r7 : StrsAre vs1 zs)
    (r8 : zs.map (fun y => y.cps.toList) = (ys.take i).map fun y => (rowL (nm e.toNat) order.toNat times.toNat y.cps.toList).1)
    (r9 : b = (ys.take i).all fun y => (rowL (nm e.toNat) order.toNat times.toNat y.cps.toList).2)
    (d7 : rest.cps.toList = (rowOf times.toNat y.cps.toList).2) (hsg : sg.cps.toList = (readL (nm e.toNat) rest.cps.toList).1) (hb8 : b8 = (readL (nm e.toNat) rest.cps.toList).2)
    (hseen : (order.toNat = 1 ∧ seen = sg) ∨ (order.toNat ≠ 1 ∧ seen = rest))
    (hfv : fv = (b && ((rowOf times.toNat y.cps.toList).1 && (b8 && (!seen.cps.toList.contains 13 && !seen.cps.toList.contains 10)))))
    (f1 : m' (Str.ofString "e") = some (.int e te)) (f2 : m' (Str.ofString "order") = some (.int order to)) (f3 : m' (Str.ofString "times") = some (.int times tt)) (f4 : m' (Str.ofString "texts") = some (.ref lt)) (f5 : m' (Str.ofString "fit") = some (.bool fv))
    (F : Fr s.heap L' h' m') (N : News s.heap L' h' ((lt, listOf (vs1.toArray.push (.str sg ts)) (c1 + 1)) :: own)) :
    RowPost s.heap L' (fun m₁ o₁ => ∃ b vs c zs, RwAt e order times te to tt lt ys (i + 1) m₁ o₁ b vs c zs) lt own s1 Q .next { s1 with heap := h', toks := tk } := by
  have hrow : (sg.cps.toList, (rowOf times.toNat y.cps.toList).1 && (b8 && (!seen.cps.toList.contains 13 && !seen.cps.toList.contains 10))) = rowL (nm e.toNat) order.toNat times.toNat y.cps.toList := by
    unfold rowL
    simp only
    rw [← d7, ← hsg, ← hb8]
    rcases hseen with ⟨h1, rfl⟩ | ⟨h1, rfl⟩
    · rw [if_pos h1]
    · rw [if_neg h1]
  refine ⟨h', tk, m', _, rfl, F, N, fv, vs1 ++ [.str sg ts], c1 + 1, zs ++ [sg], f1, f2, f3, f4, f5, ?_, strsAre_append r7 (.cons _ _ .nil), ?_, ?_⟩
  · rw [List.push_toArray]
  · rw [take_map _ hy, ← hrow, List.map_append, r8]; rfl
  · rw [take_all _ hy, ← hrow, ← r9, hfv]
theorem sum_le_sum {α : Type} {f g : α → Nat} (h : ∀ a, f a ≤ g a) : ∀ l : List α, (l.map f).sum ≤ (l.map g).sum
  | [] => Nat.le_refl _
  | a :: l => by
    have := sum_le_sum h l
    have := h a
    simp only [List.map_cons, List.sum_cons]
    omega
theorem heard_sum {e o t : Nat} {ns : Tab} {page : Str} {ys zs : List Str} (hys : ys.map (fun y => y.cps.toList) = rowsL e o page.cps.toList)
    (hz : zs.map (fun y => y.cps.toList) = ys.map fun y => (rowL ns o t y.cps.toList).1) : (zs.map (·.length)).sum ≤ page.length ∧ zs.length ≤ page.length + 1 := by
  have h0 := rows_len hys
  have h1 : zs.map (·.length) = ys.map fun y => (rowL ns o t y.cps.toList).1.length := by
    have := congrArg (List.map List.length) hz
    rw [List.map_map, List.map_map] at this
    simpa [Function.comp_def, Str.length] using this
  have h2 := congrArg List.length h1
  simp only [List.length_map] at h2
  have h3 : (ys.map fun y => (rowL ns o t y.cps.toList).1.length).sum ≤ (ys.map (·.length)).sum := sum_le_sum (fun y => by have := rowL_len ns o t y.cps.toList; simpa [Str.length] using this) ys
  rw [h1]
  exact ⟨Nat.le_trans h3 h0.2, by omega⟩
section
variable {prog : Program} {w : World} {A : Around} {E : Value → Shared → Prop} {s : Shared} {h₀ : Heap} {L : Addr} {news : List (Addr × Obj)} {Q : Value → Shared → Prop}
theorem join_row {D : Addr} {vs : List Value} {c : Nat} {ys : List Str} {x : Str} {t : Tok} (N : News h₀ L s.heap news) (hm : (D, listOf vs.toArray c) ∈ news) (hi : StrsAre vs ys) (hok : (ys.map (·.length)).sum + ys.length * x.length ≤ 16777216)
    (h : ∀ t' k, Q (.str (Txt.join x ys) t') { s with toks := k }) : wpAny (model prog w) A (call (.builtin "str.join") [.str x t, .ref D]) Q E s :=
  join_list ⟨_, (N _ hm).1, rfl, c, rfl⟩ hi hok h
end
local macro_rules | `(tactic| walk_at "call builtin:list.append") => `(tactic| (k_here; k_dflt (refine' append_row ?o ?F ?N ?hm ?hown ?hz ?_; (case o => assumption); (case F => k_asm); (case N => k_asm); (case hm => exact .tail _ (.tail _ (.head _))); (case hown => exact fun p hp => .tail _ (.tail _ (.tail _ hp))); (case hz => omega); k_whole; intro h8 F8 N8; (try dsimp only); (try k_sweep))))

theorem lf_len : (Str.ofString "\n").length = 1 := by decide +kernel
local macro_rules | `(tactic| walk_at "call builtin:str.join") => `(tactic| (k_here; k_dflt (refine' join_row ?N ?hm ?hi ?ho ?_; (case N => k_asm); (case hm => k_mem); (case hi => assumption); (case ho => (rw [lf_len]; omega)); k_whole; intro t8 k8; (try dsimp only); (try k_sweep))))
set_option maxRecDepth 100000 in
set_option maxHeartbeats 4000000 in
theorem heard_c {w p loose mean mg mb} (page : Str) (t te to tt : Tok) (e order times : Int) (he : 0 ≤ e ∧ e < 5) (ho : 0 ≤ order ∧ order < 2) (ht : 1 ≤ times ∧ times < 4) (hpage : page.length ≤ 100000) :
   ConH Challenge.rw_pe0099_01.row.prog w (hd.heap_39 w.params) p loose mean mg mb 139 2 16 [.str page t, .int e te, .int order to, .int times tt] (fun _ => True) (IsHeard e.toNat order.toNat times.toNat page) := by
  k_fill
  unfold ConH
  intro dp un gd cn cs a ccd cl outer A₀ base h₀ L m news s Q E B F X N T hk hdp hun _ hret
  refine wpAny_call ?_
  k_dflt (refine' code_defN [(Str.ofString "page", .str page t), (Str.ofString "e", .int e te), (Str.ofString "order", .int order to), (Str.ofString "times", .int times tt)] ?k1 ?k2 ?k3 ?k4 ?k5 ?kA ?kF ?kK ?k6 ?k7 ?k8 ?k9 ?kB ?_ ?c2 ?c3 ?c4 ?c5; walk_at "enter")
  intro L' h' F' N' B' X' T'
  dsimp only
  k_fold
  iterate 11 walk_at "go"
  rename Fr _ _ _ _ => F1
  rename News _ _ _ _ => N1
  have hl : page.length ≤ 100000 := hpage
  refine wpAny_mono (Q := PgEnd s L' page t te to tt e order times) ?_ ?_ (fun _ _ x => x)
  · by_cases hdue : dueL e.toNat order.toNat = []
    · k_steps
      · rename ((_ != _) = true) => ha
        exact (due_clash1 (by assumption) hdue ha).elim
      · rename Fr _ _ _ _ => F9
        rename News _ _ _ _ => N9
        refine ⟨rfl, _, _, _, [.str page t], 0, [page], _, rfl, F9, N9, .cons _ _ .nil, ?_, rfl, rfl, rfl, rfl, rfl⟩
        unfold rowsL; rw [if_pos hdue]; rfl
    · k_steps
      · rename Fr _ _ _ _ => F9
        rename News _ _ _ _ => N9
        refine ⟨rfl, _, _, _, _, 0, _, _, rfl, F9, (fun p hp => N9 p (by rw [List.mem_singleton.mp hp]; exact .head _)), strsAre_of_values _, rows_split (by assumption) hdue (by assumption), rfl, rfl, rfl, rfl, rfl⟩
      · rename ((_ != _) = false) => ha
        exact (due_clash2 (by assumption) hdue ha).elim
  · rintro f s' ⟨rfl, h9, tk9, l, vs, c, ys, m9, rfl, P⟩
    have H1 := upd_frame P.fr (x := Str.ofString "page") P.pg.mpage
    have H2 := upd_frame H1 (x := Str.ofString "e") P.pg.me
    have H3 := upd_frame H2 (x := Str.ofString "order") P.pg.morder
    have H4 := upd_frame H3 (x := Str.ofString "times") P.pg.mtimes
    have H5 := upd_frame H4 (x := Str.ofString "rows") P.pg.mrows
    have N9 := P.nw
    clear F1 N1 H1 H2 H3 H4
    dsimp only
    iterate 12 walk_at "go"
    rename Fr _ _ _ _ => FX
    rename News _ _ _ _ => NX
    rename (l < _) => hll
    rename_i lt hx1 hx2
    refine For_invV s.heap rfl rfl (ld FX rfl ?_)
    refine iter_rows (fun i m₁ o₁ => ∃ b vs c zs, RwAt e order times te to tt _ ys i m₁ o₁ b vs c zs) rfl FX NX (Nat.ne_of_gt hll) P.sts ⟨true, [], 0, [], rfl, rfl, rfl, rfl, rfl, rfl, .nil, rfl, rfl⟩ ?_ ?_
    · rintro i y ty m₁ o₁ h tk own hy ⟨b, vs1, c1, zs, R⟩ hoff F2 N2
      replace F2 : Fr s.heap L' h _ := F2
      replace N2 : News s.heap L' h _ := N2
      have hyl := row_len P.rows hy
      have hys := rows_len P.rows
      have hzs := R.size
      obtain ⟨r1, r2, r3, r4, r5, r6, r7, r8, r9⟩ := R
      subst r6
      have H1 := upd_frame F2 (x := Str.ofString "e") r1
      have H2 := upd_frame H1 (x := Str.ofString "order") r2
      have H3 := upd_frame H2 (x := Str.ofString "times") r3
      have H4 := upd_frame H3 (x := Str.ofString "texts") r4
      have H5 := upd_frame H4 (x := Str.ofString "fit") r5
      clear F2 H1 H2 H3 H4 FX NX
      iterate 5 walk_at "go"
      rename Fr _ _ _ _ => F3
      rename News _ _ _ _ => N3
      have hyl' : y.length ≤ 100000 := by omega
      refine wpAny_mono (Q := DtEnd s L' te to tt lt e order times y b ((lt, listOf vs1.toArray c1) :: own)) ?_ ?_ (fun _ _ x => x)
      · k_steps
        · rename Fr _ _ _ _ => F9
          rename News _ _ _ _ => N9
          rename ((_ == _) = true) => ha
          rename ((_ != _) = true) => hb
          rw [head_dot, decide_eq_true_eq] at ha
          rw [dots_ne _ ht] at hb
          have hq : (b && (rowOf times.toNat y.cps.toList).1) = false := by unfold rowOf; rw [if_pos ha]; simp at hb; simp [hb]
          refine ⟨rfl, _, _, _, _, _, rfl, F9, N9, rfl, rfl, rfl, rfl, by rw [hq]; rfl, rfl, ?_⟩
          unfold rowOf; rw [if_pos ha]; exact rest_from y ht
        · rename Fr _ _ _ _ => F9
          rename News _ _ _ _ => N9
          rename ((_ == _) = true) => ha
          rename ((_ != _) = false) => hb
          rw [head_dot, decide_eq_true_eq] at ha
          rw [dots_ne _ ht] at hb
          have hq : (b && (rowOf times.toNat y.cps.toList).1) = b := by unfold rowOf; rw [if_pos ha]; simp at hb; simp [hb]
          refine ⟨rfl, _, _, _, _, _, rfl, F9, N9, rfl, rfl, rfl, rfl, by rw [hq]; rfl, rfl, ?_⟩
          unfold rowOf; rw [if_pos ha]; exact rest_from y ht
        · rename Fr _ _ _ _ => F9
          rename News _ _ _ _ => N9
          rename ((_ == _) = false) => ha
          rw [head_dot, decide_eq_false_iff_not] at ha
          have hq : (b && (rowOf times.toNat y.cps.toList).1) = b := by unfold rowOf; rw [if_neg ha]; simp
          refine ⟨rfl, _, _, _, _, _, rfl, F9, N9, rfl, rfl, rfl, rfl, by rw [hq]; rfl, rfl, ?_⟩
          unfold rowOf; rw [if_neg ha]
      · rintro f s' ⟨rfl, h9, tk9, rest, tr, m9, rfl, D⟩
        have hrl : rest.length ≤ 100000 := D.len hyl'
        obtain ⟨F9, N9, d1, d2, d3, d4, d5, d6, d7⟩ := D
        have H1 := upd_frame F9 (x := Str.ofString "e") d1
        have H2 := upd_frame H1 (x := Str.ofString "order") d2
        have H3 := upd_frame H2 (x := Str.ofString "times") d3
        have H4 := upd_frame H3 (x := Str.ofString "texts") d4
        have H5 := upd_frame H4 (x := Str.ofString "fit") d5
        have H6 := upd_frame H5 (x := Str.ofString "rest") d6
        clear F9 H1 H2 H3 H4 H5 F3 N3
        dsimp only
        k_steps
        all_goals rename Fr _ _ _ _ => F9
        all_goals rename News _ _ _ _ => N9
        all_goals exact row_end hy r7 r8 r9 d7 (by assumption) (by assumption) (by first | exact .inl ⟨by omega, rfl⟩ | exact .inr ⟨by omega, rfl⟩) (by first | exact fv_keep (by assumption) (by assumption) (by assumption) | exact fv_10 (by assumption) | exact fv_13 (by assumption) | exact fv_b (by assumption)) rfl rfl rfl rfl rfl F9 N9
    · rintro m1 o1 h tk ⟨b, vs1, c1, zs, R⟩ F2 N2
      obtain ⟨r1, r2, r3, r4, r5, r6, r7, r8, r9⟩ := R
      subst r6
      rw [List.take_length] at r8 r9
      have H4 : Fr s.heap L' h _ := upd_frame F2 (x := Str.ofString "texts") r4
      have H5 : Fr s.heap L' h _ := upd_frame H4 (x := Str.ofString "fit") r5
      replace N2 : News s.heap L' h _ := N2
      clear F2 H4 FX NX
      have hsum := heard_sum P.rows r8
      k_steps
      refine leaveN_ref (by k_asm) (by k_asm) (by k_mem) ?_
      intro F9 N9 D9
      refine hret _ _ _ _ ?_ F9 N9 D9
      refine ⟨_, _, _, b, rfl, rfl, ?_, ?_⟩
      · rw [heard_rows_eq P.rows, join_list_eq, r8]; rfl
      · rw [heard_rows_eq P.rows, r9]
end Mine
end

theorem Mine.fresh_Cm : True := by (w_top off; first | (walk1; done) | trivial)
section
open PySem PySem.W PyProof.Rows PySem.Calls PyProof.V
open PyProof.Rows.LCg (lst lst_snoc)
set_option Elab.async false
namespace Mine

def IntV (v : Value) : Prop := ∃ n t, v = .int n t

section
variable {prog : Program} {w : World} {A : Around} {E : Value → Shared → Prop} {s : Shared} {env : Env} {h₀ : Heap}

theorem enum_loop {elt iter : PySem.Expr} {a b : Str} {pa pb tp : Pos} {kk : Nat} {scope : Scope} {cl : List (Str × Addr)} {pos : Pos} {e it l D C : Addr} {items : Array Value} {old : Value} {m : Str → Option Value} {R : Result → Shared → Prop}
    (hh : A.handled = none) (hei : e ≠ it) (hle : l ≠ e) (hli : l ≠ it) (hCe : C ≠ e) (hCi : C ≠ it) (hCl : C ≠ l) (hDe : D ≠ e) (hDi : D ≠ it) (hDl : D ≠ l) (hDC : D ≠ C) (hsz : items.size ≤ sizeLine)
    (hkind : scope.kind = .function) (hxa : scope.names.lookup a = some .local) (hxb : scope.names.lookup b = some .local) (hab : a ≠ b)
    (he : IsEnum s.heap e it 0 old) (hit : s.heap.IsListIter it l 0) (hl : s.heap.IsList l items) (hn : s.heap.Ns C m) (hD : s.heap.get? D = some (lst []))
    (turn : ∀ (i : Nat) v t s₂ m₂ (E' : Value → Shared → Prop), items[i]? = some v → s₂.heap.Ns C m₂ → m₂ a = some (.int (i : Int) t) → m₂ b = some v → (∀ c o, c ≠ C → c ≠ D → c ≠ e → c ≠ it → s.heap.get? c = some o → s₂.heap.get? c = some o) →
      wpAny (model prog w) A (eval elt (compEnvC scope cl C env)) (fun y s₃ => IntV y ∧ Keeps s₂ s₃) E' s₂)
    (hR : ∀ h tk ys m', h.Ns C m' → h.get? D = some (lst ys) → ys.length = items.size → (∀ y ∈ ys, IntV y) → (∀ c o, c ≠ C → c ≠ D → c ≠ e → c ≠ it → s.heap.get? c = some o → h.get? c = some o) → R (.ok .next) { s with heap := h, toks := tk }) :
    codeAny (model prog w) A (.compLoop (.ListComp elt [⟨.Tuple [.Name a pa, .Name b pb] kk tp, iter, [], 0⟩] scope pos) 0 (.ref e) (.ref D) (compEnvC scope cl C env)) R s := by
  refine kcp_loop (fun k s' => ∃ h' tk i ys m' old, s' = { s with heap := h', toks := tk } ∧ i ≤ items.size ∧ k = items.size + 1 - i ∧ ys.length = i ∧ (∀ y ∈ ys, IntV y) ∧ IsEnum h' e it (i : Nat) old ∧ h'.IsListIter it l i ∧ h'.IsList l items ∧ h'.Ns C m' ∧ h'.get? D = some (lst ys) ∧
      ∀ c o, c ≠ C → c ≠ D → c ≠ e → c ≠ it → s.heap.get? c = some o → h'.get? c = some o) ?_ (items.size + 1)
    ⟨s.heap, s.toks, 0, [], m, old, rfl, Nat.zero_le _, rfl, rfl, (fun _ h => nomatch h), he, hit, hl, hn, hD, fun _ _ _ _ _ _ x => x⟩
  rintro k s' ⟨h', tk, i, ys, m', old', rfl, hi, rfl, hyl, hyi, he', hit', hl', hn', hD', keep⟩
  by_cases hlt : i < items.size
  · have hx : items[i]? = some items[i] := Array.getElem?_eq_getElem hlt
    refine wpAny_pyNext_enum_item he' hit' hl' hx hei fun h₁ ho hit₁ hT hsz₁ hk₁ => ?_
    dsimp only
    refine wpAny_letOwnedTupleGo_enum ho fun h₂ he₂ hs₂ => ?_
    have hTe : h'.objs.size ≠ e := Nat.ne_of_gt (Heap.lt_size he')
    have up₂ : ∀ c o, c ≠ e → c ≠ it → h'.get? c = some o → h₂.get? c = some o := fun c o h1 h2 x => (hs₂.2 c h1).trans (hk₁ c o h1 h2 x)
    refine kcp_assign (m := m') hh (x := .int (i : Int) tk) (y := items[i]) ⟨_, (hs₂.2 _ hTe).trans hT, rfl, _, rfl⟩ (lookup_relabel_local hxa) (lookup_relabel_local hxb) (by simp [compEnvC, relabel, hkind]) (hn'.at' fun o x => up₂ _ o hCe hCi x) fun h₃ tk₃ hn₃ hk₃ => ?_
    have up₃ : ∀ c o, c ≠ C → c ≠ e → c ≠ it → h'.get? c = some o → h₃.get? c = some o := fun c o h0 h1 h2 x => hk₃ c o h0 (up₂ c o h1 h2 x)
    refine wpAny_mono (turn i items[i] tk _ _ _ hx hn₃ (by simp [hab]) (by simp) fun c o h1 h2 h3 h4 x => up₃ c o h1 h3 h4 (keep c o h1 h2 h3 h4 x)) (fun y s₄ h₄ => ?_) fun _ _ x => x
    obtain ⟨hy, h₄, tk₄, rfl, hk₄⟩ := h₄
    refine append_at (hsz := by show ys.toArray.size ≤ sizeLine; rw [List.size_toArray, hyl]; omega) (hk₄ _ _ (up₃ D _ hDC hDe hDi hD')) fun h₅ hs₅ hD₅ => ?_
    refine ⟨items.size + 1 - (i + 1), by omega, h₅, tk₄, i + 1, ys ++ [y], (fun z => if z = b then some items[i] else if z = a then some (.int (i : Int) tk) else m' z), items[i], rfl, hlt, rfl, by rw [List.length_append, List.length_singleton, hyl], ?_, ?_, ?_, ?_, ?_, hD₅.trans (congrArg some (lst_snoc ys y)), ?_⟩
    · intro z hz
      rcases List.mem_append.mp hz with hz | hz
      · exact hyi z hz
      · rw [List.mem_singleton.mp hz]; exact hy
    · exact hs₅.extBut _ _ (Ne.symm hDe) (hk₄ _ _ (hk₃ _ _ (Ne.symm hCe) he₂))
    · refine hit₁.at fun o x => hs₅.extBut _ _ (Ne.symm hDi) (hk₄ _ _ (hk₃ _ _ (Ne.symm hCi) ((hs₂.2 it (Ne.symm hei)).trans x)))
    · exact hl'.at fun o x => hs₅.extBut _ _ (Ne.symm hDl) (hk₄ _ _ (up₃ _ _ (Ne.symm hCl) hle hli x))
    · exact (hn₃.keeps hk₄).sameBut hs₅ (Ne.symm hDC)
    · exact fun c o h1 h2 h3 h4 x => hs₅.extBut _ _ h2 (hk₄ _ _ (up₃ c o h1 h3 h4 (keep c o h1 h2 h3 h4 x)))
  · obtain rfl : i = items.size := Nat.le_antisymm hi (Nat.not_lt.mp hlt)
    refine wpAny_pyNext_enum_end hh he' hit' hl' (Array.getElem?_eq_none (Nat.le_refl _)) fun h₁ hx₁ => ?_
    exact hR h₁ tk ys m' (hn'.at' fun o x => hx₁ _ o hCi x) (hx₁ _ _ hDi hD') hyl hyi fun c o h1 h2 h3 h4 x => hx₁ _ _ h4 (keep c o h1 h2 h3 h4 x)

/-- what is asked behind the making of the enumeration -/
structure EnumAt (prog : Program) (w : World) (A : Around) (h₀ : Heap) (env : Env) (elt : PySem.Expr) (a b y : Str) (scope : Scope) (cl : List (Str × Addr)) (Q : Flow → Shared → Prop) (s₁ : Shared) (e it l : Addr) (items : Array Value) (old : Value) (m : Str → Option Value) (news : List (Addr × Obj)) : Prop where
  hei : e ≠ it
  hle : l ≠ e
  hli : l ≠ it
  hsz : items.size ≤ sizeLine
  he : IsEnum s₁.heap e it 0 old
  hit : s₁.heap.IsListIter it l 0
  hl : s₁.heap.IsList l items
  fr : Fr h₀ env.locals s₁.heap m
  nw : News h₀ env.locals s₁.heap news
  oe : h₀.get? e = none
  oi : h₀.get? it = none
  Le : env.locals ≠ e
  Li : env.locals ≠ it
  off : ∀ p ∈ news, p.1 ≠ e ∧ p.1 ≠ it
  turn : ∀ C (i : Nat) v t s₂ m₂ (E' : Value → Shared → Prop), items[i]? = some v → s₂.heap.Ns C m₂ → m₂ a = some (.int (i : Int) t) → m₂ b = some v → (∀ c o, c ≠ e → c ≠ it → s₁.heap.get? c = some o → s₂.heap.get? c = some o) →
      wpAny (model prog w) A (eval elt (compEnvC scope cl C env)) (fun y s₃ => IntV y ∧ Keeps s₂ s₃) E' s₂
  fin : ∀ D h tk ys, Fr h₀ env.locals h (fun z => if z = y then some (.ref D) else m z) → News h₀ env.locals h ((D, lst ys) :: news) → (∀ p ∈ news, p.1 < D) → ys.length = items.size → (∀ y ∈ ys, IntV y) → Q .next { s₁ with heap := h, toks := tk }
def EnumSrc (prog : Program) (w : World) (A : Around) (h₀ : Heap) (env : Env) (elt : PySem.Expr) (a b y : Str) (scope : Scope) (cl : List (Str × Addr)) (Q : Flow → Shared → Prop) (xv : Value) (s₁ : Shared) : Prop :=
  ∃ e it l items old m news, xv = .ref e ∧ EnumAt prog w A h₀ env elt a b y scope cl Q s₁ e it l items old m news

theorem asg_enum {elt iter : PySem.Expr} {a b y : Str} {pa pb tp py : Pos} {kk : Nat} {scope : Scope} {cl : List (Str × Addr)} {pos spos : Pos} {Q : Flow → Shared → Prop} {m₀ : Str → Option Value} (_F₀ : Fr h₀ env.locals s.heap m₀) (hh : A.handled = none)
    (hsw : swapsWith (.ListComp elt [⟨.Tuple [.Name a pa, .Name b pb] kk tp, iter, [], 0⟩] scope pos) (some (.Name y py)) spos.line env = pure true)
    (hclos : closureFor scope env = pure cl) (hcell : ∀ z ∈ scope.names, z.2 ≠ .cell) (hkind : scope.kind = .function)
    (hnames : ∀ z ∈ scope.names, z.2 = .local → scope.names.lookup z.1 = some .local) (hxa : scope.names.lookup a = some .local) (hxb : scope.names.lookup b = some .local) (hab : a ≠ b)
    (hy : env.kindOf y = some .local) (hp : (env.scope.kind == .class || (env.scope.kind == .module && env.locals != env.globals)) = false)
    (h : wpAny (model prog w) A (eval iter env) (EnumSrc prog w A h₀ env elt a b y scope cl Q) E s)
    (hs : ∀ x, foldedSetIterable iter env x = pure x := by intro _; rfl) :
    wpAny (model prog w) A (exec (.Assign [.Name y py] (.ListComp elt [⟨.Tuple [.Name a pa, .Name b pb] kk tp, iter, [], 0⟩] scope pos) spos) env) Q E s := by
  rw [exec_Assign_Name_used _ _ _ _ hsw]
  refine wpAny_bind (wpAny_standAt (wpAny_bind ?_))
  show wpAny _ A (do let _ ← comprehension (.ListComp elt [⟨.Tuple [.Name a pa, .Name b pb] kk tp, iter, [], 0⟩] scope pos) scope env _ (newList []) false (eval iter env) (some (assign (.Name y py) env))) _ _ s
  refine wpAny_bind (wpAny_mono (wpAny_comprehension_free (use := some (assign (.Name y py) env)) (Q := fun _ s' => Q .next s') rfl hs hclos hkind hnames
    (wpAny_mono h (fun xv s₁ h₁ => ?_) fun _ _ e => e)) (fun _ s' hq => wpAny_pure (wpAny_pure hq)) fun _ _ e => e)
  obtain ⟨e, it, l, items, old, m, news, rfl, X⟩ := h₁
  refine wpAny_pyIter_enum X.he ?_
  refine wpAny_newObj_type (wpAny_newFunctionEnv hcell (by intro y hy; simp at hy) (fun h₁ hns₁ hsb₁ => ?_) hkind)
  dsimp only at hns₁ hsb₁ ⊢
  generalize hH2 : s₁.heap.push { cls := .type "list", dict := none, data := .seq ([] : List Value).toArray } = H2 at hns₁ hsb₁ ⊢
  have hC : H2.objs.size = s₁.heap.objs.size + 1 := by rw [← hH2, Heap.size_push]
  have hDC : s₁.heap.objs.size ≠ H2.objs.size := by rw [hC]; exact Nat.ne_of_lt (Nat.lt_succ_self _)
  have below : ∀ b, b < s₁.heap.objs.size → b ≠ H2.objs.size ∧ b ≠ s₁.heap.objs.size := fun b hb => ⟨by rw [hC]; exact Nat.ne_of_lt (Nat.lt_succ_of_lt hb), Nat.ne_of_lt hb⟩
  have old' : ∀ b o, s₁.heap.get? b = some o → h₁.get? b = some o := fun b o e => hsb₁.extBut b o (below b (Heap.lt_size e)).1 (Heap.get?_push_of_some _ (hH2 ▸ Heap.get?_push_of_some _ e))
  have hacc : h₁.get? s₁.heap.objs.size = some (lst []) := hsb₁.extBut _ _ hDC (Heap.get?_push_of_some _ (hH2 ▸ Heap.get?_push_size _ rfl))
  have lte := below e (Heap.lt_size X.he)
  have lti := below it (by obtain ⟨_, q, _⟩ := X.hit; exact Heap.lt_size q)
  have ltl := below l (by obtain ⟨_, q, _⟩ := X.hl; exact Heap.lt_size q)
  have ltL := below env.locals X.fr.ns.lt
  have fresh₀ : ∀ c, s₁.heap.objs.size ≤ c → h₀.get? c = none := fun c hc => by
    cases q : h₀.get? c with
    | none => rfl
    | some o => exact absurd (Heap.lt_size (X.fr.keep c o q)) (Nat.not_lt.mpr hc)
  have hC₀ : h₀.get? H2.objs.size = none := fresh₀ _ (by rw [hC]; exact Nat.le_succ _)
  have hD₀ : h₀.get? s₁.heap.objs.size = none := fresh₀ _ (Nat.le_refl _)
  have loop : ∀ s₃ : Shared, s₃ = { s₁ with heap := h₁, toks := s₁.toks + ([] : List (Str × Value)).length } →
      codeAny (model prog w) A (.compLoop (.ListComp elt [⟨.Tuple [.Name a pa, .Name b pb] kk tp, iter, [], 0⟩] scope pos) 0 (.ref e) (.ref s₁.heap.objs.size) (compEnvC scope cl H2.objs.size env))
        (compPost (model prog w) A E (some (assign (.Name y py) env)) (fun _ s' => Q .next s') (.ref s₁.heap.objs.size) H2.objs.size) s₃ := by
    rintro s₃ rfl
    refine enum_loop hh X.hei X.hle X.hli (Ne.symm lte.1) (Ne.symm lti.1) (Ne.symm ltl.1) (Ne.symm lte.2) (Ne.symm lti.2) (Ne.symm ltl.2) hDC X.hsz hkind hxa hxb hab (old' _ _ X.he) (X.hit.at fun o q => old' _ o q) (X.hl.at fun o q => old' _ o q) hns₁ hacc ?_ ?_
    · intro i v t s₂ m₂ E' hv hn h1 h2 hk
      exact X.turn _ i v t s₂ m₂ E' hv hn h1 h2 fun c o n1 n2 q => hk c o (below c (Heap.lt_size q)).1 (below c (Heap.lt_size q)).2 n1 n2 (old' c o q)
    · intro h tk ys m' hn hD hyl hyi hk
      have up : ∀ c o, c ≠ e → c ≠ it → s₁.heap.get? c = some o → h.get? c = some o := fun c o n1 n2 q => hk c o (below c (Heap.lt_size q)).1 (below c (Heap.lt_size q)).2 n1 n2 (old' c o q)
      show wpAny _ A (assign (.Name y py) env (.ref _)) _ _ _
      have F' : Fr h₀ env.locals h m := ⟨X.fr.ns.at' fun o q => up _ o X.Le X.Li q, fun c o q => up c o (fun z => by rw [z, X.oe] at q; cases q) (fun z => by rw [z, X.oi] at q; cases q) (X.fr.keep c o q), X.fr.above⟩
      have N' : News h₀ env.locals h ((s₁.heap.objs.size, lst ys) :: news) := fun p hp => by
        rcases List.mem_cons.mp hp with rfl | hp
        · exact ⟨hD, Ne.symm ltL.2, hD₀⟩
        · exact ⟨up _ _ (X.off p hp).1 (X.off p hp).2 (X.nw p hp).1, (X.nw p hp).2⟩
      refine wpAny_assign_Name (wpAny_storeName_local hy F'.ns (fun h₂ hn₂ hs₂ => ?_) hp)
      have hL₀ : h₀.get? env.locals = none := Heap.get?_none_of_le F'.above
      have F₂ : Fr h₀ env.locals h₂ (fun z => if z = y then some (.ref s₁.heap.objs.size) else m z) := ⟨hn₂, fun b o q => hs₂.extBut b o (fun z => by rw [z, hL₀] at q; cases q) (F'.keep b o q), F'.above⟩
      refine ⟨m', hn.sameBut hs₂ (Ne.symm ltL.1), fun h'' hs'' => X.fin s₁.heap.objs.size h'' _ ys (F₂.change hs'' (Ne.symm ltL.1) hC₀) (fun p hp => ?_) (fun p hp => Heap.lt_size (X.nw p hp).1) hyl hyi⟩
      have z : h₂.get? p.1 = some p.2 := hs₂.extBut _ _ (N' p hp).2.1 (N' p hp).1
      refine ⟨hs''.extBut _ _ ?_ z, (N' p hp).2⟩
      rcases List.mem_cons.mp hp with rfl | hp
      · exact hDC
      · exact (below _ (Heap.lt_size (X.nw p hp).1)).1
  exact codeAny_compStart_list (loop _ rfl) (wpAny_pyIter_enum (old' _ _ X.he) (loop _ rfl))

theorem call_enum {elt : PySem.Expr} {a b y : Str} {scope : Scope} {cl : List (Str × Addr)} {Q : Flow → Shared → Prop} {l : Addr} {items : Array Value} {c : Nat} {m : Str → Option Value} {news : List (Addr × Obj)}
    (F : Fr h₀ env.locals s.heap m) (N : News h₀ env.locals s.heap ((l, listOf items c) :: news)) (hsz : items.size ≤ sizeLine)
    (turn : ∀ C (i : Nat) v t s₂ m₂ (E' : Value → Shared → Prop), items[i]? = some v → s₂.heap.Ns C m₂ → m₂ a = some (.int (i : Int) t) → m₂ b = some v → (∀ c o, s.heap.get? c = some o → s₂.heap.get? c = some o) →
      wpAny (model prog w) A (eval elt (compEnvC scope cl C env)) (fun y s₃ => IntV y ∧ Keeps s₂ s₃) E' s₂)
    (fin : ∀ D h tk ys, Fr h₀ env.locals h (fun z => if z = y then some (.ref D) else m z) → News h₀ env.locals h ((D, lst ys) :: (l, listOf items c) :: news) → (∀ p ∈ (l, listOf items c) :: news, p.1 < D) → ys.length = items.size → (∀ y ∈ ys, IntV y) → Q .next { s with heap := h, toks := tk }) :
    wpAny (model prog w) A (call (.type "enumerate") [.ref l]) (EnumSrc prog w A h₀ env elt a b y scope cl Q) E s := by
  have hlm := N _ (.head _)
  have hls : s.heap.IsList l items := ⟨_, hlm.1, rfl, c, rfl⟩
  have hll : l < s.heap.objs.size := Heap.lt_size hlm.1
  have hLl : env.locals < s.heap.objs.size := F.ns.lt
  refine call_enumerate_list hls fun h' he hit hsz' hk => ?_
  refine ⟨_, _, l, items, _, m, (l, listOf items c) :: news, rfl, Nat.succ_ne_self _, Nat.ne_of_lt (Nat.lt_succ_of_lt hll), Nat.ne_of_lt hll, hsz, he, hit, hls.at fun o x => hk _ o x, ⟨F.ns.keeps hk, fun b o x => hk b o (F.keep b o x), F.above⟩, fun p hp => ⟨hk _ _ (N p hp).1, (N p hp).2⟩, ?_, ?_,
    Nat.ne_of_lt (Nat.lt_succ_of_lt hLl), Nat.ne_of_lt hLl, fun p hp => ⟨Nat.ne_of_lt (Nat.lt_succ_of_lt (Heap.lt_size (N p hp).1)), Nat.ne_of_lt (Heap.lt_size (N p hp).1)⟩, ?_, ?_⟩
  · exact Heap.get?_none_of_le (Nat.le_trans F.above (Nat.le_of_lt (Nat.lt_succ_of_lt hLl)))
  · exact Heap.get?_none_of_le (Nat.le_trans F.above (Nat.le_of_lt hLl))
  · intro C i v t s₂ m₂ E' hv hn h1 h2 keep
    exact turn C i v t s₂ m₂ E' hv hn h1 h2 fun c o x => keep c o (Nat.ne_of_lt (Nat.lt_succ_of_lt (Heap.lt_size x))) (Nat.ne_of_lt (Heap.lt_size x)) (hk c o x)
  · intro D h tk ys F' N' hD hyl hyi
    exact fin D h tk ys F' N' hD hyl hyi

theorem name_B {M : Model} {K : Frag} {p : Program} {loose : List Str} {mean : ExcName → Option Value} {mg mb : Str → Option Value} {x : Str} {v : Value} {pos : Pos} {Q : Value → Shared → Prop}
    (keep : ∀ b o, h₀.get? b = some o → s.heap.get? b = some o) (X : K.In h₀) (T : Top p loose mean mg mb h₀) (e : nsIn K mainGlobals x = some none) (hv : bootBuiltins x = some v) (hn : x ≠ "__name__")
    (hk : env.scope.kind = .function) (hx : env.kindOf x = some .globalImplicit) (hg : env.globals = mainGlobals) (hb : env.builtins = builtinsNs) (h : Q v s) (hd : (x == ("__debug__" : Str)) = false := by decide) : wpAny M A (eval (.Name x pos) env) Q E s :=
  Name_function_global hk hx (loadGlobal_builtin (hg ▸ T.g.keeps keep) (mg_none_of X T.g e) (hb ▸ T.b.keeps keep) ((T.builtins x hn).trans hv) h) hd

theorem sum_any {l : Addr} {items : Array Value} {Q : Value → Shared → Prop} (hh : A.handled = none) (hl : s.heap.IsList l items) (hall : ∀ v ∈ items, IntV v)
    (h : ∀ n t h' tk, (∀ b o, s.heap.get? b = some o → h'.get? b = some o) → Q (.int n t) { s with heap := h', toks := tk }) : wpAny (model prog w) A (call (.builtin "sum") [.ref l]) Q E s := by
  obtain ⟨xs, rfl⟩ := AllInts.items (vs := items) hall
  exact sum_intListG hh hl fun h' tk t' hk => h _ t' h' tk hk
theorem Keeps.refl' (s : Shared) : Keeps s s := ⟨s.heap, s.toks, rfl, fun _ _ x => x⟩
theorem pick_ints {vs : List Value} {ns : List Int} (hI : IntsAre vs ns) (lo hi st : Option Int) : ∀ v ∈ slicePick vs.toArray lo hi st, IntV v := by
  intro v hv
  have h := IntsAre.allInts (hI.pick lo hi st)
  exact h v (by simpa using hv)
theorem paired_ints {ls ys : List Value} (h : Paired (fun _ y => IntV y) ls ys) : ∀ y ∈ ys, IntV y := by
  induction h with
  | nil => intro y hy; simp at hy
  | cons h _ ih => intro y hy; rcases List.mem_cons.mp hy with rfl | hy; exact h; exact ih y hy
theorem seven {ys : List Value} (h : ys.length = 7) (hi : ∀ y ∈ ys, IntV y) : ∃ n0 t0 n1 t1 n2 t2 n3 t3 n4 t4 n5 t5 n6 t6, ys = [.int n0 t0, .int n1 t1, .int n2 t2, .int n3 t3, .int n4 t4, .int n5 t5, .int n6 t6] := by
  match ys, h with
  | [a, b, c, d, e, f, g], _ =>
    obtain ⟨n0, t0, rfl⟩ := hi a (by simp)
    obtain ⟨n1, t1, rfl⟩ := hi b (by simp)
    obtain ⟨n2, t2, rfl⟩ := hi c (by simp)
    obtain ⟨n3, t3, rfl⟩ := hi d (by simp)
    obtain ⟨n4, t4, rfl⟩ := hi e (by simp)
    obtain ⟨n5, t5, rfl⟩ := hi f (by simp)
    obtain ⟨n6, t6, rfl⟩ := hi g (by simp)
    exact ⟨n0, t0, n1, t1, n2, t2, n3, t3, n4, t4, n5, t5, n6, t6, rfl⟩
end
end Mine
end

theorem Mine.fresh_Cn : True := by (w_top off; first | (walk1; done) | trivial)
section
open PySem PySem.W PyProof.Rows PySem.Calls PyProof.V
open PyProof.Rows.LCg
set_option Elab.async false
namespace Mine

/-- the end of one turn of a block of texts -/
def TxtEnd (h₀ : Heap) (L : Addr) (m : Str → Option Value) (s₁ : Shared) (news : List (Addr × Obj)) (y : Value) (s₂ : Shared) : Prop :=
  ∃ h' tk z t, y = .str z t ∧ z.length ≤ 20 ∧ s₂ = { s₁ with heap := h', toks := tk } ∧ Fr h₀ L h' m ∧ News h₀ L h' news

section
variable {prog : Program} {w : World} {A : Around} {E : Value → Shared → Prop} {s : Shared} {h₀ : Heap} {L : Addr} {m : Str → Option Value} {env : Env}

theorem rest_texts {elt : PySem.Expr} {x : Str} {scope : Scope} {cl : List (Str × Addr)} {S : List (Addr × Obj) → Prop} {P : Nat → Value → Prop} {Fin : List Value → List (Addr × Obj) → Prop} {news : List (Addr × Obj)} {N0 : Nat} (hS : S news)
    (turn : ∀ (i : Nat) v I oI C oC D ys m₂ h tk (E' : Value → Shared → Prop), P i v → NsObj oC m₂ → m₂ x = some v → Fr h₀ L h m → News h₀ L h ((I, oI) :: (C, oC) :: (D, lst ys) :: news) → Off3 I C D news → ((@Ne Nat I C) ∧ (@Ne Nat I D) ∧ (@Ne Nat C D)) →
      wpAny (model prog w) A (eval elt (compEnvC scope cl C env)) (TxtEnd h₀ L m { s with heap := h, toks := tk } ((I, oI) :: (C, oC) :: (D, lst ys) :: news)) E' { s with heap := h, toks := tk })
    (fin : ∀ ys zs, StrsAre ys zs → (∀ z ∈ zs, z.length ≤ 20) → zs.length = N0 → Fin ys news) :
    ∀ (n i : Nat) (ys : List Value) (zs : List Str), zs.length + n = N0 → StrsAre ys zs → (∀ z ∈ zs, z.length ≤ 20) → CompRest prog w A h₀ L m env elt x scope cl s S P Fin n i ys news := by
  intro n
  induction n with
  | zero => intro i ys zs hl hi hz; exact CompRest.zero (fin ys zs hi hz (by omega))
  | succ n ih =>
    intro i ys zs hl hi hz
    refine CompRest.succ ?_
    intro v I oI C oC D m₂ h tk E' hP hoC hx F N off ne
    refine wpAny_mono (turn i v I oI C oC D ys m₂ h tk E' hP hoC hx F N off ne) (fun y s₂ q => ?_) fun _ _ e => e
    obtain ⟨h', tk', z, t, rfl, hzl, rfl, F', N'⟩ := q
    refine CompEnd.intro F' N' news (fun p hp => hp) off hS ?_
    refine ih (i + 1) (ys ++ [.str z t]) (zs ++ [z]) (by simp; omega) (strsAre_append hi (.cons _ _ .nil)) ?_
    intro q hq
    rcases List.mem_append.mp hq with hq | hq
    · exact hz q hq
    · rw [List.mem_singleton.mp hq]; exact hzl
end
end Mine
end

theorem Mine.fresh_Lh : True := by (w_top off; first | (walk1; done) | trivial)
section
open PySem PySem.W PyProof.Rows PySem.Calls PyProof.V
set_option Elab.async false
namespace Mine

theorem join_nil_len {ls : List (List Nat)} (h : ls ≠ []) : (joinL [10] ([] :: ls)).length = 1 + (joinL [10] ls).length := by
  rw [joinL_cons h]; simp; omega
theorem join_head_len (c : Nat) (l : List Nat) (ls : List (List Nat)) : (joinL [10] ((c :: l) :: ls)).length = 1 + (joinL [10] (l :: ls)).length := by
  cases ls <;> simp [joinL] <;> omega
theorem norm_len : ∀ (x : List Nat) (pr : Bool), (joinL [10] (linesA pr x)).length ≤ x.length
  | [], _ => by simp [linesA, joinL]
  | c :: r, pr => by
    have h1 := norm_len r true
    have h2 := norm_len r false
    have n1 := join_nil_len (linesA_ne r true)
    have n2 := join_nil_len (linesA_ne r false)
    unfold linesA
    repeat' split
    all_goals simp only [List.length_cons]
    all_goals first | omega | skip
    cases hh : linesA false r with
    | nil => exact absurd hh (linesA_ne r false)
    | cons l ls =>
      rw [hh] at h2
      show (joinL [10] ((c :: l) :: ls)).length ≤ _
      rw [join_head_len]; omega
theorem heard_short {z page : Str} {e o t : Nat} (hz : z.cps.toList = (heardL (nm e) (dueL e o) o t page.cps.toList).1) : z.length ≤ 2 * page.length + 1 := by
  have h := congrArg List.length hz
  rw [Array.length_toList] at h
  have h2 : (heardL (nm e) (dueL e o) o t page.cps.toList).1 = joinL [10] ((rowsL e o page.cps.toList).map fun r => (rowL (nm e) o t r).1) := rfl
  rw [h2] at h
  have h3 := rows_sum e o page.cps.toList
  have key : ∀ ls : List (List Nat), (joinL [10] (ls.map fun r => (rowL (nm e) o t r).1)).length ≤ (ls.map (·.length)).sum + ls.length := by
    intro ls
    induction ls with
    | nil => simp [joinL]
    | cons l ls ih =>
      have := rowL_len (nm e) o t l
      cases ls with
      | nil => simp [joinL]; omega
      | cons l' ls => rw [List.map_cons, joinL_cons (by simp)]; simp at ih ⊢; omega
  have := key (rowsL e o page.cps.toList)
  rw [Array.length_toList] at h3
  show z.cps.size ≤ 2 * page.cps.size + 1
  omega
theorem quoteL_len (x : List Nat) : (quoteL x).length ≤ 4 * x.length := by
  have h1 := dotq_len (crlfA false x) true
  have h2 := crlf_len x false
  unfold quoteL
  omega
theorem quoteN_len : ∀ (t : Nat) (x : List Nat), t ≤ 3 → (quoteN t x).length ≤ 64 * x.length := by
  intro t x ht
  have h1 := quoteL_len x
  have h2 := quoteL_len (quoteL x)
  have h3 := quoteL_len (quoteL (quoteL x))
  have : t = 0 ∨ t = 1 ∨ t = 2 ∨ t = 3 := by omega
  rcases this with rfl | rfl | rfl | rfl <;> simp only [quoteN] <;> omega
theorem arrive_short {z x : Str} {e o t : Nat} (ht : t ≤ 3) (hz : z.cps.toList = arriveL (nm e) o t x.cps.toList) : z.length ≤ 384 * x.length := by
  have h := congrArg List.length hz
  rw [Array.length_toList] at h
  show z.cps.size ≤ 384 * x.cps.size
  rw [h]
  have hx : x.cps.toList.length = x.cps.size := Array.length_toList
  unfold arriveL
  split
  · have h1 := quoteN_len t (escL (nm e) x.cps.toList) ht
    have h2 := escL_short (nm_short e) x.cps.toList
    omega
  · have h1 := quoteN_len t x.cps.toList ht
    have h2 := escL_short (nm_short e) (quoteN t x.cps.toList)
    omega

theorem heard_arr {z y page : Str} {e order times : Int} (he : 0 ≤ e ∧ e < 5) (ho : 0 ≤ order ∧ order < 2) (ht : 1 ≤ times ∧ times < 4) (hy : y.cps.toList = arriveL (nm e.toNat) order.toNat times.toNat page.cps.toList)
    (hz : z.cps.toList = (heardL (nm e.toNat) (dueL e.toNat order.toNat) order.toNat times.toNat y.cps.toList).1) : z.cps.toList = normL e.toNat order.toNat page.cps.toList ∧ z.length ≤ page.length := by
  have P := (plain_law e.toNat order.toNat (times.toNat - 1) (by omega) (by omega) page.cps.toList).2.1
  have e1 : times.toNat - 1 + 1 = times.toNat := by omega
  rw [e1, ← hy] at P
  rw [P] at hz
  refine ⟨hz, ?_⟩
  have h := congrArg List.length hz
  rw [Array.length_toList] at h
  show z.cps.size ≤ page.cps.size
  rw [h]
  unfold normL
  split
  · have := norm_len page.cps.toList false
    rw [Array.length_toList] at this
    exact this
  · exact Nat.le_of_eq Array.length_toList
theorem page_sum {zs : List Str} (hz : ∀ z ∈ zs, z.length ≤ 20) : (zs.map (·.length)).sum ≤ 20 * zs.length := by
  induction zs with
  | nil => simp
  | cons z zs ih =>
    have h1 := hz z (.head _)
    have h2 := ih fun q hq => hz q (.tail _ hq)
    simp only [List.map_cons, List.sum_cons, List.length_cons]
    omega
theorem joinL_nil_len : ∀ ls : List (List Nat), (joinL [] ls).length = (ls.map (·.length)).sum
  | [] => rfl
  | [l] => by simp [joinL]
  | l :: l' :: ls => by rw [joinL, List.length_append, joinL_nil_len (l' :: ls)]; simp
theorem page_short {zs : List Str} (hz : ∀ z ∈ zs, z.length ≤ 20) (hl : zs.length = 6) : (Txt.join (Str.ofString "") zs).length ≤ 120 := by
  have h := congrArg List.length (join_list_eq (Str.ofString "") zs)
  have e0 : (Str.ofString "").cps.toList = [] := by decide +kernel
  rw [e0, joinL_nil_len, Array.length_toList, List.map_map] at h
  have h2 : (List.length ∘ fun y : Str => y.cps.toList) = fun y : Str => y.length := by funext y; simp [Str.length]
  rw [h2] at h
  have := page_sum hz
  show (Txt.join (Str.ofString "") zs).cps.size ≤ 120
  omega
theorem beq_list (x y : Str) : (x == y) = decide (x.cps.toList = y.cps.toList) := by
  rw [Bool.eq_iff_iff, beq_iff_eq, decide_eq_true_eq]
  constructor
  · intro h; rw [h]
  · intro h; exact Str.ext' (Array.toList_inj.mp h)

theorem well_true {y page : Str} {b : Bool} {e order times : Int} (he : 0 ≤ e ∧ e < 5) (ho : 0 ≤ order ∧ order < 2) (ht : 1 ≤ times ∧ times < 4) (hy : y.cps.toList = arriveL (nm e.toNat) order.toNat times.toNat page.cps.toList)
    (hb : b = (heardL (nm e.toNat) (dueL e.toNat order.toNat) order.toNat times.toNat y.cps.toList).2) : b = true := by
  have P := (plain_law e.toNat order.toNat (times.toNat - 1) (by omega) (by omega) page.cps.toList).2.1
  have e1 : times.toNat - 1 + 1 = times.toNat := by omega
  rw [e1, ← hy] at P
  rw [hb, P]
theorem fin_eq {y z u page : Str} {e order times : Int} (he : 0 ≤ e ∧ e < 5) (ho : 0 ≤ order ∧ order < 2) (ht : 1 ≤ times ∧ times < 4) (hy : y.cps.toList = arriveL (nm e.toNat) order.toNat times.toNat page.cps.toList)
    (hz : z.cps.toList = normL e.toNat order.toNat page.cps.toList) (hu : u.cps.toList = arriveL (nm e.toNat) order.toNat times.toNat z.cps.toList) : (u == y) = true := by
  have P := (plain_law e.toNat order.toNat (times.toNat - 1) (by omega) (by omega) page.cps.toList).2.2
  have e1 : times.toNat - 1 + 1 = times.toNat := by omega
  rw [e1, ← hz, ← hy, ← hu] at P
  rw [beq_list, P]; simp
theorem due_same {z page : Str} {e order : Int} (he : 0 ≤ e ∧ e < 5) (ho : 0 ≤ order ∧ order < 2) (hz : z.cps.toList = normL e.toNat order.toNat page.cps.toList) (h1 : ¬ order = 1) (h2 : ([0, 2].any fun x => x == e) = false) : (z == page) = true := by
  have h3 : e ≠ 0 ∧ e ≠ 2 := by
    simp at h2
    omega
  unfold normL at hz
  rw [if_neg (by omega)] at hz
  rw [beq_list, hz]; simp
theorem crlf_list : (Str.ofString "\r\n").cps.toList = [13, 10] := by decide +kernel
theorem cr_list : (Str.ofString "\r").cps = #[13] := by decide +kernel
theorem lf_list : (Str.ofString "\n").cps.toList = [10] := by decide +kernel
theorem due_rep {z page : Str} {e order : Int} (he : 0 ≤ e ∧ e < 5) (ho : 0 ≤ order ∧ order < 2) (hz : z.cps.toList = normL e.toNat order.toNat page.cps.toList) (h : order = 1 ∨ ([0, 2].any fun x => x == e) = true) : (z == Txt.replace (Txt.replace page (Str.ofString "\r\n") (Str.ofString "\n")) (Str.ofString "\r") (Str.ofString "\n")) = true := by
  have h3 : order.toNat = 1 ∨ e.toNat = 0 ∨ e.toNat = 2 := by
    rcases h with h | h
    · left; omega
    · simp at h
      omega
  unfold normL at hz
  rw [if_pos h3] at hz
  rw [beq_list, hz, norm_str page _ _ _ crlf_list cr_list lf_list]; simp
theorem rep_len (page : Str) : (Txt.replace page (Str.ofString "\r\n") (Str.ofString "\n")).length ≤ 2 * page.length + 1 := by
  have h := congrArg List.length (replace_gen page (Str.ofString "\r\n") (Str.ofString "\n") (by decide +kernel) (by decide +kernel))
  rw [crlf_list, lf_list, Array.length_toList] at h
  have h2 := joinL_sum [13, 10] (splitL [13, 10] page.cps.toList)
  rw [splitL_join (by simp)] at h2
  have h3 := h2.2 (by simp)
  have h1 := h2.1
  have key : ∀ ls : List (List Nat), (joinL [10] ls).length ≤ (ls.map (·.length)).sum + ls.length := by
    intro ls
    induction ls with
    | nil => simp [joinL]
    | cons l ls ih =>
      cases ls with
      | nil => simp [joinL]
      | cons l' ls => rw [joinL_cons (by simp)]; simp at ih ⊢; omega
  have := key (splitL [13, 10] page.cps.toList)
  have hq : page.cps.toList.length = page.cps.size := Array.length_toList
  show (Txt.replace page (Str.ofString "\r\n") (Str.ofString "\n")).cps.size ≤ 2 * page.cps.size + 1
  omega
/-- a sign for the walk: tokens are not to be made general -/
def NoGen : Prop := True
def LawEnd (s₁ : Shared) (f : Flow) (s' : Shared) : Prop := f = .ret (.bool true) ∧ (∀ b o, s₁.heap.get? b = some o → s'.heap.get? b = some o) ∧ s'.os = s₁.os ∧ s'.gens = s₁.gens
theorem law1 {z1 z2 page : Str} {b1 : Bool} {e order times : Int} (he : 0 ≤ e ∧ e < 5) (ho : 0 ≤ order ∧ order < 2) (ht : 1 ≤ times ∧ times < 4)
    (hz1 : z1.cps.toList = (heardL (nm e.toNat) (dueL e.toNat order.toNat) order.toNat times.toNat page.cps.toList).1) (hb1 : b1 = (heardL (nm e.toNat) (dueL e.toNat order.toNat) order.toNat times.toNat page.cps.toList).2)
    (hz2 : z2.cps.toList = arriveL (nm e.toNat) order.toNat times.toNat z1.cps.toList) : ¬ ((z2 == page) != b1) = true := by
  have P := (plain_law e.toNat order.toNat (times.toNat - 1) (by omega) (by omega) page.cps.toList).1
  have e1 : times.toNat - 1 + 1 = times.toNat := by omega
  rw [e1, ← hz1, ← hz2, ← hb1] at P
  rw [beq_list, P]
  simp
theorem law_end {s₁ s' : Shared} {L : Addr} {m : Str → Option Value} {b : Bool} (hb : b = true) (F : Fr s₁.heap L s'.heap m) (h1 : s'.os = s₁.os) (h2 : s'.gens = s₁.gens) : LawEnd s₁ (.ret (.bool b)) s' := ⟨by rw [hb], F.keep, h1, h2⟩

section
open PySem.Builtin.Str
variable {prog : Program} {w : World} {A : Around} {E : Value → Shared → Prop} {s : Shared} {x y z : Str} {t u v : Tok} {Q : Value → Shared → Prop}
/-- a replacement, and that the tokens do not go back -/
theorem replaceK (hu : u ≠ 0) (hv : v ≠ 0) (huv : u ≠ v) (hyz : (y == z) = false) (hx : x.length ≤ 1000) (hz : z.length ≤ 2)
    (hq : ∀ t' k, s.toks ≤ k → Q (.str (Txt.replace x y z) t') { s with toks := k }) : wpAny (model prog w) A (call (.builtin "str.replace") [.str x t, .str y u, .str z v]) Q E s := by
  have hm : (x.length + 1) * z.length ≤ (x.length + 1) * 2 := Nat.mul_le_mul_left _ hz
  have hlong : tooLong (x.length + (occurrences x y 0 x.length (x.length + 1)).length * z.length) = false := by
    refine decide_eq_false (Nat.not_lt.mpr (Nat.le_trans (Nat.add_le_add_left (Nat.mul_le_mul_right _ (StrLaws.occ_length_le x y 0 x.length (x.length + 1))) _) ?_))
    have hline : sizeLine = 16777216 := by decide
    omega
  have G := gives_str_replace x y z t u v fun _ => ⟨by simp [hu, hv], by simp [huv], hyz, hlong⟩
  refine call_gives F.slot_str_replace (typeIs_str _ _ _) F.entry_str_replace (F.args_str_replace_3 _ _ _) G ?_
  by_cases hc : ((occurrences x y 0 x.length (x.length + 1)).isEmpty || (y.length == 0 && z.length == 0)) = true
  · have h1 := hq t s.toks (Nat.le_refl _)
    rw [show Txt.replace x y z = x from if_pos hc] at h1
    simp only [hc, if_true]
    exact h1
  · have e := Bool.eq_false_iff.mpr hc
    have h1 : Txt.replace x y z = _ := if_neg hc
    rw [h1] at hq
    simp only [e, Bool.false_eq_true, if_false]
    exact ⟨fits_replaced y (by omega), hq _ _ (by omega)⟩
end
theorem clash_same {z page : Str} {e order : Int} (hf : (z == page) = false) (he : 0 ≤ e ∧ e < 5) (ho : 0 ≤ order ∧ order < 2) (hz : z.cps.toList = normL e.toNat order.toNat page.cps.toList) (h1 : ¬ order = 1) (h2 : ([0, 2].any fun x => x == e) = false) : False := by
  rw [due_same he ho hz h1 h2] at hf; cases hf
theorem clash_rep1 {z page : Str} {e order : Int} (hf : (z == Txt.replace (Txt.replace page (Str.ofString "\r\n") (Str.ofString "\n")) (Str.ofString "\r") (Str.ofString "\n")) = false) (he : 0 ≤ e ∧ e < 5) (ho : 0 ≤ order ∧ order < 2) (hz : z.cps.toList = normL e.toNat order.toNat page.cps.toList) (h : order = 1) : False := by
  rw [due_rep he ho hz (.inl h)] at hf; cases hf
theorem clash_rep2 {z page : Str} {e order : Int} (hf : (z == Txt.replace (Txt.replace page (Str.ofString "\r\n") (Str.ofString "\n")) (Str.ofString "\r") (Str.ofString "\n")) = false) (he : 0 ≤ e ∧ e < 5) (ho : 0 ≤ order ∧ order < 2) (hz : z.cps.toList = normL e.toNat order.toNat page.cps.toList) (h : ([0, 2].any fun x => x == e) = true) : False := by
  rw [due_rep he ho hz (.inr h)] at hf; cases hf
end Mine
end

theorem Mine.fresh_Lw0 : True := by (w_top off; first | (walk1; done) | trivial)
section
open PySem PySem.W PyProof.Rows PySem.Calls PyProof.V
set_option Elab.async false
namespace Mine
local macro_rules | `(tactic| walk_at "execs cons") => `(tactic| (k_here; (rename NoGen => hng); refine wpAny_execs_cons ?_))
local macro_rules | `(tactic| walk_at "call builtin:str.replace") => `(tactic| (k_here; k_dflt (refine' replaceK ?a ?b ?c ?d ?e ?f ?_; (case a => first | exact Nat.succ_ne_zero _ | exact Nat.pos_iff_ne_zero.mp (by omega)); (case b => exact Nat.succ_ne_zero _); (case c => exact Nat.ne_of_lt (Nat.lt_succ_self _)); (case d => decide +kernel); (case e => first | omega | exact Nat.le_trans (rep_len _) (by omega)); (case f => (rw [lf_len]; decide)); k_whole; intro t8 k8 hk8; (try dsimp only); (try dsimp only at hk8); (try k_sweep))))
local macro_rules | `(tactic| walk_at "go") => `(tactic| first | walk1 | (dsimp only; walk1))
local macro_rules | `(tactic| walk_at "call ref") => `(tactic| (k_here; k_dflt (first
  | (refine' ConH.use ?C ?B ?F ?X ?N ?T ?hk ?d ?u ?p ?_; (case B => k_asm); (case F => k_asm); (case X => k_asm); (case N => k_asm); (case T => k_asm); (case C => exact piece_c _ _ _ _ _ _ _ _ (by assumption) (by assumption) (by assumption)); (case hk => first | exact rfl | assumption); (case d => ktr_room); (case u => ktr_units); (case p => exact True.intro); k_whole; intro v8 more8 h8 tk8 hr8 F8 N8 D8; obtain ⟨hm8, z8, t8, hv8, hz8⟩ := hr8; subst hm8; subst hv8; rw [List.nil_append] at N8; (try dsimp only); (try k_sweep); (try k_fold))
  | (refine' ConH.use ?C ?B ?F ?X ?N ?T ?hk ?d ?u ?p ?_; (case B => k_asm); (case F => k_asm); (case X => k_asm); (case N => k_asm); (case T => k_asm); (case C => exact heard_c _ _ _ _ _ _ _ _ (by assumption) (by assumption) (by assumption) (by omega)); (case hk => first | exact rfl | assumption); (case d => ktr_room); (case u => ktr_units); (case p => exact True.intro); k_whole; intro v8 more8 h8 tk8 hr8 F8 N8 D8; obtain ⟨a8, z8, t8, b8, hv8, hm8, hz8, hb8⟩ := hr8; subst hm8; subst hv8; rw [List.singleton_append] at N8; (first | (have hl8 := heard_arr (by assumption) (by assumption) (by assumption) (by assumption) hz8; have hw8 := well_true (by assumption) (by assumption) (by assumption) (by assumption) hb8; subst hw8; obtain ⟨hn8, hl8⟩ := hl8) | (have hl8 := heard_short hz8)); (try dsimp only); (try k_sweep); (try k_fold))
  | (refine' ConH.use ?C ?B ?F ?X ?N ?T ?hk ?d ?u ?p ?_; (case B => k_asm); (case F => k_asm); (case X => k_asm); (case N => k_asm); (case T => k_asm); (case C => exact arrive_c _ _ _ _ _ _ _ _ (by assumption) (by assumption) (by assumption) (by omega)); (case hk => first | exact rfl | assumption); (case d => ktr_room); (case u => ktr_units); (case p => exact True.intro); k_whole; intro v8 more8 h8 tk8 hr8 F8 N8 D8; obtain ⟨hm8, z8, t8, hv8, hz8⟩ := hr8; subst hm8; subst hv8; rw [List.nil_append] at N8; (have hl8 := arrive_short (by omega) hz8); (try dsimp only); (try k_sweep); (try k_fold)))))
local macro_rules | `(tactic| walk_at "compareOp In int ref") => `(tactic| (k_here; k_dflt (refine' in_tuple_ints ?N ?I ?_; (case N => exact News.isTup (by k_asm) (.head _)); (case I => exact .cons _ _ (.cons _ _ .nil)); k_whole; (try dsimp only))))
local macro_rules | `(tactic| walk_at "gd") => `(tactic| ((first | walk1 | (dsimp only; walk1)); try dsimp only))
set_option pp.deepTerms true
set_option pp.maxSteps 20000
set_option maxRecDepth 100000 in
set_option maxHeartbeats 4000000 in
theorem lw : PySem.Challenge.rw_pe0099_01.Holds := by
  refine hd ?_
  w_strict (
    k_go0
    (all_goals try k_fold)
    rename_i h₁ tk₁ F w3 w2 w1 w0 d3 d2 d1 d0 N X0
    replace F : Fr _ _ _ (fun _ => none) := F
    replace d3 : w3.data = .cell none := d3
    replace d2 : w2.data = .cell none := d2
    replace d1 : w1.data = .cell none := d1
    replace d0 : w0.data = .cell (some (.ref _)) := d0
    rename Shared => s₁
    rename World => w
    rename Heap.IsList _ _ _ => hLs
    rename IntsAre _ _ => hI
    rename Top _ _ _ _ _ _ => T
    rename (¬ _ < _) => hlen
    have hlen' := IntsAre.length hI
    have hline : sizeLine = 16777216 := by decide
    rename Frag.In _ _ => KX
    rename Ground _ _ _ _ _ _ _ _ _ => G
    rename Heap.CodeRec _ _ _ => hcd
    rename Glob _ _ _ _ _ _ _ _ => GL
    rename ReadsAll _ _ _ _ => ra
    rename Reads _ _ _ _ => r0
    rename Well _ _ _ _ => w1x
    clear ra r0 w1x X0
    dsimp only
    refine wpAny_mono (Q := LawEnd s₁) ?_ (fun f s' hf => ?_) (fun _ _ x => x)
    rotate_left
    · obtain ⟨rfl, hkeep, hos, hgens⟩ := hf
      refine ⟨.inl ⟨_, _, [], rfl, fun _ => rfl, .bool true, (by with_unfolding_all rfl), fun _ => ⟨List.nodup_nil, fun _ hq => nomatch hq⟩⟩, hkeep, hos, hgens.trans (by assumption)⟩
    iterate 1 walk_at "go"
    refine asg_enum F rfl (by with_unfolding_all rfl) (by with_unfolding_all rfl) (by decide) rfl (by decide) rfl rfl (by decide) rfl rfl ?_
    iterate 22 walk_at "gd"
    rename Fr _ _ _ _ => F
    rename News _ _ _ _ => N
    refine call_enum F N (Nat.le_trans (Nat.le_of_eq (rfl : _ = 7)) (by decide)) ?_ ?_
    · intro C i v t s₂ m₂ E' hv hn hk hown keep
      have keep0 : ∀ b o, s₁.heap.get? b = some o → s₂.heap.get? b = some o := fun b o x => keep b o (F.keep b o x)
      have hsc : s₂.heap.IsCell (s₁.heap.objs.size + 1) (some _) := ⟨w0, keep _ _ (N (_, w0) (by k_mem)).1, d0⟩
      have hls2 := hLs.at fun o x => keep0 _ o x
      obtain ⟨n, tv, rfl⟩ : IntV v := by
        have hm := Array.mem_of_getElem? hv
        simp only [List.mem_toArray, List.mem_cons, List.not_mem_nil, or_false] at hm
        rcases hm with rfl | rfl | rfl | rfl | rfl | rfl | rfl <;> exact ⟨_, _, rfl⟩
      refine wpAny_BinOp (wpAny_Name (wpAny_loadName_local rfl rfl hn hown ?_) (by decide))
      refine Call_ (name_B keep0 KX T (by k_is) (by boot_fast) (by decide) rfl rfl rfl rfl ?_)
      refine PyProof.Rows.callWith_builtin1 ?_
      refine spliced_cons ?_
      refine wpAny_ListComp_map (fun _ => true) (fun _ y => IntV y) rfl (by decide) (by decide) rfl (by decide) rfl ?_
      refine Subscript_ (wpAny_Name (wpAny_loadName_cell rfl rfl rfl hsc ?_) (by decide))
      refine wpAny_Slice (wpAny_evalPart_some (wpAny_Name (wpAny_loadName_local rfl rfl hn hk ?_) (by decide)))
      refine wpAny_evalPart_none ?_
      refine wpAny_evalPart_some (wpAny_Constant_int ?_)
      refine subscriptTail_ops (Heap.IsList.typeIs (hls2.push _)) list_getitem_lookup (wpAny_getItem_list_slice (hls2.push _) (Heap.IsSliceOf.new ..) (.int _ _) .none (.int _ _) (by simp) ?_ ?_) (by with_unfolding_all rfl) (by intro _; with_unfolding_all rfl)
      · dsimp only
        refine ⟨_, _, rfl, ⟨_, Heap.get?_push_size _ rfl, rfl, _, rfl⟩, ?_, ?_, ?_, ?_⟩
        · exact Nat.le_trans (slicePick_size_le _ _ _ _) (by rw [List.size_toArray]; omega)
        · intro C1 v1 s3 m3 E1 _ _ _ _
          exact wpAny_tests_nil ⟨rfl, Keeps.refl' _⟩
        · intro C1 v1 s3 m3 E1 hv1 _ hn1 hx1 _
          obtain ⟨n1, t1, rfl⟩ := pick_ints hI _ _ _ v1 hv1
          refine wpAny_BinOp (wpAny_Name (wpAny_loadName_local rfl rfl hn1 hx1 ?_) (by decide))
          refine wpAny_BinOp (wpAny_Constant_int (wpAny_Constant_int ?_))
          refine pow_int_small (by decide) (by decide) (by decide) ?_
          refine mod_int' (by decide) ?_
          exact ⟨⟨_, _, rfl⟩, _, _, rfl, fun _ _ x => x⟩
        · intro D h' tk ys hD hDl hP hk3
          refine spliced_nil ?_
          refine sum_any rfl hDl (fun y hy => paired_ints hP y (by simpa using hy)) ?_
          intro n2 t2 h2 tk2 hk2
          refine add_int ?_
          exact ⟨⟨_, _, rfl⟩, _, _, rfl, fun b o x => hk2 b o (hk3 b o (Heap.get?_push_of_some _ (Heap.get?_push_of_some _ x)))⟩
      · rw [List.size_toArray]; omega
    · intro D h tk ys F1 N1 hD1 hyl hyi
      obtain ⟨n0, t0, n1, t1, n2, t2, n3, t3, n4, t4, n5, t5, n6, t6, rfl⟩ := seven hyl hyi
      clear F N
      rename_i l1
      have l4 := hD1 (_, w3) (by k_mem)
      have l3 := hD1 (_, w2) (by k_mem)
      have l2 := hD1 (_, w1) (by k_mem)
      have l1 := hD1 (_, w0) (by k_mem)
      replace F1 : Fr s₁.heap s₁.heap.objs.size h _ := F1
      replace N1 : News s₁.heap s₁.heap.objs.size h [(D, listOf #[.int n0 t0, .int n1 t1, .int n2 t2, .int n3 t3, .int n4 t4, .int n5 t5, .int n6 t6] 7), (s₁.heap.objs.size + 1 + 1 + 1 + 1, w3), (s₁.heap.objs.size + 1 + 1 + 1, w2), (s₁.heap.objs.size + 1 + 1, w1), (s₁.heap.objs.size + 1, w0)] := fun p hp => N1 p (by
        rcases List.mem_cons.mp hp with rfl | hp
        · exact .head _
        · exact .tail _ (.tail _ hp))
      clear hD1 hyl hyi
      dsimp only at l1 l2 l3 l4
      dsimp only
      iterate 10 walk_at "gd"
      rename_i F2 N2 te h2 oe F3 N3 de
      replace N3 : News s₁.heap s₁.heap.objs.size h2 [(D, listOf #[.int n0 t0, .int n1 t1, .int n2 t2, .int n3 t3, .int n4 t4, .int n5 t5, .int n6 t6] 7), (s₁.heap.objs.size + 1 + 1 + 1 + 1, w3), (s₁.heap.objs.size + 1 + 1 + 1, w2), (s₁.heap.objs.size + 1 + 1, oe), (s₁.heap.objs.size + 1, w0)] := N3
      replace de : oe.data = .cell (some (.int (n0.fmod 5) _)) := de
      obtain ⟨e, hee, he⟩ : ∃ e, n0.fmod 5 = e ∧ 0 ≤ e ∧ e < 5 := ⟨_, rfl, Int.fmod_nonneg_of_pos _ (by decide), Int.fmod_lt_of_pos _ (by decide)⟩
      rw [hee] at de
      clear F2 N2 d1
      iterate 13 walk_at "gd"
      rename_i F2 N2 _ h3 oo F3 N3 doo
      replace N3 : News s₁.heap s₁.heap.objs.size h3 [(D, listOf #[.int n0 t0, .int n1 t1, .int n2 t2, .int n3 t3, .int n4 t4, .int n5 t5, .int n6 t6] 7), (s₁.heap.objs.size + 1 + 1 + 1 + 1, w3), (s₁.heap.objs.size + 1 + 1 + 1, oo), (s₁.heap.objs.size + 1 + 1, oe), (s₁.heap.objs.size + 1, w0)] := N3
      replace doo : oo.data = .cell (some (.int ((n0.fdiv 5).fmod 2) _)) := doo
      obtain ⟨order, hoe, ho⟩ : ∃ order, (n0.fdiv 5).fmod 2 = order ∧ 0 ≤ order ∧ order < 2 := ⟨_, rfl, Int.fmod_nonneg_of_pos _ (by decide), Int.fmod_lt_of_pos _ (by decide)⟩
      rw [hoe] at doo
      clear F2 N2 d2
      iterate 16 walk_at "gd"
      rename_i F2 N2 _ h4 ot F3 N3 dt
      replace N3 : News s₁.heap s₁.heap.objs.size h4 [(D, listOf #[.int n0 t0, .int n1 t1, .int n2 t2, .int n3 t3, .int n4 t4, .int n5 t5, .int n6 t6] 7), (s₁.heap.objs.size + 1 + 1 + 1 + 1, ot), (s₁.heap.objs.size + 1 + 1 + 1, oo), (s₁.heap.objs.size + 1 + 1, oe), (s₁.heap.objs.size + 1, w0)] := N3
      replace dt : ot.data = .cell (some (.int ((n0.fdiv 10).fmod 3 + 1) _)) := dt
      obtain ⟨times, hte, ht⟩ : ∃ times, (n0.fdiv 10).fmod 3 + 1 = times ∧ 1 ≤ times ∧ times < 4 := by
        have h1 : 0 ≤ (n0.fdiv 10).fmod 3 := Int.fmod_nonneg_of_pos _ (by decide)
        have h2 : (n0.fdiv 10).fmod 3 < 3 := Int.fmod_lt_of_pos _ (by decide)
        exact ⟨_, rfl, by omega, by omega⟩
      rw [hte] at dt
      clear F2 N2 d3
      iterate 7 walk_at "gd"
      refine LCg.ListComp_U (F₀ := by k_asm) (by with_unfolding_all rfl) (by decide) (by rfl) (by decide) (by rfl) ?_
      iterate 8 walk_at "go"
      rename Fr _ _ _ _ => F5
      rename News _ _ _ _ => N5
      refine LCg.CompSrc.ledger rfl F5 N5 (.head _) (Nat.le_trans (Nat.le_of_eq (rfl : _ = 6)) (by decide)) (fun g => rest_texts (N0 := 6) (.inr ⟨_, .head _, rfl, _, rfl⟩) ?_ ?_ _ 0 [] [] rfl .nil (by simp))
      · intro i v I oI C oC D1 ys m₂ h tk E' hv hoC hx F N off ne
        obtain ⟨n, tv, rfl⟩ : IntV v := by
          have hm := Array.mem_of_getElem? hv
          simp only [List.mem_toArray, List.mem_cons, List.not_mem_nil, or_false] at hm
          rcases hm with rfl | rfl | rfl | rfl | rfl | rfl <;> exact ⟨_, _, rfl⟩
        clear hv F5 N5
        k_steps
        rename Fr _ _ _ _ => F8
        rename News _ _ _ _ => N8
        exact ⟨_, _, _, _, rfl, by assumption, rfl, F8, N8⟩
      · intro ys zs hst hz hzl D2 h tk F N off
        dsimp only
        have N' : News s₁.heap s₁.heap.objs.size h [(D2, listOf ys.toArray ys.length)] := fun p hp => N p (by rw [List.mem_singleton.mp hp]; exact .head _)
        refine spliced_nil ?_
        refine join_row N' (.head _) hst (by have := page_sum hz; have e0 : (Str.ofString "").length = 0 := by decide +kernel
                                             rw [e0]; omega) fun t' k => ?_
        have hpage := page_short hz hzl
        obtain ⟨page, hpg⟩ : ∃ page, page = Txt.join (Str.ofString "") zs := ⟨_, rfl⟩
        rw [← hpg] at hpage ⊢
        have N6 : News s₁.heap s₁.heap.objs.size h [(s₁.heap.objs.size + 1 + 1 + 1 + 1, ot), (s₁.heap.objs.size + 1 + 1 + 1, oo), (s₁.heap.objs.size + 1 + 1, oe), (s₁.heap.objs.size + 1, w0)] := fun p hp => N p (.tail _ (.tail _ (.tail _ hp)))
        have F6 : Fr s₁.heap s₁.heap.objs.size h _ := F
        clear N' N F F5 N5 off hst hz hzl hpg
        dsimp only
        iterate 50 walk_at "gd"
        rename_i z1 t1 b1 hz1 hb1 D1x hl1 hx1 hx2 hx3 h2b tk2b F2 z2 t2 hz2 N2 D2x hl2
        rw [if_neg (law1 he ho ht hz1 hb1 hz2)]
        have ng : NoGen := trivial
        k_steps
        all_goals first
          | (rename Fr _ _ _ _ => F9; exact law_end (fin_eq (page := page) he ho ht (by assumption) (by assumption) (by assumption)) F9 rfl rfl)
          | (rename ((_ == _) = false) => hf; exact (clash_same hf he ho (by assumption) (by assumption) (by assumption)).elim)
          | (rename ((_ == _) = false) => hf; exact (clash_rep1 hf he ho (by assumption) (by assumption)).elim)
          | (rename ((_ == _) = false) => hf; exact (clash_rep2 hf he ho (by assumption) (by assumption)).elim))
end Mine
end

theorem PySem.Challenge.cw_pe0099_01_holds : PySem.Challenge.rw_pe0099_01.Holds := by
  exact Mine.lw
